import JvmDerived
import JvmDerived.Pilot.@@N@@Statement
import JvmDerived.Pilot.@@N@@Code
set_option linter.unusedVariables false
set_option linter.unusedSimpArgs false
@@BLOCK:NumsL.lean.txt@@
namespace Jvm.RoadKit
open Sem ClassFile Op Lib Jvm.Stand Jvm.Free Jvm.LawKit
section New
variable {p : Program} {l : Launch} {e : Env} {R : Room} {s : State} {m : MethodId} {args : Array Value} {below : List Frame} {meth : Method} {c : Code} {T : State} {locs : List Loc} {cells slots : Nat}
theorem retI (X : Stand p l e R s m args below meth c T locs cells slots) (hx : p.tables.exec = Jvm.exec) {pc : Nat} {Ls : Array Slot} {z : Int32} {rest : List Value} (hret : meth.sig.returnType = some .int) (hd : decode c.code pc = .ok (.ireturn, 1)) {fs : List Frame}
    (hl : ∀ (f : JFrame) (acts : List Action), f.method = m → f.locked = none → f.entered = [] → (doReturn e (T.setTop f) acts (some (.int z))).1 = T.setFrames fs) : Steps p.tables e below (T.setTop (mkF m pc Ls (.int z :: rest))) (T.setFrames fs) :=
  retOut X hx hret rfl (Or.inl ⟨rfl, Or.inl rfl, z, rfl⟩) hd hl
theorem retJ (X : Stand p l e R s m args below meth c T locs cells slots) (hx : p.tables.exec = Jvm.exec) {pc : Nat} {Ls : Array Slot} {z : Int64} {rest : List Value} (hret : meth.sig.returnType = some .long) (hd : decode c.code pc = .ok (.lreturn, 1)) {fs : List Frame}
    (hl : ∀ (f : JFrame) (acts : List Action), f.method = m → f.locked = none → f.entered = [] → (doReturn e (T.setTop f) acts (some (.long z))).1 = T.setFrames fs) : Steps p.tables e below (T.setTop (mkF m pc Ls (.long z :: rest))) (T.setFrames fs) :=
  retOut X hx hret rfl (Or.inr (Or.inl ⟨rfl, rfl, z, rfl⟩)) hd hl
theorem retA (X : Stand p l e R s m args below meth c T locs cells slots) (hx : p.tables.exec = Jvm.exec) {pc : Nat} {Ls : Array Slot} {w : Value} {t : FieldType} {rest : List Value} (hret : meth.sig.returnType = some t) (ht : t.isReference = true) (hw : w.isRef = true) (hn : narrow t w = w) (hd : decode c.code pc = .ok (.areturn, 1)) {fs : List Frame}
    (hl : ∀ (f : JFrame) (acts : List Action), f.method = m → f.locked = none → f.entered = [] → (doReturn e (T.setTop f) acts (some w)).1 = T.setFrames fs) : Steps p.tables e below (T.setTop (mkF m pc Ls (w :: rest))) (T.setFrames fs) :=
  retOut X hx hret hn (Or.inr (Or.inr (Or.inr (Or.inr ⟨rfl, ht, hw⟩)))) hd hl
end New
end Jvm.RoadKit
namespace Jvm.Pilot.@@N@@
open Jvm Jvm.ClassFile Sem Op Lib Jvm.Free Jvm.Stand Jvm.LawKit Jvm.RoadKit Bundle Jvm.Pilot.@@N@@.Jvm.D
/-- the run from t ends by returning, as Q and the frame say -/
def OEnds (p : Program) (e : Env) (below : List Frame) (s : State) (Q : Option Value → Heap → List Loc → Prop) (C S : Nat) (t : State) : Prop :=
  ∃ s₂ o, Steps p.tables e below t s₂ ∧ s₂.status = .running ∧ Ended s₂ below o ∧ ∃ v L, o = .returned v ∧ Q v s₂.heap L ∧ FrameEnd s o s₂ L C S
theorem OEnds.go {p : Program} {e : Env} {below : List Frame} {s : State} {Q : Option Value → Heap → List Loc → Prop} {C S : Nat} {t t' : State} (h : ∀ u, Steps p.tables e below t' u → Steps p.tables e below t u) (k : OEnds p e below s Q C S t') : OEnds p e below s Q C S t := by
  obtain ⟨s₂, o, h1, h2⟩ := k
  exact ⟨s₂, o, h _ h1, h2⟩
theorem OEnds.cut {p : Program} {e : Env} {below : List Frame} {s : State} {Q : Option Value → Heap → List Loc → Prop} {C S : Nat} {t : State} (P : (State → Prop) → Prop) (k2 : P (OEnds p e below s Q C S)) (k1 : P (OEnds p e below s Q C S) → OEnds p e below s Q C S t) : OEnds p e below s Q C S t := k1 k2
theorem OEnds.back {p : Program} {l : Launch} {e : Env} {R : Room} {s : State} {m : MethodId} {args : Array Value} {below : List Frame} {meth : Method} {c : Code} {T : State} {locs : List Loc} {cells slots : Nat} (X : Stand p l e R s m args below meth c T locs cells slots) (hlk : meth.locks = false) {v : Option Value} (hv : meth.sig.returnType = none → v = none) {t : State} {Q : Option Value → Heap → List Loc → Prop} {C S : Nat}
    (st : ∀ fs, (∀ (f : JFrame) (acts : List Action), f.method = m → f.locked = none → f.entered = [] → (doReturn e (T.setTop f) acts v).1 = T.setFrames fs) → Steps p.tables e below t (T.setFrames fs)) (q : Q v T.heap locs) (hc : cells ≤ C) (hs : slots ≤ S) : OEnds p e below s Q C S t := by
  obtain ⟨fs, hr, hrun, hended, hW, hsame⟩ := X.leave hv hlk
  exact ⟨_, _, st fs hr, hrun, hended, _, _, rfl, q, ⟨_, rfl⟩, hW, hsame.mono hc hs⟩

theorem own_lt (x y : Int64) : lcmpW x y < 0 ↔ x < y := by rw [lcW, lc_lt]
theorem own_gt (x y : Int64) : 0 < lcmpW x y ↔ y < x := by rw [lcW, lc_gt]
theorem own_eq (x y : Int64) : lcmpW x y = 0 ↔ x = y := by rw [lcW, lc_eq]
/-- a term that equals a number, as the sheet says it -/
theorem own_eqi {args : Array Value} {s : State} {t : Term} {k : Int32} (h : (Jvm.Cond.eq t (Term.int k)).value args s none s [] = some true) : t.eval args s none [] s = some (.int k) := by
  obtain ⟨x, y, hx, hy, h1, h2⟩ := cmp_v (Or.inl h)
  have hy' : y = .int k := Option.some.inj (hy.symm.trans (Term.int_eval k))
  subst hy'
  obtain ⟨z, rfl⟩ : ∃ z, x = .int z := h2
  simp [Cond.value, hx, hy] at h
  rw [hx, h]
theorem own_fldi {args : Array Value} {s : State} {t : Term} {C n d : String} {a : Addr} {k : Int32} (ht : t.eval args s none [] s = some (.ref a)) (h : (Jvm.Cond.eq (Term.field t C n d) (Term.int k)).value args s none s [] = some true) : s.fieldOf? a C n d = some (.int k) := by
  rw [← fld_at ht]; exact own_eqi h
theorem own_ne {s : State} {C n d : String} {a b : Addr} {j k : Int32} (h1 : s.fieldOf? a C n d = some (.int j)) (h2 : s.fieldOf? b C n d = some (.int k)) (hk : j ≠ k) : a ≠ b := by
  intro e; subst e
  exact hk (Value.int.inj (Option.some.inj (h1.symm.trans h2)))

theorem own_mod (x m : Int32) (hm : 0 < m.toInt) : 0 ≤ ((x &&& 2147483647) % m).toInt ∧ ((x &&& 2147483647) % m).toInt < m.toInt := by
  have h : 0 ≤ (x &&& 2147483647).toInt := by
    rw [Jvm.Kit.i32_mask x 2147483647 (k := 31) (by decide) (by decide)]; omega
  rw [Jvm.Kit.i32_rem_nonneg h]
  exact ⟨Int.emod_nonneg _ (by omega), Int.emod_lt_of_pos _ hm⟩
theorem own_range {r : Int32} {n : Nat} (h0 : 0 ≤ r.toInt) (h1 : r.toInt < n) (hn : n ≤ 2 ^ 31) : ∃ k : Nat, k < n ∧ r = Int32.ofNat k := by
  refine ⟨r.toInt.toNat, by omega, ?_⟩
  rw [← Int32.toInt_inj, Int32.toInt_ofNat_small (by omega)]; omega


def own_pick (p : Int32) (a0 a1 a2 a3 a4 a5 : Addr) : Addr := if p = 0 then a0 else if p = 1 then a1 else if p = 2 then a2 else if p = 3 then a3 else if p = 4 then a4 else a5
def own_doc (p : Int32) : Int32 := if p = 0 then 10 else if p = 1 then 15 else if p = 2 then 20 else if p = 3 then 30 else if p = 4 then 40 else 50
def own_ge (a b : Int32) : Int32 := if a < b then 0 else 1
theorem own_pick_exa {Z : State} {h : Heap} {C : String} {a0 a1 a2 a3 a4 a5 : Addr} (p : Int32) (h0 : Exa Z h a0 C) (h1 : Exa Z h a1 C) (h2 : Exa Z h a2 C) (h3 : Exa Z h a3 C) (h4 : Exa Z h a4 C) (h5 : Exa Z h a5 C) : Exa Z h (own_pick p a0 a1 a2 a3 a4 a5) C := by
  unfold own_pick
  repeat' split
  all_goals assumption
theorem own_pick_fld {Z : State} {h : Heap} {C n d : String} {a0 a1 a2 a3 a4 a5 : Addr} (p : Int32) (h0 : Fld Z h a0 C n d (.int 10)) (h1 : Fld Z h a1 C n d (.int 15)) (h2 : Fld Z h a2 C n d (.int 20)) (h3 : Fld Z h a3 C n d (.int 30)) (h4 : Fld Z h a4 C n d (.int 40)) (h5 : Fld Z h a5 C n d (.int 50)) : Fld Z h (own_pick p a0 a1 a2 a3 a4 a5) C n d (.int (own_doc p)) := by
  unfold own_pick own_doc
  repeat' split
  all_goals assumption
theorem own_dec : ∀ i : Nat, i < 6 → ∀ j : Nat, j < 6 → own_ge (own_doc (Int32.ofNat i)) (own_doc (Int32.ofNat j)) = own_ge (Int32.ofNat i) (Int32.ofNat j) := by decide +kernel
theorem own_law {i j : Int32} (hi : 0 ≤ i.toInt ∧ i.toInt < (6 : Int32).toInt) (hj : 0 ≤ j.toInt ∧ j.toInt < (6 : Int32).toInt) : own_ge (own_doc i) (own_doc j) = own_ge i j := by
  have e : (6 : Int32).toInt = 6 := rfl
  obtain ⟨k, hk, rfl⟩ := own_range (n := 6) hi.1 (by omega) (by decide)
  obtain ⟨k', hk', rfl⟩ := own_range (n := 6) hj.1 (by omega) (by decide)
  exact own_dec k hk k' hk'

theorem d1_0 : decode method_2_code 0 = .ok (.iload_n 0, 1) := by decide +kernel
theorem d1_1 : decode method_2_code 1 = .ok (.ifCond .ne 7, 3) := by decide +kernel
theorem d1_4 : decode method_2_code 4 = .ok (.getstatic 7, 3) := by decide +kernel
theorem d1_7 : decode method_2_code 7 = .ok (.areturn, 1) := by decide +kernel
theorem d1_8 : decode method_2_code 8 = .ok (.iload_n 0, 1) := by decide +kernel
theorem d1_9 : decode method_2_code 9 = .ok (.iconst 1, 1) := by decide +kernel
theorem d1_10 : decode method_2_code 10 = .ok (.if_icmp .ne 7, 3) := by decide +kernel
theorem d1_13 : decode method_2_code 13 = .ok (.getstatic 13, 3) := by decide +kernel
theorem d1_16 : decode method_2_code 16 = .ok (.areturn, 1) := by decide +kernel
theorem d1_17 : decode method_2_code 17 = .ok (.iload_n 0, 1) := by decide +kernel
theorem d1_18 : decode method_2_code 18 = .ok (.iconst 2, 1) := by decide +kernel
theorem d1_19 : decode method_2_code 19 = .ok (.if_icmp .ne 7, 3) := by decide +kernel
theorem d1_22 : decode method_2_code 22 = .ok (.getstatic 16, 3) := by decide +kernel
theorem d1_25 : decode method_2_code 25 = .ok (.areturn, 1) := by decide +kernel
theorem d1_26 : decode method_2_code 26 = .ok (.iload_n 0, 1) := by decide +kernel
theorem d1_27 : decode method_2_code 27 = .ok (.iconst 3, 1) := by decide +kernel
theorem d1_28 : decode method_2_code 28 = .ok (.if_icmp .ne 7, 3) := by decide +kernel
theorem d1_31 : decode method_2_code 31 = .ok (.getstatic 19, 3) := by decide +kernel
theorem d1_34 : decode method_2_code 34 = .ok (.areturn, 1) := by decide +kernel
theorem d1_35 : decode method_2_code 35 = .ok (.iload_n 0, 1) := by decide +kernel
theorem d1_36 : decode method_2_code 36 = .ok (.iconst 4, 1) := by decide +kernel
theorem d1_37 : decode method_2_code 37 = .ok (.if_icmp .ne 7, 3) := by decide +kernel
theorem d1_40 : decode method_2_code 40 = .ok (.getstatic 22, 3) := by decide +kernel
theorem d1_43 : decode method_2_code 43 = .ok (.areturn, 1) := by decide +kernel
theorem d1_44 : decode method_2_code 44 = .ok (.getstatic 25, 3) := by decide +kernel
theorem d1_47 : decode method_2_code 47 = .ok (.areturn, 1) := by decide +kernel
theorem pn_1 : plainName "com/example/token_mint/tokenmint/model/AccessLevelIsAtLeastPinLaw" = true := by first | (simp [plainName, overriddenIn]; done) | decide +kernel
theorem ef_rm1 (m : MethodId) (p1 : Int32) : entryFrame m #[(.int p1)] 1 = mkF m 0 #[.val (.int p1)] [] := by first | (simp [entryFrame, mkF, argsToLocals, Value.category]; done) | rfl
def Q1 (Z : State) (p1 : Int32) (a00 : Addr) (a1 : Addr) (a2 : Addr) (a3 : Addr) (a4 : Addr) (a5 : Addr) (h0 : Heap) (n0 : Nat) (v : Option Value) (h : Heap) (L : List Loc) : Prop := v = some (.ref (own_pick p1 a00 a1 a2 a3 a4 a5)) ∧ Fr n0 L ∧ h = h0
set_option maxRecDepth 65536 in
set_option maxHeartbeats 40000000 in
theorem rm1 (l : Launch) (Z : State) (a0 : Array Value) (hw : ∀ d ∈ tables_1, d.before a0 Z = true) (ws : List Jvm.Cond) (p1 : Int32) (a00 : Addr) (a1 : Addr) (a2 : Addr) (a3 : Addr) (a4 : Addr) (a5 : Addr) (h0 : Heap) (n0 : Nat) (Z0 : n0 ≤ h0.size) (S_GUEST : Sta Z h0 "com/example/token_mint/tokenmint/model/AccessLevel" "GUEST" "Lcom/example/token_mint/tokenmint/model/AccessLevel;" (.ref a00)) (S_PLANNER : Sta Z h0 "com/example/token_mint/tokenmint/model/AccessLevel" "PLANNER" "Lcom/example/token_mint/tokenmint/model/AccessLevel;" (.ref a1)) (S_REPORTER : Sta Z h0 "com/example/token_mint/tokenmint/model/AccessLevel" "REPORTER" "Lcom/example/token_mint/tokenmint/model/AccessLevel;" (.ref a2)) (S_DEVELOPER : Sta Z h0 "com/example/token_mint/tokenmint/model/AccessLevel" "DEVELOPER" "Lcom/example/token_mint/tokenmint/model/AccessLevel;" (.ref a3)) (S_MAINTAINER : Sta Z h0 "com/example/token_mint/tokenmint/model/AccessLevel" "MAINTAINER" "Lcom/example/token_mint/tokenmint/model/AccessLevel;" (.ref a4)) (S_OWNER : Sta Z h0 "com/example/token_mint/tokenmint/model/AccessLevel" "OWNER" "Lcom/example/token_mint/tokenmint/model/AccessLevel;" (.ref a5)) :
    MetFree l (⟨"com/example/token_mint/tokenmint/model/AccessLevelIsAtLeastPinLaw", "pick", "(I)Lcom/example/token_mint/tokenmint/model/AccessLevel;"⟩ : MethodName) (head1 (Jvm.Cond.code (⟨"com/example/token_mint/tokenmint/model/AccessLevelIsAtLeastPinLaw", "pick", "(I)Lcom/example/token_mint/tokenmint/model/AccessLevel;"⟩ : MethodName) method_2_code 1 (some (.object "com/example/token_mint/tokenmint/model/AccessLevel")) :: ws) ({ frames := 0, cells := 0, slots := 0, locals := 0 } : Room)) (fun a U => a = #[(.int p1)] ∧ Z.Warmed39 U.vm ∧ U.heap = h0) (fun _ _ _ _ _ => True) (fun _ U o U' => ∃ v L, o = .returned v ∧ Q1 Z p1 a00 a1 a2 a3 a4 a5 h0 n0 v U'.heap L ∧ FrameEnd U o U' L ({ frames := 0, cells := 0, slots := 0, locals := 0 } : Room).cells ({ frames := 0, cells := 0, slots := 0, locals := 0 } : Room).slots) := by
  refine MetFree.of_bodySF (plainFor_of_name pn_1) hisR ?_
  intro p e s m args below meth c s₁ Bd hml0 hP hK
  obtain ⟨rfl, hZ, hh⟩ := hP
  have hx := Bd.exec
  have hby := Bd.bytes
  have hml : c.maxLocals = 1 := hml0
  have hown : s.vm.findClass "com/example/token_mint/tokenmint/model/AccessLevelIsAtLeastPinLaw" = some m.cls := findClass_of_methodNamed Bd.named
  have hnm := (name_of_methodNamed Bd.named Bd.method).1
  have hlk := BodyLoose.notSynchronized Bd
  have hrt := Bd.returns
  have X0 : Stand p l e ({ frames := 0, cells := 0, slots := 0, locals := 0 } : Room) s m #[(.int p1)] below meth c s₁ [] 0 0 := Stand.of_body Bd
  have e0 : s₁.heap = h0 := by rw [← hh, Bd.state]; rfl
  have N0 := Fr.nil n0
  show OEnds p e below s (Q1 Z p1 a00 a1 a2 a3 a4 a5 h0 n0) ({ frames := 0, cells := 0, slots := 0, locals := 0 } : Room).cells ({ frames := 0, cells := 0, slots := 0, locals := 0 } : Room).slots (s₁.setTop (entryFrame m #[(.int p1)] 1))
  refine OEnds.go (t' := s₁.setTop (mkF m 0 #[.val (.int p1)] [])) (fun t k => castTop (ef_rm1 m p1) k) ?_
  refine OEnds.go (t' := s₁.setTop (mkF m 1 #[.val (.int p1)] [(.int p1)])) (fun _ k => ?_) ?_
  · show Steps p.tables e below (s₁.setTop (mkF m 0 #[.val (.int p1)] [])) _
    refine XS.iloadN X0.here hx rfl (hb hby d1_0) rfl ?_
    show Steps p.tables e below (s₁.setTop (mkF m 1 #[.val (.int p1)] [(.int p1)])) _
    exact k
  by_cases q0 : p1 = (0 : Int32)
  · refine OEnds.go (t' := s₁.setTop (mkF m 4 #[.val (.int p1)] [])) (fun _ k => XS.ifNo X0.here hx rfl (hb hby d1_1) rfl ((if0 _ _).trans (teq q0).2) k) ?_
    obtain ⟨T1, X1, e1, st1⟩ := getS2 X0 hx hZ hown (host := "") (Or.inl (hw _ (List.mem_of_getElem? (i := 5) rfl))) Via.refl e0 S_GUEST (g := (mkF m 4 #[.val (.int p1)] [])) rfl (hb hby d1_4)
    refine OEnds.go (t' := T1.setTop (mkF m 7 #[.val (.int p1)] [(.ref a00)])) (fun _ k => st1 _ k) ?_
    refine OEnds.back X1 hlk (v := (some (.ref a00))) (fun h => by rw [hrt] at h; cases h) (fun fs hr => ?_) ?_ (by decide) (by decide)
    · exact retA X1 hx hrt rfl rfl rfl (hb hby d1_7) hr
    · show Q1 Z p1 a00 a1 a2 a3 a4 a5 h0 n0 _ T1.heap _
      rw [e1]
      exact ⟨by rw [own_pick, if_pos q0], N0, rfl⟩
  · refine OEnds.go (t' := s₁.setTop (mkF m 8 #[.val (.int p1)] [])) (fun _ k => XS.ifYes X0.here hx rfl (pc0 := 1) (pc' := 8) rfl (hb hby d1_1) rfl ((if0 _ _).trans (feq q0).2) (by decide) (by decide) k) ?_
    refine OEnds.go (t' := s₁.setTop (mkF m 10 #[.val (.int p1)] [(.int (1 : Int32)), (.int p1)])) (fun _ k => ?_) ?_
    · show Steps p.tables e below (s₁.setTop (mkF m 8 #[.val (.int p1)] [])) _
      refine XS.iloadN X0.here hx rfl (hb hby d1_8) rfl ?_
      show Steps p.tables e below (s₁.setTop (mkF m 9 #[.val (.int p1)] [(.int p1)])) _
      refine XS.iconst X0.here hx rfl (hb hby d1_9) ?_
      show Steps p.tables e below (s₁.setTop (mkF m 10 #[.val (.int p1)] [(.int (1 : Int32)), (.int p1)])) _
      exact k
    by_cases q1 : p1 = (1 : Int32)
    · refine OEnds.go (t' := s₁.setTop (mkF m 13 #[.val (.int p1)] [])) (fun _ k => XS.icmpNo X0.here hx rfl (hb hby d1_10) rfl (teq q1).2 k) ?_
      obtain ⟨T2, X2, e2, st2⟩ := getS2 X0 hx hZ hown (host := "") (Or.inl (hw _ (List.mem_of_getElem? (i := 22) rfl))) Via.refl e0 S_PLANNER (g := (mkF m 13 #[.val (.int p1)] [])) rfl (hb hby d1_13)
      refine OEnds.go (t' := T2.setTop (mkF m 16 #[.val (.int p1)] [(.ref a1)])) (fun _ k => st2 _ k) ?_
      refine OEnds.back X2 hlk (v := (some (.ref a1))) (fun h => by rw [hrt] at h; cases h) (fun fs hr => ?_) ?_ (by decide) (by decide)
      · exact retA X2 hx hrt rfl rfl rfl (hb hby d1_16) hr
      · show Q1 Z p1 a00 a1 a2 a3 a4 a5 h0 n0 _ T2.heap _
        rw [e2]
        exact ⟨by rw [own_pick, if_neg q0, if_pos q1], N0, rfl⟩
    · refine OEnds.go (t' := s₁.setTop (mkF m 17 #[.val (.int p1)] [])) (fun _ k => XS.icmpYes X0.here hx rfl (pc0 := 10) (pc' := 17) rfl (hb hby d1_10) rfl (feq q1).2 (by decide) (by decide) k) ?_
      refine OEnds.go (t' := s₁.setTop (mkF m 19 #[.val (.int p1)] [(.int (2 : Int32)), (.int p1)])) (fun _ k => ?_) ?_
      · show Steps p.tables e below (s₁.setTop (mkF m 17 #[.val (.int p1)] [])) _
        refine XS.iloadN X0.here hx rfl (hb hby d1_17) rfl ?_
        show Steps p.tables e below (s₁.setTop (mkF m 18 #[.val (.int p1)] [(.int p1)])) _
        refine XS.iconst X0.here hx rfl (hb hby d1_18) ?_
        show Steps p.tables e below (s₁.setTop (mkF m 19 #[.val (.int p1)] [(.int (2 : Int32)), (.int p1)])) _
        exact k
      by_cases q2 : p1 = (2 : Int32)
      · refine OEnds.go (t' := s₁.setTop (mkF m 22 #[.val (.int p1)] [])) (fun _ k => XS.icmpNo X0.here hx rfl (hb hby d1_19) rfl (teq q2).2 k) ?_
        obtain ⟨T3, X3, e3, st3⟩ := getS2 X0 hx hZ hown (host := "") (Or.inl (hw _ (List.mem_of_getElem? (i := 20) rfl))) Via.refl e0 S_REPORTER (g := (mkF m 22 #[.val (.int p1)] [])) rfl (hb hby d1_22)
        refine OEnds.go (t' := T3.setTop (mkF m 25 #[.val (.int p1)] [(.ref a2)])) (fun _ k => st3 _ k) ?_
        refine OEnds.back X3 hlk (v := (some (.ref a2))) (fun h => by rw [hrt] at h; cases h) (fun fs hr => ?_) ?_ (by decide) (by decide)
        · exact retA X3 hx hrt rfl rfl rfl (hb hby d1_25) hr
        · show Q1 Z p1 a00 a1 a2 a3 a4 a5 h0 n0 _ T3.heap _
          rw [e3]
          exact ⟨by rw [own_pick, if_neg q0, if_neg q1, if_pos q2], N0, rfl⟩
      · refine OEnds.go (t' := s₁.setTop (mkF m 26 #[.val (.int p1)] [])) (fun _ k => XS.icmpYes X0.here hx rfl (pc0 := 19) (pc' := 26) rfl (hb hby d1_19) rfl (feq q2).2 (by decide) (by decide) k) ?_
        refine OEnds.go (t' := s₁.setTop (mkF m 28 #[.val (.int p1)] [(.int (3 : Int32)), (.int p1)])) (fun _ k => ?_) ?_
        · show Steps p.tables e below (s₁.setTop (mkF m 26 #[.val (.int p1)] [])) _
          refine XS.iloadN X0.here hx rfl (hb hby d1_26) rfl ?_
          show Steps p.tables e below (s₁.setTop (mkF m 27 #[.val (.int p1)] [(.int p1)])) _
          refine XS.iconst X0.here hx rfl (hb hby d1_27) ?_
          show Steps p.tables e below (s₁.setTop (mkF m 28 #[.val (.int p1)] [(.int (3 : Int32)), (.int p1)])) _
          exact k
        by_cases q3 : p1 = (3 : Int32)
        · refine OEnds.go (t' := s₁.setTop (mkF m 31 #[.val (.int p1)] [])) (fun _ k => XS.icmpNo X0.here hx rfl (hb hby d1_28) rfl (teq q3).2 k) ?_
          obtain ⟨T4, X4, e4, st4⟩ := getS2 X0 hx hZ hown (host := "") (Or.inl (hw _ (List.mem_of_getElem? (i := 8) rfl))) Via.refl e0 S_DEVELOPER (g := (mkF m 31 #[.val (.int p1)] [])) rfl (hb hby d1_31)
          refine OEnds.go (t' := T4.setTop (mkF m 34 #[.val (.int p1)] [(.ref a3)])) (fun _ k => st4 _ k) ?_
          refine OEnds.back X4 hlk (v := (some (.ref a3))) (fun h => by rw [hrt] at h; cases h) (fun fs hr => ?_) ?_ (by decide) (by decide)
          · exact retA X4 hx hrt rfl rfl rfl (hb hby d1_34) hr
          · show Q1 Z p1 a00 a1 a2 a3 a4 a5 h0 n0 _ T4.heap _
            rw [e4]
            exact ⟨by rw [own_pick, if_neg q0, if_neg q1, if_neg q2, if_pos q3], N0, rfl⟩
        · refine OEnds.go (t' := s₁.setTop (mkF m 35 #[.val (.int p1)] [])) (fun _ k => XS.icmpYes X0.here hx rfl (pc0 := 28) (pc' := 35) rfl (hb hby d1_28) rfl (feq q3).2 (by decide) (by decide) k) ?_
          refine OEnds.go (t' := s₁.setTop (mkF m 37 #[.val (.int p1)] [(.int (4 : Int32)), (.int p1)])) (fun _ k => ?_) ?_
          · show Steps p.tables e below (s₁.setTop (mkF m 35 #[.val (.int p1)] [])) _
            refine XS.iloadN X0.here hx rfl (hb hby d1_35) rfl ?_
            show Steps p.tables e below (s₁.setTop (mkF m 36 #[.val (.int p1)] [(.int p1)])) _
            refine XS.iconst X0.here hx rfl (hb hby d1_36) ?_
            show Steps p.tables e below (s₁.setTop (mkF m 37 #[.val (.int p1)] [(.int (4 : Int32)), (.int p1)])) _
            exact k
          by_cases q4 : p1 = (4 : Int32)
          · refine OEnds.go (t' := s₁.setTop (mkF m 40 #[.val (.int p1)] [])) (fun _ k => XS.icmpNo X0.here hx rfl (hb hby d1_37) rfl (teq q4).2 k) ?_
            obtain ⟨T5, X5, e5, st5⟩ := getS2 X0 hx hZ hown (host := "") (Or.inl (hw _ (List.mem_of_getElem? (i := 26) rfl))) Via.refl e0 S_MAINTAINER (g := (mkF m 40 #[.val (.int p1)] [])) rfl (hb hby d1_40)
            refine OEnds.go (t' := T5.setTop (mkF m 43 #[.val (.int p1)] [(.ref a4)])) (fun _ k => st5 _ k) ?_
            refine OEnds.back X5 hlk (v := (some (.ref a4))) (fun h => by rw [hrt] at h; cases h) (fun fs hr => ?_) ?_ (by decide) (by decide)
            · exact retA X5 hx hrt rfl rfl rfl (hb hby d1_43) hr
            · show Q1 Z p1 a00 a1 a2 a3 a4 a5 h0 n0 _ T5.heap _
              rw [e5]
              exact ⟨by rw [own_pick, if_neg q0, if_neg q1, if_neg q2, if_neg q3, if_pos q4], N0, rfl⟩
          · refine OEnds.go (t' := s₁.setTop (mkF m 44 #[.val (.int p1)] [])) (fun _ k => XS.icmpYes X0.here hx rfl (pc0 := 37) (pc' := 44) rfl (hb hby d1_37) rfl (feq q4).2 (by decide) (by decide) k) ?_
            obtain ⟨T6, X6, e6, st6⟩ := getS2 X0 hx hZ hown (host := "") (Or.inl (hw _ (List.mem_of_getElem? (i := 24) rfl))) Via.refl e0 S_OWNER (g := (mkF m 44 #[.val (.int p1)] [])) rfl (hb hby d1_44)
            refine OEnds.go (t' := T6.setTop (mkF m 47 #[.val (.int p1)] [(.ref a5)])) (fun _ k => st6 _ k) ?_
            refine OEnds.back X6 hlk (v := (some (.ref a5))) (fun h => by rw [hrt] at h; cases h) (fun fs hr => ?_) ?_ (by decide) (by decide)
            · exact retA X6 hx hrt rfl rfl rfl (hb hby d1_47) hr
            · show Q1 Z p1 a00 a1 a2 a3 a4 a5 h0 n0 _ T6.heap _
              rw [e6]
              exact ⟨by rw [own_pick, if_neg q0, if_neg q1, if_neg q2, if_neg q3, if_neg q4], N0, rfl⟩
theorem d2_0 : decode prog_11_method_5_code 0 = .ok (.aload_n 0, 1) := by decide +kernel
theorem d2_1 : decode prog_11_method_5_code 1 = .ok (.getfield 41, 3) := by decide +kernel
theorem d2_4 : decode prog_11_method_5_code 4 = .ok (.aload_n 1, 1) := by decide +kernel
theorem d2_5 : decode prog_11_method_5_code 5 = .ok (.getfield 41, 3) := by decide +kernel
theorem d2_8 : decode prog_11_method_5_code 8 = .ok (.if_icmp .lt 7, 3) := by decide +kernel
theorem d2_11 : decode prog_11_method_5_code 11 = .ok (.iconst 1, 1) := by decide +kernel
theorem d2_12 : decode prog_11_method_5_code 12 = .ok (.goto 4, 3) := by decide +kernel
theorem d2_15 : decode prog_11_method_5_code 15 = .ok (.iconst 0, 1) := by decide +kernel
theorem d2_16 : decode prog_11_method_5_code 16 = .ok (.ireturn, 1) := by decide +kernel
theorem pn_2 : plainName "com/example/token_mint/tokenmint/model/AccessLevel" = true := by first | (simp [plainName, overriddenIn]; done) | decide +kernel
theorem ef_rm2 (m : MethodId) (b1 : Addr) (b2 : Addr) : entryFrame m #[(.ref b1), (.ref b2)] 2 = mkF m 0 #[.val (.ref b1), .val (.ref b2)] [] := by first | (simp [entryFrame, mkF, argsToLocals, Value.category]; done) | rfl
def Q2 (Z : State) (b1 : Addr) (b2 : Addr) (v1 : Int32) (v2 : Int32) (h0 : Heap) (n0 : Nat) (v : Option Value) (h : Heap) (L : List Loc) : Prop := v = some (.int (own_ge v1 v2)) ∧ Fr n0 L ∧ h = h0
set_option maxRecDepth 65536 in
set_option maxHeartbeats 40000000 in
theorem rm2 (l : Launch) (Z : State) (a0 : Array Value) (hw : ∀ d ∈ tables_1, d.before a0 Z = true) (ws : List Jvm.Cond) (b1 : Addr) (b2 : Addr) (v1 : Int32) (v2 : Int32) (h0 : Heap) (n0 : Nat) (Z0 : n0 ≤ h0.size) (F1 : Fld Z h0 b1 "com/example/token_mint/tokenmint/model/AccessLevel" "value" "I" (.int v1)) (F2 : Fld Z h0 b2 "com/example/token_mint/tokenmint/model/AccessLevel" "value" "I" (.int v2)) :
    MetFree l (⟨"com/example/token_mint/tokenmint/model/AccessLevel", "isAtLeast", "(Lcom/example/token_mint/tokenmint/model/AccessLevel;)Z"⟩ : MethodName) (head1 (Jvm.Cond.code (⟨"com/example/token_mint/tokenmint/model/AccessLevel", "isAtLeast", "(Lcom/example/token_mint/tokenmint/model/AccessLevel;)Z"⟩ : MethodName) prog_11_method_5_code 2 (some .boolean) :: ws) ({ frames := 0, cells := 0, slots := 0, locals := 0 } : Room)) (fun a U => a = #[(.ref b1), (.ref b2)] ∧ Z.Warmed39 U.vm ∧ U.heap = h0) (fun _ _ _ _ _ => True) (fun _ U o U' => ∃ v L, o = .returned v ∧ Q2 Z b1 b2 v1 v2 h0 n0 v U'.heap L ∧ FrameEnd U o U' L ({ frames := 0, cells := 0, slots := 0, locals := 0 } : Room).cells ({ frames := 0, cells := 0, slots := 0, locals := 0 } : Room).slots) := by
  refine MetFree.of_bodySF (plainFor_of_name pn_2) hisR ?_
  intro p e s m args below meth c s₁ Bd hml0 hP hK
  obtain ⟨rfl, hZ, hh⟩ := hP
  have hx := Bd.exec
  have hby := Bd.bytes
  have hml : c.maxLocals = 2 := hml0
  have hown : s.vm.findClass "com/example/token_mint/tokenmint/model/AccessLevel" = some m.cls := findClass_of_methodNamed Bd.named
  have hnm := (name_of_methodNamed Bd.named Bd.method).1
  have hlk := BodyLoose.notSynchronized Bd
  have hrt := Bd.returns
  have X0 : Stand p l e ({ frames := 0, cells := 0, slots := 0, locals := 0 } : Room) s m #[(.ref b1), (.ref b2)] below meth c s₁ [] 0 0 := Stand.of_body Bd
  have e0 : s₁.heap = h0 := by rw [← hh, Bd.state]; rfl
  have N0 := Fr.nil n0
  show OEnds p e below s (Q2 Z b1 b2 v1 v2 h0 n0) ({ frames := 0, cells := 0, slots := 0, locals := 0 } : Room).cells ({ frames := 0, cells := 0, slots := 0, locals := 0 } : Room).slots (s₁.setTop (entryFrame m #[(.ref b1), (.ref b2)] 2))
  refine OEnds.go (t' := s₁.setTop (mkF m 0 #[.val (.ref b1), .val (.ref b2)] [])) (fun t k => castTop (ef_rm2 m b1 b2) k) ?_
  refine OEnds.go (t' := s₁.setTop (mkF m 1 #[.val (.ref b1), .val (.ref b2)] [(.ref b1)])) (fun _ k => ?_) ?_
  · show Steps p.tables e below (s₁.setTop (mkF m 0 #[.val (.ref b1), .val (.ref b2)] [])) _
    refine XS.aloadN X0.here hx rfl (hb hby d2_0) rfl rfl ?_
    show Steps p.tables e below (s₁.setTop (mkF m 1 #[.val (.ref b1), .val (.ref b2)] [(.ref b1)])) _
    exact k
  obtain ⟨T1, X1, e1, st1⟩ := getF X0 hx hZ hown (host := "") (Or.inl (hw _ (List.mem_of_getElem? (i := 15) rfl))) Via.refl e0 F1 (g := (mkF m 1 #[.val (.ref b1), .val (.ref b2)] [(.ref b1)])) rfl rfl (hb hby d2_1)
  refine OEnds.go (t' := T1.setTop (mkF m 4 #[.val (.ref b1), .val (.ref b2)] [(.int v1)])) (fun _ k => st1 _ k) ?_
  refine OEnds.go (t' := T1.setTop (mkF m 5 #[.val (.ref b1), .val (.ref b2)] [(.ref b2), (.int v1)])) (fun _ k => ?_) ?_
  · show Steps p.tables e below (T1.setTop (mkF m 4 #[.val (.ref b1), .val (.ref b2)] [(.int v1)])) _
    refine XS.aloadN X1.here hx rfl (hb hby d2_4) rfl rfl ?_
    show Steps p.tables e below (T1.setTop (mkF m 5 #[.val (.ref b1), .val (.ref b2)] [(.ref b2), (.int v1)])) _
    exact k
  obtain ⟨T2, X2, e2, st2⟩ := getF X1 hx hZ hown (host := "") (Or.inl (hw _ (List.mem_of_getElem? (i := 15) rfl))) Via.refl e1 F2 (g := (mkF m 5 #[.val (.ref b1), .val (.ref b2)] [(.ref b2), (.int v1)])) rfl rfl (hb hby d2_5)
  refine OEnds.go (t' := T2.setTop (mkF m 8 #[.val (.ref b1), .val (.ref b2)] [(.int v2), (.int v1)])) (fun _ k => st2 _ k) ?_
  by_cases h8 : v1 < v2
  · refine OEnds.go (t' := T2.setTop (mkF m 15 #[.val (.ref b1), .val (.ref b2)] [])) (fun _ k => XS.icmpYes X2.here hx rfl (pc0 := 8) (pc' := 15) rfl (hb hby d2_8) rfl (tlt h8).1 (by decide) (by decide) k) ?_
    refine OEnds.go (t' := T2.setTop (mkF m 16 #[.val (.ref b1), .val (.ref b2)] [(.int (0 : Int32))])) (fun _ k => ?_) ?_
    · show Steps p.tables e below (T2.setTop (mkF m 15 #[.val (.ref b1), .val (.ref b2)] [])) _
      refine XS.iconst X2.here hx rfl (hb hby d2_15) ?_
      show Steps p.tables e below (T2.setTop (mkF m 16 #[.val (.ref b1), .val (.ref b2)] [(.int (0 : Int32))])) _
      exact k
    refine OEnds.back X2 hlk (v := (some (.int (0 : Int32)))) (fun h => by rw [hrt] at h; cases h) (fun fs hr => ?_) ?_ (by decide) (by decide)
    · exact retN X2 hx (t := .boolean) hrt (by simp) (hb hby d2_16) hr
    · show Q2 Z b1 b2 v1 v2 h0 n0 _ T2.heap _
      rw [e2]
      exact ⟨by rw [own_ge, if_pos h8], N0, rfl⟩
  · refine OEnds.go (t' := T2.setTop (mkF m 11 #[.val (.ref b1), .val (.ref b2)] [])) (fun _ k => XS.icmpNo X2.here hx rfl (hb hby d2_8) rfl (flt h8).1 k) ?_
    refine OEnds.go (t' := T2.setTop (mkF m 16 #[.val (.ref b1), .val (.ref b2)] [(.int (1 : Int32))])) (fun _ k => ?_) ?_
    · show Steps p.tables e below (T2.setTop (mkF m 11 #[.val (.ref b1), .val (.ref b2)] [])) _
      refine XS.iconst X2.here hx rfl (hb hby d2_11) ?_
      show Steps p.tables e below (T2.setTop (mkF m 12 #[.val (.ref b1), .val (.ref b2)] [(.int (1 : Int32))])) _
      refine XS.goto X2.here hx rfl (pc0 := 12) (pc' := 16) rfl (hb hby d2_12) (by decide) (by decide) ?_
      show Steps p.tables e below (T2.setTop (mkF m 16 #[.val (.ref b1), .val (.ref b2)] [(.int (1 : Int32))])) _
      exact k
    refine OEnds.back X2 hlk (v := (some (.int (1 : Int32)))) (fun h => by rw [hrt] at h; cases h) (fun fs hr => ?_) ?_ (by decide) (by decide)
    · exact retN X2 hx (t := .boolean) hrt (by simp) (hb hby d2_16) hr
    · show Q2 Z b1 b2 v1 v2 h0 n0 _ T2.heap _
      rw [e2]
      exact ⟨by rw [own_ge, if_neg h8], N0, rfl⟩
theorem d3_0 : decode method_3_code 0 = .ok (.iload_n 0, 1) := by decide +kernel
theorem d3_1 : decode method_3_code 1 = .ok (.ifCond .ne 6, 3) := by decide +kernel
theorem d3_4 : decode method_3_code 4 = .ok (.bipush 10, 2) := by decide +kernel
theorem d3_6 : decode method_3_code 6 = .ok (.ireturn, 1) := by decide +kernel
theorem d3_7 : decode method_3_code 7 = .ok (.iload_n 0, 1) := by decide +kernel
theorem d3_8 : decode method_3_code 8 = .ok (.iconst 1, 1) := by decide +kernel
theorem d3_9 : decode method_3_code 9 = .ok (.if_icmp .ne 6, 3) := by decide +kernel
theorem d3_12 : decode method_3_code 12 = .ok (.bipush 15, 2) := by decide +kernel
theorem d3_14 : decode method_3_code 14 = .ok (.ireturn, 1) := by decide +kernel
theorem d3_15 : decode method_3_code 15 = .ok (.iload_n 0, 1) := by decide +kernel
theorem d3_16 : decode method_3_code 16 = .ok (.iconst 2, 1) := by decide +kernel
theorem d3_17 : decode method_3_code 17 = .ok (.if_icmp .ne 6, 3) := by decide +kernel
theorem d3_20 : decode method_3_code 20 = .ok (.bipush 20, 2) := by decide +kernel
theorem d3_22 : decode method_3_code 22 = .ok (.ireturn, 1) := by decide +kernel
theorem d3_23 : decode method_3_code 23 = .ok (.iload_n 0, 1) := by decide +kernel
theorem d3_24 : decode method_3_code 24 = .ok (.iconst 3, 1) := by decide +kernel
theorem d3_25 : decode method_3_code 25 = .ok (.if_icmp .ne 6, 3) := by decide +kernel
theorem d3_28 : decode method_3_code 28 = .ok (.bipush 30, 2) := by decide +kernel
theorem d3_30 : decode method_3_code 30 = .ok (.ireturn, 1) := by decide +kernel
theorem d3_31 : decode method_3_code 31 = .ok (.iload_n 0, 1) := by decide +kernel
theorem d3_32 : decode method_3_code 32 = .ok (.iconst 4, 1) := by decide +kernel
theorem d3_33 : decode method_3_code 33 = .ok (.if_icmp .ne 6, 3) := by decide +kernel
theorem d3_36 : decode method_3_code 36 = .ok (.bipush 40, 2) := by decide +kernel
theorem d3_38 : decode method_3_code 38 = .ok (.ireturn, 1) := by decide +kernel
theorem d3_39 : decode method_3_code 39 = .ok (.bipush 50, 2) := by decide +kernel
theorem d3_41 : decode method_3_code 41 = .ok (.ireturn, 1) := by decide +kernel
theorem pn_3 : plainName "com/example/token_mint/tokenmint/model/AccessLevelIsAtLeastPinLaw" = true := by first | (simp [plainName, overriddenIn]; done) | decide +kernel
theorem ef_rm3 (m : MethodId) (p1 : Int32) : entryFrame m #[(.int p1)] 1 = mkF m 0 #[.val (.int p1)] [] := by first | (simp [entryFrame, mkF, argsToLocals, Value.category]; done) | rfl
def Q3 (Z : State) (p1 : Int32)  (h0 : Heap) (n0 : Nat) (v : Option Value) (h : Heap) (L : List Loc) : Prop := v = some (.int (own_doc p1)) ∧ Fr n0 L ∧ h = h0
set_option maxRecDepth 65536 in
set_option maxHeartbeats 40000000 in
theorem rm3 (l : Launch) (Z : State) (a0 : Array Value) (hw : ∀ d ∈ tables_1, d.before a0 Z = true) (ws : List Jvm.Cond) (p1 : Int32)  (h0 : Heap) (n0 : Nat) (Z0 : n0 ≤ h0.size)  :
    MetFree l (⟨"com/example/token_mint/tokenmint/model/AccessLevelIsAtLeastPinLaw", "documentedNumber", "(I)I"⟩ : MethodName) (head1 (Jvm.Cond.code (⟨"com/example/token_mint/tokenmint/model/AccessLevelIsAtLeastPinLaw", "documentedNumber", "(I)I"⟩ : MethodName) method_3_code 1 (some .int) :: ws) ({ frames := 0, cells := 0, slots := 0, locals := 0 } : Room)) (fun a U => a = #[(.int p1)] ∧ Z.Warmed39 U.vm ∧ U.heap = h0) (fun _ _ _ _ _ => True) (fun _ U o U' => ∃ v L, o = .returned v ∧ Q3 Z p1  h0 n0 v U'.heap L ∧ FrameEnd U o U' L ({ frames := 0, cells := 0, slots := 0, locals := 0 } : Room).cells ({ frames := 0, cells := 0, slots := 0, locals := 0 } : Room).slots) := by
  refine MetFree.of_bodySF (plainFor_of_name pn_3) hisR ?_
  intro p e s m args below meth c s₁ Bd hml0 hP hK
  obtain ⟨rfl, hZ, hh⟩ := hP
  have hx := Bd.exec
  have hby := Bd.bytes
  have hml : c.maxLocals = 1 := hml0
  have hown : s.vm.findClass "com/example/token_mint/tokenmint/model/AccessLevelIsAtLeastPinLaw" = some m.cls := findClass_of_methodNamed Bd.named
  have hnm := (name_of_methodNamed Bd.named Bd.method).1
  have hlk := BodyLoose.notSynchronized Bd
  have hrt := Bd.returns
  have X0 : Stand p l e ({ frames := 0, cells := 0, slots := 0, locals := 0 } : Room) s m #[(.int p1)] below meth c s₁ [] 0 0 := Stand.of_body Bd
  have e0 : s₁.heap = h0 := by rw [← hh, Bd.state]; rfl
  have N0 := Fr.nil n0
  show OEnds p e below s (Q3 Z p1  h0 n0) ({ frames := 0, cells := 0, slots := 0, locals := 0 } : Room).cells ({ frames := 0, cells := 0, slots := 0, locals := 0 } : Room).slots (s₁.setTop (entryFrame m #[(.int p1)] 1))
  refine OEnds.go (t' := s₁.setTop (mkF m 0 #[.val (.int p1)] [])) (fun t k => castTop (ef_rm3 m p1) k) ?_
  refine OEnds.go (t' := s₁.setTop (mkF m 1 #[.val (.int p1)] [(.int p1)])) (fun _ k => ?_) ?_
  · show Steps p.tables e below (s₁.setTop (mkF m 0 #[.val (.int p1)] [])) _
    refine XS.iloadN X0.here hx rfl (hb hby d3_0) rfl ?_
    show Steps p.tables e below (s₁.setTop (mkF m 1 #[.val (.int p1)] [(.int p1)])) _
    exact k
  by_cases q0 : p1 = (0 : Int32)
  · refine OEnds.go (t' := s₁.setTop (mkF m 4 #[.val (.int p1)] [])) (fun _ k => XS.ifNo X0.here hx rfl (hb hby d3_1) rfl ((if0 _ _).trans (teq q0).2) k) ?_
    refine OEnds.go (t' := s₁.setTop (mkF m 6 #[.val (.int p1)] [(.int (10 : Int32))])) (fun _ k => ?_) ?_
    · show Steps p.tables e below (s₁.setTop (mkF m 4 #[.val (.int p1)] [])) _
      refine XS.bipush X0.here hx rfl (hb hby d3_4) ?_
      show Steps p.tables e below (s₁.setTop (mkF m 6 #[.val (.int p1)] [(.int (10 : Int32))])) _
      exact k
    refine OEnds.back X0 hlk (v := (some (.int (10 : Int32)))) (fun h => by rw [hrt] at h; cases h) (fun fs hr => ?_) ?_ (by decide) (by decide)
    · exact retI X0 hx hrt (hb hby d3_6) hr
    · show Q3 Z p1  h0 n0 _ s₁.heap _
      rw [e0]
      exact ⟨by rw [own_doc, if_pos q0], N0, rfl⟩
  · refine OEnds.go (t' := s₁.setTop (mkF m 7 #[.val (.int p1)] [])) (fun _ k => XS.ifYes X0.here hx rfl (pc0 := 1) (pc' := 7) rfl (hb hby d3_1) rfl ((if0 _ _).trans (feq q0).2) (by decide) (by decide) k) ?_
    refine OEnds.go (t' := s₁.setTop (mkF m 9 #[.val (.int p1)] [(.int (1 : Int32)), (.int p1)])) (fun _ k => ?_) ?_
    · show Steps p.tables e below (s₁.setTop (mkF m 7 #[.val (.int p1)] [])) _
      refine XS.iloadN X0.here hx rfl (hb hby d3_7) rfl ?_
      show Steps p.tables e below (s₁.setTop (mkF m 8 #[.val (.int p1)] [(.int p1)])) _
      refine XS.iconst X0.here hx rfl (hb hby d3_8) ?_
      show Steps p.tables e below (s₁.setTop (mkF m 9 #[.val (.int p1)] [(.int (1 : Int32)), (.int p1)])) _
      exact k
    by_cases q1 : p1 = (1 : Int32)
    · refine OEnds.go (t' := s₁.setTop (mkF m 12 #[.val (.int p1)] [])) (fun _ k => XS.icmpNo X0.here hx rfl (hb hby d3_9) rfl (teq q1).2 k) ?_
      refine OEnds.go (t' := s₁.setTop (mkF m 14 #[.val (.int p1)] [(.int (15 : Int32))])) (fun _ k => ?_) ?_
      · show Steps p.tables e below (s₁.setTop (mkF m 12 #[.val (.int p1)] [])) _
        refine XS.bipush X0.here hx rfl (hb hby d3_12) ?_
        show Steps p.tables e below (s₁.setTop (mkF m 14 #[.val (.int p1)] [(.int (15 : Int32))])) _
        exact k
      refine OEnds.back X0 hlk (v := (some (.int (15 : Int32)))) (fun h => by rw [hrt] at h; cases h) (fun fs hr => ?_) ?_ (by decide) (by decide)
      · exact retI X0 hx hrt (hb hby d3_14) hr
      · show Q3 Z p1  h0 n0 _ s₁.heap _
        rw [e0]
        exact ⟨by rw [own_doc, if_neg q0, if_pos q1], N0, rfl⟩
    · refine OEnds.go (t' := s₁.setTop (mkF m 15 #[.val (.int p1)] [])) (fun _ k => XS.icmpYes X0.here hx rfl (pc0 := 9) (pc' := 15) rfl (hb hby d3_9) rfl (feq q1).2 (by decide) (by decide) k) ?_
      refine OEnds.go (t' := s₁.setTop (mkF m 17 #[.val (.int p1)] [(.int (2 : Int32)), (.int p1)])) (fun _ k => ?_) ?_
      · show Steps p.tables e below (s₁.setTop (mkF m 15 #[.val (.int p1)] [])) _
        refine XS.iloadN X0.here hx rfl (hb hby d3_15) rfl ?_
        show Steps p.tables e below (s₁.setTop (mkF m 16 #[.val (.int p1)] [(.int p1)])) _
        refine XS.iconst X0.here hx rfl (hb hby d3_16) ?_
        show Steps p.tables e below (s₁.setTop (mkF m 17 #[.val (.int p1)] [(.int (2 : Int32)), (.int p1)])) _
        exact k
      by_cases q2 : p1 = (2 : Int32)
      · refine OEnds.go (t' := s₁.setTop (mkF m 20 #[.val (.int p1)] [])) (fun _ k => XS.icmpNo X0.here hx rfl (hb hby d3_17) rfl (teq q2).2 k) ?_
        refine OEnds.go (t' := s₁.setTop (mkF m 22 #[.val (.int p1)] [(.int (20 : Int32))])) (fun _ k => ?_) ?_
        · show Steps p.tables e below (s₁.setTop (mkF m 20 #[.val (.int p1)] [])) _
          refine XS.bipush X0.here hx rfl (hb hby d3_20) ?_
          show Steps p.tables e below (s₁.setTop (mkF m 22 #[.val (.int p1)] [(.int (20 : Int32))])) _
          exact k
        refine OEnds.back X0 hlk (v := (some (.int (20 : Int32)))) (fun h => by rw [hrt] at h; cases h) (fun fs hr => ?_) ?_ (by decide) (by decide)
        · exact retI X0 hx hrt (hb hby d3_22) hr
        · show Q3 Z p1  h0 n0 _ s₁.heap _
          rw [e0]
          exact ⟨by rw [own_doc, if_neg q0, if_neg q1, if_pos q2], N0, rfl⟩
      · refine OEnds.go (t' := s₁.setTop (mkF m 23 #[.val (.int p1)] [])) (fun _ k => XS.icmpYes X0.here hx rfl (pc0 := 17) (pc' := 23) rfl (hb hby d3_17) rfl (feq q2).2 (by decide) (by decide) k) ?_
        refine OEnds.go (t' := s₁.setTop (mkF m 25 #[.val (.int p1)] [(.int (3 : Int32)), (.int p1)])) (fun _ k => ?_) ?_
        · show Steps p.tables e below (s₁.setTop (mkF m 23 #[.val (.int p1)] [])) _
          refine XS.iloadN X0.here hx rfl (hb hby d3_23) rfl ?_
          show Steps p.tables e below (s₁.setTop (mkF m 24 #[.val (.int p1)] [(.int p1)])) _
          refine XS.iconst X0.here hx rfl (hb hby d3_24) ?_
          show Steps p.tables e below (s₁.setTop (mkF m 25 #[.val (.int p1)] [(.int (3 : Int32)), (.int p1)])) _
          exact k
        by_cases q3 : p1 = (3 : Int32)
        · refine OEnds.go (t' := s₁.setTop (mkF m 28 #[.val (.int p1)] [])) (fun _ k => XS.icmpNo X0.here hx rfl (hb hby d3_25) rfl (teq q3).2 k) ?_
          refine OEnds.go (t' := s₁.setTop (mkF m 30 #[.val (.int p1)] [(.int (30 : Int32))])) (fun _ k => ?_) ?_
          · show Steps p.tables e below (s₁.setTop (mkF m 28 #[.val (.int p1)] [])) _
            refine XS.bipush X0.here hx rfl (hb hby d3_28) ?_
            show Steps p.tables e below (s₁.setTop (mkF m 30 #[.val (.int p1)] [(.int (30 : Int32))])) _
            exact k
          refine OEnds.back X0 hlk (v := (some (.int (30 : Int32)))) (fun h => by rw [hrt] at h; cases h) (fun fs hr => ?_) ?_ (by decide) (by decide)
          · exact retI X0 hx hrt (hb hby d3_30) hr
          · show Q3 Z p1  h0 n0 _ s₁.heap _
            rw [e0]
            exact ⟨by rw [own_doc, if_neg q0, if_neg q1, if_neg q2, if_pos q3], N0, rfl⟩
        · refine OEnds.go (t' := s₁.setTop (mkF m 31 #[.val (.int p1)] [])) (fun _ k => XS.icmpYes X0.here hx rfl (pc0 := 25) (pc' := 31) rfl (hb hby d3_25) rfl (feq q3).2 (by decide) (by decide) k) ?_
          refine OEnds.go (t' := s₁.setTop (mkF m 33 #[.val (.int p1)] [(.int (4 : Int32)), (.int p1)])) (fun _ k => ?_) ?_
          · show Steps p.tables e below (s₁.setTop (mkF m 31 #[.val (.int p1)] [])) _
            refine XS.iloadN X0.here hx rfl (hb hby d3_31) rfl ?_
            show Steps p.tables e below (s₁.setTop (mkF m 32 #[.val (.int p1)] [(.int p1)])) _
            refine XS.iconst X0.here hx rfl (hb hby d3_32) ?_
            show Steps p.tables e below (s₁.setTop (mkF m 33 #[.val (.int p1)] [(.int (4 : Int32)), (.int p1)])) _
            exact k
          by_cases q4 : p1 = (4 : Int32)
          · refine OEnds.go (t' := s₁.setTop (mkF m 36 #[.val (.int p1)] [])) (fun _ k => XS.icmpNo X0.here hx rfl (hb hby d3_33) rfl (teq q4).2 k) ?_
            refine OEnds.go (t' := s₁.setTop (mkF m 38 #[.val (.int p1)] [(.int (40 : Int32))])) (fun _ k => ?_) ?_
            · show Steps p.tables e below (s₁.setTop (mkF m 36 #[.val (.int p1)] [])) _
              refine XS.bipush X0.here hx rfl (hb hby d3_36) ?_
              show Steps p.tables e below (s₁.setTop (mkF m 38 #[.val (.int p1)] [(.int (40 : Int32))])) _
              exact k
            refine OEnds.back X0 hlk (v := (some (.int (40 : Int32)))) (fun h => by rw [hrt] at h; cases h) (fun fs hr => ?_) ?_ (by decide) (by decide)
            · exact retI X0 hx hrt (hb hby d3_38) hr
            · show Q3 Z p1  h0 n0 _ s₁.heap _
              rw [e0]
              exact ⟨by rw [own_doc, if_neg q0, if_neg q1, if_neg q2, if_neg q3, if_pos q4], N0, rfl⟩
          · refine OEnds.go (t' := s₁.setTop (mkF m 39 #[.val (.int p1)] [])) (fun _ k => XS.icmpYes X0.here hx rfl (pc0 := 33) (pc' := 39) rfl (hb hby d3_33) rfl (feq q4).2 (by decide) (by decide) k) ?_
            refine OEnds.go (t' := s₁.setTop (mkF m 41 #[.val (.int p1)] [(.int (50 : Int32))])) (fun _ k => ?_) ?_
            · show Steps p.tables e below (s₁.setTop (mkF m 39 #[.val (.int p1)] [])) _
              refine XS.bipush X0.here hx rfl (hb hby d3_39) ?_
              show Steps p.tables e below (s₁.setTop (mkF m 41 #[.val (.int p1)] [(.int (50 : Int32))])) _
              exact k
            refine OEnds.back X0 hlk (v := (some (.int (50 : Int32)))) (fun h => by rw [hrt] at h; cases h) (fun fs hr => ?_) ?_ (by decide) (by decide)
            · exact retI X0 hx hrt (hb hby d3_41) hr
            · show Q3 Z p1  h0 n0 _ s₁.heap _
              rw [e0]
              exact ⟨by rw [own_doc, if_neg q0, if_neg q1, if_neg q2, if_neg q3, if_neg q4], N0, rfl⟩
theorem pn_0 : plainName "com/example/token_mint/tokenmint/model/AccessLevelIsAtLeastPinLaw" = true := by first | (simp [plainName, overriddenIn]; done) | decide +kernel
theorem pd_rm0_0 : parseMethodDescriptor "(I)Lcom/example/token_mint/tokenmint/model/AccessLevel;" = some ⟨[.int], some (.object "com/example/token_mint/tokenmint/model/AccessLevel")⟩ := by decide +kernel
theorem pd_rm0_1 : parseMethodDescriptor "(Lcom/example/token_mint/tokenmint/model/AccessLevel;)Z" = some ⟨[(.object "com/example/token_mint/tokenmint/model/AccessLevel")], some .boolean⟩ := by decide +kernel
theorem pd_rm0_2 : parseMethodDescriptor "(I)I" = some ⟨[.int], some .int⟩ := by decide +kernel
theorem ef_rm0 (m : MethodId) (p1 : Int32) (p2 : Int32) : entryFrame m #[(.int p1), (.int p2)] maxLocals = mkF m 0 #[.val (.int p1), .val (.int p2), .unset, .unset, .unset, .unset, .unset, .unset, .unset] [] := by first | (simp [entryFrame, mkF, argsToLocals, Value.category, maxLocals]; done) | rfl
def Q0 (Z : State) (p1 : Int32) (p2 : Int32) (a00 : Addr) (a1 : Addr) (a2 : Addr) (a3 : Addr) (a4 : Addr) (a5 : Addr) (h0 : Heap) (n0 : Nat) (v : Option Value) (h : Heap) (L : List Loc) : Prop := v = some (.int 1) ∧ Fr n0 L
set_option maxRecDepth 65536 in
set_option maxHeartbeats 40000000 in
theorem rm0 (l : Launch) (Z : State) (a0 : Array Value) (hw : ∀ d ∈ tables_1, d.before a0 Z = true) (ws : List Jvm.Cond) (p1 : Int32) (p2 : Int32) (a00 : Addr) (a1 : Addr) (a2 : Addr) (a3 : Addr) (a4 : Addr) (a5 : Addr) (h0 : Heap) (n0 : Nat) (Z0 : n0 ≤ h0.size) (S_GUEST : Sta Z h0 "com/example/token_mint/tokenmint/model/AccessLevel" "GUEST" "Lcom/example/token_mint/tokenmint/model/AccessLevel;" (.ref a00)) (S_PLANNER : Sta Z h0 "com/example/token_mint/tokenmint/model/AccessLevel" "PLANNER" "Lcom/example/token_mint/tokenmint/model/AccessLevel;" (.ref a1)) (S_REPORTER : Sta Z h0 "com/example/token_mint/tokenmint/model/AccessLevel" "REPORTER" "Lcom/example/token_mint/tokenmint/model/AccessLevel;" (.ref a2)) (S_DEVELOPER : Sta Z h0 "com/example/token_mint/tokenmint/model/AccessLevel" "DEVELOPER" "Lcom/example/token_mint/tokenmint/model/AccessLevel;" (.ref a3)) (S_MAINTAINER : Sta Z h0 "com/example/token_mint/tokenmint/model/AccessLevel" "MAINTAINER" "Lcom/example/token_mint/tokenmint/model/AccessLevel;" (.ref a4)) (S_OWNER : Sta Z h0 "com/example/token_mint/tokenmint/model/AccessLevel" "OWNER" "Lcom/example/token_mint/tokenmint/model/AccessLevel;" (.ref a5)) (E_GUEST : Exa Z h0 a00 "com/example/token_mint/tokenmint/model/AccessLevel") (E_PLANNER : Exa Z h0 a1 "com/example/token_mint/tokenmint/model/AccessLevel") (E_REPORTER : Exa Z h0 a2 "com/example/token_mint/tokenmint/model/AccessLevel") (E_DEVELOPER : Exa Z h0 a3 "com/example/token_mint/tokenmint/model/AccessLevel") (E_MAINTAINER : Exa Z h0 a4 "com/example/token_mint/tokenmint/model/AccessLevel") (E_OWNER : Exa Z h0 a5 "com/example/token_mint/tokenmint/model/AccessLevel") (F_GUEST : Fld Z h0 a00 "com/example/token_mint/tokenmint/model/AccessLevel" "value" "I" (.int 10)) (F_PLANNER : Fld Z h0 a1 "com/example/token_mint/tokenmint/model/AccessLevel" "value" "I" (.int 15)) (F_REPORTER : Fld Z h0 a2 "com/example/token_mint/tokenmint/model/AccessLevel" "value" "I" (.int 20)) (F_DEVELOPER : Fld Z h0 a3 "com/example/token_mint/tokenmint/model/AccessLevel" "value" "I" (.int 30)) (F_MAINTAINER : Fld Z h0 a4 "com/example/token_mint/tokenmint/model/AccessLevel" "value" "I" (.int 40)) (F_OWNER : Fld Z h0 a5 "com/example/token_mint/tokenmint/model/AccessLevel" "value" "I" (.int 50)) :
    MetFree l x (head1 (Jvm.Cond.code x code maxLocals ret :: ws) room_1) (fun a U => a = #[(.int p1), (.int p2)] ∧ Z.Warmed39 U.vm ∧ U.heap = h0) (fun _ _ _ _ _ => True) (fun _ U o U' => ∃ v L, o = .returned v ∧ Q0 Z p1 p2 a00 a1 a2 a3 a4 a5 h0 n0 v U'.heap L ∧ FrameEnd U o U' L room_1.cells room_1.slots) := by
  refine MetFree.of_bodySF (plainFor_of_name pn_0) hisR ?_
  intro p e s m args below meth c s₁ Bd hml0 hP hK
  obtain ⟨rfl, hZ, hh⟩ := hP
  have hx := Bd.exec
  have hby := Bd.bytes
  have hml : c.maxLocals = 9 := hml0
  have hown : s.vm.findClass "com/example/token_mint/tokenmint/model/AccessLevelIsAtLeastPinLaw" = some m.cls := findClass_of_methodNamed Bd.named
  have hnm := (name_of_methodNamed Bd.named Bd.method).1
  have hlk := BodyLoose.notSynchronized Bd
  have hrt := Bd.returns
  have X0 : Stand p l e room_1 s m #[(.int p1), (.int p2)] below meth c s₁ [] 0 0 := Stand.of_body Bd
  have e0 : s₁.heap = h0 := by rw [← hh, Bd.state]; rfl
  have N0 := Fr.nil n0
  show OEnds p e below s (Q0 Z p1 p2 a00 a1 a2 a3 a4 a5 h0 n0) room_1.cells room_1.slots (s₁.setTop (entryFrame m #[(.int p1), (.int p2)] maxLocals))
  refine OEnds.go (t' := s₁.setTop (mkF m 0 #[.val (.int p1), .val (.int p2), .unset, .unset, .unset, .unset, .unset, .unset, .unset] [])) (fun t k => castTop (ef_rm0 m p1 p2) k) ?_
  refine OEnds.go (t' := s₁.setTop (mkF m 16 #[.val (.int p1), .val (.int p2), .val (.int ((p1 &&& (2147483647 : Int32)) % (6 : Int32))), .val (.int ((p2 &&& (2147483647 : Int32)) % (6 : Int32))), .unset, .unset, .unset, .unset, .unset] [])) (fun _ k => ?_) ?_
  · show Steps p.tables e below (s₁.setTop (mkF m 0 #[.val (.int p1), .val (.int p2), .unset, .unset, .unset, .unset, .unset, .unset, .unset] [])) _
    refine XS.iloadN X0.here hx rfl (hb hby at_0) rfl ?_
    show Steps p.tables e below (s₁.setTop (mkF m 1 #[.val (.int p1), .val (.int p2), .unset, .unset, .unset, .unset, .unset, .unset, .unset] [(.int p1)])) _
    refine X0.ldcInt hx hown (mvT hZ (hw _ (List.mem_of_getElem? (i := 0) rfl))) (g := (mkF m 1 #[.val (.int p1), .val (.int p2), .unset, .unset, .unset, .unset, .unset, .unset, .unset] [(.int p1)])) rfl (hb hby at_1) _ ?_
    show Steps p.tables e below (s₁.setTop (mkF m 3 #[.val (.int p1), .val (.int p2), .unset, .unset, .unset, .unset, .unset, .unset, .unset] [(.int (2147483647 : Int32)), (.int p1)])) _
    refine XS.iand X0.here hx rfl (hb hby at_3) rfl ?_
    show Steps p.tables e below (s₁.setTop (mkF m 4 #[.val (.int p1), .val (.int p2), .unset, .unset, .unset, .unset, .unset, .unset, .unset] [(.int (p1 &&& (2147483647 : Int32)))])) _
    refine XS.bipush X0.here hx rfl (hb hby at_4) ?_
    show Steps p.tables e below (s₁.setTop (mkF m 6 #[.val (.int p1), .val (.int p2), .unset, .unset, .unset, .unset, .unset, .unset, .unset] [(.int (6 : Int32)), (.int (p1 &&& (2147483647 : Int32)))])) _
    refine iremM X0 hx rfl (hb hby at_6) rfl (by decide) ?_
    show Steps p.tables e below (s₁.setTop (mkF m 7 #[.val (.int p1), .val (.int p2), .unset, .unset, .unset, .unset, .unset, .unset, .unset] [(.int ((p1 &&& (2147483647 : Int32)) % (6 : Int32)))])) _
    refine XS.istoreN X0.here hx rfl (hb hby at_7) rfl (l' := #[.val (.int p1), .val (.int p2), .val (.int ((p1 &&& (2147483647 : Int32)) % (6 : Int32))), .unset, .unset, .unset, .unset, .unset, .unset]) rfl ?_
    show Steps p.tables e below (s₁.setTop (mkF m 8 #[.val (.int p1), .val (.int p2), .val (.int ((p1 &&& (2147483647 : Int32)) % (6 : Int32))), .unset, .unset, .unset, .unset, .unset, .unset] [])) _
    refine XS.iloadN X0.here hx rfl (hb hby at_8) rfl ?_
    show Steps p.tables e below (s₁.setTop (mkF m 9 #[.val (.int p1), .val (.int p2), .val (.int ((p1 &&& (2147483647 : Int32)) % (6 : Int32))), .unset, .unset, .unset, .unset, .unset, .unset] [(.int p2)])) _
    refine X0.ldcInt hx hown (mvT hZ (hw _ (List.mem_of_getElem? (i := 0) rfl))) (g := (mkF m 9 #[.val (.int p1), .val (.int p2), .val (.int ((p1 &&& (2147483647 : Int32)) % (6 : Int32))), .unset, .unset, .unset, .unset, .unset, .unset] [(.int p2)])) rfl (hb hby at_9) _ ?_
    show Steps p.tables e below (s₁.setTop (mkF m 11 #[.val (.int p1), .val (.int p2), .val (.int ((p1 &&& (2147483647 : Int32)) % (6 : Int32))), .unset, .unset, .unset, .unset, .unset, .unset] [(.int (2147483647 : Int32)), (.int p2)])) _
    refine XS.iand X0.here hx rfl (hb hby at_11) rfl ?_
    show Steps p.tables e below (s₁.setTop (mkF m 12 #[.val (.int p1), .val (.int p2), .val (.int ((p1 &&& (2147483647 : Int32)) % (6 : Int32))), .unset, .unset, .unset, .unset, .unset, .unset] [(.int (p2 &&& (2147483647 : Int32)))])) _
    refine XS.bipush X0.here hx rfl (hb hby at_12) ?_
    show Steps p.tables e below (s₁.setTop (mkF m 14 #[.val (.int p1), .val (.int p2), .val (.int ((p1 &&& (2147483647 : Int32)) % (6 : Int32))), .unset, .unset, .unset, .unset, .unset, .unset] [(.int (6 : Int32)), (.int (p2 &&& (2147483647 : Int32)))])) _
    refine iremM X0 hx rfl (hb hby at_14) rfl (by decide) ?_
    show Steps p.tables e below (s₁.setTop (mkF m 15 #[.val (.int p1), .val (.int p2), .val (.int ((p1 &&& (2147483647 : Int32)) % (6 : Int32))), .unset, .unset, .unset, .unset, .unset, .unset] [(.int ((p2 &&& (2147483647 : Int32)) % (6 : Int32)))])) _
    refine XS.istoreN X0.here hx rfl (hb hby at_15) rfl (l' := #[.val (.int p1), .val (.int p2), .val (.int ((p1 &&& (2147483647 : Int32)) % (6 : Int32))), .val (.int ((p2 &&& (2147483647 : Int32)) % (6 : Int32))), .unset, .unset, .unset, .unset, .unset]) rfl ?_
    show Steps p.tables e below (s₁.setTop (mkF m 16 #[.val (.int p1), .val (.int p2), .val (.int ((p1 &&& (2147483647 : Int32)) % (6 : Int32))), .val (.int ((p2 &&& (2147483647 : Int32)) % (6 : Int32))), .unset, .unset, .unset, .unset, .unset] [])) _
    exact k
  have hi := own_mod p1 6 (by decide)
  have hj := own_mod p2 6 (by decide)
  generalize gi : ((p1 &&& (2147483647 : Int32)) % (6 : Int32)) = i
  rw [gi] at hi
  generalize gj : ((p2 &&& (2147483647 : Int32)) % (6 : Int32)) = j
  rw [gj] at hj
  refine OEnds.go (t' := s₁.setTop (mkF m 17 #[.val (.int p1), .val (.int p2), .val (.int i), .val (.int j), .unset, .unset, .unset, .unset, .unset] [(.int i)])) (fun _ k => ?_) ?_
  · show Steps p.tables e below (s₁.setTop (mkF m 16 #[.val (.int p1), .val (.int p2), .val (.int i), .val (.int j), .unset, .unset, .unset, .unset, .unset] [])) _
    refine XS.iloadN X0.here hx rfl (hb hby at_16) rfl ?_
    show Steps p.tables e below (s₁.setTop (mkF m 17 #[.val (.int p1), .val (.int p2), .val (.int i), .val (.int j), .unset, .unset, .unset, .unset, .unset] [(.int i)])) _
    exact k
  obtain ⟨_, _, ⟨T1, L1, k1, n1⟩, -, X1, ⟨Lc1, hQ1, l1, y1, z1⟩, st1⟩ := Jvm.LawKit.callS X0 hx (y := (⟨"com/example/token_mint/tokenmint/model/AccessLevelIsAtLeastPinLaw", "pick", "(I)Lcom/example/token_mint/tokenmint/model/AccessLevel;"⟩ : MethodName)) hown (mvT hZ (hw _ (List.mem_of_getElem? (i := 1) rfl))) (mvT hZ (hw _ (List.mem_of_getElem? (i := 2) rfl))) (mvT hZ (hw _ (List.mem_of_getElem? (i := 3) rfl))) (mvT hZ (hw _ (List.mem_of_getElem? (i := 4) rfl))) (by decide) (backOf (W := 0) (rm1 l Z a0 hw [] i a00 a1 a2 a3 a4 a5 h0 n0 Z0 S_GUEST S_PLANNER S_REPORTER S_DEVELOPER S_MAINTAINER S_OWNER) hZ (hw _ (List.mem_of_getElem? (i := 4) rfl)) (hw _ (List.mem_of_getElem? (i := 3) rfl)) (by decide) (by decide)) (g := (mkF m 17 #[.val (.int p1), .val (.int p2), .val (.int i), .val (.int j), .unset, .unset, .unset, .unset, .unset] [(.int i)])) rfl (by rw [hml]; rfl) (argsL := [(.int i)]) (rest := []) (lenOf pd_rm0_0 rfl) rfl (by show 2 * 0 + _ ≤ _; exact Nat.le_of_eq rfl) (hb hby at_17) (fun _ _ => ⟨rfl, e0, (by decide : 0 + 0 ≤ _), (by decide : 0 + 0 ≤ _)⟩)
  dsimp only [Pt.U, Pt.locs, Pt.cells, Pt.slots] at X1 l1 y1 z1 st1 hQ1
  subst l1 y1 z1
  obtain ⟨rfl, N1q, eh⟩ := hQ1
  have N1 := Fr.app N0 N1q
  have eh1 := eh
  refine OEnds.go (t' := T1.setTop (mkF m 20 #[.val (.int p1), .val (.int p2), .val (.int i), .val (.int j), .unset, .unset, .unset, .unset, .unset] [(.ref (own_pick i a00 a1 a2 a3 a4 a5))])) (fun _ k => st1 _ k) ?_
  refine OEnds.go (t' := T1.setTop (mkF m 23 #[.val (.int p1), .val (.int p2), .val (.int i), .val (.int j), .val (.ref (own_pick i a00 a1 a2 a3 a4 a5)), .unset, .unset, .unset, .unset] [(.int j)])) (fun _ k => ?_) ?_
  · show Steps p.tables e below (T1.setTop (mkF m 20 #[.val (.int p1), .val (.int p2), .val (.int i), .val (.int j), .unset, .unset, .unset, .unset, .unset] [(.ref (own_pick i a00 a1 a2 a3 a4 a5))])) _
    refine XS.astore X1.here hx rfl (hb hby at_20) rfl rfl (l' := #[.val (.int p1), .val (.int p2), .val (.int i), .val (.int j), .val (.ref (own_pick i a00 a1 a2 a3 a4 a5)), .unset, .unset, .unset, .unset]) rfl ?_
    show Steps p.tables e below (T1.setTop (mkF m 22 #[.val (.int p1), .val (.int p2), .val (.int i), .val (.int j), .val (.ref (own_pick i a00 a1 a2 a3 a4 a5)), .unset, .unset, .unset, .unset] [])) _
    refine XS.iloadN X1.here hx rfl (hb hby at_22) rfl ?_
    show Steps p.tables e below (T1.setTop (mkF m 23 #[.val (.int p1), .val (.int p2), .val (.int i), .val (.int j), .val (.ref (own_pick i a00 a1 a2 a3 a4 a5)), .unset, .unset, .unset, .unset] [(.int j)])) _
    exact k
  obtain ⟨_, _, ⟨T2, L2, k2, n2⟩, -, X2, ⟨Lc2, hQ2, l2, y2, z2⟩, st2⟩ := Jvm.LawKit.callS X1 hx (y := (⟨"com/example/token_mint/tokenmint/model/AccessLevelIsAtLeastPinLaw", "pick", "(I)Lcom/example/token_mint/tokenmint/model/AccessLevel;"⟩ : MethodName)) hown (mvT hZ (hw _ (List.mem_of_getElem? (i := 1) rfl))) (mvT hZ (hw _ (List.mem_of_getElem? (i := 2) rfl))) (mvT hZ (hw _ (List.mem_of_getElem? (i := 3) rfl))) (mvT hZ (hw _ (List.mem_of_getElem? (i := 4) rfl))) (by decide) (backOf (W := 0) (rm1 l Z a0 hw [] j a00 a1 a2 a3 a4 a5 h0 n0 Z0 S_GUEST S_PLANNER S_REPORTER S_DEVELOPER S_MAINTAINER S_OWNER) hZ (hw _ (List.mem_of_getElem? (i := 4) rfl)) (hw _ (List.mem_of_getElem? (i := 3) rfl)) (by decide) (by decide)) (g := (mkF m 23 #[.val (.int p1), .val (.int p2), .val (.int i), .val (.int j), .val (.ref (own_pick i a00 a1 a2 a3 a4 a5)), .unset, .unset, .unset, .unset] [(.int j)])) rfl (by rw [hml]; rfl) (argsL := [(.int j)]) (rest := []) (lenOf pd_rm0_0 rfl) rfl (by show 2 * 0 + _ ≤ _; exact Nat.le_of_eq rfl) (hb hby at_23) (fun _ _ => ⟨rfl, eh1, (by decide : 0 + 0 ≤ _), (by decide : 0 + 0 ≤ _)⟩)
  dsimp only [Pt.U, Pt.locs, Pt.cells, Pt.slots] at X2 l2 y2 z2 st2 hQ2
  subst l2 y2 z2
  obtain ⟨rfl, N2q, eh⟩ := hQ2
  have N2 := Fr.app N1 N2q
  have eh2 := eh
  refine OEnds.go (t' := T2.setTop (mkF m 26 #[.val (.int p1), .val (.int p2), .val (.int i), .val (.int j), .val (.ref (own_pick i a00 a1 a2 a3 a4 a5)), .unset, .unset, .unset, .unset] [(.ref (own_pick j a00 a1 a2 a3 a4 a5))])) (fun _ k => st2 _ k) ?_
  refine OEnds.go (t' := T2.setTop (mkF m 32 #[.val (.int p1), .val (.int p2), .val (.int i), .val (.int j), .val (.ref (own_pick i a00 a1 a2 a3 a4 a5)), .val (.ref (own_pick j a00 a1 a2 a3 a4 a5)), .unset, .unset, .unset] [(.ref (own_pick j a00 a1 a2 a3 a4 a5)), (.ref (own_pick i a00 a1 a2 a3 a4 a5))])) (fun _ k => ?_) ?_
  · show Steps p.tables e below (T2.setTop (mkF m 26 #[.val (.int p1), .val (.int p2), .val (.int i), .val (.int j), .val (.ref (own_pick i a00 a1 a2 a3 a4 a5)), .unset, .unset, .unset, .unset] [(.ref (own_pick j a00 a1 a2 a3 a4 a5))])) _
    refine XS.astore X2.here hx rfl (hb hby at_26) rfl rfl (l' := #[.val (.int p1), .val (.int p2), .val (.int i), .val (.int j), .val (.ref (own_pick i a00 a1 a2 a3 a4 a5)), .val (.ref (own_pick j a00 a1 a2 a3 a4 a5)), .unset, .unset, .unset]) rfl ?_
    show Steps p.tables e below (T2.setTop (mkF m 28 #[.val (.int p1), .val (.int p2), .val (.int i), .val (.int j), .val (.ref (own_pick i a00 a1 a2 a3 a4 a5)), .val (.ref (own_pick j a00 a1 a2 a3 a4 a5)), .unset, .unset, .unset] [])) _
    refine XS.aload X2.here hx rfl (hb hby at_28) rfl rfl ?_
    show Steps p.tables e below (T2.setTop (mkF m 30 #[.val (.int p1), .val (.int p2), .val (.int i), .val (.int j), .val (.ref (own_pick i a00 a1 a2 a3 a4 a5)), .val (.ref (own_pick j a00 a1 a2 a3 a4 a5)), .unset, .unset, .unset] [(.ref (own_pick i a00 a1 a2 a3 a4 a5))])) _
    refine XS.aload X2.here hx rfl (hb hby at_30) rfl rfl ?_
    show Steps p.tables e below (T2.setTop (mkF m 32 #[.val (.int p1), .val (.int p2), .val (.int i), .val (.int j), .val (.ref (own_pick i a00 a1 a2 a3 a4 a5)), .val (.ref (own_pick j a00 a1 a2 a3 a4 a5)), .unset, .unset, .unset] [(.ref (own_pick j a00 a1 a2 a3 a4 a5)), (.ref (own_pick i a00 a1 a2 a3 a4 a5))])) _
    exact k
  obtain ⟨cq3, kq3, q3a, q3b, q3c⟩ := isOf hZ eh2 (own_pick_exa i E_GUEST E_PLANNER E_REPORTER E_DEVELOPER E_MAINTAINER E_OWNER)
  obtain ⟨_, _, ⟨T3, L3, k3, n3⟩, -, X3, ⟨Lc3, hQ3, l3, y3, z3⟩, st3⟩ := X2.virtualBack hx (y := (⟨"com/example/token_mint/tokenmint/model/AccessLevel", "isAtLeast", "(Lcom/example/token_mint/tokenmint/model/AccessLevel;)Z"⟩ : MethodName)) (z := (⟨"com/example/token_mint/tokenmint/model/AccessLevel", "isAtLeast", "(Lcom/example/token_mint/tokenmint/model/AccessLevel;)Z"⟩ : MethodName)) hown (mvT hZ (hw _ (List.mem_of_getElem? (i := 10) rfl))) (mvT hZ (hw _ (List.mem_of_getElem? (i := 11) rfl))) (notFace_of_selects (args := #[]) (mvT hZ (hw _ (List.mem_of_getElem? (i := 13) rfl)))) (mvT hZ (hw _ (List.mem_of_getElem? (i := 13) rfl))) (mvT hZ (hw _ (List.mem_of_getElem? (i := 12) rfl))) (by decide) (backOf (W := 0) (rm2 l Z a0 hw [] (own_pick i a00 a1 a2 a3 a4 a5) (own_pick j a00 a1 a2 a3 a4 a5) (own_doc i) (own_doc j) h0 n0 Z0 (own_pick_fld i F_GUEST F_PLANNER F_REPORTER F_DEVELOPER F_MAINTAINER F_OWNER) (own_pick_fld j F_GUEST F_PLANNER F_REPORTER F_DEVELOPER F_MAINTAINER F_OWNER)) hZ (hw _ (List.mem_of_getElem? (i := 14) rfl)) (hw _ (List.mem_of_getElem? (i := 6) rfl)) (by decide) (by decide)) q3a q3c (g := (mkF m 32 #[.val (.int p1), .val (.int p2), .val (.int i), .val (.int j), .val (.ref (own_pick i a00 a1 a2 a3 a4 a5)), .val (.ref (own_pick j a00 a1 a2 a3 a4 a5)), .unset, .unset, .unset] [(.ref (own_pick j a00 a1 a2 a3 a4 a5)), (.ref (own_pick i a00 a1 a2 a3 a4 a5))])) rfl (by rw [hml]; rfl) (Steps.refl _) (argsL := [(.ref (own_pick j a00 a1 a2 a3 a4 a5))]) (rest := []) (lenOf pd_rm0_1 rfl) rfl (by show 2 * 0 + _ ≤ _; exact Nat.le_of_eq rfl) (hb hby at_32) (fun _ _ => ⟨rfl, eh2, (by decide : 0 + 0 ≤ _), (by decide : 0 + 0 ≤ _)⟩)
  dsimp only [Pt.U, Pt.locs, Pt.cells, Pt.slots] at X3 l3 y3 z3 st3 hQ3
  subst l3 y3 z3
  obtain ⟨rfl, N3q, eh⟩ := hQ3
  have N3 := Fr.app N2 N3q
  have eh3 := eh
  refine OEnds.go (t' := T3.setTop (mkF m 35 #[.val (.int p1), .val (.int p2), .val (.int i), .val (.int j), .val (.ref (own_pick i a00 a1 a2 a3 a4 a5)), .val (.ref (own_pick j a00 a1 a2 a3 a4 a5)), .unset, .unset, .unset] [(.int (own_ge (own_doc i) (own_doc j)))])) (fun _ k => st3.trans k) ?_
  refine OEnds.go (t' := T3.setTop (mkF m 37 #[.val (.int p1), .val (.int p2), .val (.int i), .val (.int j), .val (.ref (own_pick i a00 a1 a2 a3 a4 a5)), .val (.ref (own_pick j a00 a1 a2 a3 a4 a5)), .val (.int (own_ge (own_doc i) (own_doc j))), .unset, .unset] [])) (fun _ k => ?_) ?_
  · show Steps p.tables e below (T3.setTop (mkF m 35 #[.val (.int p1), .val (.int p2), .val (.int i), .val (.int j), .val (.ref (own_pick i a00 a1 a2 a3 a4 a5)), .val (.ref (own_pick j a00 a1 a2 a3 a4 a5)), .unset, .unset, .unset] [(.int (own_ge (own_doc i) (own_doc j)))])) _
    refine XS.istore X3.here hx rfl (hb hby at_35) rfl (l' := #[.val (.int p1), .val (.int p2), .val (.int i), .val (.int j), .val (.ref (own_pick i a00 a1 a2 a3 a4 a5)), .val (.ref (own_pick j a00 a1 a2 a3 a4 a5)), .val (.int (own_ge (own_doc i) (own_doc j))), .unset, .unset]) rfl ?_
    show Steps p.tables e below (T3.setTop (mkF m 37 #[.val (.int p1), .val (.int p2), .val (.int i), .val (.int j), .val (.ref (own_pick i a00 a1 a2 a3 a4 a5)), .val (.ref (own_pick j a00 a1 a2 a3 a4 a5)), .val (.int (own_ge (own_doc i) (own_doc j))), .unset, .unset] [])) _
    exact k
  refine OEnds.cut (fun En => ∀ (z : Int32), z = own_ge i j → En (T3.setTop (mkF m 47 #[.val (.int p1), .val (.int p2), .val (.int i), .val (.int j), .val (.ref (own_pick i a00 a1 a2 a3 a4 a5)), .val (.ref (own_pick j a00 a1 a2 a3 a4 a5)), .val (.int (own_ge (own_doc i) (own_doc j))), .unset, .unset] [(.int z)]))) ?_ (fun K47 => ?_)
  · intro z hz
    refine OEnds.go (t' := T3.setTop (mkF m 50 #[.val (.int p1), .val (.int p2), .val (.int i), .val (.int j), .val (.ref (own_pick i a00 a1 a2 a3 a4 a5)), .val (.ref (own_pick j a00 a1 a2 a3 a4 a5)), .val (.int (own_ge (own_doc i) (own_doc j))), .val (.int z), .unset] [(.int i)])) (fun _ k => ?_) ?_
    · show Steps p.tables e below (T3.setTop (mkF m 47 #[.val (.int p1), .val (.int p2), .val (.int i), .val (.int j), .val (.ref (own_pick i a00 a1 a2 a3 a4 a5)), .val (.ref (own_pick j a00 a1 a2 a3 a4 a5)), .val (.int (own_ge (own_doc i) (own_doc j))), .unset, .unset] [(.int z)])) _
      refine XS.istore X3.here hx rfl (hb hby at_47) rfl (l' := #[.val (.int p1), .val (.int p2), .val (.int i), .val (.int j), .val (.ref (own_pick i a00 a1 a2 a3 a4 a5)), .val (.ref (own_pick j a00 a1 a2 a3 a4 a5)), .val (.int (own_ge (own_doc i) (own_doc j))), .val (.int z), .unset]) rfl ?_
      show Steps p.tables e below (T3.setTop (mkF m 49 #[.val (.int p1), .val (.int p2), .val (.int i), .val (.int j), .val (.ref (own_pick i a00 a1 a2 a3 a4 a5)), .val (.ref (own_pick j a00 a1 a2 a3 a4 a5)), .val (.int (own_ge (own_doc i) (own_doc j))), .val (.int z), .unset] [])) _
      refine XS.iloadN X3.here hx rfl (hb hby at_49) rfl ?_
      show Steps p.tables e below (T3.setTop (mkF m 50 #[.val (.int p1), .val (.int p2), .val (.int i), .val (.int j), .val (.ref (own_pick i a00 a1 a2 a3 a4 a5)), .val (.ref (own_pick j a00 a1 a2 a3 a4 a5)), .val (.int (own_ge (own_doc i) (own_doc j))), .val (.int z), .unset] [(.int i)])) _
      exact k
    obtain ⟨_, _, ⟨T4, L4, k4, n4⟩, -, X4, ⟨Lc4, hQ4, l4, y4, z4⟩, st4⟩ := Jvm.LawKit.callS X3 hx (y := (⟨"com/example/token_mint/tokenmint/model/AccessLevelIsAtLeastPinLaw", "documentedNumber", "(I)I"⟩ : MethodName)) hown (mvT hZ (hw _ (List.mem_of_getElem? (i := 17) rfl))) (mvT hZ (hw _ (List.mem_of_getElem? (i := 18) rfl))) (mvT hZ (hw _ (List.mem_of_getElem? (i := 3) rfl))) (mvT hZ (hw _ (List.mem_of_getElem? (i := 19) rfl))) (by decide) (backOf (W := 0) (rm3 l Z a0 hw [] i h0 n0 Z0 ) hZ (hw _ (List.mem_of_getElem? (i := 19) rfl)) (hw _ (List.mem_of_getElem? (i := 3) rfl)) (by decide) (by decide)) (g := (mkF m 50 #[.val (.int p1), .val (.int p2), .val (.int i), .val (.int j), .val (.ref (own_pick i a00 a1 a2 a3 a4 a5)), .val (.ref (own_pick j a00 a1 a2 a3 a4 a5)), .val (.int (own_ge (own_doc i) (own_doc j))), .val (.int z), .unset] [(.int i)])) rfl (by rw [hml]; rfl) (argsL := [(.int i)]) (rest := []) (lenOf pd_rm0_2 rfl) rfl (by show 2 * 0 + _ ≤ _; exact Nat.le_of_eq rfl) (hb hby at_50) (fun _ _ => ⟨rfl, eh3, (by decide : 0 + 0 ≤ _), (by decide : 0 + 0 ≤ _)⟩)
    dsimp only [Pt.U, Pt.locs, Pt.cells, Pt.slots] at X4 l4 y4 z4 st4 hQ4
    subst l4 y4 z4
    obtain ⟨rfl, N4q, eh⟩ := hQ4
    have N4 := Fr.app N3 N4q
    have eh4 := eh
    refine OEnds.go (t' := T4.setTop (mkF m 53 #[.val (.int p1), .val (.int p2), .val (.int i), .val (.int j), .val (.ref (own_pick i a00 a1 a2 a3 a4 a5)), .val (.ref (own_pick j a00 a1 a2 a3 a4 a5)), .val (.int (own_ge (own_doc i) (own_doc j))), .val (.int z), .unset] [(.int (own_doc i))])) (fun _ k => st4 _ k) ?_
    refine OEnds.go (t' := T4.setTop (mkF m 54 #[.val (.int p1), .val (.int p2), .val (.int i), .val (.int j), .val (.ref (own_pick i a00 a1 a2 a3 a4 a5)), .val (.ref (own_pick j a00 a1 a2 a3 a4 a5)), .val (.int (own_ge (own_doc i) (own_doc j))), .val (.int z), .unset] [(.int j), (.int (own_doc i))])) (fun _ k => ?_) ?_
    · show Steps p.tables e below (T4.setTop (mkF m 53 #[.val (.int p1), .val (.int p2), .val (.int i), .val (.int j), .val (.ref (own_pick i a00 a1 a2 a3 a4 a5)), .val (.ref (own_pick j a00 a1 a2 a3 a4 a5)), .val (.int (own_ge (own_doc i) (own_doc j))), .val (.int z), .unset] [(.int (own_doc i))])) _
      refine XS.iloadN X4.here hx rfl (hb hby at_53) rfl ?_
      show Steps p.tables e below (T4.setTop (mkF m 54 #[.val (.int p1), .val (.int p2), .val (.int i), .val (.int j), .val (.ref (own_pick i a00 a1 a2 a3 a4 a5)), .val (.ref (own_pick j a00 a1 a2 a3 a4 a5)), .val (.int (own_ge (own_doc i) (own_doc j))), .val (.int z), .unset] [(.int j), (.int (own_doc i))])) _
      exact k
    obtain ⟨_, _, ⟨T5, L5, k5, n5⟩, -, X5, ⟨Lc5, hQ5, l5, y5, z5⟩, st5⟩ := Jvm.LawKit.callS X4 hx (y := (⟨"com/example/token_mint/tokenmint/model/AccessLevelIsAtLeastPinLaw", "documentedNumber", "(I)I"⟩ : MethodName)) hown (mvT hZ (hw _ (List.mem_of_getElem? (i := 17) rfl))) (mvT hZ (hw _ (List.mem_of_getElem? (i := 18) rfl))) (mvT hZ (hw _ (List.mem_of_getElem? (i := 3) rfl))) (mvT hZ (hw _ (List.mem_of_getElem? (i := 19) rfl))) (by decide) (backOf (W := 1) (rm3 l Z a0 hw [] j h0 n0 Z0 ) hZ (hw _ (List.mem_of_getElem? (i := 19) rfl)) (hw _ (List.mem_of_getElem? (i := 3) rfl)) (by decide) (by decide)) (g := (mkF m 54 #[.val (.int p1), .val (.int p2), .val (.int i), .val (.int j), .val (.ref (own_pick i a00 a1 a2 a3 a4 a5)), .val (.ref (own_pick j a00 a1 a2 a3 a4 a5)), .val (.int (own_ge (own_doc i) (own_doc j))), .val (.int z), .unset] [(.int j), (.int (own_doc i))])) rfl (by rw [hml]; rfl) (argsL := [(.int j)]) (rest := [(.int (own_doc i))]) (lenOf pd_rm0_2 rfl) rfl (by show 2 * 0 + _ ≤ _; exact Nat.le_of_eq rfl) (hb hby at_54) (fun _ _ => ⟨rfl, eh4, (by decide : 0 + 0 ≤ _), (by decide : 0 + 0 ≤ _)⟩)
    dsimp only [Pt.U, Pt.locs, Pt.cells, Pt.slots] at X5 l5 y5 z5 st5 hQ5
    subst l5 y5 z5
    obtain ⟨rfl, N5q, eh⟩ := hQ5
    have N5 := Fr.app N4 N5q
    have eh5 := eh
    refine OEnds.go (t' := T5.setTop (mkF m 57 #[.val (.int p1), .val (.int p2), .val (.int i), .val (.int j), .val (.ref (own_pick i a00 a1 a2 a3 a4 a5)), .val (.ref (own_pick j a00 a1 a2 a3 a4 a5)), .val (.int (own_ge (own_doc i) (own_doc j))), .val (.int z), .unset] [(.int (own_doc j)), (.int (own_doc i))])) (fun _ k => st5 _ k) ?_
    refine OEnds.cut (fun En => ∀ (z2 : Int32), z2 = own_ge (own_doc i) (own_doc j) → En (T5.setTop (mkF m 65 #[.val (.int p1), .val (.int p2), .val (.int i), .val (.int j), .val (.ref (own_pick i a00 a1 a2 a3 a4 a5)), .val (.ref (own_pick j a00 a1 a2 a3 a4 a5)), .val (.int (own_ge (own_doc i) (own_doc j))), .val (.int z), .unset] [(.int z2)]))) ?_ (fun K65 => ?_)
    · intro z2 hz2
      refine OEnds.go (t' := T5.setTop (mkF m 71 #[.val (.int p1), .val (.int p2), .val (.int i), .val (.int j), .val (.ref (own_pick i a00 a1 a2 a3 a4 a5)), .val (.ref (own_pick j a00 a1 a2 a3 a4 a5)), .val (.int (own_ge (own_doc i) (own_doc j))), .val (.int z), .val (.int z2)] [(.int z), (.int (own_ge (own_doc i) (own_doc j)))])) (fun _ k => ?_) ?_
      · show Steps p.tables e below (T5.setTop (mkF m 65 #[.val (.int p1), .val (.int p2), .val (.int i), .val (.int j), .val (.ref (own_pick i a00 a1 a2 a3 a4 a5)), .val (.ref (own_pick j a00 a1 a2 a3 a4 a5)), .val (.int (own_ge (own_doc i) (own_doc j))), .val (.int z), .unset] [(.int z2)])) _
        refine XS.istore X5.here hx rfl (hb hby at_65) rfl (l' := #[.val (.int p1), .val (.int p2), .val (.int i), .val (.int j), .val (.ref (own_pick i a00 a1 a2 a3 a4 a5)), .val (.ref (own_pick j a00 a1 a2 a3 a4 a5)), .val (.int (own_ge (own_doc i) (own_doc j))), .val (.int z), .val (.int z2)]) rfl ?_
        show Steps p.tables e below (T5.setTop (mkF m 67 #[.val (.int p1), .val (.int p2), .val (.int i), .val (.int j), .val (.ref (own_pick i a00 a1 a2 a3 a4 a5)), .val (.ref (own_pick j a00 a1 a2 a3 a4 a5)), .val (.int (own_ge (own_doc i) (own_doc j))), .val (.int z), .val (.int z2)] [])) _
        refine XS.iload X5.here hx rfl (hb hby at_67) rfl ?_
        show Steps p.tables e below (T5.setTop (mkF m 69 #[.val (.int p1), .val (.int p2), .val (.int i), .val (.int j), .val (.ref (own_pick i a00 a1 a2 a3 a4 a5)), .val (.ref (own_pick j a00 a1 a2 a3 a4 a5)), .val (.int (own_ge (own_doc i) (own_doc j))), .val (.int z), .val (.int z2)] [(.int (own_ge (own_doc i) (own_doc j)))])) _
        refine XS.iload X5.here hx rfl (hb hby at_69) rfl ?_
        show Steps p.tables e below (T5.setTop (mkF m 71 #[.val (.int p1), .val (.int p2), .val (.int i), .val (.int j), .val (.ref (own_pick i a00 a1 a2 a3 a4 a5)), .val (.ref (own_pick j a00 a1 a2 a3 a4 a5)), .val (.int (own_ge (own_doc i) (own_doc j))), .val (.int z), .val (.int z2)] [(.int z), (.int (own_ge (own_doc i) (own_doc j)))])) _
        exact k
      refine OEnds.go (t' := T5.setTop (mkF m 74 #[.val (.int p1), .val (.int p2), .val (.int i), .val (.int j), .val (.ref (own_pick i a00 a1 a2 a3 a4 a5)), .val (.ref (own_pick j a00 a1 a2 a3 a4 a5)), .val (.int (own_ge (own_doc i) (own_doc j))), .val (.int z), .val (.int z2)] [])) (fun _ k => XS.icmpNo X5.here hx rfl (hb hby at_71) rfl (teq ((own_law hi hj).trans hz.symm)).2 k) ?_
      refine OEnds.go (t' := T5.setTop (mkF m 78 #[.val (.int p1), .val (.int p2), .val (.int i), .val (.int j), .val (.ref (own_pick i a00 a1 a2 a3 a4 a5)), .val (.ref (own_pick j a00 a1 a2 a3 a4 a5)), .val (.int (own_ge (own_doc i) (own_doc j))), .val (.int z), .val (.int z2)] [(.int z2), (.int (own_ge (own_doc i) (own_doc j)))])) (fun _ k => ?_) ?_
      · show Steps p.tables e below (T5.setTop (mkF m 74 #[.val (.int p1), .val (.int p2), .val (.int i), .val (.int j), .val (.ref (own_pick i a00 a1 a2 a3 a4 a5)), .val (.ref (own_pick j a00 a1 a2 a3 a4 a5)), .val (.int (own_ge (own_doc i) (own_doc j))), .val (.int z), .val (.int z2)] [])) _
        refine XS.iload X5.here hx rfl (hb hby at_74) rfl ?_
        show Steps p.tables e below (T5.setTop (mkF m 76 #[.val (.int p1), .val (.int p2), .val (.int i), .val (.int j), .val (.ref (own_pick i a00 a1 a2 a3 a4 a5)), .val (.ref (own_pick j a00 a1 a2 a3 a4 a5)), .val (.int (own_ge (own_doc i) (own_doc j))), .val (.int z), .val (.int z2)] [(.int (own_ge (own_doc i) (own_doc j)))])) _
        refine XS.iload X5.here hx rfl (hb hby at_76) rfl ?_
        show Steps p.tables e below (T5.setTop (mkF m 78 #[.val (.int p1), .val (.int p2), .val (.int i), .val (.int j), .val (.ref (own_pick i a00 a1 a2 a3 a4 a5)), .val (.ref (own_pick j a00 a1 a2 a3 a4 a5)), .val (.int (own_ge (own_doc i) (own_doc j))), .val (.int z), .val (.int z2)] [(.int z2), (.int (own_ge (own_doc i) (own_doc j)))])) _
        exact k
      refine OEnds.go (t' := T5.setTop (mkF m 81 #[.val (.int p1), .val (.int p2), .val (.int i), .val (.int j), .val (.ref (own_pick i a00 a1 a2 a3 a4 a5)), .val (.ref (own_pick j a00 a1 a2 a3 a4 a5)), .val (.int (own_ge (own_doc i) (own_doc j))), .val (.int z), .val (.int z2)] [])) (fun _ k => XS.icmpNo X5.here hx rfl (hb hby at_78) rfl (teq hz2.symm).2 k) ?_
      refine OEnds.go (t' := T5.setTop (mkF m 86 #[.val (.int p1), .val (.int p2), .val (.int i), .val (.int j), .val (.ref (own_pick i a00 a1 a2 a3 a4 a5)), .val (.ref (own_pick j a00 a1 a2 a3 a4 a5)), .val (.int (own_ge (own_doc i) (own_doc j))), .val (.int z), .val (.int z2)] [(.int (1 : Int32))])) (fun _ k => ?_) ?_
      · show Steps p.tables e below (T5.setTop (mkF m 81 #[.val (.int p1), .val (.int p2), .val (.int i), .val (.int j), .val (.ref (own_pick i a00 a1 a2 a3 a4 a5)), .val (.ref (own_pick j a00 a1 a2 a3 a4 a5)), .val (.int (own_ge (own_doc i) (own_doc j))), .val (.int z), .val (.int z2)] [])) _
        refine XS.iconst X5.here hx rfl (hb hby at_81) ?_
        show Steps p.tables e below (T5.setTop (mkF m 82 #[.val (.int p1), .val (.int p2), .val (.int i), .val (.int j), .val (.ref (own_pick i a00 a1 a2 a3 a4 a5)), .val (.ref (own_pick j a00 a1 a2 a3 a4 a5)), .val (.int (own_ge (own_doc i) (own_doc j))), .val (.int z), .val (.int z2)] [(.int (1 : Int32))])) _
        refine XS.goto X5.here hx rfl (pc0 := 82) (pc' := 86) rfl (hb hby at_82) (by decide) (by decide) ?_
        show Steps p.tables e below (T5.setTop (mkF m 86 #[.val (.int p1), .val (.int p2), .val (.int i), .val (.int j), .val (.ref (own_pick i a00 a1 a2 a3 a4 a5)), .val (.ref (own_pick j a00 a1 a2 a3 a4 a5)), .val (.int (own_ge (own_doc i) (own_doc j))), .val (.int z), .val (.int z2)] [(.int (1 : Int32))])) _
        exact k
      refine OEnds.back X5 hlk (v := (some (.int (1 : Int32)))) (fun h => by rw [hrt] at h; cases h) (fun fs hr => ?_) ?_ (by decide) (by decide)
      · exact retN X5 hx (t := .boolean) hrt (by simp) (hb hby at_86) hr
      · show Q0 Z p1 p2 a00 a1 a2 a3 a4 a5 h0 n0 _ T5.heap _
        rw [eh5]
        exact ⟨rfl, N5⟩
    by_cases h57 : (own_doc i) < (own_doc j)
    · refine OEnds.go (t' := T5.setTop (mkF m 64 #[.val (.int p1), .val (.int p2), .val (.int i), .val (.int j), .val (.ref (own_pick i a00 a1 a2 a3 a4 a5)), .val (.ref (own_pick j a00 a1 a2 a3 a4 a5)), .val (.int (own_ge (own_doc i) (own_doc j))), .val (.int z), .unset] [])) (fun _ k => XS.icmpYes X5.here hx rfl (pc0 := 57) (pc' := 64) rfl (hb hby at_57) rfl (tlt h57).1 (by decide) (by decide) k) ?_
      refine OEnds.go (t' := T5.setTop (mkF m 65 #[.val (.int p1), .val (.int p2), .val (.int i), .val (.int j), .val (.ref (own_pick i a00 a1 a2 a3 a4 a5)), .val (.ref (own_pick j a00 a1 a2 a3 a4 a5)), .val (.int (own_ge (own_doc i) (own_doc j))), .val (.int z), .unset] [(.int (0 : Int32))])) (fun _ k => ?_) ?_
      · show Steps p.tables e below (T5.setTop (mkF m 64 #[.val (.int p1), .val (.int p2), .val (.int i), .val (.int j), .val (.ref (own_pick i a00 a1 a2 a3 a4 a5)), .val (.ref (own_pick j a00 a1 a2 a3 a4 a5)), .val (.int (own_ge (own_doc i) (own_doc j))), .val (.int z), .unset] [])) _
        refine XS.iconst X5.here hx rfl (hb hby at_64) ?_
        show Steps p.tables e below (T5.setTop (mkF m 65 #[.val (.int p1), .val (.int p2), .val (.int i), .val (.int j), .val (.ref (own_pick i a00 a1 a2 a3 a4 a5)), .val (.ref (own_pick j a00 a1 a2 a3 a4 a5)), .val (.int (own_ge (own_doc i) (own_doc j))), .val (.int z), .unset] [(.int (0 : Int32))])) _
        exact k
      exact K65 _ (by rw [own_ge, if_pos h57])
    · refine OEnds.go (t' := T5.setTop (mkF m 60 #[.val (.int p1), .val (.int p2), .val (.int i), .val (.int j), .val (.ref (own_pick i a00 a1 a2 a3 a4 a5)), .val (.ref (own_pick j a00 a1 a2 a3 a4 a5)), .val (.int (own_ge (own_doc i) (own_doc j))), .val (.int z), .unset] [])) (fun _ k => XS.icmpNo X5.here hx rfl (hb hby at_57) rfl (flt h57).1 k) ?_
      refine OEnds.go (t' := T5.setTop (mkF m 65 #[.val (.int p1), .val (.int p2), .val (.int i), .val (.int j), .val (.ref (own_pick i a00 a1 a2 a3 a4 a5)), .val (.ref (own_pick j a00 a1 a2 a3 a4 a5)), .val (.int (own_ge (own_doc i) (own_doc j))), .val (.int z), .unset] [(.int (1 : Int32))])) (fun _ k => ?_) ?_
      · show Steps p.tables e below (T5.setTop (mkF m 60 #[.val (.int p1), .val (.int p2), .val (.int i), .val (.int j), .val (.ref (own_pick i a00 a1 a2 a3 a4 a5)), .val (.ref (own_pick j a00 a1 a2 a3 a4 a5)), .val (.int (own_ge (own_doc i) (own_doc j))), .val (.int z), .unset] [])) _
        refine XS.iconst X5.here hx rfl (hb hby at_60) ?_
        show Steps p.tables e below (T5.setTop (mkF m 61 #[.val (.int p1), .val (.int p2), .val (.int i), .val (.int j), .val (.ref (own_pick i a00 a1 a2 a3 a4 a5)), .val (.ref (own_pick j a00 a1 a2 a3 a4 a5)), .val (.int (own_ge (own_doc i) (own_doc j))), .val (.int z), .unset] [(.int (1 : Int32))])) _
        refine XS.goto X5.here hx rfl (pc0 := 61) (pc' := 65) rfl (hb hby at_61) (by decide) (by decide) ?_
        show Steps p.tables e below (T5.setTop (mkF m 65 #[.val (.int p1), .val (.int p2), .val (.int i), .val (.int j), .val (.ref (own_pick i a00 a1 a2 a3 a4 a5)), .val (.ref (own_pick j a00 a1 a2 a3 a4 a5)), .val (.int (own_ge (own_doc i) (own_doc j))), .val (.int z), .unset] [(.int (1 : Int32))])) _
        exact k
      exact K65 _ (by rw [own_ge, if_neg h57])
  refine OEnds.go (t' := T3.setTop (mkF m 39 #[.val (.int p1), .val (.int p2), .val (.int i), .val (.int j), .val (.ref (own_pick i a00 a1 a2 a3 a4 a5)), .val (.ref (own_pick j a00 a1 a2 a3 a4 a5)), .val (.int (own_ge (own_doc i) (own_doc j))), .unset, .unset] [(.int j), (.int i)])) (fun _ k => ?_) ?_
  · show Steps p.tables e below (T3.setTop (mkF m 37 #[.val (.int p1), .val (.int p2), .val (.int i), .val (.int j), .val (.ref (own_pick i a00 a1 a2 a3 a4 a5)), .val (.ref (own_pick j a00 a1 a2 a3 a4 a5)), .val (.int (own_ge (own_doc i) (own_doc j))), .unset, .unset] [])) _
    refine XS.iloadN X3.here hx rfl (hb hby at_37) rfl ?_
    show Steps p.tables e below (T3.setTop (mkF m 38 #[.val (.int p1), .val (.int p2), .val (.int i), .val (.int j), .val (.ref (own_pick i a00 a1 a2 a3 a4 a5)), .val (.ref (own_pick j a00 a1 a2 a3 a4 a5)), .val (.int (own_ge (own_doc i) (own_doc j))), .unset, .unset] [(.int i)])) _
    refine XS.iloadN X3.here hx rfl (hb hby at_38) rfl ?_
    show Steps p.tables e below (T3.setTop (mkF m 39 #[.val (.int p1), .val (.int p2), .val (.int i), .val (.int j), .val (.ref (own_pick i a00 a1 a2 a3 a4 a5)), .val (.ref (own_pick j a00 a1 a2 a3 a4 a5)), .val (.int (own_ge (own_doc i) (own_doc j))), .unset, .unset] [(.int j), (.int i)])) _
    exact k
  by_cases h39 : i < j
  · refine OEnds.go (t' := T3.setTop (mkF m 46 #[.val (.int p1), .val (.int p2), .val (.int i), .val (.int j), .val (.ref (own_pick i a00 a1 a2 a3 a4 a5)), .val (.ref (own_pick j a00 a1 a2 a3 a4 a5)), .val (.int (own_ge (own_doc i) (own_doc j))), .unset, .unset] [])) (fun _ k => XS.icmpYes X3.here hx rfl (pc0 := 39) (pc' := 46) rfl (hb hby at_39) rfl (tlt h39).1 (by decide) (by decide) k) ?_
    refine OEnds.go (t' := T3.setTop (mkF m 47 #[.val (.int p1), .val (.int p2), .val (.int i), .val (.int j), .val (.ref (own_pick i a00 a1 a2 a3 a4 a5)), .val (.ref (own_pick j a00 a1 a2 a3 a4 a5)), .val (.int (own_ge (own_doc i) (own_doc j))), .unset, .unset] [(.int (0 : Int32))])) (fun _ k => ?_) ?_
    · show Steps p.tables e below (T3.setTop (mkF m 46 #[.val (.int p1), .val (.int p2), .val (.int i), .val (.int j), .val (.ref (own_pick i a00 a1 a2 a3 a4 a5)), .val (.ref (own_pick j a00 a1 a2 a3 a4 a5)), .val (.int (own_ge (own_doc i) (own_doc j))), .unset, .unset] [])) _
      refine XS.iconst X3.here hx rfl (hb hby at_46) ?_
      show Steps p.tables e below (T3.setTop (mkF m 47 #[.val (.int p1), .val (.int p2), .val (.int i), .val (.int j), .val (.ref (own_pick i a00 a1 a2 a3 a4 a5)), .val (.ref (own_pick j a00 a1 a2 a3 a4 a5)), .val (.int (own_ge (own_doc i) (own_doc j))), .unset, .unset] [(.int (0 : Int32))])) _
      exact k
    exact K47 _ (by rw [own_ge, if_pos h39])
  · refine OEnds.go (t' := T3.setTop (mkF m 42 #[.val (.int p1), .val (.int p2), .val (.int i), .val (.int j), .val (.ref (own_pick i a00 a1 a2 a3 a4 a5)), .val (.ref (own_pick j a00 a1 a2 a3 a4 a5)), .val (.int (own_ge (own_doc i) (own_doc j))), .unset, .unset] [])) (fun _ k => XS.icmpNo X3.here hx rfl (hb hby at_39) rfl (flt h39).1 k) ?_
    refine OEnds.go (t' := T3.setTop (mkF m 47 #[.val (.int p1), .val (.int p2), .val (.int i), .val (.int j), .val (.ref (own_pick i a00 a1 a2 a3 a4 a5)), .val (.ref (own_pick j a00 a1 a2 a3 a4 a5)), .val (.int (own_ge (own_doc i) (own_doc j))), .unset, .unset] [(.int (1 : Int32))])) (fun _ k => ?_) ?_
    · show Steps p.tables e below (T3.setTop (mkF m 42 #[.val (.int p1), .val (.int p2), .val (.int i), .val (.int j), .val (.ref (own_pick i a00 a1 a2 a3 a4 a5)), .val (.ref (own_pick j a00 a1 a2 a3 a4 a5)), .val (.int (own_ge (own_doc i) (own_doc j))), .unset, .unset] [])) _
      refine XS.iconst X3.here hx rfl (hb hby at_42) ?_
      show Steps p.tables e below (T3.setTop (mkF m 43 #[.val (.int p1), .val (.int p2), .val (.int i), .val (.int j), .val (.ref (own_pick i a00 a1 a2 a3 a4 a5)), .val (.ref (own_pick j a00 a1 a2 a3 a4 a5)), .val (.int (own_ge (own_doc i) (own_doc j))), .unset, .unset] [(.int (1 : Int32))])) _
      refine XS.goto X3.here hx rfl (pc0 := 43) (pc' := 47) rfl (hb hby at_43) (by decide) (by decide) ?_
      show Steps p.tables e below (T3.setTop (mkF m 47 #[.val (.int p1), .val (.int p2), .val (.int i), .val (.int j), .val (.ref (own_pick i a00 a1 a2 a3 a4 a5)), .val (.ref (own_pick j a00 a1 a2 a3 a4 a5)), .val (.int (own_ge (own_doc i) (own_doc j))), .unset, .unset] [(.int (1 : Int32))])) _
      exact k
    exact K47 _ (by rw [own_ge, if_neg h39])
set_option maxRecDepth 65536 in
set_option maxHeartbeats 40000000 in
theorem comes_1 {Post : Tables → Env → Array Value → State → Outcome → State → Prop} (hpost : ∀ tb e args s v u, (limb_1_1.after args s (.returned v) u = true ∧ limb_1_2.after args s (.returned v) u = true ∧ True) → FrameEnd s (.returned v) u (Jvm.fieldLocs frame_1_writes args s ++ Jvm.arrayLocs frame_1_arrays args s ++ Jvm.staticLocs frame_1_statics s) 0 0 → Post tb e args s (.returned v) u) :
    ArmFor flags0 classFile x code maxLocals ret World_1 tables_1 room_1 Calls_1 rest_1 Pre_1 Post := by
  intro l hfl _ _ p e ha hc hk s m args below hf hA hF happ hP
  obtain ⟨hcalls, hrest, hpre⟩ := hP
  obtain ⟨-, -, -, hnamed, -, -, -, hat⟩ := (Spec.applies_iff hf).mp happ
  obtain ⟨hg, hn⟩ := and_e (Cond.before_iff.mp (show (Jvm.Cond.and given_1 narrow_1).before args s = true from hpre))
  obtain ⟨gc, g0⟩ := and_e hg
  obtain ⟨ga0, g1⟩ := and_e g0
  obtain ⟨w0, w1, rfl⟩ : ∃ w0 w1 : Value, args = #[w0, w1] := by
    have hs : args.size = 2 := by simpa [Cond.value, given_1] using gc
    obtain ⟨L⟩ := args
    match L, hs with
    | [w0, w1], _ => exact ⟨w0, w1, rfl⟩
  have hw := fun d (hd : d ∈ tables_1) => atoms_spec (ws := Jvm.Cond.code x code maxLocals ret :: tables_1) hat d (List.mem_cons_of_mem _ hd)
  have hfit : Fit s := fun {y c} hc i hi => by
    obtain ⟨ha, rfl⟩ := Array.getElem?_eq_some_iff.mp hc
    have q := List.all_eq_true.mp ((Array.all_eq_true_iff_forall_mem.mp hF) _ (Array.getElem_mem ha)) i (List.mem_range.mpr hi)
    simpa [Array.getElem?_eq_getElem hi] using q
  obtain ⟨i0, ei0⟩ := is_v ga0
  obtain rfl : w0 = (.int i0) := Option.some.inj ei0
  obtain ⟨i1, ei1⟩ := is_v g1
  obtain rfl : w1 = (.int i1) := Option.some.inj ei1
  obtain ⟨n0, hn0⟩ := and_e hn
  obtain ⟨n1, hn1⟩ := and_e hn0
  obtain ⟨n2, hn2⟩ := and_e hn1
  obtain ⟨n3, hn3⟩ := and_e hn2
  obtain ⟨n4, hn4⟩ := and_e hn3
  obtain ⟨n5, hn5⟩ := and_e hn4
  obtain ⟨n6, hn6⟩ := and_e hn5
  obtain ⟨n7, hn7⟩ := and_e hn6
  obtain ⟨n8, hn8⟩ := and_e hn7
  obtain ⟨n9, hn9⟩ := and_e hn8
  obtain ⟨n10, hn10⟩ := and_e hn9
  have n11 := hn10
  obtain ⟨a_GUEST, v_GUEST⟩ := exa_v n0
  have E_GUEST := Exa.start v_GUEST n0
  have S_GUEST := Sta.start v_GUEST (Or.inr ⟨(hw _ (List.mem_of_getElem? (i := 6) rfl)), (hw _ (List.mem_of_getElem? (i := 7) rfl))⟩)
  obtain ⟨a_DEVELOPER, v_DEVELOPER⟩ := exa_v n1
  have E_DEVELOPER := Exa.start v_DEVELOPER n1
  have S_DEVELOPER := Sta.start v_DEVELOPER (Or.inr ⟨(hw _ (List.mem_of_getElem? (i := 6) rfl)), (hw _ (List.mem_of_getElem? (i := 9) rfl))⟩)
  obtain ⟨a_REPORTER, v_REPORTER⟩ := exa_v n4
  have E_REPORTER := Exa.start v_REPORTER n4
  have S_REPORTER := Sta.start v_REPORTER (Or.inr ⟨(hw _ (List.mem_of_getElem? (i := 6) rfl)), (hw _ (List.mem_of_getElem? (i := 21) rfl))⟩)
  obtain ⟨a_PLANNER, v_PLANNER⟩ := exa_v n5
  have E_PLANNER := Exa.start v_PLANNER n5
  have S_PLANNER := Sta.start v_PLANNER (Or.inr ⟨(hw _ (List.mem_of_getElem? (i := 6) rfl)), (hw _ (List.mem_of_getElem? (i := 23) rfl))⟩)
  obtain ⟨a_OWNER, v_OWNER⟩ := exa_v n8
  have E_OWNER := Exa.start v_OWNER n8
  have S_OWNER := Sta.start v_OWNER (Or.inr ⟨(hw _ (List.mem_of_getElem? (i := 6) rfl)), (hw _ (List.mem_of_getElem? (i := 25) rfl))⟩)
  obtain ⟨a_MAINTAINER, v_MAINTAINER⟩ := exa_v n10
  have E_MAINTAINER := Exa.start v_MAINTAINER n10
  have S_MAINTAINER := Sta.start v_MAINTAINER (Or.inr ⟨(hw _ (List.mem_of_getElem? (i := 6) rfl)), (hw _ (List.mem_of_getElem? (i := 27) rfl))⟩)
  have o_GUEST_value := own_fldi v_GUEST n2
  have o_DEVELOPER_value := own_fldi v_DEVELOPER n3
  have o_REPORTER_value := own_fldi v_REPORTER n6
  have o_PLANNER_value := own_fldi v_PLANNER n7
  have o_OWNER_value := own_fldi v_OWNER n9
  have o_MAINTAINER_value := own_fldi v_MAINTAINER n11
  obtain ⟨n, o, h1, h2, h3, _, L, rfl, ⟨rfl, N⟩, hq⟩ := rm0 l s _ hw tables_1 i0 i1 a_GUEST a_PLANNER a_REPORTER a_DEVELOPER a_MAINTAINER a_OWNER s.heap s.heap.size (Nat.le_refl _) S_GUEST S_PLANNER S_REPORTER S_DEVELOPER S_MAINTAINER S_OWNER E_GUEST E_PLANNER E_REPORTER E_DEVELOPER E_MAINTAINER E_OWNER (Fld.start o_GUEST_value) (Fld.start o_PLANNER_value) (Fld.start o_REPORTER_value) (Fld.start o_DEVELOPER_value) (Fld.start o_MAINTAINER_value) (Fld.start o_OWNER_value) p e ha hc hk s m _ below hf ((Spec.applies_iff_loose hf).mp happ).1 ⟨rfl, State.Warmed39.refl s, rfl⟩ trivial
  refine ⟨n, _, h1, h2, h3, hpost _ _ _ _ _ _ ⟨Cond.after_iff.mpr rfl, Cond.after_iff.mpr (eq_i res_at (Term.int_eval (1)) rfl), trivial⟩ ⟨hq.1, hq.2.1, (hq.2.2.sift fun y hy => Or.inr (N y hy)).mono (by decide) (by decide)⟩⟩
theorem main_1_1 : Claimed_1_1 := comes_1 fun _ _ _ _ _ _ h hF => ⟨h.1, hF⟩
theorem main_1_2 : Claimed_1_2 := comes_1 fun _ _ _ _ _ _ h hF => ⟨h.2.1, hF⟩
end Jvm.Pilot.@@N@@
namespace Jvm.Pilot.@@N@@
open Jvm Jvm.ClassFile Sem Op Lib Jvm.Free Jvm.Stand Jvm.Pilot.@@N@@.Jvm.D
/-! MADE BY PROGRAM (witnessworld.py) out of the Statement's table words and the real class files: 12 classes; the members and pool entries that the words name. The judged class is class 1, her method 3. -/
namespace start1
open Jvm.ClassFile
def u (s : String) : CpInfo := .utf8 (stringToUtf16 s)
/-- a pool by its gaps: so many unusable entries, then the entry; so many at the end -/
def gap : Nat → List CpInfo → List CpInfo
  | 0, r => r
  | n + 1, r => .unusable :: gap n r
def poolList (es : List (Nat × CpInfo)) (last : Nat) : List CpInfo := es.foldr (fun e r => gap e.1 (e.2 :: r)) (gap last [])
def pool (es : List (Nat × CpInfo)) (last : Nat) : Array CpInfo := ⟨poolList es last⟩
def fileOf (pool : Array CpInfo) (this : Nat) (attrs : Array Attribute := #[]) (ms : Array MethodInfo := #[]) (fl : Nat := 33) (sup : Nat := 0) (ifs : Array Nat := #[]) (fds : Array FieldInfo := #[]) : ClassFile where
  minorVersion := 0
  majorVersion := 65
  constantPool := pool
  accessFlags := fl
  thisClass := this
  superClass := sup
  interfaces := ifs
  fields := fds
  methods := ms
  attributes := attrs
def plain (name : String) (sup : Option ClassId) : Class where
  name := name
  kind := .ordinary
  loader := none
  accessFlags := 33
  super := sup
  interfaces := #[]
  cf := none
  fields := #[]
  methods := #[]
  instanceTypes := #[]
  staticTypes := #[]
  resolved := #[]
  callSites := []
  init := .initialized
  statics := none
  mirror := none

def pool0 : Array CpInfo := pool [(5, u "<init>"), (0, u "()V"), (1, .class_ 10), (1, u "java/lang/Object")] 113

def k0m0 : Method := { name := "<init>", desc := "()V", sig := { parameters := [], returnType := none }, accessFlags := 1, code := none }
/-- java/lang/Object -/
def k0 : Class := { plain "java/lang/Object" none with
  accessFlags := 33
  interfaces := #[]
  cf := some (fileOf pool0 8 #[] #[{ accessFlags := 1, nameIndex := 5, descriptorIndex := 6, attributes := #[] }] 33 0 #[] #[])
  fields := #[]
  methods := #[k0m0]
  instanceTypes := #[]
  staticTypes := #[]
  resolved := Array.replicate 124 none
  statics := none }

def pool1 : Array CpInfo := pool [(2, .class_ 4), (1, u "java/lang/Object"), (0, u "<init>"), (0, u "()V"), (0, .fieldref 8 9), (0, .class_ 10), (0, .nameAndType 11 12), (0, u "com/example/token_mint/tokenmint/model/AccessLevel"), (0, u "GUEST"), (0, u "Lcom/example/token_mint/tokenmint/model/AccessLevel;"), (0, .fieldref 8 14), (0, .nameAndType 15 12), (0, u "PLANNER"), (0, .fieldref 8 17), (0, .nameAndType 18 12), (0, u "REPORTER"), (0, .fieldref 8 20), (0, .nameAndType 21 12), (0, u "DEVELOPER"), (0, .fieldref 8 23), (0, .nameAndType 24 12), (0, u "MAINTAINER"), (0, .fieldref 8 26), (0, .nameAndType 27 12), (0, u "OWNER"), (0, .integer 2147483647), (0, .methodref 30 31), (0, .class_ 32), (0, .nameAndType 33 34), (0, u "com/example/token_mint/tokenmint/model/AccessLevelIsAtLeastPinLaw"), (0, u "pick"), (0, u "(I)Lcom/example/token_mint/tokenmint/model/AccessLevel;"), (0, .methodref 8 36), (0, .nameAndType 37 38), (0, u "isAtLeast"), (0, u "(Lcom/example/token_mint/tokenmint/model/AccessLevel;)Z"), (0, .methodref 30 40), (0, .nameAndType 41 42), (0, u "documentedNumber"), (0, u "(I)I"), (3, u "law"), (0, u "(II)Z")] 2

def k1m0 : Method := { name := "<init>", desc := "()V", sig := { parameters := [], returnType := none }, accessFlags := 1, code := none }
def k1c1 : Code := { maxStack := 2, maxLocals := 1, code := method_2_code, exceptionTable := #[], attributes := #[] }
def k1m1 : Method := { name := "pick", desc := "(I)Lcom/example/token_mint/tokenmint/model/AccessLevel;", sig := { parameters := [.int], returnType := some (.object "com/example/token_mint/tokenmint/model/AccessLevel") }, accessFlags := 10, code := some k1c1 }
def k1c2 : Code := { maxStack := 2, maxLocals := 1, code := method_3_code, exceptionTable := #[], attributes := #[] }
def k1m2 : Method := { name := "documentedNumber", desc := "(I)I", sig := { parameters := [.int], returnType := some .int }, accessFlags := 10, code := some k1c2 }
def k1c3 : Code := { maxStack := 2, maxLocals := 9, code := code, exceptionTable := #[], attributes := #[] }
def k1m3 : Method := { name := "law", desc := "(II)Z", sig := { parameters := [.int, .int], returnType := some .boolean }, accessFlags := 9, code := some k1c3 }
/-- com/example/token_mint/tokenmint/model/AccessLevelIsAtLeastPinLaw -/
def k1 : Class := { plain "com/example/token_mint/tokenmint/model/AccessLevelIsAtLeastPinLaw" (some 0) with
  accessFlags := 49
  interfaces := #[]
  cf := some (fileOf pool1 30 #[] #[{ accessFlags := 1, nameIndex := 5, descriptorIndex := 6, attributes := #[] }, { accessFlags := 10, nameIndex := 33, descriptorIndex := 34, attributes := #[] }, { accessFlags := 10, nameIndex := 41, descriptorIndex := 42, attributes := #[] }, { accessFlags := 9, nameIndex := 46, descriptorIndex := 47, attributes := #[] }] 49 2 #[] #[])
  fields := #[]
  methods := #[k1m0, k1m1, k1m2, k1m3]
  instanceTypes := #[]
  staticTypes := #[]
  resolved := Array.replicate 50 none
  statics := none }

def pool2 : Array CpInfo := pool [(1, .class_ 2), (0, u "java/lang/constant/Constable"), (0, .class_ 4), (0, u "java/lang/Object")] 6

/-- java/lang/constant/Constable -/
def k2 : Class := { plain "java/lang/constant/Constable" (some 0) with
  accessFlags := 1537
  interfaces := #[]
  cf := some (fileOf pool2 1 #[] #[] 1537 3 #[] #[])
  fields := #[]
  methods := #[]
  instanceTypes := #[]
  staticTypes := #[]
  resolved := Array.replicate 11 none
  statics := none }

def pool3 : Array CpInfo := pool [(1, .class_ 2), (0, u "java/lang/Comparable"), (0, .class_ 4), (0, u "java/lang/Object")] 7

/-- java/lang/Comparable -/
def k3 : Class := { plain "java/lang/Comparable" (some 0) with
  accessFlags := 1537
  interfaces := #[]
  cf := some (fileOf pool3 1 #[] #[] 1537 3 #[] #[])
  fields := #[]
  methods := #[]
  instanceTypes := #[]
  staticTypes := #[]
  resolved := Array.replicate 12 none
  statics := none }

def pool4 : Array CpInfo := pool [(1, .class_ 2), (0, u "java/io/Serializable"), (0, .class_ 4), (0, u "java/lang/Object")] 2

/-- java/io/Serializable -/
def k4 : Class := { plain "java/io/Serializable" (some 0) with
  accessFlags := 1537
  interfaces := #[]
  cf := some (fileOf pool4 1 #[] #[] 1537 3 #[] #[])
  fields := #[]
  methods := #[]
  instanceTypes := #[]
  staticTypes := #[]
  resolved := Array.replicate 7 none
  statics := none }

def pool5 : Array CpInfo := pool [(2, .class_ 4), (1, u "java/lang/Enum"), (0, u "name"), (0, u "Ljava/lang/String;"), (2, u "ordinal"), (0, u "I"), (1, .class_ 14), (1, u "java/lang/Object"), (4, u "hash"), (86, .class_ 108), (1, u "java/lang/Enum$EnumDesc"), (2, .class_ 112), (0, u "java/lang/constant/Constable"), (0, .class_ 114), (0, u "java/lang/Comparable"), (0, .class_ 116), (0, u "java/io/Serializable")] 87

/-- java/lang/Enum -/
def k5 : Class := { plain "java/lang/Enum" (some 0) with
  accessFlags := 1057
  interfaces := #[2, 3, 4]
  cf := some (fileOf pool5 2 #[.nestMembers #[106]] #[] 1057 12 #[111, 113, 115] #[{ accessFlags := 18, nameIndex := 5, descriptorIndex := 6, attributes := #[] }, { accessFlags := 18, nameIndex := 9, descriptorIndex := 10, attributes := #[] }, { accessFlags := 2, nameIndex := 19, descriptorIndex := 10, attributes := #[] }])
  fields := #[{ name := "name", type := (.object "java/lang/String"), accessFlags := 18, slot := 0, constantValue := 0 }, { name := "ordinal", type := .int, accessFlags := 18, slot := 1, constantValue := 0 }, { name := "hash", type := .int, accessFlags := 2, slot := 2, constantValue := 0 }]
  methods := #[]
  instanceTypes := #[(.object "java/lang/String"), .int, .int]
  staticTypes := #[]
  resolved := Array.replicate 204 none
  statics := none }

def pool6 : Array CpInfo := pool [(1, .class_ 2), (0, u "com/example/token_mint/tokenmint/model/AccessLevel"), (2, u "GUEST"), (0, u "Lcom/example/token_mint/tokenmint/model/AccessLevel;"), (2, u "PLANNER"), (2, u "REPORTER"), (2, u "DEVELOPER"), (2, u "MAINTAINER"), (2, u "OWNER"), (2, u "$VALUES"), (0, u "[Lcom/example/token_mint/tokenmint/model/AccessLevel;"), (6, .class_ 34), (1, u "java/lang/Enum"), (6, .fieldref 1 42), (0, .nameAndType 43 44), (0, u "value"), (0, u "I"), (33, u "isAtLeast"), (0, u "(Lcom/example/token_mint/tokenmint/model/AccessLevel;)Z")] 9

def k6c0 : Code := { maxStack := 2, maxLocals := 2, code := prog_11_method_5_code, exceptionTable := #[], attributes := #[] }
def k6m0 : Method := { name := "isAtLeast", desc := "(Lcom/example/token_mint/tokenmint/model/AccessLevel;)Z", sig := { parameters := [(.object "com/example/token_mint/tokenmint/model/AccessLevel")], returnType := some .boolean }, accessFlags := 1, code := some k6c0 }
/-- com/example/token_mint/tokenmint/model/AccessLevel -/
def k6 : Class := { plain "com/example/token_mint/tokenmint/model/AccessLevel" (some 5) with
  accessFlags := 16433
  interfaces := #[]
  cf := some (fileOf pool6 1 #[] #[{ accessFlags := 1, nameIndex := 78, descriptorIndex := 79, attributes := #[] }] 16433 32 #[] #[{ accessFlags := 16409, nameIndex := 5, descriptorIndex := 6, attributes := #[] }, { accessFlags := 16409, nameIndex := 9, descriptorIndex := 6, attributes := #[] }, { accessFlags := 16409, nameIndex := 12, descriptorIndex := 6, attributes := #[] }, { accessFlags := 16409, nameIndex := 15, descriptorIndex := 6, attributes := #[] }, { accessFlags := 16409, nameIndex := 18, descriptorIndex := 6, attributes := #[] }, { accessFlags := 16409, nameIndex := 21, descriptorIndex := 6, attributes := #[] }, { accessFlags := 18, nameIndex := 43, descriptorIndex := 44, attributes := #[] }, { accessFlags := 4122, nameIndex := 24, descriptorIndex := 25, attributes := #[] }])
  fields := #[{ name := "GUEST", type := (.object "com/example/token_mint/tokenmint/model/AccessLevel"), accessFlags := 16409, slot := 0, constantValue := 0 }, { name := "PLANNER", type := (.object "com/example/token_mint/tokenmint/model/AccessLevel"), accessFlags := 16409, slot := 1, constantValue := 0 }, { name := "REPORTER", type := (.object "com/example/token_mint/tokenmint/model/AccessLevel"), accessFlags := 16409, slot := 2, constantValue := 0 }, { name := "DEVELOPER", type := (.object "com/example/token_mint/tokenmint/model/AccessLevel"), accessFlags := 16409, slot := 3, constantValue := 0 }, { name := "MAINTAINER", type := (.object "com/example/token_mint/tokenmint/model/AccessLevel"), accessFlags := 16409, slot := 4, constantValue := 0 }, { name := "OWNER", type := (.object "com/example/token_mint/tokenmint/model/AccessLevel"), accessFlags := 16409, slot := 5, constantValue := 0 }, { name := "value", type := .int, accessFlags := 18, slot := 3, constantValue := 0 }, { name := "$VALUES", type := (.array (.object "com/example/token_mint/tokenmint/model/AccessLevel")), accessFlags := 4122, slot := 6, constantValue := 0 }]
  methods := #[k6m0]
  instanceTypes := #[(.object "java/lang/String"), .int, .int, .int]
  staticTypes := #[(.object "com/example/token_mint/tokenmint/model/AccessLevel"), (.object "com/example/token_mint/tokenmint/model/AccessLevel"), (.object "com/example/token_mint/tokenmint/model/AccessLevel"), (.object "com/example/token_mint/tokenmint/model/AccessLevel"), (.object "com/example/token_mint/tokenmint/model/AccessLevel"), (.object "com/example/token_mint/tokenmint/model/AccessLevel"), (.array (.object "com/example/token_mint/tokenmint/model/AccessLevel"))]
  resolved := Array.replicate 89 none
  statics := some 0 }

def pool7 : Array CpInfo := pool [(1, u "java/lang/Cloneable"), (0, .class_ 1), (0, u "java/lang/Object"), (0, .class_ 3)] 3

/-- java/lang/Cloneable -/
def k7 : Class := { plain "java/lang/Cloneable" (some 0) with
  accessFlags := 1537
  interfaces := #[]
  cf := some (fileOf pool7 2 #[] #[] 1537 4 #[] #[])
  fields := #[]
  methods := #[]
  instanceTypes := #[]
  staticTypes := #[]
  resolved := Array.replicate 8 none
  statics := none }

/-- the primitive byte -/
def k8 : Class := { plain "byte" none with kind := .primitive 'B', accessFlags := 0x411 }
/-- [B -/
def k9 : Class := { plain "[B" (some 0) with kind := .array 8 .byte, interfaces := #[7, 4], accessFlags := 1041 }

/-- the primitive int -/
def k10 : Class := { plain "int" none with kind := .primitive 'I', accessFlags := 0x411 }
/-- [I -/
def k11 : Class := { plain "[I" (some 0) with kind := .array 10 .int, interfaces := #[7, 4], accessFlags := 1041 }

def heap : Heap := #[{ cls := 6, slots := #[.ref 1, .ref 2, .ref 3, .ref 4, .ref 5, .ref 6, .null], vm := .statics 6 },
  { cls := 6, slots := #[.null, .int 0, .int 0, .int 10], vm := .none },
  { cls := 6, slots := #[.null, .int 1, .int 0, .int 15], vm := .none },
  { cls := 6, slots := #[.null, .int 2, .int 0, .int 20], vm := .none },
  { cls := 6, slots := #[.null, .int 3, .int 0, .int 30], vm := .none },
  { cls := 6, slots := #[.null, .int 4, .int 0, .int 40], vm := .none },
  { cls := 6, slots := #[.null, .int 5, .int 0, .int 50], vm := .none }]
def classes : Array Class := #[k0, k1, k2, k3, k4, k5, k6, k7, k8, k9, k10, k11]
def interned : List (Array UInt16 × Addr) := []
def slotsUsed : Nat := 31
def theMethod : MethodId := ⟨1, 3⟩
def args0 : Array Value := #[.int 4, .int 7]
def aboutOver (below : List Frame) : State where
  vm := { classes := classes, interned := interned.toArray }
  heap := heap
  slotsUsed := slotsUsed
  threads := #[{ frames := .invoking theMethod args0 :: below }]
def below0 : List Frame := [.native { method := ⟨0, 0⟩, args := #[] }]
def about1 : State := aboutOver below0
def p0 : Program := .bare "" "" ""
def e0 : Env := launch0.env 0 0 0
theorem w_frames : about1.frames = Frame.invoking theMethod args0 :: below0 := rfl
set_option maxRecDepth 65536 in
theorem w_args : argsFit about1.vm theMethod args0 = true := by decide +kernel
set_option maxRecDepth 65536 in
theorem w_heap : heapFits about1 = true := by decide +kernel
set_option maxRecDepth 65536 in
theorem w_runnable : about1.curStatus? = some .runnable := by decide +kernel
set_option maxRecDepth 65536 in
theorem w_alone : about1.alone = true := by decide +kernel
set_option maxRecDepth 65536 in
theorem w_named : about1.methodNamed? x = some theMethod := by decide +kernel
set_option maxRecDepth 65536 in
theorem w_hears : about1.hears theMethod below0 = true := by decide +kernel
set_option maxRecDepth 65536 in
theorem w_ripe : about1.ripe theMethod args0 below0 = true := by decide +kernel
theorem w_running : about1.status = .running := rfl
set_option maxRecDepth 65536 in
theorem w_room : about1.hasRoom e0.platform room_1 = true :=
  launch0.hasRoom_least _ room_1 (by decide +kernel) (by decide +kernel) (by decide +kernel) (by decide +kernel) (by decide +kernel) (by decide +kernel)
theorem allAtoms_all (ts : List Jvm.Cond) (a : Array Jvm.Value) (st : Jvm.State) : (allAtoms ts).before a st = ts.all (fun c => c.before a st) := by
  induction ts with
  | nil => rfl
  | cons c t ih =>
    show (Jvm.Cond.and c (allAtoms t)).before a st = _
    rw [Jvm.Cond.before_and, ih, List.all_cons]
def words1 : List Jvm.Cond := Jvm.Cond.code x code maxLocals ret :: tables_1
/-- a 'code' word, met by the world's own term for the bytes: nothing is compared byte by byte -/
theorem code_word {y : MethodName} {bytes : ByteArray} {mx : Nat} {rt : Option FieldType} {a : Array Value} {s : State} {m : MethodId} {meth : Method} {c : Code} (h1 : s.methodNamed? y = some m) (h2 : s.vm.method? m = some meth) (h3 : meth.code = some c) (h4 : c.code = bytes)
    (h5 : (c.maxLocals == mx && c.exceptionTable.isEmpty && decide (c.maxStack ≤ mostOperands) && decide (meth.sig.returnType = rt) && !meth.locks && decide (parseMethodDescriptor y.desc = some meth.sig)) = true) : (Jvm.Cond.code y bytes mx rt).before a s = true := by
  simp only [Bool.and_eq_true, beq_iff_eq, Bool.not_eq_true', decide_eq_true_eq] at h5
  obtain ⟨⟨⟨⟨⟨g1, g2⟩, g3⟩, g4⟩, g5⟩, g6⟩ := h5
  simp [Cond.before, Cond.holds, Cond.value, h1, h2, h3, h4, g1, g2, g3, g4, g5, g6]
def isCode : Jvm.Cond → Bool
  | .code _ _ _ _ => true
  | _ => false
theorem all_split {L : List Jvm.Cond} {P : Jvm.Cond → Bool} (h1 : L.all (fun c => isCode c || P c) = true) (h2 : ∀ c ∈ L.filter isCode, P c = true) : L.all P = true := by
  refine List.all_eq_true.mpr fun c hc => ?_
  have h := List.all_eq_true.mp h1 c hc
  rcases Bool.eq_false_or_eq_true (isCode c) with hi | hi
  · exact h2 c (List.mem_filter.mpr ⟨hc, hi⟩)
  · simpa [hi] using h
set_option maxRecDepth 65536 in
theorem w_c0 : (Jvm.Cond.code x code maxLocals ret).before args0 about1 = true := code_word (m := ⟨1, 3⟩) (meth := k1m3) (c := k1c3) (by decide +kernel) rfl rfl rfl (by decide +kernel)
set_option maxRecDepth 65536 in
theorem w_c1 : (Jvm.Cond.code ({ cls := "com/example/token_mint/tokenmint/model/AccessLevelIsAtLeastPinLaw", name := "pick", desc := "(I)Lcom/example/token_mint/tokenmint/model/AccessLevel;" } : Jvm.MethodName) method_2_code (1 : Nat) (Option.some (Jvm.ClassFile.FieldType.object "com/example/token_mint/tokenmint/model/AccessLevel"))).before args0 about1 = true := code_word (m := ⟨1, 1⟩) (meth := k1m1) (c := k1c1) (by decide +kernel) rfl rfl rfl (by decide +kernel)
set_option maxRecDepth 65536 in
theorem w_c2 : (Jvm.Cond.code ({ cls := "com/example/token_mint/tokenmint/model/AccessLevel", name := "isAtLeast", desc := "(Lcom/example/token_mint/tokenmint/model/AccessLevel;)Z" } : Jvm.MethodName) prog_11_method_5_code (2 : Nat) (Option.some Jvm.ClassFile.FieldType.boolean)).before args0 about1 = true := code_word (m := ⟨6, 0⟩) (meth := k6m0) (c := k6c0) (by decide +kernel) rfl rfl rfl (by decide +kernel)
set_option maxRecDepth 65536 in
theorem w_c3 : (Jvm.Cond.code ({ cls := "com/example/token_mint/tokenmint/model/AccessLevelIsAtLeastPinLaw", name := "documentedNumber", desc := "(I)I" } : Jvm.MethodName) method_3_code (1 : Nat) (Option.some Jvm.ClassFile.FieldType.int)).before args0 about1 = true := code_word (m := ⟨1, 2⟩) (meth := k1m2) (c := k1c2) (by decide +kernel) rfl rfl rfl (by decide +kernel)
def codes1 : List Jvm.Cond := [Jvm.Cond.code x code maxLocals ret, Jvm.Cond.code ({ cls := "com/example/token_mint/tokenmint/model/AccessLevelIsAtLeastPinLaw", name := "pick", desc := "(I)Lcom/example/token_mint/tokenmint/model/AccessLevel;" } : Jvm.MethodName) method_2_code (1 : Nat) (Option.some (Jvm.ClassFile.FieldType.object "com/example/token_mint/tokenmint/model/AccessLevel")), Jvm.Cond.code ({ cls := "com/example/token_mint/tokenmint/model/AccessLevel", name := "isAtLeast", desc := "(Lcom/example/token_mint/tokenmint/model/AccessLevel;)Z" } : Jvm.MethodName) prog_11_method_5_code (2 : Nat) (Option.some Jvm.ClassFile.FieldType.boolean), Jvm.Cond.code ({ cls := "com/example/token_mint/tokenmint/model/AccessLevelIsAtLeastPinLaw", name := "documentedNumber", desc := "(I)I" } : Jvm.MethodName) method_3_code (1 : Nat) (Option.some Jvm.ClassFile.FieldType.int)]
set_option maxRecDepth 65536 in
theorem codes_eq : words1.filter isCode = codes1 := rfl
theorem w_codes : ∀ c ∈ words1.filter isCode, c.before args0 about1 = true := by
  rw [codes_eq]
  intro c hc
  simp only [codes1, List.mem_cons, List.not_mem_nil, or_false] at hc
  rcases hc with rfl | rfl | rfl | rfl
  · exact w_c0
  · exact w_c1
  · exact w_c2
  · exact w_c3
set_option maxRecDepth 65536 in
theorem w_t1 : (words1.take 24).all (fun c => isCode c || c.before args0 about1) = true := by decide +kernel
set_option maxRecDepth 65536 in
theorem w_t2 : (words1.drop 24).all (fun c => isCode c || c.before args0 about1) = true := by decide +kernel
theorem w_tables : (allAtoms (Jvm.Cond.code x code maxLocals ret :: tables_1)).before args0 about1 = true := by
  rw [allAtoms_all]
  show words1.all (fun c => c.before args0 about1) = true
  refine all_split ?_ w_codes
  rw [← List.take_append_drop 24 words1, List.all_append, w_t1, w_t2]
  rfl
set_option maxRecDepth 65536 in
theorem w_case : (Jvm.Cond.and given_1 narrow_1).before args0 about1 = true := by decide +kernel
theorem w_applies : (headSpec (Jvm.Cond.code x code maxLocals ret :: tables_1) room_1).applies x e0.platform about1 = true :=
  (Spec.applies_iff w_frames).mpr ⟨w_running, w_runnable, w_alone, w_named, w_hears, w_ripe, w_room, w_tables⟩
theorem atStart : AtStart classFile x code maxLocals ret World_1 tables_1 room_1 Calls_1 rest_1 Pre_1 launch0 p0 e0 about1 theMethod args0 below0 :=
  ⟨lists_1, trivial, launch0.admits_env _ _ _, launch0.least_env, fairChoices_fair.cas, fairChoices_fair.clock, w_frames, w_args, w_heap, w_applies, trivial, trivial, w_case⟩
end start1
theorem witness_1 : WitnessClaimed_1 := ⟨start1.p0, start1.e0, start1.about1, start1.theMethod, start1.args0, start1.below0, start1.atStart⟩
end Jvm.Pilot.@@N@@
