import JvmDerived
import JvmDerived.Pilot.@@N@@Statement
import JvmDerived.Pilot.@@N@@Code
set_option linter.unusedVariables false
set_option linter.unusedSimpArgs false
@@BLOCK:NumsL.lean.txt@@
namespace Jvm.RoadKit
open Sem ClassFile Op Lib Jvm.Stand Jvm.Free Jvm.LawKit
section New
variable {p : Program} {l : Launch} {e : Env} {R : Room} {s : State} {m : MethodId} {args : Array Value} {below : List Frame} {meth : Method} {c : Code} {T : State} {locs : List Loc} {cells slots : Nat}
theorem retI (X : Stand p l e R s m args below meth c T locs cells slots) (hx : p.tables.exec = Jvm.exec) {pc : Nat} {Ls : Array Slot} {z : Int32} {rest : List Value} (hret : meth.sig.returnType = some .int) (hd : decode c.code pc = .ok (.ireturn, 1)) {fs : List Frame}
    (hl : ∀ (f : JFrame) (acts : List Action), f.method = m → f.locked = none → f.entered = [] → (doReturn e (T.setTop f) acts (some (.int z))).1 = T.setFrames fs) : Steps p.tables e below (T.setTop (mkF m pc Ls (.int z :: rest))) (T.setFrames fs) :=
  retOut X hx hret rfl (Or.inl ⟨rfl, Or.inl rfl, z, rfl⟩) hd hl
theorem retJ (X : Stand p l e R s m args below meth c T locs cells slots) (hx : p.tables.exec = Jvm.exec) {pc : Nat} {Ls : Array Slot} {z : Int64} {rest : List Value} (hret : meth.sig.returnType = some .long) (hd : decode c.code pc = .ok (.lreturn, 1)) {fs : List Frame}
    (hl : ∀ (f : JFrame) (acts : List Action), f.method = m → f.locked = none → f.entered = [] → (doReturn e (T.setTop f) acts (some (.long z))).1 = T.setFrames fs) : Steps p.tables e below (T.setTop (mkF m pc Ls (.long z :: rest))) (T.setFrames fs) :=
  retOut X hx hret rfl (Or.inr (Or.inl ⟨rfl, rfl, z, rfl⟩)) hd hl
theorem retA (X : Stand p l e R s m args below meth c T locs cells slots) (hx : p.tables.exec = Jvm.exec) {pc : Nat} {Ls : Array Slot} {w : Value} {t : FieldType} {rest : List Value} (hret : meth.sig.returnType = some t) (ht : t.isReference = true) (hw : w.isRef = true) (hn : narrow t w = w) (hd : decode c.code pc = .ok (.areturn, 1)) {fs : List Frame}
    (hl : ∀ (f : JFrame) (acts : List Action), f.method = m → f.locked = none → f.entered = [] → (doReturn e (T.setTop f) acts (some w)).1 = T.setFrames fs) : Steps p.tables e below (T.setTop (mkF m pc Ls (w :: rest))) (T.setFrames fs) :=
  retOut X hx hret hn (Or.inr (Or.inr (Or.inr (Or.inr ⟨rfl, ht, hw⟩)))) hd hl
end New
end Jvm.RoadKit
namespace Jvm.Pilot.@@N@@
open Jvm Jvm.ClassFile Sem Op Lib Jvm.Free Jvm.Stand Jvm.LawKit Jvm.RoadKit Bundle Jvm.Pilot.@@N@@.Jvm.D
/-- the run from t ends by returning, as Q and the frame say -/
def OEnds (p : Program) (e : Env) (below : List Frame) (s : State) (Q : Option Value → Heap → List Loc → Prop) (C S : Nat) (t : State) : Prop :=
  ∃ s₂ o, Steps p.tables e below t s₂ ∧ s₂.status = .running ∧ Ended s₂ below o ∧ ∃ v L, o = .returned v ∧ Q v s₂.heap L ∧ FrameEnd s o s₂ L C S
theorem OEnds.go {p : Program} {e : Env} {below : List Frame} {s : State} {Q : Option Value → Heap → List Loc → Prop} {C S : Nat} {t t' : State} (h : ∀ u, Steps p.tables e below t' u → Steps p.tables e below t u) (k : OEnds p e below s Q C S t') : OEnds p e below s Q C S t := by
  obtain ⟨s₂, o, h1, h2⟩ := k
  exact ⟨s₂, o, h _ h1, h2⟩
theorem OEnds.cut {p : Program} {e : Env} {below : List Frame} {s : State} {Q : Option Value → Heap → List Loc → Prop} {C S : Nat} {t : State} (P : (State → Prop) → Prop) (k2 : P (OEnds p e below s Q C S)) (k1 : P (OEnds p e below s Q C S) → OEnds p e below s Q C S t) : OEnds p e below s Q C S t := k1 k2
theorem OEnds.back {p : Program} {l : Launch} {e : Env} {R : Room} {s : State} {m : MethodId} {args : Array Value} {below : List Frame} {meth : Method} {c : Code} {T : State} {locs : List Loc} {cells slots : Nat} (X : Stand p l e R s m args below meth c T locs cells slots) (hlk : meth.locks = false) {v : Option Value} (hv : meth.sig.returnType = none → v = none) {t : State} {Q : Option Value → Heap → List Loc → Prop} {C S : Nat}
    (st : ∀ fs, (∀ (f : JFrame) (acts : List Action), f.method = m → f.locked = none → f.entered = [] → (doReturn e (T.setTop f) acts v).1 = T.setFrames fs) → Steps p.tables e below t (T.setFrames fs)) (q : Q v T.heap locs) (hc : cells ≤ C) (hs : slots ≤ S) : OEnds p e below s Q C S t := by
  obtain ⟨fs, hr, hrun, hended, hW, hsame⟩ := X.leave hv hlk
  exact ⟨_, _, st fs hr, hrun, hended, _, _, rfl, q, ⟨_, rfl⟩, hW, hsame.mono hc hs⟩

theorem own_lt (x y : Int64) : lcmpW x y < 0 ↔ x < y := by rw [lcW, lc_lt]
theorem own_gt (x y : Int64) : 0 < lcmpW x y ↔ y < x := by rw [lcW, lc_gt]
theorem own_eq (x y : Int64) : lcmpW x y = 0 ↔ x = y := by rw [lcW, lc_eq]
/-- a term that equals a number, as the sheet says it -/
theorem own_eqi {args : Array Value} {s : State} {t : Term} {k : Int32} (h : (Jvm.Cond.eq t (Term.int k)).value args s none s [] = some true) : t.eval args s none [] s = some (.int k) := by
  obtain ⟨x, y, hx, hy, h1, h2⟩ := cmp_v (Or.inl h)
  have hy' : y = .int k := Option.some.inj (hy.symm.trans (Term.int_eval k))
  subst hy'
  obtain ⟨z, rfl⟩ : ∃ z, x = .int z := h2
  simp [Cond.value, hx, hy] at h
  rw [hx, h]
theorem own_fldi {args : Array Value} {s : State} {t : Term} {C n d : String} {a : Addr} {k : Int32} (ht : t.eval args s none [] s = some (.ref a)) (h : (Jvm.Cond.eq (Term.field t C n d) (Term.int k)).value args s none s [] = some true) : s.fieldOf? a C n d = some (.int k) := by
  rw [← fld_at ht]; exact own_eqi h
theorem own_ne {s : State} {C n d : String} {a b : Addr} {j k : Int32} (h1 : s.fieldOf? a C n d = some (.int j)) (h2 : s.fieldOf? b C n d = some (.int k)) (hk : j ≠ k) : a ≠ b := by
  intro e; subst e
  exact hk (Value.int.inj (Option.some.inj (h1.symm.trans h2)))

theorem own_mod (x m : Int32) (hm : 0 < m.toInt) : 0 ≤ ((x &&& 2147483647) % m).toInt ∧ ((x &&& 2147483647) % m).toInt < m.toInt := by
  have h : 0 ≤ (x &&& 2147483647).toInt := by
    rw [Jvm.Kit.i32_mask x 2147483647 (k := 31) (by decide) (by decide)]; omega
  rw [Jvm.Kit.i32_rem_nonneg h]
  exact ⟨Int.emod_nonneg _ (by omega), Int.emod_lt_of_pos _ hm⟩
theorem own_range {r : Int32} {n : Nat} (h0 : 0 ≤ r.toInt) (h1 : r.toInt < n) (hn : n ≤ 2 ^ 31) : ∃ k : Nat, k < n ∧ r = Int32.ofNat k := by
  refine ⟨r.toInt.toNat, by omega, ?_⟩
  rw [← Int32.toInt_inj, Int32.toInt_ofNat_small (by omega)]; omega


def own_pick (p : Int32) (aM aR aW : Addr) : Addr := if p = 0 then aM else if p = 1 then aR else aW
def own_takes (a b aM aR : Addr) : Int32 := if a = b ∨ (a = aM ∧ b = aR) then 1 else 0
def own_tab (i j : Int32) : Int32 := if (((275 : Int32) >>> ((((3 : Int32) * i) + j) &&& 31)) &&& (1 : Int32)) = 0 then 0 else 1
theorem own_pick_exa {Z : State} {h : Heap} {C : String} {aM aR aW : Addr} (p : Int32) (h1 : Exa Z h aM C) (h2 : Exa Z h aR C) (h3 : Exa Z h aW C) : Exa Z h (own_pick p aM aR aW) C := by
  unfold own_pick; split
  · exact h1
  · split
    · exact h2
    · exact h3
theorem own_three {r : Int32} (h : 0 ≤ r.toInt ∧ r.toInt < (3 : Int32).toInt) : r = 0 ∨ r = 1 ∨ r = 2 := by
  have e : (3 : Int32).toInt = 3 := rfl
  obtain ⟨k, hk, rfl⟩ := own_range (n := 3) h.1 (by omega) (by decide)
  match k, hk with
  | 0, _ => exact Or.inl rfl
  | 1, _ => exact Or.inr (Or.inl rfl)
  | 2, _ => exact Or.inr (Or.inr rfl)
theorem own_law {i j : Int32} {aM aR aW : Addr} (hi : i = 0 ∨ i = 1 ∨ i = 2) (hj : j = 0 ∨ j = 1 ∨ j = 2) (d1 : aM ≠ aR) (d2 : aM ≠ aW) (d3 : aR ≠ aW) : own_takes (own_pick i aM aR aW) (own_pick j aM aR aW) aM aR = own_tab i j := by
  rcases hi with rfl | rfl | rfl <;> rcases hj with rfl | rfl | rfl
  · rw [show own_takes (own_pick 0 aM aR aW) (own_pick 0 aM aR aW) aM aR = 1 from by simp [own_pick, own_takes, d1, d2, d3, d1.symm, d2.symm, d3.symm]]; decide +kernel
  · rw [show own_takes (own_pick 0 aM aR aW) (own_pick 1 aM aR aW) aM aR = 1 from by simp [own_pick, own_takes, d1, d2, d3, d1.symm, d2.symm, d3.symm]]; decide +kernel
  · rw [show own_takes (own_pick 0 aM aR aW) (own_pick 2 aM aR aW) aM aR = 0 from by simp [own_pick, own_takes, d1, d2, d3, d1.symm, d2.symm, d3.symm]]; decide +kernel
  · rw [show own_takes (own_pick 1 aM aR aW) (own_pick 0 aM aR aW) aM aR = 0 from by simp [own_pick, own_takes, d1, d2, d3, d1.symm, d2.symm, d3.symm]]; decide +kernel
  · rw [show own_takes (own_pick 1 aM aR aW) (own_pick 1 aM aR aW) aM aR = 1 from by simp [own_pick, own_takes, d1, d2, d3, d1.symm, d2.symm, d3.symm]]; decide +kernel
  · rw [show own_takes (own_pick 1 aM aR aW) (own_pick 2 aM aR aW) aM aR = 0 from by simp [own_pick, own_takes, d1, d2, d3, d1.symm, d2.symm, d3.symm]]; decide +kernel
  · rw [show own_takes (own_pick 2 aM aR aW) (own_pick 0 aM aR aW) aM aR = 0 from by simp [own_pick, own_takes, d1, d2, d3, d1.symm, d2.symm, d3.symm]]; decide +kernel
  · rw [show own_takes (own_pick 2 aM aR aW) (own_pick 1 aM aR aW) aM aR = 0 from by simp [own_pick, own_takes, d1, d2, d3, d1.symm, d2.symm, d3.symm]]; decide +kernel
  · rw [show own_takes (own_pick 2 aM aR aW) (own_pick 2 aM aR aW) aM aR = 1 from by simp [own_pick, own_takes, d1, d2, d3, d1.symm, d2.symm, d3.symm]]; decide +kernel

theorem d1_0 : decode method_2_code 0 = .ok (.iload_n 0, 1) := by decide +kernel
theorem d1_1 : decode method_2_code 1 = .ok (.ifCond .ne 7, 3) := by decide +kernel
theorem d1_4 : decode method_2_code 4 = .ok (.getstatic 7, 3) := by decide +kernel
theorem d1_7 : decode method_2_code 7 = .ok (.areturn, 1) := by decide +kernel
theorem d1_8 : decode method_2_code 8 = .ok (.iload_n 0, 1) := by decide +kernel
theorem d1_9 : decode method_2_code 9 = .ok (.iconst 1, 1) := by decide +kernel
theorem d1_10 : decode method_2_code 10 = .ok (.if_icmp .ne 7, 3) := by decide +kernel
theorem d1_13 : decode method_2_code 13 = .ok (.getstatic 13, 3) := by decide +kernel
theorem d1_16 : decode method_2_code 16 = .ok (.areturn, 1) := by decide +kernel
theorem d1_17 : decode method_2_code 17 = .ok (.getstatic 16, 3) := by decide +kernel
theorem d1_20 : decode method_2_code 20 = .ok (.areturn, 1) := by decide +kernel
theorem pn_1 : plainName "com/example/keep_on_time/keepontime/access/RoleTakesPinLaw" = true := by first | (simp [plainName, overriddenIn]; done) | decide +kernel
theorem ef_rm1 (m : MethodId) (p1 : Int32) : entryFrame m #[(.int p1)] 1 = mkF m 0 #[.val (.int p1)] [] := by first | (simp [entryFrame, mkF, argsToLocals, Value.category]; done) | rfl
def Q1 (Z : State) (p1 : Int32) (aM : Addr) (aR : Addr) (aW : Addr) (h0 : Heap) (n0 : Nat) (v : Option Value) (h : Heap) (L : List Loc) : Prop := v = some (.ref (own_pick p1 aM aR aW)) ∧ Fr n0 L ∧ h = h0
set_option maxRecDepth 65536 in
set_option maxHeartbeats 40000000 in
theorem rm1 (l : Launch) (Z : State) (a0 : Array Value) (hw : ∀ d ∈ tables_1, d.before a0 Z = true) (ws : List Jvm.Cond) (p1 : Int32) (aM : Addr) (aR : Addr) (aW : Addr) (h0 : Heap) (n0 : Nat) (Z0 : n0 ≤ h0.size) (S_MANAGE : Sta Z h0 "com/example/keep_on_time/keepontime/access/Role" "MANAGE" "Lcom/example/keep_on_time/keepontime/access/Role;" (.ref aM)) (S_READ : Sta Z h0 "com/example/keep_on_time/keepontime/access/Role" "READ" "Lcom/example/keep_on_time/keepontime/access/Role;" (.ref aR)) (S_WORK : Sta Z h0 "com/example/keep_on_time/keepontime/access/Role" "WORK" "Lcom/example/keep_on_time/keepontime/access/Role;" (.ref aW)) :
    MetFree l (⟨"com/example/keep_on_time/keepontime/access/RoleTakesPinLaw", "pick", "(I)Lcom/example/keep_on_time/keepontime/access/Role;"⟩ : MethodName) (head1 (Jvm.Cond.code (⟨"com/example/keep_on_time/keepontime/access/RoleTakesPinLaw", "pick", "(I)Lcom/example/keep_on_time/keepontime/access/Role;"⟩ : MethodName) method_2_code 1 (some (.object "com/example/keep_on_time/keepontime/access/Role")) :: ws) ({ frames := 0, cells := 0, slots := 0, locals := 0 } : Room)) (fun a U => a = #[(.int p1)] ∧ Z.Warmed39 U.vm ∧ U.heap = h0) (fun _ _ _ _ _ => True) (fun _ U o U' => ∃ v L, o = .returned v ∧ Q1 Z p1 aM aR aW h0 n0 v U'.heap L ∧ FrameEnd U o U' L ({ frames := 0, cells := 0, slots := 0, locals := 0 } : Room).cells ({ frames := 0, cells := 0, slots := 0, locals := 0 } : Room).slots) := by
  refine MetFree.of_bodySF (plainFor_of_name pn_1) hisR ?_
  intro p e s m args below meth c s₁ Bd hml0 hP hK
  obtain ⟨rfl, hZ, hh⟩ := hP
  have hx := Bd.exec
  have hby := Bd.bytes
  have hml : c.maxLocals = 1 := hml0
  have hown : s.vm.findClass "com/example/keep_on_time/keepontime/access/RoleTakesPinLaw" = some m.cls := findClass_of_methodNamed Bd.named
  have hnm := (name_of_methodNamed Bd.named Bd.method).1
  have hlk := BodyLoose.notSynchronized Bd
  have hrt := Bd.returns
  have X0 : Stand p l e ({ frames := 0, cells := 0, slots := 0, locals := 0 } : Room) s m #[(.int p1)] below meth c s₁ [] 0 0 := Stand.of_body Bd
  have e0 : s₁.heap = h0 := by rw [← hh, Bd.state]; rfl
  have N0 := Fr.nil n0
  show OEnds p e below s (Q1 Z p1 aM aR aW h0 n0) ({ frames := 0, cells := 0, slots := 0, locals := 0 } : Room).cells ({ frames := 0, cells := 0, slots := 0, locals := 0 } : Room).slots (s₁.setTop (entryFrame m #[(.int p1)] 1))
  refine OEnds.go (t' := s₁.setTop (mkF m 0 #[.val (.int p1)] [])) (fun t k => castTop (ef_rm1 m p1) k) ?_
  refine OEnds.go (t' := s₁.setTop (mkF m 1 #[.val (.int p1)] [(.int p1)])) (fun _ k => ?_) ?_
  · show Steps p.tables e below (s₁.setTop (mkF m 0 #[.val (.int p1)] [])) _
    refine XS.iloadN X0.here hx rfl (hb hby d1_0) rfl ?_
    show Steps p.tables e below (s₁.setTop (mkF m 1 #[.val (.int p1)] [(.int p1)])) _
    exact k
  by_cases h1 : p1 = (0 : Int32)
  · refine OEnds.go (t' := s₁.setTop (mkF m 4 #[.val (.int p1)] [])) (fun _ k => XS.ifNo X0.here hx rfl (hb hby d1_1) rfl ((if0 _ _).trans (teq h1).2) k) ?_
    obtain ⟨T1, X1, e1, st1⟩ := getS2 X0 hx hZ hown (host := "") (Or.inl (hw _ (List.mem_of_getElem? (i := 5) rfl))) Via.refl e0 S_MANAGE (g := (mkF m 4 #[.val (.int p1)] [])) rfl (hb hby d1_4)
    refine OEnds.go (t' := T1.setTop (mkF m 7 #[.val (.int p1)] [(.ref aM)])) (fun _ k => st1 _ k) ?_
    refine OEnds.back X1 hlk (v := (some (.ref aM))) (fun h => by rw [hrt] at h; cases h) (fun fs hr => ?_) ?_ (by decide) (by decide)
    · exact retA X1 hx hrt rfl rfl rfl (hb hby d1_7) hr
    · show Q1 Z p1 aM aR aW h0 n0 _ T1.heap _
      rw [e1]
      exact ⟨by rw [own_pick, if_pos h1], N0, rfl⟩
  · refine OEnds.go (t' := s₁.setTop (mkF m 8 #[.val (.int p1)] [])) (fun _ k => XS.ifYes X0.here hx rfl (pc0 := 1) (pc' := 8) rfl (hb hby d1_1) rfl ((if0 _ _).trans (feq h1).2) (by decide) (by decide) k) ?_
    refine OEnds.go (t' := s₁.setTop (mkF m 10 #[.val (.int p1)] [(.int (1 : Int32)), (.int p1)])) (fun _ k => ?_) ?_
    · show Steps p.tables e below (s₁.setTop (mkF m 8 #[.val (.int p1)] [])) _
      refine XS.iloadN X0.here hx rfl (hb hby d1_8) rfl ?_
      show Steps p.tables e below (s₁.setTop (mkF m 9 #[.val (.int p1)] [(.int p1)])) _
      refine XS.iconst X0.here hx rfl (hb hby d1_9) ?_
      show Steps p.tables e below (s₁.setTop (mkF m 10 #[.val (.int p1)] [(.int (1 : Int32)), (.int p1)])) _
      exact k
    by_cases h10 : p1 = (1 : Int32)
    · refine OEnds.go (t' := s₁.setTop (mkF m 13 #[.val (.int p1)] [])) (fun _ k => XS.icmpNo X0.here hx rfl (hb hby d1_10) rfl (teq h10).2 k) ?_
      obtain ⟨T2, X2, e2, st2⟩ := getS2 X0 hx hZ hown (host := "") (Or.inl (hw _ (List.mem_of_getElem? (i := 15) rfl))) Via.refl e0 S_READ (g := (mkF m 13 #[.val (.int p1)] [])) rfl (hb hby d1_13)
      refine OEnds.go (t' := T2.setTop (mkF m 16 #[.val (.int p1)] [(.ref aR)])) (fun _ k => st2 _ k) ?_
      refine OEnds.back X2 hlk (v := (some (.ref aR))) (fun h => by rw [hrt] at h; cases h) (fun fs hr => ?_) ?_ (by decide) (by decide)
      · exact retA X2 hx hrt rfl rfl rfl (hb hby d1_16) hr
      · show Q1 Z p1 aM aR aW h0 n0 _ T2.heap _
        rw [e2]
        exact ⟨by rw [own_pick, if_neg h1, if_pos h10], N0, rfl⟩
    · refine OEnds.go (t' := s₁.setTop (mkF m 17 #[.val (.int p1)] [])) (fun _ k => XS.icmpYes X0.here hx rfl (pc0 := 10) (pc' := 17) rfl (hb hby d1_10) rfl (feq h10).2 (by decide) (by decide) k) ?_
      obtain ⟨T3, X3, e3, st3⟩ := getS2 X0 hx hZ hown (host := "") (Or.inl (hw _ (List.mem_of_getElem? (i := 13) rfl))) Via.refl e0 S_WORK (g := (mkF m 17 #[.val (.int p1)] [])) rfl (hb hby d1_17)
      refine OEnds.go (t' := T3.setTop (mkF m 20 #[.val (.int p1)] [(.ref aW)])) (fun _ k => st3 _ k) ?_
      refine OEnds.back X3 hlk (v := (some (.ref aW))) (fun h => by rw [hrt] at h; cases h) (fun fs hr => ?_) ?_ (by decide) (by decide)
      · exact retA X3 hx hrt rfl rfl rfl (hb hby d1_20) hr
      · show Q1 Z p1 aM aR aW h0 n0 _ T3.heap _
        rw [e3]
        exact ⟨by rw [own_pick, if_neg h1, if_neg h10], N0, rfl⟩
theorem d2_0 : decode prog_1_method_6_code 0 = .ok (.aload_n 0, 1) := by decide +kernel
theorem d2_1 : decode prog_1_method_6_code 1 = .ok (.aload_n 1, 1) := by decide +kernel
theorem d2_2 : decode prog_1_method_6_code 2 = .ok (.if_acmp .eq 17, 3) := by decide +kernel
theorem d2_5 : decode prog_1_method_6_code 5 = .ok (.aload_n 0, 1) := by decide +kernel
theorem d2_6 : decode prog_1_method_6_code 6 = .ok (.getstatic 3, 3) := by decide +kernel
theorem d2_9 : decode prog_1_method_6_code 9 = .ok (.if_acmp .ne 14, 3) := by decide +kernel
theorem d2_12 : decode prog_1_method_6_code 12 = .ok (.aload_n 1, 1) := by decide +kernel
theorem d2_13 : decode prog_1_method_6_code 13 = .ok (.getstatic 7, 3) := by decide +kernel
theorem d2_16 : decode prog_1_method_6_code 16 = .ok (.if_acmp .ne 7, 3) := by decide +kernel
theorem d2_19 : decode prog_1_method_6_code 19 = .ok (.iconst 1, 1) := by decide +kernel
theorem d2_20 : decode prog_1_method_6_code 20 = .ok (.goto 4, 3) := by decide +kernel
theorem d2_23 : decode prog_1_method_6_code 23 = .ok (.iconst 0, 1) := by decide +kernel
theorem d2_24 : decode prog_1_method_6_code 24 = .ok (.ireturn, 1) := by decide +kernel
theorem pn_2 : plainName "com/example/keep_on_time/keepontime/access/Role" = true := by first | (simp [plainName, overriddenIn]; done) | decide +kernel
theorem ef_rm2 (m : MethodId) (a1 : Addr) (a2 : Addr) : entryFrame m #[(.ref a1), (.ref a2)] 2 = mkF m 0 #[.val (.ref a1), .val (.ref a2)] [] := by first | (simp [entryFrame, mkF, argsToLocals, Value.category]; done) | rfl
def Q2 (Z : State) (a1 : Addr) (a2 : Addr) (aM : Addr) (aR : Addr) (h0 : Heap) (n0 : Nat) (v : Option Value) (h : Heap) (L : List Loc) : Prop := v = some (.int (own_takes a1 a2 aM aR)) ∧ Fr n0 L ∧ h = h0
set_option maxRecDepth 65536 in
set_option maxHeartbeats 40000000 in
theorem rm2 (l : Launch) (Z : State) (a0 : Array Value) (hw : ∀ d ∈ tables_1, d.before a0 Z = true) (ws : List Jvm.Cond) (a1 : Addr) (a2 : Addr) (aM : Addr) (aR : Addr) (h0 : Heap) (n0 : Nat) (Z0 : n0 ≤ h0.size) (S_MANAGE : Sta Z h0 "com/example/keep_on_time/keepontime/access/Role" "MANAGE" "Lcom/example/keep_on_time/keepontime/access/Role;" (.ref aM)) (S_READ : Sta Z h0 "com/example/keep_on_time/keepontime/access/Role" "READ" "Lcom/example/keep_on_time/keepontime/access/Role;" (.ref aR)) :
    MetFree l (⟨"com/example/keep_on_time/keepontime/access/Role", "takes", "(Lcom/example/keep_on_time/keepontime/access/Role;)Z"⟩ : MethodName) (head1 (Jvm.Cond.code (⟨"com/example/keep_on_time/keepontime/access/Role", "takes", "(Lcom/example/keep_on_time/keepontime/access/Role;)Z"⟩ : MethodName) prog_1_method_6_code 2 (some .boolean) :: ws) ({ frames := 0, cells := 0, slots := 0, locals := 0 } : Room)) (fun a U => a = #[(.ref a1), (.ref a2)] ∧ Z.Warmed39 U.vm ∧ U.heap = h0) (fun _ _ _ _ _ => True) (fun _ U o U' => ∃ v L, o = .returned v ∧ Q2 Z a1 a2 aM aR h0 n0 v U'.heap L ∧ FrameEnd U o U' L ({ frames := 0, cells := 0, slots := 0, locals := 0 } : Room).cells ({ frames := 0, cells := 0, slots := 0, locals := 0 } : Room).slots) := by
  refine MetFree.of_bodySF (plainFor_of_name pn_2) hisR ?_
  intro p e s m args below meth c s₁ Bd hml0 hP hK
  obtain ⟨rfl, hZ, hh⟩ := hP
  have hx := Bd.exec
  have hby := Bd.bytes
  have hml : c.maxLocals = 2 := hml0
  have hown : s.vm.findClass "com/example/keep_on_time/keepontime/access/Role" = some m.cls := findClass_of_methodNamed Bd.named
  have hnm := (name_of_methodNamed Bd.named Bd.method).1
  have hlk := BodyLoose.notSynchronized Bd
  have hrt := Bd.returns
  have X0 : Stand p l e ({ frames := 0, cells := 0, slots := 0, locals := 0 } : Room) s m #[(.ref a1), (.ref a2)] below meth c s₁ [] 0 0 := Stand.of_body Bd
  have e0 : s₁.heap = h0 := by rw [← hh, Bd.state]; rfl
  have N0 := Fr.nil n0
  show OEnds p e below s (Q2 Z a1 a2 aM aR h0 n0) ({ frames := 0, cells := 0, slots := 0, locals := 0 } : Room).cells ({ frames := 0, cells := 0, slots := 0, locals := 0 } : Room).slots (s₁.setTop (entryFrame m #[(.ref a1), (.ref a2)] 2))
  refine OEnds.go (t' := s₁.setTop (mkF m 0 #[.val (.ref a1), .val (.ref a2)] [])) (fun t k => castTop (ef_rm2 m a1 a2) k) ?_
  refine OEnds.go (t' := s₁.setTop (mkF m 2 #[.val (.ref a1), .val (.ref a2)] [(.ref a2), (.ref a1)])) (fun _ k => ?_) ?_
  · show Steps p.tables e below (s₁.setTop (mkF m 0 #[.val (.ref a1), .val (.ref a2)] [])) _
    refine XS.aloadN X0.here hx rfl (hb hby d2_0) rfl rfl ?_
    show Steps p.tables e below (s₁.setTop (mkF m 1 #[.val (.ref a1), .val (.ref a2)] [(.ref a1)])) _
    refine XS.aloadN X0.here hx rfl (hb hby d2_1) rfl rfl ?_
    show Steps p.tables e below (s₁.setTop (mkF m 2 #[.val (.ref a1), .val (.ref a2)] [(.ref a2), (.ref a1)])) _
    exact k
  by_cases h2 : a1 = a2
  · refine OEnds.go (t' := s₁.setTop (mkF m 19 #[.val (.ref a1), .val (.ref a2)] [])) (fun _ k => Jvm.RoadKit.acmp (g := (mkF m 2 #[.val (.ref a1), .val (.ref a2)] [(.ref a2), (.ref a1)])) X0 hx rfl rfl rfl (pc0 := 2) (pc' := 19) (same := true) rfl (hb hby d2_2) rfl (decide_eq_true (congrArg Value.ref h2)) (by decide) (by decide) k) ?_
    refine OEnds.go (t' := s₁.setTop (mkF m 24 #[.val (.ref a1), .val (.ref a2)] [(.int (1 : Int32))])) (fun _ k => ?_) ?_
    · show Steps p.tables e below (s₁.setTop (mkF m 19 #[.val (.ref a1), .val (.ref a2)] [])) _
      refine XS.iconst X0.here hx rfl (hb hby d2_19) ?_
      show Steps p.tables e below (s₁.setTop (mkF m 20 #[.val (.ref a1), .val (.ref a2)] [(.int (1 : Int32))])) _
      refine XS.goto X0.here hx rfl (pc0 := 20) (pc' := 24) rfl (hb hby d2_20) (by decide) (by decide) ?_
      show Steps p.tables e below (s₁.setTop (mkF m 24 #[.val (.ref a1), .val (.ref a2)] [(.int (1 : Int32))])) _
      exact k
    refine OEnds.back X0 hlk (v := (some (.int (1 : Int32)))) (fun h => by rw [hrt] at h; cases h) (fun fs hr => ?_) ?_ (by decide) (by decide)
    · exact retN X0 hx (t := .boolean) hrt (by simp) (hb hby d2_24) hr
    · show Q2 Z a1 a2 aM aR h0 n0 _ s₁.heap _
      rw [e0]
      exact ⟨by rw [own_takes, if_pos (Or.inl h2)], N0, rfl⟩
  · refine OEnds.go (t' := s₁.setTop (mkF m 5 #[.val (.ref a1), .val (.ref a2)] [])) (fun _ k => Jvm.RoadKit.acmp (g := (mkF m 2 #[.val (.ref a1), .val (.ref a2)] [(.ref a2), (.ref a1)])) X0 hx rfl rfl rfl (pc0 := 2) (pc' := 5) (same := false) rfl (hb hby d2_2) rfl (decide_eq_false fun q => h2 (Value.ref.inj q)) (by decide) (by decide) k) ?_
    refine OEnds.go (t' := s₁.setTop (mkF m 6 #[.val (.ref a1), .val (.ref a2)] [(.ref a1)])) (fun _ k => ?_) ?_
    · show Steps p.tables e below (s₁.setTop (mkF m 5 #[.val (.ref a1), .val (.ref a2)] [])) _
      refine XS.aloadN X0.here hx rfl (hb hby d2_5) rfl rfl ?_
      show Steps p.tables e below (s₁.setTop (mkF m 6 #[.val (.ref a1), .val (.ref a2)] [(.ref a1)])) _
      exact k
    obtain ⟨T1, X1, e1, st1⟩ := getS2 X0 hx hZ hown (host := "") (Or.inl (hw _ (List.mem_of_getElem? (i := 17) rfl))) Via.refl e0 S_MANAGE (g := (mkF m 6 #[.val (.ref a1), .val (.ref a2)] [(.ref a1)])) rfl (hb hby d2_6)
    refine OEnds.go (t' := T1.setTop (mkF m 9 #[.val (.ref a1), .val (.ref a2)] [(.ref aM), (.ref a1)])) (fun _ k => st1 _ k) ?_
    by_cases h9 : a1 = aM
    · refine OEnds.go (t' := T1.setTop (mkF m 12 #[.val (.ref a1), .val (.ref a2)] [])) (fun _ k => Jvm.RoadKit.acmp (g := (mkF m 9 #[.val (.ref a1), .val (.ref a2)] [(.ref aM), (.ref a1)])) X1 hx rfl rfl rfl (pc0 := 9) (pc' := 12) (same := true) rfl (hb hby d2_9) rfl (decide_eq_true (congrArg Value.ref h9)) (by decide) (by decide) k) ?_
      refine OEnds.go (t' := T1.setTop (mkF m 13 #[.val (.ref a1), .val (.ref a2)] [(.ref a2)])) (fun _ k => ?_) ?_
      · show Steps p.tables e below (T1.setTop (mkF m 12 #[.val (.ref a1), .val (.ref a2)] [])) _
        refine XS.aloadN X1.here hx rfl (hb hby d2_12) rfl rfl ?_
        show Steps p.tables e below (T1.setTop (mkF m 13 #[.val (.ref a1), .val (.ref a2)] [(.ref a2)])) _
        exact k
      obtain ⟨T2, X2, e2, st2⟩ := getS2 X1 hx hZ hown (host := "") (Or.inl (hw _ (List.mem_of_getElem? (i := 18) rfl))) Via.refl e1 S_READ (g := (mkF m 13 #[.val (.ref a1), .val (.ref a2)] [(.ref a2)])) rfl (hb hby d2_13)
      refine OEnds.go (t' := T2.setTop (mkF m 16 #[.val (.ref a1), .val (.ref a2)] [(.ref aR), (.ref a2)])) (fun _ k => st2 _ k) ?_
      by_cases h16 : a2 = aR
      · refine OEnds.go (t' := T2.setTop (mkF m 19 #[.val (.ref a1), .val (.ref a2)] [])) (fun _ k => Jvm.RoadKit.acmp (g := (mkF m 16 #[.val (.ref a1), .val (.ref a2)] [(.ref aR), (.ref a2)])) X2 hx rfl rfl rfl (pc0 := 16) (pc' := 19) (same := true) rfl (hb hby d2_16) rfl (decide_eq_true (congrArg Value.ref h16)) (by decide) (by decide) k) ?_
        refine OEnds.go (t' := T2.setTop (mkF m 24 #[.val (.ref a1), .val (.ref a2)] [(.int (1 : Int32))])) (fun _ k => ?_) ?_
        · show Steps p.tables e below (T2.setTop (mkF m 19 #[.val (.ref a1), .val (.ref a2)] [])) _
          refine XS.iconst X2.here hx rfl (hb hby d2_19) ?_
          show Steps p.tables e below (T2.setTop (mkF m 20 #[.val (.ref a1), .val (.ref a2)] [(.int (1 : Int32))])) _
          refine XS.goto X2.here hx rfl (pc0 := 20) (pc' := 24) rfl (hb hby d2_20) (by decide) (by decide) ?_
          show Steps p.tables e below (T2.setTop (mkF m 24 #[.val (.ref a1), .val (.ref a2)] [(.int (1 : Int32))])) _
          exact k
        refine OEnds.back X2 hlk (v := (some (.int (1 : Int32)))) (fun h => by rw [hrt] at h; cases h) (fun fs hr => ?_) ?_ (by decide) (by decide)
        · exact retN X2 hx (t := .boolean) hrt (by simp) (hb hby d2_24) hr
        · show Q2 Z a1 a2 aM aR h0 n0 _ T2.heap _
          rw [e2]
          exact ⟨by rw [own_takes, if_pos (Or.inr ⟨h9, h16⟩)], N0, rfl⟩
      · refine OEnds.go (t' := T2.setTop (mkF m 23 #[.val (.ref a1), .val (.ref a2)] [])) (fun _ k => Jvm.RoadKit.acmp (g := (mkF m 16 #[.val (.ref a1), .val (.ref a2)] [(.ref aR), (.ref a2)])) X2 hx rfl rfl rfl (pc0 := 16) (pc' := 23) (same := false) rfl (hb hby d2_16) rfl (decide_eq_false fun q => h16 (Value.ref.inj q)) (by decide) (by decide) k) ?_
        refine OEnds.go (t' := T2.setTop (mkF m 24 #[.val (.ref a1), .val (.ref a2)] [(.int (0 : Int32))])) (fun _ k => ?_) ?_
        · show Steps p.tables e below (T2.setTop (mkF m 23 #[.val (.ref a1), .val (.ref a2)] [])) _
          refine XS.iconst X2.here hx rfl (hb hby d2_23) ?_
          show Steps p.tables e below (T2.setTop (mkF m 24 #[.val (.ref a1), .val (.ref a2)] [(.int (0 : Int32))])) _
          exact k
        refine OEnds.back X2 hlk (v := (some (.int (0 : Int32)))) (fun h => by rw [hrt] at h; cases h) (fun fs hr => ?_) ?_ (by decide) (by decide)
        · exact retN X2 hx (t := .boolean) hrt (by simp) (hb hby d2_24) hr
        · show Q2 Z a1 a2 aM aR h0 n0 _ T2.heap _
          rw [e2]
          exact ⟨by rw [own_takes, if_neg (fun q => q.elim h2 (fun q => h16 q.2))], N0, rfl⟩
    · refine OEnds.go (t' := T1.setTop (mkF m 23 #[.val (.ref a1), .val (.ref a2)] [])) (fun _ k => Jvm.RoadKit.acmp (g := (mkF m 9 #[.val (.ref a1), .val (.ref a2)] [(.ref aM), (.ref a1)])) X1 hx rfl rfl rfl (pc0 := 9) (pc' := 23) (same := false) rfl (hb hby d2_9) rfl (decide_eq_false fun q => h9 (Value.ref.inj q)) (by decide) (by decide) k) ?_
      refine OEnds.go (t' := T1.setTop (mkF m 24 #[.val (.ref a1), .val (.ref a2)] [(.int (0 : Int32))])) (fun _ k => ?_) ?_
      · show Steps p.tables e below (T1.setTop (mkF m 23 #[.val (.ref a1), .val (.ref a2)] [])) _
        refine XS.iconst X1.here hx rfl (hb hby d2_23) ?_
        show Steps p.tables e below (T1.setTop (mkF m 24 #[.val (.ref a1), .val (.ref a2)] [(.int (0 : Int32))])) _
        exact k
      refine OEnds.back X1 hlk (v := (some (.int (0 : Int32)))) (fun h => by rw [hrt] at h; cases h) (fun fs hr => ?_) ?_ (by decide) (by decide)
      · exact retN X1 hx (t := .boolean) hrt (by simp) (hb hby d2_24) hr
      · show Q2 Z a1 a2 aM aR h0 n0 _ T1.heap _
        rw [e1]
        exact ⟨by rw [own_takes, if_neg (fun q => q.elim h2 (fun q => h9 q.1))], N0, rfl⟩
theorem pn_0 : plainName "com/example/keep_on_time/keepontime/access/RoleTakesPinLaw" = true := by first | (simp [plainName, overriddenIn]; done) | decide +kernel
theorem pd_rm0_0 : parseMethodDescriptor "(I)Lcom/example/keep_on_time/keepontime/access/Role;" = some ⟨[.int], some (.object "com/example/keep_on_time/keepontime/access/Role")⟩ := by decide +kernel
theorem pd_rm0_1 : parseMethodDescriptor "(Lcom/example/keep_on_time/keepontime/access/Role;)Z" = some ⟨[(.object "com/example/keep_on_time/keepontime/access/Role")], some .boolean⟩ := by decide +kernel
theorem ef_rm0 (m : MethodId) (p1 : Int32) (p2 : Int32) : entryFrame m #[(.int p1), (.int p2)] maxLocals = mkF m 0 #[.val (.int p1), .val (.int p2), .unset, .unset, .unset, .unset, .unset] [] := by first | (simp [entryFrame, mkF, argsToLocals, Value.category, maxLocals]; done) | rfl
def Q0 (Z : State) (p1 : Int32) (p2 : Int32) (aM : Addr) (aR : Addr) (aW : Addr) (h0 : Heap) (n0 : Nat) (v : Option Value) (h : Heap) (L : List Loc) : Prop := v = some (.int 1) ∧ Fr n0 L
set_option maxRecDepth 65536 in
set_option maxHeartbeats 40000000 in
theorem rm0 (l : Launch) (Z : State) (a0 : Array Value) (hw : ∀ d ∈ tables_1, d.before a0 Z = true) (ws : List Jvm.Cond) (p1 : Int32) (p2 : Int32) (aM : Addr) (aR : Addr) (aW : Addr) (h0 : Heap) (n0 : Nat) (Z0 : n0 ≤ h0.size) (S_MANAGE : Sta Z h0 "com/example/keep_on_time/keepontime/access/Role" "MANAGE" "Lcom/example/keep_on_time/keepontime/access/Role;" (.ref aM)) (S_READ : Sta Z h0 "com/example/keep_on_time/keepontime/access/Role" "READ" "Lcom/example/keep_on_time/keepontime/access/Role;" (.ref aR)) (S_WORK : Sta Z h0 "com/example/keep_on_time/keepontime/access/Role" "WORK" "Lcom/example/keep_on_time/keepontime/access/Role;" (.ref aW)) (E_MANAGE : Exa Z h0 aM "com/example/keep_on_time/keepontime/access/Role") (E_READ : Exa Z h0 aR "com/example/keep_on_time/keepontime/access/Role") (E_WORK : Exa Z h0 aW "com/example/keep_on_time/keepontime/access/Role") (d1 : aM ≠ aR) (d2 : aM ≠ aW) (d3 : aR ≠ aW) :
    MetFree l x (head1 (Jvm.Cond.code x code maxLocals ret :: ws) room_1) (fun a U => a = #[(.int p1), (.int p2)] ∧ Z.Warmed39 U.vm ∧ U.heap = h0) (fun _ _ _ _ _ => True) (fun _ U o U' => ∃ v L, o = .returned v ∧ Q0 Z p1 p2 aM aR aW h0 n0 v U'.heap L ∧ FrameEnd U o U' L room_1.cells room_1.slots) := by
  refine MetFree.of_bodySF (plainFor_of_name pn_0) hisR ?_
  intro p e s m args below meth c s₁ Bd hml0 hP hK
  obtain ⟨rfl, hZ, hh⟩ := hP
  have hx := Bd.exec
  have hby := Bd.bytes
  have hml : c.maxLocals = 7 := hml0
  have hown : s.vm.findClass "com/example/keep_on_time/keepontime/access/RoleTakesPinLaw" = some m.cls := findClass_of_methodNamed Bd.named
  have hnm := (name_of_methodNamed Bd.named Bd.method).1
  have hlk := BodyLoose.notSynchronized Bd
  have hrt := Bd.returns
  have X0 : Stand p l e room_1 s m #[(.int p1), (.int p2)] below meth c s₁ [] 0 0 := Stand.of_body Bd
  have e0 : s₁.heap = h0 := by rw [← hh, Bd.state]; rfl
  have N0 := Fr.nil n0
  show OEnds p e below s (Q0 Z p1 p2 aM aR aW h0 n0) room_1.cells room_1.slots (s₁.setTop (entryFrame m #[(.int p1), (.int p2)] maxLocals))
  refine OEnds.go (t' := s₁.setTop (mkF m 0 #[.val (.int p1), .val (.int p2), .unset, .unset, .unset, .unset, .unset] [])) (fun t k => castTop (ef_rm0 m p1 p2) k) ?_
  refine OEnds.go (t' := s₁.setTop (mkF m 14 #[.val (.int p1), .val (.int p2), .val (.int ((p1 &&& (2147483647 : Int32)) % (3 : Int32))), .val (.int ((p2 &&& (2147483647 : Int32)) % (3 : Int32))), .unset, .unset, .unset] [])) (fun _ k => ?_) ?_
  · show Steps p.tables e below (s₁.setTop (mkF m 0 #[.val (.int p1), .val (.int p2), .unset, .unset, .unset, .unset, .unset] [])) _
    refine XS.iloadN X0.here hx rfl (hb hby at_0) rfl ?_
    show Steps p.tables e below (s₁.setTop (mkF m 1 #[.val (.int p1), .val (.int p2), .unset, .unset, .unset, .unset, .unset] [(.int p1)])) _
    refine X0.ldcInt hx hown (mvT hZ (hw _ (List.mem_of_getElem? (i := 0) rfl))) (g := (mkF m 1 #[.val (.int p1), .val (.int p2), .unset, .unset, .unset, .unset, .unset] [(.int p1)])) rfl (hb hby at_1) _ ?_
    show Steps p.tables e below (s₁.setTop (mkF m 3 #[.val (.int p1), .val (.int p2), .unset, .unset, .unset, .unset, .unset] [(.int (2147483647 : Int32)), (.int p1)])) _
    refine XS.iand X0.here hx rfl (hb hby at_3) rfl ?_
    show Steps p.tables e below (s₁.setTop (mkF m 4 #[.val (.int p1), .val (.int p2), .unset, .unset, .unset, .unset, .unset] [(.int (p1 &&& (2147483647 : Int32)))])) _
    refine XS.iconst X0.here hx rfl (hb hby at_4) ?_
    show Steps p.tables e below (s₁.setTop (mkF m 5 #[.val (.int p1), .val (.int p2), .unset, .unset, .unset, .unset, .unset] [(.int (3 : Int32)), (.int (p1 &&& (2147483647 : Int32)))])) _
    refine iremM X0 hx rfl (hb hby at_5) rfl (by decide) ?_
    show Steps p.tables e below (s₁.setTop (mkF m 6 #[.val (.int p1), .val (.int p2), .unset, .unset, .unset, .unset, .unset] [(.int ((p1 &&& (2147483647 : Int32)) % (3 : Int32)))])) _
    refine XS.istoreN X0.here hx rfl (hb hby at_6) rfl (l' := #[.val (.int p1), .val (.int p2), .val (.int ((p1 &&& (2147483647 : Int32)) % (3 : Int32))), .unset, .unset, .unset, .unset]) rfl ?_
    show Steps p.tables e below (s₁.setTop (mkF m 7 #[.val (.int p1), .val (.int p2), .val (.int ((p1 &&& (2147483647 : Int32)) % (3 : Int32))), .unset, .unset, .unset, .unset] [])) _
    refine XS.iloadN X0.here hx rfl (hb hby at_7) rfl ?_
    show Steps p.tables e below (s₁.setTop (mkF m 8 #[.val (.int p1), .val (.int p2), .val (.int ((p1 &&& (2147483647 : Int32)) % (3 : Int32))), .unset, .unset, .unset, .unset] [(.int p2)])) _
    refine X0.ldcInt hx hown (mvT hZ (hw _ (List.mem_of_getElem? (i := 0) rfl))) (g := (mkF m 8 #[.val (.int p1), .val (.int p2), .val (.int ((p1 &&& (2147483647 : Int32)) % (3 : Int32))), .unset, .unset, .unset, .unset] [(.int p2)])) rfl (hb hby at_8) _ ?_
    show Steps p.tables e below (s₁.setTop (mkF m 10 #[.val (.int p1), .val (.int p2), .val (.int ((p1 &&& (2147483647 : Int32)) % (3 : Int32))), .unset, .unset, .unset, .unset] [(.int (2147483647 : Int32)), (.int p2)])) _
    refine XS.iand X0.here hx rfl (hb hby at_10) rfl ?_
    show Steps p.tables e below (s₁.setTop (mkF m 11 #[.val (.int p1), .val (.int p2), .val (.int ((p1 &&& (2147483647 : Int32)) % (3 : Int32))), .unset, .unset, .unset, .unset] [(.int (p2 &&& (2147483647 : Int32)))])) _
    refine XS.iconst X0.here hx rfl (hb hby at_11) ?_
    show Steps p.tables e below (s₁.setTop (mkF m 12 #[.val (.int p1), .val (.int p2), .val (.int ((p1 &&& (2147483647 : Int32)) % (3 : Int32))), .unset, .unset, .unset, .unset] [(.int (3 : Int32)), (.int (p2 &&& (2147483647 : Int32)))])) _
    refine iremM X0 hx rfl (hb hby at_12) rfl (by decide) ?_
    show Steps p.tables e below (s₁.setTop (mkF m 13 #[.val (.int p1), .val (.int p2), .val (.int ((p1 &&& (2147483647 : Int32)) % (3 : Int32))), .unset, .unset, .unset, .unset] [(.int ((p2 &&& (2147483647 : Int32)) % (3 : Int32)))])) _
    refine XS.istoreN X0.here hx rfl (hb hby at_13) rfl (l' := #[.val (.int p1), .val (.int p2), .val (.int ((p1 &&& (2147483647 : Int32)) % (3 : Int32))), .val (.int ((p2 &&& (2147483647 : Int32)) % (3 : Int32))), .unset, .unset, .unset]) rfl ?_
    show Steps p.tables e below (s₁.setTop (mkF m 14 #[.val (.int p1), .val (.int p2), .val (.int ((p1 &&& (2147483647 : Int32)) % (3 : Int32))), .val (.int ((p2 &&& (2147483647 : Int32)) % (3 : Int32))), .unset, .unset, .unset] [])) _
    exact k
  have hi := own_three (own_mod p1 3 (by decide))
  have hj := own_three (own_mod p2 3 (by decide))
  generalize gi : ((p1 &&& (2147483647 : Int32)) % (3 : Int32)) = i
  rw [gi] at hi
  generalize gj : ((p2 &&& (2147483647 : Int32)) % (3 : Int32)) = j
  rw [gj] at hj
  refine OEnds.go (t' := s₁.setTop (mkF m 15 #[.val (.int p1), .val (.int p2), .val (.int i), .val (.int j), .unset, .unset, .unset] [(.int i)])) (fun _ k => ?_) ?_
  · show Steps p.tables e below (s₁.setTop (mkF m 14 #[.val (.int p1), .val (.int p2), .val (.int i), .val (.int j), .unset, .unset, .unset] [])) _
    refine XS.iloadN X0.here hx rfl (hb hby at_14) rfl ?_
    show Steps p.tables e below (s₁.setTop (mkF m 15 #[.val (.int p1), .val (.int p2), .val (.int i), .val (.int j), .unset, .unset, .unset] [(.int i)])) _
    exact k
  obtain ⟨_, _, ⟨T1, L1, k1, n1⟩, -, X1, ⟨Lc1, hQ1, l1, y1, z1⟩, st1⟩ := Jvm.LawKit.callS X0 hx (y := (⟨"com/example/keep_on_time/keepontime/access/RoleTakesPinLaw", "pick", "(I)Lcom/example/keep_on_time/keepontime/access/Role;"⟩ : MethodName)) hown (mvT hZ (hw _ (List.mem_of_getElem? (i := 1) rfl))) (mvT hZ (hw _ (List.mem_of_getElem? (i := 2) rfl))) (mvT hZ (hw _ (List.mem_of_getElem? (i := 3) rfl))) (mvT hZ (hw _ (List.mem_of_getElem? (i := 4) rfl))) (by decide) (backOf (W := 0) (rm1 l Z a0 hw [] i aM aR aW h0 n0 Z0 S_MANAGE S_READ S_WORK) hZ (hw _ (List.mem_of_getElem? (i := 4) rfl)) (hw _ (List.mem_of_getElem? (i := 3) rfl)) (by decide) (by decide)) (g := (mkF m 15 #[.val (.int p1), .val (.int p2), .val (.int i), .val (.int j), .unset, .unset, .unset] [(.int i)])) rfl (by rw [hml]; rfl) (argsL := [(.int i)]) (rest := []) (lenOf pd_rm0_0 rfl) rfl (by show 2 * 0 + _ ≤ _; exact Nat.le_of_eq rfl) (hb hby at_15) (fun _ _ => ⟨rfl, e0, (by decide : 0 + 0 ≤ _), (by decide : 0 + 0 ≤ _)⟩)
  dsimp only [Pt.U, Pt.locs, Pt.cells, Pt.slots] at X1 l1 y1 z1 st1 hQ1
  subst l1 y1 z1
  obtain ⟨rfl, N1q, eh⟩ := hQ1
  have N1 := Fr.app N0 N1q
  have eh1 := eh
  refine OEnds.go (t' := T1.setTop (mkF m 18 #[.val (.int p1), .val (.int p2), .val (.int i), .val (.int j), .unset, .unset, .unset] [(.ref (own_pick i aM aR aW))])) (fun _ k => st1 _ k) ?_
  refine OEnds.go (t' := T1.setTop (mkF m 21 #[.val (.int p1), .val (.int p2), .val (.int i), .val (.int j), .val (.ref (own_pick i aM aR aW)), .unset, .unset] [(.int j)])) (fun _ k => ?_) ?_
  · show Steps p.tables e below (T1.setTop (mkF m 18 #[.val (.int p1), .val (.int p2), .val (.int i), .val (.int j), .unset, .unset, .unset] [(.ref (own_pick i aM aR aW))])) _
    refine XS.astore X1.here hx rfl (hb hby at_18) rfl rfl (l' := #[.val (.int p1), .val (.int p2), .val (.int i), .val (.int j), .val (.ref (own_pick i aM aR aW)), .unset, .unset]) rfl ?_
    show Steps p.tables e below (T1.setTop (mkF m 20 #[.val (.int p1), .val (.int p2), .val (.int i), .val (.int j), .val (.ref (own_pick i aM aR aW)), .unset, .unset] [])) _
    refine XS.iloadN X1.here hx rfl (hb hby at_20) rfl ?_
    show Steps p.tables e below (T1.setTop (mkF m 21 #[.val (.int p1), .val (.int p2), .val (.int i), .val (.int j), .val (.ref (own_pick i aM aR aW)), .unset, .unset] [(.int j)])) _
    exact k
  obtain ⟨_, _, ⟨T2, L2, k2, n2⟩, -, X2, ⟨Lc2, hQ2, l2, y2, z2⟩, st2⟩ := Jvm.LawKit.callS X1 hx (y := (⟨"com/example/keep_on_time/keepontime/access/RoleTakesPinLaw", "pick", "(I)Lcom/example/keep_on_time/keepontime/access/Role;"⟩ : MethodName)) hown (mvT hZ (hw _ (List.mem_of_getElem? (i := 1) rfl))) (mvT hZ (hw _ (List.mem_of_getElem? (i := 2) rfl))) (mvT hZ (hw _ (List.mem_of_getElem? (i := 3) rfl))) (mvT hZ (hw _ (List.mem_of_getElem? (i := 4) rfl))) (by decide) (backOf (W := 0) (rm1 l Z a0 hw [] j aM aR aW h0 n0 Z0 S_MANAGE S_READ S_WORK) hZ (hw _ (List.mem_of_getElem? (i := 4) rfl)) (hw _ (List.mem_of_getElem? (i := 3) rfl)) (by decide) (by decide)) (g := (mkF m 21 #[.val (.int p1), .val (.int p2), .val (.int i), .val (.int j), .val (.ref (own_pick i aM aR aW)), .unset, .unset] [(.int j)])) rfl (by rw [hml]; rfl) (argsL := [(.int j)]) (rest := []) (lenOf pd_rm0_0 rfl) rfl (by show 2 * 0 + _ ≤ _; exact Nat.le_of_eq rfl) (hb hby at_21) (fun _ _ => ⟨rfl, eh1, (by decide : 0 + 0 ≤ _), (by decide : 0 + 0 ≤ _)⟩)
  dsimp only [Pt.U, Pt.locs, Pt.cells, Pt.slots] at X2 l2 y2 z2 st2 hQ2
  subst l2 y2 z2
  obtain ⟨rfl, N2q, eh⟩ := hQ2
  have N2 := Fr.app N1 N2q
  have eh2 := eh
  refine OEnds.go (t' := T2.setTop (mkF m 24 #[.val (.int p1), .val (.int p2), .val (.int i), .val (.int j), .val (.ref (own_pick i aM aR aW)), .unset, .unset] [(.ref (own_pick j aM aR aW))])) (fun _ k => st2 _ k) ?_
  refine OEnds.go (t' := T2.setTop (mkF m 26 #[.val (.int p1), .val (.int p2), .val (.int i), .val (.int j), .val (.ref (own_pick i aM aR aW)), .val (.ref (own_pick j aM aR aW)), .unset] [])) (fun _ k => ?_) ?_
  · show Steps p.tables e below (T2.setTop (mkF m 24 #[.val (.int p1), .val (.int p2), .val (.int i), .val (.int j), .val (.ref (own_pick i aM aR aW)), .unset, .unset] [(.ref (own_pick j aM aR aW))])) _
    refine XS.astore X2.here hx rfl (hb hby at_24) rfl rfl (l' := #[.val (.int p1), .val (.int p2), .val (.int i), .val (.int j), .val (.ref (own_pick i aM aR aW)), .val (.ref (own_pick j aM aR aW)), .unset]) rfl ?_
    show Steps p.tables e below (T2.setTop (mkF m 26 #[.val (.int p1), .val (.int p2), .val (.int i), .val (.int j), .val (.ref (own_pick i aM aR aW)), .val (.ref (own_pick j aM aR aW)), .unset] [])) _
    exact k
  refine OEnds.cut (fun En => ∀ (z : Int32), z = own_tab i j → En (T2.setTop (mkF m 45 #[.val (.int p1), .val (.int p2), .val (.int i), .val (.int j), .val (.ref (own_pick i aM aR aW)), .val (.ref (own_pick j aM aR aW)), .unset] [(.int z)]))) ?_ (fun K45 => ?_)
  · intro z hz
    refine OEnds.go (t' := T2.setTop (mkF m 51 #[.val (.int p1), .val (.int p2), .val (.int i), .val (.int j), .val (.ref (own_pick i aM aR aW)), .val (.ref (own_pick j aM aR aW)), .val (.int z)] [(.ref (own_pick j aM aR aW)), (.ref (own_pick i aM aR aW))])) (fun _ k => ?_) ?_
    · show Steps p.tables e below (T2.setTop (mkF m 45 #[.val (.int p1), .val (.int p2), .val (.int i), .val (.int j), .val (.ref (own_pick i aM aR aW)), .val (.ref (own_pick j aM aR aW)), .unset] [(.int z)])) _
      refine XS.istore X2.here hx rfl (hb hby at_45) rfl (l' := #[.val (.int p1), .val (.int p2), .val (.int i), .val (.int j), .val (.ref (own_pick i aM aR aW)), .val (.ref (own_pick j aM aR aW)), .val (.int z)]) rfl ?_
      show Steps p.tables e below (T2.setTop (mkF m 47 #[.val (.int p1), .val (.int p2), .val (.int i), .val (.int j), .val (.ref (own_pick i aM aR aW)), .val (.ref (own_pick j aM aR aW)), .val (.int z)] [])) _
      refine XS.aload X2.here hx rfl (hb hby at_47) rfl rfl ?_
      show Steps p.tables e below (T2.setTop (mkF m 49 #[.val (.int p1), .val (.int p2), .val (.int i), .val (.int j), .val (.ref (own_pick i aM aR aW)), .val (.ref (own_pick j aM aR aW)), .val (.int z)] [(.ref (own_pick i aM aR aW))])) _
      refine XS.aload X2.here hx rfl (hb hby at_49) rfl rfl ?_
      show Steps p.tables e below (T2.setTop (mkF m 51 #[.val (.int p1), .val (.int p2), .val (.int i), .val (.int j), .val (.ref (own_pick i aM aR aW)), .val (.ref (own_pick j aM aR aW)), .val (.int z)] [(.ref (own_pick j aM aR aW)), (.ref (own_pick i aM aR aW))])) _
      exact k
    obtain ⟨cq3, kq3, q3a, q3b, q3c⟩ := isOf hZ eh2 (own_pick_exa i E_MANAGE E_READ E_WORK)
    obtain ⟨_, _, ⟨T3, L3, k3, n3⟩, -, X3, ⟨Lc3, hQ3, l3, y3, z3⟩, st3⟩ := X2.virtualBack hx (y := (⟨"com/example/keep_on_time/keepontime/access/Role", "takes", "(Lcom/example/keep_on_time/keepontime/access/Role;)Z"⟩ : MethodName)) (z := (⟨"com/example/keep_on_time/keepontime/access/Role", "takes", "(Lcom/example/keep_on_time/keepontime/access/Role;)Z"⟩ : MethodName)) hown (mvT hZ (hw _ (List.mem_of_getElem? (i := 8) rfl))) (mvT hZ (hw _ (List.mem_of_getElem? (i := 9) rfl))) (notFace_of_selects (args := #[]) (mvT hZ (hw _ (List.mem_of_getElem? (i := 11) rfl)))) (mvT hZ (hw _ (List.mem_of_getElem? (i := 11) rfl))) (mvT hZ (hw _ (List.mem_of_getElem? (i := 10) rfl))) (by decide) (backOf (W := 0) (rm2 l Z a0 hw [] (own_pick i aM aR aW) (own_pick j aM aR aW) aM aR h0 n0 Z0 S_MANAGE S_READ) hZ (hw _ (List.mem_of_getElem? (i := 12) rfl)) (hw _ (List.mem_of_getElem? (i := 6) rfl)) (by decide) (by decide)) q3a q3c (g := (mkF m 51 #[.val (.int p1), .val (.int p2), .val (.int i), .val (.int j), .val (.ref (own_pick i aM aR aW)), .val (.ref (own_pick j aM aR aW)), .val (.int z)] [(.ref (own_pick j aM aR aW)), (.ref (own_pick i aM aR aW))])) rfl (by rw [hml]; rfl) (Steps.refl _) (argsL := [(.ref (own_pick j aM aR aW))]) (rest := []) (lenOf pd_rm0_1 rfl) rfl (by show 2 * 0 + _ ≤ _; exact Nat.le_of_eq rfl) (hb hby at_51) (fun _ _ => ⟨rfl, eh2, (by decide : 0 + 0 ≤ _), (by decide : 0 + 0 ≤ _)⟩)
    dsimp only [Pt.U, Pt.locs, Pt.cells, Pt.slots] at X3 l3 y3 z3 st3 hQ3
    subst l3 y3 z3
    obtain ⟨rfl, N3q, eh⟩ := hQ3
    have N3 := Fr.app N2 N3q
    have eh3 := eh
    refine OEnds.go (t' := T3.setTop (mkF m 54 #[.val (.int p1), .val (.int p2), .val (.int i), .val (.int j), .val (.ref (own_pick i aM aR aW)), .val (.ref (own_pick j aM aR aW)), .val (.int z)] [(.int (own_takes (own_pick i aM aR aW) (own_pick j aM aR aW) aM aR))])) (fun _ k => st3.trans k) ?_
    refine OEnds.go (t' := T3.setTop (mkF m 56 #[.val (.int p1), .val (.int p2), .val (.int i), .val (.int j), .val (.ref (own_pick i aM aR aW)), .val (.ref (own_pick j aM aR aW)), .val (.int z)] [(.int z), (.int (own_takes (own_pick i aM aR aW) (own_pick j aM aR aW) aM aR))])) (fun _ k => ?_) ?_
    · show Steps p.tables e below (T3.setTop (mkF m 54 #[.val (.int p1), .val (.int p2), .val (.int i), .val (.int j), .val (.ref (own_pick i aM aR aW)), .val (.ref (own_pick j aM aR aW)), .val (.int z)] [(.int (own_takes (own_pick i aM aR aW) (own_pick j aM aR aW) aM aR))])) _
      refine XS.iload X3.here hx rfl (hb hby at_54) rfl ?_
      show Steps p.tables e below (T3.setTop (mkF m 56 #[.val (.int p1), .val (.int p2), .val (.int i), .val (.int j), .val (.ref (own_pick i aM aR aW)), .val (.ref (own_pick j aM aR aW)), .val (.int z)] [(.int z), (.int (own_takes (own_pick i aM aR aW) (own_pick j aM aR aW) aM aR))])) _
      exact k
    refine OEnds.go (t' := T3.setTop (mkF m 59 #[.val (.int p1), .val (.int p2), .val (.int i), .val (.int j), .val (.ref (own_pick i aM aR aW)), .val (.ref (own_pick j aM aR aW)), .val (.int z)] [])) (fun _ k => XS.icmpNo X3.here hx rfl (hb hby at_56) rfl (teq ((own_law hi hj d1 d2 d3).trans hz.symm)).2 k) ?_
    refine OEnds.go (t' := T3.setTop (mkF m 64 #[.val (.int p1), .val (.int p2), .val (.int i), .val (.int j), .val (.ref (own_pick i aM aR aW)), .val (.ref (own_pick j aM aR aW)), .val (.int z)] [(.int (1 : Int32))])) (fun _ k => ?_) ?_
    · show Steps p.tables e below (T3.setTop (mkF m 59 #[.val (.int p1), .val (.int p2), .val (.int i), .val (.int j), .val (.ref (own_pick i aM aR aW)), .val (.ref (own_pick j aM aR aW)), .val (.int z)] [])) _
      refine XS.iconst X3.here hx rfl (hb hby at_59) ?_
      show Steps p.tables e below (T3.setTop (mkF m 60 #[.val (.int p1), .val (.int p2), .val (.int i), .val (.int j), .val (.ref (own_pick i aM aR aW)), .val (.ref (own_pick j aM aR aW)), .val (.int z)] [(.int (1 : Int32))])) _
      refine XS.goto X3.here hx rfl (pc0 := 60) (pc' := 64) rfl (hb hby at_60) (by decide) (by decide) ?_
      show Steps p.tables e below (T3.setTop (mkF m 64 #[.val (.int p1), .val (.int p2), .val (.int i), .val (.int j), .val (.ref (own_pick i aM aR aW)), .val (.ref (own_pick j aM aR aW)), .val (.int z)] [(.int (1 : Int32))])) _
      exact k
    refine OEnds.back X3 hlk (v := (some (.int (1 : Int32)))) (fun h => by rw [hrt] at h; cases h) (fun fs hr => ?_) ?_ (by decide) (by decide)
    · exact retN X3 hx (t := .boolean) hrt (by simp) (hb hby at_64) hr
    · show Q0 Z p1 p2 aM aR aW h0 n0 _ T3.heap _
      rw [eh3]
      exact ⟨rfl, N3⟩
  refine OEnds.go (t' := T2.setTop (mkF m 37 #[.val (.int p1), .val (.int p2), .val (.int i), .val (.int j), .val (.ref (own_pick i aM aR aW)), .val (.ref (own_pick j aM aR aW)), .unset] [(.int (((275 : Int32) >>> ((((3 : Int32) * i) + j) &&& 31)) &&& (1 : Int32)))])) (fun _ k => ?_) ?_
  · show Steps p.tables e below (T2.setTop (mkF m 26 #[.val (.int p1), .val (.int p2), .val (.int i), .val (.int j), .val (.ref (own_pick i aM aR aW)), .val (.ref (own_pick j aM aR aW)), .unset] [])) _
    refine XS.sipush X2.here hx rfl (hb hby at_26) ?_
    show Steps p.tables e below (T2.setTop (mkF m 29 #[.val (.int p1), .val (.int p2), .val (.int i), .val (.int j), .val (.ref (own_pick i aM aR aW)), .val (.ref (own_pick j aM aR aW)), .unset] [(.int (275 : Int32))])) _
    refine XS.iconst X2.here hx rfl (hb hby at_29) ?_
    show Steps p.tables e below (T2.setTop (mkF m 30 #[.val (.int p1), .val (.int p2), .val (.int i), .val (.int j), .val (.ref (own_pick i aM aR aW)), .val (.ref (own_pick j aM aR aW)), .unset] [(.int (3 : Int32)), (.int (275 : Int32))])) _
    refine XS.iloadN X2.here hx rfl (hb hby at_30) rfl ?_
    show Steps p.tables e below (T2.setTop (mkF m 31 #[.val (.int p1), .val (.int p2), .val (.int i), .val (.int j), .val (.ref (own_pick i aM aR aW)), .val (.ref (own_pick j aM aR aW)), .unset] [(.int i), (.int (3 : Int32)), (.int (275 : Int32))])) _
    refine XS.imul X2.here hx rfl (hb hby at_31) rfl ?_
    show Steps p.tables e below (T2.setTop (mkF m 32 #[.val (.int p1), .val (.int p2), .val (.int i), .val (.int j), .val (.ref (own_pick i aM aR aW)), .val (.ref (own_pick j aM aR aW)), .unset] [(.int ((3 : Int32) * i)), (.int (275 : Int32))])) _
    refine XS.iloadN X2.here hx rfl (hb hby at_32) rfl ?_
    show Steps p.tables e below (T2.setTop (mkF m 33 #[.val (.int p1), .val (.int p2), .val (.int i), .val (.int j), .val (.ref (own_pick i aM aR aW)), .val (.ref (own_pick j aM aR aW)), .unset] [(.int j), (.int ((3 : Int32) * i)), (.int (275 : Int32))])) _
    refine XS.iadd X2.here hx rfl (hb hby at_33) rfl ?_
    show Steps p.tables e below (T2.setTop (mkF m 34 #[.val (.int p1), .val (.int p2), .val (.int i), .val (.int j), .val (.ref (own_pick i aM aR aW)), .val (.ref (own_pick j aM aR aW)), .unset] [(.int (((3 : Int32) * i) + j)), (.int (275 : Int32))])) _
    refine XS.ishr X2.here hx rfl (hb hby at_34) rfl ?_
    show Steps p.tables e below (T2.setTop (mkF m 35 #[.val (.int p1), .val (.int p2), .val (.int i), .val (.int j), .val (.ref (own_pick i aM aR aW)), .val (.ref (own_pick j aM aR aW)), .unset] [(.int ((275 : Int32) >>> ((((3 : Int32) * i) + j) &&& 31)))])) _
    refine XS.iconst X2.here hx rfl (hb hby at_35) ?_
    show Steps p.tables e below (T2.setTop (mkF m 36 #[.val (.int p1), .val (.int p2), .val (.int i), .val (.int j), .val (.ref (own_pick i aM aR aW)), .val (.ref (own_pick j aM aR aW)), .unset] [(.int (1 : Int32)), (.int ((275 : Int32) >>> ((((3 : Int32) * i) + j) &&& 31)))])) _
    refine XS.iand X2.here hx rfl (hb hby at_36) rfl ?_
    show Steps p.tables e below (T2.setTop (mkF m 37 #[.val (.int p1), .val (.int p2), .val (.int i), .val (.int j), .val (.ref (own_pick i aM aR aW)), .val (.ref (own_pick j aM aR aW)), .unset] [(.int (((275 : Int32) >>> ((((3 : Int32) * i) + j) &&& 31)) &&& (1 : Int32)))])) _
    exact k
  by_cases h37 : (((275 : Int32) >>> ((((3 : Int32) * i) + j) &&& 31)) &&& (1 : Int32)) = (0 : Int32)
  · refine OEnds.go (t' := T2.setTop (mkF m 44 #[.val (.int p1), .val (.int p2), .val (.int i), .val (.int j), .val (.ref (own_pick i aM aR aW)), .val (.ref (own_pick j aM aR aW)), .unset] [])) (fun _ k => XS.ifYes X2.here hx rfl (pc0 := 37) (pc' := 44) rfl (hb hby at_37) rfl ((if0 _ _).trans (teq h37).1) (by decide) (by decide) k) ?_
    refine OEnds.go (t' := T2.setTop (mkF m 45 #[.val (.int p1), .val (.int p2), .val (.int i), .val (.int j), .val (.ref (own_pick i aM aR aW)), .val (.ref (own_pick j aM aR aW)), .unset] [(.int (0 : Int32))])) (fun _ k => ?_) ?_
    · show Steps p.tables e below (T2.setTop (mkF m 44 #[.val (.int p1), .val (.int p2), .val (.int i), .val (.int j), .val (.ref (own_pick i aM aR aW)), .val (.ref (own_pick j aM aR aW)), .unset] [])) _
      refine XS.iconst X2.here hx rfl (hb hby at_44) ?_
      show Steps p.tables e below (T2.setTop (mkF m 45 #[.val (.int p1), .val (.int p2), .val (.int i), .val (.int j), .val (.ref (own_pick i aM aR aW)), .val (.ref (own_pick j aM aR aW)), .unset] [(.int (0 : Int32))])) _
      exact k
    exact K45 _ (by rw [own_tab, if_pos h37])
  · refine OEnds.go (t' := T2.setTop (mkF m 40 #[.val (.int p1), .val (.int p2), .val (.int i), .val (.int j), .val (.ref (own_pick i aM aR aW)), .val (.ref (own_pick j aM aR aW)), .unset] [])) (fun _ k => XS.ifNo X2.here hx rfl (hb hby at_37) rfl ((if0 _ _).trans (feq h37).1) k) ?_
    refine OEnds.go (t' := T2.setTop (mkF m 45 #[.val (.int p1), .val (.int p2), .val (.int i), .val (.int j), .val (.ref (own_pick i aM aR aW)), .val (.ref (own_pick j aM aR aW)), .unset] [(.int (1 : Int32))])) (fun _ k => ?_) ?_
    · show Steps p.tables e below (T2.setTop (mkF m 40 #[.val (.int p1), .val (.int p2), .val (.int i), .val (.int j), .val (.ref (own_pick i aM aR aW)), .val (.ref (own_pick j aM aR aW)), .unset] [])) _
      refine XS.iconst X2.here hx rfl (hb hby at_40) ?_
      show Steps p.tables e below (T2.setTop (mkF m 41 #[.val (.int p1), .val (.int p2), .val (.int i), .val (.int j), .val (.ref (own_pick i aM aR aW)), .val (.ref (own_pick j aM aR aW)), .unset] [(.int (1 : Int32))])) _
      refine XS.goto X2.here hx rfl (pc0 := 41) (pc' := 45) rfl (hb hby at_41) (by decide) (by decide) ?_
      show Steps p.tables e below (T2.setTop (mkF m 45 #[.val (.int p1), .val (.int p2), .val (.int i), .val (.int j), .val (.ref (own_pick i aM aR aW)), .val (.ref (own_pick j aM aR aW)), .unset] [(.int (1 : Int32))])) _
      exact k
    exact K45 _ (by rw [own_tab, if_neg h37])
set_option maxRecDepth 65536 in
set_option maxHeartbeats 40000000 in
theorem comes_1 {Post : Tables → Env → Array Value → State → Outcome → State → Prop} (hpost : ∀ tb e args s v u, (limb_1_1.after args s (.returned v) u = true ∧ limb_1_2.after args s (.returned v) u = true ∧ True) → FrameEnd s (.returned v) u (Jvm.fieldLocs frame_1_writes args s ++ Jvm.arrayLocs frame_1_arrays args s ++ Jvm.staticLocs frame_1_statics s) 0 0 → Post tb e args s (.returned v) u) :
    ArmFor flags0 classFile x code maxLocals ret World_1 tables_1 room_1 Calls_1 rest_1 Pre_1 Post := by
  intro l hfl _ _ p e ha hc hk s m args below hf hA hF happ hP
  obtain ⟨hcalls, hrest, hpre⟩ := hP
  obtain ⟨-, -, -, hnamed, -, -, -, hat⟩ := (Spec.applies_iff hf).mp happ
  obtain ⟨hg, hn⟩ := and_e (Cond.before_iff.mp (show (Jvm.Cond.and given_1 narrow_1).before args s = true from hpre))
  obtain ⟨gc, g0⟩ := and_e hg
  obtain ⟨ga0, g1⟩ := and_e g0
  obtain ⟨w0, w1, rfl⟩ : ∃ w0 w1 : Value, args = #[w0, w1] := by
    have hs : args.size = 2 := by simpa [Cond.value, given_1] using gc
    obtain ⟨L⟩ := args
    match L, hs with
    | [w0, w1], _ => exact ⟨w0, w1, rfl⟩
  have hw := fun d (hd : d ∈ tables_1) => atoms_spec (ws := Jvm.Cond.code x code maxLocals ret :: tables_1) hat d (List.mem_cons_of_mem _ hd)
  have hfit : Fit s := fun {y c} hc i hi => by
    obtain ⟨ha, rfl⟩ := Array.getElem?_eq_some_iff.mp hc
    have q := List.all_eq_true.mp ((Array.all_eq_true_iff_forall_mem.mp hF) _ (Array.getElem_mem ha)) i (List.mem_range.mpr hi)
    simpa [Array.getElem?_eq_getElem hi] using q
  obtain ⟨i0, ei0⟩ := is_v ga0
  obtain rfl : w0 = (.int i0) := Option.some.inj ei0
  obtain ⟨i1, ei1⟩ := is_v g1
  obtain rfl : w1 = (.int i1) := Option.some.inj ei1
  obtain ⟨n0, hn0⟩ := and_e hn
  obtain ⟨n1, hn1⟩ := and_e hn0
  obtain ⟨n2, hn2⟩ := and_e hn1
  obtain ⟨n3, hn3⟩ := and_e hn2
  obtain ⟨n4, hn4⟩ := and_e hn3
  have n5 := hn4
  obtain ⟨a_MANAGE, v_MANAGE⟩ := exa_v n0
  have E_MANAGE := Exa.start v_MANAGE n0
  have S_MANAGE := Sta.start v_MANAGE (Or.inr ⟨(hw _ (List.mem_of_getElem? (i := 6) rfl)), (hw _ (List.mem_of_getElem? (i := 7) rfl))⟩)
  obtain ⟨a_WORK, v_WORK⟩ := exa_v n1
  have E_WORK := Exa.start v_WORK n1
  have S_WORK := Sta.start v_WORK (Or.inr ⟨(hw _ (List.mem_of_getElem? (i := 6) rfl)), (hw _ (List.mem_of_getElem? (i := 14) rfl))⟩)
  obtain ⟨a_READ, v_READ⟩ := exa_v n2
  have E_READ := Exa.start v_READ n2
  have S_READ := Sta.start v_READ (Or.inr ⟨(hw _ (List.mem_of_getElem? (i := 6) rfl)), (hw _ (List.mem_of_getElem? (i := 16) rfl))⟩)
  have o_WORK_ordinal := own_fldi v_WORK n3
  have o_READ_ordinal := own_fldi v_READ n4
  have o_MANAGE_ordinal := own_fldi v_MANAGE n5
  obtain ⟨n, o, h1, h2, h3, _, L, rfl, ⟨rfl, N⟩, hq⟩ := rm0 l s _ hw tables_1 i0 i1 a_MANAGE a_READ a_WORK s.heap s.heap.size (Nat.le_refl _) S_MANAGE S_READ S_WORK E_MANAGE E_READ E_WORK (own_ne o_MANAGE_ordinal o_READ_ordinal (by decide)) (own_ne o_MANAGE_ordinal o_WORK_ordinal (by decide)) (own_ne o_READ_ordinal o_WORK_ordinal (by decide)) p e ha hc hk s m _ below hf ((Spec.applies_iff_loose hf).mp happ).1 ⟨rfl, State.Warmed39.refl s, rfl⟩ trivial
  refine ⟨n, _, h1, h2, h3, hpost _ _ _ _ _ _ ⟨Cond.after_iff.mpr rfl, Cond.after_iff.mpr (eq_i res_at (Term.int_eval (1)) rfl), trivial⟩ ⟨hq.1, hq.2.1, (hq.2.2.sift fun y hy => Or.inr (N y hy)).mono (by decide) (by decide)⟩⟩
theorem main_1_1 : Claimed_1_1 := comes_1 fun _ _ _ _ _ _ h hF => ⟨h.1, hF⟩
theorem main_1_2 : Claimed_1_2 := comes_1 fun _ _ _ _ _ _ h hF => ⟨h.2.1, hF⟩
end Jvm.Pilot.@@N@@
namespace Jvm.Pilot.@@N@@
open Jvm Jvm.ClassFile Sem Op Lib Jvm.Free Jvm.Stand Jvm.Pilot.@@N@@.Jvm.D
/-! MADE BY PROGRAM (witnessworld.py) out of the Statement's table words and the real class files: 12 classes; the members and pool entries that the words name. The judged class is class 1, her method 2. -/
namespace start1
open Jvm.ClassFile
def u (s : String) : CpInfo := .utf8 (stringToUtf16 s)
/-- a pool by its gaps: so many unusable entries, then the entry; so many at the end -/
def gap : Nat → List CpInfo → List CpInfo
  | 0, r => r
  | n + 1, r => .unusable :: gap n r
def poolList (es : List (Nat × CpInfo)) (last : Nat) : List CpInfo := es.foldr (fun e r => gap e.1 (e.2 :: r)) (gap last [])
def pool (es : List (Nat × CpInfo)) (last : Nat) : Array CpInfo := ⟨poolList es last⟩
def fileOf (pool : Array CpInfo) (this : Nat) (attrs : Array Attribute := #[]) (ms : Array MethodInfo := #[]) (fl : Nat := 33) (sup : Nat := 0) (ifs : Array Nat := #[]) (fds : Array FieldInfo := #[]) : ClassFile where
  minorVersion := 0
  majorVersion := 65
  constantPool := pool
  accessFlags := fl
  thisClass := this
  superClass := sup
  interfaces := ifs
  fields := fds
  methods := ms
  attributes := attrs
def plain (name : String) (sup : Option ClassId) : Class where
  name := name
  kind := .ordinary
  loader := none
  accessFlags := 33
  super := sup
  interfaces := #[]
  cf := none
  fields := #[]
  methods := #[]
  instanceTypes := #[]
  staticTypes := #[]
  resolved := #[]
  callSites := []
  init := .initialized
  statics := none
  mirror := none

def pool0 : Array CpInfo := pool [(5, u "<init>"), (0, u "()V"), (1, .class_ 10), (1, u "java/lang/Object")] 113

def k0m0 : Method := { name := "<init>", desc := "()V", sig := { parameters := [], returnType := none }, accessFlags := 1, code := none }
/-- java/lang/Object -/
def k0 : Class := { plain "java/lang/Object" none with
  accessFlags := 33
  interfaces := #[]
  cf := some (fileOf pool0 8 #[] #[{ accessFlags := 1, nameIndex := 5, descriptorIndex := 6, attributes := #[] }] 33 0 #[] #[])
  fields := #[]
  methods := #[k0m0]
  instanceTypes := #[]
  staticTypes := #[]
  resolved := Array.replicate 124 none
  statics := none }

def pool1 : Array CpInfo := pool [(2, .class_ 4), (1, u "java/lang/Object"), (0, u "<init>"), (0, u "()V"), (0, .fieldref 8 9), (0, .class_ 10), (0, .nameAndType 11 12), (0, u "com/example/keep_on_time/keepontime/access/Role"), (0, u "MANAGE"), (0, u "Lcom/example/keep_on_time/keepontime/access/Role;"), (0, .fieldref 8 14), (0, .nameAndType 15 12), (0, u "READ"), (0, .fieldref 8 17), (0, .nameAndType 18 12), (0, u "WORK"), (0, .integer 2147483647), (0, .methodref 21 22), (0, .class_ 23), (0, .nameAndType 24 25), (0, u "com/example/keep_on_time/keepontime/access/RoleTakesPinLaw"), (0, u "pick"), (0, u "(I)Lcom/example/keep_on_time/keepontime/access/Role;"), (0, .methodref 8 27), (0, .nameAndType 28 29), (0, u "takes"), (0, u "(Lcom/example/keep_on_time/keepontime/access/Role;)Z"), (3, u "law"), (0, u "(II)Z")] 2

def k1m0 : Method := { name := "<init>", desc := "()V", sig := { parameters := [], returnType := none }, accessFlags := 2, code := none }
def k1c1 : Code := { maxStack := 2, maxLocals := 1, code := method_2_code, exceptionTable := #[], attributes := #[] }
def k1m1 : Method := { name := "pick", desc := "(I)Lcom/example/keep_on_time/keepontime/access/Role;", sig := { parameters := [.int], returnType := some (.object "com/example/keep_on_time/keepontime/access/Role") }, accessFlags := 10, code := some k1c1 }
def k1c2 : Code := { maxStack := 3, maxLocals := 7, code := code, exceptionTable := #[], attributes := #[] }
def k1m2 : Method := { name := "law", desc := "(II)Z", sig := { parameters := [.int, .int], returnType := some .boolean }, accessFlags := 9, code := some k1c2 }
/-- com/example/keep_on_time/keepontime/access/RoleTakesPinLaw -/
def k1 : Class := { plain "com/example/keep_on_time/keepontime/access/RoleTakesPinLaw" (some 0) with
  accessFlags := 49
  interfaces := #[]
  cf := some (fileOf pool1 21 #[] #[{ accessFlags := 2, nameIndex := 5, descriptorIndex := 6, attributes := #[] }, { accessFlags := 10, nameIndex := 24, descriptorIndex := 25, attributes := #[] }, { accessFlags := 9, nameIndex := 33, descriptorIndex := 34, attributes := #[] }] 49 2 #[] #[])
  fields := #[]
  methods := #[k1m0, k1m1, k1m2]
  instanceTypes := #[]
  staticTypes := #[]
  resolved := Array.replicate 37 none
  statics := none }

def pool2 : Array CpInfo := pool [(1, .class_ 2), (0, u "java/lang/constant/Constable"), (0, .class_ 4), (0, u "java/lang/Object")] 6

/-- java/lang/constant/Constable -/
def k2 : Class := { plain "java/lang/constant/Constable" (some 0) with
  accessFlags := 1537
  interfaces := #[]
  cf := some (fileOf pool2 1 #[] #[] 1537 3 #[] #[])
  fields := #[]
  methods := #[]
  instanceTypes := #[]
  staticTypes := #[]
  resolved := Array.replicate 11 none
  statics := none }

def pool3 : Array CpInfo := pool [(1, .class_ 2), (0, u "java/lang/Comparable"), (0, .class_ 4), (0, u "java/lang/Object")] 7

/-- java/lang/Comparable -/
def k3 : Class := { plain "java/lang/Comparable" (some 0) with
  accessFlags := 1537
  interfaces := #[]
  cf := some (fileOf pool3 1 #[] #[] 1537 3 #[] #[])
  fields := #[]
  methods := #[]
  instanceTypes := #[]
  staticTypes := #[]
  resolved := Array.replicate 12 none
  statics := none }

def pool4 : Array CpInfo := pool [(1, .class_ 2), (0, u "java/io/Serializable"), (0, .class_ 4), (0, u "java/lang/Object")] 2

/-- java/io/Serializable -/
def k4 : Class := { plain "java/io/Serializable" (some 0) with
  accessFlags := 1537
  interfaces := #[]
  cf := some (fileOf pool4 1 #[] #[] 1537 3 #[] #[])
  fields := #[]
  methods := #[]
  instanceTypes := #[]
  staticTypes := #[]
  resolved := Array.replicate 7 none
  statics := none }

def pool5 : Array CpInfo := pool [(2, .class_ 4), (1, u "java/lang/Enum"), (0, u "name"), (0, u "Ljava/lang/String;"), (2, u "ordinal"), (0, u "I"), (1, .class_ 14), (1, u "java/lang/Object"), (4, u "hash"), (86, .class_ 108), (1, u "java/lang/Enum$EnumDesc"), (2, .class_ 112), (0, u "java/lang/constant/Constable"), (0, .class_ 114), (0, u "java/lang/Comparable"), (0, .class_ 116), (0, u "java/io/Serializable")] 87

/-- java/lang/Enum -/
def k5 : Class := { plain "java/lang/Enum" (some 0) with
  accessFlags := 1057
  interfaces := #[2, 3, 4]
  cf := some (fileOf pool5 2 #[.nestMembers #[106]] #[] 1057 12 #[111, 113, 115] #[{ accessFlags := 18, nameIndex := 5, descriptorIndex := 6, attributes := #[] }, { accessFlags := 18, nameIndex := 9, descriptorIndex := 10, attributes := #[] }, { accessFlags := 2, nameIndex := 19, descriptorIndex := 10, attributes := #[] }])
  fields := #[{ name := "name", type := (.object "java/lang/String"), accessFlags := 18, slot := 0, constantValue := 0 }, { name := "ordinal", type := .int, accessFlags := 18, slot := 1, constantValue := 0 }, { name := "hash", type := .int, accessFlags := 2, slot := 2, constantValue := 0 }]
  methods := #[]
  instanceTypes := #[(.object "java/lang/String"), .int, .int]
  staticTypes := #[]
  resolved := Array.replicate 204 none
  statics := none }

def pool6 : Array CpInfo := pool [(1, .class_ 2), (0, u "com/example/keep_on_time/keepontime/access/Role"), (0, .fieldref 1 4), (0, .nameAndType 5 6), (0, u "MANAGE"), (0, u "Lcom/example/keep_on_time/keepontime/access/Role;"), (0, .fieldref 1 8), (0, .nameAndType 9 6), (0, u "READ"), (2, u "WORK"), (2, u "$VALUES"), (0, u "[Lcom/example/keep_on_time/keepontime/access/Role;"), (6, .class_ 25), (1, u "java/lang/Enum"), (8, u "text"), (0, u "Ljava/lang/String;"), (55, u "takes"), (0, u "(Lcom/example/keep_on_time/keepontime/access/Role;)Z")] 27

def k6c0 : Code := { maxStack := 2, maxLocals := 2, code := prog_1_method_6_code, exceptionTable := #[], attributes := #[] }
def k6m0 : Method := { name := "takes", desc := "(Lcom/example/keep_on_time/keepontime/access/Role;)Z", sig := { parameters := [(.object "com/example/keep_on_time/keepontime/access/Role")], returnType := some .boolean }, accessFlags := 1, code := some k6c0 }
/-- com/example/keep_on_time/keepontime/access/Role -/
def k6 : Class := { plain "com/example/keep_on_time/keepontime/access/Role" (some 5) with
  accessFlags := 16433
  interfaces := #[]
  cf := some (fileOf pool6 1 #[] #[{ accessFlags := 1, nameIndex := 91, descriptorIndex := 92, attributes := #[] }] 16433 23 #[] #[{ accessFlags := 16409, nameIndex := 5, descriptorIndex := 6, attributes := #[] }, { accessFlags := 16409, nameIndex := 9, descriptorIndex := 6, attributes := #[] }, { accessFlags := 16409, nameIndex := 12, descriptorIndex := 6, attributes := #[] }, { accessFlags := 18, nameIndex := 34, descriptorIndex := 35, attributes := #[] }, { accessFlags := 4122, nameIndex := 15, descriptorIndex := 16, attributes := #[] }])
  fields := #[{ name := "MANAGE", type := (.object "com/example/keep_on_time/keepontime/access/Role"), accessFlags := 16409, slot := 0, constantValue := 0 }, { name := "READ", type := (.object "com/example/keep_on_time/keepontime/access/Role"), accessFlags := 16409, slot := 1, constantValue := 0 }, { name := "WORK", type := (.object "com/example/keep_on_time/keepontime/access/Role"), accessFlags := 16409, slot := 2, constantValue := 0 }, { name := "text", type := (.object "java/lang/String"), accessFlags := 18, slot := 3, constantValue := 0 }, { name := "$VALUES", type := (.array (.object "com/example/keep_on_time/keepontime/access/Role")), accessFlags := 4122, slot := 3, constantValue := 0 }]
  methods := #[k6m0]
  instanceTypes := #[(.object "java/lang/String"), .int, .int, (.object "java/lang/String")]
  staticTypes := #[(.object "com/example/keep_on_time/keepontime/access/Role"), (.object "com/example/keep_on_time/keepontime/access/Role"), (.object "com/example/keep_on_time/keepontime/access/Role"), (.array (.object "com/example/keep_on_time/keepontime/access/Role"))]
  resolved := Array.replicate 120 none
  statics := some 0 }

def pool7 : Array CpInfo := pool [(1, u "java/lang/Cloneable"), (0, .class_ 1), (0, u "java/lang/Object"), (0, .class_ 3)] 3

/-- java/lang/Cloneable -/
def k7 : Class := { plain "java/lang/Cloneable" (some 0) with
  accessFlags := 1537
  interfaces := #[]
  cf := some (fileOf pool7 2 #[] #[] 1537 4 #[] #[])
  fields := #[]
  methods := #[]
  instanceTypes := #[]
  staticTypes := #[]
  resolved := Array.replicate 8 none
  statics := none }

/-- the primitive byte -/
def k8 : Class := { plain "byte" none with kind := .primitive 'B', accessFlags := 0x411 }
/-- [B -/
def k9 : Class := { plain "[B" (some 0) with kind := .array 8 .byte, interfaces := #[7, 4], accessFlags := 1041 }

/-- the primitive int -/
def k10 : Class := { plain "int" none with kind := .primitive 'I', accessFlags := 0x411 }
/-- [I -/
def k11 : Class := { plain "[I" (some 0) with kind := .array 10 .int, interfaces := #[7, 4], accessFlags := 1041 }

def heap : Heap := #[{ cls := 6, slots := #[.ref 1, .ref 2, .ref 3, .null], vm := .statics 6 },
  { cls := 6, slots := #[.null, .int 0, .int 0, .null], vm := .none },
  { cls := 6, slots := #[.null, .int 1, .int 0, .null], vm := .none },
  { cls := 6, slots := #[.null, .int 2, .int 0, .null], vm := .none }]
def classes : Array Class := #[k0, k1, k2, k3, k4, k5, k6, k7, k8, k9, k10, k11]
def interned : List (Array UInt16 × Addr) := []
def slotsUsed : Nat := 16
def theMethod : MethodId := ⟨1, 2⟩
def args0 : Array Value := #[.int 4, .int 7]
def aboutOver (below : List Frame) : State where
  vm := { classes := classes, interned := interned.toArray }
  heap := heap
  slotsUsed := slotsUsed
  threads := #[{ frames := .invoking theMethod args0 :: below }]
def below0 : List Frame := [.native { method := ⟨0, 0⟩, args := #[] }]
def about1 : State := aboutOver below0
def p0 : Program := .bare "" "" ""
def e0 : Env := launch0.env 0 0 0
theorem w_frames : about1.frames = Frame.invoking theMethod args0 :: below0 := rfl
set_option maxRecDepth 65536 in
theorem w_args : argsFit about1.vm theMethod args0 = true := by decide +kernel
set_option maxRecDepth 65536 in
theorem w_heap : heapFits about1 = true := by decide +kernel
set_option maxRecDepth 65536 in
theorem w_runnable : about1.curStatus? = some .runnable := by decide +kernel
set_option maxRecDepth 65536 in
theorem w_alone : about1.alone = true := by decide +kernel
set_option maxRecDepth 65536 in
theorem w_named : about1.methodNamed? x = some theMethod := by decide +kernel
set_option maxRecDepth 65536 in
theorem w_hears : about1.hears theMethod below0 = true := by decide +kernel
set_option maxRecDepth 65536 in
theorem w_ripe : about1.ripe theMethod args0 below0 = true := by decide +kernel
theorem w_running : about1.status = .running := rfl
set_option maxRecDepth 65536 in
theorem w_room : about1.hasRoom e0.platform room_1 = true :=
  launch0.hasRoom_least _ room_1 (by decide +kernel) (by decide +kernel) (by decide +kernel) (by decide +kernel) (by decide +kernel) (by decide +kernel)
theorem allAtoms_all (ts : List Jvm.Cond) (a : Array Jvm.Value) (st : Jvm.State) : (allAtoms ts).before a st = ts.all (fun c => c.before a st) := by
  induction ts with
  | nil => rfl
  | cons c t ih =>
    show (Jvm.Cond.and c (allAtoms t)).before a st = _
    rw [Jvm.Cond.before_and, ih, List.all_cons]
def words1 : List Jvm.Cond := Jvm.Cond.code x code maxLocals ret :: tables_1
/-- a 'code' word, met by the world's own term for the bytes: nothing is compared byte by byte -/
theorem code_word {y : MethodName} {bytes : ByteArray} {mx : Nat} {rt : Option FieldType} {a : Array Value} {s : State} {m : MethodId} {meth : Method} {c : Code} (h1 : s.methodNamed? y = some m) (h2 : s.vm.method? m = some meth) (h3 : meth.code = some c) (h4 : c.code = bytes)
    (h5 : (c.maxLocals == mx && c.exceptionTable.isEmpty && decide (c.maxStack ≤ mostOperands) && decide (meth.sig.returnType = rt) && !meth.locks && decide (parseMethodDescriptor y.desc = some meth.sig)) = true) : (Jvm.Cond.code y bytes mx rt).before a s = true := by
  simp only [Bool.and_eq_true, beq_iff_eq, Bool.not_eq_true', decide_eq_true_eq] at h5
  obtain ⟨⟨⟨⟨⟨g1, g2⟩, g3⟩, g4⟩, g5⟩, g6⟩ := h5
  simp [Cond.before, Cond.holds, Cond.value, h1, h2, h3, h4, g1, g2, g3, g4, g5, g6]
def isCode : Jvm.Cond → Bool
  | .code _ _ _ _ => true
  | _ => false
theorem all_split {L : List Jvm.Cond} {P : Jvm.Cond → Bool} (h1 : L.all (fun c => isCode c || P c) = true) (h2 : ∀ c ∈ L.filter isCode, P c = true) : L.all P = true := by
  refine List.all_eq_true.mpr fun c hc => ?_
  have h := List.all_eq_true.mp h1 c hc
  rcases Bool.eq_false_or_eq_true (isCode c) with hi | hi
  · exact h2 c (List.mem_filter.mpr ⟨hc, hi⟩)
  · simpa [hi] using h
set_option maxRecDepth 65536 in
theorem w_c0 : (Jvm.Cond.code x code maxLocals ret).before args0 about1 = true := code_word (m := ⟨1, 2⟩) (meth := k1m2) (c := k1c2) (by decide +kernel) rfl rfl rfl (by decide +kernel)
set_option maxRecDepth 65536 in
theorem w_c1 : (Jvm.Cond.code ({ cls := "com/example/keep_on_time/keepontime/access/RoleTakesPinLaw", name := "pick", desc := "(I)Lcom/example/keep_on_time/keepontime/access/Role;" } : Jvm.MethodName) method_2_code (1 : Nat) (Option.some (Jvm.ClassFile.FieldType.object "com/example/keep_on_time/keepontime/access/Role"))).before args0 about1 = true := code_word (m := ⟨1, 1⟩) (meth := k1m1) (c := k1c1) (by decide +kernel) rfl rfl rfl (by decide +kernel)
set_option maxRecDepth 65536 in
theorem w_c2 : (Jvm.Cond.code ({ cls := "com/example/keep_on_time/keepontime/access/Role", name := "takes", desc := "(Lcom/example/keep_on_time/keepontime/access/Role;)Z" } : Jvm.MethodName) prog_1_method_6_code (2 : Nat) (Option.some Jvm.ClassFile.FieldType.boolean)).before args0 about1 = true := code_word (m := ⟨6, 0⟩) (meth := k6m0) (c := k6c0) (by decide +kernel) rfl rfl rfl (by decide +kernel)
def codes1 : List Jvm.Cond := [Jvm.Cond.code x code maxLocals ret, Jvm.Cond.code ({ cls := "com/example/keep_on_time/keepontime/access/RoleTakesPinLaw", name := "pick", desc := "(I)Lcom/example/keep_on_time/keepontime/access/Role;" } : Jvm.MethodName) method_2_code (1 : Nat) (Option.some (Jvm.ClassFile.FieldType.object "com/example/keep_on_time/keepontime/access/Role")), Jvm.Cond.code ({ cls := "com/example/keep_on_time/keepontime/access/Role", name := "takes", desc := "(Lcom/example/keep_on_time/keepontime/access/Role;)Z" } : Jvm.MethodName) prog_1_method_6_code (2 : Nat) (Option.some Jvm.ClassFile.FieldType.boolean)]
set_option maxRecDepth 65536 in
theorem codes_eq : words1.filter isCode = codes1 := rfl
theorem w_codes : ∀ c ∈ words1.filter isCode, c.before args0 about1 = true := by
  rw [codes_eq]
  intro c hc
  simp only [codes1, List.mem_cons, List.not_mem_nil, or_false] at hc
  rcases hc with rfl | rfl | rfl
  · exact w_c0
  · exact w_c1
  · exact w_c2
set_option maxRecDepth 65536 in
theorem w_t1 : words1.all (fun c => isCode c || c.before args0 about1) = true := by decide +kernel
theorem w_tables : (allAtoms (Jvm.Cond.code x code maxLocals ret :: tables_1)).before args0 about1 = true := by
  rw [allAtoms_all]
  show words1.all (fun c => c.before args0 about1) = true
  refine all_split ?_ w_codes
  rw [w_t1]
set_option maxRecDepth 65536 in
theorem w_case : (Jvm.Cond.and given_1 narrow_1).before args0 about1 = true := by decide +kernel
theorem w_applies : (headSpec (Jvm.Cond.code x code maxLocals ret :: tables_1) room_1).applies x e0.platform about1 = true :=
  (Spec.applies_iff w_frames).mpr ⟨w_running, w_runnable, w_alone, w_named, w_hears, w_ripe, w_room, w_tables⟩
theorem atStart : AtStart classFile x code maxLocals ret World_1 tables_1 room_1 Calls_1 rest_1 Pre_1 launch0 p0 e0 about1 theMethod args0 below0 :=
  ⟨lists_1, trivial, launch0.admits_env _ _ _, launch0.least_env, fairChoices_fair.cas, fairChoices_fair.clock, w_frames, w_args, w_heap, w_applies, trivial, trivial, w_case⟩
end start1
theorem witness_1 : WitnessClaimed_1 := ⟨start1.p0, start1.e0, start1.about1, start1.theMethod, start1.args0, start1.below0, start1.atStart⟩
end Jvm.Pilot.@@N@@
