import JvmDerived
import JvmDerived.Pilot.@@N@@Statement
import JvmDerived.Pilot.@@N@@Code
set_option linter.unusedVariables false
set_option linter.unusedSimpArgs false
@@BLOCK:NumsL.lean.txt@@
namespace Jvm.RoadKit
open Sem ClassFile Op Lib Jvm.Stand Jvm.Free Jvm.LawKit
section New
variable {p : Program} {l : Launch} {e : Env} {R : Room} {s : State} {m : MethodId} {args : Array Value} {below : List Frame} {meth : Method} {c : Code} {T : State} {locs : List Loc} {cells slots : Nat}
theorem retI (X : Stand p l e R s m args below meth c T locs cells slots) (hx : p.tables.exec = Jvm.exec) {pc : Nat} {Ls : Array Slot} {z : Int32} {rest : List Value} (hret : meth.sig.returnType = some .int) (hd : decode c.code pc = .ok (.ireturn, 1)) {fs : List Frame}
    (hl : ∀ (f : JFrame) (acts : List Action), f.method = m → f.locked = none → f.entered = [] → (doReturn e (T.setTop f) acts (some (.int z))).1 = T.setFrames fs) : Steps p.tables e below (T.setTop (mkF m pc Ls (.int z :: rest))) (T.setFrames fs) :=
  retOut X hx hret rfl (Or.inl ⟨rfl, Or.inl rfl, z, rfl⟩) hd hl
theorem retJ (X : Stand p l e R s m args below meth c T locs cells slots) (hx : p.tables.exec = Jvm.exec) {pc : Nat} {Ls : Array Slot} {z : Int64} {rest : List Value} (hret : meth.sig.returnType = some .long) (hd : decode c.code pc = .ok (.lreturn, 1)) {fs : List Frame}
    (hl : ∀ (f : JFrame) (acts : List Action), f.method = m → f.locked = none → f.entered = [] → (doReturn e (T.setTop f) acts (some (.long z))).1 = T.setFrames fs) : Steps p.tables e below (T.setTop (mkF m pc Ls (.long z :: rest))) (T.setFrames fs) :=
  retOut X hx hret rfl (Or.inr (Or.inl ⟨rfl, rfl, z, rfl⟩)) hd hl
theorem retA (X : Stand p l e R s m args below meth c T locs cells slots) (hx : p.tables.exec = Jvm.exec) {pc : Nat} {Ls : Array Slot} {w : Value} {t : FieldType} {rest : List Value} (hret : meth.sig.returnType = some t) (ht : t.isReference = true) (hw : w.isRef = true) (hn : narrow t w = w) (hd : decode c.code pc = .ok (.areturn, 1)) {fs : List Frame}
    (hl : ∀ (f : JFrame) (acts : List Action), f.method = m → f.locked = none → f.entered = [] → (doReturn e (T.setTop f) acts (some w)).1 = T.setFrames fs) : Steps p.tables e below (T.setTop (mkF m pc Ls (w :: rest))) (T.setFrames fs) :=
  retOut X hx hret hn (Or.inr (Or.inr (Or.inr (Or.inr ⟨rfl, ht, hw⟩)))) hd hl
end New
end Jvm.RoadKit
namespace Jvm.Pilot.@@N@@
open Jvm Jvm.ClassFile Sem Op Lib Jvm.Free Jvm.Stand Jvm.LawKit Jvm.RoadKit Bundle Jvm.Pilot.@@N@@.Jvm.D
/-- the run from t ends by returning, as Q and the frame say -/
def OEnds (p : Program) (e : Env) (below : List Frame) (s : State) (Q : Option Value → Heap → List Loc → Prop) (C S : Nat) (t : State) : Prop :=
  ∃ s₂ o, Steps p.tables e below t s₂ ∧ s₂.status = .running ∧ Ended s₂ below o ∧ ∃ v L, o = .returned v ∧ Q v s₂.heap L ∧ FrameEnd s o s₂ L C S
theorem OEnds.go {p : Program} {e : Env} {below : List Frame} {s : State} {Q : Option Value → Heap → List Loc → Prop} {C S : Nat} {t t' : State} (h : ∀ u, Steps p.tables e below t' u → Steps p.tables e below t u) (k : OEnds p e below s Q C S t') : OEnds p e below s Q C S t := by
  obtain ⟨s₂, o, h1, h2⟩ := k
  exact ⟨s₂, o, h _ h1, h2⟩
theorem OEnds.cut {p : Program} {e : Env} {below : List Frame} {s : State} {Q : Option Value → Heap → List Loc → Prop} {C S : Nat} {t : State} (P : (State → Prop) → Prop) (k2 : P (OEnds p e below s Q C S)) (k1 : P (OEnds p e below s Q C S) → OEnds p e below s Q C S t) : OEnds p e below s Q C S t := k1 k2
theorem OEnds.back {p : Program} {l : Launch} {e : Env} {R : Room} {s : State} {m : MethodId} {args : Array Value} {below : List Frame} {meth : Method} {c : Code} {T : State} {locs : List Loc} {cells slots : Nat} (X : Stand p l e R s m args below meth c T locs cells slots) (hlk : meth.locks = false) {v : Option Value} (hv : meth.sig.returnType = none → v = none) {t : State} {Q : Option Value → Heap → List Loc → Prop} {C S : Nat}
    (st : ∀ fs, (∀ (f : JFrame) (acts : List Action), f.method = m → f.locked = none → f.entered = [] → (doReturn e (T.setTop f) acts v).1 = T.setFrames fs) → Steps p.tables e below t (T.setFrames fs)) (q : Q v T.heap locs) (hc : cells ≤ C) (hs : slots ≤ S) : OEnds p e below s Q C S t := by
  obtain ⟨fs, hr, hrun, hended, hW, hsame⟩ := X.leave hv hlk
  exact ⟨_, _, st fs hr, hrun, hended, _, _, rfl, q, ⟨_, rfl⟩, hW, hsame.mono hc hs⟩

theorem own_lt (x y : Int64) : lcmpW x y < 0 ↔ x < y := by rw [lcW, lc_lt]
theorem own_gt (x y : Int64) : 0 < lcmpW x y ↔ y < x := by rw [lcW, lc_gt]
theorem own_eq (x y : Int64) : lcmpW x y = 0 ↔ x = y := by rw [lcW, lc_eq]
/-- a term that equals a number, as the sheet says it -/
theorem own_eqi {args : Array Value} {s : State} {t : Term} {k : Int32} (h : (Jvm.Cond.eq t (Term.int k)).value args s none s [] = some true) : t.eval args s none [] s = some (.int k) := by
  obtain ⟨x, y, hx, hy, h1, h2⟩ := cmp_v (Or.inl h)
  have hy' : y = .int k := Option.some.inj (hy.symm.trans (Term.int_eval k))
  subst hy'
  obtain ⟨z, rfl⟩ : ∃ z, x = .int z := h2
  simp [Cond.value, hx, hy] at h
  rw [hx, h]
theorem own_fldi {args : Array Value} {s : State} {t : Term} {C n d : String} {a : Addr} {k : Int32} (ht : t.eval args s none [] s = some (.ref a)) (h : (Jvm.Cond.eq (Term.field t C n d) (Term.int k)).value args s none s [] = some true) : s.fieldOf? a C n d = some (.int k) := by
  rw [← fld_at ht]; exact own_eqi h
theorem own_ne {s : State} {C n d : String} {a b : Addr} {j k : Int32} (h1 : s.fieldOf? a C n d = some (.int j)) (h2 : s.fieldOf? b C n d = some (.int k)) (hk : j ≠ k) : a ≠ b := by
  intro e; subst e
  exact hk (Value.int.inj (Option.some.inj (h1.symm.trans h2)))

theorem own_mod (x m : Int32) (hm : 0 < m.toInt) : 0 ≤ ((x &&& 2147483647) % m).toInt ∧ ((x &&& 2147483647) % m).toInt < m.toInt := by
  have h : 0 ≤ (x &&& 2147483647).toInt := by
    rw [Jvm.Kit.i32_mask x 2147483647 (k := 31) (by decide) (by decide)]; omega
  rw [Jvm.Kit.i32_rem_nonneg h]
  exact ⟨Int.emod_nonneg _ (by omega), Int.emod_lt_of_pos _ hm⟩
theorem own_range {r : Int32} {n : Nat} (h0 : 0 ≤ r.toInt) (h1 : r.toInt < n) (hn : n ≤ 2 ^ 31) : ∃ k : Nat, k < n ∧ r = Int32.ofNat k := by
  refine ⟨r.toInt.toNat, by omega, ?_⟩
  rw [← Int32.toInt_inj, Int32.toInt_ofNat_small (by omega)]; omega


section OwnA
variable {Z : State} {h h' : Heap} {a b : Addr} {k : ClassId} {f : Int32 → Int32} {j v : Int32} {sl : Nat} {w : Value} {ws : List Addr}
/-- an int array of three places, as a function -/
def own_A (Z : State) (h : Heap) (a : Addr) (k : ClassId) (f : Int32 → Int32) : Prop := Arv Z h a k .int 3 [.int (f 0), .int (f 1), .int (f 2)] (.int 0)
def own_R (j : Int32) : Prop := j = 0 ∨ j = 1 ∨ j = 2
def own_upd (f : Int32 → Int32) (j v : Int32) : Int32 → Int32 := fun i => if i = j then v else f i
def own_zero : Int32 → Int32 := fun _ => 0
theorem own_A.ext (F : own_A Z h a k f) (E : Ext h h') : own_A Z h' a k f := Arv.ext F E
theorem own_A.other (F : own_A Z h b k f) (W : Wr h h' a sl w) (q : b ≠ a) : own_A Z h' b k f := Arv.other F W q
theorem own_A.keep (F : own_A Z h a k f) (K : Keep h h' ws) (q : a ∉ ws) : own_A Z h' a k f := Arv.keep F K q
theorem own_A.lt (F : own_A Z h a k f) : a < h.size := Arv.lt F
theorem own_read (F : own_A Z h a k f) (hj : own_R j) : ∃ c : Cell, Arr Z h a c .int ∧ ¬ (j < 0 ∨ c.slots.size ≤ j.toNatClampNeg) ∧ c.slots[j.toNatClampNeg]? = some (.int (f j)) := by
  obtain ⟨c, A, q, S, N, H, G⟩ := F
  have hin : ¬ (j < 0 ∨ c.slots.size ≤ j.toNatClampNeg) := by
    rcases hj with rfl | rfl | rfl <;> exact inb_of S ⟨by decide, by decide⟩
  refine ⟨c, A, hin, ?_⟩
  rcases hj with rfl | rfl | rfl
  · exact H.at hin rfl
  · exact H.at hin rfl
  · exact H.at hin rfl
theorem own_write (F : own_A Z h a k f) (hj : own_R j) (W : Wr h h' a j.toNatClampNeg (.int v)) : own_A Z h' a k (own_upd f j v) := by
  obtain ⟨c, A, q, S, N, H, G⟩ := F
  rcases hj with rfl | rfl | rfl
  · have e0 : own_upd f 0 v 0 = v := if_pos rfl
    have e1 : own_upd f 0 v 1 = f 1 := if_neg (by decide)
    have e2 : own_upd f 0 v 2 = f 2 := if_neg (by decide)
    unfold own_A; rw [e0, e1, e2]
    exact Arv.set A q S N H G rfl W 0 rfl (Nat.le_of_ble_eq_true rfl)
  · have e0 : own_upd f 1 v 0 = f 0 := if_neg (by decide)
    have e1 : own_upd f 1 v 1 = v := if_pos rfl
    have e2 : own_upd f 1 v 2 = f 2 := if_neg (by decide)
    unfold own_A; rw [e0, e1, e2]
    exact Arv.set A q S N H G rfl W 1 rfl (Nat.le_of_ble_eq_true rfl)
  · have e0 : own_upd f 2 v 0 = f 0 := if_neg (by decide)
    have e1 : own_upd f 2 v 1 = f 1 := if_neg (by decide)
    have e2 : own_upd f 2 v 2 = v := if_pos rfl
    unfold own_A; rw [e0, e1, e2]
    exact Arv.set A q S N H G rfl W 2 rfl (Nat.le_of_ble_eq_true rfl)
end OwnA
def own_bump (f : Int32 → Int32) (s d : Int32) : Int32 → Int32 := own_upd (own_upd f s (f s + 1)) d (own_upd f s (f s + 1) d + 1)
def own_drop (f : Int32 → Int32) (s d : Int32) : Int32 → Int32 := own_upd (own_upd f s (f s - 1)) d (own_upd f s (f s - 1) d - 1)
def own_max (a b : Int32) : Int32 := if a < b then b else a
def own_B (f : Int32 → Int32) : Prop := ∀ i, 0 ≤ (f i).toInt ∧ (f i).toInt ≤ 2
theorem own_m3 (x : Int32) : own_R ((x &&& 255) % 3) := by
  have e : (3 : Int32).toInt = 3 := rfl
  have h : (x &&& 255).toInt = x.toInt % 2 ^ 8 := Jvm.Kit.i32_mask x 255 (k := 8) (by decide) (by decide)
  have h2 : ((x &&& 255) % 3).toInt = (x &&& 255).toInt % 3 := by rw [Jvm.Kit.i32_rem_nonneg (by omega), e]
  obtain ⟨k, hk, e⟩ := own_range (r := (x &&& 255) % 3) (n := 3) (by omega) (by omega) (by decide)
  rw [e]
  match k, hk with
  | 0, _ => exact Or.inl rfl
  | 1, _ => exact Or.inr (Or.inl rfl)
  | 2, _ => exact Or.inr (Or.inr rfl)
theorem own_n1 (x : Int32) : 1 ≤ ((1 : Int32) + (x &&& 3)).toInt := by
  have h : (x &&& 3).toInt = x.toInt % 2 ^ 2 := Jvm.Kit.i32_mask x 3 (k := 2) (by decide) (by decide)
  have e1 : (1 : Int32).toInt = 1 := rfl
  rw [Jvm.Kit.i32_add (by omega) (by omega), e1]; omega
theorem own_n2 (x : Int32) : 1 ≤ (own_max 1 x).toInt := by
  have e1 : (1 : Int32).toInt = 1 := rfl
  unfold own_max; split
  · rename_i h; rw [Int32.lt_iff_toInt_lt] at h; omega
  · omega
theorem own_p0 {x : Int32} (h : 1 ≤ x.toInt) : ¬ x = 0 := by
  intro e; subst e; exact absurd h (by decide)
theorem own_nlt {x : Int32} (h : 1 ≤ x.toInt) : ¬ x < 1 := by
  rw [Int32.lt_iff_toInt_lt]; have e1 : (1 : Int32).toInt = 1 := rfl; omega
theorem own_z (n s : Int32) (h : 1 ≤ n.toInt) : ¬ (n - own_zero s) = 0 := by
  have e : n - own_zero s = n := by simp [own_zero]
  rw [e]; exact own_p0 h
theorem own_b0 (s d : Int32) : own_B (own_bump own_zero s d) := by
  intro i
  simp only [own_bump, own_upd, own_zero]
  split
  · split <;> decide
  · split <;> decide
theorem own_bz : own_B own_zero := fun i => by
  show 0 ≤ (0 : Int32).toInt ∧ (0 : Int32).toInt ≤ 2
  decide
theorem own_b1 (s d : Int32) : 1 ≤ (own_bump own_zero s d s).toInt ∧ 1 ≤ (own_bump own_zero s d d).toInt := by
  constructor
  · simp only [own_bump, own_upd, own_zero]
    split
    · split <;> decide
    · rw [if_pos trivial]; decide
  · simp only [own_bump, own_upd, own_zero]
    rw [if_pos trivial]
    split <;> decide
theorem own_add1 {x : Int32} (h0 : 0 ≤ x.toInt) (h1 : x.toInt ≤ 10) : (x + 1).toInt = x.toInt + 1 := by
  have e1 : (1 : Int32).toInt = 1 := rfl
  rw [Jvm.Kit.i32_add (by omega) (by omega), e1]
theorem own_b2 {f : Int32 → Int32} (s d i : Int32) (hb : own_B f) (h : 1 ≤ (f i).toInt) : 1 ≤ (own_bump f s d i).toInt := by
  have b1 := hb i
  have b2 := hb s
  have b3 := hb d
  have a1 := own_add1 (x := f s) b2.1 (by omega)
  simp only [own_bump, own_upd]
  split
  · split
    · rw [own_add1 (by omega) (by omega)]; omega
    · rw [own_add1 (by omega) (by omega)]; omega
  · split
    · omega
    · omega

theorem d6_0 : decode jdk_30_method_1_code 0 = .ok (.aload_n 0, 1) := by decide +kernel
theorem d6_1 : decode jdk_30_method_1_code 1 = .ok (.invokespecial 1, 3) := by decide +kernel
theorem d6_4 : decode jdk_30_method_1_code 4 = .ok (.return_, 1) := by decide +kernel
theorem pn_6 : plainName "java/lang/Record" = true := by first | (simp [plainName, overriddenIn]; done) | decide +kernel
theorem ef_rm6 (m : MethodId) (a1 : Addr) : entryFrame m #[(.ref a1)] 1 = mkF m 0 #[.val (.ref a1)] [] := by first | (simp [entryFrame, mkF, argsToLocals, Value.category]; done) | rfl
def Q6 (Z : State) (a1 : Addr)  (h0 : Heap) (n0 : Nat) (v : Option Value) (h : Heap) (L : List Loc) : Prop := v = none ∧ Fr n0 L ∧ h = h0
set_option maxRecDepth 65536 in
set_option maxHeartbeats 40000000 in
theorem rm6 (l : Launch) (Z : State) (a0 : Array Value) (hw : ∀ d ∈ tables_1, d.before a0 Z = true) (ws : List Jvm.Cond) (a1 : Addr)  (h0 : Heap) (n0 : Nat) (Z0 : n0 ≤ h0.size)  :
    MetFree l (⟨"java/lang/Record", "<init>", "()V"⟩ : MethodName) (head1 (Jvm.Cond.code (⟨"java/lang/Record", "<init>", "()V"⟩ : MethodName) jdk_30_method_1_code 1 none :: ws) ({ frames := 1, cells := 0, slots := 0, locals := 12 } : Room)) (fun a U => a = #[(.ref a1)] ∧ Z.Warmed39 U.vm ∧ U.heap = h0) (fun _ _ _ _ _ => True) (fun _ U o U' => ∃ v L, o = .returned v ∧ Q6 Z a1  h0 n0 v U'.heap L ∧ FrameEnd U o U' L ({ frames := 1, cells := 0, slots := 0, locals := 12 } : Room).cells ({ frames := 1, cells := 0, slots := 0, locals := 12 } : Room).slots) := by
  refine MetFree.of_bodySF (plainFor_of_name pn_6) hisR ?_
  intro p e s m args below meth c s₁ Bd hml0 hP hK
  obtain ⟨rfl, hZ, hh⟩ := hP
  have hx := Bd.exec
  have hby := Bd.bytes
  have hml : c.maxLocals = 1 := hml0
  have hown : s.vm.findClass "java/lang/Record" = some m.cls := findClass_of_methodNamed Bd.named
  have hnm := (name_of_methodNamed Bd.named Bd.method).1
  have hlk := BodyLoose.notSynchronized Bd
  have hrt := Bd.returns
  have X0 : Stand p l e ({ frames := 1, cells := 0, slots := 0, locals := 12 } : Room) s m #[(.ref a1)] below meth c s₁ [] 0 0 := Stand.of_body Bd
  have e0 : s₁.heap = h0 := by rw [← hh, Bd.state]; rfl
  have N0 := Fr.nil n0
  show OEnds p e below s (Q6 Z a1  h0 n0) ({ frames := 1, cells := 0, slots := 0, locals := 12 } : Room).cells ({ frames := 1, cells := 0, slots := 0, locals := 12 } : Room).slots (s₁.setTop (entryFrame m #[(.ref a1)] 1))
  refine OEnds.go (t' := s₁.setTop (mkF m 0 #[.val (.ref a1)] [])) (fun t k => castTop (ef_rm6 m a1) k) ?_
  refine OEnds.go (t' := s₁.setTop (mkF m 1 #[.val (.ref a1)] [(.ref a1)])) (fun _ k => ?_) ?_
  · show Steps p.tables e below (s₁.setTop (mkF m 0 #[.val (.ref a1)] [])) _
    refine XS.aloadN X0.here hx rfl (hb hby d6_0) rfl rfl ?_
    show Steps p.tables e below (s₁.setTop (mkF m 1 #[.val (.ref a1)] [(.ref a1)])) _
    exact k
  obtain ⟨T1, X1, e1, st1⟩ := initO X0 hx hZ hown (hw _ (List.mem_of_getElem? (i := 45) rfl)) (hw _ (List.mem_of_getElem? (i := 8) rfl)) (hw _ (List.mem_of_getElem? (i := 9) rfl)) e0 (g := (mkF m 1 #[.val (.ref a1)] [(.ref a1)])) rfl (by rw [hml]; rfl) rfl (hb hby d6_1) (by decide) (W := 0) (by show 2 * 0 + _ ≤ _; exact Nat.le_of_eq rfl) (by decide)
  refine OEnds.go (t' := T1.setTop (mkF m 4 #[.val (.ref a1)] [])) (fun _ k => st1 _ k) ?_
  refine OEnds.back X1 hlk (v := none) (fun _ => rfl) (fun fs hr => ?_) ?_ (by decide) (by decide)
  · exact X1.returnOut hx hrt (hb hby d6_4) hr
  · show Q6 Z a1  h0 n0 _ T1.heap _
    rw [e1]
    exact ⟨rfl, N0, rfl⟩
theorem d3_0 : decode prog_56_method_2_code 0 = .ok (.iload_n 0, 1) := by decide +kernel
theorem d3_1 : decode prog_56_method_2_code 1 = .ok (.iconst 1, 1) := by decide +kernel
theorem d3_2 : decode prog_56_method_2_code 2 = .ok (.if_icmp .ge 17, 3) := by decide +kernel
theorem d3_19 : decode prog_56_method_2_code 19 = .ok (.return_, 1) := by decide +kernel
theorem pn_3 : plainName "com/example/fragmint/fragmint/model/Transponders" = true := by first | (simp [plainName, overriddenIn]; done) | decide +kernel
theorem ef_rm3 (m : MethodId) (p1 : Int32) : entryFrame m #[(.int p1)] 1 = mkF m 0 #[.val (.int p1)] [] := by first | (simp [entryFrame, mkF, argsToLocals, Value.category]; done) | rfl
def Q3 (Z : State) (p1 : Int32)  (h0 : Heap) (n0 : Nat) (v : Option Value) (h : Heap) (L : List Loc) : Prop := v = none ∧ Fr n0 L ∧ h = h0
set_option maxRecDepth 65536 in
set_option maxHeartbeats 40000000 in
theorem rm3 (l : Launch) (Z : State) (a0 : Array Value) (hw : ∀ d ∈ tables_1, d.before a0 Z = true) (ws : List Jvm.Cond) (p1 : Int32)  (h0 : Heap) (n0 : Nat) (Z0 : n0 ≤ h0.size) (c1 : ¬ p1 < 1) :
    MetFree l (⟨"com/example/fragmint/fragmint/model/Transponders", "check", "(I)V"⟩ : MethodName) (head1 (Jvm.Cond.code (⟨"com/example/fragmint/fragmint/model/Transponders", "check", "(I)V"⟩ : MethodName) prog_56_method_2_code 1 none :: ws) ({ frames := 0, cells := 0, slots := 0, locals := 0 } : Room)) (fun a U => a = #[(.int p1)] ∧ Z.Warmed39 U.vm ∧ U.heap = h0) (fun _ _ _ _ _ => True) (fun _ U o U' => ∃ v L, o = .returned v ∧ Q3 Z p1  h0 n0 v U'.heap L ∧ FrameEnd U o U' L ({ frames := 0, cells := 0, slots := 0, locals := 0 } : Room).cells ({ frames := 0, cells := 0, slots := 0, locals := 0 } : Room).slots) := by
  refine MetFree.of_bodySF (plainFor_of_name pn_3) hisR ?_
  intro p e s m args below meth c s₁ Bd hml0 hP hK
  obtain ⟨rfl, hZ, hh⟩ := hP
  have hx := Bd.exec
  have hby := Bd.bytes
  have hml : c.maxLocals = 1 := hml0
  have hown : s.vm.findClass "com/example/fragmint/fragmint/model/Transponders" = some m.cls := findClass_of_methodNamed Bd.named
  have hnm := (name_of_methodNamed Bd.named Bd.method).1
  have hlk := BodyLoose.notSynchronized Bd
  have hrt := Bd.returns
  have X0 : Stand p l e ({ frames := 0, cells := 0, slots := 0, locals := 0 } : Room) s m #[(.int p1)] below meth c s₁ [] 0 0 := Stand.of_body Bd
  have e0 : s₁.heap = h0 := by rw [← hh, Bd.state]; rfl
  have N0 := Fr.nil n0
  show OEnds p e below s (Q3 Z p1  h0 n0) ({ frames := 0, cells := 0, slots := 0, locals := 0 } : Room).cells ({ frames := 0, cells := 0, slots := 0, locals := 0 } : Room).slots (s₁.setTop (entryFrame m #[(.int p1)] 1))
  refine OEnds.go (t' := s₁.setTop (mkF m 0 #[.val (.int p1)] [])) (fun t k => castTop (ef_rm3 m p1) k) ?_
  refine OEnds.go (t' := s₁.setTop (mkF m 2 #[.val (.int p1)] [(.int (1 : Int32)), (.int p1)])) (fun _ k => ?_) ?_
  · show Steps p.tables e below (s₁.setTop (mkF m 0 #[.val (.int p1)] [])) _
    refine XS.iloadN X0.here hx rfl (hb hby d3_0) rfl ?_
    show Steps p.tables e below (s₁.setTop (mkF m 1 #[.val (.int p1)] [(.int p1)])) _
    refine XS.iconst X0.here hx rfl (hb hby d3_1) ?_
    show Steps p.tables e below (s₁.setTop (mkF m 2 #[.val (.int p1)] [(.int (1 : Int32)), (.int p1)])) _
    exact k
  refine OEnds.go (t' := s₁.setTop (mkF m 19 #[.val (.int p1)] [])) (fun _ k => XS.icmpYes X0.here hx rfl (pc0 := 2) (pc' := 19) rfl (hb hby d3_2) rfl (flt c1).2.1 (by decide) (by decide) k) ?_
  refine OEnds.back X0 hlk (v := none) (fun _ => rfl) (fun fs hr => ?_) ?_ (by decide) (by decide)
  · exact X0.returnOut hx hrt (hb hby d3_19) hr
  · show Q3 Z p1  h0 n0 _ s₁.heap _
    rw [e0]
    exact ⟨rfl, N0, rfl⟩
theorem d12_0 : decode jdk_29_method_65_code 0 = .ok (.iload_n 0, 1) := by decide +kernel
theorem d12_1 : decode jdk_29_method_65_code 1 = .ok (.iload_n 1, 1) := by decide +kernel
theorem d12_2 : decode jdk_29_method_65_code 2 = .ok (.if_icmp .lt 7, 3) := by decide +kernel
theorem d12_5 : decode jdk_29_method_65_code 5 = .ok (.iload_n 0, 1) := by decide +kernel
theorem d12_6 : decode jdk_29_method_65_code 6 = .ok (.goto 4, 3) := by decide +kernel
theorem d12_9 : decode jdk_29_method_65_code 9 = .ok (.iload_n 1, 1) := by decide +kernel
theorem d12_10 : decode jdk_29_method_65_code 10 = .ok (.ireturn, 1) := by decide +kernel
theorem ef_rm12 (m : MethodId) (p1 : Int32) (p2 : Int32) : entryFrame m #[(.int p1), (.int p2)] 2 = mkF m 0 #[.val (.int p1), .val (.int p2)] [] := by first | (simp [entryFrame, mkF, argsToLocals, Value.category]; done) | rfl
def Q12 (Z : State) (p1 : Int32) (p2 : Int32)  (h0 : Heap) (n0 : Nat) (v : Option Value) (h : Heap) (L : List Loc) : Prop := v = some (.int (own_max p1 p2)) ∧ Fr n0 L ∧ h = h0
set_option maxRecDepth 65536 in
set_option maxHeartbeats 40000000 in
theorem rm12 (l : Launch) (Z : State) (a0 : Array Value) (hw : ∀ d ∈ tables_1, d.before a0 Z = true) (ws : List Jvm.Cond) (p1 : Int32) (p2 : Int32)  (h0 : Heap) (n0 : Nat) (Z0 : n0 ≤ h0.size)  :
    MetFree l (⟨"java/lang/Math", "max", "(II)I"⟩ : MethodName) (head1 (Jvm.Cond.code (⟨"java/lang/Math", "max", "(II)I"⟩ : MethodName) jdk_29_method_65_code 2 (some .int) :: ws) ({ frames := 0, cells := 0, slots := 0, locals := 0 } : Room)) (fun a U => a = #[(.int p1), (.int p2)] ∧ Z.Warmed39 U.vm ∧ U.heap = h0) (fun _ _ _ _ _ => True) (fun _ U o U' => ∃ v L, o = .returned v ∧ Q12 Z p1 p2  h0 n0 v U'.heap L ∧ FrameEnd U o U' L ({ frames := 0, cells := 0, slots := 0, locals := 0 } : Room).cells ({ frames := 0, cells := 0, slots := 0, locals := 0 } : Room).slots) := by
  refine MetFree.of_bodySF (Jvm.Free.JP.mathPlain rfl (by decide +kernel)) hisR ?_
  intro p e s m args below meth c s₁ Bd hml0 hP hK
  obtain ⟨rfl, hZ, hh⟩ := hP
  have hx := Bd.exec
  have hby := Bd.bytes
  have hml : c.maxLocals = 2 := hml0
  have hown : s.vm.findClass "java/lang/Math" = some m.cls := findClass_of_methodNamed Bd.named
  have hnm := (name_of_methodNamed Bd.named Bd.method).1
  have hlk := BodyLoose.notSynchronized Bd
  have hrt := Bd.returns
  have X0 : Stand p l e ({ frames := 0, cells := 0, slots := 0, locals := 0 } : Room) s m #[(.int p1), (.int p2)] below meth c s₁ [] 0 0 := Stand.of_body Bd
  have e0 : s₁.heap = h0 := by rw [← hh, Bd.state]; rfl
  have N0 := Fr.nil n0
  show OEnds p e below s (Q12 Z p1 p2  h0 n0) ({ frames := 0, cells := 0, slots := 0, locals := 0 } : Room).cells ({ frames := 0, cells := 0, slots := 0, locals := 0 } : Room).slots (s₁.setTop (entryFrame m #[(.int p1), (.int p2)] 2))
  refine OEnds.go (t' := s₁.setTop (mkF m 0 #[.val (.int p1), .val (.int p2)] [])) (fun t k => castTop (ef_rm12 m p1 p2) k) ?_
  refine OEnds.go (t' := s₁.setTop (mkF m 2 #[.val (.int p1), .val (.int p2)] [(.int p2), (.int p1)])) (fun _ k => ?_) ?_
  · show Steps p.tables e below (s₁.setTop (mkF m 0 #[.val (.int p1), .val (.int p2)] [])) _
    refine XS.iloadN X0.here hx rfl (hb hby d12_0) rfl ?_
    show Steps p.tables e below (s₁.setTop (mkF m 1 #[.val (.int p1), .val (.int p2)] [(.int p1)])) _
    refine XS.iloadN X0.here hx rfl (hb hby d12_1) rfl ?_
    show Steps p.tables e below (s₁.setTop (mkF m 2 #[.val (.int p1), .val (.int p2)] [(.int p2), (.int p1)])) _
    exact k
  by_cases h2 : p1 < p2
  · refine OEnds.go (t' := s₁.setTop (mkF m 9 #[.val (.int p1), .val (.int p2)] [])) (fun _ k => XS.icmpYes X0.here hx rfl (pc0 := 2) (pc' := 9) rfl (hb hby d12_2) rfl (tlt h2).1 (by decide) (by decide) k) ?_
    refine OEnds.go (t' := s₁.setTop (mkF m 10 #[.val (.int p1), .val (.int p2)] [(.int p2)])) (fun _ k => ?_) ?_
    · show Steps p.tables e below (s₁.setTop (mkF m 9 #[.val (.int p1), .val (.int p2)] [])) _
      refine XS.iloadN X0.here hx rfl (hb hby d12_9) rfl ?_
      show Steps p.tables e below (s₁.setTop (mkF m 10 #[.val (.int p1), .val (.int p2)] [(.int p2)])) _
      exact k
    refine OEnds.back X0 hlk (v := (some (.int p2))) (fun h => by rw [hrt] at h; cases h) (fun fs hr => ?_) ?_ (by decide) (by decide)
    · exact retI X0 hx hrt (hb hby d12_10) hr
    · show Q12 Z p1 p2  h0 n0 _ s₁.heap _
      rw [e0]
      exact ⟨by rw [own_max, if_pos h2], N0, rfl⟩
  · refine OEnds.go (t' := s₁.setTop (mkF m 5 #[.val (.int p1), .val (.int p2)] [])) (fun _ k => XS.icmpNo X0.here hx rfl (hb hby d12_2) rfl (flt h2).1 k) ?_
    refine OEnds.go (t' := s₁.setTop (mkF m 10 #[.val (.int p1), .val (.int p2)] [(.int p1)])) (fun _ k => ?_) ?_
    · show Steps p.tables e below (s₁.setTop (mkF m 5 #[.val (.int p1), .val (.int p2)] [])) _
      refine XS.iloadN X0.here hx rfl (hb hby d12_5) rfl ?_
      show Steps p.tables e below (s₁.setTop (mkF m 6 #[.val (.int p1), .val (.int p2)] [(.int p1)])) _
      refine XS.goto X0.here hx rfl (pc0 := 6) (pc' := 10) rfl (hb hby d12_6) (by decide) (by decide) ?_
      show Steps p.tables e below (s₁.setTop (mkF m 10 #[.val (.int p1), .val (.int p2)] [(.int p1)])) _
      exact k
    refine OEnds.back X0 hlk (v := (some (.int p1))) (fun h => by rw [hrt] at h; cases h) (fun fs hr => ?_) ?_ (by decide) (by decide)
    · exact retI X0 hx hrt (hb hby d12_10) hr
    · show Q12 Z p1 p2  h0 n0 _ s₁.heap _
      rw [e0]
      exact ⟨by rw [own_max, if_neg h2], N0, rfl⟩
theorem d8_0 : decode prog_46_method_5_code 0 = .ok (.aload_n 0, 1) := by decide +kernel
theorem d8_1 : decode prog_46_method_5_code 1 = .ok (.getfield 7, 3) := by decide +kernel
theorem d8_4 : decode prog_46_method_5_code 4 = .ok (.areturn, 1) := by decide +kernel
theorem pn_8 : plainName "com/example/fragmint/fragmint/model/Lightpath" = true := by first | (simp [plainName, overriddenIn]; done) | decide +kernel
theorem ef_rm8 (m : MethodId) (a1 : Addr) : entryFrame m #[(.ref a1)] 1 = mkF m 0 #[.val (.ref a1)] [] := by first | (simp [entryFrame, mkF, argsToLocals, Value.category]; done) | rfl
def Q8 (Z : State) (a1 : Addr) (a2 : Addr) (h0 : Heap) (n0 : Nat) (v : Option Value) (h : Heap) (L : List Loc) : Prop := v = some (.ref a2) ∧ Fr n0 L ∧ h = h0
set_option maxRecDepth 65536 in
set_option maxHeartbeats 40000000 in
theorem rm8 (l : Launch) (Z : State) (a0 : Array Value) (hw : ∀ d ∈ tables_1, d.before a0 Z = true) (ws : List Jvm.Cond) (a1 : Addr) (a2 : Addr) (h0 : Heap) (n0 : Nat) (Z0 : n0 ≤ h0.size) (F1 : Fld Z h0 a1 "com/example/fragmint/fragmint/model/Lightpath" "route" "Lcom/example/fragmint/fragmint/model/Route;" (.ref a2)) :
    MetFree l (⟨"com/example/fragmint/fragmint/model/Lightpath", "route", "()Lcom/example/fragmint/fragmint/model/Route;"⟩ : MethodName) (head1 (Jvm.Cond.code (⟨"com/example/fragmint/fragmint/model/Lightpath", "route", "()Lcom/example/fragmint/fragmint/model/Route;"⟩ : MethodName) prog_46_method_5_code 1 (some (.object "com/example/fragmint/fragmint/model/Route")) :: ws) ({ frames := 0, cells := 0, slots := 0, locals := 0 } : Room)) (fun a U => a = #[(.ref a1)] ∧ Z.Warmed39 U.vm ∧ U.heap = h0) (fun _ _ _ _ _ => True) (fun _ U o U' => ∃ v L, o = .returned v ∧ Q8 Z a1 a2 h0 n0 v U'.heap L ∧ FrameEnd U o U' L ({ frames := 0, cells := 0, slots := 0, locals := 0 } : Room).cells ({ frames := 0, cells := 0, slots := 0, locals := 0 } : Room).slots) := by
  refine MetFree.of_bodySF (plainFor_of_name pn_8) hisR ?_
  intro p e s m args below meth c s₁ Bd hml0 hP hK
  obtain ⟨rfl, hZ, hh⟩ := hP
  have hx := Bd.exec
  have hby := Bd.bytes
  have hml : c.maxLocals = 1 := hml0
  have hown : s.vm.findClass "com/example/fragmint/fragmint/model/Lightpath" = some m.cls := findClass_of_methodNamed Bd.named
  have hnm := (name_of_methodNamed Bd.named Bd.method).1
  have hlk := BodyLoose.notSynchronized Bd
  have hrt := Bd.returns
  have X0 : Stand p l e ({ frames := 0, cells := 0, slots := 0, locals := 0 } : Room) s m #[(.ref a1)] below meth c s₁ [] 0 0 := Stand.of_body Bd
  have e0 : s₁.heap = h0 := by rw [← hh, Bd.state]; rfl
  have N0 := Fr.nil n0
  show OEnds p e below s (Q8 Z a1 a2 h0 n0) ({ frames := 0, cells := 0, slots := 0, locals := 0 } : Room).cells ({ frames := 0, cells := 0, slots := 0, locals := 0 } : Room).slots (s₁.setTop (entryFrame m #[(.ref a1)] 1))
  refine OEnds.go (t' := s₁.setTop (mkF m 0 #[.val (.ref a1)] [])) (fun t k => castTop (ef_rm8 m a1) k) ?_
  refine OEnds.go (t' := s₁.setTop (mkF m 1 #[.val (.ref a1)] [(.ref a1)])) (fun _ k => ?_) ?_
  · show Steps p.tables e below (s₁.setTop (mkF m 0 #[.val (.ref a1)] [])) _
    refine XS.aloadN X0.here hx rfl (hb hby d8_0) rfl rfl ?_
    show Steps p.tables e below (s₁.setTop (mkF m 1 #[.val (.ref a1)] [(.ref a1)])) _
    exact k
  obtain ⟨T1, X1, e1, st1⟩ := getF X0 hx hZ hown (host := "") (Or.inl (hw _ (List.mem_of_getElem? (i := 46) rfl))) Via.refl e0 F1 (g := (mkF m 1 #[.val (.ref a1)] [(.ref a1)])) rfl rfl (hb hby d8_1)
  refine OEnds.go (t' := T1.setTop (mkF m 4 #[.val (.ref a1)] [(.ref a2)])) (fun _ k => st1 _ k) ?_
  refine OEnds.back X1 hlk (v := (some (.ref a2))) (fun h => by rw [hrt] at h; cases h) (fun fs hr => ?_) ?_ (by decide) (by decide)
  · exact retA X1 hx hrt rfl rfl rfl (hb hby d8_4) hr
  · show Q8 Z a1 a2 h0 n0 _ T1.heap _
    rw [e1]
    exact ⟨rfl, N0, rfl⟩
theorem d9_0 : decode prog_53_method_2_code 0 = .ok (.aload_n 0, 1) := by decide +kernel
theorem d9_1 : decode prog_53_method_2_code 1 = .ok (.getfield 7, 3) := by decide +kernel
theorem d9_4 : decode prog_53_method_2_code 4 = .ok (.ireturn, 1) := by decide +kernel
theorem pn_9 : plainName "com/example/fragmint/fragmint/model/Route" = true := by first | (simp [plainName, overriddenIn]; done) | decide +kernel
theorem ef_rm9 (m : MethodId) (a1 : Addr) : entryFrame m #[(.ref a1)] 1 = mkF m 0 #[.val (.ref a1)] [] := by first | (simp [entryFrame, mkF, argsToLocals, Value.category]; done) | rfl
def Q9 (Z : State) (a1 : Addr) (v1 : Int32) (h0 : Heap) (n0 : Nat) (v : Option Value) (h : Heap) (L : List Loc) : Prop := v = some (.int v1) ∧ Fr n0 L ∧ h = h0
set_option maxRecDepth 65536 in
set_option maxHeartbeats 40000000 in
theorem rm9 (l : Launch) (Z : State) (a0 : Array Value) (hw : ∀ d ∈ tables_1, d.before a0 Z = true) (ws : List Jvm.Cond) (a1 : Addr) (v1 : Int32) (h0 : Heap) (n0 : Nat) (Z0 : n0 ≤ h0.size) (F1 : Fld Z h0 a1 "com/example/fragmint/fragmint/model/Route" "source" "I" (.int v1)) :
    MetFree l (⟨"com/example/fragmint/fragmint/model/Route", "source", "()I"⟩ : MethodName) (head1 (Jvm.Cond.code (⟨"com/example/fragmint/fragmint/model/Route", "source", "()I"⟩ : MethodName) prog_53_method_2_code 1 (some .int) :: ws) ({ frames := 0, cells := 0, slots := 0, locals := 0 } : Room)) (fun a U => a = #[(.ref a1)] ∧ Z.Warmed39 U.vm ∧ U.heap = h0) (fun _ _ _ _ _ => True) (fun _ U o U' => ∃ v L, o = .returned v ∧ Q9 Z a1 v1 h0 n0 v U'.heap L ∧ FrameEnd U o U' L ({ frames := 0, cells := 0, slots := 0, locals := 0 } : Room).cells ({ frames := 0, cells := 0, slots := 0, locals := 0 } : Room).slots) := by
  refine MetFree.of_bodySF (plainFor_of_name pn_9) hisR ?_
  intro p e s m args below meth c s₁ Bd hml0 hP hK
  obtain ⟨rfl, hZ, hh⟩ := hP
  have hx := Bd.exec
  have hby := Bd.bytes
  have hml : c.maxLocals = 1 := hml0
  have hown : s.vm.findClass "com/example/fragmint/fragmint/model/Route" = some m.cls := findClass_of_methodNamed Bd.named
  have hnm := (name_of_methodNamed Bd.named Bd.method).1
  have hlk := BodyLoose.notSynchronized Bd
  have hrt := Bd.returns
  have X0 : Stand p l e ({ frames := 0, cells := 0, slots := 0, locals := 0 } : Room) s m #[(.ref a1)] below meth c s₁ [] 0 0 := Stand.of_body Bd
  have e0 : s₁.heap = h0 := by rw [← hh, Bd.state]; rfl
  have N0 := Fr.nil n0
  show OEnds p e below s (Q9 Z a1 v1 h0 n0) ({ frames := 0, cells := 0, slots := 0, locals := 0 } : Room).cells ({ frames := 0, cells := 0, slots := 0, locals := 0 } : Room).slots (s₁.setTop (entryFrame m #[(.ref a1)] 1))
  refine OEnds.go (t' := s₁.setTop (mkF m 0 #[.val (.ref a1)] [])) (fun t k => castTop (ef_rm9 m a1) k) ?_
  refine OEnds.go (t' := s₁.setTop (mkF m 1 #[.val (.ref a1)] [(.ref a1)])) (fun _ k => ?_) ?_
  · show Steps p.tables e below (s₁.setTop (mkF m 0 #[.val (.ref a1)] [])) _
    refine XS.aloadN X0.here hx rfl (hb hby d9_0) rfl rfl ?_
    show Steps p.tables e below (s₁.setTop (mkF m 1 #[.val (.ref a1)] [(.ref a1)])) _
    exact k
  obtain ⟨T1, X1, e1, st1⟩ := getF X0 hx hZ hown (host := "") (Or.inl (hw _ (List.mem_of_getElem? (i := 27) rfl))) Via.refl e0 F1 (g := (mkF m 1 #[.val (.ref a1)] [(.ref a1)])) rfl rfl (hb hby d9_1)
  refine OEnds.go (t' := T1.setTop (mkF m 4 #[.val (.ref a1)] [(.int v1)])) (fun _ k => st1 _ k) ?_
  refine OEnds.back X1 hlk (v := (some (.int v1))) (fun h => by rw [hrt] at h; cases h) (fun fs hr => ?_) ?_ (by decide) (by decide)
  · exact retI X1 hx hrt (hb hby d9_4) hr
  · show Q9 Z a1 v1 h0 n0 _ T1.heap _
    rw [e1]
    exact ⟨rfl, N0, rfl⟩
theorem d10_0 : decode prog_53_method_3_code 0 = .ok (.aload_n 0, 1) := by decide +kernel
theorem d10_1 : decode prog_53_method_3_code 1 = .ok (.getfield 13, 3) := by decide +kernel
theorem d10_4 : decode prog_53_method_3_code 4 = .ok (.ireturn, 1) := by decide +kernel
theorem pn_10 : plainName "com/example/fragmint/fragmint/model/Route" = true := by first | (simp [plainName, overriddenIn]; done) | decide +kernel
theorem ef_rm10 (m : MethodId) (a1 : Addr) : entryFrame m #[(.ref a1)] 1 = mkF m 0 #[.val (.ref a1)] [] := by first | (simp [entryFrame, mkF, argsToLocals, Value.category]; done) | rfl
def Q10 (Z : State) (a1 : Addr) (v1 : Int32) (h0 : Heap) (n0 : Nat) (v : Option Value) (h : Heap) (L : List Loc) : Prop := v = some (.int v1) ∧ Fr n0 L ∧ h = h0
set_option maxRecDepth 65536 in
set_option maxHeartbeats 40000000 in
theorem rm10 (l : Launch) (Z : State) (a0 : Array Value) (hw : ∀ d ∈ tables_1, d.before a0 Z = true) (ws : List Jvm.Cond) (a1 : Addr) (v1 : Int32) (h0 : Heap) (n0 : Nat) (Z0 : n0 ≤ h0.size) (F1 : Fld Z h0 a1 "com/example/fragmint/fragmint/model/Route" "destination" "I" (.int v1)) :
    MetFree l (⟨"com/example/fragmint/fragmint/model/Route", "destination", "()I"⟩ : MethodName) (head1 (Jvm.Cond.code (⟨"com/example/fragmint/fragmint/model/Route", "destination", "()I"⟩ : MethodName) prog_53_method_3_code 1 (some .int) :: ws) ({ frames := 0, cells := 0, slots := 0, locals := 0 } : Room)) (fun a U => a = #[(.ref a1)] ∧ Z.Warmed39 U.vm ∧ U.heap = h0) (fun _ _ _ _ _ => True) (fun _ U o U' => ∃ v L, o = .returned v ∧ Q10 Z a1 v1 h0 n0 v U'.heap L ∧ FrameEnd U o U' L ({ frames := 0, cells := 0, slots := 0, locals := 0 } : Room).cells ({ frames := 0, cells := 0, slots := 0, locals := 0 } : Room).slots) := by
  refine MetFree.of_bodySF (plainFor_of_name pn_10) hisR ?_
  intro p e s m args below meth c s₁ Bd hml0 hP hK
  obtain ⟨rfl, hZ, hh⟩ := hP
  have hx := Bd.exec
  have hby := Bd.bytes
  have hml : c.maxLocals = 1 := hml0
  have hown : s.vm.findClass "com/example/fragmint/fragmint/model/Route" = some m.cls := findClass_of_methodNamed Bd.named
  have hnm := (name_of_methodNamed Bd.named Bd.method).1
  have hlk := BodyLoose.notSynchronized Bd
  have hrt := Bd.returns
  have X0 : Stand p l e ({ frames := 0, cells := 0, slots := 0, locals := 0 } : Room) s m #[(.ref a1)] below meth c s₁ [] 0 0 := Stand.of_body Bd
  have e0 : s₁.heap = h0 := by rw [← hh, Bd.state]; rfl
  have N0 := Fr.nil n0
  show OEnds p e below s (Q10 Z a1 v1 h0 n0) ({ frames := 0, cells := 0, slots := 0, locals := 0 } : Room).cells ({ frames := 0, cells := 0, slots := 0, locals := 0 } : Room).slots (s₁.setTop (entryFrame m #[(.ref a1)] 1))
  refine OEnds.go (t' := s₁.setTop (mkF m 0 #[.val (.ref a1)] [])) (fun t k => castTop (ef_rm10 m a1) k) ?_
  refine OEnds.go (t' := s₁.setTop (mkF m 1 #[.val (.ref a1)] [(.ref a1)])) (fun _ k => ?_) ?_
  · show Steps p.tables e below (s₁.setTop (mkF m 0 #[.val (.ref a1)] [])) _
    refine XS.aloadN X0.here hx rfl (hb hby d10_0) rfl rfl ?_
    show Steps p.tables e below (s₁.setTop (mkF m 1 #[.val (.ref a1)] [(.ref a1)])) _
    exact k
  obtain ⟨T1, X1, e1, st1⟩ := getF X0 hx hZ hown (host := "") (Or.inl (hw _ (List.mem_of_getElem? (i := 29) rfl))) Via.refl e0 F1 (g := (mkF m 1 #[.val (.ref a1)] [(.ref a1)])) rfl rfl (hb hby d10_1)
  refine OEnds.go (t' := T1.setTop (mkF m 4 #[.val (.ref a1)] [(.int v1)])) (fun _ k => st1 _ k) ?_
  refine OEnds.back X1 hlk (v := (some (.int v1))) (fun h => by rw [hrt] at h; cases h) (fun fs hr => ?_) ?_ (by decide) (by decide)
  · exact retI X1 hx hrt (hb hby d10_4) hr
  · show Q10 Z a1 v1 h0 n0 _ T1.heap _
    rw [e1]
    exact ⟨rfl, N0, rfl⟩
theorem d1_0 : decode prog_56_method_1_code 0 = .ok (.aload_n 0, 1) := by decide +kernel
theorem d1_1 : decode prog_56_method_1_code 1 = .ok (.invokespecial 1, 3) := by decide +kernel
theorem d1_4 : decode prog_56_method_1_code 4 = .ok (.iload_n 1, 1) := by decide +kernel
theorem d1_5 : decode prog_56_method_1_code 5 = .ok (.ifCond .ge 17, 3) := by decide +kernel
theorem d1_22 : decode prog_56_method_1_code 22 = .ok (.iload_n 2, 1) := by decide +kernel
theorem d1_23 : decode prog_56_method_1_code 23 = .ok (.invokestatic 16, 3) := by decide +kernel
theorem d1_26 : decode prog_56_method_1_code 26 = .ok (.aload_n 0, 1) := by decide +kernel
theorem d1_27 : decode prog_56_method_1_code 27 = .ok (.iload_n 2, 1) := by decide +kernel
theorem d1_28 : decode prog_56_method_1_code 28 = .ok (.putfield 22, 3) := by decide +kernel
theorem d1_31 : decode prog_56_method_1_code 31 = .ok (.aload_n 0, 1) := by decide +kernel
theorem d1_32 : decode prog_56_method_1_code 32 = .ok (.iload_n 1, 1) := by decide +kernel
theorem d1_33 : decode prog_56_method_1_code 33 = .ok (.newarray .int, 2) := by decide +kernel
theorem d1_35 : decode prog_56_method_1_code 35 = .ok (.putfield 26, 3) := by decide +kernel
theorem d1_38 : decode prog_56_method_1_code 38 = .ok (.return_, 1) := by decide +kernel
theorem pn_1 : plainName "com/example/fragmint/fragmint/model/Transponders" = true := by first | (simp [plainName, overriddenIn]; done) | decide +kernel
theorem pd_rm1_0 : parseMethodDescriptor "(I)V" = some ⟨[.int], none⟩ := by decide +kernel
theorem ef_rm1 (m : MethodId) (a1 : Addr) (p2 : Int32) : entryFrame m #[(.ref a1), (.int (3 : Int32)), (.int p2)] 3 = mkF m 0 #[.val (.ref a1), .val (.int (3 : Int32)), .val (.int p2)] [] := by first | (simp [entryFrame, mkF, argsToLocals, Value.category]; done) | rfl
def Q1 (Z : State) (a1 : Addr) (p2 : Int32)  (h0 : Heap) (n0 : Nat) (v : Option Value) (h : Heap) (L : List Loc) : Prop := v = none ∧ Fr n0 L ∧ Keep h0 h [a1] ∧ Exa Z h a1 "com/example/fragmint/fragmint/model/Transponders" ∧ Fld Z h a1 "com/example/fragmint/fragmint/model/Transponders" "perNode" "I" (.int p2) ∧ Fld Z h a1 "com/example/fragmint/fragmint/model/Transponders" "busyInAll" "J" (.long (0 : Int64)) ∧ ∃ (b : Addr) (kk : ClassId), Fld Z h a1 "com/example/fragmint/fragmint/model/Transponders" "busy" "[I" (.ref b) ∧ own_A Z h b kk own_zero ∧ h0.size ≤ b ∧ n0 ≤ b
set_option maxRecDepth 65536 in
set_option maxHeartbeats 40000000 in
theorem rm1 (l : Launch) (Z : State) (a0 : Array Value) (hw : ∀ d ∈ tables_1, d.before a0 Z = true) (ws : List Jvm.Cond) (a1 : Addr) (p2 : Int32)  (h0 : Heap) (n0 : Nat) (Z0 : n0 ≤ h0.size) (F_perNode_a1 : Fld Z h0 a1 "com/example/fragmint/fragmint/model/Transponders" "perNode" "I" (.int (0 : Int32))) (F_busy_a1 : Fld Z h0 a1 "com/example/fragmint/fragmint/model/Transponders" "busy" "[I" .null) (F_busyInAll_a1 : Fld Z h0 a1 "com/example/fragmint/fragmint/model/Transponders" "busyInAll" "J" (.long (0 : Int64))) (E_a1 : Exa Z h0 a1 "com/example/fragmint/fragmint/model/Transponders") (g_a1 : n0 ≤ a1) (c2 : ¬ p2 < 1) :
    MetFree l (⟨"com/example/fragmint/fragmint/model/Transponders", "<init>", "(II)V"⟩ : MethodName) (head1 (Jvm.Cond.code (⟨"com/example/fragmint/fragmint/model/Transponders", "<init>", "(II)V"⟩ : MethodName) prog_56_method_1_code 3 none :: ws) ({ frames := 1, cells := 1, slots := 3, locals := 12 } : Room)) (fun a U => a = #[(.ref a1), (.int (3 : Int32)), (.int p2)] ∧ Z.Warmed39 U.vm ∧ U.heap = h0) (fun _ _ _ _ _ => True) (fun _ U o U' => ∃ v L, o = .returned v ∧ Q1 Z a1 p2  h0 n0 v U'.heap L ∧ FrameEnd U o U' L ({ frames := 1, cells := 1, slots := 3, locals := 12 } : Room).cells ({ frames := 1, cells := 1, slots := 3, locals := 12 } : Room).slots) := by
  refine MetFree.of_bodySF (plainFor_of_name pn_1) hisR ?_
  intro p e s m args below meth c s₁ Bd hml0 hP hK
  obtain ⟨rfl, hZ, hh⟩ := hP
  have hx := Bd.exec
  have hby := Bd.bytes
  have hml : c.maxLocals = 3 := hml0
  have hown : s.vm.findClass "com/example/fragmint/fragmint/model/Transponders" = some m.cls := findClass_of_methodNamed Bd.named
  have hnm := (name_of_methodNamed Bd.named Bd.method).1
  have hlk := BodyLoose.notSynchronized Bd
  have hrt := Bd.returns
  have X0 : Stand p l e ({ frames := 1, cells := 1, slots := 3, locals := 12 } : Room) s m #[(.ref a1), (.int (3 : Int32)), (.int p2)] below meth c s₁ [] 0 0 := Stand.of_body Bd
  have e0 : s₁.heap = h0 := by rw [← hh, Bd.state]; rfl
  have N0 := Fr.nil n0
  show OEnds p e below s (Q1 Z a1 p2  h0 n0) ({ frames := 1, cells := 1, slots := 3, locals := 12 } : Room).cells ({ frames := 1, cells := 1, slots := 3, locals := 12 } : Room).slots (s₁.setTop (entryFrame m #[(.ref a1), (.int (3 : Int32)), (.int p2)] 3))
  refine OEnds.go (t' := s₁.setTop (mkF m 0 #[.val (.ref a1), .val (.int (3 : Int32)), .val (.int p2)] [])) (fun t k => castTop (ef_rm1 m a1 p2) k) ?_
  refine OEnds.go (t' := s₁.setTop (mkF m 1 #[.val (.ref a1), .val (.int (3 : Int32)), .val (.int p2)] [(.ref a1)])) (fun _ k => ?_) ?_
  · show Steps p.tables e below (s₁.setTop (mkF m 0 #[.val (.ref a1), .val (.int (3 : Int32)), .val (.int p2)] [])) _
    refine XS.aloadN X0.here hx rfl (hb hby d1_0) rfl rfl ?_
    show Steps p.tables e below (s₁.setTop (mkF m 1 #[.val (.ref a1), .val (.int (3 : Int32)), .val (.int p2)] [(.ref a1)])) _
    exact k
  obtain ⟨T1, X1, e1, st1⟩ := initO X0 hx hZ hown (hw _ (List.mem_of_getElem? (i := 7) rfl)) (hw _ (List.mem_of_getElem? (i := 8) rfl)) (hw _ (List.mem_of_getElem? (i := 9) rfl)) e0 (g := (mkF m 1 #[.val (.ref a1), .val (.int (3 : Int32)), .val (.int p2)] [(.ref a1)])) rfl (by rw [hml]; rfl) rfl (hb hby d1_1) (by decide) (W := 0) (by show 2 * 0 + _ ≤ _; exact Nat.le_of_eq rfl) (by decide)
  refine OEnds.go (t' := T1.setTop (mkF m 4 #[.val (.ref a1), .val (.int (3 : Int32)), .val (.int p2)] [])) (fun _ k => st1 _ k) ?_
  refine OEnds.go (t' := T1.setTop (mkF m 5 #[.val (.ref a1), .val (.int (3 : Int32)), .val (.int p2)] [(.int (3 : Int32))])) (fun _ k => ?_) ?_
  · show Steps p.tables e below (T1.setTop (mkF m 4 #[.val (.ref a1), .val (.int (3 : Int32)), .val (.int p2)] [])) _
    refine XS.iloadN X1.here hx rfl (hb hby d1_4) rfl ?_
    show Steps p.tables e below (T1.setTop (mkF m 5 #[.val (.ref a1), .val (.int (3 : Int32)), .val (.int p2)] [(.int (3 : Int32))])) _
    exact k
  refine OEnds.go (t' := T1.setTop (mkF m 22 #[.val (.ref a1), .val (.int (3 : Int32)), .val (.int p2)] [])) (fun _ k => XS.ifYes X1.here hx rfl (pc0 := 5) (pc' := 22) rfl (hb hby d1_5) rfl ((if0 _ _).trans (flt (by decide)).2.1) (by decide) (by decide) k) ?_
  refine OEnds.go (t' := T1.setTop (mkF m 23 #[.val (.ref a1), .val (.int (3 : Int32)), .val (.int p2)] [(.int p2)])) (fun _ k => ?_) ?_
  · show Steps p.tables e below (T1.setTop (mkF m 22 #[.val (.ref a1), .val (.int (3 : Int32)), .val (.int p2)] [])) _
    refine XS.iloadN X1.here hx rfl (hb hby d1_22) rfl ?_
    show Steps p.tables e below (T1.setTop (mkF m 23 #[.val (.ref a1), .val (.int (3 : Int32)), .val (.int p2)] [(.int p2)])) _
    exact k
  obtain ⟨_, _, ⟨T2, L2, k2, n2⟩, -, X2, ⟨Lc2, hQ2, l2, y2, z2⟩, st2⟩ := Jvm.LawKit.callS X1 hx (y := (⟨"com/example/fragmint/fragmint/model/Transponders", "check", "(I)V"⟩ : MethodName)) hown (mvT hZ (hw _ (List.mem_of_getElem? (i := 10) rfl))) (mvT hZ (hw _ (List.mem_of_getElem? (i := 11) rfl))) (mvT hZ (hw _ (List.mem_of_getElem? (i := 3) rfl))) (mvT hZ (hw _ (List.mem_of_getElem? (i := 12) rfl))) (by decide) (backOf (W := 0) (rm3 l Z a0 hw [] p2 h0 n0 Z0 c2) hZ (hw _ (List.mem_of_getElem? (i := 12) rfl)) (hw _ (List.mem_of_getElem? (i := 3) rfl)) (by decide) (by decide)) (g := (mkF m 23 #[.val (.ref a1), .val (.int (3 : Int32)), .val (.int p2)] [(.int p2)])) rfl (by rw [hml]; rfl) (argsL := [(.int p2)]) (rest := []) (lenOf pd_rm1_0 rfl) rfl (by show 2 * 0 + _ ≤ _; exact Nat.le_of_eq rfl) (hb hby d1_23) (fun _ _ => ⟨rfl, e1, (by decide : 0 + 0 ≤ _), (by decide : 0 + 0 ≤ _)⟩)
  dsimp only [Pt.U, Pt.locs, Pt.cells, Pt.slots] at X2 l2 y2 z2 st2 hQ2
  subst l2 y2 z2
  obtain ⟨rfl, N2q, eh⟩ := hQ2
  have N2 := Fr.app N0 N2q
  have eh2 := eh
  refine OEnds.go (t' := T2.setTop (mkF m 26 #[.val (.ref a1), .val (.int (3 : Int32)), .val (.int p2)] [])) (fun _ k => st2 _ k) ?_
  refine OEnds.go (t' := T2.setTop (mkF m 28 #[.val (.ref a1), .val (.int (3 : Int32)), .val (.int p2)] [(.int p2), (.ref a1)])) (fun _ k => ?_) ?_
  · show Steps p.tables e below (T2.setTop (mkF m 26 #[.val (.ref a1), .val (.int (3 : Int32)), .val (.int p2)] [])) _
    refine XS.aloadN X2.here hx rfl (hb hby d1_26) rfl rfl ?_
    show Steps p.tables e below (T2.setTop (mkF m 27 #[.val (.ref a1), .val (.int (3 : Int32)), .val (.int p2)] [(.ref a1)])) _
    refine XS.iloadN X2.here hx rfl (hb hby d1_27) rfl ?_
    show Steps p.tables e below (T2.setTop (mkF m 28 #[.val (.ref a1), .val (.int (3 : Int32)), .val (.int p2)] [(.int p2), (.ref a1)])) _
    exact k
  obtain ⟨T3, h3, X3, e3, W3, st3⟩ := putF X2 hx hZ hown (host := "") (Or.inl (hw _ (List.mem_of_getElem? (i := 13) rfl))) Via.refl eh2 F_perNode_a1 E_a1 (Or.inr ⟨(hw _ (List.mem_of_getElem? (i := 14) rfl)), rfl, hnm⟩) (hw _ (List.mem_of_getElem? (i := 2) rfl)) (ty := .int) (by decide) rfl rfl (g := (mkF m 28 #[.val (.ref a1), .val (.int (3 : Int32)), .val (.int p2)] [(.int p2), (.ref a1)])) rfl rfl (hb hby d1_28)
  have N3 := Fr.snoc X3 N2 g_a1
  have E_a1 := E_a1.wr W3
  have F_perNode_a1 := F_perNode_a1.same W3
  have F_busy_a1 := F_busy_a1.other W3 (Or.inr (slot_ne (Or.inr (hw _ (List.mem_of_getElem? (i := 16) rfl))) (Or.inr (hw _ (List.mem_of_getElem? (i := 14) rfl))) (by decide) (t := (.array .int)) (t' := .int) (by decide) (by decide)))
  have F_busyInAll_a1 := F_busyInAll_a1.other W3 (Or.inr (slot_ne (Or.inl (hw _ (List.mem_of_getElem? (i := 78) rfl))) (Or.inr (hw _ (List.mem_of_getElem? (i := 14) rfl))) (by decide) (t := .long) (t' := .int) (by decide) (by decide)))
  have Z3 : n0 ≤ h3.size := Nat.le_trans Z0 (Keep.of_wr W3).1
  have K3 := (Keep.refl h0 [a1]).wr W3 (Or.inl (List.mem_of_getElem? (i := 0) rfl))
  refine OEnds.go (t' := T3.setTop (mkF m 31 #[.val (.ref a1), .val (.int (3 : Int32)), .val (.int p2)] [])) (fun _ k => st3 _ k) ?_
  refine OEnds.go (t' := T3.setTop (mkF m 33 #[.val (.ref a1), .val (.int (3 : Int32)), .val (.int p2)] [(.int (3 : Int32)), (.ref a1)])) (fun _ k => ?_) ?_
  · show Steps p.tables e below (T3.setTop (mkF m 31 #[.val (.ref a1), .val (.int (3 : Int32)), .val (.int p2)] [])) _
    refine XS.aloadN X3.here hx rfl (hb hby d1_31) rfl rfl ?_
    show Steps p.tables e below (T3.setTop (mkF m 32 #[.val (.ref a1), .val (.int (3 : Int32)), .val (.int p2)] [(.ref a1)])) _
    refine XS.iloadN X3.here hx rfl (hb hby d1_32) rfl ?_
    show Steps p.tables e below (T3.setTop (mkF m 33 #[.val (.ref a1), .val (.int (3 : Int32)), .val (.int p2)] [(.int (3 : Int32)), (.ref a1)])) _
    exact k
  obtain ⟨T4, h4, k4, X4, e4, E4, A4, st4⟩ := newP X3 hx hZ (hw _ (List.mem_of_getElem? (i := 0) rfl)) e3 (g := (mkF m 33 #[.val (.ref a1), .val (.int (3 : Int32)), .val (.int p2)] [(.int (3 : Int32)), (.ref a1)])) rfl (hb hby d1_33) rfl (by decide) (cap := 3) (by decide) (by decide) (by decide) (by decide)
  obtain ⟨b1, gz4⟩ : ∃ z, z = h3.size := ⟨_, rfl⟩
  rw [← gz4] at A4 st4
  have ne_a1_b1 : a1 ≠ b1 := Nat.ne_of_lt (Nat.lt_of_lt_of_le E_a1.lt (Nat.le_of_eq gz4.symm))
  have g_b1 : n0 ≤ b1 := Nat.le_trans Z3 (Nat.le_of_eq gz4.symm)
  have sz_b1 : h0.size ≤ b1 := Nat.le_trans K3.1 (Nat.le_of_eq gz4.symm)
  have E_a1 := E_a1.ext E4
  have F_perNode_a1 := F_perNode_a1.ext E4
  have F_busy_a1 := F_busy_a1.ext E4
  have F_busyInAll_a1 := F_busyInAll_a1.ext E4
  have Z4 : n0 ≤ h4.size := Nat.le_trans Z3 E4.1
  have K4 := K3.ext E4
  have V_b1 : Arv Z h4 b1 k4 .int (3 : Int32) [(.int (0 : Int32)), (.int (0 : Int32)), (.int (0 : Int32))] (.int (0 : Int32)) := (Arv.new A4 (by decide)).pad (pad_rep [] (.int (0 : Int32)) 3)
  refine OEnds.go (t' := T4.setTop (mkF m 35 #[.val (.ref a1), .val (.int (3 : Int32)), .val (.int p2)] [(.ref b1), (.ref a1)])) (fun _ k => st4 _ k) ?_
  obtain ⟨T5, h5, X5, e5, W5, st5⟩ := putF X4 hx hZ hown (host := "") (Or.inl (hw _ (List.mem_of_getElem? (i := 15) rfl))) Via.refl e4 F_busy_a1 E_a1 (Or.inr ⟨(hw _ (List.mem_of_getElem? (i := 16) rfl)), rfl, hnm⟩) (hw _ (List.mem_of_getElem? (i := 2) rfl)) (ty := (.array .int)) (by decide) rfl rfl (g := (mkF m 35 #[.val (.ref a1), .val (.int (3 : Int32)), .val (.int p2)] [(.ref b1), (.ref a1)])) rfl rfl (hb hby d1_35)
  have N5 := Fr.snoc X5 N3 g_a1
  have E_a1 := E_a1.wr W5
  have F_perNode_a1 := F_perNode_a1.other W5 (Or.inr (slot_ne (Or.inr (hw _ (List.mem_of_getElem? (i := 14) rfl))) (Or.inr (hw _ (List.mem_of_getElem? (i := 16) rfl))) (by decide) (t := .int) (t' := (.array .int)) (by decide) (by decide)))
  have F_busy_a1 := F_busy_a1.same W5
  have F_busyInAll_a1 := F_busyInAll_a1.other W5 (Or.inr (slot_ne (Or.inl (hw _ (List.mem_of_getElem? (i := 78) rfl))) (Or.inr (hw _ (List.mem_of_getElem? (i := 16) rfl))) (by decide) (t := .long) (t' := (.array .int)) (by decide) (by decide)))
  have V_b1 := V_b1.other W5 (Ne.symm ne_a1_b1)
  have Z5 : n0 ≤ h5.size := Nat.le_trans Z4 (Keep.of_wr W5).1
  have K5 := K4.wr W5 (Or.inl (List.mem_of_getElem? (i := 0) rfl))
  refine OEnds.go (t' := T5.setTop (mkF m 38 #[.val (.ref a1), .val (.int (3 : Int32)), .val (.int p2)] [])) (fun _ k => st5 _ k) ?_
  refine OEnds.back X5 hlk (v := none) (fun _ => rfl) (fun fs hr => ?_) ?_ (by decide) (by decide)
  · exact X5.returnOut hx hrt (hb hby d1_38) hr
  · show Q1 Z a1 p2  h0 n0 _ T5.heap _
    rw [e5]
    exact ⟨rfl, N5, K5, E_a1, F_perNode_a1, F_busyInAll_a1, b1, _, F_busy_a1, V_b1, sz_b1, g_b1⟩
theorem d4_0 : decode prog_53_method_1_code 0 = .ok (.aload_n 0, 1) := by decide +kernel
theorem d4_1 : decode prog_53_method_1_code 1 = .ok (.invokespecial 1, 3) := by decide +kernel
theorem d4_4 : decode prog_53_method_1_code 4 = .ok (.aload_n 0, 1) := by decide +kernel
theorem d4_5 : decode prog_53_method_1_code 5 = .ok (.iload_n 1, 1) := by decide +kernel
theorem d4_6 : decode prog_53_method_1_code 6 = .ok (.putfield 7, 3) := by decide +kernel
theorem d4_9 : decode prog_53_method_1_code 9 = .ok (.aload_n 0, 1) := by decide +kernel
theorem d4_10 : decode prog_53_method_1_code 10 = .ok (.iload_n 2, 1) := by decide +kernel
theorem d4_11 : decode prog_53_method_1_code 11 = .ok (.putfield 13, 3) := by decide +kernel
theorem d4_14 : decode prog_53_method_1_code 14 = .ok (.aload_n 0, 1) := by decide +kernel
theorem d4_15 : decode prog_53_method_1_code 15 = .ok (.aload_n 3, 1) := by decide +kernel
theorem d4_16 : decode prog_53_method_1_code 16 = .ok (.putfield 16, 3) := by decide +kernel
theorem d4_19 : decode prog_53_method_1_code 19 = .ok (.aload_n 0, 1) := by decide +kernel
theorem d4_20 : decode prog_53_method_1_code 20 = .ok (.iload 4, 2) := by decide +kernel
theorem d4_22 : decode prog_53_method_1_code 22 = .ok (.putfield 20, 3) := by decide +kernel
theorem d4_25 : decode prog_53_method_1_code 25 = .ok (.aload_n 0, 1) := by decide +kernel
theorem d4_26 : decode prog_53_method_1_code 26 = .ok (.aload 5, 2) := by decide +kernel
theorem d4_28 : decode prog_53_method_1_code 28 = .ok (.putfield 23, 3) := by decide +kernel
theorem d4_31 : decode prog_53_method_1_code 31 = .ok (.return_, 1) := by decide +kernel
theorem pn_4 : plainName "com/example/fragmint/fragmint/model/Route" = true := by first | (simp [plainName, overriddenIn]; done) | decide +kernel
theorem ef_rm4 (m : MethodId) (a1 : Addr) (p1 : Int32) (p2 : Int32) (a2 : Addr) (p3 : Int32) (a3 : Addr) : entryFrame m #[(.ref a1), (.int p1), (.int p2), (.ref a2), (.int p3), (.ref a3)] 6 = mkF m 0 #[.val (.ref a1), .val (.int p1), .val (.int p2), .val (.ref a2), .val (.int p3), .val (.ref a3)] [] := by first | (simp [entryFrame, mkF, argsToLocals, Value.category]; done) | rfl
def Q4 (Z : State) (a1 : Addr) (p1 : Int32) (p2 : Int32) (a2 : Addr) (p3 : Int32) (a3 : Addr)  (h0 : Heap) (n0 : Nat) (v : Option Value) (h : Heap) (L : List Loc) : Prop := v = none ∧ Fr n0 L ∧ Keep h0 h [a1] ∧ Exa Z h a1 "com/example/fragmint/fragmint/model/Route" ∧ Fld Z h a1 "com/example/fragmint/fragmint/model/Route" "source" "I" (.int p1) ∧ Fld Z h a1 "com/example/fragmint/fragmint/model/Route" "destination" "I" (.int p2)
set_option maxRecDepth 65536 in
set_option maxHeartbeats 40000000 in
theorem rm4 (l : Launch) (Z : State) (a0 : Array Value) (hw : ∀ d ∈ tables_1, d.before a0 Z = true) (ws : List Jvm.Cond) (a1 : Addr) (p1 : Int32) (p2 : Int32) (a2 : Addr) (p3 : Int32) (a3 : Addr)  (h0 : Heap) (n0 : Nat) (Z0 : n0 ≤ h0.size) (F_source_a1 : Fld Z h0 a1 "com/example/fragmint/fragmint/model/Route" "source" "I" (.int (0 : Int32))) (F_destination_a1 : Fld Z h0 a1 "com/example/fragmint/fragmint/model/Route" "destination" "I" (.int (0 : Int32))) (F_links_a1 : Fld Z h0 a1 "com/example/fragmint/fragmint/model/Route" "links" "[I" .null) (F_slots_a1 : Fld Z h0 a1 "com/example/fragmint/fragmint/model/Route" "slots" "I" (.int (0 : Int32))) (F_nodeIds_a1 : Fld Z h0 a1 "com/example/fragmint/fragmint/model/Route" "nodeIds" "[I" .null) (E_a1 : Exa Z h0 a1 "com/example/fragmint/fragmint/model/Route") (g_a1 : n0 ≤ a1) :
    MetFree l (⟨"com/example/fragmint/fragmint/model/Route", "<init>", "(II[II[I)V"⟩ : MethodName) (head1 (Jvm.Cond.code (⟨"com/example/fragmint/fragmint/model/Route", "<init>", "(II[II[I)V"⟩ : MethodName) prog_53_method_1_code 6 none :: ws) ({ frames := 1, cells := 0, slots := 0, locals := 12 } : Room)) (fun a U => a = #[(.ref a1), (.int p1), (.int p2), (.ref a2), (.int p3), (.ref a3)] ∧ Z.Warmed39 U.vm ∧ U.heap = h0) (fun _ _ _ _ _ => True) (fun _ U o U' => ∃ v L, o = .returned v ∧ Q4 Z a1 p1 p2 a2 p3 a3  h0 n0 v U'.heap L ∧ FrameEnd U o U' L ({ frames := 1, cells := 0, slots := 0, locals := 12 } : Room).cells ({ frames := 1, cells := 0, slots := 0, locals := 12 } : Room).slots) := by
  refine MetFree.of_bodySF (plainFor_of_name pn_4) hisR ?_
  intro p e s m args below meth c s₁ Bd hml0 hP hK
  obtain ⟨rfl, hZ, hh⟩ := hP
  have hx := Bd.exec
  have hby := Bd.bytes
  have hml : c.maxLocals = 6 := hml0
  have hown : s.vm.findClass "com/example/fragmint/fragmint/model/Route" = some m.cls := findClass_of_methodNamed Bd.named
  have hnm := (name_of_methodNamed Bd.named Bd.method).1
  have hlk := BodyLoose.notSynchronized Bd
  have hrt := Bd.returns
  have X0 : Stand p l e ({ frames := 1, cells := 0, slots := 0, locals := 12 } : Room) s m #[(.ref a1), (.int p1), (.int p2), (.ref a2), (.int p3), (.ref a3)] below meth c s₁ [] 0 0 := Stand.of_body Bd
  have e0 : s₁.heap = h0 := by rw [← hh, Bd.state]; rfl
  have N0 := Fr.nil n0
  show OEnds p e below s (Q4 Z a1 p1 p2 a2 p3 a3  h0 n0) ({ frames := 1, cells := 0, slots := 0, locals := 12 } : Room).cells ({ frames := 1, cells := 0, slots := 0, locals := 12 } : Room).slots (s₁.setTop (entryFrame m #[(.ref a1), (.int p1), (.int p2), (.ref a2), (.int p3), (.ref a3)] 6))
  refine OEnds.go (t' := s₁.setTop (mkF m 0 #[.val (.ref a1), .val (.int p1), .val (.int p2), .val (.ref a2), .val (.int p3), .val (.ref a3)] [])) (fun t k => castTop (ef_rm4 m a1 p1 p2 a2 p3 a3) k) ?_
  refine OEnds.go (t' := s₁.setTop (mkF m 1 #[.val (.ref a1), .val (.int p1), .val (.int p2), .val (.ref a2), .val (.int p3), .val (.ref a3)] [(.ref a1)])) (fun _ k => ?_) ?_
  · show Steps p.tables e below (s₁.setTop (mkF m 0 #[.val (.ref a1), .val (.int p1), .val (.int p2), .val (.ref a2), .val (.int p3), .val (.ref a3)] [])) _
    refine XS.aloadN X0.here hx rfl (hb hby d4_0) rfl rfl ?_
    show Steps p.tables e below (s₁.setTop (mkF m 1 #[.val (.ref a1), .val (.int p1), .val (.int p2), .val (.ref a2), .val (.int p3), .val (.ref a3)] [(.ref a1)])) _
    exact k
  obtain ⟨T1, X1, e1, st1⟩ := initO X0 hx hZ hown (hw _ (List.mem_of_getElem? (i := 26) rfl)) (hw _ (List.mem_of_getElem? (i := 8) rfl)) (hw _ (List.mem_of_getElem? (i := 9) rfl)) e0 (g := (mkF m 1 #[.val (.ref a1), .val (.int p1), .val (.int p2), .val (.ref a2), .val (.int p3), .val (.ref a3)] [(.ref a1)])) rfl (by rw [hml]; rfl) rfl (hb hby d4_1) (by decide) (W := 0) (by show 2 * 0 + _ ≤ _; exact Nat.le_of_eq rfl) (by decide)
  refine OEnds.go (t' := T1.setTop (mkF m 4 #[.val (.ref a1), .val (.int p1), .val (.int p2), .val (.ref a2), .val (.int p3), .val (.ref a3)] [])) (fun _ k => st1 _ k) ?_
  refine OEnds.go (t' := T1.setTop (mkF m 6 #[.val (.ref a1), .val (.int p1), .val (.int p2), .val (.ref a2), .val (.int p3), .val (.ref a3)] [(.int p1), (.ref a1)])) (fun _ k => ?_) ?_
  · show Steps p.tables e below (T1.setTop (mkF m 4 #[.val (.ref a1), .val (.int p1), .val (.int p2), .val (.ref a2), .val (.int p3), .val (.ref a3)] [])) _
    refine XS.aloadN X1.here hx rfl (hb hby d4_4) rfl rfl ?_
    show Steps p.tables e below (T1.setTop (mkF m 5 #[.val (.ref a1), .val (.int p1), .val (.int p2), .val (.ref a2), .val (.int p3), .val (.ref a3)] [(.ref a1)])) _
    refine XS.iloadN X1.here hx rfl (hb hby d4_5) rfl ?_
    show Steps p.tables e below (T1.setTop (mkF m 6 #[.val (.ref a1), .val (.int p1), .val (.int p2), .val (.ref a2), .val (.int p3), .val (.ref a3)] [(.int p1), (.ref a1)])) _
    exact k
  obtain ⟨T2, h2, X2, e2, W2, st2⟩ := putF X1 hx hZ hown (host := "") (Or.inl (hw _ (List.mem_of_getElem? (i := 27) rfl))) Via.refl e1 F_source_a1 E_a1 (Or.inr ⟨(hw _ (List.mem_of_getElem? (i := 28) rfl)), rfl, hnm⟩) (hw _ (List.mem_of_getElem? (i := 21) rfl)) (ty := .int) (by decide) rfl rfl (g := (mkF m 6 #[.val (.ref a1), .val (.int p1), .val (.int p2), .val (.ref a2), .val (.int p3), .val (.ref a3)] [(.int p1), (.ref a1)])) rfl rfl (hb hby d4_6)
  have N2 := Fr.snoc X2 N0 g_a1
  have E_a1 := E_a1.wr W2
  have F_source_a1 := F_source_a1.same W2
  have F_destination_a1 := F_destination_a1.other W2 (Or.inr (slot_ne (Or.inr (hw _ (List.mem_of_getElem? (i := 30) rfl))) (Or.inr (hw _ (List.mem_of_getElem? (i := 28) rfl))) (by decide) (t := .int) (t' := .int) (by decide) (by decide)))
  have F_links_a1 := F_links_a1.other W2 (Or.inr (slot_ne (Or.inr (hw _ (List.mem_of_getElem? (i := 32) rfl))) (Or.inr (hw _ (List.mem_of_getElem? (i := 28) rfl))) (by decide) (t := (.array .int)) (t' := .int) (by decide) (by decide)))
  have F_slots_a1 := F_slots_a1.other W2 (Or.inr (slot_ne (Or.inr (hw _ (List.mem_of_getElem? (i := 34) rfl))) (Or.inr (hw _ (List.mem_of_getElem? (i := 28) rfl))) (by decide) (t := .int) (t' := .int) (by decide) (by decide)))
  have F_nodeIds_a1 := F_nodeIds_a1.other W2 (Or.inr (slot_ne (Or.inr (hw _ (List.mem_of_getElem? (i := 36) rfl))) (Or.inr (hw _ (List.mem_of_getElem? (i := 28) rfl))) (by decide) (t := (.array .int)) (t' := .int) (by decide) (by decide)))
  have Z2 : n0 ≤ h2.size := Nat.le_trans Z0 (Keep.of_wr W2).1
  have K2 := (Keep.refl h0 [a1]).wr W2 (Or.inl (List.mem_of_getElem? (i := 0) rfl))
  refine OEnds.go (t' := T2.setTop (mkF m 9 #[.val (.ref a1), .val (.int p1), .val (.int p2), .val (.ref a2), .val (.int p3), .val (.ref a3)] [])) (fun _ k => st2 _ k) ?_
  refine OEnds.go (t' := T2.setTop (mkF m 11 #[.val (.ref a1), .val (.int p1), .val (.int p2), .val (.ref a2), .val (.int p3), .val (.ref a3)] [(.int p2), (.ref a1)])) (fun _ k => ?_) ?_
  · show Steps p.tables e below (T2.setTop (mkF m 9 #[.val (.ref a1), .val (.int p1), .val (.int p2), .val (.ref a2), .val (.int p3), .val (.ref a3)] [])) _
    refine XS.aloadN X2.here hx rfl (hb hby d4_9) rfl rfl ?_
    show Steps p.tables e below (T2.setTop (mkF m 10 #[.val (.ref a1), .val (.int p1), .val (.int p2), .val (.ref a2), .val (.int p3), .val (.ref a3)] [(.ref a1)])) _
    refine XS.iloadN X2.here hx rfl (hb hby d4_10) rfl ?_
    show Steps p.tables e below (T2.setTop (mkF m 11 #[.val (.ref a1), .val (.int p1), .val (.int p2), .val (.ref a2), .val (.int p3), .val (.ref a3)] [(.int p2), (.ref a1)])) _
    exact k
  obtain ⟨T3, h3, X3, e3, W3, st3⟩ := putF X2 hx hZ hown (host := "") (Or.inl (hw _ (List.mem_of_getElem? (i := 29) rfl))) Via.refl e2 F_destination_a1 E_a1 (Or.inr ⟨(hw _ (List.mem_of_getElem? (i := 30) rfl)), rfl, hnm⟩) (hw _ (List.mem_of_getElem? (i := 21) rfl)) (ty := .int) (by decide) rfl rfl (g := (mkF m 11 #[.val (.ref a1), .val (.int p1), .val (.int p2), .val (.ref a2), .val (.int p3), .val (.ref a3)] [(.int p2), (.ref a1)])) rfl rfl (hb hby d4_11)
  have N3 := Fr.snoc X3 N2 g_a1
  have E_a1 := E_a1.wr W3
  have F_source_a1 := F_source_a1.other W3 (Or.inr (slot_ne (Or.inr (hw _ (List.mem_of_getElem? (i := 28) rfl))) (Or.inr (hw _ (List.mem_of_getElem? (i := 30) rfl))) (by decide) (t := .int) (t' := .int) (by decide) (by decide)))
  have F_destination_a1 := F_destination_a1.same W3
  have F_links_a1 := F_links_a1.other W3 (Or.inr (slot_ne (Or.inr (hw _ (List.mem_of_getElem? (i := 32) rfl))) (Or.inr (hw _ (List.mem_of_getElem? (i := 30) rfl))) (by decide) (t := (.array .int)) (t' := .int) (by decide) (by decide)))
  have F_slots_a1 := F_slots_a1.other W3 (Or.inr (slot_ne (Or.inr (hw _ (List.mem_of_getElem? (i := 34) rfl))) (Or.inr (hw _ (List.mem_of_getElem? (i := 30) rfl))) (by decide) (t := .int) (t' := .int) (by decide) (by decide)))
  have F_nodeIds_a1 := F_nodeIds_a1.other W3 (Or.inr (slot_ne (Or.inr (hw _ (List.mem_of_getElem? (i := 36) rfl))) (Or.inr (hw _ (List.mem_of_getElem? (i := 30) rfl))) (by decide) (t := (.array .int)) (t' := .int) (by decide) (by decide)))
  have Z3 : n0 ≤ h3.size := Nat.le_trans Z2 (Keep.of_wr W3).1
  have K3 := K2.wr W3 (Or.inl (List.mem_of_getElem? (i := 0) rfl))
  refine OEnds.go (t' := T3.setTop (mkF m 14 #[.val (.ref a1), .val (.int p1), .val (.int p2), .val (.ref a2), .val (.int p3), .val (.ref a3)] [])) (fun _ k => st3 _ k) ?_
  refine OEnds.go (t' := T3.setTop (mkF m 16 #[.val (.ref a1), .val (.int p1), .val (.int p2), .val (.ref a2), .val (.int p3), .val (.ref a3)] [(.ref a2), (.ref a1)])) (fun _ k => ?_) ?_
  · show Steps p.tables e below (T3.setTop (mkF m 14 #[.val (.ref a1), .val (.int p1), .val (.int p2), .val (.ref a2), .val (.int p3), .val (.ref a3)] [])) _
    refine XS.aloadN X3.here hx rfl (hb hby d4_14) rfl rfl ?_
    show Steps p.tables e below (T3.setTop (mkF m 15 #[.val (.ref a1), .val (.int p1), .val (.int p2), .val (.ref a2), .val (.int p3), .val (.ref a3)] [(.ref a1)])) _
    refine XS.aloadN X3.here hx rfl (hb hby d4_15) rfl rfl ?_
    show Steps p.tables e below (T3.setTop (mkF m 16 #[.val (.ref a1), .val (.int p1), .val (.int p2), .val (.ref a2), .val (.int p3), .val (.ref a3)] [(.ref a2), (.ref a1)])) _
    exact k
  obtain ⟨T4, h4, X4, e4, W4, st4⟩ := putF X3 hx hZ hown (host := "") (Or.inl (hw _ (List.mem_of_getElem? (i := 31) rfl))) Via.refl e3 F_links_a1 E_a1 (Or.inr ⟨(hw _ (List.mem_of_getElem? (i := 32) rfl)), rfl, hnm⟩) (hw _ (List.mem_of_getElem? (i := 21) rfl)) (ty := (.array .int)) (by decide) rfl rfl (g := (mkF m 16 #[.val (.ref a1), .val (.int p1), .val (.int p2), .val (.ref a2), .val (.int p3), .val (.ref a3)] [(.ref a2), (.ref a1)])) rfl rfl (hb hby d4_16)
  have N4 := Fr.snoc X4 N3 g_a1
  have E_a1 := E_a1.wr W4
  have F_source_a1 := F_source_a1.other W4 (Or.inr (slot_ne (Or.inr (hw _ (List.mem_of_getElem? (i := 28) rfl))) (Or.inr (hw _ (List.mem_of_getElem? (i := 32) rfl))) (by decide) (t := .int) (t' := (.array .int)) (by decide) (by decide)))
  have F_destination_a1 := F_destination_a1.other W4 (Or.inr (slot_ne (Or.inr (hw _ (List.mem_of_getElem? (i := 30) rfl))) (Or.inr (hw _ (List.mem_of_getElem? (i := 32) rfl))) (by decide) (t := .int) (t' := (.array .int)) (by decide) (by decide)))
  have F_links_a1 := F_links_a1.same W4
  have F_slots_a1 := F_slots_a1.other W4 (Or.inr (slot_ne (Or.inr (hw _ (List.mem_of_getElem? (i := 34) rfl))) (Or.inr (hw _ (List.mem_of_getElem? (i := 32) rfl))) (by decide) (t := .int) (t' := (.array .int)) (by decide) (by decide)))
  have F_nodeIds_a1 := F_nodeIds_a1.other W4 (Or.inr (slot_ne (Or.inr (hw _ (List.mem_of_getElem? (i := 36) rfl))) (Or.inr (hw _ (List.mem_of_getElem? (i := 32) rfl))) (by decide) (t := (.array .int)) (t' := (.array .int)) (by decide) (by decide)))
  have Z4 : n0 ≤ h4.size := Nat.le_trans Z3 (Keep.of_wr W4).1
  have K4 := K3.wr W4 (Or.inl (List.mem_of_getElem? (i := 0) rfl))
  refine OEnds.go (t' := T4.setTop (mkF m 19 #[.val (.ref a1), .val (.int p1), .val (.int p2), .val (.ref a2), .val (.int p3), .val (.ref a3)] [])) (fun _ k => st4 _ k) ?_
  refine OEnds.go (t' := T4.setTop (mkF m 22 #[.val (.ref a1), .val (.int p1), .val (.int p2), .val (.ref a2), .val (.int p3), .val (.ref a3)] [(.int p3), (.ref a1)])) (fun _ k => ?_) ?_
  · show Steps p.tables e below (T4.setTop (mkF m 19 #[.val (.ref a1), .val (.int p1), .val (.int p2), .val (.ref a2), .val (.int p3), .val (.ref a3)] [])) _
    refine XS.aloadN X4.here hx rfl (hb hby d4_19) rfl rfl ?_
    show Steps p.tables e below (T4.setTop (mkF m 20 #[.val (.ref a1), .val (.int p1), .val (.int p2), .val (.ref a2), .val (.int p3), .val (.ref a3)] [(.ref a1)])) _
    refine XS.iload X4.here hx rfl (hb hby d4_20) rfl ?_
    show Steps p.tables e below (T4.setTop (mkF m 22 #[.val (.ref a1), .val (.int p1), .val (.int p2), .val (.ref a2), .val (.int p3), .val (.ref a3)] [(.int p3), (.ref a1)])) _
    exact k
  obtain ⟨T5, h5, X5, e5, W5, st5⟩ := putF X4 hx hZ hown (host := "") (Or.inl (hw _ (List.mem_of_getElem? (i := 33) rfl))) Via.refl e4 F_slots_a1 E_a1 (Or.inr ⟨(hw _ (List.mem_of_getElem? (i := 34) rfl)), rfl, hnm⟩) (hw _ (List.mem_of_getElem? (i := 21) rfl)) (ty := .int) (by decide) rfl rfl (g := (mkF m 22 #[.val (.ref a1), .val (.int p1), .val (.int p2), .val (.ref a2), .val (.int p3), .val (.ref a3)] [(.int p3), (.ref a1)])) rfl rfl (hb hby d4_22)
  have N5 := Fr.snoc X5 N4 g_a1
  have E_a1 := E_a1.wr W5
  have F_source_a1 := F_source_a1.other W5 (Or.inr (slot_ne (Or.inr (hw _ (List.mem_of_getElem? (i := 28) rfl))) (Or.inr (hw _ (List.mem_of_getElem? (i := 34) rfl))) (by decide) (t := .int) (t' := .int) (by decide) (by decide)))
  have F_destination_a1 := F_destination_a1.other W5 (Or.inr (slot_ne (Or.inr (hw _ (List.mem_of_getElem? (i := 30) rfl))) (Or.inr (hw _ (List.mem_of_getElem? (i := 34) rfl))) (by decide) (t := .int) (t' := .int) (by decide) (by decide)))
  have F_links_a1 := F_links_a1.other W5 (Or.inr (slot_ne (Or.inr (hw _ (List.mem_of_getElem? (i := 32) rfl))) (Or.inr (hw _ (List.mem_of_getElem? (i := 34) rfl))) (by decide) (t := (.array .int)) (t' := .int) (by decide) (by decide)))
  have F_slots_a1 := F_slots_a1.same W5
  have F_nodeIds_a1 := F_nodeIds_a1.other W5 (Or.inr (slot_ne (Or.inr (hw _ (List.mem_of_getElem? (i := 36) rfl))) (Or.inr (hw _ (List.mem_of_getElem? (i := 34) rfl))) (by decide) (t := (.array .int)) (t' := .int) (by decide) (by decide)))
  have Z5 : n0 ≤ h5.size := Nat.le_trans Z4 (Keep.of_wr W5).1
  have K5 := K4.wr W5 (Or.inl (List.mem_of_getElem? (i := 0) rfl))
  refine OEnds.go (t' := T5.setTop (mkF m 25 #[.val (.ref a1), .val (.int p1), .val (.int p2), .val (.ref a2), .val (.int p3), .val (.ref a3)] [])) (fun _ k => st5 _ k) ?_
  refine OEnds.go (t' := T5.setTop (mkF m 28 #[.val (.ref a1), .val (.int p1), .val (.int p2), .val (.ref a2), .val (.int p3), .val (.ref a3)] [(.ref a3), (.ref a1)])) (fun _ k => ?_) ?_
  · show Steps p.tables e below (T5.setTop (mkF m 25 #[.val (.ref a1), .val (.int p1), .val (.int p2), .val (.ref a2), .val (.int p3), .val (.ref a3)] [])) _
    refine XS.aloadN X5.here hx rfl (hb hby d4_25) rfl rfl ?_
    show Steps p.tables e below (T5.setTop (mkF m 26 #[.val (.ref a1), .val (.int p1), .val (.int p2), .val (.ref a2), .val (.int p3), .val (.ref a3)] [(.ref a1)])) _
    refine XS.aload X5.here hx rfl (hb hby d4_26) rfl rfl ?_
    show Steps p.tables e below (T5.setTop (mkF m 28 #[.val (.ref a1), .val (.int p1), .val (.int p2), .val (.ref a2), .val (.int p3), .val (.ref a3)] [(.ref a3), (.ref a1)])) _
    exact k
  obtain ⟨T6, h6, X6, e6, W6, st6⟩ := putF X5 hx hZ hown (host := "") (Or.inl (hw _ (List.mem_of_getElem? (i := 35) rfl))) Via.refl e5 F_nodeIds_a1 E_a1 (Or.inr ⟨(hw _ (List.mem_of_getElem? (i := 36) rfl)), rfl, hnm⟩) (hw _ (List.mem_of_getElem? (i := 21) rfl)) (ty := (.array .int)) (by decide) rfl rfl (g := (mkF m 28 #[.val (.ref a1), .val (.int p1), .val (.int p2), .val (.ref a2), .val (.int p3), .val (.ref a3)] [(.ref a3), (.ref a1)])) rfl rfl (hb hby d4_28)
  have N6 := Fr.snoc X6 N5 g_a1
  have E_a1 := E_a1.wr W6
  have F_source_a1 := F_source_a1.other W6 (Or.inr (slot_ne (Or.inr (hw _ (List.mem_of_getElem? (i := 28) rfl))) (Or.inr (hw _ (List.mem_of_getElem? (i := 36) rfl))) (by decide) (t := .int) (t' := (.array .int)) (by decide) (by decide)))
  have F_destination_a1 := F_destination_a1.other W6 (Or.inr (slot_ne (Or.inr (hw _ (List.mem_of_getElem? (i := 30) rfl))) (Or.inr (hw _ (List.mem_of_getElem? (i := 36) rfl))) (by decide) (t := .int) (t' := (.array .int)) (by decide) (by decide)))
  have F_links_a1 := F_links_a1.other W6 (Or.inr (slot_ne (Or.inr (hw _ (List.mem_of_getElem? (i := 32) rfl))) (Or.inr (hw _ (List.mem_of_getElem? (i := 36) rfl))) (by decide) (t := (.array .int)) (t' := (.array .int)) (by decide) (by decide)))
  have F_slots_a1 := F_slots_a1.other W6 (Or.inr (slot_ne (Or.inr (hw _ (List.mem_of_getElem? (i := 34) rfl))) (Or.inr (hw _ (List.mem_of_getElem? (i := 36) rfl))) (by decide) (t := .int) (t' := (.array .int)) (by decide) (by decide)))
  have F_nodeIds_a1 := F_nodeIds_a1.same W6
  have Z6 : n0 ≤ h6.size := Nat.le_trans Z5 (Keep.of_wr W6).1
  have K6 := K5.wr W6 (Or.inl (List.mem_of_getElem? (i := 0) rfl))
  refine OEnds.go (t' := T6.setTop (mkF m 31 #[.val (.ref a1), .val (.int p1), .val (.int p2), .val (.ref a2), .val (.int p3), .val (.ref a3)] [])) (fun _ k => st6 _ k) ?_
  refine OEnds.back X6 hlk (v := none) (fun _ => rfl) (fun fs hr => ?_) ?_ (by decide) (by decide)
  · exact X6.returnOut hx hrt (hb hby d4_31) hr
  · show Q4 Z a1 p1 p2 a2 p3 a3  h0 n0 _ T6.heap _
    rw [e6]
    exact ⟨rfl, N6, K6, E_a1, F_source_a1, F_destination_a1⟩
theorem d5_0 : decode prog_46_method_1_code 0 = .ok (.aload_n 0, 1) := by decide +kernel
theorem d5_1 : decode prog_46_method_1_code 1 = .ok (.invokespecial 1, 3) := by decide +kernel
theorem d5_4 : decode prog_46_method_1_code 4 = .ok (.aload_n 0, 1) := by decide +kernel
theorem d5_5 : decode prog_46_method_1_code 5 = .ok (.aload_n 1, 1) := by decide +kernel
theorem d5_6 : decode prog_46_method_1_code 6 = .ok (.putfield 7, 3) := by decide +kernel
theorem d5_9 : decode prog_46_method_1_code 9 = .ok (.aload_n 0, 1) := by decide +kernel
theorem d5_10 : decode prog_46_method_1_code 10 = .ok (.iload_n 2, 1) := by decide +kernel
theorem d5_11 : decode prog_46_method_1_code 11 = .ok (.putfield 13, 3) := by decide +kernel
theorem d5_14 : decode prog_46_method_1_code 14 = .ok (.aload_n 0, 1) := by decide +kernel
theorem d5_15 : decode prog_46_method_1_code 15 = .ok (.iload_n 3, 1) := by decide +kernel
theorem d5_16 : decode prog_46_method_1_code 16 = .ok (.putfield 17, 3) := by decide +kernel
theorem d5_19 : decode prog_46_method_1_code 19 = .ok (.return_, 1) := by decide +kernel
theorem pn_5 : plainName "com/example/fragmint/fragmint/model/Lightpath" = true := by first | (simp [plainName, overriddenIn]; done) | decide +kernel
theorem pd_rm5_0 : parseMethodDescriptor "()V" = some ⟨[], none⟩ := by decide +kernel
theorem ef_rm5 (m : MethodId) (a1 : Addr) (a2 : Addr) (p1 : Int32) (p2 : Int32) : entryFrame m #[(.ref a1), (.ref a2), (.int p1), (.int p2)] 4 = mkF m 0 #[.val (.ref a1), .val (.ref a2), .val (.int p1), .val (.int p2)] [] := by first | (simp [entryFrame, mkF, argsToLocals, Value.category]; done) | rfl
def Q5 (Z : State) (a1 : Addr) (a2 : Addr) (p1 : Int32) (p2 : Int32)  (h0 : Heap) (n0 : Nat) (v : Option Value) (h : Heap) (L : List Loc) : Prop := v = none ∧ Fr n0 L ∧ Keep h0 h [a1] ∧ Exa Z h a1 "com/example/fragmint/fragmint/model/Lightpath" ∧ Fld Z h a1 "com/example/fragmint/fragmint/model/Lightpath" "route" "Lcom/example/fragmint/fragmint/model/Route;" (.ref a2)
set_option maxRecDepth 65536 in
set_option maxHeartbeats 40000000 in
theorem rm5 (l : Launch) (Z : State) (a0 : Array Value) (hw : ∀ d ∈ tables_1, d.before a0 Z = true) (ws : List Jvm.Cond) (a1 : Addr) (a2 : Addr) (p1 : Int32) (p2 : Int32)  (h0 : Heap) (n0 : Nat) (Z0 : n0 ≤ h0.size) (F_route_a1 : Fld Z h0 a1 "com/example/fragmint/fragmint/model/Lightpath" "route" "Lcom/example/fragmint/fragmint/model/Route;" .null) (F_firstSlot_a1 : Fld Z h0 a1 "com/example/fragmint/fragmint/model/Lightpath" "firstSlot" "I" (.int (0 : Int32))) (F_size_a1 : Fld Z h0 a1 "com/example/fragmint/fragmint/model/Lightpath" "size" "I" (.int (0 : Int32))) (E_a1 : Exa Z h0 a1 "com/example/fragmint/fragmint/model/Lightpath") (g_a1 : n0 ≤ a1) :
    MetFree l (⟨"com/example/fragmint/fragmint/model/Lightpath", "<init>", "(Lcom/example/fragmint/fragmint/model/Route;II)V"⟩ : MethodName) (head1 (Jvm.Cond.code (⟨"com/example/fragmint/fragmint/model/Lightpath", "<init>", "(Lcom/example/fragmint/fragmint/model/Route;II)V"⟩ : MethodName) prog_46_method_1_code 4 none :: ws) ({ frames := 2, cells := 0, slots := 0, locals := 24 } : Room)) (fun a U => a = #[(.ref a1), (.ref a2), (.int p1), (.int p2)] ∧ Z.Warmed39 U.vm ∧ U.heap = h0) (fun _ _ _ _ _ => True) (fun _ U o U' => ∃ v L, o = .returned v ∧ Q5 Z a1 a2 p1 p2  h0 n0 v U'.heap L ∧ FrameEnd U o U' L ({ frames := 2, cells := 0, slots := 0, locals := 24 } : Room).cells ({ frames := 2, cells := 0, slots := 0, locals := 24 } : Room).slots) := by
  refine MetFree.of_bodySF (plainFor_of_name pn_5) hisR ?_
  intro p e s m args below meth c s₁ Bd hml0 hP hK
  obtain ⟨rfl, hZ, hh⟩ := hP
  have hx := Bd.exec
  have hby := Bd.bytes
  have hml : c.maxLocals = 4 := hml0
  have hown : s.vm.findClass "com/example/fragmint/fragmint/model/Lightpath" = some m.cls := findClass_of_methodNamed Bd.named
  have hnm := (name_of_methodNamed Bd.named Bd.method).1
  have hlk := BodyLoose.notSynchronized Bd
  have hrt := Bd.returns
  have X0 : Stand p l e ({ frames := 2, cells := 0, slots := 0, locals := 24 } : Room) s m #[(.ref a1), (.ref a2), (.int p1), (.int p2)] below meth c s₁ [] 0 0 := Stand.of_body Bd
  have e0 : s₁.heap = h0 := by rw [← hh, Bd.state]; rfl
  have N0 := Fr.nil n0
  show OEnds p e below s (Q5 Z a1 a2 p1 p2  h0 n0) ({ frames := 2, cells := 0, slots := 0, locals := 24 } : Room).cells ({ frames := 2, cells := 0, slots := 0, locals := 24 } : Room).slots (s₁.setTop (entryFrame m #[(.ref a1), (.ref a2), (.int p1), (.int p2)] 4))
  refine OEnds.go (t' := s₁.setTop (mkF m 0 #[.val (.ref a1), .val (.ref a2), .val (.int p1), .val (.int p2)] [])) (fun t k => castTop (ef_rm5 m a1 a2 p1 p2) k) ?_
  refine OEnds.go (t' := s₁.setTop (mkF m 1 #[.val (.ref a1), .val (.ref a2), .val (.int p1), .val (.int p2)] [(.ref a1)])) (fun _ k => ?_) ?_
  · show Steps p.tables e below (s₁.setTop (mkF m 0 #[.val (.ref a1), .val (.ref a2), .val (.int p1), .val (.int p2)] [])) _
    refine XS.aloadN X0.here hx rfl (hb hby d5_0) rfl rfl ?_
    show Steps p.tables e below (s₁.setTop (mkF m 1 #[.val (.ref a1), .val (.ref a2), .val (.int p1), .val (.int p2)] [(.ref a1)])) _
    exact k
  obtain ⟨_, _, ⟨T1, L1, k1, n1⟩, -, X1, ⟨Lc1, hQ1, l1, y1, z1⟩, st1⟩ := X0.specialBack hx (y := (⟨"java/lang/Record", "<init>", "()V"⟩ : MethodName)) rfl hown (mvT hZ (hw _ (List.mem_of_getElem? (i := 40) rfl))) (mvT hZ (hw _ (List.mem_of_getElem? (i := 41) rfl))) (mvT hZ (hw _ (List.mem_of_getElem? (i := 44) rfl))) (by decide) (backOf (W := 0) (rm6 l Z a0 hw [] a1 h0 n0 Z0 ) hZ (hw _ (List.mem_of_getElem? (i := 44) rfl)) (hw _ (List.mem_of_getElem? (i := 43) rfl)) (by decide) (by decide)) (g := (mkF m 1 #[.val (.ref a1), .val (.ref a2), .val (.int p1), .val (.int p2)] [(.ref a1)])) rfl (by rw [hml]; rfl) (Steps.refl _) (a := a1) (argsL := []) (rest := []) (lenOf pd_rm5_0 rfl) rfl (by show 2 * 0 + _ ≤ _; exact Nat.le_of_eq rfl) (hb hby d5_1) (fun _ _ => ⟨rfl, e0, (by decide : 0 + 0 ≤ _), (by decide : 0 + 0 ≤ _)⟩)
  dsimp only [Pt.U, Pt.locs, Pt.cells, Pt.slots] at X1 l1 y1 z1 st1 hQ1
  subst l1 y1 z1
  obtain ⟨rfl, N1q, eh⟩ := hQ1
  have N1 := Fr.app N0 N1q
  have eh1 := eh
  refine OEnds.go (t' := T1.setTop (mkF m 4 #[.val (.ref a1), .val (.ref a2), .val (.int p1), .val (.int p2)] [])) (fun _ k => st1.trans k) ?_
  refine OEnds.go (t' := T1.setTop (mkF m 6 #[.val (.ref a1), .val (.ref a2), .val (.int p1), .val (.int p2)] [(.ref a2), (.ref a1)])) (fun _ k => ?_) ?_
  · show Steps p.tables e below (T1.setTop (mkF m 4 #[.val (.ref a1), .val (.ref a2), .val (.int p1), .val (.int p2)] [])) _
    refine XS.aloadN X1.here hx rfl (hb hby d5_4) rfl rfl ?_
    show Steps p.tables e below (T1.setTop (mkF m 5 #[.val (.ref a1), .val (.ref a2), .val (.int p1), .val (.int p2)] [(.ref a1)])) _
    refine XS.aloadN X1.here hx rfl (hb hby d5_5) rfl rfl ?_
    show Steps p.tables e below (T1.setTop (mkF m 6 #[.val (.ref a1), .val (.ref a2), .val (.int p1), .val (.int p2)] [(.ref a2), (.ref a1)])) _
    exact k
  obtain ⟨T2, h2, X2, e2, W2, st2⟩ := putF X1 hx hZ hown (host := "") (Or.inl (hw _ (List.mem_of_getElem? (i := 46) rfl))) Via.refl eh1 F_route_a1 E_a1 (Or.inr ⟨(hw _ (List.mem_of_getElem? (i := 47) rfl)), rfl, hnm⟩) (hw _ (List.mem_of_getElem? (i := 18) rfl)) (ty := (.object "com/example/fragmint/fragmint/model/Route")) (by decide) rfl rfl (g := (mkF m 6 #[.val (.ref a1), .val (.ref a2), .val (.int p1), .val (.int p2)] [(.ref a2), (.ref a1)])) rfl rfl (hb hby d5_6)
  have N2 := Fr.snoc X2 N1 g_a1
  have E_a1 := E_a1.wr W2
  have F_route_a1 := F_route_a1.same W2
  have F_firstSlot_a1 := F_firstSlot_a1.other W2 (Or.inr (slot_ne (Or.inr (hw _ (List.mem_of_getElem? (i := 49) rfl))) (Or.inr (hw _ (List.mem_of_getElem? (i := 47) rfl))) (by decide) (t := .int) (t' := (.object "com/example/fragmint/fragmint/model/Route")) (by decide) (by decide)))
  have F_size_a1 := F_size_a1.other W2 (Or.inr (slot_ne (Or.inr (hw _ (List.mem_of_getElem? (i := 51) rfl))) (Or.inr (hw _ (List.mem_of_getElem? (i := 47) rfl))) (by decide) (t := .int) (t' := (.object "com/example/fragmint/fragmint/model/Route")) (by decide) (by decide)))
  have Z2 : n0 ≤ h2.size := Nat.le_trans Z0 (Keep.of_wr W2).1
  have K2 := (Keep.refl h0 [a1]).wr W2 (Or.inl (List.mem_of_getElem? (i := 0) rfl))
  refine OEnds.go (t' := T2.setTop (mkF m 9 #[.val (.ref a1), .val (.ref a2), .val (.int p1), .val (.int p2)] [])) (fun _ k => st2 _ k) ?_
  refine OEnds.go (t' := T2.setTop (mkF m 11 #[.val (.ref a1), .val (.ref a2), .val (.int p1), .val (.int p2)] [(.int p1), (.ref a1)])) (fun _ k => ?_) ?_
  · show Steps p.tables e below (T2.setTop (mkF m 9 #[.val (.ref a1), .val (.ref a2), .val (.int p1), .val (.int p2)] [])) _
    refine XS.aloadN X2.here hx rfl (hb hby d5_9) rfl rfl ?_
    show Steps p.tables e below (T2.setTop (mkF m 10 #[.val (.ref a1), .val (.ref a2), .val (.int p1), .val (.int p2)] [(.ref a1)])) _
    refine XS.iloadN X2.here hx rfl (hb hby d5_10) rfl ?_
    show Steps p.tables e below (T2.setTop (mkF m 11 #[.val (.ref a1), .val (.ref a2), .val (.int p1), .val (.int p2)] [(.int p1), (.ref a1)])) _
    exact k
  obtain ⟨T3, h3, X3, e3, W3, st3⟩ := putF X2 hx hZ hown (host := "") (Or.inl (hw _ (List.mem_of_getElem? (i := 48) rfl))) Via.refl e2 F_firstSlot_a1 E_a1 (Or.inr ⟨(hw _ (List.mem_of_getElem? (i := 49) rfl)), rfl, hnm⟩) (hw _ (List.mem_of_getElem? (i := 18) rfl)) (ty := .int) (by decide) rfl rfl (g := (mkF m 11 #[.val (.ref a1), .val (.ref a2), .val (.int p1), .val (.int p2)] [(.int p1), (.ref a1)])) rfl rfl (hb hby d5_11)
  have N3 := Fr.snoc X3 N2 g_a1
  have E_a1 := E_a1.wr W3
  have F_route_a1 := F_route_a1.other W3 (Or.inr (slot_ne (Or.inr (hw _ (List.mem_of_getElem? (i := 47) rfl))) (Or.inr (hw _ (List.mem_of_getElem? (i := 49) rfl))) (by decide) (t := (.object "com/example/fragmint/fragmint/model/Route")) (t' := .int) (by decide) (by decide)))
  have F_firstSlot_a1 := F_firstSlot_a1.same W3
  have F_size_a1 := F_size_a1.other W3 (Or.inr (slot_ne (Or.inr (hw _ (List.mem_of_getElem? (i := 51) rfl))) (Or.inr (hw _ (List.mem_of_getElem? (i := 49) rfl))) (by decide) (t := .int) (t' := .int) (by decide) (by decide)))
  have Z3 : n0 ≤ h3.size := Nat.le_trans Z2 (Keep.of_wr W3).1
  have K3 := K2.wr W3 (Or.inl (List.mem_of_getElem? (i := 0) rfl))
  refine OEnds.go (t' := T3.setTop (mkF m 14 #[.val (.ref a1), .val (.ref a2), .val (.int p1), .val (.int p2)] [])) (fun _ k => st3 _ k) ?_
  refine OEnds.go (t' := T3.setTop (mkF m 16 #[.val (.ref a1), .val (.ref a2), .val (.int p1), .val (.int p2)] [(.int p2), (.ref a1)])) (fun _ k => ?_) ?_
  · show Steps p.tables e below (T3.setTop (mkF m 14 #[.val (.ref a1), .val (.ref a2), .val (.int p1), .val (.int p2)] [])) _
    refine XS.aloadN X3.here hx rfl (hb hby d5_14) rfl rfl ?_
    show Steps p.tables e below (T3.setTop (mkF m 15 #[.val (.ref a1), .val (.ref a2), .val (.int p1), .val (.int p2)] [(.ref a1)])) _
    refine XS.iloadN X3.here hx rfl (hb hby d5_15) rfl ?_
    show Steps p.tables e below (T3.setTop (mkF m 16 #[.val (.ref a1), .val (.ref a2), .val (.int p1), .val (.int p2)] [(.int p2), (.ref a1)])) _
    exact k
  obtain ⟨T4, h4, X4, e4, W4, st4⟩ := putF X3 hx hZ hown (host := "") (Or.inl (hw _ (List.mem_of_getElem? (i := 50) rfl))) Via.refl e3 F_size_a1 E_a1 (Or.inr ⟨(hw _ (List.mem_of_getElem? (i := 51) rfl)), rfl, hnm⟩) (hw _ (List.mem_of_getElem? (i := 18) rfl)) (ty := .int) (by decide) rfl rfl (g := (mkF m 16 #[.val (.ref a1), .val (.ref a2), .val (.int p1), .val (.int p2)] [(.int p2), (.ref a1)])) rfl rfl (hb hby d5_16)
  have N4 := Fr.snoc X4 N3 g_a1
  have E_a1 := E_a1.wr W4
  have F_route_a1 := F_route_a1.other W4 (Or.inr (slot_ne (Or.inr (hw _ (List.mem_of_getElem? (i := 47) rfl))) (Or.inr (hw _ (List.mem_of_getElem? (i := 51) rfl))) (by decide) (t := (.object "com/example/fragmint/fragmint/model/Route")) (t' := .int) (by decide) (by decide)))
  have F_firstSlot_a1 := F_firstSlot_a1.other W4 (Or.inr (slot_ne (Or.inr (hw _ (List.mem_of_getElem? (i := 49) rfl))) (Or.inr (hw _ (List.mem_of_getElem? (i := 51) rfl))) (by decide) (t := .int) (t' := .int) (by decide) (by decide)))
  have F_size_a1 := F_size_a1.same W4
  have Z4 : n0 ≤ h4.size := Nat.le_trans Z3 (Keep.of_wr W4).1
  have K4 := K3.wr W4 (Or.inl (List.mem_of_getElem? (i := 0) rfl))
  refine OEnds.go (t' := T4.setTop (mkF m 19 #[.val (.ref a1), .val (.ref a2), .val (.int p1), .val (.int p2)] [])) (fun _ k => st4 _ k) ?_
  refine OEnds.back X4 hlk (v := none) (fun _ => rfl) (fun fs hr => ?_) ?_ (by decide) (by decide)
  · exact X4.returnOut hx hrt (hb hby d5_19) hr
  · show Q5 Z a1 a2 p1 p2  h0 n0 _ T4.heap _
    rw [e4]
    exact ⟨rfl, N4, K4, E_a1, F_route_a1⟩
theorem d11_0 : decode prog_56_method_3_code 0 = .ok (.aload_n 0, 1) := by decide +kernel
theorem d11_1 : decode prog_56_method_3_code 1 = .ok (.getfield 22, 3) := by decide +kernel
theorem d11_4 : decode prog_56_method_3_code 4 = .ok (.aload_n 0, 1) := by decide +kernel
theorem d11_5 : decode prog_56_method_3_code 5 = .ok (.getfield 26, 3) := by decide +kernel
theorem d11_8 : decode prog_56_method_3_code 8 = .ok (.iload_n 1, 1) := by decide +kernel
theorem d11_9 : decode prog_56_method_3_code 9 = .ok (.iaload, 1) := by decide +kernel
theorem d11_10 : decode prog_56_method_3_code 10 = .ok (.isub, 1) := by decide +kernel
theorem d11_11 : decode prog_56_method_3_code 11 = .ok (.ireturn, 1) := by decide +kernel
theorem pn_11 : plainName "com/example/fragmint/fragmint/model/Transponders" = true := by first | (simp [plainName, overriddenIn]; done) | decide +kernel
theorem ef_rm11 (m : MethodId) (a1 : Addr) (p1 : Int32) : entryFrame m #[(.ref a1), (.int p1)] 2 = mkF m 0 #[.val (.ref a1), .val (.int p1)] [] := by first | (simp [entryFrame, mkF, argsToLocals, Value.category]; done) | rfl
def Q11 (Z : State) (a1 : Addr) (p1 : Int32) (n : Int32) (b : Addr) (kk : ClassId) (f : Int32 → Int32) (h0 : Heap) (n0 : Nat) (v : Option Value) (h : Heap) (L : List Loc) : Prop := v = some (.int (n - f p1)) ∧ Fr n0 L ∧ h = h0
set_option maxRecDepth 65536 in
set_option maxHeartbeats 40000000 in
theorem rm11 (l : Launch) (Z : State) (a0 : Array Value) (hw : ∀ d ∈ tables_1, d.before a0 Z = true) (ws : List Jvm.Cond) (a1 : Addr) (p1 : Int32) (n : Int32) (b : Addr) (kk : ClassId) (f : Int32 → Int32) (h0 : Heap) (n0 : Nat) (Z0 : n0 ≤ h0.size) (F1 : Fld Z h0 a1 "com/example/fragmint/fragmint/model/Transponders" "perNode" "I" (.int n)) (F2 : Fld Z h0 a1 "com/example/fragmint/fragmint/model/Transponders" "busy" "[I" (.ref b)) (A : own_A Z h0 b kk f) (hp : own_R p1) :
    MetFree l (⟨"com/example/fragmint/fragmint/model/Transponders", "idle", "(I)I"⟩ : MethodName) (head1 (Jvm.Cond.code (⟨"com/example/fragmint/fragmint/model/Transponders", "idle", "(I)I"⟩ : MethodName) prog_56_method_3_code 2 (some .int) :: ws) ({ frames := 0, cells := 0, slots := 0, locals := 0 } : Room)) (fun a U => a = #[(.ref a1), (.int p1)] ∧ Z.Warmed39 U.vm ∧ U.heap = h0) (fun _ _ _ _ _ => True) (fun _ U o U' => ∃ v L, o = .returned v ∧ Q11 Z a1 p1 n b kk f h0 n0 v U'.heap L ∧ FrameEnd U o U' L ({ frames := 0, cells := 0, slots := 0, locals := 0 } : Room).cells ({ frames := 0, cells := 0, slots := 0, locals := 0 } : Room).slots) := by
  refine MetFree.of_bodySF (plainFor_of_name pn_11) hisR ?_
  intro p e s m args below meth c s₁ Bd hml0 hP hK
  obtain ⟨rfl, hZ, hh⟩ := hP
  have hx := Bd.exec
  have hby := Bd.bytes
  have hml : c.maxLocals = 2 := hml0
  have hown : s.vm.findClass "com/example/fragmint/fragmint/model/Transponders" = some m.cls := findClass_of_methodNamed Bd.named
  have hnm := (name_of_methodNamed Bd.named Bd.method).1
  have hlk := BodyLoose.notSynchronized Bd
  have hrt := Bd.returns
  have X0 : Stand p l e ({ frames := 0, cells := 0, slots := 0, locals := 0 } : Room) s m #[(.ref a1), (.int p1)] below meth c s₁ [] 0 0 := Stand.of_body Bd
  have e0 : s₁.heap = h0 := by rw [← hh, Bd.state]; rfl
  have N0 := Fr.nil n0
  show OEnds p e below s (Q11 Z a1 p1 n b kk f h0 n0) ({ frames := 0, cells := 0, slots := 0, locals := 0 } : Room).cells ({ frames := 0, cells := 0, slots := 0, locals := 0 } : Room).slots (s₁.setTop (entryFrame m #[(.ref a1), (.int p1)] 2))
  refine OEnds.go (t' := s₁.setTop (mkF m 0 #[.val (.ref a1), .val (.int p1)] [])) (fun t k => castTop (ef_rm11 m a1 p1) k) ?_
  refine OEnds.go (t' := s₁.setTop (mkF m 1 #[.val (.ref a1), .val (.int p1)] [(.ref a1)])) (fun _ k => ?_) ?_
  · show Steps p.tables e below (s₁.setTop (mkF m 0 #[.val (.ref a1), .val (.int p1)] [])) _
    refine XS.aloadN X0.here hx rfl (hb hby d11_0) rfl rfl ?_
    show Steps p.tables e below (s₁.setTop (mkF m 1 #[.val (.ref a1), .val (.int p1)] [(.ref a1)])) _
    exact k
  obtain ⟨T1, X1, e1, st1⟩ := getF X0 hx hZ hown (host := "") (Or.inl (hw _ (List.mem_of_getElem? (i := 13) rfl))) Via.refl e0 F1 (g := (mkF m 1 #[.val (.ref a1), .val (.int p1)] [(.ref a1)])) rfl rfl (hb hby d11_1)
  refine OEnds.go (t' := T1.setTop (mkF m 4 #[.val (.ref a1), .val (.int p1)] [(.int n)])) (fun _ k => st1 _ k) ?_
  refine OEnds.go (t' := T1.setTop (mkF m 5 #[.val (.ref a1), .val (.int p1)] [(.ref a1), (.int n)])) (fun _ k => ?_) ?_
  · show Steps p.tables e below (T1.setTop (mkF m 4 #[.val (.ref a1), .val (.int p1)] [(.int n)])) _
    refine XS.aloadN X1.here hx rfl (hb hby d11_4) rfl rfl ?_
    show Steps p.tables e below (T1.setTop (mkF m 5 #[.val (.ref a1), .val (.int p1)] [(.ref a1), (.int n)])) _
    exact k
  obtain ⟨T2, X2, e2, st2⟩ := getF X1 hx hZ hown (host := "") (Or.inl (hw _ (List.mem_of_getElem? (i := 15) rfl))) Via.refl e1 F2 (g := (mkF m 5 #[.val (.ref a1), .val (.int p1)] [(.ref a1), (.int n)])) rfl rfl (hb hby d11_5)
  refine OEnds.go (t' := T2.setTop (mkF m 8 #[.val (.ref a1), .val (.int p1)] [(.ref b), (.int n)])) (fun _ k => st2 _ k) ?_
  refine OEnds.go (t' := T2.setTop (mkF m 9 #[.val (.ref a1), .val (.int p1)] [(.int p1), (.ref b), (.int n)])) (fun _ k => ?_) ?_
  · show Steps p.tables e below (T2.setTop (mkF m 8 #[.val (.ref a1), .val (.int p1)] [(.ref b), (.int n)])) _
    refine XS.iloadN X2.here hx rfl (hb hby d11_8) rfl ?_
    show Steps p.tables e below (T2.setTop (mkF m 9 #[.val (.ref a1), .val (.int p1)] [(.int p1), (.ref b), (.int n)])) _
    exact k
  obtain ⟨cl3, Ar3, hin3, hat3⟩ := own_read A hp
  refine OEnds.go (t' := T2.setTop (mkF m 10 #[.val (.ref a1), .val (.int p1)] [(.int (f p1)), (.int n)])) (fun _ k => X2.iaload hx (j := p1) (v := (.int (f p1))) (by rw [e2]; exact Ar3.1) (State.isArrayOf_alike hZ.alike Ar3.2.1) Ar3.2.2 hin3 hat3 (g := (mkF m 9 #[.val (.ref a1), .val (.int p1)] [(.int p1), (.ref b), (.int n)])) rfl rfl (hb hby d11_9) _ k) ?_
  refine OEnds.go (t' := T2.setTop (mkF m 11 #[.val (.ref a1), .val (.int p1)] [(.int (n - (f p1)))])) (fun _ k => ?_) ?_
  · show Steps p.tables e below (T2.setTop (mkF m 10 #[.val (.ref a1), .val (.int p1)] [(.int (f p1)), (.int n)])) _
    refine XS.isub X2.here hx rfl (hb hby d11_10) rfl ?_
    show Steps p.tables e below (T2.setTop (mkF m 11 #[.val (.ref a1), .val (.int p1)] [(.int (n - (f p1)))])) _
    exact k
  refine OEnds.back X2 hlk (v := (some (.int (n - (f p1))))) (fun h => by rw [hrt] at h; cases h) (fun fs hr => ?_) ?_ (by decide) (by decide)
  · exact retI X2 hx hrt (hb hby d11_11) hr
  · show Q11 Z a1 p1 n b kk f h0 n0 _ T2.heap _
    rw [e2]
    exact ⟨rfl, N0, rfl⟩
theorem d7_0 : decode prog_56_method_5_code 0 = .ok (.aload_n 1, 1) := by decide +kernel
theorem d7_1 : decode prog_56_method_5_code 1 = .ok (.invokevirtual 35, 3) := by decide +kernel
theorem d7_4 : decode prog_56_method_5_code 4 = .ok (.invokevirtual 41, 3) := by decide +kernel
theorem d7_7 : decode prog_56_method_5_code 7 = .ok (.istore_n 2, 1) := by decide +kernel
theorem d7_8 : decode prog_56_method_5_code 8 = .ok (.aload_n 1, 1) := by decide +kernel
theorem d7_9 : decode prog_56_method_5_code 9 = .ok (.invokevirtual 35, 3) := by decide +kernel
theorem d7_12 : decode prog_56_method_5_code 12 = .ok (.invokevirtual 47, 3) := by decide +kernel
theorem d7_15 : decode prog_56_method_5_code 15 = .ok (.istore_n 3, 1) := by decide +kernel
theorem d7_16 : decode prog_56_method_5_code 16 = .ok (.aload_n 0, 1) := by decide +kernel
theorem d7_17 : decode prog_56_method_5_code 17 = .ok (.iload_n 2, 1) := by decide +kernel
theorem d7_18 : decode prog_56_method_5_code 18 = .ok (.invokevirtual 50, 3) := by decide +kernel
theorem d7_21 : decode prog_56_method_5_code 21 = .ok (.ifCond .eq 11, 3) := by decide +kernel
theorem d7_24 : decode prog_56_method_5_code 24 = .ok (.aload_n 0, 1) := by decide +kernel
theorem d7_25 : decode prog_56_method_5_code 25 = .ok (.iload_n 3, 1) := by decide +kernel
theorem d7_26 : decode prog_56_method_5_code 26 = .ok (.invokevirtual 50, 3) := by decide +kernel
theorem d7_29 : decode prog_56_method_5_code 29 = .ok (.ifCond .ne 36, 3) := by decide +kernel
theorem d7_65 : decode prog_56_method_5_code 65 = .ok (.aload_n 0, 1) := by decide +kernel
theorem d7_66 : decode prog_56_method_5_code 66 = .ok (.getfield 26, 3) := by decide +kernel
theorem d7_69 : decode prog_56_method_5_code 69 = .ok (.iload_n 2, 1) := by decide +kernel
theorem d7_70 : decode prog_56_method_5_code 70 = .ok (.dup2, 1) := by decide +kernel
theorem d7_71 : decode prog_56_method_5_code 71 = .ok (.iaload, 1) := by decide +kernel
theorem d7_72 : decode prog_56_method_5_code 72 = .ok (.iconst 1, 1) := by decide +kernel
theorem d7_73 : decode prog_56_method_5_code 73 = .ok (.iadd, 1) := by decide +kernel
theorem d7_74 : decode prog_56_method_5_code 74 = .ok (.iastore, 1) := by decide +kernel
theorem d7_75 : decode prog_56_method_5_code 75 = .ok (.aload_n 0, 1) := by decide +kernel
theorem d7_76 : decode prog_56_method_5_code 76 = .ok (.getfield 26, 3) := by decide +kernel
theorem d7_79 : decode prog_56_method_5_code 79 = .ok (.iload_n 3, 1) := by decide +kernel
theorem d7_80 : decode prog_56_method_5_code 80 = .ok (.dup2, 1) := by decide +kernel
theorem d7_81 : decode prog_56_method_5_code 81 = .ok (.iaload, 1) := by decide +kernel
theorem d7_82 : decode prog_56_method_5_code 82 = .ok (.iconst 1, 1) := by decide +kernel
theorem d7_83 : decode prog_56_method_5_code 83 = .ok (.iadd, 1) := by decide +kernel
theorem d7_84 : decode prog_56_method_5_code 84 = .ok (.iastore, 1) := by decide +kernel
theorem d7_85 : decode prog_56_method_5_code 85 = .ok (.aload_n 0, 1) := by decide +kernel
theorem d7_86 : decode prog_56_method_5_code 86 = .ok (.dup, 1) := by decide +kernel
theorem d7_87 : decode prog_56_method_5_code 87 = .ok (.getfield 31, 3) := by decide +kernel
theorem d7_90 : decode prog_56_method_5_code 90 = .ok (.ldc2_w 66, 3) := by decide +kernel
theorem d7_93 : decode prog_56_method_5_code 93 = .ok (.ladd, 1) := by decide +kernel
theorem d7_94 : decode prog_56_method_5_code 94 = .ok (.putfield 31, 3) := by decide +kernel
theorem d7_97 : decode prog_56_method_5_code 97 = .ok (.return_, 1) := by decide +kernel
theorem pn_7 : plainName "com/example/fragmint/fragmint/model/Transponders" = true := by first | (simp [plainName, overriddenIn]; done) | decide +kernel
theorem pd_rm7_0 : parseMethodDescriptor "()Lcom/example/fragmint/fragmint/model/Route;" = some ⟨[], some (.object "com/example/fragmint/fragmint/model/Route")⟩ := by decide +kernel
theorem pd_rm7_1 : parseMethodDescriptor "()I" = some ⟨[], some .int⟩ := by decide +kernel
theorem pd_rm7_2 : parseMethodDescriptor "(I)I" = some ⟨[.int], some .int⟩ := by decide +kernel
theorem ef_rm7 (m : MethodId) (a1 : Addr) (a2 : Addr) : entryFrame m #[(.ref a1), (.ref a2)] 4 = mkF m 0 #[.val (.ref a1), .val (.ref a2), .unset, .unset] [] := by first | (simp [entryFrame, mkF, argsToLocals, Value.category]; done) | rfl
def Q7 (Z : State) (a1 : Addr) (a2 : Addr) (r : Addr) (sv : Int32) (dv : Int32) (n : Int32) (q : Int64) (b : Addr) (kk : ClassId) (f : Int32 → Int32) (h0 : Heap) (n0 : Nat) (v : Option Value) (h : Heap) (L : List Loc) : Prop := v = none ∧ Fr n0 L ∧ Keep h0 h [a1, b] ∧ own_A Z h b kk (own_bump f sv dv) ∧ Exa Z h a1 "com/example/fragmint/fragmint/model/Transponders" ∧ Fld Z h a1 "com/example/fragmint/fragmint/model/Transponders" "perNode" "I" (.int n) ∧ Fld Z h a1 "com/example/fragmint/fragmint/model/Transponders" "busy" "[I" (.ref b) ∧ Fld Z h a1 "com/example/fragmint/fragmint/model/Transponders" "busyInAll" "J" (.long (q + 2))
set_option maxRecDepth 65536 in
set_option maxHeartbeats 40000000 in
theorem rm7 (l : Launch) (Z : State) (a0 : Array Value) (hw : ∀ d ∈ tables_1, d.before a0 Z = true) (ws : List Jvm.Cond) (a1 : Addr) (a2 : Addr) (r : Addr) (sv : Int32) (dv : Int32) (n : Int32) (q : Int64) (b : Addr) (kk : ClassId) (f : Int32 → Int32) (h0 : Heap) (n0 : Nat) (Z0 : n0 ≤ h0.size) (Fl : Fld Z h0 a2 "com/example/fragmint/fragmint/model/Lightpath" "route" "Lcom/example/fragmint/fragmint/model/Route;" (.ref r)) (El : Exa Z h0 a2 "com/example/fragmint/fragmint/model/Lightpath") (Er : Exa Z h0 r "com/example/fragmint/fragmint/model/Route") (Fs : Fld Z h0 r "com/example/fragmint/fragmint/model/Route" "source" "I" (.int sv)) (Fd : Fld Z h0 r "com/example/fragmint/fragmint/model/Route" "destination" "I" (.int dv)) (E_a1 : Exa Z h0 a1 "com/example/fragmint/fragmint/model/Transponders") (F_perNode_a1 : Fld Z h0 a1 "com/example/fragmint/fragmint/model/Transponders" "perNode" "I" (.int n)) (F_busy_a1 : Fld Z h0 a1 "com/example/fragmint/fragmint/model/Transponders" "busy" "[I" (.ref b)) (F_busyInAll_a1 : Fld Z h0 a1 "com/example/fragmint/fragmint/model/Transponders" "busyInAll" "J" (.long q)) (A : own_A Z h0 b kk f) (hs : own_R sv) (hd : own_R dv) (c1 : ¬ (n - f sv) = 0) (c2 : ¬ (n - f dv) = 0) (g_a1 : n0 ≤ a1) (g_b : n0 ≤ b) (neb : a1 ≠ b) :
    MetFree l (⟨"com/example/fragmint/fragmint/model/Transponders", "take", "(Lcom/example/fragmint/fragmint/model/Lightpath;)V"⟩ : MethodName) (head1 (Jvm.Cond.code (⟨"com/example/fragmint/fragmint/model/Transponders", "take", "(Lcom/example/fragmint/fragmint/model/Lightpath;)V"⟩ : MethodName) prog_56_method_5_code 4 none :: ws) ({ frames := 1, cells := 0, slots := 0, locals := 13 } : Room)) (fun a U => a = #[(.ref a1), (.ref a2)] ∧ Z.Warmed39 U.vm ∧ U.heap = h0) (fun _ _ _ _ _ => True) (fun _ U o U' => ∃ v L, o = .returned v ∧ Q7 Z a1 a2 r sv dv n q b kk f h0 n0 v U'.heap L ∧ FrameEnd U o U' L ({ frames := 1, cells := 0, slots := 0, locals := 13 } : Room).cells ({ frames := 1, cells := 0, slots := 0, locals := 13 } : Room).slots) := by
  refine MetFree.of_bodySF (plainFor_of_name pn_7) hisR ?_
  intro p e s m args below meth c s₁ Bd hml0 hP hK
  obtain ⟨rfl, hZ, hh⟩ := hP
  have hx := Bd.exec
  have hby := Bd.bytes
  have hml : c.maxLocals = 4 := hml0
  have hown : s.vm.findClass "com/example/fragmint/fragmint/model/Transponders" = some m.cls := findClass_of_methodNamed Bd.named
  have hnm := (name_of_methodNamed Bd.named Bd.method).1
  have hlk := BodyLoose.notSynchronized Bd
  have hrt := Bd.returns
  have X0 : Stand p l e ({ frames := 1, cells := 0, slots := 0, locals := 13 } : Room) s m #[(.ref a1), (.ref a2)] below meth c s₁ [] 0 0 := Stand.of_body Bd
  have e0 : s₁.heap = h0 := by rw [← hh, Bd.state]; rfl
  have N0 := Fr.nil n0
  show OEnds p e below s (Q7 Z a1 a2 r sv dv n q b kk f h0 n0) ({ frames := 1, cells := 0, slots := 0, locals := 13 } : Room).cells ({ frames := 1, cells := 0, slots := 0, locals := 13 } : Room).slots (s₁.setTop (entryFrame m #[(.ref a1), (.ref a2)] 4))
  refine OEnds.go (t' := s₁.setTop (mkF m 0 #[.val (.ref a1), .val (.ref a2), .unset, .unset] [])) (fun t k => castTop (ef_rm7 m a1 a2) k) ?_
  refine OEnds.go (t' := s₁.setTop (mkF m 1 #[.val (.ref a1), .val (.ref a2), .unset, .unset] [(.ref a2)])) (fun _ k => ?_) ?_
  · show Steps p.tables e below (s₁.setTop (mkF m 0 #[.val (.ref a1), .val (.ref a2), .unset, .unset] [])) _
    refine XS.aloadN X0.here hx rfl (hb hby d7_0) rfl rfl ?_
    show Steps p.tables e below (s₁.setTop (mkF m 1 #[.val (.ref a1), .val (.ref a2), .unset, .unset] [(.ref a2)])) _
    exact k
  obtain ⟨cq1, kq1, q1a, q1b, q1c⟩ := isOf hZ e0 El
  obtain ⟨_, _, ⟨T1, L1, k1, n1⟩, -, X1, ⟨Lc1, hQ1, l1, y1, z1⟩, st1⟩ := X0.virtualBack hx (y := (⟨"com/example/fragmint/fragmint/model/Lightpath", "route", "()Lcom/example/fragmint/fragmint/model/Route;"⟩ : MethodName)) (z := (⟨"com/example/fragmint/fragmint/model/Lightpath", "route", "()Lcom/example/fragmint/fragmint/model/Route;"⟩ : MethodName)) hown (mvT hZ (hw _ (List.mem_of_getElem? (i := 57) rfl))) (mvT hZ (hw _ (List.mem_of_getElem? (i := 58) rfl))) (notFace_of_selects (args := #[]) (mvT hZ (hw _ (List.mem_of_getElem? (i := 60) rfl)))) (mvT hZ (hw _ (List.mem_of_getElem? (i := 60) rfl))) (mvT hZ (hw _ (List.mem_of_getElem? (i := 59) rfl))) (by decide) (backOf (W := 0) (rm8 l Z a0 hw [] a2 r h0 n0 Z0 Fl) hZ (hw _ (List.mem_of_getElem? (i := 61) rfl)) (hw _ (List.mem_of_getElem? (i := 19) rfl)) (by decide) (by decide)) q1a q1c (g := (mkF m 1 #[.val (.ref a1), .val (.ref a2), .unset, .unset] [(.ref a2)])) rfl (by rw [hml]; rfl) (Steps.refl _) (argsL := []) (rest := []) (lenOf pd_rm7_0 rfl) rfl (by show 2 * 0 + _ ≤ _; exact Nat.le_of_eq rfl) (hb hby d7_1) (fun _ _ => ⟨rfl, e0, (by decide : 0 + 0 ≤ _), (by decide : 0 + 0 ≤ _)⟩)
  dsimp only [Pt.U, Pt.locs, Pt.cells, Pt.slots] at X1 l1 y1 z1 st1 hQ1
  subst l1 y1 z1
  obtain ⟨rfl, N1q, eh⟩ := hQ1
  have N1 := Fr.app N0 N1q
  have eh1 := eh
  refine OEnds.go (t' := T1.setTop (mkF m 4 #[.val (.ref a1), .val (.ref a2), .unset, .unset] [(.ref r)])) (fun _ k => st1.trans k) ?_
  obtain ⟨cq2, kq2, q2a, q2b, q2c⟩ := isOf hZ eh1 Er
  obtain ⟨_, _, ⟨T2, L2, k2, n2⟩, -, X2, ⟨Lc2, hQ2, l2, y2, z2⟩, st2⟩ := X1.virtualBack hx (y := (⟨"com/example/fragmint/fragmint/model/Route", "source", "()I"⟩ : MethodName)) (z := (⟨"com/example/fragmint/fragmint/model/Route", "source", "()I"⟩ : MethodName)) hown (mvT hZ (hw _ (List.mem_of_getElem? (i := 62) rfl))) (mvT hZ (hw _ (List.mem_of_getElem? (i := 63) rfl))) (notFace_of_selects (args := #[]) (mvT hZ (hw _ (List.mem_of_getElem? (i := 65) rfl)))) (mvT hZ (hw _ (List.mem_of_getElem? (i := 65) rfl))) (mvT hZ (hw _ (List.mem_of_getElem? (i := 64) rfl))) (by decide) (backOf (W := 0) (rm9 l Z a0 hw [] r sv h0 n0 Z0 Fs) hZ (hw _ (List.mem_of_getElem? (i := 66) rfl)) (hw _ (List.mem_of_getElem? (i := 22) rfl)) (by decide) (by decide)) q2a q2c (g := (mkF m 4 #[.val (.ref a1), .val (.ref a2), .unset, .unset] [(.ref r)])) rfl (by rw [hml]; rfl) (Steps.refl _) (argsL := []) (rest := []) (lenOf pd_rm7_1 rfl) rfl (by show 2 * 0 + _ ≤ _; exact Nat.le_of_eq rfl) (hb hby d7_4) (fun _ _ => ⟨rfl, eh1, (by decide : 0 + 0 ≤ _), (by decide : 0 + 0 ≤ _)⟩)
  dsimp only [Pt.U, Pt.locs, Pt.cells, Pt.slots] at X2 l2 y2 z2 st2 hQ2
  subst l2 y2 z2
  obtain ⟨rfl, N2q, eh⟩ := hQ2
  have N2 := Fr.app N1 N2q
  have eh2 := eh
  refine OEnds.go (t' := T2.setTop (mkF m 7 #[.val (.ref a1), .val (.ref a2), .unset, .unset] [(.int sv)])) (fun _ k => st2.trans k) ?_
  refine OEnds.go (t' := T2.setTop (mkF m 9 #[.val (.ref a1), .val (.ref a2), .val (.int sv), .unset] [(.ref a2)])) (fun _ k => ?_) ?_
  · show Steps p.tables e below (T2.setTop (mkF m 7 #[.val (.ref a1), .val (.ref a2), .unset, .unset] [(.int sv)])) _
    refine XS.istoreN X2.here hx rfl (hb hby d7_7) rfl (l' := #[.val (.ref a1), .val (.ref a2), .val (.int sv), .unset]) rfl ?_
    show Steps p.tables e below (T2.setTop (mkF m 8 #[.val (.ref a1), .val (.ref a2), .val (.int sv), .unset] [])) _
    refine XS.aloadN X2.here hx rfl (hb hby d7_8) rfl rfl ?_
    show Steps p.tables e below (T2.setTop (mkF m 9 #[.val (.ref a1), .val (.ref a2), .val (.int sv), .unset] [(.ref a2)])) _
    exact k
  obtain ⟨cq3, kq3, q3a, q3b, q3c⟩ := isOf hZ eh2 El
  obtain ⟨_, _, ⟨T3, L3, k3, n3⟩, -, X3, ⟨Lc3, hQ3, l3, y3, z3⟩, st3⟩ := X2.virtualBack hx (y := (⟨"com/example/fragmint/fragmint/model/Lightpath", "route", "()Lcom/example/fragmint/fragmint/model/Route;"⟩ : MethodName)) (z := (⟨"com/example/fragmint/fragmint/model/Lightpath", "route", "()Lcom/example/fragmint/fragmint/model/Route;"⟩ : MethodName)) hown (mvT hZ (hw _ (List.mem_of_getElem? (i := 57) rfl))) (mvT hZ (hw _ (List.mem_of_getElem? (i := 58) rfl))) (notFace_of_selects (args := #[]) (mvT hZ (hw _ (List.mem_of_getElem? (i := 60) rfl)))) (mvT hZ (hw _ (List.mem_of_getElem? (i := 60) rfl))) (mvT hZ (hw _ (List.mem_of_getElem? (i := 59) rfl))) (by decide) (backOf (W := 0) (rm8 l Z a0 hw [] a2 r h0 n0 Z0 Fl) hZ (hw _ (List.mem_of_getElem? (i := 61) rfl)) (hw _ (List.mem_of_getElem? (i := 19) rfl)) (by decide) (by decide)) q3a q3c (g := (mkF m 9 #[.val (.ref a1), .val (.ref a2), .val (.int sv), .unset] [(.ref a2)])) rfl (by rw [hml]; rfl) (Steps.refl _) (argsL := []) (rest := []) (lenOf pd_rm7_0 rfl) rfl (by show 2 * 0 + _ ≤ _; exact Nat.le_of_eq rfl) (hb hby d7_9) (fun _ _ => ⟨rfl, eh2, (by decide : 0 + 0 ≤ _), (by decide : 0 + 0 ≤ _)⟩)
  dsimp only [Pt.U, Pt.locs, Pt.cells, Pt.slots] at X3 l3 y3 z3 st3 hQ3
  subst l3 y3 z3
  obtain ⟨rfl, N3q, eh⟩ := hQ3
  have N3 := Fr.app N2 N3q
  have eh3 := eh
  refine OEnds.go (t' := T3.setTop (mkF m 12 #[.val (.ref a1), .val (.ref a2), .val (.int sv), .unset] [(.ref r)])) (fun _ k => st3.trans k) ?_
  obtain ⟨cq4, kq4, q4a, q4b, q4c⟩ := isOf hZ eh3 Er
  obtain ⟨_, _, ⟨T4, L4, k4, n4⟩, -, X4, ⟨Lc4, hQ4, l4, y4, z4⟩, st4⟩ := X3.virtualBack hx (y := (⟨"com/example/fragmint/fragmint/model/Route", "destination", "()I"⟩ : MethodName)) (z := (⟨"com/example/fragmint/fragmint/model/Route", "destination", "()I"⟩ : MethodName)) hown (mvT hZ (hw _ (List.mem_of_getElem? (i := 67) rfl))) (mvT hZ (hw _ (List.mem_of_getElem? (i := 68) rfl))) (notFace_of_selects (args := #[]) (mvT hZ (hw _ (List.mem_of_getElem? (i := 70) rfl)))) (mvT hZ (hw _ (List.mem_of_getElem? (i := 70) rfl))) (mvT hZ (hw _ (List.mem_of_getElem? (i := 69) rfl))) (by decide) (backOf (W := 0) (rm10 l Z a0 hw [] r dv h0 n0 Z0 Fd) hZ (hw _ (List.mem_of_getElem? (i := 71) rfl)) (hw _ (List.mem_of_getElem? (i := 22) rfl)) (by decide) (by decide)) q4a q4c (g := (mkF m 12 #[.val (.ref a1), .val (.ref a2), .val (.int sv), .unset] [(.ref r)])) rfl (by rw [hml]; rfl) (Steps.refl _) (argsL := []) (rest := []) (lenOf pd_rm7_1 rfl) rfl (by show 2 * 0 + _ ≤ _; exact Nat.le_of_eq rfl) (hb hby d7_12) (fun _ _ => ⟨rfl, eh3, (by decide : 0 + 0 ≤ _), (by decide : 0 + 0 ≤ _)⟩)
  dsimp only [Pt.U, Pt.locs, Pt.cells, Pt.slots] at X4 l4 y4 z4 st4 hQ4
  subst l4 y4 z4
  obtain ⟨rfl, N4q, eh⟩ := hQ4
  have N4 := Fr.app N3 N4q
  have eh4 := eh
  refine OEnds.go (t' := T4.setTop (mkF m 15 #[.val (.ref a1), .val (.ref a2), .val (.int sv), .unset] [(.int dv)])) (fun _ k => st4.trans k) ?_
  refine OEnds.go (t' := T4.setTop (mkF m 18 #[.val (.ref a1), .val (.ref a2), .val (.int sv), .val (.int dv)] [(.int sv), (.ref a1)])) (fun _ k => ?_) ?_
  · show Steps p.tables e below (T4.setTop (mkF m 15 #[.val (.ref a1), .val (.ref a2), .val (.int sv), .unset] [(.int dv)])) _
    refine XS.istoreN X4.here hx rfl (hb hby d7_15) rfl (l' := #[.val (.ref a1), .val (.ref a2), .val (.int sv), .val (.int dv)]) rfl ?_
    show Steps p.tables e below (T4.setTop (mkF m 16 #[.val (.ref a1), .val (.ref a2), .val (.int sv), .val (.int dv)] [])) _
    refine XS.aloadN X4.here hx rfl (hb hby d7_16) rfl rfl ?_
    show Steps p.tables e below (T4.setTop (mkF m 17 #[.val (.ref a1), .val (.ref a2), .val (.int sv), .val (.int dv)] [(.ref a1)])) _
    refine XS.iloadN X4.here hx rfl (hb hby d7_17) rfl ?_
    show Steps p.tables e below (T4.setTop (mkF m 18 #[.val (.ref a1), .val (.ref a2), .val (.int sv), .val (.int dv)] [(.int sv), (.ref a1)])) _
    exact k
  obtain ⟨cq5, kq5, q5a, q5b, q5c⟩ := isOf hZ eh4 E_a1
  obtain ⟨_, _, ⟨T5, L5, k5, n5⟩, -, X5, ⟨Lc5, hQ5, l5, y5, z5⟩, st5⟩ := X4.virtualBack hx (y := (⟨"com/example/fragmint/fragmint/model/Transponders", "idle", "(I)I"⟩ : MethodName)) (z := (⟨"com/example/fragmint/fragmint/model/Transponders", "idle", "(I)I"⟩ : MethodName)) hown (mvT hZ (hw _ (List.mem_of_getElem? (i := 72) rfl))) (mvT hZ (hw _ (List.mem_of_getElem? (i := 73) rfl))) (notFace_of_selects (args := #[]) (mvT hZ (hw _ (List.mem_of_getElem? (i := 75) rfl)))) (mvT hZ (hw _ (List.mem_of_getElem? (i := 75) rfl))) (mvT hZ (hw _ (List.mem_of_getElem? (i := 74) rfl))) (by decide) (backOf (W := 0) (rm11 l Z a0 hw [] a1 sv n b kk f h0 n0 Z0 F_perNode_a1 F_busy_a1 A hs) hZ (hw _ (List.mem_of_getElem? (i := 76) rfl)) (hw _ (List.mem_of_getElem? (i := 3) rfl)) (by decide) (by decide)) q5a q5c (g := (mkF m 18 #[.val (.ref a1), .val (.ref a2), .val (.int sv), .val (.int dv)] [(.int sv), (.ref a1)])) rfl (by rw [hml]; rfl) (Steps.refl _) (argsL := [(.int sv)]) (rest := []) (lenOf pd_rm7_2 rfl) rfl (by show 2 * 0 + _ ≤ _; exact Nat.le_of_eq rfl) (hb hby d7_18) (fun _ _ => ⟨rfl, eh4, (by decide : 0 + 0 ≤ _), (by decide : 0 + 0 ≤ _)⟩)
  dsimp only [Pt.U, Pt.locs, Pt.cells, Pt.slots] at X5 l5 y5 z5 st5 hQ5
  subst l5 y5 z5
  obtain ⟨rfl, N5q, eh⟩ := hQ5
  have N5 := Fr.app N4 N5q
  have eh5 := eh
  refine OEnds.go (t' := T5.setTop (mkF m 21 #[.val (.ref a1), .val (.ref a2), .val (.int sv), .val (.int dv)] [(.int (n - f sv))])) (fun _ k => st5.trans k) ?_
  refine OEnds.go (t' := T5.setTop (mkF m 24 #[.val (.ref a1), .val (.ref a2), .val (.int sv), .val (.int dv)] [])) (fun _ k => XS.ifNo X5.here hx rfl (hb hby d7_21) rfl ((if0 _ _).trans (feq c1).1) k) ?_
  refine OEnds.go (t' := T5.setTop (mkF m 26 #[.val (.ref a1), .val (.ref a2), .val (.int sv), .val (.int dv)] [(.int dv), (.ref a1)])) (fun _ k => ?_) ?_
  · show Steps p.tables e below (T5.setTop (mkF m 24 #[.val (.ref a1), .val (.ref a2), .val (.int sv), .val (.int dv)] [])) _
    refine XS.aloadN X5.here hx rfl (hb hby d7_24) rfl rfl ?_
    show Steps p.tables e below (T5.setTop (mkF m 25 #[.val (.ref a1), .val (.ref a2), .val (.int sv), .val (.int dv)] [(.ref a1)])) _
    refine XS.iloadN X5.here hx rfl (hb hby d7_25) rfl ?_
    show Steps p.tables e below (T5.setTop (mkF m 26 #[.val (.ref a1), .val (.ref a2), .val (.int sv), .val (.int dv)] [(.int dv), (.ref a1)])) _
    exact k
  obtain ⟨cq6, kq6, q6a, q6b, q6c⟩ := isOf hZ eh5 E_a1
  obtain ⟨_, _, ⟨T6, L6, k6, n6⟩, -, X6, ⟨Lc6, hQ6, l6, y6, z6⟩, st6⟩ := X5.virtualBack hx (y := (⟨"com/example/fragmint/fragmint/model/Transponders", "idle", "(I)I"⟩ : MethodName)) (z := (⟨"com/example/fragmint/fragmint/model/Transponders", "idle", "(I)I"⟩ : MethodName)) hown (mvT hZ (hw _ (List.mem_of_getElem? (i := 72) rfl))) (mvT hZ (hw _ (List.mem_of_getElem? (i := 73) rfl))) (notFace_of_selects (args := #[]) (mvT hZ (hw _ (List.mem_of_getElem? (i := 75) rfl)))) (mvT hZ (hw _ (List.mem_of_getElem? (i := 75) rfl))) (mvT hZ (hw _ (List.mem_of_getElem? (i := 74) rfl))) (by decide) (backOf (W := 0) (rm11 l Z a0 hw [] a1 dv n b kk f h0 n0 Z0 F_perNode_a1 F_busy_a1 A hd) hZ (hw _ (List.mem_of_getElem? (i := 76) rfl)) (hw _ (List.mem_of_getElem? (i := 3) rfl)) (by decide) (by decide)) q6a q6c (g := (mkF m 26 #[.val (.ref a1), .val (.ref a2), .val (.int sv), .val (.int dv)] [(.int dv), (.ref a1)])) rfl (by rw [hml]; rfl) (Steps.refl _) (argsL := [(.int dv)]) (rest := []) (lenOf pd_rm7_2 rfl) rfl (by show 2 * 0 + _ ≤ _; exact Nat.le_of_eq rfl) (hb hby d7_26) (fun _ _ => ⟨rfl, eh5, (by decide : 0 + 0 ≤ _), (by decide : 0 + 0 ≤ _)⟩)
  dsimp only [Pt.U, Pt.locs, Pt.cells, Pt.slots] at X6 l6 y6 z6 st6 hQ6
  subst l6 y6 z6
  obtain ⟨rfl, N6q, eh⟩ := hQ6
  have N6 := Fr.app N5 N6q
  have eh6 := eh
  refine OEnds.go (t' := T6.setTop (mkF m 29 #[.val (.ref a1), .val (.ref a2), .val (.int sv), .val (.int dv)] [(.int (n - f dv))])) (fun _ k => st6.trans k) ?_
  refine OEnds.go (t' := T6.setTop (mkF m 65 #[.val (.ref a1), .val (.ref a2), .val (.int sv), .val (.int dv)] [])) (fun _ k => XS.ifYes X6.here hx rfl (pc0 := 29) (pc' := 65) rfl (hb hby d7_29) rfl ((if0 _ _).trans (feq c2).2) (by decide) (by decide) k) ?_
  refine OEnds.go (t' := T6.setTop (mkF m 66 #[.val (.ref a1), .val (.ref a2), .val (.int sv), .val (.int dv)] [(.ref a1)])) (fun _ k => ?_) ?_
  · show Steps p.tables e below (T6.setTop (mkF m 65 #[.val (.ref a1), .val (.ref a2), .val (.int sv), .val (.int dv)] [])) _
    refine XS.aloadN X6.here hx rfl (hb hby d7_65) rfl rfl ?_
    show Steps p.tables e below (T6.setTop (mkF m 66 #[.val (.ref a1), .val (.ref a2), .val (.int sv), .val (.int dv)] [(.ref a1)])) _
    exact k
  obtain ⟨T7, X7, e7, st7⟩ := getF X6 hx hZ hown (host := "") (Or.inl (hw _ (List.mem_of_getElem? (i := 15) rfl))) Via.refl eh6 F_busy_a1 (g := (mkF m 66 #[.val (.ref a1), .val (.ref a2), .val (.int sv), .val (.int dv)] [(.ref a1)])) rfl rfl (hb hby d7_66)
  refine OEnds.go (t' := T7.setTop (mkF m 69 #[.val (.ref a1), .val (.ref a2), .val (.int sv), .val (.int dv)] [(.ref b)])) (fun _ k => st7 _ k) ?_
  refine OEnds.go (t' := T7.setTop (mkF m 71 #[.val (.ref a1), .val (.ref a2), .val (.int sv), .val (.int dv)] [(.int sv), (.ref b), (.int sv), (.ref b)])) (fun _ k => ?_) ?_
  · show Steps p.tables e below (T7.setTop (mkF m 69 #[.val (.ref a1), .val (.ref a2), .val (.int sv), .val (.int dv)] [(.ref b)])) _
    refine XS.iloadN X7.here hx rfl (hb hby d7_69) rfl ?_
    show Steps p.tables e below (T7.setTop (mkF m 70 #[.val (.ref a1), .val (.ref a2), .val (.int sv), .val (.int dv)] [(.int sv), (.ref b)])) _
    refine Jvm.Free.XT.dup2 X7.here hx rfl (hb hby d7_70) rfl rfl rfl ?_
    show Steps p.tables e below (T7.setTop (mkF m 71 #[.val (.ref a1), .val (.ref a2), .val (.int sv), .val (.int dv)] [(.int sv), (.ref b), (.int sv), (.ref b)])) _
    exact k
  obtain ⟨cl8, Ar8, hin8, hat8⟩ := own_read A hs
  refine OEnds.go (t' := T7.setTop (mkF m 72 #[.val (.ref a1), .val (.ref a2), .val (.int sv), .val (.int dv)] [(.int (f sv)), (.int sv), (.ref b)])) (fun _ k => X7.iaload hx (j := sv) (v := (.int (f sv))) (by rw [e7]; exact Ar8.1) (State.isArrayOf_alike hZ.alike Ar8.2.1) Ar8.2.2 hin8 hat8 (g := (mkF m 71 #[.val (.ref a1), .val (.ref a2), .val (.int sv), .val (.int dv)] [(.int sv), (.ref b), (.int sv), (.ref b)])) rfl rfl (hb hby d7_71) _ k) ?_
  refine OEnds.go (t' := T7.setTop (mkF m 74 #[.val (.ref a1), .val (.ref a2), .val (.int sv), .val (.int dv)] [(.int ((f sv) + (1 : Int32))), (.int sv), (.ref b)])) (fun _ k => ?_) ?_
  · show Steps p.tables e below (T7.setTop (mkF m 72 #[.val (.ref a1), .val (.ref a2), .val (.int sv), .val (.int dv)] [(.int (f sv)), (.int sv), (.ref b)])) _
    refine XS.iconst X7.here hx rfl (hb hby d7_72) ?_
    show Steps p.tables e below (T7.setTop (mkF m 73 #[.val (.ref a1), .val (.ref a2), .val (.int sv), .val (.int dv)] [(.int (1 : Int32)), (.int (f sv)), (.int sv), (.ref b)])) _
    refine XS.iadd X7.here hx rfl (hb hby d7_73) rfl ?_
    show Steps p.tables e below (T7.setTop (mkF m 74 #[.val (.ref a1), .val (.ref a2), .val (.int sv), .val (.int dv)] [(.int ((f sv) + (1 : Int32))), (.int sv), (.ref b)])) _
    exact k
  obtain ⟨cl9, Ar9, hin9, -⟩ := own_read A hs
  obtain ⟨T9, h9, X9, e9, W9, st9⟩ := stI X7 hx hZ e7 Ar9 (j := sv) hin9 (g := (mkF m 74 #[.val (.ref a1), .val (.ref a2), .val (.int sv), .val (.int dv)] [(.int ((f sv) + (1 : Int32))), (.int sv), (.ref b)])) rfl rfl (hb hby d7_74)
  have N9 := Fr.snoc X9 N6 g_b
  have E_a1 := E_a1.wr W9
  have F_perNode_a1 := F_perNode_a1.other W9 (Or.inl neb)
  have F_busy_a1 := F_busy_a1.other W9 (Or.inl neb)
  have F_busyInAll_a1 := F_busyInAll_a1.other W9 (Or.inl neb)
  have Z9 : n0 ≤ h9.size := Nat.le_trans Z0 (Keep.of_wr W9).1
  have K9 := (Keep.refl h0 [a1, b]).wr W9 (Or.inl (List.mem_of_getElem? (i := 1) rfl))
  have A := own_write A hs W9
  refine OEnds.go (t' := T9.setTop (mkF m 75 #[.val (.ref a1), .val (.ref a2), .val (.int sv), .val (.int dv)] [])) (fun _ k => st9 _ k) ?_
  refine OEnds.go (t' := T9.setTop (mkF m 76 #[.val (.ref a1), .val (.ref a2), .val (.int sv), .val (.int dv)] [(.ref a1)])) (fun _ k => ?_) ?_
  · show Steps p.tables e below (T9.setTop (mkF m 75 #[.val (.ref a1), .val (.ref a2), .val (.int sv), .val (.int dv)] [])) _
    refine XS.aloadN X9.here hx rfl (hb hby d7_75) rfl rfl ?_
    show Steps p.tables e below (T9.setTop (mkF m 76 #[.val (.ref a1), .val (.ref a2), .val (.int sv), .val (.int dv)] [(.ref a1)])) _
    exact k
  obtain ⟨T10, X10, e10, st10⟩ := getF X9 hx hZ hown (host := "") (Or.inl (hw _ (List.mem_of_getElem? (i := 15) rfl))) Via.refl e9 F_busy_a1 (g := (mkF m 76 #[.val (.ref a1), .val (.ref a2), .val (.int sv), .val (.int dv)] [(.ref a1)])) rfl rfl (hb hby d7_76)
  refine OEnds.go (t' := T10.setTop (mkF m 79 #[.val (.ref a1), .val (.ref a2), .val (.int sv), .val (.int dv)] [(.ref b)])) (fun _ k => st10 _ k) ?_
  refine OEnds.go (t' := T10.setTop (mkF m 81 #[.val (.ref a1), .val (.ref a2), .val (.int sv), .val (.int dv)] [(.int dv), (.ref b), (.int dv), (.ref b)])) (fun _ k => ?_) ?_
  · show Steps p.tables e below (T10.setTop (mkF m 79 #[.val (.ref a1), .val (.ref a2), .val (.int sv), .val (.int dv)] [(.ref b)])) _
    refine XS.iloadN X10.here hx rfl (hb hby d7_79) rfl ?_
    show Steps p.tables e below (T10.setTop (mkF m 80 #[.val (.ref a1), .val (.ref a2), .val (.int sv), .val (.int dv)] [(.int dv), (.ref b)])) _
    refine Jvm.Free.XT.dup2 X10.here hx rfl (hb hby d7_80) rfl rfl rfl ?_
    show Steps p.tables e below (T10.setTop (mkF m 81 #[.val (.ref a1), .val (.ref a2), .val (.int sv), .val (.int dv)] [(.int dv), (.ref b), (.int dv), (.ref b)])) _
    exact k
  obtain ⟨cl11, Ar11, hin11, hat11⟩ := own_read A hd
  refine OEnds.go (t' := T10.setTop (mkF m 82 #[.val (.ref a1), .val (.ref a2), .val (.int sv), .val (.int dv)] [(.int (own_upd f sv (f sv + 1) dv)), (.int dv), (.ref b)])) (fun _ k => X10.iaload hx (j := dv) (v := (.int (own_upd f sv (f sv + 1) dv))) (by rw [e10]; exact Ar11.1) (State.isArrayOf_alike hZ.alike Ar11.2.1) Ar11.2.2 hin11 hat11 (g := (mkF m 81 #[.val (.ref a1), .val (.ref a2), .val (.int sv), .val (.int dv)] [(.int dv), (.ref b), (.int dv), (.ref b)])) rfl rfl (hb hby d7_81) _ k) ?_
  refine OEnds.go (t' := T10.setTop (mkF m 84 #[.val (.ref a1), .val (.ref a2), .val (.int sv), .val (.int dv)] [(.int ((own_upd f sv (f sv + 1) dv) + (1 : Int32))), (.int dv), (.ref b)])) (fun _ k => ?_) ?_
  · show Steps p.tables e below (T10.setTop (mkF m 82 #[.val (.ref a1), .val (.ref a2), .val (.int sv), .val (.int dv)] [(.int (own_upd f sv (f sv + 1) dv)), (.int dv), (.ref b)])) _
    refine XS.iconst X10.here hx rfl (hb hby d7_82) ?_
    show Steps p.tables e below (T10.setTop (mkF m 83 #[.val (.ref a1), .val (.ref a2), .val (.int sv), .val (.int dv)] [(.int (1 : Int32)), (.int (own_upd f sv (f sv + 1) dv)), (.int dv), (.ref b)])) _
    refine XS.iadd X10.here hx rfl (hb hby d7_83) rfl ?_
    show Steps p.tables e below (T10.setTop (mkF m 84 #[.val (.ref a1), .val (.ref a2), .val (.int sv), .val (.int dv)] [(.int ((own_upd f sv (f sv + 1) dv) + (1 : Int32))), (.int dv), (.ref b)])) _
    exact k
  obtain ⟨cl12, Ar12, hin12, -⟩ := own_read A hd
  obtain ⟨T12, h12, X12, e12, W12, st12⟩ := stI X10 hx hZ e10 Ar12 (j := dv) hin12 (g := (mkF m 84 #[.val (.ref a1), .val (.ref a2), .val (.int sv), .val (.int dv)] [(.int ((own_upd f sv (f sv + 1) dv) + (1 : Int32))), (.int dv), (.ref b)])) rfl rfl (hb hby d7_84)
  have N12 := Fr.snoc X12 N9 g_b
  have E_a1 := E_a1.wr W12
  have F_perNode_a1 := F_perNode_a1.other W12 (Or.inl neb)
  have F_busy_a1 := F_busy_a1.other W12 (Or.inl neb)
  have F_busyInAll_a1 := F_busyInAll_a1.other W12 (Or.inl neb)
  have Z12 : n0 ≤ h12.size := Nat.le_trans Z9 (Keep.of_wr W12).1
  have K12 := K9.wr W12 (Or.inl (List.mem_of_getElem? (i := 1) rfl))
  have A := own_write A hd W12
  refine OEnds.go (t' := T12.setTop (mkF m 85 #[.val (.ref a1), .val (.ref a2), .val (.int sv), .val (.int dv)] [])) (fun _ k => st12 _ k) ?_
  refine OEnds.go (t' := T12.setTop (mkF m 87 #[.val (.ref a1), .val (.ref a2), .val (.int sv), .val (.int dv)] [(.ref a1), (.ref a1)])) (fun _ k => ?_) ?_
  · show Steps p.tables e below (T12.setTop (mkF m 85 #[.val (.ref a1), .val (.ref a2), .val (.int sv), .val (.int dv)] [])) _
    refine XS.aloadN X12.here hx rfl (hb hby d7_85) rfl rfl ?_
    show Steps p.tables e below (T12.setTop (mkF m 86 #[.val (.ref a1), .val (.ref a2), .val (.int sv), .val (.int dv)] [(.ref a1)])) _
    refine XS.dup X12.here hx rfl (hb hby d7_86) rfl rfl ?_
    show Steps p.tables e below (T12.setTop (mkF m 87 #[.val (.ref a1), .val (.ref a2), .val (.int sv), .val (.int dv)] [(.ref a1), (.ref a1)])) _
    exact k
  obtain ⟨T13, X13, e13, st13⟩ := getF X12 hx hZ hown (host := "") (Or.inl (hw _ (List.mem_of_getElem? (i := 77) rfl))) Via.refl e12 F_busyInAll_a1 (g := (mkF m 87 #[.val (.ref a1), .val (.ref a2), .val (.int sv), .val (.int dv)] [(.ref a1), (.ref a1)])) rfl rfl (hb hby d7_87)
  refine OEnds.go (t' := T13.setTop (mkF m 90 #[.val (.ref a1), .val (.ref a2), .val (.int sv), .val (.int dv)] [(.long q), (.ref a1)])) (fun _ k => st13 _ k) ?_
  refine OEnds.go (t' := T13.setTop (mkF m 94 #[.val (.ref a1), .val (.ref a2), .val (.int sv), .val (.int dv)] [(.long (q + (2 : Int64))), (.ref a1)])) (fun _ k => ?_) ?_
  · show Steps p.tables e below (T13.setTop (mkF m 90 #[.val (.ref a1), .val (.ref a2), .val (.int sv), .val (.int dv)] [(.long q), (.ref a1)])) _
    refine X13.ldc2Long hx hown (mvT hZ (hw _ (List.mem_of_getElem? (i := 79) rfl))) (g := (mkF m 90 #[.val (.ref a1), .val (.ref a2), .val (.int sv), .val (.int dv)] [(.long q), (.ref a1)])) rfl (hb hby d7_90) _ ?_
    show Steps p.tables e below (T13.setTop (mkF m 93 #[.val (.ref a1), .val (.ref a2), .val (.int sv), .val (.int dv)] [(.long (2 : Int64)), (.long q), (.ref a1)])) _
    refine XS.ladd X13.here hx rfl (hb hby d7_93) rfl ?_
    show Steps p.tables e below (T13.setTop (mkF m 94 #[.val (.ref a1), .val (.ref a2), .val (.int sv), .val (.int dv)] [(.long (q + (2 : Int64))), (.ref a1)])) _
    exact k
  obtain ⟨T14, h14, X14, e14, W14, st14⟩ := putF X13 hx hZ hown (host := "") (Or.inl (hw _ (List.mem_of_getElem? (i := 77) rfl))) Via.refl e13 F_busyInAll_a1 E_a1 (Or.inl (hw _ (List.mem_of_getElem? (i := 78) rfl))) (hw _ (List.mem_of_getElem? (i := 2) rfl)) (ty := .long) (by decide) rfl rfl (g := (mkF m 94 #[.val (.ref a1), .val (.ref a2), .val (.int sv), .val (.int dv)] [(.long (q + (2 : Int64))), (.ref a1)])) rfl rfl (hb hby d7_94)
  have N14 := Fr.snoc X14 N12 g_a1
  have E_a1 := E_a1.wr W14
  have F_perNode_a1 := F_perNode_a1.other W14 (Or.inr (slot_ne (Or.inr (hw _ (List.mem_of_getElem? (i := 14) rfl))) (Or.inl (hw _ (List.mem_of_getElem? (i := 78) rfl))) (by decide) (t := .int) (t' := .long) (by decide) (by decide)))
  have F_busy_a1 := F_busy_a1.other W14 (Or.inr (slot_ne (Or.inr (hw _ (List.mem_of_getElem? (i := 16) rfl))) (Or.inl (hw _ (List.mem_of_getElem? (i := 78) rfl))) (by decide) (t := (.array .int)) (t' := .long) (by decide) (by decide)))
  have F_busyInAll_a1 := F_busyInAll_a1.same W14
  have A := A.other W14 (Ne.symm neb)
  have Z14 : n0 ≤ h14.size := Nat.le_trans Z12 (Keep.of_wr W14).1
  have K14 := K12.wr W14 (Or.inl (List.mem_of_getElem? (i := 0) rfl))
  refine OEnds.go (t' := T14.setTop (mkF m 97 #[.val (.ref a1), .val (.ref a2), .val (.int sv), .val (.int dv)] [])) (fun _ k => st14 _ k) ?_
  refine OEnds.back X14 hlk (v := none) (fun _ => rfl) (fun fs hr => ?_) ?_ (by decide) (by decide)
  · exact X14.returnOut hx hrt (hb hby d7_97) hr
  · show Q7 Z a1 a2 r sv dv n q b kk f h0 n0 _ T14.heap _
    rw [e14]
    exact ⟨rfl, N14, K14, A, E_a1, F_perNode_a1, F_busy_a1, F_busyInAll_a1⟩
theorem d13_0 : decode prog_56_method_6_code 0 = .ok (.aload_n 1, 1) := by decide +kernel
theorem d13_1 : decode prog_56_method_6_code 1 = .ok (.invokevirtual 35, 3) := by decide +kernel
theorem d13_4 : decode prog_56_method_6_code 4 = .ok (.invokevirtual 41, 3) := by decide +kernel
theorem d13_7 : decode prog_56_method_6_code 7 = .ok (.istore_n 2, 1) := by decide +kernel
theorem d13_8 : decode prog_56_method_6_code 8 = .ok (.aload_n 1, 1) := by decide +kernel
theorem d13_9 : decode prog_56_method_6_code 9 = .ok (.invokevirtual 35, 3) := by decide +kernel
theorem d13_12 : decode prog_56_method_6_code 12 = .ok (.invokevirtual 47, 3) := by decide +kernel
theorem d13_15 : decode prog_56_method_6_code 15 = .ok (.istore_n 3, 1) := by decide +kernel
theorem d13_16 : decode prog_56_method_6_code 16 = .ok (.aload_n 0, 1) := by decide +kernel
theorem d13_17 : decode prog_56_method_6_code 17 = .ok (.getfield 26, 3) := by decide +kernel
theorem d13_20 : decode prog_56_method_6_code 20 = .ok (.iload_n 2, 1) := by decide +kernel
theorem d13_21 : decode prog_56_method_6_code 21 = .ok (.iaload, 1) := by decide +kernel
theorem d13_22 : decode prog_56_method_6_code 22 = .ok (.ifCond .eq 12, 3) := by decide +kernel
theorem d13_25 : decode prog_56_method_6_code 25 = .ok (.aload_n 0, 1) := by decide +kernel
theorem d13_26 : decode prog_56_method_6_code 26 = .ok (.getfield 26, 3) := by decide +kernel
theorem d13_29 : decode prog_56_method_6_code 29 = .ok (.iload_n 3, 1) := by decide +kernel
theorem d13_30 : decode prog_56_method_6_code 30 = .ok (.iaload, 1) := by decide +kernel
theorem d13_31 : decode prog_56_method_6_code 31 = .ok (.ifCond .ne 37, 3) := by decide +kernel
theorem d13_68 : decode prog_56_method_6_code 68 = .ok (.aload_n 0, 1) := by decide +kernel
theorem d13_69 : decode prog_56_method_6_code 69 = .ok (.getfield 26, 3) := by decide +kernel
theorem d13_72 : decode prog_56_method_6_code 72 = .ok (.iload_n 2, 1) := by decide +kernel
theorem d13_73 : decode prog_56_method_6_code 73 = .ok (.dup2, 1) := by decide +kernel
theorem d13_74 : decode prog_56_method_6_code 74 = .ok (.iaload, 1) := by decide +kernel
theorem d13_75 : decode prog_56_method_6_code 75 = .ok (.iconst 1, 1) := by decide +kernel
theorem d13_76 : decode prog_56_method_6_code 76 = .ok (.isub, 1) := by decide +kernel
theorem d13_77 : decode prog_56_method_6_code 77 = .ok (.iastore, 1) := by decide +kernel
theorem d13_78 : decode prog_56_method_6_code 78 = .ok (.aload_n 0, 1) := by decide +kernel
theorem d13_79 : decode prog_56_method_6_code 79 = .ok (.getfield 26, 3) := by decide +kernel
theorem d13_82 : decode prog_56_method_6_code 82 = .ok (.iload_n 3, 1) := by decide +kernel
theorem d13_83 : decode prog_56_method_6_code 83 = .ok (.dup2, 1) := by decide +kernel
theorem d13_84 : decode prog_56_method_6_code 84 = .ok (.iaload, 1) := by decide +kernel
theorem d13_85 : decode prog_56_method_6_code 85 = .ok (.iconst 1, 1) := by decide +kernel
theorem d13_86 : decode prog_56_method_6_code 86 = .ok (.isub, 1) := by decide +kernel
theorem d13_87 : decode prog_56_method_6_code 87 = .ok (.iastore, 1) := by decide +kernel
theorem d13_88 : decode prog_56_method_6_code 88 = .ok (.aload_n 0, 1) := by decide +kernel
theorem d13_89 : decode prog_56_method_6_code 89 = .ok (.dup, 1) := by decide +kernel
theorem d13_90 : decode prog_56_method_6_code 90 = .ok (.getfield 31, 3) := by decide +kernel
theorem d13_93 : decode prog_56_method_6_code 93 = .ok (.ldc2_w 66, 3) := by decide +kernel
theorem d13_96 : decode prog_56_method_6_code 96 = .ok (.lsub, 1) := by decide +kernel
theorem d13_97 : decode prog_56_method_6_code 97 = .ok (.putfield 31, 3) := by decide +kernel
theorem d13_100 : decode prog_56_method_6_code 100 = .ok (.return_, 1) := by decide +kernel
theorem pn_13 : plainName "com/example/fragmint/fragmint/model/Transponders" = true := by first | (simp [plainName, overriddenIn]; done) | decide +kernel
theorem pd_rm13_0 : parseMethodDescriptor "()Lcom/example/fragmint/fragmint/model/Route;" = some ⟨[], some (.object "com/example/fragmint/fragmint/model/Route")⟩ := by decide +kernel
theorem pd_rm13_1 : parseMethodDescriptor "()I" = some ⟨[], some .int⟩ := by decide +kernel
theorem ef_rm13 (m : MethodId) (a1 : Addr) (a2 : Addr) : entryFrame m #[(.ref a1), (.ref a2)] 4 = mkF m 0 #[.val (.ref a1), .val (.ref a2), .unset, .unset] [] := by first | (simp [entryFrame, mkF, argsToLocals, Value.category]; done) | rfl
def Q13 (Z : State) (a1 : Addr) (a2 : Addr) (r : Addr) (sv : Int32) (dv : Int32) (n : Int32) (q : Int64) (b : Addr) (kk : ClassId) (f : Int32 → Int32) (h0 : Heap) (n0 : Nat) (v : Option Value) (h : Heap) (L : List Loc) : Prop := v = none ∧ Fr n0 L ∧ Keep h0 h [a1, b] ∧ own_A Z h b kk (own_drop f sv dv) ∧ Exa Z h a1 "com/example/fragmint/fragmint/model/Transponders" ∧ Fld Z h a1 "com/example/fragmint/fragmint/model/Transponders" "perNode" "I" (.int n) ∧ Fld Z h a1 "com/example/fragmint/fragmint/model/Transponders" "busy" "[I" (.ref b) ∧ Fld Z h a1 "com/example/fragmint/fragmint/model/Transponders" "busyInAll" "J" (.long (q - 2))
set_option maxRecDepth 65536 in
set_option maxHeartbeats 40000000 in
theorem rm13 (l : Launch) (Z : State) (a0 : Array Value) (hw : ∀ d ∈ tables_1, d.before a0 Z = true) (ws : List Jvm.Cond) (a1 : Addr) (a2 : Addr) (r : Addr) (sv : Int32) (dv : Int32) (n : Int32) (q : Int64) (b : Addr) (kk : ClassId) (f : Int32 → Int32) (h0 : Heap) (n0 : Nat) (Z0 : n0 ≤ h0.size) (Fl : Fld Z h0 a2 "com/example/fragmint/fragmint/model/Lightpath" "route" "Lcom/example/fragmint/fragmint/model/Route;" (.ref r)) (El : Exa Z h0 a2 "com/example/fragmint/fragmint/model/Lightpath") (Er : Exa Z h0 r "com/example/fragmint/fragmint/model/Route") (Fs : Fld Z h0 r "com/example/fragmint/fragmint/model/Route" "source" "I" (.int sv)) (Fd : Fld Z h0 r "com/example/fragmint/fragmint/model/Route" "destination" "I" (.int dv)) (E_a1 : Exa Z h0 a1 "com/example/fragmint/fragmint/model/Transponders") (F_perNode_a1 : Fld Z h0 a1 "com/example/fragmint/fragmint/model/Transponders" "perNode" "I" (.int n)) (F_busy_a1 : Fld Z h0 a1 "com/example/fragmint/fragmint/model/Transponders" "busy" "[I" (.ref b)) (F_busyInAll_a1 : Fld Z h0 a1 "com/example/fragmint/fragmint/model/Transponders" "busyInAll" "J" (.long q)) (A : own_A Z h0 b kk f) (hs : own_R sv) (hd : own_R dv) (c1 : ¬ (f sv) = 0) (c2 : ¬ (f dv) = 0) (g_a1 : n0 ≤ a1) (g_b : n0 ≤ b) (neb : a1 ≠ b) :
    MetFree l (⟨"com/example/fragmint/fragmint/model/Transponders", "release", "(Lcom/example/fragmint/fragmint/model/Lightpath;)V"⟩ : MethodName) (head1 (Jvm.Cond.code (⟨"com/example/fragmint/fragmint/model/Transponders", "release", "(Lcom/example/fragmint/fragmint/model/Lightpath;)V"⟩ : MethodName) prog_56_method_6_code 4 none :: ws) ({ frames := 1, cells := 0, slots := 0, locals := 12 } : Room)) (fun a U => a = #[(.ref a1), (.ref a2)] ∧ Z.Warmed39 U.vm ∧ U.heap = h0) (fun _ _ _ _ _ => True) (fun _ U o U' => ∃ v L, o = .returned v ∧ Q13 Z a1 a2 r sv dv n q b kk f h0 n0 v U'.heap L ∧ FrameEnd U o U' L ({ frames := 1, cells := 0, slots := 0, locals := 12 } : Room).cells ({ frames := 1, cells := 0, slots := 0, locals := 12 } : Room).slots) := by
  refine MetFree.of_bodySF (plainFor_of_name pn_13) hisR ?_
  intro p e s m args below meth c s₁ Bd hml0 hP hK
  obtain ⟨rfl, hZ, hh⟩ := hP
  have hx := Bd.exec
  have hby := Bd.bytes
  have hml : c.maxLocals = 4 := hml0
  have hown : s.vm.findClass "com/example/fragmint/fragmint/model/Transponders" = some m.cls := findClass_of_methodNamed Bd.named
  have hnm := (name_of_methodNamed Bd.named Bd.method).1
  have hlk := BodyLoose.notSynchronized Bd
  have hrt := Bd.returns
  have X0 : Stand p l e ({ frames := 1, cells := 0, slots := 0, locals := 12 } : Room) s m #[(.ref a1), (.ref a2)] below meth c s₁ [] 0 0 := Stand.of_body Bd
  have e0 : s₁.heap = h0 := by rw [← hh, Bd.state]; rfl
  have N0 := Fr.nil n0
  show OEnds p e below s (Q13 Z a1 a2 r sv dv n q b kk f h0 n0) ({ frames := 1, cells := 0, slots := 0, locals := 12 } : Room).cells ({ frames := 1, cells := 0, slots := 0, locals := 12 } : Room).slots (s₁.setTop (entryFrame m #[(.ref a1), (.ref a2)] 4))
  refine OEnds.go (t' := s₁.setTop (mkF m 0 #[.val (.ref a1), .val (.ref a2), .unset, .unset] [])) (fun t k => castTop (ef_rm13 m a1 a2) k) ?_
  refine OEnds.go (t' := s₁.setTop (mkF m 1 #[.val (.ref a1), .val (.ref a2), .unset, .unset] [(.ref a2)])) (fun _ k => ?_) ?_
  · show Steps p.tables e below (s₁.setTop (mkF m 0 #[.val (.ref a1), .val (.ref a2), .unset, .unset] [])) _
    refine XS.aloadN X0.here hx rfl (hb hby d13_0) rfl rfl ?_
    show Steps p.tables e below (s₁.setTop (mkF m 1 #[.val (.ref a1), .val (.ref a2), .unset, .unset] [(.ref a2)])) _
    exact k
  obtain ⟨cq1, kq1, q1a, q1b, q1c⟩ := isOf hZ e0 El
  obtain ⟨_, _, ⟨T1, L1, k1, n1⟩, -, X1, ⟨Lc1, hQ1, l1, y1, z1⟩, st1⟩ := X0.virtualBack hx (y := (⟨"com/example/fragmint/fragmint/model/Lightpath", "route", "()Lcom/example/fragmint/fragmint/model/Route;"⟩ : MethodName)) (z := (⟨"com/example/fragmint/fragmint/model/Lightpath", "route", "()Lcom/example/fragmint/fragmint/model/Route;"⟩ : MethodName)) hown (mvT hZ (hw _ (List.mem_of_getElem? (i := 57) rfl))) (mvT hZ (hw _ (List.mem_of_getElem? (i := 58) rfl))) (notFace_of_selects (args := #[]) (mvT hZ (hw _ (List.mem_of_getElem? (i := 60) rfl)))) (mvT hZ (hw _ (List.mem_of_getElem? (i := 60) rfl))) (mvT hZ (hw _ (List.mem_of_getElem? (i := 59) rfl))) (by decide) (backOf (W := 0) (rm8 l Z a0 hw [] a2 r h0 n0 Z0 Fl) hZ (hw _ (List.mem_of_getElem? (i := 61) rfl)) (hw _ (List.mem_of_getElem? (i := 19) rfl)) (by decide) (by decide)) q1a q1c (g := (mkF m 1 #[.val (.ref a1), .val (.ref a2), .unset, .unset] [(.ref a2)])) rfl (by rw [hml]; rfl) (Steps.refl _) (argsL := []) (rest := []) (lenOf pd_rm13_0 rfl) rfl (by show 2 * 0 + _ ≤ _; exact Nat.le_of_eq rfl) (hb hby d13_1) (fun _ _ => ⟨rfl, e0, (by decide : 0 + 0 ≤ _), (by decide : 0 + 0 ≤ _)⟩)
  dsimp only [Pt.U, Pt.locs, Pt.cells, Pt.slots] at X1 l1 y1 z1 st1 hQ1
  subst l1 y1 z1
  obtain ⟨rfl, N1q, eh⟩ := hQ1
  have N1 := Fr.app N0 N1q
  have eh1 := eh
  refine OEnds.go (t' := T1.setTop (mkF m 4 #[.val (.ref a1), .val (.ref a2), .unset, .unset] [(.ref r)])) (fun _ k => st1.trans k) ?_
  obtain ⟨cq2, kq2, q2a, q2b, q2c⟩ := isOf hZ eh1 Er
  obtain ⟨_, _, ⟨T2, L2, k2, n2⟩, -, X2, ⟨Lc2, hQ2, l2, y2, z2⟩, st2⟩ := X1.virtualBack hx (y := (⟨"com/example/fragmint/fragmint/model/Route", "source", "()I"⟩ : MethodName)) (z := (⟨"com/example/fragmint/fragmint/model/Route", "source", "()I"⟩ : MethodName)) hown (mvT hZ (hw _ (List.mem_of_getElem? (i := 62) rfl))) (mvT hZ (hw _ (List.mem_of_getElem? (i := 63) rfl))) (notFace_of_selects (args := #[]) (mvT hZ (hw _ (List.mem_of_getElem? (i := 65) rfl)))) (mvT hZ (hw _ (List.mem_of_getElem? (i := 65) rfl))) (mvT hZ (hw _ (List.mem_of_getElem? (i := 64) rfl))) (by decide) (backOf (W := 0) (rm9 l Z a0 hw [] r sv h0 n0 Z0 Fs) hZ (hw _ (List.mem_of_getElem? (i := 66) rfl)) (hw _ (List.mem_of_getElem? (i := 22) rfl)) (by decide) (by decide)) q2a q2c (g := (mkF m 4 #[.val (.ref a1), .val (.ref a2), .unset, .unset] [(.ref r)])) rfl (by rw [hml]; rfl) (Steps.refl _) (argsL := []) (rest := []) (lenOf pd_rm13_1 rfl) rfl (by show 2 * 0 + _ ≤ _; exact Nat.le_of_eq rfl) (hb hby d13_4) (fun _ _ => ⟨rfl, eh1, (by decide : 0 + 0 ≤ _), (by decide : 0 + 0 ≤ _)⟩)
  dsimp only [Pt.U, Pt.locs, Pt.cells, Pt.slots] at X2 l2 y2 z2 st2 hQ2
  subst l2 y2 z2
  obtain ⟨rfl, N2q, eh⟩ := hQ2
  have N2 := Fr.app N1 N2q
  have eh2 := eh
  refine OEnds.go (t' := T2.setTop (mkF m 7 #[.val (.ref a1), .val (.ref a2), .unset, .unset] [(.int sv)])) (fun _ k => st2.trans k) ?_
  refine OEnds.go (t' := T2.setTop (mkF m 9 #[.val (.ref a1), .val (.ref a2), .val (.int sv), .unset] [(.ref a2)])) (fun _ k => ?_) ?_
  · show Steps p.tables e below (T2.setTop (mkF m 7 #[.val (.ref a1), .val (.ref a2), .unset, .unset] [(.int sv)])) _
    refine XS.istoreN X2.here hx rfl (hb hby d13_7) rfl (l' := #[.val (.ref a1), .val (.ref a2), .val (.int sv), .unset]) rfl ?_
    show Steps p.tables e below (T2.setTop (mkF m 8 #[.val (.ref a1), .val (.ref a2), .val (.int sv), .unset] [])) _
    refine XS.aloadN X2.here hx rfl (hb hby d13_8) rfl rfl ?_
    show Steps p.tables e below (T2.setTop (mkF m 9 #[.val (.ref a1), .val (.ref a2), .val (.int sv), .unset] [(.ref a2)])) _
    exact k
  obtain ⟨cq3, kq3, q3a, q3b, q3c⟩ := isOf hZ eh2 El
  obtain ⟨_, _, ⟨T3, L3, k3, n3⟩, -, X3, ⟨Lc3, hQ3, l3, y3, z3⟩, st3⟩ := X2.virtualBack hx (y := (⟨"com/example/fragmint/fragmint/model/Lightpath", "route", "()Lcom/example/fragmint/fragmint/model/Route;"⟩ : MethodName)) (z := (⟨"com/example/fragmint/fragmint/model/Lightpath", "route", "()Lcom/example/fragmint/fragmint/model/Route;"⟩ : MethodName)) hown (mvT hZ (hw _ (List.mem_of_getElem? (i := 57) rfl))) (mvT hZ (hw _ (List.mem_of_getElem? (i := 58) rfl))) (notFace_of_selects (args := #[]) (mvT hZ (hw _ (List.mem_of_getElem? (i := 60) rfl)))) (mvT hZ (hw _ (List.mem_of_getElem? (i := 60) rfl))) (mvT hZ (hw _ (List.mem_of_getElem? (i := 59) rfl))) (by decide) (backOf (W := 0) (rm8 l Z a0 hw [] a2 r h0 n0 Z0 Fl) hZ (hw _ (List.mem_of_getElem? (i := 61) rfl)) (hw _ (List.mem_of_getElem? (i := 19) rfl)) (by decide) (by decide)) q3a q3c (g := (mkF m 9 #[.val (.ref a1), .val (.ref a2), .val (.int sv), .unset] [(.ref a2)])) rfl (by rw [hml]; rfl) (Steps.refl _) (argsL := []) (rest := []) (lenOf pd_rm13_0 rfl) rfl (by show 2 * 0 + _ ≤ _; exact Nat.le_of_eq rfl) (hb hby d13_9) (fun _ _ => ⟨rfl, eh2, (by decide : 0 + 0 ≤ _), (by decide : 0 + 0 ≤ _)⟩)
  dsimp only [Pt.U, Pt.locs, Pt.cells, Pt.slots] at X3 l3 y3 z3 st3 hQ3
  subst l3 y3 z3
  obtain ⟨rfl, N3q, eh⟩ := hQ3
  have N3 := Fr.app N2 N3q
  have eh3 := eh
  refine OEnds.go (t' := T3.setTop (mkF m 12 #[.val (.ref a1), .val (.ref a2), .val (.int sv), .unset] [(.ref r)])) (fun _ k => st3.trans k) ?_
  obtain ⟨cq4, kq4, q4a, q4b, q4c⟩ := isOf hZ eh3 Er
  obtain ⟨_, _, ⟨T4, L4, k4, n4⟩, -, X4, ⟨Lc4, hQ4, l4, y4, z4⟩, st4⟩ := X3.virtualBack hx (y := (⟨"com/example/fragmint/fragmint/model/Route", "destination", "()I"⟩ : MethodName)) (z := (⟨"com/example/fragmint/fragmint/model/Route", "destination", "()I"⟩ : MethodName)) hown (mvT hZ (hw _ (List.mem_of_getElem? (i := 67) rfl))) (mvT hZ (hw _ (List.mem_of_getElem? (i := 68) rfl))) (notFace_of_selects (args := #[]) (mvT hZ (hw _ (List.mem_of_getElem? (i := 70) rfl)))) (mvT hZ (hw _ (List.mem_of_getElem? (i := 70) rfl))) (mvT hZ (hw _ (List.mem_of_getElem? (i := 69) rfl))) (by decide) (backOf (W := 0) (rm10 l Z a0 hw [] r dv h0 n0 Z0 Fd) hZ (hw _ (List.mem_of_getElem? (i := 71) rfl)) (hw _ (List.mem_of_getElem? (i := 22) rfl)) (by decide) (by decide)) q4a q4c (g := (mkF m 12 #[.val (.ref a1), .val (.ref a2), .val (.int sv), .unset] [(.ref r)])) rfl (by rw [hml]; rfl) (Steps.refl _) (argsL := []) (rest := []) (lenOf pd_rm13_1 rfl) rfl (by show 2 * 0 + _ ≤ _; exact Nat.le_of_eq rfl) (hb hby d13_12) (fun _ _ => ⟨rfl, eh3, (by decide : 0 + 0 ≤ _), (by decide : 0 + 0 ≤ _)⟩)
  dsimp only [Pt.U, Pt.locs, Pt.cells, Pt.slots] at X4 l4 y4 z4 st4 hQ4
  subst l4 y4 z4
  obtain ⟨rfl, N4q, eh⟩ := hQ4
  have N4 := Fr.app N3 N4q
  have eh4 := eh
  refine OEnds.go (t' := T4.setTop (mkF m 15 #[.val (.ref a1), .val (.ref a2), .val (.int sv), .unset] [(.int dv)])) (fun _ k => st4.trans k) ?_
  refine OEnds.go (t' := T4.setTop (mkF m 17 #[.val (.ref a1), .val (.ref a2), .val (.int sv), .val (.int dv)] [(.ref a1)])) (fun _ k => ?_) ?_
  · show Steps p.tables e below (T4.setTop (mkF m 15 #[.val (.ref a1), .val (.ref a2), .val (.int sv), .unset] [(.int dv)])) _
    refine XS.istoreN X4.here hx rfl (hb hby d13_15) rfl (l' := #[.val (.ref a1), .val (.ref a2), .val (.int sv), .val (.int dv)]) rfl ?_
    show Steps p.tables e below (T4.setTop (mkF m 16 #[.val (.ref a1), .val (.ref a2), .val (.int sv), .val (.int dv)] [])) _
    refine XS.aloadN X4.here hx rfl (hb hby d13_16) rfl rfl ?_
    show Steps p.tables e below (T4.setTop (mkF m 17 #[.val (.ref a1), .val (.ref a2), .val (.int sv), .val (.int dv)] [(.ref a1)])) _
    exact k
  obtain ⟨T5, X5, e5, st5⟩ := getF X4 hx hZ hown (host := "") (Or.inl (hw _ (List.mem_of_getElem? (i := 15) rfl))) Via.refl eh4 F_busy_a1 (g := (mkF m 17 #[.val (.ref a1), .val (.ref a2), .val (.int sv), .val (.int dv)] [(.ref a1)])) rfl rfl (hb hby d13_17)
  refine OEnds.go (t' := T5.setTop (mkF m 20 #[.val (.ref a1), .val (.ref a2), .val (.int sv), .val (.int dv)] [(.ref b)])) (fun _ k => st5 _ k) ?_
  refine OEnds.go (t' := T5.setTop (mkF m 21 #[.val (.ref a1), .val (.ref a2), .val (.int sv), .val (.int dv)] [(.int sv), (.ref b)])) (fun _ k => ?_) ?_
  · show Steps p.tables e below (T5.setTop (mkF m 20 #[.val (.ref a1), .val (.ref a2), .val (.int sv), .val (.int dv)] [(.ref b)])) _
    refine XS.iloadN X5.here hx rfl (hb hby d13_20) rfl ?_
    show Steps p.tables e below (T5.setTop (mkF m 21 #[.val (.ref a1), .val (.ref a2), .val (.int sv), .val (.int dv)] [(.int sv), (.ref b)])) _
    exact k
  obtain ⟨cl6, Ar6, hin6, hat6⟩ := own_read A hs
  refine OEnds.go (t' := T5.setTop (mkF m 22 #[.val (.ref a1), .val (.ref a2), .val (.int sv), .val (.int dv)] [(.int (f sv))])) (fun _ k => X5.iaload hx (j := sv) (v := (.int (f sv))) (by rw [e5]; exact Ar6.1) (State.isArrayOf_alike hZ.alike Ar6.2.1) Ar6.2.2 hin6 hat6 (g := (mkF m 21 #[.val (.ref a1), .val (.ref a2), .val (.int sv), .val (.int dv)] [(.int sv), (.ref b)])) rfl rfl (hb hby d13_21) _ k) ?_
  refine OEnds.go (t' := T5.setTop (mkF m 25 #[.val (.ref a1), .val (.ref a2), .val (.int sv), .val (.int dv)] [])) (fun _ k => XS.ifNo X5.here hx rfl (hb hby d13_22) rfl ((if0 _ _).trans (feq c1).1) k) ?_
  refine OEnds.go (t' := T5.setTop (mkF m 26 #[.val (.ref a1), .val (.ref a2), .val (.int sv), .val (.int dv)] [(.ref a1)])) (fun _ k => ?_) ?_
  · show Steps p.tables e below (T5.setTop (mkF m 25 #[.val (.ref a1), .val (.ref a2), .val (.int sv), .val (.int dv)] [])) _
    refine XS.aloadN X5.here hx rfl (hb hby d13_25) rfl rfl ?_
    show Steps p.tables e below (T5.setTop (mkF m 26 #[.val (.ref a1), .val (.ref a2), .val (.int sv), .val (.int dv)] [(.ref a1)])) _
    exact k
  obtain ⟨T7, X7, e7, st7⟩ := getF X5 hx hZ hown (host := "") (Or.inl (hw _ (List.mem_of_getElem? (i := 15) rfl))) Via.refl e5 F_busy_a1 (g := (mkF m 26 #[.val (.ref a1), .val (.ref a2), .val (.int sv), .val (.int dv)] [(.ref a1)])) rfl rfl (hb hby d13_26)
  refine OEnds.go (t' := T7.setTop (mkF m 29 #[.val (.ref a1), .val (.ref a2), .val (.int sv), .val (.int dv)] [(.ref b)])) (fun _ k => st7 _ k) ?_
  refine OEnds.go (t' := T7.setTop (mkF m 30 #[.val (.ref a1), .val (.ref a2), .val (.int sv), .val (.int dv)] [(.int dv), (.ref b)])) (fun _ k => ?_) ?_
  · show Steps p.tables e below (T7.setTop (mkF m 29 #[.val (.ref a1), .val (.ref a2), .val (.int sv), .val (.int dv)] [(.ref b)])) _
    refine XS.iloadN X7.here hx rfl (hb hby d13_29) rfl ?_
    show Steps p.tables e below (T7.setTop (mkF m 30 #[.val (.ref a1), .val (.ref a2), .val (.int sv), .val (.int dv)] [(.int dv), (.ref b)])) _
    exact k
  obtain ⟨cl8, Ar8, hin8, hat8⟩ := own_read A hd
  refine OEnds.go (t' := T7.setTop (mkF m 31 #[.val (.ref a1), .val (.ref a2), .val (.int sv), .val (.int dv)] [(.int (f dv))])) (fun _ k => X7.iaload hx (j := dv) (v := (.int (f dv))) (by rw [e7]; exact Ar8.1) (State.isArrayOf_alike hZ.alike Ar8.2.1) Ar8.2.2 hin8 hat8 (g := (mkF m 30 #[.val (.ref a1), .val (.ref a2), .val (.int sv), .val (.int dv)] [(.int dv), (.ref b)])) rfl rfl (hb hby d13_30) _ k) ?_
  refine OEnds.go (t' := T7.setTop (mkF m 68 #[.val (.ref a1), .val (.ref a2), .val (.int sv), .val (.int dv)] [])) (fun _ k => XS.ifYes X7.here hx rfl (pc0 := 31) (pc' := 68) rfl (hb hby d13_31) rfl ((if0 _ _).trans (feq c2).2) (by decide) (by decide) k) ?_
  refine OEnds.go (t' := T7.setTop (mkF m 69 #[.val (.ref a1), .val (.ref a2), .val (.int sv), .val (.int dv)] [(.ref a1)])) (fun _ k => ?_) ?_
  · show Steps p.tables e below (T7.setTop (mkF m 68 #[.val (.ref a1), .val (.ref a2), .val (.int sv), .val (.int dv)] [])) _
    refine XS.aloadN X7.here hx rfl (hb hby d13_68) rfl rfl ?_
    show Steps p.tables e below (T7.setTop (mkF m 69 #[.val (.ref a1), .val (.ref a2), .val (.int sv), .val (.int dv)] [(.ref a1)])) _
    exact k
  obtain ⟨T9, X9, e9, st9⟩ := getF X7 hx hZ hown (host := "") (Or.inl (hw _ (List.mem_of_getElem? (i := 15) rfl))) Via.refl e7 F_busy_a1 (g := (mkF m 69 #[.val (.ref a1), .val (.ref a2), .val (.int sv), .val (.int dv)] [(.ref a1)])) rfl rfl (hb hby d13_69)
  refine OEnds.go (t' := T9.setTop (mkF m 72 #[.val (.ref a1), .val (.ref a2), .val (.int sv), .val (.int dv)] [(.ref b)])) (fun _ k => st9 _ k) ?_
  refine OEnds.go (t' := T9.setTop (mkF m 74 #[.val (.ref a1), .val (.ref a2), .val (.int sv), .val (.int dv)] [(.int sv), (.ref b), (.int sv), (.ref b)])) (fun _ k => ?_) ?_
  · show Steps p.tables e below (T9.setTop (mkF m 72 #[.val (.ref a1), .val (.ref a2), .val (.int sv), .val (.int dv)] [(.ref b)])) _
    refine XS.iloadN X9.here hx rfl (hb hby d13_72) rfl ?_
    show Steps p.tables e below (T9.setTop (mkF m 73 #[.val (.ref a1), .val (.ref a2), .val (.int sv), .val (.int dv)] [(.int sv), (.ref b)])) _
    refine Jvm.Free.XT.dup2 X9.here hx rfl (hb hby d13_73) rfl rfl rfl ?_
    show Steps p.tables e below (T9.setTop (mkF m 74 #[.val (.ref a1), .val (.ref a2), .val (.int sv), .val (.int dv)] [(.int sv), (.ref b), (.int sv), (.ref b)])) _
    exact k
  obtain ⟨cl10, Ar10, hin10, hat10⟩ := own_read A hs
  refine OEnds.go (t' := T9.setTop (mkF m 75 #[.val (.ref a1), .val (.ref a2), .val (.int sv), .val (.int dv)] [(.int (f sv)), (.int sv), (.ref b)])) (fun _ k => X9.iaload hx (j := sv) (v := (.int (f sv))) (by rw [e9]; exact Ar10.1) (State.isArrayOf_alike hZ.alike Ar10.2.1) Ar10.2.2 hin10 hat10 (g := (mkF m 74 #[.val (.ref a1), .val (.ref a2), .val (.int sv), .val (.int dv)] [(.int sv), (.ref b), (.int sv), (.ref b)])) rfl rfl (hb hby d13_74) _ k) ?_
  refine OEnds.go (t' := T9.setTop (mkF m 77 #[.val (.ref a1), .val (.ref a2), .val (.int sv), .val (.int dv)] [(.int ((f sv) - (1 : Int32))), (.int sv), (.ref b)])) (fun _ k => ?_) ?_
  · show Steps p.tables e below (T9.setTop (mkF m 75 #[.val (.ref a1), .val (.ref a2), .val (.int sv), .val (.int dv)] [(.int (f sv)), (.int sv), (.ref b)])) _
    refine XS.iconst X9.here hx rfl (hb hby d13_75) ?_
    show Steps p.tables e below (T9.setTop (mkF m 76 #[.val (.ref a1), .val (.ref a2), .val (.int sv), .val (.int dv)] [(.int (1 : Int32)), (.int (f sv)), (.int sv), (.ref b)])) _
    refine XS.isub X9.here hx rfl (hb hby d13_76) rfl ?_
    show Steps p.tables e below (T9.setTop (mkF m 77 #[.val (.ref a1), .val (.ref a2), .val (.int sv), .val (.int dv)] [(.int ((f sv) - (1 : Int32))), (.int sv), (.ref b)])) _
    exact k
  obtain ⟨cl11, Ar11, hin11, -⟩ := own_read A hs
  obtain ⟨T11, h11, X11, e11, W11, st11⟩ := stI X9 hx hZ e9 Ar11 (j := sv) hin11 (g := (mkF m 77 #[.val (.ref a1), .val (.ref a2), .val (.int sv), .val (.int dv)] [(.int ((f sv) - (1 : Int32))), (.int sv), (.ref b)])) rfl rfl (hb hby d13_77)
  have N11 := Fr.snoc X11 N4 g_b
  have E_a1 := E_a1.wr W11
  have F_perNode_a1 := F_perNode_a1.other W11 (Or.inl neb)
  have F_busy_a1 := F_busy_a1.other W11 (Or.inl neb)
  have F_busyInAll_a1 := F_busyInAll_a1.other W11 (Or.inl neb)
  have Z11 : n0 ≤ h11.size := Nat.le_trans Z0 (Keep.of_wr W11).1
  have K11 := (Keep.refl h0 [a1, b]).wr W11 (Or.inl (List.mem_of_getElem? (i := 1) rfl))
  have A := own_write A hs W11
  refine OEnds.go (t' := T11.setTop (mkF m 78 #[.val (.ref a1), .val (.ref a2), .val (.int sv), .val (.int dv)] [])) (fun _ k => st11 _ k) ?_
  refine OEnds.go (t' := T11.setTop (mkF m 79 #[.val (.ref a1), .val (.ref a2), .val (.int sv), .val (.int dv)] [(.ref a1)])) (fun _ k => ?_) ?_
  · show Steps p.tables e below (T11.setTop (mkF m 78 #[.val (.ref a1), .val (.ref a2), .val (.int sv), .val (.int dv)] [])) _
    refine XS.aloadN X11.here hx rfl (hb hby d13_78) rfl rfl ?_
    show Steps p.tables e below (T11.setTop (mkF m 79 #[.val (.ref a1), .val (.ref a2), .val (.int sv), .val (.int dv)] [(.ref a1)])) _
    exact k
  obtain ⟨T12, X12, e12, st12⟩ := getF X11 hx hZ hown (host := "") (Or.inl (hw _ (List.mem_of_getElem? (i := 15) rfl))) Via.refl e11 F_busy_a1 (g := (mkF m 79 #[.val (.ref a1), .val (.ref a2), .val (.int sv), .val (.int dv)] [(.ref a1)])) rfl rfl (hb hby d13_79)
  refine OEnds.go (t' := T12.setTop (mkF m 82 #[.val (.ref a1), .val (.ref a2), .val (.int sv), .val (.int dv)] [(.ref b)])) (fun _ k => st12 _ k) ?_
  refine OEnds.go (t' := T12.setTop (mkF m 84 #[.val (.ref a1), .val (.ref a2), .val (.int sv), .val (.int dv)] [(.int dv), (.ref b), (.int dv), (.ref b)])) (fun _ k => ?_) ?_
  · show Steps p.tables e below (T12.setTop (mkF m 82 #[.val (.ref a1), .val (.ref a2), .val (.int sv), .val (.int dv)] [(.ref b)])) _
    refine XS.iloadN X12.here hx rfl (hb hby d13_82) rfl ?_
    show Steps p.tables e below (T12.setTop (mkF m 83 #[.val (.ref a1), .val (.ref a2), .val (.int sv), .val (.int dv)] [(.int dv), (.ref b)])) _
    refine Jvm.Free.XT.dup2 X12.here hx rfl (hb hby d13_83) rfl rfl rfl ?_
    show Steps p.tables e below (T12.setTop (mkF m 84 #[.val (.ref a1), .val (.ref a2), .val (.int sv), .val (.int dv)] [(.int dv), (.ref b), (.int dv), (.ref b)])) _
    exact k
  obtain ⟨cl13, Ar13, hin13, hat13⟩ := own_read A hd
  refine OEnds.go (t' := T12.setTop (mkF m 85 #[.val (.ref a1), .val (.ref a2), .val (.int sv), .val (.int dv)] [(.int (own_upd f sv (f sv - 1) dv)), (.int dv), (.ref b)])) (fun _ k => X12.iaload hx (j := dv) (v := (.int (own_upd f sv (f sv - 1) dv))) (by rw [e12]; exact Ar13.1) (State.isArrayOf_alike hZ.alike Ar13.2.1) Ar13.2.2 hin13 hat13 (g := (mkF m 84 #[.val (.ref a1), .val (.ref a2), .val (.int sv), .val (.int dv)] [(.int dv), (.ref b), (.int dv), (.ref b)])) rfl rfl (hb hby d13_84) _ k) ?_
  refine OEnds.go (t' := T12.setTop (mkF m 87 #[.val (.ref a1), .val (.ref a2), .val (.int sv), .val (.int dv)] [(.int ((own_upd f sv (f sv - 1) dv) - (1 : Int32))), (.int dv), (.ref b)])) (fun _ k => ?_) ?_
  · show Steps p.tables e below (T12.setTop (mkF m 85 #[.val (.ref a1), .val (.ref a2), .val (.int sv), .val (.int dv)] [(.int (own_upd f sv (f sv - 1) dv)), (.int dv), (.ref b)])) _
    refine XS.iconst X12.here hx rfl (hb hby d13_85) ?_
    show Steps p.tables e below (T12.setTop (mkF m 86 #[.val (.ref a1), .val (.ref a2), .val (.int sv), .val (.int dv)] [(.int (1 : Int32)), (.int (own_upd f sv (f sv - 1) dv)), (.int dv), (.ref b)])) _
    refine XS.isub X12.here hx rfl (hb hby d13_86) rfl ?_
    show Steps p.tables e below (T12.setTop (mkF m 87 #[.val (.ref a1), .val (.ref a2), .val (.int sv), .val (.int dv)] [(.int ((own_upd f sv (f sv - 1) dv) - (1 : Int32))), (.int dv), (.ref b)])) _
    exact k
  obtain ⟨cl14, Ar14, hin14, -⟩ := own_read A hd
  obtain ⟨T14, h14, X14, e14, W14, st14⟩ := stI X12 hx hZ e12 Ar14 (j := dv) hin14 (g := (mkF m 87 #[.val (.ref a1), .val (.ref a2), .val (.int sv), .val (.int dv)] [(.int ((own_upd f sv (f sv - 1) dv) - (1 : Int32))), (.int dv), (.ref b)])) rfl rfl (hb hby d13_87)
  have N14 := Fr.snoc X14 N11 g_b
  have E_a1 := E_a1.wr W14
  have F_perNode_a1 := F_perNode_a1.other W14 (Or.inl neb)
  have F_busy_a1 := F_busy_a1.other W14 (Or.inl neb)
  have F_busyInAll_a1 := F_busyInAll_a1.other W14 (Or.inl neb)
  have Z14 : n0 ≤ h14.size := Nat.le_trans Z11 (Keep.of_wr W14).1
  have K14 := K11.wr W14 (Or.inl (List.mem_of_getElem? (i := 1) rfl))
  have A := own_write A hd W14
  refine OEnds.go (t' := T14.setTop (mkF m 88 #[.val (.ref a1), .val (.ref a2), .val (.int sv), .val (.int dv)] [])) (fun _ k => st14 _ k) ?_
  refine OEnds.go (t' := T14.setTop (mkF m 90 #[.val (.ref a1), .val (.ref a2), .val (.int sv), .val (.int dv)] [(.ref a1), (.ref a1)])) (fun _ k => ?_) ?_
  · show Steps p.tables e below (T14.setTop (mkF m 88 #[.val (.ref a1), .val (.ref a2), .val (.int sv), .val (.int dv)] [])) _
    refine XS.aloadN X14.here hx rfl (hb hby d13_88) rfl rfl ?_
    show Steps p.tables e below (T14.setTop (mkF m 89 #[.val (.ref a1), .val (.ref a2), .val (.int sv), .val (.int dv)] [(.ref a1)])) _
    refine XS.dup X14.here hx rfl (hb hby d13_89) rfl rfl ?_
    show Steps p.tables e below (T14.setTop (mkF m 90 #[.val (.ref a1), .val (.ref a2), .val (.int sv), .val (.int dv)] [(.ref a1), (.ref a1)])) _
    exact k
  obtain ⟨T15, X15, e15, st15⟩ := getF X14 hx hZ hown (host := "") (Or.inl (hw _ (List.mem_of_getElem? (i := 77) rfl))) Via.refl e14 F_busyInAll_a1 (g := (mkF m 90 #[.val (.ref a1), .val (.ref a2), .val (.int sv), .val (.int dv)] [(.ref a1), (.ref a1)])) rfl rfl (hb hby d13_90)
  refine OEnds.go (t' := T15.setTop (mkF m 93 #[.val (.ref a1), .val (.ref a2), .val (.int sv), .val (.int dv)] [(.long q), (.ref a1)])) (fun _ k => st15 _ k) ?_
  refine OEnds.go (t' := T15.setTop (mkF m 97 #[.val (.ref a1), .val (.ref a2), .val (.int sv), .val (.int dv)] [(.long (q - (2 : Int64))), (.ref a1)])) (fun _ k => ?_) ?_
  · show Steps p.tables e below (T15.setTop (mkF m 93 #[.val (.ref a1), .val (.ref a2), .val (.int sv), .val (.int dv)] [(.long q), (.ref a1)])) _
    refine X15.ldc2Long hx hown (mvT hZ (hw _ (List.mem_of_getElem? (i := 79) rfl))) (g := (mkF m 93 #[.val (.ref a1), .val (.ref a2), .val (.int sv), .val (.int dv)] [(.long q), (.ref a1)])) rfl (hb hby d13_93) _ ?_
    show Steps p.tables e below (T15.setTop (mkF m 96 #[.val (.ref a1), .val (.ref a2), .val (.int sv), .val (.int dv)] [(.long (2 : Int64)), (.long q), (.ref a1)])) _
    refine XS.lsub X15.here hx rfl (hb hby d13_96) rfl ?_
    show Steps p.tables e below (T15.setTop (mkF m 97 #[.val (.ref a1), .val (.ref a2), .val (.int sv), .val (.int dv)] [(.long (q - (2 : Int64))), (.ref a1)])) _
    exact k
  obtain ⟨T16, h16, X16, e16, W16, st16⟩ := putF X15 hx hZ hown (host := "") (Or.inl (hw _ (List.mem_of_getElem? (i := 77) rfl))) Via.refl e15 F_busyInAll_a1 E_a1 (Or.inl (hw _ (List.mem_of_getElem? (i := 78) rfl))) (hw _ (List.mem_of_getElem? (i := 2) rfl)) (ty := .long) (by decide) rfl rfl (g := (mkF m 97 #[.val (.ref a1), .val (.ref a2), .val (.int sv), .val (.int dv)] [(.long (q - (2 : Int64))), (.ref a1)])) rfl rfl (hb hby d13_97)
  have N16 := Fr.snoc X16 N14 g_a1
  have E_a1 := E_a1.wr W16
  have F_perNode_a1 := F_perNode_a1.other W16 (Or.inr (slot_ne (Or.inr (hw _ (List.mem_of_getElem? (i := 14) rfl))) (Or.inl (hw _ (List.mem_of_getElem? (i := 78) rfl))) (by decide) (t := .int) (t' := .long) (by decide) (by decide)))
  have F_busy_a1 := F_busy_a1.other W16 (Or.inr (slot_ne (Or.inr (hw _ (List.mem_of_getElem? (i := 16) rfl))) (Or.inl (hw _ (List.mem_of_getElem? (i := 78) rfl))) (by decide) (t := (.array .int)) (t' := .long) (by decide) (by decide)))
  have F_busyInAll_a1 := F_busyInAll_a1.same W16
  have A := A.other W16 (Ne.symm neb)
  have Z16 : n0 ≤ h16.size := Nat.le_trans Z14 (Keep.of_wr W16).1
  have K16 := K14.wr W16 (Or.inl (List.mem_of_getElem? (i := 0) rfl))
  refine OEnds.go (t' := T16.setTop (mkF m 100 #[.val (.ref a1), .val (.ref a2), .val (.int sv), .val (.int dv)] [])) (fun _ k => st16 _ k) ?_
  refine OEnds.back X16 hlk (v := none) (fun _ => rfl) (fun fs hr => ?_) ?_ (by decide) (by decide)
  · exact X16.returnOut hx hrt (hb hby d13_100) hr
  · show Q13 Z a1 a2 r sv dv n q b kk f h0 n0 _ T16.heap _
    rw [e16]
    exact ⟨rfl, N16, K16, A, E_a1, F_perNode_a1, F_busy_a1, F_busyInAll_a1⟩
theorem pn_0 : plainName "com/example/fragmint/fragmint/model/TranspondersIdlePinLaw" = true := by first | (simp [plainName, overriddenIn]; done) | decide +kernel
theorem pd_rm0_0 : parseMethodDescriptor "(II)V" = some ⟨[.int, .int], none⟩ := by decide +kernel
theorem pd_rm0_1 : parseMethodDescriptor "(II[II[I)V" = some ⟨[.int, .int, (.array .int), .int, (.array .int)], none⟩ := by decide +kernel
theorem pd_rm0_2 : parseMethodDescriptor "(Lcom/example/fragmint/fragmint/model/Route;II)V" = some ⟨[(.object "com/example/fragmint/fragmint/model/Route"), .int, .int], none⟩ := by decide +kernel
theorem pd_rm0_3 : parseMethodDescriptor "(I)I" = some ⟨[.int], some .int⟩ := by decide +kernel
theorem pd_rm0_4 : parseMethodDescriptor "(Lcom/example/fragmint/fragmint/model/Lightpath;)V" = some ⟨[(.object "com/example/fragmint/fragmint/model/Lightpath")], none⟩ := by decide +kernel
theorem pd_rm0_5 : parseMethodDescriptor "(II)I" = some ⟨[.int, .int], some .int⟩ := by decide +kernel
theorem ef_rm0 (m : MethodId) (p1 : Int32) (p2 : Int32) (p3 : Int32) (p4 : Int32) : entryFrame m #[(.int p1), (.int p2), (.int p3), (.int p4)] maxLocals = mkF m 0 #[.val (.int p1), .val (.int p2), .val (.int p3), .val (.int p4), .unset, .unset, .unset, .unset, .unset, .unset, .unset, .unset, .unset, .unset, .unset, .unset, .unset, .unset] [] := by first | (simp [entryFrame, mkF, argsToLocals, Value.category, maxLocals]; done) | rfl
def Q0 (Z : State) (p1 : Int32) (p2 : Int32) (p3 : Int32) (p4 : Int32)  (h0 : Heap) (n0 : Nat) (v : Option Value) (h : Heap) (L : List Loc) : Prop := v = some (.int 1) ∧ Fr n0 L
set_option maxRecDepth 65536 in
set_option maxHeartbeats 40000000 in
theorem rm0 (l : Launch) (Z : State) (a0 : Array Value) (hw : ∀ d ∈ tables_1, d.before a0 Z = true) (ws : List Jvm.Cond) (p1 : Int32) (p2 : Int32) (p3 : Int32) (p4 : Int32)  (h0 : Heap) (n0 : Nat) (Z0 : n0 ≤ h0.size)  :
    MetFree l x (head1 (Jvm.Cond.code x code maxLocals ret :: ws) room_1) (fun a U => a = #[(.int p1), (.int p2), (.int p3), (.int p4)] ∧ Z.Warmed39 U.vm ∧ U.heap = h0) (fun _ _ _ _ _ => True) (fun _ U o U' => ∃ v L, o = .returned v ∧ Q0 Z p1 p2 p3 p4  h0 n0 v U'.heap L ∧ FrameEnd U o U' L room_1.cells room_1.slots) := by
  refine MetFree.of_bodySF (plainFor_of_name pn_0) hisR ?_
  intro p e s m args below meth c s₁ Bd hml0 hP hK
  obtain ⟨rfl, hZ, hh⟩ := hP
  have hx := Bd.exec
  have hby := Bd.bytes
  have hml : c.maxLocals = 18 := hml0
  have hown : s.vm.findClass "com/example/fragmint/fragmint/model/TranspondersIdlePinLaw" = some m.cls := findClass_of_methodNamed Bd.named
  have hnm := (name_of_methodNamed Bd.named Bd.method).1
  have hlk := BodyLoose.notSynchronized Bd
  have hrt := Bd.returns
  have X0 : Stand p l e room_1 s m #[(.int p1), (.int p2), (.int p3), (.int p4)] below meth c s₁ [] 0 0 := Stand.of_body Bd
  have e0 : s₁.heap = h0 := by rw [← hh, Bd.state]; rfl
  have N0 := Fr.nil n0
  show OEnds p e below s (Q0 Z p1 p2 p3 p4  h0 n0) room_1.cells room_1.slots (s₁.setTop (entryFrame m #[(.int p1), (.int p2), (.int p3), (.int p4)] maxLocals))
  refine OEnds.go (t' := s₁.setTop (mkF m 0 #[.val (.int p1), .val (.int p2), .val (.int p3), .val (.int p4), .unset, .unset, .unset, .unset, .unset, .unset, .unset, .unset, .unset, .unset, .unset, .unset, .unset, .unset] [])) (fun t k => castTop (ef_rm0 m p1 p2 p3 p4) k) ?_
  refine OEnds.cut (fun En => ∀ (T0 : State) (T0_l : List Loc), Stand p l e room_1 s m #[(.int p1), (.int p2), (.int p3), (.int p4)] below meth c T0 T0_l 0 0 → T0.heap = h0 → Fr n0 T0_l → ∀ (n : Int32), 1 ≤ n.toInt → En (T0.setTop (mkF m 23 #[.val (.int p1), .val (.int p2), .val (.int p3), .val (.int p4), .unset, .unset, .unset, .unset, .unset, .unset, .unset, .unset, .unset, .unset, .unset, .unset, .unset, .unset] [(.int n)]))) ?_ (fun K23 => ?_)
  · intro T0 T0_l XT0 eT0 NT0 n hn
    refine OEnds.go (t' := T0.setTop (mkF m 67 #[.val (.int p1), .val (.int p2), .val (.int p3), .val (.int p4), .val (.int n), .val (.int ((p2 &&& (255 : Int32)) % (3 : Int32))), .val (.int ((((p2.toUInt32 >>> ((8 : Int32) &&& 31).toUInt32).toInt32) &&& (255 : Int32)) % (3 : Int32))), .val (.int ((p3 &&& (255 : Int32)) % (3 : Int32))), .val (.int ((((p3.toUInt32 >>> ((8 : Int32) &&& 31).toUInt32).toInt32) &&& (255 : Int32)) % (3 : Int32))), .unset, .unset, .unset, .unset, .unset, .unset, .unset, .unset, .unset] [])) (fun _ k => ?_) ?_
    · show Steps p.tables e below (T0.setTop (mkF m 23 #[.val (.int p1), .val (.int p2), .val (.int p3), .val (.int p4), .unset, .unset, .unset, .unset, .unset, .unset, .unset, .unset, .unset, .unset, .unset, .unset, .unset, .unset] [(.int n)])) _
      refine XS.istore XT0.here hx rfl (hb hby at_23) rfl (l' := #[.val (.int p1), .val (.int p2), .val (.int p3), .val (.int p4), .val (.int n), .unset, .unset, .unset, .unset, .unset, .unset, .unset, .unset, .unset, .unset, .unset, .unset, .unset]) rfl ?_
      show Steps p.tables e below (T0.setTop (mkF m 25 #[.val (.int p1), .val (.int p2), .val (.int p3), .val (.int p4), .val (.int n), .unset, .unset, .unset, .unset, .unset, .unset, .unset, .unset, .unset, .unset, .unset, .unset, .unset] [])) _
      refine XS.iloadN XT0.here hx rfl (hb hby at_25) rfl ?_
      show Steps p.tables e below (T0.setTop (mkF m 26 #[.val (.int p1), .val (.int p2), .val (.int p3), .val (.int p4), .val (.int n), .unset, .unset, .unset, .unset, .unset, .unset, .unset, .unset, .unset, .unset, .unset, .unset, .unset] [(.int p2)])) _
      refine XS.sipush XT0.here hx rfl (hb hby at_26) ?_
      show Steps p.tables e below (T0.setTop (mkF m 29 #[.val (.int p1), .val (.int p2), .val (.int p3), .val (.int p4), .val (.int n), .unset, .unset, .unset, .unset, .unset, .unset, .unset, .unset, .unset, .unset, .unset, .unset, .unset] [(.int (255 : Int32)), (.int p2)])) _
      refine XS.iand XT0.here hx rfl (hb hby at_29) rfl ?_
      show Steps p.tables e below (T0.setTop (mkF m 30 #[.val (.int p1), .val (.int p2), .val (.int p3), .val (.int p4), .val (.int n), .unset, .unset, .unset, .unset, .unset, .unset, .unset, .unset, .unset, .unset, .unset, .unset, .unset] [(.int (p2 &&& (255 : Int32)))])) _
      refine XS.iconst XT0.here hx rfl (hb hby at_30) ?_
      show Steps p.tables e below (T0.setTop (mkF m 31 #[.val (.int p1), .val (.int p2), .val (.int p3), .val (.int p4), .val (.int n), .unset, .unset, .unset, .unset, .unset, .unset, .unset, .unset, .unset, .unset, .unset, .unset, .unset] [(.int (3 : Int32)), (.int (p2 &&& (255 : Int32)))])) _
      refine iremM XT0 hx rfl (hb hby at_31) rfl (by decide) ?_
      show Steps p.tables e below (T0.setTop (mkF m 32 #[.val (.int p1), .val (.int p2), .val (.int p3), .val (.int p4), .val (.int n), .unset, .unset, .unset, .unset, .unset, .unset, .unset, .unset, .unset, .unset, .unset, .unset, .unset] [(.int ((p2 &&& (255 : Int32)) % (3 : Int32)))])) _
      refine XS.istore XT0.here hx rfl (hb hby at_32) rfl (l' := #[.val (.int p1), .val (.int p2), .val (.int p3), .val (.int p4), .val (.int n), .val (.int ((p2 &&& (255 : Int32)) % (3 : Int32))), .unset, .unset, .unset, .unset, .unset, .unset, .unset, .unset, .unset, .unset, .unset, .unset]) rfl ?_
      show Steps p.tables e below (T0.setTop (mkF m 34 #[.val (.int p1), .val (.int p2), .val (.int p3), .val (.int p4), .val (.int n), .val (.int ((p2 &&& (255 : Int32)) % (3 : Int32))), .unset, .unset, .unset, .unset, .unset, .unset, .unset, .unset, .unset, .unset, .unset, .unset] [])) _
      refine XS.iloadN XT0.here hx rfl (hb hby at_34) rfl ?_
      show Steps p.tables e below (T0.setTop (mkF m 35 #[.val (.int p1), .val (.int p2), .val (.int p3), .val (.int p4), .val (.int n), .val (.int ((p2 &&& (255 : Int32)) % (3 : Int32))), .unset, .unset, .unset, .unset, .unset, .unset, .unset, .unset, .unset, .unset, .unset, .unset] [(.int p2)])) _
      refine XS.bipush XT0.here hx rfl (hb hby at_35) ?_
      show Steps p.tables e below (T0.setTop (mkF m 37 #[.val (.int p1), .val (.int p2), .val (.int p3), .val (.int p4), .val (.int n), .val (.int ((p2 &&& (255 : Int32)) % (3 : Int32))), .unset, .unset, .unset, .unset, .unset, .unset, .unset, .unset, .unset, .unset, .unset, .unset] [(.int (8 : Int32)), (.int p2)])) _
      refine XS.iushr XT0.here hx rfl (hb hby at_37) rfl ?_
      show Steps p.tables e below (T0.setTop (mkF m 38 #[.val (.int p1), .val (.int p2), .val (.int p3), .val (.int p4), .val (.int n), .val (.int ((p2 &&& (255 : Int32)) % (3 : Int32))), .unset, .unset, .unset, .unset, .unset, .unset, .unset, .unset, .unset, .unset, .unset, .unset] [(.int ((p2.toUInt32 >>> ((8 : Int32) &&& 31).toUInt32).toInt32))])) _
      refine XS.sipush XT0.here hx rfl (hb hby at_38) ?_
      show Steps p.tables e below (T0.setTop (mkF m 41 #[.val (.int p1), .val (.int p2), .val (.int p3), .val (.int p4), .val (.int n), .val (.int ((p2 &&& (255 : Int32)) % (3 : Int32))), .unset, .unset, .unset, .unset, .unset, .unset, .unset, .unset, .unset, .unset, .unset, .unset] [(.int (255 : Int32)), (.int ((p2.toUInt32 >>> ((8 : Int32) &&& 31).toUInt32).toInt32))])) _
      refine XS.iand XT0.here hx rfl (hb hby at_41) rfl ?_
      show Steps p.tables e below (T0.setTop (mkF m 42 #[.val (.int p1), .val (.int p2), .val (.int p3), .val (.int p4), .val (.int n), .val (.int ((p2 &&& (255 : Int32)) % (3 : Int32))), .unset, .unset, .unset, .unset, .unset, .unset, .unset, .unset, .unset, .unset, .unset, .unset] [(.int (((p2.toUInt32 >>> ((8 : Int32) &&& 31).toUInt32).toInt32) &&& (255 : Int32)))])) _
      refine XS.iconst XT0.here hx rfl (hb hby at_42) ?_
      show Steps p.tables e below (T0.setTop (mkF m 43 #[.val (.int p1), .val (.int p2), .val (.int p3), .val (.int p4), .val (.int n), .val (.int ((p2 &&& (255 : Int32)) % (3 : Int32))), .unset, .unset, .unset, .unset, .unset, .unset, .unset, .unset, .unset, .unset, .unset, .unset] [(.int (3 : Int32)), (.int (((p2.toUInt32 >>> ((8 : Int32) &&& 31).toUInt32).toInt32) &&& (255 : Int32)))])) _
      refine iremM XT0 hx rfl (hb hby at_43) rfl (by decide) ?_
      show Steps p.tables e below (T0.setTop (mkF m 44 #[.val (.int p1), .val (.int p2), .val (.int p3), .val (.int p4), .val (.int n), .val (.int ((p2 &&& (255 : Int32)) % (3 : Int32))), .unset, .unset, .unset, .unset, .unset, .unset, .unset, .unset, .unset, .unset, .unset, .unset] [(.int ((((p2.toUInt32 >>> ((8 : Int32) &&& 31).toUInt32).toInt32) &&& (255 : Int32)) % (3 : Int32)))])) _
      refine XS.istore XT0.here hx rfl (hb hby at_44) rfl (l' := #[.val (.int p1), .val (.int p2), .val (.int p3), .val (.int p4), .val (.int n), .val (.int ((p2 &&& (255 : Int32)) % (3 : Int32))), .val (.int ((((p2.toUInt32 >>> ((8 : Int32) &&& 31).toUInt32).toInt32) &&& (255 : Int32)) % (3 : Int32))), .unset, .unset, .unset, .unset, .unset, .unset, .unset, .unset, .unset, .unset, .unset]) rfl ?_
      show Steps p.tables e below (T0.setTop (mkF m 46 #[.val (.int p1), .val (.int p2), .val (.int p3), .val (.int p4), .val (.int n), .val (.int ((p2 &&& (255 : Int32)) % (3 : Int32))), .val (.int ((((p2.toUInt32 >>> ((8 : Int32) &&& 31).toUInt32).toInt32) &&& (255 : Int32)) % (3 : Int32))), .unset, .unset, .unset, .unset, .unset, .unset, .unset, .unset, .unset, .unset, .unset] [])) _
      refine XS.iloadN XT0.here hx rfl (hb hby at_46) rfl ?_
      show Steps p.tables e below (T0.setTop (mkF m 47 #[.val (.int p1), .val (.int p2), .val (.int p3), .val (.int p4), .val (.int n), .val (.int ((p2 &&& (255 : Int32)) % (3 : Int32))), .val (.int ((((p2.toUInt32 >>> ((8 : Int32) &&& 31).toUInt32).toInt32) &&& (255 : Int32)) % (3 : Int32))), .unset, .unset, .unset, .unset, .unset, .unset, .unset, .unset, .unset, .unset, .unset] [(.int p3)])) _
      refine XS.sipush XT0.here hx rfl (hb hby at_47) ?_
      show Steps p.tables e below (T0.setTop (mkF m 50 #[.val (.int p1), .val (.int p2), .val (.int p3), .val (.int p4), .val (.int n), .val (.int ((p2 &&& (255 : Int32)) % (3 : Int32))), .val (.int ((((p2.toUInt32 >>> ((8 : Int32) &&& 31).toUInt32).toInt32) &&& (255 : Int32)) % (3 : Int32))), .unset, .unset, .unset, .unset, .unset, .unset, .unset, .unset, .unset, .unset, .unset] [(.int (255 : Int32)), (.int p3)])) _
      refine XS.iand XT0.here hx rfl (hb hby at_50) rfl ?_
      show Steps p.tables e below (T0.setTop (mkF m 51 #[.val (.int p1), .val (.int p2), .val (.int p3), .val (.int p4), .val (.int n), .val (.int ((p2 &&& (255 : Int32)) % (3 : Int32))), .val (.int ((((p2.toUInt32 >>> ((8 : Int32) &&& 31).toUInt32).toInt32) &&& (255 : Int32)) % (3 : Int32))), .unset, .unset, .unset, .unset, .unset, .unset, .unset, .unset, .unset, .unset, .unset] [(.int (p3 &&& (255 : Int32)))])) _
      refine XS.iconst XT0.here hx rfl (hb hby at_51) ?_
      show Steps p.tables e below (T0.setTop (mkF m 52 #[.val (.int p1), .val (.int p2), .val (.int p3), .val (.int p4), .val (.int n), .val (.int ((p2 &&& (255 : Int32)) % (3 : Int32))), .val (.int ((((p2.toUInt32 >>> ((8 : Int32) &&& 31).toUInt32).toInt32) &&& (255 : Int32)) % (3 : Int32))), .unset, .unset, .unset, .unset, .unset, .unset, .unset, .unset, .unset, .unset, .unset] [(.int (3 : Int32)), (.int (p3 &&& (255 : Int32)))])) _
      refine iremM XT0 hx rfl (hb hby at_52) rfl (by decide) ?_
      show Steps p.tables e below (T0.setTop (mkF m 53 #[.val (.int p1), .val (.int p2), .val (.int p3), .val (.int p4), .val (.int n), .val (.int ((p2 &&& (255 : Int32)) % (3 : Int32))), .val (.int ((((p2.toUInt32 >>> ((8 : Int32) &&& 31).toUInt32).toInt32) &&& (255 : Int32)) % (3 : Int32))), .unset, .unset, .unset, .unset, .unset, .unset, .unset, .unset, .unset, .unset, .unset] [(.int ((p3 &&& (255 : Int32)) % (3 : Int32)))])) _
      refine XS.istore XT0.here hx rfl (hb hby at_53) rfl (l' := #[.val (.int p1), .val (.int p2), .val (.int p3), .val (.int p4), .val (.int n), .val (.int ((p2 &&& (255 : Int32)) % (3 : Int32))), .val (.int ((((p2.toUInt32 >>> ((8 : Int32) &&& 31).toUInt32).toInt32) &&& (255 : Int32)) % (3 : Int32))), .val (.int ((p3 &&& (255 : Int32)) % (3 : Int32))), .unset, .unset, .unset, .unset, .unset, .unset, .unset, .unset, .unset, .unset]) rfl ?_
      show Steps p.tables e below (T0.setTop (mkF m 55 #[.val (.int p1), .val (.int p2), .val (.int p3), .val (.int p4), .val (.int n), .val (.int ((p2 &&& (255 : Int32)) % (3 : Int32))), .val (.int ((((p2.toUInt32 >>> ((8 : Int32) &&& 31).toUInt32).toInt32) &&& (255 : Int32)) % (3 : Int32))), .val (.int ((p3 &&& (255 : Int32)) % (3 : Int32))), .unset, .unset, .unset, .unset, .unset, .unset, .unset, .unset, .unset, .unset] [])) _
      refine XS.iloadN XT0.here hx rfl (hb hby at_55) rfl ?_
      show Steps p.tables e below (T0.setTop (mkF m 56 #[.val (.int p1), .val (.int p2), .val (.int p3), .val (.int p4), .val (.int n), .val (.int ((p2 &&& (255 : Int32)) % (3 : Int32))), .val (.int ((((p2.toUInt32 >>> ((8 : Int32) &&& 31).toUInt32).toInt32) &&& (255 : Int32)) % (3 : Int32))), .val (.int ((p3 &&& (255 : Int32)) % (3 : Int32))), .unset, .unset, .unset, .unset, .unset, .unset, .unset, .unset, .unset, .unset] [(.int p3)])) _
      refine XS.bipush XT0.here hx rfl (hb hby at_56) ?_
      show Steps p.tables e below (T0.setTop (mkF m 58 #[.val (.int p1), .val (.int p2), .val (.int p3), .val (.int p4), .val (.int n), .val (.int ((p2 &&& (255 : Int32)) % (3 : Int32))), .val (.int ((((p2.toUInt32 >>> ((8 : Int32) &&& 31).toUInt32).toInt32) &&& (255 : Int32)) % (3 : Int32))), .val (.int ((p3 &&& (255 : Int32)) % (3 : Int32))), .unset, .unset, .unset, .unset, .unset, .unset, .unset, .unset, .unset, .unset] [(.int (8 : Int32)), (.int p3)])) _
      refine XS.iushr XT0.here hx rfl (hb hby at_58) rfl ?_
      show Steps p.tables e below (T0.setTop (mkF m 59 #[.val (.int p1), .val (.int p2), .val (.int p3), .val (.int p4), .val (.int n), .val (.int ((p2 &&& (255 : Int32)) % (3 : Int32))), .val (.int ((((p2.toUInt32 >>> ((8 : Int32) &&& 31).toUInt32).toInt32) &&& (255 : Int32)) % (3 : Int32))), .val (.int ((p3 &&& (255 : Int32)) % (3 : Int32))), .unset, .unset, .unset, .unset, .unset, .unset, .unset, .unset, .unset, .unset] [(.int ((p3.toUInt32 >>> ((8 : Int32) &&& 31).toUInt32).toInt32))])) _
      refine XS.sipush XT0.here hx rfl (hb hby at_59) ?_
      show Steps p.tables e below (T0.setTop (mkF m 62 #[.val (.int p1), .val (.int p2), .val (.int p3), .val (.int p4), .val (.int n), .val (.int ((p2 &&& (255 : Int32)) % (3 : Int32))), .val (.int ((((p2.toUInt32 >>> ((8 : Int32) &&& 31).toUInt32).toInt32) &&& (255 : Int32)) % (3 : Int32))), .val (.int ((p3 &&& (255 : Int32)) % (3 : Int32))), .unset, .unset, .unset, .unset, .unset, .unset, .unset, .unset, .unset, .unset] [(.int (255 : Int32)), (.int ((p3.toUInt32 >>> ((8 : Int32) &&& 31).toUInt32).toInt32))])) _
      refine XS.iand XT0.here hx rfl (hb hby at_62) rfl ?_
      show Steps p.tables e below (T0.setTop (mkF m 63 #[.val (.int p1), .val (.int p2), .val (.int p3), .val (.int p4), .val (.int n), .val (.int ((p2 &&& (255 : Int32)) % (3 : Int32))), .val (.int ((((p2.toUInt32 >>> ((8 : Int32) &&& 31).toUInt32).toInt32) &&& (255 : Int32)) % (3 : Int32))), .val (.int ((p3 &&& (255 : Int32)) % (3 : Int32))), .unset, .unset, .unset, .unset, .unset, .unset, .unset, .unset, .unset, .unset] [(.int (((p3.toUInt32 >>> ((8 : Int32) &&& 31).toUInt32).toInt32) &&& (255 : Int32)))])) _
      refine XS.iconst XT0.here hx rfl (hb hby at_63) ?_
      show Steps p.tables e below (T0.setTop (mkF m 64 #[.val (.int p1), .val (.int p2), .val (.int p3), .val (.int p4), .val (.int n), .val (.int ((p2 &&& (255 : Int32)) % (3 : Int32))), .val (.int ((((p2.toUInt32 >>> ((8 : Int32) &&& 31).toUInt32).toInt32) &&& (255 : Int32)) % (3 : Int32))), .val (.int ((p3 &&& (255 : Int32)) % (3 : Int32))), .unset, .unset, .unset, .unset, .unset, .unset, .unset, .unset, .unset, .unset] [(.int (3 : Int32)), (.int (((p3.toUInt32 >>> ((8 : Int32) &&& 31).toUInt32).toInt32) &&& (255 : Int32)))])) _
      refine iremM XT0 hx rfl (hb hby at_64) rfl (by decide) ?_
      show Steps p.tables e below (T0.setTop (mkF m 65 #[.val (.int p1), .val (.int p2), .val (.int p3), .val (.int p4), .val (.int n), .val (.int ((p2 &&& (255 : Int32)) % (3 : Int32))), .val (.int ((((p2.toUInt32 >>> ((8 : Int32) &&& 31).toUInt32).toInt32) &&& (255 : Int32)) % (3 : Int32))), .val (.int ((p3 &&& (255 : Int32)) % (3 : Int32))), .unset, .unset, .unset, .unset, .unset, .unset, .unset, .unset, .unset, .unset] [(.int ((((p3.toUInt32 >>> ((8 : Int32) &&& 31).toUInt32).toInt32) &&& (255 : Int32)) % (3 : Int32)))])) _
      refine XS.istore XT0.here hx rfl (hb hby at_65) rfl (l' := #[.val (.int p1), .val (.int p2), .val (.int p3), .val (.int p4), .val (.int n), .val (.int ((p2 &&& (255 : Int32)) % (3 : Int32))), .val (.int ((((p2.toUInt32 >>> ((8 : Int32) &&& 31).toUInt32).toInt32) &&& (255 : Int32)) % (3 : Int32))), .val (.int ((p3 &&& (255 : Int32)) % (3 : Int32))), .val (.int ((((p3.toUInt32 >>> ((8 : Int32) &&& 31).toUInt32).toInt32) &&& (255 : Int32)) % (3 : Int32))), .unset, .unset, .unset, .unset, .unset, .unset, .unset, .unset, .unset]) rfl ?_
      show Steps p.tables e below (T0.setTop (mkF m 67 #[.val (.int p1), .val (.int p2), .val (.int p3), .val (.int p4), .val (.int n), .val (.int ((p2 &&& (255 : Int32)) % (3 : Int32))), .val (.int ((((p2.toUInt32 >>> ((8 : Int32) &&& 31).toUInt32).toInt32) &&& (255 : Int32)) % (3 : Int32))), .val (.int ((p3 &&& (255 : Int32)) % (3 : Int32))), .val (.int ((((p3.toUInt32 >>> ((8 : Int32) &&& 31).toUInt32).toInt32) &&& (255 : Int32)) % (3 : Int32))), .unset, .unset, .unset, .unset, .unset, .unset, .unset, .unset, .unset] [])) _
      exact k
    have hR_s1 := own_m3 p2
    generalize e_s1 : ((p2 &&& (255 : Int32)) % (3 : Int32)) = s1
    rw [e_s1] at hR_s1
    have hR_d1 := own_m3 ((p2.toUInt32 >>> ((8 : Int32) &&& 31).toUInt32).toInt32)
    generalize e_d1 : ((((p2.toUInt32 >>> ((8 : Int32) &&& 31).toUInt32).toInt32) &&& (255 : Int32)) % (3 : Int32)) = d1
    rw [e_d1] at hR_d1
    have hR_s2 := own_m3 p3
    generalize e_s2 : ((p3 &&& (255 : Int32)) % (3 : Int32)) = s2
    rw [e_s2] at hR_s2
    have hR_d2 := own_m3 ((p3.toUInt32 >>> ((8 : Int32) &&& 31).toUInt32).toInt32)
    generalize e_d2 : ((((p3.toUInt32 >>> ((8 : Int32) &&& 31).toUInt32).toInt32) &&& (255 : Int32)) % (3 : Int32)) = d2
    rw [e_d2] at hR_d2
    refine OEnds.go (t' := T0.setTop (mkF m 68 #[.val (.int p1), .val (.int p2), .val (.int p3), .val (.int p4), .val (.int n), .val (.int s1), .val (.int d1), .val (.int s2), .val (.int d2), .unset, .unset, .unset, .unset, .unset, .unset, .unset, .unset, .unset] [(.int (0 : Int32))])) (fun _ k => ?_) ?_
    · show Steps p.tables e below (T0.setTop (mkF m 67 #[.val (.int p1), .val (.int p2), .val (.int p3), .val (.int p4), .val (.int n), .val (.int s1), .val (.int d1), .val (.int s2), .val (.int d2), .unset, .unset, .unset, .unset, .unset, .unset, .unset, .unset, .unset] [])) _
      refine XS.iconst XT0.here hx rfl (hb hby at_67) ?_
      show Steps p.tables e below (T0.setTop (mkF m 68 #[.val (.int p1), .val (.int p2), .val (.int p3), .val (.int p4), .val (.int n), .val (.int s1), .val (.int d1), .val (.int s2), .val (.int d2), .unset, .unset, .unset, .unset, .unset, .unset, .unset, .unset, .unset] [(.int (0 : Int32))])) _
      exact k
    obtain ⟨T1, h1, k1, X1, e1, E1, A1, st1⟩ := newP XT0 hx hZ (hw _ (List.mem_of_getElem? (i := 0) rfl)) eT0 (g := (mkF m 68 #[.val (.int p1), .val (.int p2), .val (.int p3), .val (.int p4), .val (.int n), .val (.int s1), .val (.int d1), .val (.int s2), .val (.int d2), .unset, .unset, .unset, .unset, .unset, .unset, .unset, .unset, .unset] [(.int (0 : Int32))])) rfl (hb hby at_68) rfl (by decide) (cap := 0) (by decide) (by decide) (by decide) (by decide)
    obtain ⟨c1, gz1⟩ : ∃ z, z = h0.size := ⟨_, rfl⟩
    rw [← gz1] at A1 st1
    have g_c1 : n0 ≤ c1 := Nat.le_trans Z0 (Nat.le_of_eq gz1.symm)
    have Z1 : n0 ≤ h1.size := Nat.le_trans Z0 E1.1
    have V_c1 : Arv Z h1 c1 k1 .int (0 : Int32) [] (.int (0 : Int32)) := Arv.new A1 (by decide)
    refine OEnds.go (t' := T1.setTop (mkF m 70 #[.val (.int p1), .val (.int p2), .val (.int p3), .val (.int p4), .val (.int n), .val (.int s1), .val (.int d1), .val (.int s2), .val (.int d2), .unset, .unset, .unset, .unset, .unset, .unset, .unset, .unset, .unset] [(.ref c1)])) (fun _ k => st1 _ k) ?_
    refine OEnds.go (t' := T1.setTop (mkF m 73 #[.val (.int p1), .val (.int p2), .val (.int p3), .val (.int p4), .val (.int n), .val (.int s1), .val (.int d1), .val (.int s2), .val (.int d2), .val (.ref c1), .unset, .unset, .unset, .unset, .unset, .unset, .unset, .unset] [(.int (0 : Int32))])) (fun _ k => ?_) ?_
    · show Steps p.tables e below (T1.setTop (mkF m 70 #[.val (.int p1), .val (.int p2), .val (.int p3), .val (.int p4), .val (.int n), .val (.int s1), .val (.int d1), .val (.int s2), .val (.int d2), .unset, .unset, .unset, .unset, .unset, .unset, .unset, .unset, .unset] [(.ref c1)])) _
      refine XS.astore X1.here hx rfl (hb hby at_70) rfl rfl (l' := #[.val (.int p1), .val (.int p2), .val (.int p3), .val (.int p4), .val (.int n), .val (.int s1), .val (.int d1), .val (.int s2), .val (.int d2), .val (.ref c1), .unset, .unset, .unset, .unset, .unset, .unset, .unset, .unset]) rfl ?_
      show Steps p.tables e below (T1.setTop (mkF m 72 #[.val (.int p1), .val (.int p2), .val (.int p3), .val (.int p4), .val (.int n), .val (.int s1), .val (.int d1), .val (.int s2), .val (.int d2), .val (.ref c1), .unset, .unset, .unset, .unset, .unset, .unset, .unset, .unset] [])) _
      refine XS.iconst X1.here hx rfl (hb hby at_72) ?_
      show Steps p.tables e below (T1.setTop (mkF m 73 #[.val (.int p1), .val (.int p2), .val (.int p3), .val (.int p4), .val (.int n), .val (.int s1), .val (.int d1), .val (.int s2), .val (.int d2), .val (.ref c1), .unset, .unset, .unset, .unset, .unset, .unset, .unset, .unset] [(.int (0 : Int32))])) _
      exact k
    obtain ⟨T2, h2, k2, X2, e2, E2, A2, st2⟩ := newP X1 hx hZ (hw _ (List.mem_of_getElem? (i := 0) rfl)) e1 (g := (mkF m 73 #[.val (.int p1), .val (.int p2), .val (.int p3), .val (.int p4), .val (.int n), .val (.int s1), .val (.int d1), .val (.int s2), .val (.int d2), .val (.ref c1), .unset, .unset, .unset, .unset, .unset, .unset, .unset, .unset] [(.int (0 : Int32))])) rfl (hb hby at_73) rfl (by decide) (cap := 0) (by decide) (by decide) (by decide) (by decide)
    obtain ⟨c2, gz2⟩ : ∃ z, z = h1.size := ⟨_, rfl⟩
    rw [← gz2] at A2 st2
    have g_c2 : n0 ≤ c2 := Nat.le_trans Z1 (Nat.le_of_eq gz2.symm)
    have Z2 : n0 ≤ h2.size := Nat.le_trans Z1 E2.1
    have V_c2 : Arv Z h2 c2 k2 .int (0 : Int32) [] (.int (0 : Int32)) := Arv.new A2 (by decide)
    refine OEnds.go (t' := T2.setTop (mkF m 75 #[.val (.int p1), .val (.int p2), .val (.int p3), .val (.int p4), .val (.int n), .val (.int s1), .val (.int d1), .val (.int s2), .val (.int d2), .val (.ref c1), .unset, .unset, .unset, .unset, .unset, .unset, .unset, .unset] [(.ref c2)])) (fun _ k => st2 _ k) ?_
    refine OEnds.go (t' := T2.setTop (mkF m 78 #[.val (.int p1), .val (.int p2), .val (.int p3), .val (.int p4), .val (.int n), .val (.int s1), .val (.int d1), .val (.int s2), .val (.int d2), .val (.ref c1), .val (.ref c2), .unset, .unset, .unset, .unset, .unset, .unset, .unset] [(.int (0 : Int32))])) (fun _ k => ?_) ?_
    · show Steps p.tables e below (T2.setTop (mkF m 75 #[.val (.int p1), .val (.int p2), .val (.int p3), .val (.int p4), .val (.int n), .val (.int s1), .val (.int d1), .val (.int s2), .val (.int d2), .val (.ref c1), .unset, .unset, .unset, .unset, .unset, .unset, .unset, .unset] [(.ref c2)])) _
      refine XS.astore X2.here hx rfl (hb hby at_75) rfl rfl (l' := #[.val (.int p1), .val (.int p2), .val (.int p3), .val (.int p4), .val (.int n), .val (.int s1), .val (.int d1), .val (.int s2), .val (.int d2), .val (.ref c1), .val (.ref c2), .unset, .unset, .unset, .unset, .unset, .unset, .unset]) rfl ?_
      show Steps p.tables e below (T2.setTop (mkF m 77 #[.val (.int p1), .val (.int p2), .val (.int p3), .val (.int p4), .val (.int n), .val (.int s1), .val (.int d1), .val (.int s2), .val (.int d2), .val (.ref c1), .val (.ref c2), .unset, .unset, .unset, .unset, .unset, .unset, .unset] [])) _
      refine XS.iconst X2.here hx rfl (hb hby at_77) ?_
      show Steps p.tables e below (T2.setTop (mkF m 78 #[.val (.int p1), .val (.int p2), .val (.int p3), .val (.int p4), .val (.int n), .val (.int s1), .val (.int d1), .val (.int s2), .val (.int d2), .val (.ref c1), .val (.ref c2), .unset, .unset, .unset, .unset, .unset, .unset, .unset] [(.int (0 : Int32))])) _
      exact k
    obtain ⟨T3, h3, k3, X3, e3, E3, A3, st3⟩ := newP X2 hx hZ (hw _ (List.mem_of_getElem? (i := 0) rfl)) e2 (g := (mkF m 78 #[.val (.int p1), .val (.int p2), .val (.int p3), .val (.int p4), .val (.int n), .val (.int s1), .val (.int d1), .val (.int s2), .val (.int d2), .val (.ref c1), .val (.ref c2), .unset, .unset, .unset, .unset, .unset, .unset, .unset] [(.int (0 : Int32))])) rfl (hb hby at_78) rfl (by decide) (cap := 0) (by decide) (by decide) (by decide) (by decide)
    obtain ⟨c3, gz3⟩ : ∃ z, z = h2.size := ⟨_, rfl⟩
    rw [← gz3] at A3 st3
    have g_c3 : n0 ≤ c3 := Nat.le_trans Z2 (Nat.le_of_eq gz3.symm)
    have Z3 : n0 ≤ h3.size := Nat.le_trans Z2 E3.1
    have V_c3 : Arv Z h3 c3 k3 .int (0 : Int32) [] (.int (0 : Int32)) := Arv.new A3 (by decide)
    refine OEnds.go (t' := T3.setTop (mkF m 80 #[.val (.int p1), .val (.int p2), .val (.int p3), .val (.int p4), .val (.int n), .val (.int s1), .val (.int d1), .val (.int s2), .val (.int d2), .val (.ref c1), .val (.ref c2), .unset, .unset, .unset, .unset, .unset, .unset, .unset] [(.ref c3)])) (fun _ k => st3 _ k) ?_
    refine OEnds.go (t' := T3.setTop (mkF m 83 #[.val (.int p1), .val (.int p2), .val (.int p3), .val (.int p4), .val (.int n), .val (.int s1), .val (.int d1), .val (.int s2), .val (.int d2), .val (.ref c1), .val (.ref c2), .val (.ref c3), .unset, .unset, .unset, .unset, .unset, .unset] [(.int (0 : Int32))])) (fun _ k => ?_) ?_
    · show Steps p.tables e below (T3.setTop (mkF m 80 #[.val (.int p1), .val (.int p2), .val (.int p3), .val (.int p4), .val (.int n), .val (.int s1), .val (.int d1), .val (.int s2), .val (.int d2), .val (.ref c1), .val (.ref c2), .unset, .unset, .unset, .unset, .unset, .unset, .unset] [(.ref c3)])) _
      refine XS.astore X3.here hx rfl (hb hby at_80) rfl rfl (l' := #[.val (.int p1), .val (.int p2), .val (.int p3), .val (.int p4), .val (.int n), .val (.int s1), .val (.int d1), .val (.int s2), .val (.int d2), .val (.ref c1), .val (.ref c2), .val (.ref c3), .unset, .unset, .unset, .unset, .unset, .unset]) rfl ?_
      show Steps p.tables e below (T3.setTop (mkF m 82 #[.val (.int p1), .val (.int p2), .val (.int p3), .val (.int p4), .val (.int n), .val (.int s1), .val (.int d1), .val (.int s2), .val (.int d2), .val (.ref c1), .val (.ref c2), .val (.ref c3), .unset, .unset, .unset, .unset, .unset, .unset] [])) _
      refine XS.iconst X3.here hx rfl (hb hby at_82) ?_
      show Steps p.tables e below (T3.setTop (mkF m 83 #[.val (.int p1), .val (.int p2), .val (.int p3), .val (.int p4), .val (.int n), .val (.int s1), .val (.int d1), .val (.int s2), .val (.int d2), .val (.ref c1), .val (.ref c2), .val (.ref c3), .unset, .unset, .unset, .unset, .unset, .unset] [(.int (0 : Int32))])) _
      exact k
    obtain ⟨T4, h4, k4, X4, e4, E4, A4, st4⟩ := newP X3 hx hZ (hw _ (List.mem_of_getElem? (i := 0) rfl)) e3 (g := (mkF m 83 #[.val (.int p1), .val (.int p2), .val (.int p3), .val (.int p4), .val (.int n), .val (.int s1), .val (.int d1), .val (.int s2), .val (.int d2), .val (.ref c1), .val (.ref c2), .val (.ref c3), .unset, .unset, .unset, .unset, .unset, .unset] [(.int (0 : Int32))])) rfl (hb hby at_83) rfl (by decide) (cap := 0) (by decide) (by decide) (by decide) (by decide)
    obtain ⟨c4, gz4⟩ : ∃ z, z = h3.size := ⟨_, rfl⟩
    rw [← gz4] at A4 st4
    have g_c4 : n0 ≤ c4 := Nat.le_trans Z3 (Nat.le_of_eq gz4.symm)
    have Z4 : n0 ≤ h4.size := Nat.le_trans Z3 E4.1
    have V_c4 : Arv Z h4 c4 k4 .int (0 : Int32) [] (.int (0 : Int32)) := Arv.new A4 (by decide)
    refine OEnds.go (t' := T4.setTop (mkF m 85 #[.val (.int p1), .val (.int p2), .val (.int p3), .val (.int p4), .val (.int n), .val (.int s1), .val (.int d1), .val (.int s2), .val (.int d2), .val (.ref c1), .val (.ref c2), .val (.ref c3), .unset, .unset, .unset, .unset, .unset, .unset] [(.ref c4)])) (fun _ k => st4 _ k) ?_
    refine OEnds.go (t' := T4.setTop (mkF m 88 #[.val (.int p1), .val (.int p2), .val (.int p3), .val (.int p4), .val (.int n), .val (.int s1), .val (.int d1), .val (.int s2), .val (.int d2), .val (.ref c1), .val (.ref c2), .val (.ref c3), .val (.ref c4), .unset, .unset, .unset, .unset, .unset] [(.int (3 : Int32))])) (fun _ k => ?_) ?_
    · show Steps p.tables e below (T4.setTop (mkF m 85 #[.val (.int p1), .val (.int p2), .val (.int p3), .val (.int p4), .val (.int n), .val (.int s1), .val (.int d1), .val (.int s2), .val (.int d2), .val (.ref c1), .val (.ref c2), .val (.ref c3), .unset, .unset, .unset, .unset, .unset, .unset] [(.ref c4)])) _
      refine XS.astore X4.here hx rfl (hb hby at_85) rfl rfl (l' := #[.val (.int p1), .val (.int p2), .val (.int p3), .val (.int p4), .val (.int n), .val (.int s1), .val (.int d1), .val (.int s2), .val (.int d2), .val (.ref c1), .val (.ref c2), .val (.ref c3), .val (.ref c4), .unset, .unset, .unset, .unset, .unset]) rfl ?_
      show Steps p.tables e below (T4.setTop (mkF m 87 #[.val (.int p1), .val (.int p2), .val (.int p3), .val (.int p4), .val (.int n), .val (.int s1), .val (.int d1), .val (.int s2), .val (.int d2), .val (.ref c1), .val (.ref c2), .val (.ref c3), .val (.ref c4), .unset, .unset, .unset, .unset, .unset] [])) _
      refine XS.iconst X4.here hx rfl (hb hby at_87) ?_
      show Steps p.tables e below (T4.setTop (mkF m 88 #[.val (.int p1), .val (.int p2), .val (.int p3), .val (.int p4), .val (.int n), .val (.int s1), .val (.int d1), .val (.int s2), .val (.int d2), .val (.ref c1), .val (.ref c2), .val (.ref c3), .val (.ref c4), .unset, .unset, .unset, .unset, .unset] [(.int (3 : Int32))])) _
      exact k
    obtain ⟨T5, h5, k5, X5, e5, E5, A5, st5⟩ := newP X4 hx hZ (hw _ (List.mem_of_getElem? (i := 0) rfl)) e4 (g := (mkF m 88 #[.val (.int p1), .val (.int p2), .val (.int p3), .val (.int p4), .val (.int n), .val (.int s1), .val (.int d1), .val (.int s2), .val (.int d2), .val (.ref c1), .val (.ref c2), .val (.ref c3), .val (.ref c4), .unset, .unset, .unset, .unset, .unset] [(.int (3 : Int32))])) rfl (hb hby at_88) rfl (by decide) (cap := 3) (by decide) (by decide) (by decide) (by decide)
    obtain ⟨ra, gz5⟩ : ∃ z, z = h4.size := ⟨_, rfl⟩
    rw [← gz5] at A5 st5
    have g_ra : n0 ≤ ra := Nat.le_trans Z4 (Nat.le_of_eq gz5.symm)
    have Z5 : n0 ≤ h5.size := Nat.le_trans Z4 E5.1
    have V_ra : Arv Z h5 ra k5 .int (3 : Int32) [(.int (0 : Int32)), (.int (0 : Int32)), (.int (0 : Int32))] (.int (0 : Int32)) := (Arv.new A5 (by decide)).pad (pad_rep [] (.int (0 : Int32)) 3)
    refine OEnds.go (t' := T5.setTop (mkF m 90 #[.val (.int p1), .val (.int p2), .val (.int p3), .val (.int p4), .val (.int n), .val (.int s1), .val (.int d1), .val (.int s2), .val (.int d2), .val (.ref c1), .val (.ref c2), .val (.ref c3), .val (.ref c4), .unset, .unset, .unset, .unset, .unset] [(.ref ra)])) (fun _ k => st5 _ k) ?_
    have A_ra : own_A Z h5 ra _ own_zero := V_ra
    refine OEnds.go (t' := T5.setTop (mkF m 92 #[.val (.int p1), .val (.int p2), .val (.int p3), .val (.int p4), .val (.int n), .val (.int s1), .val (.int d1), .val (.int s2), .val (.int d2), .val (.ref c1), .val (.ref c2), .val (.ref c3), .val (.ref c4), .val (.ref ra), .unset, .unset, .unset, .unset] [])) (fun _ k => ?_) ?_
    · show Steps p.tables e below (T5.setTop (mkF m 90 #[.val (.int p1), .val (.int p2), .val (.int p3), .val (.int p4), .val (.int n), .val (.int s1), .val (.int d1), .val (.int s2), .val (.int d2), .val (.ref c1), .val (.ref c2), .val (.ref c3), .val (.ref c4), .unset, .unset, .unset, .unset, .unset] [(.ref ra)])) _
      refine XS.astore X5.here hx rfl (hb hby at_90) rfl rfl (l' := #[.val (.int p1), .val (.int p2), .val (.int p3), .val (.int p4), .val (.int n), .val (.int s1), .val (.int d1), .val (.int s2), .val (.int d2), .val (.ref c1), .val (.ref c2), .val (.ref c3), .val (.ref c4), .val (.ref ra), .unset, .unset, .unset, .unset]) rfl ?_
      show Steps p.tables e below (T5.setTop (mkF m 92 #[.val (.int p1), .val (.int p2), .val (.int p3), .val (.int p4), .val (.int n), .val (.int s1), .val (.int d1), .val (.int s2), .val (.int d2), .val (.ref c1), .val (.ref c2), .val (.ref c3), .val (.ref c4), .val (.ref ra), .unset, .unset, .unset, .unset] [])) _
      exact k
    obtain ⟨T6, h6, X6, e6, E6, A6, D6, -, st6⟩ := newO X5 hx hZ hown (hw _ (List.mem_of_getElem? (i := 1) rfl)) (hw _ (List.mem_of_getElem? (i := 2) rfl)) (hw _ (List.mem_of_getElem? (i := 3) rfl)) e5 (g := (mkF m 92 #[.val (.int p1), .val (.int p2), .val (.int p3), .val (.int p4), .val (.int n), .val (.int s1), .val (.int d1), .val (.int s2), .val (.int d2), .val (.ref c1), .val (.ref c2), .val (.ref c3), .val (.ref c4), .val (.ref ra), .unset, .unset, .unset, .unset] [])) rfl (hb hby at_92) (by decide) (by decide)
    obtain ⟨t, gz6⟩ : ∃ z, z = h5.size := ⟨_, rfl⟩
    rw [← gz6] at A6 D6 st6
    have ne_ra_t : ra ≠ t := Nat.ne_of_lt (Nat.lt_of_lt_of_le A_ra.lt (Nat.le_of_eq gz6.symm))
    have g_t : n0 ≤ t := Nat.le_trans Z5 (Nat.le_of_eq gz6.symm)
    have A_ra := A_ra.ext E6
    have Z6 : n0 ≤ h6.size := Nat.le_trans Z5 E6.1
    have E_t := A6
    have F_perNode_t : Fld Z h6 t "com/example/fragmint/fragmint/model/Transponders" "perNode" "I" (.int (0 : Int32)) := D6 (Or.inr (hw _ (List.mem_of_getElem? (i := 14) rfl))) (ty := .int) (by decide)
    have F_busy_t : Fld Z h6 t "com/example/fragmint/fragmint/model/Transponders" "busy" "[I" .null := D6 (Or.inr (hw _ (List.mem_of_getElem? (i := 16) rfl))) (ty := (.array .int)) (by decide)
    have F_busyInAll_t : Fld Z h6 t "com/example/fragmint/fragmint/model/Transponders" "busyInAll" "J" (.long (0 : Int64)) := D6 (Or.inl (hw _ (List.mem_of_getElem? (i := 78) rfl))) (ty := .long) (by decide)
    refine OEnds.go (t' := T6.setTop (mkF m 95 #[.val (.int p1), .val (.int p2), .val (.int p3), .val (.int p4), .val (.int n), .val (.int s1), .val (.int d1), .val (.int s2), .val (.int d2), .val (.ref c1), .val (.ref c2), .val (.ref c3), .val (.ref c4), .val (.ref ra), .unset, .unset, .unset, .unset] [(.ref t)])) (fun _ k => st6 _ k) ?_
    refine OEnds.go (t' := T6.setTop (mkF m 99 #[.val (.int p1), .val (.int p2), .val (.int p3), .val (.int p4), .val (.int n), .val (.int s1), .val (.int d1), .val (.int s2), .val (.int d2), .val (.ref c1), .val (.ref c2), .val (.ref c3), .val (.ref c4), .val (.ref ra), .unset, .unset, .unset, .unset] [(.int n), (.int (3 : Int32)), (.ref t), (.ref t)])) (fun _ k => ?_) ?_
    · show Steps p.tables e below (T6.setTop (mkF m 95 #[.val (.int p1), .val (.int p2), .val (.int p3), .val (.int p4), .val (.int n), .val (.int s1), .val (.int d1), .val (.int s2), .val (.int d2), .val (.ref c1), .val (.ref c2), .val (.ref c3), .val (.ref c4), .val (.ref ra), .unset, .unset, .unset, .unset] [(.ref t)])) _
      refine XS.dup X6.here hx rfl (hb hby at_95) rfl rfl ?_
      show Steps p.tables e below (T6.setTop (mkF m 96 #[.val (.int p1), .val (.int p2), .val (.int p3), .val (.int p4), .val (.int n), .val (.int s1), .val (.int d1), .val (.int s2), .val (.int d2), .val (.ref c1), .val (.ref c2), .val (.ref c3), .val (.ref c4), .val (.ref ra), .unset, .unset, .unset, .unset] [(.ref t), (.ref t)])) _
      refine XS.iconst X6.here hx rfl (hb hby at_96) ?_
      show Steps p.tables e below (T6.setTop (mkF m 97 #[.val (.int p1), .val (.int p2), .val (.int p3), .val (.int p4), .val (.int n), .val (.int s1), .val (.int d1), .val (.int s2), .val (.int d2), .val (.ref c1), .val (.ref c2), .val (.ref c3), .val (.ref c4), .val (.ref ra), .unset, .unset, .unset, .unset] [(.int (3 : Int32)), (.ref t), (.ref t)])) _
      refine XS.iload X6.here hx rfl (hb hby at_97) rfl ?_
      show Steps p.tables e below (T6.setTop (mkF m 99 #[.val (.int p1), .val (.int p2), .val (.int p3), .val (.int p4), .val (.int n), .val (.int s1), .val (.int d1), .val (.int s2), .val (.int d2), .val (.ref c1), .val (.ref c2), .val (.ref c3), .val (.ref c4), .val (.ref ra), .unset, .unset, .unset, .unset] [(.int n), (.int (3 : Int32)), (.ref t), (.ref t)])) _
      exact k
    have lt_ra := A_ra.lt
    have lt_t := E_t.lt
    obtain ⟨_, _, ⟨T7, L7, k7, n7⟩, -, X7, ⟨Lc7, hQ7, l7, y7, z7⟩, st7⟩ := X6.specialBack hx (y := (⟨"com/example/fragmint/fragmint/model/Transponders", "<init>", "(II)V"⟩ : MethodName)) rfl hown (mvT hZ (hw _ (List.mem_of_getElem? (i := 4) rfl))) (mvT hZ (hw _ (List.mem_of_getElem? (i := 5) rfl))) (mvT hZ (hw _ (List.mem_of_getElem? (i := 6) rfl))) (by decide) (backOf (W := 1) (rm1 l Z a0 hw [] t n h6 n0 Z6 F_perNode_t F_busy_t F_busyInAll_t E_t g_t (own_nlt hn)) hZ (hw _ (List.mem_of_getElem? (i := 6) rfl)) (hw _ (List.mem_of_getElem? (i := 3) rfl)) (by decide) (by decide)) (g := (mkF m 99 #[.val (.int p1), .val (.int p2), .val (.int p3), .val (.int p4), .val (.int n), .val (.int s1), .val (.int d1), .val (.int s2), .val (.int d2), .val (.ref c1), .val (.ref c2), .val (.ref c3), .val (.ref c4), .val (.ref ra), .unset, .unset, .unset, .unset] [(.int n), (.int (3 : Int32)), (.ref t), (.ref t)])) rfl (by rw [hml]; rfl) (Steps.refl _) (a := t) (argsL := [(.int (3 : Int32)), (.int n)]) (rest := [(.ref t)]) (lenOf pd_rm0_0 rfl) rfl (by show 2 * 0 + _ ≤ _; exact Nat.le_of_eq rfl) (hb hby at_99) (fun _ _ => ⟨rfl, e6, (by decide : 6 + 1 ≤ _), (by decide : 6 + 3 ≤ _)⟩)
    dsimp only [Pt.U, Pt.locs, Pt.cells, Pt.slots] at X7 l7 y7 z7 st7 hQ7
    subst l7 y7 z7
    obtain ⟨rfl, N7q, Kc7, Ea7, Fa7, Fb7, ba, kb, Fc7, A_ba, szb, g_ba⟩ := hQ7
    have N7 := Fr.app NT0 N7q
    have A_ra := A_ra.keep Kc7 (ninS ne_ra_t nin0)
    have Z7 : n0 ≤ T7.heap.size := Nat.le_trans Z6 Kc7.1
    refine OEnds.go (t' := T7.setTop (mkF m 102 #[.val (.int p1), .val (.int p2), .val (.int p3), .val (.int p4), .val (.int n), .val (.int s1), .val (.int d1), .val (.int s2), .val (.int d2), .val (.ref c1), .val (.ref c2), .val (.ref c3), .val (.ref c4), .val (.ref ra), .unset, .unset, .unset, .unset] [(.ref t)])) (fun _ k => st7.trans k) ?_
    have ne_ra_ba : ra ≠ ba := Nat.ne_of_lt (Nat.lt_of_lt_of_le lt_ra szb)
    have ne_t_ba : t ≠ ba := Nat.ne_of_lt (Nat.lt_of_lt_of_le lt_t szb)
    have E_t := Ea7
    have F_perNode_t := Fa7
    have F_busyInAll_t := Fb7
    have F_busy_t := Fc7
    refine OEnds.go (t' := T7.setTop (mkF m 104 #[.val (.int p1), .val (.int p2), .val (.int p3), .val (.int p4), .val (.int n), .val (.int s1), .val (.int d1), .val (.int s2), .val (.int d2), .val (.ref c1), .val (.ref c2), .val (.ref c3), .val (.ref c4), .val (.ref ra), .val (.ref t), .unset, .unset, .unset] [])) (fun _ k => ?_) ?_
    · show Steps p.tables e below (T7.setTop (mkF m 102 #[.val (.int p1), .val (.int p2), .val (.int p3), .val (.int p4), .val (.int n), .val (.int s1), .val (.int d1), .val (.int s2), .val (.int d2), .val (.ref c1), .val (.ref c2), .val (.ref c3), .val (.ref c4), .val (.ref ra), .unset, .unset, .unset, .unset] [(.ref t)])) _
      refine XS.astore X7.here hx rfl (hb hby at_102) rfl rfl (l' := #[.val (.int p1), .val (.int p2), .val (.int p3), .val (.int p4), .val (.int n), .val (.int s1), .val (.int d1), .val (.int s2), .val (.int d2), .val (.ref c1), .val (.ref c2), .val (.ref c3), .val (.ref c4), .val (.ref ra), .val (.ref t), .unset, .unset, .unset]) rfl ?_
      show Steps p.tables e below (T7.setTop (mkF m 104 #[.val (.int p1), .val (.int p2), .val (.int p3), .val (.int p4), .val (.int n), .val (.int s1), .val (.int d1), .val (.int s2), .val (.int d2), .val (.ref c1), .val (.ref c2), .val (.ref c3), .val (.ref c4), .val (.ref ra), .val (.ref t), .unset, .unset, .unset] [])) _
      exact k
    obtain ⟨T8, h8, X8, e8, E8, A8, D8, -, st8⟩ := newO X7 hx hZ hown (hw _ (List.mem_of_getElem? (i := 17) rfl)) (hw _ (List.mem_of_getElem? (i := 18) rfl)) (hw _ (List.mem_of_getElem? (i := 19) rfl)) rfl (g := (mkF m 104 #[.val (.int p1), .val (.int p2), .val (.int p3), .val (.int p4), .val (.int n), .val (.int s1), .val (.int d1), .val (.int s2), .val (.int d2), .val (.ref c1), .val (.ref c2), .val (.ref c3), .val (.ref c4), .val (.ref ra), .val (.ref t), .unset, .unset, .unset] [])) rfl (hb hby at_104) (by decide) (by decide)
    obtain ⟨l1, gz8⟩ : ∃ z, z = T7.heap.size := ⟨_, rfl⟩
    rw [← gz8] at A8 D8 st8
    have ne_ra_l1 : ra ≠ l1 := Nat.ne_of_lt (Nat.lt_of_lt_of_le A_ra.lt (Nat.le_of_eq gz8.symm))
    have ne_t_l1 : t ≠ l1 := Nat.ne_of_lt (Nat.lt_of_lt_of_le E_t.lt (Nat.le_of_eq gz8.symm))
    have ne_ba_l1 : ba ≠ l1 := Nat.ne_of_lt (Nat.lt_of_lt_of_le A_ba.lt (Nat.le_of_eq gz8.symm))
    have g_l1 : n0 ≤ l1 := Nat.le_trans Z7 (Nat.le_of_eq gz8.symm)
    have A_ra := A_ra.ext E8
    have E_t := E_t.ext E8
    have F_perNode_t := F_perNode_t.ext E8
    have F_busyInAll_t := F_busyInAll_t.ext E8
    have F_busy_t := F_busy_t.ext E8
    have A_ba := A_ba.ext E8
    have Z8 : n0 ≤ h8.size := Nat.le_trans Z7 E8.1
    have E_l1 := A8
    have F_route_l1 : Fld Z h8 l1 "com/example/fragmint/fragmint/model/Lightpath" "route" "Lcom/example/fragmint/fragmint/model/Route;" .null := D8 (Or.inr (hw _ (List.mem_of_getElem? (i := 47) rfl))) (ty := (.object "com/example/fragmint/fragmint/model/Route")) (by decide)
    have F_firstSlot_l1 : Fld Z h8 l1 "com/example/fragmint/fragmint/model/Lightpath" "firstSlot" "I" (.int (0 : Int32)) := D8 (Or.inr (hw _ (List.mem_of_getElem? (i := 49) rfl))) (ty := .int) (by decide)
    have F_size_l1 : Fld Z h8 l1 "com/example/fragmint/fragmint/model/Lightpath" "size" "I" (.int (0 : Int32)) := D8 (Or.inr (hw _ (List.mem_of_getElem? (i := 51) rfl))) (ty := .int) (by decide)
    refine OEnds.go (t' := T8.setTop (mkF m 107 #[.val (.int p1), .val (.int p2), .val (.int p3), .val (.int p4), .val (.int n), .val (.int s1), .val (.int d1), .val (.int s2), .val (.int d2), .val (.ref c1), .val (.ref c2), .val (.ref c3), .val (.ref c4), .val (.ref ra), .val (.ref t), .unset, .unset, .unset] [(.ref l1)])) (fun _ k => st8 _ k) ?_
    refine OEnds.go (t' := T8.setTop (mkF m 108 #[.val (.int p1), .val (.int p2), .val (.int p3), .val (.int p4), .val (.int n), .val (.int s1), .val (.int d1), .val (.int s2), .val (.int d2), .val (.ref c1), .val (.ref c2), .val (.ref c3), .val (.ref c4), .val (.ref ra), .val (.ref t), .unset, .unset, .unset] [(.ref l1), (.ref l1)])) (fun _ k => ?_) ?_
    · show Steps p.tables e below (T8.setTop (mkF m 107 #[.val (.int p1), .val (.int p2), .val (.int p3), .val (.int p4), .val (.int n), .val (.int s1), .val (.int d1), .val (.int s2), .val (.int d2), .val (.ref c1), .val (.ref c2), .val (.ref c3), .val (.ref c4), .val (.ref ra), .val (.ref t), .unset, .unset, .unset] [(.ref l1)])) _
      refine XS.dup X8.here hx rfl (hb hby at_107) rfl rfl ?_
      show Steps p.tables e below (T8.setTop (mkF m 108 #[.val (.int p1), .val (.int p2), .val (.int p3), .val (.int p4), .val (.int n), .val (.int s1), .val (.int d1), .val (.int s2), .val (.int d2), .val (.ref c1), .val (.ref c2), .val (.ref c3), .val (.ref c4), .val (.ref ra), .val (.ref t), .unset, .unset, .unset] [(.ref l1), (.ref l1)])) _
      exact k
    obtain ⟨T9, h9, X9, e9, E9, A9, D9, -, st9⟩ := newO X8 hx hZ hown (hw _ (List.mem_of_getElem? (i := 20) rfl)) (hw _ (List.mem_of_getElem? (i := 21) rfl)) (hw _ (List.mem_of_getElem? (i := 22) rfl)) e8 (g := (mkF m 108 #[.val (.int p1), .val (.int p2), .val (.int p3), .val (.int p4), .val (.int n), .val (.int s1), .val (.int d1), .val (.int s2), .val (.int d2), .val (.ref c1), .val (.ref c2), .val (.ref c3), .val (.ref c4), .val (.ref ra), .val (.ref t), .unset, .unset, .unset] [(.ref l1), (.ref l1)])) rfl (hb hby at_108) (by decide) (by decide)
    obtain ⟨r1, gz9⟩ : ∃ z, z = h8.size := ⟨_, rfl⟩
    rw [← gz9] at A9 D9 st9
    have ne_ra_r1 : ra ≠ r1 := Nat.ne_of_lt (Nat.lt_of_lt_of_le A_ra.lt (Nat.le_of_eq gz9.symm))
    have ne_t_r1 : t ≠ r1 := Nat.ne_of_lt (Nat.lt_of_lt_of_le E_t.lt (Nat.le_of_eq gz9.symm))
    have ne_ba_r1 : ba ≠ r1 := Nat.ne_of_lt (Nat.lt_of_lt_of_le A_ba.lt (Nat.le_of_eq gz9.symm))
    have ne_l1_r1 : l1 ≠ r1 := Nat.ne_of_lt (Nat.lt_of_lt_of_le E_l1.lt (Nat.le_of_eq gz9.symm))
    have g_r1 : n0 ≤ r1 := Nat.le_trans Z8 (Nat.le_of_eq gz9.symm)
    have A_ra := A_ra.ext E9
    have E_t := E_t.ext E9
    have F_perNode_t := F_perNode_t.ext E9
    have F_busyInAll_t := F_busyInAll_t.ext E9
    have F_busy_t := F_busy_t.ext E9
    have A_ba := A_ba.ext E9
    have E_l1 := E_l1.ext E9
    have F_route_l1 := F_route_l1.ext E9
    have F_firstSlot_l1 := F_firstSlot_l1.ext E9
    have F_size_l1 := F_size_l1.ext E9
    have Z9 : n0 ≤ h9.size := Nat.le_trans Z8 E9.1
    have E_r1 := A9
    have F_source_r1 : Fld Z h9 r1 "com/example/fragmint/fragmint/model/Route" "source" "I" (.int (0 : Int32)) := D9 (Or.inr (hw _ (List.mem_of_getElem? (i := 28) rfl))) (ty := .int) (by decide)
    have F_destination_r1 : Fld Z h9 r1 "com/example/fragmint/fragmint/model/Route" "destination" "I" (.int (0 : Int32)) := D9 (Or.inr (hw _ (List.mem_of_getElem? (i := 30) rfl))) (ty := .int) (by decide)
    have F_links_r1 : Fld Z h9 r1 "com/example/fragmint/fragmint/model/Route" "links" "[I" .null := D9 (Or.inr (hw _ (List.mem_of_getElem? (i := 32) rfl))) (ty := (.array .int)) (by decide)
    have F_slots_r1 : Fld Z h9 r1 "com/example/fragmint/fragmint/model/Route" "slots" "I" (.int (0 : Int32)) := D9 (Or.inr (hw _ (List.mem_of_getElem? (i := 34) rfl))) (ty := .int) (by decide)
    have F_nodeIds_r1 : Fld Z h9 r1 "com/example/fragmint/fragmint/model/Route" "nodeIds" "[I" .null := D9 (Or.inr (hw _ (List.mem_of_getElem? (i := 36) rfl))) (ty := (.array .int)) (by decide)
    refine OEnds.go (t' := T9.setTop (mkF m 111 #[.val (.int p1), .val (.int p2), .val (.int p3), .val (.int p4), .val (.int n), .val (.int s1), .val (.int d1), .val (.int s2), .val (.int d2), .val (.ref c1), .val (.ref c2), .val (.ref c3), .val (.ref c4), .val (.ref ra), .val (.ref t), .unset, .unset, .unset] [(.ref r1), (.ref l1), (.ref l1)])) (fun _ k => st9 _ k) ?_
    refine OEnds.go (t' := T9.setTop (mkF m 121 #[.val (.int p1), .val (.int p2), .val (.int p3), .val (.int p4), .val (.int n), .val (.int s1), .val (.int d1), .val (.int s2), .val (.int d2), .val (.ref c1), .val (.ref c2), .val (.ref c3), .val (.ref c4), .val (.ref ra), .val (.ref t), .unset, .unset, .unset] [(.ref c2), (.int (1 : Int32)), (.ref c1), (.int d1), (.int s1), (.ref r1), (.ref r1), (.ref l1), (.ref l1)])) (fun _ k => ?_) ?_
    · show Steps p.tables e below (T9.setTop (mkF m 111 #[.val (.int p1), .val (.int p2), .val (.int p3), .val (.int p4), .val (.int n), .val (.int s1), .val (.int d1), .val (.int s2), .val (.int d2), .val (.ref c1), .val (.ref c2), .val (.ref c3), .val (.ref c4), .val (.ref ra), .val (.ref t), .unset, .unset, .unset] [(.ref r1), (.ref l1), (.ref l1)])) _
      refine XS.dup X9.here hx rfl (hb hby at_111) rfl rfl ?_
      show Steps p.tables e below (T9.setTop (mkF m 112 #[.val (.int p1), .val (.int p2), .val (.int p3), .val (.int p4), .val (.int n), .val (.int s1), .val (.int d1), .val (.int s2), .val (.int d2), .val (.ref c1), .val (.ref c2), .val (.ref c3), .val (.ref c4), .val (.ref ra), .val (.ref t), .unset, .unset, .unset] [(.ref r1), (.ref r1), (.ref l1), (.ref l1)])) _
      refine XS.iload X9.here hx rfl (hb hby at_112) rfl ?_
      show Steps p.tables e below (T9.setTop (mkF m 114 #[.val (.int p1), .val (.int p2), .val (.int p3), .val (.int p4), .val (.int n), .val (.int s1), .val (.int d1), .val (.int s2), .val (.int d2), .val (.ref c1), .val (.ref c2), .val (.ref c3), .val (.ref c4), .val (.ref ra), .val (.ref t), .unset, .unset, .unset] [(.int s1), (.ref r1), (.ref r1), (.ref l1), (.ref l1)])) _
      refine XS.iload X9.here hx rfl (hb hby at_114) rfl ?_
      show Steps p.tables e below (T9.setTop (mkF m 116 #[.val (.int p1), .val (.int p2), .val (.int p3), .val (.int p4), .val (.int n), .val (.int s1), .val (.int d1), .val (.int s2), .val (.int d2), .val (.ref c1), .val (.ref c2), .val (.ref c3), .val (.ref c4), .val (.ref ra), .val (.ref t), .unset, .unset, .unset] [(.int d1), (.int s1), (.ref r1), (.ref r1), (.ref l1), (.ref l1)])) _
      refine XS.aload X9.here hx rfl (hb hby at_116) rfl rfl ?_
      show Steps p.tables e below (T9.setTop (mkF m 118 #[.val (.int p1), .val (.int p2), .val (.int p3), .val (.int p4), .val (.int n), .val (.int s1), .val (.int d1), .val (.int s2), .val (.int d2), .val (.ref c1), .val (.ref c2), .val (.ref c3), .val (.ref c4), .val (.ref ra), .val (.ref t), .unset, .unset, .unset] [(.ref c1), (.int d1), (.int s1), (.ref r1), (.ref r1), (.ref l1), (.ref l1)])) _
      refine XS.iconst X9.here hx rfl (hb hby at_118) ?_
      show Steps p.tables e below (T9.setTop (mkF m 119 #[.val (.int p1), .val (.int p2), .val (.int p3), .val (.int p4), .val (.int n), .val (.int s1), .val (.int d1), .val (.int s2), .val (.int d2), .val (.ref c1), .val (.ref c2), .val (.ref c3), .val (.ref c4), .val (.ref ra), .val (.ref t), .unset, .unset, .unset] [(.int (1 : Int32)), (.ref c1), (.int d1), (.int s1), (.ref r1), (.ref r1), (.ref l1), (.ref l1)])) _
      refine XS.aload X9.here hx rfl (hb hby at_119) rfl rfl ?_
      show Steps p.tables e below (T9.setTop (mkF m 121 #[.val (.int p1), .val (.int p2), .val (.int p3), .val (.int p4), .val (.int n), .val (.int s1), .val (.int d1), .val (.int s2), .val (.int d2), .val (.ref c1), .val (.ref c2), .val (.ref c3), .val (.ref c4), .val (.ref ra), .val (.ref t), .unset, .unset, .unset] [(.ref c2), (.int (1 : Int32)), (.ref c1), (.int d1), (.int s1), (.ref r1), (.ref r1), (.ref l1), (.ref l1)])) _
      exact k
    obtain ⟨_, _, ⟨T10, L10, k10, n10⟩, -, X10, ⟨Lc10, hQ10, l10, y10, z10⟩, st10⟩ := X9.specialBack hx (y := (⟨"com/example/fragmint/fragmint/model/Route", "<init>", "(II[II[I)V"⟩ : MethodName)) rfl hown (mvT hZ (hw _ (List.mem_of_getElem? (i := 23) rfl))) (mvT hZ (hw _ (List.mem_of_getElem? (i := 24) rfl))) (mvT hZ (hw _ (List.mem_of_getElem? (i := 25) rfl))) (by decide) (backOf (W := 3) (rm4 l Z a0 hw [] r1 s1 d1 c1 (1 : Int32) c2 h9 n0 Z9 F_source_r1 F_destination_r1 F_links_r1 F_slots_r1 F_nodeIds_r1 E_r1 g_r1) hZ (hw _ (List.mem_of_getElem? (i := 25) rfl)) (hw _ (List.mem_of_getElem? (i := 22) rfl)) (by decide) (by decide)) (g := (mkF m 121 #[.val (.int p1), .val (.int p2), .val (.int p3), .val (.int p4), .val (.int n), .val (.int s1), .val (.int d1), .val (.int s2), .val (.int d2), .val (.ref c1), .val (.ref c2), .val (.ref c3), .val (.ref c4), .val (.ref ra), .val (.ref t), .unset, .unset, .unset] [(.ref c2), (.int (1 : Int32)), (.ref c1), (.int d1), (.int s1), (.ref r1), (.ref r1), (.ref l1), (.ref l1)])) rfl (by rw [hml]; rfl) (Steps.refl _) (a := r1) (argsL := [(.int s1), (.int d1), (.ref c1), (.int (1 : Int32)), (.ref c2)]) (rest := [(.ref r1), (.ref l1), (.ref l1)]) (lenOf pd_rm0_1 rfl) rfl (by show 2 * 0 + _ ≤ _; exact Nat.le_of_eq rfl) (hb hby at_121) (fun _ _ => ⟨rfl, e9, (by decide : 9 + 0 ≤ _), (by decide : 17 + 0 ≤ _)⟩)
    dsimp only [Pt.U, Pt.locs, Pt.cells, Pt.slots] at X10 l10 y10 z10 st10 hQ10
    subst l10 y10 z10
    obtain ⟨rfl, N10q, Kc10, Ea10, Fa10, Fb10⟩ := hQ10
    have N10 := Fr.app N7 N10q
    have A_ra := A_ra.keep Kc10 (ninS ne_ra_r1 nin0)
    have E_t := E_t.keep Kc10
    have F_perNode_t := F_perNode_t.keep Kc10 (ninS ne_t_r1 nin0)
    have F_busyInAll_t := F_busyInAll_t.keep Kc10 (ninS ne_t_r1 nin0)
    have F_busy_t := F_busy_t.keep Kc10 (ninS ne_t_r1 nin0)
    have A_ba := A_ba.keep Kc10 (ninS ne_ba_r1 nin0)
    have E_l1 := E_l1.keep Kc10
    have F_route_l1 := F_route_l1.keep Kc10 (ninS ne_l1_r1 nin0)
    have F_firstSlot_l1 := F_firstSlot_l1.keep Kc10 (ninS ne_l1_r1 nin0)
    have F_size_l1 := F_size_l1.keep Kc10 (ninS ne_l1_r1 nin0)
    have Z10 : n0 ≤ T10.heap.size := Nat.le_trans Z9 Kc10.1
    refine OEnds.go (t' := T10.setTop (mkF m 124 #[.val (.int p1), .val (.int p2), .val (.int p3), .val (.int p4), .val (.int n), .val (.int s1), .val (.int d1), .val (.int s2), .val (.int d2), .val (.ref c1), .val (.ref c2), .val (.ref c3), .val (.ref c4), .val (.ref ra), .val (.ref t), .unset, .unset, .unset] [(.ref r1), (.ref l1), (.ref l1)])) (fun _ k => st10.trans k) ?_
    have E_r1 := Ea10
    have F_source_r1 := Fa10
    have F_destination_r1 := Fb10
    refine OEnds.go (t' := T10.setTop (mkF m 126 #[.val (.int p1), .val (.int p2), .val (.int p3), .val (.int p4), .val (.int n), .val (.int s1), .val (.int d1), .val (.int s2), .val (.int d2), .val (.ref c1), .val (.ref c2), .val (.ref c3), .val (.ref c4), .val (.ref ra), .val (.ref t), .unset, .unset, .unset] [(.int (1 : Int32)), (.int (0 : Int32)), (.ref r1), (.ref l1), (.ref l1)])) (fun _ k => ?_) ?_
    · show Steps p.tables e below (T10.setTop (mkF m 124 #[.val (.int p1), .val (.int p2), .val (.int p3), .val (.int p4), .val (.int n), .val (.int s1), .val (.int d1), .val (.int s2), .val (.int d2), .val (.ref c1), .val (.ref c2), .val (.ref c3), .val (.ref c4), .val (.ref ra), .val (.ref t), .unset, .unset, .unset] [(.ref r1), (.ref l1), (.ref l1)])) _
      refine XS.iconst X10.here hx rfl (hb hby at_124) ?_
      show Steps p.tables e below (T10.setTop (mkF m 125 #[.val (.int p1), .val (.int p2), .val (.int p3), .val (.int p4), .val (.int n), .val (.int s1), .val (.int d1), .val (.int s2), .val (.int d2), .val (.ref c1), .val (.ref c2), .val (.ref c3), .val (.ref c4), .val (.ref ra), .val (.ref t), .unset, .unset, .unset] [(.int (0 : Int32)), (.ref r1), (.ref l1), (.ref l1)])) _
      refine XS.iconst X10.here hx rfl (hb hby at_125) ?_
      show Steps p.tables e below (T10.setTop (mkF m 126 #[.val (.int p1), .val (.int p2), .val (.int p3), .val (.int p4), .val (.int n), .val (.int s1), .val (.int d1), .val (.int s2), .val (.int d2), .val (.ref c1), .val (.ref c2), .val (.ref c3), .val (.ref c4), .val (.ref ra), .val (.ref t), .unset, .unset, .unset] [(.int (1 : Int32)), (.int (0 : Int32)), (.ref r1), (.ref l1), (.ref l1)])) _
      exact k
    obtain ⟨_, _, ⟨T11, L11, k11, n11⟩, -, X11, ⟨Lc11, hQ11, l11, y11, z11⟩, st11⟩ := X10.specialBack hx (y := (⟨"com/example/fragmint/fragmint/model/Lightpath", "<init>", "(Lcom/example/fragmint/fragmint/model/Route;II)V"⟩ : MethodName)) rfl hown (mvT hZ (hw _ (List.mem_of_getElem? (i := 37) rfl))) (mvT hZ (hw _ (List.mem_of_getElem? (i := 38) rfl))) (mvT hZ (hw _ (List.mem_of_getElem? (i := 39) rfl))) (by decide) (backOf (W := 1) (rm5 l Z a0 hw [] l1 r1 (0 : Int32) (1 : Int32) T10.heap n0 Z10 F_route_l1 F_firstSlot_l1 F_size_l1 E_l1 g_l1) hZ (hw _ (List.mem_of_getElem? (i := 39) rfl)) (hw _ (List.mem_of_getElem? (i := 19) rfl)) (by decide) (by decide)) (g := (mkF m 126 #[.val (.int p1), .val (.int p2), .val (.int p3), .val (.int p4), .val (.int n), .val (.int s1), .val (.int d1), .val (.int s2), .val (.int d2), .val (.ref c1), .val (.ref c2), .val (.ref c3), .val (.ref c4), .val (.ref ra), .val (.ref t), .unset, .unset, .unset] [(.int (1 : Int32)), (.int (0 : Int32)), (.ref r1), (.ref l1), (.ref l1)])) rfl (by rw [hml]; rfl) (Steps.refl _) (a := l1) (argsL := [(.ref r1), (.int (0 : Int32)), (.int (1 : Int32))]) (rest := [(.ref l1)]) (lenOf pd_rm0_2 rfl) rfl (by show 2 * 0 + _ ≤ _; exact Nat.le_of_eq rfl) (hb hby at_126) (fun _ _ => ⟨rfl, rfl, (by decide : 9 + 0 ≤ _), (by decide : 17 + 0 ≤ _)⟩)
    dsimp only [Pt.U, Pt.locs, Pt.cells, Pt.slots] at X11 l11 y11 z11 st11 hQ11
    subst l11 y11 z11
    obtain ⟨rfl, N11q, Kc11, Ea11, Fa11⟩ := hQ11
    have N11 := Fr.app N10 N11q
    have A_ra := A_ra.keep Kc11 (ninS ne_ra_l1 nin0)
    have E_t := E_t.keep Kc11
    have F_perNode_t := F_perNode_t.keep Kc11 (ninS ne_t_l1 nin0)
    have F_busyInAll_t := F_busyInAll_t.keep Kc11 (ninS ne_t_l1 nin0)
    have F_busy_t := F_busy_t.keep Kc11 (ninS ne_t_l1 nin0)
    have A_ba := A_ba.keep Kc11 (ninS ne_ba_l1 nin0)
    have E_r1 := E_r1.keep Kc11
    have F_source_r1 := F_source_r1.keep Kc11 (ninS (Ne.symm ne_l1_r1) nin0)
    have F_destination_r1 := F_destination_r1.keep Kc11 (ninS (Ne.symm ne_l1_r1) nin0)
    have Z11 : n0 ≤ T11.heap.size := Nat.le_trans Z10 Kc11.1
    refine OEnds.go (t' := T11.setTop (mkF m 129 #[.val (.int p1), .val (.int p2), .val (.int p3), .val (.int p4), .val (.int n), .val (.int s1), .val (.int d1), .val (.int s2), .val (.int d2), .val (.ref c1), .val (.ref c2), .val (.ref c3), .val (.ref c4), .val (.ref ra), .val (.ref t), .unset, .unset, .unset] [(.ref l1)])) (fun _ k => st11.trans k) ?_
    have E_l1 := Ea11
    have F_route_l1 := Fa11
    refine OEnds.go (t' := T11.setTop (mkF m 131 #[.val (.int p1), .val (.int p2), .val (.int p3), .val (.int p4), .val (.int n), .val (.int s1), .val (.int d1), .val (.int s2), .val (.int d2), .val (.ref c1), .val (.ref c2), .val (.ref c3), .val (.ref c4), .val (.ref ra), .val (.ref t), .val (.ref l1), .unset, .unset] [])) (fun _ k => ?_) ?_
    · show Steps p.tables e below (T11.setTop (mkF m 129 #[.val (.int p1), .val (.int p2), .val (.int p3), .val (.int p4), .val (.int n), .val (.int s1), .val (.int d1), .val (.int s2), .val (.int d2), .val (.ref c1), .val (.ref c2), .val (.ref c3), .val (.ref c4), .val (.ref ra), .val (.ref t), .unset, .unset, .unset] [(.ref l1)])) _
      refine XS.astore X11.here hx rfl (hb hby at_129) rfl rfl (l' := #[.val (.int p1), .val (.int p2), .val (.int p3), .val (.int p4), .val (.int n), .val (.int s1), .val (.int d1), .val (.int s2), .val (.int d2), .val (.ref c1), .val (.ref c2), .val (.ref c3), .val (.ref c4), .val (.ref ra), .val (.ref t), .val (.ref l1), .unset, .unset]) rfl ?_
      show Steps p.tables e below (T11.setTop (mkF m 131 #[.val (.int p1), .val (.int p2), .val (.int p3), .val (.int p4), .val (.int n), .val (.int s1), .val (.int d1), .val (.int s2), .val (.int d2), .val (.ref c1), .val (.ref c2), .val (.ref c3), .val (.ref c4), .val (.ref ra), .val (.ref t), .val (.ref l1), .unset, .unset] [])) _
      exact k
    obtain ⟨T12, h12, X12, e12, E12, A12, D12, -, st12⟩ := newO X11 hx hZ hown (hw _ (List.mem_of_getElem? (i := 17) rfl)) (hw _ (List.mem_of_getElem? (i := 18) rfl)) (hw _ (List.mem_of_getElem? (i := 19) rfl)) rfl (g := (mkF m 131 #[.val (.int p1), .val (.int p2), .val (.int p3), .val (.int p4), .val (.int n), .val (.int s1), .val (.int d1), .val (.int s2), .val (.int d2), .val (.ref c1), .val (.ref c2), .val (.ref c3), .val (.ref c4), .val (.ref ra), .val (.ref t), .val (.ref l1), .unset, .unset] [])) rfl (hb hby at_131) (by decide) (by decide)
    obtain ⟨l2, gz12⟩ : ∃ z, z = T11.heap.size := ⟨_, rfl⟩
    rw [← gz12] at A12 D12 st12
    have ne_ra_l2 : ra ≠ l2 := Nat.ne_of_lt (Nat.lt_of_lt_of_le A_ra.lt (Nat.le_of_eq gz12.symm))
    have ne_t_l2 : t ≠ l2 := Nat.ne_of_lt (Nat.lt_of_lt_of_le E_t.lt (Nat.le_of_eq gz12.symm))
    have ne_ba_l2 : ba ≠ l2 := Nat.ne_of_lt (Nat.lt_of_lt_of_le A_ba.lt (Nat.le_of_eq gz12.symm))
    have ne_r1_l2 : r1 ≠ l2 := Nat.ne_of_lt (Nat.lt_of_lt_of_le E_r1.lt (Nat.le_of_eq gz12.symm))
    have ne_l1_l2 : l1 ≠ l2 := Nat.ne_of_lt (Nat.lt_of_lt_of_le E_l1.lt (Nat.le_of_eq gz12.symm))
    have g_l2 : n0 ≤ l2 := Nat.le_trans Z11 (Nat.le_of_eq gz12.symm)
    have A_ra := A_ra.ext E12
    have E_t := E_t.ext E12
    have F_perNode_t := F_perNode_t.ext E12
    have F_busyInAll_t := F_busyInAll_t.ext E12
    have F_busy_t := F_busy_t.ext E12
    have A_ba := A_ba.ext E12
    have E_r1 := E_r1.ext E12
    have F_source_r1 := F_source_r1.ext E12
    have F_destination_r1 := F_destination_r1.ext E12
    have E_l1 := E_l1.ext E12
    have F_route_l1 := F_route_l1.ext E12
    have Z12 : n0 ≤ h12.size := Nat.le_trans Z11 E12.1
    have E_l2 := A12
    have F_route_l2 : Fld Z h12 l2 "com/example/fragmint/fragmint/model/Lightpath" "route" "Lcom/example/fragmint/fragmint/model/Route;" .null := D12 (Or.inr (hw _ (List.mem_of_getElem? (i := 47) rfl))) (ty := (.object "com/example/fragmint/fragmint/model/Route")) (by decide)
    have F_firstSlot_l2 : Fld Z h12 l2 "com/example/fragmint/fragmint/model/Lightpath" "firstSlot" "I" (.int (0 : Int32)) := D12 (Or.inr (hw _ (List.mem_of_getElem? (i := 49) rfl))) (ty := .int) (by decide)
    have F_size_l2 : Fld Z h12 l2 "com/example/fragmint/fragmint/model/Lightpath" "size" "I" (.int (0 : Int32)) := D12 (Or.inr (hw _ (List.mem_of_getElem? (i := 51) rfl))) (ty := .int) (by decide)
    refine OEnds.go (t' := T12.setTop (mkF m 134 #[.val (.int p1), .val (.int p2), .val (.int p3), .val (.int p4), .val (.int n), .val (.int s1), .val (.int d1), .val (.int s2), .val (.int d2), .val (.ref c1), .val (.ref c2), .val (.ref c3), .val (.ref c4), .val (.ref ra), .val (.ref t), .val (.ref l1), .unset, .unset] [(.ref l2)])) (fun _ k => st12 _ k) ?_
    refine OEnds.go (t' := T12.setTop (mkF m 135 #[.val (.int p1), .val (.int p2), .val (.int p3), .val (.int p4), .val (.int n), .val (.int s1), .val (.int d1), .val (.int s2), .val (.int d2), .val (.ref c1), .val (.ref c2), .val (.ref c3), .val (.ref c4), .val (.ref ra), .val (.ref t), .val (.ref l1), .unset, .unset] [(.ref l2), (.ref l2)])) (fun _ k => ?_) ?_
    · show Steps p.tables e below (T12.setTop (mkF m 134 #[.val (.int p1), .val (.int p2), .val (.int p3), .val (.int p4), .val (.int n), .val (.int s1), .val (.int d1), .val (.int s2), .val (.int d2), .val (.ref c1), .val (.ref c2), .val (.ref c3), .val (.ref c4), .val (.ref ra), .val (.ref t), .val (.ref l1), .unset, .unset] [(.ref l2)])) _
      refine XS.dup X12.here hx rfl (hb hby at_134) rfl rfl ?_
      show Steps p.tables e below (T12.setTop (mkF m 135 #[.val (.int p1), .val (.int p2), .val (.int p3), .val (.int p4), .val (.int n), .val (.int s1), .val (.int d1), .val (.int s2), .val (.int d2), .val (.ref c1), .val (.ref c2), .val (.ref c3), .val (.ref c4), .val (.ref ra), .val (.ref t), .val (.ref l1), .unset, .unset] [(.ref l2), (.ref l2)])) _
      exact k
    obtain ⟨T13, h13, X13, e13, E13, A13, D13, -, st13⟩ := newO X12 hx hZ hown (hw _ (List.mem_of_getElem? (i := 20) rfl)) (hw _ (List.mem_of_getElem? (i := 21) rfl)) (hw _ (List.mem_of_getElem? (i := 22) rfl)) e12 (g := (mkF m 135 #[.val (.int p1), .val (.int p2), .val (.int p3), .val (.int p4), .val (.int n), .val (.int s1), .val (.int d1), .val (.int s2), .val (.int d2), .val (.ref c1), .val (.ref c2), .val (.ref c3), .val (.ref c4), .val (.ref ra), .val (.ref t), .val (.ref l1), .unset, .unset] [(.ref l2), (.ref l2)])) rfl (hb hby at_135) (by decide) (by decide)
    obtain ⟨r2, gz13⟩ : ∃ z, z = h12.size := ⟨_, rfl⟩
    rw [← gz13] at A13 D13 st13
    have ne_ra_r2 : ra ≠ r2 := Nat.ne_of_lt (Nat.lt_of_lt_of_le A_ra.lt (Nat.le_of_eq gz13.symm))
    have ne_t_r2 : t ≠ r2 := Nat.ne_of_lt (Nat.lt_of_lt_of_le E_t.lt (Nat.le_of_eq gz13.symm))
    have ne_ba_r2 : ba ≠ r2 := Nat.ne_of_lt (Nat.lt_of_lt_of_le A_ba.lt (Nat.le_of_eq gz13.symm))
    have ne_r1_r2 : r1 ≠ r2 := Nat.ne_of_lt (Nat.lt_of_lt_of_le E_r1.lt (Nat.le_of_eq gz13.symm))
    have ne_l1_r2 : l1 ≠ r2 := Nat.ne_of_lt (Nat.lt_of_lt_of_le E_l1.lt (Nat.le_of_eq gz13.symm))
    have ne_l2_r2 : l2 ≠ r2 := Nat.ne_of_lt (Nat.lt_of_lt_of_le E_l2.lt (Nat.le_of_eq gz13.symm))
    have g_r2 : n0 ≤ r2 := Nat.le_trans Z12 (Nat.le_of_eq gz13.symm)
    have A_ra := A_ra.ext E13
    have E_t := E_t.ext E13
    have F_perNode_t := F_perNode_t.ext E13
    have F_busyInAll_t := F_busyInAll_t.ext E13
    have F_busy_t := F_busy_t.ext E13
    have A_ba := A_ba.ext E13
    have E_r1 := E_r1.ext E13
    have F_source_r1 := F_source_r1.ext E13
    have F_destination_r1 := F_destination_r1.ext E13
    have E_l1 := E_l1.ext E13
    have F_route_l1 := F_route_l1.ext E13
    have E_l2 := E_l2.ext E13
    have F_route_l2 := F_route_l2.ext E13
    have F_firstSlot_l2 := F_firstSlot_l2.ext E13
    have F_size_l2 := F_size_l2.ext E13
    have Z13 : n0 ≤ h13.size := Nat.le_trans Z12 E13.1
    have E_r2 := A13
    have F_source_r2 : Fld Z h13 r2 "com/example/fragmint/fragmint/model/Route" "source" "I" (.int (0 : Int32)) := D13 (Or.inr (hw _ (List.mem_of_getElem? (i := 28) rfl))) (ty := .int) (by decide)
    have F_destination_r2 : Fld Z h13 r2 "com/example/fragmint/fragmint/model/Route" "destination" "I" (.int (0 : Int32)) := D13 (Or.inr (hw _ (List.mem_of_getElem? (i := 30) rfl))) (ty := .int) (by decide)
    have F_links_r2 : Fld Z h13 r2 "com/example/fragmint/fragmint/model/Route" "links" "[I" .null := D13 (Or.inr (hw _ (List.mem_of_getElem? (i := 32) rfl))) (ty := (.array .int)) (by decide)
    have F_slots_r2 : Fld Z h13 r2 "com/example/fragmint/fragmint/model/Route" "slots" "I" (.int (0 : Int32)) := D13 (Or.inr (hw _ (List.mem_of_getElem? (i := 34) rfl))) (ty := .int) (by decide)
    have F_nodeIds_r2 : Fld Z h13 r2 "com/example/fragmint/fragmint/model/Route" "nodeIds" "[I" .null := D13 (Or.inr (hw _ (List.mem_of_getElem? (i := 36) rfl))) (ty := (.array .int)) (by decide)
    refine OEnds.go (t' := T13.setTop (mkF m 138 #[.val (.int p1), .val (.int p2), .val (.int p3), .val (.int p4), .val (.int n), .val (.int s1), .val (.int d1), .val (.int s2), .val (.int d2), .val (.ref c1), .val (.ref c2), .val (.ref c3), .val (.ref c4), .val (.ref ra), .val (.ref t), .val (.ref l1), .unset, .unset] [(.ref r2), (.ref l2), (.ref l2)])) (fun _ k => st13 _ k) ?_
    refine OEnds.go (t' := T13.setTop (mkF m 148 #[.val (.int p1), .val (.int p2), .val (.int p3), .val (.int p4), .val (.int n), .val (.int s1), .val (.int d1), .val (.int s2), .val (.int d2), .val (.ref c1), .val (.ref c2), .val (.ref c3), .val (.ref c4), .val (.ref ra), .val (.ref t), .val (.ref l1), .unset, .unset] [(.ref c4), (.int (1 : Int32)), (.ref c3), (.int d2), (.int s2), (.ref r2), (.ref r2), (.ref l2), (.ref l2)])) (fun _ k => ?_) ?_
    · show Steps p.tables e below (T13.setTop (mkF m 138 #[.val (.int p1), .val (.int p2), .val (.int p3), .val (.int p4), .val (.int n), .val (.int s1), .val (.int d1), .val (.int s2), .val (.int d2), .val (.ref c1), .val (.ref c2), .val (.ref c3), .val (.ref c4), .val (.ref ra), .val (.ref t), .val (.ref l1), .unset, .unset] [(.ref r2), (.ref l2), (.ref l2)])) _
      refine XS.dup X13.here hx rfl (hb hby at_138) rfl rfl ?_
      show Steps p.tables e below (T13.setTop (mkF m 139 #[.val (.int p1), .val (.int p2), .val (.int p3), .val (.int p4), .val (.int n), .val (.int s1), .val (.int d1), .val (.int s2), .val (.int d2), .val (.ref c1), .val (.ref c2), .val (.ref c3), .val (.ref c4), .val (.ref ra), .val (.ref t), .val (.ref l1), .unset, .unset] [(.ref r2), (.ref r2), (.ref l2), (.ref l2)])) _
      refine XS.iload X13.here hx rfl (hb hby at_139) rfl ?_
      show Steps p.tables e below (T13.setTop (mkF m 141 #[.val (.int p1), .val (.int p2), .val (.int p3), .val (.int p4), .val (.int n), .val (.int s1), .val (.int d1), .val (.int s2), .val (.int d2), .val (.ref c1), .val (.ref c2), .val (.ref c3), .val (.ref c4), .val (.ref ra), .val (.ref t), .val (.ref l1), .unset, .unset] [(.int s2), (.ref r2), (.ref r2), (.ref l2), (.ref l2)])) _
      refine XS.iload X13.here hx rfl (hb hby at_141) rfl ?_
      show Steps p.tables e below (T13.setTop (mkF m 143 #[.val (.int p1), .val (.int p2), .val (.int p3), .val (.int p4), .val (.int n), .val (.int s1), .val (.int d1), .val (.int s2), .val (.int d2), .val (.ref c1), .val (.ref c2), .val (.ref c3), .val (.ref c4), .val (.ref ra), .val (.ref t), .val (.ref l1), .unset, .unset] [(.int d2), (.int s2), (.ref r2), (.ref r2), (.ref l2), (.ref l2)])) _
      refine XS.aload X13.here hx rfl (hb hby at_143) rfl rfl ?_
      show Steps p.tables e below (T13.setTop (mkF m 145 #[.val (.int p1), .val (.int p2), .val (.int p3), .val (.int p4), .val (.int n), .val (.int s1), .val (.int d1), .val (.int s2), .val (.int d2), .val (.ref c1), .val (.ref c2), .val (.ref c3), .val (.ref c4), .val (.ref ra), .val (.ref t), .val (.ref l1), .unset, .unset] [(.ref c3), (.int d2), (.int s2), (.ref r2), (.ref r2), (.ref l2), (.ref l2)])) _
      refine XS.iconst X13.here hx rfl (hb hby at_145) ?_
      show Steps p.tables e below (T13.setTop (mkF m 146 #[.val (.int p1), .val (.int p2), .val (.int p3), .val (.int p4), .val (.int n), .val (.int s1), .val (.int d1), .val (.int s2), .val (.int d2), .val (.ref c1), .val (.ref c2), .val (.ref c3), .val (.ref c4), .val (.ref ra), .val (.ref t), .val (.ref l1), .unset, .unset] [(.int (1 : Int32)), (.ref c3), (.int d2), (.int s2), (.ref r2), (.ref r2), (.ref l2), (.ref l2)])) _
      refine XS.aload X13.here hx rfl (hb hby at_146) rfl rfl ?_
      show Steps p.tables e below (T13.setTop (mkF m 148 #[.val (.int p1), .val (.int p2), .val (.int p3), .val (.int p4), .val (.int n), .val (.int s1), .val (.int d1), .val (.int s2), .val (.int d2), .val (.ref c1), .val (.ref c2), .val (.ref c3), .val (.ref c4), .val (.ref ra), .val (.ref t), .val (.ref l1), .unset, .unset] [(.ref c4), (.int (1 : Int32)), (.ref c3), (.int d2), (.int s2), (.ref r2), (.ref r2), (.ref l2), (.ref l2)])) _
      exact k
    obtain ⟨_, _, ⟨T14, L14, k14, n14⟩, -, X14, ⟨Lc14, hQ14, l14, y14, z14⟩, st14⟩ := X13.specialBack hx (y := (⟨"com/example/fragmint/fragmint/model/Route", "<init>", "(II[II[I)V"⟩ : MethodName)) rfl hown (mvT hZ (hw _ (List.mem_of_getElem? (i := 23) rfl))) (mvT hZ (hw _ (List.mem_of_getElem? (i := 24) rfl))) (mvT hZ (hw _ (List.mem_of_getElem? (i := 25) rfl))) (by decide) (backOf (W := 3) (rm4 l Z a0 hw [] r2 s2 d2 c3 (1 : Int32) c4 h13 n0 Z13 F_source_r2 F_destination_r2 F_links_r2 F_slots_r2 F_nodeIds_r2 E_r2 g_r2) hZ (hw _ (List.mem_of_getElem? (i := 25) rfl)) (hw _ (List.mem_of_getElem? (i := 22) rfl)) (by decide) (by decide)) (g := (mkF m 148 #[.val (.int p1), .val (.int p2), .val (.int p3), .val (.int p4), .val (.int n), .val (.int s1), .val (.int d1), .val (.int s2), .val (.int d2), .val (.ref c1), .val (.ref c2), .val (.ref c3), .val (.ref c4), .val (.ref ra), .val (.ref t), .val (.ref l1), .unset, .unset] [(.ref c4), (.int (1 : Int32)), (.ref c3), (.int d2), (.int s2), (.ref r2), (.ref r2), (.ref l2), (.ref l2)])) rfl (by rw [hml]; rfl) (Steps.refl _) (a := r2) (argsL := [(.int s2), (.int d2), (.ref c3), (.int (1 : Int32)), (.ref c4)]) (rest := [(.ref r2), (.ref l2), (.ref l2)]) (lenOf pd_rm0_1 rfl) rfl (by show 2 * 0 + _ ≤ _; exact Nat.le_of_eq rfl) (hb hby at_148) (fun _ _ => ⟨rfl, e13, (by decide : 11 + 0 ≤ _), (by decide : 25 + 0 ≤ _)⟩)
    dsimp only [Pt.U, Pt.locs, Pt.cells, Pt.slots] at X14 l14 y14 z14 st14 hQ14
    subst l14 y14 z14
    obtain ⟨rfl, N14q, Kc14, Ea14, Fa14, Fb14⟩ := hQ14
    have N14 := Fr.app N11 N14q
    have A_ra := A_ra.keep Kc14 (ninS ne_ra_r2 nin0)
    have E_t := E_t.keep Kc14
    have F_perNode_t := F_perNode_t.keep Kc14 (ninS ne_t_r2 nin0)
    have F_busyInAll_t := F_busyInAll_t.keep Kc14 (ninS ne_t_r2 nin0)
    have F_busy_t := F_busy_t.keep Kc14 (ninS ne_t_r2 nin0)
    have A_ba := A_ba.keep Kc14 (ninS ne_ba_r2 nin0)
    have E_r1 := E_r1.keep Kc14
    have F_source_r1 := F_source_r1.keep Kc14 (ninS ne_r1_r2 nin0)
    have F_destination_r1 := F_destination_r1.keep Kc14 (ninS ne_r1_r2 nin0)
    have E_l1 := E_l1.keep Kc14
    have F_route_l1 := F_route_l1.keep Kc14 (ninS ne_l1_r2 nin0)
    have E_l2 := E_l2.keep Kc14
    have F_route_l2 := F_route_l2.keep Kc14 (ninS ne_l2_r2 nin0)
    have F_firstSlot_l2 := F_firstSlot_l2.keep Kc14 (ninS ne_l2_r2 nin0)
    have F_size_l2 := F_size_l2.keep Kc14 (ninS ne_l2_r2 nin0)
    have Z14 : n0 ≤ T14.heap.size := Nat.le_trans Z13 Kc14.1
    refine OEnds.go (t' := T14.setTop (mkF m 151 #[.val (.int p1), .val (.int p2), .val (.int p3), .val (.int p4), .val (.int n), .val (.int s1), .val (.int d1), .val (.int s2), .val (.int d2), .val (.ref c1), .val (.ref c2), .val (.ref c3), .val (.ref c4), .val (.ref ra), .val (.ref t), .val (.ref l1), .unset, .unset] [(.ref r2), (.ref l2), (.ref l2)])) (fun _ k => st14.trans k) ?_
    have E_r2 := Ea14
    have F_source_r2 := Fa14
    have F_destination_r2 := Fb14
    refine OEnds.go (t' := T14.setTop (mkF m 153 #[.val (.int p1), .val (.int p2), .val (.int p3), .val (.int p4), .val (.int n), .val (.int s1), .val (.int d1), .val (.int s2), .val (.int d2), .val (.ref c1), .val (.ref c2), .val (.ref c3), .val (.ref c4), .val (.ref ra), .val (.ref t), .val (.ref l1), .unset, .unset] [(.int (1 : Int32)), (.int (0 : Int32)), (.ref r2), (.ref l2), (.ref l2)])) (fun _ k => ?_) ?_
    · show Steps p.tables e below (T14.setTop (mkF m 151 #[.val (.int p1), .val (.int p2), .val (.int p3), .val (.int p4), .val (.int n), .val (.int s1), .val (.int d1), .val (.int s2), .val (.int d2), .val (.ref c1), .val (.ref c2), .val (.ref c3), .val (.ref c4), .val (.ref ra), .val (.ref t), .val (.ref l1), .unset, .unset] [(.ref r2), (.ref l2), (.ref l2)])) _
      refine XS.iconst X14.here hx rfl (hb hby at_151) ?_
      show Steps p.tables e below (T14.setTop (mkF m 152 #[.val (.int p1), .val (.int p2), .val (.int p3), .val (.int p4), .val (.int n), .val (.int s1), .val (.int d1), .val (.int s2), .val (.int d2), .val (.ref c1), .val (.ref c2), .val (.ref c3), .val (.ref c4), .val (.ref ra), .val (.ref t), .val (.ref l1), .unset, .unset] [(.int (0 : Int32)), (.ref r2), (.ref l2), (.ref l2)])) _
      refine XS.iconst X14.here hx rfl (hb hby at_152) ?_
      show Steps p.tables e below (T14.setTop (mkF m 153 #[.val (.int p1), .val (.int p2), .val (.int p3), .val (.int p4), .val (.int n), .val (.int s1), .val (.int d1), .val (.int s2), .val (.int d2), .val (.ref c1), .val (.ref c2), .val (.ref c3), .val (.ref c4), .val (.ref ra), .val (.ref t), .val (.ref l1), .unset, .unset] [(.int (1 : Int32)), (.int (0 : Int32)), (.ref r2), (.ref l2), (.ref l2)])) _
      exact k
    obtain ⟨_, _, ⟨T15, L15, k15, n15⟩, -, X15, ⟨Lc15, hQ15, l15, y15, z15⟩, st15⟩ := X14.specialBack hx (y := (⟨"com/example/fragmint/fragmint/model/Lightpath", "<init>", "(Lcom/example/fragmint/fragmint/model/Route;II)V"⟩ : MethodName)) rfl hown (mvT hZ (hw _ (List.mem_of_getElem? (i := 37) rfl))) (mvT hZ (hw _ (List.mem_of_getElem? (i := 38) rfl))) (mvT hZ (hw _ (List.mem_of_getElem? (i := 39) rfl))) (by decide) (backOf (W := 1) (rm5 l Z a0 hw [] l2 r2 (0 : Int32) (1 : Int32) T14.heap n0 Z14 F_route_l2 F_firstSlot_l2 F_size_l2 E_l2 g_l2) hZ (hw _ (List.mem_of_getElem? (i := 39) rfl)) (hw _ (List.mem_of_getElem? (i := 19) rfl)) (by decide) (by decide)) (g := (mkF m 153 #[.val (.int p1), .val (.int p2), .val (.int p3), .val (.int p4), .val (.int n), .val (.int s1), .val (.int d1), .val (.int s2), .val (.int d2), .val (.ref c1), .val (.ref c2), .val (.ref c3), .val (.ref c4), .val (.ref ra), .val (.ref t), .val (.ref l1), .unset, .unset] [(.int (1 : Int32)), (.int (0 : Int32)), (.ref r2), (.ref l2), (.ref l2)])) rfl (by rw [hml]; rfl) (Steps.refl _) (a := l2) (argsL := [(.ref r2), (.int (0 : Int32)), (.int (1 : Int32))]) (rest := [(.ref l2)]) (lenOf pd_rm0_2 rfl) rfl (by show 2 * 0 + _ ≤ _; exact Nat.le_of_eq rfl) (hb hby at_153) (fun _ _ => ⟨rfl, rfl, (by decide : 11 + 0 ≤ _), (by decide : 25 + 0 ≤ _)⟩)
    dsimp only [Pt.U, Pt.locs, Pt.cells, Pt.slots] at X15 l15 y15 z15 st15 hQ15
    subst l15 y15 z15
    obtain ⟨rfl, N15q, Kc15, Ea15, Fa15⟩ := hQ15
    have N15 := Fr.app N14 N15q
    have A_ra := A_ra.keep Kc15 (ninS ne_ra_l2 nin0)
    have E_t := E_t.keep Kc15
    have F_perNode_t := F_perNode_t.keep Kc15 (ninS ne_t_l2 nin0)
    have F_busyInAll_t := F_busyInAll_t.keep Kc15 (ninS ne_t_l2 nin0)
    have F_busy_t := F_busy_t.keep Kc15 (ninS ne_t_l2 nin0)
    have A_ba := A_ba.keep Kc15 (ninS ne_ba_l2 nin0)
    have E_r1 := E_r1.keep Kc15
    have F_source_r1 := F_source_r1.keep Kc15 (ninS ne_r1_l2 nin0)
    have F_destination_r1 := F_destination_r1.keep Kc15 (ninS ne_r1_l2 nin0)
    have E_l1 := E_l1.keep Kc15
    have F_route_l1 := F_route_l1.keep Kc15 (ninS ne_l1_l2 nin0)
    have E_r2 := E_r2.keep Kc15
    have F_source_r2 := F_source_r2.keep Kc15 (ninS (Ne.symm ne_l2_r2) nin0)
    have F_destination_r2 := F_destination_r2.keep Kc15 (ninS (Ne.symm ne_l2_r2) nin0)
    have Z15 : n0 ≤ T15.heap.size := Nat.le_trans Z14 Kc15.1
    refine OEnds.go (t' := T15.setTop (mkF m 156 #[.val (.int p1), .val (.int p2), .val (.int p3), .val (.int p4), .val (.int n), .val (.int s1), .val (.int d1), .val (.int s2), .val (.int d2), .val (.ref c1), .val (.ref c2), .val (.ref c3), .val (.ref c4), .val (.ref ra), .val (.ref t), .val (.ref l1), .unset, .unset] [(.ref l2)])) (fun _ k => st15.trans k) ?_
    have E_l2 := Ea15
    have F_route_l2 := Fa15
    refine OEnds.go (t' := T15.setTop (mkF m 158 #[.val (.int p1), .val (.int p2), .val (.int p3), .val (.int p4), .val (.int n), .val (.int s1), .val (.int d1), .val (.int s2), .val (.int d2), .val (.ref c1), .val (.ref c2), .val (.ref c3), .val (.ref c4), .val (.ref ra), .val (.ref t), .val (.ref l1), .val (.ref l2), .unset] [])) (fun _ k => ?_) ?_
    · show Steps p.tables e below (T15.setTop (mkF m 156 #[.val (.int p1), .val (.int p2), .val (.int p3), .val (.int p4), .val (.int n), .val (.int s1), .val (.int d1), .val (.int s2), .val (.int d2), .val (.ref c1), .val (.ref c2), .val (.ref c3), .val (.ref c4), .val (.ref ra), .val (.ref t), .val (.ref l1), .unset, .unset] [(.ref l2)])) _
      refine XS.astore X15.here hx rfl (hb hby at_156) rfl rfl (l' := #[.val (.int p1), .val (.int p2), .val (.int p3), .val (.int p4), .val (.int n), .val (.int s1), .val (.int d1), .val (.int s2), .val (.int d2), .val (.ref c1), .val (.ref c2), .val (.ref c3), .val (.ref c4), .val (.ref ra), .val (.ref t), .val (.ref l1), .val (.ref l2), .unset]) rfl ?_
      show Steps p.tables e below (T15.setTop (mkF m 158 #[.val (.int p1), .val (.int p2), .val (.int p3), .val (.int p4), .val (.int n), .val (.int s1), .val (.int d1), .val (.int s2), .val (.int d2), .val (.ref c1), .val (.ref c2), .val (.ref c3), .val (.ref c4), .val (.ref ra), .val (.ref t), .val (.ref l1), .val (.ref l2), .unset] [])) _
      exact k
    refine OEnds.go (t' := T15.setTop (mkF m 161 #[.val (.int p1), .val (.int p2), .val (.int p3), .val (.int p4), .val (.int n), .val (.int s1), .val (.int d1), .val (.int s2), .val (.int d2), .val (.ref c1), .val (.ref c2), .val (.ref c3), .val (.ref c4), .val (.ref ra), .val (.ref t), .val (.ref l1), .val (.ref l2), .val (.int (0 : Int32))] [])) (fun _ k => ?_) ?_
    · show Steps p.tables e below (T15.setTop (mkF m 158 #[.val (.int p1), .val (.int p2), .val (.int p3), .val (.int p4), .val (.int n), .val (.int s1), .val (.int d1), .val (.int s2), .val (.int d2), .val (.ref c1), .val (.ref c2), .val (.ref c3), .val (.ref c4), .val (.ref ra), .val (.ref t), .val (.ref l1), .val (.ref l2), .unset] [])) _
      refine XS.iconst X15.here hx rfl (hb hby at_158) ?_
      show Steps p.tables e below (T15.setTop (mkF m 159 #[.val (.int p1), .val (.int p2), .val (.int p3), .val (.int p4), .val (.int n), .val (.int s1), .val (.int d1), .val (.int s2), .val (.int d2), .val (.ref c1), .val (.ref c2), .val (.ref c3), .val (.ref c4), .val (.ref ra), .val (.ref t), .val (.ref l1), .val (.ref l2), .unset] [(.int (0 : Int32))])) _
      refine XS.istore X15.here hx rfl (hb hby at_159) rfl (l' := #[.val (.int p1), .val (.int p2), .val (.int p3), .val (.int p4), .val (.int n), .val (.int s1), .val (.int d1), .val (.int s2), .val (.int d2), .val (.ref c1), .val (.ref c2), .val (.ref c3), .val (.ref c4), .val (.ref ra), .val (.ref t), .val (.ref l1), .val (.ref l2), .val (.int (0 : Int32))]) rfl ?_
      show Steps p.tables e below (T15.setTop (mkF m 161 #[.val (.int p1), .val (.int p2), .val (.int p3), .val (.int p4), .val (.int n), .val (.int s1), .val (.int d1), .val (.int s2), .val (.int d2), .val (.ref c1), .val (.ref c2), .val (.ref c3), .val (.ref c4), .val (.ref ra), .val (.ref t), .val (.ref l1), .val (.ref l2), .val (.int (0 : Int32))] [])) _
      exact k
    obtain ⟨kr, hkr⟩ : ∃ kr, kr = k5 := ⟨_, rfl⟩
    rw [← hkr] at A_ra
    refine OEnds.cut (fun En => ∀ (Tc : State) (Tc_l : List Loc) (hc : Heap), Stand p l e room_1 s m #[(.int p1), (.int p2), (.int p3), (.int p4)] below meth c Tc Tc_l 11 25 → Tc.heap = hc → Fr n0 Tc_l → n0 ≤ hc.size → ∀ (f : Int32 → Int32) (q : Int64) (z : Int32), own_A Z hc ra kr f → own_A Z hc ba kb f → Exa Z hc t "com/example/fragmint/fragmint/model/Transponders" → Fld Z hc t "com/example/fragmint/fragmint/model/Transponders" "perNode" "I" (.int n) → Fld Z hc t "com/example/fragmint/fragmint/model/Transponders" "busy" "[I" (.ref ba) → Fld Z hc t "com/example/fragmint/fragmint/model/Transponders" "busyInAll" "J" (.long q) → Exa Z hc l1 "com/example/fragmint/fragmint/model/Lightpath" → Fld Z hc l1 "com/example/fragmint/fragmint/model/Lightpath" "route" "Lcom/example/fragmint/fragmint/model/Route;" (.ref r1) → Exa Z hc r1 "com/example/fragmint/fragmint/model/Route" → Fld Z hc r1 "com/example/fragmint/fragmint/model/Route" "source" "I" (.int s1) → Fld Z hc r1 "com/example/fragmint/fragmint/model/Route" "destination" "I" (.int d1) → Exa Z hc l2 "com/example/fragmint/fragmint/model/Lightpath" → Fld Z hc l2 "com/example/fragmint/fragmint/model/Lightpath" "route" "Lcom/example/fragmint/fragmint/model/Route;" (.ref r2) → Exa Z hc r2 "com/example/fragmint/fragmint/model/Route" → Fld Z hc r2 "com/example/fragmint/fragmint/model/Route" "source" "I" (.int s2) → Fld Z hc r2 "com/example/fragmint/fragmint/model/Route" "destination" "I" (.int d2) → En (Tc.setTop (mkF m 302 #[.val (.int p1), .val (.int p2), .val (.int p3), .val (.int p4), .val (.int n), .val (.int s1), .val (.int d1), .val (.int s2), .val (.int d2), .val (.ref c1), .val (.ref c2), .val (.ref c3), .val (.ref c4), .val (.ref ra), .val (.ref t), .val (.ref l1), .val (.ref l2), .val (.int z)] []))) ?_ (fun K302 => ?_)
    · intro Tc Tc_l hc XTc eTc NTc ZTc f q z A_ra A_ba E_t F_perNode_t F_busy_t F_busyInAll_t E_l1 F_route_l1 E_r1 F_source_r1 F_destination_r1 E_l2 F_route_l2 E_r2 F_source_r2 F_destination_r2 
      refine OEnds.go (t' := Tc.setTop (mkF m 305 #[.val (.int p1), .val (.int p2), .val (.int p3), .val (.int p4), .val (.int n), .val (.int s1), .val (.int d1), .val (.int s2), .val (.int d2), .val (.ref c1), .val (.ref c2), .val (.ref c3), .val (.ref c4), .val (.ref ra), .val (.ref t), .val (.ref l1), .val (.ref l2), .val (.int z)] [(.int (0 : Int32)), (.ref t)])) (fun _ k => ?_) ?_
      · show Steps p.tables e below (Tc.setTop (mkF m 302 #[.val (.int p1), .val (.int p2), .val (.int p3), .val (.int p4), .val (.int n), .val (.int s1), .val (.int d1), .val (.int s2), .val (.int d2), .val (.ref c1), .val (.ref c2), .val (.ref c3), .val (.ref c4), .val (.ref ra), .val (.ref t), .val (.ref l1), .val (.ref l2), .val (.int z)] [])) _
        refine XS.aload XTc.here hx rfl (hb hby at_302) rfl rfl ?_
        show Steps p.tables e below (Tc.setTop (mkF m 304 #[.val (.int p1), .val (.int p2), .val (.int p3), .val (.int p4), .val (.int n), .val (.int s1), .val (.int d1), .val (.int s2), .val (.int d2), .val (.ref c1), .val (.ref c2), .val (.ref c3), .val (.ref c4), .val (.ref ra), .val (.ref t), .val (.ref l1), .val (.ref l2), .val (.int z)] [(.ref t)])) _
        refine XS.iconst XTc.here hx rfl (hb hby at_304) ?_
        show Steps p.tables e below (Tc.setTop (mkF m 305 #[.val (.int p1), .val (.int p2), .val (.int p3), .val (.int p4), .val (.int n), .val (.int s1), .val (.int d1), .val (.int s2), .val (.int d2), .val (.ref c1), .val (.ref c2), .val (.ref c3), .val (.ref c4), .val (.ref ra), .val (.ref t), .val (.ref l1), .val (.ref l2), .val (.int z)] [(.int (0 : Int32)), (.ref t)])) _
        exact k
      obtain ⟨cq16, kq16, q16a, q16b, q16c⟩ := isOf hZ eTc E_t
      obtain ⟨_, _, ⟨T16, L16, k16, n16⟩, -, X16, ⟨Lc16, hQ16, l16, y16, z16⟩, st16⟩ := XTc.virtualBack hx (y := (⟨"com/example/fragmint/fragmint/model/Transponders", "idle", "(I)I"⟩ : MethodName)) (z := (⟨"com/example/fragmint/fragmint/model/Transponders", "idle", "(I)I"⟩ : MethodName)) hown (mvT hZ (hw _ (List.mem_of_getElem? (i := 80) rfl))) (mvT hZ (hw _ (List.mem_of_getElem? (i := 73) rfl))) (notFace_of_selects (args := #[]) (mvT hZ (hw _ (List.mem_of_getElem? (i := 75) rfl)))) (mvT hZ (hw _ (List.mem_of_getElem? (i := 75) rfl))) (mvT hZ (hw _ (List.mem_of_getElem? (i := 74) rfl))) (by decide) (backOf (W := 0) (rm11 l Z a0 hw [] t (0 : Int32) n ba kb f hc n0 ZTc F_perNode_t F_busy_t A_ba (by unfold own_R; decide)) hZ (hw _ (List.mem_of_getElem? (i := 76) rfl)) (hw _ (List.mem_of_getElem? (i := 3) rfl)) (by decide) (by decide)) q16a q16c (g := (mkF m 305 #[.val (.int p1), .val (.int p2), .val (.int p3), .val (.int p4), .val (.int n), .val (.int s1), .val (.int d1), .val (.int s2), .val (.int d2), .val (.ref c1), .val (.ref c2), .val (.ref c3), .val (.ref c4), .val (.ref ra), .val (.ref t), .val (.ref l1), .val (.ref l2), .val (.int z)] [(.int (0 : Int32)), (.ref t)])) rfl (by rw [hml]; rfl) (Steps.refl _) (argsL := [(.int (0 : Int32))]) (rest := []) (lenOf pd_rm0_3 rfl) rfl (by show 2 * 0 + _ ≤ _; exact Nat.le_of_eq rfl) (hb hby at_305) (fun _ _ => ⟨rfl, eTc, (by decide : 11 + 0 ≤ _), (by decide : 25 + 0 ≤ _)⟩)
      dsimp only [Pt.U, Pt.locs, Pt.cells, Pt.slots] at X16 l16 y16 z16 st16 hQ16
      subst l16 y16 z16
      obtain ⟨rfl, N16q, eh⟩ := hQ16
      have N16 := Fr.app NTc N16q
      have eh16 := eh
      refine OEnds.go (t' := T16.setTop (mkF m 308 #[.val (.int p1), .val (.int p2), .val (.int p3), .val (.int p4), .val (.int n), .val (.int s1), .val (.int d1), .val (.int s2), .val (.int d2), .val (.ref c1), .val (.ref c2), .val (.ref c3), .val (.ref c4), .val (.ref ra), .val (.ref t), .val (.ref l1), .val (.ref l2), .val (.int z)] [(.int (n - f (0 : Int32)))])) (fun _ k => st16.trans k) ?_
      refine OEnds.go (t' := T16.setTop (mkF m 313 #[.val (.int p1), .val (.int p2), .val (.int p3), .val (.int p4), .val (.int n), .val (.int s1), .val (.int d1), .val (.int s2), .val (.int d2), .val (.ref c1), .val (.ref c2), .val (.ref c3), .val (.ref c4), .val (.ref ra), .val (.ref t), .val (.ref l1), .val (.ref l2), .val (.int z)] [(.int (0 : Int32)), (.ref ra), (.int n), (.int (n - f (0 : Int32)))])) (fun _ k => ?_) ?_
      · show Steps p.tables e below (T16.setTop (mkF m 308 #[.val (.int p1), .val (.int p2), .val (.int p3), .val (.int p4), .val (.int n), .val (.int s1), .val (.int d1), .val (.int s2), .val (.int d2), .val (.ref c1), .val (.ref c2), .val (.ref c3), .val (.ref c4), .val (.ref ra), .val (.ref t), .val (.ref l1), .val (.ref l2), .val (.int z)] [(.int (n - f (0 : Int32)))])) _
        refine XS.iload X16.here hx rfl (hb hby at_308) rfl ?_
        show Steps p.tables e below (T16.setTop (mkF m 310 #[.val (.int p1), .val (.int p2), .val (.int p3), .val (.int p4), .val (.int n), .val (.int s1), .val (.int d1), .val (.int s2), .val (.int d2), .val (.ref c1), .val (.ref c2), .val (.ref c3), .val (.ref c4), .val (.ref ra), .val (.ref t), .val (.ref l1), .val (.ref l2), .val (.int z)] [(.int n), (.int (n - f (0 : Int32)))])) _
        refine XS.aload X16.here hx rfl (hb hby at_310) rfl rfl ?_
        show Steps p.tables e below (T16.setTop (mkF m 312 #[.val (.int p1), .val (.int p2), .val (.int p3), .val (.int p4), .val (.int n), .val (.int s1), .val (.int d1), .val (.int s2), .val (.int d2), .val (.ref c1), .val (.ref c2), .val (.ref c3), .val (.ref c4), .val (.ref ra), .val (.ref t), .val (.ref l1), .val (.ref l2), .val (.int z)] [(.ref ra), (.int n), (.int (n - f (0 : Int32)))])) _
        refine XS.iconst X16.here hx rfl (hb hby at_312) ?_
        show Steps p.tables e below (T16.setTop (mkF m 313 #[.val (.int p1), .val (.int p2), .val (.int p3), .val (.int p4), .val (.int n), .val (.int s1), .val (.int d1), .val (.int s2), .val (.int d2), .val (.ref c1), .val (.ref c2), .val (.ref c3), .val (.ref c4), .val (.ref ra), .val (.ref t), .val (.ref l1), .val (.ref l2), .val (.int z)] [(.int (0 : Int32)), (.ref ra), (.int n), (.int (n - f (0 : Int32)))])) _
        exact k
      obtain ⟨cl17, Ar17, hin17, hat17⟩ := own_read A_ra (by unfold own_R; decide : own_R 0)
      refine OEnds.go (t' := T16.setTop (mkF m 314 #[.val (.int p1), .val (.int p2), .val (.int p3), .val (.int p4), .val (.int n), .val (.int s1), .val (.int d1), .val (.int s2), .val (.int d2), .val (.ref c1), .val (.ref c2), .val (.ref c3), .val (.ref c4), .val (.ref ra), .val (.ref t), .val (.ref l1), .val (.ref l2), .val (.int z)] [(.int (f (0 : Int32))), (.int n), (.int (n - f (0 : Int32)))])) (fun _ k => X16.iaload hx (j := (0 : Int32)) (v := (.int (f (0 : Int32)))) (by rw [eh16]; exact Ar17.1) (State.isArrayOf_alike hZ.alike Ar17.2.1) Ar17.2.2 hin17 hat17 (g := (mkF m 313 #[.val (.int p1), .val (.int p2), .val (.int p3), .val (.int p4), .val (.int n), .val (.int s1), .val (.int d1), .val (.int s2), .val (.int d2), .val (.ref c1), .val (.ref c2), .val (.ref c3), .val (.ref c4), .val (.ref ra), .val (.ref t), .val (.ref l1), .val (.ref l2), .val (.int z)] [(.int (0 : Int32)), (.ref ra), (.int n), (.int (n - f (0 : Int32)))])) rfl rfl (hb hby at_313) _ k) ?_
      refine OEnds.go (t' := T16.setTop (mkF m 315 #[.val (.int p1), .val (.int p2), .val (.int p3), .val (.int p4), .val (.int n), .val (.int s1), .val (.int d1), .val (.int s2), .val (.int d2), .val (.ref c1), .val (.ref c2), .val (.ref c3), .val (.ref c4), .val (.ref ra), .val (.ref t), .val (.ref l1), .val (.ref l2), .val (.int z)] [(.int (n - (f (0 : Int32)))), (.int (n - f (0 : Int32)))])) (fun _ k => ?_) ?_
      · show Steps p.tables e below (T16.setTop (mkF m 314 #[.val (.int p1), .val (.int p2), .val (.int p3), .val (.int p4), .val (.int n), .val (.int s1), .val (.int d1), .val (.int s2), .val (.int d2), .val (.ref c1), .val (.ref c2), .val (.ref c3), .val (.ref c4), .val (.ref ra), .val (.ref t), .val (.ref l1), .val (.ref l2), .val (.int z)] [(.int (f (0 : Int32))), (.int n), (.int (n - f (0 : Int32)))])) _
        refine XS.isub X16.here hx rfl (hb hby at_314) rfl ?_
        show Steps p.tables e below (T16.setTop (mkF m 315 #[.val (.int p1), .val (.int p2), .val (.int p3), .val (.int p4), .val (.int n), .val (.int s1), .val (.int d1), .val (.int s2), .val (.int d2), .val (.ref c1), .val (.ref c2), .val (.ref c3), .val (.ref c4), .val (.ref ra), .val (.ref t), .val (.ref l1), .val (.ref l2), .val (.int z)] [(.int (n - (f (0 : Int32)))), (.int (n - f (0 : Int32)))])) _
        exact k
      refine OEnds.go (t' := T16.setTop (mkF m 318 #[.val (.int p1), .val (.int p2), .val (.int p3), .val (.int p4), .val (.int n), .val (.int s1), .val (.int d1), .val (.int s2), .val (.int d2), .val (.ref c1), .val (.ref c2), .val (.ref c3), .val (.ref c4), .val (.ref ra), .val (.ref t), .val (.ref l1), .val (.ref l2), .val (.int z)] [])) (fun _ k => XS.icmpNo X16.here hx rfl (hb hby at_315) rfl (teq rfl).2 k) ?_
      refine OEnds.go (t' := T16.setTop (mkF m 321 #[.val (.int p1), .val (.int p2), .val (.int p3), .val (.int p4), .val (.int n), .val (.int s1), .val (.int d1), .val (.int s2), .val (.int d2), .val (.ref c1), .val (.ref c2), .val (.ref c3), .val (.ref c4), .val (.ref ra), .val (.ref t), .val (.ref l1), .val (.ref l2), .val (.int z)] [(.int (1 : Int32)), (.ref t)])) (fun _ k => ?_) ?_
      · show Steps p.tables e below (T16.setTop (mkF m 318 #[.val (.int p1), .val (.int p2), .val (.int p3), .val (.int p4), .val (.int n), .val (.int s1), .val (.int d1), .val (.int s2), .val (.int d2), .val (.ref c1), .val (.ref c2), .val (.ref c3), .val (.ref c4), .val (.ref ra), .val (.ref t), .val (.ref l1), .val (.ref l2), .val (.int z)] [])) _
        refine XS.aload X16.here hx rfl (hb hby at_318) rfl rfl ?_
        show Steps p.tables e below (T16.setTop (mkF m 320 #[.val (.int p1), .val (.int p2), .val (.int p3), .val (.int p4), .val (.int n), .val (.int s1), .val (.int d1), .val (.int s2), .val (.int d2), .val (.ref c1), .val (.ref c2), .val (.ref c3), .val (.ref c4), .val (.ref ra), .val (.ref t), .val (.ref l1), .val (.ref l2), .val (.int z)] [(.ref t)])) _
        refine XS.iconst X16.here hx rfl (hb hby at_320) ?_
        show Steps p.tables e below (T16.setTop (mkF m 321 #[.val (.int p1), .val (.int p2), .val (.int p3), .val (.int p4), .val (.int n), .val (.int s1), .val (.int d1), .val (.int s2), .val (.int d2), .val (.ref c1), .val (.ref c2), .val (.ref c3), .val (.ref c4), .val (.ref ra), .val (.ref t), .val (.ref l1), .val (.ref l2), .val (.int z)] [(.int (1 : Int32)), (.ref t)])) _
        exact k
      obtain ⟨cq18, kq18, q18a, q18b, q18c⟩ := isOf hZ eh16 E_t
      obtain ⟨_, _, ⟨T18, L18, k18, n18⟩, -, X18, ⟨Lc18, hQ18, l18, y18, z18⟩, st18⟩ := X16.virtualBack hx (y := (⟨"com/example/fragmint/fragmint/model/Transponders", "idle", "(I)I"⟩ : MethodName)) (z := (⟨"com/example/fragmint/fragmint/model/Transponders", "idle", "(I)I"⟩ : MethodName)) hown (mvT hZ (hw _ (List.mem_of_getElem? (i := 80) rfl))) (mvT hZ (hw _ (List.mem_of_getElem? (i := 73) rfl))) (notFace_of_selects (args := #[]) (mvT hZ (hw _ (List.mem_of_getElem? (i := 75) rfl)))) (mvT hZ (hw _ (List.mem_of_getElem? (i := 75) rfl))) (mvT hZ (hw _ (List.mem_of_getElem? (i := 74) rfl))) (by decide) (backOf (W := 0) (rm11 l Z a0 hw [] t (1 : Int32) n ba kb f hc n0 ZTc F_perNode_t F_busy_t A_ba (by unfold own_R; decide)) hZ (hw _ (List.mem_of_getElem? (i := 76) rfl)) (hw _ (List.mem_of_getElem? (i := 3) rfl)) (by decide) (by decide)) q18a q18c (g := (mkF m 321 #[.val (.int p1), .val (.int p2), .val (.int p3), .val (.int p4), .val (.int n), .val (.int s1), .val (.int d1), .val (.int s2), .val (.int d2), .val (.ref c1), .val (.ref c2), .val (.ref c3), .val (.ref c4), .val (.ref ra), .val (.ref t), .val (.ref l1), .val (.ref l2), .val (.int z)] [(.int (1 : Int32)), (.ref t)])) rfl (by rw [hml]; rfl) (Steps.refl _) (argsL := [(.int (1 : Int32))]) (rest := []) (lenOf pd_rm0_3 rfl) rfl (by show 2 * 0 + _ ≤ _; exact Nat.le_of_eq rfl) (hb hby at_321) (fun _ _ => ⟨rfl, eh16, (by decide : 11 + 0 ≤ _), (by decide : 25 + 0 ≤ _)⟩)
      dsimp only [Pt.U, Pt.locs, Pt.cells, Pt.slots] at X18 l18 y18 z18 st18 hQ18
      subst l18 y18 z18
      obtain ⟨rfl, N18q, eh⟩ := hQ18
      have N18 := Fr.app N16 N18q
      have eh18 := eh
      refine OEnds.go (t' := T18.setTop (mkF m 324 #[.val (.int p1), .val (.int p2), .val (.int p3), .val (.int p4), .val (.int n), .val (.int s1), .val (.int d1), .val (.int s2), .val (.int d2), .val (.ref c1), .val (.ref c2), .val (.ref c3), .val (.ref c4), .val (.ref ra), .val (.ref t), .val (.ref l1), .val (.ref l2), .val (.int z)] [(.int (n - f (1 : Int32)))])) (fun _ k => st18.trans k) ?_
      refine OEnds.go (t' := T18.setTop (mkF m 329 #[.val (.int p1), .val (.int p2), .val (.int p3), .val (.int p4), .val (.int n), .val (.int s1), .val (.int d1), .val (.int s2), .val (.int d2), .val (.ref c1), .val (.ref c2), .val (.ref c3), .val (.ref c4), .val (.ref ra), .val (.ref t), .val (.ref l1), .val (.ref l2), .val (.int z)] [(.int (1 : Int32)), (.ref ra), (.int n), (.int (n - f (1 : Int32)))])) (fun _ k => ?_) ?_
      · show Steps p.tables e below (T18.setTop (mkF m 324 #[.val (.int p1), .val (.int p2), .val (.int p3), .val (.int p4), .val (.int n), .val (.int s1), .val (.int d1), .val (.int s2), .val (.int d2), .val (.ref c1), .val (.ref c2), .val (.ref c3), .val (.ref c4), .val (.ref ra), .val (.ref t), .val (.ref l1), .val (.ref l2), .val (.int z)] [(.int (n - f (1 : Int32)))])) _
        refine XS.iload X18.here hx rfl (hb hby at_324) rfl ?_
        show Steps p.tables e below (T18.setTop (mkF m 326 #[.val (.int p1), .val (.int p2), .val (.int p3), .val (.int p4), .val (.int n), .val (.int s1), .val (.int d1), .val (.int s2), .val (.int d2), .val (.ref c1), .val (.ref c2), .val (.ref c3), .val (.ref c4), .val (.ref ra), .val (.ref t), .val (.ref l1), .val (.ref l2), .val (.int z)] [(.int n), (.int (n - f (1 : Int32)))])) _
        refine XS.aload X18.here hx rfl (hb hby at_326) rfl rfl ?_
        show Steps p.tables e below (T18.setTop (mkF m 328 #[.val (.int p1), .val (.int p2), .val (.int p3), .val (.int p4), .val (.int n), .val (.int s1), .val (.int d1), .val (.int s2), .val (.int d2), .val (.ref c1), .val (.ref c2), .val (.ref c3), .val (.ref c4), .val (.ref ra), .val (.ref t), .val (.ref l1), .val (.ref l2), .val (.int z)] [(.ref ra), (.int n), (.int (n - f (1 : Int32)))])) _
        refine XS.iconst X18.here hx rfl (hb hby at_328) ?_
        show Steps p.tables e below (T18.setTop (mkF m 329 #[.val (.int p1), .val (.int p2), .val (.int p3), .val (.int p4), .val (.int n), .val (.int s1), .val (.int d1), .val (.int s2), .val (.int d2), .val (.ref c1), .val (.ref c2), .val (.ref c3), .val (.ref c4), .val (.ref ra), .val (.ref t), .val (.ref l1), .val (.ref l2), .val (.int z)] [(.int (1 : Int32)), (.ref ra), (.int n), (.int (n - f (1 : Int32)))])) _
        exact k
      obtain ⟨cl19, Ar19, hin19, hat19⟩ := own_read A_ra (by unfold own_R; decide : own_R 1)
      refine OEnds.go (t' := T18.setTop (mkF m 330 #[.val (.int p1), .val (.int p2), .val (.int p3), .val (.int p4), .val (.int n), .val (.int s1), .val (.int d1), .val (.int s2), .val (.int d2), .val (.ref c1), .val (.ref c2), .val (.ref c3), .val (.ref c4), .val (.ref ra), .val (.ref t), .val (.ref l1), .val (.ref l2), .val (.int z)] [(.int (f (1 : Int32))), (.int n), (.int (n - f (1 : Int32)))])) (fun _ k => X18.iaload hx (j := (1 : Int32)) (v := (.int (f (1 : Int32)))) (by rw [eh18]; exact Ar19.1) (State.isArrayOf_alike hZ.alike Ar19.2.1) Ar19.2.2 hin19 hat19 (g := (mkF m 329 #[.val (.int p1), .val (.int p2), .val (.int p3), .val (.int p4), .val (.int n), .val (.int s1), .val (.int d1), .val (.int s2), .val (.int d2), .val (.ref c1), .val (.ref c2), .val (.ref c3), .val (.ref c4), .val (.ref ra), .val (.ref t), .val (.ref l1), .val (.ref l2), .val (.int z)] [(.int (1 : Int32)), (.ref ra), (.int n), (.int (n - f (1 : Int32)))])) rfl rfl (hb hby at_329) _ k) ?_
      refine OEnds.go (t' := T18.setTop (mkF m 331 #[.val (.int p1), .val (.int p2), .val (.int p3), .val (.int p4), .val (.int n), .val (.int s1), .val (.int d1), .val (.int s2), .val (.int d2), .val (.ref c1), .val (.ref c2), .val (.ref c3), .val (.ref c4), .val (.ref ra), .val (.ref t), .val (.ref l1), .val (.ref l2), .val (.int z)] [(.int (n - (f (1 : Int32)))), (.int (n - f (1 : Int32)))])) (fun _ k => ?_) ?_
      · show Steps p.tables e below (T18.setTop (mkF m 330 #[.val (.int p1), .val (.int p2), .val (.int p3), .val (.int p4), .val (.int n), .val (.int s1), .val (.int d1), .val (.int s2), .val (.int d2), .val (.ref c1), .val (.ref c2), .val (.ref c3), .val (.ref c4), .val (.ref ra), .val (.ref t), .val (.ref l1), .val (.ref l2), .val (.int z)] [(.int (f (1 : Int32))), (.int n), (.int (n - f (1 : Int32)))])) _
        refine XS.isub X18.here hx rfl (hb hby at_330) rfl ?_
        show Steps p.tables e below (T18.setTop (mkF m 331 #[.val (.int p1), .val (.int p2), .val (.int p3), .val (.int p4), .val (.int n), .val (.int s1), .val (.int d1), .val (.int s2), .val (.int d2), .val (.ref c1), .val (.ref c2), .val (.ref c3), .val (.ref c4), .val (.ref ra), .val (.ref t), .val (.ref l1), .val (.ref l2), .val (.int z)] [(.int (n - (f (1 : Int32)))), (.int (n - f (1 : Int32)))])) _
        exact k
      refine OEnds.go (t' := T18.setTop (mkF m 334 #[.val (.int p1), .val (.int p2), .val (.int p3), .val (.int p4), .val (.int n), .val (.int s1), .val (.int d1), .val (.int s2), .val (.int d2), .val (.ref c1), .val (.ref c2), .val (.ref c3), .val (.ref c4), .val (.ref ra), .val (.ref t), .val (.ref l1), .val (.ref l2), .val (.int z)] [])) (fun _ k => XS.icmpNo X18.here hx rfl (hb hby at_331) rfl (teq rfl).2 k) ?_
      refine OEnds.go (t' := T18.setTop (mkF m 337 #[.val (.int p1), .val (.int p2), .val (.int p3), .val (.int p4), .val (.int n), .val (.int s1), .val (.int d1), .val (.int s2), .val (.int d2), .val (.ref c1), .val (.ref c2), .val (.ref c3), .val (.ref c4), .val (.ref ra), .val (.ref t), .val (.ref l1), .val (.ref l2), .val (.int z)] [(.int (2 : Int32)), (.ref t)])) (fun _ k => ?_) ?_
      · show Steps p.tables e below (T18.setTop (mkF m 334 #[.val (.int p1), .val (.int p2), .val (.int p3), .val (.int p4), .val (.int n), .val (.int s1), .val (.int d1), .val (.int s2), .val (.int d2), .val (.ref c1), .val (.ref c2), .val (.ref c3), .val (.ref c4), .val (.ref ra), .val (.ref t), .val (.ref l1), .val (.ref l2), .val (.int z)] [])) _
        refine XS.aload X18.here hx rfl (hb hby at_334) rfl rfl ?_
        show Steps p.tables e below (T18.setTop (mkF m 336 #[.val (.int p1), .val (.int p2), .val (.int p3), .val (.int p4), .val (.int n), .val (.int s1), .val (.int d1), .val (.int s2), .val (.int d2), .val (.ref c1), .val (.ref c2), .val (.ref c3), .val (.ref c4), .val (.ref ra), .val (.ref t), .val (.ref l1), .val (.ref l2), .val (.int z)] [(.ref t)])) _
        refine XS.iconst X18.here hx rfl (hb hby at_336) ?_
        show Steps p.tables e below (T18.setTop (mkF m 337 #[.val (.int p1), .val (.int p2), .val (.int p3), .val (.int p4), .val (.int n), .val (.int s1), .val (.int d1), .val (.int s2), .val (.int d2), .val (.ref c1), .val (.ref c2), .val (.ref c3), .val (.ref c4), .val (.ref ra), .val (.ref t), .val (.ref l1), .val (.ref l2), .val (.int z)] [(.int (2 : Int32)), (.ref t)])) _
        exact k
      obtain ⟨cq20, kq20, q20a, q20b, q20c⟩ := isOf hZ eh18 E_t
      obtain ⟨_, _, ⟨T20, L20, k20, n20⟩, -, X20, ⟨Lc20, hQ20, l20, y20, z20⟩, st20⟩ := X18.virtualBack hx (y := (⟨"com/example/fragmint/fragmint/model/Transponders", "idle", "(I)I"⟩ : MethodName)) (z := (⟨"com/example/fragmint/fragmint/model/Transponders", "idle", "(I)I"⟩ : MethodName)) hown (mvT hZ (hw _ (List.mem_of_getElem? (i := 80) rfl))) (mvT hZ (hw _ (List.mem_of_getElem? (i := 73) rfl))) (notFace_of_selects (args := #[]) (mvT hZ (hw _ (List.mem_of_getElem? (i := 75) rfl)))) (mvT hZ (hw _ (List.mem_of_getElem? (i := 75) rfl))) (mvT hZ (hw _ (List.mem_of_getElem? (i := 74) rfl))) (by decide) (backOf (W := 0) (rm11 l Z a0 hw [] t (2 : Int32) n ba kb f hc n0 ZTc F_perNode_t F_busy_t A_ba (by unfold own_R; decide)) hZ (hw _ (List.mem_of_getElem? (i := 76) rfl)) (hw _ (List.mem_of_getElem? (i := 3) rfl)) (by decide) (by decide)) q20a q20c (g := (mkF m 337 #[.val (.int p1), .val (.int p2), .val (.int p3), .val (.int p4), .val (.int n), .val (.int s1), .val (.int d1), .val (.int s2), .val (.int d2), .val (.ref c1), .val (.ref c2), .val (.ref c3), .val (.ref c4), .val (.ref ra), .val (.ref t), .val (.ref l1), .val (.ref l2), .val (.int z)] [(.int (2 : Int32)), (.ref t)])) rfl (by rw [hml]; rfl) (Steps.refl _) (argsL := [(.int (2 : Int32))]) (rest := []) (lenOf pd_rm0_3 rfl) rfl (by show 2 * 0 + _ ≤ _; exact Nat.le_of_eq rfl) (hb hby at_337) (fun _ _ => ⟨rfl, eh18, (by decide : 11 + 0 ≤ _), (by decide : 25 + 0 ≤ _)⟩)
      dsimp only [Pt.U, Pt.locs, Pt.cells, Pt.slots] at X20 l20 y20 z20 st20 hQ20
      subst l20 y20 z20
      obtain ⟨rfl, N20q, eh⟩ := hQ20
      have N20 := Fr.app N18 N20q
      have eh20 := eh
      refine OEnds.go (t' := T20.setTop (mkF m 340 #[.val (.int p1), .val (.int p2), .val (.int p3), .val (.int p4), .val (.int n), .val (.int s1), .val (.int d1), .val (.int s2), .val (.int d2), .val (.ref c1), .val (.ref c2), .val (.ref c3), .val (.ref c4), .val (.ref ra), .val (.ref t), .val (.ref l1), .val (.ref l2), .val (.int z)] [(.int (n - f (2 : Int32)))])) (fun _ k => st20.trans k) ?_
      refine OEnds.go (t' := T20.setTop (mkF m 345 #[.val (.int p1), .val (.int p2), .val (.int p3), .val (.int p4), .val (.int n), .val (.int s1), .val (.int d1), .val (.int s2), .val (.int d2), .val (.ref c1), .val (.ref c2), .val (.ref c3), .val (.ref c4), .val (.ref ra), .val (.ref t), .val (.ref l1), .val (.ref l2), .val (.int z)] [(.int (2 : Int32)), (.ref ra), (.int n), (.int (n - f (2 : Int32)))])) (fun _ k => ?_) ?_
      · show Steps p.tables e below (T20.setTop (mkF m 340 #[.val (.int p1), .val (.int p2), .val (.int p3), .val (.int p4), .val (.int n), .val (.int s1), .val (.int d1), .val (.int s2), .val (.int d2), .val (.ref c1), .val (.ref c2), .val (.ref c3), .val (.ref c4), .val (.ref ra), .val (.ref t), .val (.ref l1), .val (.ref l2), .val (.int z)] [(.int (n - f (2 : Int32)))])) _
        refine XS.iload X20.here hx rfl (hb hby at_340) rfl ?_
        show Steps p.tables e below (T20.setTop (mkF m 342 #[.val (.int p1), .val (.int p2), .val (.int p3), .val (.int p4), .val (.int n), .val (.int s1), .val (.int d1), .val (.int s2), .val (.int d2), .val (.ref c1), .val (.ref c2), .val (.ref c3), .val (.ref c4), .val (.ref ra), .val (.ref t), .val (.ref l1), .val (.ref l2), .val (.int z)] [(.int n), (.int (n - f (2 : Int32)))])) _
        refine XS.aload X20.here hx rfl (hb hby at_342) rfl rfl ?_
        show Steps p.tables e below (T20.setTop (mkF m 344 #[.val (.int p1), .val (.int p2), .val (.int p3), .val (.int p4), .val (.int n), .val (.int s1), .val (.int d1), .val (.int s2), .val (.int d2), .val (.ref c1), .val (.ref c2), .val (.ref c3), .val (.ref c4), .val (.ref ra), .val (.ref t), .val (.ref l1), .val (.ref l2), .val (.int z)] [(.ref ra), (.int n), (.int (n - f (2 : Int32)))])) _
        refine XS.iconst X20.here hx rfl (hb hby at_344) ?_
        show Steps p.tables e below (T20.setTop (mkF m 345 #[.val (.int p1), .val (.int p2), .val (.int p3), .val (.int p4), .val (.int n), .val (.int s1), .val (.int d1), .val (.int s2), .val (.int d2), .val (.ref c1), .val (.ref c2), .val (.ref c3), .val (.ref c4), .val (.ref ra), .val (.ref t), .val (.ref l1), .val (.ref l2), .val (.int z)] [(.int (2 : Int32)), (.ref ra), (.int n), (.int (n - f (2 : Int32)))])) _
        exact k
      obtain ⟨cl21, Ar21, hin21, hat21⟩ := own_read A_ra (by unfold own_R; decide : own_R 2)
      refine OEnds.go (t' := T20.setTop (mkF m 346 #[.val (.int p1), .val (.int p2), .val (.int p3), .val (.int p4), .val (.int n), .val (.int s1), .val (.int d1), .val (.int s2), .val (.int d2), .val (.ref c1), .val (.ref c2), .val (.ref c3), .val (.ref c4), .val (.ref ra), .val (.ref t), .val (.ref l1), .val (.ref l2), .val (.int z)] [(.int (f (2 : Int32))), (.int n), (.int (n - f (2 : Int32)))])) (fun _ k => X20.iaload hx (j := (2 : Int32)) (v := (.int (f (2 : Int32)))) (by rw [eh20]; exact Ar21.1) (State.isArrayOf_alike hZ.alike Ar21.2.1) Ar21.2.2 hin21 hat21 (g := (mkF m 345 #[.val (.int p1), .val (.int p2), .val (.int p3), .val (.int p4), .val (.int n), .val (.int s1), .val (.int d1), .val (.int s2), .val (.int d2), .val (.ref c1), .val (.ref c2), .val (.ref c3), .val (.ref c4), .val (.ref ra), .val (.ref t), .val (.ref l1), .val (.ref l2), .val (.int z)] [(.int (2 : Int32)), (.ref ra), (.int n), (.int (n - f (2 : Int32)))])) rfl rfl (hb hby at_345) _ k) ?_
      refine OEnds.go (t' := T20.setTop (mkF m 347 #[.val (.int p1), .val (.int p2), .val (.int p3), .val (.int p4), .val (.int n), .val (.int s1), .val (.int d1), .val (.int s2), .val (.int d2), .val (.ref c1), .val (.ref c2), .val (.ref c3), .val (.ref c4), .val (.ref ra), .val (.ref t), .val (.ref l1), .val (.ref l2), .val (.int z)] [(.int (n - (f (2 : Int32)))), (.int (n - f (2 : Int32)))])) (fun _ k => ?_) ?_
      · show Steps p.tables e below (T20.setTop (mkF m 346 #[.val (.int p1), .val (.int p2), .val (.int p3), .val (.int p4), .val (.int n), .val (.int s1), .val (.int d1), .val (.int s2), .val (.int d2), .val (.ref c1), .val (.ref c2), .val (.ref c3), .val (.ref c4), .val (.ref ra), .val (.ref t), .val (.ref l1), .val (.ref l2), .val (.int z)] [(.int (f (2 : Int32))), (.int n), (.int (n - f (2 : Int32)))])) _
        refine XS.isub X20.here hx rfl (hb hby at_346) rfl ?_
        show Steps p.tables e below (T20.setTop (mkF m 347 #[.val (.int p1), .val (.int p2), .val (.int p3), .val (.int p4), .val (.int n), .val (.int s1), .val (.int d1), .val (.int s2), .val (.int d2), .val (.ref c1), .val (.ref c2), .val (.ref c3), .val (.ref c4), .val (.ref ra), .val (.ref t), .val (.ref l1), .val (.ref l2), .val (.int z)] [(.int (n - (f (2 : Int32)))), (.int (n - f (2 : Int32)))])) _
        exact k
      refine OEnds.go (t' := T20.setTop (mkF m 350 #[.val (.int p1), .val (.int p2), .val (.int p3), .val (.int p4), .val (.int n), .val (.int s1), .val (.int d1), .val (.int s2), .val (.int d2), .val (.ref c1), .val (.ref c2), .val (.ref c3), .val (.ref c4), .val (.ref ra), .val (.ref t), .val (.ref l1), .val (.ref l2), .val (.int z)] [])) (fun _ k => XS.icmpNo X20.here hx rfl (hb hby at_347) rfl (teq rfl).2 k) ?_
      refine OEnds.go (t' := T20.setTop (mkF m 355 #[.val (.int p1), .val (.int p2), .val (.int p3), .val (.int p4), .val (.int n), .val (.int s1), .val (.int d1), .val (.int s2), .val (.int d2), .val (.ref c1), .val (.ref c2), .val (.ref c3), .val (.ref c4), .val (.ref ra), .val (.ref t), .val (.ref l1), .val (.ref l2), .val (.int z)] [(.int (1 : Int32))])) (fun _ k => ?_) ?_
      · show Steps p.tables e below (T20.setTop (mkF m 350 #[.val (.int p1), .val (.int p2), .val (.int p3), .val (.int p4), .val (.int n), .val (.int s1), .val (.int d1), .val (.int s2), .val (.int d2), .val (.ref c1), .val (.ref c2), .val (.ref c3), .val (.ref c4), .val (.ref ra), .val (.ref t), .val (.ref l1), .val (.ref l2), .val (.int z)] [])) _
        refine XS.iconst X20.here hx rfl (hb hby at_350) ?_
        show Steps p.tables e below (T20.setTop (mkF m 351 #[.val (.int p1), .val (.int p2), .val (.int p3), .val (.int p4), .val (.int n), .val (.int s1), .val (.int d1), .val (.int s2), .val (.int d2), .val (.ref c1), .val (.ref c2), .val (.ref c3), .val (.ref c4), .val (.ref ra), .val (.ref t), .val (.ref l1), .val (.ref l2), .val (.int z)] [(.int (1 : Int32))])) _
        refine XS.goto X20.here hx rfl (pc0 := 351) (pc' := 355) rfl (hb hby at_351) (by decide) (by decide) ?_
        show Steps p.tables e below (T20.setTop (mkF m 355 #[.val (.int p1), .val (.int p2), .val (.int p3), .val (.int p4), .val (.int n), .val (.int s1), .val (.int d1), .val (.int s2), .val (.int d2), .val (.ref c1), .val (.ref c2), .val (.ref c3), .val (.ref c4), .val (.ref ra), .val (.ref t), .val (.ref l1), .val (.ref l2), .val (.int z)] [(.int (1 : Int32))])) _
        exact k
      refine OEnds.back X20 hlk (v := (some (.int (1 : Int32)))) (fun h => by rw [hrt] at h; cases h) (fun fs hr => ?_) ?_ (by decide) (by decide)
      · exact retN X20 hx (t := .boolean) hrt (by simp) (hb hby at_355) hr
      · show Q0 Z p1 p2 p3 p4  h0 n0 _ T20.heap _
        rw [eh20]
        exact ⟨rfl, N20⟩
    refine OEnds.cut (fun En => ∀ (Tb : State) (Tb_l : List Loc) (hq : Heap), Stand p l e room_1 s m #[(.int p1), (.int p2), (.int p3), (.int p4)] below meth c Tb Tb_l 11 25 → Tb.heap = hq → Fr n0 Tb_l → n0 ≤ hq.size → ∀ (f : Int32 → Int32) (q : Int64) (z : Int32), own_A Z hq ra kr f → own_A Z hq ba kb f → Exa Z hq t "com/example/fragmint/fragmint/model/Transponders" → Fld Z hq t "com/example/fragmint/fragmint/model/Transponders" "perNode" "I" (.int n) → Fld Z hq t "com/example/fragmint/fragmint/model/Transponders" "busy" "[I" (.ref ba) → Fld Z hq t "com/example/fragmint/fragmint/model/Transponders" "busyInAll" "J" (.long q) → Exa Z hq l1 "com/example/fragmint/fragmint/model/Lightpath" → Fld Z hq l1 "com/example/fragmint/fragmint/model/Lightpath" "route" "Lcom/example/fragmint/fragmint/model/Route;" (.ref r1) → Exa Z hq r1 "com/example/fragmint/fragmint/model/Route" → Fld Z hq r1 "com/example/fragmint/fragmint/model/Route" "source" "I" (.int s1) → Fld Z hq r1 "com/example/fragmint/fragmint/model/Route" "destination" "I" (.int d1) → Exa Z hq l2 "com/example/fragmint/fragmint/model/Lightpath" → Fld Z hq l2 "com/example/fragmint/fragmint/model/Lightpath" "route" "Lcom/example/fragmint/fragmint/model/Route;" (.ref r2) → Exa Z hq r2 "com/example/fragmint/fragmint/model/Route" → Fld Z hq r2 "com/example/fragmint/fragmint/model/Route" "source" "I" (.int s2) → Fld Z hq r2 "com/example/fragmint/fragmint/model/Route" "destination" "I" (.int d2) → z = 0 ∨ (¬ f s1 = 0 ∧ ¬ f d1 = 0) → En (Tb.setTop (mkF m 260 #[.val (.int p1), .val (.int p2), .val (.int p3), .val (.int p4), .val (.int n), .val (.int s1), .val (.int d1), .val (.int s2), .val (.int d2), .val (.ref c1), .val (.ref c2), .val (.ref c3), .val (.ref c4), .val (.ref ra), .val (.ref t), .val (.ref l1), .val (.ref l2), .val (.int z)] []))) ?_ (fun K260 => ?_)
    · intro Tb Tb_l hq XTb eTb NTb ZTb f q z A_ra A_ba E_t F_perNode_t F_busy_t F_busyInAll_t E_l1 F_route_l1 E_r1 F_source_r1 F_destination_r1 E_l2 F_route_l2 E_r2 F_source_r2 F_destination_r2 hz
      refine OEnds.go (t' := Tb.setTop (mkF m 262 #[.val (.int p1), .val (.int p2), .val (.int p3), .val (.int p4), .val (.int n), .val (.int s1), .val (.int d1), .val (.int s2), .val (.int d2), .val (.ref c1), .val (.ref c2), .val (.ref c3), .val (.ref c4), .val (.ref ra), .val (.ref t), .val (.ref l1), .val (.ref l2), .val (.int z)] [(.int z)])) (fun _ k => ?_) ?_
      · show Steps p.tables e below (Tb.setTop (mkF m 260 #[.val (.int p1), .val (.int p2), .val (.int p3), .val (.int p4), .val (.int n), .val (.int s1), .val (.int d1), .val (.int s2), .val (.int d2), .val (.ref c1), .val (.ref c2), .val (.ref c3), .val (.ref c4), .val (.ref ra), .val (.ref t), .val (.ref l1), .val (.ref l2), .val (.int z)] [])) _
        refine XS.iload XTb.here hx rfl (hb hby at_260) rfl ?_
        show Steps p.tables e below (Tb.setTop (mkF m 262 #[.val (.int p1), .val (.int p2), .val (.int p3), .val (.int p4), .val (.int n), .val (.int s1), .val (.int d1), .val (.int s2), .val (.int d2), .val (.ref c1), .val (.ref c2), .val (.ref c3), .val (.ref c4), .val (.ref ra), .val (.ref t), .val (.ref l1), .val (.ref l2), .val (.int z)] [(.int z)])) _
        exact k
      by_cases h262 : z = (0 : Int32)
      · refine OEnds.go (t' := Tb.setTop (mkF m 302 #[.val (.int p1), .val (.int p2), .val (.int p3), .val (.int p4), .val (.int n), .val (.int s1), .val (.int d1), .val (.int s2), .val (.int d2), .val (.ref c1), .val (.ref c2), .val (.ref c3), .val (.ref c4), .val (.ref ra), .val (.ref t), .val (.ref l1), .val (.ref l2), .val (.int z)] [])) (fun _ k => XS.ifYes XTb.here hx rfl (pc0 := 262) (pc' := 302) rfl (hb hby at_262) rfl ((if0 _ _).trans (teq h262).1) (by decide) (by decide) k) ?_
        exact K302 _ _ _ XTb eTb NTb ZTb f q z A_ra A_ba E_t F_perNode_t F_busy_t F_busyInAll_t E_l1 F_route_l1 E_r1 F_source_r1 F_destination_r1 E_l2 F_route_l2 E_r2 F_source_r2 F_destination_r2 
      · refine OEnds.go (t' := Tb.setTop (mkF m 265 #[.val (.int p1), .val (.int p2), .val (.int p3), .val (.int p4), .val (.int n), .val (.int s1), .val (.int d1), .val (.int s2), .val (.int d2), .val (.ref c1), .val (.ref c2), .val (.ref c3), .val (.ref c4), .val (.ref ra), .val (.ref t), .val (.ref l1), .val (.ref l2), .val (.int z)] [])) (fun _ k => XS.ifNo XTb.here hx rfl (hb hby at_262) rfl ((if0 _ _).trans (feq h262).1) k) ?_
        refine OEnds.go (t' := Tb.setTop (mkF m 268 #[.val (.int p1), .val (.int p2), .val (.int p3), .val (.int p4), .val (.int n), .val (.int s1), .val (.int d1), .val (.int s2), .val (.int d2), .val (.ref c1), .val (.ref c2), .val (.ref c3), .val (.ref c4), .val (.ref ra), .val (.ref t), .val (.ref l1), .val (.ref l2), .val (.int z)] [(.int (p4 &&& (4 : Int32)))])) (fun _ k => ?_) ?_
        · show Steps p.tables e below (Tb.setTop (mkF m 265 #[.val (.int p1), .val (.int p2), .val (.int p3), .val (.int p4), .val (.int n), .val (.int s1), .val (.int d1), .val (.int s2), .val (.int d2), .val (.ref c1), .val (.ref c2), .val (.ref c3), .val (.ref c4), .val (.ref ra), .val (.ref t), .val (.ref l1), .val (.ref l2), .val (.int z)] [])) _
          refine XS.iloadN XTb.here hx rfl (hb hby at_265) rfl ?_
          show Steps p.tables e below (Tb.setTop (mkF m 266 #[.val (.int p1), .val (.int p2), .val (.int p3), .val (.int p4), .val (.int n), .val (.int s1), .val (.int d1), .val (.int s2), .val (.int d2), .val (.ref c1), .val (.ref c2), .val (.ref c3), .val (.ref c4), .val (.ref ra), .val (.ref t), .val (.ref l1), .val (.ref l2), .val (.int z)] [(.int p4)])) _
          refine XS.iconst XTb.here hx rfl (hb hby at_266) ?_
          show Steps p.tables e below (Tb.setTop (mkF m 267 #[.val (.int p1), .val (.int p2), .val (.int p3), .val (.int p4), .val (.int n), .val (.int s1), .val (.int d1), .val (.int s2), .val (.int d2), .val (.ref c1), .val (.ref c2), .val (.ref c3), .val (.ref c4), .val (.ref ra), .val (.ref t), .val (.ref l1), .val (.ref l2), .val (.int z)] [(.int (4 : Int32)), (.int p4)])) _
          refine XS.iand XTb.here hx rfl (hb hby at_267) rfl ?_
          show Steps p.tables e below (Tb.setTop (mkF m 268 #[.val (.int p1), .val (.int p2), .val (.int p3), .val (.int p4), .val (.int n), .val (.int s1), .val (.int d1), .val (.int s2), .val (.int d2), .val (.ref c1), .val (.ref c2), .val (.ref c3), .val (.ref c4), .val (.ref ra), .val (.ref t), .val (.ref l1), .val (.ref l2), .val (.int z)] [(.int (p4 &&& (4 : Int32)))])) _
          exact k
        by_cases h268 : (p4 &&& (4 : Int32)) = (0 : Int32)
        · refine OEnds.go (t' := Tb.setTop (mkF m 302 #[.val (.int p1), .val (.int p2), .val (.int p3), .val (.int p4), .val (.int n), .val (.int s1), .val (.int d1), .val (.int s2), .val (.int d2), .val (.ref c1), .val (.ref c2), .val (.ref c3), .val (.ref c4), .val (.ref ra), .val (.ref t), .val (.ref l1), .val (.ref l2), .val (.int z)] [])) (fun _ k => XS.ifYes XTb.here hx rfl (pc0 := 268) (pc' := 302) rfl (hb hby at_268) rfl ((if0 _ _).trans (teq h268).1) (by decide) (by decide) k) ?_
          exact K302 _ _ _ XTb eTb NTb ZTb f q z A_ra A_ba E_t F_perNode_t F_busy_t F_busyInAll_t E_l1 F_route_l1 E_r1 F_source_r1 F_destination_r1 E_l2 F_route_l2 E_r2 F_source_r2 F_destination_r2 
        · refine OEnds.go (t' := Tb.setTop (mkF m 271 #[.val (.int p1), .val (.int p2), .val (.int p3), .val (.int p4), .val (.int n), .val (.int s1), .val (.int d1), .val (.int s2), .val (.int d2), .val (.ref c1), .val (.ref c2), .val (.ref c3), .val (.ref c4), .val (.ref ra), .val (.ref t), .val (.ref l1), .val (.ref l2), .val (.int z)] [])) (fun _ k => XS.ifNo XTb.here hx rfl (hb hby at_268) rfl ((if0 _ _).trans (feq h268).1) k) ?_
          have hz2 := hz.resolve_left h262
          refine OEnds.go (t' := Tb.setTop (mkF m 275 #[.val (.int p1), .val (.int p2), .val (.int p3), .val (.int p4), .val (.int n), .val (.int s1), .val (.int d1), .val (.int s2), .val (.int d2), .val (.ref c1), .val (.ref c2), .val (.ref c3), .val (.ref c4), .val (.ref ra), .val (.ref t), .val (.ref l1), .val (.ref l2), .val (.int z)] [(.ref l1), (.ref t)])) (fun _ k => ?_) ?_
          · show Steps p.tables e below (Tb.setTop (mkF m 271 #[.val (.int p1), .val (.int p2), .val (.int p3), .val (.int p4), .val (.int n), .val (.int s1), .val (.int d1), .val (.int s2), .val (.int d2), .val (.ref c1), .val (.ref c2), .val (.ref c3), .val (.ref c4), .val (.ref ra), .val (.ref t), .val (.ref l1), .val (.ref l2), .val (.int z)] [])) _
            refine XS.aload XTb.here hx rfl (hb hby at_271) rfl rfl ?_
            show Steps p.tables e below (Tb.setTop (mkF m 273 #[.val (.int p1), .val (.int p2), .val (.int p3), .val (.int p4), .val (.int n), .val (.int s1), .val (.int d1), .val (.int s2), .val (.int d2), .val (.ref c1), .val (.ref c2), .val (.ref c3), .val (.ref c4), .val (.ref ra), .val (.ref t), .val (.ref l1), .val (.ref l2), .val (.int z)] [(.ref t)])) _
            refine XS.aload XTb.here hx rfl (hb hby at_273) rfl rfl ?_
            show Steps p.tables e below (Tb.setTop (mkF m 275 #[.val (.int p1), .val (.int p2), .val (.int p3), .val (.int p4), .val (.int n), .val (.int s1), .val (.int d1), .val (.int s2), .val (.int d2), .val (.ref c1), .val (.ref c2), .val (.ref c3), .val (.ref c4), .val (.ref ra), .val (.ref t), .val (.ref l1), .val (.ref l2), .val (.int z)] [(.ref l1), (.ref t)])) _
            exact k
          obtain ⟨cq22, kq22, q22a, q22b, q22c⟩ := isOf hZ eTb E_t
          obtain ⟨_, _, ⟨T22, L22, k22, n22⟩, -, X22, ⟨Lc22, hQ22, l22, y22, z22⟩, st22⟩ := XTb.virtualBack hx (y := (⟨"com/example/fragmint/fragmint/model/Transponders", "release", "(Lcom/example/fragmint/fragmint/model/Lightpath;)V"⟩ : MethodName)) (z := (⟨"com/example/fragmint/fragmint/model/Transponders", "release", "(Lcom/example/fragmint/fragmint/model/Lightpath;)V"⟩ : MethodName)) hown (mvT hZ (hw _ (List.mem_of_getElem? (i := 85) rfl))) (mvT hZ (hw _ (List.mem_of_getElem? (i := 86) rfl))) (notFace_of_selects (args := #[]) (mvT hZ (hw _ (List.mem_of_getElem? (i := 88) rfl)))) (mvT hZ (hw _ (List.mem_of_getElem? (i := 88) rfl))) (mvT hZ (hw _ (List.mem_of_getElem? (i := 87) rfl))) (by decide) (backOf (W := 0) (rm13 l Z a0 hw [] t l1 r1 s1 d1 n q ba kb f hq n0 ZTb F_route_l1 E_l1 E_r1 F_source_r1 F_destination_r1 E_t F_perNode_t F_busy_t F_busyInAll_t A_ba hR_s1 hR_d1 hz2.1 hz2.2 g_t g_ba ne_t_ba) hZ (hw _ (List.mem_of_getElem? (i := 89) rfl)) (hw _ (List.mem_of_getElem? (i := 3) rfl)) (by decide) (by decide)) q22a q22c (g := (mkF m 275 #[.val (.int p1), .val (.int p2), .val (.int p3), .val (.int p4), .val (.int n), .val (.int s1), .val (.int d1), .val (.int s2), .val (.int d2), .val (.ref c1), .val (.ref c2), .val (.ref c3), .val (.ref c4), .val (.ref ra), .val (.ref t), .val (.ref l1), .val (.ref l2), .val (.int z)] [(.ref l1), (.ref t)])) rfl (by rw [hml]; rfl) (Steps.refl _) (argsL := [(.ref l1)]) (rest := []) (lenOf pd_rm0_4 rfl) rfl (by show 2 * 0 + _ ≤ _; exact Nat.le_of_eq rfl) (hb hby at_275) (fun _ _ => ⟨rfl, eTb, (by decide : 11 + 0 ≤ _), (by decide : 25 + 0 ≤ _)⟩)
          dsimp only [Pt.U, Pt.locs, Pt.cells, Pt.slots] at X22 l22 y22 z22 st22 hQ22
          subst l22 y22 z22
          obtain ⟨rfl, N22q, Kc22, Aa22, Ea22, Fa22, Fb22, Fc22⟩ := hQ22
          have N22 := Fr.app NTb N22q
          have A_ra := A_ra.keep Kc22 (ninS ne_ra_t (ninS ne_ra_ba nin0))
          have E_l1 := E_l1.keep Kc22
          have F_route_l1 := F_route_l1.keep Kc22 (ninS (Ne.symm ne_t_l1) (ninS (Ne.symm ne_ba_l1) nin0))
          have E_r1 := E_r1.keep Kc22
          have F_source_r1 := F_source_r1.keep Kc22 (ninS (Ne.symm ne_t_r1) (ninS (Ne.symm ne_ba_r1) nin0))
          have F_destination_r1 := F_destination_r1.keep Kc22 (ninS (Ne.symm ne_t_r1) (ninS (Ne.symm ne_ba_r1) nin0))
          have E_l2 := E_l2.keep Kc22
          have F_route_l2 := F_route_l2.keep Kc22 (ninS (Ne.symm ne_t_l2) (ninS (Ne.symm ne_ba_l2) nin0))
          have E_r2 := E_r2.keep Kc22
          have F_source_r2 := F_source_r2.keep Kc22 (ninS (Ne.symm ne_t_r2) (ninS (Ne.symm ne_ba_r2) nin0))
          have F_destination_r2 := F_destination_r2.keep Kc22 (ninS (Ne.symm ne_t_r2) (ninS (Ne.symm ne_ba_r2) nin0))
          have Z22 : n0 ≤ T22.heap.size := Nat.le_trans ZTb Kc22.1
          refine OEnds.go (t' := T22.setTop (mkF m 278 #[.val (.int p1), .val (.int p2), .val (.int p3), .val (.int p4), .val (.int n), .val (.int s1), .val (.int d1), .val (.int s2), .val (.int d2), .val (.ref c1), .val (.ref c2), .val (.ref c3), .val (.ref c4), .val (.ref ra), .val (.ref t), .val (.ref l1), .val (.ref l2), .val (.int z)] [])) (fun _ k => st22.trans k) ?_
          have A_ba := Aa22
          have E_t := Ea22
          have F_perNode_t := Fa22
          have F_busy_t := Fb22
          have F_busyInAll_t := Fc22
          refine OEnds.go (t' := T22.setTop (mkF m 286 #[.val (.int p1), .val (.int p2), .val (.int p3), .val (.int p4), .val (.int n), .val (.int s1), .val (.int d1), .val (.int s2), .val (.int d2), .val (.ref c1), .val (.ref c2), .val (.ref c3), .val (.ref c4), .val (.ref ra), .val (.ref t), .val (.ref l1), .val (.ref l2), .val (.int z)] [(.int s1), (.ref ra), (.int s1), (.ref ra)])) (fun _ k => ?_) ?_
          · show Steps p.tables e below (T22.setTop (mkF m 278 #[.val (.int p1), .val (.int p2), .val (.int p3), .val (.int p4), .val (.int n), .val (.int s1), .val (.int d1), .val (.int s2), .val (.int d2), .val (.ref c1), .val (.ref c2), .val (.ref c3), .val (.ref c4), .val (.ref ra), .val (.ref t), .val (.ref l1), .val (.ref l2), .val (.int z)] [])) _
            refine XS.aload X22.here hx rfl (hb hby at_278) rfl rfl ?_
            show Steps p.tables e below (T22.setTop (mkF m 280 #[.val (.int p1), .val (.int p2), .val (.int p3), .val (.int p4), .val (.int n), .val (.int s1), .val (.int d1), .val (.int s2), .val (.int d2), .val (.ref c1), .val (.ref c2), .val (.ref c3), .val (.ref c4), .val (.ref ra), .val (.ref t), .val (.ref l1), .val (.ref l2), .val (.int z)] [(.ref ra)])) _
            refine XS.iload X22.here hx rfl (hb hby at_280) rfl ?_
            show Steps p.tables e below (T22.setTop (mkF m 282 #[.val (.int p1), .val (.int p2), .val (.int p3), .val (.int p4), .val (.int n), .val (.int s1), .val (.int d1), .val (.int s2), .val (.int d2), .val (.ref c1), .val (.ref c2), .val (.ref c3), .val (.ref c4), .val (.ref ra), .val (.ref t), .val (.ref l1), .val (.ref l2), .val (.int z)] [(.int s1), (.ref ra)])) _
            refine XS.aload X22.here hx rfl (hb hby at_282) rfl rfl ?_
            show Steps p.tables e below (T22.setTop (mkF m 284 #[.val (.int p1), .val (.int p2), .val (.int p3), .val (.int p4), .val (.int n), .val (.int s1), .val (.int d1), .val (.int s2), .val (.int d2), .val (.ref c1), .val (.ref c2), .val (.ref c3), .val (.ref c4), .val (.ref ra), .val (.ref t), .val (.ref l1), .val (.ref l2), .val (.int z)] [(.ref ra), (.int s1), (.ref ra)])) _
            refine XS.iload X22.here hx rfl (hb hby at_284) rfl ?_
            show Steps p.tables e below (T22.setTop (mkF m 286 #[.val (.int p1), .val (.int p2), .val (.int p3), .val (.int p4), .val (.int n), .val (.int s1), .val (.int d1), .val (.int s2), .val (.int d2), .val (.ref c1), .val (.ref c2), .val (.ref c3), .val (.ref c4), .val (.ref ra), .val (.ref t), .val (.ref l1), .val (.ref l2), .val (.int z)] [(.int s1), (.ref ra), (.int s1), (.ref ra)])) _
            exact k
          obtain ⟨cl23, Ar23, hin23, hat23⟩ := own_read A_ra hR_s1
          refine OEnds.go (t' := T22.setTop (mkF m 287 #[.val (.int p1), .val (.int p2), .val (.int p3), .val (.int p4), .val (.int n), .val (.int s1), .val (.int d1), .val (.int s2), .val (.int d2), .val (.ref c1), .val (.ref c2), .val (.ref c3), .val (.ref c4), .val (.ref ra), .val (.ref t), .val (.ref l1), .val (.ref l2), .val (.int z)] [(.int (f s1)), (.int s1), (.ref ra)])) (fun _ k => X22.iaload hx (j := s1) (v := (.int (f s1))) Ar23.1 (State.isArrayOf_alike hZ.alike Ar23.2.1) Ar23.2.2 hin23 hat23 (g := (mkF m 286 #[.val (.int p1), .val (.int p2), .val (.int p3), .val (.int p4), .val (.int n), .val (.int s1), .val (.int d1), .val (.int s2), .val (.int d2), .val (.ref c1), .val (.ref c2), .val (.ref c3), .val (.ref c4), .val (.ref ra), .val (.ref t), .val (.ref l1), .val (.ref l2), .val (.int z)] [(.int s1), (.ref ra), (.int s1), (.ref ra)])) rfl rfl (hb hby at_286) _ k) ?_
          refine OEnds.go (t' := T22.setTop (mkF m 289 #[.val (.int p1), .val (.int p2), .val (.int p3), .val (.int p4), .val (.int n), .val (.int s1), .val (.int d1), .val (.int s2), .val (.int d2), .val (.ref c1), .val (.ref c2), .val (.ref c3), .val (.ref c4), .val (.ref ra), .val (.ref t), .val (.ref l1), .val (.ref l2), .val (.int z)] [(.int ((f s1) - (1 : Int32))), (.int s1), (.ref ra)])) (fun _ k => ?_) ?_
          · show Steps p.tables e below (T22.setTop (mkF m 287 #[.val (.int p1), .val (.int p2), .val (.int p3), .val (.int p4), .val (.int n), .val (.int s1), .val (.int d1), .val (.int s2), .val (.int d2), .val (.ref c1), .val (.ref c2), .val (.ref c3), .val (.ref c4), .val (.ref ra), .val (.ref t), .val (.ref l1), .val (.ref l2), .val (.int z)] [(.int (f s1)), (.int s1), (.ref ra)])) _
            refine XS.iconst X22.here hx rfl (hb hby at_287) ?_
            show Steps p.tables e below (T22.setTop (mkF m 288 #[.val (.int p1), .val (.int p2), .val (.int p3), .val (.int p4), .val (.int n), .val (.int s1), .val (.int d1), .val (.int s2), .val (.int d2), .val (.ref c1), .val (.ref c2), .val (.ref c3), .val (.ref c4), .val (.ref ra), .val (.ref t), .val (.ref l1), .val (.ref l2), .val (.int z)] [(.int (1 : Int32)), (.int (f s1)), (.int s1), (.ref ra)])) _
            refine XS.isub X22.here hx rfl (hb hby at_288) rfl ?_
            show Steps p.tables e below (T22.setTop (mkF m 289 #[.val (.int p1), .val (.int p2), .val (.int p3), .val (.int p4), .val (.int n), .val (.int s1), .val (.int d1), .val (.int s2), .val (.int d2), .val (.ref c1), .val (.ref c2), .val (.ref c3), .val (.ref c4), .val (.ref ra), .val (.ref t), .val (.ref l1), .val (.ref l2), .val (.int z)] [(.int ((f s1) - (1 : Int32))), (.int s1), (.ref ra)])) _
            exact k
          obtain ⟨cl24, Ar24, hin24, -⟩ := own_read A_ra hR_s1
          obtain ⟨T24, h24, X24, e24, W24, st24⟩ := stI X22 hx hZ rfl Ar24 (j := s1) hin24 (g := (mkF m 289 #[.val (.int p1), .val (.int p2), .val (.int p3), .val (.int p4), .val (.int n), .val (.int s1), .val (.int d1), .val (.int s2), .val (.int d2), .val (.ref c1), .val (.ref c2), .val (.ref c3), .val (.ref c4), .val (.ref ra), .val (.ref t), .val (.ref l1), .val (.ref l2), .val (.int z)] [(.int ((f s1) - (1 : Int32))), (.int s1), (.ref ra)])) rfl rfl (hb hby at_289)
          have N24 := Fr.snoc X24 N22 g_ra
          have E_l1 := E_l1.wr W24
          have F_route_l1 := F_route_l1.other W24 (Or.inl (Ne.symm ne_ra_l1))
          have E_r1 := E_r1.wr W24
          have F_source_r1 := F_source_r1.other W24 (Or.inl (Ne.symm ne_ra_r1))
          have F_destination_r1 := F_destination_r1.other W24 (Or.inl (Ne.symm ne_ra_r1))
          have E_l2 := E_l2.wr W24
          have F_route_l2 := F_route_l2.other W24 (Or.inl (Ne.symm ne_ra_l2))
          have E_r2 := E_r2.wr W24
          have F_source_r2 := F_source_r2.other W24 (Or.inl (Ne.symm ne_ra_r2))
          have F_destination_r2 := F_destination_r2.other W24 (Or.inl (Ne.symm ne_ra_r2))
          have A_ba := A_ba.other W24 (Ne.symm ne_ra_ba)
          have E_t := E_t.wr W24
          have F_perNode_t := F_perNode_t.other W24 (Or.inl (Ne.symm ne_ra_t))
          have F_busy_t := F_busy_t.other W24 (Or.inl (Ne.symm ne_ra_t))
          have F_busyInAll_t := F_busyInAll_t.other W24 (Or.inl (Ne.symm ne_ra_t))
          have Z24 : n0 ≤ h24.size := Nat.le_trans Z22 (Keep.of_wr W24).1
          have A_ra := own_write A_ra hR_s1 W24
          refine OEnds.go (t' := T24.setTop (mkF m 290 #[.val (.int p1), .val (.int p2), .val (.int p3), .val (.int p4), .val (.int n), .val (.int s1), .val (.int d1), .val (.int s2), .val (.int d2), .val (.ref c1), .val (.ref c2), .val (.ref c3), .val (.ref c4), .val (.ref ra), .val (.ref t), .val (.ref l1), .val (.ref l2), .val (.int z)] [])) (fun _ k => st24 _ k) ?_
          refine OEnds.go (t' := T24.setTop (mkF m 298 #[.val (.int p1), .val (.int p2), .val (.int p3), .val (.int p4), .val (.int n), .val (.int s1), .val (.int d1), .val (.int s2), .val (.int d2), .val (.ref c1), .val (.ref c2), .val (.ref c3), .val (.ref c4), .val (.ref ra), .val (.ref t), .val (.ref l1), .val (.ref l2), .val (.int z)] [(.int d1), (.ref ra), (.int d1), (.ref ra)])) (fun _ k => ?_) ?_
          · show Steps p.tables e below (T24.setTop (mkF m 290 #[.val (.int p1), .val (.int p2), .val (.int p3), .val (.int p4), .val (.int n), .val (.int s1), .val (.int d1), .val (.int s2), .val (.int d2), .val (.ref c1), .val (.ref c2), .val (.ref c3), .val (.ref c4), .val (.ref ra), .val (.ref t), .val (.ref l1), .val (.ref l2), .val (.int z)] [])) _
            refine XS.aload X24.here hx rfl (hb hby at_290) rfl rfl ?_
            show Steps p.tables e below (T24.setTop (mkF m 292 #[.val (.int p1), .val (.int p2), .val (.int p3), .val (.int p4), .val (.int n), .val (.int s1), .val (.int d1), .val (.int s2), .val (.int d2), .val (.ref c1), .val (.ref c2), .val (.ref c3), .val (.ref c4), .val (.ref ra), .val (.ref t), .val (.ref l1), .val (.ref l2), .val (.int z)] [(.ref ra)])) _
            refine XS.iload X24.here hx rfl (hb hby at_292) rfl ?_
            show Steps p.tables e below (T24.setTop (mkF m 294 #[.val (.int p1), .val (.int p2), .val (.int p3), .val (.int p4), .val (.int n), .val (.int s1), .val (.int d1), .val (.int s2), .val (.int d2), .val (.ref c1), .val (.ref c2), .val (.ref c3), .val (.ref c4), .val (.ref ra), .val (.ref t), .val (.ref l1), .val (.ref l2), .val (.int z)] [(.int d1), (.ref ra)])) _
            refine XS.aload X24.here hx rfl (hb hby at_294) rfl rfl ?_
            show Steps p.tables e below (T24.setTop (mkF m 296 #[.val (.int p1), .val (.int p2), .val (.int p3), .val (.int p4), .val (.int n), .val (.int s1), .val (.int d1), .val (.int s2), .val (.int d2), .val (.ref c1), .val (.ref c2), .val (.ref c3), .val (.ref c4), .val (.ref ra), .val (.ref t), .val (.ref l1), .val (.ref l2), .val (.int z)] [(.ref ra), (.int d1), (.ref ra)])) _
            refine XS.iload X24.here hx rfl (hb hby at_296) rfl ?_
            show Steps p.tables e below (T24.setTop (mkF m 298 #[.val (.int p1), .val (.int p2), .val (.int p3), .val (.int p4), .val (.int n), .val (.int s1), .val (.int d1), .val (.int s2), .val (.int d2), .val (.ref c1), .val (.ref c2), .val (.ref c3), .val (.ref c4), .val (.ref ra), .val (.ref t), .val (.ref l1), .val (.ref l2), .val (.int z)] [(.int d1), (.ref ra), (.int d1), (.ref ra)])) _
            exact k
          obtain ⟨cl25, Ar25, hin25, hat25⟩ := own_read A_ra hR_d1
          refine OEnds.go (t' := T24.setTop (mkF m 299 #[.val (.int p1), .val (.int p2), .val (.int p3), .val (.int p4), .val (.int n), .val (.int s1), .val (.int d1), .val (.int s2), .val (.int d2), .val (.ref c1), .val (.ref c2), .val (.ref c3), .val (.ref c4), .val (.ref ra), .val (.ref t), .val (.ref l1), .val (.ref l2), .val (.int z)] [(.int (own_upd f s1 (f s1 - 1) d1)), (.int d1), (.ref ra)])) (fun _ k => X24.iaload hx (j := d1) (v := (.int (own_upd f s1 (f s1 - 1) d1))) (by rw [e24]; exact Ar25.1) (State.isArrayOf_alike hZ.alike Ar25.2.1) Ar25.2.2 hin25 hat25 (g := (mkF m 298 #[.val (.int p1), .val (.int p2), .val (.int p3), .val (.int p4), .val (.int n), .val (.int s1), .val (.int d1), .val (.int s2), .val (.int d2), .val (.ref c1), .val (.ref c2), .val (.ref c3), .val (.ref c4), .val (.ref ra), .val (.ref t), .val (.ref l1), .val (.ref l2), .val (.int z)] [(.int d1), (.ref ra), (.int d1), (.ref ra)])) rfl rfl (hb hby at_298) _ k) ?_
          refine OEnds.go (t' := T24.setTop (mkF m 301 #[.val (.int p1), .val (.int p2), .val (.int p3), .val (.int p4), .val (.int n), .val (.int s1), .val (.int d1), .val (.int s2), .val (.int d2), .val (.ref c1), .val (.ref c2), .val (.ref c3), .val (.ref c4), .val (.ref ra), .val (.ref t), .val (.ref l1), .val (.ref l2), .val (.int z)] [(.int ((own_upd f s1 (f s1 - 1) d1) - (1 : Int32))), (.int d1), (.ref ra)])) (fun _ k => ?_) ?_
          · show Steps p.tables e below (T24.setTop (mkF m 299 #[.val (.int p1), .val (.int p2), .val (.int p3), .val (.int p4), .val (.int n), .val (.int s1), .val (.int d1), .val (.int s2), .val (.int d2), .val (.ref c1), .val (.ref c2), .val (.ref c3), .val (.ref c4), .val (.ref ra), .val (.ref t), .val (.ref l1), .val (.ref l2), .val (.int z)] [(.int (own_upd f s1 (f s1 - 1) d1)), (.int d1), (.ref ra)])) _
            refine XS.iconst X24.here hx rfl (hb hby at_299) ?_
            show Steps p.tables e below (T24.setTop (mkF m 300 #[.val (.int p1), .val (.int p2), .val (.int p3), .val (.int p4), .val (.int n), .val (.int s1), .val (.int d1), .val (.int s2), .val (.int d2), .val (.ref c1), .val (.ref c2), .val (.ref c3), .val (.ref c4), .val (.ref ra), .val (.ref t), .val (.ref l1), .val (.ref l2), .val (.int z)] [(.int (1 : Int32)), (.int (own_upd f s1 (f s1 - 1) d1)), (.int d1), (.ref ra)])) _
            refine XS.isub X24.here hx rfl (hb hby at_300) rfl ?_
            show Steps p.tables e below (T24.setTop (mkF m 301 #[.val (.int p1), .val (.int p2), .val (.int p3), .val (.int p4), .val (.int n), .val (.int s1), .val (.int d1), .val (.int s2), .val (.int d2), .val (.ref c1), .val (.ref c2), .val (.ref c3), .val (.ref c4), .val (.ref ra), .val (.ref t), .val (.ref l1), .val (.ref l2), .val (.int z)] [(.int ((own_upd f s1 (f s1 - 1) d1) - (1 : Int32))), (.int d1), (.ref ra)])) _
            exact k
          obtain ⟨cl26, Ar26, hin26, -⟩ := own_read A_ra hR_d1
          obtain ⟨T26, h26, X26, e26, W26, st26⟩ := stI X24 hx hZ e24 Ar26 (j := d1) hin26 (g := (mkF m 301 #[.val (.int p1), .val (.int p2), .val (.int p3), .val (.int p4), .val (.int n), .val (.int s1), .val (.int d1), .val (.int s2), .val (.int d2), .val (.ref c1), .val (.ref c2), .val (.ref c3), .val (.ref c4), .val (.ref ra), .val (.ref t), .val (.ref l1), .val (.ref l2), .val (.int z)] [(.int ((own_upd f s1 (f s1 - 1) d1) - (1 : Int32))), (.int d1), (.ref ra)])) rfl rfl (hb hby at_301)
          have N26 := Fr.snoc X26 N24 g_ra
          have E_l1 := E_l1.wr W26
          have F_route_l1 := F_route_l1.other W26 (Or.inl (Ne.symm ne_ra_l1))
          have E_r1 := E_r1.wr W26
          have F_source_r1 := F_source_r1.other W26 (Or.inl (Ne.symm ne_ra_r1))
          have F_destination_r1 := F_destination_r1.other W26 (Or.inl (Ne.symm ne_ra_r1))
          have E_l2 := E_l2.wr W26
          have F_route_l2 := F_route_l2.other W26 (Or.inl (Ne.symm ne_ra_l2))
          have E_r2 := E_r2.wr W26
          have F_source_r2 := F_source_r2.other W26 (Or.inl (Ne.symm ne_ra_r2))
          have F_destination_r2 := F_destination_r2.other W26 (Or.inl (Ne.symm ne_ra_r2))
          have A_ba := A_ba.other W26 (Ne.symm ne_ra_ba)
          have E_t := E_t.wr W26
          have F_perNode_t := F_perNode_t.other W26 (Or.inl (Ne.symm ne_ra_t))
          have F_busy_t := F_busy_t.other W26 (Or.inl (Ne.symm ne_ra_t))
          have F_busyInAll_t := F_busyInAll_t.other W26 (Or.inl (Ne.symm ne_ra_t))
          have Z26 : n0 ≤ h26.size := Nat.le_trans Z24 (Keep.of_wr W26).1
          have A_ra := own_write A_ra hR_d1 W26
          refine OEnds.go (t' := T26.setTop (mkF m 302 #[.val (.int p1), .val (.int p2), .val (.int p3), .val (.int p4), .val (.int n), .val (.int s1), .val (.int d1), .val (.int s2), .val (.int d2), .val (.ref c1), .val (.ref c2), .val (.ref c3), .val (.ref c4), .val (.ref ra), .val (.ref t), .val (.ref l1), .val (.ref l2), .val (.int z)] [])) (fun _ k => st26 _ k) ?_
          exact K302 _ _ _ X26 e26 N26 Z26 (own_drop f s1 d1) _ z A_ra A_ba E_t F_perNode_t F_busy_t F_busyInAll_t E_l1 F_route_l1 E_r1 F_source_r1 F_destination_r1 E_l2 F_route_l2 E_r2 F_source_r2 F_destination_r2 
    refine OEnds.cut (fun En => ∀ (Ta : State) (Ta_l : List Loc) (ha : Heap), Stand p l e room_1 s m #[(.int p1), (.int p2), (.int p3), (.int p4)] below meth c Ta Ta_l 11 25 → Ta.heap = ha → Fr n0 Ta_l → n0 ≤ ha.size → ∀ (f : Int32 → Int32) (q : Int64) (z : Int32), own_A Z ha ra kr f → own_A Z ha ba kb f → Exa Z ha t "com/example/fragmint/fragmint/model/Transponders" → Fld Z ha t "com/example/fragmint/fragmint/model/Transponders" "perNode" "I" (.int n) → Fld Z ha t "com/example/fragmint/fragmint/model/Transponders" "busy" "[I" (.ref ba) → Fld Z ha t "com/example/fragmint/fragmint/model/Transponders" "busyInAll" "J" (.long q) → Exa Z ha l1 "com/example/fragmint/fragmint/model/Lightpath" → Fld Z ha l1 "com/example/fragmint/fragmint/model/Lightpath" "route" "Lcom/example/fragmint/fragmint/model/Route;" (.ref r1) → Exa Z ha r1 "com/example/fragmint/fragmint/model/Route" → Fld Z ha r1 "com/example/fragmint/fragmint/model/Route" "source" "I" (.int s1) → Fld Z ha r1 "com/example/fragmint/fragmint/model/Route" "destination" "I" (.int d1) → Exa Z ha l2 "com/example/fragmint/fragmint/model/Lightpath" → Fld Z ha l2 "com/example/fragmint/fragmint/model/Lightpath" "route" "Lcom/example/fragmint/fragmint/model/Route;" (.ref r2) → Exa Z ha r2 "com/example/fragmint/fragmint/model/Route" → Fld Z ha r2 "com/example/fragmint/fragmint/model/Route" "source" "I" (.int s2) → Fld Z ha r2 "com/example/fragmint/fragmint/model/Route" "destination" "I" (.int d2) → own_B f → z = 0 ∨ (1 ≤ (f s1).toInt ∧ 1 ≤ (f d1).toInt) → En (Ta.setTop (mkF m 201 #[.val (.int p1), .val (.int p2), .val (.int p3), .val (.int p4), .val (.int n), .val (.int s1), .val (.int d1), .val (.int s2), .val (.int d2), .val (.ref c1), .val (.ref c2), .val (.ref c3), .val (.ref c4), .val (.ref ra), .val (.ref t), .val (.ref l1), .val (.ref l2), .val (.int z)] []))) ?_ (fun K201 => ?_)
    · intro Ta Ta_l ha XTa eTa NTa ZTa f q z A_ra A_ba E_t F_perNode_t F_busy_t F_busyInAll_t E_l1 F_route_l1 E_r1 F_source_r1 F_destination_r1 E_l2 F_route_l2 E_r2 F_source_r2 F_destination_r2 hB hz
      refine OEnds.go (t' := Ta.setTop (mkF m 204 #[.val (.int p1), .val (.int p2), .val (.int p3), .val (.int p4), .val (.int n), .val (.int s1), .val (.int d1), .val (.int s2), .val (.int d2), .val (.ref c1), .val (.ref c2), .val (.ref c3), .val (.ref c4), .val (.ref ra), .val (.ref t), .val (.ref l1), .val (.ref l2), .val (.int z)] [(.int (p4 &&& (2 : Int32)))])) (fun _ k => ?_) ?_
      · show Steps p.tables e below (Ta.setTop (mkF m 201 #[.val (.int p1), .val (.int p2), .val (.int p3), .val (.int p4), .val (.int n), .val (.int s1), .val (.int d1), .val (.int s2), .val (.int d2), .val (.ref c1), .val (.ref c2), .val (.ref c3), .val (.ref c4), .val (.ref ra), .val (.ref t), .val (.ref l1), .val (.ref l2), .val (.int z)] [])) _
        refine XS.iloadN XTa.here hx rfl (hb hby at_201) rfl ?_
        show Steps p.tables e below (Ta.setTop (mkF m 202 #[.val (.int p1), .val (.int p2), .val (.int p3), .val (.int p4), .val (.int n), .val (.int s1), .val (.int d1), .val (.int s2), .val (.int d2), .val (.ref c1), .val (.ref c2), .val (.ref c3), .val (.ref c4), .val (.ref ra), .val (.ref t), .val (.ref l1), .val (.ref l2), .val (.int z)] [(.int p4)])) _
        refine XS.iconst XTa.here hx rfl (hb hby at_202) ?_
        show Steps p.tables e below (Ta.setTop (mkF m 203 #[.val (.int p1), .val (.int p2), .val (.int p3), .val (.int p4), .val (.int n), .val (.int s1), .val (.int d1), .val (.int s2), .val (.int d2), .val (.ref c1), .val (.ref c2), .val (.ref c3), .val (.ref c4), .val (.ref ra), .val (.ref t), .val (.ref l1), .val (.ref l2), .val (.int z)] [(.int (2 : Int32)), (.int p4)])) _
        refine XS.iand XTa.here hx rfl (hb hby at_203) rfl ?_
        show Steps p.tables e below (Ta.setTop (mkF m 204 #[.val (.int p1), .val (.int p2), .val (.int p3), .val (.int p4), .val (.int n), .val (.int s1), .val (.int d1), .val (.int s2), .val (.int d2), .val (.ref c1), .val (.ref c2), .val (.ref c3), .val (.ref c4), .val (.ref ra), .val (.ref t), .val (.ref l1), .val (.ref l2), .val (.int z)] [(.int (p4 &&& (2 : Int32)))])) _
        exact k
      by_cases h204 : (p4 &&& (2 : Int32)) = (0 : Int32)
      · refine OEnds.go (t' := Ta.setTop (mkF m 260 #[.val (.int p1), .val (.int p2), .val (.int p3), .val (.int p4), .val (.int n), .val (.int s1), .val (.int d1), .val (.int s2), .val (.int d2), .val (.ref c1), .val (.ref c2), .val (.ref c3), .val (.ref c4), .val (.ref ra), .val (.ref t), .val (.ref l1), .val (.ref l2), .val (.int z)] [])) (fun _ k => XS.ifYes XTa.here hx rfl (pc0 := 204) (pc' := 260) rfl (hb hby at_204) rfl ((if0 _ _).trans (teq h204).1) (by decide) (by decide) k) ?_
        exact K260 _ _ _ XTa eTa NTa ZTa f q z A_ra A_ba E_t F_perNode_t F_busy_t F_busyInAll_t E_l1 F_route_l1 E_r1 F_source_r1 F_destination_r1 E_l2 F_route_l2 E_r2 F_source_r2 F_destination_r2 (hz.imp id (fun u => ⟨own_p0 u.1, own_p0 u.2⟩))
      · refine OEnds.go (t' := Ta.setTop (mkF m 207 #[.val (.int p1), .val (.int p2), .val (.int p3), .val (.int p4), .val (.int n), .val (.int s1), .val (.int d1), .val (.int s2), .val (.int d2), .val (.ref c1), .val (.ref c2), .val (.ref c3), .val (.ref c4), .val (.ref ra), .val (.ref t), .val (.ref l1), .val (.ref l2), .val (.int z)] [])) (fun _ k => XS.ifNo XTa.here hx rfl (hb hby at_204) rfl ((if0 _ _).trans (feq h204).1) k) ?_
        refine OEnds.go (t' := Ta.setTop (mkF m 213 #[.val (.int p1), .val (.int p2), .val (.int p3), .val (.int p4), .val (.int n), .val (.int s1), .val (.int d1), .val (.int s2), .val (.int d2), .val (.ref c1), .val (.ref c2), .val (.ref c3), .val (.ref c4), .val (.ref ra), .val (.ref t), .val (.ref l1), .val (.ref l2), .val (.int z)] [(.int s2), (.ref ra), (.int n)])) (fun _ k => ?_) ?_
        · show Steps p.tables e below (Ta.setTop (mkF m 207 #[.val (.int p1), .val (.int p2), .val (.int p3), .val (.int p4), .val (.int n), .val (.int s1), .val (.int d1), .val (.int s2), .val (.int d2), .val (.ref c1), .val (.ref c2), .val (.ref c3), .val (.ref c4), .val (.ref ra), .val (.ref t), .val (.ref l1), .val (.ref l2), .val (.int z)] [])) _
          refine XS.iload XTa.here hx rfl (hb hby at_207) rfl ?_
          show Steps p.tables e below (Ta.setTop (mkF m 209 #[.val (.int p1), .val (.int p2), .val (.int p3), .val (.int p4), .val (.int n), .val (.int s1), .val (.int d1), .val (.int s2), .val (.int d2), .val (.ref c1), .val (.ref c2), .val (.ref c3), .val (.ref c4), .val (.ref ra), .val (.ref t), .val (.ref l1), .val (.ref l2), .val (.int z)] [(.int n)])) _
          refine XS.aload XTa.here hx rfl (hb hby at_209) rfl rfl ?_
          show Steps p.tables e below (Ta.setTop (mkF m 211 #[.val (.int p1), .val (.int p2), .val (.int p3), .val (.int p4), .val (.int n), .val (.int s1), .val (.int d1), .val (.int s2), .val (.int d2), .val (.ref c1), .val (.ref c2), .val (.ref c3), .val (.ref c4), .val (.ref ra), .val (.ref t), .val (.ref l1), .val (.ref l2), .val (.int z)] [(.ref ra), (.int n)])) _
          refine XS.iload XTa.here hx rfl (hb hby at_211) rfl ?_
          show Steps p.tables e below (Ta.setTop (mkF m 213 #[.val (.int p1), .val (.int p2), .val (.int p3), .val (.int p4), .val (.int n), .val (.int s1), .val (.int d1), .val (.int s2), .val (.int d2), .val (.ref c1), .val (.ref c2), .val (.ref c3), .val (.ref c4), .val (.ref ra), .val (.ref t), .val (.ref l1), .val (.ref l2), .val (.int z)] [(.int s2), (.ref ra), (.int n)])) _
          exact k
        obtain ⟨cl27, Ar27, hin27, hat27⟩ := own_read A_ra hR_s2
        refine OEnds.go (t' := Ta.setTop (mkF m 214 #[.val (.int p1), .val (.int p2), .val (.int p3), .val (.int p4), .val (.int n), .val (.int s1), .val (.int d1), .val (.int s2), .val (.int d2), .val (.ref c1), .val (.ref c2), .val (.ref c3), .val (.ref c4), .val (.ref ra), .val (.ref t), .val (.ref l1), .val (.ref l2), .val (.int z)] [(.int (f s2)), (.int n)])) (fun _ k => XTa.iaload hx (j := s2) (v := (.int (f s2))) (by rw [eTa]; exact Ar27.1) (State.isArrayOf_alike hZ.alike Ar27.2.1) Ar27.2.2 hin27 hat27 (g := (mkF m 213 #[.val (.int p1), .val (.int p2), .val (.int p3), .val (.int p4), .val (.int n), .val (.int s1), .val (.int d1), .val (.int s2), .val (.int d2), .val (.ref c1), .val (.ref c2), .val (.ref c3), .val (.ref c4), .val (.ref ra), .val (.ref t), .val (.ref l1), .val (.ref l2), .val (.int z)] [(.int s2), (.ref ra), (.int n)])) rfl rfl (hb hby at_213) _ k) ?_
        refine OEnds.go (t' := Ta.setTop (mkF m 215 #[.val (.int p1), .val (.int p2), .val (.int p3), .val (.int p4), .val (.int n), .val (.int s1), .val (.int d1), .val (.int s2), .val (.int d2), .val (.ref c1), .val (.ref c2), .val (.ref c3), .val (.ref c4), .val (.ref ra), .val (.ref t), .val (.ref l1), .val (.ref l2), .val (.int z)] [(.int (n - (f s2)))])) (fun _ k => ?_) ?_
        · show Steps p.tables e below (Ta.setTop (mkF m 214 #[.val (.int p1), .val (.int p2), .val (.int p3), .val (.int p4), .val (.int n), .val (.int s1), .val (.int d1), .val (.int s2), .val (.int d2), .val (.ref c1), .val (.ref c2), .val (.ref c3), .val (.ref c4), .val (.ref ra), .val (.ref t), .val (.ref l1), .val (.ref l2), .val (.int z)] [(.int (f s2)), (.int n)])) _
          refine XS.isub XTa.here hx rfl (hb hby at_214) rfl ?_
          show Steps p.tables e below (Ta.setTop (mkF m 215 #[.val (.int p1), .val (.int p2), .val (.int p3), .val (.int p4), .val (.int n), .val (.int s1), .val (.int d1), .val (.int s2), .val (.int d2), .val (.ref c1), .val (.ref c2), .val (.ref c3), .val (.ref c4), .val (.ref ra), .val (.ref t), .val (.ref l1), .val (.ref l2), .val (.int z)] [(.int (n - (f s2)))])) _
          exact k
        by_cases h215 : (n - (f s2)) = (0 : Int32)
        · refine OEnds.go (t' := Ta.setTop (mkF m 260 #[.val (.int p1), .val (.int p2), .val (.int p3), .val (.int p4), .val (.int n), .val (.int s1), .val (.int d1), .val (.int s2), .val (.int d2), .val (.ref c1), .val (.ref c2), .val (.ref c3), .val (.ref c4), .val (.ref ra), .val (.ref t), .val (.ref l1), .val (.ref l2), .val (.int z)] [])) (fun _ k => XS.ifYes XTa.here hx rfl (pc0 := 215) (pc' := 260) rfl (hb hby at_215) rfl ((if0 _ _).trans (teq h215).1) (by decide) (by decide) k) ?_
          exact K260 _ _ _ XTa eTa NTa ZTa f q z A_ra A_ba E_t F_perNode_t F_busy_t F_busyInAll_t E_l1 F_route_l1 E_r1 F_source_r1 F_destination_r1 E_l2 F_route_l2 E_r2 F_source_r2 F_destination_r2 (hz.imp id (fun u => ⟨own_p0 u.1, own_p0 u.2⟩))
        · refine OEnds.go (t' := Ta.setTop (mkF m 218 #[.val (.int p1), .val (.int p2), .val (.int p3), .val (.int p4), .val (.int n), .val (.int s1), .val (.int d1), .val (.int s2), .val (.int d2), .val (.ref c1), .val (.ref c2), .val (.ref c3), .val (.ref c4), .val (.ref ra), .val (.ref t), .val (.ref l1), .val (.ref l2), .val (.int z)] [])) (fun _ k => XS.ifNo XTa.here hx rfl (hb hby at_215) rfl ((if0 _ _).trans (feq h215).1) k) ?_
          refine OEnds.go (t' := Ta.setTop (mkF m 224 #[.val (.int p1), .val (.int p2), .val (.int p3), .val (.int p4), .val (.int n), .val (.int s1), .val (.int d1), .val (.int s2), .val (.int d2), .val (.ref c1), .val (.ref c2), .val (.ref c3), .val (.ref c4), .val (.ref ra), .val (.ref t), .val (.ref l1), .val (.ref l2), .val (.int z)] [(.int d2), (.ref ra), (.int n)])) (fun _ k => ?_) ?_
          · show Steps p.tables e below (Ta.setTop (mkF m 218 #[.val (.int p1), .val (.int p2), .val (.int p3), .val (.int p4), .val (.int n), .val (.int s1), .val (.int d1), .val (.int s2), .val (.int d2), .val (.ref c1), .val (.ref c2), .val (.ref c3), .val (.ref c4), .val (.ref ra), .val (.ref t), .val (.ref l1), .val (.ref l2), .val (.int z)] [])) _
            refine XS.iload XTa.here hx rfl (hb hby at_218) rfl ?_
            show Steps p.tables e below (Ta.setTop (mkF m 220 #[.val (.int p1), .val (.int p2), .val (.int p3), .val (.int p4), .val (.int n), .val (.int s1), .val (.int d1), .val (.int s2), .val (.int d2), .val (.ref c1), .val (.ref c2), .val (.ref c3), .val (.ref c4), .val (.ref ra), .val (.ref t), .val (.ref l1), .val (.ref l2), .val (.int z)] [(.int n)])) _
            refine XS.aload XTa.here hx rfl (hb hby at_220) rfl rfl ?_
            show Steps p.tables e below (Ta.setTop (mkF m 222 #[.val (.int p1), .val (.int p2), .val (.int p3), .val (.int p4), .val (.int n), .val (.int s1), .val (.int d1), .val (.int s2), .val (.int d2), .val (.ref c1), .val (.ref c2), .val (.ref c3), .val (.ref c4), .val (.ref ra), .val (.ref t), .val (.ref l1), .val (.ref l2), .val (.int z)] [(.ref ra), (.int n)])) _
            refine XS.iload XTa.here hx rfl (hb hby at_222) rfl ?_
            show Steps p.tables e below (Ta.setTop (mkF m 224 #[.val (.int p1), .val (.int p2), .val (.int p3), .val (.int p4), .val (.int n), .val (.int s1), .val (.int d1), .val (.int s2), .val (.int d2), .val (.ref c1), .val (.ref c2), .val (.ref c3), .val (.ref c4), .val (.ref ra), .val (.ref t), .val (.ref l1), .val (.ref l2), .val (.int z)] [(.int d2), (.ref ra), (.int n)])) _
            exact k
          obtain ⟨cl28, Ar28, hin28, hat28⟩ := own_read A_ra hR_d2
          refine OEnds.go (t' := Ta.setTop (mkF m 225 #[.val (.int p1), .val (.int p2), .val (.int p3), .val (.int p4), .val (.int n), .val (.int s1), .val (.int d1), .val (.int s2), .val (.int d2), .val (.ref c1), .val (.ref c2), .val (.ref c3), .val (.ref c4), .val (.ref ra), .val (.ref t), .val (.ref l1), .val (.ref l2), .val (.int z)] [(.int (f d2)), (.int n)])) (fun _ k => XTa.iaload hx (j := d2) (v := (.int (f d2))) (by rw [eTa]; exact Ar28.1) (State.isArrayOf_alike hZ.alike Ar28.2.1) Ar28.2.2 hin28 hat28 (g := (mkF m 224 #[.val (.int p1), .val (.int p2), .val (.int p3), .val (.int p4), .val (.int n), .val (.int s1), .val (.int d1), .val (.int s2), .val (.int d2), .val (.ref c1), .val (.ref c2), .val (.ref c3), .val (.ref c4), .val (.ref ra), .val (.ref t), .val (.ref l1), .val (.ref l2), .val (.int z)] [(.int d2), (.ref ra), (.int n)])) rfl rfl (hb hby at_224) _ k) ?_
          refine OEnds.go (t' := Ta.setTop (mkF m 226 #[.val (.int p1), .val (.int p2), .val (.int p3), .val (.int p4), .val (.int n), .val (.int s1), .val (.int d1), .val (.int s2), .val (.int d2), .val (.ref c1), .val (.ref c2), .val (.ref c3), .val (.ref c4), .val (.ref ra), .val (.ref t), .val (.ref l1), .val (.ref l2), .val (.int z)] [(.int (n - (f d2)))])) (fun _ k => ?_) ?_
          · show Steps p.tables e below (Ta.setTop (mkF m 225 #[.val (.int p1), .val (.int p2), .val (.int p3), .val (.int p4), .val (.int n), .val (.int s1), .val (.int d1), .val (.int s2), .val (.int d2), .val (.ref c1), .val (.ref c2), .val (.ref c3), .val (.ref c4), .val (.ref ra), .val (.ref t), .val (.ref l1), .val (.ref l2), .val (.int z)] [(.int (f d2)), (.int n)])) _
            refine XS.isub XTa.here hx rfl (hb hby at_225) rfl ?_
            show Steps p.tables e below (Ta.setTop (mkF m 226 #[.val (.int p1), .val (.int p2), .val (.int p3), .val (.int p4), .val (.int n), .val (.int s1), .val (.int d1), .val (.int s2), .val (.int d2), .val (.ref c1), .val (.ref c2), .val (.ref c3), .val (.ref c4), .val (.ref ra), .val (.ref t), .val (.ref l1), .val (.ref l2), .val (.int z)] [(.int (n - (f d2)))])) _
            exact k
          by_cases h226 : (n - (f d2)) = (0 : Int32)
          · refine OEnds.go (t' := Ta.setTop (mkF m 260 #[.val (.int p1), .val (.int p2), .val (.int p3), .val (.int p4), .val (.int n), .val (.int s1), .val (.int d1), .val (.int s2), .val (.int d2), .val (.ref c1), .val (.ref c2), .val (.ref c3), .val (.ref c4), .val (.ref ra), .val (.ref t), .val (.ref l1), .val (.ref l2), .val (.int z)] [])) (fun _ k => XS.ifYes XTa.here hx rfl (pc0 := 226) (pc' := 260) rfl (hb hby at_226) rfl ((if0 _ _).trans (teq h226).1) (by decide) (by decide) k) ?_
            exact K260 _ _ _ XTa eTa NTa ZTa f q z A_ra A_ba E_t F_perNode_t F_busy_t F_busyInAll_t E_l1 F_route_l1 E_r1 F_source_r1 F_destination_r1 E_l2 F_route_l2 E_r2 F_source_r2 F_destination_r2 (hz.imp id (fun u => ⟨own_p0 u.1, own_p0 u.2⟩))
          · refine OEnds.go (t' := Ta.setTop (mkF m 229 #[.val (.int p1), .val (.int p2), .val (.int p3), .val (.int p4), .val (.int n), .val (.int s1), .val (.int d1), .val (.int s2), .val (.int d2), .val (.ref c1), .val (.ref c2), .val (.ref c3), .val (.ref c4), .val (.ref ra), .val (.ref t), .val (.ref l1), .val (.ref l2), .val (.int z)] [])) (fun _ k => XS.ifNo XTa.here hx rfl (hb hby at_226) rfl ((if0 _ _).trans (feq h226).1) k) ?_
            refine OEnds.go (t' := Ta.setTop (mkF m 233 #[.val (.int p1), .val (.int p2), .val (.int p3), .val (.int p4), .val (.int n), .val (.int s1), .val (.int d1), .val (.int s2), .val (.int d2), .val (.ref c1), .val (.ref c2), .val (.ref c3), .val (.ref c4), .val (.ref ra), .val (.ref t), .val (.ref l1), .val (.ref l2), .val (.int z)] [(.ref l2), (.ref t)])) (fun _ k => ?_) ?_
            · show Steps p.tables e below (Ta.setTop (mkF m 229 #[.val (.int p1), .val (.int p2), .val (.int p3), .val (.int p4), .val (.int n), .val (.int s1), .val (.int d1), .val (.int s2), .val (.int d2), .val (.ref c1), .val (.ref c2), .val (.ref c3), .val (.ref c4), .val (.ref ra), .val (.ref t), .val (.ref l1), .val (.ref l2), .val (.int z)] [])) _
              refine XS.aload XTa.here hx rfl (hb hby at_229) rfl rfl ?_
              show Steps p.tables e below (Ta.setTop (mkF m 231 #[.val (.int p1), .val (.int p2), .val (.int p3), .val (.int p4), .val (.int n), .val (.int s1), .val (.int d1), .val (.int s2), .val (.int d2), .val (.ref c1), .val (.ref c2), .val (.ref c3), .val (.ref c4), .val (.ref ra), .val (.ref t), .val (.ref l1), .val (.ref l2), .val (.int z)] [(.ref t)])) _
              refine XS.aload XTa.here hx rfl (hb hby at_231) rfl rfl ?_
              show Steps p.tables e below (Ta.setTop (mkF m 233 #[.val (.int p1), .val (.int p2), .val (.int p3), .val (.int p4), .val (.int n), .val (.int s1), .val (.int d1), .val (.int s2), .val (.int d2), .val (.ref c1), .val (.ref c2), .val (.ref c3), .val (.ref c4), .val (.ref ra), .val (.ref t), .val (.ref l1), .val (.ref l2), .val (.int z)] [(.ref l2), (.ref t)])) _
              exact k
            obtain ⟨cq29, kq29, q29a, q29b, q29c⟩ := isOf hZ eTa E_t
            obtain ⟨_, _, ⟨T29, L29, k29, n29⟩, -, X29, ⟨Lc29, hQ29, l29, y29, z29⟩, st29⟩ := XTa.virtualBack hx (y := (⟨"com/example/fragmint/fragmint/model/Transponders", "take", "(Lcom/example/fragmint/fragmint/model/Lightpath;)V"⟩ : MethodName)) (z := (⟨"com/example/fragmint/fragmint/model/Transponders", "take", "(Lcom/example/fragmint/fragmint/model/Lightpath;)V"⟩ : MethodName)) hown (mvT hZ (hw _ (List.mem_of_getElem? (i := 52) rfl))) (mvT hZ (hw _ (List.mem_of_getElem? (i := 53) rfl))) (notFace_of_selects (args := #[]) (mvT hZ (hw _ (List.mem_of_getElem? (i := 55) rfl)))) (mvT hZ (hw _ (List.mem_of_getElem? (i := 55) rfl))) (mvT hZ (hw _ (List.mem_of_getElem? (i := 54) rfl))) (by decide) (backOf (W := 0) (rm7 l Z a0 hw [] t l2 r2 s2 d2 n q ba kb f ha n0 ZTa F_route_l2 E_l2 E_r2 F_source_r2 F_destination_r2 E_t F_perNode_t F_busy_t F_busyInAll_t A_ba hR_s2 hR_d2 h215 h226 g_t g_ba ne_t_ba) hZ (hw _ (List.mem_of_getElem? (i := 56) rfl)) (hw _ (List.mem_of_getElem? (i := 3) rfl)) (by decide) (by decide)) q29a q29c (g := (mkF m 233 #[.val (.int p1), .val (.int p2), .val (.int p3), .val (.int p4), .val (.int n), .val (.int s1), .val (.int d1), .val (.int s2), .val (.int d2), .val (.ref c1), .val (.ref c2), .val (.ref c3), .val (.ref c4), .val (.ref ra), .val (.ref t), .val (.ref l1), .val (.ref l2), .val (.int z)] [(.ref l2), (.ref t)])) rfl (by rw [hml]; rfl) (Steps.refl _) (argsL := [(.ref l2)]) (rest := []) (lenOf pd_rm0_4 rfl) rfl (by show 2 * 0 + _ ≤ _; exact Nat.le_of_eq rfl) (hb hby at_233) (fun _ _ => ⟨rfl, eTa, (by decide : 11 + 0 ≤ _), (by decide : 25 + 0 ≤ _)⟩)
            dsimp only [Pt.U, Pt.locs, Pt.cells, Pt.slots] at X29 l29 y29 z29 st29 hQ29
            subst l29 y29 z29
            obtain ⟨rfl, N29q, Kc29, Aa29, Ea29, Fa29, Fb29, Fc29⟩ := hQ29
            have N29 := Fr.app NTa N29q
            have A_ra := A_ra.keep Kc29 (ninS ne_ra_t (ninS ne_ra_ba nin0))
            have E_l1 := E_l1.keep Kc29
            have F_route_l1 := F_route_l1.keep Kc29 (ninS (Ne.symm ne_t_l1) (ninS (Ne.symm ne_ba_l1) nin0))
            have E_r1 := E_r1.keep Kc29
            have F_source_r1 := F_source_r1.keep Kc29 (ninS (Ne.symm ne_t_r1) (ninS (Ne.symm ne_ba_r1) nin0))
            have F_destination_r1 := F_destination_r1.keep Kc29 (ninS (Ne.symm ne_t_r1) (ninS (Ne.symm ne_ba_r1) nin0))
            have E_l2 := E_l2.keep Kc29
            have F_route_l2 := F_route_l2.keep Kc29 (ninS (Ne.symm ne_t_l2) (ninS (Ne.symm ne_ba_l2) nin0))
            have E_r2 := E_r2.keep Kc29
            have F_source_r2 := F_source_r2.keep Kc29 (ninS (Ne.symm ne_t_r2) (ninS (Ne.symm ne_ba_r2) nin0))
            have F_destination_r2 := F_destination_r2.keep Kc29 (ninS (Ne.symm ne_t_r2) (ninS (Ne.symm ne_ba_r2) nin0))
            have Z29 : n0 ≤ T29.heap.size := Nat.le_trans ZTa Kc29.1
            refine OEnds.go (t' := T29.setTop (mkF m 236 #[.val (.int p1), .val (.int p2), .val (.int p3), .val (.int p4), .val (.int n), .val (.int s1), .val (.int d1), .val (.int s2), .val (.int d2), .val (.ref c1), .val (.ref c2), .val (.ref c3), .val (.ref c4), .val (.ref ra), .val (.ref t), .val (.ref l1), .val (.ref l2), .val (.int z)] [])) (fun _ k => st29.trans k) ?_
            have A_ba := Aa29
            have E_t := Ea29
            have F_perNode_t := Fa29
            have F_busy_t := Fb29
            have F_busyInAll_t := Fc29
            refine OEnds.go (t' := T29.setTop (mkF m 244 #[.val (.int p1), .val (.int p2), .val (.int p3), .val (.int p4), .val (.int n), .val (.int s1), .val (.int d1), .val (.int s2), .val (.int d2), .val (.ref c1), .val (.ref c2), .val (.ref c3), .val (.ref c4), .val (.ref ra), .val (.ref t), .val (.ref l1), .val (.ref l2), .val (.int z)] [(.int s2), (.ref ra), (.int s2), (.ref ra)])) (fun _ k => ?_) ?_
            · show Steps p.tables e below (T29.setTop (mkF m 236 #[.val (.int p1), .val (.int p2), .val (.int p3), .val (.int p4), .val (.int n), .val (.int s1), .val (.int d1), .val (.int s2), .val (.int d2), .val (.ref c1), .val (.ref c2), .val (.ref c3), .val (.ref c4), .val (.ref ra), .val (.ref t), .val (.ref l1), .val (.ref l2), .val (.int z)] [])) _
              refine XS.aload X29.here hx rfl (hb hby at_236) rfl rfl ?_
              show Steps p.tables e below (T29.setTop (mkF m 238 #[.val (.int p1), .val (.int p2), .val (.int p3), .val (.int p4), .val (.int n), .val (.int s1), .val (.int d1), .val (.int s2), .val (.int d2), .val (.ref c1), .val (.ref c2), .val (.ref c3), .val (.ref c4), .val (.ref ra), .val (.ref t), .val (.ref l1), .val (.ref l2), .val (.int z)] [(.ref ra)])) _
              refine XS.iload X29.here hx rfl (hb hby at_238) rfl ?_
              show Steps p.tables e below (T29.setTop (mkF m 240 #[.val (.int p1), .val (.int p2), .val (.int p3), .val (.int p4), .val (.int n), .val (.int s1), .val (.int d1), .val (.int s2), .val (.int d2), .val (.ref c1), .val (.ref c2), .val (.ref c3), .val (.ref c4), .val (.ref ra), .val (.ref t), .val (.ref l1), .val (.ref l2), .val (.int z)] [(.int s2), (.ref ra)])) _
              refine XS.aload X29.here hx rfl (hb hby at_240) rfl rfl ?_
              show Steps p.tables e below (T29.setTop (mkF m 242 #[.val (.int p1), .val (.int p2), .val (.int p3), .val (.int p4), .val (.int n), .val (.int s1), .val (.int d1), .val (.int s2), .val (.int d2), .val (.ref c1), .val (.ref c2), .val (.ref c3), .val (.ref c4), .val (.ref ra), .val (.ref t), .val (.ref l1), .val (.ref l2), .val (.int z)] [(.ref ra), (.int s2), (.ref ra)])) _
              refine XS.iload X29.here hx rfl (hb hby at_242) rfl ?_
              show Steps p.tables e below (T29.setTop (mkF m 244 #[.val (.int p1), .val (.int p2), .val (.int p3), .val (.int p4), .val (.int n), .val (.int s1), .val (.int d1), .val (.int s2), .val (.int d2), .val (.ref c1), .val (.ref c2), .val (.ref c3), .val (.ref c4), .val (.ref ra), .val (.ref t), .val (.ref l1), .val (.ref l2), .val (.int z)] [(.int s2), (.ref ra), (.int s2), (.ref ra)])) _
              exact k
            obtain ⟨cl30, Ar30, hin30, hat30⟩ := own_read A_ra hR_s2
            refine OEnds.go (t' := T29.setTop (mkF m 245 #[.val (.int p1), .val (.int p2), .val (.int p3), .val (.int p4), .val (.int n), .val (.int s1), .val (.int d1), .val (.int s2), .val (.int d2), .val (.ref c1), .val (.ref c2), .val (.ref c3), .val (.ref c4), .val (.ref ra), .val (.ref t), .val (.ref l1), .val (.ref l2), .val (.int z)] [(.int (f s2)), (.int s2), (.ref ra)])) (fun _ k => X29.iaload hx (j := s2) (v := (.int (f s2))) Ar30.1 (State.isArrayOf_alike hZ.alike Ar30.2.1) Ar30.2.2 hin30 hat30 (g := (mkF m 244 #[.val (.int p1), .val (.int p2), .val (.int p3), .val (.int p4), .val (.int n), .val (.int s1), .val (.int d1), .val (.int s2), .val (.int d2), .val (.ref c1), .val (.ref c2), .val (.ref c3), .val (.ref c4), .val (.ref ra), .val (.ref t), .val (.ref l1), .val (.ref l2), .val (.int z)] [(.int s2), (.ref ra), (.int s2), (.ref ra)])) rfl rfl (hb hby at_244) _ k) ?_
            refine OEnds.go (t' := T29.setTop (mkF m 247 #[.val (.int p1), .val (.int p2), .val (.int p3), .val (.int p4), .val (.int n), .val (.int s1), .val (.int d1), .val (.int s2), .val (.int d2), .val (.ref c1), .val (.ref c2), .val (.ref c3), .val (.ref c4), .val (.ref ra), .val (.ref t), .val (.ref l1), .val (.ref l2), .val (.int z)] [(.int ((f s2) + (1 : Int32))), (.int s2), (.ref ra)])) (fun _ k => ?_) ?_
            · show Steps p.tables e below (T29.setTop (mkF m 245 #[.val (.int p1), .val (.int p2), .val (.int p3), .val (.int p4), .val (.int n), .val (.int s1), .val (.int d1), .val (.int s2), .val (.int d2), .val (.ref c1), .val (.ref c2), .val (.ref c3), .val (.ref c4), .val (.ref ra), .val (.ref t), .val (.ref l1), .val (.ref l2), .val (.int z)] [(.int (f s2)), (.int s2), (.ref ra)])) _
              refine XS.iconst X29.here hx rfl (hb hby at_245) ?_
              show Steps p.tables e below (T29.setTop (mkF m 246 #[.val (.int p1), .val (.int p2), .val (.int p3), .val (.int p4), .val (.int n), .val (.int s1), .val (.int d1), .val (.int s2), .val (.int d2), .val (.ref c1), .val (.ref c2), .val (.ref c3), .val (.ref c4), .val (.ref ra), .val (.ref t), .val (.ref l1), .val (.ref l2), .val (.int z)] [(.int (1 : Int32)), (.int (f s2)), (.int s2), (.ref ra)])) _
              refine XS.iadd X29.here hx rfl (hb hby at_246) rfl ?_
              show Steps p.tables e below (T29.setTop (mkF m 247 #[.val (.int p1), .val (.int p2), .val (.int p3), .val (.int p4), .val (.int n), .val (.int s1), .val (.int d1), .val (.int s2), .val (.int d2), .val (.ref c1), .val (.ref c2), .val (.ref c3), .val (.ref c4), .val (.ref ra), .val (.ref t), .val (.ref l1), .val (.ref l2), .val (.int z)] [(.int ((f s2) + (1 : Int32))), (.int s2), (.ref ra)])) _
              exact k
            obtain ⟨cl31, Ar31, hin31, -⟩ := own_read A_ra hR_s2
            obtain ⟨T31, h31, X31, e31, W31, st31⟩ := stI X29 hx hZ rfl Ar31 (j := s2) hin31 (g := (mkF m 247 #[.val (.int p1), .val (.int p2), .val (.int p3), .val (.int p4), .val (.int n), .val (.int s1), .val (.int d1), .val (.int s2), .val (.int d2), .val (.ref c1), .val (.ref c2), .val (.ref c3), .val (.ref c4), .val (.ref ra), .val (.ref t), .val (.ref l1), .val (.ref l2), .val (.int z)] [(.int ((f s2) + (1 : Int32))), (.int s2), (.ref ra)])) rfl rfl (hb hby at_247)
            have N31 := Fr.snoc X31 N29 g_ra
            have E_l1 := E_l1.wr W31
            have F_route_l1 := F_route_l1.other W31 (Or.inl (Ne.symm ne_ra_l1))
            have E_r1 := E_r1.wr W31
            have F_source_r1 := F_source_r1.other W31 (Or.inl (Ne.symm ne_ra_r1))
            have F_destination_r1 := F_destination_r1.other W31 (Or.inl (Ne.symm ne_ra_r1))
            have E_l2 := E_l2.wr W31
            have F_route_l2 := F_route_l2.other W31 (Or.inl (Ne.symm ne_ra_l2))
            have E_r2 := E_r2.wr W31
            have F_source_r2 := F_source_r2.other W31 (Or.inl (Ne.symm ne_ra_r2))
            have F_destination_r2 := F_destination_r2.other W31 (Or.inl (Ne.symm ne_ra_r2))
            have A_ba := A_ba.other W31 (Ne.symm ne_ra_ba)
            have E_t := E_t.wr W31
            have F_perNode_t := F_perNode_t.other W31 (Or.inl (Ne.symm ne_ra_t))
            have F_busy_t := F_busy_t.other W31 (Or.inl (Ne.symm ne_ra_t))
            have F_busyInAll_t := F_busyInAll_t.other W31 (Or.inl (Ne.symm ne_ra_t))
            have Z31 : n0 ≤ h31.size := Nat.le_trans Z29 (Keep.of_wr W31).1
            have A_ra := own_write A_ra hR_s2 W31
            refine OEnds.go (t' := T31.setTop (mkF m 248 #[.val (.int p1), .val (.int p2), .val (.int p3), .val (.int p4), .val (.int n), .val (.int s1), .val (.int d1), .val (.int s2), .val (.int d2), .val (.ref c1), .val (.ref c2), .val (.ref c3), .val (.ref c4), .val (.ref ra), .val (.ref t), .val (.ref l1), .val (.ref l2), .val (.int z)] [])) (fun _ k => st31 _ k) ?_
            refine OEnds.go (t' := T31.setTop (mkF m 256 #[.val (.int p1), .val (.int p2), .val (.int p3), .val (.int p4), .val (.int n), .val (.int s1), .val (.int d1), .val (.int s2), .val (.int d2), .val (.ref c1), .val (.ref c2), .val (.ref c3), .val (.ref c4), .val (.ref ra), .val (.ref t), .val (.ref l1), .val (.ref l2), .val (.int z)] [(.int d2), (.ref ra), (.int d2), (.ref ra)])) (fun _ k => ?_) ?_
            · show Steps p.tables e below (T31.setTop (mkF m 248 #[.val (.int p1), .val (.int p2), .val (.int p3), .val (.int p4), .val (.int n), .val (.int s1), .val (.int d1), .val (.int s2), .val (.int d2), .val (.ref c1), .val (.ref c2), .val (.ref c3), .val (.ref c4), .val (.ref ra), .val (.ref t), .val (.ref l1), .val (.ref l2), .val (.int z)] [])) _
              refine XS.aload X31.here hx rfl (hb hby at_248) rfl rfl ?_
              show Steps p.tables e below (T31.setTop (mkF m 250 #[.val (.int p1), .val (.int p2), .val (.int p3), .val (.int p4), .val (.int n), .val (.int s1), .val (.int d1), .val (.int s2), .val (.int d2), .val (.ref c1), .val (.ref c2), .val (.ref c3), .val (.ref c4), .val (.ref ra), .val (.ref t), .val (.ref l1), .val (.ref l2), .val (.int z)] [(.ref ra)])) _
              refine XS.iload X31.here hx rfl (hb hby at_250) rfl ?_
              show Steps p.tables e below (T31.setTop (mkF m 252 #[.val (.int p1), .val (.int p2), .val (.int p3), .val (.int p4), .val (.int n), .val (.int s1), .val (.int d1), .val (.int s2), .val (.int d2), .val (.ref c1), .val (.ref c2), .val (.ref c3), .val (.ref c4), .val (.ref ra), .val (.ref t), .val (.ref l1), .val (.ref l2), .val (.int z)] [(.int d2), (.ref ra)])) _
              refine XS.aload X31.here hx rfl (hb hby at_252) rfl rfl ?_
              show Steps p.tables e below (T31.setTop (mkF m 254 #[.val (.int p1), .val (.int p2), .val (.int p3), .val (.int p4), .val (.int n), .val (.int s1), .val (.int d1), .val (.int s2), .val (.int d2), .val (.ref c1), .val (.ref c2), .val (.ref c3), .val (.ref c4), .val (.ref ra), .val (.ref t), .val (.ref l1), .val (.ref l2), .val (.int z)] [(.ref ra), (.int d2), (.ref ra)])) _
              refine XS.iload X31.here hx rfl (hb hby at_254) rfl ?_
              show Steps p.tables e below (T31.setTop (mkF m 256 #[.val (.int p1), .val (.int p2), .val (.int p3), .val (.int p4), .val (.int n), .val (.int s1), .val (.int d1), .val (.int s2), .val (.int d2), .val (.ref c1), .val (.ref c2), .val (.ref c3), .val (.ref c4), .val (.ref ra), .val (.ref t), .val (.ref l1), .val (.ref l2), .val (.int z)] [(.int d2), (.ref ra), (.int d2), (.ref ra)])) _
              exact k
            obtain ⟨cl32, Ar32, hin32, hat32⟩ := own_read A_ra hR_d2
            refine OEnds.go (t' := T31.setTop (mkF m 257 #[.val (.int p1), .val (.int p2), .val (.int p3), .val (.int p4), .val (.int n), .val (.int s1), .val (.int d1), .val (.int s2), .val (.int d2), .val (.ref c1), .val (.ref c2), .val (.ref c3), .val (.ref c4), .val (.ref ra), .val (.ref t), .val (.ref l1), .val (.ref l2), .val (.int z)] [(.int (own_upd f s2 (f s2 + 1) d2)), (.int d2), (.ref ra)])) (fun _ k => X31.iaload hx (j := d2) (v := (.int (own_upd f s2 (f s2 + 1) d2))) (by rw [e31]; exact Ar32.1) (State.isArrayOf_alike hZ.alike Ar32.2.1) Ar32.2.2 hin32 hat32 (g := (mkF m 256 #[.val (.int p1), .val (.int p2), .val (.int p3), .val (.int p4), .val (.int n), .val (.int s1), .val (.int d1), .val (.int s2), .val (.int d2), .val (.ref c1), .val (.ref c2), .val (.ref c3), .val (.ref c4), .val (.ref ra), .val (.ref t), .val (.ref l1), .val (.ref l2), .val (.int z)] [(.int d2), (.ref ra), (.int d2), (.ref ra)])) rfl rfl (hb hby at_256) _ k) ?_
            refine OEnds.go (t' := T31.setTop (mkF m 259 #[.val (.int p1), .val (.int p2), .val (.int p3), .val (.int p4), .val (.int n), .val (.int s1), .val (.int d1), .val (.int s2), .val (.int d2), .val (.ref c1), .val (.ref c2), .val (.ref c3), .val (.ref c4), .val (.ref ra), .val (.ref t), .val (.ref l1), .val (.ref l2), .val (.int z)] [(.int ((own_upd f s2 (f s2 + 1) d2) + (1 : Int32))), (.int d2), (.ref ra)])) (fun _ k => ?_) ?_
            · show Steps p.tables e below (T31.setTop (mkF m 257 #[.val (.int p1), .val (.int p2), .val (.int p3), .val (.int p4), .val (.int n), .val (.int s1), .val (.int d1), .val (.int s2), .val (.int d2), .val (.ref c1), .val (.ref c2), .val (.ref c3), .val (.ref c4), .val (.ref ra), .val (.ref t), .val (.ref l1), .val (.ref l2), .val (.int z)] [(.int (own_upd f s2 (f s2 + 1) d2)), (.int d2), (.ref ra)])) _
              refine XS.iconst X31.here hx rfl (hb hby at_257) ?_
              show Steps p.tables e below (T31.setTop (mkF m 258 #[.val (.int p1), .val (.int p2), .val (.int p3), .val (.int p4), .val (.int n), .val (.int s1), .val (.int d1), .val (.int s2), .val (.int d2), .val (.ref c1), .val (.ref c2), .val (.ref c3), .val (.ref c4), .val (.ref ra), .val (.ref t), .val (.ref l1), .val (.ref l2), .val (.int z)] [(.int (1 : Int32)), (.int (own_upd f s2 (f s2 + 1) d2)), (.int d2), (.ref ra)])) _
              refine XS.iadd X31.here hx rfl (hb hby at_258) rfl ?_
              show Steps p.tables e below (T31.setTop (mkF m 259 #[.val (.int p1), .val (.int p2), .val (.int p3), .val (.int p4), .val (.int n), .val (.int s1), .val (.int d1), .val (.int s2), .val (.int d2), .val (.ref c1), .val (.ref c2), .val (.ref c3), .val (.ref c4), .val (.ref ra), .val (.ref t), .val (.ref l1), .val (.ref l2), .val (.int z)] [(.int ((own_upd f s2 (f s2 + 1) d2) + (1 : Int32))), (.int d2), (.ref ra)])) _
              exact k
            obtain ⟨cl33, Ar33, hin33, -⟩ := own_read A_ra hR_d2
            obtain ⟨T33, h33, X33, e33, W33, st33⟩ := stI X31 hx hZ e31 Ar33 (j := d2) hin33 (g := (mkF m 259 #[.val (.int p1), .val (.int p2), .val (.int p3), .val (.int p4), .val (.int n), .val (.int s1), .val (.int d1), .val (.int s2), .val (.int d2), .val (.ref c1), .val (.ref c2), .val (.ref c3), .val (.ref c4), .val (.ref ra), .val (.ref t), .val (.ref l1), .val (.ref l2), .val (.int z)] [(.int ((own_upd f s2 (f s2 + 1) d2) + (1 : Int32))), (.int d2), (.ref ra)])) rfl rfl (hb hby at_259)
            have N33 := Fr.snoc X33 N31 g_ra
            have E_l1 := E_l1.wr W33
            have F_route_l1 := F_route_l1.other W33 (Or.inl (Ne.symm ne_ra_l1))
            have E_r1 := E_r1.wr W33
            have F_source_r1 := F_source_r1.other W33 (Or.inl (Ne.symm ne_ra_r1))
            have F_destination_r1 := F_destination_r1.other W33 (Or.inl (Ne.symm ne_ra_r1))
            have E_l2 := E_l2.wr W33
            have F_route_l2 := F_route_l2.other W33 (Or.inl (Ne.symm ne_ra_l2))
            have E_r2 := E_r2.wr W33
            have F_source_r2 := F_source_r2.other W33 (Or.inl (Ne.symm ne_ra_r2))
            have F_destination_r2 := F_destination_r2.other W33 (Or.inl (Ne.symm ne_ra_r2))
            have A_ba := A_ba.other W33 (Ne.symm ne_ra_ba)
            have E_t := E_t.wr W33
            have F_perNode_t := F_perNode_t.other W33 (Or.inl (Ne.symm ne_ra_t))
            have F_busy_t := F_busy_t.other W33 (Or.inl (Ne.symm ne_ra_t))
            have F_busyInAll_t := F_busyInAll_t.other W33 (Or.inl (Ne.symm ne_ra_t))
            have Z33 : n0 ≤ h33.size := Nat.le_trans Z31 (Keep.of_wr W33).1
            have A_ra := own_write A_ra hR_d2 W33
            refine OEnds.go (t' := T33.setTop (mkF m 260 #[.val (.int p1), .val (.int p2), .val (.int p3), .val (.int p4), .val (.int n), .val (.int s1), .val (.int d1), .val (.int s2), .val (.int d2), .val (.ref c1), .val (.ref c2), .val (.ref c3), .val (.ref c4), .val (.ref ra), .val (.ref t), .val (.ref l1), .val (.ref l2), .val (.int z)] [])) (fun _ k => st33 _ k) ?_
            exact K260 _ _ _ X33 e33 N33 Z33 (own_bump f s2 d2) _ z A_ra A_ba E_t F_perNode_t F_busy_t F_busyInAll_t E_l1 F_route_l1 E_r1 F_source_r1 F_destination_r1 E_l2 F_route_l2 E_r2 F_source_r2 F_destination_r2 (hz.imp id (fun u => ⟨own_p0 (own_b2 _ _ _ hB u.1), own_p0 (own_b2 _ _ _ hB u.2)⟩))
    refine OEnds.go (t' := T15.setTop (mkF m 164 #[.val (.int p1), .val (.int p2), .val (.int p3), .val (.int p4), .val (.int n), .val (.int s1), .val (.int d1), .val (.int s2), .val (.int d2), .val (.ref c1), .val (.ref c2), .val (.ref c3), .val (.ref c4), .val (.ref ra), .val (.ref t), .val (.ref l1), .val (.ref l2), .val (.int (0 : Int32))] [(.int (p4 &&& (1 : Int32)))])) (fun _ k => ?_) ?_
    · show Steps p.tables e below (T15.setTop (mkF m 161 #[.val (.int p1), .val (.int p2), .val (.int p3), .val (.int p4), .val (.int n), .val (.int s1), .val (.int d1), .val (.int s2), .val (.int d2), .val (.ref c1), .val (.ref c2), .val (.ref c3), .val (.ref c4), .val (.ref ra), .val (.ref t), .val (.ref l1), .val (.ref l2), .val (.int (0 : Int32))] [])) _
      refine XS.iloadN X15.here hx rfl (hb hby at_161) rfl ?_
      show Steps p.tables e below (T15.setTop (mkF m 162 #[.val (.int p1), .val (.int p2), .val (.int p3), .val (.int p4), .val (.int n), .val (.int s1), .val (.int d1), .val (.int s2), .val (.int d2), .val (.ref c1), .val (.ref c2), .val (.ref c3), .val (.ref c4), .val (.ref ra), .val (.ref t), .val (.ref l1), .val (.ref l2), .val (.int (0 : Int32))] [(.int p4)])) _
      refine XS.iconst X15.here hx rfl (hb hby at_162) ?_
      show Steps p.tables e below (T15.setTop (mkF m 163 #[.val (.int p1), .val (.int p2), .val (.int p3), .val (.int p4), .val (.int n), .val (.int s1), .val (.int d1), .val (.int s2), .val (.int d2), .val (.ref c1), .val (.ref c2), .val (.ref c3), .val (.ref c4), .val (.ref ra), .val (.ref t), .val (.ref l1), .val (.ref l2), .val (.int (0 : Int32))] [(.int (1 : Int32)), (.int p4)])) _
      refine XS.iand X15.here hx rfl (hb hby at_163) rfl ?_
      show Steps p.tables e below (T15.setTop (mkF m 164 #[.val (.int p1), .val (.int p2), .val (.int p3), .val (.int p4), .val (.int n), .val (.int s1), .val (.int d1), .val (.int s2), .val (.int d2), .val (.ref c1), .val (.ref c2), .val (.ref c3), .val (.ref c4), .val (.ref ra), .val (.ref t), .val (.ref l1), .val (.ref l2), .val (.int (0 : Int32))] [(.int (p4 &&& (1 : Int32)))])) _
      exact k
    by_cases h164 : (p4 &&& (1 : Int32)) = (0 : Int32)
    · refine OEnds.go (t' := T15.setTop (mkF m 201 #[.val (.int p1), .val (.int p2), .val (.int p3), .val (.int p4), .val (.int n), .val (.int s1), .val (.int d1), .val (.int s2), .val (.int d2), .val (.ref c1), .val (.ref c2), .val (.ref c3), .val (.ref c4), .val (.ref ra), .val (.ref t), .val (.ref l1), .val (.ref l2), .val (.int (0 : Int32))] [])) (fun _ k => XS.ifYes X15.here hx rfl (pc0 := 164) (pc' := 201) rfl (hb hby at_164) rfl ((if0 _ _).trans (teq h164).1) (by decide) (by decide) k) ?_
      exact K201 _ _ _ X15 rfl N15 Z15 own_zero 0 0 A_ra A_ba E_t F_perNode_t F_busy_t F_busyInAll_t E_l1 F_route_l1 E_r1 F_source_r1 F_destination_r1 E_l2 F_route_l2 E_r2 F_source_r2 F_destination_r2 own_bz (Or.inl rfl)
    · refine OEnds.go (t' := T15.setTop (mkF m 167 #[.val (.int p1), .val (.int p2), .val (.int p3), .val (.int p4), .val (.int n), .val (.int s1), .val (.int d1), .val (.int s2), .val (.int d2), .val (.ref c1), .val (.ref c2), .val (.ref c3), .val (.ref c4), .val (.ref ra), .val (.ref t), .val (.ref l1), .val (.ref l2), .val (.int (0 : Int32))] [])) (fun _ k => XS.ifNo X15.here hx rfl (hb hby at_164) rfl ((if0 _ _).trans (feq h164).1) k) ?_
      refine OEnds.go (t' := T15.setTop (mkF m 171 #[.val (.int p1), .val (.int p2), .val (.int p3), .val (.int p4), .val (.int n), .val (.int s1), .val (.int d1), .val (.int s2), .val (.int d2), .val (.ref c1), .val (.ref c2), .val (.ref c3), .val (.ref c4), .val (.ref ra), .val (.ref t), .val (.ref l1), .val (.ref l2), .val (.int (0 : Int32))] [(.ref l1), (.ref t)])) (fun _ k => ?_) ?_
      · show Steps p.tables e below (T15.setTop (mkF m 167 #[.val (.int p1), .val (.int p2), .val (.int p3), .val (.int p4), .val (.int n), .val (.int s1), .val (.int d1), .val (.int s2), .val (.int d2), .val (.ref c1), .val (.ref c2), .val (.ref c3), .val (.ref c4), .val (.ref ra), .val (.ref t), .val (.ref l1), .val (.ref l2), .val (.int (0 : Int32))] [])) _
        refine XS.aload X15.here hx rfl (hb hby at_167) rfl rfl ?_
        show Steps p.tables e below (T15.setTop (mkF m 169 #[.val (.int p1), .val (.int p2), .val (.int p3), .val (.int p4), .val (.int n), .val (.int s1), .val (.int d1), .val (.int s2), .val (.int d2), .val (.ref c1), .val (.ref c2), .val (.ref c3), .val (.ref c4), .val (.ref ra), .val (.ref t), .val (.ref l1), .val (.ref l2), .val (.int (0 : Int32))] [(.ref t)])) _
        refine XS.aload X15.here hx rfl (hb hby at_169) rfl rfl ?_
        show Steps p.tables e below (T15.setTop (mkF m 171 #[.val (.int p1), .val (.int p2), .val (.int p3), .val (.int p4), .val (.int n), .val (.int s1), .val (.int d1), .val (.int s2), .val (.int d2), .val (.ref c1), .val (.ref c2), .val (.ref c3), .val (.ref c4), .val (.ref ra), .val (.ref t), .val (.ref l1), .val (.ref l2), .val (.int (0 : Int32))] [(.ref l1), (.ref t)])) _
        exact k
      obtain ⟨cq34, kq34, q34a, q34b, q34c⟩ := isOf hZ rfl E_t
      obtain ⟨_, _, ⟨T34, L34, k34, n34⟩, -, X34, ⟨Lc34, hQ34, l34, y34, z34⟩, st34⟩ := X15.virtualBack hx (y := (⟨"com/example/fragmint/fragmint/model/Transponders", "take", "(Lcom/example/fragmint/fragmint/model/Lightpath;)V"⟩ : MethodName)) (z := (⟨"com/example/fragmint/fragmint/model/Transponders", "take", "(Lcom/example/fragmint/fragmint/model/Lightpath;)V"⟩ : MethodName)) hown (mvT hZ (hw _ (List.mem_of_getElem? (i := 52) rfl))) (mvT hZ (hw _ (List.mem_of_getElem? (i := 53) rfl))) (notFace_of_selects (args := #[]) (mvT hZ (hw _ (List.mem_of_getElem? (i := 55) rfl)))) (mvT hZ (hw _ (List.mem_of_getElem? (i := 55) rfl))) (mvT hZ (hw _ (List.mem_of_getElem? (i := 54) rfl))) (by decide) (backOf (W := 0) (rm7 l Z a0 hw [] t l1 r1 s1 d1 n (0 : Int64) ba kb own_zero T15.heap n0 Z15 F_route_l1 E_l1 E_r1 F_source_r1 F_destination_r1 E_t F_perNode_t F_busy_t F_busyInAll_t A_ba hR_s1 hR_d1 (own_z _ _ hn) (own_z _ _ hn) g_t g_ba ne_t_ba) hZ (hw _ (List.mem_of_getElem? (i := 56) rfl)) (hw _ (List.mem_of_getElem? (i := 3) rfl)) (by decide) (by decide)) q34a q34c (g := (mkF m 171 #[.val (.int p1), .val (.int p2), .val (.int p3), .val (.int p4), .val (.int n), .val (.int s1), .val (.int d1), .val (.int s2), .val (.int d2), .val (.ref c1), .val (.ref c2), .val (.ref c3), .val (.ref c4), .val (.ref ra), .val (.ref t), .val (.ref l1), .val (.ref l2), .val (.int (0 : Int32))] [(.ref l1), (.ref t)])) rfl (by rw [hml]; rfl) (Steps.refl _) (argsL := [(.ref l1)]) (rest := []) (lenOf pd_rm0_4 rfl) rfl (by show 2 * 0 + _ ≤ _; exact Nat.le_of_eq rfl) (hb hby at_171) (fun _ _ => ⟨rfl, rfl, (by decide : 11 + 0 ≤ _), (by decide : 25 + 0 ≤ _)⟩)
      dsimp only [Pt.U, Pt.locs, Pt.cells, Pt.slots] at X34 l34 y34 z34 st34 hQ34
      subst l34 y34 z34
      obtain ⟨rfl, N34q, Kc34, Aa34, Ea34, Fa34, Fb34, Fc34⟩ := hQ34
      have N34 := Fr.app N15 N34q
      have A_ra := A_ra.keep Kc34 (ninS ne_ra_t (ninS ne_ra_ba nin0))
      have E_r1 := E_r1.keep Kc34
      have F_source_r1 := F_source_r1.keep Kc34 (ninS (Ne.symm ne_t_r1) (ninS (Ne.symm ne_ba_r1) nin0))
      have F_destination_r1 := F_destination_r1.keep Kc34 (ninS (Ne.symm ne_t_r1) (ninS (Ne.symm ne_ba_r1) nin0))
      have E_l1 := E_l1.keep Kc34
      have F_route_l1 := F_route_l1.keep Kc34 (ninS (Ne.symm ne_t_l1) (ninS (Ne.symm ne_ba_l1) nin0))
      have E_r2 := E_r2.keep Kc34
      have F_source_r2 := F_source_r2.keep Kc34 (ninS (Ne.symm ne_t_r2) (ninS (Ne.symm ne_ba_r2) nin0))
      have F_destination_r2 := F_destination_r2.keep Kc34 (ninS (Ne.symm ne_t_r2) (ninS (Ne.symm ne_ba_r2) nin0))
      have E_l2 := E_l2.keep Kc34
      have F_route_l2 := F_route_l2.keep Kc34 (ninS (Ne.symm ne_t_l2) (ninS (Ne.symm ne_ba_l2) nin0))
      have Z34 : n0 ≤ T34.heap.size := Nat.le_trans Z15 Kc34.1
      refine OEnds.go (t' := T34.setTop (mkF m 174 #[.val (.int p1), .val (.int p2), .val (.int p3), .val (.int p4), .val (.int n), .val (.int s1), .val (.int d1), .val (.int s2), .val (.int d2), .val (.ref c1), .val (.ref c2), .val (.ref c3), .val (.ref c4), .val (.ref ra), .val (.ref t), .val (.ref l1), .val (.ref l2), .val (.int (0 : Int32))] [])) (fun _ k => st34.trans k) ?_
      have A_ba := Aa34
      have E_t := Ea34
      have F_perNode_t := Fa34
      have F_busy_t := Fb34
      have F_busyInAll_t := Fc34
      refine OEnds.go (t' := T34.setTop (mkF m 182 #[.val (.int p1), .val (.int p2), .val (.int p3), .val (.int p4), .val (.int n), .val (.int s1), .val (.int d1), .val (.int s2), .val (.int d2), .val (.ref c1), .val (.ref c2), .val (.ref c3), .val (.ref c4), .val (.ref ra), .val (.ref t), .val (.ref l1), .val (.ref l2), .val (.int (0 : Int32))] [(.int s1), (.ref ra), (.int s1), (.ref ra)])) (fun _ k => ?_) ?_
      · show Steps p.tables e below (T34.setTop (mkF m 174 #[.val (.int p1), .val (.int p2), .val (.int p3), .val (.int p4), .val (.int n), .val (.int s1), .val (.int d1), .val (.int s2), .val (.int d2), .val (.ref c1), .val (.ref c2), .val (.ref c3), .val (.ref c4), .val (.ref ra), .val (.ref t), .val (.ref l1), .val (.ref l2), .val (.int (0 : Int32))] [])) _
        refine XS.aload X34.here hx rfl (hb hby at_174) rfl rfl ?_
        show Steps p.tables e below (T34.setTop (mkF m 176 #[.val (.int p1), .val (.int p2), .val (.int p3), .val (.int p4), .val (.int n), .val (.int s1), .val (.int d1), .val (.int s2), .val (.int d2), .val (.ref c1), .val (.ref c2), .val (.ref c3), .val (.ref c4), .val (.ref ra), .val (.ref t), .val (.ref l1), .val (.ref l2), .val (.int (0 : Int32))] [(.ref ra)])) _
        refine XS.iload X34.here hx rfl (hb hby at_176) rfl ?_
        show Steps p.tables e below (T34.setTop (mkF m 178 #[.val (.int p1), .val (.int p2), .val (.int p3), .val (.int p4), .val (.int n), .val (.int s1), .val (.int d1), .val (.int s2), .val (.int d2), .val (.ref c1), .val (.ref c2), .val (.ref c3), .val (.ref c4), .val (.ref ra), .val (.ref t), .val (.ref l1), .val (.ref l2), .val (.int (0 : Int32))] [(.int s1), (.ref ra)])) _
        refine XS.aload X34.here hx rfl (hb hby at_178) rfl rfl ?_
        show Steps p.tables e below (T34.setTop (mkF m 180 #[.val (.int p1), .val (.int p2), .val (.int p3), .val (.int p4), .val (.int n), .val (.int s1), .val (.int d1), .val (.int s2), .val (.int d2), .val (.ref c1), .val (.ref c2), .val (.ref c3), .val (.ref c4), .val (.ref ra), .val (.ref t), .val (.ref l1), .val (.ref l2), .val (.int (0 : Int32))] [(.ref ra), (.int s1), (.ref ra)])) _
        refine XS.iload X34.here hx rfl (hb hby at_180) rfl ?_
        show Steps p.tables e below (T34.setTop (mkF m 182 #[.val (.int p1), .val (.int p2), .val (.int p3), .val (.int p4), .val (.int n), .val (.int s1), .val (.int d1), .val (.int s2), .val (.int d2), .val (.ref c1), .val (.ref c2), .val (.ref c3), .val (.ref c4), .val (.ref ra), .val (.ref t), .val (.ref l1), .val (.ref l2), .val (.int (0 : Int32))] [(.int s1), (.ref ra), (.int s1), (.ref ra)])) _
        exact k
      obtain ⟨cl35, Ar35, hin35, hat35⟩ := own_read A_ra hR_s1
      refine OEnds.go (t' := T34.setTop (mkF m 183 #[.val (.int p1), .val (.int p2), .val (.int p3), .val (.int p4), .val (.int n), .val (.int s1), .val (.int d1), .val (.int s2), .val (.int d2), .val (.ref c1), .val (.ref c2), .val (.ref c3), .val (.ref c4), .val (.ref ra), .val (.ref t), .val (.ref l1), .val (.ref l2), .val (.int (0 : Int32))] [(.int (own_zero s1)), (.int s1), (.ref ra)])) (fun _ k => X34.iaload hx (j := s1) (v := (.int (own_zero s1))) Ar35.1 (State.isArrayOf_alike hZ.alike Ar35.2.1) Ar35.2.2 hin35 hat35 (g := (mkF m 182 #[.val (.int p1), .val (.int p2), .val (.int p3), .val (.int p4), .val (.int n), .val (.int s1), .val (.int d1), .val (.int s2), .val (.int d2), .val (.ref c1), .val (.ref c2), .val (.ref c3), .val (.ref c4), .val (.ref ra), .val (.ref t), .val (.ref l1), .val (.ref l2), .val (.int (0 : Int32))] [(.int s1), (.ref ra), (.int s1), (.ref ra)])) rfl rfl (hb hby at_182) _ k) ?_
      refine OEnds.go (t' := T34.setTop (mkF m 185 #[.val (.int p1), .val (.int p2), .val (.int p3), .val (.int p4), .val (.int n), .val (.int s1), .val (.int d1), .val (.int s2), .val (.int d2), .val (.ref c1), .val (.ref c2), .val (.ref c3), .val (.ref c4), .val (.ref ra), .val (.ref t), .val (.ref l1), .val (.ref l2), .val (.int (0 : Int32))] [(.int ((own_zero s1) + (1 : Int32))), (.int s1), (.ref ra)])) (fun _ k => ?_) ?_
      · show Steps p.tables e below (T34.setTop (mkF m 183 #[.val (.int p1), .val (.int p2), .val (.int p3), .val (.int p4), .val (.int n), .val (.int s1), .val (.int d1), .val (.int s2), .val (.int d2), .val (.ref c1), .val (.ref c2), .val (.ref c3), .val (.ref c4), .val (.ref ra), .val (.ref t), .val (.ref l1), .val (.ref l2), .val (.int (0 : Int32))] [(.int (own_zero s1)), (.int s1), (.ref ra)])) _
        refine XS.iconst X34.here hx rfl (hb hby at_183) ?_
        show Steps p.tables e below (T34.setTop (mkF m 184 #[.val (.int p1), .val (.int p2), .val (.int p3), .val (.int p4), .val (.int n), .val (.int s1), .val (.int d1), .val (.int s2), .val (.int d2), .val (.ref c1), .val (.ref c2), .val (.ref c3), .val (.ref c4), .val (.ref ra), .val (.ref t), .val (.ref l1), .val (.ref l2), .val (.int (0 : Int32))] [(.int (1 : Int32)), (.int (own_zero s1)), (.int s1), (.ref ra)])) _
        refine XS.iadd X34.here hx rfl (hb hby at_184) rfl ?_
        show Steps p.tables e below (T34.setTop (mkF m 185 #[.val (.int p1), .val (.int p2), .val (.int p3), .val (.int p4), .val (.int n), .val (.int s1), .val (.int d1), .val (.int s2), .val (.int d2), .val (.ref c1), .val (.ref c2), .val (.ref c3), .val (.ref c4), .val (.ref ra), .val (.ref t), .val (.ref l1), .val (.ref l2), .val (.int (0 : Int32))] [(.int ((own_zero s1) + (1 : Int32))), (.int s1), (.ref ra)])) _
        exact k
      obtain ⟨cl36, Ar36, hin36, -⟩ := own_read A_ra hR_s1
      obtain ⟨T36, h36, X36, e36, W36, st36⟩ := stI X34 hx hZ rfl Ar36 (j := s1) hin36 (g := (mkF m 185 #[.val (.int p1), .val (.int p2), .val (.int p3), .val (.int p4), .val (.int n), .val (.int s1), .val (.int d1), .val (.int s2), .val (.int d2), .val (.ref c1), .val (.ref c2), .val (.ref c3), .val (.ref c4), .val (.ref ra), .val (.ref t), .val (.ref l1), .val (.ref l2), .val (.int (0 : Int32))] [(.int ((own_zero s1) + (1 : Int32))), (.int s1), (.ref ra)])) rfl rfl (hb hby at_185)
      have N36 := Fr.snoc X36 N34 g_ra
      have E_r1 := E_r1.wr W36
      have F_source_r1 := F_source_r1.other W36 (Or.inl (Ne.symm ne_ra_r1))
      have F_destination_r1 := F_destination_r1.other W36 (Or.inl (Ne.symm ne_ra_r1))
      have E_l1 := E_l1.wr W36
      have F_route_l1 := F_route_l1.other W36 (Or.inl (Ne.symm ne_ra_l1))
      have E_r2 := E_r2.wr W36
      have F_source_r2 := F_source_r2.other W36 (Or.inl (Ne.symm ne_ra_r2))
      have F_destination_r2 := F_destination_r2.other W36 (Or.inl (Ne.symm ne_ra_r2))
      have E_l2 := E_l2.wr W36
      have F_route_l2 := F_route_l2.other W36 (Or.inl (Ne.symm ne_ra_l2))
      have A_ba := A_ba.other W36 (Ne.symm ne_ra_ba)
      have E_t := E_t.wr W36
      have F_perNode_t := F_perNode_t.other W36 (Or.inl (Ne.symm ne_ra_t))
      have F_busy_t := F_busy_t.other W36 (Or.inl (Ne.symm ne_ra_t))
      have F_busyInAll_t := F_busyInAll_t.other W36 (Or.inl (Ne.symm ne_ra_t))
      have Z36 : n0 ≤ h36.size := Nat.le_trans Z34 (Keep.of_wr W36).1
      have A_ra := own_write A_ra hR_s1 W36
      refine OEnds.go (t' := T36.setTop (mkF m 186 #[.val (.int p1), .val (.int p2), .val (.int p3), .val (.int p4), .val (.int n), .val (.int s1), .val (.int d1), .val (.int s2), .val (.int d2), .val (.ref c1), .val (.ref c2), .val (.ref c3), .val (.ref c4), .val (.ref ra), .val (.ref t), .val (.ref l1), .val (.ref l2), .val (.int (0 : Int32))] [])) (fun _ k => st36 _ k) ?_
      refine OEnds.go (t' := T36.setTop (mkF m 194 #[.val (.int p1), .val (.int p2), .val (.int p3), .val (.int p4), .val (.int n), .val (.int s1), .val (.int d1), .val (.int s2), .val (.int d2), .val (.ref c1), .val (.ref c2), .val (.ref c3), .val (.ref c4), .val (.ref ra), .val (.ref t), .val (.ref l1), .val (.ref l2), .val (.int (0 : Int32))] [(.int d1), (.ref ra), (.int d1), (.ref ra)])) (fun _ k => ?_) ?_
      · show Steps p.tables e below (T36.setTop (mkF m 186 #[.val (.int p1), .val (.int p2), .val (.int p3), .val (.int p4), .val (.int n), .val (.int s1), .val (.int d1), .val (.int s2), .val (.int d2), .val (.ref c1), .val (.ref c2), .val (.ref c3), .val (.ref c4), .val (.ref ra), .val (.ref t), .val (.ref l1), .val (.ref l2), .val (.int (0 : Int32))] [])) _
        refine XS.aload X36.here hx rfl (hb hby at_186) rfl rfl ?_
        show Steps p.tables e below (T36.setTop (mkF m 188 #[.val (.int p1), .val (.int p2), .val (.int p3), .val (.int p4), .val (.int n), .val (.int s1), .val (.int d1), .val (.int s2), .val (.int d2), .val (.ref c1), .val (.ref c2), .val (.ref c3), .val (.ref c4), .val (.ref ra), .val (.ref t), .val (.ref l1), .val (.ref l2), .val (.int (0 : Int32))] [(.ref ra)])) _
        refine XS.iload X36.here hx rfl (hb hby at_188) rfl ?_
        show Steps p.tables e below (T36.setTop (mkF m 190 #[.val (.int p1), .val (.int p2), .val (.int p3), .val (.int p4), .val (.int n), .val (.int s1), .val (.int d1), .val (.int s2), .val (.int d2), .val (.ref c1), .val (.ref c2), .val (.ref c3), .val (.ref c4), .val (.ref ra), .val (.ref t), .val (.ref l1), .val (.ref l2), .val (.int (0 : Int32))] [(.int d1), (.ref ra)])) _
        refine XS.aload X36.here hx rfl (hb hby at_190) rfl rfl ?_
        show Steps p.tables e below (T36.setTop (mkF m 192 #[.val (.int p1), .val (.int p2), .val (.int p3), .val (.int p4), .val (.int n), .val (.int s1), .val (.int d1), .val (.int s2), .val (.int d2), .val (.ref c1), .val (.ref c2), .val (.ref c3), .val (.ref c4), .val (.ref ra), .val (.ref t), .val (.ref l1), .val (.ref l2), .val (.int (0 : Int32))] [(.ref ra), (.int d1), (.ref ra)])) _
        refine XS.iload X36.here hx rfl (hb hby at_192) rfl ?_
        show Steps p.tables e below (T36.setTop (mkF m 194 #[.val (.int p1), .val (.int p2), .val (.int p3), .val (.int p4), .val (.int n), .val (.int s1), .val (.int d1), .val (.int s2), .val (.int d2), .val (.ref c1), .val (.ref c2), .val (.ref c3), .val (.ref c4), .val (.ref ra), .val (.ref t), .val (.ref l1), .val (.ref l2), .val (.int (0 : Int32))] [(.int d1), (.ref ra), (.int d1), (.ref ra)])) _
        exact k
      obtain ⟨cl37, Ar37, hin37, hat37⟩ := own_read A_ra hR_d1
      refine OEnds.go (t' := T36.setTop (mkF m 195 #[.val (.int p1), .val (.int p2), .val (.int p3), .val (.int p4), .val (.int n), .val (.int s1), .val (.int d1), .val (.int s2), .val (.int d2), .val (.ref c1), .val (.ref c2), .val (.ref c3), .val (.ref c4), .val (.ref ra), .val (.ref t), .val (.ref l1), .val (.ref l2), .val (.int (0 : Int32))] [(.int (own_upd own_zero s1 (own_zero s1 + 1) d1)), (.int d1), (.ref ra)])) (fun _ k => X36.iaload hx (j := d1) (v := (.int (own_upd own_zero s1 (own_zero s1 + 1) d1))) (by rw [e36]; exact Ar37.1) (State.isArrayOf_alike hZ.alike Ar37.2.1) Ar37.2.2 hin37 hat37 (g := (mkF m 194 #[.val (.int p1), .val (.int p2), .val (.int p3), .val (.int p4), .val (.int n), .val (.int s1), .val (.int d1), .val (.int s2), .val (.int d2), .val (.ref c1), .val (.ref c2), .val (.ref c3), .val (.ref c4), .val (.ref ra), .val (.ref t), .val (.ref l1), .val (.ref l2), .val (.int (0 : Int32))] [(.int d1), (.ref ra), (.int d1), (.ref ra)])) rfl rfl (hb hby at_194) _ k) ?_
      refine OEnds.go (t' := T36.setTop (mkF m 197 #[.val (.int p1), .val (.int p2), .val (.int p3), .val (.int p4), .val (.int n), .val (.int s1), .val (.int d1), .val (.int s2), .val (.int d2), .val (.ref c1), .val (.ref c2), .val (.ref c3), .val (.ref c4), .val (.ref ra), .val (.ref t), .val (.ref l1), .val (.ref l2), .val (.int (0 : Int32))] [(.int ((own_upd own_zero s1 (own_zero s1 + 1) d1) + (1 : Int32))), (.int d1), (.ref ra)])) (fun _ k => ?_) ?_
      · show Steps p.tables e below (T36.setTop (mkF m 195 #[.val (.int p1), .val (.int p2), .val (.int p3), .val (.int p4), .val (.int n), .val (.int s1), .val (.int d1), .val (.int s2), .val (.int d2), .val (.ref c1), .val (.ref c2), .val (.ref c3), .val (.ref c4), .val (.ref ra), .val (.ref t), .val (.ref l1), .val (.ref l2), .val (.int (0 : Int32))] [(.int (own_upd own_zero s1 (own_zero s1 + 1) d1)), (.int d1), (.ref ra)])) _
        refine XS.iconst X36.here hx rfl (hb hby at_195) ?_
        show Steps p.tables e below (T36.setTop (mkF m 196 #[.val (.int p1), .val (.int p2), .val (.int p3), .val (.int p4), .val (.int n), .val (.int s1), .val (.int d1), .val (.int s2), .val (.int d2), .val (.ref c1), .val (.ref c2), .val (.ref c3), .val (.ref c4), .val (.ref ra), .val (.ref t), .val (.ref l1), .val (.ref l2), .val (.int (0 : Int32))] [(.int (1 : Int32)), (.int (own_upd own_zero s1 (own_zero s1 + 1) d1)), (.int d1), (.ref ra)])) _
        refine XS.iadd X36.here hx rfl (hb hby at_196) rfl ?_
        show Steps p.tables e below (T36.setTop (mkF m 197 #[.val (.int p1), .val (.int p2), .val (.int p3), .val (.int p4), .val (.int n), .val (.int s1), .val (.int d1), .val (.int s2), .val (.int d2), .val (.ref c1), .val (.ref c2), .val (.ref c3), .val (.ref c4), .val (.ref ra), .val (.ref t), .val (.ref l1), .val (.ref l2), .val (.int (0 : Int32))] [(.int ((own_upd own_zero s1 (own_zero s1 + 1) d1) + (1 : Int32))), (.int d1), (.ref ra)])) _
        exact k
      obtain ⟨cl38, Ar38, hin38, -⟩ := own_read A_ra hR_d1
      obtain ⟨T38, h38, X38, e38, W38, st38⟩ := stI X36 hx hZ e36 Ar38 (j := d1) hin38 (g := (mkF m 197 #[.val (.int p1), .val (.int p2), .val (.int p3), .val (.int p4), .val (.int n), .val (.int s1), .val (.int d1), .val (.int s2), .val (.int d2), .val (.ref c1), .val (.ref c2), .val (.ref c3), .val (.ref c4), .val (.ref ra), .val (.ref t), .val (.ref l1), .val (.ref l2), .val (.int (0 : Int32))] [(.int ((own_upd own_zero s1 (own_zero s1 + 1) d1) + (1 : Int32))), (.int d1), (.ref ra)])) rfl rfl (hb hby at_197)
      have N38 := Fr.snoc X38 N36 g_ra
      have E_r1 := E_r1.wr W38
      have F_source_r1 := F_source_r1.other W38 (Or.inl (Ne.symm ne_ra_r1))
      have F_destination_r1 := F_destination_r1.other W38 (Or.inl (Ne.symm ne_ra_r1))
      have E_l1 := E_l1.wr W38
      have F_route_l1 := F_route_l1.other W38 (Or.inl (Ne.symm ne_ra_l1))
      have E_r2 := E_r2.wr W38
      have F_source_r2 := F_source_r2.other W38 (Or.inl (Ne.symm ne_ra_r2))
      have F_destination_r2 := F_destination_r2.other W38 (Or.inl (Ne.symm ne_ra_r2))
      have E_l2 := E_l2.wr W38
      have F_route_l2 := F_route_l2.other W38 (Or.inl (Ne.symm ne_ra_l2))
      have A_ba := A_ba.other W38 (Ne.symm ne_ra_ba)
      have E_t := E_t.wr W38
      have F_perNode_t := F_perNode_t.other W38 (Or.inl (Ne.symm ne_ra_t))
      have F_busy_t := F_busy_t.other W38 (Or.inl (Ne.symm ne_ra_t))
      have F_busyInAll_t := F_busyInAll_t.other W38 (Or.inl (Ne.symm ne_ra_t))
      have Z38 : n0 ≤ h38.size := Nat.le_trans Z36 (Keep.of_wr W38).1
      have A_ra := own_write A_ra hR_d1 W38
      refine OEnds.go (t' := T38.setTop (mkF m 198 #[.val (.int p1), .val (.int p2), .val (.int p3), .val (.int p4), .val (.int n), .val (.int s1), .val (.int d1), .val (.int s2), .val (.int d2), .val (.ref c1), .val (.ref c2), .val (.ref c3), .val (.ref c4), .val (.ref ra), .val (.ref t), .val (.ref l1), .val (.ref l2), .val (.int (0 : Int32))] [])) (fun _ k => st38 _ k) ?_
      refine OEnds.go (t' := T38.setTop (mkF m 201 #[.val (.int p1), .val (.int p2), .val (.int p3), .val (.int p4), .val (.int n), .val (.int s1), .val (.int d1), .val (.int s2), .val (.int d2), .val (.ref c1), .val (.ref c2), .val (.ref c3), .val (.ref c4), .val (.ref ra), .val (.ref t), .val (.ref l1), .val (.ref l2), .val (.int (1 : Int32))] [])) (fun _ k => ?_) ?_
      · show Steps p.tables e below (T38.setTop (mkF m 198 #[.val (.int p1), .val (.int p2), .val (.int p3), .val (.int p4), .val (.int n), .val (.int s1), .val (.int d1), .val (.int s2), .val (.int d2), .val (.ref c1), .val (.ref c2), .val (.ref c3), .val (.ref c4), .val (.ref ra), .val (.ref t), .val (.ref l1), .val (.ref l2), .val (.int (0 : Int32))] [])) _
        refine XS.iconst X38.here hx rfl (hb hby at_198) ?_
        show Steps p.tables e below (T38.setTop (mkF m 199 #[.val (.int p1), .val (.int p2), .val (.int p3), .val (.int p4), .val (.int n), .val (.int s1), .val (.int d1), .val (.int s2), .val (.int d2), .val (.ref c1), .val (.ref c2), .val (.ref c3), .val (.ref c4), .val (.ref ra), .val (.ref t), .val (.ref l1), .val (.ref l2), .val (.int (0 : Int32))] [(.int (1 : Int32))])) _
        refine XS.istore X38.here hx rfl (hb hby at_199) rfl (l' := #[.val (.int p1), .val (.int p2), .val (.int p3), .val (.int p4), .val (.int n), .val (.int s1), .val (.int d1), .val (.int s2), .val (.int d2), .val (.ref c1), .val (.ref c2), .val (.ref c3), .val (.ref c4), .val (.ref ra), .val (.ref t), .val (.ref l1), .val (.ref l2), .val (.int (1 : Int32))]) rfl ?_
        show Steps p.tables e below (T38.setTop (mkF m 201 #[.val (.int p1), .val (.int p2), .val (.int p3), .val (.int p4), .val (.int n), .val (.int s1), .val (.int d1), .val (.int s2), .val (.int d2), .val (.ref c1), .val (.ref c2), .val (.ref c3), .val (.ref c4), .val (.ref ra), .val (.ref t), .val (.ref l1), .val (.ref l2), .val (.int (1 : Int32))] [])) _
        exact k
      exact K201 _ _ _ X38 e38 N38 Z38 (own_bump own_zero s1 d1) _ 1 A_ra A_ba E_t F_perNode_t F_busy_t F_busyInAll_t E_l1 F_route_l1 E_r1 F_source_r1 F_destination_r1 E_l2 F_route_l2 E_r2 F_source_r2 F_destination_r2 (own_b0 _ _) (Or.inr (own_b1 _ _))
  refine OEnds.go (t' := s₁.setTop (mkF m 3 #[.val (.int p1), .val (.int p2), .val (.int p3), .val (.int p4), .unset, .unset, .unset, .unset, .unset, .unset, .unset, .unset, .unset, .unset, .unset, .unset, .unset, .unset] [(.int (p1 &&& (1 : Int32)))])) (fun _ k => ?_) ?_
  · show Steps p.tables e below (s₁.setTop (mkF m 0 #[.val (.int p1), .val (.int p2), .val (.int p3), .val (.int p4), .unset, .unset, .unset, .unset, .unset, .unset, .unset, .unset, .unset, .unset, .unset, .unset, .unset, .unset] [])) _
    refine XS.iloadN X0.here hx rfl (hb hby at_0) rfl ?_
    show Steps p.tables e below (s₁.setTop (mkF m 1 #[.val (.int p1), .val (.int p2), .val (.int p3), .val (.int p4), .unset, .unset, .unset, .unset, .unset, .unset, .unset, .unset, .unset, .unset, .unset, .unset, .unset, .unset] [(.int p1)])) _
    refine XS.iconst X0.here hx rfl (hb hby at_1) ?_
    show Steps p.tables e below (s₁.setTop (mkF m 2 #[.val (.int p1), .val (.int p2), .val (.int p3), .val (.int p4), .unset, .unset, .unset, .unset, .unset, .unset, .unset, .unset, .unset, .unset, .unset, .unset, .unset, .unset] [(.int (1 : Int32)), (.int p1)])) _
    refine XS.iand X0.here hx rfl (hb hby at_2) rfl ?_
    show Steps p.tables e below (s₁.setTop (mkF m 3 #[.val (.int p1), .val (.int p2), .val (.int p3), .val (.int p4), .unset, .unset, .unset, .unset, .unset, .unset, .unset, .unset, .unset, .unset, .unset, .unset, .unset, .unset] [(.int (p1 &&& (1 : Int32)))])) _
    exact k
  by_cases h3 : (p1 &&& (1 : Int32)) = (0 : Int32)
  · refine OEnds.go (t' := s₁.setTop (mkF m 6 #[.val (.int p1), .val (.int p2), .val (.int p3), .val (.int p4), .unset, .unset, .unset, .unset, .unset, .unset, .unset, .unset, .unset, .unset, .unset, .unset, .unset, .unset] [])) (fun _ k => XS.ifNo X0.here hx rfl (hb hby at_3) rfl ((if0 _ _).trans (teq h3).2) k) ?_
    refine OEnds.go (t' := s₁.setTop (mkF m 23 #[.val (.int p1), .val (.int p2), .val (.int p3), .val (.int p4), .unset, .unset, .unset, .unset, .unset, .unset, .unset, .unset, .unset, .unset, .unset, .unset, .unset, .unset] [(.int ((1 : Int32) + (((p1.toUInt32 >>> ((1 : Int32) &&& 31).toUInt32).toInt32) &&& (3 : Int32))))])) (fun _ k => ?_) ?_
    · show Steps p.tables e below (s₁.setTop (mkF m 6 #[.val (.int p1), .val (.int p2), .val (.int p3), .val (.int p4), .unset, .unset, .unset, .unset, .unset, .unset, .unset, .unset, .unset, .unset, .unset, .unset, .unset, .unset] [])) _
      refine XS.iconst X0.here hx rfl (hb hby at_6) ?_
      show Steps p.tables e below (s₁.setTop (mkF m 7 #[.val (.int p1), .val (.int p2), .val (.int p3), .val (.int p4), .unset, .unset, .unset, .unset, .unset, .unset, .unset, .unset, .unset, .unset, .unset, .unset, .unset, .unset] [(.int (1 : Int32))])) _
      refine XS.iloadN X0.here hx rfl (hb hby at_7) rfl ?_
      show Steps p.tables e below (s₁.setTop (mkF m 8 #[.val (.int p1), .val (.int p2), .val (.int p3), .val (.int p4), .unset, .unset, .unset, .unset, .unset, .unset, .unset, .unset, .unset, .unset, .unset, .unset, .unset, .unset] [(.int p1), (.int (1 : Int32))])) _
      refine XS.iconst X0.here hx rfl (hb hby at_8) ?_
      show Steps p.tables e below (s₁.setTop (mkF m 9 #[.val (.int p1), .val (.int p2), .val (.int p3), .val (.int p4), .unset, .unset, .unset, .unset, .unset, .unset, .unset, .unset, .unset, .unset, .unset, .unset, .unset, .unset] [(.int (1 : Int32)), (.int p1), (.int (1 : Int32))])) _
      refine XS.iushr X0.here hx rfl (hb hby at_9) rfl ?_
      show Steps p.tables e below (s₁.setTop (mkF m 10 #[.val (.int p1), .val (.int p2), .val (.int p3), .val (.int p4), .unset, .unset, .unset, .unset, .unset, .unset, .unset, .unset, .unset, .unset, .unset, .unset, .unset, .unset] [(.int ((p1.toUInt32 >>> ((1 : Int32) &&& 31).toUInt32).toInt32)), (.int (1 : Int32))])) _
      refine XS.iconst X0.here hx rfl (hb hby at_10) ?_
      show Steps p.tables e below (s₁.setTop (mkF m 11 #[.val (.int p1), .val (.int p2), .val (.int p3), .val (.int p4), .unset, .unset, .unset, .unset, .unset, .unset, .unset, .unset, .unset, .unset, .unset, .unset, .unset, .unset] [(.int (3 : Int32)), (.int ((p1.toUInt32 >>> ((1 : Int32) &&& 31).toUInt32).toInt32)), (.int (1 : Int32))])) _
      refine XS.iand X0.here hx rfl (hb hby at_11) rfl ?_
      show Steps p.tables e below (s₁.setTop (mkF m 12 #[.val (.int p1), .val (.int p2), .val (.int p3), .val (.int p4), .unset, .unset, .unset, .unset, .unset, .unset, .unset, .unset, .unset, .unset, .unset, .unset, .unset, .unset] [(.int (((p1.toUInt32 >>> ((1 : Int32) &&& 31).toUInt32).toInt32) &&& (3 : Int32))), (.int (1 : Int32))])) _
      refine XS.iadd X0.here hx rfl (hb hby at_12) rfl ?_
      show Steps p.tables e below (s₁.setTop (mkF m 13 #[.val (.int p1), .val (.int p2), .val (.int p3), .val (.int p4), .unset, .unset, .unset, .unset, .unset, .unset, .unset, .unset, .unset, .unset, .unset, .unset, .unset, .unset] [(.int ((1 : Int32) + (((p1.toUInt32 >>> ((1 : Int32) &&& 31).toUInt32).toInt32) &&& (3 : Int32))))])) _
      refine XS.goto X0.here hx rfl (pc0 := 13) (pc' := 23) rfl (hb hby at_13) (by decide) (by decide) ?_
      show Steps p.tables e below (s₁.setTop (mkF m 23 #[.val (.int p1), .val (.int p2), .val (.int p3), .val (.int p4), .unset, .unset, .unset, .unset, .unset, .unset, .unset, .unset, .unset, .unset, .unset, .unset, .unset, .unset] [(.int ((1 : Int32) + (((p1.toUInt32 >>> ((1 : Int32) &&& 31).toUInt32).toInt32) &&& (3 : Int32))))])) _
      exact k
    exact K23 _ _ X0 e0 N0 _ (own_n1 _)
  · refine OEnds.go (t' := s₁.setTop (mkF m 16 #[.val (.int p1), .val (.int p2), .val (.int p3), .val (.int p4), .unset, .unset, .unset, .unset, .unset, .unset, .unset, .unset, .unset, .unset, .unset, .unset, .unset, .unset] [])) (fun _ k => XS.ifYes X0.here hx rfl (pc0 := 3) (pc' := 16) rfl (hb hby at_3) rfl ((if0 _ _).trans (feq h3).2) (by decide) (by decide) k) ?_
    refine OEnds.go (t' := s₁.setTop (mkF m 20 #[.val (.int p1), .val (.int p2), .val (.int p3), .val (.int p4), .unset, .unset, .unset, .unset, .unset, .unset, .unset, .unset, .unset, .unset, .unset, .unset, .unset, .unset] [(.int ((p1.toUInt32 >>> ((1 : Int32) &&& 31).toUInt32).toInt32)), (.int (1 : Int32))])) (fun _ k => ?_) ?_
    · show Steps p.tables e below (s₁.setTop (mkF m 16 #[.val (.int p1), .val (.int p2), .val (.int p3), .val (.int p4), .unset, .unset, .unset, .unset, .unset, .unset, .unset, .unset, .unset, .unset, .unset, .unset, .unset, .unset] [])) _
      refine XS.iconst X0.here hx rfl (hb hby at_16) ?_
      show Steps p.tables e below (s₁.setTop (mkF m 17 #[.val (.int p1), .val (.int p2), .val (.int p3), .val (.int p4), .unset, .unset, .unset, .unset, .unset, .unset, .unset, .unset, .unset, .unset, .unset, .unset, .unset, .unset] [(.int (1 : Int32))])) _
      refine XS.iloadN X0.here hx rfl (hb hby at_17) rfl ?_
      show Steps p.tables e below (s₁.setTop (mkF m 18 #[.val (.int p1), .val (.int p2), .val (.int p3), .val (.int p4), .unset, .unset, .unset, .unset, .unset, .unset, .unset, .unset, .unset, .unset, .unset, .unset, .unset, .unset] [(.int p1), (.int (1 : Int32))])) _
      refine XS.iconst X0.here hx rfl (hb hby at_18) ?_
      show Steps p.tables e below (s₁.setTop (mkF m 19 #[.val (.int p1), .val (.int p2), .val (.int p3), .val (.int p4), .unset, .unset, .unset, .unset, .unset, .unset, .unset, .unset, .unset, .unset, .unset, .unset, .unset, .unset] [(.int (1 : Int32)), (.int p1), (.int (1 : Int32))])) _
      refine XS.iushr X0.here hx rfl (hb hby at_19) rfl ?_
      show Steps p.tables e below (s₁.setTop (mkF m 20 #[.val (.int p1), .val (.int p2), .val (.int p3), .val (.int p4), .unset, .unset, .unset, .unset, .unset, .unset, .unset, .unset, .unset, .unset, .unset, .unset, .unset, .unset] [(.int ((p1.toUInt32 >>> ((1 : Int32) &&& 31).toUInt32).toInt32)), (.int (1 : Int32))])) _
      exact k
    obtain ⟨_, _, ⟨T39, L39, k39, n39⟩, -, X39, ⟨Lc39, hQ39, l39, y39, z39⟩, st39⟩ := Jvm.LawKit.callS X0 hx (y := (⟨"java/lang/Math", "max", "(II)I"⟩ : MethodName)) hown (mvT hZ (hw _ (List.mem_of_getElem? (i := 81) rfl))) (mvT hZ (hw _ (List.mem_of_getElem? (i := 82) rfl))) (mvT hZ (hw _ (List.mem_of_getElem? (i := 83) rfl))) (mvT hZ (hw _ (List.mem_of_getElem? (i := 84) rfl))) (by decide) (backOf (W := 0) (rm12 l Z a0 hw [] (1 : Int32) ((p1.toUInt32 >>> ((1 : Int32) &&& 31).toUInt32).toInt32) h0 n0 Z0 ) hZ (hw _ (List.mem_of_getElem? (i := 84) rfl)) (hw _ (List.mem_of_getElem? (i := 83) rfl)) (by decide) (by decide)) (g := (mkF m 20 #[.val (.int p1), .val (.int p2), .val (.int p3), .val (.int p4), .unset, .unset, .unset, .unset, .unset, .unset, .unset, .unset, .unset, .unset, .unset, .unset, .unset, .unset] [(.int ((p1.toUInt32 >>> ((1 : Int32) &&& 31).toUInt32).toInt32)), (.int (1 : Int32))])) rfl (by rw [hml]; rfl) (argsL := [(.int (1 : Int32)), (.int ((p1.toUInt32 >>> ((1 : Int32) &&& 31).toUInt32).toInt32))]) (rest := []) (lenOf pd_rm0_5 rfl) rfl (by show 2 * 0 + _ ≤ _; exact Nat.le_of_eq rfl) (hb hby at_20) (fun _ _ => ⟨rfl, e0, (by decide : 0 + 0 ≤ _), (by decide : 0 + 0 ≤ _)⟩)
    dsimp only [Pt.U, Pt.locs, Pt.cells, Pt.slots] at X39 l39 y39 z39 st39 hQ39
    subst l39 y39 z39
    obtain ⟨rfl, N39q, eh⟩ := hQ39
    have N39 := Fr.app N0 N39q
    have eh39 := eh
    refine OEnds.go (t' := T39.setTop (mkF m 23 #[.val (.int p1), .val (.int p2), .val (.int p3), .val (.int p4), .unset, .unset, .unset, .unset, .unset, .unset, .unset, .unset, .unset, .unset, .unset, .unset, .unset, .unset] [(.int (own_max (1 : Int32) ((p1.toUInt32 >>> ((1 : Int32) &&& 31).toUInt32).toInt32)))])) (fun _ k => st39 _ k) ?_
    exact K23 _ _ X39 eh39 N39 _ (own_n2 _)
set_option maxRecDepth 65536 in
set_option maxHeartbeats 40000000 in
theorem comes_1 {Post : Tables → Env → Array Value → State → Outcome → State → Prop} (hpost : ∀ tb e args s v u, (limb_1_1.after args s (.returned v) u = true ∧ limb_1_2.after args s (.returned v) u = true ∧ True) → FrameEnd s (.returned v) u (Jvm.fieldLocs frame_1_writes args s ++ Jvm.arrayLocs frame_1_arrays args s ++ Jvm.staticLocs frame_1_statics s) 32 128 → Post tb e args s (.returned v) u) :
    ArmFor flags0 classFile x code maxLocals ret World_1 tables_1 room_1 Calls_1 rest_1 Pre_1 Post := by
  intro l hfl _ _ p e ha hc hk s m args below hf hA hF happ hP
  obtain ⟨hcalls, hrest, hpre⟩ := hP
  obtain ⟨-, -, -, hnamed, -, -, -, hat⟩ := (Spec.applies_iff hf).mp happ
  obtain ⟨hg, hn⟩ := and_e (Cond.before_iff.mp (show (Jvm.Cond.and given_1 narrow_1).before args s = true from hpre))
  obtain ⟨gc, g0⟩ := and_e hg
  obtain ⟨ga0, g1⟩ := and_e g0
  obtain ⟨ga1, g2⟩ := and_e g1
  obtain ⟨ga2, g3⟩ := and_e g2
  obtain ⟨w0, w1, w2, w3, rfl⟩ : ∃ w0 w1 w2 w3 : Value, args = #[w0, w1, w2, w3] := by
    have hs : args.size = 4 := by simpa [Cond.value, given_1] using gc
    obtain ⟨L⟩ := args
    match L, hs with
    | [w0, w1, w2, w3], _ => exact ⟨w0, w1, w2, w3, rfl⟩
  have hw := fun d (hd : d ∈ tables_1) => atoms_spec (ws := Jvm.Cond.code x code maxLocals ret :: tables_1) hat d (List.mem_cons_of_mem _ hd)
  have hfit : Fit s := fun {y c} hc i hi => by
    obtain ⟨ha, rfl⟩ := Array.getElem?_eq_some_iff.mp hc
    have q := List.all_eq_true.mp ((Array.all_eq_true_iff_forall_mem.mp hF) _ (Array.getElem_mem ha)) i (List.mem_range.mpr hi)
    simpa [Array.getElem?_eq_getElem hi] using q
  obtain ⟨i0, ei0⟩ := is_v ga0
  obtain rfl : w0 = (.int i0) := Option.some.inj ei0
  obtain ⟨i1, ei1⟩ := is_v ga1
  obtain rfl : w1 = (.int i1) := Option.some.inj ei1
  obtain ⟨i2, ei2⟩ := is_v ga2
  obtain rfl : w2 = (.int i2) := Option.some.inj ei2
  obtain ⟨i3, ei3⟩ := is_v g3
  obtain rfl : w3 = (.int i3) := Option.some.inj ei3
  obtain ⟨n, o, h1, h2, h3, _, L, rfl, ⟨rfl, N⟩, hq⟩ := rm0 l s _ hw tables_1 i0 i1 i2 i3  s.heap s.heap.size (Nat.le_refl _)  p e ha hc hk s m _ below hf ((Spec.applies_iff_loose hf).mp happ).1 ⟨rfl, State.Warmed39.refl s, rfl⟩ trivial
  refine ⟨n, _, h1, h2, h3, hpost _ _ _ _ _ _ ⟨Cond.after_iff.mpr rfl, Cond.after_iff.mpr (eq_i res_at (Term.int_eval (1)) rfl), trivial⟩ ⟨hq.1, hq.2.1, (hq.2.2.sift fun y hy => Or.inr (N y hy)).mono (by decide) (by decide)⟩⟩
theorem main_1_1 : Claimed_1_1 := comes_1 fun _ _ _ _ _ _ h hF => ⟨h.1, hF⟩
theorem main_1_2 : Claimed_1_2 := comes_1 fun _ _ _ _ _ _ h hF => ⟨h.2.1, hF⟩
end Jvm.Pilot.@@N@@
namespace Jvm.Pilot.@@N@@
open Jvm Jvm.ClassFile Sem Op Lib Jvm.Free Jvm.Stand Jvm.Pilot.@@N@@.Jvm.D
/-! MADE BY PROGRAM (witnessworld.py) out of the Statement's table words and the real class files: 13 classes; the members and pool entries that the words name. The judged class is class 1, her method 1. -/
namespace start1
open Jvm.ClassFile
def u (s : String) : CpInfo := .utf8 (stringToUtf16 s)
/-- a pool by its gaps: so many unusable entries, then the entry; so many at the end -/
def gap : Nat → List CpInfo → List CpInfo
  | 0, r => r
  | n + 1, r => .unusable :: gap n r
def poolList (es : List (Nat × CpInfo)) (last : Nat) : List CpInfo := es.foldr (fun e r => gap e.1 (e.2 :: r)) (gap last [])
def pool (es : List (Nat × CpInfo)) (last : Nat) : Array CpInfo := ⟨poolList es last⟩
def fileOf (pool : Array CpInfo) (this : Nat) (attrs : Array Attribute := #[]) (ms : Array MethodInfo := #[]) (fl : Nat := 33) (sup : Nat := 0) (ifs : Array Nat := #[]) (fds : Array FieldInfo := #[]) : ClassFile where
  minorVersion := 0
  majorVersion := 65
  constantPool := pool
  accessFlags := fl
  thisClass := this
  superClass := sup
  interfaces := ifs
  fields := fds
  methods := ms
  attributes := attrs
def plain (name : String) (sup : Option ClassId) : Class where
  name := name
  kind := .ordinary
  loader := none
  accessFlags := 33
  super := sup
  interfaces := #[]
  cf := none
  fields := #[]
  methods := #[]
  instanceTypes := #[]
  staticTypes := #[]
  resolved := #[]
  callSites := []
  init := .initialized
  statics := none
  mirror := none

def pool0 : Array CpInfo := pool [(5, u "<init>"), (0, u "()V"), (1, .class_ 10), (1, u "java/lang/Object")] 113

def k0c0 : Code := { maxStack := 0, maxLocals := 1, code := object_method_1_code, exceptionTable := #[], attributes := #[] }
def k0m0 : Method := { name := "<init>", desc := "()V", sig := { parameters := [], returnType := none }, accessFlags := 1, code := some k0c0 }
/-- java/lang/Object -/
def k0 : Class := { plain "java/lang/Object" none with
  accessFlags := 33
  interfaces := #[]
  cf := some (fileOf pool0 8 #[] #[{ accessFlags := 1, nameIndex := 5, descriptorIndex := 6, attributes := #[] }] 33 0 #[] #[])
  fields := #[]
  methods := #[k0m0]
  instanceTypes := #[]
  staticTypes := #[]
  resolved := Array.replicate 124 none
  statics := none }

def pool1 : Array CpInfo := pool [(2, .class_ 4), (1, u "java/lang/Object"), (0, u "<init>"), (0, u "()V"), (0, .methodref 8 9), (0, .class_ 10), (0, .nameAndType 11 12), (0, u "java/lang/Math"), (0, u "max"), (0, u "(II)I"), (0, .class_ 14), (0, u "com/example/fragmint/fragmint/model/Transponders"), (0, .methodref 13 16), (0, .nameAndType 5 17), (0, u "(II)V"), (0, .class_ 19), (0, u "com/example/fragmint/fragmint/model/Lightpath"), (0, .class_ 21), (0, u "com/example/fragmint/fragmint/model/Route"), (0, .methodref 20 23), (0, .nameAndType 5 24), (0, u "(II[II[I)V"), (0, .methodref 18 26), (0, .nameAndType 5 27), (0, u "(Lcom/example/fragmint/fragmint/model/Route;II)V"), (0, .methodref 13 29), (0, .nameAndType 30 31), (0, u "take"), (0, u "(Lcom/example/fragmint/fragmint/model/Lightpath;)V"), (0, .methodref 13 33), (0, .nameAndType 34 31), (0, u "release"), (0, .methodref 13 36), (0, .nameAndType 37 38), (0, u "idle"), (0, u "(I)I"), (0, .class_ 40), (0, u "com/example/fragmint/fragmint/model/TranspondersIdlePinLaw"), (2, u "law"), (0, u "(IIII)Z")] 5

def k1m0 : Method := { name := "<init>", desc := "()V", sig := { parameters := [], returnType := none }, accessFlags := 1, code := none }
def k1c1 : Code := { maxStack := 9, maxLocals := 18, code := code, exceptionTable := #[], attributes := #[] }
def k1m1 : Method := { name := "law", desc := "(IIII)Z", sig := { parameters := [.int, .int, .int, .int], returnType := some .boolean }, accessFlags := 9, code := some k1c1 }
/-- com/example/fragmint/fragmint/model/TranspondersIdlePinLaw -/
def k1 : Class := { plain "com/example/fragmint/fragmint/model/TranspondersIdlePinLaw" (some 0) with
  accessFlags := 49
  interfaces := #[]
  cf := some (fileOf pool1 39 #[] #[{ accessFlags := 1, nameIndex := 5, descriptorIndex := 6, attributes := #[] }, { accessFlags := 9, nameIndex := 43, descriptorIndex := 44, attributes := #[] }] 49 2 #[] #[])
  fields := #[]
  methods := #[k1m0, k1m1]
  instanceTypes := #[]
  staticTypes := #[]
  resolved := Array.replicate 50 none
  statics := none }

def pool2 : Array CpInfo := pool [(1, .methodref 2 3), (0, .class_ 4), (0, .nameAndType 5 6), (0, u "java/lang/Object"), (0, u "<init>"), (0, u "()V"), (9, .methodref 17 18), (0, .class_ 19), (0, .nameAndType 20 21), (0, u "com/example/fragmint/fragmint/model/Transponders"), (0, u "check"), (0, u "(I)V"), (0, .fieldref 17 23), (0, .nameAndType 24 25), (0, u "perNode"), (0, u "I"), (0, .fieldref 17 27), (0, .nameAndType 28 29), (0, u "busy"), (0, u "[I"), (1, .fieldref 17 32), (0, .nameAndType 33 34), (0, u "busyInAll"), (0, u "J"), (0, .methodref 36 37), (0, .class_ 38), (0, .nameAndType 39 40), (0, u "com/example/fragmint/fragmint/model/Lightpath"), (0, u "route"), (0, u "()Lcom/example/fragmint/fragmint/model/Route;"), (0, .methodref 42 43), (0, .class_ 44), (0, .nameAndType 45 46), (0, u "com/example/fragmint/fragmint/model/Route"), (0, u "source"), (0, u "()I"), (0, .methodref 42 48), (0, .nameAndType 49 46), (0, u "destination"), (0, .methodref 17 51), (0, .nameAndType 52 53), (0, u "idle"), (0, u "(I)I"), (12, .long 2), (2, u "(II)V"), (4, u "take"), (0, u "(Lcom/example/fragmint/fragmint/model/Lightpath;)V"), (0, u "release")] 23

def k2c0 : Code := { maxStack := 3, maxLocals := 3, code := prog_56_method_1_code, exceptionTable := #[], attributes := #[] }
def k2m0 : Method := { name := "<init>", desc := "(II)V", sig := { parameters := [.int, .int], returnType := none }, accessFlags := 1, code := some k2c0 }
def k2c1 : Code := { maxStack := 3, maxLocals := 1, code := prog_56_method_2_code, exceptionTable := #[], attributes := #[] }
def k2m1 : Method := { name := "check", desc := "(I)V", sig := { parameters := [.int], returnType := none }, accessFlags := 9, code := some k2c1 }
def k2c2 : Code := { maxStack := 3, maxLocals := 2, code := prog_56_method_3_code, exceptionTable := #[], attributes := #[] }
def k2m2 : Method := { name := "idle", desc := "(I)I", sig := { parameters := [.int], returnType := some .int }, accessFlags := 1, code := some k2c2 }
def k2c3 : Code := { maxStack := 5, maxLocals := 4, code := prog_56_method_5_code, exceptionTable := #[], attributes := #[] }
def k2m3 : Method := { name := "take", desc := "(Lcom/example/fragmint/fragmint/model/Lightpath;)V", sig := { parameters := [(.object "com/example/fragmint/fragmint/model/Lightpath")], returnType := none }, accessFlags := 1, code := some k2c3 }
def k2c4 : Code := { maxStack := 5, maxLocals := 4, code := prog_56_method_6_code, exceptionTable := #[], attributes := #[] }
def k2m4 : Method := { name := "release", desc := "(Lcom/example/fragmint/fragmint/model/Lightpath;)V", sig := { parameters := [(.object "com/example/fragmint/fragmint/model/Lightpath")], returnType := none }, accessFlags := 1, code := some k2c4 }
/-- com/example/fragmint/fragmint/model/Transponders -/
def k2 : Class := { plain "com/example/fragmint/fragmint/model/Transponders" (some 0) with
  accessFlags := 49
  interfaces := #[]
  cf := some (fileOf pool2 17 #[] #[{ accessFlags := 1, nameIndex := 5, descriptorIndex := 69, attributes := #[] }, { accessFlags := 9, nameIndex := 20, descriptorIndex := 21, attributes := #[] }, { accessFlags := 1, nameIndex := 52, descriptorIndex := 53, attributes := #[] }, { accessFlags := 1, nameIndex := 74, descriptorIndex := 75, attributes := #[] }, { accessFlags := 1, nameIndex := 76, descriptorIndex := 75, attributes := #[] }] 49 2 #[] #[{ accessFlags := 18, nameIndex := 24, descriptorIndex := 25, attributes := #[] }, { accessFlags := 18, nameIndex := 28, descriptorIndex := 29, attributes := #[] }, { accessFlags := 2, nameIndex := 33, descriptorIndex := 34, attributes := #[] }])
  fields := #[{ name := "perNode", type := .int, accessFlags := 18, slot := 0, constantValue := 0 }, { name := "busy", type := (.array .int), accessFlags := 18, slot := 1, constantValue := 0 }, { name := "busyInAll", type := .long, accessFlags := 2, slot := 2, constantValue := 0 }]
  methods := #[k2m0, k2m1, k2m2, k2m3, k2m4]
  instanceTypes := #[.int, (.array .int), .long]
  staticTypes := #[]
  resolved := Array.replicate 100 none
  statics := none }

def pool3 : Array CpInfo := pool [(1, .methodref 2 3), (0, .class_ 4), (0, .nameAndType 5 6), (0, u "java/lang/Object"), (0, u "<init>"), (0, u "()V"), (0, .class_ 8), (0, u "java/lang/Record")] 13

def k3c0 : Code := { maxStack := 1, maxLocals := 1, code := jdk_30_method_1_code, exceptionTable := #[], attributes := #[] }
def k3m0 : Method := { name := "<init>", desc := "()V", sig := { parameters := [], returnType := none }, accessFlags := 4, code := some k3c0 }
/-- java/lang/Record -/
def k3 : Class := { plain "java/lang/Record" (some 0) with
  accessFlags := 1057
  interfaces := #[]
  cf := some (fileOf pool3 7 #[] #[{ accessFlags := 4, nameIndex := 5, descriptorIndex := 6, attributes := #[] }] 1057 2 #[] #[])
  fields := #[]
  methods := #[k3m0]
  instanceTypes := #[]
  staticTypes := #[]
  resolved := Array.replicate 22 none
  statics := none }

def pool4 : Array CpInfo := pool [(1, .methodref 2 3), (0, .class_ 4), (0, .nameAndType 5 6), (0, u "java/lang/Record"), (0, u "<init>"), (0, u "()V"), (0, .fieldref 8 9), (0, .class_ 10), (0, .nameAndType 11 12), (0, u "com/example/fragmint/fragmint/model/Lightpath"), (0, u "route"), (0, u "Lcom/example/fragmint/fragmint/model/Route;"), (0, .fieldref 8 14), (0, .nameAndType 15 16), (0, u "firstSlot"), (0, u "I"), (0, .fieldref 8 18), (0, .nameAndType 19 16), (0, u "size"), (12, u "(Lcom/example/fragmint/fragmint/model/Route;II)V"), (6, u "()Lcom/example/fragmint/fragmint/model/Route;")] 22

def k4c0 : Code := { maxStack := 2, maxLocals := 4, code := prog_46_method_1_code, exceptionTable := #[], attributes := #[] }
def k4m0 : Method := { name := "<init>", desc := "(Lcom/example/fragmint/fragmint/model/Route;II)V", sig := { parameters := [(.object "com/example/fragmint/fragmint/model/Route"), .int, .int], returnType := none }, accessFlags := 1, code := some k4c0 }
def k4c1 : Code := { maxStack := 1, maxLocals := 1, code := prog_46_method_5_code, exceptionTable := #[], attributes := #[] }
def k4m1 : Method := { name := "route", desc := "()Lcom/example/fragmint/fragmint/model/Route;", sig := { parameters := [], returnType := some (.object "com/example/fragmint/fragmint/model/Route") }, accessFlags := 1, code := some k4c1 }
/-- com/example/fragmint/fragmint/model/Lightpath -/
def k4 : Class := { plain "com/example/fragmint/fragmint/model/Lightpath" (some 3) with
  accessFlags := 49
  interfaces := #[]
  cf := some (fileOf pool4 8 #[] #[{ accessFlags := 1, nameIndex := 5, descriptorIndex := 32, attributes := #[] }, { accessFlags := 1, nameIndex := 11, descriptorIndex := 39, attributes := #[] }] 49 2 #[] #[{ accessFlags := 18, nameIndex := 11, descriptorIndex := 12, attributes := #[] }, { accessFlags := 18, nameIndex := 15, descriptorIndex := 16, attributes := #[] }, { accessFlags := 18, nameIndex := 19, descriptorIndex := 16, attributes := #[] }])
  fields := #[{ name := "route", type := (.object "com/example/fragmint/fragmint/model/Route"), accessFlags := 18, slot := 0, constantValue := 0 }, { name := "firstSlot", type := .int, accessFlags := 18, slot := 1, constantValue := 0 }, { name := "size", type := .int, accessFlags := 18, slot := 2, constantValue := 0 }]
  methods := #[k4m0, k4m1]
  instanceTypes := #[(.object "com/example/fragmint/fragmint/model/Route"), .int, .int]
  staticTypes := #[]
  resolved := Array.replicate 62 none
  statics := none }

def pool5 : Array CpInfo := pool [(1, .methodref 2 3), (0, .class_ 4), (0, .nameAndType 5 6), (0, u "java/lang/Object"), (0, u "<init>"), (0, u "()V"), (0, .fieldref 8 9), (0, .class_ 10), (0, .nameAndType 11 12), (0, u "com/example/fragmint/fragmint/model/Route"), (0, u "source"), (0, u "I"), (0, .fieldref 8 14), (0, .nameAndType 15 12), (0, u "destination"), (0, .fieldref 8 17), (0, .nameAndType 18 19), (0, u "links"), (0, u "[I"), (0, .fieldref 8 21), (0, .nameAndType 22 12), (0, u "slots"), (0, .fieldref 8 24), (0, .nameAndType 25 19), (0, u "nodeIds"), (37, u "(II[II[I)V"), (2, u "()I")] 29

def k5c0 : Code := { maxStack := 2, maxLocals := 6, code := prog_53_method_1_code, exceptionTable := #[], attributes := #[] }
def k5m0 : Method := { name := "<init>", desc := "(II[II[I)V", sig := { parameters := [.int, .int, (.array .int), .int, (.array .int)], returnType := none }, accessFlags := 0, code := some k5c0 }
def k5c1 : Code := { maxStack := 1, maxLocals := 1, code := prog_53_method_2_code, exceptionTable := #[], attributes := #[] }
def k5m1 : Method := { name := "source", desc := "()I", sig := { parameters := [], returnType := some .int }, accessFlags := 1, code := some k5c1 }
def k5c2 : Code := { maxStack := 1, maxLocals := 1, code := prog_53_method_3_code, exceptionTable := #[], attributes := #[] }
def k5m2 : Method := { name := "destination", desc := "()I", sig := { parameters := [], returnType := some .int }, accessFlags := 1, code := some k5c2 }
/-- com/example/fragmint/fragmint/model/Route -/
def k5 : Class := { plain "com/example/fragmint/fragmint/model/Route" (some 0) with
  accessFlags := 49
  interfaces := #[]
  cf := some (fileOf pool5 8 #[] #[{ accessFlags := 0, nameIndex := 5, descriptorIndex := 63, attributes := #[] }, { accessFlags := 1, nameIndex := 11, descriptorIndex := 66, attributes := #[] }, { accessFlags := 1, nameIndex := 15, descriptorIndex := 66, attributes := #[] }] 49 2 #[] #[{ accessFlags := 18, nameIndex := 11, descriptorIndex := 12, attributes := #[] }, { accessFlags := 18, nameIndex := 15, descriptorIndex := 12, attributes := #[] }, { accessFlags := 16, nameIndex := 18, descriptorIndex := 19, attributes := #[] }, { accessFlags := 18, nameIndex := 22, descriptorIndex := 12, attributes := #[] }, { accessFlags := 18, nameIndex := 25, descriptorIndex := 19, attributes := #[] }])
  fields := #[{ name := "source", type := .int, accessFlags := 18, slot := 0, constantValue := 0 }, { name := "destination", type := .int, accessFlags := 18, slot := 1, constantValue := 0 }, { name := "links", type := (.array .int), accessFlags := 16, slot := 2, constantValue := 0 }, { name := "slots", type := .int, accessFlags := 18, slot := 3, constantValue := 0 }, { name := "nodeIds", type := (.array .int), accessFlags := 18, slot := 4, constantValue := 0 }]
  methods := #[k5m0, k5m1, k5m2]
  instanceTypes := #[.int, .int, (.array .int), .int, (.array .int)]
  staticTypes := #[]
  resolved := Array.replicate 96 none
  statics := none }

def pool6 : Array CpInfo := pool [(1, .class_ 2), (0, u "java/lang/Math"), (1, .class_ 6), (1, u "java/lang/Object"), (0, u "<init>"), (0, u "()V"), (89, .class_ 100), (1, u "java/lang/Math$RandomNumberGeneratorHolder"), (71, u "negativeZeroFloatBits"), (0, u "J"), (2, u "negativeZeroDoubleBits"), (21, u "max"), (46, u "$assertionsDisabled"), (0, u "Z"), (88, u "(II)I"), (2, u "twoToTheDoubleScaleDown"), (0, u "D"), (4, u "twoToTheDoubleScaleUp"), (9, u "E"), (3, u "PI"), (2, u "TAU"), (2, u "DEGREES_TO_RADIANS"), (0, u "RADIANS_TO_DEGREES")] 94

def k6m0 : Method := { name := "<init>", desc := "()V", sig := { parameters := [], returnType := none }, accessFlags := 2, code := none }
def k6c1 : Code := { maxStack := 2, maxLocals := 2, code := jdk_29_method_65_code, exceptionTable := #[], attributes := #[] }
def k6m1 : Method := { name := "max", desc := "(II)I", sig := { parameters := [.int, .int], returnType := some .int }, accessFlags := 9, code := some k6c1 }
/-- java/lang/Math -/
def k6 : Class := { plain "java/lang/Math" (some 0) with
  accessFlags := 49
  interfaces := #[]
  cf := some (fileOf pool6 1 #[.nestMembers #[98]] #[{ accessFlags := 2, nameIndex := 7, descriptorIndex := 8, attributes := #[] }, { accessFlags := 9, nameIndex := 198, descriptorIndex := 335, attributes := #[] }] 49 4 #[] #[{ accessFlags := 25, nameIndex := 354, descriptorIndex := 339, attributes := #[] }, { accessFlags := 25, nameIndex := 358, descriptorIndex := 339, attributes := #[] }, { accessFlags := 25, nameIndex := 361, descriptorIndex := 339, attributes := #[] }, { accessFlags := 26, nameIndex := 364, descriptorIndex := 339, attributes := #[] }, { accessFlags := 26, nameIndex := 365, descriptorIndex := 339, attributes := #[] }, { accessFlags := 26, nameIndex := 172, descriptorIndex := 173, attributes := #[] }, { accessFlags := 26, nameIndex := 176, descriptorIndex := 173, attributes := #[] }, { accessFlags := 8, nameIndex := 344, descriptorIndex := 339, attributes := #[] }, { accessFlags := 8, nameIndex := 338, descriptorIndex := 339, attributes := #[] }, { accessFlags := 4120, nameIndex := 245, descriptorIndex := 246, attributes := #[] }])
  fields := #[{ name := "E", type := .double, accessFlags := 25, slot := 0, constantValue := 0 }, { name := "PI", type := .double, accessFlags := 25, slot := 1, constantValue := 0 }, { name := "TAU", type := .double, accessFlags := 25, slot := 2, constantValue := 0 }, { name := "DEGREES_TO_RADIANS", type := .double, accessFlags := 26, slot := 3, constantValue := 0 }, { name := "RADIANS_TO_DEGREES", type := .double, accessFlags := 26, slot := 4, constantValue := 0 }, { name := "negativeZeroFloatBits", type := .long, accessFlags := 26, slot := 5, constantValue := 0 }, { name := "negativeZeroDoubleBits", type := .long, accessFlags := 26, slot := 6, constantValue := 0 }, { name := "twoToTheDoubleScaleUp", type := .double, accessFlags := 8, slot := 7, constantValue := 0 }, { name := "twoToTheDoubleScaleDown", type := .double, accessFlags := 8, slot := 8, constantValue := 0 }, { name := "$assertionsDisabled", type := .boolean, accessFlags := 4120, slot := 9, constantValue := 0 }]
  methods := #[k6m0, k6m1]
  instanceTypes := #[]
  staticTypes := #[.double, .double, .double, .double, .double, .long, .long, .double, .double, .boolean]
  resolved := Array.replicate 460 none
  statics := none }

def pool7 : Array CpInfo := pool [(1, u "java/lang/Cloneable"), (0, .class_ 1), (0, u "java/lang/Object"), (0, .class_ 3)] 3

/-- java/lang/Cloneable -/
def k7 : Class := { plain "java/lang/Cloneable" (some 0) with
  accessFlags := 1537
  interfaces := #[]
  cf := some (fileOf pool7 2 #[] #[] 1537 4 #[] #[])
  fields := #[]
  methods := #[]
  instanceTypes := #[]
  staticTypes := #[]
  resolved := Array.replicate 8 none
  statics := none }

def pool8 : Array CpInfo := pool [(1, u "java/io/Serializable"), (0, .class_ 1), (0, u "java/lang/Object"), (0, .class_ 3)] 3

/-- java/io/Serializable -/
def k8 : Class := { plain "java/io/Serializable" (some 0) with
  accessFlags := 1537
  interfaces := #[]
  cf := some (fileOf pool8 2 #[] #[] 1537 4 #[] #[])
  fields := #[]
  methods := #[]
  instanceTypes := #[]
  staticTypes := #[]
  resolved := Array.replicate 8 none
  statics := none }

/-- the primitive byte -/
def k9 : Class := { plain "byte" none with kind := .primitive 'B', accessFlags := 0x411 }
/-- [B -/
def k10 : Class := { plain "[B" (some 0) with kind := .array 9 .byte, interfaces := #[7, 8], accessFlags := 1041 }

/-- the primitive int -/
def k11 : Class := { plain "int" none with kind := .primitive 'I', accessFlags := 0x411 }
/-- [I -/
def k12 : Class := { plain "[I" (some 0) with kind := .array 11 .int, interfaces := #[7, 8], accessFlags := 1041 }

def heap : Heap := #[]
def classes : Array Class := #[k0, k1, k2, k3, k4, k5, k6, k7, k8, k9, k10, k11, k12]
def interned : List (Array UInt16 × Addr) := []
def slotsUsed : Nat := 0
def theMethod : MethodId := ⟨1, 1⟩
def args0 : Array Value := #[.int 4, .int 7, .int 9, .int 11]
def aboutOver (below : List Frame) : State where
  vm := { classes := classes, interned := interned.toArray }
  heap := heap
  slotsUsed := slotsUsed
  threads := #[{ frames := .invoking theMethod args0 :: below }]
def below0 : List Frame := [.native { method := ⟨0, 0⟩, args := #[] }]
def about1 : State := aboutOver below0
def p0 : Program := .bare "" "" ""
def e0 : Env := launch0.env 0 0 0
theorem w_frames : about1.frames = Frame.invoking theMethod args0 :: below0 := rfl
set_option maxRecDepth 65536 in
theorem w_args : argsFit about1.vm theMethod args0 = true := by decide +kernel
set_option maxRecDepth 65536 in
theorem w_heap : heapFits about1 = true := by decide +kernel
set_option maxRecDepth 65536 in
theorem w_runnable : about1.curStatus? = some .runnable := by decide +kernel
set_option maxRecDepth 65536 in
theorem w_alone : about1.alone = true := by decide +kernel
set_option maxRecDepth 65536 in
theorem w_named : about1.methodNamed? x = some theMethod := by decide +kernel
set_option maxRecDepth 65536 in
theorem w_hears : about1.hears theMethod below0 = true := by decide +kernel
set_option maxRecDepth 65536 in
theorem w_ripe : about1.ripe theMethod args0 below0 = true := by decide +kernel
theorem w_running : about1.status = .running := rfl
set_option maxRecDepth 65536 in
theorem w_room : about1.hasRoom e0.platform room_1 = true :=
  launch0.hasRoom_least _ room_1 (by decide +kernel) (by decide +kernel) (by decide +kernel) (by decide +kernel) (by decide +kernel) (by decide +kernel)
theorem allAtoms_all (ts : List Jvm.Cond) (a : Array Jvm.Value) (st : Jvm.State) : (allAtoms ts).before a st = ts.all (fun c => c.before a st) := by
  induction ts with
  | nil => rfl
  | cons c t ih =>
    show (Jvm.Cond.and c (allAtoms t)).before a st = _
    rw [Jvm.Cond.before_and, ih, List.all_cons]
def words1 : List Jvm.Cond := Jvm.Cond.code x code maxLocals ret :: tables_1
/-- a 'code' word, met by the world's own term for the bytes: nothing is compared byte by byte -/
theorem code_word {y : MethodName} {bytes : ByteArray} {mx : Nat} {rt : Option FieldType} {a : Array Value} {s : State} {m : MethodId} {meth : Method} {c : Code} (h1 : s.methodNamed? y = some m) (h2 : s.vm.method? m = some meth) (h3 : meth.code = some c) (h4 : c.code = bytes)
    (h5 : (c.maxLocals == mx && c.exceptionTable.isEmpty && decide (c.maxStack ≤ mostOperands) && decide (meth.sig.returnType = rt) && !meth.locks && decide (parseMethodDescriptor y.desc = some meth.sig)) = true) : (Jvm.Cond.code y bytes mx rt).before a s = true := by
  simp only [Bool.and_eq_true, beq_iff_eq, Bool.not_eq_true', decide_eq_true_eq] at h5
  obtain ⟨⟨⟨⟨⟨g1, g2⟩, g3⟩, g4⟩, g5⟩, g6⟩ := h5
  simp [Cond.before, Cond.holds, Cond.value, h1, h2, h3, h4, g1, g2, g3, g4, g5, g6]
def isCode : Jvm.Cond → Bool
  | .code _ _ _ _ => true
  | _ => false
theorem all_split {L : List Jvm.Cond} {P : Jvm.Cond → Bool} (h1 : L.all (fun c => isCode c || P c) = true) (h2 : ∀ c ∈ L.filter isCode, P c = true) : L.all P = true := by
  refine List.all_eq_true.mpr fun c hc => ?_
  have h := List.all_eq_true.mp h1 c hc
  rcases Bool.eq_false_or_eq_true (isCode c) with hi | hi
  · exact h2 c (List.mem_filter.mpr ⟨hc, hi⟩)
  · simpa [hi] using h
set_option maxRecDepth 65536 in
theorem w_c0 : (Jvm.Cond.code x code maxLocals ret).before args0 about1 = true := code_word (m := ⟨1, 1⟩) (meth := k1m1) (c := k1c1) (by decide +kernel) rfl rfl rfl (by decide +kernel)
set_option maxRecDepth 65536 in
theorem w_c1 : (Jvm.Cond.code ({ cls := "com/example/fragmint/fragmint/model/Transponders", name := "<init>", desc := "(II)V" } : Jvm.MethodName) prog_56_method_1_code (3 : Nat) (Option.none : Option Jvm.ClassFile.FieldType)).before args0 about1 = true := code_word (m := ⟨2, 0⟩) (meth := k2m0) (c := k2c0) (by decide +kernel) rfl rfl rfl (by decide +kernel)
set_option maxRecDepth 65536 in
theorem w_c2 : (Jvm.Cond.code ({ cls := "java/lang/Object", name := "<init>", desc := "()V" } : Jvm.MethodName) object_method_1_code (1 : Nat) (Option.none : Option Jvm.ClassFile.FieldType)).before args0 about1 = true := code_word (m := ⟨0, 0⟩) (meth := k0m0) (c := k0c0) (by decide +kernel) rfl rfl rfl (by decide +kernel)
set_option maxRecDepth 65536 in
theorem w_c3 : (Jvm.Cond.code ({ cls := "com/example/fragmint/fragmint/model/Transponders", name := "check", desc := "(I)V" } : Jvm.MethodName) prog_56_method_2_code (1 : Nat) (Option.none : Option Jvm.ClassFile.FieldType)).before args0 about1 = true := code_word (m := ⟨2, 1⟩) (meth := k2m1) (c := k2c1) (by decide +kernel) rfl rfl rfl (by decide +kernel)
set_option maxRecDepth 65536 in
theorem w_c4 : (Jvm.Cond.code ({ cls := "com/example/fragmint/fragmint/model/Route", name := "<init>", desc := "(II[II[I)V" } : Jvm.MethodName) prog_53_method_1_code (6 : Nat) (Option.none : Option Jvm.ClassFile.FieldType)).before args0 about1 = true := code_word (m := ⟨5, 0⟩) (meth := k5m0) (c := k5c0) (by decide +kernel) rfl rfl rfl (by decide +kernel)
set_option maxRecDepth 65536 in
theorem w_c5 : (Jvm.Cond.code ({ cls := "com/example/fragmint/fragmint/model/Lightpath", name := "<init>", desc := "(Lcom/example/fragmint/fragmint/model/Route;II)V" } : Jvm.MethodName) prog_46_method_1_code (4 : Nat) (Option.none : Option Jvm.ClassFile.FieldType)).before args0 about1 = true := code_word (m := ⟨4, 0⟩) (meth := k4m0) (c := k4c0) (by decide +kernel) rfl rfl rfl (by decide +kernel)
set_option maxRecDepth 65536 in
theorem w_c6 : (Jvm.Cond.code ({ cls := "java/lang/Record", name := "<init>", desc := "()V" } : Jvm.MethodName) jdk_30_method_1_code (1 : Nat) (Option.none : Option Jvm.ClassFile.FieldType)).before args0 about1 = true := code_word (m := ⟨3, 0⟩) (meth := k3m0) (c := k3c0) (by decide +kernel) rfl rfl rfl (by decide +kernel)
set_option maxRecDepth 65536 in
theorem w_c7 : (Jvm.Cond.code ({ cls := "com/example/fragmint/fragmint/model/Transponders", name := "take", desc := "(Lcom/example/fragmint/fragmint/model/Lightpath;)V" } : Jvm.MethodName) prog_56_method_5_code (4 : Nat) (Option.none : Option Jvm.ClassFile.FieldType)).before args0 about1 = true := code_word (m := ⟨2, 3⟩) (meth := k2m3) (c := k2c3) (by decide +kernel) rfl rfl rfl (by decide +kernel)
set_option maxRecDepth 65536 in
theorem w_c8 : (Jvm.Cond.code ({ cls := "com/example/fragmint/fragmint/model/Lightpath", name := "route", desc := "()Lcom/example/fragmint/fragmint/model/Route;" } : Jvm.MethodName) prog_46_method_5_code (1 : Nat) (Option.some (Jvm.ClassFile.FieldType.object "com/example/fragmint/fragmint/model/Route"))).before args0 about1 = true := code_word (m := ⟨4, 1⟩) (meth := k4m1) (c := k4c1) (by decide +kernel) rfl rfl rfl (by decide +kernel)
set_option maxRecDepth 65536 in
theorem w_c9 : (Jvm.Cond.code ({ cls := "com/example/fragmint/fragmint/model/Route", name := "source", desc := "()I" } : Jvm.MethodName) prog_53_method_2_code (1 : Nat) (Option.some Jvm.ClassFile.FieldType.int)).before args0 about1 = true := code_word (m := ⟨5, 1⟩) (meth := k5m1) (c := k5c1) (by decide +kernel) rfl rfl rfl (by decide +kernel)
set_option maxRecDepth 65536 in
theorem w_c10 : (Jvm.Cond.code ({ cls := "com/example/fragmint/fragmint/model/Route", name := "destination", desc := "()I" } : Jvm.MethodName) prog_53_method_3_code (1 : Nat) (Option.some Jvm.ClassFile.FieldType.int)).before args0 about1 = true := code_word (m := ⟨5, 2⟩) (meth := k5m2) (c := k5c2) (by decide +kernel) rfl rfl rfl (by decide +kernel)
set_option maxRecDepth 65536 in
theorem w_c11 : (Jvm.Cond.code ({ cls := "com/example/fragmint/fragmint/model/Transponders", name := "idle", desc := "(I)I" } : Jvm.MethodName) prog_56_method_3_code (2 : Nat) (Option.some Jvm.ClassFile.FieldType.int)).before args0 about1 = true := code_word (m := ⟨2, 2⟩) (meth := k2m2) (c := k2c2) (by decide +kernel) rfl rfl rfl (by decide +kernel)
set_option maxRecDepth 65536 in
theorem w_c12 : (Jvm.Cond.code ({ cls := "java/lang/Math", name := "max", desc := "(II)I" } : Jvm.MethodName) jdk_29_method_65_code (2 : Nat) (Option.some Jvm.ClassFile.FieldType.int)).before args0 about1 = true := code_word (m := ⟨6, 1⟩) (meth := k6m1) (c := k6c1) (by decide +kernel) rfl rfl rfl (by decide +kernel)
set_option maxRecDepth 65536 in
theorem w_c13 : (Jvm.Cond.code ({ cls := "com/example/fragmint/fragmint/model/Transponders", name := "release", desc := "(Lcom/example/fragmint/fragmint/model/Lightpath;)V" } : Jvm.MethodName) prog_56_method_6_code (4 : Nat) (Option.none : Option Jvm.ClassFile.FieldType)).before args0 about1 = true := code_word (m := ⟨2, 4⟩) (meth := k2m4) (c := k2c4) (by decide +kernel) rfl rfl rfl (by decide +kernel)
def codes1 : List Jvm.Cond := [Jvm.Cond.code x code maxLocals ret, Jvm.Cond.code ({ cls := "com/example/fragmint/fragmint/model/Transponders", name := "<init>", desc := "(II)V" } : Jvm.MethodName) prog_56_method_1_code (3 : Nat) (Option.none : Option Jvm.ClassFile.FieldType), Jvm.Cond.code ({ cls := "java/lang/Object", name := "<init>", desc := "()V" } : Jvm.MethodName) object_method_1_code (1 : Nat) (Option.none : Option Jvm.ClassFile.FieldType), Jvm.Cond.code ({ cls := "com/example/fragmint/fragmint/model/Transponders", name := "check", desc := "(I)V" } : Jvm.MethodName) prog_56_method_2_code (1 : Nat) (Option.none : Option Jvm.ClassFile.FieldType), Jvm.Cond.code ({ cls := "com/example/fragmint/fragmint/model/Route", name := "<init>", desc := "(II[II[I)V" } : Jvm.MethodName) prog_53_method_1_code (6 : Nat) (Option.none : Option Jvm.ClassFile.FieldType), Jvm.Cond.code ({ cls := "com/example/fragmint/fragmint/model/Lightpath", name := "<init>", desc := "(Lcom/example/fragmint/fragmint/model/Route;II)V" } : Jvm.MethodName) prog_46_method_1_code (4 : Nat) (Option.none : Option Jvm.ClassFile.FieldType), Jvm.Cond.code ({ cls := "java/lang/Record", name := "<init>", desc := "()V" } : Jvm.MethodName) jdk_30_method_1_code (1 : Nat) (Option.none : Option Jvm.ClassFile.FieldType), Jvm.Cond.code ({ cls := "com/example/fragmint/fragmint/model/Transponders", name := "take", desc := "(Lcom/example/fragmint/fragmint/model/Lightpath;)V" } : Jvm.MethodName) prog_56_method_5_code (4 : Nat) (Option.none : Option Jvm.ClassFile.FieldType), Jvm.Cond.code ({ cls := "com/example/fragmint/fragmint/model/Lightpath", name := "route", desc := "()Lcom/example/fragmint/fragmint/model/Route;" } : Jvm.MethodName) prog_46_method_5_code (1 : Nat) (Option.some (Jvm.ClassFile.FieldType.object "com/example/fragmint/fragmint/model/Route")), Jvm.Cond.code ({ cls := "com/example/fragmint/fragmint/model/Route", name := "source", desc := "()I" } : Jvm.MethodName) prog_53_method_2_code (1 : Nat) (Option.some Jvm.ClassFile.FieldType.int), Jvm.Cond.code ({ cls := "com/example/fragmint/fragmint/model/Route", name := "destination", desc := "()I" } : Jvm.MethodName) prog_53_method_3_code (1 : Nat) (Option.some Jvm.ClassFile.FieldType.int), Jvm.Cond.code ({ cls := "com/example/fragmint/fragmint/model/Transponders", name := "idle", desc := "(I)I" } : Jvm.MethodName) prog_56_method_3_code (2 : Nat) (Option.some Jvm.ClassFile.FieldType.int), Jvm.Cond.code ({ cls := "java/lang/Math", name := "max", desc := "(II)I" } : Jvm.MethodName) jdk_29_method_65_code (2 : Nat) (Option.some Jvm.ClassFile.FieldType.int), Jvm.Cond.code ({ cls := "com/example/fragmint/fragmint/model/Transponders", name := "release", desc := "(Lcom/example/fragmint/fragmint/model/Lightpath;)V" } : Jvm.MethodName) prog_56_method_6_code (4 : Nat) (Option.none : Option Jvm.ClassFile.FieldType)]
set_option maxRecDepth 65536 in
theorem codes_eq : words1.filter isCode = codes1 := rfl
theorem w_codes : ∀ c ∈ words1.filter isCode, c.before args0 about1 = true := by
  rw [codes_eq]
  intro c hc
  simp only [codes1, List.mem_cons, List.not_mem_nil, or_false] at hc
  rcases hc with rfl | rfl | rfl | rfl | rfl | rfl | rfl | rfl | rfl | rfl | rfl | rfl | rfl | rfl
  · exact w_c0
  · exact w_c1
  · exact w_c2
  · exact w_c3
  · exact w_c4
  · exact w_c5
  · exact w_c6
  · exact w_c7
  · exact w_c8
  · exact w_c9
  · exact w_c10
  · exact w_c11
  · exact w_c12
  · exact w_c13
set_option maxRecDepth 65536 in
theorem w_t1 : (words1.take 24).all (fun c => isCode c || c.before args0 about1) = true := by decide +kernel
set_option maxRecDepth 65536 in
theorem w_t2 : ((words1.drop 24).take 24).all (fun c => isCode c || c.before args0 about1) = true := by decide +kernel
set_option maxRecDepth 65536 in
theorem w_t3 : (((words1.drop 24).drop 24).take 24).all (fun c => isCode c || c.before args0 about1) = true := by decide +kernel
set_option maxRecDepth 65536 in
theorem w_t4 : (((words1.drop 24).drop 24).drop 24).all (fun c => isCode c || c.before args0 about1) = true := by decide +kernel
theorem w_tables : (allAtoms (Jvm.Cond.code x code maxLocals ret :: tables_1)).before args0 about1 = true := by
  rw [allAtoms_all]
  show words1.all (fun c => c.before args0 about1) = true
  refine all_split ?_ w_codes
  rw [← List.take_append_drop 24 words1, List.all_append, w_t1, ← List.take_append_drop 24 (words1.drop 24), List.all_append, w_t2, ← List.take_append_drop 24 ((words1.drop 24).drop 24), List.all_append, w_t3, w_t4]
  rfl
set_option maxRecDepth 65536 in
theorem w_case : (Jvm.Cond.and given_1 narrow_1).before args0 about1 = true := by decide +kernel
theorem w_applies : (headSpec (Jvm.Cond.code x code maxLocals ret :: tables_1) room_1).applies x e0.platform about1 = true :=
  (Spec.applies_iff w_frames).mpr ⟨w_running, w_runnable, w_alone, w_named, w_hears, w_ripe, w_room, w_tables⟩
theorem atStart : AtStart classFile x code maxLocals ret World_1 tables_1 room_1 Calls_1 rest_1 Pre_1 launch0 p0 e0 about1 theMethod args0 below0 :=
  ⟨lists_1, trivial, launch0.admits_env _ _ _, launch0.least_env, fairChoices_fair.cas, fairChoices_fair.clock, w_frames, w_args, w_heap, w_applies, trivial, trivial, w_case⟩
end start1
theorem witness_1 : WitnessClaimed_1 := ⟨start1.p0, start1.e0, start1.about1, start1.theMethod, start1.args0, start1.below0, start1.atStart⟩
end Jvm.Pilot.@@N@@
