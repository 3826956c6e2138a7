import JvmDerived
import JvmDerived.Pilot.@@N@@Statement
import JvmDerived.Pilot.@@N@@Code
set_option linter.unusedVariables false
set_option linter.unusedSimpArgs false
@@BLOCK:NumsL.lean.txt@@
namespace Jvm.RoadKit
open Sem ClassFile Op Lib Jvm.Stand Jvm.Free Jvm.LawKit
section New
variable {p : Program} {l : Launch} {e : Env} {R : Room} {s : State} {m : MethodId} {args : Array Value} {below : List Frame} {meth : Method} {c : Code} {T : State} {locs : List Loc} {cells slots : Nat}
theorem retI (X : Stand p l e R s m args below meth c T locs cells slots) (hx : p.tables.exec = Jvm.exec) {pc : Nat} {Ls : Array Slot} {z : Int32} {rest : List Value} (hret : meth.sig.returnType = some .int) (hd : decode c.code pc = .ok (.ireturn, 1)) {fs : List Frame}
    (hl : ∀ (f : JFrame) (acts : List Action), f.method = m → f.locked = none → f.entered = [] → (doReturn e (T.setTop f) acts (some (.int z))).1 = T.setFrames fs) : Steps p.tables e below (T.setTop (mkF m pc Ls (.int z :: rest))) (T.setFrames fs) :=
  retOut X hx hret rfl (Or.inl ⟨rfl, Or.inl rfl, z, rfl⟩) hd hl
theorem retJ (X : Stand p l e R s m args below meth c T locs cells slots) (hx : p.tables.exec = Jvm.exec) {pc : Nat} {Ls : Array Slot} {z : Int64} {rest : List Value} (hret : meth.sig.returnType = some .long) (hd : decode c.code pc = .ok (.lreturn, 1)) {fs : List Frame}
    (hl : ∀ (f : JFrame) (acts : List Action), f.method = m → f.locked = none → f.entered = [] → (doReturn e (T.setTop f) acts (some (.long z))).1 = T.setFrames fs) : Steps p.tables e below (T.setTop (mkF m pc Ls (.long z :: rest))) (T.setFrames fs) :=
  retOut X hx hret rfl (Or.inr (Or.inl ⟨rfl, rfl, z, rfl⟩)) hd hl
theorem retA (X : Stand p l e R s m args below meth c T locs cells slots) (hx : p.tables.exec = Jvm.exec) {pc : Nat} {Ls : Array Slot} {w : Value} {t : FieldType} {rest : List Value} (hret : meth.sig.returnType = some t) (ht : t.isReference = true) (hw : w.isRef = true) (hn : narrow t w = w) (hd : decode c.code pc = .ok (.areturn, 1)) {fs : List Frame}
    (hl : ∀ (f : JFrame) (acts : List Action), f.method = m → f.locked = none → f.entered = [] → (doReturn e (T.setTop f) acts (some w)).1 = T.setFrames fs) : Steps p.tables e below (T.setTop (mkF m pc Ls (w :: rest))) (T.setFrames fs) :=
  retOut X hx hret hn (Or.inr (Or.inr (Or.inr (Or.inr ⟨rfl, ht, hw⟩)))) hd hl
end New
end Jvm.RoadKit
namespace Jvm.Pilot.@@N@@
open Jvm Jvm.ClassFile Sem Op Lib Jvm.Free Jvm.Stand Jvm.LawKit Jvm.RoadKit Bundle Jvm.Pilot.@@N@@.Jvm.D
/-- the run from t ends by returning, as Q and the frame say -/
def OEnds (p : Program) (e : Env) (below : List Frame) (s : State) (Q : Option Value → Heap → List Loc → Prop) (C S : Nat) (t : State) : Prop :=
  ∃ s₂ o, Steps p.tables e below t s₂ ∧ s₂.status = .running ∧ Ended s₂ below o ∧ ∃ v L, o = .returned v ∧ Q v s₂.heap L ∧ FrameEnd s o s₂ L C S
theorem OEnds.go {p : Program} {e : Env} {below : List Frame} {s : State} {Q : Option Value → Heap → List Loc → Prop} {C S : Nat} {t t' : State} (h : ∀ u, Steps p.tables e below t' u → Steps p.tables e below t u) (k : OEnds p e below s Q C S t') : OEnds p e below s Q C S t := by
  obtain ⟨s₂, o, h1, h2⟩ := k
  exact ⟨s₂, o, h _ h1, h2⟩
theorem OEnds.cut {p : Program} {e : Env} {below : List Frame} {s : State} {Q : Option Value → Heap → List Loc → Prop} {C S : Nat} {t : State} (P : (State → Prop) → Prop) (k2 : P (OEnds p e below s Q C S)) (k1 : P (OEnds p e below s Q C S) → OEnds p e below s Q C S t) : OEnds p e below s Q C S t := k1 k2
theorem OEnds.back {p : Program} {l : Launch} {e : Env} {R : Room} {s : State} {m : MethodId} {args : Array Value} {below : List Frame} {meth : Method} {c : Code} {T : State} {locs : List Loc} {cells slots : Nat} (X : Stand p l e R s m args below meth c T locs cells slots) (hlk : meth.locks = false) {v : Option Value} (hv : meth.sig.returnType = none → v = none) {t : State} {Q : Option Value → Heap → List Loc → Prop} {C S : Nat}
    (st : ∀ fs, (∀ (f : JFrame) (acts : List Action), f.method = m → f.locked = none → f.entered = [] → (doReturn e (T.setTop f) acts v).1 = T.setFrames fs) → Steps p.tables e below t (T.setFrames fs)) (q : Q v T.heap locs) (hc : cells ≤ C) (hs : slots ≤ S) : OEnds p e below s Q C S t := by
  obtain ⟨fs, hr, hrun, hended, hW, hsame⟩ := X.leave hv hlk
  exact ⟨_, _, st fs hr, hrun, hended, _, _, rfl, q, ⟨_, rfl⟩, hW, hsame.mono hc hs⟩

theorem own_lt (x y : Int64) : lcmpW x y < 0 ↔ x < y := by rw [lcW, lc_lt]
theorem own_gt (x y : Int64) : 0 < lcmpW x y ↔ y < x := by rw [lcW, lc_gt]
theorem own_eq (x y : Int64) : lcmpW x y = 0 ↔ x = y := by rw [lcW, lc_eq]
/-- a term that equals a number, as the sheet says it -/
theorem own_eqi {args : Array Value} {s : State} {t : Term} {k : Int32} (h : (Jvm.Cond.eq t (Term.int k)).value args s none s [] = some true) : t.eval args s none [] s = some (.int k) := by
  obtain ⟨x, y, hx, hy, h1, h2⟩ := cmp_v (Or.inl h)
  have hy' : y = .int k := Option.some.inj (hy.symm.trans (Term.int_eval k))
  subst hy'
  obtain ⟨z, rfl⟩ : ∃ z, x = .int z := h2
  simp [Cond.value, hx, hy] at h
  rw [hx, h]
theorem own_fldi {args : Array Value} {s : State} {t : Term} {C n d : String} {a : Addr} {k : Int32} (ht : t.eval args s none [] s = some (.ref a)) (h : (Jvm.Cond.eq (Term.field t C n d) (Term.int k)).value args s none s [] = some true) : s.fieldOf? a C n d = some (.int k) := by
  rw [← fld_at ht]; exact own_eqi h
theorem own_ne {s : State} {C n d : String} {a b : Addr} {j k : Int32} (h1 : s.fieldOf? a C n d = some (.int j)) (h2 : s.fieldOf? b C n d = some (.int k)) (hk : j ≠ k) : a ≠ b := by
  intro e; subst e
  exact hk (Value.int.inj (Option.some.inj (h1.symm.trans h2)))

theorem own_mod (x m : Int32) (hm : 0 < m.toInt) : 0 ≤ ((x &&& 2147483647) % m).toInt ∧ ((x &&& 2147483647) % m).toInt < m.toInt := by
  have h : 0 ≤ (x &&& 2147483647).toInt := by
    rw [Jvm.Kit.i32_mask x 2147483647 (k := 31) (by decide) (by decide)]; omega
  rw [Jvm.Kit.i32_rem_nonneg h]
  exact ⟨Int.emod_nonneg _ (by omega), Int.emod_lt_of_pos _ hm⟩
theorem own_range {r : Int32} {n : Nat} (h0 : 0 ≤ r.toInt) (h1 : r.toInt < n) (hn : n ≤ 2 ^ 31) : ∃ k : Nat, k < n ∧ r = Int32.ofNat k := by
  refine ⟨r.toInt.toNat, by omega, ?_⟩
  rw [← Int32.toInt_inj, Int32.toInt_ofNat_small (by omega)]; omega


theorem own_ch (x : Int32) : ¬ 255 < (x &&& 255).toUInt32.toUInt16.toUInt32.toInt32 := by
  rw [i2c_mask, Int32.lt_iff_toInt_lt, Jvm.Kit.i32_mask x 255 (k := 8) (by decide) (by decide)]
  have e : (255 : Int32).toInt = 255 := rfl
  omega
theorem own_ring (a b : Int64) : lcmpW ((a + b) - a) b = 0 := by
  rw [own_eq, Int64.add_comm, Int64.add_sub_cancel]

theorem own_nei {args : Array Value} {s : State} {t : Term} {w : Int32} (ht : t.eval args s none [] s = some (.int w)) (h : (Jvm.Cond.not (Jvm.Cond.eq t (Term.int 0))).value args s none s [] = some true) : ¬ w = 0 := by
  intro e; subst e
  have h' := not_v h
  have : (Jvm.Cond.eq t (Term.int 0)).value args s none s [] = some true := eq_i ht (Term.int_eval 0) rfl
  rw [this] at h'; cases h'

theorem d2_0 : decode jdk_43_method_3_code 0 = .ok (.iload_n 0, 1) := by decide +kernel
theorem d2_1 : decode jdk_43_method_3_code 1 = .ok (.sipush 255, 3) := by decide +kernel
theorem d2_4 : decode jdk_43_method_3_code 4 = .ok (.if_icmp .gt 7, 3) := by decide +kernel
theorem d2_7 : decode jdk_43_method_3_code 7 = .ok (.iconst 1, 1) := by decide +kernel
theorem d2_8 : decode jdk_43_method_3_code 8 = .ok (.goto 4, 3) := by decide +kernel
theorem d2_12 : decode jdk_43_method_3_code 12 = .ok (.ireturn, 1) := by decide +kernel
theorem pn_2 : plainName "java/lang/StringLatin1" = true := by first | (simp [plainName, overriddenIn]; done) | decide +kernel
theorem ef_rm2 (m : MethodId) (p1 : Int32) : entryFrame m #[(.int p1)] 1 = mkF m 0 #[.val (.int p1)] [] := by first | (simp [entryFrame, mkF, argsToLocals, Value.category]; done) | rfl
def Q2 (Z : State) (p1 : Int32)  (h0 : Heap) (n0 : Nat) (v : Option Value) (h : Heap) (L : List Loc) : Prop := v = some (.int 1) ∧ Fr n0 L ∧ h = h0
set_option maxRecDepth 65536 in
set_option maxHeartbeats 40000000 in
theorem rm2 (l : Launch) (Z : State) (a0 : Array Value) (hw : ∀ d ∈ tables_1, d.before a0 Z = true) (ws : List Jvm.Cond) (p1 : Int32)  (h0 : Heap) (n0 : Nat) (Z0 : n0 ≤ h0.size) (c1 : ¬ 255 < p1) :
    MetFree l (⟨"java/lang/StringLatin1", "canEncode", "(C)Z"⟩ : MethodName) (head1 (Jvm.Cond.code (⟨"java/lang/StringLatin1", "canEncode", "(C)Z"⟩ : MethodName) jdk_43_method_3_code 1 (some .boolean) :: ws) ({ frames := 0, cells := 0, slots := 0, locals := 0 } : Room)) (fun a U => a = #[(.int p1)] ∧ Z.Warmed39 U.vm ∧ U.heap = h0) (fun _ _ _ _ _ => True) (fun _ U o U' => ∃ v L, o = .returned v ∧ Q2 Z p1  h0 n0 v U'.heap L ∧ FrameEnd U o U' L ({ frames := 0, cells := 0, slots := 0, locals := 0 } : Room).cells ({ frames := 0, cells := 0, slots := 0, locals := 0 } : Room).slots) := by
  refine MetFree.of_bodySF (plainFor_of_name pn_2) hisR ?_
  intro p e s m args below meth c s₁ Bd hml0 hP hK
  obtain ⟨rfl, hZ, hh⟩ := hP
  have hx := Bd.exec
  have hby := Bd.bytes
  have hml : c.maxLocals = 1 := hml0
  have hown : s.vm.findClass "java/lang/StringLatin1" = some m.cls := findClass_of_methodNamed Bd.named
  have hnm := (name_of_methodNamed Bd.named Bd.method).1
  have hlk := BodyLoose.notSynchronized Bd
  have hrt := Bd.returns
  have X0 : Stand p l e ({ frames := 0, cells := 0, slots := 0, locals := 0 } : Room) s m #[(.int p1)] below meth c s₁ [] 0 0 := Stand.of_body Bd
  have e0 : s₁.heap = h0 := by rw [← hh, Bd.state]; rfl
  have N0 := Fr.nil n0
  show OEnds p e below s (Q2 Z p1  h0 n0) ({ frames := 0, cells := 0, slots := 0, locals := 0 } : Room).cells ({ frames := 0, cells := 0, slots := 0, locals := 0 } : Room).slots (s₁.setTop (entryFrame m #[(.int p1)] 1))
  refine OEnds.go (t' := s₁.setTop (mkF m 0 #[.val (.int p1)] [])) (fun t k => castTop (ef_rm2 m p1) k) ?_
  refine OEnds.go (t' := s₁.setTop (mkF m 4 #[.val (.int p1)] [(.int (255 : Int32)), (.int p1)])) (fun _ k => ?_) ?_
  · show Steps p.tables e below (s₁.setTop (mkF m 0 #[.val (.int p1)] [])) _
    refine XS.iloadN X0.here hx rfl (hb hby d2_0) rfl ?_
    show Steps p.tables e below (s₁.setTop (mkF m 1 #[.val (.int p1)] [(.int p1)])) _
    refine XS.sipush X0.here hx rfl (hb hby d2_1) ?_
    show Steps p.tables e below (s₁.setTop (mkF m 4 #[.val (.int p1)] [(.int (255 : Int32)), (.int p1)])) _
    exact k
  refine OEnds.go (t' := s₁.setTop (mkF m 7 #[.val (.int p1)] [])) (fun _ k => XS.icmpNo X0.here hx rfl (hb hby d2_4) rfl (flt c1).2.2.1 k) ?_
  refine OEnds.go (t' := s₁.setTop (mkF m 12 #[.val (.int p1)] [(.int (1 : Int32))])) (fun _ k => ?_) ?_
  · show Steps p.tables e below (s₁.setTop (mkF m 7 #[.val (.int p1)] [])) _
    refine XS.iconst X0.here hx rfl (hb hby d2_7) ?_
    show Steps p.tables e below (s₁.setTop (mkF m 8 #[.val (.int p1)] [(.int (1 : Int32))])) _
    refine XS.goto X0.here hx rfl (pc0 := 8) (pc' := 12) rfl (hb hby d2_8) (by decide) (by decide) ?_
    show Steps p.tables e below (s₁.setTop (mkF m 12 #[.val (.int p1)] [(.int (1 : Int32))])) _
    exact k
  refine OEnds.back X0 hlk (v := (some (.int (1 : Int32)))) (fun h => by rw [hrt] at h; cases h) (fun fs hr => ?_) ?_ (by decide) (by decide)
  · exact retN X0 hx (t := .boolean) hrt (by simp) (hb hby d2_12) hr
  · show Q2 Z p1  h0 n0 _ s₁.heap _
    rw [e0]
    exact ⟨rfl, N0, rfl⟩
theorem d3_0 : decode jdk_43_method_46_code 0 = .ok (.iconst 1, 1) := by decide +kernel
theorem d3_1 : decode jdk_43_method_46_code 1 = .ok (.newarray .byte, 2) := by decide +kernel
theorem d3_3 : decode jdk_43_method_46_code 3 = .ok (.dup, 1) := by decide +kernel
theorem d3_4 : decode jdk_43_method_46_code 4 = .ok (.iconst 0, 1) := by decide +kernel
theorem d3_5 : decode jdk_43_method_46_code 5 = .ok (.iload_n 0, 1) := by decide +kernel
theorem d3_6 : decode jdk_43_method_46_code 6 = .ok (.i2b, 1) := by decide +kernel
theorem d3_7 : decode jdk_43_method_46_code 7 = .ok (.bastore, 1) := by decide +kernel
theorem d3_8 : decode jdk_43_method_46_code 8 = .ok (.areturn, 1) := by decide +kernel
theorem pn_3 : plainName "java/lang/StringLatin1" = true := by first | (simp [plainName, overriddenIn]; done) | decide +kernel
theorem ef_rm3 (m : MethodId) (p1 : Int32) : entryFrame m #[(.int p1)] 1 = mkF m 0 #[.val (.int p1)] [] := by first | (simp [entryFrame, mkF, argsToLocals, Value.category]; done) | rfl
def Q3 (Z : State) (p1 : Int32)  (h0 : Heap) (n0 : Nat) (v : Option Value) (h : Heap) (L : List Loc) : Prop := ∃ b : Addr, v = some (.ref b) ∧ Fr n0 L ∧ Keep h0 h []
set_option maxRecDepth 65536 in
set_option maxHeartbeats 40000000 in
theorem rm3 (l : Launch) (Z : State) (a0 : Array Value) (hw : ∀ d ∈ tables_1, d.before a0 Z = true) (ws : List Jvm.Cond) (p1 : Int32)  (h0 : Heap) (n0 : Nat) (Z0 : n0 ≤ h0.size)  :
    MetFree l (⟨"java/lang/StringLatin1", "toBytes", "(C)[B"⟩ : MethodName) (head1 (Jvm.Cond.code (⟨"java/lang/StringLatin1", "toBytes", "(C)[B"⟩ : MethodName) jdk_43_method_46_code 1 (some (.array .byte)) :: ws) ({ frames := 0, cells := 1, slots := 1, locals := 0 } : Room)) (fun a U => a = #[(.int p1)] ∧ Z.Warmed39 U.vm ∧ U.heap = h0) (fun _ _ _ _ _ => True) (fun _ U o U' => ∃ v L, o = .returned v ∧ Q3 Z p1  h0 n0 v U'.heap L ∧ FrameEnd U o U' L ({ frames := 0, cells := 1, slots := 1, locals := 0 } : Room).cells ({ frames := 0, cells := 1, slots := 1, locals := 0 } : Room).slots) := by
  refine MetFree.of_bodySF (plainFor_of_name pn_3) hisR ?_
  intro p e s m args below meth c s₁ Bd hml0 hP hK
  obtain ⟨rfl, hZ, hh⟩ := hP
  have hx := Bd.exec
  have hby := Bd.bytes
  have hml : c.maxLocals = 1 := hml0
  have hown : s.vm.findClass "java/lang/StringLatin1" = some m.cls := findClass_of_methodNamed Bd.named
  have hnm := (name_of_methodNamed Bd.named Bd.method).1
  have hlk := BodyLoose.notSynchronized Bd
  have hrt := Bd.returns
  have X0 : Stand p l e ({ frames := 0, cells := 1, slots := 1, locals := 0 } : Room) s m #[(.int p1)] below meth c s₁ [] 0 0 := Stand.of_body Bd
  have e0 : s₁.heap = h0 := by rw [← hh, Bd.state]; rfl
  have N0 := Fr.nil n0
  show OEnds p e below s (Q3 Z p1  h0 n0) ({ frames := 0, cells := 1, slots := 1, locals := 0 } : Room).cells ({ frames := 0, cells := 1, slots := 1, locals := 0 } : Room).slots (s₁.setTop (entryFrame m #[(.int p1)] 1))
  refine OEnds.go (t' := s₁.setTop (mkF m 0 #[.val (.int p1)] [])) (fun t k => castTop (ef_rm3 m p1) k) ?_
  refine OEnds.go (t' := s₁.setTop (mkF m 1 #[.val (.int p1)] [(.int (1 : Int32))])) (fun _ k => ?_) ?_
  · show Steps p.tables e below (s₁.setTop (mkF m 0 #[.val (.int p1)] [])) _
    refine XS.iconst X0.here hx rfl (hb hby d3_0) ?_
    show Steps p.tables e below (s₁.setTop (mkF m 1 #[.val (.int p1)] [(.int (1 : Int32))])) _
    exact k
  obtain ⟨T1, h1, k1, X1, e1, E1, A1, st1⟩ := newP X0 hx hZ (hw _ (List.mem_of_getElem? (i := 14) rfl)) e0 (g := (mkF m 1 #[.val (.int p1)] [(.int (1 : Int32))])) rfl (hb hby d3_1) rfl (by decide) (cap := 1) (by decide) (by decide) (by decide) (by decide)
  obtain ⟨b1, gz1⟩ : ∃ z, z = h0.size := ⟨_, rfl⟩
  rw [← gz1] at A1 st1
  have g_b1 : n0 ≤ b1 := Nat.le_trans Z0 (Nat.le_of_eq gz1.symm)
  have sz_b1 : h0.size ≤ b1 := Nat.le_trans (Keep.refl h0 []).1 (Nat.le_of_eq gz1.symm)
  have Z1 : n0 ≤ h1.size := Nat.le_trans Z0 E1.1
  have K1 := (Keep.refl h0 []).ext E1
  have V_b1 : Arv Z h1 b1 k1 .byte (1 : Int32) [(.int (0 : Int32))] (.int (0 : Int32)) := (Arv.new A1 (by decide)).pad (pad_rep [] (.int (0 : Int32)) 1)
  refine OEnds.go (t' := T1.setTop (mkF m 3 #[.val (.int p1)] [(.ref b1)])) (fun _ k => st1 _ k) ?_
  refine OEnds.go (t' := T1.setTop (mkF m 7 #[.val (.int p1)] [(.int (p1.toInt8.toInt32)), (.int (0 : Int32)), (.ref b1), (.ref b1)])) (fun _ k => ?_) ?_
  · show Steps p.tables e below (T1.setTop (mkF m 3 #[.val (.int p1)] [(.ref b1)])) _
    refine XS.dup X1.here hx rfl (hb hby d3_3) rfl rfl ?_
    show Steps p.tables e below (T1.setTop (mkF m 4 #[.val (.int p1)] [(.ref b1), (.ref b1)])) _
    refine XS.iconst X1.here hx rfl (hb hby d3_4) ?_
    show Steps p.tables e below (T1.setTop (mkF m 5 #[.val (.int p1)] [(.int (0 : Int32)), (.ref b1), (.ref b1)])) _
    refine XS.iloadN X1.here hx rfl (hb hby d3_5) rfl ?_
    show Steps p.tables e below (T1.setTop (mkF m 6 #[.val (.int p1)] [(.int p1), (.int (0 : Int32)), (.ref b1), (.ref b1)])) _
    refine XS.i2b X1.here hx rfl (hb hby d3_6) rfl ?_
    show Steps p.tables e below (T1.setTop (mkF m 7 #[.val (.int p1)] [(.int (p1.toInt8.toInt32)), (.int (0 : Int32)), (.ref b1), (.ref b1)])) _
    exact k
  obtain ⟨cl2, Ar2, cq2, cS2, cN2, cH2, cG2⟩ := V_b1
  have hin2 : ¬ ((0 : Int32) < 0 ∨ cl2.slots.size ≤ ((0 : Int32)).toNatClampNeg) := inb_of cS2 ⟨by decide, by decide⟩
  obtain ⟨T2, h2, X2, e2, W2, st2⟩ := stB X1 hx hZ e1 Ar2 (j := (0 : Int32)) hin2 (g := (mkF m 7 #[.val (.int p1)] [(.int (p1.toInt8.toInt32)), (.int (0 : Int32)), (.ref b1), (.ref b1)])) rfl rfl (hb hby d3_7)
  have N2 := Fr.snoc X2 N0 g_b1
  have Z2 : n0 ≤ h2.size := Nat.le_trans Z1 (Keep.of_wr W2).1
  have K2 := K1.wr W2 (Or.inr sz_b1)
  have V_b1 := Arv.set Ar2 cq2 cS2 cN2 cH2 cG2 (fits_nar_byte _) W2 0 rfl (Nat.le_of_ble_eq_true rfl)
  refine OEnds.go (t' := T2.setTop (mkF m 8 #[.val (.int p1)] [(.ref b1)])) (fun _ k => st2 _ k) ?_
  refine OEnds.back X2 hlk (v := (some (.ref b1))) (fun h => by rw [hrt] at h; cases h) (fun fs hr => ?_) ?_ (by decide) (by decide)
  · exact retA X2 hx hrt rfl rfl rfl (hb hby d3_8) hr
  · show Q3 Z p1  h0 n0 _ T2.heap _
    rw [e2]
    exact ⟨_, rfl, N2, K2⟩
theorem d4_0 : decode jdk_42_method_151_code 0 = .ok (.aload_n 0, 1) := by decide +kernel
theorem d4_1 : decode jdk_42_method_151_code 1 = .ok (.invokespecial 1, 3) := by decide +kernel
theorem d4_4 : decode jdk_42_method_151_code 4 = .ok (.aload_n 0, 1) := by decide +kernel
theorem d4_5 : decode jdk_42_method_151_code 5 = .ok (.aload_n 1, 1) := by decide +kernel
theorem d4_6 : decode jdk_42_method_151_code 6 = .ok (.putfield 9, 3) := by decide +kernel
theorem d4_9 : decode jdk_42_method_151_code 9 = .ok (.aload_n 0, 1) := by decide +kernel
theorem d4_10 : decode jdk_42_method_151_code 10 = .ok (.iload_n 2, 1) := by decide +kernel
theorem d4_11 : decode jdk_42_method_151_code 11 = .ok (.putfield 15, 3) := by decide +kernel
theorem d4_14 : decode jdk_42_method_151_code 14 = .ok (.return_, 1) := by decide +kernel
theorem pn_4 : plainName "java/lang/String" = true := by first | (simp [plainName, overriddenIn]; done) | decide +kernel
theorem ef_rm4 (m : MethodId) (a1 : Addr) (a2 : Addr) (p1 : Int32) : entryFrame m #[(.ref a1), (.ref a2), (.int p1)] 3 = mkF m 0 #[.val (.ref a1), .val (.ref a2), .val (.int p1)] [] := by first | (simp [entryFrame, mkF, argsToLocals, Value.category]; done) | rfl
def Q4 (Z : State) (a1 : Addr) (a2 : Addr) (p1 : Int32)  (h0 : Heap) (n0 : Nat) (v : Option Value) (h : Heap) (L : List Loc) : Prop := v = none ∧ Fr n0 L ∧ Keep h0 h [a1]
set_option maxRecDepth 65536 in
set_option maxHeartbeats 40000000 in
theorem rm4 (l : Launch) (Z : State) (a0 : Array Value) (hw : ∀ d ∈ tables_1, d.before a0 Z = true) (ws : List Jvm.Cond) (a1 : Addr) (a2 : Addr) (p1 : Int32)  (h0 : Heap) (n0 : Nat) (Z0 : n0 ≤ h0.size) (F_value_a1 : Fld Z h0 a1 "java/lang/String" "value" "[B" .null) (F_coder_a1 : Fld Z h0 a1 "java/lang/String" "coder" "B" (.int (0 : Int32))) (E_a1 : Exa Z h0 a1 "java/lang/String") (g_a1 : n0 ≤ a1) :
    MetFree l (⟨"java/lang/String", "<init>", "([BB)V"⟩ : MethodName) (head1 (Jvm.Cond.code (⟨"java/lang/String", "<init>", "([BB)V"⟩ : MethodName) jdk_42_method_151_code 3 none :: ws) ({ frames := 1, cells := 0, slots := 0, locals := 12 } : Room)) (fun a U => a = #[(.ref a1), (.ref a2), (.int p1)] ∧ Z.Warmed39 U.vm ∧ U.heap = h0) (fun _ _ _ _ _ => True) (fun _ U o U' => ∃ v L, o = .returned v ∧ Q4 Z a1 a2 p1  h0 n0 v U'.heap L ∧ FrameEnd U o U' L ({ frames := 1, cells := 0, slots := 0, locals := 12 } : Room).cells ({ frames := 1, cells := 0, slots := 0, locals := 12 } : Room).slots) := by
  refine MetFree.of_bodySF (plainFor_of_name pn_4) hisR ?_
  intro p e s m args below meth c s₁ Bd hml0 hP hK
  obtain ⟨rfl, hZ, hh⟩ := hP
  have hx := Bd.exec
  have hby := Bd.bytes
  have hml : c.maxLocals = 3 := hml0
  have hown : s.vm.findClass "java/lang/String" = some m.cls := findClass_of_methodNamed Bd.named
  have hnm := (name_of_methodNamed Bd.named Bd.method).1
  have hlk := BodyLoose.notSynchronized Bd
  have hrt := Bd.returns
  have X0 : Stand p l e ({ frames := 1, cells := 0, slots := 0, locals := 12 } : Room) s m #[(.ref a1), (.ref a2), (.int p1)] below meth c s₁ [] 0 0 := Stand.of_body Bd
  have e0 : s₁.heap = h0 := by rw [← hh, Bd.state]; rfl
  have N0 := Fr.nil n0
  show OEnds p e below s (Q4 Z a1 a2 p1  h0 n0) ({ frames := 1, cells := 0, slots := 0, locals := 12 } : Room).cells ({ frames := 1, cells := 0, slots := 0, locals := 12 } : Room).slots (s₁.setTop (entryFrame m #[(.ref a1), (.ref a2), (.int p1)] 3))
  refine OEnds.go (t' := s₁.setTop (mkF m 0 #[.val (.ref a1), .val (.ref a2), .val (.int p1)] [])) (fun t k => castTop (ef_rm4 m a1 a2 p1) k) ?_
  refine OEnds.go (t' := s₁.setTop (mkF m 1 #[.val (.ref a1), .val (.ref a2), .val (.int p1)] [(.ref a1)])) (fun _ k => ?_) ?_
  · show Steps p.tables e below (s₁.setTop (mkF m 0 #[.val (.ref a1), .val (.ref a2), .val (.int p1)] [])) _
    refine XS.aloadN X0.here hx rfl (hb hby d4_0) rfl rfl ?_
    show Steps p.tables e below (s₁.setTop (mkF m 1 #[.val (.ref a1), .val (.ref a2), .val (.int p1)] [(.ref a1)])) _
    exact k
  obtain ⟨T1, X1, e1, st1⟩ := initO X0 hx hZ hown (hw _ (List.mem_of_getElem? (i := 19) rfl)) (hw _ (List.mem_of_getElem? (i := 20) rfl)) (hw _ (List.mem_of_getElem? (i := 21) rfl)) e0 (g := (mkF m 1 #[.val (.ref a1), .val (.ref a2), .val (.int p1)] [(.ref a1)])) rfl (by rw [hml]; rfl) rfl (hb hby d4_1) (by decide) (W := 0) (by show 2 * 0 + _ ≤ _; exact Nat.le_of_eq rfl) (by decide)
  refine OEnds.go (t' := T1.setTop (mkF m 4 #[.val (.ref a1), .val (.ref a2), .val (.int p1)] [])) (fun _ k => st1 _ k) ?_
  refine OEnds.go (t' := T1.setTop (mkF m 6 #[.val (.ref a1), .val (.ref a2), .val (.int p1)] [(.ref a2), (.ref a1)])) (fun _ k => ?_) ?_
  · show Steps p.tables e below (T1.setTop (mkF m 4 #[.val (.ref a1), .val (.ref a2), .val (.int p1)] [])) _
    refine XS.aloadN X1.here hx rfl (hb hby d4_4) rfl rfl ?_
    show Steps p.tables e below (T1.setTop (mkF m 5 #[.val (.ref a1), .val (.ref a2), .val (.int p1)] [(.ref a1)])) _
    refine XS.aloadN X1.here hx rfl (hb hby d4_5) rfl rfl ?_
    show Steps p.tables e below (T1.setTop (mkF m 6 #[.val (.ref a1), .val (.ref a2), .val (.int p1)] [(.ref a2), (.ref a1)])) _
    exact k
  obtain ⟨T2, h2, X2, e2, W2, st2⟩ := putF X1 hx hZ hown (host := "") (Or.inl (hw _ (List.mem_of_getElem? (i := 22) rfl))) Via.refl e1 F_value_a1 E_a1 (Or.inr ⟨(hw _ (List.mem_of_getElem? (i := 23) rfl)), rfl, hnm⟩) (hw _ (List.mem_of_getElem? (i := 10) rfl)) (ty := (.array .byte)) (by decide) rfl rfl (g := (mkF m 6 #[.val (.ref a1), .val (.ref a2), .val (.int p1)] [(.ref a2), (.ref a1)])) rfl rfl (hb hby d4_6)
  have N2 := Fr.snoc X2 N0 g_a1
  have E_a1 := E_a1.wr W2
  have F_value_a1 := F_value_a1.same W2
  have F_coder_a1 := F_coder_a1.other W2 (Or.inr (slot_ne (Or.inr (hw _ (List.mem_of_getElem? (i := 25) rfl))) (Or.inr (hw _ (List.mem_of_getElem? (i := 23) rfl))) (by decide) (t := .byte) (t' := (.array .byte)) (by decide) (by decide)))
  have Z2 : n0 ≤ h2.size := Nat.le_trans Z0 (Keep.of_wr W2).1
  have K2 := (Keep.refl h0 [a1]).wr W2 (Or.inl (List.mem_of_getElem? (i := 0) rfl))
  refine OEnds.go (t' := T2.setTop (mkF m 9 #[.val (.ref a1), .val (.ref a2), .val (.int p1)] [])) (fun _ k => st2 _ k) ?_
  refine OEnds.go (t' := T2.setTop (mkF m 11 #[.val (.ref a1), .val (.ref a2), .val (.int p1)] [(.int p1), (.ref a1)])) (fun _ k => ?_) ?_
  · show Steps p.tables e below (T2.setTop (mkF m 9 #[.val (.ref a1), .val (.ref a2), .val (.int p1)] [])) _
    refine XS.aloadN X2.here hx rfl (hb hby d4_9) rfl rfl ?_
    show Steps p.tables e below (T2.setTop (mkF m 10 #[.val (.ref a1), .val (.ref a2), .val (.int p1)] [(.ref a1)])) _
    refine XS.iloadN X2.here hx rfl (hb hby d4_10) rfl ?_
    show Steps p.tables e below (T2.setTop (mkF m 11 #[.val (.ref a1), .val (.ref a2), .val (.int p1)] [(.int p1), (.ref a1)])) _
    exact k
  obtain ⟨T3, h3, X3, e3, W3, st3⟩ := putFN X2 hx hZ hown (hw _ (List.mem_of_getElem? (i := 24) rfl)) Via.refl e2 F_coder_a1 E_a1 (Or.inr ⟨(hw _ (List.mem_of_getElem? (i := 25) rfl)), rfl, hnm⟩) (hw _ (List.mem_of_getElem? (i := 10) rfl)) (ty := .byte) (v' := (.int (nar .byte p1))) (by decide) rfl (fits_nar_byte _) (g := (mkF m 11 #[.val (.ref a1), .val (.ref a2), .val (.int p1)] [(.int p1), (.ref a1)])) rfl rfl (hb hby d4_11)
  have N3 := Fr.snoc X3 N2 g_a1
  have E_a1 := E_a1.wr W3
  have F_value_a1 := F_value_a1.other W3 (Or.inr (slot_ne (Or.inr (hw _ (List.mem_of_getElem? (i := 23) rfl))) (Or.inr (hw _ (List.mem_of_getElem? (i := 25) rfl))) (by decide) (t := (.array .byte)) (t' := .byte) (by decide) (by decide)))
  have F_coder_a1 := F_coder_a1.same W3
  have Z3 : n0 ≤ h3.size := Nat.le_trans Z2 (Keep.of_wr W3).1
  have K3 := K2.wr W3 (Or.inl (List.mem_of_getElem? (i := 0) rfl))
  refine OEnds.go (t' := T3.setTop (mkF m 14 #[.val (.ref a1), .val (.ref a2), .val (.int p1)] [])) (fun _ k => st3 _ k) ?_
  refine OEnds.back X3 hlk (v := none) (fun _ => rfl) (fun fs hr => ?_) ?_ (by decide) (by decide)
  · exact X3.returnOut hx hrt (hb hby d4_14) hr
  · show Q4 Z a1 a2 p1  h0 n0 _ T3.heap _
    rw [e3]
    exact ⟨rfl, N3, K3⟩
theorem d1_0 : decode jdk_42_method_139_code 0 = .ok (.getstatic 38, 3) := by decide +kernel
theorem d1_3 : decode jdk_42_method_139_code 3 = .ok (.ifCond .eq 23, 3) := by decide +kernel
theorem d1_6 : decode jdk_42_method_139_code 6 = .ok (.iload_n 0, 1) := by decide +kernel
theorem d1_7 : decode jdk_42_method_139_code 7 = .ok (.invokestatic 1015, 3) := by decide +kernel
theorem d1_10 : decode jdk_42_method_139_code 10 = .ok (.ifCond .eq 16, 3) := by decide +kernel
theorem d1_13 : decode jdk_42_method_139_code 13 = .ok (.new 10, 3) := by decide +kernel
theorem d1_16 : decode jdk_42_method_139_code 16 = .ok (.dup, 1) := by decide +kernel
theorem d1_17 : decode jdk_42_method_139_code 17 = .ok (.iload_n 0, 1) := by decide +kernel
theorem d1_18 : decode jdk_42_method_139_code 18 = .ok (.invokestatic 1018, 3) := by decide +kernel
theorem d1_21 : decode jdk_42_method_139_code 21 = .ok (.iconst 0, 1) := by decide +kernel
theorem d1_22 : decode jdk_42_method_139_code 22 = .ok (.invokespecial 209, 3) := by decide +kernel
theorem d1_25 : decode jdk_42_method_139_code 25 = .ok (.areturn, 1) := by decide +kernel
theorem pn_1 : plainName "java/lang/String" = true := by first | (simp [plainName, overriddenIn]; done) | decide +kernel
theorem pd_rm1_0 : parseMethodDescriptor "(C)Z" = some ⟨[.char], some .boolean⟩ := by decide +kernel
theorem pd_rm1_1 : parseMethodDescriptor "(C)[B" = some ⟨[.char], some (.array .byte)⟩ := by decide +kernel
theorem pd_rm1_2 : parseMethodDescriptor "([BB)V" = some ⟨[(.array .byte), .byte], none⟩ := by decide +kernel
theorem ef_rm1 (m : MethodId) (p1 : Int32) : entryFrame m #[(.int p1)] 1 = mkF m 0 #[.val (.int p1)] [] := by first | (simp [entryFrame, mkF, argsToLocals, Value.category]; done) | rfl
def Q1 (Z : State) (p1 : Int32) (w1 : Int32) (h0 : Heap) (n0 : Nat) (v : Option Value) (h : Heap) (L : List Loc) : Prop := ∃ b : Addr, v = some (.ref b) ∧ Fr n0 L ∧ Keep h0 h []
set_option maxRecDepth 65536 in
set_option maxHeartbeats 40000000 in
theorem rm1 (l : Launch) (Z : State) (a0 : Array Value) (hw : ∀ d ∈ tables_1, d.before a0 Z = true) (ws : List Jvm.Cond) (p1 : Int32) (w1 : Int32) (h0 : Heap) (n0 : Nat) (Z0 : n0 ≤ h0.size) (S_C : Sta Z h0 "java/lang/String" "COMPACT_STRINGS" "Z" (.int w1)) (c0 : ¬ w1 = 0) (c1 : ¬ 255 < p1) :
    MetFree l (⟨"java/lang/String", "valueOf", "(C)Ljava/lang/String;"⟩ : MethodName) (head1 (Jvm.Cond.code (⟨"java/lang/String", "valueOf", "(C)Ljava/lang/String;"⟩ : MethodName) jdk_42_method_139_code 1 (some (.object "java/lang/String")) :: ws) ({ frames := 2, cells := 2, slots := 5, locals := 27 } : Room)) (fun a U => a = #[(.int p1)] ∧ Z.Warmed39 U.vm ∧ U.heap = h0) (fun _ _ _ _ _ => True) (fun _ U o U' => ∃ v L, o = .returned v ∧ Q1 Z p1 w1 h0 n0 v U'.heap L ∧ FrameEnd U o U' L ({ frames := 2, cells := 2, slots := 5, locals := 27 } : Room).cells ({ frames := 2, cells := 2, slots := 5, locals := 27 } : Room).slots) := by
  refine MetFree.of_bodySF (plainFor_of_name pn_1) hisR ?_
  intro p e s m args below meth c s₁ Bd hml0 hP hK
  obtain ⟨rfl, hZ, hh⟩ := hP
  have hx := Bd.exec
  have hby := Bd.bytes
  have hml : c.maxLocals = 1 := hml0
  have hown : s.vm.findClass "java/lang/String" = some m.cls := findClass_of_methodNamed Bd.named
  have hnm := (name_of_methodNamed Bd.named Bd.method).1
  have hlk := BodyLoose.notSynchronized Bd
  have hrt := Bd.returns
  have X0 : Stand p l e ({ frames := 2, cells := 2, slots := 5, locals := 27 } : Room) s m #[(.int p1)] below meth c s₁ [] 0 0 := Stand.of_body Bd
  have e0 : s₁.heap = h0 := by rw [← hh, Bd.state]; rfl
  have N0 := Fr.nil n0
  show OEnds p e below s (Q1 Z p1 w1 h0 n0) ({ frames := 2, cells := 2, slots := 5, locals := 27 } : Room).cells ({ frames := 2, cells := 2, slots := 5, locals := 27 } : Room).slots (s₁.setTop (entryFrame m #[(.int p1)] 1))
  refine OEnds.go (t' := s₁.setTop (mkF m 0 #[.val (.int p1)] [])) (fun t k => castTop (ef_rm1 m p1) k) ?_
  obtain ⟨T1, X1, e1, st1⟩ := getS2 X0 hx hZ hown (host := "") (Or.inl (hw _ (List.mem_of_getElem? (i := 4) rfl))) Via.refl e0 S_C (g := (mkF m 0 #[.val (.int p1)] [])) rfl (hb hby d1_0)
  refine OEnds.go (t' := T1.setTop (mkF m 3 #[.val (.int p1)] [(.int w1)])) (fun _ k => st1 _ k) ?_
  refine OEnds.go (t' := T1.setTop (mkF m 6 #[.val (.int p1)] [])) (fun _ k => XS.ifNo X1.here hx rfl (hb hby d1_3) rfl ((if0 _ _).trans (feq c0).1) k) ?_
  refine OEnds.go (t' := T1.setTop (mkF m 7 #[.val (.int p1)] [(.int p1)])) (fun _ k => ?_) ?_
  · show Steps p.tables e below (T1.setTop (mkF m 6 #[.val (.int p1)] [])) _
    refine XS.iloadN X1.here hx rfl (hb hby d1_6) rfl ?_
    show Steps p.tables e below (T1.setTop (mkF m 7 #[.val (.int p1)] [(.int p1)])) _
    exact k
  obtain ⟨_, _, ⟨T2, L2, k2, n2⟩, -, X2, ⟨Lc2, hQ2, l2, y2, z2⟩, st2⟩ := Jvm.LawKit.callS X1 hx (y := (⟨"java/lang/StringLatin1", "canEncode", "(C)Z"⟩ : MethodName)) hown (mvT hZ (hw _ (List.mem_of_getElem? (i := 5) rfl))) (mvT hZ (hw _ (List.mem_of_getElem? (i := 6) rfl))) (mvT hZ (hw _ (List.mem_of_getElem? (i := 7) rfl))) (mvT hZ (hw _ (List.mem_of_getElem? (i := 8) rfl))) (by decide) (backOf (W := 0) (rm2 l Z a0 hw [] p1 h0 n0 Z0 c1) hZ (hw _ (List.mem_of_getElem? (i := 8) rfl)) (hw _ (List.mem_of_getElem? (i := 7) rfl)) (by decide) (by decide)) (g := (mkF m 7 #[.val (.int p1)] [(.int p1)])) rfl (by rw [hml]; rfl) (argsL := [(.int p1)]) (rest := []) (lenOf pd_rm1_0 rfl) rfl (by show 2 * 0 + _ ≤ _; exact Nat.le_of_eq rfl) (hb hby d1_7) (fun _ _ => ⟨rfl, e1, (by decide : 0 + 0 ≤ _), (by decide : 0 + 0 ≤ _)⟩)
  dsimp only [Pt.U, Pt.locs, Pt.cells, Pt.slots] at X2 l2 y2 z2 st2 hQ2
  subst l2 y2 z2
  obtain ⟨rfl, N2q, eh⟩ := hQ2
  have N2 := Fr.app N0 N2q
  have eh2 := eh
  refine OEnds.go (t' := T2.setTop (mkF m 10 #[.val (.int p1)] [(.int (1 : Int32))])) (fun _ k => st2 _ k) ?_
  refine OEnds.go (t' := T2.setTop (mkF m 13 #[.val (.int p1)] [])) (fun _ k => XS.ifNo X2.here hx rfl (hb hby d1_10) rfl ((if0 _ _).trans (feq (by decide)).1) k) ?_
  obtain ⟨T3, h3, X3, e3, E3, A3, D3, -, st3⟩ := newO X2 hx hZ hown (hw _ (List.mem_of_getElem? (i := 9) rfl)) (hw _ (List.mem_of_getElem? (i := 10) rfl)) (hw _ (List.mem_of_getElem? (i := 2) rfl)) eh2 (g := (mkF m 13 #[.val (.int p1)] [])) rfl (hb hby d1_13) (by decide) (by decide)
  obtain ⟨b1, gz3⟩ : ∃ z, z = h0.size := ⟨_, rfl⟩
  rw [← gz3] at A3 D3 st3
  have g_b1 : n0 ≤ b1 := Nat.le_trans Z0 (Nat.le_of_eq gz3.symm)
  have sz_b1 : h0.size ≤ b1 := Nat.le_trans (Keep.refl h0 []).1 (Nat.le_of_eq gz3.symm)
  have Z3 : n0 ≤ h3.size := Nat.le_trans Z0 E3.1
  have K3 := (Keep.refl h0 []).ext E3
  have E_b1 := A3
  have F_value_b1 : Fld Z h3 b1 "java/lang/String" "value" "[B" .null := D3 (Or.inr (hw _ (List.mem_of_getElem? (i := 23) rfl))) (ty := (.array .byte)) (by decide)
  have F_coder_b1 : Fld Z h3 b1 "java/lang/String" "coder" "B" (.int (0 : Int32)) := D3 (Or.inr (hw _ (List.mem_of_getElem? (i := 25) rfl))) (ty := .byte) (by decide)
  refine OEnds.go (t' := T3.setTop (mkF m 16 #[.val (.int p1)] [(.ref b1)])) (fun _ k => st3 _ k) ?_
  refine OEnds.go (t' := T3.setTop (mkF m 18 #[.val (.int p1)] [(.int p1), (.ref b1), (.ref b1)])) (fun _ k => ?_) ?_
  · show Steps p.tables e below (T3.setTop (mkF m 16 #[.val (.int p1)] [(.ref b1)])) _
    refine XS.dup X3.here hx rfl (hb hby d1_16) rfl rfl ?_
    show Steps p.tables e below (T3.setTop (mkF m 17 #[.val (.int p1)] [(.ref b1), (.ref b1)])) _
    refine XS.iloadN X3.here hx rfl (hb hby d1_17) rfl ?_
    show Steps p.tables e below (T3.setTop (mkF m 18 #[.val (.int p1)] [(.int p1), (.ref b1), (.ref b1)])) _
    exact k
  obtain ⟨_, _, ⟨T4, L4, k4, n4⟩, -, X4, ⟨Lc4, hQ4, l4, y4, z4⟩, st4⟩ := Jvm.LawKit.callS X3 hx (y := (⟨"java/lang/StringLatin1", "toBytes", "(C)[B"⟩ : MethodName)) hown (mvT hZ (hw _ (List.mem_of_getElem? (i := 11) rfl))) (mvT hZ (hw _ (List.mem_of_getElem? (i := 12) rfl))) (mvT hZ (hw _ (List.mem_of_getElem? (i := 7) rfl))) (mvT hZ (hw _ (List.mem_of_getElem? (i := 13) rfl))) (by decide) (backOf (W := 2) (rm3 l Z a0 hw [] p1 h3 n0 Z3 ) hZ (hw _ (List.mem_of_getElem? (i := 13) rfl)) (hw _ (List.mem_of_getElem? (i := 7) rfl)) (by decide) (by decide)) (g := (mkF m 18 #[.val (.int p1)] [(.int p1), (.ref b1), (.ref b1)])) rfl (by rw [hml]; rfl) (argsL := [(.int p1)]) (rest := [(.ref b1), (.ref b1)]) (lenOf pd_rm1_1 rfl) rfl (by show 2 * 0 + _ ≤ _; exact Nat.le_of_eq rfl) (hb hby d1_18) (fun _ _ => ⟨rfl, e3, (by decide : 1 + 1 ≤ _), (by decide : 4 + 1 ≤ _)⟩)
  dsimp only [Pt.U, Pt.locs, Pt.cells, Pt.slots] at X4 l4 y4 z4 st4 hQ4
  subst l4 y4 z4
  obtain ⟨b4, rfl, N4q, Kc4⟩ := hQ4
  have N4 := Fr.app N2 N4q
  have E_b1 := E_b1.keep Kc4
  have F_value_b1 := F_value_b1.keep Kc4 nin0
  have F_coder_b1 := F_coder_b1.keep Kc4 nin0
  have Z4 : n0 ≤ T4.heap.size := Nat.le_trans Z3 Kc4.1
  have K4 := K3.trans Kc4 all0
  refine OEnds.go (t' := T4.setTop (mkF m 21 #[.val (.int p1)] [(.ref b4), (.ref b1), (.ref b1)])) (fun _ k => st4 _ k) ?_
  refine OEnds.go (t' := T4.setTop (mkF m 22 #[.val (.int p1)] [(.int (0 : Int32)), (.ref b4), (.ref b1), (.ref b1)])) (fun _ k => ?_) ?_
  · show Steps p.tables e below (T4.setTop (mkF m 21 #[.val (.int p1)] [(.ref b4), (.ref b1), (.ref b1)])) _
    refine XS.iconst X4.here hx rfl (hb hby d1_21) ?_
    show Steps p.tables e below (T4.setTop (mkF m 22 #[.val (.int p1)] [(.int (0 : Int32)), (.ref b4), (.ref b1), (.ref b1)])) _
    exact k
  obtain ⟨_, _, ⟨T5, L5, k5, n5⟩, -, X5, ⟨Lc5, hQ5, l5, y5, z5⟩, st5⟩ := X4.specialBack hx (y := (⟨"java/lang/String", "<init>", "([BB)V"⟩ : MethodName)) rfl hown (mvT hZ (hw _ (List.mem_of_getElem? (i := 15) rfl))) (mvT hZ (hw _ (List.mem_of_getElem? (i := 16) rfl))) (mvT hZ (hw _ (List.mem_of_getElem? (i := 18) rfl))) (by decide) (backOf (W := 1) (rm4 l Z a0 hw [] b1 b4 (0 : Int32) T4.heap n0 Z4 F_value_b1 F_coder_b1 E_b1 g_b1) hZ (hw _ (List.mem_of_getElem? (i := 18) rfl)) (hw _ (List.mem_of_getElem? (i := 2) rfl)) (by decide) (by decide)) (g := (mkF m 22 #[.val (.int p1)] [(.int (0 : Int32)), (.ref b4), (.ref b1), (.ref b1)])) rfl (by rw [hml]; rfl) (Steps.refl _) (a := b1) (argsL := [(.ref b4), (.int (0 : Int32))]) (rest := [(.ref b1)]) (lenOf pd_rm1_2 rfl) rfl (by show 2 * 0 + _ ≤ _; exact Nat.le_of_eq rfl) (hb hby d1_22) (fun _ _ => ⟨rfl, rfl, (by decide : 2 + 0 ≤ _), (by decide : 5 + 0 ≤ _)⟩)
  dsimp only [Pt.U, Pt.locs, Pt.cells, Pt.slots] at X5 l5 y5 z5 st5 hQ5
  subst l5 y5 z5
  obtain ⟨rfl, N5q, Kc5⟩ := hQ5
  have N5 := Fr.app N4 N5q
  have E_b1 := E_b1.keep Kc5
  have Z5 : n0 ≤ T5.heap.size := Nat.le_trans Z4 Kc5.1
  have K5 := K4.trans Kc5 (allS (Or.inr sz_b1) all0)
  refine OEnds.go (t' := T5.setTop (mkF m 25 #[.val (.int p1)] [(.ref b1)])) (fun _ k => st5.trans k) ?_
  refine OEnds.back X5 hlk (v := (some (.ref b1))) (fun h => by rw [hrt] at h; cases h) (fun fs hr => ?_) ?_ (by decide) (by decide)
  · exact retA X5 hx hrt rfl rfl rfl (hb hby d1_25) hr
  · show Q1 Z p1 w1 h0 n0 _ T5.heap _
    exact ⟨_, rfl, N5, K5⟩
theorem d7_0 : decode jdk_30_method_1_code 0 = .ok (.aload_n 0, 1) := by decide +kernel
theorem d7_1 : decode jdk_30_method_1_code 1 = .ok (.invokespecial 1, 3) := by decide +kernel
theorem d7_4 : decode jdk_30_method_1_code 4 = .ok (.return_, 1) := by decide +kernel
theorem pn_7 : plainName "java/lang/Record" = true := by first | (simp [plainName, overriddenIn]; done) | decide +kernel
theorem ef_rm7 (m : MethodId) (a1 : Addr) : entryFrame m #[(.ref a1)] 1 = mkF m 0 #[.val (.ref a1)] [] := by first | (simp [entryFrame, mkF, argsToLocals, Value.category]; done) | rfl
def Q7 (Z : State) (a1 : Addr)  (h0 : Heap) (n0 : Nat) (v : Option Value) (h : Heap) (L : List Loc) : Prop := v = none ∧ Fr n0 L ∧ h = h0
set_option maxRecDepth 65536 in
set_option maxHeartbeats 40000000 in
theorem rm7 (l : Launch) (Z : State) (a0 : Array Value) (hw : ∀ d ∈ tables_1, d.before a0 Z = true) (ws : List Jvm.Cond) (a1 : Addr)  (h0 : Heap) (n0 : Nat) (Z0 : n0 ≤ h0.size)  :
    MetFree l (⟨"java/lang/Record", "<init>", "()V"⟩ : MethodName) (head1 (Jvm.Cond.code (⟨"java/lang/Record", "<init>", "()V"⟩ : MethodName) jdk_30_method_1_code 1 none :: ws) ({ frames := 1, cells := 0, slots := 0, locals := 12 } : Room)) (fun a U => a = #[(.ref a1)] ∧ Z.Warmed39 U.vm ∧ U.heap = h0) (fun _ _ _ _ _ => True) (fun _ U o U' => ∃ v L, o = .returned v ∧ Q7 Z a1  h0 n0 v U'.heap L ∧ FrameEnd U o U' L ({ frames := 1, cells := 0, slots := 0, locals := 12 } : Room).cells ({ frames := 1, cells := 0, slots := 0, locals := 12 } : Room).slots) := by
  refine MetFree.of_bodySF (plainFor_of_name pn_7) hisR ?_
  intro p e s m args below meth c s₁ Bd hml0 hP hK
  obtain ⟨rfl, hZ, hh⟩ := hP
  have hx := Bd.exec
  have hby := Bd.bytes
  have hml : c.maxLocals = 1 := hml0
  have hown : s.vm.findClass "java/lang/Record" = some m.cls := findClass_of_methodNamed Bd.named
  have hnm := (name_of_methodNamed Bd.named Bd.method).1
  have hlk := BodyLoose.notSynchronized Bd
  have hrt := Bd.returns
  have X0 : Stand p l e ({ frames := 1, cells := 0, slots := 0, locals := 12 } : Room) s m #[(.ref a1)] below meth c s₁ [] 0 0 := Stand.of_body Bd
  have e0 : s₁.heap = h0 := by rw [← hh, Bd.state]; rfl
  have N0 := Fr.nil n0
  show OEnds p e below s (Q7 Z a1  h0 n0) ({ frames := 1, cells := 0, slots := 0, locals := 12 } : Room).cells ({ frames := 1, cells := 0, slots := 0, locals := 12 } : Room).slots (s₁.setTop (entryFrame m #[(.ref a1)] 1))
  refine OEnds.go (t' := s₁.setTop (mkF m 0 #[.val (.ref a1)] [])) (fun t k => castTop (ef_rm7 m a1) k) ?_
  refine OEnds.go (t' := s₁.setTop (mkF m 1 #[.val (.ref a1)] [(.ref a1)])) (fun _ k => ?_) ?_
  · show Steps p.tables e below (s₁.setTop (mkF m 0 #[.val (.ref a1)] [])) _
    refine XS.aloadN X0.here hx rfl (hb hby d7_0) rfl rfl ?_
    show Steps p.tables e below (s₁.setTop (mkF m 1 #[.val (.ref a1)] [(.ref a1)])) _
    exact k
  obtain ⟨T1, X1, e1, st1⟩ := initO X0 hx hZ hown (hw _ (List.mem_of_getElem? (i := 37) rfl)) (hw _ (List.mem_of_getElem? (i := 20) rfl)) (hw _ (List.mem_of_getElem? (i := 21) rfl)) e0 (g := (mkF m 1 #[.val (.ref a1)] [(.ref a1)])) rfl (by rw [hml]; rfl) rfl (hb hby d7_1) (by decide) (W := 0) (by show 2 * 0 + _ ≤ _; exact Nat.le_of_eq rfl) (by decide)
  refine OEnds.go (t' := T1.setTop (mkF m 4 #[.val (.ref a1)] [])) (fun _ k => st1 _ k) ?_
  refine OEnds.back X1 hlk (v := none) (fun _ => rfl) (fun fs hr => ?_) ?_ (by decide) (by decide)
  · exact X1.returnOut hx hrt (hb hby d7_4) hr
  · show Q7 Z a1  h0 n0 _ T1.heap _
    rw [e1]
    exact ⟨rfl, N0, rfl⟩
theorem d6_0 : decode prog_58_method_1_code 0 = .ok (.aload_n 0, 1) := by decide +kernel
theorem d6_1 : decode prog_58_method_1_code 1 = .ok (.invokespecial 1, 3) := by decide +kernel
theorem d6_4 : decode prog_58_method_1_code 4 = .ok (.aload_n 0, 1) := by decide +kernel
theorem d6_5 : decode prog_58_method_1_code 5 = .ok (.iload_n 1, 1) := by decide +kernel
theorem d6_6 : decode prog_58_method_1_code 6 = .ok (.putfield 7, 3) := by decide +kernel
theorem d6_9 : decode prog_58_method_1_code 9 = .ok (.aload_n 0, 1) := by decide +kernel
theorem d6_10 : decode prog_58_method_1_code 10 = .ok (.iload_n 2, 1) := by decide +kernel
theorem d6_11 : decode prog_58_method_1_code 11 = .ok (.putfield 13, 3) := by decide +kernel
theorem d6_14 : decode prog_58_method_1_code 14 = .ok (.aload_n 0, 1) := by decide +kernel
theorem d6_15 : decode prog_58_method_1_code 15 = .ok (.aload_n 3, 1) := by decide +kernel
theorem d6_16 : decode prog_58_method_1_code 16 = .ok (.putfield 17, 3) := by decide +kernel
theorem d6_19 : decode prog_58_method_1_code 19 = .ok (.return_, 1) := by decide +kernel
theorem pn_6 : plainName "com/example/viitta/viitta/zones/TimeType" = true := by first | (simp [plainName, overriddenIn]; done) | decide +kernel
theorem pd_rm6_0 : parseMethodDescriptor "()V" = some ⟨[], none⟩ := by decide +kernel
theorem ef_rm6 (m : MethodId) (a1 : Addr) (p1 : Int32) (p2 : Int32) (a2 : Addr) : entryFrame m #[(.ref a1), (.int p1), (.int p2), (.ref a2)] 4 = mkF m 0 #[.val (.ref a1), .val (.int p1), .val (.int p2), .val (.ref a2)] [] := by first | (simp [entryFrame, mkF, argsToLocals, Value.category]; done) | rfl
def Q6 (Z : State) (a1 : Addr) (p1 : Int32) (p2 : Int32) (a2 : Addr)  (h0 : Heap) (n0 : Nat) (v : Option Value) (h : Heap) (L : List Loc) : Prop := v = none ∧ Fr n0 L ∧ Keep h0 h [a1] ∧ Exa Z h a1 "com/example/viitta/viitta/zones/TimeType" ∧ Fld Z h a1 "com/example/viitta/viitta/zones/TimeType" "offset" "I" (.int p1)
set_option maxRecDepth 65536 in
set_option maxHeartbeats 40000000 in
theorem rm6 (l : Launch) (Z : State) (a0 : Array Value) (hw : ∀ d ∈ tables_1, d.before a0 Z = true) (ws : List Jvm.Cond) (a1 : Addr) (p1 : Int32) (p2 : Int32) (a2 : Addr)  (h0 : Heap) (n0 : Nat) (Z0 : n0 ≤ h0.size) (F_offset_a1 : Fld Z h0 a1 "com/example/viitta/viitta/zones/TimeType" "offset" "I" (.int (0 : Int32))) (F_dst_a1 : Fld Z h0 a1 "com/example/viitta/viitta/zones/TimeType" "dst" "Z" (.int (0 : Int32))) (F_abbreviation_a1 : Fld Z h0 a1 "com/example/viitta/viitta/zones/TimeType" "abbreviation" "Ljava/lang/String;" .null) (E_a1 : Exa Z h0 a1 "com/example/viitta/viitta/zones/TimeType") (g_a1 : n0 ≤ a1) :
    MetFree l (⟨"com/example/viitta/viitta/zones/TimeType", "<init>", "(IZLjava/lang/String;)V"⟩ : MethodName) (head1 (Jvm.Cond.code (⟨"com/example/viitta/viitta/zones/TimeType", "<init>", "(IZLjava/lang/String;)V"⟩ : MethodName) prog_58_method_1_code 4 none :: ws) ({ frames := 2, cells := 0, slots := 0, locals := 24 } : Room)) (fun a U => a = #[(.ref a1), (.int p1), (.int p2), (.ref a2)] ∧ Z.Warmed39 U.vm ∧ U.heap = h0) (fun _ _ _ _ _ => True) (fun _ U o U' => ∃ v L, o = .returned v ∧ Q6 Z a1 p1 p2 a2  h0 n0 v U'.heap L ∧ FrameEnd U o U' L ({ frames := 2, cells := 0, slots := 0, locals := 24 } : Room).cells ({ frames := 2, cells := 0, slots := 0, locals := 24 } : Room).slots) := by
  refine MetFree.of_bodySF (plainFor_of_name pn_6) hisR ?_
  intro p e s m args below meth c s₁ Bd hml0 hP hK
  obtain ⟨rfl, hZ, hh⟩ := hP
  have hx := Bd.exec
  have hby := Bd.bytes
  have hml : c.maxLocals = 4 := hml0
  have hown : s.vm.findClass "com/example/viitta/viitta/zones/TimeType" = some m.cls := findClass_of_methodNamed Bd.named
  have hnm := (name_of_methodNamed Bd.named Bd.method).1
  have hlk := BodyLoose.notSynchronized Bd
  have hrt := Bd.returns
  have X0 : Stand p l e ({ frames := 2, cells := 0, slots := 0, locals := 24 } : Room) s m #[(.ref a1), (.int p1), (.int p2), (.ref a2)] below meth c s₁ [] 0 0 := Stand.of_body Bd
  have e0 : s₁.heap = h0 := by rw [← hh, Bd.state]; rfl
  have N0 := Fr.nil n0
  show OEnds p e below s (Q6 Z a1 p1 p2 a2  h0 n0) ({ frames := 2, cells := 0, slots := 0, locals := 24 } : Room).cells ({ frames := 2, cells := 0, slots := 0, locals := 24 } : Room).slots (s₁.setTop (entryFrame m #[(.ref a1), (.int p1), (.int p2), (.ref a2)] 4))
  refine OEnds.go (t' := s₁.setTop (mkF m 0 #[.val (.ref a1), .val (.int p1), .val (.int p2), .val (.ref a2)] [])) (fun t k => castTop (ef_rm6 m a1 p1 p2 a2) k) ?_
  refine OEnds.go (t' := s₁.setTop (mkF m 1 #[.val (.ref a1), .val (.int p1), .val (.int p2), .val (.ref a2)] [(.ref a1)])) (fun _ k => ?_) ?_
  · show Steps p.tables e below (s₁.setTop (mkF m 0 #[.val (.ref a1), .val (.int p1), .val (.int p2), .val (.ref a2)] [])) _
    refine XS.aloadN X0.here hx rfl (hb hby d6_0) rfl rfl ?_
    show Steps p.tables e below (s₁.setTop (mkF m 1 #[.val (.ref a1), .val (.int p1), .val (.int p2), .val (.ref a2)] [(.ref a1)])) _
    exact k
  obtain ⟨_, _, ⟨T1, L1, k1, n1⟩, -, X1, ⟨Lc1, hQ1, l1, y1, z1⟩, st1⟩ := X0.specialBack hx (y := (⟨"java/lang/Record", "<init>", "()V"⟩ : MethodName)) rfl hown (mvT hZ (hw _ (List.mem_of_getElem? (i := 32) rfl))) (mvT hZ (hw _ (List.mem_of_getElem? (i := 33) rfl))) (mvT hZ (hw _ (List.mem_of_getElem? (i := 36) rfl))) (by decide) (backOf (W := 0) (rm7 l Z a0 hw [] a1 h0 n0 Z0 ) hZ (hw _ (List.mem_of_getElem? (i := 36) rfl)) (hw _ (List.mem_of_getElem? (i := 35) rfl)) (by decide) (by decide)) (g := (mkF m 1 #[.val (.ref a1), .val (.int p1), .val (.int p2), .val (.ref a2)] [(.ref a1)])) rfl (by rw [hml]; rfl) (Steps.refl _) (a := a1) (argsL := []) (rest := []) (lenOf pd_rm6_0 rfl) rfl (by show 2 * 0 + _ ≤ _; exact Nat.le_of_eq rfl) (hb hby d6_1) (fun _ _ => ⟨rfl, e0, (by decide : 0 + 0 ≤ _), (by decide : 0 + 0 ≤ _)⟩)
  dsimp only [Pt.U, Pt.locs, Pt.cells, Pt.slots] at X1 l1 y1 z1 st1 hQ1
  subst l1 y1 z1
  obtain ⟨rfl, N1q, eh⟩ := hQ1
  have N1 := Fr.app N0 N1q
  have eh1 := eh
  refine OEnds.go (t' := T1.setTop (mkF m 4 #[.val (.ref a1), .val (.int p1), .val (.int p2), .val (.ref a2)] [])) (fun _ k => st1.trans k) ?_
  refine OEnds.go (t' := T1.setTop (mkF m 6 #[.val (.ref a1), .val (.int p1), .val (.int p2), .val (.ref a2)] [(.int p1), (.ref a1)])) (fun _ k => ?_) ?_
  · show Steps p.tables e below (T1.setTop (mkF m 4 #[.val (.ref a1), .val (.int p1), .val (.int p2), .val (.ref a2)] [])) _
    refine XS.aloadN X1.here hx rfl (hb hby d6_4) rfl rfl ?_
    show Steps p.tables e below (T1.setTop (mkF m 5 #[.val (.ref a1), .val (.int p1), .val (.int p2), .val (.ref a2)] [(.ref a1)])) _
    refine XS.iloadN X1.here hx rfl (hb hby d6_5) rfl ?_
    show Steps p.tables e below (T1.setTop (mkF m 6 #[.val (.ref a1), .val (.int p1), .val (.int p2), .val (.ref a2)] [(.int p1), (.ref a1)])) _
    exact k
  obtain ⟨T2, h2, X2, e2, W2, st2⟩ := putF X1 hx hZ hown (host := "") (Or.inl (hw _ (List.mem_of_getElem? (i := 38) rfl))) Via.refl eh1 F_offset_a1 E_a1 (Or.inr ⟨(hw _ (List.mem_of_getElem? (i := 39) rfl)), rfl, hnm⟩) (hw _ (List.mem_of_getElem? (i := 27) rfl)) (ty := .int) (by decide) rfl rfl (g := (mkF m 6 #[.val (.ref a1), .val (.int p1), .val (.int p2), .val (.ref a2)] [(.int p1), (.ref a1)])) rfl rfl (hb hby d6_6)
  have N2 := Fr.snoc X2 N1 g_a1
  have E_a1 := E_a1.wr W2
  have F_offset_a1 := F_offset_a1.same W2
  have F_dst_a1 := F_dst_a1.other W2 (Or.inr (slot_ne (Or.inr (hw _ (List.mem_of_getElem? (i := 41) rfl))) (Or.inr (hw _ (List.mem_of_getElem? (i := 39) rfl))) (by decide) (t := .boolean) (t' := .int) (by decide) (by decide)))
  have F_abbreviation_a1 := F_abbreviation_a1.other W2 (Or.inr (slot_ne (Or.inr (hw _ (List.mem_of_getElem? (i := 43) rfl))) (Or.inr (hw _ (List.mem_of_getElem? (i := 39) rfl))) (by decide) (t := (.object "java/lang/String")) (t' := .int) (by decide) (by decide)))
  have Z2 : n0 ≤ h2.size := Nat.le_trans Z0 (Keep.of_wr W2).1
  have K2 := (Keep.refl h0 [a1]).wr W2 (Or.inl (List.mem_of_getElem? (i := 0) rfl))
  refine OEnds.go (t' := T2.setTop (mkF m 9 #[.val (.ref a1), .val (.int p1), .val (.int p2), .val (.ref a2)] [])) (fun _ k => st2 _ k) ?_
  refine OEnds.go (t' := T2.setTop (mkF m 11 #[.val (.ref a1), .val (.int p1), .val (.int p2), .val (.ref a2)] [(.int p2), (.ref a1)])) (fun _ k => ?_) ?_
  · show Steps p.tables e below (T2.setTop (mkF m 9 #[.val (.ref a1), .val (.int p1), .val (.int p2), .val (.ref a2)] [])) _
    refine XS.aloadN X2.here hx rfl (hb hby d6_9) rfl rfl ?_
    show Steps p.tables e below (T2.setTop (mkF m 10 #[.val (.ref a1), .val (.int p1), .val (.int p2), .val (.ref a2)] [(.ref a1)])) _
    refine XS.iloadN X2.here hx rfl (hb hby d6_10) rfl ?_
    show Steps p.tables e below (T2.setTop (mkF m 11 #[.val (.ref a1), .val (.int p1), .val (.int p2), .val (.ref a2)] [(.int p2), (.ref a1)])) _
    exact k
  obtain ⟨T3, h3, X3, e3, W3, st3⟩ := putFN X2 hx hZ hown (hw _ (List.mem_of_getElem? (i := 40) rfl)) Via.refl e2 F_dst_a1 E_a1 (Or.inr ⟨(hw _ (List.mem_of_getElem? (i := 41) rfl)), rfl, hnm⟩) (hw _ (List.mem_of_getElem? (i := 27) rfl)) (ty := .boolean) (v' := (.int (nar .boolean p2))) (by decide) rfl (fits_nar_bool _) (g := (mkF m 11 #[.val (.ref a1), .val (.int p1), .val (.int p2), .val (.ref a2)] [(.int p2), (.ref a1)])) rfl rfl (hb hby d6_11)
  have N3 := Fr.snoc X3 N2 g_a1
  have E_a1 := E_a1.wr W3
  have F_offset_a1 := F_offset_a1.other W3 (Or.inr (slot_ne (Or.inr (hw _ (List.mem_of_getElem? (i := 39) rfl))) (Or.inr (hw _ (List.mem_of_getElem? (i := 41) rfl))) (by decide) (t := .int) (t' := .boolean) (by decide) (by decide)))
  have F_dst_a1 := F_dst_a1.same W3
  have F_abbreviation_a1 := F_abbreviation_a1.other W3 (Or.inr (slot_ne (Or.inr (hw _ (List.mem_of_getElem? (i := 43) rfl))) (Or.inr (hw _ (List.mem_of_getElem? (i := 41) rfl))) (by decide) (t := (.object "java/lang/String")) (t' := .boolean) (by decide) (by decide)))
  have Z3 : n0 ≤ h3.size := Nat.le_trans Z2 (Keep.of_wr W3).1
  have K3 := K2.wr W3 (Or.inl (List.mem_of_getElem? (i := 0) rfl))
  refine OEnds.go (t' := T3.setTop (mkF m 14 #[.val (.ref a1), .val (.int p1), .val (.int p2), .val (.ref a2)] [])) (fun _ k => st3 _ k) ?_
  refine OEnds.go (t' := T3.setTop (mkF m 16 #[.val (.ref a1), .val (.int p1), .val (.int p2), .val (.ref a2)] [(.ref a2), (.ref a1)])) (fun _ k => ?_) ?_
  · show Steps p.tables e below (T3.setTop (mkF m 14 #[.val (.ref a1), .val (.int p1), .val (.int p2), .val (.ref a2)] [])) _
    refine XS.aloadN X3.here hx rfl (hb hby d6_14) rfl rfl ?_
    show Steps p.tables e below (T3.setTop (mkF m 15 #[.val (.ref a1), .val (.int p1), .val (.int p2), .val (.ref a2)] [(.ref a1)])) _
    refine XS.aloadN X3.here hx rfl (hb hby d6_15) rfl rfl ?_
    show Steps p.tables e below (T3.setTop (mkF m 16 #[.val (.ref a1), .val (.int p1), .val (.int p2), .val (.ref a2)] [(.ref a2), (.ref a1)])) _
    exact k
  obtain ⟨T4, h4, X4, e4, W4, st4⟩ := putF X3 hx hZ hown (host := "") (Or.inl (hw _ (List.mem_of_getElem? (i := 42) rfl))) Via.refl e3 F_abbreviation_a1 E_a1 (Or.inr ⟨(hw _ (List.mem_of_getElem? (i := 43) rfl)), rfl, hnm⟩) (hw _ (List.mem_of_getElem? (i := 27) rfl)) (ty := (.object "java/lang/String")) (by decide) rfl rfl (g := (mkF m 16 #[.val (.ref a1), .val (.int p1), .val (.int p2), .val (.ref a2)] [(.ref a2), (.ref a1)])) rfl rfl (hb hby d6_16)
  have N4 := Fr.snoc X4 N3 g_a1
  have E_a1 := E_a1.wr W4
  have F_offset_a1 := F_offset_a1.other W4 (Or.inr (slot_ne (Or.inr (hw _ (List.mem_of_getElem? (i := 39) rfl))) (Or.inr (hw _ (List.mem_of_getElem? (i := 43) rfl))) (by decide) (t := .int) (t' := (.object "java/lang/String")) (by decide) (by decide)))
  have F_dst_a1 := F_dst_a1.other W4 (Or.inr (slot_ne (Or.inr (hw _ (List.mem_of_getElem? (i := 41) rfl))) (Or.inr (hw _ (List.mem_of_getElem? (i := 43) rfl))) (by decide) (t := .boolean) (t' := (.object "java/lang/String")) (by decide) (by decide)))
  have F_abbreviation_a1 := F_abbreviation_a1.same W4
  have Z4 : n0 ≤ h4.size := Nat.le_trans Z3 (Keep.of_wr W4).1
  have K4 := K3.wr W4 (Or.inl (List.mem_of_getElem? (i := 0) rfl))
  refine OEnds.go (t' := T4.setTop (mkF m 19 #[.val (.ref a1), .val (.int p1), .val (.int p2), .val (.ref a2)] [])) (fun _ k => st4 _ k) ?_
  refine OEnds.back X4 hlk (v := none) (fun _ => rfl) (fun fs hr => ?_) ?_ (by decide) (by decide)
  · exact X4.returnOut hx hrt (hb hby d6_19) hr
  · show Q6 Z a1 p1 p2 a2  h0 n0 _ T4.heap _
    rw [e4]
    exact ⟨rfl, N4, K4, E_a1, F_offset_a1⟩
theorem d8_0 : decode prog_56_method_1_code 0 = .ok (.aload_n 0, 1) := by decide +kernel
theorem d8_1 : decode prog_56_method_1_code 1 = .ok (.invokespecial 1, 3) := by decide +kernel
theorem d8_4 : decode prog_56_method_1_code 4 = .ok (.aload_n 0, 1) := by decide +kernel
theorem d8_5 : decode prog_56_method_1_code 5 = .ok (.lload_n 1, 1) := by decide +kernel
theorem d8_6 : decode prog_56_method_1_code 6 = .ok (.putfield 7, 3) := by decide +kernel
theorem d8_9 : decode prog_56_method_1_code 9 = .ok (.aload_n 0, 1) := by decide +kernel
theorem d8_10 : decode prog_56_method_1_code 10 = .ok (.aload_n 3, 1) := by decide +kernel
theorem d8_11 : decode prog_56_method_1_code 11 = .ok (.putfield 13, 3) := by decide +kernel
theorem d8_14 : decode prog_56_method_1_code 14 = .ok (.aload_n 0, 1) := by decide +kernel
theorem d8_15 : decode prog_56_method_1_code 15 = .ok (.aload 4, 2) := by decide +kernel
theorem d8_17 : decode prog_56_method_1_code 17 = .ok (.putfield 17, 3) := by decide +kernel
theorem d8_20 : decode prog_56_method_1_code 20 = .ok (.return_, 1) := by decide +kernel
theorem pn_8 : plainName "com/example/viitta/viitta/zones/Step" = true := by first | (simp [plainName, overriddenIn]; done) | decide +kernel
theorem pd_rm8_0 : parseMethodDescriptor "()V" = some ⟨[], none⟩ := by decide +kernel
theorem ef_rm8 (m : MethodId) (a1 : Addr) (q1 : Int64) (a2 : Addr) (a3 : Addr) : entryFrame m #[(.ref a1), (.long q1), (.ref a2), (.ref a3)] 5 = mkF m 0 #[.val (.ref a1), .val (.long q1), .second, .val (.ref a2), .val (.ref a3)] [] := by first | (simp [entryFrame, mkF, argsToLocals, Value.category]; done) | rfl
def Q8 (Z : State) (a1 : Addr) (q1 : Int64) (a2 : Addr) (a3 : Addr)  (h0 : Heap) (n0 : Nat) (v : Option Value) (h : Heap) (L : List Loc) : Prop := v = none ∧ Fr n0 L ∧ Keep h0 h [a1] ∧ Exa Z h a1 "com/example/viitta/viitta/zones/Step" ∧ Fld Z h a1 "com/example/viitta/viitta/zones/Step" "instant" "J" (.long q1) ∧ Fld Z h a1 "com/example/viitta/viitta/zones/Step" "from" "Lcom/example/viitta/viitta/zones/TimeType;" (.ref a2)
set_option maxRecDepth 65536 in
set_option maxHeartbeats 40000000 in
theorem rm8 (l : Launch) (Z : State) (a0 : Array Value) (hw : ∀ d ∈ tables_1, d.before a0 Z = true) (ws : List Jvm.Cond) (a1 : Addr) (q1 : Int64) (a2 : Addr) (a3 : Addr)  (h0 : Heap) (n0 : Nat) (Z0 : n0 ≤ h0.size) (F_instant_a1 : Fld Z h0 a1 "com/example/viitta/viitta/zones/Step" "instant" "J" (.long (0 : Int64))) (F_from_a1 : Fld Z h0 a1 "com/example/viitta/viitta/zones/Step" "from" "Lcom/example/viitta/viitta/zones/TimeType;" .null) (F_to_a1 : Fld Z h0 a1 "com/example/viitta/viitta/zones/Step" "to" "Lcom/example/viitta/viitta/zones/TimeType;" .null) (E_a1 : Exa Z h0 a1 "com/example/viitta/viitta/zones/Step") (g_a1 : n0 ≤ a1) :
    MetFree l (⟨"com/example/viitta/viitta/zones/Step", "<init>", "(JLcom/example/viitta/viitta/zones/TimeType;Lcom/example/viitta/viitta/zones/TimeType;)V"⟩ : MethodName) (head1 (Jvm.Cond.code (⟨"com/example/viitta/viitta/zones/Step", "<init>", "(JLcom/example/viitta/viitta/zones/TimeType;Lcom/example/viitta/viitta/zones/TimeType;)V"⟩ : MethodName) prog_56_method_1_code 5 none :: ws) ({ frames := 2, cells := 0, slots := 0, locals := 24 } : Room)) (fun a U => a = #[(.ref a1), (.long q1), (.ref a2), (.ref a3)] ∧ Z.Warmed39 U.vm ∧ U.heap = h0) (fun _ _ _ _ _ => True) (fun _ U o U' => ∃ v L, o = .returned v ∧ Q8 Z a1 q1 a2 a3  h0 n0 v U'.heap L ∧ FrameEnd U o U' L ({ frames := 2, cells := 0, slots := 0, locals := 24 } : Room).cells ({ frames := 2, cells := 0, slots := 0, locals := 24 } : Room).slots) := by
  refine MetFree.of_bodySF (plainFor_of_name pn_8) hisR ?_
  intro p e s m args below meth c s₁ Bd hml0 hP hK
  obtain ⟨rfl, hZ, hh⟩ := hP
  have hx := Bd.exec
  have hby := Bd.bytes
  have hml : c.maxLocals = 5 := hml0
  have hown : s.vm.findClass "com/example/viitta/viitta/zones/Step" = some m.cls := findClass_of_methodNamed Bd.named
  have hnm := (name_of_methodNamed Bd.named Bd.method).1
  have hlk := BodyLoose.notSynchronized Bd
  have hrt := Bd.returns
  have X0 : Stand p l e ({ frames := 2, cells := 0, slots := 0, locals := 24 } : Room) s m #[(.ref a1), (.long q1), (.ref a2), (.ref a3)] below meth c s₁ [] 0 0 := Stand.of_body Bd
  have e0 : s₁.heap = h0 := by rw [← hh, Bd.state]; rfl
  have N0 := Fr.nil n0
  show OEnds p e below s (Q8 Z a1 q1 a2 a3  h0 n0) ({ frames := 2, cells := 0, slots := 0, locals := 24 } : Room).cells ({ frames := 2, cells := 0, slots := 0, locals := 24 } : Room).slots (s₁.setTop (entryFrame m #[(.ref a1), (.long q1), (.ref a2), (.ref a3)] 5))
  refine OEnds.go (t' := s₁.setTop (mkF m 0 #[.val (.ref a1), .val (.long q1), .second, .val (.ref a2), .val (.ref a3)] [])) (fun t k => castTop (ef_rm8 m a1 q1 a2 a3) k) ?_
  refine OEnds.go (t' := s₁.setTop (mkF m 1 #[.val (.ref a1), .val (.long q1), .second, .val (.ref a2), .val (.ref a3)] [(.ref a1)])) (fun _ k => ?_) ?_
  · show Steps p.tables e below (s₁.setTop (mkF m 0 #[.val (.ref a1), .val (.long q1), .second, .val (.ref a2), .val (.ref a3)] [])) _
    refine XS.aloadN X0.here hx rfl (hb hby d8_0) rfl rfl ?_
    show Steps p.tables e below (s₁.setTop (mkF m 1 #[.val (.ref a1), .val (.long q1), .second, .val (.ref a2), .val (.ref a3)] [(.ref a1)])) _
    exact k
  obtain ⟨_, _, ⟨T1, L1, k1, n1⟩, -, X1, ⟨Lc1, hQ1, l1, y1, z1⟩, st1⟩ := X0.specialBack hx (y := (⟨"java/lang/Record", "<init>", "()V"⟩ : MethodName)) rfl hown (mvT hZ (hw _ (List.mem_of_getElem? (i := 50) rfl))) (mvT hZ (hw _ (List.mem_of_getElem? (i := 33) rfl))) (mvT hZ (hw _ (List.mem_of_getElem? (i := 36) rfl))) (by decide) (backOf (W := 0) (rm7 l Z a0 hw [] a1 h0 n0 Z0 ) hZ (hw _ (List.mem_of_getElem? (i := 36) rfl)) (hw _ (List.mem_of_getElem? (i := 35) rfl)) (by decide) (by decide)) (g := (mkF m 1 #[.val (.ref a1), .val (.long q1), .second, .val (.ref a2), .val (.ref a3)] [(.ref a1)])) rfl (by rw [hml]; rfl) (Steps.refl _) (a := a1) (argsL := []) (rest := []) (lenOf pd_rm8_0 rfl) rfl (by show 2 * 0 + _ ≤ _; exact Nat.le_of_eq rfl) (hb hby d8_1) (fun _ _ => ⟨rfl, e0, (by decide : 0 + 0 ≤ _), (by decide : 0 + 0 ≤ _)⟩)
  dsimp only [Pt.U, Pt.locs, Pt.cells, Pt.slots] at X1 l1 y1 z1 st1 hQ1
  subst l1 y1 z1
  obtain ⟨rfl, N1q, eh⟩ := hQ1
  have N1 := Fr.app N0 N1q
  have eh1 := eh
  refine OEnds.go (t' := T1.setTop (mkF m 4 #[.val (.ref a1), .val (.long q1), .second, .val (.ref a2), .val (.ref a3)] [])) (fun _ k => st1.trans k) ?_
  refine OEnds.go (t' := T1.setTop (mkF m 6 #[.val (.ref a1), .val (.long q1), .second, .val (.ref a2), .val (.ref a3)] [(.long q1), (.ref a1)])) (fun _ k => ?_) ?_
  · show Steps p.tables e below (T1.setTop (mkF m 4 #[.val (.ref a1), .val (.long q1), .second, .val (.ref a2), .val (.ref a3)] [])) _
    refine XS.aloadN X1.here hx rfl (hb hby d8_4) rfl rfl ?_
    show Steps p.tables e below (T1.setTop (mkF m 5 #[.val (.ref a1), .val (.long q1), .second, .val (.ref a2), .val (.ref a3)] [(.ref a1)])) _
    refine XS.lloadN X1.here hx rfl (hb hby d8_5) rfl ?_
    show Steps p.tables e below (T1.setTop (mkF m 6 #[.val (.ref a1), .val (.long q1), .second, .val (.ref a2), .val (.ref a3)] [(.long q1), (.ref a1)])) _
    exact k
  obtain ⟨T2, h2, X2, e2, W2, st2⟩ := putF X1 hx hZ hown (host := "") (Or.inl (hw _ (List.mem_of_getElem? (i := 51) rfl))) Via.refl eh1 F_instant_a1 E_a1 (Or.inr ⟨(hw _ (List.mem_of_getElem? (i := 52) rfl)), rfl, hnm⟩) (hw _ (List.mem_of_getElem? (i := 45) rfl)) (ty := .long) (by decide) rfl rfl (g := (mkF m 6 #[.val (.ref a1), .val (.long q1), .second, .val (.ref a2), .val (.ref a3)] [(.long q1), (.ref a1)])) rfl rfl (hb hby d8_6)
  have N2 := Fr.snoc X2 N1 g_a1
  have E_a1 := E_a1.wr W2
  have F_instant_a1 := F_instant_a1.same W2
  have F_from_a1 := F_from_a1.other W2 (Or.inr (slot_ne (Or.inr (hw _ (List.mem_of_getElem? (i := 54) rfl))) (Or.inr (hw _ (List.mem_of_getElem? (i := 52) rfl))) (by decide) (t := (.object "com/example/viitta/viitta/zones/TimeType")) (t' := .long) (by decide) (by decide)))
  have F_to_a1 := F_to_a1.other W2 (Or.inr (slot_ne (Or.inr (hw _ (List.mem_of_getElem? (i := 56) rfl))) (Or.inr (hw _ (List.mem_of_getElem? (i := 52) rfl))) (by decide) (t := (.object "com/example/viitta/viitta/zones/TimeType")) (t' := .long) (by decide) (by decide)))
  have Z2 : n0 ≤ h2.size := Nat.le_trans Z0 (Keep.of_wr W2).1
  have K2 := (Keep.refl h0 [a1]).wr W2 (Or.inl (List.mem_of_getElem? (i := 0) rfl))
  refine OEnds.go (t' := T2.setTop (mkF m 9 #[.val (.ref a1), .val (.long q1), .second, .val (.ref a2), .val (.ref a3)] [])) (fun _ k => st2 _ k) ?_
  refine OEnds.go (t' := T2.setTop (mkF m 11 #[.val (.ref a1), .val (.long q1), .second, .val (.ref a2), .val (.ref a3)] [(.ref a2), (.ref a1)])) (fun _ k => ?_) ?_
  · show Steps p.tables e below (T2.setTop (mkF m 9 #[.val (.ref a1), .val (.long q1), .second, .val (.ref a2), .val (.ref a3)] [])) _
    refine XS.aloadN X2.here hx rfl (hb hby d8_9) rfl rfl ?_
    show Steps p.tables e below (T2.setTop (mkF m 10 #[.val (.ref a1), .val (.long q1), .second, .val (.ref a2), .val (.ref a3)] [(.ref a1)])) _
    refine XS.aloadN X2.here hx rfl (hb hby d8_10) rfl rfl ?_
    show Steps p.tables e below (T2.setTop (mkF m 11 #[.val (.ref a1), .val (.long q1), .second, .val (.ref a2), .val (.ref a3)] [(.ref a2), (.ref a1)])) _
    exact k
  obtain ⟨T3, h3, X3, e3, W3, st3⟩ := putF X2 hx hZ hown (host := "") (Or.inl (hw _ (List.mem_of_getElem? (i := 53) rfl))) Via.refl e2 F_from_a1 E_a1 (Or.inr ⟨(hw _ (List.mem_of_getElem? (i := 54) rfl)), rfl, hnm⟩) (hw _ (List.mem_of_getElem? (i := 45) rfl)) (ty := (.object "com/example/viitta/viitta/zones/TimeType")) (by decide) rfl rfl (g := (mkF m 11 #[.val (.ref a1), .val (.long q1), .second, .val (.ref a2), .val (.ref a3)] [(.ref a2), (.ref a1)])) rfl rfl (hb hby d8_11)
  have N3 := Fr.snoc X3 N2 g_a1
  have E_a1 := E_a1.wr W3
  have F_instant_a1 := F_instant_a1.other W3 (Or.inr (slot_ne (Or.inr (hw _ (List.mem_of_getElem? (i := 52) rfl))) (Or.inr (hw _ (List.mem_of_getElem? (i := 54) rfl))) (by decide) (t := .long) (t' := (.object "com/example/viitta/viitta/zones/TimeType")) (by decide) (by decide)))
  have F_from_a1 := F_from_a1.same W3
  have F_to_a1 := F_to_a1.other W3 (Or.inr (slot_ne (Or.inr (hw _ (List.mem_of_getElem? (i := 56) rfl))) (Or.inr (hw _ (List.mem_of_getElem? (i := 54) rfl))) (by decide) (t := (.object "com/example/viitta/viitta/zones/TimeType")) (t' := (.object "com/example/viitta/viitta/zones/TimeType")) (by decide) (by decide)))
  have Z3 : n0 ≤ h3.size := Nat.le_trans Z2 (Keep.of_wr W3).1
  have K3 := K2.wr W3 (Or.inl (List.mem_of_getElem? (i := 0) rfl))
  refine OEnds.go (t' := T3.setTop (mkF m 14 #[.val (.ref a1), .val (.long q1), .second, .val (.ref a2), .val (.ref a3)] [])) (fun _ k => st3 _ k) ?_
  refine OEnds.go (t' := T3.setTop (mkF m 17 #[.val (.ref a1), .val (.long q1), .second, .val (.ref a2), .val (.ref a3)] [(.ref a3), (.ref a1)])) (fun _ k => ?_) ?_
  · show Steps p.tables e below (T3.setTop (mkF m 14 #[.val (.ref a1), .val (.long q1), .second, .val (.ref a2), .val (.ref a3)] [])) _
    refine XS.aloadN X3.here hx rfl (hb hby d8_14) rfl rfl ?_
    show Steps p.tables e below (T3.setTop (mkF m 15 #[.val (.ref a1), .val (.long q1), .second, .val (.ref a2), .val (.ref a3)] [(.ref a1)])) _
    refine XS.aload X3.here hx rfl (hb hby d8_15) rfl rfl ?_
    show Steps p.tables e below (T3.setTop (mkF m 17 #[.val (.ref a1), .val (.long q1), .second, .val (.ref a2), .val (.ref a3)] [(.ref a3), (.ref a1)])) _
    exact k
  obtain ⟨T4, h4, X4, e4, W4, st4⟩ := putF X3 hx hZ hown (host := "") (Or.inl (hw _ (List.mem_of_getElem? (i := 55) rfl))) Via.refl e3 F_to_a1 E_a1 (Or.inr ⟨(hw _ (List.mem_of_getElem? (i := 56) rfl)), rfl, hnm⟩) (hw _ (List.mem_of_getElem? (i := 45) rfl)) (ty := (.object "com/example/viitta/viitta/zones/TimeType")) (by decide) rfl rfl (g := (mkF m 17 #[.val (.ref a1), .val (.long q1), .second, .val (.ref a2), .val (.ref a3)] [(.ref a3), (.ref a1)])) rfl rfl (hb hby d8_17)
  have N4 := Fr.snoc X4 N3 g_a1
  have E_a1 := E_a1.wr W4
  have F_instant_a1 := F_instant_a1.other W4 (Or.inr (slot_ne (Or.inr (hw _ (List.mem_of_getElem? (i := 52) rfl))) (Or.inr (hw _ (List.mem_of_getElem? (i := 56) rfl))) (by decide) (t := .long) (t' := (.object "com/example/viitta/viitta/zones/TimeType")) (by decide) (by decide)))
  have F_from_a1 := F_from_a1.other W4 (Or.inr (slot_ne (Or.inr (hw _ (List.mem_of_getElem? (i := 54) rfl))) (Or.inr (hw _ (List.mem_of_getElem? (i := 56) rfl))) (by decide) (t := (.object "com/example/viitta/viitta/zones/TimeType")) (t' := (.object "com/example/viitta/viitta/zones/TimeType")) (by decide) (by decide)))
  have F_to_a1 := F_to_a1.same W4
  have Z4 : n0 ≤ h4.size := Nat.le_trans Z3 (Keep.of_wr W4).1
  have K4 := K3.wr W4 (Or.inl (List.mem_of_getElem? (i := 0) rfl))
  refine OEnds.go (t' := T4.setTop (mkF m 20 #[.val (.ref a1), .val (.long q1), .second, .val (.ref a2), .val (.ref a3)] [])) (fun _ k => st4 _ k) ?_
  refine OEnds.back X4 hlk (v := none) (fun _ => rfl) (fun fs hr => ?_) ?_ (by decide) (by decide)
  · exact X4.returnOut hx hrt (hb hby d8_20) hr
  · show Q8 Z a1 q1 a2 a3  h0 n0 _ T4.heap _
    rw [e4]
    exact ⟨rfl, N4, K4, E_a1, F_instant_a1, F_from_a1⟩
theorem d10_0 : decode prog_58_method_5_code 0 = .ok (.aload_n 0, 1) := by decide +kernel
theorem d10_1 : decode prog_58_method_5_code 1 = .ok (.getfield 7, 3) := by decide +kernel
theorem d10_4 : decode prog_58_method_5_code 4 = .ok (.ireturn, 1) := by decide +kernel
theorem pn_10 : plainName "com/example/viitta/viitta/zones/TimeType" = true := by first | (simp [plainName, overriddenIn]; done) | decide +kernel
theorem ef_rm10 (m : MethodId) (a1 : Addr) : entryFrame m #[(.ref a1)] 1 = mkF m 0 #[.val (.ref a1)] [] := by first | (simp [entryFrame, mkF, argsToLocals, Value.category]; done) | rfl
def Q10 (Z : State) (a1 : Addr) (v1 : Int32) (h0 : Heap) (n0 : Nat) (v : Option Value) (h : Heap) (L : List Loc) : Prop := v = some (.int v1) ∧ Fr n0 L ∧ h = h0
set_option maxRecDepth 65536 in
set_option maxHeartbeats 40000000 in
theorem rm10 (l : Launch) (Z : State) (a0 : Array Value) (hw : ∀ d ∈ tables_1, d.before a0 Z = true) (ws : List Jvm.Cond) (a1 : Addr) (v1 : Int32) (h0 : Heap) (n0 : Nat) (Z0 : n0 ≤ h0.size) (F1 : Fld Z h0 a1 "com/example/viitta/viitta/zones/TimeType" "offset" "I" (.int v1)) :
    MetFree l (⟨"com/example/viitta/viitta/zones/TimeType", "offset", "()I"⟩ : MethodName) (head1 (Jvm.Cond.code (⟨"com/example/viitta/viitta/zones/TimeType", "offset", "()I"⟩ : MethodName) prog_58_method_5_code 1 (some .int) :: ws) ({ frames := 0, cells := 0, slots := 0, locals := 0 } : Room)) (fun a U => a = #[(.ref a1)] ∧ Z.Warmed39 U.vm ∧ U.heap = h0) (fun _ _ _ _ _ => True) (fun _ U o U' => ∃ v L, o = .returned v ∧ Q10 Z a1 v1 h0 n0 v U'.heap L ∧ FrameEnd U o U' L ({ frames := 0, cells := 0, slots := 0, locals := 0 } : Room).cells ({ frames := 0, cells := 0, slots := 0, locals := 0 } : Room).slots) := by
  refine MetFree.of_bodySF (plainFor_of_name pn_10) hisR ?_
  intro p e s m args below meth c s₁ Bd hml0 hP hK
  obtain ⟨rfl, hZ, hh⟩ := hP
  have hx := Bd.exec
  have hby := Bd.bytes
  have hml : c.maxLocals = 1 := hml0
  have hown : s.vm.findClass "com/example/viitta/viitta/zones/TimeType" = some m.cls := findClass_of_methodNamed Bd.named
  have hnm := (name_of_methodNamed Bd.named Bd.method).1
  have hlk := BodyLoose.notSynchronized Bd
  have hrt := Bd.returns
  have X0 : Stand p l e ({ frames := 0, cells := 0, slots := 0, locals := 0 } : Room) s m #[(.ref a1)] below meth c s₁ [] 0 0 := Stand.of_body Bd
  have e0 : s₁.heap = h0 := by rw [← hh, Bd.state]; rfl
  have N0 := Fr.nil n0
  show OEnds p e below s (Q10 Z a1 v1 h0 n0) ({ frames := 0, cells := 0, slots := 0, locals := 0 } : Room).cells ({ frames := 0, cells := 0, slots := 0, locals := 0 } : Room).slots (s₁.setTop (entryFrame m #[(.ref a1)] 1))
  refine OEnds.go (t' := s₁.setTop (mkF m 0 #[.val (.ref a1)] [])) (fun t k => castTop (ef_rm10 m a1) k) ?_
  refine OEnds.go (t' := s₁.setTop (mkF m 1 #[.val (.ref a1)] [(.ref a1)])) (fun _ k => ?_) ?_
  · show Steps p.tables e below (s₁.setTop (mkF m 0 #[.val (.ref a1)] [])) _
    refine XS.aloadN X0.here hx rfl (hb hby d10_0) rfl rfl ?_
    show Steps p.tables e below (s₁.setTop (mkF m 1 #[.val (.ref a1)] [(.ref a1)])) _
    exact k
  obtain ⟨T1, X1, e1, st1⟩ := getF X0 hx hZ hown (host := "") (Or.inl (hw _ (List.mem_of_getElem? (i := 38) rfl))) Via.refl e0 F1 (g := (mkF m 1 #[.val (.ref a1)] [(.ref a1)])) rfl rfl (hb hby d10_1)
  refine OEnds.go (t' := T1.setTop (mkF m 4 #[.val (.ref a1)] [(.int v1)])) (fun _ k => st1 _ k) ?_
  refine OEnds.back X1 hlk (v := (some (.int v1))) (fun h => by rw [hrt] at h; cases h) (fun fs hr => ?_) ?_ (by decide) (by decide)
  · exact retI X1 hx hrt (hb hby d10_4) hr
  · show Q10 Z a1 v1 h0 n0 _ T1.heap _
    rw [e1]
    exact ⟨rfl, N0, rfl⟩
theorem d9_0 : decode prog_56_method_2_code 0 = .ok (.aload_n 0, 1) := by decide +kernel
theorem d9_1 : decode prog_56_method_2_code 1 = .ok (.getfield 7, 3) := by decide +kernel
theorem d9_4 : decode prog_56_method_2_code 4 = .ok (.aload_n 0, 1) := by decide +kernel
theorem d9_5 : decode prog_56_method_2_code 5 = .ok (.getfield 13, 3) := by decide +kernel
theorem d9_8 : decode prog_56_method_2_code 8 = .ok (.invokevirtual 20, 3) := by decide +kernel
theorem d9_11 : decode prog_56_method_2_code 11 = .ok (.i2l, 1) := by decide +kernel
theorem d9_12 : decode prog_56_method_2_code 12 = .ok (.ladd, 1) := by decide +kernel
theorem d9_13 : decode prog_56_method_2_code 13 = .ok (.lreturn, 1) := by decide +kernel
theorem pn_9 : plainName "com/example/viitta/viitta/zones/Step" = true := by first | (simp [plainName, overriddenIn]; done) | decide +kernel
theorem pd_rm9_0 : parseMethodDescriptor "()I" = some ⟨[], some .int⟩ := by decide +kernel
theorem ef_rm9 (m : MethodId) (a1 : Addr) : entryFrame m #[(.ref a1)] 1 = mkF m 0 #[.val (.ref a1)] [] := by first | (simp [entryFrame, mkF, argsToLocals, Value.category]; done) | rfl
def Q9 (Z : State) (a1 : Addr) (q1 : Int64) (a2 : Addr) (v1 : Int32) (h0 : Heap) (n0 : Nat) (v : Option Value) (h : Heap) (L : List Loc) : Prop := v = some (.long (q1 + v1.toInt64)) ∧ Fr n0 L ∧ h = h0
set_option maxRecDepth 65536 in
set_option maxHeartbeats 40000000 in
theorem rm9 (l : Launch) (Z : State) (a0 : Array Value) (hw : ∀ d ∈ tables_1, d.before a0 Z = true) (ws : List Jvm.Cond) (a1 : Addr) (q1 : Int64) (a2 : Addr) (v1 : Int32) (h0 : Heap) (n0 : Nat) (Z0 : n0 ≤ h0.size) (F1 : Fld Z h0 a1 "com/example/viitta/viitta/zones/Step" "instant" "J" (.long q1)) (F2 : Fld Z h0 a1 "com/example/viitta/viitta/zones/Step" "from" "Lcom/example/viitta/viitta/zones/TimeType;" (.ref a2)) (F3 : Fld Z h0 a2 "com/example/viitta/viitta/zones/TimeType" "offset" "I" (.int v1)) (E2 : Exa Z h0 a2 "com/example/viitta/viitta/zones/TimeType") :
    MetFree l (⟨"com/example/viitta/viitta/zones/Step", "onsetSecond", "()J"⟩ : MethodName) (head1 (Jvm.Cond.code (⟨"com/example/viitta/viitta/zones/Step", "onsetSecond", "()J"⟩ : MethodName) prog_56_method_2_code 1 (some .long) :: ws) ({ frames := 1, cells := 0, slots := 0, locals := 14 } : Room)) (fun a U => a = #[(.ref a1)] ∧ Z.Warmed39 U.vm ∧ U.heap = h0) (fun _ _ _ _ _ => True) (fun _ U o U' => ∃ v L, o = .returned v ∧ Q9 Z a1 q1 a2 v1 h0 n0 v U'.heap L ∧ FrameEnd U o U' L ({ frames := 1, cells := 0, slots := 0, locals := 14 } : Room).cells ({ frames := 1, cells := 0, slots := 0, locals := 14 } : Room).slots) := by
  refine MetFree.of_bodySF (plainFor_of_name pn_9) hisR ?_
  intro p e s m args below meth c s₁ Bd hml0 hP hK
  obtain ⟨rfl, hZ, hh⟩ := hP
  have hx := Bd.exec
  have hby := Bd.bytes
  have hml : c.maxLocals = 1 := hml0
  have hown : s.vm.findClass "com/example/viitta/viitta/zones/Step" = some m.cls := findClass_of_methodNamed Bd.named
  have hnm := (name_of_methodNamed Bd.named Bd.method).1
  have hlk := BodyLoose.notSynchronized Bd
  have hrt := Bd.returns
  have X0 : Stand p l e ({ frames := 1, cells := 0, slots := 0, locals := 14 } : Room) s m #[(.ref a1)] below meth c s₁ [] 0 0 := Stand.of_body Bd
  have e0 : s₁.heap = h0 := by rw [← hh, Bd.state]; rfl
  have N0 := Fr.nil n0
  show OEnds p e below s (Q9 Z a1 q1 a2 v1 h0 n0) ({ frames := 1, cells := 0, slots := 0, locals := 14 } : Room).cells ({ frames := 1, cells := 0, slots := 0, locals := 14 } : Room).slots (s₁.setTop (entryFrame m #[(.ref a1)] 1))
  refine OEnds.go (t' := s₁.setTop (mkF m 0 #[.val (.ref a1)] [])) (fun t k => castTop (ef_rm9 m a1) k) ?_
  refine OEnds.go (t' := s₁.setTop (mkF m 1 #[.val (.ref a1)] [(.ref a1)])) (fun _ k => ?_) ?_
  · show Steps p.tables e below (s₁.setTop (mkF m 0 #[.val (.ref a1)] [])) _
    refine XS.aloadN X0.here hx rfl (hb hby d9_0) rfl rfl ?_
    show Steps p.tables e below (s₁.setTop (mkF m 1 #[.val (.ref a1)] [(.ref a1)])) _
    exact k
  obtain ⟨T1, X1, e1, st1⟩ := getF X0 hx hZ hown (host := "") (Or.inl (hw _ (List.mem_of_getElem? (i := 51) rfl))) Via.refl e0 F1 (g := (mkF m 1 #[.val (.ref a1)] [(.ref a1)])) rfl rfl (hb hby d9_1)
  refine OEnds.go (t' := T1.setTop (mkF m 4 #[.val (.ref a1)] [(.long q1)])) (fun _ k => st1 _ k) ?_
  refine OEnds.go (t' := T1.setTop (mkF m 5 #[.val (.ref a1)] [(.ref a1), (.long q1)])) (fun _ k => ?_) ?_
  · show Steps p.tables e below (T1.setTop (mkF m 4 #[.val (.ref a1)] [(.long q1)])) _
    refine XS.aloadN X1.here hx rfl (hb hby d9_4) rfl rfl ?_
    show Steps p.tables e below (T1.setTop (mkF m 5 #[.val (.ref a1)] [(.ref a1), (.long q1)])) _
    exact k
  obtain ⟨T2, X2, e2, st2⟩ := getF X1 hx hZ hown (host := "") (Or.inl (hw _ (List.mem_of_getElem? (i := 53) rfl))) Via.refl e1 F2 (g := (mkF m 5 #[.val (.ref a1)] [(.ref a1), (.long q1)])) rfl rfl (hb hby d9_5)
  refine OEnds.go (t' := T2.setTop (mkF m 8 #[.val (.ref a1)] [(.ref a2), (.long q1)])) (fun _ k => st2 _ k) ?_
  obtain ⟨cq3, kq3, q3a, q3b, q3c⟩ := isOf hZ e2 E2
  obtain ⟨_, _, ⟨T3, L3, k3, n3⟩, -, X3, ⟨Lc3, hQ3, l3, y3, z3⟩, st3⟩ := X2.virtualBack hx (y := (⟨"com/example/viitta/viitta/zones/TimeType", "offset", "()I"⟩ : MethodName)) (z := (⟨"com/example/viitta/viitta/zones/TimeType", "offset", "()I"⟩ : MethodName)) hown (mvT hZ (hw _ (List.mem_of_getElem? (i := 62) rfl))) (mvT hZ (hw _ (List.mem_of_getElem? (i := 63) rfl))) (notFace_of_selects (args := #[]) (mvT hZ (hw _ (List.mem_of_getElem? (i := 65) rfl)))) (mvT hZ (hw _ (List.mem_of_getElem? (i := 65) rfl))) (mvT hZ (hw _ (List.mem_of_getElem? (i := 64) rfl))) (by decide) (backOf (W := 2) (rm10 l Z a0 hw [] a2 v1 h0 n0 Z0 F3) hZ (hw _ (List.mem_of_getElem? (i := 66) rfl)) (hw _ (List.mem_of_getElem? (i := 28) rfl)) (by decide) (by decide)) q3a q3c (g := (mkF m 8 #[.val (.ref a1)] [(.ref a2), (.long q1)])) rfl (by rw [hml]; rfl) (Steps.refl _) (argsL := []) (rest := [(.long q1)]) (lenOf pd_rm9_0 rfl) rfl (by show 2 * 0 + _ ≤ _; exact Nat.le_of_eq rfl) (hb hby d9_8) (fun _ _ => ⟨rfl, e2, (by decide : 0 + 0 ≤ _), (by decide : 0 + 0 ≤ _)⟩)
  dsimp only [Pt.U, Pt.locs, Pt.cells, Pt.slots] at X3 l3 y3 z3 st3 hQ3
  subst l3 y3 z3
  obtain ⟨rfl, N3q, eh⟩ := hQ3
  have N3 := Fr.app N0 N3q
  have eh3 := eh
  refine OEnds.go (t' := T3.setTop (mkF m 11 #[.val (.ref a1)] [(.int v1), (.long q1)])) (fun _ k => st3.trans k) ?_
  refine OEnds.go (t' := T3.setTop (mkF m 13 #[.val (.ref a1)] [(.long (q1 + (v1.toInt64)))])) (fun _ k => ?_) ?_
  · show Steps p.tables e below (T3.setTop (mkF m 11 #[.val (.ref a1)] [(.int v1), (.long q1)])) _
    refine XS.i2l X3.here hx rfl (hb hby d9_11) rfl ?_
    show Steps p.tables e below (T3.setTop (mkF m 12 #[.val (.ref a1)] [(.long (v1.toInt64)), (.long q1)])) _
    refine XS.ladd X3.here hx rfl (hb hby d9_12) rfl ?_
    show Steps p.tables e below (T3.setTop (mkF m 13 #[.val (.ref a1)] [(.long (q1 + (v1.toInt64)))])) _
    exact k
  refine OEnds.back X3 hlk (v := (some (.long (q1 + (v1.toInt64))))) (fun h => by rw [hrt] at h; cases h) (fun fs hr => ?_) ?_ (by decide) (by decide)
  · exact retJ X3 hx hrt (hb hby d9_13) hr
  · show Q9 Z a1 q1 a2 v1 h0 n0 _ T3.heap _
    rw [eh3]
    exact ⟨rfl, N3, rfl⟩
theorem pn_0 : plainName "com/example/viitta/viitta/zones/StepOnsetSecondPinLaw" = true := by first | (simp [plainName, overriddenIn]; done) | decide +kernel
theorem pd_rm0_0 : parseMethodDescriptor "(C)Ljava/lang/String;" = some ⟨[.char], some (.object "java/lang/String")⟩ := by decide +kernel
theorem pd_rm0_1 : parseMethodDescriptor "(IZLjava/lang/String;)V" = some ⟨[.int, .boolean, (.object "java/lang/String")], none⟩ := by decide +kernel
theorem pd_rm0_2 : parseMethodDescriptor "(JLcom/example/viitta/viitta/zones/TimeType;Lcom/example/viitta/viitta/zones/TimeType;)V" = some ⟨[.long, (.object "com/example/viitta/viitta/zones/TimeType"), (.object "com/example/viitta/viitta/zones/TimeType")], none⟩ := by decide +kernel
theorem pd_rm0_3 : parseMethodDescriptor "()J" = some ⟨[], some .long⟩ := by decide +kernel
theorem ef_rm0 (m : MethodId) (q1 : Int64) (p1 : Int32) (p2 : Int32) (p3 : Int32) : entryFrame m #[(.long q1), (.int p1), (.int p2), (.int p3)] maxLocals = mkF m 0 #[.val (.long q1), .second, .val (.int p1), .val (.int p2), .val (.int p3), .unset, .unset, .unset, .unset, .unset, .unset, .unset, .unset, .unset, .unset, .unset] [] := by first | (simp [entryFrame, mkF, argsToLocals, Value.category, maxLocals]; done) | rfl
def Q0 (Z : State) (q1 : Int64) (p1 : Int32) (p2 : Int32) (p3 : Int32) (w1 : Int32) (h0 : Heap) (n0 : Nat) (v : Option Value) (h : Heap) (L : List Loc) : Prop := v = some (.int 1) ∧ Fr n0 L
set_option maxRecDepth 65536 in
set_option maxHeartbeats 40000000 in
theorem rm0 (l : Launch) (Z : State) (a0 : Array Value) (hw : ∀ d ∈ tables_1, d.before a0 Z = true) (ws : List Jvm.Cond) (q1 : Int64) (p1 : Int32) (p2 : Int32) (p3 : Int32) (w1 : Int32) (h0 : Heap) (n0 : Nat) (Z0 : n0 ≤ h0.size) (hz0 : Old Z n0 h0) (S_C : Sta Z Z.heap "java/lang/String" "COMPACT_STRINGS" "Z" (.int w1)) (c0 : ¬ w1 = 0) :
    MetFree l x (head1 (Jvm.Cond.code x code maxLocals ret :: ws) room_1) (fun a U => a = #[(.long q1), (.int p1), (.int p2), (.int p3)] ∧ Z.Warmed39 U.vm ∧ U.heap = h0) (fun _ _ _ _ _ => True) (fun _ U o U' => ∃ v L, o = .returned v ∧ Q0 Z q1 p1 p2 p3 w1 h0 n0 v U'.heap L ∧ FrameEnd U o U' L room_1.cells room_1.slots) := by
  refine MetFree.of_bodySF (plainFor_of_name pn_0) hisR ?_
  intro p e s m args below meth c s₁ Bd hml0 hP hK
  obtain ⟨rfl, hZ, hh⟩ := hP
  have hx := Bd.exec
  have hby := Bd.bytes
  have hml : c.maxLocals = 16 := hml0
  have hown : s.vm.findClass "com/example/viitta/viitta/zones/StepOnsetSecondPinLaw" = some m.cls := findClass_of_methodNamed Bd.named
  have hnm := (name_of_methodNamed Bd.named Bd.method).1
  have hlk := BodyLoose.notSynchronized Bd
  have hrt := Bd.returns
  have X0 : Stand p l e room_1 s m #[(.long q1), (.int p1), (.int p2), (.int p3)] below meth c s₁ [] 0 0 := Stand.of_body Bd
  have e0 : s₁.heap = h0 := by rw [← hh, Bd.state]; rfl
  have N0 := Fr.nil n0
  show OEnds p e below s (Q0 Z q1 p1 p2 p3 w1 h0 n0) room_1.cells room_1.slots (s₁.setTop (entryFrame m #[(.long q1), (.int p1), (.int p2), (.int p3)] maxLocals))
  refine OEnds.go (t' := s₁.setTop (mkF m 0 #[.val (.long q1), .second, .val (.int p1), .val (.int p2), .val (.int p3), .unset, .unset, .unset, .unset, .unset, .unset, .unset, .unset, .unset, .unset, .unset] [])) (fun t k => castTop (ef_rm0 m q1 p1 p2 p3) k) ?_
  refine OEnds.cut (fun En => ∀ (d1 : Int32), En (s₁.setTop (mkF m 12 #[.val (.long q1), .second, .val (.int p1), .val (.int p2), .val (.int p3), .unset, .unset, .unset, .unset, .unset, .unset, .unset, .unset, .unset, .unset, .unset] [(.int d1)]))) ?_ (fun K12 => ?_)
  · intro d1
    refine OEnds.go (t' := s₁.setTop (mkF m 14 #[.val (.long q1), .second, .val (.int p1), .val (.int p2), .val (.int p3), .val (.int d1), .unset, .unset, .unset, .unset, .unset, .unset, .unset, .unset, .unset, .unset] [])) (fun _ k => ?_) ?_
    · show Steps p.tables e below (s₁.setTop (mkF m 12 #[.val (.long q1), .second, .val (.int p1), .val (.int p2), .val (.int p3), .unset, .unset, .unset, .unset, .unset, .unset, .unset, .unset, .unset, .unset, .unset] [(.int d1)])) _
      refine XS.istore X0.here hx rfl (hb hby at_12) rfl (l' := #[.val (.long q1), .second, .val (.int p1), .val (.int p2), .val (.int p3), .val (.int d1), .unset, .unset, .unset, .unset, .unset, .unset, .unset, .unset, .unset, .unset]) rfl ?_
      show Steps p.tables e below (s₁.setTop (mkF m 14 #[.val (.long q1), .second, .val (.int p1), .val (.int p2), .val (.int p3), .val (.int d1), .unset, .unset, .unset, .unset, .unset, .unset, .unset, .unset, .unset, .unset] [])) _
      exact k
    refine OEnds.cut (fun En => ∀ (d2 : Int32), En (s₁.setTop (mkF m 26 #[.val (.long q1), .second, .val (.int p1), .val (.int p2), .val (.int p3), .val (.int d1), .unset, .unset, .unset, .unset, .unset, .unset, .unset, .unset, .unset, .unset] [(.int d2)]))) ?_ (fun K26 => ?_)
    · intro d2
      refine OEnds.go (t' := s₁.setTop (mkF m 37 #[.val (.long q1), .second, .val (.int p1), .val (.int p2), .val (.int p3), .val (.int d1), .val (.int d2), .unset, .unset, .unset, .unset, .unset, .unset, .unset, .unset, .unset] [(.int ((((p3.toUInt32 >>> ((2 : Int32) &&& 31).toUInt32).toInt32) &&& (255 : Int32)).toUInt32.toUInt16.toUInt32.toInt32))])) (fun _ k => ?_) ?_
      · show Steps p.tables e below (s₁.setTop (mkF m 26 #[.val (.long q1), .second, .val (.int p1), .val (.int p2), .val (.int p3), .val (.int d1), .unset, .unset, .unset, .unset, .unset, .unset, .unset, .unset, .unset, .unset] [(.int d2)])) _
        refine XS.istore X0.here hx rfl (hb hby at_26) rfl (l' := #[.val (.long q1), .second, .val (.int p1), .val (.int p2), .val (.int p3), .val (.int d1), .val (.int d2), .unset, .unset, .unset, .unset, .unset, .unset, .unset, .unset, .unset]) rfl ?_
        show Steps p.tables e below (s₁.setTop (mkF m 28 #[.val (.long q1), .second, .val (.int p1), .val (.int p2), .val (.int p3), .val (.int d1), .val (.int d2), .unset, .unset, .unset, .unset, .unset, .unset, .unset, .unset, .unset] [])) _
        refine XS.iload X0.here hx rfl (hb hby at_28) rfl ?_
        show Steps p.tables e below (s₁.setTop (mkF m 30 #[.val (.long q1), .second, .val (.int p1), .val (.int p2), .val (.int p3), .val (.int d1), .val (.int d2), .unset, .unset, .unset, .unset, .unset, .unset, .unset, .unset, .unset] [(.int p3)])) _
        refine XS.iconst X0.here hx rfl (hb hby at_30) ?_
        show Steps p.tables e below (s₁.setTop (mkF m 31 #[.val (.long q1), .second, .val (.int p1), .val (.int p2), .val (.int p3), .val (.int d1), .val (.int d2), .unset, .unset, .unset, .unset, .unset, .unset, .unset, .unset, .unset] [(.int (2 : Int32)), (.int p3)])) _
        refine XS.iushr X0.here hx rfl (hb hby at_31) rfl ?_
        show Steps p.tables e below (s₁.setTop (mkF m 32 #[.val (.long q1), .second, .val (.int p1), .val (.int p2), .val (.int p3), .val (.int d1), .val (.int d2), .unset, .unset, .unset, .unset, .unset, .unset, .unset, .unset, .unset] [(.int ((p3.toUInt32 >>> ((2 : Int32) &&& 31).toUInt32).toInt32))])) _
        refine XS.sipush X0.here hx rfl (hb hby at_32) ?_
        show Steps p.tables e below (s₁.setTop (mkF m 35 #[.val (.long q1), .second, .val (.int p1), .val (.int p2), .val (.int p3), .val (.int d1), .val (.int d2), .unset, .unset, .unset, .unset, .unset, .unset, .unset, .unset, .unset] [(.int (255 : Int32)), (.int ((p3.toUInt32 >>> ((2 : Int32) &&& 31).toUInt32).toInt32))])) _
        refine XS.iand X0.here hx rfl (hb hby at_35) rfl ?_
        show Steps p.tables e below (s₁.setTop (mkF m 36 #[.val (.long q1), .second, .val (.int p1), .val (.int p2), .val (.int p3), .val (.int d1), .val (.int d2), .unset, .unset, .unset, .unset, .unset, .unset, .unset, .unset, .unset] [(.int (((p3.toUInt32 >>> ((2 : Int32) &&& 31).toUInt32).toInt32) &&& (255 : Int32)))])) _
        refine XS.i2c X0.here hx rfl (hb hby at_36) rfl ?_
        show Steps p.tables e below (s₁.setTop (mkF m 37 #[.val (.long q1), .second, .val (.int p1), .val (.int p2), .val (.int p3), .val (.int d1), .val (.int d2), .unset, .unset, .unset, .unset, .unset, .unset, .unset, .unset, .unset] [(.int ((((p3.toUInt32 >>> ((2 : Int32) &&& 31).toUInt32).toInt32) &&& (255 : Int32)).toUInt32.toUInt16.toUInt32.toInt32))])) _
        exact k
      obtain ⟨_, _, ⟨T1, L1, k1, n1⟩, -, X1, ⟨Lc1, hQ1, l1, y1, z1⟩, st1⟩ := Jvm.LawKit.callS X0 hx (y := (⟨"java/lang/String", "valueOf", "(C)Ljava/lang/String;"⟩ : MethodName)) hown (mvT hZ (hw _ (List.mem_of_getElem? (i := 0) rfl))) (mvT hZ (hw _ (List.mem_of_getElem? (i := 1) rfl))) (mvT hZ (hw _ (List.mem_of_getElem? (i := 2) rfl))) (mvT hZ (hw _ (List.mem_of_getElem? (i := 3) rfl))) (by decide) (backOf (W := 0) (rm1 l Z a0 hw [] ((((p3.toUInt32 >>> ((2 : Int32) &&& 31).toUInt32).toInt32) &&& (255 : Int32)).toUInt32.toUInt16.toUInt32.toInt32) w1 h0 n0 Z0 (S_C.ext hz0.2) c0 (own_ch _)) hZ (hw _ (List.mem_of_getElem? (i := 3) rfl)) (hw _ (List.mem_of_getElem? (i := 2) rfl)) (by decide) (by decide)) (g := (mkF m 37 #[.val (.long q1), .second, .val (.int p1), .val (.int p2), .val (.int p3), .val (.int d1), .val (.int d2), .unset, .unset, .unset, .unset, .unset, .unset, .unset, .unset, .unset] [(.int ((((p3.toUInt32 >>> ((2 : Int32) &&& 31).toUInt32).toInt32) &&& (255 : Int32)).toUInt32.toUInt16.toUInt32.toInt32))])) rfl (by rw [hml]; rfl) (argsL := [(.int ((((p3.toUInt32 >>> ((2 : Int32) &&& 31).toUInt32).toInt32) &&& (255 : Int32)).toUInt32.toUInt16.toUInt32.toInt32))]) (rest := []) (lenOf pd_rm0_0 rfl) rfl (by show 2 * 0 + _ ≤ _; exact Nat.le_of_eq rfl) (hb hby at_37) (fun _ _ => ⟨rfl, e0, (by decide : 0 + 2 ≤ _), (by decide : 0 + 5 ≤ _)⟩)
      dsimp only [Pt.U, Pt.locs, Pt.cells, Pt.slots] at X1 l1 y1 z1 st1 hQ1
      subst l1 y1 z1
      obtain ⟨b1, rfl, N1q, Kc1⟩ := hQ1
      have N1 := Fr.app N0 N1q
      have hz0 := hz0.keep Kc1 all0
      have Z1 : n0 ≤ T1.heap.size := Nat.le_trans Z0 Kc1.1
      refine OEnds.go (t' := T1.setTop (mkF m 40 #[.val (.long q1), .second, .val (.int p1), .val (.int p2), .val (.int p3), .val (.int d1), .val (.int d2), .unset, .unset, .unset, .unset, .unset, .unset, .unset, .unset, .unset] [(.ref b1)])) (fun _ k => st1 _ k) ?_
      refine OEnds.go (t' := T1.setTop (mkF m 52 #[.val (.long q1), .second, .val (.int p1), .val (.int p2), .val (.int p3), .val (.int d1), .val (.int d2), .val (.ref b1), .unset, .unset, .unset, .unset, .unset, .unset, .unset, .unset] [(.int ((((p3.toUInt32 >>> ((10 : Int32) &&& 31).toUInt32).toInt32) &&& (255 : Int32)).toUInt32.toUInt16.toUInt32.toInt32))])) (fun _ k => ?_) ?_
      · show Steps p.tables e below (T1.setTop (mkF m 40 #[.val (.long q1), .second, .val (.int p1), .val (.int p2), .val (.int p3), .val (.int d1), .val (.int d2), .unset, .unset, .unset, .unset, .unset, .unset, .unset, .unset, .unset] [(.ref b1)])) _
        refine XS.astore X1.here hx rfl (hb hby at_40) rfl rfl (l' := #[.val (.long q1), .second, .val (.int p1), .val (.int p2), .val (.int p3), .val (.int d1), .val (.int d2), .val (.ref b1), .unset, .unset, .unset, .unset, .unset, .unset, .unset, .unset]) rfl ?_
        show Steps p.tables e below (T1.setTop (mkF m 42 #[.val (.long q1), .second, .val (.int p1), .val (.int p2), .val (.int p3), .val (.int d1), .val (.int d2), .val (.ref b1), .unset, .unset, .unset, .unset, .unset, .unset, .unset, .unset] [])) _
        refine XS.iload X1.here hx rfl (hb hby at_42) rfl ?_
        show Steps p.tables e below (T1.setTop (mkF m 44 #[.val (.long q1), .second, .val (.int p1), .val (.int p2), .val (.int p3), .val (.int d1), .val (.int d2), .val (.ref b1), .unset, .unset, .unset, .unset, .unset, .unset, .unset, .unset] [(.int p3)])) _
        refine XS.bipush X1.here hx rfl (hb hby at_44) ?_
        show Steps p.tables e below (T1.setTop (mkF m 46 #[.val (.long q1), .second, .val (.int p1), .val (.int p2), .val (.int p3), .val (.int d1), .val (.int d2), .val (.ref b1), .unset, .unset, .unset, .unset, .unset, .unset, .unset, .unset] [(.int (10 : Int32)), (.int p3)])) _
        refine XS.iushr X1.here hx rfl (hb hby at_46) rfl ?_
        show Steps p.tables e below (T1.setTop (mkF m 47 #[.val (.long q1), .second, .val (.int p1), .val (.int p2), .val (.int p3), .val (.int d1), .val (.int d2), .val (.ref b1), .unset, .unset, .unset, .unset, .unset, .unset, .unset, .unset] [(.int ((p3.toUInt32 >>> ((10 : Int32) &&& 31).toUInt32).toInt32))])) _
        refine XS.sipush X1.here hx rfl (hb hby at_47) ?_
        show Steps p.tables e below (T1.setTop (mkF m 50 #[.val (.long q1), .second, .val (.int p1), .val (.int p2), .val (.int p3), .val (.int d1), .val (.int d2), .val (.ref b1), .unset, .unset, .unset, .unset, .unset, .unset, .unset, .unset] [(.int (255 : Int32)), (.int ((p3.toUInt32 >>> ((10 : Int32) &&& 31).toUInt32).toInt32))])) _
        refine XS.iand X1.here hx rfl (hb hby at_50) rfl ?_
        show Steps p.tables e below (T1.setTop (mkF m 51 #[.val (.long q1), .second, .val (.int p1), .val (.int p2), .val (.int p3), .val (.int d1), .val (.int d2), .val (.ref b1), .unset, .unset, .unset, .unset, .unset, .unset, .unset, .unset] [(.int (((p3.toUInt32 >>> ((10 : Int32) &&& 31).toUInt32).toInt32) &&& (255 : Int32)))])) _
        refine XS.i2c X1.here hx rfl (hb hby at_51) rfl ?_
        show Steps p.tables e below (T1.setTop (mkF m 52 #[.val (.long q1), .second, .val (.int p1), .val (.int p2), .val (.int p3), .val (.int d1), .val (.int d2), .val (.ref b1), .unset, .unset, .unset, .unset, .unset, .unset, .unset, .unset] [(.int ((((p3.toUInt32 >>> ((10 : Int32) &&& 31).toUInt32).toInt32) &&& (255 : Int32)).toUInt32.toUInt16.toUInt32.toInt32))])) _
        exact k
      obtain ⟨_, _, ⟨T2, L2, k2, n2⟩, -, X2, ⟨Lc2, hQ2, l2, y2, z2⟩, st2⟩ := Jvm.LawKit.callS X1 hx (y := (⟨"java/lang/String", "valueOf", "(C)Ljava/lang/String;"⟩ : MethodName)) hown (mvT hZ (hw _ (List.mem_of_getElem? (i := 0) rfl))) (mvT hZ (hw _ (List.mem_of_getElem? (i := 1) rfl))) (mvT hZ (hw _ (List.mem_of_getElem? (i := 2) rfl))) (mvT hZ (hw _ (List.mem_of_getElem? (i := 3) rfl))) (by decide) (backOf (W := 0) (rm1 l Z a0 hw [] ((((p3.toUInt32 >>> ((10 : Int32) &&& 31).toUInt32).toInt32) &&& (255 : Int32)).toUInt32.toUInt16.toUInt32.toInt32) w1 T1.heap n0 Z1 (S_C.ext hz0.2) c0 (own_ch _)) hZ (hw _ (List.mem_of_getElem? (i := 3) rfl)) (hw _ (List.mem_of_getElem? (i := 2) rfl)) (by decide) (by decide)) (g := (mkF m 52 #[.val (.long q1), .second, .val (.int p1), .val (.int p2), .val (.int p3), .val (.int d1), .val (.int d2), .val (.ref b1), .unset, .unset, .unset, .unset, .unset, .unset, .unset, .unset] [(.int ((((p3.toUInt32 >>> ((10 : Int32) &&& 31).toUInt32).toInt32) &&& (255 : Int32)).toUInt32.toUInt16.toUInt32.toInt32))])) rfl (by rw [hml]; rfl) (argsL := [(.int ((((p3.toUInt32 >>> ((10 : Int32) &&& 31).toUInt32).toInt32) &&& (255 : Int32)).toUInt32.toUInt16.toUInt32.toInt32))]) (rest := []) (lenOf pd_rm0_0 rfl) rfl (by show 2 * 0 + _ ≤ _; exact Nat.le_of_eq rfl) (hb hby at_52) (fun _ _ => ⟨rfl, rfl, (by decide : 2 + 2 ≤ _), (by decide : 5 + 5 ≤ _)⟩)
      dsimp only [Pt.U, Pt.locs, Pt.cells, Pt.slots] at X2 l2 y2 z2 st2 hQ2
      subst l2 y2 z2
      obtain ⟨b2, rfl, N2q, Kc2⟩ := hQ2
      have N2 := Fr.app N1 N2q
      have hz0 := hz0.keep Kc2 all0
      have Z2 : n0 ≤ T2.heap.size := Nat.le_trans Z1 Kc2.1
      refine OEnds.go (t' := T2.setTop (mkF m 55 #[.val (.long q1), .second, .val (.int p1), .val (.int p2), .val (.int p3), .val (.int d1), .val (.int d2), .val (.ref b1), .unset, .unset, .unset, .unset, .unset, .unset, .unset, .unset] [(.ref b2)])) (fun _ k => st2 _ k) ?_
      refine OEnds.go (t' := T2.setTop (mkF m 57 #[.val (.long q1), .second, .val (.int p1), .val (.int p2), .val (.int p3), .val (.int d1), .val (.int d2), .val (.ref b1), .val (.ref b2), .unset, .unset, .unset, .unset, .unset, .unset, .unset] [])) (fun _ k => ?_) ?_
      · show Steps p.tables e below (T2.setTop (mkF m 55 #[.val (.long q1), .second, .val (.int p1), .val (.int p2), .val (.int p3), .val (.int d1), .val (.int d2), .val (.ref b1), .unset, .unset, .unset, .unset, .unset, .unset, .unset, .unset] [(.ref b2)])) _
        refine XS.astore X2.here hx rfl (hb hby at_55) rfl rfl (l' := #[.val (.long q1), .second, .val (.int p1), .val (.int p2), .val (.int p3), .val (.int d1), .val (.int d2), .val (.ref b1), .val (.ref b2), .unset, .unset, .unset, .unset, .unset, .unset, .unset]) rfl ?_
        show Steps p.tables e below (T2.setTop (mkF m 57 #[.val (.long q1), .second, .val (.int p1), .val (.int p2), .val (.int p3), .val (.int d1), .val (.int d2), .val (.ref b1), .val (.ref b2), .unset, .unset, .unset, .unset, .unset, .unset, .unset] [])) _
        exact k
      obtain ⟨T3, h3, X3, e3, E3, A3, D3, -, st3⟩ := newO X2 hx hZ hown (hw _ (List.mem_of_getElem? (i := 26) rfl)) (hw _ (List.mem_of_getElem? (i := 27) rfl)) (hw _ (List.mem_of_getElem? (i := 28) rfl)) rfl (g := (mkF m 57 #[.val (.long q1), .second, .val (.int p1), .val (.int p2), .val (.int p3), .val (.int d1), .val (.int d2), .val (.ref b1), .val (.ref b2), .unset, .unset, .unset, .unset, .unset, .unset, .unset] [])) rfl (hb hby at_57) (by decide) (by decide)
      obtain ⟨t1, gz3⟩ : ∃ z, z = T2.heap.size := ⟨_, rfl⟩
      rw [← gz3] at A3 D3 st3
      have g_t1 : n0 ≤ t1 := Nat.le_trans Z2 (Nat.le_of_eq gz3.symm)
      have hz0 := hz0.ext E3
      have Z3 : n0 ≤ h3.size := Nat.le_trans Z2 E3.1
      have E_t1 := A3
      have F_offset_t1 : Fld Z h3 t1 "com/example/viitta/viitta/zones/TimeType" "offset" "I" (.int (0 : Int32)) := D3 (Or.inr (hw _ (List.mem_of_getElem? (i := 39) rfl))) (ty := .int) (by decide)
      have F_dst_t1 : Fld Z h3 t1 "com/example/viitta/viitta/zones/TimeType" "dst" "Z" (.int (0 : Int32)) := D3 (Or.inr (hw _ (List.mem_of_getElem? (i := 41) rfl))) (ty := .boolean) (by decide)
      have F_abbreviation_t1 : Fld Z h3 t1 "com/example/viitta/viitta/zones/TimeType" "abbreviation" "Ljava/lang/String;" .null := D3 (Or.inr (hw _ (List.mem_of_getElem? (i := 43) rfl))) (ty := (.object "java/lang/String")) (by decide)
      refine OEnds.go (t' := T3.setTop (mkF m 60 #[.val (.long q1), .second, .val (.int p1), .val (.int p2), .val (.int p3), .val (.int d1), .val (.int d2), .val (.ref b1), .val (.ref b2), .unset, .unset, .unset, .unset, .unset, .unset, .unset] [(.ref t1)])) (fun _ k => st3 _ k) ?_
      refine OEnds.go (t' := T3.setTop (mkF m 66 #[.val (.long q1), .second, .val (.int p1), .val (.int p2), .val (.int p3), .val (.int d1), .val (.int d2), .val (.ref b1), .val (.ref b2), .unset, .unset, .unset, .unset, .unset, .unset, .unset] [(.ref b1), (.int d1), (.int p1), (.ref t1), (.ref t1)])) (fun _ k => ?_) ?_
      · show Steps p.tables e below (T3.setTop (mkF m 60 #[.val (.long q1), .second, .val (.int p1), .val (.int p2), .val (.int p3), .val (.int d1), .val (.int d2), .val (.ref b1), .val (.ref b2), .unset, .unset, .unset, .unset, .unset, .unset, .unset] [(.ref t1)])) _
        refine XS.dup X3.here hx rfl (hb hby at_60) rfl rfl ?_
        show Steps p.tables e below (T3.setTop (mkF m 61 #[.val (.long q1), .second, .val (.int p1), .val (.int p2), .val (.int p3), .val (.int d1), .val (.int d2), .val (.ref b1), .val (.ref b2), .unset, .unset, .unset, .unset, .unset, .unset, .unset] [(.ref t1), (.ref t1)])) _
        refine XS.iloadN X3.here hx rfl (hb hby at_61) rfl ?_
        show Steps p.tables e below (T3.setTop (mkF m 62 #[.val (.long q1), .second, .val (.int p1), .val (.int p2), .val (.int p3), .val (.int d1), .val (.int d2), .val (.ref b1), .val (.ref b2), .unset, .unset, .unset, .unset, .unset, .unset, .unset] [(.int p1), (.ref t1), (.ref t1)])) _
        refine XS.iload X3.here hx rfl (hb hby at_62) rfl ?_
        show Steps p.tables e below (T3.setTop (mkF m 64 #[.val (.long q1), .second, .val (.int p1), .val (.int p2), .val (.int p3), .val (.int d1), .val (.int d2), .val (.ref b1), .val (.ref b2), .unset, .unset, .unset, .unset, .unset, .unset, .unset] [(.int d1), (.int p1), (.ref t1), (.ref t1)])) _
        refine XS.aload X3.here hx rfl (hb hby at_64) rfl rfl ?_
        show Steps p.tables e below (T3.setTop (mkF m 66 #[.val (.long q1), .second, .val (.int p1), .val (.int p2), .val (.int p3), .val (.int d1), .val (.int d2), .val (.ref b1), .val (.ref b2), .unset, .unset, .unset, .unset, .unset, .unset, .unset] [(.ref b1), (.int d1), (.int p1), (.ref t1), (.ref t1)])) _
        exact k
      obtain ⟨_, _, ⟨T4, L4, k4, n4⟩, -, X4, ⟨Lc4, hQ4, l4, y4, z4⟩, st4⟩ := X3.specialBack hx (y := (⟨"com/example/viitta/viitta/zones/TimeType", "<init>", "(IZLjava/lang/String;)V"⟩ : MethodName)) rfl hown (mvT hZ (hw _ (List.mem_of_getElem? (i := 29) rfl))) (mvT hZ (hw _ (List.mem_of_getElem? (i := 30) rfl))) (mvT hZ (hw _ (List.mem_of_getElem? (i := 31) rfl))) (by decide) (backOf (W := 1) (rm6 l Z a0 hw [] t1 p1 d1 b1 h3 n0 Z3 F_offset_t1 F_dst_t1 F_abbreviation_t1 E_t1 g_t1) hZ (hw _ (List.mem_of_getElem? (i := 31) rfl)) (hw _ (List.mem_of_getElem? (i := 28) rfl)) (by decide) (by decide)) (g := (mkF m 66 #[.val (.long q1), .second, .val (.int p1), .val (.int p2), .val (.int p3), .val (.int d1), .val (.int d2), .val (.ref b1), .val (.ref b2), .unset, .unset, .unset, .unset, .unset, .unset, .unset] [(.ref b1), (.int d1), (.int p1), (.ref t1), (.ref t1)])) rfl (by rw [hml]; rfl) (Steps.refl _) (a := t1) (argsL := [(.int p1), (.int d1), (.ref b1)]) (rest := [(.ref t1)]) (lenOf pd_rm0_1 rfl) rfl (by show 2 * 0 + _ ≤ _; exact Nat.le_of_eq rfl) (hb hby at_66) (fun _ _ => ⟨rfl, e3, (by decide : 5 + 0 ≤ _), (by decide : 13 + 0 ≤ _)⟩)
      dsimp only [Pt.U, Pt.locs, Pt.cells, Pt.slots] at X4 l4 y4 z4 st4 hQ4
      subst l4 y4 z4
      obtain ⟨rfl, N4q, Kc4, Ea4, Fa4⟩ := hQ4
      have N4 := Fr.app N2 N4q
      have hz0 := hz0.keep Kc4 (allS g_t1 all0)
      have Z4 : n0 ≤ T4.heap.size := Nat.le_trans Z3 Kc4.1
      refine OEnds.go (t' := T4.setTop (mkF m 69 #[.val (.long q1), .second, .val (.int p1), .val (.int p2), .val (.int p3), .val (.int d1), .val (.int d2), .val (.ref b1), .val (.ref b2), .unset, .unset, .unset, .unset, .unset, .unset, .unset] [(.ref t1)])) (fun _ k => st4.trans k) ?_
      have E_t1 := Ea4
      have F_offset_t1 := Fa4
      refine OEnds.go (t' := T4.setTop (mkF m 71 #[.val (.long q1), .second, .val (.int p1), .val (.int p2), .val (.int p3), .val (.int d1), .val (.int d2), .val (.ref b1), .val (.ref b2), .val (.ref t1), .unset, .unset, .unset, .unset, .unset, .unset] [])) (fun _ k => ?_) ?_
      · show Steps p.tables e below (T4.setTop (mkF m 69 #[.val (.long q1), .second, .val (.int p1), .val (.int p2), .val (.int p3), .val (.int d1), .val (.int d2), .val (.ref b1), .val (.ref b2), .unset, .unset, .unset, .unset, .unset, .unset, .unset] [(.ref t1)])) _
        refine XS.astore X4.here hx rfl (hb hby at_69) rfl rfl (l' := #[.val (.long q1), .second, .val (.int p1), .val (.int p2), .val (.int p3), .val (.int d1), .val (.int d2), .val (.ref b1), .val (.ref b2), .val (.ref t1), .unset, .unset, .unset, .unset, .unset, .unset]) rfl ?_
        show Steps p.tables e below (T4.setTop (mkF m 71 #[.val (.long q1), .second, .val (.int p1), .val (.int p2), .val (.int p3), .val (.int d1), .val (.int d2), .val (.ref b1), .val (.ref b2), .val (.ref t1), .unset, .unset, .unset, .unset, .unset, .unset] [])) _
        exact k
      obtain ⟨T5, h5, X5, e5, E5, A5, D5, -, st5⟩ := newO X4 hx hZ hown (hw _ (List.mem_of_getElem? (i := 26) rfl)) (hw _ (List.mem_of_getElem? (i := 27) rfl)) (hw _ (List.mem_of_getElem? (i := 28) rfl)) rfl (g := (mkF m 71 #[.val (.long q1), .second, .val (.int p1), .val (.int p2), .val (.int p3), .val (.int d1), .val (.int d2), .val (.ref b1), .val (.ref b2), .val (.ref t1), .unset, .unset, .unset, .unset, .unset, .unset] [])) rfl (hb hby at_71) (by decide) (by decide)
      obtain ⟨t2, gz5⟩ : ∃ z, z = T4.heap.size := ⟨_, rfl⟩
      rw [← gz5] at A5 D5 st5
      have ne_t1_t2 : t1 ≠ t2 := Nat.ne_of_lt (Nat.lt_of_lt_of_le E_t1.lt (Nat.le_of_eq gz5.symm))
      have g_t2 : n0 ≤ t2 := Nat.le_trans Z4 (Nat.le_of_eq gz5.symm)
      have hz0 := hz0.ext E5
      have E_t1 := E_t1.ext E5
      have F_offset_t1 := F_offset_t1.ext E5
      have Z5 : n0 ≤ h5.size := Nat.le_trans Z4 E5.1
      have E_t2 := A5
      have F_offset_t2 : Fld Z h5 t2 "com/example/viitta/viitta/zones/TimeType" "offset" "I" (.int (0 : Int32)) := D5 (Or.inr (hw _ (List.mem_of_getElem? (i := 39) rfl))) (ty := .int) (by decide)
      have F_dst_t2 : Fld Z h5 t2 "com/example/viitta/viitta/zones/TimeType" "dst" "Z" (.int (0 : Int32)) := D5 (Or.inr (hw _ (List.mem_of_getElem? (i := 41) rfl))) (ty := .boolean) (by decide)
      have F_abbreviation_t2 : Fld Z h5 t2 "com/example/viitta/viitta/zones/TimeType" "abbreviation" "Ljava/lang/String;" .null := D5 (Or.inr (hw _ (List.mem_of_getElem? (i := 43) rfl))) (ty := (.object "java/lang/String")) (by decide)
      refine OEnds.go (t' := T5.setTop (mkF m 74 #[.val (.long q1), .second, .val (.int p1), .val (.int p2), .val (.int p3), .val (.int d1), .val (.int d2), .val (.ref b1), .val (.ref b2), .val (.ref t1), .unset, .unset, .unset, .unset, .unset, .unset] [(.ref t2)])) (fun _ k => st5 _ k) ?_
      refine OEnds.go (t' := T5.setTop (mkF m 80 #[.val (.long q1), .second, .val (.int p1), .val (.int p2), .val (.int p3), .val (.int d1), .val (.int d2), .val (.ref b1), .val (.ref b2), .val (.ref t1), .unset, .unset, .unset, .unset, .unset, .unset] [(.ref b2), (.int d2), (.int p2), (.ref t2), (.ref t2)])) (fun _ k => ?_) ?_
      · show Steps p.tables e below (T5.setTop (mkF m 74 #[.val (.long q1), .second, .val (.int p1), .val (.int p2), .val (.int p3), .val (.int d1), .val (.int d2), .val (.ref b1), .val (.ref b2), .val (.ref t1), .unset, .unset, .unset, .unset, .unset, .unset] [(.ref t2)])) _
        refine XS.dup X5.here hx rfl (hb hby at_74) rfl rfl ?_
        show Steps p.tables e below (T5.setTop (mkF m 75 #[.val (.long q1), .second, .val (.int p1), .val (.int p2), .val (.int p3), .val (.int d1), .val (.int d2), .val (.ref b1), .val (.ref b2), .val (.ref t1), .unset, .unset, .unset, .unset, .unset, .unset] [(.ref t2), (.ref t2)])) _
        refine XS.iloadN X5.here hx rfl (hb hby at_75) rfl ?_
        show Steps p.tables e below (T5.setTop (mkF m 76 #[.val (.long q1), .second, .val (.int p1), .val (.int p2), .val (.int p3), .val (.int d1), .val (.int d2), .val (.ref b1), .val (.ref b2), .val (.ref t1), .unset, .unset, .unset, .unset, .unset, .unset] [(.int p2), (.ref t2), (.ref t2)])) _
        refine XS.iload X5.here hx rfl (hb hby at_76) rfl ?_
        show Steps p.tables e below (T5.setTop (mkF m 78 #[.val (.long q1), .second, .val (.int p1), .val (.int p2), .val (.int p3), .val (.int d1), .val (.int d2), .val (.ref b1), .val (.ref b2), .val (.ref t1), .unset, .unset, .unset, .unset, .unset, .unset] [(.int d2), (.int p2), (.ref t2), (.ref t2)])) _
        refine XS.aload X5.here hx rfl (hb hby at_78) rfl rfl ?_
        show Steps p.tables e below (T5.setTop (mkF m 80 #[.val (.long q1), .second, .val (.int p1), .val (.int p2), .val (.int p3), .val (.int d1), .val (.int d2), .val (.ref b1), .val (.ref b2), .val (.ref t1), .unset, .unset, .unset, .unset, .unset, .unset] [(.ref b2), (.int d2), (.int p2), (.ref t2), (.ref t2)])) _
        exact k
      obtain ⟨_, _, ⟨T6, L6, k6, n6⟩, -, X6, ⟨Lc6, hQ6, l6, y6, z6⟩, st6⟩ := X5.specialBack hx (y := (⟨"com/example/viitta/viitta/zones/TimeType", "<init>", "(IZLjava/lang/String;)V"⟩ : MethodName)) rfl hown (mvT hZ (hw _ (List.mem_of_getElem? (i := 29) rfl))) (mvT hZ (hw _ (List.mem_of_getElem? (i := 30) rfl))) (mvT hZ (hw _ (List.mem_of_getElem? (i := 31) rfl))) (by decide) (backOf (W := 1) (rm6 l Z a0 hw [] t2 p2 d2 b2 h5 n0 Z5 F_offset_t2 F_dst_t2 F_abbreviation_t2 E_t2 g_t2) hZ (hw _ (List.mem_of_getElem? (i := 31) rfl)) (hw _ (List.mem_of_getElem? (i := 28) rfl)) (by decide) (by decide)) (g := (mkF m 80 #[.val (.long q1), .second, .val (.int p1), .val (.int p2), .val (.int p3), .val (.int d1), .val (.int d2), .val (.ref b1), .val (.ref b2), .val (.ref t1), .unset, .unset, .unset, .unset, .unset, .unset] [(.ref b2), (.int d2), (.int p2), (.ref t2), (.ref t2)])) rfl (by rw [hml]; rfl) (Steps.refl _) (a := t2) (argsL := [(.int p2), (.int d2), (.ref b2)]) (rest := [(.ref t2)]) (lenOf pd_rm0_1 rfl) rfl (by show 2 * 0 + _ ≤ _; exact Nat.le_of_eq rfl) (hb hby at_80) (fun _ _ => ⟨rfl, e5, (by decide : 6 + 0 ≤ _), (by decide : 16 + 0 ≤ _)⟩)
      dsimp only [Pt.U, Pt.locs, Pt.cells, Pt.slots] at X6 l6 y6 z6 st6 hQ6
      subst l6 y6 z6
      obtain ⟨rfl, N6q, Kc6, Ea6, Fa6⟩ := hQ6
      have N6 := Fr.app N4 N6q
      have hz0 := hz0.keep Kc6 (allS g_t2 all0)
      have E_t1 := E_t1.keep Kc6
      have F_offset_t1 := F_offset_t1.keep Kc6 (ninS ne_t1_t2 nin0)
      have Z6 : n0 ≤ T6.heap.size := Nat.le_trans Z5 Kc6.1
      refine OEnds.go (t' := T6.setTop (mkF m 83 #[.val (.long q1), .second, .val (.int p1), .val (.int p2), .val (.int p3), .val (.int d1), .val (.int d2), .val (.ref b1), .val (.ref b2), .val (.ref t1), .unset, .unset, .unset, .unset, .unset, .unset] [(.ref t2)])) (fun _ k => st6.trans k) ?_
      have E_t2 := Ea6
      have F_offset_t2 := Fa6
      refine OEnds.go (t' := T6.setTop (mkF m 85 #[.val (.long q1), .second, .val (.int p1), .val (.int p2), .val (.int p3), .val (.int d1), .val (.int d2), .val (.ref b1), .val (.ref b2), .val (.ref t1), .val (.ref t2), .unset, .unset, .unset, .unset, .unset] [])) (fun _ k => ?_) ?_
      · show Steps p.tables e below (T6.setTop (mkF m 83 #[.val (.long q1), .second, .val (.int p1), .val (.int p2), .val (.int p3), .val (.int d1), .val (.int d2), .val (.ref b1), .val (.ref b2), .val (.ref t1), .unset, .unset, .unset, .unset, .unset, .unset] [(.ref t2)])) _
        refine XS.astore X6.here hx rfl (hb hby at_83) rfl rfl (l' := #[.val (.long q1), .second, .val (.int p1), .val (.int p2), .val (.int p3), .val (.int d1), .val (.int d2), .val (.ref b1), .val (.ref b2), .val (.ref t1), .val (.ref t2), .unset, .unset, .unset, .unset, .unset]) rfl ?_
        show Steps p.tables e below (T6.setTop (mkF m 85 #[.val (.long q1), .second, .val (.int p1), .val (.int p2), .val (.int p3), .val (.int d1), .val (.int d2), .val (.ref b1), .val (.ref b2), .val (.ref t1), .val (.ref t2), .unset, .unset, .unset, .unset, .unset] [])) _
        exact k
      obtain ⟨T7, h7, X7, e7, E7, A7, D7, -, st7⟩ := newO X6 hx hZ hown (hw _ (List.mem_of_getElem? (i := 44) rfl)) (hw _ (List.mem_of_getElem? (i := 45) rfl)) (hw _ (List.mem_of_getElem? (i := 46) rfl)) rfl (g := (mkF m 85 #[.val (.long q1), .second, .val (.int p1), .val (.int p2), .val (.int p3), .val (.int d1), .val (.int d2), .val (.ref b1), .val (.ref b2), .val (.ref t1), .val (.ref t2), .unset, .unset, .unset, .unset, .unset] [])) rfl (hb hby at_85) (by decide) (by decide)
      obtain ⟨st, gz7⟩ : ∃ z, z = T6.heap.size := ⟨_, rfl⟩
      rw [← gz7] at A7 D7 st7
      have ne_t1_st : t1 ≠ st := Nat.ne_of_lt (Nat.lt_of_lt_of_le E_t1.lt (Nat.le_of_eq gz7.symm))
      have ne_t2_st : t2 ≠ st := Nat.ne_of_lt (Nat.lt_of_lt_of_le E_t2.lt (Nat.le_of_eq gz7.symm))
      have g_st : n0 ≤ st := Nat.le_trans Z6 (Nat.le_of_eq gz7.symm)
      have hz0 := hz0.ext E7
      have E_t1 := E_t1.ext E7
      have F_offset_t1 := F_offset_t1.ext E7
      have E_t2 := E_t2.ext E7
      have F_offset_t2 := F_offset_t2.ext E7
      have Z7 : n0 ≤ h7.size := Nat.le_trans Z6 E7.1
      have E_st := A7
      have F_instant_st : Fld Z h7 st "com/example/viitta/viitta/zones/Step" "instant" "J" (.long (0 : Int64)) := D7 (Or.inr (hw _ (List.mem_of_getElem? (i := 52) rfl))) (ty := .long) (by decide)
      have F_from_st : Fld Z h7 st "com/example/viitta/viitta/zones/Step" "from" "Lcom/example/viitta/viitta/zones/TimeType;" .null := D7 (Or.inr (hw _ (List.mem_of_getElem? (i := 54) rfl))) (ty := (.object "com/example/viitta/viitta/zones/TimeType")) (by decide)
      have F_to_st : Fld Z h7 st "com/example/viitta/viitta/zones/Step" "to" "Lcom/example/viitta/viitta/zones/TimeType;" .null := D7 (Or.inr (hw _ (List.mem_of_getElem? (i := 56) rfl))) (ty := (.object "com/example/viitta/viitta/zones/TimeType")) (by decide)
      refine OEnds.go (t' := T7.setTop (mkF m 88 #[.val (.long q1), .second, .val (.int p1), .val (.int p2), .val (.int p3), .val (.int d1), .val (.int d2), .val (.ref b1), .val (.ref b2), .val (.ref t1), .val (.ref t2), .unset, .unset, .unset, .unset, .unset] [(.ref st)])) (fun _ k => st7 _ k) ?_
      refine OEnds.go (t' := T7.setTop (mkF m 94 #[.val (.long q1), .second, .val (.int p1), .val (.int p2), .val (.int p3), .val (.int d1), .val (.int d2), .val (.ref b1), .val (.ref b2), .val (.ref t1), .val (.ref t2), .unset, .unset, .unset, .unset, .unset] [(.ref t2), (.ref t1), (.long q1), (.ref st), (.ref st)])) (fun _ k => ?_) ?_
      · show Steps p.tables e below (T7.setTop (mkF m 88 #[.val (.long q1), .second, .val (.int p1), .val (.int p2), .val (.int p3), .val (.int d1), .val (.int d2), .val (.ref b1), .val (.ref b2), .val (.ref t1), .val (.ref t2), .unset, .unset, .unset, .unset, .unset] [(.ref st)])) _
        refine XS.dup X7.here hx rfl (hb hby at_88) rfl rfl ?_
        show Steps p.tables e below (T7.setTop (mkF m 89 #[.val (.long q1), .second, .val (.int p1), .val (.int p2), .val (.int p3), .val (.int d1), .val (.int d2), .val (.ref b1), .val (.ref b2), .val (.ref t1), .val (.ref t2), .unset, .unset, .unset, .unset, .unset] [(.ref st), (.ref st)])) _
        refine XS.lloadN X7.here hx rfl (hb hby at_89) rfl ?_
        show Steps p.tables e below (T7.setTop (mkF m 90 #[.val (.long q1), .second, .val (.int p1), .val (.int p2), .val (.int p3), .val (.int d1), .val (.int d2), .val (.ref b1), .val (.ref b2), .val (.ref t1), .val (.ref t2), .unset, .unset, .unset, .unset, .unset] [(.long q1), (.ref st), (.ref st)])) _
        refine XS.aload X7.here hx rfl (hb hby at_90) rfl rfl ?_
        show Steps p.tables e below (T7.setTop (mkF m 92 #[.val (.long q1), .second, .val (.int p1), .val (.int p2), .val (.int p3), .val (.int d1), .val (.int d2), .val (.ref b1), .val (.ref b2), .val (.ref t1), .val (.ref t2), .unset, .unset, .unset, .unset, .unset] [(.ref t1), (.long q1), (.ref st), (.ref st)])) _
        refine XS.aload X7.here hx rfl (hb hby at_92) rfl rfl ?_
        show Steps p.tables e below (T7.setTop (mkF m 94 #[.val (.long q1), .second, .val (.int p1), .val (.int p2), .val (.int p3), .val (.int d1), .val (.int d2), .val (.ref b1), .val (.ref b2), .val (.ref t1), .val (.ref t2), .unset, .unset, .unset, .unset, .unset] [(.ref t2), (.ref t1), (.long q1), (.ref st), (.ref st)])) _
        exact k
      obtain ⟨_, _, ⟨T8, L8, k8, n8⟩, -, X8, ⟨Lc8, hQ8, l8, y8, z8⟩, st8⟩ := X7.specialBack hx (y := (⟨"com/example/viitta/viitta/zones/Step", "<init>", "(JLcom/example/viitta/viitta/zones/TimeType;Lcom/example/viitta/viitta/zones/TimeType;)V"⟩ : MethodName)) rfl hown (mvT hZ (hw _ (List.mem_of_getElem? (i := 47) rfl))) (mvT hZ (hw _ (List.mem_of_getElem? (i := 48) rfl))) (mvT hZ (hw _ (List.mem_of_getElem? (i := 49) rfl))) (by decide) (backOf (W := 1) (rm8 l Z a0 hw [] st q1 t1 t2 h7 n0 Z7 F_instant_st F_from_st F_to_st E_st g_st) hZ (hw _ (List.mem_of_getElem? (i := 49) rfl)) (hw _ (List.mem_of_getElem? (i := 46) rfl)) (by decide) (by decide)) (g := (mkF m 94 #[.val (.long q1), .second, .val (.int p1), .val (.int p2), .val (.int p3), .val (.int d1), .val (.int d2), .val (.ref b1), .val (.ref b2), .val (.ref t1), .val (.ref t2), .unset, .unset, .unset, .unset, .unset] [(.ref t2), (.ref t1), (.long q1), (.ref st), (.ref st)])) rfl (by rw [hml]; rfl) (Steps.refl _) (a := st) (argsL := [(.long q1), (.ref t1), (.ref t2)]) (rest := [(.ref st)]) (lenOf pd_rm0_2 rfl) rfl (by show 2 * 0 + _ ≤ _; exact Nat.le_of_eq rfl) (hb hby at_94) (fun _ _ => ⟨rfl, e7, (by decide : 7 + 0 ≤ _), (by decide : 19 + 0 ≤ _)⟩)
      dsimp only [Pt.U, Pt.locs, Pt.cells, Pt.slots] at X8 l8 y8 z8 st8 hQ8
      subst l8 y8 z8
      obtain ⟨rfl, N8q, Kc8, Ea8, Fa8, Fb8⟩ := hQ8
      have N8 := Fr.app N6 N8q
      have hz0 := hz0.keep Kc8 (allS g_st all0)
      have E_t1 := E_t1.keep Kc8
      have F_offset_t1 := F_offset_t1.keep Kc8 (ninS ne_t1_st nin0)
      have E_t2 := E_t2.keep Kc8
      have F_offset_t2 := F_offset_t2.keep Kc8 (ninS ne_t2_st nin0)
      have Z8 : n0 ≤ T8.heap.size := Nat.le_trans Z7 Kc8.1
      refine OEnds.go (t' := T8.setTop (mkF m 97 #[.val (.long q1), .second, .val (.int p1), .val (.int p2), .val (.int p3), .val (.int d1), .val (.int d2), .val (.ref b1), .val (.ref b2), .val (.ref t1), .val (.ref t2), .unset, .unset, .unset, .unset, .unset] [(.ref st)])) (fun _ k => st8.trans k) ?_
      refine OEnds.go (t' := T8.setTop (mkF m 101 #[.val (.long q1), .second, .val (.int p1), .val (.int p2), .val (.int p3), .val (.int d1), .val (.int d2), .val (.ref b1), .val (.ref b2), .val (.ref t1), .val (.ref t2), .val (.ref st), .unset, .unset, .unset, .unset] [(.ref st)])) (fun _ k => ?_) ?_
      · show Steps p.tables e below (T8.setTop (mkF m 97 #[.val (.long q1), .second, .val (.int p1), .val (.int p2), .val (.int p3), .val (.int d1), .val (.int d2), .val (.ref b1), .val (.ref b2), .val (.ref t1), .val (.ref t2), .unset, .unset, .unset, .unset, .unset] [(.ref st)])) _
        refine XS.astore X8.here hx rfl (hb hby at_97) rfl rfl (l' := #[.val (.long q1), .second, .val (.int p1), .val (.int p2), .val (.int p3), .val (.int d1), .val (.int d2), .val (.ref b1), .val (.ref b2), .val (.ref t1), .val (.ref t2), .val (.ref st), .unset, .unset, .unset, .unset]) rfl ?_
        show Steps p.tables e below (T8.setTop (mkF m 99 #[.val (.long q1), .second, .val (.int p1), .val (.int p2), .val (.int p3), .val (.int d1), .val (.int d2), .val (.ref b1), .val (.ref b2), .val (.ref t1), .val (.ref t2), .val (.ref st), .unset, .unset, .unset, .unset] [])) _
        refine XS.aload X8.here hx rfl (hb hby at_99) rfl rfl ?_
        show Steps p.tables e below (T8.setTop (mkF m 101 #[.val (.long q1), .second, .val (.int p1), .val (.int p2), .val (.int p3), .val (.int d1), .val (.int d2), .val (.ref b1), .val (.ref b2), .val (.ref t1), .val (.ref t2), .val (.ref st), .unset, .unset, .unset, .unset] [(.ref st)])) _
        exact k
      obtain ⟨cq9, kq9, q9a, q9b, q9c⟩ := isOf hZ rfl Ea8
      obtain ⟨_, _, ⟨T9, L9, k9, n9⟩, -, X9, ⟨Lc9, hQ9, l9, y9, z9⟩, st9⟩ := X8.virtualBack hx (y := (⟨"com/example/viitta/viitta/zones/Step", "onsetSecond", "()J"⟩ : MethodName)) (z := (⟨"com/example/viitta/viitta/zones/Step", "onsetSecond", "()J"⟩ : MethodName)) hown (mvT hZ (hw _ (List.mem_of_getElem? (i := 57) rfl))) (mvT hZ (hw _ (List.mem_of_getElem? (i := 58) rfl))) (notFace_of_selects (args := #[]) (mvT hZ (hw _ (List.mem_of_getElem? (i := 60) rfl)))) (mvT hZ (hw _ (List.mem_of_getElem? (i := 60) rfl))) (mvT hZ (hw _ (List.mem_of_getElem? (i := 59) rfl))) (by decide) (backOf (W := 0) (rm9 l Z a0 hw [] st q1 t1 p1 T8.heap n0 Z8 Fa8 Fb8 F_offset_t1 E_t1) hZ (hw _ (List.mem_of_getElem? (i := 61) rfl)) (hw _ (List.mem_of_getElem? (i := 46) rfl)) (by decide) (by decide)) q9a q9c (g := (mkF m 101 #[.val (.long q1), .second, .val (.int p1), .val (.int p2), .val (.int p3), .val (.int d1), .val (.int d2), .val (.ref b1), .val (.ref b2), .val (.ref t1), .val (.ref t2), .val (.ref st), .unset, .unset, .unset, .unset] [(.ref st)])) rfl (by rw [hml]; rfl) (Steps.refl _) (argsL := []) (rest := []) (lenOf pd_rm0_3 rfl) rfl (by show 2 * 0 + _ ≤ _; exact Nat.le_of_eq rfl) (hb hby at_101) (fun _ _ => ⟨rfl, rfl, (by decide : 7 + 0 ≤ _), (by decide : 19 + 0 ≤ _)⟩)
      dsimp only [Pt.U, Pt.locs, Pt.cells, Pt.slots] at X9 l9 y9 z9 st9 hQ9
      subst l9 y9 z9
      obtain ⟨rfl, N9q, eh⟩ := hQ9
      have N9 := Fr.app N8 N9q
      have eh9 := eh
      refine OEnds.go (t' := T9.setTop (mkF m 104 #[.val (.long q1), .second, .val (.int p1), .val (.int p2), .val (.int p3), .val (.int d1), .val (.int d2), .val (.ref b1), .val (.ref b2), .val (.ref t1), .val (.ref t2), .val (.ref st), .unset, .unset, .unset, .unset] [(.long (q1 + p1.toInt64))])) (fun _ k => st9.trans k) ?_
      refine OEnds.go (t' := T9.setTop (mkF m 117 #[.val (.long q1), .second, .val (.int p1), .val (.int p2), .val (.int p3), .val (.int d1), .val (.int d2), .val (.ref b1), .val (.ref b2), .val (.ref t1), .val (.ref t2), .val (.ref st), .val (.long (q1 + p1.toInt64)), .second, .val (.long (p1.toInt64)), .second] [(.int (lcmpW ((q1 + p1.toInt64) - q1) (p1.toInt64)))])) (fun _ k => ?_) ?_
      · show Steps p.tables e below (T9.setTop (mkF m 104 #[.val (.long q1), .second, .val (.int p1), .val (.int p2), .val (.int p3), .val (.int d1), .val (.int d2), .val (.ref b1), .val (.ref b2), .val (.ref t1), .val (.ref t2), .val (.ref st), .unset, .unset, .unset, .unset] [(.long (q1 + p1.toInt64))])) _
        refine XS.lstore X9.here hx rfl (hb hby at_104) rfl (l' := #[.val (.long q1), .second, .val (.int p1), .val (.int p2), .val (.int p3), .val (.int d1), .val (.int d2), .val (.ref b1), .val (.ref b2), .val (.ref t1), .val (.ref t2), .val (.ref st), .val (.long (q1 + p1.toInt64)), .second, .unset, .unset]) rfl ?_
        show Steps p.tables e below (T9.setTop (mkF m 106 #[.val (.long q1), .second, .val (.int p1), .val (.int p2), .val (.int p3), .val (.int d1), .val (.int d2), .val (.ref b1), .val (.ref b2), .val (.ref t1), .val (.ref t2), .val (.ref st), .val (.long (q1 + p1.toInt64)), .second, .unset, .unset] [])) _
        refine XS.iloadN X9.here hx rfl (hb hby at_106) rfl ?_
        show Steps p.tables e below (T9.setTop (mkF m 107 #[.val (.long q1), .second, .val (.int p1), .val (.int p2), .val (.int p3), .val (.int d1), .val (.int d2), .val (.ref b1), .val (.ref b2), .val (.ref t1), .val (.ref t2), .val (.ref st), .val (.long (q1 + p1.toInt64)), .second, .unset, .unset] [(.int p1)])) _
        refine XS.i2l X9.here hx rfl (hb hby at_107) rfl ?_
        show Steps p.tables e below (T9.setTop (mkF m 108 #[.val (.long q1), .second, .val (.int p1), .val (.int p2), .val (.int p3), .val (.int d1), .val (.int d2), .val (.ref b1), .val (.ref b2), .val (.ref t1), .val (.ref t2), .val (.ref st), .val (.long (q1 + p1.toInt64)), .second, .unset, .unset] [(.long (p1.toInt64))])) _
        refine XS.lstore X9.here hx rfl (hb hby at_108) rfl (l' := #[.val (.long q1), .second, .val (.int p1), .val (.int p2), .val (.int p3), .val (.int d1), .val (.int d2), .val (.ref b1), .val (.ref b2), .val (.ref t1), .val (.ref t2), .val (.ref st), .val (.long (q1 + p1.toInt64)), .second, .val (.long (p1.toInt64)), .second]) rfl ?_
        show Steps p.tables e below (T9.setTop (mkF m 110 #[.val (.long q1), .second, .val (.int p1), .val (.int p2), .val (.int p3), .val (.int d1), .val (.int d2), .val (.ref b1), .val (.ref b2), .val (.ref t1), .val (.ref t2), .val (.ref st), .val (.long (q1 + p1.toInt64)), .second, .val (.long (p1.toInt64)), .second] [])) _
        refine XS.lload X9.here hx rfl (hb hby at_110) rfl ?_
        show Steps p.tables e below (T9.setTop (mkF m 112 #[.val (.long q1), .second, .val (.int p1), .val (.int p2), .val (.int p3), .val (.int d1), .val (.int d2), .val (.ref b1), .val (.ref b2), .val (.ref t1), .val (.ref t2), .val (.ref st), .val (.long (q1 + p1.toInt64)), .second, .val (.long (p1.toInt64)), .second] [(.long (q1 + p1.toInt64))])) _
        refine XS.lloadN X9.here hx rfl (hb hby at_112) rfl ?_
        show Steps p.tables e below (T9.setTop (mkF m 113 #[.val (.long q1), .second, .val (.int p1), .val (.int p2), .val (.int p3), .val (.int d1), .val (.int d2), .val (.ref b1), .val (.ref b2), .val (.ref t1), .val (.ref t2), .val (.ref st), .val (.long (q1 + p1.toInt64)), .second, .val (.long (p1.toInt64)), .second] [(.long q1), (.long (q1 + p1.toInt64))])) _
        refine XS.lsub X9.here hx rfl (hb hby at_113) rfl ?_
        show Steps p.tables e below (T9.setTop (mkF m 114 #[.val (.long q1), .second, .val (.int p1), .val (.int p2), .val (.int p3), .val (.int d1), .val (.int d2), .val (.ref b1), .val (.ref b2), .val (.ref t1), .val (.ref t2), .val (.ref st), .val (.long (q1 + p1.toInt64)), .second, .val (.long (p1.toInt64)), .second] [(.long ((q1 + p1.toInt64) - q1))])) _
        refine XS.lload X9.here hx rfl (hb hby at_114) rfl ?_
        show Steps p.tables e below (T9.setTop (mkF m 116 #[.val (.long q1), .second, .val (.int p1), .val (.int p2), .val (.int p3), .val (.int d1), .val (.int d2), .val (.ref b1), .val (.ref b2), .val (.ref t1), .val (.ref t2), .val (.ref st), .val (.long (q1 + p1.toInt64)), .second, .val (.long (p1.toInt64)), .second] [(.long (p1.toInt64)), (.long ((q1 + p1.toInt64) - q1))])) _
        refine XS.lcmp X9.here hx rfl (hb hby at_116) rfl ?_
        show Steps p.tables e below (T9.setTop (mkF m 117 #[.val (.long q1), .second, .val (.int p1), .val (.int p2), .val (.int p3), .val (.int d1), .val (.int d2), .val (.ref b1), .val (.ref b2), .val (.ref t1), .val (.ref t2), .val (.ref st), .val (.long (q1 + p1.toInt64)), .second, .val (.long (p1.toInt64)), .second] [(.int (lcmpW ((q1 + p1.toInt64) - q1) (p1.toInt64)))])) _
        exact k
      refine OEnds.go (t' := T9.setTop (mkF m 120 #[.val (.long q1), .second, .val (.int p1), .val (.int p2), .val (.int p3), .val (.int d1), .val (.int d2), .val (.ref b1), .val (.ref b2), .val (.ref t1), .val (.ref t2), .val (.ref st), .val (.long (q1 + p1.toInt64)), .second, .val (.long (p1.toInt64)), .second] [])) (fun _ k => XS.ifNo X9.here hx rfl (hb hby at_117) rfl ((if0 _ _).trans (teq (own_ring _ _)).2) k) ?_
      refine OEnds.go (t' := T9.setTop (mkF m 125 #[.val (.long q1), .second, .val (.int p1), .val (.int p2), .val (.int p3), .val (.int d1), .val (.int d2), .val (.ref b1), .val (.ref b2), .val (.ref t1), .val (.ref t2), .val (.ref st), .val (.long (q1 + p1.toInt64)), .second, .val (.long (p1.toInt64)), .second] [(.int (1 : Int32))])) (fun _ k => ?_) ?_
      · show Steps p.tables e below (T9.setTop (mkF m 120 #[.val (.long q1), .second, .val (.int p1), .val (.int p2), .val (.int p3), .val (.int d1), .val (.int d2), .val (.ref b1), .val (.ref b2), .val (.ref t1), .val (.ref t2), .val (.ref st), .val (.long (q1 + p1.toInt64)), .second, .val (.long (p1.toInt64)), .second] [])) _
        refine XS.iconst X9.here hx rfl (hb hby at_120) ?_
        show Steps p.tables e below (T9.setTop (mkF m 121 #[.val (.long q1), .second, .val (.int p1), .val (.int p2), .val (.int p3), .val (.int d1), .val (.int d2), .val (.ref b1), .val (.ref b2), .val (.ref t1), .val (.ref t2), .val (.ref st), .val (.long (q1 + p1.toInt64)), .second, .val (.long (p1.toInt64)), .second] [(.int (1 : Int32))])) _
        refine XS.goto X9.here hx rfl (pc0 := 121) (pc' := 125) rfl (hb hby at_121) (by decide) (by decide) ?_
        show Steps p.tables e below (T9.setTop (mkF m 125 #[.val (.long q1), .second, .val (.int p1), .val (.int p2), .val (.int p3), .val (.int d1), .val (.int d2), .val (.ref b1), .val (.ref b2), .val (.ref t1), .val (.ref t2), .val (.ref st), .val (.long (q1 + p1.toInt64)), .second, .val (.long (p1.toInt64)), .second] [(.int (1 : Int32))])) _
        exact k
      refine OEnds.back X9 hlk (v := (some (.int (1 : Int32)))) (fun h => by rw [hrt] at h; cases h) (fun fs hr => ?_) ?_ (by decide) (by decide)
      · exact retN X9 hx (t := .boolean) hrt (by simp) (hb hby at_125) hr
      · show Q0 Z q1 p1 p2 p3 w1 h0 n0 _ T9.heap _
        rw [eh9]
        exact ⟨rfl, N9⟩
    refine OEnds.go (t' := s₁.setTop (mkF m 18 #[.val (.long q1), .second, .val (.int p1), .val (.int p2), .val (.int p3), .val (.int d1), .unset, .unset, .unset, .unset, .unset, .unset, .unset, .unset, .unset, .unset] [(.int (p3 &&& (2 : Int32)))])) (fun _ k => ?_) ?_
    · show Steps p.tables e below (s₁.setTop (mkF m 14 #[.val (.long q1), .second, .val (.int p1), .val (.int p2), .val (.int p3), .val (.int d1), .unset, .unset, .unset, .unset, .unset, .unset, .unset, .unset, .unset, .unset] [])) _
      refine XS.iload X0.here hx rfl (hb hby at_14) rfl ?_
      show Steps p.tables e below (s₁.setTop (mkF m 16 #[.val (.long q1), .second, .val (.int p1), .val (.int p2), .val (.int p3), .val (.int d1), .unset, .unset, .unset, .unset, .unset, .unset, .unset, .unset, .unset, .unset] [(.int p3)])) _
      refine XS.iconst X0.here hx rfl (hb hby at_16) ?_
      show Steps p.tables e below (s₁.setTop (mkF m 17 #[.val (.long q1), .second, .val (.int p1), .val (.int p2), .val (.int p3), .val (.int d1), .unset, .unset, .unset, .unset, .unset, .unset, .unset, .unset, .unset, .unset] [(.int (2 : Int32)), (.int p3)])) _
      refine XS.iand X0.here hx rfl (hb hby at_17) rfl ?_
      show Steps p.tables e below (s₁.setTop (mkF m 18 #[.val (.long q1), .second, .val (.int p1), .val (.int p2), .val (.int p3), .val (.int d1), .unset, .unset, .unset, .unset, .unset, .unset, .unset, .unset, .unset, .unset] [(.int (p3 &&& (2 : Int32)))])) _
      exact k
    by_cases h18 : (p3 &&& (2 : Int32)) = (0 : Int32)
    · refine OEnds.go (t' := s₁.setTop (mkF m 25 #[.val (.long q1), .second, .val (.int p1), .val (.int p2), .val (.int p3), .val (.int d1), .unset, .unset, .unset, .unset, .unset, .unset, .unset, .unset, .unset, .unset] [])) (fun _ k => XS.ifYes X0.here hx rfl (pc0 := 18) (pc' := 25) rfl (hb hby at_18) rfl ((if0 _ _).trans (teq h18).1) (by decide) (by decide) k) ?_
      refine OEnds.go (t' := s₁.setTop (mkF m 26 #[.val (.long q1), .second, .val (.int p1), .val (.int p2), .val (.int p3), .val (.int d1), .unset, .unset, .unset, .unset, .unset, .unset, .unset, .unset, .unset, .unset] [(.int (0 : Int32))])) (fun _ k => ?_) ?_
      · show Steps p.tables e below (s₁.setTop (mkF m 25 #[.val (.long q1), .second, .val (.int p1), .val (.int p2), .val (.int p3), .val (.int d1), .unset, .unset, .unset, .unset, .unset, .unset, .unset, .unset, .unset, .unset] [])) _
        refine XS.iconst X0.here hx rfl (hb hby at_25) ?_
        show Steps p.tables e below (s₁.setTop (mkF m 26 #[.val (.long q1), .second, .val (.int p1), .val (.int p2), .val (.int p3), .val (.int d1), .unset, .unset, .unset, .unset, .unset, .unset, .unset, .unset, .unset, .unset] [(.int (0 : Int32))])) _
        exact k
      exact K26 _
    · refine OEnds.go (t' := s₁.setTop (mkF m 21 #[.val (.long q1), .second, .val (.int p1), .val (.int p2), .val (.int p3), .val (.int d1), .unset, .unset, .unset, .unset, .unset, .unset, .unset, .unset, .unset, .unset] [])) (fun _ k => XS.ifNo X0.here hx rfl (hb hby at_18) rfl ((if0 _ _).trans (feq h18).1) k) ?_
      refine OEnds.go (t' := s₁.setTop (mkF m 26 #[.val (.long q1), .second, .val (.int p1), .val (.int p2), .val (.int p3), .val (.int d1), .unset, .unset, .unset, .unset, .unset, .unset, .unset, .unset, .unset, .unset] [(.int (1 : Int32))])) (fun _ k => ?_) ?_
      · show Steps p.tables e below (s₁.setTop (mkF m 21 #[.val (.long q1), .second, .val (.int p1), .val (.int p2), .val (.int p3), .val (.int d1), .unset, .unset, .unset, .unset, .unset, .unset, .unset, .unset, .unset, .unset] [])) _
        refine XS.iconst X0.here hx rfl (hb hby at_21) ?_
        show Steps p.tables e below (s₁.setTop (mkF m 22 #[.val (.long q1), .second, .val (.int p1), .val (.int p2), .val (.int p3), .val (.int d1), .unset, .unset, .unset, .unset, .unset, .unset, .unset, .unset, .unset, .unset] [(.int (1 : Int32))])) _
        refine XS.goto X0.here hx rfl (pc0 := 22) (pc' := 26) rfl (hb hby at_22) (by decide) (by decide) ?_
        show Steps p.tables e below (s₁.setTop (mkF m 26 #[.val (.long q1), .second, .val (.int p1), .val (.int p2), .val (.int p3), .val (.int d1), .unset, .unset, .unset, .unset, .unset, .unset, .unset, .unset, .unset, .unset] [(.int (1 : Int32))])) _
        exact k
      exact K26 _
  refine OEnds.go (t' := s₁.setTop (mkF m 4 #[.val (.long q1), .second, .val (.int p1), .val (.int p2), .val (.int p3), .unset, .unset, .unset, .unset, .unset, .unset, .unset, .unset, .unset, .unset, .unset] [(.int (p3 &&& (1 : Int32)))])) (fun _ k => ?_) ?_
  · show Steps p.tables e below (s₁.setTop (mkF m 0 #[.val (.long q1), .second, .val (.int p1), .val (.int p2), .val (.int p3), .unset, .unset, .unset, .unset, .unset, .unset, .unset, .unset, .unset, .unset, .unset] [])) _
    refine XS.iload X0.here hx rfl (hb hby at_0) rfl ?_
    show Steps p.tables e below (s₁.setTop (mkF m 2 #[.val (.long q1), .second, .val (.int p1), .val (.int p2), .val (.int p3), .unset, .unset, .unset, .unset, .unset, .unset, .unset, .unset, .unset, .unset, .unset] [(.int p3)])) _
    refine XS.iconst X0.here hx rfl (hb hby at_2) ?_
    show Steps p.tables e below (s₁.setTop (mkF m 3 #[.val (.long q1), .second, .val (.int p1), .val (.int p2), .val (.int p3), .unset, .unset, .unset, .unset, .unset, .unset, .unset, .unset, .unset, .unset, .unset] [(.int (1 : Int32)), (.int p3)])) _
    refine XS.iand X0.here hx rfl (hb hby at_3) rfl ?_
    show Steps p.tables e below (s₁.setTop (mkF m 4 #[.val (.long q1), .second, .val (.int p1), .val (.int p2), .val (.int p3), .unset, .unset, .unset, .unset, .unset, .unset, .unset, .unset, .unset, .unset, .unset] [(.int (p3 &&& (1 : Int32)))])) _
    exact k
  by_cases h4 : (p3 &&& (1 : Int32)) = (0 : Int32)
  · refine OEnds.go (t' := s₁.setTop (mkF m 11 #[.val (.long q1), .second, .val (.int p1), .val (.int p2), .val (.int p3), .unset, .unset, .unset, .unset, .unset, .unset, .unset, .unset, .unset, .unset, .unset] [])) (fun _ k => XS.ifYes X0.here hx rfl (pc0 := 4) (pc' := 11) rfl (hb hby at_4) rfl ((if0 _ _).trans (teq h4).1) (by decide) (by decide) k) ?_
    refine OEnds.go (t' := s₁.setTop (mkF m 12 #[.val (.long q1), .second, .val (.int p1), .val (.int p2), .val (.int p3), .unset, .unset, .unset, .unset, .unset, .unset, .unset, .unset, .unset, .unset, .unset] [(.int (0 : Int32))])) (fun _ k => ?_) ?_
    · show Steps p.tables e below (s₁.setTop (mkF m 11 #[.val (.long q1), .second, .val (.int p1), .val (.int p2), .val (.int p3), .unset, .unset, .unset, .unset, .unset, .unset, .unset, .unset, .unset, .unset, .unset] [])) _
      refine XS.iconst X0.here hx rfl (hb hby at_11) ?_
      show Steps p.tables e below (s₁.setTop (mkF m 12 #[.val (.long q1), .second, .val (.int p1), .val (.int p2), .val (.int p3), .unset, .unset, .unset, .unset, .unset, .unset, .unset, .unset, .unset, .unset, .unset] [(.int (0 : Int32))])) _
      exact k
    exact K12 _
  · refine OEnds.go (t' := s₁.setTop (mkF m 7 #[.val (.long q1), .second, .val (.int p1), .val (.int p2), .val (.int p3), .unset, .unset, .unset, .unset, .unset, .unset, .unset, .unset, .unset, .unset, .unset] [])) (fun _ k => XS.ifNo X0.here hx rfl (hb hby at_4) rfl ((if0 _ _).trans (feq h4).1) k) ?_
    refine OEnds.go (t' := s₁.setTop (mkF m 12 #[.val (.long q1), .second, .val (.int p1), .val (.int p2), .val (.int p3), .unset, .unset, .unset, .unset, .unset, .unset, .unset, .unset, .unset, .unset, .unset] [(.int (1 : Int32))])) (fun _ k => ?_) ?_
    · show Steps p.tables e below (s₁.setTop (mkF m 7 #[.val (.long q1), .second, .val (.int p1), .val (.int p2), .val (.int p3), .unset, .unset, .unset, .unset, .unset, .unset, .unset, .unset, .unset, .unset, .unset] [])) _
      refine XS.iconst X0.here hx rfl (hb hby at_7) ?_
      show Steps p.tables e below (s₁.setTop (mkF m 8 #[.val (.long q1), .second, .val (.int p1), .val (.int p2), .val (.int p3), .unset, .unset, .unset, .unset, .unset, .unset, .unset, .unset, .unset, .unset, .unset] [(.int (1 : Int32))])) _
      refine XS.goto X0.here hx rfl (pc0 := 8) (pc' := 12) rfl (hb hby at_8) (by decide) (by decide) ?_
      show Steps p.tables e below (s₁.setTop (mkF m 12 #[.val (.long q1), .second, .val (.int p1), .val (.int p2), .val (.int p3), .unset, .unset, .unset, .unset, .unset, .unset, .unset, .unset, .unset, .unset, .unset] [(.int (1 : Int32))])) _
      exact k
    exact K12 _
set_option maxRecDepth 65536 in
set_option maxHeartbeats 40000000 in
theorem comes_1 {Post : Tables → Env → Array Value → State → Outcome → State → Prop} (hpost : ∀ tb e args s v u, (limb_1_1.after args s (.returned v) u = true ∧ limb_1_2.after args s (.returned v) u = true ∧ True) → FrameEnd s (.returned v) u (Jvm.fieldLocs frame_1_writes args s ++ Jvm.arrayLocs frame_1_arrays args s ++ Jvm.staticLocs frame_1_statics s) 24 128 → Post tb e args s (.returned v) u) :
    ArmFor flags0 classFile x code maxLocals ret World_1 tables_1 room_1 Calls_1 rest_1 Pre_1 Post := by
  intro l hfl _ _ p e ha hc hk s m args below hf hA hF happ hP
  obtain ⟨hcalls, hrest, hpre⟩ := hP
  obtain ⟨-, -, -, hnamed, -, -, -, hat⟩ := (Spec.applies_iff hf).mp happ
  obtain ⟨hg, hn⟩ := and_e (Cond.before_iff.mp (show (Jvm.Cond.and given_1 narrow_1).before args s = true from hpre))
  obtain ⟨gc, g0⟩ := and_e hg
  obtain ⟨ga0, g1⟩ := and_e g0
  obtain ⟨ga1, g2⟩ := and_e g1
  obtain ⟨ga2, g3⟩ := and_e g2
  obtain ⟨w0, w1, w2, w3, rfl⟩ : ∃ w0 w1 w2 w3 : Value, args = #[w0, w1, w2, w3] := by
    have hs : args.size = 4 := by simpa [Cond.value, given_1] using gc
    obtain ⟨L⟩ := args
    match L, hs with
    | [w0, w1, w2, w3], _ => exact ⟨w0, w1, w2, w3, rfl⟩
  have hw := fun d (hd : d ∈ tables_1) => atoms_spec (ws := Jvm.Cond.code x code maxLocals ret :: tables_1) hat d (List.mem_cons_of_mem _ hd)
  have hfit : Fit s := fun {y c} hc i hi => by
    obtain ⟨ha, rfl⟩ := Array.getElem?_eq_some_iff.mp hc
    have q := List.all_eq_true.mp ((Array.all_eq_true_iff_forall_mem.mp hF) _ (Array.getElem_mem ha)) i (List.mem_range.mpr hi)
    simpa [Array.getElem?_eq_getElem hi] using q
  obtain ⟨hsets, hown0⟩ := atoms_of _ (rest_1_c_eq ▸ (show rest_1_c.before _ s = true from hrest))
  obtain ⟨i0, ei0⟩ := isL_v ga0
  obtain rfl : w0 = (.long i0) := Option.some.inj ei0
  obtain ⟨i1, ei1⟩ := is_v ga1
  obtain rfl : w1 = (.int i1) := Option.some.inj ei1
  obtain ⟨i2, ei2⟩ := is_v ga2
  obtain rfl : w2 = (.int i2) := Option.some.inj ei2
  obtain ⟨i3, ei3⟩ := is_v g3
  obtain rfl : w3 = (.int i3) := Option.some.inj ei3
  have hC := hsets _ (List.mem_of_getElem? (i := 0) rfl)
  obtain ⟨w1, ew1⟩ := is_v (Cond.before_iff.mp (hsets _ (List.mem_of_getElem? (i := 1) rfl)))
  have S_C := Sta.start ew1 (Or.inl hC)
  have c0 : ¬ w1 = 0 := own_nei ew1 (Cond.before_iff.mp (hsets _ (List.mem_of_getElem? (i := 2) rfl)))
  obtain ⟨n, o, h1, h2, h3, _, L, rfl, ⟨rfl, N⟩, hq⟩ := rm0 l s _ hw tables_1 i0 i1 i2 i3 w1 s.heap s.heap.size (Nat.le_refl _) (Old.start s) S_C c0 p e ha hc hk s m _ below hf ((Spec.applies_iff_loose hf).mp happ).1 ⟨rfl, State.Warmed39.refl s, rfl⟩ trivial
  refine ⟨n, _, h1, h2, h3, hpost _ _ _ _ _ _ ⟨Cond.after_iff.mpr rfl, Cond.after_iff.mpr (eq_i res_at (Term.int_eval (1)) rfl), trivial⟩ ⟨hq.1, hq.2.1, (hq.2.2.sift fun y hy => Or.inr (N y hy)).mono (by decide) (by decide)⟩⟩
theorem main_1_1 : Claimed_1_1 := comes_1 fun _ _ _ _ _ _ h hF => ⟨h.1, hF⟩
theorem main_1_2 : Claimed_1_2 := comes_1 fun _ _ _ _ _ _ h hF => ⟨h.2.1, hF⟩
end Jvm.Pilot.@@N@@
namespace Jvm.Pilot.@@N@@
open Jvm Jvm.ClassFile Sem Op Lib Jvm.Free Jvm.Stand Jvm.Pilot.@@N@@.Jvm.D
/-! MADE BY PROGRAM (witnessworld.py) out of the Statement's table words and the real class files: 19 classes; the members and pool entries that the words name. The judged class is class 1, her method 1. -/
namespace start1
open Jvm.ClassFile
def u (s : String) : CpInfo := .utf8 (stringToUtf16 s)
/-- a pool by its gaps: so many unusable entries, then the entry; so many at the end -/
def gap : Nat → List CpInfo → List CpInfo
  | 0, r => r
  | n + 1, r => .unusable :: gap n r
def poolList (es : List (Nat × CpInfo)) (last : Nat) : List CpInfo := es.foldr (fun e r => gap e.1 (e.2 :: r)) (gap last [])
def pool (es : List (Nat × CpInfo)) (last : Nat) : Array CpInfo := ⟨poolList es last⟩
def fileOf (pool : Array CpInfo) (this : Nat) (attrs : Array Attribute := #[]) (ms : Array MethodInfo := #[]) (fl : Nat := 33) (sup : Nat := 0) (ifs : Array Nat := #[]) (fds : Array FieldInfo := #[]) : ClassFile where
  minorVersion := 0
  majorVersion := 65
  constantPool := pool
  accessFlags := fl
  thisClass := this
  superClass := sup
  interfaces := ifs
  fields := fds
  methods := ms
  attributes := attrs
def plain (name : String) (sup : Option ClassId) : Class where
  name := name
  kind := .ordinary
  loader := none
  accessFlags := 33
  super := sup
  interfaces := #[]
  cf := none
  fields := #[]
  methods := #[]
  instanceTypes := #[]
  staticTypes := #[]
  resolved := #[]
  callSites := []
  init := .initialized
  statics := none
  mirror := none

def pool0 : Array CpInfo := pool [(5, u "<init>"), (0, u "()V"), (1, .class_ 10), (1, u "java/lang/Object")] 113

def k0c0 : Code := { maxStack := 0, maxLocals := 1, code := object_method_1_code, exceptionTable := #[], attributes := #[] }
def k0m0 : Method := { name := "<init>", desc := "()V", sig := { parameters := [], returnType := none }, accessFlags := 1, code := some k0c0 }
/-- java/lang/Object -/
def k0 : Class := { plain "java/lang/Object" none with
  accessFlags := 33
  interfaces := #[]
  cf := some (fileOf pool0 8 #[] #[{ accessFlags := 1, nameIndex := 5, descriptorIndex := 6, attributes := #[] }] 33 0 #[] #[])
  fields := #[]
  methods := #[k0m0]
  instanceTypes := #[]
  staticTypes := #[]
  resolved := Array.replicate 124 none
  statics := none }

def pool1 : Array CpInfo := pool [(2, .class_ 4), (1, u "java/lang/Object"), (0, u "<init>"), (0, u "()V"), (0, .methodref 8 9), (0, .class_ 10), (0, .nameAndType 11 12), (0, u "java/lang/String"), (0, u "valueOf"), (0, u "(C)Ljava/lang/String;"), (0, .class_ 14), (0, u "com/example/viitta/viitta/zones/TimeType"), (0, .methodref 13 16), (0, .nameAndType 5 17), (0, u "(IZLjava/lang/String;)V"), (0, .class_ 19), (0, u "com/example/viitta/viitta/zones/Step"), (0, .methodref 18 21), (0, .nameAndType 5 22), (0, u "(JLcom/example/viitta/viitta/zones/TimeType;Lcom/example/viitta/viitta/zones/TimeType;)V"), (0, .methodref 18 24), (0, .nameAndType 25 26), (0, u "onsetSecond"), (0, u "()J"), (0, .class_ 28), (0, u "com/example/viitta/viitta/zones/StepOnsetSecondPinLaw"), (2, u "law"), (0, u "(JIII)Z")] 3

def k1m0 : Method := { name := "<init>", desc := "()V", sig := { parameters := [], returnType := none }, accessFlags := 2, code := none }
def k1c1 : Code := { maxStack := 6, maxLocals := 16, code := code, exceptionTable := #[], attributes := #[] }
def k1m1 : Method := { name := "law", desc := "(JIII)Z", sig := { parameters := [.long, .int, .int, .int], returnType := some .boolean }, accessFlags := 9, code := some k1c1 }
/-- com/example/viitta/viitta/zones/StepOnsetSecondPinLaw -/
def k1 : Class := { plain "com/example/viitta/viitta/zones/StepOnsetSecondPinLaw" (some 0) with
  accessFlags := 49
  interfaces := #[]
  cf := some (fileOf pool1 27 #[] #[{ accessFlags := 2, nameIndex := 5, descriptorIndex := 6, attributes := #[] }, { accessFlags := 9, nameIndex := 31, descriptorIndex := 32, attributes := #[] }] 49 2 #[] #[])
  fields := #[]
  methods := #[k1m0, k1m1]
  instanceTypes := #[]
  staticTypes := #[]
  resolved := Array.replicate 36 none
  statics := none }

def pool2 : Array CpInfo := pool [(1, .class_ 2), (0, u "java/io/Serializable"), (0, .class_ 4), (0, u "java/lang/Object")] 2

/-- java/io/Serializable -/
def k2 : Class := { plain "java/io/Serializable" (some 0) with
  accessFlags := 1537
  interfaces := #[]
  cf := some (fileOf pool2 1 #[] #[] 1537 3 #[] #[])
  fields := #[]
  methods := #[]
  instanceTypes := #[]
  staticTypes := #[]
  resolved := Array.replicate 7 none
  statics := none }

def pool3 : Array CpInfo := pool [(1, .class_ 2), (0, u "java/lang/Comparable"), (0, .class_ 4), (0, u "java/lang/Object")] 7

/-- java/lang/Comparable -/
def k3 : Class := { plain "java/lang/Comparable" (some 0) with
  accessFlags := 1537
  interfaces := #[]
  cf := some (fileOf pool3 1 #[] #[] 1537 3 #[] #[])
  fields := #[]
  methods := #[]
  instanceTypes := #[]
  staticTypes := #[]
  resolved := Array.replicate 12 none
  statics := none }

def pool4 : Array CpInfo := pool [(2, .class_ 4), (1, u "java/lang/CharSequence"), (42, .class_ 48), (0, u "java/lang/CharSequence$1CodePointIterator"), (10, .class_ 60), (0, u "java/lang/CharSequence$1CharIterator"), (5, .class_ 67), (0, u "java/lang/Object")] 63

/-- java/lang/CharSequence -/
def k4 : Class := { plain "java/lang/CharSequence" (some 0) with
  accessFlags := 1537
  interfaces := #[]
  cf := some (fileOf pool4 2 #[.nestMembers #[47, 59]] #[] 1537 66 #[] #[])
  fields := #[]
  methods := #[]
  instanceTypes := #[]
  staticTypes := #[]
  resolved := Array.replicate 131 none
  statics := none }

def pool5 : Array CpInfo := pool [(1, .class_ 2), (0, u "java/lang/constant/Constable"), (0, .class_ 4), (0, u "java/lang/Object")] 6

/-- java/lang/constant/Constable -/
def k5 : Class := { plain "java/lang/constant/Constable" (some 0) with
  accessFlags := 1537
  interfaces := #[]
  cf := some (fileOf pool5 1 #[] #[] 1537 3 #[] #[])
  fields := #[]
  methods := #[]
  instanceTypes := #[]
  staticTypes := #[]
  resolved := Array.replicate 11 none
  statics := none }

def pool6 : Array CpInfo := pool [(1, .class_ 2), (0, u "java/lang/constant/ConstantDesc"), (0, .class_ 4), (0, u "java/lang/Object")] 32

/-- java/lang/constant/ConstantDesc -/
def k6 : Class := { plain "java/lang/constant/ConstantDesc" (some 0) with
  accessFlags := 1537
  interfaces := #[]
  cf := some (fileOf pool6 1 #[] #[] 1537 3 #[] #[])
  fields := #[]
  methods := #[]
  instanceTypes := #[]
  staticTypes := #[]
  resolved := Array.replicate 37 none
  statics := none }

def pool7 : Array CpInfo := pool [(1, .methodref 2 3), (0, .class_ 4), (0, .nameAndType 5 6), (0, u "java/lang/Object"), (0, u "<init>"), (0, u "()V"), (2, .fieldref 10 11), (0, .class_ 12), (0, .nameAndType 13 14), (0, u "java/lang/String"), (0, u "value"), (0, u "[B"), (0, .fieldref 10 16), (0, .nameAndType 17 18), (0, u "coder"), (0, u "B"), (2, u "hash"), (0, u "I"), (2, u "hashIsZero"), (0, u "Z"), (11, .fieldref 10 39), (0, .nameAndType 40 26), (0, u "COMPACT_STRINGS"), (12, u "toBytes"), (53, .class_ 109), (1, u "java/lang/StringLatin1"), (99, .methodref 10 210), (0, .nameAndType 5 211), (0, u "([BB)V"), (157, u "(C)Z"), (205, .class_ 576), (0, u "java/lang/CharSequence"), (22, u "CASE_INSENSITIVE_ORDER"), (0, u "Ljava/util/Comparator;"), (181, u "valueOf"), (0, u "(C)Ljava/lang/String;"), (231, .methodref 107 1016), (0, .nameAndType 1017 369), (0, u "canEncode"), (0, .methodref 107 1019), (0, .nameAndType 53 1020), (0, u "(C)[B"), (80, u "serialPersistentFields"), (0, u "[Ljava/io/ObjectStreamField;"), (0, .class_ 1104), (0, u "java/lang/String$CaseInsensitiveComparator"), (1, .class_ 1107), (0, u "java/io/Serializable"), (0, .class_ 1109), (0, u "java/lang/Comparable"), (0, .class_ 1111), (0, u "java/lang/constant/Constable"), (0, .class_ 1113), (0, u "java/lang/constant/ConstantDesc"), (2, u "serialVersionUID"), (0, u "J"), (3, u "REPL"), (0, u "C"), (2, u "LATIN1"), (1, u "UTF16")] 323

def k7m0 : Method := { name := "<init>", desc := "()V", sig := { parameters := [], returnType := none }, accessFlags := 1, code := none }
def k7c1 : Code := { maxStack := 4, maxLocals := 1, code := jdk_42_method_139_code, exceptionTable := #[], attributes := #[] }
def k7m1 : Method := { name := "valueOf", desc := "(C)Ljava/lang/String;", sig := { parameters := [.char], returnType := some (.object "java/lang/String") }, accessFlags := 9, code := some k7c1 }
def k7c2 : Code := { maxStack := 2, maxLocals := 3, code := jdk_42_method_151_code, exceptionTable := #[], attributes := #[] }
def k7m2 : Method := { name := "<init>", desc := "([BB)V", sig := { parameters := [(.array .byte), .byte], returnType := none }, accessFlags := 0, code := some k7c2 }
/-- java/lang/String -/
def k7 : Class := { plain "java/lang/String" (some 0) with
  accessFlags := 49
  interfaces := #[2, 3, 4, 5, 6]
  cf := some (fileOf pool7 10 #[.nestMembers #[1103]] #[{ accessFlags := 1, nameIndex := 5, descriptorIndex := 6, attributes := #[] }, { accessFlags := 9, nameIndex := 782, descriptorIndex := 783, attributes := #[] }, { accessFlags := 0, nameIndex := 5, descriptorIndex := 211, attributes := #[] }] 49 2 #[1106, 1108, 575, 1110, 1112] #[{ accessFlags := 18, nameIndex := 13, descriptorIndex := 14, attributes := #[] }, { accessFlags := 18, nameIndex := 17, descriptorIndex := 18, attributes := #[] }, { accessFlags := 2, nameIndex := 21, descriptorIndex := 22, attributes := #[] }, { accessFlags := 2, nameIndex := 25, descriptorIndex := 26, attributes := #[] }, { accessFlags := 26, nameIndex := 1116, descriptorIndex := 1117, attributes := #[] }, { accessFlags := 24, nameIndex := 40, descriptorIndex := 26, attributes := #[] }, { accessFlags := 26, nameIndex := 1101, descriptorIndex := 1102, attributes := #[] }, { accessFlags := 26, nameIndex := 1121, descriptorIndex := 1122, attributes := #[] }, { accessFlags := 25, nameIndex := 599, descriptorIndex := 600, attributes := #[] }, { accessFlags := 24, nameIndex := 1125, descriptorIndex := 18, attributes := #[] }, { accessFlags := 24, nameIndex := 1127, descriptorIndex := 18, attributes := #[] }])
  fields := #[{ name := "value", type := (.array .byte), accessFlags := 18, slot := 0, constantValue := 0 }, { name := "coder", type := .byte, accessFlags := 18, slot := 1, constantValue := 0 }, { name := "hash", type := .int, accessFlags := 2, slot := 2, constantValue := 0 }, { name := "hashIsZero", type := .boolean, accessFlags := 2, slot := 3, constantValue := 0 }, { name := "serialVersionUID", type := .long, accessFlags := 26, slot := 0, constantValue := 0 }, { name := "COMPACT_STRINGS", type := .boolean, accessFlags := 24, slot := 1, constantValue := 0 }, { name := "serialPersistentFields", type := (.array (.object "java/io/ObjectStreamField")), accessFlags := 26, slot := 2, constantValue := 0 }, { name := "REPL", type := .char, accessFlags := 26, slot := 3, constantValue := 0 }, { name := "CASE_INSENSITIVE_ORDER", type := (.object "java/util/Comparator"), accessFlags := 25, slot := 4, constantValue := 0 }, { name := "LATIN1", type := .byte, accessFlags := 24, slot := 5, constantValue := 0 }, { name := "UTF16", type := .byte, accessFlags := 24, slot := 6, constantValue := 0 }]
  methods := #[k7m0, k7m1, k7m2]
  instanceTypes := #[(.array .byte), .byte, .int, .boolean]
  staticTypes := #[.long, .boolean, (.array (.object "java/io/ObjectStreamField")), .char, (.object "java/util/Comparator"), .byte, .byte]
  resolved := Array.replicate 1451 none
  statics := some 0 }

def pool8 : Array CpInfo := pool [(4, .class_ 6), (1, u "java/lang/Object"), (0, u "<init>"), (0, u "()V"), (5, .class_ 16), (1, u "java/lang/StringLatin1"), (73, u "canEncode"), (14, u "(C)Z"), (15, u "$assertionsDisabled"), (0, u "Z"), (98, .class_ 223), (1, u "java/lang/StringLatin1$LinesSpliterator"), (156, u "toBytes"), (1, u "(C)[B"), (7, .class_ 391), (0, u "java/lang/StringLatin1$CharsSpliterator")] 3

def k8m0 : Method := { name := "<init>", desc := "()V", sig := { parameters := [], returnType := none }, accessFlags := 0, code := none }
def k8c1 : Code := { maxStack := 2, maxLocals := 1, code := jdk_43_method_3_code, exceptionTable := #[], attributes := #[] }
def k8m1 : Method := { name := "canEncode", desc := "(C)Z", sig := { parameters := [.char], returnType := some .boolean }, accessFlags := 9, code := some k8c1 }
def k8c2 : Code := { maxStack := 4, maxLocals := 1, code := jdk_43_method_46_code, exceptionTable := #[], attributes := #[] }
def k8m2 : Method := { name := "toBytes", desc := "(C)[B", sig := { parameters := [.char], returnType := some (.array .byte) }, accessFlags := 9, code := some k8c2 }
/-- java/lang/StringLatin1 -/
def k8 : Class := { plain "java/lang/StringLatin1" (some 0) with
  accessFlags := 48
  interfaces := #[]
  cf := some (fileOf pool8 14 #[.nestMembers #[390, 221]] #[{ accessFlags := 0, nameIndex := 7, descriptorIndex := 8, attributes := #[] }, { accessFlags := 9, nameIndex := 90, descriptorIndex := 105, attributes := #[] }, { accessFlags := 9, nameIndex := 380, descriptorIndex := 382, attributes := #[] }] 48 4 #[] #[{ accessFlags := 4120, nameIndex := 121, descriptorIndex := 122, attributes := #[] }])
  fields := #[{ name := "$assertionsDisabled", type := .boolean, accessFlags := 4120, slot := 0, constantValue := 0 }]
  methods := #[k8m0, k8m1, k8m2]
  instanceTypes := #[]
  staticTypes := #[.boolean]
  resolved := Array.replicate 395 none
  statics := none }

def pool9 : Array CpInfo := pool [(1, .methodref 2 3), (0, .class_ 4), (0, .nameAndType 5 6), (0, u "java/lang/Object"), (0, u "<init>"), (0, u "()V"), (0, .class_ 8), (0, u "java/lang/Record")] 13

def k9c0 : Code := { maxStack := 1, maxLocals := 1, code := jdk_30_method_1_code, exceptionTable := #[], attributes := #[] }
def k9m0 : Method := { name := "<init>", desc := "()V", sig := { parameters := [], returnType := none }, accessFlags := 4, code := some k9c0 }
/-- java/lang/Record -/
def k9 : Class := { plain "java/lang/Record" (some 0) with
  accessFlags := 1057
  interfaces := #[]
  cf := some (fileOf pool9 7 #[] #[{ accessFlags := 4, nameIndex := 5, descriptorIndex := 6, attributes := #[] }] 1057 2 #[] #[])
  fields := #[]
  methods := #[k9m0]
  instanceTypes := #[]
  staticTypes := #[]
  resolved := Array.replicate 22 none
  statics := none }

def pool10 : Array CpInfo := pool [(1, .methodref 2 3), (0, .class_ 4), (0, .nameAndType 5 6), (0, u "java/lang/Record"), (0, u "<init>"), (0, u "()V"), (0, .fieldref 8 9), (0, .class_ 10), (0, .nameAndType 11 12), (0, u "com/example/viitta/viitta/zones/TimeType"), (0, u "offset"), (0, u "I"), (0, .fieldref 8 14), (0, .nameAndType 15 16), (0, u "dst"), (0, u "Z"), (0, .fieldref 8 18), (0, .nameAndType 19 20), (0, u "abbreviation"), (0, u "Ljava/lang/String;"), (12, u "(IZLjava/lang/String;)V"), (4, u "()I")] 24

def k10c0 : Code := { maxStack := 2, maxLocals := 4, code := prog_58_method_1_code, exceptionTable := #[], attributes := #[] }
def k10m0 : Method := { name := "<init>", desc := "(IZLjava/lang/String;)V", sig := { parameters := [.int, .boolean, (.object "java/lang/String")], returnType := none }, accessFlags := 0, code := some k10c0 }
def k10c1 : Code := { maxStack := 1, maxLocals := 1, code := prog_58_method_5_code, exceptionTable := #[], attributes := #[] }
def k10m1 : Method := { name := "offset", desc := "()I", sig := { parameters := [], returnType := some .int }, accessFlags := 1, code := some k10c1 }
/-- com/example/viitta/viitta/zones/TimeType -/
def k10 : Class := { plain "com/example/viitta/viitta/zones/TimeType" (some 9) with
  accessFlags := 48
  interfaces := #[]
  cf := some (fileOf pool10 8 #[] #[{ accessFlags := 0, nameIndex := 5, descriptorIndex := 33, attributes := #[] }, { accessFlags := 1, nameIndex := 11, descriptorIndex := 38, attributes := #[] }] 48 2 #[] #[{ accessFlags := 18, nameIndex := 11, descriptorIndex := 12, attributes := #[] }, { accessFlags := 18, nameIndex := 15, descriptorIndex := 16, attributes := #[] }, { accessFlags := 18, nameIndex := 19, descriptorIndex := 20, attributes := #[] }])
  fields := #[{ name := "offset", type := .int, accessFlags := 18, slot := 0, constantValue := 0 }, { name := "dst", type := .boolean, accessFlags := 18, slot := 1, constantValue := 0 }, { name := "abbreviation", type := (.object "java/lang/String"), accessFlags := 18, slot := 2, constantValue := 0 }]
  methods := #[k10m0, k10m1]
  instanceTypes := #[.int, .boolean, (.object "java/lang/String")]
  staticTypes := #[]
  resolved := Array.replicate 63 none
  statics := none }

def pool11 : Array CpInfo := pool [(1, .methodref 2 3), (0, .class_ 4), (0, .nameAndType 5 6), (0, u "java/lang/Record"), (0, u "<init>"), (0, u "()V"), (0, .fieldref 8 9), (0, .class_ 10), (0, .nameAndType 11 12), (0, u "com/example/viitta/viitta/zones/Step"), (0, u "instant"), (0, u "J"), (0, .fieldref 8 14), (0, .nameAndType 15 16), (0, u "from"), (0, u "Lcom/example/viitta/viitta/zones/TimeType;"), (0, .fieldref 8 18), (0, .nameAndType 19 16), (0, u "to"), (0, .methodref 21 22), (0, .class_ 23), (0, .nameAndType 24 25), (0, u "com/example/viitta/viitta/zones/TimeType"), (0, u "offset"), (0, u "()I"), (2, u "onsetSecond"), (0, u "()J"), (24, u "(JLcom/example/viitta/viitta/zones/TimeType;Lcom/example/viitta/viitta/zones/TimeType;)V")] 30

def k11c0 : Code := { maxStack := 3, maxLocals := 5, code := prog_56_method_1_code, exceptionTable := #[], attributes := #[] }
def k11m0 : Method := { name := "<init>", desc := "(JLcom/example/viitta/viitta/zones/TimeType;Lcom/example/viitta/viitta/zones/TimeType;)V", sig := { parameters := [.long, (.object "com/example/viitta/viitta/zones/TimeType"), (.object "com/example/viitta/viitta/zones/TimeType")], returnType := none }, accessFlags := 0, code := some k11c0 }
def k11c1 : Code := { maxStack := 4, maxLocals := 1, code := prog_56_method_2_code, exceptionTable := #[], attributes := #[] }
def k11m1 : Method := { name := "onsetSecond", desc := "()J", sig := { parameters := [], returnType := some .long }, accessFlags := 0, code := some k11c1 }
/-- com/example/viitta/viitta/zones/Step -/
def k11 : Class := { plain "com/example/viitta/viitta/zones/Step" (some 9) with
  accessFlags := 48
  interfaces := #[]
  cf := some (fileOf pool11 8 #[] #[{ accessFlags := 0, nameIndex := 5, descriptorIndex := 54, attributes := #[] }, { accessFlags := 0, nameIndex := 28, descriptorIndex := 29, attributes := #[] }] 48 2 #[] #[{ accessFlags := 18, nameIndex := 11, descriptorIndex := 12, attributes := #[] }, { accessFlags := 18, nameIndex := 15, descriptorIndex := 16, attributes := #[] }, { accessFlags := 18, nameIndex := 19, descriptorIndex := 16, attributes := #[] }])
  fields := #[{ name := "instant", type := .long, accessFlags := 18, slot := 0, constantValue := 0 }, { name := "from", type := (.object "com/example/viitta/viitta/zones/TimeType"), accessFlags := 18, slot := 1, constantValue := 0 }, { name := "to", type := (.object "com/example/viitta/viitta/zones/TimeType"), accessFlags := 18, slot := 2, constantValue := 0 }]
  methods := #[k11m0, k11m1]
  instanceTypes := #[.long, (.object "com/example/viitta/viitta/zones/TimeType"), (.object "com/example/viitta/viitta/zones/TimeType")]
  staticTypes := #[]
  resolved := Array.replicate 85 none
  statics := none }

def pool12 : Array CpInfo := pool [(2, .class_ 4), (1, u "java/lang/Object"), (0, u "<init>"), (0, u "()V"), (17, .class_ 26), (1, u "jdk/internal/util/Preconditions"), (28, .class_ 56), (0, u "jdk/internal/util/Preconditions$4"), (57, .class_ 115), (0, u "jdk/internal/util/Preconditions$1"), (7, u "SIOOBE_FORMATTER"), (0, u "Ljava/util/function/BiFunction;"), (0, .class_ 126), (0, u "jdk/internal/util/Preconditions$2"), (3, u "AIOOBE_FORMATTER"), (0, .class_ 132), (0, u "jdk/internal/util/Preconditions$3"), (3, u "IOOBE_FORMATTER")] 57

def k12m0 : Method := { name := "<init>", desc := "()V", sig := { parameters := [], returnType := none }, accessFlags := 1, code := none }
/-- jdk/internal/util/Preconditions -/
def k12 : Class := { plain "jdk/internal/util/Preconditions" (some 0) with
  accessFlags := 33
  interfaces := #[]
  cf := some (fileOf pool12 24 #[.nestMembers #[55, 131, 125, 114]] #[{ accessFlags := 1, nameIndex := 5, descriptorIndex := 6, attributes := #[] }] 33 2 #[] #[{ accessFlags := 25, nameIndex := 123, descriptorIndex := 124, attributes := #[] }, { accessFlags := 25, nameIndex := 130, descriptorIndex := 124, attributes := #[] }, { accessFlags := 25, nameIndex := 136, descriptorIndex := 124, attributes := #[] }])
  fields := #[{ name := "SIOOBE_FORMATTER", type := (.object "java/util/function/BiFunction"), accessFlags := 25, slot := 0, constantValue := 0 }, { name := "AIOOBE_FORMATTER", type := (.object "java/util/function/BiFunction"), accessFlags := 25, slot := 1, constantValue := 0 }, { name := "IOOBE_FORMATTER", type := (.object "java/util/function/BiFunction"), accessFlags := 25, slot := 2, constantValue := 0 }]
  methods := #[k12m0]
  instanceTypes := #[]
  staticTypes := #[(.object "java/util/function/BiFunction"), (.object "java/util/function/BiFunction"), (.object "java/util/function/BiFunction")]
  resolved := Array.replicate 194 none
  statics := some 1 }

def pool13 : Array CpInfo := pool [(9, u "<init>"), (6, .class_ 18), (1, u "java/lang/Object"), (0, u "()V"), (1, .class_ 23), (1, u "jdk/internal/util/ArraysSupport"), (0, u "LOG2_ARRAY_LONG_INDEX_SCALE"), (0, u "I"), (2, u "U"), (0, u "Ljdk/internal/misc/Unsafe;"), (8, u "BIG_ENDIAN"), (0, u "Z"), (8, u "LOG2_BYTE_BIT_SIZE"), (4, u "LOG2_ARRAY_INT_INDEX_SCALE"), (54, u "JLA"), (0, u "Ljdk/internal/access/JavaLangAccess;"), (11, u "LOG2_ARRAY_BOOLEAN_INDEX_SCALE"), (9, u "LOG2_ARRAY_BYTE_INDEX_SCALE"), (5, u "LOG2_ARRAY_CHAR_INDEX_SCALE"), (5, u "LOG2_ARRAY_SHORT_INDEX_SCALE"), (18, u "LOG2_ARRAY_FLOAT_INDEX_SCALE"), (24, u "LOG2_ARRAY_DOUBLE_INDEX_SCALE"), (89, u "T_BOOLEAN"), (2, u "T_CHAR"), (1, u "T_FLOAT"), (1, u "T_DOUBLE"), (1, u "T_BYTE"), (1, u "T_SHORT"), (1, u "T_INT"), (1, u "T_LONG"), (1, u "SOFT_MAX_ARRAY_LENGTH")] 83

def k13m0 : Method := { name := "<init>", desc := "()V", sig := { parameters := [], returnType := none }, accessFlags := 2, code := none }
/-- jdk/internal/util/ArraysSupport -/
def k13 : Class := { plain "jdk/internal/util/ArraysSupport" (some 0) with
  accessFlags := 33
  interfaces := #[]
  cf := some (fileOf pool13 21 #[] #[{ accessFlags := 2, nameIndex := 9, descriptorIndex := 19, attributes := #[] }] 33 16 #[] #[{ accessFlags := 24, nameIndex := 28, descriptorIndex := 29, attributes := #[] }, { accessFlags := 26, nameIndex := 38, descriptorIndex := 39, attributes := #[] }, { accessFlags := 25, nameIndex := 121, descriptorIndex := 25, attributes := #[] }, { accessFlags := 25, nameIndex := 131, descriptorIndex := 25, attributes := #[] }, { accessFlags := 25, nameIndex := 137, descriptorIndex := 25, attributes := #[] }, { accessFlags := 25, nameIndex := 143, descriptorIndex := 25, attributes := #[] }, { accessFlags := 25, nameIndex := 53, descriptorIndex := 25, attributes := #[] }, { accessFlags := 25, nameIndex := 24, descriptorIndex := 25, attributes := #[] }, { accessFlags := 25, nameIndex := 162, descriptorIndex := 25, attributes := #[] }, { accessFlags := 25, nameIndex := 187, descriptorIndex := 25, attributes := #[] }, { accessFlags := 26, nameIndex := 48, descriptorIndex := 25, attributes := #[] }, { accessFlags := 25, nameIndex := 277, descriptorIndex := 25, attributes := #[] }, { accessFlags := 25, nameIndex := 280, descriptorIndex := 25, attributes := #[] }, { accessFlags := 25, nameIndex := 282, descriptorIndex := 25, attributes := #[] }, { accessFlags := 25, nameIndex := 284, descriptorIndex := 25, attributes := #[] }, { accessFlags := 25, nameIndex := 286, descriptorIndex := 25, attributes := #[] }, { accessFlags := 25, nameIndex := 288, descriptorIndex := 25, attributes := #[] }, { accessFlags := 25, nameIndex := 290, descriptorIndex := 25, attributes := #[] }, { accessFlags := 25, nameIndex := 292, descriptorIndex := 25, attributes := #[] }, { accessFlags := 26, nameIndex := 108, descriptorIndex := 109, attributes := #[] }, { accessFlags := 25, nameIndex := 294, descriptorIndex := 25, attributes := #[] }])
  fields := #[{ name := "U", type := (.object "jdk/internal/misc/Unsafe"), accessFlags := 24, slot := 0, constantValue := 0 }, { name := "BIG_ENDIAN", type := .boolean, accessFlags := 26, slot := 1, constantValue := 0 }, { name := "LOG2_ARRAY_BOOLEAN_INDEX_SCALE", type := .int, accessFlags := 25, slot := 2, constantValue := 0 }, { name := "LOG2_ARRAY_BYTE_INDEX_SCALE", type := .int, accessFlags := 25, slot := 3, constantValue := 0 }, { name := "LOG2_ARRAY_CHAR_INDEX_SCALE", type := .int, accessFlags := 25, slot := 4, constantValue := 0 }, { name := "LOG2_ARRAY_SHORT_INDEX_SCALE", type := .int, accessFlags := 25, slot := 5, constantValue := 0 }, { name := "LOG2_ARRAY_INT_INDEX_SCALE", type := .int, accessFlags := 25, slot := 6, constantValue := 0 }, { name := "LOG2_ARRAY_LONG_INDEX_SCALE", type := .int, accessFlags := 25, slot := 7, constantValue := 0 }, { name := "LOG2_ARRAY_FLOAT_INDEX_SCALE", type := .int, accessFlags := 25, slot := 8, constantValue := 0 }, { name := "LOG2_ARRAY_DOUBLE_INDEX_SCALE", type := .int, accessFlags := 25, slot := 9, constantValue := 0 }, { name := "LOG2_BYTE_BIT_SIZE", type := .int, accessFlags := 26, slot := 10, constantValue := 0 }, { name := "T_BOOLEAN", type := .int, accessFlags := 25, slot := 11, constantValue := 0 }, { name := "T_CHAR", type := .int, accessFlags := 25, slot := 12, constantValue := 0 }, { name := "T_FLOAT", type := .int, accessFlags := 25, slot := 13, constantValue := 0 }, { name := "T_DOUBLE", type := .int, accessFlags := 25, slot := 14, constantValue := 0 }, { name := "T_BYTE", type := .int, accessFlags := 25, slot := 15, constantValue := 0 }, { name := "T_SHORT", type := .int, accessFlags := 25, slot := 16, constantValue := 0 }, { name := "T_INT", type := .int, accessFlags := 25, slot := 17, constantValue := 0 }, { name := "T_LONG", type := .int, accessFlags := 25, slot := 18, constantValue := 0 }, { name := "JLA", type := (.object "jdk/internal/access/JavaLangAccess"), accessFlags := 26, slot := 19, constantValue := 0 }, { name := "SOFT_MAX_ARRAY_LENGTH", type := .int, accessFlags := 25, slot := 20, constantValue := 0 }]
  methods := #[k13m0]
  instanceTypes := #[]
  staticTypes := #[(.object "jdk/internal/misc/Unsafe"), .boolean, .int, .int, .int, .int, .int, .int, .int, .int, .int, .int, .int, .int, .int, .int, .int, .int, .int, (.object "jdk/internal/access/JavaLangAccess"), .int]
  resolved := Array.replicate 378 none
  statics := none }

def pool14 : Array CpInfo := pool [(1, u "java/lang/Cloneable"), (0, .class_ 1), (0, u "java/lang/Object"), (0, .class_ 3)] 3

/-- java/lang/Cloneable -/
def k14 : Class := { plain "java/lang/Cloneable" (some 0) with
  accessFlags := 1537
  interfaces := #[]
  cf := some (fileOf pool14 2 #[] #[] 1537 4 #[] #[])
  fields := #[]
  methods := #[]
  instanceTypes := #[]
  staticTypes := #[]
  resolved := Array.replicate 8 none
  statics := none }

/-- the primitive byte -/
def k15 : Class := { plain "byte" none with kind := .primitive 'B', accessFlags := 0x411 }
/-- [B -/
def k16 : Class := { plain "[B" (some 0) with kind := .array 15 .byte, interfaces := #[14, 2], accessFlags := 1041 }

/-- the primitive int -/
def k17 : Class := { plain "int" none with kind := .primitive 'I', accessFlags := 0x411 }
/-- [I -/
def k18 : Class := { plain "[I" (some 0) with kind := .array 17 .int, interfaces := #[14, 2], accessFlags := 1041 }

def heap : Heap := #[{ cls := 7, slots := #[.long 0, .int 1, .null, .int 0, .null, .int 0, .int 0], vm := .statics 7 },
  { cls := 12, slots := #[.null, .null, .null], vm := .statics 12 }]
def classes : Array Class := #[k0, k1, k2, k3, k4, k5, k6, k7, k8, k9, k10, k11, k12, k13, k14, k15, k16, k17, k18]
def interned : List (Array UInt16 × Addr) := []
def slotsUsed : Nat := 10
def theMethod : MethodId := ⟨1, 1⟩
def args0 : Array Value := #[.long 4, .int 7, .int 9, .int 11]
def aboutOver (below : List Frame) : State where
  vm := { classes := classes, interned := interned.toArray }
  heap := heap
  slotsUsed := slotsUsed
  threads := #[{ frames := .invoking theMethod args0 :: below }]
def below0 : List Frame := [.native { method := ⟨0, 0⟩, args := #[] }]
def about1 : State := aboutOver below0
def p0 : Program := .bare "" "" ""
def e0 : Env := launch0.env 0 0 0
theorem w_frames : about1.frames = Frame.invoking theMethod args0 :: below0 := rfl
set_option maxRecDepth 65536 in
theorem w_args : argsFit about1.vm theMethod args0 = true := by decide +kernel
set_option maxRecDepth 65536 in
theorem w_heap : heapFits about1 = true := by decide +kernel
set_option maxRecDepth 65536 in
theorem w_runnable : about1.curStatus? = some .runnable := by decide +kernel
set_option maxRecDepth 65536 in
theorem w_alone : about1.alone = true := by decide +kernel
set_option maxRecDepth 65536 in
theorem w_named : about1.methodNamed? x = some theMethod := by decide +kernel
set_option maxRecDepth 65536 in
theorem w_hears : about1.hears theMethod below0 = true := by decide +kernel
set_option maxRecDepth 65536 in
theorem w_ripe : about1.ripe theMethod args0 below0 = true := by decide +kernel
theorem w_running : about1.status = .running := rfl
set_option maxRecDepth 65536 in
theorem w_room : about1.hasRoom e0.platform room_1 = true :=
  launch0.hasRoom_least _ room_1 (by decide +kernel) (by decide +kernel) (by decide +kernel) (by decide +kernel) (by decide +kernel) (by decide +kernel)
theorem allAtoms_all (ts : List Jvm.Cond) (a : Array Jvm.Value) (st : Jvm.State) : (allAtoms ts).before a st = ts.all (fun c => c.before a st) := by
  induction ts with
  | nil => rfl
  | cons c t ih =>
    show (Jvm.Cond.and c (allAtoms t)).before a st = _
    rw [Jvm.Cond.before_and, ih, List.all_cons]
def words1 : List Jvm.Cond := Jvm.Cond.code x code maxLocals ret :: tables_1
/-- a 'code' word, met by the world's own term for the bytes: nothing is compared byte by byte -/
theorem code_word {y : MethodName} {bytes : ByteArray} {mx : Nat} {rt : Option FieldType} {a : Array Value} {s : State} {m : MethodId} {meth : Method} {c : Code} (h1 : s.methodNamed? y = some m) (h2 : s.vm.method? m = some meth) (h3 : meth.code = some c) (h4 : c.code = bytes)
    (h5 : (c.maxLocals == mx && c.exceptionTable.isEmpty && decide (c.maxStack ≤ mostOperands) && decide (meth.sig.returnType = rt) && !meth.locks && decide (parseMethodDescriptor y.desc = some meth.sig)) = true) : (Jvm.Cond.code y bytes mx rt).before a s = true := by
  simp only [Bool.and_eq_true, beq_iff_eq, Bool.not_eq_true', decide_eq_true_eq] at h5
  obtain ⟨⟨⟨⟨⟨g1, g2⟩, g3⟩, g4⟩, g5⟩, g6⟩ := h5
  simp [Cond.before, Cond.holds, Cond.value, h1, h2, h3, h4, g1, g2, g3, g4, g5, g6]
def isCode : Jvm.Cond → Bool
  | .code _ _ _ _ => true
  | _ => false
theorem all_split {L : List Jvm.Cond} {P : Jvm.Cond → Bool} (h1 : L.all (fun c => isCode c || P c) = true) (h2 : ∀ c ∈ L.filter isCode, P c = true) : L.all P = true := by
  refine List.all_eq_true.mpr fun c hc => ?_
  have h := List.all_eq_true.mp h1 c hc
  rcases Bool.eq_false_or_eq_true (isCode c) with hi | hi
  · exact h2 c (List.mem_filter.mpr ⟨hc, hi⟩)
  · simpa [hi] using h
set_option maxRecDepth 65536 in
theorem w_c0 : (Jvm.Cond.code x code maxLocals ret).before args0 about1 = true := code_word (m := ⟨1, 1⟩) (meth := k1m1) (c := k1c1) (by decide +kernel) rfl rfl rfl (by decide +kernel)
set_option maxRecDepth 65536 in
theorem w_c1 : (Jvm.Cond.code ({ cls := "java/lang/String", name := "valueOf", desc := "(C)Ljava/lang/String;" } : Jvm.MethodName) jdk_42_method_139_code (1 : Nat) (Option.some (Jvm.ClassFile.FieldType.object "java/lang/String"))).before args0 about1 = true := code_word (m := ⟨7, 1⟩) (meth := k7m1) (c := k7c1) (by decide +kernel) rfl rfl rfl (by decide +kernel)
set_option maxRecDepth 65536 in
theorem w_c2 : (Jvm.Cond.code ({ cls := "java/lang/StringLatin1", name := "canEncode", desc := "(C)Z" } : Jvm.MethodName) jdk_43_method_3_code (1 : Nat) (Option.some Jvm.ClassFile.FieldType.boolean)).before args0 about1 = true := code_word (m := ⟨8, 1⟩) (meth := k8m1) (c := k8c1) (by decide +kernel) rfl rfl rfl (by decide +kernel)
set_option maxRecDepth 65536 in
theorem w_c3 : (Jvm.Cond.code ({ cls := "java/lang/StringLatin1", name := "toBytes", desc := "(C)[B" } : Jvm.MethodName) jdk_43_method_46_code (1 : Nat) (Option.some (Jvm.ClassFile.FieldType.array Jvm.ClassFile.FieldType.byte))).before args0 about1 = true := code_word (m := ⟨8, 2⟩) (meth := k8m2) (c := k8c2) (by decide +kernel) rfl rfl rfl (by decide +kernel)
set_option maxRecDepth 65536 in
theorem w_c4 : (Jvm.Cond.code ({ cls := "java/lang/String", name := "<init>", desc := "([BB)V" } : Jvm.MethodName) jdk_42_method_151_code (3 : Nat) (Option.none : Option Jvm.ClassFile.FieldType)).before args0 about1 = true := code_word (m := ⟨7, 2⟩) (meth := k7m2) (c := k7c2) (by decide +kernel) rfl rfl rfl (by decide +kernel)
set_option maxRecDepth 65536 in
theorem w_c5 : (Jvm.Cond.code ({ cls := "java/lang/Object", name := "<init>", desc := "()V" } : Jvm.MethodName) object_method_1_code (1 : Nat) (Option.none : Option Jvm.ClassFile.FieldType)).before args0 about1 = true := code_word (m := ⟨0, 0⟩) (meth := k0m0) (c := k0c0) (by decide +kernel) rfl rfl rfl (by decide +kernel)
set_option maxRecDepth 65536 in
theorem w_c6 : (Jvm.Cond.code ({ cls := "com/example/viitta/viitta/zones/TimeType", name := "<init>", desc := "(IZLjava/lang/String;)V" } : Jvm.MethodName) prog_58_method_1_code (4 : Nat) (Option.none : Option Jvm.ClassFile.FieldType)).before args0 about1 = true := code_word (m := ⟨10, 0⟩) (meth := k10m0) (c := k10c0) (by decide +kernel) rfl rfl rfl (by decide +kernel)
set_option maxRecDepth 65536 in
theorem w_c7 : (Jvm.Cond.code ({ cls := "java/lang/Record", name := "<init>", desc := "()V" } : Jvm.MethodName) jdk_30_method_1_code (1 : Nat) (Option.none : Option Jvm.ClassFile.FieldType)).before args0 about1 = true := code_word (m := ⟨9, 0⟩) (meth := k9m0) (c := k9c0) (by decide +kernel) rfl rfl rfl (by decide +kernel)
set_option maxRecDepth 65536 in
theorem w_c8 : (Jvm.Cond.code ({ cls := "com/example/viitta/viitta/zones/Step", name := "<init>", desc := "(JLcom/example/viitta/viitta/zones/TimeType;Lcom/example/viitta/viitta/zones/TimeType;)V" } : Jvm.MethodName) prog_56_method_1_code (5 : Nat) (Option.none : Option Jvm.ClassFile.FieldType)).before args0 about1 = true := code_word (m := ⟨11, 0⟩) (meth := k11m0) (c := k11c0) (by decide +kernel) rfl rfl rfl (by decide +kernel)
set_option maxRecDepth 65536 in
theorem w_c9 : (Jvm.Cond.code ({ cls := "com/example/viitta/viitta/zones/Step", name := "onsetSecond", desc := "()J" } : Jvm.MethodName) prog_56_method_2_code (1 : Nat) (Option.some Jvm.ClassFile.FieldType.long)).before args0 about1 = true := code_word (m := ⟨11, 1⟩) (meth := k11m1) (c := k11c1) (by decide +kernel) rfl rfl rfl (by decide +kernel)
set_option maxRecDepth 65536 in
theorem w_c10 : (Jvm.Cond.code ({ cls := "com/example/viitta/viitta/zones/TimeType", name := "offset", desc := "()I" } : Jvm.MethodName) prog_58_method_5_code (1 : Nat) (Option.some Jvm.ClassFile.FieldType.int)).before args0 about1 = true := code_word (m := ⟨10, 1⟩) (meth := k10m1) (c := k10c1) (by decide +kernel) rfl rfl rfl (by decide +kernel)
def codes1 : List Jvm.Cond := [Jvm.Cond.code x code maxLocals ret, Jvm.Cond.code ({ cls := "java/lang/String", name := "valueOf", desc := "(C)Ljava/lang/String;" } : Jvm.MethodName) jdk_42_method_139_code (1 : Nat) (Option.some (Jvm.ClassFile.FieldType.object "java/lang/String")), Jvm.Cond.code ({ cls := "java/lang/StringLatin1", name := "canEncode", desc := "(C)Z" } : Jvm.MethodName) jdk_43_method_3_code (1 : Nat) (Option.some Jvm.ClassFile.FieldType.boolean), Jvm.Cond.code ({ cls := "java/lang/StringLatin1", name := "toBytes", desc := "(C)[B" } : Jvm.MethodName) jdk_43_method_46_code (1 : Nat) (Option.some (Jvm.ClassFile.FieldType.array Jvm.ClassFile.FieldType.byte)), Jvm.Cond.code ({ cls := "java/lang/String", name := "<init>", desc := "([BB)V" } : Jvm.MethodName) jdk_42_method_151_code (3 : Nat) (Option.none : Option Jvm.ClassFile.FieldType), Jvm.Cond.code ({ cls := "java/lang/Object", name := "<init>", desc := "()V" } : Jvm.MethodName) object_method_1_code (1 : Nat) (Option.none : Option Jvm.ClassFile.FieldType), Jvm.Cond.code ({ cls := "com/example/viitta/viitta/zones/TimeType", name := "<init>", desc := "(IZLjava/lang/String;)V" } : Jvm.MethodName) prog_58_method_1_code (4 : Nat) (Option.none : Option Jvm.ClassFile.FieldType), Jvm.Cond.code ({ cls := "java/lang/Record", name := "<init>", desc := "()V" } : Jvm.MethodName) jdk_30_method_1_code (1 : Nat) (Option.none : Option Jvm.ClassFile.FieldType), Jvm.Cond.code ({ cls := "com/example/viitta/viitta/zones/Step", name := "<init>", desc := "(JLcom/example/viitta/viitta/zones/TimeType;Lcom/example/viitta/viitta/zones/TimeType;)V" } : Jvm.MethodName) prog_56_method_1_code (5 : Nat) (Option.none : Option Jvm.ClassFile.FieldType), Jvm.Cond.code ({ cls := "com/example/viitta/viitta/zones/Step", name := "onsetSecond", desc := "()J" } : Jvm.MethodName) prog_56_method_2_code (1 : Nat) (Option.some Jvm.ClassFile.FieldType.long), Jvm.Cond.code ({ cls := "com/example/viitta/viitta/zones/TimeType", name := "offset", desc := "()I" } : Jvm.MethodName) prog_58_method_5_code (1 : Nat) (Option.some Jvm.ClassFile.FieldType.int)]
set_option maxRecDepth 65536 in
theorem codes_eq : words1.filter isCode = codes1 := rfl
theorem w_codes : ∀ c ∈ words1.filter isCode, c.before args0 about1 = true := by
  rw [codes_eq]
  intro c hc
  simp only [codes1, List.mem_cons, List.not_mem_nil, or_false] at hc
  rcases hc with rfl | rfl | rfl | rfl | rfl | rfl | rfl | rfl | rfl | rfl | rfl
  · exact w_c0
  · exact w_c1
  · exact w_c2
  · exact w_c3
  · exact w_c4
  · exact w_c5
  · exact w_c6
  · exact w_c7
  · exact w_c8
  · exact w_c9
  · exact w_c10
set_option maxRecDepth 65536 in
theorem w_t1 : (words1.take 24).all (fun c => isCode c || c.before args0 about1) = true := by decide +kernel
set_option maxRecDepth 65536 in
theorem w_t2 : ((words1.drop 24).take 24).all (fun c => isCode c || c.before args0 about1) = true := by decide +kernel
set_option maxRecDepth 65536 in
theorem w_t3 : ((words1.drop 24).drop 24).all (fun c => isCode c || c.before args0 about1) = true := by decide +kernel
theorem w_tables : (allAtoms (Jvm.Cond.code x code maxLocals ret :: tables_1)).before args0 about1 = true := by
  rw [allAtoms_all]
  show words1.all (fun c => c.before args0 about1) = true
  refine all_split ?_ w_codes
  rw [← List.take_append_drop 24 words1, List.all_append, w_t1, ← List.take_append_drop 24 (words1.drop 24), List.all_append, w_t2, w_t3]
  rfl
set_option maxRecDepth 65536 in
theorem w_rest : rest_1_c.before args0 about1 = true := by decide +kernel
set_option maxRecDepth 65536 in
theorem w_case : (Jvm.Cond.and given_1 narrow_1).before args0 about1 = true := by decide +kernel
theorem w_applies : (headSpec (Jvm.Cond.code x code maxLocals ret :: tables_1) room_1).applies x e0.platform about1 = true :=
  (Spec.applies_iff w_frames).mpr ⟨w_running, w_runnable, w_alone, w_named, w_hears, w_ripe, w_room, w_tables⟩
theorem atStart : AtStart classFile x code maxLocals ret World_1 tables_1 room_1 Calls_1 rest_1 Pre_1 launch0 p0 e0 about1 theMethod args0 below0 :=
  ⟨lists_1, trivial, launch0.admits_env _ _ _, launch0.least_env, fairChoices_fair.cas, fairChoices_fair.clock, w_frames, w_args, w_heap, w_applies, trivial, w_rest, w_case⟩
end start1
theorem witness_1 : WitnessClaimed_1 := ⟨start1.p0, start1.e0, start1.about1, start1.theMethod, start1.args0, start1.below0, start1.atStart⟩
end Jvm.Pilot.@@N@@
