import JvmDerived
import JvmDerived.Pilot.@@N@@Statement
import JvmDerived.Pilot.@@N@@Code
set_option linter.unusedVariables false
set_option linter.unusedSimpArgs false
@@BLOCK:NumsL.lean.txt@@
namespace Jvm.RoadKit
open Sem ClassFile Op Lib Jvm.Stand Jvm.Free Jvm.LawKit
section New
variable {p : Program} {l : Launch} {e : Env} {R : Room} {s : State} {m : MethodId} {args : Array Value} {below : List Frame} {meth : Method} {c : Code} {T : State} {locs : List Loc} {cells slots : Nat}
theorem retI (X : Stand p l e R s m args below meth c T locs cells slots) (hx : p.tables.exec = Jvm.exec) {pc : Nat} {Ls : Array Slot} {z : Int32} {rest : List Value} (hret : meth.sig.returnType = some .int) (hd : decode c.code pc = .ok (.ireturn, 1)) {fs : List Frame}
    (hl : ∀ (f : JFrame) (acts : List Action), f.method = m → f.locked = none → f.entered = [] → (doReturn e (T.setTop f) acts (some (.int z))).1 = T.setFrames fs) : Steps p.tables e below (T.setTop (mkF m pc Ls (.int z :: rest))) (T.setFrames fs) :=
  retOut X hx hret rfl (Or.inl ⟨rfl, Or.inl rfl, z, rfl⟩) hd hl
theorem retJ (X : Stand p l e R s m args below meth c T locs cells slots) (hx : p.tables.exec = Jvm.exec) {pc : Nat} {Ls : Array Slot} {z : Int64} {rest : List Value} (hret : meth.sig.returnType = some .long) (hd : decode c.code pc = .ok (.lreturn, 1)) {fs : List Frame}
    (hl : ∀ (f : JFrame) (acts : List Action), f.method = m → f.locked = none → f.entered = [] → (doReturn e (T.setTop f) acts (some (.long z))).1 = T.setFrames fs) : Steps p.tables e below (T.setTop (mkF m pc Ls (.long z :: rest))) (T.setFrames fs) :=
  retOut X hx hret rfl (Or.inr (Or.inl ⟨rfl, rfl, z, rfl⟩)) hd hl
theorem retA (X : Stand p l e R s m args below meth c T locs cells slots) (hx : p.tables.exec = Jvm.exec) {pc : Nat} {Ls : Array Slot} {w : Value} {t : FieldType} {rest : List Value} (hret : meth.sig.returnType = some t) (ht : t.isReference = true) (hw : w.isRef = true) (hn : narrow t w = w) (hd : decode c.code pc = .ok (.areturn, 1)) {fs : List Frame}
    (hl : ∀ (f : JFrame) (acts : List Action), f.method = m → f.locked = none → f.entered = [] → (doReturn e (T.setTop f) acts (some w)).1 = T.setFrames fs) : Steps p.tables e below (T.setTop (mkF m pc Ls (w :: rest))) (T.setFrames fs) :=
  retOut X hx hret hn (Or.inr (Or.inr (Or.inr (Or.inr ⟨rfl, ht, hw⟩)))) hd hl
end New
end Jvm.RoadKit
namespace Jvm.Pilot.@@N@@
open Jvm Jvm.ClassFile Sem Op Lib Jvm.Free Jvm.Stand Jvm.LawKit Jvm.RoadKit Bundle Jvm.Pilot.@@N@@.Jvm.D
/-- the run from t ends by returning, as Q and the frame say -/
def OEnds (p : Program) (e : Env) (below : List Frame) (s : State) (Q : Option Value → Heap → List Loc → Prop) (C S : Nat) (t : State) : Prop :=
  ∃ s₂ o, Steps p.tables e below t s₂ ∧ s₂.status = .running ∧ Ended s₂ below o ∧ ∃ v L, o = .returned v ∧ Q v s₂.heap L ∧ FrameEnd s o s₂ L C S
theorem OEnds.go {p : Program} {e : Env} {below : List Frame} {s : State} {Q : Option Value → Heap → List Loc → Prop} {C S : Nat} {t t' : State} (h : ∀ u, Steps p.tables e below t' u → Steps p.tables e below t u) (k : OEnds p e below s Q C S t') : OEnds p e below s Q C S t := by
  obtain ⟨s₂, o, h1, h2⟩ := k
  exact ⟨s₂, o, h _ h1, h2⟩
theorem OEnds.cut {p : Program} {e : Env} {below : List Frame} {s : State} {Q : Option Value → Heap → List Loc → Prop} {C S : Nat} {t : State} (P : (State → Prop) → Prop) (k2 : P (OEnds p e below s Q C S)) (k1 : P (OEnds p e below s Q C S) → OEnds p e below s Q C S t) : OEnds p e below s Q C S t := k1 k2
theorem OEnds.back {p : Program} {l : Launch} {e : Env} {R : Room} {s : State} {m : MethodId} {args : Array Value} {below : List Frame} {meth : Method} {c : Code} {T : State} {locs : List Loc} {cells slots : Nat} (X : Stand p l e R s m args below meth c T locs cells slots) (hlk : meth.locks = false) {v : Option Value} (hv : meth.sig.returnType = none → v = none) {t : State} {Q : Option Value → Heap → List Loc → Prop} {C S : Nat}
    (st : ∀ fs, (∀ (f : JFrame) (acts : List Action), f.method = m → f.locked = none → f.entered = [] → (doReturn e (T.setTop f) acts v).1 = T.setFrames fs) → Steps p.tables e below t (T.setFrames fs)) (q : Q v T.heap locs) (hc : cells ≤ C) (hs : slots ≤ S) : OEnds p e below s Q C S t := by
  obtain ⟨fs, hr, hrun, hended, hW, hsame⟩ := X.leave hv hlk
  exact ⟨_, _, st fs hr, hrun, hended, _, _, rfl, q, ⟨_, rfl⟩, hW, hsame.mono hc hs⟩

theorem own_lt (x y : Int64) : lcmpW x y < 0 ↔ x < y := by rw [lcW, lc_lt]
theorem own_gt (x y : Int64) : 0 < lcmpW x y ↔ y < x := by rw [lcW, lc_gt]
theorem own_eq (x y : Int64) : lcmpW x y = 0 ↔ x = y := by rw [lcW, lc_eq]
/-- a term that equals a number, as the sheet says it -/
theorem own_eqi {args : Array Value} {s : State} {t : Term} {k : Int32} (h : (Jvm.Cond.eq t (Term.int k)).value args s none s [] = some true) : t.eval args s none [] s = some (.int k) := by
  obtain ⟨x, y, hx, hy, h1, h2⟩ := cmp_v (Or.inl h)
  have hy' : y = .int k := Option.some.inj (hy.symm.trans (Term.int_eval k))
  subst hy'
  obtain ⟨z, rfl⟩ : ∃ z, x = .int z := h2
  simp [Cond.value, hx, hy] at h
  rw [hx, h]
theorem own_fldi {args : Array Value} {s : State} {t : Term} {C n d : String} {a : Addr} {k : Int32} (ht : t.eval args s none [] s = some (.ref a)) (h : (Jvm.Cond.eq (Term.field t C n d) (Term.int k)).value args s none s [] = some true) : s.fieldOf? a C n d = some (.int k) := by
  rw [← fld_at ht]; exact own_eqi h
theorem own_ne {s : State} {C n d : String} {a b : Addr} {j k : Int32} (h1 : s.fieldOf? a C n d = some (.int j)) (h2 : s.fieldOf? b C n d = some (.int k)) (hk : j ≠ k) : a ≠ b := by
  intro e; subst e
  exact hk (Value.int.inj (Option.some.inj (h1.symm.trans h2)))

theorem own_mod (x m : Int32) (hm : 0 < m.toInt) : 0 ≤ ((x &&& 2147483647) % m).toInt ∧ ((x &&& 2147483647) % m).toInt < m.toInt := by
  have h : 0 ≤ (x &&& 2147483647).toInt := by
    rw [Jvm.Kit.i32_mask x 2147483647 (k := 31) (by decide) (by decide)]; omega
  rw [Jvm.Kit.i32_rem_nonneg h]
  exact ⟨Int.emod_nonneg _ (by omega), Int.emod_lt_of_pos _ hm⟩
theorem own_range {r : Int32} {n : Nat} (h0 : 0 ≤ r.toInt) (h1 : r.toInt < n) (hn : n ≤ 2 ^ 31) : ∃ k : Nat, k < n ∧ r = Int32.ofNat k := by
  refine ⟨r.toInt.toNat, by omega, ?_⟩
  rw [← Int32.toInt_inj, Int32.toInt_ofNat_small (by omega)]; omega


section OwnB
variable {Z : State} {h h' : Heap} {a b : Addr} {k : ClassId} {u : Int32} {w : Int64} {ws : List Addr}
/-- a BitSet of one word -/
def own_Bits (Z : State) (h : Heap) (a b : Addr) (k : ClassId) (u : Int32) (w : Int64) : Prop := Exa Z h a "java/util/BitSet" ∧ Fld Z h a "java/util/BitSet" "wordsInUse" "I" (.int u) ∧ Fld Z h a "java/util/BitSet" "words" "[J" (.ref b) ∧ Arv Z h b k .long 1 [.long w] (.long 0)
theorem own_Bits.ext (F : own_Bits Z h a b k u w) (E : Ext h h') : own_Bits Z h' a b k u w := ⟨F.1.ext E, F.2.1.ext E, F.2.2.1.ext E, F.2.2.2.ext E⟩
theorem own_Bits.keep (F : own_Bits Z h a b k u w) (K : Keep h h' ws) (q : a ∉ ws) (r : b ∉ ws) : own_Bits Z h' a b k u w := ⟨F.1.keep K, F.2.1.keep K q, F.2.2.1.keep K q, F.2.2.2.keep K r⟩
theorem own_Bits.other {c : Addr} {sl : Nat} {v : Value} (F : own_Bits Z h a b k u w) (W : Wr h h' c sl v) (q : a ≠ c) (r : b ≠ c) : own_Bits Z h' a b k u w := ⟨F.1.wr W, F.2.1.other W (Or.inl q), F.2.2.1.other W (Or.inl q), F.2.2.2.other W r⟩
theorem own_Bits.lt (F : own_Bits Z h a b k u w) : a < h.size := F.1.lt
theorem own_word (F : Arv Z h b k .long 1 [.long w] (.long 0)) : ∃ c : Cell, Arr Z h b c .long ∧ ¬ ((0 : Int32) < 0 ∨ c.slots.size ≤ (0 : Int32).toNatClampNeg) ∧ c.slots[(0 : Int32).toNatClampNeg]? = some (.long w) := by
  obtain ⟨c, A, q, S, N, H, G⟩ := F
  have hin : ¬ ((0 : Int32) < 0 ∨ c.slots.size ≤ (0 : Int32).toNatClampNeg) := inb_of S ⟨by decide, by decide⟩
  exact ⟨c, A, hin, H.at hin rfl⟩
theorem own_put {v : Int64} (F : Arv Z h b k .long 1 [.long w] (.long 0)) (W : Wr h h' b (0 : Int32).toNatClampNeg (.long v)) : Arv Z h' b k .long 1 [.long v] (.long 0) := by
  obtain ⟨c, A, q, S, N, H, G⟩ := F
  exact Arv.set A q S N H G rfl W 0 rfl (Nat.le_of_ble_eq_true rfl)
theorem own_blen1 (F : Arv Z h b k .long 1 [.long w] (.long 0)) : ∃ c : Cell, Arr Z h b c .long ∧ c.slots.size.toInt32 = (1 : Int32) := by
  obtain ⟨c, A, q, S, N, H, G⟩ := F
  exact ⟨c, A, len_of S N⟩
end OwnB
def own_first : Int64 := (-1 : Int64) <<< ((0 : Int32) &&& 0x3f).toInt64
def own_last (n : Int32) : Int64 := ((-1 : Int64).toUInt64 >>> ((-n) &&& 0x3f).toInt64.toUInt64).toInt64
def own_u (n : Int32) : Int32 := if n = 0 then 0 else 1
def own_w (n : Int32) : Int64 := if n = 0 then 0 else (0 : Int64) ||| (own_first &&& own_last n)
def own_get (u : Int32) (w : Int64) (i : Int32) : Int32 := if (0 : Int32) < u then (if (w &&& ((1 : Int64) <<< (i &&& 0x3f).toInt64)) = 0 then 0 else 1) else 0
def own_N (n : Int32) : Prop := n = 0 ∨ n = 1 ∨ n = 2 ∨ n = 3
theorem own_four (k : Int32) : own_N (k &&& 3) := by
  have h : (k &&& 3).toInt = k.toInt % 2 ^ 2 := Jvm.Kit.i32_mask k 3 (k := 2) (by decide) (by decide)
  obtain ⟨j, hj, e⟩ := own_range (r := k &&& 3) (n := 4) (by omega) (by omega) (by decide)
  rw [e]
  match j, hj with
  | 0, _ => exact Or.inl rfl
  | 1, _ => exact Or.inr (Or.inl rfl)
  | 2, _ => exact Or.inr (Or.inr (Or.inl rfl))
  | 3, _ => exact Or.inr (Or.inr (Or.inr rfl))
theorem own_wi {n : Int32} (h : own_N n) (h0 : ¬ n = 0) : ((n - (1 : Int32)) >>> ((6 : Int32) &&& 31)) = 0 := by
  rcases h with rfl | rfl | rfl | rfl
  · exact absurd rfl h0
  all_goals decide +kernel
theorem own_nn {n : Int32} (h : own_N n) : ¬ n < 0 := by rcases h with rfl | rfl | rfl | rfl <;> decide
theorem own_selP {Z : State} {a0 : Array Value} {y z : MethodName} (hz : z.cls = y.cls) (w : (Jvm.Cond.selects y.cls y y).before a0 Z = true) (wp : (Jvm.Cond.privateMethod z).before a0 Z = true) (wi : (Jvm.Cond.instanceMethod z).before a0 Z = true) (hy : z.cls ≠ "java/lang/invoke/MethodHandle" ∧ z.cls ≠ "java/lang/invoke/VarHandle") : (Jvm.Cond.selects z.cls z z).before a0 Z = true := by
  obtain ⟨c2, r2, m2, q1, q2, q3, q4, kP, hkP, hkPi⟩ := Cond.selects_spec w
  exact selects_self_of_private (by rw [hz]; exact findClass_of_methodNamed q3) hkP hkPi (Cond.privateMethod_at wp) wi hy

theorem own_getb (u : Int32) (w : Int64) (i : Int32) : nar .boolean (own_get u w i) = own_get u w i := by
  unfold own_get; split
  · split <;> decide
  · decide
theorem allS2 {Z : State} {h : Heap} {a b : Addr} {C : String} {k : ClassId} {ty : FieldType} {z : Int32} {vs : List Value} {d : Value} (E : Exa Z h a C) (V : Arv Z h b k ty z vs d) : ∀ x ∈ [a, b], ∀ cell : Cell, h[x]? = some cell → cell.vm.isStatics = false := by
  intro x hx cell hc
  simp only [List.mem_cons, List.not_mem_nil, or_false] at hx
  rcases hx with rfl | rfl
  · exact E.nostat cell hc
  · exact V.nostat cell hc


theorem Sta_keepB {Z : State} {h h' : Heap} {C n d : String} {v : Value} {ws : List Addr} (F : Sta Z h C n d v) (K : Keep h h' ws) (q : ∀ x ∈ ws, ∀ cell : Cell, h[x]? = some cell → cell.vm.isStatics = false) : Sta Z h' C n d v := by
  obtain ⟨cf, i, k, f, st, cell, h1, h2, h3, h4, h5, h6, h7⟩ := F
  exact ⟨cf, i, k, f, st, cell, h1, h2, h3, h4, K.2.1 _ _ h5 (fun hm => by rw [q _ hm _ h5] at h6; cases h6), h6, h7⟩

theorem d5_0 : decode jdk_92_method_1_code 0 = .ok (.iload_n 0, 1) := by decide +kernel
theorem d5_1 : decode jdk_92_method_1_code 1 = .ok (.bipush 6, 2) := by decide +kernel
theorem d5_3 : decode jdk_92_method_1_code 3 = .ok (.ishr, 1) := by decide +kernel
theorem d5_4 : decode jdk_92_method_1_code 4 = .ok (.ireturn, 1) := by decide +kernel
theorem pn_5 : plainName "java/util/BitSet" = true := by first | (simp [plainName, overriddenIn]; done) | decide +kernel
theorem ef_rm5 (m : MethodId) (p1 : Int32) : entryFrame m #[(.int p1)] 1 = mkF m 0 #[.val (.int p1)] [] := by first | (simp [entryFrame, mkF, argsToLocals, Value.category]; done) | rfl
def Q5 (Z : State) (p1 : Int32)  (h0 : Heap) (n0 : Nat) (v : Option Value) (h : Heap) (L : List Loc) : Prop := v = some (.int (p1 >>> ((6 : Int32) &&& 31))) ∧ Fr n0 L ∧ h = h0
set_option maxRecDepth 65536 in
set_option maxHeartbeats 40000000 in
theorem rm5 (l : Launch) (Z : State) (a0 : Array Value) (hw : ∀ d ∈ tables_1, d.before a0 Z = true) (ws : List Jvm.Cond) (p1 : Int32)  (h0 : Heap) (n0 : Nat) (Z0 : n0 ≤ h0.size)  :
    MetFree l (⟨"java/util/BitSet", "wordIndex", "(I)I"⟩ : MethodName) (head1 (Jvm.Cond.code (⟨"java/util/BitSet", "wordIndex", "(I)I"⟩ : MethodName) jdk_92_method_1_code 1 (some .int) :: ws) ({ frames := 0, cells := 0, slots := 0, locals := 0 } : Room)) (fun a U => a = #[(.int p1)] ∧ Z.Warmed39 U.vm ∧ U.heap = h0) (fun _ _ _ _ _ => True) (fun _ U o U' => ∃ v L, o = .returned v ∧ Q5 Z p1  h0 n0 v U'.heap L ∧ FrameEnd U o U' L ({ frames := 0, cells := 0, slots := 0, locals := 0 } : Room).cells ({ frames := 0, cells := 0, slots := 0, locals := 0 } : Room).slots) := by
  refine MetFree.of_bodySF (plainFor_of_name pn_5) hisR ?_
  intro p e s m args below meth c s₁ Bd hml0 hP hK
  obtain ⟨rfl, hZ, hh⟩ := hP
  have hx := Bd.exec
  have hby := Bd.bytes
  have hml : c.maxLocals = 1 := hml0
  have hown : s.vm.findClass "java/util/BitSet" = some m.cls := findClass_of_methodNamed Bd.named
  have hnm := (name_of_methodNamed Bd.named Bd.method).1
  have hlk := BodyLoose.notSynchronized Bd
  have hrt := Bd.returns
  have X0 : Stand p l e ({ frames := 0, cells := 0, slots := 0, locals := 0 } : Room) s m #[(.int p1)] below meth c s₁ [] 0 0 := Stand.of_body Bd
  have e0 : s₁.heap = h0 := by rw [← hh, Bd.state]; rfl
  have N0 := Fr.nil n0
  show OEnds p e below s (Q5 Z p1  h0 n0) ({ frames := 0, cells := 0, slots := 0, locals := 0 } : Room).cells ({ frames := 0, cells := 0, slots := 0, locals := 0 } : Room).slots (s₁.setTop (entryFrame m #[(.int p1)] 1))
  refine OEnds.go (t' := s₁.setTop (mkF m 0 #[.val (.int p1)] [])) (fun t k => castTop (ef_rm5 m p1) k) ?_
  refine OEnds.go (t' := s₁.setTop (mkF m 4 #[.val (.int p1)] [(.int (p1 >>> ((6 : Int32) &&& 31)))])) (fun _ k => ?_) ?_
  · show Steps p.tables e below (s₁.setTop (mkF m 0 #[.val (.int p1)] [])) _
    refine XS.iloadN X0.here hx rfl (hb hby d5_0) rfl ?_
    show Steps p.tables e below (s₁.setTop (mkF m 1 #[.val (.int p1)] [(.int p1)])) _
    refine XS.bipush X0.here hx rfl (hb hby d5_1) ?_
    show Steps p.tables e below (s₁.setTop (mkF m 3 #[.val (.int p1)] [(.int (6 : Int32)), (.int p1)])) _
    refine XS.ishr X0.here hx rfl (hb hby d5_3) rfl ?_
    show Steps p.tables e below (s₁.setTop (mkF m 4 #[.val (.int p1)] [(.int (p1 >>> ((6 : Int32) &&& 31)))])) _
    exact k
  refine OEnds.back X0 hlk (v := (some (.int (p1 >>> ((6 : Int32) &&& 31))))) (fun h => by rw [hrt] at h; cases h) (fun fs hr => ?_) ?_ (by decide) (by decide)
  · exact retI X0 hx hrt (hb hby d5_4) hr
  · show Q5 Z p1  h0 n0 _ s₁.heap _
    rw [e0]
    exact ⟨rfl, N0, rfl⟩
theorem d4_0 : decode jdk_92_method_6_code 0 = .ok (.aload_n 0, 1) := by decide +kernel
theorem d4_1 : decode jdk_92_method_6_code 1 = .ok (.iload_n 1, 1) := by decide +kernel
theorem d4_2 : decode jdk_92_method_6_code 2 = .ok (.iconst 1, 1) := by decide +kernel
theorem d4_3 : decode jdk_92_method_6_code 3 = .ok (.isub, 1) := by decide +kernel
theorem d4_4 : decode jdk_92_method_6_code 4 = .ok (.invokestatic 52, 3) := by decide +kernel
theorem d4_7 : decode jdk_92_method_6_code 7 = .ok (.iconst 1, 1) := by decide +kernel
theorem d4_8 : decode jdk_92_method_6_code 8 = .ok (.iadd, 1) := by decide +kernel
theorem d4_9 : decode jdk_92_method_6_code 9 = .ok (.newarray .long, 2) := by decide +kernel
theorem d4_11 : decode jdk_92_method_6_code 11 = .ok (.putfield 11, 3) := by decide +kernel
theorem d4_14 : decode jdk_92_method_6_code 14 = .ok (.return_, 1) := by decide +kernel
theorem pn_4 : plainName "java/util/BitSet" = true := by first | (simp [plainName, overriddenIn]; done) | decide +kernel
theorem pd_rm4_0 : parseMethodDescriptor "(I)I" = some ⟨[.int], some .int⟩ := by decide +kernel
theorem ef_rm4 (m : MethodId) (a1 : Addr) : entryFrame m #[(.ref a1), (.int (64 : Int32))] 2 = mkF m 0 #[.val (.ref a1), .val (.int (64 : Int32))] [] := by first | (simp [entryFrame, mkF, argsToLocals, Value.category]; done) | rfl
def Q4 (Z : State) (a1 : Addr) (u1 : Value) (u2 : Value) (u3 : Value) (h0 : Heap) (n0 : Nat) (v : Option Value) (h : Heap) (L : List Loc) : Prop := v = none ∧ Fr n0 L ∧ Keep h0 h [a1] ∧ Exa Z h a1 "java/util/BitSet" ∧ Fld Z h a1 "java/util/BitSet" "wordsInUse" "I" u2 ∧ Fld Z h a1 "java/util/BitSet" "sizeIsSticky" "Z" u3 ∧ ∃ (b : Addr) (k : ClassId), Fld Z h a1 "java/util/BitSet" "words" "[J" (.ref b) ∧ Arv Z h b k .long 1 [.long 0] (.long 0) ∧ h0.size ≤ b ∧ n0 ≤ b
set_option maxRecDepth 65536 in
set_option maxHeartbeats 40000000 in
theorem rm4 (l : Launch) (Z : State) (a0 : Array Value) (hw : ∀ d ∈ tables_1, d.before a0 Z = true) (ws : List Jvm.Cond) (a1 : Addr) (u1 : Value) (u2 : Value) (u3 : Value) (h0 : Heap) (n0 : Nat) (Z0 : n0 ≤ h0.size) (F_words_a1 : Fld Z h0 a1 "java/util/BitSet" "words" "[J" u1) (F_wordsInUse_a1 : Fld Z h0 a1 "java/util/BitSet" "wordsInUse" "I" u2) (F_sizeIsSticky_a1 : Fld Z h0 a1 "java/util/BitSet" "sizeIsSticky" "Z" u3) (E_a1 : Exa Z h0 a1 "java/util/BitSet") (g_a1 : n0 ≤ a1) :
    MetFree l (⟨"java/util/BitSet", "initWords", "(I)V"⟩ : MethodName) (head1 (Jvm.Cond.code (⟨"java/util/BitSet", "initWords", "(I)V"⟩ : MethodName) jdk_92_method_6_code 2 none :: ws) ({ frames := 1, cells := 1, slots := 1, locals := 13 } : Room)) (fun a U => a = #[(.ref a1), (.int (64 : Int32))] ∧ Z.Warmed39 U.vm ∧ U.heap = h0) (fun _ _ _ _ _ => True) (fun _ U o U' => ∃ v L, o = .returned v ∧ Q4 Z a1 u1 u2 u3 h0 n0 v U'.heap L ∧ FrameEnd U o U' L ({ frames := 1, cells := 1, slots := 1, locals := 13 } : Room).cells ({ frames := 1, cells := 1, slots := 1, locals := 13 } : Room).slots) := by
  refine MetFree.of_bodySF (plainFor_of_name pn_4) hisR ?_
  intro p e s m args below meth c s₁ Bd hml0 hP hK
  obtain ⟨rfl, hZ, hh⟩ := hP
  have hx := Bd.exec
  have hby := Bd.bytes
  have hml : c.maxLocals = 2 := hml0
  have hown : s.vm.findClass "java/util/BitSet" = some m.cls := findClass_of_methodNamed Bd.named
  have hnm := (name_of_methodNamed Bd.named Bd.method).1
  have hlk := BodyLoose.notSynchronized Bd
  have hrt := Bd.returns
  have X0 : Stand p l e ({ frames := 1, cells := 1, slots := 1, locals := 13 } : Room) s m #[(.ref a1), (.int (64 : Int32))] below meth c s₁ [] 0 0 := Stand.of_body Bd
  have e0 : s₁.heap = h0 := by rw [← hh, Bd.state]; rfl
  have N0 := Fr.nil n0
  show OEnds p e below s (Q4 Z a1 u1 u2 u3 h0 n0) ({ frames := 1, cells := 1, slots := 1, locals := 13 } : Room).cells ({ frames := 1, cells := 1, slots := 1, locals := 13 } : Room).slots (s₁.setTop (entryFrame m #[(.ref a1), (.int (64 : Int32))] 2))
  refine OEnds.go (t' := s₁.setTop (mkF m 0 #[.val (.ref a1), .val (.int (64 : Int32))] [])) (fun t k => castTop (ef_rm4 m a1) k) ?_
  refine OEnds.go (t' := s₁.setTop (mkF m 4 #[.val (.ref a1), .val (.int (64 : Int32))] [(.int ((64 : Int32) - (1 : Int32))), (.ref a1)])) (fun _ k => ?_) ?_
  · show Steps p.tables e below (s₁.setTop (mkF m 0 #[.val (.ref a1), .val (.int (64 : Int32))] [])) _
    refine XS.aloadN X0.here hx rfl (hb hby d4_0) rfl rfl ?_
    show Steps p.tables e below (s₁.setTop (mkF m 1 #[.val (.ref a1), .val (.int (64 : Int32))] [(.ref a1)])) _
    refine XS.iloadN X0.here hx rfl (hb hby d4_1) rfl ?_
    show Steps p.tables e below (s₁.setTop (mkF m 2 #[.val (.ref a1), .val (.int (64 : Int32))] [(.int (64 : Int32)), (.ref a1)])) _
    refine XS.iconst X0.here hx rfl (hb hby d4_2) ?_
    show Steps p.tables e below (s₁.setTop (mkF m 3 #[.val (.ref a1), .val (.int (64 : Int32))] [(.int (1 : Int32)), (.int (64 : Int32)), (.ref a1)])) _
    refine XS.isub X0.here hx rfl (hb hby d4_3) rfl ?_
    show Steps p.tables e below (s₁.setTop (mkF m 4 #[.val (.ref a1), .val (.int (64 : Int32))] [(.int ((64 : Int32) - (1 : Int32))), (.ref a1)])) _
    exact k
  obtain ⟨_, _, ⟨T1, L1, k1, n1⟩, -, X1, ⟨Lc1, hQ1, l1, y1, z1⟩, st1⟩ := Jvm.LawKit.callS X0 hx (y := (⟨"java/util/BitSet", "wordIndex", "(I)I"⟩ : MethodName)) hown (mvT hZ (hw _ (List.mem_of_getElem? (i := 25) rfl))) (mvT hZ (hw _ (List.mem_of_getElem? (i := 26) rfl))) (mvT hZ (hw _ (List.mem_of_getElem? (i := 11) rfl))) (mvT hZ (hw _ (List.mem_of_getElem? (i := 27) rfl))) (by decide) (backOf (W := 1) (rm5 l Z a0 hw [] ((64 : Int32) - (1 : Int32)) h0 n0 Z0 ) hZ (hw _ (List.mem_of_getElem? (i := 27) rfl)) (hw _ (List.mem_of_getElem? (i := 11) rfl)) (by decide) (by decide)) (g := (mkF m 4 #[.val (.ref a1), .val (.int (64 : Int32))] [(.int ((64 : Int32) - (1 : Int32))), (.ref a1)])) rfl (by rw [hml]; rfl) (argsL := [(.int ((64 : Int32) - (1 : Int32)))]) (rest := [(.ref a1)]) (lenOf pd_rm4_0 rfl) rfl (by show 2 * 0 + _ ≤ _; exact Nat.le_of_eq rfl) (hb hby d4_4) (fun _ _ => ⟨rfl, e0, (by decide : 0 + 0 ≤ _), (by decide : 0 + 0 ≤ _)⟩)
  dsimp only [Pt.U, Pt.locs, Pt.cells, Pt.slots] at X1 l1 y1 z1 st1 hQ1
  subst l1 y1 z1
  obtain ⟨rfl, N1q, eh⟩ := hQ1
  have N1 := Fr.app N0 N1q
  have eh1 := eh
  refine OEnds.go (t' := T1.setTop (mkF m 7 #[.val (.ref a1), .val (.int (64 : Int32))] [(.int (((64 : Int32) - (1 : Int32)) >>> ((6 : Int32) &&& 31))), (.ref a1)])) (fun _ k => st1 _ k) ?_
  refine OEnds.go (t' := T1.setTop (mkF m 9 #[.val (.ref a1), .val (.int (64 : Int32))] [(.int ((((64 : Int32) - (1 : Int32)) >>> ((6 : Int32) &&& 31)) + (1 : Int32))), (.ref a1)])) (fun _ k => ?_) ?_
  · show Steps p.tables e below (T1.setTop (mkF m 7 #[.val (.ref a1), .val (.int (64 : Int32))] [(.int (((64 : Int32) - (1 : Int32)) >>> ((6 : Int32) &&& 31))), (.ref a1)])) _
    refine XS.iconst X1.here hx rfl (hb hby d4_7) ?_
    show Steps p.tables e below (T1.setTop (mkF m 8 #[.val (.ref a1), .val (.int (64 : Int32))] [(.int (1 : Int32)), (.int (((64 : Int32) - (1 : Int32)) >>> ((6 : Int32) &&& 31))), (.ref a1)])) _
    refine XS.iadd X1.here hx rfl (hb hby d4_8) rfl ?_
    show Steps p.tables e below (T1.setTop (mkF m 9 #[.val (.ref a1), .val (.int (64 : Int32))] [(.int ((((64 : Int32) - (1 : Int32)) >>> ((6 : Int32) &&& 31)) + (1 : Int32))), (.ref a1)])) _
    exact k
  rw [show ((((64 : Int32) - (1 : Int32)) >>> ((6 : Int32) &&& 31)) + (1 : Int32)) = (1 : Int32) from by decide]
  obtain ⟨T2, h2, ka2, X2, e2, E2, A2, st2⟩ := newP X1 hx hZ (hw _ (List.mem_of_getElem? (i := 28) rfl)) eh1 (g := (mkF m 9 #[.val (.ref a1), .val (.int (64 : Int32))] [(.int (1 : Int32)), (.ref a1)])) rfl (hb hby d4_9) rfl (by decide) (cap := 1) (by decide) (by decide) (by decide) (by decide)
  obtain ⟨b1, gz2⟩ : ∃ z, z = h0.size := ⟨_, rfl⟩
  rw [← gz2] at A2 st2
  have ne_a1_b1 : a1 ≠ b1 := Nat.ne_of_lt (Nat.lt_of_lt_of_le E_a1.lt (Nat.le_of_eq gz2.symm))
  have g_b1 : n0 ≤ b1 := Nat.le_trans Z0 (Nat.le_of_eq gz2.symm)
  have sz_b1 : h0.size ≤ b1 := Nat.le_trans (Keep.refl h0 [a1]).1 (Nat.le_of_eq gz2.symm)
  have E_a1 := E_a1.ext E2
  have F_wordsInUse_a1 := F_wordsInUse_a1.ext E2
  have F_sizeIsSticky_a1 := F_sizeIsSticky_a1.ext E2
  have F_words_a1 := F_words_a1.ext E2
  have Z2 : n0 ≤ h2.size := Nat.le_trans Z0 E2.1
  have K2 := (Keep.refl h0 [a1]).ext E2
  have V_b1 : Arv Z h2 b1 ka2 .long (1 : Int32) [(.long (0 : Int64))] (.long (0 : Int64)) := (Arv.new A2 (by decide)).pad (pad_rep [] (.long (0 : Int64)) 1)
  refine OEnds.go (t' := T2.setTop (mkF m 11 #[.val (.ref a1), .val (.int (64 : Int32))] [(.ref b1), (.ref a1)])) (fun _ k => st2 _ k) ?_
  obtain ⟨T3, h3, X3, e3, W3, st3⟩ := putF X2 hx hZ hown (host := "") (Or.inl (hw _ (List.mem_of_getElem? (i := 29) rfl))) Via.refl e2 F_words_a1 E_a1 (Or.inl (hw _ (List.mem_of_getElem? (i := 30) rfl))) (hw _ (List.mem_of_getElem? (i := 10) rfl)) (ty := (.array .long)) (by decide) rfl rfl (g := (mkF m 11 #[.val (.ref a1), .val (.int (64 : Int32))] [(.ref b1), (.ref a1)])) rfl rfl (hb hby d4_11)
  have N3 := Fr.snoc X3 N1 g_a1
  have E_a1 := E_a1.wr W3
  have F_wordsInUse_a1 := F_wordsInUse_a1.other W3 (Or.inr (slot_ne (Or.inl (hw _ (List.mem_of_getElem? (i := 17) rfl))) (Or.inl (hw _ (List.mem_of_getElem? (i := 30) rfl))) (by decide) (t := .int) (t' := (.array .long)) (by decide) (by decide)))
  have F_sizeIsSticky_a1 := F_sizeIsSticky_a1.other W3 (Or.inr (slot_ne (Or.inl (hw _ (List.mem_of_getElem? (i := 19) rfl))) (Or.inl (hw _ (List.mem_of_getElem? (i := 30) rfl))) (by decide) (t := .boolean) (t' := (.array .long)) (by decide) (by decide)))
  have F_words_a1 := F_words_a1.same W3
  have V_b1 := V_b1.other W3 (Ne.symm ne_a1_b1)
  have Z3 : n0 ≤ h3.size := Nat.le_trans Z2 (Keep.of_wr W3).1
  have K3 := K2.wr W3 (Or.inl (List.mem_of_getElem? (i := 0) rfl))
  refine OEnds.go (t' := T3.setTop (mkF m 14 #[.val (.ref a1), .val (.int (64 : Int32))] [])) (fun _ k => st3 _ k) ?_
  refine OEnds.back X3 hlk (v := none) (fun _ => rfl) (fun fs hr => ?_) ?_ (by decide) (by decide)
  · exact X3.returnOut hx hrt (hb hby d4_14) hr
  · show Q4 Z a1 u1 u2 u3 h0 n0 _ T3.heap _
    rw [e3]
    exact ⟨rfl, N3, K3, E_a1, F_wordsInUse_a1, F_sizeIsSticky_a1, b1, _, F_words_a1, V_b1, sz_b1, g_b1⟩
theorem d3_0 : decode jdk_92_method_4_code 0 = .ok (.aload_n 0, 1) := by decide +kernel
theorem d3_1 : decode jdk_92_method_4_code 1 = .ok (.invokespecial 21, 3) := by decide +kernel
theorem d3_4 : decode jdk_92_method_4_code 4 = .ok (.aload_n 0, 1) := by decide +kernel
theorem d3_5 : decode jdk_92_method_4_code 5 = .ok (.iconst 0, 1) := by decide +kernel
theorem d3_6 : decode jdk_92_method_4_code 6 = .ok (.putfield 7, 3) := by decide +kernel
theorem d3_9 : decode jdk_92_method_4_code 9 = .ok (.aload_n 0, 1) := by decide +kernel
theorem d3_10 : decode jdk_92_method_4_code 10 = .ok (.iconst 0, 1) := by decide +kernel
theorem d3_11 : decode jdk_92_method_4_code 11 = .ok (.putfield 24, 3) := by decide +kernel
theorem d3_14 : decode jdk_92_method_4_code 14 = .ok (.aload_n 0, 1) := by decide +kernel
theorem d3_15 : decode jdk_92_method_4_code 15 = .ok (.bipush 64, 2) := by decide +kernel
theorem d3_17 : decode jdk_92_method_4_code 17 = .ok (.invokevirtual 27, 3) := by decide +kernel
theorem d3_20 : decode jdk_92_method_4_code 20 = .ok (.aload_n 0, 1) := by decide +kernel
theorem d3_21 : decode jdk_92_method_4_code 21 = .ok (.iconst 0, 1) := by decide +kernel
theorem d3_22 : decode jdk_92_method_4_code 22 = .ok (.putfield 24, 3) := by decide +kernel
theorem d3_25 : decode jdk_92_method_4_code 25 = .ok (.return_, 1) := by decide +kernel
theorem pn_3 : plainName "java/util/BitSet" = true := by first | (simp [plainName, overriddenIn]; done) | decide +kernel
theorem pd_rm3_0 : parseMethodDescriptor "(I)V" = some ⟨[.int], none⟩ := by decide +kernel
theorem ef_rm3 (m : MethodId) (a1 : Addr) : entryFrame m #[(.ref a1)] 1 = mkF m 0 #[.val (.ref a1)] [] := by first | (simp [entryFrame, mkF, argsToLocals, Value.category]; done) | rfl
def Q3 (Z : State) (a1 : Addr)  (h0 : Heap) (n0 : Nat) (v : Option Value) (h : Heap) (L : List Loc) : Prop := v = none ∧ Fr n0 L ∧ Keep h0 h [a1] ∧ ∃ (b : Addr) (k : ClassId), own_Bits Z h a1 b k 0 0 ∧ h0.size ≤ b ∧ n0 ≤ b
set_option maxRecDepth 65536 in
set_option maxHeartbeats 40000000 in
theorem rm3 (l : Launch) (Z : State) (a0 : Array Value) (hw : ∀ d ∈ tables_1, d.before a0 Z = true) (ws : List Jvm.Cond) (a1 : Addr)  (h0 : Heap) (n0 : Nat) (Z0 : n0 ≤ h0.size) (F_wordsInUse_a1 : Fld Z h0 a1 "java/util/BitSet" "wordsInUse" "I" (.int (0 : Int32))) (F_sizeIsSticky_a1 : Fld Z h0 a1 "java/util/BitSet" "sizeIsSticky" "Z" (.int (0 : Int32))) (F_words_a1 : Fld Z h0 a1 "java/util/BitSet" "words" "[J" .null) (E_a1 : Exa Z h0 a1 "java/util/BitSet") (g_a1 : n0 ≤ a1) :
    MetFree l (⟨"java/util/BitSet", "<init>", "()V"⟩ : MethodName) (head1 (Jvm.Cond.code (⟨"java/util/BitSet", "<init>", "()V"⟩ : MethodName) jdk_92_method_4_code 1 none :: ws) ({ frames := 2, cells := 1, slots := 1, locals := 26 } : Room)) (fun a U => a = #[(.ref a1)] ∧ Z.Warmed39 U.vm ∧ U.heap = h0) (fun _ _ _ _ _ => True) (fun _ U o U' => ∃ v L, o = .returned v ∧ Q3 Z a1  h0 n0 v U'.heap L ∧ FrameEnd U o U' L ({ frames := 2, cells := 1, slots := 1, locals := 26 } : Room).cells ({ frames := 2, cells := 1, slots := 1, locals := 26 } : Room).slots) := by
  refine MetFree.of_bodySF (plainFor_of_name pn_3) hisR ?_
  intro p e s m args below meth c s₁ Bd hml0 hP hK
  obtain ⟨rfl, hZ, hh⟩ := hP
  have hx := Bd.exec
  have hby := Bd.bytes
  have hml : c.maxLocals = 1 := hml0
  have hown : s.vm.findClass "java/util/BitSet" = some m.cls := findClass_of_methodNamed Bd.named
  have hnm := (name_of_methodNamed Bd.named Bd.method).1
  have hlk := BodyLoose.notSynchronized Bd
  have hrt := Bd.returns
  have X0 : Stand p l e ({ frames := 2, cells := 1, slots := 1, locals := 26 } : Room) s m #[(.ref a1)] below meth c s₁ [] 0 0 := Stand.of_body Bd
  have e0 : s₁.heap = h0 := by rw [← hh, Bd.state]; rfl
  have N0 := Fr.nil n0
  show OEnds p e below s (Q3 Z a1  h0 n0) ({ frames := 2, cells := 1, slots := 1, locals := 26 } : Room).cells ({ frames := 2, cells := 1, slots := 1, locals := 26 } : Room).slots (s₁.setTop (entryFrame m #[(.ref a1)] 1))
  refine OEnds.go (t' := s₁.setTop (mkF m 0 #[.val (.ref a1)] [])) (fun t k => castTop (ef_rm3 m a1) k) ?_
  refine OEnds.go (t' := s₁.setTop (mkF m 1 #[.val (.ref a1)] [(.ref a1)])) (fun _ k => ?_) ?_
  · show Steps p.tables e below (s₁.setTop (mkF m 0 #[.val (.ref a1)] [])) _
    refine XS.aloadN X0.here hx rfl (hb hby d3_0) rfl rfl ?_
    show Steps p.tables e below (s₁.setTop (mkF m 1 #[.val (.ref a1)] [(.ref a1)])) _
    exact k
  obtain ⟨T1, X1, e1, st1⟩ := initO X0 hx hZ hown (hw _ (List.mem_of_getElem? (i := 15) rfl)) (hw _ (List.mem_of_getElem? (i := 7) rfl)) (hw _ (List.mem_of_getElem? (i := 8) rfl)) e0 (g := (mkF m 1 #[.val (.ref a1)] [(.ref a1)])) rfl (by rw [hml]; rfl) rfl (hb hby d3_1) (by decide) (W := 0) (by show 2 * 0 + _ ≤ _; exact Nat.le_of_eq rfl) (by decide)
  refine OEnds.go (t' := T1.setTop (mkF m 4 #[.val (.ref a1)] [])) (fun _ k => st1 _ k) ?_
  refine OEnds.go (t' := T1.setTop (mkF m 6 #[.val (.ref a1)] [(.int (0 : Int32)), (.ref a1)])) (fun _ k => ?_) ?_
  · show Steps p.tables e below (T1.setTop (mkF m 4 #[.val (.ref a1)] [])) _
    refine XS.aloadN X1.here hx rfl (hb hby d3_4) rfl rfl ?_
    show Steps p.tables e below (T1.setTop (mkF m 5 #[.val (.ref a1)] [(.ref a1)])) _
    refine XS.iconst X1.here hx rfl (hb hby d3_5) ?_
    show Steps p.tables e below (T1.setTop (mkF m 6 #[.val (.ref a1)] [(.int (0 : Int32)), (.ref a1)])) _
    exact k
  obtain ⟨T2, h2, X2, e2, W2, st2⟩ := putF X1 hx hZ hown (host := "") (Or.inl (hw _ (List.mem_of_getElem? (i := 16) rfl))) Via.refl e1 F_wordsInUse_a1 E_a1 (Or.inl (hw _ (List.mem_of_getElem? (i := 17) rfl))) (hw _ (List.mem_of_getElem? (i := 10) rfl)) (ty := .int) (by decide) rfl rfl (g := (mkF m 6 #[.val (.ref a1)] [(.int (0 : Int32)), (.ref a1)])) rfl rfl (hb hby d3_6)
  have N2 := Fr.snoc X2 N0 g_a1
  have E_a1 := E_a1.wr W2
  have F_wordsInUse_a1 := F_wordsInUse_a1.same W2
  have F_sizeIsSticky_a1 := F_sizeIsSticky_a1.other W2 (Or.inr (slot_ne (Or.inl (hw _ (List.mem_of_getElem? (i := 19) rfl))) (Or.inl (hw _ (List.mem_of_getElem? (i := 17) rfl))) (by decide) (t := .boolean) (t' := .int) (by decide) (by decide)))
  have F_words_a1 := F_words_a1.other W2 (Or.inr (slot_ne (Or.inl (hw _ (List.mem_of_getElem? (i := 30) rfl))) (Or.inl (hw _ (List.mem_of_getElem? (i := 17) rfl))) (by decide) (t := (.array .long)) (t' := .int) (by decide) (by decide)))
  have Z2 : n0 ≤ h2.size := Nat.le_trans Z0 (Keep.of_wr W2).1
  have K2 := (Keep.refl h0 [a1]).wr W2 (Or.inl (List.mem_of_getElem? (i := 0) rfl))
  refine OEnds.go (t' := T2.setTop (mkF m 9 #[.val (.ref a1)] [])) (fun _ k => st2 _ k) ?_
  refine OEnds.go (t' := T2.setTop (mkF m 11 #[.val (.ref a1)] [(.int (0 : Int32)), (.ref a1)])) (fun _ k => ?_) ?_
  · show Steps p.tables e below (T2.setTop (mkF m 9 #[.val (.ref a1)] [])) _
    refine XS.aloadN X2.here hx rfl (hb hby d3_9) rfl rfl ?_
    show Steps p.tables e below (T2.setTop (mkF m 10 #[.val (.ref a1)] [(.ref a1)])) _
    refine XS.iconst X2.here hx rfl (hb hby d3_10) ?_
    show Steps p.tables e below (T2.setTop (mkF m 11 #[.val (.ref a1)] [(.int (0 : Int32)), (.ref a1)])) _
    exact k
  obtain ⟨T3, h3, X3, e3, W3, st3⟩ := putFN X2 hx hZ hown (hw _ (List.mem_of_getElem? (i := 18) rfl)) Via.refl e2 F_sizeIsSticky_a1 E_a1 (Or.inl (hw _ (List.mem_of_getElem? (i := 19) rfl))) (hw _ (List.mem_of_getElem? (i := 10) rfl)) (ty := .boolean) (v' := (.int (0 : Int32))) (by decide) rfl rfl (g := (mkF m 11 #[.val (.ref a1)] [(.int (0 : Int32)), (.ref a1)])) rfl rfl (hb hby d3_11)
  have N3 := Fr.snoc X3 N2 g_a1
  have E_a1 := E_a1.wr W3
  have F_wordsInUse_a1 := F_wordsInUse_a1.other W3 (Or.inr (slot_ne (Or.inl (hw _ (List.mem_of_getElem? (i := 17) rfl))) (Or.inl (hw _ (List.mem_of_getElem? (i := 19) rfl))) (by decide) (t := .int) (t' := .boolean) (by decide) (by decide)))
  have F_sizeIsSticky_a1 := F_sizeIsSticky_a1.same W3
  have F_words_a1 := F_words_a1.other W3 (Or.inr (slot_ne (Or.inl (hw _ (List.mem_of_getElem? (i := 30) rfl))) (Or.inl (hw _ (List.mem_of_getElem? (i := 19) rfl))) (by decide) (t := (.array .long)) (t' := .boolean) (by decide) (by decide)))
  have Z3 : n0 ≤ h3.size := Nat.le_trans Z2 (Keep.of_wr W3).1
  have K3 := K2.wr W3 (Or.inl (List.mem_of_getElem? (i := 0) rfl))
  refine OEnds.go (t' := T3.setTop (mkF m 14 #[.val (.ref a1)] [])) (fun _ k => st3 _ k) ?_
  refine OEnds.go (t' := T3.setTop (mkF m 17 #[.val (.ref a1)] [(.int (64 : Int32)), (.ref a1)])) (fun _ k => ?_) ?_
  · show Steps p.tables e below (T3.setTop (mkF m 14 #[.val (.ref a1)] [])) _
    refine XS.aloadN X3.here hx rfl (hb hby d3_14) rfl rfl ?_
    show Steps p.tables e below (T3.setTop (mkF m 15 #[.val (.ref a1)] [(.ref a1)])) _
    refine XS.bipush X3.here hx rfl (hb hby d3_15) ?_
    show Steps p.tables e below (T3.setTop (mkF m 17 #[.val (.ref a1)] [(.int (64 : Int32)), (.ref a1)])) _
    exact k
  have lt_a1 := E_a1.lt
  have Kz := K3
  obtain ⟨cq4, q4, q4x⟩ := (E_a1).cell
  obtain ⟨_, _, ⟨T4, L4, k4, n4⟩, -, X4, ⟨Lc4, hQ4, l4, y4, z4⟩, st4⟩ := X3.privateBack hx (y := (⟨"java/util/BitSet", "initWords", "(I)V"⟩ : MethodName)) hown (mvT hZ (hw _ (List.mem_of_getElem? (i := 20) rfl))) (mvT hZ (hw _ (List.mem_of_getElem? (i := 21) rfl))) (mvT hZ (hw _ (List.mem_of_getElem? (i := 23) rfl))) (Cond.privateMethod_at (mvP hZ (hw _ (List.mem_of_getElem? (i := 22) rfl)) (args := #[]))) (mvT hZ (hw _ (List.mem_of_getElem? (i := 24) rfl))) (by decide) (backOf (W := 0) (rm4 l Z a0 hw [] a1 _ _ _ h3 n0 Z3 F_words_a1 F_wordsInUse_a1 F_sizeIsSticky_a1 E_a1 g_a1) hZ (hw _ (List.mem_of_getElem? (i := 24) rfl)) (hw _ (List.mem_of_getElem? (i := 11) rfl)) (by decide) (by decide)) (g := (mkF m 17 #[.val (.ref a1)] [(.int (64 : Int32)), (.ref a1)])) rfl (by rw [hml]; rfl) (Steps.refl _) (a := a1) (by rw [e3]; exact q4) q4x (argsL := [(.int (64 : Int32))]) (rest := []) (lenOf pd_rm3_0 rfl) rfl (by show 2 * 0 + _ ≤ _; exact Nat.le_of_eq rfl) (hb hby d3_17) (fun _ _ => ⟨rfl, e3, (by decide : 0 + 1 ≤ _), (by decide : 0 + 1 ≤ _)⟩)
  dsimp only [Pt.U, Pt.locs, Pt.cells, Pt.slots] at X4 l4 y4 z4 st4 hQ4
  subst l4 y4 z4
  obtain ⟨rfl, N4q, Kc4, Ea4, Fa4, Fb4, b1, kb1, Fw4, Vw4, sz4, g_b1⟩ := hQ4
  have N4 := Fr.app N3 N4q
  have Z4 : n0 ≤ T4.heap.size := Nat.le_trans Z3 Kc4.1
  have K4 := K3.trans Kc4 (allS (Or.inl (List.mem_of_getElem? (i := 0) rfl)) all0)
  refine OEnds.go (t' := T4.setTop (mkF m 20 #[.val (.ref a1)] [])) (fun _ k => st4.trans k) ?_
  have ne_a1_b1 : a1 ≠ b1 := Nat.ne_of_lt (Nat.lt_of_lt_of_le lt_a1 sz4)
  have E_a1 := Ea4
  have F_wordsInUse_a1 := Fa4
  have F_sizeIsSticky_a1 := Fb4
  have F_words_a1 := Fw4
  have V_b1 := Vw4
  refine OEnds.go (t' := T4.setTop (mkF m 22 #[.val (.ref a1)] [(.int (0 : Int32)), (.ref a1)])) (fun _ k => ?_) ?_
  · show Steps p.tables e below (T4.setTop (mkF m 20 #[.val (.ref a1)] [])) _
    refine XS.aloadN X4.here hx rfl (hb hby d3_20) rfl rfl ?_
    show Steps p.tables e below (T4.setTop (mkF m 21 #[.val (.ref a1)] [(.ref a1)])) _
    refine XS.iconst X4.here hx rfl (hb hby d3_21) ?_
    show Steps p.tables e below (T4.setTop (mkF m 22 #[.val (.ref a1)] [(.int (0 : Int32)), (.ref a1)])) _
    exact k
  obtain ⟨T5, h5, X5, e5, W5, st5⟩ := putFN X4 hx hZ hown (hw _ (List.mem_of_getElem? (i := 18) rfl)) Via.refl rfl F_sizeIsSticky_a1 E_a1 (Or.inl (hw _ (List.mem_of_getElem? (i := 19) rfl))) (hw _ (List.mem_of_getElem? (i := 10) rfl)) (ty := .boolean) (v' := (.int (0 : Int32))) (by decide) rfl rfl (g := (mkF m 22 #[.val (.ref a1)] [(.int (0 : Int32)), (.ref a1)])) rfl rfl (hb hby d3_22)
  have N5 := Fr.snoc X5 N4 g_a1
  have E_a1 := E_a1.wr W5
  have F_wordsInUse_a1 := F_wordsInUse_a1.other W5 (Or.inr (slot_ne (Or.inl (hw _ (List.mem_of_getElem? (i := 17) rfl))) (Or.inl (hw _ (List.mem_of_getElem? (i := 19) rfl))) (by decide) (t := .int) (t' := .boolean) (by decide) (by decide)))
  have F_sizeIsSticky_a1 := F_sizeIsSticky_a1.same W5
  have F_words_a1 := F_words_a1.other W5 (Or.inr (slot_ne (Or.inl (hw _ (List.mem_of_getElem? (i := 30) rfl))) (Or.inl (hw _ (List.mem_of_getElem? (i := 19) rfl))) (by decide) (t := (.array .long)) (t' := .boolean) (by decide) (by decide)))
  have V_b1 := V_b1.other W5 (Ne.symm ne_a1_b1)
  have Z5 : n0 ≤ h5.size := Nat.le_trans Z4 (Keep.of_wr W5).1
  have K5 := K4.wr W5 (Or.inl (List.mem_of_getElem? (i := 0) rfl))
  refine OEnds.go (t' := T5.setTop (mkF m 25 #[.val (.ref a1)] [])) (fun _ k => st5 _ k) ?_
  refine OEnds.back X5 hlk (v := none) (fun _ => rfl) (fun fs hr => ?_) ?_ (by decide) (by decide)
  · exact X5.returnOut hx hrt (hb hby d3_25) hr
  · show Q3 Z a1  h0 n0 _ T5.heap _
    rw [e5]
    exact ⟨rfl, N5, K5, b1, kb1, ⟨E_a1, F_wordsInUse_a1, F_words_a1, V_b1⟩, Nat.le_trans Kz.1 sz4, g_b1⟩
theorem d13_0 : decode jdk_92_method_2_code 0 = .ok (.getstatic 3, 3) := by decide +kernel
theorem d13_3 : decode jdk_92_method_2_code 3 = .ok (.ifCond .ne 34, 3) := by decide +kernel
theorem d13_37 : decode jdk_92_method_2_code 37 = .ok (.getstatic 3, 3) := by decide +kernel
theorem d13_40 : decode jdk_92_method_2_code 40 = .ok (.ifCond .ne 30, 3) := by decide +kernel
theorem d13_70 : decode jdk_92_method_2_code 70 = .ok (.getstatic 3, 3) := by decide +kernel
theorem d13_73 : decode jdk_92_method_2_code 73 = .ok (.ifCond .ne 37, 3) := by decide +kernel
theorem d13_110 : decode jdk_92_method_2_code 110 = .ok (.return_, 1) := by decide +kernel
theorem pn_13 : plainName "java/util/BitSet" = true := by first | (simp [plainName, overriddenIn]; done) | decide +kernel
theorem ef_rm13 (m : MethodId) (a1 : Addr) : entryFrame m #[(.ref a1)] 1 = mkF m 0 #[.val (.ref a1)] [] := by first | (simp [entryFrame, mkF, argsToLocals, Value.category]; done) | rfl
def Q13 (Z : State) (a1 : Addr)  (h0 : Heap) (n0 : Nat) (v : Option Value) (h : Heap) (L : List Loc) : Prop := v = none ∧ Fr n0 L ∧ h = h0
set_option maxRecDepth 65536 in
set_option maxHeartbeats 40000000 in
theorem rm13 (l : Launch) (Z : State) (a0 : Array Value) (hw : ∀ d ∈ tables_1, d.before a0 Z = true) (ws : List Jvm.Cond) (a1 : Addr)  (h0 : Heap) (n0 : Nat) (Z0 : n0 ≤ h0.size) (S_A : Sta Z h0 "java/util/BitSet" "$assertionsDisabled" "Z" (.int 1)) :
    MetFree l (⟨"java/util/BitSet", "checkInvariants", "()V"⟩ : MethodName) (head1 (Jvm.Cond.code (⟨"java/util/BitSet", "checkInvariants", "()V"⟩ : MethodName) jdk_92_method_2_code 1 none :: ws) ({ frames := 0, cells := 0, slots := 0, locals := 0 } : Room)) (fun a U => a = #[(.ref a1)] ∧ Z.Warmed39 U.vm ∧ U.heap = h0) (fun _ _ _ _ _ => True) (fun _ U o U' => ∃ v L, o = .returned v ∧ Q13 Z a1  h0 n0 v U'.heap L ∧ FrameEnd U o U' L ({ frames := 0, cells := 0, slots := 0, locals := 0 } : Room).cells ({ frames := 0, cells := 0, slots := 0, locals := 0 } : Room).slots) := by
  refine MetFree.of_bodySF (plainFor_of_name pn_13) hisR ?_
  intro p e s m args below meth c s₁ Bd hml0 hP hK
  obtain ⟨rfl, hZ, hh⟩ := hP
  have hx := Bd.exec
  have hby := Bd.bytes
  have hml : c.maxLocals = 1 := hml0
  have hown : s.vm.findClass "java/util/BitSet" = some m.cls := findClass_of_methodNamed Bd.named
  have hnm := (name_of_methodNamed Bd.named Bd.method).1
  have hlk := BodyLoose.notSynchronized Bd
  have hrt := Bd.returns
  have X0 : Stand p l e ({ frames := 0, cells := 0, slots := 0, locals := 0 } : Room) s m #[(.ref a1)] below meth c s₁ [] 0 0 := Stand.of_body Bd
  have e0 : s₁.heap = h0 := by rw [← hh, Bd.state]; rfl
  have N0 := Fr.nil n0
  show OEnds p e below s (Q13 Z a1  h0 n0) ({ frames := 0, cells := 0, slots := 0, locals := 0 } : Room).cells ({ frames := 0, cells := 0, slots := 0, locals := 0 } : Room).slots (s₁.setTop (entryFrame m #[(.ref a1)] 1))
  refine OEnds.go (t' := s₁.setTop (mkF m 0 #[.val (.ref a1)] [])) (fun t k => castTop (ef_rm13 m a1) k) ?_
  obtain ⟨T1, X1, e1, st1⟩ := getS2 X0 hx hZ hown (host := "") (Or.inl (hw _ (List.mem_of_getElem? (i := 79) rfl))) Via.refl e0 S_A (g := (mkF m 0 #[.val (.ref a1)] [])) rfl (hb hby d13_0)
  refine OEnds.go (t' := T1.setTop (mkF m 3 #[.val (.ref a1)] [(.int (1 : Int32))])) (fun _ k => st1 _ k) ?_
  refine OEnds.go (t' := T1.setTop (mkF m 37 #[.val (.ref a1)] [])) (fun _ k => XS.ifYes X1.here hx rfl (pc0 := 3) (pc' := 37) rfl (hb hby d13_3) rfl ((if0 _ _).trans (feq (by decide)).2) (by decide) (by decide) k) ?_
  obtain ⟨T2, X2, e2, st2⟩ := getS2 X1 hx hZ hown (host := "") (Or.inl (hw _ (List.mem_of_getElem? (i := 79) rfl))) Via.refl e1 S_A (g := (mkF m 37 #[.val (.ref a1)] [])) rfl (hb hby d13_37)
  refine OEnds.go (t' := T2.setTop (mkF m 40 #[.val (.ref a1)] [(.int (1 : Int32))])) (fun _ k => st2 _ k) ?_
  refine OEnds.go (t' := T2.setTop (mkF m 70 #[.val (.ref a1)] [])) (fun _ k => XS.ifYes X2.here hx rfl (pc0 := 40) (pc' := 70) rfl (hb hby d13_40) rfl ((if0 _ _).trans (feq (by decide)).2) (by decide) (by decide) k) ?_
  obtain ⟨T3, X3, e3, st3⟩ := getS2 X2 hx hZ hown (host := "") (Or.inl (hw _ (List.mem_of_getElem? (i := 79) rfl))) Via.refl e2 S_A (g := (mkF m 70 #[.val (.ref a1)] [])) rfl (hb hby d13_70)
  refine OEnds.go (t' := T3.setTop (mkF m 73 #[.val (.ref a1)] [(.int (1 : Int32))])) (fun _ k => st3 _ k) ?_
  refine OEnds.go (t' := T3.setTop (mkF m 110 #[.val (.ref a1)] [])) (fun _ k => XS.ifYes X3.here hx rfl (pc0 := 73) (pc' := 110) rfl (hb hby d13_73) rfl ((if0 _ _).trans (feq (by decide)).2) (by decide) (by decide) k) ?_
  refine OEnds.back X3 hlk (v := none) (fun _ => rfl) (fun fs hr => ?_) ?_ (by decide) (by decide)
  · exact X3.returnOut hx hrt (hb hby d13_110) hr
  · show Q13 Z a1  h0 n0 _ T3.heap _
    rw [e3]
    exact ⟨rfl, N0, rfl⟩
theorem d9_0 : decode jdk_92_method_16_code 0 = .ok (.iload_n 0, 1) := by decide +kernel
theorem d9_1 : decode jdk_92_method_16_code 1 = .ok (.ifCond .ge 30, 3) := by decide +kernel
theorem d9_31 : decode jdk_92_method_16_code 31 = .ok (.iload_n 1, 1) := by decide +kernel
theorem d9_32 : decode jdk_92_method_16_code 32 = .ok (.ifCond .ge 30, 3) := by decide +kernel
theorem d9_62 : decode jdk_92_method_16_code 62 = .ok (.iload_n 0, 1) := by decide +kernel
theorem d9_63 : decode jdk_92_method_16_code 63 = .ok (.iload_n 1, 1) := by decide +kernel
theorem d9_64 : decode jdk_92_method_16_code 64 = .ok (.if_icmp .le 39, 3) := by decide +kernel
theorem d9_103 : decode jdk_92_method_16_code 103 = .ok (.return_, 1) := by decide +kernel
theorem pn_9 : plainName "java/util/BitSet" = true := by first | (simp [plainName, overriddenIn]; done) | decide +kernel
theorem ef_rm9 (m : MethodId) (p1 : Int32) (p2 : Int32) : entryFrame m #[(.int p1), (.int p2)] 2 = mkF m 0 #[.val (.int p1), .val (.int p2)] [] := by first | (simp [entryFrame, mkF, argsToLocals, Value.category]; done) | rfl
def Q9 (Z : State) (p1 : Int32) (p2 : Int32)  (h0 : Heap) (n0 : Nat) (v : Option Value) (h : Heap) (L : List Loc) : Prop := v = none ∧ Fr n0 L ∧ h = h0
set_option maxRecDepth 65536 in
set_option maxHeartbeats 40000000 in
theorem rm9 (l : Launch) (Z : State) (a0 : Array Value) (hw : ∀ d ∈ tables_1, d.before a0 Z = true) (ws : List Jvm.Cond) (p1 : Int32) (p2 : Int32)  (h0 : Heap) (n0 : Nat) (Z0 : n0 ≤ h0.size) (c1 : ¬ p1 < 0) (c2 : ¬ p2 < 0) (c3 : ¬ p2 < p1) :
    MetFree l (⟨"java/util/BitSet", "checkRange", "(II)V"⟩ : MethodName) (head1 (Jvm.Cond.code (⟨"java/util/BitSet", "checkRange", "(II)V"⟩ : MethodName) jdk_92_method_16_code 2 none :: ws) ({ frames := 0, cells := 0, slots := 0, locals := 0 } : Room)) (fun a U => a = #[(.int p1), (.int p2)] ∧ Z.Warmed39 U.vm ∧ U.heap = h0) (fun _ _ _ _ _ => True) (fun _ U o U' => ∃ v L, o = .returned v ∧ Q9 Z p1 p2  h0 n0 v U'.heap L ∧ FrameEnd U o U' L ({ frames := 0, cells := 0, slots := 0, locals := 0 } : Room).cells ({ frames := 0, cells := 0, slots := 0, locals := 0 } : Room).slots) := by
  refine MetFree.of_bodySF (plainFor_of_name pn_9) hisR ?_
  intro p e s m args below meth c s₁ Bd hml0 hP hK
  obtain ⟨rfl, hZ, hh⟩ := hP
  have hx := Bd.exec
  have hby := Bd.bytes
  have hml : c.maxLocals = 2 := hml0
  have hown : s.vm.findClass "java/util/BitSet" = some m.cls := findClass_of_methodNamed Bd.named
  have hnm := (name_of_methodNamed Bd.named Bd.method).1
  have hlk := BodyLoose.notSynchronized Bd
  have hrt := Bd.returns
  have X0 : Stand p l e ({ frames := 0, cells := 0, slots := 0, locals := 0 } : Room) s m #[(.int p1), (.int p2)] below meth c s₁ [] 0 0 := Stand.of_body Bd
  have e0 : s₁.heap = h0 := by rw [← hh, Bd.state]; rfl
  have N0 := Fr.nil n0
  show OEnds p e below s (Q9 Z p1 p2  h0 n0) ({ frames := 0, cells := 0, slots := 0, locals := 0 } : Room).cells ({ frames := 0, cells := 0, slots := 0, locals := 0 } : Room).slots (s₁.setTop (entryFrame m #[(.int p1), (.int p2)] 2))
  refine OEnds.go (t' := s₁.setTop (mkF m 0 #[.val (.int p1), .val (.int p2)] [])) (fun t k => castTop (ef_rm9 m p1 p2) k) ?_
  refine OEnds.go (t' := s₁.setTop (mkF m 1 #[.val (.int p1), .val (.int p2)] [(.int p1)])) (fun _ k => ?_) ?_
  · show Steps p.tables e below (s₁.setTop (mkF m 0 #[.val (.int p1), .val (.int p2)] [])) _
    refine XS.iloadN X0.here hx rfl (hb hby d9_0) rfl ?_
    show Steps p.tables e below (s₁.setTop (mkF m 1 #[.val (.int p1), .val (.int p2)] [(.int p1)])) _
    exact k
  refine OEnds.go (t' := s₁.setTop (mkF m 31 #[.val (.int p1), .val (.int p2)] [])) (fun _ k => XS.ifYes X0.here hx rfl (pc0 := 1) (pc' := 31) rfl (hb hby d9_1) rfl ((if0 _ _).trans (flt c1).2.1) (by decide) (by decide) k) ?_
  refine OEnds.go (t' := s₁.setTop (mkF m 32 #[.val (.int p1), .val (.int p2)] [(.int p2)])) (fun _ k => ?_) ?_
  · show Steps p.tables e below (s₁.setTop (mkF m 31 #[.val (.int p1), .val (.int p2)] [])) _
    refine XS.iloadN X0.here hx rfl (hb hby d9_31) rfl ?_
    show Steps p.tables e below (s₁.setTop (mkF m 32 #[.val (.int p1), .val (.int p2)] [(.int p2)])) _
    exact k
  refine OEnds.go (t' := s₁.setTop (mkF m 62 #[.val (.int p1), .val (.int p2)] [])) (fun _ k => XS.ifYes X0.here hx rfl (pc0 := 32) (pc' := 62) rfl (hb hby d9_32) rfl ((if0 _ _).trans (flt c2).2.1) (by decide) (by decide) k) ?_
  refine OEnds.go (t' := s₁.setTop (mkF m 64 #[.val (.int p1), .val (.int p2)] [(.int p2), (.int p1)])) (fun _ k => ?_) ?_
  · show Steps p.tables e below (s₁.setTop (mkF m 62 #[.val (.int p1), .val (.int p2)] [])) _
    refine XS.iloadN X0.here hx rfl (hb hby d9_62) rfl ?_
    show Steps p.tables e below (s₁.setTop (mkF m 63 #[.val (.int p1), .val (.int p2)] [(.int p1)])) _
    refine XS.iloadN X0.here hx rfl (hb hby d9_63) rfl ?_
    show Steps p.tables e below (s₁.setTop (mkF m 64 #[.val (.int p1), .val (.int p2)] [(.int p2), (.int p1)])) _
    exact k
  refine OEnds.go (t' := s₁.setTop (mkF m 103 #[.val (.int p1), .val (.int p2)] [])) (fun _ k => XS.icmpYes X0.here hx rfl (pc0 := 64) (pc' := 103) rfl (hb hby d9_64) rfl (flt c3).2.2.2 (by decide) (by decide) k) ?_
  refine OEnds.back X0 hlk (v := none) (fun _ => rfl) (fun fs hr => ?_) ?_ (by decide) (by decide)
  · exact X0.returnOut hx hrt (hb hby d9_103) hr
  · show Q9 Z p1 p2  h0 n0 _ s₁.heap _
    rw [e0]
    exact ⟨rfl, N0, rfl⟩
theorem d15_0 : decode jdk_92_method_14_code 0 = .ok (.aload_n 0, 1) := by decide +kernel
theorem d15_1 : decode jdk_92_method_14_code 1 = .ok (.getfield 11, 3) := by decide +kernel
theorem d15_4 : decode jdk_92_method_14_code 4 = .ok (.arraylength, 1) := by decide +kernel
theorem d15_5 : decode jdk_92_method_14_code 5 = .ok (.iload_n 1, 1) := by decide +kernel
theorem d15_6 : decode jdk_92_method_14_code 6 = .ok (.if_icmp .ge 32, 3) := by decide +kernel
theorem d15_38 : decode jdk_92_method_14_code 38 = .ok (.return_, 1) := by decide +kernel
theorem pn_15 : plainName "java/util/BitSet" = true := by first | (simp [plainName, overriddenIn]; done) | decide +kernel
theorem ef_rm15 (m : MethodId) (a1 : Addr) : entryFrame m #[(.ref a1), (.int (1 : Int32))] 3 = mkF m 0 #[.val (.ref a1), .val (.int (1 : Int32)), .unset] [] := by first | (simp [entryFrame, mkF, argsToLocals, Value.category]; done) | rfl
def Q15 (Z : State) (a1 : Addr) (b : Addr) (k : ClassId) (w : Int64) (h0 : Heap) (n0 : Nat) (v : Option Value) (h : Heap) (L : List Loc) : Prop := v = none ∧ Fr n0 L ∧ h = h0
set_option maxRecDepth 65536 in
set_option maxHeartbeats 40000000 in
theorem rm15 (l : Launch) (Z : State) (a0 : Array Value) (hw : ∀ d ∈ tables_1, d.before a0 Z = true) (ws : List Jvm.Cond) (a1 : Addr) (b : Addr) (k : ClassId) (w : Int64) (h0 : Heap) (n0 : Nat) (Z0 : n0 ≤ h0.size) (F1 : Fld Z h0 a1 "java/util/BitSet" "words" "[J" (.ref b)) (V1 : Arv Z h0 b k .long 1 [.long w] (.long 0)) :
    MetFree l (⟨"java/util/BitSet", "ensureCapacity", "(I)V"⟩ : MethodName) (head1 (Jvm.Cond.code (⟨"java/util/BitSet", "ensureCapacity", "(I)V"⟩ : MethodName) jdk_92_method_14_code 3 none :: ws) ({ frames := 0, cells := 0, slots := 0, locals := 0 } : Room)) (fun a U => a = #[(.ref a1), (.int (1 : Int32))] ∧ Z.Warmed39 U.vm ∧ U.heap = h0) (fun _ _ _ _ _ => True) (fun _ U o U' => ∃ v L, o = .returned v ∧ Q15 Z a1 b k w h0 n0 v U'.heap L ∧ FrameEnd U o U' L ({ frames := 0, cells := 0, slots := 0, locals := 0 } : Room).cells ({ frames := 0, cells := 0, slots := 0, locals := 0 } : Room).slots) := by
  refine MetFree.of_bodySF (plainFor_of_name pn_15) hisR ?_
  intro p e s m args below meth c s₁ Bd hml0 hP hK
  obtain ⟨rfl, hZ, hh⟩ := hP
  have hx := Bd.exec
  have hby := Bd.bytes
  have hml : c.maxLocals = 3 := hml0
  have hown : s.vm.findClass "java/util/BitSet" = some m.cls := findClass_of_methodNamed Bd.named
  have hnm := (name_of_methodNamed Bd.named Bd.method).1
  have hlk := BodyLoose.notSynchronized Bd
  have hrt := Bd.returns
  have X0 : Stand p l e ({ frames := 0, cells := 0, slots := 0, locals := 0 } : Room) s m #[(.ref a1), (.int (1 : Int32))] below meth c s₁ [] 0 0 := Stand.of_body Bd
  have e0 : s₁.heap = h0 := by rw [← hh, Bd.state]; rfl
  have N0 := Fr.nil n0
  show OEnds p e below s (Q15 Z a1 b k w h0 n0) ({ frames := 0, cells := 0, slots := 0, locals := 0 } : Room).cells ({ frames := 0, cells := 0, slots := 0, locals := 0 } : Room).slots (s₁.setTop (entryFrame m #[(.ref a1), (.int (1 : Int32))] 3))
  refine OEnds.go (t' := s₁.setTop (mkF m 0 #[.val (.ref a1), .val (.int (1 : Int32)), .unset] [])) (fun t k => castTop (ef_rm15 m a1) k) ?_
  refine OEnds.go (t' := s₁.setTop (mkF m 1 #[.val (.ref a1), .val (.int (1 : Int32)), .unset] [(.ref a1)])) (fun _ k => ?_) ?_
  · show Steps p.tables e below (s₁.setTop (mkF m 0 #[.val (.ref a1), .val (.int (1 : Int32)), .unset] [])) _
    refine XS.aloadN X0.here hx rfl (hb hby d15_0) rfl rfl ?_
    show Steps p.tables e below (s₁.setTop (mkF m 1 #[.val (.ref a1), .val (.int (1 : Int32)), .unset] [(.ref a1)])) _
    exact k
  obtain ⟨T1, X1, e1, st1⟩ := getF X0 hx hZ hown (host := "") (Or.inl (hw _ (List.mem_of_getElem? (i := 29) rfl))) Via.refl e0 F1 (g := (mkF m 1 #[.val (.ref a1), .val (.int (1 : Int32)), .unset] [(.ref a1)])) rfl rfl (hb hby d15_1)
  refine OEnds.go (t' := T1.setTop (mkF m 4 #[.val (.ref a1), .val (.int (1 : Int32)), .unset] [(.ref b)])) (fun _ k => st1 _ k) ?_
  obtain ⟨cl2, Ar2, hl2⟩ := own_blen1 V1
  refine OEnds.go (t' := T1.setTop (mkF m 5 #[.val (.ref a1), .val (.int (1 : Int32)), .unset] [(.int cl2.slots.size.toInt32)])) (fun _ k => X1.arraylength hx (by rw [e1]; exact Ar2.1) (State.isArrayOf_alike hZ.alike Ar2.2.1) (g := (mkF m 4 #[.val (.ref a1), .val (.int (1 : Int32)), .unset] [(.ref b)])) rfl rfl (hb hby d15_4) _ k) ?_
  rw [hl2]
  refine OEnds.go (t' := T1.setTop (mkF m 6 #[.val (.ref a1), .val (.int (1 : Int32)), .unset] [(.int (1 : Int32)), (.int (1 : Int32))])) (fun _ k => ?_) ?_
  · show Steps p.tables e below (T1.setTop (mkF m 5 #[.val (.ref a1), .val (.int (1 : Int32)), .unset] [(.int (1 : Int32))])) _
    refine XS.iloadN X1.here hx rfl (hb hby d15_5) rfl ?_
    show Steps p.tables e below (T1.setTop (mkF m 6 #[.val (.ref a1), .val (.int (1 : Int32)), .unset] [(.int (1 : Int32)), (.int (1 : Int32))])) _
    exact k
  refine OEnds.go (t' := T1.setTop (mkF m 38 #[.val (.ref a1), .val (.int (1 : Int32)), .unset] [])) (fun _ k => XS.icmpYes X1.here hx rfl (pc0 := 6) (pc' := 38) rfl (hb hby d15_6) rfl (flt (by decide)).2.1 (by decide) (by decide) k) ?_
  refine OEnds.back X1 hlk (v := none) (fun _ => rfl) (fun fs hr => ?_) ?_ (by decide) (by decide)
  · exact X1.returnOut hx hrt (hb hby d15_38) hr
  · show Q15 Z a1 b k w h0 n0 _ T1.heap _
    rw [e1]
    exact ⟨rfl, N0, rfl⟩
theorem d14_0 : decode jdk_92_method_15_code 0 = .ok (.iload_n 1, 1) := by decide +kernel
theorem d14_1 : decode jdk_92_method_15_code 1 = .ok (.iconst 1, 1) := by decide +kernel
theorem d14_2 : decode jdk_92_method_15_code 2 = .ok (.iadd, 1) := by decide +kernel
theorem d14_3 : decode jdk_92_method_15_code 3 = .ok (.istore_n 2, 1) := by decide +kernel
theorem d14_4 : decode jdk_92_method_15_code 4 = .ok (.aload_n 0, 1) := by decide +kernel
theorem d14_5 : decode jdk_92_method_15_code 5 = .ok (.getfield 7, 3) := by decide +kernel
theorem d14_8 : decode jdk_92_method_15_code 8 = .ok (.iload_n 2, 1) := by decide +kernel
theorem d14_9 : decode jdk_92_method_15_code 9 = .ok (.if_icmp .ge 13, 3) := by decide +kernel
theorem d14_12 : decode jdk_92_method_15_code 12 = .ok (.aload_n 0, 1) := by decide +kernel
theorem d14_13 : decode jdk_92_method_15_code 13 = .ok (.iload_n 2, 1) := by decide +kernel
theorem d14_14 : decode jdk_92_method_15_code 14 = .ok (.invokevirtual 139, 3) := by decide +kernel
theorem d14_17 : decode jdk_92_method_15_code 17 = .ok (.aload_n 0, 1) := by decide +kernel
theorem d14_18 : decode jdk_92_method_15_code 18 = .ok (.iload_n 2, 1) := by decide +kernel
theorem d14_19 : decode jdk_92_method_15_code 19 = .ok (.putfield 7, 3) := by decide +kernel
theorem d14_22 : decode jdk_92_method_15_code 22 = .ok (.return_, 1) := by decide +kernel
theorem pn_14 : plainName "java/util/BitSet" = true := by first | (simp [plainName, overriddenIn]; done) | decide +kernel
theorem pd_rm14_0 : parseMethodDescriptor "(I)V" = some ⟨[.int], none⟩ := by decide +kernel
theorem ef_rm14 (m : MethodId) (a1 : Addr) : entryFrame m #[(.ref a1), (.int (0 : Int32))] 3 = mkF m 0 #[.val (.ref a1), .val (.int (0 : Int32)), .unset] [] := by first | (simp [entryFrame, mkF, argsToLocals, Value.category]; done) | rfl
def Q14 (Z : State) (a1 : Addr) (b : Addr) (k : ClassId) (w : Int64) (h0 : Heap) (n0 : Nat) (v : Option Value) (h : Heap) (L : List Loc) : Prop := v = none ∧ Fr n0 L ∧ Keep h0 h [a1] ∧ own_Bits Z h a1 b k 1 w
set_option maxRecDepth 65536 in
set_option maxHeartbeats 40000000 in
theorem rm14 (l : Launch) (Z : State) (a0 : Array Value) (hw : ∀ d ∈ tables_1, d.before a0 Z = true) (ws : List Jvm.Cond) (a1 : Addr) (b : Addr) (k : ClassId) (w : Int64) (h0 : Heap) (n0 : Nat) (Z0 : n0 ≤ h0.size) (B1 : own_Bits Z h0 a1 b k 0 w) (g_a1 : n0 ≤ a1) :
    MetFree l (⟨"java/util/BitSet", "expandTo", "(I)V"⟩ : MethodName) (head1 (Jvm.Cond.code (⟨"java/util/BitSet", "expandTo", "(I)V"⟩ : MethodName) jdk_92_method_15_code 3 none :: ws) ({ frames := 1, cells := 0, slots := 0, locals := 14 } : Room)) (fun a U => a = #[(.ref a1), (.int (0 : Int32))] ∧ Z.Warmed39 U.vm ∧ U.heap = h0) (fun _ _ _ _ _ => True) (fun _ U o U' => ∃ v L, o = .returned v ∧ Q14 Z a1 b k w h0 n0 v U'.heap L ∧ FrameEnd U o U' L ({ frames := 1, cells := 0, slots := 0, locals := 14 } : Room).cells ({ frames := 1, cells := 0, slots := 0, locals := 14 } : Room).slots) := by
  refine MetFree.of_bodySF (plainFor_of_name pn_14) hisR ?_
  intro p e s m args below meth c s₁ Bd hml0 hP hK
  obtain ⟨rfl, hZ, hh⟩ := hP
  have hx := Bd.exec
  have hby := Bd.bytes
  have hml : c.maxLocals = 3 := hml0
  have hown : s.vm.findClass "java/util/BitSet" = some m.cls := findClass_of_methodNamed Bd.named
  have hnm := (name_of_methodNamed Bd.named Bd.method).1
  have hlk := BodyLoose.notSynchronized Bd
  have hrt := Bd.returns
  have X0 : Stand p l e ({ frames := 1, cells := 0, slots := 0, locals := 14 } : Room) s m #[(.ref a1), (.int (0 : Int32))] below meth c s₁ [] 0 0 := Stand.of_body Bd
  have e0 : s₁.heap = h0 := by rw [← hh, Bd.state]; rfl
  have N0 := Fr.nil n0
  show OEnds p e below s (Q14 Z a1 b k w h0 n0) ({ frames := 1, cells := 0, slots := 0, locals := 14 } : Room).cells ({ frames := 1, cells := 0, slots := 0, locals := 14 } : Room).slots (s₁.setTop (entryFrame m #[(.ref a1), (.int (0 : Int32))] 3))
  refine OEnds.go (t' := s₁.setTop (mkF m 0 #[.val (.ref a1), .val (.int (0 : Int32)), .unset] [])) (fun t k => castTop (ef_rm14 m a1) k) ?_
  obtain ⟨E_a1, F_wordsInUse_a1, F_words_a1, V_b⟩ := B1
  have ne_a1_b : a1 ≠ b := Exa.neArv E_a1 V_b (hw _ (List.mem_of_getElem? (i := 10) rfl))
  refine OEnds.go (t' := s₁.setTop (mkF m 5 #[.val (.ref a1), .val (.int (0 : Int32)), .val (.int ((0 : Int32) + (1 : Int32)))] [(.ref a1)])) (fun _ k => ?_) ?_
  · show Steps p.tables e below (s₁.setTop (mkF m 0 #[.val (.ref a1), .val (.int (0 : Int32)), .unset] [])) _
    refine XS.iloadN X0.here hx rfl (hb hby d14_0) rfl ?_
    show Steps p.tables e below (s₁.setTop (mkF m 1 #[.val (.ref a1), .val (.int (0 : Int32)), .unset] [(.int (0 : Int32))])) _
    refine XS.iconst X0.here hx rfl (hb hby d14_1) ?_
    show Steps p.tables e below (s₁.setTop (mkF m 2 #[.val (.ref a1), .val (.int (0 : Int32)), .unset] [(.int (1 : Int32)), (.int (0 : Int32))])) _
    refine XS.iadd X0.here hx rfl (hb hby d14_2) rfl ?_
    show Steps p.tables e below (s₁.setTop (mkF m 3 #[.val (.ref a1), .val (.int (0 : Int32)), .unset] [(.int ((0 : Int32) + (1 : Int32)))])) _
    refine XS.istoreN X0.here hx rfl (hb hby d14_3) rfl (l' := #[.val (.ref a1), .val (.int (0 : Int32)), .val (.int ((0 : Int32) + (1 : Int32)))]) rfl ?_
    show Steps p.tables e below (s₁.setTop (mkF m 4 #[.val (.ref a1), .val (.int (0 : Int32)), .val (.int ((0 : Int32) + (1 : Int32)))] [])) _
    refine XS.aloadN X0.here hx rfl (hb hby d14_4) rfl rfl ?_
    show Steps p.tables e below (s₁.setTop (mkF m 5 #[.val (.ref a1), .val (.int (0 : Int32)), .val (.int ((0 : Int32) + (1 : Int32)))] [(.ref a1)])) _
    exact k
  obtain ⟨T1, X1, e1, st1⟩ := getF X0 hx hZ hown (host := "") (Or.inl (hw _ (List.mem_of_getElem? (i := 16) rfl))) Via.refl e0 F_wordsInUse_a1 (g := (mkF m 5 #[.val (.ref a1), .val (.int (0 : Int32)), .val (.int ((0 : Int32) + (1 : Int32)))] [(.ref a1)])) rfl rfl (hb hby d14_5)
  refine OEnds.go (t' := T1.setTop (mkF m 8 #[.val (.ref a1), .val (.int (0 : Int32)), .val (.int ((0 : Int32) + (1 : Int32)))] [(.int (0 : Int32))])) (fun _ k => st1 _ k) ?_
  refine OEnds.go (t' := T1.setTop (mkF m 9 #[.val (.ref a1), .val (.int (0 : Int32)), .val (.int ((0 : Int32) + (1 : Int32)))] [(.int ((0 : Int32) + (1 : Int32))), (.int (0 : Int32))])) (fun _ k => ?_) ?_
  · show Steps p.tables e below (T1.setTop (mkF m 8 #[.val (.ref a1), .val (.int (0 : Int32)), .val (.int ((0 : Int32) + (1 : Int32)))] [(.int (0 : Int32))])) _
    refine XS.iloadN X1.here hx rfl (hb hby d14_8) rfl ?_
    show Steps p.tables e below (T1.setTop (mkF m 9 #[.val (.ref a1), .val (.int (0 : Int32)), .val (.int ((0 : Int32) + (1 : Int32)))] [(.int ((0 : Int32) + (1 : Int32))), (.int (0 : Int32))])) _
    exact k
  refine OEnds.go (t' := T1.setTop (mkF m 12 #[.val (.ref a1), .val (.int (0 : Int32)), .val (.int ((0 : Int32) + (1 : Int32)))] [])) (fun _ k => XS.icmpNo X1.here hx rfl (hb hby d14_9) rfl (tlt (by decide)).2.1 k) ?_
  rw [show ((0 : Int32) + (1 : Int32)) = (1 : Int32) from by decide]
  refine OEnds.go (t' := T1.setTop (mkF m 14 #[.val (.ref a1), .val (.int (0 : Int32)), .val (.int (1 : Int32))] [(.int (1 : Int32)), (.ref a1)])) (fun _ k => ?_) ?_
  · show Steps p.tables e below (T1.setTop (mkF m 12 #[.val (.ref a1), .val (.int (0 : Int32)), .val (.int (1 : Int32))] [])) _
    refine XS.aloadN X1.here hx rfl (hb hby d14_12) rfl rfl ?_
    show Steps p.tables e below (T1.setTop (mkF m 13 #[.val (.ref a1), .val (.int (0 : Int32)), .val (.int (1 : Int32))] [(.ref a1)])) _
    refine XS.iloadN X1.here hx rfl (hb hby d14_13) rfl ?_
    show Steps p.tables e below (T1.setTop (mkF m 14 #[.val (.ref a1), .val (.int (0 : Int32)), .val (.int (1 : Int32))] [(.int (1 : Int32)), (.ref a1)])) _
    exact k
  obtain ⟨cq2, q2, q2x⟩ := (E_a1).cell
  obtain ⟨_, _, ⟨T2, L2, k2, n2⟩, -, X2, ⟨Lc2, hQ2, l2, y2, z2⟩, st2⟩ := X1.privateBack hx (y := (⟨"java/util/BitSet", "ensureCapacity", "(I)V"⟩ : MethodName)) hown (mvT hZ (hw _ (List.mem_of_getElem? (i := 85) rfl))) (mvT hZ (hw _ (List.mem_of_getElem? (i := 86) rfl))) (mvT hZ (hw _ (List.mem_of_getElem? (i := 88) rfl))) (Cond.privateMethod_at (mvP hZ (hw _ (List.mem_of_getElem? (i := 87) rfl)) (args := #[]))) (mvT hZ (hw _ (List.mem_of_getElem? (i := 89) rfl))) (by decide) (backOf (W := 0) (rm15 l Z a0 hw [] a1 b k w h0 n0 Z0 F_words_a1 V_b) hZ (hw _ (List.mem_of_getElem? (i := 89) rfl)) (hw _ (List.mem_of_getElem? (i := 11) rfl)) (by decide) (by decide)) (g := (mkF m 14 #[.val (.ref a1), .val (.int (0 : Int32)), .val (.int (1 : Int32))] [(.int (1 : Int32)), (.ref a1)])) rfl (by rw [hml]; rfl) (Steps.refl _) (a := a1) (by rw [e1]; exact q2) q2x (argsL := [(.int (1 : Int32))]) (rest := []) (lenOf pd_rm14_0 rfl) rfl (by show 2 * 0 + _ ≤ _; exact Nat.le_of_eq rfl) (hb hby d14_14) (fun _ _ => ⟨rfl, e1, (by decide : 0 + 0 ≤ _), (by decide : 0 + 0 ≤ _)⟩)
  dsimp only [Pt.U, Pt.locs, Pt.cells, Pt.slots] at X2 l2 y2 z2 st2 hQ2
  subst l2 y2 z2
  obtain ⟨rfl, N2q, eh⟩ := hQ2
  have N2 := Fr.app N0 N2q
  have eh2 := eh
  refine OEnds.go (t' := T2.setTop (mkF m 17 #[.val (.ref a1), .val (.int (0 : Int32)), .val (.int (1 : Int32))] [])) (fun _ k => st2.trans k) ?_
  refine OEnds.go (t' := T2.setTop (mkF m 19 #[.val (.ref a1), .val (.int (0 : Int32)), .val (.int (1 : Int32))] [(.int (1 : Int32)), (.ref a1)])) (fun _ k => ?_) ?_
  · show Steps p.tables e below (T2.setTop (mkF m 17 #[.val (.ref a1), .val (.int (0 : Int32)), .val (.int (1 : Int32))] [])) _
    refine XS.aloadN X2.here hx rfl (hb hby d14_17) rfl rfl ?_
    show Steps p.tables e below (T2.setTop (mkF m 18 #[.val (.ref a1), .val (.int (0 : Int32)), .val (.int (1 : Int32))] [(.ref a1)])) _
    refine XS.iloadN X2.here hx rfl (hb hby d14_18) rfl ?_
    show Steps p.tables e below (T2.setTop (mkF m 19 #[.val (.ref a1), .val (.int (0 : Int32)), .val (.int (1 : Int32))] [(.int (1 : Int32)), (.ref a1)])) _
    exact k
  obtain ⟨T3, h3, X3, e3, W3, st3⟩ := putF X2 hx hZ hown (host := "") (Or.inl (hw _ (List.mem_of_getElem? (i := 16) rfl))) Via.refl eh2 F_wordsInUse_a1 E_a1 (Or.inl (hw _ (List.mem_of_getElem? (i := 17) rfl))) (hw _ (List.mem_of_getElem? (i := 10) rfl)) (ty := .int) (by decide) rfl rfl (g := (mkF m 19 #[.val (.ref a1), .val (.int (0 : Int32)), .val (.int (1 : Int32))] [(.int (1 : Int32)), (.ref a1)])) rfl rfl (hb hby d14_19)
  have N3 := Fr.snoc X3 N2 g_a1
  have E_a1 := E_a1.wr W3
  have F_wordsInUse_a1 := F_wordsInUse_a1.same W3
  have F_words_a1 := F_words_a1.other W3 (Or.inr (slot_ne (Or.inl (hw _ (List.mem_of_getElem? (i := 30) rfl))) (Or.inl (hw _ (List.mem_of_getElem? (i := 17) rfl))) (by decide) (t := (.array .long)) (t' := .int) (by decide) (by decide)))
  have V_b := V_b.other W3 (Ne.symm ne_a1_b)
  have Z3 : n0 ≤ h3.size := Nat.le_trans Z0 (Keep.of_wr W3).1
  have K3 := (Keep.refl h0 [a1]).wr W3 (Or.inl (List.mem_of_getElem? (i := 0) rfl))
  refine OEnds.go (t' := T3.setTop (mkF m 22 #[.val (.ref a1), .val (.int (0 : Int32)), .val (.int (1 : Int32))] [])) (fun _ k => st3 _ k) ?_
  refine OEnds.back X3 hlk (v := none) (fun _ => rfl) (fun fs hr => ?_) ?_ (by decide) (by decide)
  · exact X3.returnOut hx hrt (hb hby d14_22) hr
  · show Q14 Z a1 b k w h0 n0 _ T3.heap _
    rw [e3]
    exact ⟨rfl, N3, K3, E_a1, F_wordsInUse_a1, F_words_a1, V_b⟩
theorem d8_0 : decode jdk_92_method_21_code 0 = .ok (.iload_n 1, 1) := by decide +kernel
theorem d8_1 : decode jdk_92_method_21_code 1 = .ok (.iload_n 2, 1) := by decide +kernel
theorem d8_2 : decode jdk_92_method_21_code 2 = .ok (.invokestatic 161, 3) := by decide +kernel
theorem d8_5 : decode jdk_92_method_21_code 5 = .ok (.iload_n 1, 1) := by decide +kernel
theorem d8_6 : decode jdk_92_method_21_code 6 = .ok (.iload_n 2, 1) := by decide +kernel
theorem d8_7 : decode jdk_92_method_21_code 7 = .ok (.if_icmp .ne 4, 3) := by decide +kernel
theorem d8_10 : decode jdk_92_method_21_code 10 = .ok (.return_, 1) := by decide +kernel
theorem d8_11 : decode jdk_92_method_21_code 11 = .ok (.iload_n 1, 1) := by decide +kernel
theorem d8_12 : decode jdk_92_method_21_code 12 = .ok (.invokestatic 52, 3) := by decide +kernel
theorem d8_15 : decode jdk_92_method_21_code 15 = .ok (.istore_n 3, 1) := by decide +kernel
theorem d8_16 : decode jdk_92_method_21_code 16 = .ok (.iload_n 2, 1) := by decide +kernel
theorem d8_17 : decode jdk_92_method_21_code 17 = .ok (.iconst 1, 1) := by decide +kernel
theorem d8_18 : decode jdk_92_method_21_code 18 = .ok (.isub, 1) := by decide +kernel
theorem d8_19 : decode jdk_92_method_21_code 19 = .ok (.invokestatic 52, 3) := by decide +kernel
theorem d8_22 : decode jdk_92_method_21_code 22 = .ok (.istore 4, 2) := by decide +kernel
theorem d8_24 : decode jdk_92_method_21_code 24 = .ok (.aload_n 0, 1) := by decide +kernel
theorem d8_25 : decode jdk_92_method_21_code 25 = .ok (.iload 4, 2) := by decide +kernel
theorem d8_27 : decode jdk_92_method_21_code 27 = .ok (.invokevirtual 155, 3) := by decide +kernel
theorem d8_30 : decode jdk_92_method_21_code 30 = .ok (.ldc2_w 165, 3) := by decide +kernel
theorem d8_33 : decode jdk_92_method_21_code 33 = .ok (.iload_n 1, 1) := by decide +kernel
theorem d8_34 : decode jdk_92_method_21_code 34 = .ok (.lshl, 1) := by decide +kernel
theorem d8_35 : decode jdk_92_method_21_code 35 = .ok (.lstore 5, 2) := by decide +kernel
theorem d8_37 : decode jdk_92_method_21_code 37 = .ok (.ldc2_w 165, 3) := by decide +kernel
theorem d8_40 : decode jdk_92_method_21_code 40 = .ok (.iload_n 2, 1) := by decide +kernel
theorem d8_41 : decode jdk_92_method_21_code 41 = .ok (.ineg, 1) := by decide +kernel
theorem d8_42 : decode jdk_92_method_21_code 42 = .ok (.lushr, 1) := by decide +kernel
theorem d8_43 : decode jdk_92_method_21_code 43 = .ok (.lstore 7, 2) := by decide +kernel
theorem d8_45 : decode jdk_92_method_21_code 45 = .ok (.iload_n 3, 1) := by decide +kernel
theorem d8_46 : decode jdk_92_method_21_code 46 = .ok (.iload 4, 2) := by decide +kernel
theorem d8_48 : decode jdk_92_method_21_code 48 = .ok (.if_icmp .ne 20, 3) := by decide +kernel
theorem d8_51 : decode jdk_92_method_21_code 51 = .ok (.aload_n 0, 1) := by decide +kernel
theorem d8_52 : decode jdk_92_method_21_code 52 = .ok (.getfield 11, 3) := by decide +kernel
theorem d8_55 : decode jdk_92_method_21_code 55 = .ok (.iload_n 3, 1) := by decide +kernel
theorem d8_56 : decode jdk_92_method_21_code 56 = .ok (.dup2, 1) := by decide +kernel
theorem d8_57 : decode jdk_92_method_21_code 57 = .ok (.laload, 1) := by decide +kernel
theorem d8_58 : decode jdk_92_method_21_code 58 = .ok (.lload 5, 2) := by decide +kernel
theorem d8_60 : decode jdk_92_method_21_code 60 = .ok (.lload 7, 2) := by decide +kernel
theorem d8_62 : decode jdk_92_method_21_code 62 = .ok (.land, 1) := by decide +kernel
theorem d8_63 : decode jdk_92_method_21_code 63 = .ok (.lor, 1) := by decide +kernel
theorem d8_64 : decode jdk_92_method_21_code 64 = .ok (.lastore, 1) := by decide +kernel
theorem d8_65 : decode jdk_92_method_21_code 65 = .ok (.goto 54, 3) := by decide +kernel
theorem d8_119 : decode jdk_92_method_21_code 119 = .ok (.aload_n 0, 1) := by decide +kernel
theorem d8_120 : decode jdk_92_method_21_code 120 = .ok (.invokevirtual 56, 3) := by decide +kernel
theorem d8_123 : decode jdk_92_method_21_code 123 = .ok (.return_, 1) := by decide +kernel
theorem pn_8 : plainName "java/util/BitSet" = true := by first | (simp [plainName, overriddenIn]; done) | decide +kernel
theorem pd_rm8_0 : parseMethodDescriptor "(II)V" = some ⟨[.int, .int], none⟩ := by decide +kernel
theorem pd_rm8_1 : parseMethodDescriptor "(I)I" = some ⟨[.int], some .int⟩ := by decide +kernel
theorem pd_rm8_2 : parseMethodDescriptor "(I)V" = some ⟨[.int], none⟩ := by decide +kernel
theorem pd_rm8_3 : parseMethodDescriptor "()V" = some ⟨[], none⟩ := by decide +kernel
theorem ef_rm8 (m : MethodId) (a1 : Addr) (p2 : Int32) : entryFrame m #[(.ref a1), (.int (0 : Int32)), (.int p2)] 10 = mkF m 0 #[.val (.ref a1), .val (.int (0 : Int32)), .val (.int p2), .unset, .unset, .unset, .unset, .unset, .unset, .unset] [] := by first | (simp [entryFrame, mkF, argsToLocals, Value.category]; done) | rfl
def Q8 (Z : State) (a1 : Addr) (p2 : Int32) (b : Addr) (k : ClassId) (h0 : Heap) (n0 : Nat) (v : Option Value) (h : Heap) (L : List Loc) : Prop := v = none ∧ Fr n0 L ∧ Keep h0 h [a1, b] ∧ own_Bits Z h a1 b k (own_u p2) (own_w p2)
set_option maxRecDepth 65536 in
set_option maxHeartbeats 40000000 in
theorem rm8 (l : Launch) (Z : State) (a0 : Array Value) (hw : ∀ d ∈ tables_1, d.before a0 Z = true) (ws : List Jvm.Cond) (a1 : Addr) (p2 : Int32) (b : Addr) (k : ClassId) (h0 : Heap) (n0 : Nat) (Z0 : n0 ≤ h0.size) (S_A : Sta Z h0 "java/util/BitSet" "$assertionsDisabled" "Z" (.int 1)) (hp : own_N p2) (B1 : own_Bits Z h0 a1 b k 0 0) (g_a1 : n0 ≤ a1) (g_b : n0 ≤ b) :
    MetFree l (⟨"java/util/BitSet", "set", "(II)V"⟩ : MethodName) (head1 (Jvm.Cond.code (⟨"java/util/BitSet", "set", "(II)V"⟩ : MethodName) jdk_92_method_21_code 10 none :: ws) ({ frames := 2, cells := 0, slots := 0, locals := 28 } : Room)) (fun a U => a = #[(.ref a1), (.int (0 : Int32)), (.int p2)] ∧ Z.Warmed39 U.vm ∧ U.heap = h0) (fun _ _ _ _ _ => True) (fun _ U o U' => ∃ v L, o = .returned v ∧ Q8 Z a1 p2 b k h0 n0 v U'.heap L ∧ FrameEnd U o U' L ({ frames := 2, cells := 0, slots := 0, locals := 28 } : Room).cells ({ frames := 2, cells := 0, slots := 0, locals := 28 } : Room).slots) := by
  refine MetFree.of_bodySF (plainFor_of_name pn_8) hisR ?_
  intro p e s m args below meth c s₁ Bd hml0 hP hK
  obtain ⟨rfl, hZ, hh⟩ := hP
  have hx := Bd.exec
  have hby := Bd.bytes
  have hml : c.maxLocals = 10 := hml0
  have hown : s.vm.findClass "java/util/BitSet" = some m.cls := findClass_of_methodNamed Bd.named
  have hnm := (name_of_methodNamed Bd.named Bd.method).1
  have hlk := BodyLoose.notSynchronized Bd
  have hrt := Bd.returns
  have X0 : Stand p l e ({ frames := 2, cells := 0, slots := 0, locals := 28 } : Room) s m #[(.ref a1), (.int (0 : Int32)), (.int p2)] below meth c s₁ [] 0 0 := Stand.of_body Bd
  have e0 : s₁.heap = h0 := by rw [← hh, Bd.state]; rfl
  have N0 := Fr.nil n0
  show OEnds p e below s (Q8 Z a1 p2 b k h0 n0) ({ frames := 2, cells := 0, slots := 0, locals := 28 } : Room).cells ({ frames := 2, cells := 0, slots := 0, locals := 28 } : Room).slots (s₁.setTop (entryFrame m #[(.ref a1), (.int (0 : Int32)), (.int p2)] 10))
  refine OEnds.go (t' := s₁.setTop (mkF m 0 #[.val (.ref a1), .val (.int (0 : Int32)), .val (.int p2), .unset, .unset, .unset, .unset, .unset, .unset, .unset] [])) (fun t k => castTop (ef_rm8 m a1 p2) k) ?_
  refine OEnds.go (t' := s₁.setTop (mkF m 2 #[.val (.ref a1), .val (.int (0 : Int32)), .val (.int p2), .unset, .unset, .unset, .unset, .unset, .unset, .unset] [(.int p2), (.int (0 : Int32))])) (fun _ k => ?_) ?_
  · show Steps p.tables e below (s₁.setTop (mkF m 0 #[.val (.ref a1), .val (.int (0 : Int32)), .val (.int p2), .unset, .unset, .unset, .unset, .unset, .unset, .unset] [])) _
    refine XS.iloadN X0.here hx rfl (hb hby d8_0) rfl ?_
    show Steps p.tables e below (s₁.setTop (mkF m 1 #[.val (.ref a1), .val (.int (0 : Int32)), .val (.int p2), .unset, .unset, .unset, .unset, .unset, .unset, .unset] [(.int (0 : Int32))])) _
    refine XS.iloadN X0.here hx rfl (hb hby d8_1) rfl ?_
    show Steps p.tables e below (s₁.setTop (mkF m 2 #[.val (.ref a1), .val (.int (0 : Int32)), .val (.int p2), .unset, .unset, .unset, .unset, .unset, .unset, .unset] [(.int p2), (.int (0 : Int32))])) _
    exact k
  obtain ⟨_, _, ⟨T1, L1, k1, n1⟩, -, X1, ⟨Lc1, hQ1, l1, y1, z1⟩, st1⟩ := Jvm.LawKit.callS X0 hx (y := (⟨"java/util/BitSet", "checkRange", "(II)V"⟩ : MethodName)) hown (mvT hZ (hw _ (List.mem_of_getElem? (i := 54) rfl))) (mvT hZ (hw _ (List.mem_of_getElem? (i := 55) rfl))) (mvT hZ (hw _ (List.mem_of_getElem? (i := 11) rfl))) (mvT hZ (hw _ (List.mem_of_getElem? (i := 56) rfl))) (by decide) (backOf (W := 0) (rm9 l Z a0 hw [] (0 : Int32) p2 h0 n0 Z0 (by decide) (own_nn hp) (own_nn hp)) hZ (hw _ (List.mem_of_getElem? (i := 56) rfl)) (hw _ (List.mem_of_getElem? (i := 11) rfl)) (by decide) (by decide)) (g := (mkF m 2 #[.val (.ref a1), .val (.int (0 : Int32)), .val (.int p2), .unset, .unset, .unset, .unset, .unset, .unset, .unset] [(.int p2), (.int (0 : Int32))])) rfl (by rw [hml]; rfl) (argsL := [(.int (0 : Int32)), (.int p2)]) (rest := []) (lenOf pd_rm8_0 rfl) rfl (by show 2 * 0 + _ ≤ _; exact Nat.le_of_eq rfl) (hb hby d8_2) (fun _ _ => ⟨rfl, e0, (by decide : 0 + 0 ≤ _), (by decide : 0 + 0 ≤ _)⟩)
  dsimp only [Pt.U, Pt.locs, Pt.cells, Pt.slots] at X1 l1 y1 z1 st1 hQ1
  subst l1 y1 z1
  obtain ⟨rfl, N1q, eh⟩ := hQ1
  have N1 := Fr.app N0 N1q
  have eh1 := eh
  refine OEnds.go (t' := T1.setTop (mkF m 5 #[.val (.ref a1), .val (.int (0 : Int32)), .val (.int p2), .unset, .unset, .unset, .unset, .unset, .unset, .unset] [])) (fun _ k => st1 _ k) ?_
  refine OEnds.go (t' := T1.setTop (mkF m 7 #[.val (.ref a1), .val (.int (0 : Int32)), .val (.int p2), .unset, .unset, .unset, .unset, .unset, .unset, .unset] [(.int p2), (.int (0 : Int32))])) (fun _ k => ?_) ?_
  · show Steps p.tables e below (T1.setTop (mkF m 5 #[.val (.ref a1), .val (.int (0 : Int32)), .val (.int p2), .unset, .unset, .unset, .unset, .unset, .unset, .unset] [])) _
    refine XS.iloadN X1.here hx rfl (hb hby d8_5) rfl ?_
    show Steps p.tables e below (T1.setTop (mkF m 6 #[.val (.ref a1), .val (.int (0 : Int32)), .val (.int p2), .unset, .unset, .unset, .unset, .unset, .unset, .unset] [(.int (0 : Int32))])) _
    refine XS.iloadN X1.here hx rfl (hb hby d8_6) rfl ?_
    show Steps p.tables e below (T1.setTop (mkF m 7 #[.val (.ref a1), .val (.int (0 : Int32)), .val (.int p2), .unset, .unset, .unset, .unset, .unset, .unset, .unset] [(.int p2), (.int (0 : Int32))])) _
    exact k
  by_cases h7 : (0 : Int32) = p2
  · refine OEnds.go (t' := T1.setTop (mkF m 10 #[.val (.ref a1), .val (.int (0 : Int32)), .val (.int p2), .unset, .unset, .unset, .unset, .unset, .unset, .unset] [])) (fun _ k => XS.icmpNo X1.here hx rfl (hb hby d8_7) rfl (teq h7).2 k) ?_
    refine OEnds.back X1 hlk (v := none) (fun _ => rfl) (fun fs hr => ?_) ?_ (by decide) (by decide)
    · exact X1.returnOut hx hrt (hb hby d8_10) hr
    · show Q8 Z a1 p2 b k h0 n0 _ T1.heap _
      rw [eh1]
      exact ⟨rfl, N1, (Keep.refl h0 [a1, b]), by rw [own_u, own_w, if_pos h7.symm, if_pos h7.symm]; exact B1⟩
  · refine OEnds.go (t' := T1.setTop (mkF m 11 #[.val (.ref a1), .val (.int (0 : Int32)), .val (.int p2), .unset, .unset, .unset, .unset, .unset, .unset, .unset] [])) (fun _ k => XS.icmpYes X1.here hx rfl (pc0 := 7) (pc' := 11) rfl (hb hby d8_7) rfl (feq h7).2 (by decide) (by decide) k) ?_
    have h7x : ¬ p2 = 0 := fun q => h7 q.symm
    refine OEnds.go (t' := T1.setTop (mkF m 12 #[.val (.ref a1), .val (.int (0 : Int32)), .val (.int p2), .unset, .unset, .unset, .unset, .unset, .unset, .unset] [(.int (0 : Int32))])) (fun _ k => ?_) ?_
    · show Steps p.tables e below (T1.setTop (mkF m 11 #[.val (.ref a1), .val (.int (0 : Int32)), .val (.int p2), .unset, .unset, .unset, .unset, .unset, .unset, .unset] [])) _
      refine XS.iloadN X1.here hx rfl (hb hby d8_11) rfl ?_
      show Steps p.tables e below (T1.setTop (mkF m 12 #[.val (.ref a1), .val (.int (0 : Int32)), .val (.int p2), .unset, .unset, .unset, .unset, .unset, .unset, .unset] [(.int (0 : Int32))])) _
      exact k
    obtain ⟨_, _, ⟨T2, L2, k2, n2⟩, -, X2, ⟨Lc2, hQ2, l2, y2, z2⟩, st2⟩ := Jvm.LawKit.callS X1 hx (y := (⟨"java/util/BitSet", "wordIndex", "(I)I"⟩ : MethodName)) hown (mvT hZ (hw _ (List.mem_of_getElem? (i := 25) rfl))) (mvT hZ (hw _ (List.mem_of_getElem? (i := 26) rfl))) (mvT hZ (hw _ (List.mem_of_getElem? (i := 11) rfl))) (mvT hZ (hw _ (List.mem_of_getElem? (i := 27) rfl))) (by decide) (backOf (W := 0) (rm5 l Z a0 hw [] (0 : Int32) h0 n0 Z0 ) hZ (hw _ (List.mem_of_getElem? (i := 27) rfl)) (hw _ (List.mem_of_getElem? (i := 11) rfl)) (by decide) (by decide)) (g := (mkF m 12 #[.val (.ref a1), .val (.int (0 : Int32)), .val (.int p2), .unset, .unset, .unset, .unset, .unset, .unset, .unset] [(.int (0 : Int32))])) rfl (by rw [hml]; rfl) (argsL := [(.int (0 : Int32))]) (rest := []) (lenOf pd_rm8_1 rfl) rfl (by show 2 * 0 + _ ≤ _; exact Nat.le_of_eq rfl) (hb hby d8_12) (fun _ _ => ⟨rfl, eh1, (by decide : 0 + 0 ≤ _), (by decide : 0 + 0 ≤ _)⟩)
    dsimp only [Pt.U, Pt.locs, Pt.cells, Pt.slots] at X2 l2 y2 z2 st2 hQ2
    subst l2 y2 z2
    obtain ⟨rfl, N2q, eh⟩ := hQ2
    have N2 := Fr.app N1 N2q
    have eh2 := eh
    refine OEnds.go (t' := T2.setTop (mkF m 15 #[.val (.ref a1), .val (.int (0 : Int32)), .val (.int p2), .unset, .unset, .unset, .unset, .unset, .unset, .unset] [(.int ((0 : Int32) >>> ((6 : Int32) &&& 31)))])) (fun _ k => st2 _ k) ?_
    rw [show ((0 : Int32) >>> ((6 : Int32) &&& 31)) = (0 : Int32) from by decide]
    refine OEnds.go (t' := T2.setTop (mkF m 19 #[.val (.ref a1), .val (.int (0 : Int32)), .val (.int p2), .val (.int (0 : Int32)), .unset, .unset, .unset, .unset, .unset, .unset] [(.int (p2 - (1 : Int32)))])) (fun _ k => ?_) ?_
    · show Steps p.tables e below (T2.setTop (mkF m 15 #[.val (.ref a1), .val (.int (0 : Int32)), .val (.int p2), .unset, .unset, .unset, .unset, .unset, .unset, .unset] [(.int (0 : Int32))])) _
      refine XS.istoreN X2.here hx rfl (hb hby d8_15) rfl (l' := #[.val (.ref a1), .val (.int (0 : Int32)), .val (.int p2), .val (.int (0 : Int32)), .unset, .unset, .unset, .unset, .unset, .unset]) rfl ?_
      show Steps p.tables e below (T2.setTop (mkF m 16 #[.val (.ref a1), .val (.int (0 : Int32)), .val (.int p2), .val (.int (0 : Int32)), .unset, .unset, .unset, .unset, .unset, .unset] [])) _
      refine XS.iloadN X2.here hx rfl (hb hby d8_16) rfl ?_
      show Steps p.tables e below (T2.setTop (mkF m 17 #[.val (.ref a1), .val (.int (0 : Int32)), .val (.int p2), .val (.int (0 : Int32)), .unset, .unset, .unset, .unset, .unset, .unset] [(.int p2)])) _
      refine XS.iconst X2.here hx rfl (hb hby d8_17) ?_
      show Steps p.tables e below (T2.setTop (mkF m 18 #[.val (.ref a1), .val (.int (0 : Int32)), .val (.int p2), .val (.int (0 : Int32)), .unset, .unset, .unset, .unset, .unset, .unset] [(.int (1 : Int32)), (.int p2)])) _
      refine XS.isub X2.here hx rfl (hb hby d8_18) rfl ?_
      show Steps p.tables e below (T2.setTop (mkF m 19 #[.val (.ref a1), .val (.int (0 : Int32)), .val (.int p2), .val (.int (0 : Int32)), .unset, .unset, .unset, .unset, .unset, .unset] [(.int (p2 - (1 : Int32)))])) _
      exact k
    obtain ⟨_, _, ⟨T3, L3, k3, n3⟩, -, X3, ⟨Lc3, hQ3, l3, y3, z3⟩, st3⟩ := Jvm.LawKit.callS X2 hx (y := (⟨"java/util/BitSet", "wordIndex", "(I)I"⟩ : MethodName)) hown (mvT hZ (hw _ (List.mem_of_getElem? (i := 25) rfl))) (mvT hZ (hw _ (List.mem_of_getElem? (i := 26) rfl))) (mvT hZ (hw _ (List.mem_of_getElem? (i := 11) rfl))) (mvT hZ (hw _ (List.mem_of_getElem? (i := 27) rfl))) (by decide) (backOf (W := 0) (rm5 l Z a0 hw [] (p2 - (1 : Int32)) h0 n0 Z0 ) hZ (hw _ (List.mem_of_getElem? (i := 27) rfl)) (hw _ (List.mem_of_getElem? (i := 11) rfl)) (by decide) (by decide)) (g := (mkF m 19 #[.val (.ref a1), .val (.int (0 : Int32)), .val (.int p2), .val (.int (0 : Int32)), .unset, .unset, .unset, .unset, .unset, .unset] [(.int (p2 - (1 : Int32)))])) rfl (by rw [hml]; rfl) (argsL := [(.int (p2 - (1 : Int32)))]) (rest := []) (lenOf pd_rm8_1 rfl) rfl (by show 2 * 0 + _ ≤ _; exact Nat.le_of_eq rfl) (hb hby d8_19) (fun _ _ => ⟨rfl, eh2, (by decide : 0 + 0 ≤ _), (by decide : 0 + 0 ≤ _)⟩)
    dsimp only [Pt.U, Pt.locs, Pt.cells, Pt.slots] at X3 l3 y3 z3 st3 hQ3
    subst l3 y3 z3
    obtain ⟨rfl, N3q, eh⟩ := hQ3
    have N3 := Fr.app N2 N3q
    have eh3 := eh
    refine OEnds.go (t' := T3.setTop (mkF m 22 #[.val (.ref a1), .val (.int (0 : Int32)), .val (.int p2), .val (.int (0 : Int32)), .unset, .unset, .unset, .unset, .unset, .unset] [(.int ((p2 - (1 : Int32)) >>> ((6 : Int32) &&& 31)))])) (fun _ k => st3 _ k) ?_
    rw [own_wi hp h7x]
    refine OEnds.go (t' := T3.setTop (mkF m 27 #[.val (.ref a1), .val (.int (0 : Int32)), .val (.int p2), .val (.int (0 : Int32)), .val (.int (0 : Int32)), .unset, .unset, .unset, .unset, .unset] [(.int (0 : Int32)), (.ref a1)])) (fun _ k => ?_) ?_
    · show Steps p.tables e below (T3.setTop (mkF m 22 #[.val (.ref a1), .val (.int (0 : Int32)), .val (.int p2), .val (.int (0 : Int32)), .unset, .unset, .unset, .unset, .unset, .unset] [(.int (0 : Int32))])) _
      refine XS.istore X3.here hx rfl (hb hby d8_22) rfl (l' := #[.val (.ref a1), .val (.int (0 : Int32)), .val (.int p2), .val (.int (0 : Int32)), .val (.int (0 : Int32)), .unset, .unset, .unset, .unset, .unset]) rfl ?_
      show Steps p.tables e below (T3.setTop (mkF m 24 #[.val (.ref a1), .val (.int (0 : Int32)), .val (.int p2), .val (.int (0 : Int32)), .val (.int (0 : Int32)), .unset, .unset, .unset, .unset, .unset] [])) _
      refine XS.aloadN X3.here hx rfl (hb hby d8_24) rfl rfl ?_
      show Steps p.tables e below (T3.setTop (mkF m 25 #[.val (.ref a1), .val (.int (0 : Int32)), .val (.int p2), .val (.int (0 : Int32)), .val (.int (0 : Int32)), .unset, .unset, .unset, .unset, .unset] [(.ref a1)])) _
      refine XS.iload X3.here hx rfl (hb hby d8_25) rfl ?_
      show Steps p.tables e below (T3.setTop (mkF m 27 #[.val (.ref a1), .val (.int (0 : Int32)), .val (.int p2), .val (.int (0 : Int32)), .val (.int (0 : Int32)), .unset, .unset, .unset, .unset, .unset] [(.int (0 : Int32)), (.ref a1)])) _
      exact k
    have E_a1 := B1.1
    obtain ⟨cq4, q4, q4x⟩ := (B1.1).cell
    obtain ⟨_, _, ⟨T4, L4, k4, n4⟩, -, X4, ⟨Lc4, hQ4, l4, y4, z4⟩, st4⟩ := X3.privateBack hx (y := (⟨"java/util/BitSet", "expandTo", "(I)V"⟩ : MethodName)) hown (mvT hZ (hw _ (List.mem_of_getElem? (i := 80) rfl))) (mvT hZ (hw _ (List.mem_of_getElem? (i := 81) rfl))) (mvT hZ (hw _ (List.mem_of_getElem? (i := 83) rfl))) (Cond.privateMethod_at (mvP hZ (hw _ (List.mem_of_getElem? (i := 82) rfl)) (args := #[]))) (mvT hZ (hw _ (List.mem_of_getElem? (i := 84) rfl))) (by decide) (backOf (W := 0) (rm14 l Z a0 hw [] a1 b k 0 h0 n0 Z0 B1 g_a1) hZ (hw _ (List.mem_of_getElem? (i := 84) rfl)) (hw _ (List.mem_of_getElem? (i := 11) rfl)) (by decide) (by decide)) (g := (mkF m 27 #[.val (.ref a1), .val (.int (0 : Int32)), .val (.int p2), .val (.int (0 : Int32)), .val (.int (0 : Int32)), .unset, .unset, .unset, .unset, .unset] [(.int (0 : Int32)), (.ref a1)])) rfl (by rw [hml]; rfl) (Steps.refl _) (a := a1) (by rw [eh3]; exact q4) q4x (argsL := [(.int (0 : Int32))]) (rest := []) (lenOf pd_rm8_2 rfl) rfl (by show 2 * 0 + _ ≤ _; exact Nat.le_of_eq rfl) (hb hby d8_27) (fun _ _ => ⟨rfl, eh3, (by decide : 0 + 0 ≤ _), (by decide : 0 + 0 ≤ _)⟩)
    dsimp only [Pt.U, Pt.locs, Pt.cells, Pt.slots] at X4 l4 y4 z4 st4 hQ4
    subst l4 y4 z4
    obtain ⟨rfl, N4q, Kc4, Bx4⟩ := hQ4
    have N4 := Fr.app N3 N4q
    have Z4 : n0 ≤ T4.heap.size := Nat.le_trans Z0 Kc4.1
    have K4 := (Keep.refl h0 [a1, b]).trans Kc4 (allS (Or.inl (List.mem_of_getElem? (i := 0) rfl)) all0)
    refine OEnds.go (t' := T4.setTop (mkF m 30 #[.val (.ref a1), .val (.int (0 : Int32)), .val (.int p2), .val (.int (0 : Int32)), .val (.int (0 : Int32)), .unset, .unset, .unset, .unset, .unset] [])) (fun _ k => st4.trans k) ?_
    obtain ⟨E_a1, F_wordsInUse_a1, F_words_a1, V_b⟩ := Bx4
    have ne_a1_b : a1 ≠ b := Exa.neArv E_a1 V_b (hw _ (List.mem_of_getElem? (i := 10) rfl))
    refine OEnds.go (t' := T4.setTop (mkF m 48 #[.val (.ref a1), .val (.int (0 : Int32)), .val (.int p2), .val (.int (0 : Int32)), .val (.int (0 : Int32)), .val (.long ((-1 : Int64) <<< ((0 : Int32) &&& 0x3f).toInt64)), .second, .val (.long (((-1 : Int64).toUInt64 >>> ((-p2) &&& 0x3f).toInt64.toUInt64).toInt64)), .second, .unset] [(.int (0 : Int32)), (.int (0 : Int32))])) (fun _ k => ?_) ?_
    · show Steps p.tables e below (T4.setTop (mkF m 30 #[.val (.ref a1), .val (.int (0 : Int32)), .val (.int p2), .val (.int (0 : Int32)), .val (.int (0 : Int32)), .unset, .unset, .unset, .unset, .unset] [])) _
      refine X4.ldc2Long hx hown (mvT hZ (hw _ (List.mem_of_getElem? (i := 90) rfl))) (g := (mkF m 30 #[.val (.ref a1), .val (.int (0 : Int32)), .val (.int p2), .val (.int (0 : Int32)), .val (.int (0 : Int32)), .unset, .unset, .unset, .unset, .unset] [])) rfl (hb hby d8_30) _ ?_
      show Steps p.tables e below (T4.setTop (mkF m 33 #[.val (.ref a1), .val (.int (0 : Int32)), .val (.int p2), .val (.int (0 : Int32)), .val (.int (0 : Int32)), .unset, .unset, .unset, .unset, .unset] [(.long (-1 : Int64))])) _
      refine XS.iloadN X4.here hx rfl (hb hby d8_33) rfl ?_
      show Steps p.tables e below (T4.setTop (mkF m 34 #[.val (.ref a1), .val (.int (0 : Int32)), .val (.int p2), .val (.int (0 : Int32)), .val (.int (0 : Int32)), .unset, .unset, .unset, .unset, .unset] [(.int (0 : Int32)), (.long (-1 : Int64))])) _
      refine XS.lshl X4.here hx rfl (hb hby d8_34) rfl ?_
      show Steps p.tables e below (T4.setTop (mkF m 35 #[.val (.ref a1), .val (.int (0 : Int32)), .val (.int p2), .val (.int (0 : Int32)), .val (.int (0 : Int32)), .unset, .unset, .unset, .unset, .unset] [(.long ((-1 : Int64) <<< ((0 : Int32) &&& 0x3f).toInt64))])) _
      refine XS.lstore X4.here hx rfl (hb hby d8_35) rfl (l' := #[.val (.ref a1), .val (.int (0 : Int32)), .val (.int p2), .val (.int (0 : Int32)), .val (.int (0 : Int32)), .val (.long ((-1 : Int64) <<< ((0 : Int32) &&& 0x3f).toInt64)), .second, .unset, .unset, .unset]) rfl ?_
      show Steps p.tables e below (T4.setTop (mkF m 37 #[.val (.ref a1), .val (.int (0 : Int32)), .val (.int p2), .val (.int (0 : Int32)), .val (.int (0 : Int32)), .val (.long ((-1 : Int64) <<< ((0 : Int32) &&& 0x3f).toInt64)), .second, .unset, .unset, .unset] [])) _
      refine X4.ldc2Long hx hown (mvT hZ (hw _ (List.mem_of_getElem? (i := 90) rfl))) (g := (mkF m 37 #[.val (.ref a1), .val (.int (0 : Int32)), .val (.int p2), .val (.int (0 : Int32)), .val (.int (0 : Int32)), .val (.long ((-1 : Int64) <<< ((0 : Int32) &&& 0x3f).toInt64)), .second, .unset, .unset, .unset] [])) rfl (hb hby d8_37) _ ?_
      show Steps p.tables e below (T4.setTop (mkF m 40 #[.val (.ref a1), .val (.int (0 : Int32)), .val (.int p2), .val (.int (0 : Int32)), .val (.int (0 : Int32)), .val (.long ((-1 : Int64) <<< ((0 : Int32) &&& 0x3f).toInt64)), .second, .unset, .unset, .unset] [(.long (-1 : Int64))])) _
      refine XS.iloadN X4.here hx rfl (hb hby d8_40) rfl ?_
      show Steps p.tables e below (T4.setTop (mkF m 41 #[.val (.ref a1), .val (.int (0 : Int32)), .val (.int p2), .val (.int (0 : Int32)), .val (.int (0 : Int32)), .val (.long ((-1 : Int64) <<< ((0 : Int32) &&& 0x3f).toInt64)), .second, .unset, .unset, .unset] [(.int p2), (.long (-1 : Int64))])) _
      refine XS.ineg X4.here hx rfl (hb hby d8_41) rfl ?_
      show Steps p.tables e below (T4.setTop (mkF m 42 #[.val (.ref a1), .val (.int (0 : Int32)), .val (.int p2), .val (.int (0 : Int32)), .val (.int (0 : Int32)), .val (.long ((-1 : Int64) <<< ((0 : Int32) &&& 0x3f).toInt64)), .second, .unset, .unset, .unset] [(.int (-p2)), (.long (-1 : Int64))])) _
      refine XS.lushr X4.here hx rfl (hb hby d8_42) rfl ?_
      show Steps p.tables e below (T4.setTop (mkF m 43 #[.val (.ref a1), .val (.int (0 : Int32)), .val (.int p2), .val (.int (0 : Int32)), .val (.int (0 : Int32)), .val (.long ((-1 : Int64) <<< ((0 : Int32) &&& 0x3f).toInt64)), .second, .unset, .unset, .unset] [(.long (((-1 : Int64).toUInt64 >>> ((-p2) &&& 0x3f).toInt64.toUInt64).toInt64))])) _
      refine XS.lstore X4.here hx rfl (hb hby d8_43) rfl (l' := #[.val (.ref a1), .val (.int (0 : Int32)), .val (.int p2), .val (.int (0 : Int32)), .val (.int (0 : Int32)), .val (.long ((-1 : Int64) <<< ((0 : Int32) &&& 0x3f).toInt64)), .second, .val (.long (((-1 : Int64).toUInt64 >>> ((-p2) &&& 0x3f).toInt64.toUInt64).toInt64)), .second, .unset]) rfl ?_
      show Steps p.tables e below (T4.setTop (mkF m 45 #[.val (.ref a1), .val (.int (0 : Int32)), .val (.int p2), .val (.int (0 : Int32)), .val (.int (0 : Int32)), .val (.long ((-1 : Int64) <<< ((0 : Int32) &&& 0x3f).toInt64)), .second, .val (.long (((-1 : Int64).toUInt64 >>> ((-p2) &&& 0x3f).toInt64.toUInt64).toInt64)), .second, .unset] [])) _
      refine XS.iloadN X4.here hx rfl (hb hby d8_45) rfl ?_
      show Steps p.tables e below (T4.setTop (mkF m 46 #[.val (.ref a1), .val (.int (0 : Int32)), .val (.int p2), .val (.int (0 : Int32)), .val (.int (0 : Int32)), .val (.long ((-1 : Int64) <<< ((0 : Int32) &&& 0x3f).toInt64)), .second, .val (.long (((-1 : Int64).toUInt64 >>> ((-p2) &&& 0x3f).toInt64.toUInt64).toInt64)), .second, .unset] [(.int (0 : Int32))])) _
      refine XS.iload X4.here hx rfl (hb hby d8_46) rfl ?_
      show Steps p.tables e below (T4.setTop (mkF m 48 #[.val (.ref a1), .val (.int (0 : Int32)), .val (.int p2), .val (.int (0 : Int32)), .val (.int (0 : Int32)), .val (.long ((-1 : Int64) <<< ((0 : Int32) &&& 0x3f).toInt64)), .second, .val (.long (((-1 : Int64).toUInt64 >>> ((-p2) &&& 0x3f).toInt64.toUInt64).toInt64)), .second, .unset] [(.int (0 : Int32)), (.int (0 : Int32))])) _
      exact k
    refine OEnds.go (t' := T4.setTop (mkF m 51 #[.val (.ref a1), .val (.int (0 : Int32)), .val (.int p2), .val (.int (0 : Int32)), .val (.int (0 : Int32)), .val (.long ((-1 : Int64) <<< ((0 : Int32) &&& 0x3f).toInt64)), .second, .val (.long (((-1 : Int64).toUInt64 >>> ((-p2) &&& 0x3f).toInt64.toUInt64).toInt64)), .second, .unset] [])) (fun _ k => XS.icmpNo X4.here hx rfl (hb hby d8_48) rfl (teq rfl).2 k) ?_
    refine OEnds.go (t' := T4.setTop (mkF m 52 #[.val (.ref a1), .val (.int (0 : Int32)), .val (.int p2), .val (.int (0 : Int32)), .val (.int (0 : Int32)), .val (.long ((-1 : Int64) <<< ((0 : Int32) &&& 0x3f).toInt64)), .second, .val (.long (((-1 : Int64).toUInt64 >>> ((-p2) &&& 0x3f).toInt64.toUInt64).toInt64)), .second, .unset] [(.ref a1)])) (fun _ k => ?_) ?_
    · show Steps p.tables e below (T4.setTop (mkF m 51 #[.val (.ref a1), .val (.int (0 : Int32)), .val (.int p2), .val (.int (0 : Int32)), .val (.int (0 : Int32)), .val (.long ((-1 : Int64) <<< ((0 : Int32) &&& 0x3f).toInt64)), .second, .val (.long (((-1 : Int64).toUInt64 >>> ((-p2) &&& 0x3f).toInt64.toUInt64).toInt64)), .second, .unset] [])) _
      refine XS.aloadN X4.here hx rfl (hb hby d8_51) rfl rfl ?_
      show Steps p.tables e below (T4.setTop (mkF m 52 #[.val (.ref a1), .val (.int (0 : Int32)), .val (.int p2), .val (.int (0 : Int32)), .val (.int (0 : Int32)), .val (.long ((-1 : Int64) <<< ((0 : Int32) &&& 0x3f).toInt64)), .second, .val (.long (((-1 : Int64).toUInt64 >>> ((-p2) &&& 0x3f).toInt64.toUInt64).toInt64)), .second, .unset] [(.ref a1)])) _
      exact k
    obtain ⟨T5, X5, e5, st5⟩ := getF X4 hx hZ hown (host := "") (Or.inl (hw _ (List.mem_of_getElem? (i := 29) rfl))) Via.refl rfl F_words_a1 (g := (mkF m 52 #[.val (.ref a1), .val (.int (0 : Int32)), .val (.int p2), .val (.int (0 : Int32)), .val (.int (0 : Int32)), .val (.long ((-1 : Int64) <<< ((0 : Int32) &&& 0x3f).toInt64)), .second, .val (.long (((-1 : Int64).toUInt64 >>> ((-p2) &&& 0x3f).toInt64.toUInt64).toInt64)), .second, .unset] [(.ref a1)])) rfl rfl (hb hby d8_52)
    refine OEnds.go (t' := T5.setTop (mkF m 55 #[.val (.ref a1), .val (.int (0 : Int32)), .val (.int p2), .val (.int (0 : Int32)), .val (.int (0 : Int32)), .val (.long ((-1 : Int64) <<< ((0 : Int32) &&& 0x3f).toInt64)), .second, .val (.long (((-1 : Int64).toUInt64 >>> ((-p2) &&& 0x3f).toInt64.toUInt64).toInt64)), .second, .unset] [(.ref b)])) (fun _ k => st5 _ k) ?_
    refine OEnds.go (t' := T5.setTop (mkF m 57 #[.val (.ref a1), .val (.int (0 : Int32)), .val (.int p2), .val (.int (0 : Int32)), .val (.int (0 : Int32)), .val (.long ((-1 : Int64) <<< ((0 : Int32) &&& 0x3f).toInt64)), .second, .val (.long (((-1 : Int64).toUInt64 >>> ((-p2) &&& 0x3f).toInt64.toUInt64).toInt64)), .second, .unset] [(.int (0 : Int32)), (.ref b), (.int (0 : Int32)), (.ref b)])) (fun _ k => ?_) ?_
    · show Steps p.tables e below (T5.setTop (mkF m 55 #[.val (.ref a1), .val (.int (0 : Int32)), .val (.int p2), .val (.int (0 : Int32)), .val (.int (0 : Int32)), .val (.long ((-1 : Int64) <<< ((0 : Int32) &&& 0x3f).toInt64)), .second, .val (.long (((-1 : Int64).toUInt64 >>> ((-p2) &&& 0x3f).toInt64.toUInt64).toInt64)), .second, .unset] [(.ref b)])) _
      refine XS.iloadN X5.here hx rfl (hb hby d8_55) rfl ?_
      show Steps p.tables e below (T5.setTop (mkF m 56 #[.val (.ref a1), .val (.int (0 : Int32)), .val (.int p2), .val (.int (0 : Int32)), .val (.int (0 : Int32)), .val (.long ((-1 : Int64) <<< ((0 : Int32) &&& 0x3f).toInt64)), .second, .val (.long (((-1 : Int64).toUInt64 >>> ((-p2) &&& 0x3f).toInt64.toUInt64).toInt64)), .second, .unset] [(.int (0 : Int32)), (.ref b)])) _
      refine Jvm.Free.XT.dup2 X5.here hx rfl (hb hby d8_56) rfl rfl rfl ?_
      show Steps p.tables e below (T5.setTop (mkF m 57 #[.val (.ref a1), .val (.int (0 : Int32)), .val (.int p2), .val (.int (0 : Int32)), .val (.int (0 : Int32)), .val (.long ((-1 : Int64) <<< ((0 : Int32) &&& 0x3f).toInt64)), .second, .val (.long (((-1 : Int64).toUInt64 >>> ((-p2) &&& 0x3f).toInt64.toUInt64).toInt64)), .second, .unset] [(.int (0 : Int32)), (.ref b), (.int (0 : Int32)), (.ref b)])) _
      exact k
    obtain ⟨cl6, Ar6, hin6, hat6⟩ := own_word V_b
    refine OEnds.go (t' := T5.setTop (mkF m 58 #[.val (.ref a1), .val (.int (0 : Int32)), .val (.int p2), .val (.int (0 : Int32)), .val (.int (0 : Int32)), .val (.long ((-1 : Int64) <<< ((0 : Int32) &&& 0x3f).toInt64)), .second, .val (.long (((-1 : Int64).toUInt64 >>> ((-p2) &&& 0x3f).toInt64.toUInt64).toInt64)), .second, .unset] [(.long (0 : Int64)), (.int (0 : Int32)), (.ref b)])) (fun _ k => X5.laload hx (j := (0 : Int32)) (v := (.long (0 : Int64))) (by rw [e5]; exact Ar6.1) (State.isArrayOf_alike hZ.alike Ar6.2.1) Ar6.2.2 hin6 hat6 (g := (mkF m 57 #[.val (.ref a1), .val (.int (0 : Int32)), .val (.int p2), .val (.int (0 : Int32)), .val (.int (0 : Int32)), .val (.long ((-1 : Int64) <<< ((0 : Int32) &&& 0x3f).toInt64)), .second, .val (.long (((-1 : Int64).toUInt64 >>> ((-p2) &&& 0x3f).toInt64.toUInt64).toInt64)), .second, .unset] [(.int (0 : Int32)), (.ref b), (.int (0 : Int32)), (.ref b)])) rfl rfl (hb hby d8_57) _ k) ?_
    refine OEnds.go (t' := T5.setTop (mkF m 64 #[.val (.ref a1), .val (.int (0 : Int32)), .val (.int p2), .val (.int (0 : Int32)), .val (.int (0 : Int32)), .val (.long ((-1 : Int64) <<< ((0 : Int32) &&& 0x3f).toInt64)), .second, .val (.long (((-1 : Int64).toUInt64 >>> ((-p2) &&& 0x3f).toInt64.toUInt64).toInt64)), .second, .unset] [(.long ((0 : Int64) ||| (((-1 : Int64) <<< ((0 : Int32) &&& 0x3f).toInt64) &&& (((-1 : Int64).toUInt64 >>> ((-p2) &&& 0x3f).toInt64.toUInt64).toInt64)))), (.int (0 : Int32)), (.ref b)])) (fun _ k => ?_) ?_
    · show Steps p.tables e below (T5.setTop (mkF m 58 #[.val (.ref a1), .val (.int (0 : Int32)), .val (.int p2), .val (.int (0 : Int32)), .val (.int (0 : Int32)), .val (.long ((-1 : Int64) <<< ((0 : Int32) &&& 0x3f).toInt64)), .second, .val (.long (((-1 : Int64).toUInt64 >>> ((-p2) &&& 0x3f).toInt64.toUInt64).toInt64)), .second, .unset] [(.long (0 : Int64)), (.int (0 : Int32)), (.ref b)])) _
      refine XS.lload X5.here hx rfl (hb hby d8_58) rfl ?_
      show Steps p.tables e below (T5.setTop (mkF m 60 #[.val (.ref a1), .val (.int (0 : Int32)), .val (.int p2), .val (.int (0 : Int32)), .val (.int (0 : Int32)), .val (.long ((-1 : Int64) <<< ((0 : Int32) &&& 0x3f).toInt64)), .second, .val (.long (((-1 : Int64).toUInt64 >>> ((-p2) &&& 0x3f).toInt64.toUInt64).toInt64)), .second, .unset] [(.long ((-1 : Int64) <<< ((0 : Int32) &&& 0x3f).toInt64)), (.long (0 : Int64)), (.int (0 : Int32)), (.ref b)])) _
      refine XS.lload X5.here hx rfl (hb hby d8_60) rfl ?_
      show Steps p.tables e below (T5.setTop (mkF m 62 #[.val (.ref a1), .val (.int (0 : Int32)), .val (.int p2), .val (.int (0 : Int32)), .val (.int (0 : Int32)), .val (.long ((-1 : Int64) <<< ((0 : Int32) &&& 0x3f).toInt64)), .second, .val (.long (((-1 : Int64).toUInt64 >>> ((-p2) &&& 0x3f).toInt64.toUInt64).toInt64)), .second, .unset] [(.long (((-1 : Int64).toUInt64 >>> ((-p2) &&& 0x3f).toInt64.toUInt64).toInt64)), (.long ((-1 : Int64) <<< ((0 : Int32) &&& 0x3f).toInt64)), (.long (0 : Int64)), (.int (0 : Int32)), (.ref b)])) _
      refine XS.land X5.here hx rfl (hb hby d8_62) rfl ?_
      show Steps p.tables e below (T5.setTop (mkF m 63 #[.val (.ref a1), .val (.int (0 : Int32)), .val (.int p2), .val (.int (0 : Int32)), .val (.int (0 : Int32)), .val (.long ((-1 : Int64) <<< ((0 : Int32) &&& 0x3f).toInt64)), .second, .val (.long (((-1 : Int64).toUInt64 >>> ((-p2) &&& 0x3f).toInt64.toUInt64).toInt64)), .second, .unset] [(.long (((-1 : Int64) <<< ((0 : Int32) &&& 0x3f).toInt64) &&& (((-1 : Int64).toUInt64 >>> ((-p2) &&& 0x3f).toInt64.toUInt64).toInt64))), (.long (0 : Int64)), (.int (0 : Int32)), (.ref b)])) _
      refine XS.lor X5.here hx rfl (hb hby d8_63) rfl ?_
      show Steps p.tables e below (T5.setTop (mkF m 64 #[.val (.ref a1), .val (.int (0 : Int32)), .val (.int p2), .val (.int (0 : Int32)), .val (.int (0 : Int32)), .val (.long ((-1 : Int64) <<< ((0 : Int32) &&& 0x3f).toInt64)), .second, .val (.long (((-1 : Int64).toUInt64 >>> ((-p2) &&& 0x3f).toInt64.toUInt64).toInt64)), .second, .unset] [(.long ((0 : Int64) ||| (((-1 : Int64) <<< ((0 : Int32) &&& 0x3f).toInt64) &&& (((-1 : Int64).toUInt64 >>> ((-p2) &&& 0x3f).toInt64.toUInt64).toInt64)))), (.int (0 : Int32)), (.ref b)])) _
      exact k
    obtain ⟨cl7, Ar7, hin7, -⟩ := own_word V_b
    obtain ⟨T7, h7, X7, e7, W7, st7⟩ := stJ X5 hx hZ e5 Ar7 (j := (0 : Int32)) hin7 (g := (mkF m 64 #[.val (.ref a1), .val (.int (0 : Int32)), .val (.int p2), .val (.int (0 : Int32)), .val (.int (0 : Int32)), .val (.long ((-1 : Int64) <<< ((0 : Int32) &&& 0x3f).toInt64)), .second, .val (.long (((-1 : Int64).toUInt64 >>> ((-p2) &&& 0x3f).toInt64.toUInt64).toInt64)), .second, .unset] [(.long ((0 : Int64) ||| (((-1 : Int64) <<< ((0 : Int32) &&& 0x3f).toInt64) &&& (((-1 : Int64).toUInt64 >>> ((-p2) &&& 0x3f).toInt64.toUInt64).toInt64)))), (.int (0 : Int32)), (.ref b)])) rfl rfl (hb hby d8_64)
    have N7 := Fr.snoc X7 N4 g_b
    have E_a1 := E_a1.wr W7
    have F_wordsInUse_a1 := F_wordsInUse_a1.other W7 (Or.inl ne_a1_b)
    have F_words_a1 := F_words_a1.other W7 (Or.inl ne_a1_b)
    have Z7 : n0 ≤ h7.size := Nat.le_trans Z4 (Keep.of_wr W7).1
    have K7 := K4.wr W7 (Or.inl (List.mem_of_getElem? (i := 1) rfl))
    have V_b := own_put V_b W7
    refine OEnds.go (t' := T7.setTop (mkF m 65 #[.val (.ref a1), .val (.int (0 : Int32)), .val (.int p2), .val (.int (0 : Int32)), .val (.int (0 : Int32)), .val (.long ((-1 : Int64) <<< ((0 : Int32) &&& 0x3f).toInt64)), .second, .val (.long (((-1 : Int64).toUInt64 >>> ((-p2) &&& 0x3f).toInt64.toUInt64).toInt64)), .second, .unset] [])) (fun _ k => st7 _ k) ?_
    refine OEnds.go (t' := T7.setTop (mkF m 120 #[.val (.ref a1), .val (.int (0 : Int32)), .val (.int p2), .val (.int (0 : Int32)), .val (.int (0 : Int32)), .val (.long ((-1 : Int64) <<< ((0 : Int32) &&& 0x3f).toInt64)), .second, .val (.long (((-1 : Int64).toUInt64 >>> ((-p2) &&& 0x3f).toInt64.toUInt64).toInt64)), .second, .unset] [(.ref a1)])) (fun _ k => ?_) ?_
    · show Steps p.tables e below (T7.setTop (mkF m 65 #[.val (.ref a1), .val (.int (0 : Int32)), .val (.int p2), .val (.int (0 : Int32)), .val (.int (0 : Int32)), .val (.long ((-1 : Int64) <<< ((0 : Int32) &&& 0x3f).toInt64)), .second, .val (.long (((-1 : Int64).toUInt64 >>> ((-p2) &&& 0x3f).toInt64.toUInt64).toInt64)), .second, .unset] [])) _
      refine XS.goto X7.here hx rfl (pc0 := 65) (pc' := 119) rfl (hb hby d8_65) (by decide) (by decide) ?_
      show Steps p.tables e below (T7.setTop (mkF m 119 #[.val (.ref a1), .val (.int (0 : Int32)), .val (.int p2), .val (.int (0 : Int32)), .val (.int (0 : Int32)), .val (.long ((-1 : Int64) <<< ((0 : Int32) &&& 0x3f).toInt64)), .second, .val (.long (((-1 : Int64).toUInt64 >>> ((-p2) &&& 0x3f).toInt64.toUInt64).toInt64)), .second, .unset] [])) _
      refine XS.aloadN X7.here hx rfl (hb hby d8_119) rfl rfl ?_
      show Steps p.tables e below (T7.setTop (mkF m 120 #[.val (.ref a1), .val (.int (0 : Int32)), .val (.int p2), .val (.int (0 : Int32)), .val (.int (0 : Int32)), .val (.long ((-1 : Int64) <<< ((0 : Int32) &&& 0x3f).toInt64)), .second, .val (.long (((-1 : Int64).toUInt64 >>> ((-p2) &&& 0x3f).toInt64.toUInt64).toInt64)), .second, .unset] [(.ref a1)])) _
      exact k
    have S_A2 : Sta Z h7 "java/util/BitSet" "$assertionsDisabled" "Z" (.int 1) := Sta_keepB S_A K7 (allS2 B1.1 B1.2.2.2)
    obtain ⟨cq8, q8, q8x⟩ := (E_a1).cell
    obtain ⟨_, _, ⟨T8, L8, k8, n8⟩, -, X8, ⟨Lc8, hQ8, l8, y8, z8⟩, st8⟩ := X7.privateBack hx (y := (⟨"java/util/BitSet", "checkInvariants", "()V"⟩ : MethodName)) hown (mvT hZ (hw _ (List.mem_of_getElem? (i := 74) rfl))) (mvT hZ (hw _ (List.mem_of_getElem? (i := 75) rfl))) (mvT hZ (hw _ (List.mem_of_getElem? (i := 77) rfl))) (Cond.privateMethod_at (mvP hZ (hw _ (List.mem_of_getElem? (i := 76) rfl)) (args := #[]))) (mvT hZ (hw _ (List.mem_of_getElem? (i := 78) rfl))) (by decide) (backOf (W := 0) (rm13 l Z a0 hw [] a1 h7 n0 Z7 S_A2) hZ (hw _ (List.mem_of_getElem? (i := 78) rfl)) (hw _ (List.mem_of_getElem? (i := 11) rfl)) (by decide) (by decide)) (g := (mkF m 120 #[.val (.ref a1), .val (.int (0 : Int32)), .val (.int p2), .val (.int (0 : Int32)), .val (.int (0 : Int32)), .val (.long ((-1 : Int64) <<< ((0 : Int32) &&& 0x3f).toInt64)), .second, .val (.long (((-1 : Int64).toUInt64 >>> ((-p2) &&& 0x3f).toInt64.toUInt64).toInt64)), .second, .unset] [(.ref a1)])) rfl (by rw [hml]; rfl) (Steps.refl _) (a := a1) (by rw [e7]; exact q8) q8x (argsL := []) (rest := []) (lenOf pd_rm8_3 rfl) rfl (by show 2 * 0 + _ ≤ _; exact Nat.le_of_eq rfl) (hb hby d8_120) (fun _ _ => ⟨rfl, e7, (by decide : 0 + 0 ≤ _), (by decide : 0 + 0 ≤ _)⟩)
    dsimp only [Pt.U, Pt.locs, Pt.cells, Pt.slots] at X8 l8 y8 z8 st8 hQ8
    subst l8 y8 z8
    obtain ⟨rfl, N8q, eh⟩ := hQ8
    have N8 := Fr.app N7 N8q
    have eh8 := eh
    refine OEnds.go (t' := T8.setTop (mkF m 123 #[.val (.ref a1), .val (.int (0 : Int32)), .val (.int p2), .val (.int (0 : Int32)), .val (.int (0 : Int32)), .val (.long ((-1 : Int64) <<< ((0 : Int32) &&& 0x3f).toInt64)), .second, .val (.long (((-1 : Int64).toUInt64 >>> ((-p2) &&& 0x3f).toInt64.toUInt64).toInt64)), .second, .unset] [])) (fun _ k => st8.trans k) ?_
    refine OEnds.back X8 hlk (v := none) (fun _ => rfl) (fun fs hr => ?_) ?_ (by decide) (by decide)
    · exact X8.returnOut hx hrt (hb hby d8_123) hr
    · show Q8 Z a1 p2 b k h0 n0 _ T8.heap _
      rw [eh8]
      exact ⟨rfl, N8, K7, by rw [own_u, own_w, if_neg h7x, if_neg h7x]; exact ⟨E_a1, F_wordsInUse_a1, F_words_a1, V_b⟩⟩
theorem d12_0 : decode jdk_92_method_26_code 0 = .ok (.iload_n 1, 1) := by decide +kernel
theorem d12_1 : decode jdk_92_method_26_code 1 = .ok (.ifCond .ge 30, 3) := by decide +kernel
theorem d12_31 : decode jdk_92_method_26_code 31 = .ok (.aload_n 0, 1) := by decide +kernel
theorem d12_32 : decode jdk_92_method_26_code 32 = .ok (.invokevirtual 56, 3) := by decide +kernel
theorem d12_35 : decode jdk_92_method_26_code 35 = .ok (.iload_n 1, 1) := by decide +kernel
theorem d12_36 : decode jdk_92_method_26_code 36 = .ok (.invokestatic 52, 3) := by decide +kernel
theorem d12_39 : decode jdk_92_method_26_code 39 = .ok (.istore_n 2, 1) := by decide +kernel
theorem d12_40 : decode jdk_92_method_26_code 40 = .ok (.iload_n 2, 1) := by decide +kernel
theorem d12_41 : decode jdk_92_method_26_code 41 = .ok (.aload_n 0, 1) := by decide +kernel
theorem d12_42 : decode jdk_92_method_26_code 42 = .ok (.getfield 7, 3) := by decide +kernel
theorem d12_45 : decode jdk_92_method_26_code 45 = .ok (.if_icmp .ge 22, 3) := by decide +kernel
theorem d12_48 : decode jdk_92_method_26_code 48 = .ok (.aload_n 0, 1) := by decide +kernel
theorem d12_49 : decode jdk_92_method_26_code 49 = .ok (.getfield 11, 3) := by decide +kernel
theorem d12_52 : decode jdk_92_method_26_code 52 = .ok (.iload_n 2, 1) := by decide +kernel
theorem d12_53 : decode jdk_92_method_26_code 53 = .ok (.laload, 1) := by decide +kernel
theorem d12_54 : decode jdk_92_method_26_code 54 = .ok (.lconst 1, 1) := by decide +kernel
theorem d12_55 : decode jdk_92_method_26_code 55 = .ok (.iload_n 1, 1) := by decide +kernel
theorem d12_56 : decode jdk_92_method_26_code 56 = .ok (.lshl, 1) := by decide +kernel
theorem d12_57 : decode jdk_92_method_26_code 57 = .ok (.land, 1) := by decide +kernel
theorem d12_58 : decode jdk_92_method_26_code 58 = .ok (.lconst 0, 1) := by decide +kernel
theorem d12_59 : decode jdk_92_method_26_code 59 = .ok (.lcmp, 1) := by decide +kernel
theorem d12_60 : decode jdk_92_method_26_code 60 = .ok (.ifCond .eq 7, 3) := by decide +kernel
theorem d12_63 : decode jdk_92_method_26_code 63 = .ok (.iconst 1, 1) := by decide +kernel
theorem d12_64 : decode jdk_92_method_26_code 64 = .ok (.goto 4, 3) := by decide +kernel
theorem d12_67 : decode jdk_92_method_26_code 67 = .ok (.iconst 0, 1) := by decide +kernel
theorem d12_68 : decode jdk_92_method_26_code 68 = .ok (.ireturn, 1) := by decide +kernel
theorem pn_12 : plainName "java/util/BitSet" = true := by first | (simp [plainName, overriddenIn]; done) | decide +kernel
theorem pd_rm12_0 : parseMethodDescriptor "()V" = some ⟨[], none⟩ := by decide +kernel
theorem pd_rm12_1 : parseMethodDescriptor "(I)I" = some ⟨[.int], some .int⟩ := by decide +kernel
theorem ef_rm12 (m : MethodId) (a1 : Addr) (p1 : Int32) : entryFrame m #[(.ref a1), (.int p1)] 3 = mkF m 0 #[.val (.ref a1), .val (.int p1), .unset] [] := by first | (simp [entryFrame, mkF, argsToLocals, Value.category]; done) | rfl
def Q12 (Z : State) (a1 : Addr) (p1 : Int32) (b : Addr) (k : ClassId) (u : Int32) (w : Int64) (h0 : Heap) (n0 : Nat) (v : Option Value) (h : Heap) (L : List Loc) : Prop := v = some (.int (own_get u w p1)) ∧ Fr n0 L ∧ h = h0
set_option maxRecDepth 65536 in
set_option maxHeartbeats 40000000 in
theorem rm12 (l : Launch) (Z : State) (a0 : Array Value) (hw : ∀ d ∈ tables_1, d.before a0 Z = true) (ws : List Jvm.Cond) (a1 : Addr) (p1 : Int32) (b : Addr) (k : ClassId) (u : Int32) (w : Int64) (h0 : Heap) (n0 : Nat) (Z0 : n0 ≤ h0.size) (S_A : Sta Z h0 "java/util/BitSet" "$assertionsDisabled" "Z" (.int 1)) (c1 : ¬ p1 < 0) (c2 : (p1 >>> ((6 : Int32) &&& 31)) = 0) (B1 : own_Bits Z h0 a1 b k u w) :
    MetFree l (⟨"java/util/BitSet", "get", "(I)Z"⟩ : MethodName) (head1 (Jvm.Cond.code (⟨"java/util/BitSet", "get", "(I)Z"⟩ : MethodName) jdk_92_method_26_code 3 (some .boolean) :: ws) ({ frames := 1, cells := 0, slots := 0, locals := 12 } : Room)) (fun a U => a = #[(.ref a1), (.int p1)] ∧ Z.Warmed39 U.vm ∧ U.heap = h0) (fun _ _ _ _ _ => True) (fun _ U o U' => ∃ v L, o = .returned v ∧ Q12 Z a1 p1 b k u w h0 n0 v U'.heap L ∧ FrameEnd U o U' L ({ frames := 1, cells := 0, slots := 0, locals := 12 } : Room).cells ({ frames := 1, cells := 0, slots := 0, locals := 12 } : Room).slots) := by
  refine MetFree.of_bodySF (plainFor_of_name pn_12) hisR ?_
  intro p e s m args below meth c s₁ Bd hml0 hP hK
  obtain ⟨rfl, hZ, hh⟩ := hP
  have hx := Bd.exec
  have hby := Bd.bytes
  have hml : c.maxLocals = 3 := hml0
  have hown : s.vm.findClass "java/util/BitSet" = some m.cls := findClass_of_methodNamed Bd.named
  have hnm := (name_of_methodNamed Bd.named Bd.method).1
  have hlk := BodyLoose.notSynchronized Bd
  have hrt := Bd.returns
  have X0 : Stand p l e ({ frames := 1, cells := 0, slots := 0, locals := 12 } : Room) s m #[(.ref a1), (.int p1)] below meth c s₁ [] 0 0 := Stand.of_body Bd
  have e0 : s₁.heap = h0 := by rw [← hh, Bd.state]; rfl
  have N0 := Fr.nil n0
  show OEnds p e below s (Q12 Z a1 p1 b k u w h0 n0) ({ frames := 1, cells := 0, slots := 0, locals := 12 } : Room).cells ({ frames := 1, cells := 0, slots := 0, locals := 12 } : Room).slots (s₁.setTop (entryFrame m #[(.ref a1), (.int p1)] 3))
  refine OEnds.go (t' := s₁.setTop (mkF m 0 #[.val (.ref a1), .val (.int p1), .unset] [])) (fun t k => castTop (ef_rm12 m a1 p1) k) ?_
  refine OEnds.go (t' := s₁.setTop (mkF m 1 #[.val (.ref a1), .val (.int p1), .unset] [(.int p1)])) (fun _ k => ?_) ?_
  · show Steps p.tables e below (s₁.setTop (mkF m 0 #[.val (.ref a1), .val (.int p1), .unset] [])) _
    refine XS.iloadN X0.here hx rfl (hb hby d12_0) rfl ?_
    show Steps p.tables e below (s₁.setTop (mkF m 1 #[.val (.ref a1), .val (.int p1), .unset] [(.int p1)])) _
    exact k
  refine OEnds.go (t' := s₁.setTop (mkF m 31 #[.val (.ref a1), .val (.int p1), .unset] [])) (fun _ k => XS.ifYes X0.here hx rfl (pc0 := 1) (pc' := 31) rfl (hb hby d12_1) rfl ((if0 _ _).trans (flt c1).2.1) (by decide) (by decide) k) ?_
  refine OEnds.go (t' := s₁.setTop (mkF m 32 #[.val (.ref a1), .val (.int p1), .unset] [(.ref a1)])) (fun _ k => ?_) ?_
  · show Steps p.tables e below (s₁.setTop (mkF m 31 #[.val (.ref a1), .val (.int p1), .unset] [])) _
    refine XS.aloadN X0.here hx rfl (hb hby d12_31) rfl rfl ?_
    show Steps p.tables e below (s₁.setTop (mkF m 32 #[.val (.ref a1), .val (.int p1), .unset] [(.ref a1)])) _
    exact k
  obtain ⟨cq1, q1, q1x⟩ := (B1.1).cell
  obtain ⟨_, _, ⟨T1, L1, k1, n1⟩, -, X1, ⟨Lc1, hQ1, l1, y1, z1⟩, st1⟩ := X0.privateBack hx (y := (⟨"java/util/BitSet", "checkInvariants", "()V"⟩ : MethodName)) hown (mvT hZ (hw _ (List.mem_of_getElem? (i := 74) rfl))) (mvT hZ (hw _ (List.mem_of_getElem? (i := 75) rfl))) (mvT hZ (hw _ (List.mem_of_getElem? (i := 77) rfl))) (Cond.privateMethod_at (mvP hZ (hw _ (List.mem_of_getElem? (i := 76) rfl)) (args := #[]))) (mvT hZ (hw _ (List.mem_of_getElem? (i := 78) rfl))) (by decide) (backOf (W := 0) (rm13 l Z a0 hw [] a1 h0 n0 Z0 S_A) hZ (hw _ (List.mem_of_getElem? (i := 78) rfl)) (hw _ (List.mem_of_getElem? (i := 11) rfl)) (by decide) (by decide)) (g := (mkF m 32 #[.val (.ref a1), .val (.int p1), .unset] [(.ref a1)])) rfl (by rw [hml]; rfl) (Steps.refl _) (a := a1) (by rw [e0]; exact q1) q1x (argsL := []) (rest := []) (lenOf pd_rm12_0 rfl) rfl (by show 2 * 0 + _ ≤ _; exact Nat.le_of_eq rfl) (hb hby d12_32) (fun _ _ => ⟨rfl, e0, (by decide : 0 + 0 ≤ _), (by decide : 0 + 0 ≤ _)⟩)
  dsimp only [Pt.U, Pt.locs, Pt.cells, Pt.slots] at X1 l1 y1 z1 st1 hQ1
  subst l1 y1 z1
  obtain ⟨rfl, N1q, eh⟩ := hQ1
  have N1 := Fr.app N0 N1q
  have eh1 := eh
  refine OEnds.go (t' := T1.setTop (mkF m 35 #[.val (.ref a1), .val (.int p1), .unset] [])) (fun _ k => st1.trans k) ?_
  refine OEnds.go (t' := T1.setTop (mkF m 36 #[.val (.ref a1), .val (.int p1), .unset] [(.int p1)])) (fun _ k => ?_) ?_
  · show Steps p.tables e below (T1.setTop (mkF m 35 #[.val (.ref a1), .val (.int p1), .unset] [])) _
    refine XS.iloadN X1.here hx rfl (hb hby d12_35) rfl ?_
    show Steps p.tables e below (T1.setTop (mkF m 36 #[.val (.ref a1), .val (.int p1), .unset] [(.int p1)])) _
    exact k
  obtain ⟨_, _, ⟨T2, L2, k2, n2⟩, -, X2, ⟨Lc2, hQ2, l2, y2, z2⟩, st2⟩ := Jvm.LawKit.callS X1 hx (y := (⟨"java/util/BitSet", "wordIndex", "(I)I"⟩ : MethodName)) hown (mvT hZ (hw _ (List.mem_of_getElem? (i := 25) rfl))) (mvT hZ (hw _ (List.mem_of_getElem? (i := 26) rfl))) (mvT hZ (hw _ (List.mem_of_getElem? (i := 11) rfl))) (mvT hZ (hw _ (List.mem_of_getElem? (i := 27) rfl))) (by decide) (backOf (W := 0) (rm5 l Z a0 hw [] p1 h0 n0 Z0 ) hZ (hw _ (List.mem_of_getElem? (i := 27) rfl)) (hw _ (List.mem_of_getElem? (i := 11) rfl)) (by decide) (by decide)) (g := (mkF m 36 #[.val (.ref a1), .val (.int p1), .unset] [(.int p1)])) rfl (by rw [hml]; rfl) (argsL := [(.int p1)]) (rest := []) (lenOf pd_rm12_1 rfl) rfl (by show 2 * 0 + _ ≤ _; exact Nat.le_of_eq rfl) (hb hby d12_36) (fun _ _ => ⟨rfl, eh1, (by decide : 0 + 0 ≤ _), (by decide : 0 + 0 ≤ _)⟩)
  dsimp only [Pt.U, Pt.locs, Pt.cells, Pt.slots] at X2 l2 y2 z2 st2 hQ2
  subst l2 y2 z2
  obtain ⟨rfl, N2q, eh⟩ := hQ2
  have N2 := Fr.app N1 N2q
  have eh2 := eh
  refine OEnds.go (t' := T2.setTop (mkF m 39 #[.val (.ref a1), .val (.int p1), .unset] [(.int (p1 >>> ((6 : Int32) &&& 31)))])) (fun _ k => st2 _ k) ?_
  rw [c2]
  refine OEnds.go (t' := T2.setTop (mkF m 42 #[.val (.ref a1), .val (.int p1), .val (.int (0 : Int32))] [(.ref a1), (.int (0 : Int32))])) (fun _ k => ?_) ?_
  · show Steps p.tables e below (T2.setTop (mkF m 39 #[.val (.ref a1), .val (.int p1), .unset] [(.int (0 : Int32))])) _
    refine XS.istoreN X2.here hx rfl (hb hby d12_39) rfl (l' := #[.val (.ref a1), .val (.int p1), .val (.int (0 : Int32))]) rfl ?_
    show Steps p.tables e below (T2.setTop (mkF m 40 #[.val (.ref a1), .val (.int p1), .val (.int (0 : Int32))] [])) _
    refine XS.iloadN X2.here hx rfl (hb hby d12_40) rfl ?_
    show Steps p.tables e below (T2.setTop (mkF m 41 #[.val (.ref a1), .val (.int p1), .val (.int (0 : Int32))] [(.int (0 : Int32))])) _
    refine XS.aloadN X2.here hx rfl (hb hby d12_41) rfl rfl ?_
    show Steps p.tables e below (T2.setTop (mkF m 42 #[.val (.ref a1), .val (.int p1), .val (.int (0 : Int32))] [(.ref a1), (.int (0 : Int32))])) _
    exact k
  obtain ⟨T3, X3, e3, st3⟩ := getF X2 hx hZ hown (host := "") (Or.inl (hw _ (List.mem_of_getElem? (i := 16) rfl))) Via.refl eh2 B1.2.1 (g := (mkF m 42 #[.val (.ref a1), .val (.int p1), .val (.int (0 : Int32))] [(.ref a1), (.int (0 : Int32))])) rfl rfl (hb hby d12_42)
  refine OEnds.go (t' := T3.setTop (mkF m 45 #[.val (.ref a1), .val (.int p1), .val (.int (0 : Int32))] [(.int u), (.int (0 : Int32))])) (fun _ k => st3 _ k) ?_
  by_cases h45 : (0 : Int32) < u
  · refine OEnds.go (t' := T3.setTop (mkF m 48 #[.val (.ref a1), .val (.int p1), .val (.int (0 : Int32))] [])) (fun _ k => XS.icmpNo X3.here hx rfl (hb hby d12_45) rfl (tlt h45).2.1 k) ?_
    refine OEnds.go (t' := T3.setTop (mkF m 49 #[.val (.ref a1), .val (.int p1), .val (.int (0 : Int32))] [(.ref a1)])) (fun _ k => ?_) ?_
    · show Steps p.tables e below (T3.setTop (mkF m 48 #[.val (.ref a1), .val (.int p1), .val (.int (0 : Int32))] [])) _
      refine XS.aloadN X3.here hx rfl (hb hby d12_48) rfl rfl ?_
      show Steps p.tables e below (T3.setTop (mkF m 49 #[.val (.ref a1), .val (.int p1), .val (.int (0 : Int32))] [(.ref a1)])) _
      exact k
    obtain ⟨T4, X4, e4, st4⟩ := getF X3 hx hZ hown (host := "") (Or.inl (hw _ (List.mem_of_getElem? (i := 29) rfl))) Via.refl e3 B1.2.2.1 (g := (mkF m 49 #[.val (.ref a1), .val (.int p1), .val (.int (0 : Int32))] [(.ref a1)])) rfl rfl (hb hby d12_49)
    refine OEnds.go (t' := T4.setTop (mkF m 52 #[.val (.ref a1), .val (.int p1), .val (.int (0 : Int32))] [(.ref b)])) (fun _ k => st4 _ k) ?_
    refine OEnds.go (t' := T4.setTop (mkF m 53 #[.val (.ref a1), .val (.int p1), .val (.int (0 : Int32))] [(.int (0 : Int32)), (.ref b)])) (fun _ k => ?_) ?_
    · show Steps p.tables e below (T4.setTop (mkF m 52 #[.val (.ref a1), .val (.int p1), .val (.int (0 : Int32))] [(.ref b)])) _
      refine XS.iloadN X4.here hx rfl (hb hby d12_52) rfl ?_
      show Steps p.tables e below (T4.setTop (mkF m 53 #[.val (.ref a1), .val (.int p1), .val (.int (0 : Int32))] [(.int (0 : Int32)), (.ref b)])) _
      exact k
    obtain ⟨cl5, Ar5, hin5, hat5⟩ := own_word B1.2.2.2
    refine OEnds.go (t' := T4.setTop (mkF m 54 #[.val (.ref a1), .val (.int p1), .val (.int (0 : Int32))] [(.long w)])) (fun _ k => X4.laload hx (j := (0 : Int32)) (v := (.long w)) (by rw [e4]; exact Ar5.1) (State.isArrayOf_alike hZ.alike Ar5.2.1) Ar5.2.2 hin5 hat5 (g := (mkF m 53 #[.val (.ref a1), .val (.int p1), .val (.int (0 : Int32))] [(.int (0 : Int32)), (.ref b)])) rfl rfl (hb hby d12_53) _ k) ?_
    refine OEnds.go (t' := T4.setTop (mkF m 60 #[.val (.ref a1), .val (.int p1), .val (.int (0 : Int32))] [(.int (lcmpW (w &&& ((1 : Int64) <<< (p1 &&& 0x3f).toInt64)) (0 : Int64)))])) (fun _ k => ?_) ?_
    · show Steps p.tables e below (T4.setTop (mkF m 54 #[.val (.ref a1), .val (.int p1), .val (.int (0 : Int32))] [(.long w)])) _
      refine XS.lconst X4.here hx rfl (hb hby d12_54) ?_
      show Steps p.tables e below (T4.setTop (mkF m 55 #[.val (.ref a1), .val (.int p1), .val (.int (0 : Int32))] [(.long (1 : Int64)), (.long w)])) _
      refine XS.iloadN X4.here hx rfl (hb hby d12_55) rfl ?_
      show Steps p.tables e below (T4.setTop (mkF m 56 #[.val (.ref a1), .val (.int p1), .val (.int (0 : Int32))] [(.int p1), (.long (1 : Int64)), (.long w)])) _
      refine XS.lshl X4.here hx rfl (hb hby d12_56) rfl ?_
      show Steps p.tables e below (T4.setTop (mkF m 57 #[.val (.ref a1), .val (.int p1), .val (.int (0 : Int32))] [(.long ((1 : Int64) <<< (p1 &&& 0x3f).toInt64)), (.long w)])) _
      refine XS.land X4.here hx rfl (hb hby d12_57) rfl ?_
      show Steps p.tables e below (T4.setTop (mkF m 58 #[.val (.ref a1), .val (.int p1), .val (.int (0 : Int32))] [(.long (w &&& ((1 : Int64) <<< (p1 &&& 0x3f).toInt64)))])) _
      refine XS.lconst X4.here hx rfl (hb hby d12_58) ?_
      show Steps p.tables e below (T4.setTop (mkF m 59 #[.val (.ref a1), .val (.int p1), .val (.int (0 : Int32))] [(.long (0 : Int64)), (.long (w &&& ((1 : Int64) <<< (p1 &&& 0x3f).toInt64)))])) _
      refine XS.lcmp X4.here hx rfl (hb hby d12_59) rfl ?_
      show Steps p.tables e below (T4.setTop (mkF m 60 #[.val (.ref a1), .val (.int p1), .val (.int (0 : Int32))] [(.int (lcmpW (w &&& ((1 : Int64) <<< (p1 &&& 0x3f).toInt64)) (0 : Int64)))])) _
      exact k
    by_cases h60 : (lcmpW (w &&& ((1 : Int64) <<< (p1 &&& 0x3f).toInt64)) (0 : Int64)) = (0 : Int32)
    · refine OEnds.go (t' := T4.setTop (mkF m 67 #[.val (.ref a1), .val (.int p1), .val (.int (0 : Int32))] [])) (fun _ k => XS.ifYes X4.here hx rfl (pc0 := 60) (pc' := 67) rfl (hb hby d12_60) rfl ((if0 _ _).trans (teq h60).1) (by decide) (by decide) k) ?_
      refine OEnds.go (t' := T4.setTop (mkF m 68 #[.val (.ref a1), .val (.int p1), .val (.int (0 : Int32))] [(.int (0 : Int32))])) (fun _ k => ?_) ?_
      · show Steps p.tables e below (T4.setTop (mkF m 67 #[.val (.ref a1), .val (.int p1), .val (.int (0 : Int32))] [])) _
        refine XS.iconst X4.here hx rfl (hb hby d12_67) ?_
        show Steps p.tables e below (T4.setTop (mkF m 68 #[.val (.ref a1), .val (.int p1), .val (.int (0 : Int32))] [(.int (0 : Int32))])) _
        exact k
      refine OEnds.back X4 hlk (v := (some (.int (0 : Int32)))) (fun h => by rw [hrt] at h; cases h) (fun fs hr => ?_) ?_ (by decide) (by decide)
      · exact retN X4 hx (t := .boolean) hrt (by simp) (hb hby d12_68) hr
      · show Q12 Z a1 p1 b k u w h0 n0 _ T4.heap _
        rw [e4]
        exact ⟨by rw [own_get, if_pos h45, if_pos ((own_eq _ _).mp h60)], N2, rfl⟩
    · refine OEnds.go (t' := T4.setTop (mkF m 63 #[.val (.ref a1), .val (.int p1), .val (.int (0 : Int32))] [])) (fun _ k => XS.ifNo X4.here hx rfl (hb hby d12_60) rfl ((if0 _ _).trans (feq h60).1) k) ?_
      refine OEnds.go (t' := T4.setTop (mkF m 68 #[.val (.ref a1), .val (.int p1), .val (.int (0 : Int32))] [(.int (1 : Int32))])) (fun _ k => ?_) ?_
      · show Steps p.tables e below (T4.setTop (mkF m 63 #[.val (.ref a1), .val (.int p1), .val (.int (0 : Int32))] [])) _
        refine XS.iconst X4.here hx rfl (hb hby d12_63) ?_
        show Steps p.tables e below (T4.setTop (mkF m 64 #[.val (.ref a1), .val (.int p1), .val (.int (0 : Int32))] [(.int (1 : Int32))])) _
        refine XS.goto X4.here hx rfl (pc0 := 64) (pc' := 68) rfl (hb hby d12_64) (by decide) (by decide) ?_
        show Steps p.tables e below (T4.setTop (mkF m 68 #[.val (.ref a1), .val (.int p1), .val (.int (0 : Int32))] [(.int (1 : Int32))])) _
        exact k
      refine OEnds.back X4 hlk (v := (some (.int (1 : Int32)))) (fun h => by rw [hrt] at h; cases h) (fun fs hr => ?_) ?_ (by decide) (by decide)
      · exact retN X4 hx (t := .boolean) hrt (by simp) (hb hby d12_68) hr
      · show Q12 Z a1 p1 b k u w h0 n0 _ T4.heap _
        rw [e4]
        exact ⟨by rw [own_get, if_pos h45, if_neg (fun q => h60 ((own_eq _ _).mpr q))], N2, rfl⟩
  · refine OEnds.go (t' := T3.setTop (mkF m 67 #[.val (.ref a1), .val (.int p1), .val (.int (0 : Int32))] [])) (fun _ k => XS.icmpYes X3.here hx rfl (pc0 := 45) (pc' := 67) rfl (hb hby d12_45) rfl (flt h45).2.1 (by decide) (by decide) k) ?_
    refine OEnds.go (t' := T3.setTop (mkF m 68 #[.val (.ref a1), .val (.int p1), .val (.int (0 : Int32))] [(.int (0 : Int32))])) (fun _ k => ?_) ?_
    · show Steps p.tables e below (T3.setTop (mkF m 67 #[.val (.ref a1), .val (.int p1), .val (.int (0 : Int32))] [])) _
      refine XS.iconst X3.here hx rfl (hb hby d12_67) ?_
      show Steps p.tables e below (T3.setTop (mkF m 68 #[.val (.ref a1), .val (.int p1), .val (.int (0 : Int32))] [(.int (0 : Int32))])) _
      exact k
    refine OEnds.back X3 hlk (v := (some (.int (0 : Int32)))) (fun h => by rw [hrt] at h; cases h) (fun fs hr => ?_) ?_ (by decide) (by decide)
    · exact retN X3 hx (t := .boolean) hrt (by simp) (hb hby d12_68) hr
    · show Q12 Z a1 p1 b k u w h0 n0 _ T3.heap _
      rw [e3]
      exact ⟨by rw [own_get, if_neg h45], N2, rfl⟩
theorem d1_0 : decode prog_35_method_1_code 0 = .ok (.aload_n 0, 1) := by decide +kernel
theorem d1_1 : decode prog_35_method_1_code 1 = .ok (.invokespecial 1, 3) := by decide +kernel
theorem d1_4 : decode prog_35_method_1_code 4 = .ok (.aload_n 0, 1) := by decide +kernel
theorem d1_5 : decode prog_35_method_1_code 5 = .ok (.new 7, 3) := by decide +kernel
theorem d1_8 : decode prog_35_method_1_code 8 = .ok (.dup, 1) := by decide +kernel
theorem d1_9 : decode prog_35_method_1_code 9 = .ok (.invokespecial 9, 3) := by decide +kernel
theorem d1_12 : decode prog_35_method_1_code 12 = .ok (.putfield 10, 3) := by decide +kernel
theorem d1_15 : decode prog_35_method_1_code 15 = .ok (.aload_n 0, 1) := by decide +kernel
theorem d1_16 : decode prog_35_method_1_code 16 = .ok (.getstatic 16, 3) := by decide +kernel
theorem d1_19 : decode prog_35_method_1_code 19 = .ok (.putfield 22, 3) := by decide +kernel
theorem d1_22 : decode prog_35_method_1_code 22 = .ok (.return_, 1) := by decide +kernel
theorem pn_1 : plainName "com/example/typewright/typewright/Flow" = true := by first | (simp [plainName, overriddenIn]; done) | decide +kernel
theorem pd_rm1_0 : parseMethodDescriptor "()V" = some ⟨[], none⟩ := by decide +kernel
theorem ef_rm1 (m : MethodId) (a1 : Addr) : entryFrame m #[(.ref a1)] 1 = mkF m 0 #[.val (.ref a1)] [] := by first | (simp [entryFrame, mkF, argsToLocals, Value.category]; done) | rfl
def Q1 (Z : State) (a1 : Addr) (r1 : Addr) (h0 : Heap) (n0 : Nat) (v : Option Value) (h : Heap) (L : List Loc) : Prop := v = none ∧ Fr n0 L ∧ Keep h0 h [a1] ∧ Exa Z h a1 "com/example/typewright/typewright/Flow" ∧ Fld Z h a1 "com/example/typewright/typewright/Flow" "locals" "I" (.int (0 : Int32)) ∧ (∃ u, Fld Z h a1 "com/example/typewright/typewright/Flow" "reach" "Lcom/example/typewright/typewright/Flow$Reach;" u) ∧ ∃ (bs : Addr) (wa : Addr) (k : ClassId), Fld Z h a1 "com/example/typewright/typewright/Flow" "assigned" "Ljava/util/BitSet;" (.ref bs) ∧ own_Bits Z h bs wa k 0 0 ∧ (h0.size ≤ bs ∧ n0 ≤ bs) ∧ h0.size ≤ wa ∧ n0 ≤ wa
set_option maxRecDepth 65536 in
set_option maxHeartbeats 40000000 in
theorem rm1 (l : Launch) (Z : State) (a0 : Array Value) (hw : ∀ d ∈ tables_1, d.before a0 Z = true) (ws : List Jvm.Cond) (a1 : Addr) (r1 : Addr) (h0 : Heap) (n0 : Nat) (Z0 : n0 ≤ h0.size) (F_assigned_a1 : Fld Z h0 a1 "com/example/typewright/typewright/Flow" "assigned" "Ljava/util/BitSet;" .null) (F_locals_a1 : Fld Z h0 a1 "com/example/typewright/typewright/Flow" "locals" "I" (.int (0 : Int32))) (F_reach_a1 : Fld Z h0 a1 "com/example/typewright/typewright/Flow" "reach" "Lcom/example/typewright/typewright/Flow$Reach;" .null) (E_a1 : Exa Z h0 a1 "com/example/typewright/typewright/Flow") (g_a1 : n0 ≤ a1) (S_R : Sta Z Z.heap "com/example/typewright/typewright/Flow$Reach" "REACHABLE" "Lcom/example/typewright/typewright/Flow$Reach;" (.ref r1)) (hzo : Old Z n0 h0) :
    MetFree l (⟨"com/example/typewright/typewright/Flow", "<init>", "()V"⟩ : MethodName) (head1 (Jvm.Cond.code (⟨"com/example/typewright/typewright/Flow", "<init>", "()V"⟩ : MethodName) prog_35_method_1_code 1 none :: ws) ({ frames := 3, cells := 2, slots := 4, locals := 40 } : Room)) (fun a U => a = #[(.ref a1)] ∧ Z.Warmed39 U.vm ∧ U.heap = h0) (fun _ _ _ _ _ => True) (fun _ U o U' => ∃ v L, o = .returned v ∧ Q1 Z a1 r1 h0 n0 v U'.heap L ∧ FrameEnd U o U' L ({ frames := 3, cells := 2, slots := 4, locals := 40 } : Room).cells ({ frames := 3, cells := 2, slots := 4, locals := 40 } : Room).slots) := by
  refine MetFree.of_bodySF (plainFor_of_name pn_1) hisR ?_
  intro p e s m args below meth c s₁ Bd hml0 hP hK
  obtain ⟨rfl, hZ, hh⟩ := hP
  have hx := Bd.exec
  have hby := Bd.bytes
  have hml : c.maxLocals = 1 := hml0
  have hown : s.vm.findClass "com/example/typewright/typewright/Flow" = some m.cls := findClass_of_methodNamed Bd.named
  have hnm := (name_of_methodNamed Bd.named Bd.method).1
  have hlk := BodyLoose.notSynchronized Bd
  have hrt := Bd.returns
  have X0 : Stand p l e ({ frames := 3, cells := 2, slots := 4, locals := 40 } : Room) s m #[(.ref a1)] below meth c s₁ [] 0 0 := Stand.of_body Bd
  have e0 : s₁.heap = h0 := by rw [← hh, Bd.state]; rfl
  have N0 := Fr.nil n0
  show OEnds p e below s (Q1 Z a1 r1 h0 n0) ({ frames := 3, cells := 2, slots := 4, locals := 40 } : Room).cells ({ frames := 3, cells := 2, slots := 4, locals := 40 } : Room).slots (s₁.setTop (entryFrame m #[(.ref a1)] 1))
  refine OEnds.go (t' := s₁.setTop (mkF m 0 #[.val (.ref a1)] [])) (fun t k => castTop (ef_rm1 m a1) k) ?_
  have hzt := hzo
  refine OEnds.go (t' := s₁.setTop (mkF m 1 #[.val (.ref a1)] [(.ref a1)])) (fun _ k => ?_) ?_
  · show Steps p.tables e below (s₁.setTop (mkF m 0 #[.val (.ref a1)] [])) _
    refine XS.aloadN X0.here hx rfl (hb hby d1_0) rfl rfl ?_
    show Steps p.tables e below (s₁.setTop (mkF m 1 #[.val (.ref a1)] [(.ref a1)])) _
    exact k
  obtain ⟨T1, X1, e1, st1⟩ := initO X0 hx hZ hown (hw _ (List.mem_of_getElem? (i := 6) rfl)) (hw _ (List.mem_of_getElem? (i := 7) rfl)) (hw _ (List.mem_of_getElem? (i := 8) rfl)) e0 (g := (mkF m 1 #[.val (.ref a1)] [(.ref a1)])) rfl (by rw [hml]; rfl) rfl (hb hby d1_1) (by decide) (W := 0) (by show 2 * 0 + _ ≤ _; exact Nat.le_of_eq rfl) (by decide)
  refine OEnds.go (t' := T1.setTop (mkF m 4 #[.val (.ref a1)] [])) (fun _ k => st1 _ k) ?_
  refine OEnds.go (t' := T1.setTop (mkF m 5 #[.val (.ref a1)] [(.ref a1)])) (fun _ k => ?_) ?_
  · show Steps p.tables e below (T1.setTop (mkF m 4 #[.val (.ref a1)] [])) _
    refine XS.aloadN X1.here hx rfl (hb hby d1_4) rfl rfl ?_
    show Steps p.tables e below (T1.setTop (mkF m 5 #[.val (.ref a1)] [(.ref a1)])) _
    exact k
  obtain ⟨T2, h2, X2, e2, E2, A2, D2, -, st2⟩ := newO X1 hx hZ hown (hw _ (List.mem_of_getElem? (i := 9) rfl)) (hw _ (List.mem_of_getElem? (i := 10) rfl)) (hw _ (List.mem_of_getElem? (i := 11) rfl)) e1 (g := (mkF m 5 #[.val (.ref a1)] [(.ref a1)])) rfl (hb hby d1_5) (by decide) (by decide)
  obtain ⟨b1, gz2⟩ : ∃ z, z = h0.size := ⟨_, rfl⟩
  rw [← gz2] at A2 D2 st2
  have ne_a1_b1 : a1 ≠ b1 := Nat.ne_of_lt (Nat.lt_of_lt_of_le E_a1.lt (Nat.le_of_eq gz2.symm))
  have g_b1 : n0 ≤ b1 := Nat.le_trans Z0 (Nat.le_of_eq gz2.symm)
  have sz_b1 : h0.size ≤ b1 := Nat.le_trans (Keep.refl h0 [a1]).1 (Nat.le_of_eq gz2.symm)
  have E_a1 := E_a1.ext E2
  have F_assigned_a1 := F_assigned_a1.ext E2
  have F_locals_a1 := F_locals_a1.ext E2
  have F_reach_a1 := F_reach_a1.ext E2
  have hzt := hzt.ext E2
  have Z2 : n0 ≤ h2.size := Nat.le_trans Z0 E2.1
  have K2 := (Keep.refl h0 [a1]).ext E2
  have E_b1 := A2
  have F_wordsInUse_b1 : Fld Z h2 b1 "java/util/BitSet" "wordsInUse" "I" (.int (0 : Int32)) := D2 (Or.inl (hw _ (List.mem_of_getElem? (i := 17) rfl))) (ty := .int) (by decide)
  have F_sizeIsSticky_b1 : Fld Z h2 b1 "java/util/BitSet" "sizeIsSticky" "Z" (.int (0 : Int32)) := D2 (Or.inl (hw _ (List.mem_of_getElem? (i := 19) rfl))) (ty := .boolean) (by decide)
  have F_words_b1 : Fld Z h2 b1 "java/util/BitSet" "words" "[J" .null := D2 (Or.inl (hw _ (List.mem_of_getElem? (i := 30) rfl))) (ty := (.array .long)) (by decide)
  refine OEnds.go (t' := T2.setTop (mkF m 8 #[.val (.ref a1)] [(.ref b1), (.ref a1)])) (fun _ k => st2 _ k) ?_
  refine OEnds.go (t' := T2.setTop (mkF m 9 #[.val (.ref a1)] [(.ref b1), (.ref b1), (.ref a1)])) (fun _ k => ?_) ?_
  · show Steps p.tables e below (T2.setTop (mkF m 8 #[.val (.ref a1)] [(.ref b1), (.ref a1)])) _
    refine XS.dup X2.here hx rfl (hb hby d1_8) rfl rfl ?_
    show Steps p.tables e below (T2.setTop (mkF m 9 #[.val (.ref a1)] [(.ref b1), (.ref b1), (.ref a1)])) _
    exact k
  have lt_a1 := E_a1.lt
  have lt_b1 := E_b1.lt
  have Kzb1 := K2
  obtain ⟨_, _, ⟨T3, L3, k3, n3⟩, -, X3, ⟨Lc3, hQ3, l3, y3, z3⟩, st3⟩ := X2.specialBack hx (y := (⟨"java/util/BitSet", "<init>", "()V"⟩ : MethodName)) rfl hown (mvT hZ (hw _ (List.mem_of_getElem? (i := 12) rfl))) (mvT hZ (hw _ (List.mem_of_getElem? (i := 13) rfl))) (mvT hZ (hw _ (List.mem_of_getElem? (i := 14) rfl))) (by decide) (backOf (W := 2) (rm3 l Z a0 hw [] b1 h2 n0 Z2 F_wordsInUse_b1 F_sizeIsSticky_b1 F_words_b1 E_b1 g_b1) hZ (hw _ (List.mem_of_getElem? (i := 14) rfl)) (hw _ (List.mem_of_getElem? (i := 11) rfl)) (by decide) (by decide)) (g := (mkF m 9 #[.val (.ref a1)] [(.ref b1), (.ref b1), (.ref a1)])) rfl (by rw [hml]; rfl) (Steps.refl _) (a := b1) (argsL := []) (rest := [(.ref b1), (.ref a1)]) (lenOf pd_rm1_0 rfl) rfl (by show 2 * 0 + _ ≤ _; exact Nat.le_of_eq rfl) (hb hby d1_9) (fun _ _ => ⟨rfl, e2, (by decide : 1 + 1 ≤ _), (by decide : 3 + 1 ≤ _)⟩)
  dsimp only [Pt.U, Pt.locs, Pt.cells, Pt.slots] at X3 l3 y3 z3 st3 hQ3
  subst l3 y3 z3
  obtain ⟨rfl, N3q, Kc3, b1_w, b1_k, B_b1, szw_b1, g_b1_w⟩ := hQ3
  have N3 := Fr.app N0 N3q
  have E_a1 := E_a1.keep Kc3
  have F_assigned_a1 := F_assigned_a1.keep Kc3 (ninS ne_a1_b1 nin0)
  have F_locals_a1 := F_locals_a1.keep Kc3 (ninS ne_a1_b1 nin0)
  have F_reach_a1 := F_reach_a1.keep Kc3 (ninS ne_a1_b1 nin0)
  have hzt := hzt.keep Kc3 (allS g_b1 all0)
  have Z3 : n0 ≤ T3.heap.size := Nat.le_trans Z2 Kc3.1
  have K3 := K2.trans Kc3 (allS (Or.inr sz_b1) all0)
  refine OEnds.go (t' := T3.setTop (mkF m 12 #[.val (.ref a1)] [(.ref b1), (.ref a1)])) (fun _ k => st3.trans k) ?_
  have ne_a1_b1_w : a1 ≠ b1_w := Nat.ne_of_lt (Nat.lt_of_lt_of_le lt_a1 szw_b1)
  have ne_b1_b1_w : b1 ≠ b1_w := Nat.ne_of_lt (Nat.lt_of_lt_of_le lt_b1 szw_b1)
  have sz_b1_w : h0.size ≤ b1_w := Nat.le_trans Kzb1.1 szw_b1
  obtain ⟨T4, h4, X4, e4, W4, st4⟩ := putF X3 hx hZ hown (host := "") (Or.inl (hw _ (List.mem_of_getElem? (i := 31) rfl))) Via.refl rfl F_assigned_a1 E_a1 (Or.inl (hw _ (List.mem_of_getElem? (i := 32) rfl))) (hw _ (List.mem_of_getElem? (i := 1) rfl)) (ty := (.object "java/util/BitSet")) (by decide) rfl rfl (g := (mkF m 12 #[.val (.ref a1)] [(.ref b1), (.ref a1)])) rfl rfl (hb hby d1_12)
  have N4 := Fr.snoc X4 N3 g_a1
  have E_a1 := E_a1.wr W4
  have F_assigned_a1 := F_assigned_a1.same W4
  have F_locals_a1 := F_locals_a1.other W4 (Or.inr (slot_ne (Or.inl (hw _ (List.mem_of_getElem? (i := 48) rfl))) (Or.inl (hw _ (List.mem_of_getElem? (i := 32) rfl))) (by decide) (t := .int) (t' := (.object "java/util/BitSet")) (by decide) (by decide)))
  have F_reach_a1 := F_reach_a1.other W4 (Or.inr (slot_ne (Or.inl (hw _ (List.mem_of_getElem? (i := 37) rfl))) (Or.inl (hw _ (List.mem_of_getElem? (i := 32) rfl))) (by decide) (t := (.object "com/example/typewright/typewright/Flow$Reach")) (t' := (.object "java/util/BitSet")) (by decide) (by decide)))
  have hzt := hzt.wr W4 g_a1
  have B_b1 := B_b1.other W4 (Ne.symm ne_a1_b1) (Ne.symm ne_a1_b1_w)
  have Z4 : n0 ≤ h4.size := Nat.le_trans Z3 (Keep.of_wr W4).1
  have K4 := K3.wr W4 (Or.inl (List.mem_of_getElem? (i := 0) rfl))
  refine OEnds.go (t' := T4.setTop (mkF m 15 #[.val (.ref a1)] [])) (fun _ k => st4 _ k) ?_
  refine OEnds.go (t' := T4.setTop (mkF m 16 #[.val (.ref a1)] [(.ref a1)])) (fun _ k => ?_) ?_
  · show Steps p.tables e below (T4.setTop (mkF m 15 #[.val (.ref a1)] [])) _
    refine XS.aloadN X4.here hx rfl (hb hby d1_15) rfl rfl ?_
    show Steps p.tables e below (T4.setTop (mkF m 16 #[.val (.ref a1)] [(.ref a1)])) _
    exact k
  obtain ⟨T5, X5, e5, st5⟩ := getS2 X4 hx hZ hown (host := "") (Or.inl (hw _ (List.mem_of_getElem? (i := 33) rfl))) Via.refl e4 (S_R.ext hzt.2) (g := (mkF m 16 #[.val (.ref a1)] [(.ref a1)])) rfl (hb hby d1_16)
  refine OEnds.go (t' := T5.setTop (mkF m 19 #[.val (.ref a1)] [(.ref r1), (.ref a1)])) (fun _ k => st5 _ k) ?_
  obtain ⟨T6, h6, X6, e6, W6, st6⟩ := putF X5 hx hZ hown (host := "") (Or.inl (hw _ (List.mem_of_getElem? (i := 36) rfl))) Via.refl e5 F_reach_a1 E_a1 (Or.inl (hw _ (List.mem_of_getElem? (i := 37) rfl))) (hw _ (List.mem_of_getElem? (i := 1) rfl)) (ty := (.object "com/example/typewright/typewright/Flow$Reach")) (by decide) rfl rfl (g := (mkF m 19 #[.val (.ref a1)] [(.ref r1), (.ref a1)])) rfl rfl (hb hby d1_19)
  have N6 := Fr.snoc X6 N4 g_a1
  have E_a1 := E_a1.wr W6
  have F_assigned_a1 := F_assigned_a1.other W6 (Or.inr (slot_ne (Or.inl (hw _ (List.mem_of_getElem? (i := 32) rfl))) (Or.inl (hw _ (List.mem_of_getElem? (i := 37) rfl))) (by decide) (t := (.object "java/util/BitSet")) (t' := (.object "com/example/typewright/typewright/Flow$Reach")) (by decide) (by decide)))
  have F_locals_a1 := F_locals_a1.other W6 (Or.inr (slot_ne (Or.inl (hw _ (List.mem_of_getElem? (i := 48) rfl))) (Or.inl (hw _ (List.mem_of_getElem? (i := 37) rfl))) (by decide) (t := .int) (t' := (.object "com/example/typewright/typewright/Flow$Reach")) (by decide) (by decide)))
  have F_reach_a1 := F_reach_a1.same W6
  have hzt := hzt.wr W6 g_a1
  have B_b1 := B_b1.other W6 (Ne.symm ne_a1_b1) (Ne.symm ne_a1_b1_w)
  have Z6 : n0 ≤ h6.size := Nat.le_trans Z4 (Keep.of_wr W6).1
  have K6 := K4.wr W6 (Or.inl (List.mem_of_getElem? (i := 0) rfl))
  refine OEnds.go (t' := T6.setTop (mkF m 22 #[.val (.ref a1)] [])) (fun _ k => st6 _ k) ?_
  refine OEnds.back X6 hlk (v := none) (fun _ => rfl) (fun fs hr => ?_) ?_ (by decide) (by decide)
  · exact X6.returnOut hx hrt (hb hby d1_22) hr
  · show Q1 Z a1 r1 h0 n0 _ T6.heap _
    rw [e6]
    exact ⟨rfl, N6, K6, E_a1, F_locals_a1, ⟨_, F_reach_a1⟩, b1, b1_w, b1_k, F_assigned_a1, B_b1, ⟨sz_b1, g_b1⟩, sz_b1_w, g_b1_w⟩
theorem d10_0 : decode prog_35_method_2_code 0 = .ok (.aload_n 0, 1) := by decide +kernel
theorem d10_1 : decode prog_35_method_2_code 1 = .ok (.dup, 1) := by decide +kernel
theorem d10_2 : decode prog_35_method_2_code 2 = .ok (.getfield 25, 3) := by decide +kernel
theorem d10_5 : decode prog_35_method_2_code 5 = .ok (.dup_x1, 1) := by decide +kernel
theorem d10_6 : decode prog_35_method_2_code 6 = .ok (.iconst 1, 1) := by decide +kernel
theorem d10_7 : decode prog_35_method_2_code 7 = .ok (.iadd, 1) := by decide +kernel
theorem d10_8 : decode prog_35_method_2_code 8 = .ok (.putfield 25, 3) := by decide +kernel
theorem d10_11 : decode prog_35_method_2_code 11 = .ok (.ireturn, 1) := by decide +kernel
theorem pn_10 : plainName "com/example/typewright/typewright/Flow" = true := by first | (simp [plainName, overriddenIn]; done) | decide +kernel
theorem ef_rm10 (m : MethodId) (a1 : Addr) : entryFrame m #[(.ref a1)] 1 = mkF m 0 #[.val (.ref a1)] [] := by first | (simp [entryFrame, mkF, argsToLocals, Value.category]; done) | rfl
def Q10 (Z : State) (a1 : Addr) (n : Int32) (u1 : Value) (u2 : Value) (h0 : Heap) (n0 : Nat) (v : Option Value) (h : Heap) (L : List Loc) : Prop := v = some (.int n) ∧ Fr n0 L ∧ Keep h0 h [a1] ∧ Exa Z h a1 "com/example/typewright/typewright/Flow" ∧ Fld Z h a1 "com/example/typewright/typewright/Flow" "locals" "I" (.int (n + 1)) ∧ Fld Z h a1 "com/example/typewright/typewright/Flow" "assigned" "Ljava/util/BitSet;" u1 ∧ Fld Z h a1 "com/example/typewright/typewright/Flow" "reach" "Lcom/example/typewright/typewright/Flow$Reach;" u2
set_option maxRecDepth 65536 in
set_option maxHeartbeats 40000000 in
theorem rm10 (l : Launch) (Z : State) (a0 : Array Value) (hw : ∀ d ∈ tables_1, d.before a0 Z = true) (ws : List Jvm.Cond) (a1 : Addr) (n : Int32) (u1 : Value) (u2 : Value) (h0 : Heap) (n0 : Nat) (Z0 : n0 ≤ h0.size) (F_locals_a1 : Fld Z h0 a1 "com/example/typewright/typewright/Flow" "locals" "I" (.int n)) (F_assigned_a1 : Fld Z h0 a1 "com/example/typewright/typewright/Flow" "assigned" "Ljava/util/BitSet;" u1) (F_reach_a1 : Fld Z h0 a1 "com/example/typewright/typewright/Flow" "reach" "Lcom/example/typewright/typewright/Flow$Reach;" u2) (E_a1 : Exa Z h0 a1 "com/example/typewright/typewright/Flow") (g_a1 : n0 ≤ a1) :
    MetFree l (⟨"com/example/typewright/typewright/Flow", "declare", "()I"⟩ : MethodName) (head1 (Jvm.Cond.code (⟨"com/example/typewright/typewright/Flow", "declare", "()I"⟩ : MethodName) prog_35_method_2_code 1 (some .int) :: ws) ({ frames := 0, cells := 0, slots := 0, locals := 0 } : Room)) (fun a U => a = #[(.ref a1)] ∧ Z.Warmed39 U.vm ∧ U.heap = h0) (fun _ _ _ _ _ => True) (fun _ U o U' => ∃ v L, o = .returned v ∧ Q10 Z a1 n u1 u2 h0 n0 v U'.heap L ∧ FrameEnd U o U' L ({ frames := 0, cells := 0, slots := 0, locals := 0 } : Room).cells ({ frames := 0, cells := 0, slots := 0, locals := 0 } : Room).slots) := by
  refine MetFree.of_bodySF (plainFor_of_name pn_10) hisR ?_
  intro p e s m args below meth c s₁ Bd hml0 hP hK
  obtain ⟨rfl, hZ, hh⟩ := hP
  have hx := Bd.exec
  have hby := Bd.bytes
  have hml : c.maxLocals = 1 := hml0
  have hown : s.vm.findClass "com/example/typewright/typewright/Flow" = some m.cls := findClass_of_methodNamed Bd.named
  have hnm := (name_of_methodNamed Bd.named Bd.method).1
  have hlk := BodyLoose.notSynchronized Bd
  have hrt := Bd.returns
  have X0 : Stand p l e ({ frames := 0, cells := 0, slots := 0, locals := 0 } : Room) s m #[(.ref a1)] below meth c s₁ [] 0 0 := Stand.of_body Bd
  have e0 : s₁.heap = h0 := by rw [← hh, Bd.state]; rfl
  have N0 := Fr.nil n0
  show OEnds p e below s (Q10 Z a1 n u1 u2 h0 n0) ({ frames := 0, cells := 0, slots := 0, locals := 0 } : Room).cells ({ frames := 0, cells := 0, slots := 0, locals := 0 } : Room).slots (s₁.setTop (entryFrame m #[(.ref a1)] 1))
  refine OEnds.go (t' := s₁.setTop (mkF m 0 #[.val (.ref a1)] [])) (fun t k => castTop (ef_rm10 m a1) k) ?_
  refine OEnds.go (t' := s₁.setTop (mkF m 2 #[.val (.ref a1)] [(.ref a1), (.ref a1)])) (fun _ k => ?_) ?_
  · show Steps p.tables e below (s₁.setTop (mkF m 0 #[.val (.ref a1)] [])) _
    refine XS.aloadN X0.here hx rfl (hb hby d10_0) rfl rfl ?_
    show Steps p.tables e below (s₁.setTop (mkF m 1 #[.val (.ref a1)] [(.ref a1)])) _
    refine XS.dup X0.here hx rfl (hb hby d10_1) rfl rfl ?_
    show Steps p.tables e below (s₁.setTop (mkF m 2 #[.val (.ref a1)] [(.ref a1), (.ref a1)])) _
    exact k
  obtain ⟨T1, X1, e1, st1⟩ := getF X0 hx hZ hown (host := "") (Or.inl (hw _ (List.mem_of_getElem? (i := 47) rfl))) Via.refl e0 F_locals_a1 (g := (mkF m 2 #[.val (.ref a1)] [(.ref a1), (.ref a1)])) rfl rfl (hb hby d10_2)
  refine OEnds.go (t' := T1.setTop (mkF m 5 #[.val (.ref a1)] [(.int n), (.ref a1)])) (fun _ k => st1 _ k) ?_
  refine OEnds.go (t' := T1.setTop (mkF m 8 #[.val (.ref a1)] [(.int (n + (1 : Int32))), (.ref a1), (.int n)])) (fun _ k => ?_) ?_
  · show Steps p.tables e below (T1.setTop (mkF m 5 #[.val (.ref a1)] [(.int n), (.ref a1)])) _
    refine XS.dupX1 X1.here hx rfl (hb hby d10_5) rfl rfl rfl ?_
    show Steps p.tables e below (T1.setTop (mkF m 6 #[.val (.ref a1)] [(.int n), (.ref a1), (.int n)])) _
    refine XS.iconst X1.here hx rfl (hb hby d10_6) ?_
    show Steps p.tables e below (T1.setTop (mkF m 7 #[.val (.ref a1)] [(.int (1 : Int32)), (.int n), (.ref a1), (.int n)])) _
    refine XS.iadd X1.here hx rfl (hb hby d10_7) rfl ?_
    show Steps p.tables e below (T1.setTop (mkF m 8 #[.val (.ref a1)] [(.int (n + (1 : Int32))), (.ref a1), (.int n)])) _
    exact k
  obtain ⟨T2, h2, X2, e2, W2, st2⟩ := putF X1 hx hZ hown (host := "") (Or.inl (hw _ (List.mem_of_getElem? (i := 47) rfl))) Via.refl e1 F_locals_a1 E_a1 (Or.inl (hw _ (List.mem_of_getElem? (i := 48) rfl))) (hw _ (List.mem_of_getElem? (i := 1) rfl)) (ty := .int) (by decide) rfl rfl (g := (mkF m 8 #[.val (.ref a1)] [(.int (n + (1 : Int32))), (.ref a1), (.int n)])) rfl rfl (hb hby d10_8)
  have N2 := Fr.snoc X2 N0 g_a1
  have E_a1 := E_a1.wr W2
  have F_assigned_a1 := F_assigned_a1.other W2 (Or.inr (slot_ne (Or.inl (hw _ (List.mem_of_getElem? (i := 32) rfl))) (Or.inl (hw _ (List.mem_of_getElem? (i := 48) rfl))) (by decide) (t := (.object "java/util/BitSet")) (t' := .int) (by decide) (by decide)))
  have F_locals_a1 := F_locals_a1.same W2
  have F_reach_a1 := F_reach_a1.other W2 (Or.inr (slot_ne (Or.inl (hw _ (List.mem_of_getElem? (i := 37) rfl))) (Or.inl (hw _ (List.mem_of_getElem? (i := 48) rfl))) (by decide) (t := (.object "com/example/typewright/typewright/Flow$Reach")) (t' := .int) (by decide) (by decide)))
  have Z2 : n0 ≤ h2.size := Nat.le_trans Z0 (Keep.of_wr W2).1
  have K2 := (Keep.refl h0 [a1]).wr W2 (Or.inl (List.mem_of_getElem? (i := 0) rfl))
  refine OEnds.go (t' := T2.setTop (mkF m 11 #[.val (.ref a1)] [(.int n)])) (fun _ k => st2 _ k) ?_
  refine OEnds.back X2 hlk (v := (some (.int n))) (fun h => by rw [hrt] at h; cases h) (fun fs hr => ?_) ?_ (by decide) (by decide)
  · exact retI X2 hx hrt (hb hby d10_11) hr
  · show Q10 Z a1 n u1 u2 h0 n0 _ T2.heap _
    rw [e2]
    exact ⟨rfl, N2, K2, E_a1, F_locals_a1, F_assigned_a1, F_reach_a1⟩
theorem d11_0 : decode prog_35_method_3_code 0 = .ok (.aload_n 0, 1) := by decide +kernel
theorem d11_1 : decode prog_35_method_3_code 1 = .ok (.getfield 10, 3) := by decide +kernel
theorem d11_4 : decode prog_35_method_3_code 4 = .ok (.iload_n 1, 1) := by decide +kernel
theorem d11_5 : decode prog_35_method_3_code 5 = .ok (.invokevirtual 29, 3) := by decide +kernel
theorem d11_8 : decode prog_35_method_3_code 8 = .ok (.ireturn, 1) := by decide +kernel
theorem pn_11 : plainName "com/example/typewright/typewright/Flow" = true := by first | (simp [plainName, overriddenIn]; done) | decide +kernel
theorem pd_rm11_0 : parseMethodDescriptor "(I)Z" = some ⟨[.int], some .boolean⟩ := by decide +kernel
theorem ef_rm11 (m : MethodId) (a1 : Addr) (p1 : Int32) : entryFrame m #[(.ref a1), (.int p1)] 2 = mkF m 0 #[.val (.ref a1), .val (.int p1)] [] := by first | (simp [entryFrame, mkF, argsToLocals, Value.category]; done) | rfl
def Q11 (Z : State) (a1 : Addr) (p1 : Int32) (bs : Addr) (b : Addr) (k : ClassId) (u : Int32) (w : Int64) (h0 : Heap) (n0 : Nat) (v : Option Value) (h : Heap) (L : List Loc) : Prop := v = some (.int (own_get u w p1)) ∧ Fr n0 L ∧ h = h0
set_option maxRecDepth 65536 in
set_option maxHeartbeats 40000000 in
theorem rm11 (l : Launch) (Z : State) (a0 : Array Value) (hw : ∀ d ∈ tables_1, d.before a0 Z = true) (ws : List Jvm.Cond) (a1 : Addr) (p1 : Int32) (bs : Addr) (b : Addr) (k : ClassId) (u : Int32) (w : Int64) (h0 : Heap) (n0 : Nat) (Z0 : n0 ≤ h0.size) (S_A : Sta Z h0 "java/util/BitSet" "$assertionsDisabled" "Z" (.int 1)) (F1 : Fld Z h0 a1 "com/example/typewright/typewright/Flow" "assigned" "Ljava/util/BitSet;" (.ref bs)) (c1 : ¬ p1 < 0) (c2 : (p1 >>> ((6 : Int32) &&& 31)) = 0) (B1 : own_Bits Z h0 bs b k u w) :
    MetFree l (⟨"com/example/typewright/typewright/Flow", "isAssigned", "(I)Z"⟩ : MethodName) (head1 (Jvm.Cond.code (⟨"com/example/typewright/typewright/Flow", "isAssigned", "(I)Z"⟩ : MethodName) prog_35_method_3_code 2 (some .boolean) :: ws) ({ frames := 2, cells := 0, slots := 0, locals := 26 } : Room)) (fun a U => a = #[(.ref a1), (.int p1)] ∧ Z.Warmed39 U.vm ∧ U.heap = h0) (fun _ _ _ _ _ => True) (fun _ U o U' => ∃ v L, o = .returned v ∧ Q11 Z a1 p1 bs b k u w h0 n0 v U'.heap L ∧ FrameEnd U o U' L ({ frames := 2, cells := 0, slots := 0, locals := 26 } : Room).cells ({ frames := 2, cells := 0, slots := 0, locals := 26 } : Room).slots) := by
  refine MetFree.of_bodySF (plainFor_of_name pn_11) hisR ?_
  intro p e s m args below meth c s₁ Bd hml0 hP hK
  obtain ⟨rfl, hZ, hh⟩ := hP
  have hx := Bd.exec
  have hby := Bd.bytes
  have hml : c.maxLocals = 2 := hml0
  have hown : s.vm.findClass "com/example/typewright/typewright/Flow" = some m.cls := findClass_of_methodNamed Bd.named
  have hnm := (name_of_methodNamed Bd.named Bd.method).1
  have hlk := BodyLoose.notSynchronized Bd
  have hrt := Bd.returns
  have X0 : Stand p l e ({ frames := 2, cells := 0, slots := 0, locals := 26 } : Room) s m #[(.ref a1), (.int p1)] below meth c s₁ [] 0 0 := Stand.of_body Bd
  have e0 : s₁.heap = h0 := by rw [← hh, Bd.state]; rfl
  have N0 := Fr.nil n0
  show OEnds p e below s (Q11 Z a1 p1 bs b k u w h0 n0) ({ frames := 2, cells := 0, slots := 0, locals := 26 } : Room).cells ({ frames := 2, cells := 0, slots := 0, locals := 26 } : Room).slots (s₁.setTop (entryFrame m #[(.ref a1), (.int p1)] 2))
  refine OEnds.go (t' := s₁.setTop (mkF m 0 #[.val (.ref a1), .val (.int p1)] [])) (fun t k => castTop (ef_rm11 m a1 p1) k) ?_
  refine OEnds.go (t' := s₁.setTop (mkF m 1 #[.val (.ref a1), .val (.int p1)] [(.ref a1)])) (fun _ k => ?_) ?_
  · show Steps p.tables e below (s₁.setTop (mkF m 0 #[.val (.ref a1), .val (.int p1)] [])) _
    refine XS.aloadN X0.here hx rfl (hb hby d11_0) rfl rfl ?_
    show Steps p.tables e below (s₁.setTop (mkF m 1 #[.val (.ref a1), .val (.int p1)] [(.ref a1)])) _
    exact k
  obtain ⟨T1, X1, e1, st1⟩ := getF X0 hx hZ hown (host := "") (Or.inl (hw _ (List.mem_of_getElem? (i := 31) rfl))) Via.refl e0 F1 (g := (mkF m 1 #[.val (.ref a1), .val (.int p1)] [(.ref a1)])) rfl rfl (hb hby d11_1)
  refine OEnds.go (t' := T1.setTop (mkF m 4 #[.val (.ref a1), .val (.int p1)] [(.ref bs)])) (fun _ k => st1 _ k) ?_
  refine OEnds.go (t' := T1.setTop (mkF m 5 #[.val (.ref a1), .val (.int p1)] [(.int p1), (.ref bs)])) (fun _ k => ?_) ?_
  · show Steps p.tables e below (T1.setTop (mkF m 4 #[.val (.ref a1), .val (.int p1)] [(.ref bs)])) _
    refine XS.iloadN X1.here hx rfl (hb hby d11_4) rfl ?_
    show Steps p.tables e below (T1.setTop (mkF m 5 #[.val (.ref a1), .val (.int p1)] [(.int p1), (.ref bs)])) _
    exact k
  obtain ⟨cq2, kq2, q2a, q2b, q2c⟩ := isOf hZ e1 B1.1
  obtain ⟨_, _, ⟨T2, L2, k2, n2⟩, -, X2, ⟨Lc2, hQ2, l2, y2, z2⟩, st2⟩ := X1.virtualBack hx (y := (⟨"java/util/BitSet", "get", "(I)Z"⟩ : MethodName)) (z := (⟨"java/util/BitSet", "get", "(I)Z"⟩ : MethodName)) hown (mvT hZ (hw _ (List.mem_of_getElem? (i := 69) rfl))) (mvT hZ (hw _ (List.mem_of_getElem? (i := 70) rfl))) (notFace_of_selects (args := #[]) (mvT hZ (hw _ (List.mem_of_getElem? (i := 72) rfl)))) (mvT hZ (hw _ (List.mem_of_getElem? (i := 72) rfl))) (mvT hZ (hw _ (List.mem_of_getElem? (i := 71) rfl))) (by decide) (backOf (W := 0) (rm12 l Z a0 hw [] bs p1 b k u w h0 n0 Z0 S_A c1 c2 B1) hZ (hw _ (List.mem_of_getElem? (i := 73) rfl)) (hw _ (List.mem_of_getElem? (i := 11) rfl)) (by decide) (by decide)) q2a q2c (g := (mkF m 5 #[.val (.ref a1), .val (.int p1)] [(.int p1), (.ref bs)])) rfl (by rw [hml]; rfl) (Steps.refl _) (argsL := [(.int p1)]) (rest := []) (lenOf pd_rm11_0 rfl) rfl (by show 2 * 0 + _ ≤ _; exact Nat.le_of_eq rfl) (hb hby d11_5) (fun _ _ => ⟨rfl, e1, (by decide : 0 + 0 ≤ _), (by decide : 0 + 0 ≤ _)⟩)
  dsimp only [Pt.U, Pt.locs, Pt.cells, Pt.slots] at X2 l2 y2 z2 st2 hQ2
  subst l2 y2 z2
  obtain ⟨rfl, N2q, eh⟩ := hQ2
  have N2 := Fr.app N0 N2q
  have eh2 := eh
  refine OEnds.go (t' := T2.setTop (mkF m 8 #[.val (.ref a1), .val (.int p1)] [(.int (own_get u w p1))])) (fun _ k => st2.trans k) ?_
  refine OEnds.back X2 hlk (v := (some (.int (nar .boolean (own_get u w p1))))) (fun h => by rw [hrt] at h; cases h) (fun fs hr => ?_) ?_ (by decide) (by decide)
  · exact retN X2 hx (t := .boolean) hrt (by simp) (hb hby d11_8) hr
  · show Q11 Z a1 p1 bs b k u w h0 n0 _ T2.heap _
    rw [eh2]
    exact ⟨by rw [own_getb], N2, rfl⟩
theorem d7_0 : decode prog_35_method_18_code 0 = .ok (.new 7, 3) := by decide +kernel
theorem d7_3 : decode prog_35_method_18_code 3 = .ok (.dup, 1) := by decide +kernel
theorem d7_4 : decode prog_35_method_18_code 4 = .ok (.invokespecial 9, 3) := by decide +kernel
theorem d7_7 : decode prog_35_method_18_code 7 = .ok (.astore_n 1, 1) := by decide +kernel
theorem d7_8 : decode prog_35_method_18_code 8 = .ok (.aload_n 1, 1) := by decide +kernel
theorem d7_9 : decode prog_35_method_18_code 9 = .ok (.iconst 0, 1) := by decide +kernel
theorem d7_10 : decode prog_35_method_18_code 10 = .ok (.aload_n 0, 1) := by decide +kernel
theorem d7_11 : decode prog_35_method_18_code 11 = .ok (.getfield 25, 3) := by decide +kernel
theorem d7_14 : decode prog_35_method_18_code 14 = .ok (.invokevirtual 97, 3) := by decide +kernel
theorem d7_17 : decode prog_35_method_18_code 17 = .ok (.aload_n 1, 1) := by decide +kernel
theorem d7_18 : decode prog_35_method_18_code 18 = .ok (.areturn, 1) := by decide +kernel
theorem pn_7 : plainName "com/example/typewright/typewright/Flow" = true := by first | (simp [plainName, overriddenIn]; done) | decide +kernel
theorem pd_rm7_0 : parseMethodDescriptor "()V" = some ⟨[], none⟩ := by decide +kernel
theorem pd_rm7_1 : parseMethodDescriptor "(II)V" = some ⟨[.int, .int], none⟩ := by decide +kernel
theorem ef_rm7 (m : MethodId) (a1 : Addr) : entryFrame m #[(.ref a1)] 2 = mkF m 0 #[.val (.ref a1), .unset] [] := by first | (simp [entryFrame, mkF, argsToLocals, Value.category]; done) | rfl
def Q7 (Z : State) (a1 : Addr) (n : Int32) (h0 : Heap) (n0 : Nat) (v : Option Value) (h : Heap) (L : List Loc) : Prop := ∃ (bs : Addr) (wa : Addr) (k : ClassId), v = some (.ref bs) ∧ Fr n0 L ∧ Keep h0 h [] ∧ own_Bits Z h bs wa k (own_u n) (own_w n) ∧ (h0.size ≤ bs ∧ n0 ≤ bs) ∧ h0.size ≤ wa ∧ n0 ≤ wa
set_option maxRecDepth 65536 in
set_option maxHeartbeats 40000000 in
theorem rm7 (l : Launch) (Z : State) (a0 : Array Value) (hw : ∀ d ∈ tables_1, d.before a0 Z = true) (ws : List Jvm.Cond) (a1 : Addr) (n : Int32) (h0 : Heap) (n0 : Nat) (Z0 : n0 ≤ h0.size) (S_A : Sta Z Z.heap "java/util/BitSet" "$assertionsDisabled" "Z" (.int 1)) (hzo : Old Z n0 h0) (F1 : Fld Z h0 a1 "com/example/typewright/typewright/Flow" "locals" "I" (.int n)) (hn : own_N n) :
    MetFree l (⟨"com/example/typewright/typewright/Flow", "everything", "()Ljava/util/BitSet;"⟩ : MethodName) (head1 (Jvm.Cond.code (⟨"com/example/typewright/typewright/Flow", "everything", "()Ljava/util/BitSet;"⟩ : MethodName) prog_35_method_18_code 2 (some (.object "java/util/BitSet")) :: ws) ({ frames := 3, cells := 2, slots := 4, locals := 49 } : Room)) (fun a U => a = #[(.ref a1)] ∧ Z.Warmed39 U.vm ∧ U.heap = h0) (fun _ _ _ _ _ => True) (fun _ U o U' => ∃ v L, o = .returned v ∧ Q7 Z a1 n h0 n0 v U'.heap L ∧ FrameEnd U o U' L ({ frames := 3, cells := 2, slots := 4, locals := 49 } : Room).cells ({ frames := 3, cells := 2, slots := 4, locals := 49 } : Room).slots) := by
  refine MetFree.of_bodySF (plainFor_of_name pn_7) hisR ?_
  intro p e s m args below meth c s₁ Bd hml0 hP hK
  obtain ⟨rfl, hZ, hh⟩ := hP
  have hx := Bd.exec
  have hby := Bd.bytes
  have hml : c.maxLocals = 2 := hml0
  have hown : s.vm.findClass "com/example/typewright/typewright/Flow" = some m.cls := findClass_of_methodNamed Bd.named
  have hnm := (name_of_methodNamed Bd.named Bd.method).1
  have hlk := BodyLoose.notSynchronized Bd
  have hrt := Bd.returns
  have X0 : Stand p l e ({ frames := 3, cells := 2, slots := 4, locals := 49 } : Room) s m #[(.ref a1)] below meth c s₁ [] 0 0 := Stand.of_body Bd
  have e0 : s₁.heap = h0 := by rw [← hh, Bd.state]; rfl
  have N0 := Fr.nil n0
  show OEnds p e below s (Q7 Z a1 n h0 n0) ({ frames := 3, cells := 2, slots := 4, locals := 49 } : Room).cells ({ frames := 3, cells := 2, slots := 4, locals := 49 } : Room).slots (s₁.setTop (entryFrame m #[(.ref a1)] 2))
  refine OEnds.go (t' := s₁.setTop (mkF m 0 #[.val (.ref a1), .unset] [])) (fun t k => castTop (ef_rm7 m a1) k) ?_
  have hzt := hzo
  obtain ⟨T1, h1, X1, e1, E1, A1, D1, -, st1⟩ := newO X0 hx hZ hown (hw _ (List.mem_of_getElem? (i := 9) rfl)) (hw _ (List.mem_of_getElem? (i := 10) rfl)) (hw _ (List.mem_of_getElem? (i := 11) rfl)) e0 (g := (mkF m 0 #[.val (.ref a1), .unset] [])) rfl (hb hby d7_0) (by decide) (by decide)
  obtain ⟨b1, gz1⟩ : ∃ z, z = h0.size := ⟨_, rfl⟩
  rw [← gz1] at A1 D1 st1
  have ne_a1_b1 : a1 ≠ b1 := Nat.ne_of_lt (Nat.lt_of_lt_of_le F1.lt (Nat.le_of_eq gz1.symm))
  have g_b1 : n0 ≤ b1 := Nat.le_trans Z0 (Nat.le_of_eq gz1.symm)
  have sz_b1 : h0.size ≤ b1 := Nat.le_trans (Keep.refl h0 []).1 (Nat.le_of_eq gz1.symm)
  have hzt := hzt.ext E1
  have F1 := F1.ext E1
  have Z1 : n0 ≤ h1.size := Nat.le_trans Z0 E1.1
  have K1 := (Keep.refl h0 []).ext E1
  have E_b1 := A1
  have F_wordsInUse_b1 : Fld Z h1 b1 "java/util/BitSet" "wordsInUse" "I" (.int (0 : Int32)) := D1 (Or.inl (hw _ (List.mem_of_getElem? (i := 17) rfl))) (ty := .int) (by decide)
  have F_sizeIsSticky_b1 : Fld Z h1 b1 "java/util/BitSet" "sizeIsSticky" "Z" (.int (0 : Int32)) := D1 (Or.inl (hw _ (List.mem_of_getElem? (i := 19) rfl))) (ty := .boolean) (by decide)
  have F_words_b1 : Fld Z h1 b1 "java/util/BitSet" "words" "[J" .null := D1 (Or.inl (hw _ (List.mem_of_getElem? (i := 30) rfl))) (ty := (.array .long)) (by decide)
  refine OEnds.go (t' := T1.setTop (mkF m 3 #[.val (.ref a1), .unset] [(.ref b1)])) (fun _ k => st1 _ k) ?_
  refine OEnds.go (t' := T1.setTop (mkF m 4 #[.val (.ref a1), .unset] [(.ref b1), (.ref b1)])) (fun _ k => ?_) ?_
  · show Steps p.tables e below (T1.setTop (mkF m 3 #[.val (.ref a1), .unset] [(.ref b1)])) _
    refine XS.dup X1.here hx rfl (hb hby d7_3) rfl rfl ?_
    show Steps p.tables e below (T1.setTop (mkF m 4 #[.val (.ref a1), .unset] [(.ref b1), (.ref b1)])) _
    exact k
  have lt_a1 := F1.lt
  have lt_b1 := E_b1.lt
  have Kzb1 := K1
  obtain ⟨_, _, ⟨T2, L2, k2, n2⟩, -, X2, ⟨Lc2, hQ2, l2, y2, z2⟩, st2⟩ := X1.specialBack hx (y := (⟨"java/util/BitSet", "<init>", "()V"⟩ : MethodName)) rfl hown (mvT hZ (hw _ (List.mem_of_getElem? (i := 12) rfl))) (mvT hZ (hw _ (List.mem_of_getElem? (i := 13) rfl))) (mvT hZ (hw _ (List.mem_of_getElem? (i := 14) rfl))) (by decide) (backOf (W := 1) (rm3 l Z a0 hw [] b1 h1 n0 Z1 F_wordsInUse_b1 F_sizeIsSticky_b1 F_words_b1 E_b1 g_b1) hZ (hw _ (List.mem_of_getElem? (i := 14) rfl)) (hw _ (List.mem_of_getElem? (i := 11) rfl)) (by decide) (by decide)) (g := (mkF m 4 #[.val (.ref a1), .unset] [(.ref b1), (.ref b1)])) rfl (by rw [hml]; rfl) (Steps.refl _) (a := b1) (argsL := []) (rest := [(.ref b1)]) (lenOf pd_rm7_0 rfl) rfl (by show 2 * 0 + _ ≤ _; exact Nat.le_of_eq rfl) (hb hby d7_4) (fun _ _ => ⟨rfl, e1, (by decide : 1 + 1 ≤ _), (by decide : 3 + 1 ≤ _)⟩)
  dsimp only [Pt.U, Pt.locs, Pt.cells, Pt.slots] at X2 l2 y2 z2 st2 hQ2
  subst l2 y2 z2
  obtain ⟨rfl, N2q, Kc2, b1_w, b1_k, B_b1, szw_b1, g_b1_w⟩ := hQ2
  have N2 := Fr.app N0 N2q
  have hzt := hzt.keep Kc2 (allS g_b1 all0)
  have F1 := F1.keep Kc2 (ninS ne_a1_b1 nin0)
  have Z2 : n0 ≤ T2.heap.size := Nat.le_trans Z1 Kc2.1
  have K2 := K1.trans Kc2 (allS (Or.inr sz_b1) all0)
  refine OEnds.go (t' := T2.setTop (mkF m 7 #[.val (.ref a1), .unset] [(.ref b1)])) (fun _ k => st2.trans k) ?_
  have ne_a1_b1_w : a1 ≠ b1_w := Nat.ne_of_lt (Nat.lt_of_lt_of_le lt_a1 szw_b1)
  have ne_b1_b1_w : b1 ≠ b1_w := Nat.ne_of_lt (Nat.lt_of_lt_of_le lt_b1 szw_b1)
  have sz_b1_w : h0.size ≤ b1_w := Nat.le_trans Kzb1.1 szw_b1
  refine OEnds.go (t' := T2.setTop (mkF m 11 #[.val (.ref a1), .val (.ref b1)] [(.ref a1), (.int (0 : Int32)), (.ref b1)])) (fun _ k => ?_) ?_
  · show Steps p.tables e below (T2.setTop (mkF m 7 #[.val (.ref a1), .unset] [(.ref b1)])) _
    refine XS.astoreN X2.here hx rfl (hb hby d7_7) rfl rfl (l' := #[.val (.ref a1), .val (.ref b1)]) rfl ?_
    show Steps p.tables e below (T2.setTop (mkF m 8 #[.val (.ref a1), .val (.ref b1)] [])) _
    refine XS.aloadN X2.here hx rfl (hb hby d7_8) rfl rfl ?_
    show Steps p.tables e below (T2.setTop (mkF m 9 #[.val (.ref a1), .val (.ref b1)] [(.ref b1)])) _
    refine XS.iconst X2.here hx rfl (hb hby d7_9) ?_
    show Steps p.tables e below (T2.setTop (mkF m 10 #[.val (.ref a1), .val (.ref b1)] [(.int (0 : Int32)), (.ref b1)])) _
    refine XS.aloadN X2.here hx rfl (hb hby d7_10) rfl rfl ?_
    show Steps p.tables e below (T2.setTop (mkF m 11 #[.val (.ref a1), .val (.ref b1)] [(.ref a1), (.int (0 : Int32)), (.ref b1)])) _
    exact k
  obtain ⟨T3, X3, e3, st3⟩ := getF X2 hx hZ hown (host := "") (Or.inl (hw _ (List.mem_of_getElem? (i := 47) rfl))) Via.refl rfl F1 (g := (mkF m 11 #[.val (.ref a1), .val (.ref b1)] [(.ref a1), (.int (0 : Int32)), (.ref b1)])) rfl rfl (hb hby d7_11)
  refine OEnds.go (t' := T3.setTop (mkF m 14 #[.val (.ref a1), .val (.ref b1)] [(.int n), (.int (0 : Int32)), (.ref b1)])) (fun _ k => st3 _ k) ?_
  obtain ⟨cq4, kq4, q4a, q4b, q4c⟩ := isOf hZ e3 B_b1.1
  obtain ⟨_, _, ⟨T4, L4, k4, n4⟩, -, X4, ⟨Lc4, hQ4, l4, y4, z4⟩, st4⟩ := X3.virtualBack hx (y := (⟨"java/util/BitSet", "set", "(II)V"⟩ : MethodName)) (z := (⟨"java/util/BitSet", "set", "(II)V"⟩ : MethodName)) hown (mvT hZ (hw _ (List.mem_of_getElem? (i := 49) rfl))) (mvT hZ (hw _ (List.mem_of_getElem? (i := 50) rfl))) (notFace_of_selects (args := #[]) (mvT hZ (hw _ (List.mem_of_getElem? (i := 52) rfl)))) (mvT hZ (hw _ (List.mem_of_getElem? (i := 52) rfl))) (mvT hZ (hw _ (List.mem_of_getElem? (i := 51) rfl))) (by decide) (backOf (W := 0) (rm8 l Z a0 hw [] b1 n b1_w b1_k T2.heap n0 Z2 (S_A.ext hzt.2) hn B_b1 g_b1 g_b1_w) hZ (hw _ (List.mem_of_getElem? (i := 53) rfl)) (hw _ (List.mem_of_getElem? (i := 11) rfl)) (by decide) (by decide)) q4a q4c (g := (mkF m 14 #[.val (.ref a1), .val (.ref b1)] [(.int n), (.int (0 : Int32)), (.ref b1)])) rfl (by rw [hml]; rfl) (Steps.refl _) (argsL := [(.int (0 : Int32)), (.int n)]) (rest := []) (lenOf pd_rm7_1 rfl) rfl (by show 2 * 0 + _ ≤ _; exact Nat.le_of_eq rfl) (hb hby d7_14) (fun _ _ => ⟨rfl, e3, (by decide : 2 + 0 ≤ _), (by decide : 4 + 0 ≤ _)⟩)
  dsimp only [Pt.U, Pt.locs, Pt.cells, Pt.slots] at X4 l4 y4 z4 st4 hQ4
  subst l4 y4 z4
  obtain ⟨rfl, N4q, Kc4, Bx4⟩ := hQ4
  have N4 := Fr.app N2 N4q
  have hzt := hzt.keep Kc4 (allS g_b1 (allS g_b1_w all0))
  have F1 := F1.keep Kc4 (ninS ne_a1_b1 (ninS ne_a1_b1_w nin0))
  have Z4 : n0 ≤ T4.heap.size := Nat.le_trans Z2 Kc4.1
  have K4 := K2.trans Kc4 (allS (Or.inr sz_b1) (allS (Or.inr sz_b1_w) all0))
  refine OEnds.go (t' := T4.setTop (mkF m 17 #[.val (.ref a1), .val (.ref b1)] [])) (fun _ k => st4.trans k) ?_
  refine OEnds.go (t' := T4.setTop (mkF m 18 #[.val (.ref a1), .val (.ref b1)] [(.ref b1)])) (fun _ k => ?_) ?_
  · show Steps p.tables e below (T4.setTop (mkF m 17 #[.val (.ref a1), .val (.ref b1)] [])) _
    refine XS.aloadN X4.here hx rfl (hb hby d7_17) rfl rfl ?_
    show Steps p.tables e below (T4.setTop (mkF m 18 #[.val (.ref a1), .val (.ref b1)] [(.ref b1)])) _
    exact k
  refine OEnds.back X4 hlk (v := (some (.ref b1))) (fun h => by rw [hrt] at h; cases h) (fun fs hr => ?_) ?_ (by decide) (by decide)
  · exact retA X4 hx hrt rfl rfl rfl (hb hby d7_18) hr
  · show Q7 Z a1 n h0 n0 _ T4.heap _
    exact ⟨b1, b1_w, b1_k, rfl, N4, K4, Bx4, ⟨sz_b1, g_b1⟩, sz_b1_w, g_b1_w⟩
theorem d6_0 : decode prog_35_method_16_code 0 = .ok (.aload_n 0, 1) := by decide +kernel
theorem d6_1 : decode prog_35_method_16_code 1 = .ok (.aload_n 0, 1) := by decide +kernel
theorem d6_2 : decode prog_35_method_16_code 2 = .ok (.invokevirtual 49, 3) := by decide +kernel
theorem d6_5 : decode prog_35_method_16_code 5 = .ok (.putfield 10, 3) := by decide +kernel
theorem d6_8 : decode prog_35_method_16_code 8 = .ok (.aload_n 0, 1) := by decide +kernel
theorem d6_9 : decode prog_35_method_16_code 9 = .ok (.getstatic 73, 3) := by decide +kernel
theorem d6_12 : decode prog_35_method_16_code 12 = .ok (.putfield 22, 3) := by decide +kernel
theorem d6_15 : decode prog_35_method_16_code 15 = .ok (.return_, 1) := by decide +kernel
theorem pn_6 : plainName "com/example/typewright/typewright/Flow" = true := by first | (simp [plainName, overriddenIn]; done) | decide +kernel
theorem pd_rm6_0 : parseMethodDescriptor "()Ljava/util/BitSet;" = some ⟨[], some (.object "java/util/BitSet")⟩ := by decide +kernel
theorem ef_rm6 (m : MethodId) (a1 : Addr) : entryFrame m #[(.ref a1)] 1 = mkF m 0 #[.val (.ref a1)] [] := by first | (simp [entryFrame, mkF, argsToLocals, Value.category]; done) | rfl
def Q6 (Z : State) (a1 : Addr) (r1 : Addr) (n : Int32) (u1 : Value) (u2 : Value) (h0 : Heap) (n0 : Nat) (v : Option Value) (h : Heap) (L : List Loc) : Prop := v = none ∧ Fr n0 L ∧ Keep h0 h [a1] ∧ Exa Z h a1 "com/example/typewright/typewright/Flow" ∧ Fld Z h a1 "com/example/typewright/typewright/Flow" "locals" "I" (.int n) ∧ (∃ u, Fld Z h a1 "com/example/typewright/typewright/Flow" "reach" "Lcom/example/typewright/typewright/Flow$Reach;" u) ∧ ∃ (bs : Addr) (wa : Addr) (k : ClassId), Fld Z h a1 "com/example/typewright/typewright/Flow" "assigned" "Ljava/util/BitSet;" (.ref bs) ∧ own_Bits Z h bs wa k (own_u n) (own_w n) ∧ (h0.size ≤ bs ∧ n0 ≤ bs) ∧ h0.size ≤ wa ∧ n0 ≤ wa
set_option maxRecDepth 65536 in
set_option maxHeartbeats 40000000 in
theorem rm6 (l : Launch) (Z : State) (a0 : Array Value) (hw : ∀ d ∈ tables_1, d.before a0 Z = true) (ws : List Jvm.Cond) (a1 : Addr) (r1 : Addr) (n : Int32) (u1 : Value) (u2 : Value) (h0 : Heap) (n0 : Nat) (Z0 : n0 ≤ h0.size) (S_A : Sta Z Z.heap "java/util/BitSet" "$assertionsDisabled" "Z" (.int 1)) (S_R : Sta Z Z.heap "com/example/typewright/typewright/Flow$Reach" "UNREACHABLE" "Lcom/example/typewright/typewright/Flow$Reach;" (.ref r1)) (hzo : Old Z n0 h0) (F_locals_a1 : Fld Z h0 a1 "com/example/typewright/typewright/Flow" "locals" "I" (.int n)) (F_assigned_a1 : Fld Z h0 a1 "com/example/typewright/typewright/Flow" "assigned" "Ljava/util/BitSet;" u1) (F_reach_a1 : Fld Z h0 a1 "com/example/typewright/typewright/Flow" "reach" "Lcom/example/typewright/typewright/Flow$Reach;" u2) (E_a1 : Exa Z h0 a1 "com/example/typewright/typewright/Flow") (g_a1 : n0 ≤ a1) (hn : own_N n) :
    MetFree l (⟨"com/example/typewright/typewright/Flow", "afterReturn", "()V"⟩ : MethodName) (head1 (Jvm.Cond.code (⟨"com/example/typewright/typewright/Flow", "afterReturn", "()V"⟩ : MethodName) prog_35_method_16_code 1 none :: ws) ({ frames := 4, cells := 2, slots := 4, locals := 63 } : Room)) (fun a U => a = #[(.ref a1)] ∧ Z.Warmed39 U.vm ∧ U.heap = h0) (fun _ _ _ _ _ => True) (fun _ U o U' => ∃ v L, o = .returned v ∧ Q6 Z a1 r1 n u1 u2 h0 n0 v U'.heap L ∧ FrameEnd U o U' L ({ frames := 4, cells := 2, slots := 4, locals := 63 } : Room).cells ({ frames := 4, cells := 2, slots := 4, locals := 63 } : Room).slots) := by
  refine MetFree.of_bodySF (plainFor_of_name pn_6) hisR ?_
  intro p e s m args below meth c s₁ Bd hml0 hP hK
  obtain ⟨rfl, hZ, hh⟩ := hP
  have hx := Bd.exec
  have hby := Bd.bytes
  have hml : c.maxLocals = 1 := hml0
  have hown : s.vm.findClass "com/example/typewright/typewright/Flow" = some m.cls := findClass_of_methodNamed Bd.named
  have hnm := (name_of_methodNamed Bd.named Bd.method).1
  have hlk := BodyLoose.notSynchronized Bd
  have hrt := Bd.returns
  have X0 : Stand p l e ({ frames := 4, cells := 2, slots := 4, locals := 63 } : Room) s m #[(.ref a1)] below meth c s₁ [] 0 0 := Stand.of_body Bd
  have e0 : s₁.heap = h0 := by rw [← hh, Bd.state]; rfl
  have N0 := Fr.nil n0
  show OEnds p e below s (Q6 Z a1 r1 n u1 u2 h0 n0) ({ frames := 4, cells := 2, slots := 4, locals := 63 } : Room).cells ({ frames := 4, cells := 2, slots := 4, locals := 63 } : Room).slots (s₁.setTop (entryFrame m #[(.ref a1)] 1))
  refine OEnds.go (t' := s₁.setTop (mkF m 0 #[.val (.ref a1)] [])) (fun t k => castTop (ef_rm6 m a1) k) ?_
  have hzt := hzo
  refine OEnds.go (t' := s₁.setTop (mkF m 2 #[.val (.ref a1)] [(.ref a1), (.ref a1)])) (fun _ k => ?_) ?_
  · show Steps p.tables e below (s₁.setTop (mkF m 0 #[.val (.ref a1)] [])) _
    refine XS.aloadN X0.here hx rfl (hb hby d6_0) rfl rfl ?_
    show Steps p.tables e below (s₁.setTop (mkF m 1 #[.val (.ref a1)] [(.ref a1)])) _
    refine XS.aloadN X0.here hx rfl (hb hby d6_1) rfl rfl ?_
    show Steps p.tables e below (s₁.setTop (mkF m 2 #[.val (.ref a1)] [(.ref a1), (.ref a1)])) _
    exact k
  have lt_a1 := E_a1.lt
  have Kz := (Keep.refl h0 [a1])
  obtain ⟨cq1, q1, q1x⟩ := (E_a1).cell
  obtain ⟨_, _, ⟨T1, L1, k1, n1⟩, -, X1, ⟨Lc1, hQ1, l1, y1, z1⟩, st1⟩ := X0.privateBack hx (y := (⟨"com/example/typewright/typewright/Flow", "everything", "()Ljava/util/BitSet;"⟩ : MethodName)) hown (mvT hZ (hw _ (List.mem_of_getElem? (i := 43) rfl))) (mvT hZ (hw _ (List.mem_of_getElem? (i := 44) rfl))) (mvT hZ (own_selP (y := (⟨"com/example/typewright/typewright/Flow", "afterReturn", "()V"⟩ : MethodName)) (z := (⟨"com/example/typewright/typewright/Flow", "everything", "()Ljava/util/BitSet;"⟩ : MethodName)) rfl (hw _ (List.mem_of_getElem? (i := 41) rfl)) (hw _ (List.mem_of_getElem? (i := 45) rfl)) (hw _ (List.mem_of_getElem? (i := 44) rfl)) (by decide))) (Cond.privateMethod_at (mvP hZ (hw _ (List.mem_of_getElem? (i := 45) rfl)) (args := #[]))) (mvT hZ (hw _ (List.mem_of_getElem? (i := 46) rfl))) (by decide) (backOf (W := 1) (rm7 l Z a0 hw [] a1 n h0 n0 Z0 S_A hzt F_locals_a1 hn) hZ (hw _ (List.mem_of_getElem? (i := 46) rfl)) (hw _ (List.mem_of_getElem? (i := 2) rfl)) (by decide) (by decide)) (g := (mkF m 2 #[.val (.ref a1)] [(.ref a1), (.ref a1)])) rfl (by rw [hml]; rfl) (Steps.refl _) (a := a1) (by rw [e0]; exact q1) q1x (argsL := []) (rest := [(.ref a1)]) (lenOf pd_rm6_0 rfl) rfl (by show 2 * 0 + _ ≤ _; exact Nat.le_of_eq rfl) (hb hby d6_2) (fun _ _ => ⟨rfl, e0, (by decide : 0 + 2 ≤ _), (by decide : 0 + 4 ≤ _)⟩)
  dsimp only [Pt.U, Pt.locs, Pt.cells, Pt.slots] at X1 l1 y1 z1 st1 hQ1
  subst l1 y1 z1
  obtain ⟨b1, b1_w, b1_k, rfl, N1q, Kc1, B_b1, ⟨szs, g_b1⟩, szw, g_b1_w⟩ := hQ1
  have N1 := Fr.app N0 N1q
  have E_a1 := E_a1.keep Kc1
  have F_assigned_a1 := F_assigned_a1.keep Kc1 nin0
  have F_locals_a1 := F_locals_a1.keep Kc1 nin0
  have F_reach_a1 := F_reach_a1.keep Kc1 nin0
  have hzt := hzt.keep Kc1 all0
  have Z1 : n0 ≤ T1.heap.size := Nat.le_trans Z0 Kc1.1
  have K1 := (Keep.refl h0 [a1]).trans Kc1 all0
  refine OEnds.go (t' := T1.setTop (mkF m 5 #[.val (.ref a1)] [(.ref b1), (.ref a1)])) (fun _ k => st1.trans k) ?_
  have ne_a1_b1 : a1 ≠ b1 := Nat.ne_of_lt (Nat.lt_of_lt_of_le lt_a1 szs)
  have ne_a1_b1_w : a1 ≠ b1_w := Nat.ne_of_lt (Nat.lt_of_lt_of_le lt_a1 szw)
  obtain ⟨T2, h2, X2, e2, W2, st2⟩ := putF X1 hx hZ hown (host := "") (Or.inl (hw _ (List.mem_of_getElem? (i := 31) rfl))) Via.refl rfl F_assigned_a1 E_a1 (Or.inl (hw _ (List.mem_of_getElem? (i := 32) rfl))) (hw _ (List.mem_of_getElem? (i := 1) rfl)) (ty := (.object "java/util/BitSet")) (by decide) rfl rfl (g := (mkF m 5 #[.val (.ref a1)] [(.ref b1), (.ref a1)])) rfl rfl (hb hby d6_5)
  have N2 := Fr.snoc X2 N1 g_a1
  have E_a1 := E_a1.wr W2
  have F_assigned_a1 := F_assigned_a1.same W2
  have F_locals_a1 := F_locals_a1.other W2 (Or.inr (slot_ne (Or.inl (hw _ (List.mem_of_getElem? (i := 48) rfl))) (Or.inl (hw _ (List.mem_of_getElem? (i := 32) rfl))) (by decide) (t := .int) (t' := (.object "java/util/BitSet")) (by decide) (by decide)))
  have F_reach_a1 := F_reach_a1.other W2 (Or.inr (slot_ne (Or.inl (hw _ (List.mem_of_getElem? (i := 37) rfl))) (Or.inl (hw _ (List.mem_of_getElem? (i := 32) rfl))) (by decide) (t := (.object "com/example/typewright/typewright/Flow$Reach")) (t' := (.object "java/util/BitSet")) (by decide) (by decide)))
  have hzt := hzt.wr W2 g_a1
  have B_b1 := B_b1.other W2 (Ne.symm ne_a1_b1) (Ne.symm ne_a1_b1_w)
  have Z2 : n0 ≤ h2.size := Nat.le_trans Z1 (Keep.of_wr W2).1
  have K2 := K1.wr W2 (Or.inl (List.mem_of_getElem? (i := 0) rfl))
  refine OEnds.go (t' := T2.setTop (mkF m 8 #[.val (.ref a1)] [])) (fun _ k => st2 _ k) ?_
  refine OEnds.go (t' := T2.setTop (mkF m 9 #[.val (.ref a1)] [(.ref a1)])) (fun _ k => ?_) ?_
  · show Steps p.tables e below (T2.setTop (mkF m 8 #[.val (.ref a1)] [])) _
    refine XS.aloadN X2.here hx rfl (hb hby d6_8) rfl rfl ?_
    show Steps p.tables e below (T2.setTop (mkF m 9 #[.val (.ref a1)] [(.ref a1)])) _
    exact k
  obtain ⟨T3, X3, e3, st3⟩ := getS2 X2 hx hZ hown (host := "") (Or.inl (hw _ (List.mem_of_getElem? (i := 57) rfl))) Via.refl e2 (S_R.ext hzt.2) (g := (mkF m 9 #[.val (.ref a1)] [(.ref a1)])) rfl (hb hby d6_9)
  refine OEnds.go (t' := T3.setTop (mkF m 12 #[.val (.ref a1)] [(.ref r1), (.ref a1)])) (fun _ k => st3 _ k) ?_
  obtain ⟨T4, h4, X4, e4, W4, st4⟩ := putF X3 hx hZ hown (host := "") (Or.inl (hw _ (List.mem_of_getElem? (i := 36) rfl))) Via.refl e3 F_reach_a1 E_a1 (Or.inl (hw _ (List.mem_of_getElem? (i := 37) rfl))) (hw _ (List.mem_of_getElem? (i := 1) rfl)) (ty := (.object "com/example/typewright/typewright/Flow$Reach")) (by decide) rfl rfl (g := (mkF m 12 #[.val (.ref a1)] [(.ref r1), (.ref a1)])) rfl rfl (hb hby d6_12)
  have N4 := Fr.snoc X4 N2 g_a1
  have E_a1 := E_a1.wr W4
  have F_assigned_a1 := F_assigned_a1.other W4 (Or.inr (slot_ne (Or.inl (hw _ (List.mem_of_getElem? (i := 32) rfl))) (Or.inl (hw _ (List.mem_of_getElem? (i := 37) rfl))) (by decide) (t := (.object "java/util/BitSet")) (t' := (.object "com/example/typewright/typewright/Flow$Reach")) (by decide) (by decide)))
  have F_locals_a1 := F_locals_a1.other W4 (Or.inr (slot_ne (Or.inl (hw _ (List.mem_of_getElem? (i := 48) rfl))) (Or.inl (hw _ (List.mem_of_getElem? (i := 37) rfl))) (by decide) (t := .int) (t' := (.object "com/example/typewright/typewright/Flow$Reach")) (by decide) (by decide)))
  have F_reach_a1 := F_reach_a1.same W4
  have hzt := hzt.wr W4 g_a1
  have B_b1 := B_b1.other W4 (Ne.symm ne_a1_b1) (Ne.symm ne_a1_b1_w)
  have Z4 : n0 ≤ h4.size := Nat.le_trans Z2 (Keep.of_wr W4).1
  have K4 := K2.wr W4 (Or.inl (List.mem_of_getElem? (i := 0) rfl))
  refine OEnds.go (t' := T4.setTop (mkF m 15 #[.val (.ref a1)] [])) (fun _ k => st4 _ k) ?_
  refine OEnds.back X4 hlk (v := none) (fun _ => rfl) (fun fs hr => ?_) ?_ (by decide) (by decide)
  · exact X4.returnOut hx hrt (hb hby d6_15) hr
  · show Q6 Z a1 r1 n u1 u2 h0 n0 _ T4.heap _
    rw [e4]
    exact ⟨rfl, N4, K4, E_a1, F_locals_a1, ⟨_, F_reach_a1⟩, b1, b1_w, b1_k, F_assigned_a1, B_b1, ⟨Nat.le_trans Kz.1 szs, g_b1⟩, Nat.le_trans Kz.1 szw, g_b1_w⟩
theorem pn_0 : plainName "com/example/typewright/typewright/FlowDeclarePinLaw" = true := by first | (simp [plainName, overriddenIn]; done) | decide +kernel
theorem pd_rm0_0 : parseMethodDescriptor "()V" = some ⟨[], none⟩ := by decide +kernel
theorem pd_rm0_1 : parseMethodDescriptor "()I" = some ⟨[], some .int⟩ := by decide +kernel
theorem pd_rm0_2 : parseMethodDescriptor "(I)Z" = some ⟨[.int], some .boolean⟩ := by decide +kernel
theorem ef_rm0 (m : MethodId) (p1 : Int32) (p2 : Int32) : entryFrame m #[(.int p1), (.int p2)] maxLocals = mkF m 0 #[.val (.int p1), .val (.int p2), .unset, .unset, .unset, .unset, .unset, .unset] [] := by first | (simp [entryFrame, mkF, argsToLocals, Value.category, maxLocals]; done) | rfl
def Q0 (Z : State) (p1 : Int32) (p2 : Int32) (r1 : Addr) (r2 : Addr) (h0 : Heap) (n0 : Nat) (v : Option Value) (h : Heap) (L : List Loc) : Prop := v = some (.int 1) ∧ Fr n0 L
set_option maxRecDepth 65536 in
set_option maxHeartbeats 40000000 in
theorem rm0 (l : Launch) (Z : State) (a0 : Array Value) (hw : ∀ d ∈ tables_1, d.before a0 Z = true) (ws : List Jvm.Cond) (p1 : Int32) (p2 : Int32) (r1 : Addr) (r2 : Addr) (h0 : Heap) (n0 : Nat) (Z0 : n0 ≤ h0.size) (S_A : Sta Z Z.heap "java/util/BitSet" "$assertionsDisabled" "Z" (.int 1)) (S_1 : Sta Z Z.heap "com/example/typewright/typewright/Flow$Reach" "REACHABLE" "Lcom/example/typewright/typewright/Flow$Reach;" (.ref r1)) (S_2 : Sta Z Z.heap "com/example/typewright/typewright/Flow$Reach" "UNREACHABLE" "Lcom/example/typewright/typewright/Flow$Reach;" (.ref r2)) (hzo : Old Z n0 h0) :
    MetFree l x (head1 (Jvm.Cond.code x code maxLocals ret :: ws) room_1) (fun a U => a = #[(.int p1), (.int p2)] ∧ Z.Warmed39 U.vm ∧ U.heap = h0) (fun _ _ _ _ _ => True) (fun _ U o U' => ∃ v L, o = .returned v ∧ Q0 Z p1 p2 r1 r2 h0 n0 v U'.heap L ∧ FrameEnd U o U' L room_1.cells room_1.slots) := by
  refine MetFree.of_bodySF (plainFor_of_name pn_0) hisR ?_
  intro p e s m args below meth c s₁ Bd hml0 hP hK
  obtain ⟨rfl, hZ, hh⟩ := hP
  have hx := Bd.exec
  have hby := Bd.bytes
  have hml : c.maxLocals = 8 := hml0
  have hown : s.vm.findClass "com/example/typewright/typewright/FlowDeclarePinLaw" = some m.cls := findClass_of_methodNamed Bd.named
  have hnm := (name_of_methodNamed Bd.named Bd.method).1
  have hlk := BodyLoose.notSynchronized Bd
  have hrt := Bd.returns
  have X0 : Stand p l e room_1 s m #[(.int p1), (.int p2)] below meth c s₁ [] 0 0 := Stand.of_body Bd
  have e0 : s₁.heap = h0 := by rw [← hh, Bd.state]; rfl
  have N0 := Fr.nil n0
  show OEnds p e below s (Q0 Z p1 p2 r1 r2 h0 n0) room_1.cells room_1.slots (s₁.setTop (entryFrame m #[(.int p1), (.int p2)] maxLocals))
  refine OEnds.go (t' := s₁.setTop (mkF m 0 #[.val (.int p1), .val (.int p2), .unset, .unset, .unset, .unset, .unset, .unset] [])) (fun t k => castTop (ef_rm0 m p1 p2) k) ?_
  have hzt := hzo
  refine OEnds.go (t' := s₁.setTop (mkF m 4 #[.val (.int p1), .val (.int p2), .val (.int (p1 &&& (3 : Int32))), .unset, .unset, .unset, .unset, .unset] [])) (fun _ k => ?_) ?_
  · show Steps p.tables e below (s₁.setTop (mkF m 0 #[.val (.int p1), .val (.int p2), .unset, .unset, .unset, .unset, .unset, .unset] [])) _
    refine XS.iloadN X0.here hx rfl (hb hby at_0) rfl ?_
    show Steps p.tables e below (s₁.setTop (mkF m 1 #[.val (.int p1), .val (.int p2), .unset, .unset, .unset, .unset, .unset, .unset] [(.int p1)])) _
    refine XS.iconst X0.here hx rfl (hb hby at_1) ?_
    show Steps p.tables e below (s₁.setTop (mkF m 2 #[.val (.int p1), .val (.int p2), .unset, .unset, .unset, .unset, .unset, .unset] [(.int (3 : Int32)), (.int p1)])) _
    refine XS.iand X0.here hx rfl (hb hby at_2) rfl ?_
    show Steps p.tables e below (s₁.setTop (mkF m 3 #[.val (.int p1), .val (.int p2), .unset, .unset, .unset, .unset, .unset, .unset] [(.int (p1 &&& (3 : Int32)))])) _
    refine XS.istoreN X0.here hx rfl (hb hby at_3) rfl (l' := #[.val (.int p1), .val (.int p2), .val (.int (p1 &&& (3 : Int32))), .unset, .unset, .unset, .unset, .unset]) rfl ?_
    show Steps p.tables e below (s₁.setTop (mkF m 4 #[.val (.int p1), .val (.int p2), .val (.int (p1 &&& (3 : Int32))), .unset, .unset, .unset, .unset, .unset] [])) _
    exact k
  have hN := own_four p1
  generalize hn : (p1 &&& (3 : Int32)) = n
  rw [hn] at hN
  refine OEnds.cut (fun En => ∀ (z : Int32), z = 0 ∨ z = 1 → En (s₁.setTop (mkF m 15 #[.val (.int p1), .val (.int p2), .val (.int n), .unset, .unset, .unset, .unset, .unset] [(.int z)]))) ?_ (fun K15 => ?_)
  · intro z hz
    rcases hN with rfl | rfl | rfl | rfl
    · skip
      refine OEnds.go (t' := s₁.setTop (mkF m 16 #[.val (.int p1), .val (.int p2), .val (.int (0 : Int32)), .val (.int z), .unset, .unset, .unset, .unset] [])) (fun _ k => ?_) ?_
      · show Steps p.tables e below (s₁.setTop (mkF m 15 #[.val (.int p1), .val (.int p2), .val (.int (0 : Int32)), .unset, .unset, .unset, .unset, .unset] [(.int z)])) _
        refine XS.istoreN X0.here hx rfl (hb hby at_15) rfl (l' := #[.val (.int p1), .val (.int p2), .val (.int (0 : Int32)), .val (.int z), .unset, .unset, .unset, .unset]) rfl ?_
        show Steps p.tables e below (s₁.setTop (mkF m 16 #[.val (.int p1), .val (.int p2), .val (.int (0 : Int32)), .val (.int z), .unset, .unset, .unset, .unset] [])) _
        exact k
      obtain ⟨T1, h1, X1, e1, E1, A1, D1, -, st1⟩ := newO X0 hx hZ hown (hw _ (List.mem_of_getElem? (i := 0) rfl)) (hw _ (List.mem_of_getElem? (i := 1) rfl)) (hw _ (List.mem_of_getElem? (i := 2) rfl)) e0 (g := (mkF m 16 #[.val (.int p1), .val (.int p2), .val (.int (0 : Int32)), .val (.int z), .unset, .unset, .unset, .unset] [])) rfl (hb hby at_16) (by decide) (by decide)
      obtain ⟨f, gz1⟩ : ∃ z, z = h0.size := ⟨_, rfl⟩
      rw [← gz1] at A1 D1 st1
      have g_f : n0 ≤ f := Nat.le_trans Z0 (Nat.le_of_eq gz1.symm)
      have hzt := hzt.ext E1
      have Z1 : n0 ≤ h1.size := Nat.le_trans Z0 E1.1
      have E_f := A1
      have F_assigned_f : Fld Z h1 f "com/example/typewright/typewright/Flow" "assigned" "Ljava/util/BitSet;" .null := D1 (Or.inl (hw _ (List.mem_of_getElem? (i := 32) rfl))) (ty := (.object "java/util/BitSet")) (by decide)
      have F_reach_f : Fld Z h1 f "com/example/typewright/typewright/Flow" "reach" "Lcom/example/typewright/typewright/Flow$Reach;" .null := D1 (Or.inl (hw _ (List.mem_of_getElem? (i := 37) rfl))) (ty := (.object "com/example/typewright/typewright/Flow$Reach")) (by decide)
      have F_locals_f : Fld Z h1 f "com/example/typewright/typewright/Flow" "locals" "I" (.int (0 : Int32)) := D1 (Or.inl (hw _ (List.mem_of_getElem? (i := 48) rfl))) (ty := .int) (by decide)
      refine OEnds.go (t' := T1.setTop (mkF m 19 #[.val (.int p1), .val (.int p2), .val (.int (0 : Int32)), .val (.int z), .unset, .unset, .unset, .unset] [(.ref f)])) (fun _ k => st1 _ k) ?_
      refine OEnds.go (t' := T1.setTop (mkF m 20 #[.val (.int p1), .val (.int p2), .val (.int (0 : Int32)), .val (.int z), .unset, .unset, .unset, .unset] [(.ref f), (.ref f)])) (fun _ k => ?_) ?_
      · show Steps p.tables e below (T1.setTop (mkF m 19 #[.val (.int p1), .val (.int p2), .val (.int (0 : Int32)), .val (.int z), .unset, .unset, .unset, .unset] [(.ref f)])) _
        refine XS.dup X1.here hx rfl (hb hby at_19) rfl rfl ?_
        show Steps p.tables e below (T1.setTop (mkF m 20 #[.val (.int p1), .val (.int p2), .val (.int (0 : Int32)), .val (.int z), .unset, .unset, .unset, .unset] [(.ref f), (.ref f)])) _
        exact k
      have lt_f := E_f.lt
      obtain ⟨_, _, ⟨T2, L2, k2, n2⟩, -, X2, ⟨Lc2, hQ2, l2, y2, z2⟩, st2⟩ := X1.specialBack hx (y := (⟨"com/example/typewright/typewright/Flow", "<init>", "()V"⟩ : MethodName)) rfl hown (mvT hZ (hw _ (List.mem_of_getElem? (i := 3) rfl))) (mvT hZ (hw _ (List.mem_of_getElem? (i := 4) rfl))) (mvT hZ (hw _ (List.mem_of_getElem? (i := 5) rfl))) (by decide) (backOf (W := 1) (rm1 l Z a0 hw [] f r1 h1 n0 Z1 F_assigned_f F_locals_f F_reach_f E_f g_f S_1 hzt) hZ (hw _ (List.mem_of_getElem? (i := 5) rfl)) (hw _ (List.mem_of_getElem? (i := 2) rfl)) (by decide) (by decide)) (g := (mkF m 20 #[.val (.int p1), .val (.int p2), .val (.int (0 : Int32)), .val (.int z), .unset, .unset, .unset, .unset] [(.ref f), (.ref f)])) rfl (by rw [hml]; rfl) (Steps.refl _) (a := f) (argsL := []) (rest := [(.ref f)]) (lenOf pd_rm0_0 rfl) rfl (by show 2 * 0 + _ ≤ _; exact Nat.le_of_eq rfl) (hb hby at_20) (fun _ _ => ⟨rfl, e1, (by decide : 1 + 2 ≤ _), (by decide : 3 + 4 ≤ _)⟩)
      dsimp only [Pt.U, Pt.locs, Pt.cells, Pt.slots] at X2 l2 y2 z2 st2 hQ2
      subst l2 y2 z2
      obtain ⟨rfl, N2q, Kc2, Ea2, Fa2, ⟨ur2, Fb2⟩, bs, wa, kb, Fc2, B_bs, ⟨szs, g_bs⟩, szw, g_wa⟩ := hQ2
      have N2 := Fr.app N0 N2q
      have hzt := hzt.keep Kc2 (allS g_f all0)
      have Z2 : n0 ≤ T2.heap.size := Nat.le_trans Z1 Kc2.1
      refine OEnds.go (t' := T2.setTop (mkF m 23 #[.val (.int p1), .val (.int p2), .val (.int (0 : Int32)), .val (.int z), .unset, .unset, .unset, .unset] [(.ref f)])) (fun _ k => st2.trans k) ?_
      have ne_f_bs : f ≠ bs := Nat.ne_of_lt (Nat.lt_of_lt_of_le lt_f szs)
      have ne_f_wa : f ≠ wa := Nat.ne_of_lt (Nat.lt_of_lt_of_le lt_f szw)
      have E_f := Ea2
      have F_locals_f := Fa2
      have F_reach_f := Fb2
      have F_assigned_f := Fc2
      refine OEnds.go (t' := T2.setTop (mkF m 30 #[.val (.int p1), .val (.int p2), .val (.int (0 : Int32)), .val (.int z), .val (.ref f), .val (.int (1 : Int32)), .unset, .unset] [(.int (1 : Int32)), (.int (0 : Int32))])) (fun _ k => ?_) ?_
      · show Steps p.tables e below (T2.setTop (mkF m 23 #[.val (.int p1), .val (.int p2), .val (.int (0 : Int32)), .val (.int z), .unset, .unset, .unset, .unset] [(.ref f)])) _
        refine XS.astore X2.here hx rfl (hb hby at_23) rfl rfl (l' := #[.val (.int p1), .val (.int p2), .val (.int (0 : Int32)), .val (.int z), .val (.ref f), .unset, .unset, .unset]) rfl ?_
        show Steps p.tables e below (T2.setTop (mkF m 25 #[.val (.int p1), .val (.int p2), .val (.int (0 : Int32)), .val (.int z), .val (.ref f), .unset, .unset, .unset] [])) _
        refine XS.iconst X2.here hx rfl (hb hby at_25) ?_
        show Steps p.tables e below (T2.setTop (mkF m 26 #[.val (.int p1), .val (.int p2), .val (.int (0 : Int32)), .val (.int z), .val (.ref f), .unset, .unset, .unset] [(.int (1 : Int32))])) _
        refine XS.istore X2.here hx rfl (hb hby at_26) rfl (l' := #[.val (.int p1), .val (.int p2), .val (.int (0 : Int32)), .val (.int z), .val (.ref f), .val (.int (1 : Int32)), .unset, .unset]) rfl ?_
        show Steps p.tables e below (T2.setTop (mkF m 28 #[.val (.int p1), .val (.int p2), .val (.int (0 : Int32)), .val (.int z), .val (.ref f), .val (.int (1 : Int32)), .unset, .unset] [])) _
        refine XS.iloadN X2.here hx rfl (hb hby at_28) rfl ?_
        show Steps p.tables e below (T2.setTop (mkF m 29 #[.val (.int p1), .val (.int p2), .val (.int (0 : Int32)), .val (.int z), .val (.ref f), .val (.int (1 : Int32)), .unset, .unset] [(.int (0 : Int32))])) _
        refine XS.iconst X2.here hx rfl (hb hby at_29) ?_
        show Steps p.tables e below (T2.setTop (mkF m 30 #[.val (.int p1), .val (.int p2), .val (.int (0 : Int32)), .val (.int z), .val (.ref f), .val (.int (1 : Int32)), .unset, .unset] [(.int (1 : Int32)), (.int (0 : Int32))])) _
        exact k
      refine OEnds.go (t' := T2.setTop (mkF m 55 #[.val (.int p1), .val (.int p2), .val (.int (0 : Int32)), .val (.int z), .val (.ref f), .val (.int (1 : Int32)), .unset, .unset] [])) (fun _ k => XS.icmpYes X2.here hx rfl (pc0 := 30) (pc' := 55) rfl (hb hby at_30) rfl (tlt (by decide)).1 (by decide) (by decide) k) ?_
      refine OEnds.go (t' := T2.setTop (mkF m 57 #[.val (.int p1), .val (.int p2), .val (.int (0 : Int32)), .val (.int z), .val (.ref f), .val (.int (1 : Int32)), .unset, .unset] [(.int (2 : Int32)), (.int (0 : Int32))])) (fun _ k => ?_) ?_
      · show Steps p.tables e below (T2.setTop (mkF m 55 #[.val (.int p1), .val (.int p2), .val (.int (0 : Int32)), .val (.int z), .val (.ref f), .val (.int (1 : Int32)), .unset, .unset] [])) _
        refine XS.iloadN X2.here hx rfl (hb hby at_55) rfl ?_
        show Steps p.tables e below (T2.setTop (mkF m 56 #[.val (.int p1), .val (.int p2), .val (.int (0 : Int32)), .val (.int z), .val (.ref f), .val (.int (1 : Int32)), .unset, .unset] [(.int (0 : Int32))])) _
        refine XS.iconst X2.here hx rfl (hb hby at_56) ?_
        show Steps p.tables e below (T2.setTop (mkF m 57 #[.val (.int p1), .val (.int p2), .val (.int (0 : Int32)), .val (.int z), .val (.ref f), .val (.int (1 : Int32)), .unset, .unset] [(.int (2 : Int32)), (.int (0 : Int32))])) _
        exact k
      refine OEnds.go (t' := T2.setTop (mkF m 83 #[.val (.int p1), .val (.int p2), .val (.int (0 : Int32)), .val (.int z), .val (.ref f), .val (.int (1 : Int32)), .unset, .unset] [])) (fun _ k => XS.icmpYes X2.here hx rfl (pc0 := 57) (pc' := 83) rfl (hb hby at_57) rfl (tlt (by decide)).1 (by decide) (by decide) k) ?_
      refine OEnds.go (t' := T2.setTop (mkF m 85 #[.val (.int p1), .val (.int p2), .val (.int (0 : Int32)), .val (.int z), .val (.ref f), .val (.int (1 : Int32)), .unset, .unset] [(.int (3 : Int32)), (.int (0 : Int32))])) (fun _ k => ?_) ?_
      · show Steps p.tables e below (T2.setTop (mkF m 83 #[.val (.int p1), .val (.int p2), .val (.int (0 : Int32)), .val (.int z), .val (.ref f), .val (.int (1 : Int32)), .unset, .unset] [])) _
        refine XS.iloadN X2.here hx rfl (hb hby at_83) rfl ?_
        show Steps p.tables e below (T2.setTop (mkF m 84 #[.val (.int p1), .val (.int p2), .val (.int (0 : Int32)), .val (.int z), .val (.ref f), .val (.int (1 : Int32)), .unset, .unset] [(.int (0 : Int32))])) _
        refine XS.iconst X2.here hx rfl (hb hby at_84) ?_
        show Steps p.tables e below (T2.setTop (mkF m 85 #[.val (.int p1), .val (.int p2), .val (.int (0 : Int32)), .val (.int z), .val (.ref f), .val (.int (1 : Int32)), .unset, .unset] [(.int (3 : Int32)), (.int (0 : Int32))])) _
        exact k
      refine OEnds.go (t' := T2.setTop (mkF m 111 #[.val (.int p1), .val (.int p2), .val (.int (0 : Int32)), .val (.int z), .val (.ref f), .val (.int (1 : Int32)), .unset, .unset] [])) (fun _ k => XS.icmpYes X2.here hx rfl (pc0 := 85) (pc' := 111) rfl (hb hby at_85) rfl (tlt (by decide)).1 (by decide) (by decide) k) ?_
      refine OEnds.go (t' := T2.setTop (mkF m 112 #[.val (.int p1), .val (.int p2), .val (.int (0 : Int32)), .val (.int z), .val (.ref f), .val (.int (1 : Int32)), .unset, .unset] [(.int z)])) (fun _ k => ?_) ?_
      · show Steps p.tables e below (T2.setTop (mkF m 111 #[.val (.int p1), .val (.int p2), .val (.int (0 : Int32)), .val (.int z), .val (.ref f), .val (.int (1 : Int32)), .unset, .unset] [])) _
        refine XS.iloadN X2.here hx rfl (hb hby at_111) rfl ?_
        show Steps p.tables e below (T2.setTop (mkF m 112 #[.val (.int p1), .val (.int p2), .val (.int (0 : Int32)), .val (.int z), .val (.ref f), .val (.int (1 : Int32)), .unset, .unset] [(.int z)])) _
        exact k
      refine OEnds.cut (fun En => ∀ (Tq : State) (Tq_l : List Loc) (hq : Heap), Stand p l e room_1 s m #[(.int p1), (.int p2)] below meth c Tq Tq_l 5 11 → Tq.heap = hq → Fr n0 Tq_l → n0 ≤ hq.size → ∀ (qs : Addr) (qw : Addr) (qk : ClassId) (u : Int32) (w : Int64) (ur : Value), Old Z n0 hq → Exa Z hq f "com/example/typewright/typewright/Flow" → Fld Z hq f "com/example/typewright/typewright/Flow" "locals" "I" (.int (0 : Int32)) → Fld Z hq f "com/example/typewright/typewright/Flow" "assigned" "Ljava/util/BitSet;" (.ref qs) → Fld Z hq f "com/example/typewright/typewright/Flow" "reach" "Lcom/example/typewright/typewright/Flow$Reach;" ur → own_Bits Z hq qs qw qk u w → f ≠ qs → f ≠ qw → own_get u w (0 : Int32) = 0 → own_get u w (1 : Int32) = 0 → En (Tq.setTop (mkF m 120 #[.val (.int p1), .val (.int p2), .val (.int (0 : Int32)), .val (.int z), .val (.ref f), .val (.int (1 : Int32)), .unset, .unset] []))) ?_ (fun K120 => ?_)
      · intro Tq Tq_l hq XTq eTq NTq ZTq qs qw qk u w ur hzt E_f F_locals_f F_assigned_f F_reach_f B_q ne_f_qs ne_f_qw hA hB
        refine OEnds.go (t' := Tq.setTop (mkF m 122 #[.val (.int p1), .val (.int p2), .val (.int (0 : Int32)), .val (.int z), .val (.ref f), .val (.int (1 : Int32)), .unset, .unset] [(.ref f)])) (fun _ k => ?_) ?_
        · show Steps p.tables e below (Tq.setTop (mkF m 120 #[.val (.int p1), .val (.int p2), .val (.int (0 : Int32)), .val (.int z), .val (.ref f), .val (.int (1 : Int32)), .unset, .unset] [])) _
          refine XS.aload XTq.here hx rfl (hb hby at_120) rfl rfl ?_
          show Steps p.tables e below (Tq.setTop (mkF m 122 #[.val (.int p1), .val (.int p2), .val (.int (0 : Int32)), .val (.int z), .val (.ref f), .val (.int (1 : Int32)), .unset, .unset] [(.ref f)])) _
          exact k
        obtain ⟨cq3, kq3, q3a, q3b, q3c⟩ := isOf hZ eTq E_f
        obtain ⟨_, _, ⟨T3, L3, k3, n3⟩, -, X3, ⟨Lc3, hQ3, l3, y3, z3⟩, st3⟩ := XTq.virtualBack hx (y := (⟨"com/example/typewright/typewright/Flow", "declare", "()I"⟩ : MethodName)) (z := (⟨"com/example/typewright/typewright/Flow", "declare", "()I"⟩ : MethodName)) hown (mvT hZ (hw _ (List.mem_of_getElem? (i := 59) rfl))) (mvT hZ (hw _ (List.mem_of_getElem? (i := 60) rfl))) (notFace_of_selects (args := #[]) (mvT hZ (hw _ (List.mem_of_getElem? (i := 62) rfl)))) (mvT hZ (hw _ (List.mem_of_getElem? (i := 62) rfl))) (mvT hZ (hw _ (List.mem_of_getElem? (i := 61) rfl))) (by decide) (backOf (W := 0) (rm10 l Z a0 hw [] f (0 : Int32) _ _ hq n0 ZTq F_locals_f F_assigned_f F_reach_f E_f g_f) hZ (hw _ (List.mem_of_getElem? (i := 63) rfl)) (hw _ (List.mem_of_getElem? (i := 2) rfl)) (by decide) (by decide)) q3a q3c (g := (mkF m 122 #[.val (.int p1), .val (.int p2), .val (.int (0 : Int32)), .val (.int z), .val (.ref f), .val (.int (1 : Int32)), .unset, .unset] [(.ref f)])) rfl (by rw [hml]; rfl) (Steps.refl _) (argsL := []) (rest := []) (lenOf pd_rm0_1 rfl) rfl (by show 2 * 0 + _ ≤ _; exact Nat.le_of_eq rfl) (hb hby at_122) (fun _ _ => ⟨rfl, eTq, (by decide : 5 + 0 ≤ _), (by decide : 11 + 0 ≤ _)⟩)
        dsimp only [Pt.U, Pt.locs, Pt.cells, Pt.slots] at X3 l3 y3 z3 st3 hQ3
        subst l3 y3 z3
        obtain ⟨rfl, N3q, Kc3, Ea3, Fa3, Fb3, Fc3⟩ := hQ3
        have N3 := Fr.app NTq N3q
        have hzt := hzt.keep Kc3 (allS g_f all0)
        have B_q := B_q.keep Kc3 (ninS (Ne.symm ne_f_qs) nin0) (ninS (Ne.symm ne_f_qw) nin0)
        have Z3 : n0 ≤ T3.heap.size := Nat.le_trans ZTq Kc3.1
        refine OEnds.go (t' := T3.setTop (mkF m 125 #[.val (.int p1), .val (.int p2), .val (.int (0 : Int32)), .val (.int z), .val (.ref f), .val (.int (1 : Int32)), .unset, .unset] [(.int (0 : Int32))])) (fun _ k => st3.trans k) ?_
        have E_f := Ea3
        have F_locals_f := Fa3
        have F_assigned_f := Fb3
        have F_reach_f := Fc3
        rw [show ((0 : Int32) + 1 : Int32) = (1 : Int32) from by decide] at F_locals_f
        refine OEnds.go (t' := T3.setTop (mkF m 129 #[.val (.int p1), .val (.int p2), .val (.int (0 : Int32)), .val (.int z), .val (.ref f), .val (.int (1 : Int32)), .val (.int (0 : Int32)), .unset] [(.ref f)])) (fun _ k => ?_) ?_
        · show Steps p.tables e below (T3.setTop (mkF m 125 #[.val (.int p1), .val (.int p2), .val (.int (0 : Int32)), .val (.int z), .val (.ref f), .val (.int (1 : Int32)), .unset, .unset] [(.int (0 : Int32))])) _
          refine XS.istore X3.here hx rfl (hb hby at_125) rfl (l' := #[.val (.int p1), .val (.int p2), .val (.int (0 : Int32)), .val (.int z), .val (.ref f), .val (.int (1 : Int32)), .val (.int (0 : Int32)), .unset]) rfl ?_
          show Steps p.tables e below (T3.setTop (mkF m 127 #[.val (.int p1), .val (.int p2), .val (.int (0 : Int32)), .val (.int z), .val (.ref f), .val (.int (1 : Int32)), .val (.int (0 : Int32)), .unset] [])) _
          refine XS.aload X3.here hx rfl (hb hby at_127) rfl rfl ?_
          show Steps p.tables e below (T3.setTop (mkF m 129 #[.val (.int p1), .val (.int p2), .val (.int (0 : Int32)), .val (.int z), .val (.ref f), .val (.int (1 : Int32)), .val (.int (0 : Int32)), .unset] [(.ref f)])) _
          exact k
        obtain ⟨cq4, kq4, q4a, q4b, q4c⟩ := isOf hZ rfl E_f
        obtain ⟨_, _, ⟨T4, L4, k4, n4⟩, -, X4, ⟨Lc4, hQ4, l4, y4, z4⟩, st4⟩ := X3.virtualBack hx (y := (⟨"com/example/typewright/typewright/Flow", "declare", "()I"⟩ : MethodName)) (z := (⟨"com/example/typewright/typewright/Flow", "declare", "()I"⟩ : MethodName)) hown (mvT hZ (hw _ (List.mem_of_getElem? (i := 59) rfl))) (mvT hZ (hw _ (List.mem_of_getElem? (i := 60) rfl))) (notFace_of_selects (args := #[]) (mvT hZ (hw _ (List.mem_of_getElem? (i := 62) rfl)))) (mvT hZ (hw _ (List.mem_of_getElem? (i := 62) rfl))) (mvT hZ (hw _ (List.mem_of_getElem? (i := 61) rfl))) (by decide) (backOf (W := 0) (rm10 l Z a0 hw [] f (1 : Int32) _ _ T3.heap n0 Z3 F_locals_f F_assigned_f F_reach_f E_f g_f) hZ (hw _ (List.mem_of_getElem? (i := 63) rfl)) (hw _ (List.mem_of_getElem? (i := 2) rfl)) (by decide) (by decide)) q4a q4c (g := (mkF m 129 #[.val (.int p1), .val (.int p2), .val (.int (0 : Int32)), .val (.int z), .val (.ref f), .val (.int (1 : Int32)), .val (.int (0 : Int32)), .unset] [(.ref f)])) rfl (by rw [hml]; rfl) (Steps.refl _) (argsL := []) (rest := []) (lenOf pd_rm0_1 rfl) rfl (by show 2 * 0 + _ ≤ _; exact Nat.le_of_eq rfl) (hb hby at_129) (fun _ _ => ⟨rfl, rfl, (by decide : 5 + 0 ≤ _), (by decide : 11 + 0 ≤ _)⟩)
        dsimp only [Pt.U, Pt.locs, Pt.cells, Pt.slots] at X4 l4 y4 z4 st4 hQ4
        subst l4 y4 z4
        obtain ⟨rfl, N4q, Kc4, Ea4, Fa4, Fb4, Fc4⟩ := hQ4
        have N4 := Fr.app N3 N4q
        have hzt := hzt.keep Kc4 (allS g_f all0)
        have B_q := B_q.keep Kc4 (ninS (Ne.symm ne_f_qs) nin0) (ninS (Ne.symm ne_f_qw) nin0)
        have Z4 : n0 ≤ T4.heap.size := Nat.le_trans Z3 Kc4.1
        refine OEnds.go (t' := T4.setTop (mkF m 132 #[.val (.int p1), .val (.int p2), .val (.int (0 : Int32)), .val (.int z), .val (.ref f), .val (.int (1 : Int32)), .val (.int (0 : Int32)), .unset] [(.int (1 : Int32))])) (fun _ k => st4.trans k) ?_
        have E_f := Ea4
        have F_locals_f := Fa4
        have F_assigned_f := Fb4
        have F_reach_f := Fc4
        rw [show ((1 : Int32) + 1 : Int32) = (2 : Int32) from by decide] at F_locals_f
        refine OEnds.go (t' := T4.setTop (mkF m 139 #[.val (.int p1), .val (.int p2), .val (.int (0 : Int32)), .val (.int z), .val (.ref f), .val (.int (1 : Int32)), .val (.int (0 : Int32)), .val (.int (1 : Int32))] [(.int (0 : Int32)), (.int (0 : Int32)), (.int (1 : Int32))])) (fun _ k => ?_) ?_
        · show Steps p.tables e below (T4.setTop (mkF m 132 #[.val (.int p1), .val (.int p2), .val (.int (0 : Int32)), .val (.int z), .val (.ref f), .val (.int (1 : Int32)), .val (.int (0 : Int32)), .unset] [(.int (1 : Int32))])) _
          refine XS.istore X4.here hx rfl (hb hby at_132) rfl (l' := #[.val (.int p1), .val (.int p2), .val (.int (0 : Int32)), .val (.int z), .val (.ref f), .val (.int (1 : Int32)), .val (.int (0 : Int32)), .val (.int (1 : Int32))]) rfl ?_
          show Steps p.tables e below (T4.setTop (mkF m 134 #[.val (.int p1), .val (.int p2), .val (.int (0 : Int32)), .val (.int z), .val (.ref f), .val (.int (1 : Int32)), .val (.int (0 : Int32)), .val (.int (1 : Int32))] [])) _
          refine XS.iload X4.here hx rfl (hb hby at_134) rfl ?_
          show Steps p.tables e below (T4.setTop (mkF m 136 #[.val (.int p1), .val (.int p2), .val (.int (0 : Int32)), .val (.int z), .val (.ref f), .val (.int (1 : Int32)), .val (.int (0 : Int32)), .val (.int (1 : Int32))] [(.int (1 : Int32))])) _
          refine XS.iload X4.here hx rfl (hb hby at_136) rfl ?_
          show Steps p.tables e below (T4.setTop (mkF m 138 #[.val (.int p1), .val (.int p2), .val (.int (0 : Int32)), .val (.int z), .val (.ref f), .val (.int (1 : Int32)), .val (.int (0 : Int32)), .val (.int (1 : Int32))] [(.int (0 : Int32)), (.int (1 : Int32))])) _
          refine XS.iloadN X4.here hx rfl (hb hby at_138) rfl ?_
          show Steps p.tables e below (T4.setTop (mkF m 139 #[.val (.int p1), .val (.int p2), .val (.int (0 : Int32)), .val (.int z), .val (.ref f), .val (.int (1 : Int32)), .val (.int (0 : Int32)), .val (.int (1 : Int32))] [(.int (0 : Int32)), (.int (0 : Int32)), (.int (1 : Int32))])) _
          exact k
        refine OEnds.go (t' := T4.setTop (mkF m 142 #[.val (.int p1), .val (.int p2), .val (.int (0 : Int32)), .val (.int z), .val (.ref f), .val (.int (1 : Int32)), .val (.int (0 : Int32)), .val (.int (1 : Int32))] [(.int (1 : Int32))])) (fun _ k => XS.icmpNo X4.here hx rfl (hb hby at_139) rfl (teq (by decide)).2 k) ?_
        refine OEnds.go (t' := T4.setTop (mkF m 157 #[.val (.int p1), .val (.int p2), .val (.int (0 : Int32)), .val (.int z), .val (.ref f), .val (.int ((1 : Int32) &&& (1 : Int32))), .val (.int (0 : Int32)), .val (.int (1 : Int32))] [(.int ((0 : Int32) + (1 : Int32))), (.int (1 : Int32)), (.int ((1 : Int32) &&& (1 : Int32)))])) (fun _ k => ?_) ?_
        · show Steps p.tables e below (T4.setTop (mkF m 142 #[.val (.int p1), .val (.int p2), .val (.int (0 : Int32)), .val (.int z), .val (.ref f), .val (.int (1 : Int32)), .val (.int (0 : Int32)), .val (.int (1 : Int32))] [(.int (1 : Int32))])) _
          refine XS.iconst X4.here hx rfl (hb hby at_142) ?_
          show Steps p.tables e below (T4.setTop (mkF m 143 #[.val (.int p1), .val (.int p2), .val (.int (0 : Int32)), .val (.int z), .val (.ref f), .val (.int (1 : Int32)), .val (.int (0 : Int32)), .val (.int (1 : Int32))] [(.int (1 : Int32)), (.int (1 : Int32))])) _
          refine XS.goto X4.here hx rfl (pc0 := 143) (pc' := 147) rfl (hb hby at_143) (by decide) (by decide) ?_
          show Steps p.tables e below (T4.setTop (mkF m 147 #[.val (.int p1), .val (.int p2), .val (.int (0 : Int32)), .val (.int z), .val (.ref f), .val (.int (1 : Int32)), .val (.int (0 : Int32)), .val (.int (1 : Int32))] [(.int (1 : Int32)), (.int (1 : Int32))])) _
          refine XS.iand X4.here hx rfl (hb hby at_147) rfl ?_
          show Steps p.tables e below (T4.setTop (mkF m 148 #[.val (.int p1), .val (.int p2), .val (.int (0 : Int32)), .val (.int z), .val (.ref f), .val (.int (1 : Int32)), .val (.int (0 : Int32)), .val (.int (1 : Int32))] [(.int ((1 : Int32) &&& (1 : Int32)))])) _
          refine XS.istore X4.here hx rfl (hb hby at_148) rfl (l' := #[.val (.int p1), .val (.int p2), .val (.int (0 : Int32)), .val (.int z), .val (.ref f), .val (.int ((1 : Int32) &&& (1 : Int32))), .val (.int (0 : Int32)), .val (.int (1 : Int32))]) rfl ?_
          show Steps p.tables e below (T4.setTop (mkF m 150 #[.val (.int p1), .val (.int p2), .val (.int (0 : Int32)), .val (.int z), .val (.ref f), .val (.int ((1 : Int32) &&& (1 : Int32))), .val (.int (0 : Int32)), .val (.int (1 : Int32))] [])) _
          refine XS.iload X4.here hx rfl (hb hby at_150) rfl ?_
          show Steps p.tables e below (T4.setTop (mkF m 152 #[.val (.int p1), .val (.int p2), .val (.int (0 : Int32)), .val (.int z), .val (.ref f), .val (.int ((1 : Int32) &&& (1 : Int32))), .val (.int (0 : Int32)), .val (.int (1 : Int32))] [(.int ((1 : Int32) &&& (1 : Int32)))])) _
          refine XS.iload X4.here hx rfl (hb hby at_152) rfl ?_
          show Steps p.tables e below (T4.setTop (mkF m 154 #[.val (.int p1), .val (.int p2), .val (.int (0 : Int32)), .val (.int z), .val (.ref f), .val (.int ((1 : Int32) &&& (1 : Int32))), .val (.int (0 : Int32)), .val (.int (1 : Int32))] [(.int (1 : Int32)), (.int ((1 : Int32) &&& (1 : Int32)))])) _
          refine XS.iloadN X4.here hx rfl (hb hby at_154) rfl ?_
          show Steps p.tables e below (T4.setTop (mkF m 155 #[.val (.int p1), .val (.int p2), .val (.int (0 : Int32)), .val (.int z), .val (.ref f), .val (.int ((1 : Int32) &&& (1 : Int32))), .val (.int (0 : Int32)), .val (.int (1 : Int32))] [(.int (0 : Int32)), (.int (1 : Int32)), (.int ((1 : Int32) &&& (1 : Int32)))])) _
          refine XS.iconst X4.here hx rfl (hb hby at_155) ?_
          show Steps p.tables e below (T4.setTop (mkF m 156 #[.val (.int p1), .val (.int p2), .val (.int (0 : Int32)), .val (.int z), .val (.ref f), .val (.int ((1 : Int32) &&& (1 : Int32))), .val (.int (0 : Int32)), .val (.int (1 : Int32))] [(.int (1 : Int32)), (.int (0 : Int32)), (.int (1 : Int32)), (.int ((1 : Int32) &&& (1 : Int32)))])) _
          refine XS.iadd X4.here hx rfl (hb hby at_156) rfl ?_
          show Steps p.tables e below (T4.setTop (mkF m 157 #[.val (.int p1), .val (.int p2), .val (.int (0 : Int32)), .val (.int z), .val (.ref f), .val (.int ((1 : Int32) &&& (1 : Int32))), .val (.int (0 : Int32)), .val (.int (1 : Int32))] [(.int ((0 : Int32) + (1 : Int32))), (.int (1 : Int32)), (.int ((1 : Int32) &&& (1 : Int32)))])) _
          exact k
        refine OEnds.go (t' := T4.setTop (mkF m 160 #[.val (.int p1), .val (.int p2), .val (.int (0 : Int32)), .val (.int z), .val (.ref f), .val (.int ((1 : Int32) &&& (1 : Int32))), .val (.int (0 : Int32)), .val (.int (1 : Int32))] [(.int ((1 : Int32) &&& (1 : Int32)))])) (fun _ k => XS.icmpNo X4.here hx rfl (hb hby at_157) rfl (teq (by decide)).2 k) ?_
        refine OEnds.go (t' := T4.setTop (mkF m 174 #[.val (.int p1), .val (.int p2), .val (.int (0 : Int32)), .val (.int z), .val (.ref f), .val (.int (((1 : Int32) &&& (1 : Int32)) &&& (1 : Int32))), .val (.int (0 : Int32)), .val (.int (1 : Int32))] [(.int (0 : Int32)), (.ref f), (.int (((1 : Int32) &&& (1 : Int32)) &&& (1 : Int32)))])) (fun _ k => ?_) ?_
        · show Steps p.tables e below (T4.setTop (mkF m 160 #[.val (.int p1), .val (.int p2), .val (.int (0 : Int32)), .val (.int z), .val (.ref f), .val (.int ((1 : Int32) &&& (1 : Int32))), .val (.int (0 : Int32)), .val (.int (1 : Int32))] [(.int ((1 : Int32) &&& (1 : Int32)))])) _
          refine XS.iconst X4.here hx rfl (hb hby at_160) ?_
          show Steps p.tables e below (T4.setTop (mkF m 161 #[.val (.int p1), .val (.int p2), .val (.int (0 : Int32)), .val (.int z), .val (.ref f), .val (.int ((1 : Int32) &&& (1 : Int32))), .val (.int (0 : Int32)), .val (.int (1 : Int32))] [(.int (1 : Int32)), (.int ((1 : Int32) &&& (1 : Int32)))])) _
          refine XS.goto X4.here hx rfl (pc0 := 161) (pc' := 165) rfl (hb hby at_161) (by decide) (by decide) ?_
          show Steps p.tables e below (T4.setTop (mkF m 165 #[.val (.int p1), .val (.int p2), .val (.int (0 : Int32)), .val (.int z), .val (.ref f), .val (.int ((1 : Int32) &&& (1 : Int32))), .val (.int (0 : Int32)), .val (.int (1 : Int32))] [(.int (1 : Int32)), (.int ((1 : Int32) &&& (1 : Int32)))])) _
          refine XS.iand X4.here hx rfl (hb hby at_165) rfl ?_
          show Steps p.tables e below (T4.setTop (mkF m 166 #[.val (.int p1), .val (.int p2), .val (.int (0 : Int32)), .val (.int z), .val (.ref f), .val (.int ((1 : Int32) &&& (1 : Int32))), .val (.int (0 : Int32)), .val (.int (1 : Int32))] [(.int (((1 : Int32) &&& (1 : Int32)) &&& (1 : Int32)))])) _
          refine XS.istore X4.here hx rfl (hb hby at_166) rfl (l' := #[.val (.int p1), .val (.int p2), .val (.int (0 : Int32)), .val (.int z), .val (.ref f), .val (.int (((1 : Int32) &&& (1 : Int32)) &&& (1 : Int32))), .val (.int (0 : Int32)), .val (.int (1 : Int32))]) rfl ?_
          show Steps p.tables e below (T4.setTop (mkF m 168 #[.val (.int p1), .val (.int p2), .val (.int (0 : Int32)), .val (.int z), .val (.ref f), .val (.int (((1 : Int32) &&& (1 : Int32)) &&& (1 : Int32))), .val (.int (0 : Int32)), .val (.int (1 : Int32))] [])) _
          refine XS.iload X4.here hx rfl (hb hby at_168) rfl ?_
          show Steps p.tables e below (T4.setTop (mkF m 170 #[.val (.int p1), .val (.int p2), .val (.int (0 : Int32)), .val (.int z), .val (.ref f), .val (.int (((1 : Int32) &&& (1 : Int32)) &&& (1 : Int32))), .val (.int (0 : Int32)), .val (.int (1 : Int32))] [(.int (((1 : Int32) &&& (1 : Int32)) &&& (1 : Int32)))])) _
          refine XS.aload X4.here hx rfl (hb hby at_170) rfl rfl ?_
          show Steps p.tables e below (T4.setTop (mkF m 172 #[.val (.int p1), .val (.int p2), .val (.int (0 : Int32)), .val (.int z), .val (.ref f), .val (.int (((1 : Int32) &&& (1 : Int32)) &&& (1 : Int32))), .val (.int (0 : Int32)), .val (.int (1 : Int32))] [(.ref f), (.int (((1 : Int32) &&& (1 : Int32)) &&& (1 : Int32)))])) _
          refine XS.iload X4.here hx rfl (hb hby at_172) rfl ?_
          show Steps p.tables e below (T4.setTop (mkF m 174 #[.val (.int p1), .val (.int p2), .val (.int (0 : Int32)), .val (.int z), .val (.ref f), .val (.int (((1 : Int32) &&& (1 : Int32)) &&& (1 : Int32))), .val (.int (0 : Int32)), .val (.int (1 : Int32))] [(.int (0 : Int32)), (.ref f), (.int (((1 : Int32) &&& (1 : Int32)) &&& (1 : Int32)))])) _
          exact k
        obtain ⟨cq5, kq5, q5a, q5b, q5c⟩ := isOf hZ rfl E_f
        obtain ⟨_, _, ⟨T5, L5, k5, n5⟩, -, X5, ⟨Lc5, hQ5, l5, y5, z5⟩, st5⟩ := X4.virtualBack hx (y := (⟨"com/example/typewright/typewright/Flow", "isAssigned", "(I)Z"⟩ : MethodName)) (z := (⟨"com/example/typewright/typewright/Flow", "isAssigned", "(I)Z"⟩ : MethodName)) hown (mvT hZ (hw _ (List.mem_of_getElem? (i := 64) rfl))) (mvT hZ (hw _ (List.mem_of_getElem? (i := 65) rfl))) (notFace_of_selects (args := #[]) (mvT hZ (hw _ (List.mem_of_getElem? (i := 67) rfl)))) (mvT hZ (hw _ (List.mem_of_getElem? (i := 67) rfl))) (mvT hZ (hw _ (List.mem_of_getElem? (i := 66) rfl))) (by decide) (backOf (W := 1) (rm11 l Z a0 hw [] f (0 : Int32) qs qw qk u w T4.heap n0 Z4 (S_A.ext hzt.2) F_assigned_f (by decide) (by decide) B_q) hZ (hw _ (List.mem_of_getElem? (i := 68) rfl)) (hw _ (List.mem_of_getElem? (i := 2) rfl)) (by decide) (by decide)) q5a q5c (g := (mkF m 174 #[.val (.int p1), .val (.int p2), .val (.int (0 : Int32)), .val (.int z), .val (.ref f), .val (.int (((1 : Int32) &&& (1 : Int32)) &&& (1 : Int32))), .val (.int (0 : Int32)), .val (.int (1 : Int32))] [(.int (0 : Int32)), (.ref f), (.int (((1 : Int32) &&& (1 : Int32)) &&& (1 : Int32)))])) rfl (by rw [hml]; rfl) (Steps.refl _) (argsL := [(.int (0 : Int32))]) (rest := [(.int (((1 : Int32) &&& (1 : Int32)) &&& (1 : Int32)))]) (lenOf pd_rm0_2 rfl) rfl (by show 2 * 0 + _ ≤ _; exact Nat.le_of_eq rfl) (hb hby at_174) (fun _ _ => ⟨rfl, rfl, (by decide : 5 + 0 ≤ _), (by decide : 11 + 0 ≤ _)⟩)
        dsimp only [Pt.U, Pt.locs, Pt.cells, Pt.slots] at X5 l5 y5 z5 st5 hQ5
        subst l5 y5 z5
        obtain ⟨rfl, N5q, eh⟩ := hQ5
        have N5 := Fr.app N4 N5q
        have eh5 := eh
        refine OEnds.go (t' := T5.setTop (mkF m 177 #[.val (.int p1), .val (.int p2), .val (.int (0 : Int32)), .val (.int z), .val (.ref f), .val (.int (((1 : Int32) &&& (1 : Int32)) &&& (1 : Int32))), .val (.int (0 : Int32)), .val (.int (1 : Int32))] [(.int (own_get u w (0 : Int32))), (.int (((1 : Int32) &&& (1 : Int32)) &&& (1 : Int32)))])) (fun _ k => st5.trans k) ?_
        refine OEnds.go (t' := T5.setTop (mkF m 180 #[.val (.int p1), .val (.int p2), .val (.int (0 : Int32)), .val (.int z), .val (.ref f), .val (.int (((1 : Int32) &&& (1 : Int32)) &&& (1 : Int32))), .val (.int (0 : Int32)), .val (.int (1 : Int32))] [(.int (((1 : Int32) &&& (1 : Int32)) &&& (1 : Int32)))])) (fun _ k => XS.ifNo X5.here hx rfl (hb hby at_177) rfl ((if0 _ _).trans (teq hA).2) k) ?_
        refine OEnds.go (t' := T5.setTop (mkF m 194 #[.val (.int p1), .val (.int p2), .val (.int (0 : Int32)), .val (.int z), .val (.ref f), .val (.int ((((1 : Int32) &&& (1 : Int32)) &&& (1 : Int32)) &&& (1 : Int32))), .val (.int (0 : Int32)), .val (.int (1 : Int32))] [(.int (1 : Int32)), (.ref f), (.int ((((1 : Int32) &&& (1 : Int32)) &&& (1 : Int32)) &&& (1 : Int32)))])) (fun _ k => ?_) ?_
        · show Steps p.tables e below (T5.setTop (mkF m 180 #[.val (.int p1), .val (.int p2), .val (.int (0 : Int32)), .val (.int z), .val (.ref f), .val (.int (((1 : Int32) &&& (1 : Int32)) &&& (1 : Int32))), .val (.int (0 : Int32)), .val (.int (1 : Int32))] [(.int (((1 : Int32) &&& (1 : Int32)) &&& (1 : Int32)))])) _
          refine XS.iconst X5.here hx rfl (hb hby at_180) ?_
          show Steps p.tables e below (T5.setTop (mkF m 181 #[.val (.int p1), .val (.int p2), .val (.int (0 : Int32)), .val (.int z), .val (.ref f), .val (.int (((1 : Int32) &&& (1 : Int32)) &&& (1 : Int32))), .val (.int (0 : Int32)), .val (.int (1 : Int32))] [(.int (1 : Int32)), (.int (((1 : Int32) &&& (1 : Int32)) &&& (1 : Int32)))])) _
          refine XS.goto X5.here hx rfl (pc0 := 181) (pc' := 185) rfl (hb hby at_181) (by decide) (by decide) ?_
          show Steps p.tables e below (T5.setTop (mkF m 185 #[.val (.int p1), .val (.int p2), .val (.int (0 : Int32)), .val (.int z), .val (.ref f), .val (.int (((1 : Int32) &&& (1 : Int32)) &&& (1 : Int32))), .val (.int (0 : Int32)), .val (.int (1 : Int32))] [(.int (1 : Int32)), (.int (((1 : Int32) &&& (1 : Int32)) &&& (1 : Int32)))])) _
          refine XS.iand X5.here hx rfl (hb hby at_185) rfl ?_
          show Steps p.tables e below (T5.setTop (mkF m 186 #[.val (.int p1), .val (.int p2), .val (.int (0 : Int32)), .val (.int z), .val (.ref f), .val (.int (((1 : Int32) &&& (1 : Int32)) &&& (1 : Int32))), .val (.int (0 : Int32)), .val (.int (1 : Int32))] [(.int ((((1 : Int32) &&& (1 : Int32)) &&& (1 : Int32)) &&& (1 : Int32)))])) _
          refine XS.istore X5.here hx rfl (hb hby at_186) rfl (l' := #[.val (.int p1), .val (.int p2), .val (.int (0 : Int32)), .val (.int z), .val (.ref f), .val (.int ((((1 : Int32) &&& (1 : Int32)) &&& (1 : Int32)) &&& (1 : Int32))), .val (.int (0 : Int32)), .val (.int (1 : Int32))]) rfl ?_
          show Steps p.tables e below (T5.setTop (mkF m 188 #[.val (.int p1), .val (.int p2), .val (.int (0 : Int32)), .val (.int z), .val (.ref f), .val (.int ((((1 : Int32) &&& (1 : Int32)) &&& (1 : Int32)) &&& (1 : Int32))), .val (.int (0 : Int32)), .val (.int (1 : Int32))] [])) _
          refine XS.iload X5.here hx rfl (hb hby at_188) rfl ?_
          show Steps p.tables e below (T5.setTop (mkF m 190 #[.val (.int p1), .val (.int p2), .val (.int (0 : Int32)), .val (.int z), .val (.ref f), .val (.int ((((1 : Int32) &&& (1 : Int32)) &&& (1 : Int32)) &&& (1 : Int32))), .val (.int (0 : Int32)), .val (.int (1 : Int32))] [(.int ((((1 : Int32) &&& (1 : Int32)) &&& (1 : Int32)) &&& (1 : Int32)))])) _
          refine XS.aload X5.here hx rfl (hb hby at_190) rfl rfl ?_
          show Steps p.tables e below (T5.setTop (mkF m 192 #[.val (.int p1), .val (.int p2), .val (.int (0 : Int32)), .val (.int z), .val (.ref f), .val (.int ((((1 : Int32) &&& (1 : Int32)) &&& (1 : Int32)) &&& (1 : Int32))), .val (.int (0 : Int32)), .val (.int (1 : Int32))] [(.ref f), (.int ((((1 : Int32) &&& (1 : Int32)) &&& (1 : Int32)) &&& (1 : Int32)))])) _
          refine XS.iload X5.here hx rfl (hb hby at_192) rfl ?_
          show Steps p.tables e below (T5.setTop (mkF m 194 #[.val (.int p1), .val (.int p2), .val (.int (0 : Int32)), .val (.int z), .val (.ref f), .val (.int ((((1 : Int32) &&& (1 : Int32)) &&& (1 : Int32)) &&& (1 : Int32))), .val (.int (0 : Int32)), .val (.int (1 : Int32))] [(.int (1 : Int32)), (.ref f), (.int ((((1 : Int32) &&& (1 : Int32)) &&& (1 : Int32)) &&& (1 : Int32)))])) _
          exact k
        obtain ⟨cq6, kq6, q6a, q6b, q6c⟩ := isOf hZ eh5 E_f
        obtain ⟨_, _, ⟨T6, L6, k6, n6⟩, -, X6, ⟨Lc6, hQ6, l6, y6, z6⟩, st6⟩ := X5.virtualBack hx (y := (⟨"com/example/typewright/typewright/Flow", "isAssigned", "(I)Z"⟩ : MethodName)) (z := (⟨"com/example/typewright/typewright/Flow", "isAssigned", "(I)Z"⟩ : MethodName)) hown (mvT hZ (hw _ (List.mem_of_getElem? (i := 64) rfl))) (mvT hZ (hw _ (List.mem_of_getElem? (i := 65) rfl))) (notFace_of_selects (args := #[]) (mvT hZ (hw _ (List.mem_of_getElem? (i := 67) rfl)))) (mvT hZ (hw _ (List.mem_of_getElem? (i := 67) rfl))) (mvT hZ (hw _ (List.mem_of_getElem? (i := 66) rfl))) (by decide) (backOf (W := 1) (rm11 l Z a0 hw [] f (1 : Int32) qs qw qk u w T4.heap n0 Z4 (S_A.ext hzt.2) F_assigned_f (by decide) (by decide) B_q) hZ (hw _ (List.mem_of_getElem? (i := 68) rfl)) (hw _ (List.mem_of_getElem? (i := 2) rfl)) (by decide) (by decide)) q6a q6c (g := (mkF m 194 #[.val (.int p1), .val (.int p2), .val (.int (0 : Int32)), .val (.int z), .val (.ref f), .val (.int ((((1 : Int32) &&& (1 : Int32)) &&& (1 : Int32)) &&& (1 : Int32))), .val (.int (0 : Int32)), .val (.int (1 : Int32))] [(.int (1 : Int32)), (.ref f), (.int ((((1 : Int32) &&& (1 : Int32)) &&& (1 : Int32)) &&& (1 : Int32)))])) rfl (by rw [hml]; rfl) (Steps.refl _) (argsL := [(.int (1 : Int32))]) (rest := [(.int ((((1 : Int32) &&& (1 : Int32)) &&& (1 : Int32)) &&& (1 : Int32)))]) (lenOf pd_rm0_2 rfl) rfl (by show 2 * 0 + _ ≤ _; exact Nat.le_of_eq rfl) (hb hby at_194) (fun _ _ => ⟨rfl, eh5, (by decide : 5 + 0 ≤ _), (by decide : 11 + 0 ≤ _)⟩)
        dsimp only [Pt.U, Pt.locs, Pt.cells, Pt.slots] at X6 l6 y6 z6 st6 hQ6
        subst l6 y6 z6
        obtain ⟨rfl, N6q, eh⟩ := hQ6
        have N6 := Fr.app N5 N6q
        have eh6 := eh
        refine OEnds.go (t' := T6.setTop (mkF m 197 #[.val (.int p1), .val (.int p2), .val (.int (0 : Int32)), .val (.int z), .val (.ref f), .val (.int ((((1 : Int32) &&& (1 : Int32)) &&& (1 : Int32)) &&& (1 : Int32))), .val (.int (0 : Int32)), .val (.int (1 : Int32))] [(.int (own_get u w (1 : Int32))), (.int ((((1 : Int32) &&& (1 : Int32)) &&& (1 : Int32)) &&& (1 : Int32)))])) (fun _ k => st6.trans k) ?_
        refine OEnds.go (t' := T6.setTop (mkF m 200 #[.val (.int p1), .val (.int p2), .val (.int (0 : Int32)), .val (.int z), .val (.ref f), .val (.int ((((1 : Int32) &&& (1 : Int32)) &&& (1 : Int32)) &&& (1 : Int32))), .val (.int (0 : Int32)), .val (.int (1 : Int32))] [(.int ((((1 : Int32) &&& (1 : Int32)) &&& (1 : Int32)) &&& (1 : Int32)))])) (fun _ k => XS.ifNo X6.here hx rfl (hb hby at_197) rfl ((if0 _ _).trans (teq hB).2) k) ?_
        refine OEnds.go (t' := T6.setTop (mkF m 210 #[.val (.int p1), .val (.int p2), .val (.int (0 : Int32)), .val (.int z), .val (.ref f), .val (.int (((((1 : Int32) &&& (1 : Int32)) &&& (1 : Int32)) &&& (1 : Int32)) &&& (1 : Int32))), .val (.int (0 : Int32)), .val (.int (1 : Int32))] [(.int (1 : Int32)), (.int (0 : Int32))])) (fun _ k => ?_) ?_
        · show Steps p.tables e below (T6.setTop (mkF m 200 #[.val (.int p1), .val (.int p2), .val (.int (0 : Int32)), .val (.int z), .val (.ref f), .val (.int ((((1 : Int32) &&& (1 : Int32)) &&& (1 : Int32)) &&& (1 : Int32))), .val (.int (0 : Int32)), .val (.int (1 : Int32))] [(.int ((((1 : Int32) &&& (1 : Int32)) &&& (1 : Int32)) &&& (1 : Int32)))])) _
          refine XS.iconst X6.here hx rfl (hb hby at_200) ?_
          show Steps p.tables e below (T6.setTop (mkF m 201 #[.val (.int p1), .val (.int p2), .val (.int (0 : Int32)), .val (.int z), .val (.ref f), .val (.int ((((1 : Int32) &&& (1 : Int32)) &&& (1 : Int32)) &&& (1 : Int32))), .val (.int (0 : Int32)), .val (.int (1 : Int32))] [(.int (1 : Int32)), (.int ((((1 : Int32) &&& (1 : Int32)) &&& (1 : Int32)) &&& (1 : Int32)))])) _
          refine XS.goto X6.here hx rfl (pc0 := 201) (pc' := 205) rfl (hb hby at_201) (by decide) (by decide) ?_
          show Steps p.tables e below (T6.setTop (mkF m 205 #[.val (.int p1), .val (.int p2), .val (.int (0 : Int32)), .val (.int z), .val (.ref f), .val (.int ((((1 : Int32) &&& (1 : Int32)) &&& (1 : Int32)) &&& (1 : Int32))), .val (.int (0 : Int32)), .val (.int (1 : Int32))] [(.int (1 : Int32)), (.int ((((1 : Int32) &&& (1 : Int32)) &&& (1 : Int32)) &&& (1 : Int32)))])) _
          refine XS.iand X6.here hx rfl (hb hby at_205) rfl ?_
          show Steps p.tables e below (T6.setTop (mkF m 206 #[.val (.int p1), .val (.int p2), .val (.int (0 : Int32)), .val (.int z), .val (.ref f), .val (.int ((((1 : Int32) &&& (1 : Int32)) &&& (1 : Int32)) &&& (1 : Int32))), .val (.int (0 : Int32)), .val (.int (1 : Int32))] [(.int (((((1 : Int32) &&& (1 : Int32)) &&& (1 : Int32)) &&& (1 : Int32)) &&& (1 : Int32)))])) _
          refine XS.istore X6.here hx rfl (hb hby at_206) rfl (l' := #[.val (.int p1), .val (.int p2), .val (.int (0 : Int32)), .val (.int z), .val (.ref f), .val (.int (((((1 : Int32) &&& (1 : Int32)) &&& (1 : Int32)) &&& (1 : Int32)) &&& (1 : Int32))), .val (.int (0 : Int32)), .val (.int (1 : Int32))]) rfl ?_
          show Steps p.tables e below (T6.setTop (mkF m 208 #[.val (.int p1), .val (.int p2), .val (.int (0 : Int32)), .val (.int z), .val (.ref f), .val (.int (((((1 : Int32) &&& (1 : Int32)) &&& (1 : Int32)) &&& (1 : Int32)) &&& (1 : Int32))), .val (.int (0 : Int32)), .val (.int (1 : Int32))] [])) _
          refine XS.iloadN X6.here hx rfl (hb hby at_208) rfl ?_
          show Steps p.tables e below (T6.setTop (mkF m 209 #[.val (.int p1), .val (.int p2), .val (.int (0 : Int32)), .val (.int z), .val (.ref f), .val (.int (((((1 : Int32) &&& (1 : Int32)) &&& (1 : Int32)) &&& (1 : Int32)) &&& (1 : Int32))), .val (.int (0 : Int32)), .val (.int (1 : Int32))] [(.int (0 : Int32))])) _
          refine XS.iconst X6.here hx rfl (hb hby at_209) ?_
          show Steps p.tables e below (T6.setTop (mkF m 210 #[.val (.int p1), .val (.int p2), .val (.int (0 : Int32)), .val (.int z), .val (.ref f), .val (.int (((((1 : Int32) &&& (1 : Int32)) &&& (1 : Int32)) &&& (1 : Int32)) &&& (1 : Int32))), .val (.int (0 : Int32)), .val (.int (1 : Int32))] [(.int (1 : Int32)), (.int (0 : Int32))])) _
          exact k
        refine OEnds.go (t' := T6.setTop (mkF m 255 #[.val (.int p1), .val (.int p2), .val (.int (0 : Int32)), .val (.int z), .val (.ref f), .val (.int (((((1 : Int32) &&& (1 : Int32)) &&& (1 : Int32)) &&& (1 : Int32)) &&& (1 : Int32))), .val (.int (0 : Int32)), .val (.int (1 : Int32))] [])) (fun _ k => XS.icmpYes X6.here hx rfl (pc0 := 210) (pc' := 255) rfl (hb hby at_210) rfl (tlt (by decide)).1 (by decide) (by decide) k) ?_
        refine OEnds.go (t' := T6.setTop (mkF m 257 #[.val (.int p1), .val (.int p2), .val (.int (0 : Int32)), .val (.int z), .val (.ref f), .val (.int (((((1 : Int32) &&& (1 : Int32)) &&& (1 : Int32)) &&& (1 : Int32)) &&& (1 : Int32))), .val (.int (0 : Int32)), .val (.int (1 : Int32))] [(.int (((((1 : Int32) &&& (1 : Int32)) &&& (1 : Int32)) &&& (1 : Int32)) &&& (1 : Int32)))])) (fun _ k => ?_) ?_
        · show Steps p.tables e below (T6.setTop (mkF m 255 #[.val (.int p1), .val (.int p2), .val (.int (0 : Int32)), .val (.int z), .val (.ref f), .val (.int (((((1 : Int32) &&& (1 : Int32)) &&& (1 : Int32)) &&& (1 : Int32)) &&& (1 : Int32))), .val (.int (0 : Int32)), .val (.int (1 : Int32))] [])) _
          refine XS.iload X6.here hx rfl (hb hby at_255) rfl ?_
          show Steps p.tables e below (T6.setTop (mkF m 257 #[.val (.int p1), .val (.int p2), .val (.int (0 : Int32)), .val (.int z), .val (.ref f), .val (.int (((((1 : Int32) &&& (1 : Int32)) &&& (1 : Int32)) &&& (1 : Int32)) &&& (1 : Int32))), .val (.int (0 : Int32)), .val (.int (1 : Int32))] [(.int (((((1 : Int32) &&& (1 : Int32)) &&& (1 : Int32)) &&& (1 : Int32)) &&& (1 : Int32)))])) _
          exact k
        refine OEnds.back X6 hlk (v := (some (.int (nar .boolean (((((1 : Int32) &&& (1 : Int32)) &&& (1 : Int32)) &&& (1 : Int32)) &&& (1 : Int32)))))) (fun h => by rw [hrt] at h; cases h) (fun fs hr => ?_) ?_ (by decide) (by decide)
        · exact retN X6 hx (t := .boolean) hrt (by simp) (hb hby at_257) hr
        · show Q0 Z p1 p2 r1 r2 h0 n0 _ T6.heap _
          rw [eh6]
          exact ⟨congrArg (fun z => some (Value.int z)) (by decide), N6⟩
      by_cases h112 : z = (0 : Int32)
      · refine OEnds.go (t' := T2.setTop (mkF m 120 #[.val (.int p1), .val (.int p2), .val (.int (0 : Int32)), .val (.int z), .val (.ref f), .val (.int (1 : Int32)), .unset, .unset] [])) (fun _ k => XS.ifYes X2.here hx rfl (pc0 := 112) (pc' := 120) rfl (hb hby at_112) rfl ((if0 _ _).trans (teq h112).1) (by decide) (by decide) k) ?_
        exact K120 _ _ _ (X2.mono (by decide) (by decide)) rfl N2 Z2 bs wa kb 0 0 _ hzt E_f F_locals_f F_assigned_f F_reach_f B_bs ne_f_bs ne_f_wa (by decide) (by decide)
      · refine OEnds.go (t' := T2.setTop (mkF m 115 #[.val (.int p1), .val (.int p2), .val (.int (0 : Int32)), .val (.int z), .val (.ref f), .val (.int (1 : Int32)), .unset, .unset] [])) (fun _ k => XS.ifNo X2.here hx rfl (hb hby at_112) rfl ((if0 _ _).trans (feq h112).1) k) ?_
        refine OEnds.go (t' := T2.setTop (mkF m 117 #[.val (.int p1), .val (.int p2), .val (.int (0 : Int32)), .val (.int z), .val (.ref f), .val (.int (1 : Int32)), .unset, .unset] [(.ref f)])) (fun _ k => ?_) ?_
        · show Steps p.tables e below (T2.setTop (mkF m 115 #[.val (.int p1), .val (.int p2), .val (.int (0 : Int32)), .val (.int z), .val (.ref f), .val (.int (1 : Int32)), .unset, .unset] [])) _
          refine XS.aload X2.here hx rfl (hb hby at_115) rfl rfl ?_
          show Steps p.tables e below (T2.setTop (mkF m 117 #[.val (.int p1), .val (.int p2), .val (.int (0 : Int32)), .val (.int z), .val (.ref f), .val (.int (1 : Int32)), .unset, .unset] [(.ref f)])) _
          exact k
        have lt_f := E_f.lt
        obtain ⟨cq7, kq7, q7a, q7b, q7c⟩ := isOf hZ rfl E_f
        obtain ⟨_, _, ⟨T7, L7, k7, n7⟩, -, X7, ⟨Lc7, hQ7, l7, y7, z7⟩, st7⟩ := X2.virtualBack hx (y := (⟨"com/example/typewright/typewright/Flow", "afterReturn", "()V"⟩ : MethodName)) (z := (⟨"com/example/typewright/typewright/Flow", "afterReturn", "()V"⟩ : MethodName)) hown (mvT hZ (hw _ (List.mem_of_getElem? (i := 38) rfl))) (mvT hZ (hw _ (List.mem_of_getElem? (i := 39) rfl))) (notFace_of_selects (args := #[]) (mvT hZ (hw _ (List.mem_of_getElem? (i := 41) rfl)))) (mvT hZ (hw _ (List.mem_of_getElem? (i := 41) rfl))) (mvT hZ (hw _ (List.mem_of_getElem? (i := 40) rfl))) (by decide) (backOf (W := 0) (rm6 l Z a0 hw [] f r2 (0 : Int32) _ _ T2.heap n0 Z2 S_A S_2 hzt F_locals_f F_assigned_f F_reach_f E_f g_f (by unfold own_N; decide)) hZ (hw _ (List.mem_of_getElem? (i := 42) rfl)) (hw _ (List.mem_of_getElem? (i := 2) rfl)) (by decide) (by decide)) q7a q7c (g := (mkF m 117 #[.val (.int p1), .val (.int p2), .val (.int (0 : Int32)), .val (.int z), .val (.ref f), .val (.int (1 : Int32)), .unset, .unset] [(.ref f)])) rfl (by rw [hml]; rfl) (Steps.refl _) (argsL := []) (rest := []) (lenOf pd_rm0_0 rfl) rfl (by show 2 * 0 + _ ≤ _; exact Nat.le_of_eq rfl) (hb hby at_117) (fun _ _ => ⟨rfl, rfl, (by decide : 3 + 2 ≤ _), (by decide : 7 + 4 ≤ _)⟩)
        dsimp only [Pt.U, Pt.locs, Pt.cells, Pt.slots] at X7 l7 y7 z7 st7 hQ7
        subst l7 y7 z7
        obtain ⟨rfl, N7q, Kc7, Ea7, Fa7, ⟨ur7, Fb7⟩, cs, cw, ck, Fc7, B_cs, ⟨szc, g_cs⟩, szv, g_cw⟩ := hQ7
        have N7 := Fr.app N2 N7q
        have hzt := hzt.keep Kc7 (allS g_f all0)
        have B_bs := B_bs.keep Kc7 (ninS (Ne.symm ne_f_bs) nin0) (ninS (Ne.symm ne_f_wa) nin0)
        have Z7 : n0 ≤ T7.heap.size := Nat.le_trans Z2 Kc7.1
        refine OEnds.go (t' := T7.setTop (mkF m 120 #[.val (.int p1), .val (.int p2), .val (.int (0 : Int32)), .val (.int z), .val (.ref f), .val (.int (1 : Int32)), .unset, .unset] [])) (fun _ k => st7.trans k) ?_
        have ne_f_cs : f ≠ cs := Nat.ne_of_lt (Nat.lt_of_lt_of_le lt_f szc)
        have ne_f_cw : f ≠ cw := Nat.ne_of_lt (Nat.lt_of_lt_of_le lt_f szv)
        have h112x : z = 1 := hz.resolve_left h112
        exact K120 _ _ _ (X7.mono (by decide) (by decide)) rfl N7 Z7 cs cw ck _ _ _ hzt Ea7 Fa7 Fc7 Fb7 B_cs ne_f_cs ne_f_cw (by decide) (by decide)
    · skip
      refine OEnds.go (t' := s₁.setTop (mkF m 16 #[.val (.int p1), .val (.int p2), .val (.int (1 : Int32)), .val (.int z), .unset, .unset, .unset, .unset] [])) (fun _ k => ?_) ?_
      · show Steps p.tables e below (s₁.setTop (mkF m 15 #[.val (.int p1), .val (.int p2), .val (.int (1 : Int32)), .unset, .unset, .unset, .unset, .unset] [(.int z)])) _
        refine XS.istoreN X0.here hx rfl (hb hby at_15) rfl (l' := #[.val (.int p1), .val (.int p2), .val (.int (1 : Int32)), .val (.int z), .unset, .unset, .unset, .unset]) rfl ?_
        show Steps p.tables e below (s₁.setTop (mkF m 16 #[.val (.int p1), .val (.int p2), .val (.int (1 : Int32)), .val (.int z), .unset, .unset, .unset, .unset] [])) _
        exact k
      obtain ⟨T8, h8, X8, e8, E8, A8, D8, -, st8⟩ := newO X0 hx hZ hown (hw _ (List.mem_of_getElem? (i := 0) rfl)) (hw _ (List.mem_of_getElem? (i := 1) rfl)) (hw _ (List.mem_of_getElem? (i := 2) rfl)) e0 (g := (mkF m 16 #[.val (.int p1), .val (.int p2), .val (.int (1 : Int32)), .val (.int z), .unset, .unset, .unset, .unset] [])) rfl (hb hby at_16) (by decide) (by decide)
      obtain ⟨f, gz8⟩ : ∃ z, z = h0.size := ⟨_, rfl⟩
      rw [← gz8] at A8 D8 st8
      have g_f : n0 ≤ f := Nat.le_trans Z0 (Nat.le_of_eq gz8.symm)
      have hzt := hzt.ext E8
      have Z8 : n0 ≤ h8.size := Nat.le_trans Z0 E8.1
      have E_f := A8
      have F_assigned_f : Fld Z h8 f "com/example/typewright/typewright/Flow" "assigned" "Ljava/util/BitSet;" .null := D8 (Or.inl (hw _ (List.mem_of_getElem? (i := 32) rfl))) (ty := (.object "java/util/BitSet")) (by decide)
      have F_reach_f : Fld Z h8 f "com/example/typewright/typewright/Flow" "reach" "Lcom/example/typewright/typewright/Flow$Reach;" .null := D8 (Or.inl (hw _ (List.mem_of_getElem? (i := 37) rfl))) (ty := (.object "com/example/typewright/typewright/Flow$Reach")) (by decide)
      have F_locals_f : Fld Z h8 f "com/example/typewright/typewright/Flow" "locals" "I" (.int (0 : Int32)) := D8 (Or.inl (hw _ (List.mem_of_getElem? (i := 48) rfl))) (ty := .int) (by decide)
      refine OEnds.go (t' := T8.setTop (mkF m 19 #[.val (.int p1), .val (.int p2), .val (.int (1 : Int32)), .val (.int z), .unset, .unset, .unset, .unset] [(.ref f)])) (fun _ k => st8 _ k) ?_
      refine OEnds.go (t' := T8.setTop (mkF m 20 #[.val (.int p1), .val (.int p2), .val (.int (1 : Int32)), .val (.int z), .unset, .unset, .unset, .unset] [(.ref f), (.ref f)])) (fun _ k => ?_) ?_
      · show Steps p.tables e below (T8.setTop (mkF m 19 #[.val (.int p1), .val (.int p2), .val (.int (1 : Int32)), .val (.int z), .unset, .unset, .unset, .unset] [(.ref f)])) _
        refine XS.dup X8.here hx rfl (hb hby at_19) rfl rfl ?_
        show Steps p.tables e below (T8.setTop (mkF m 20 #[.val (.int p1), .val (.int p2), .val (.int (1 : Int32)), .val (.int z), .unset, .unset, .unset, .unset] [(.ref f), (.ref f)])) _
        exact k
      have lt_f := E_f.lt
      obtain ⟨_, _, ⟨T9, L9, k9, n9⟩, -, X9, ⟨Lc9, hQ9, l9, y9, z9⟩, st9⟩ := X8.specialBack hx (y := (⟨"com/example/typewright/typewright/Flow", "<init>", "()V"⟩ : MethodName)) rfl hown (mvT hZ (hw _ (List.mem_of_getElem? (i := 3) rfl))) (mvT hZ (hw _ (List.mem_of_getElem? (i := 4) rfl))) (mvT hZ (hw _ (List.mem_of_getElem? (i := 5) rfl))) (by decide) (backOf (W := 1) (rm1 l Z a0 hw [] f r1 h8 n0 Z8 F_assigned_f F_locals_f F_reach_f E_f g_f S_1 hzt) hZ (hw _ (List.mem_of_getElem? (i := 5) rfl)) (hw _ (List.mem_of_getElem? (i := 2) rfl)) (by decide) (by decide)) (g := (mkF m 20 #[.val (.int p1), .val (.int p2), .val (.int (1 : Int32)), .val (.int z), .unset, .unset, .unset, .unset] [(.ref f), (.ref f)])) rfl (by rw [hml]; rfl) (Steps.refl _) (a := f) (argsL := []) (rest := [(.ref f)]) (lenOf pd_rm0_0 rfl) rfl (by show 2 * 0 + _ ≤ _; exact Nat.le_of_eq rfl) (hb hby at_20) (fun _ _ => ⟨rfl, e8, (by decide : 1 + 2 ≤ _), (by decide : 3 + 4 ≤ _)⟩)
      dsimp only [Pt.U, Pt.locs, Pt.cells, Pt.slots] at X9 l9 y9 z9 st9 hQ9
      subst l9 y9 z9
      obtain ⟨rfl, N9q, Kc9, Ea9, Fa9, ⟨ur9, Fb9⟩, bs, wa, kb, Fc9, B_bs, ⟨szs, g_bs⟩, szw, g_wa⟩ := hQ9
      have N9 := Fr.app N0 N9q
      have hzt := hzt.keep Kc9 (allS g_f all0)
      have Z9 : n0 ≤ T9.heap.size := Nat.le_trans Z8 Kc9.1
      refine OEnds.go (t' := T9.setTop (mkF m 23 #[.val (.int p1), .val (.int p2), .val (.int (1 : Int32)), .val (.int z), .unset, .unset, .unset, .unset] [(.ref f)])) (fun _ k => st9.trans k) ?_
      have ne_f_bs : f ≠ bs := Nat.ne_of_lt (Nat.lt_of_lt_of_le lt_f szs)
      have ne_f_wa : f ≠ wa := Nat.ne_of_lt (Nat.lt_of_lt_of_le lt_f szw)
      have E_f := Ea9
      have F_locals_f := Fa9
      have F_reach_f := Fb9
      have F_assigned_f := Fc9
      refine OEnds.go (t' := T9.setTop (mkF m 30 #[.val (.int p1), .val (.int p2), .val (.int (1 : Int32)), .val (.int z), .val (.ref f), .val (.int (1 : Int32)), .unset, .unset] [(.int (1 : Int32)), (.int (1 : Int32))])) (fun _ k => ?_) ?_
      · show Steps p.tables e below (T9.setTop (mkF m 23 #[.val (.int p1), .val (.int p2), .val (.int (1 : Int32)), .val (.int z), .unset, .unset, .unset, .unset] [(.ref f)])) _
        refine XS.astore X9.here hx rfl (hb hby at_23) rfl rfl (l' := #[.val (.int p1), .val (.int p2), .val (.int (1 : Int32)), .val (.int z), .val (.ref f), .unset, .unset, .unset]) rfl ?_
        show Steps p.tables e below (T9.setTop (mkF m 25 #[.val (.int p1), .val (.int p2), .val (.int (1 : Int32)), .val (.int z), .val (.ref f), .unset, .unset, .unset] [])) _
        refine XS.iconst X9.here hx rfl (hb hby at_25) ?_
        show Steps p.tables e below (T9.setTop (mkF m 26 #[.val (.int p1), .val (.int p2), .val (.int (1 : Int32)), .val (.int z), .val (.ref f), .unset, .unset, .unset] [(.int (1 : Int32))])) _
        refine XS.istore X9.here hx rfl (hb hby at_26) rfl (l' := #[.val (.int p1), .val (.int p2), .val (.int (1 : Int32)), .val (.int z), .val (.ref f), .val (.int (1 : Int32)), .unset, .unset]) rfl ?_
        show Steps p.tables e below (T9.setTop (mkF m 28 #[.val (.int p1), .val (.int p2), .val (.int (1 : Int32)), .val (.int z), .val (.ref f), .val (.int (1 : Int32)), .unset, .unset] [])) _
        refine XS.iloadN X9.here hx rfl (hb hby at_28) rfl ?_
        show Steps p.tables e below (T9.setTop (mkF m 29 #[.val (.int p1), .val (.int p2), .val (.int (1 : Int32)), .val (.int z), .val (.ref f), .val (.int (1 : Int32)), .unset, .unset] [(.int (1 : Int32))])) _
        refine XS.iconst X9.here hx rfl (hb hby at_29) ?_
        show Steps p.tables e below (T9.setTop (mkF m 30 #[.val (.int p1), .val (.int p2), .val (.int (1 : Int32)), .val (.int z), .val (.ref f), .val (.int (1 : Int32)), .unset, .unset] [(.int (1 : Int32)), (.int (1 : Int32))])) _
        exact k
      refine OEnds.go (t' := T9.setTop (mkF m 33 #[.val (.int p1), .val (.int p2), .val (.int (1 : Int32)), .val (.int z), .val (.ref f), .val (.int (1 : Int32)), .unset, .unset] [])) (fun _ k => XS.icmpNo X9.here hx rfl (hb hby at_30) rfl (flt (by decide)).1 k) ?_
      refine OEnds.go (t' := T9.setTop (mkF m 35 #[.val (.int p1), .val (.int p2), .val (.int (1 : Int32)), .val (.int z), .val (.ref f), .val (.int (1 : Int32)), .unset, .unset] [(.ref f)])) (fun _ k => ?_) ?_
      · show Steps p.tables e below (T9.setTop (mkF m 33 #[.val (.int p1), .val (.int p2), .val (.int (1 : Int32)), .val (.int z), .val (.ref f), .val (.int (1 : Int32)), .unset, .unset] [])) _
        refine XS.aload X9.here hx rfl (hb hby at_33) rfl rfl ?_
        show Steps p.tables e below (T9.setTop (mkF m 35 #[.val (.int p1), .val (.int p2), .val (.int (1 : Int32)), .val (.int z), .val (.ref f), .val (.int (1 : Int32)), .unset, .unset] [(.ref f)])) _
        exact k
      obtain ⟨cq10, kq10, q10a, q10b, q10c⟩ := isOf hZ rfl E_f
      obtain ⟨_, _, ⟨T10, L10, k10, n10⟩, -, X10, ⟨Lc10, hQ10, l10, y10, z10⟩, st10⟩ := X9.virtualBack hx (y := (⟨"com/example/typewright/typewright/Flow", "declare", "()I"⟩ : MethodName)) (z := (⟨"com/example/typewright/typewright/Flow", "declare", "()I"⟩ : MethodName)) hown (mvT hZ (hw _ (List.mem_of_getElem? (i := 59) rfl))) (mvT hZ (hw _ (List.mem_of_getElem? (i := 60) rfl))) (notFace_of_selects (args := #[]) (mvT hZ (hw _ (List.mem_of_getElem? (i := 62) rfl)))) (mvT hZ (hw _ (List.mem_of_getElem? (i := 62) rfl))) (mvT hZ (hw _ (List.mem_of_getElem? (i := 61) rfl))) (by decide) (backOf (W := 0) (rm10 l Z a0 hw [] f (0 : Int32) _ _ T9.heap n0 Z9 F_locals_f F_assigned_f F_reach_f E_f g_f) hZ (hw _ (List.mem_of_getElem? (i := 63) rfl)) (hw _ (List.mem_of_getElem? (i := 2) rfl)) (by decide) (by decide)) q10a q10c (g := (mkF m 35 #[.val (.int p1), .val (.int p2), .val (.int (1 : Int32)), .val (.int z), .val (.ref f), .val (.int (1 : Int32)), .unset, .unset] [(.ref f)])) rfl (by rw [hml]; rfl) (Steps.refl _) (argsL := []) (rest := []) (lenOf pd_rm0_1 rfl) rfl (by show 2 * 0 + _ ≤ _; exact Nat.le_of_eq rfl) (hb hby at_35) (fun _ _ => ⟨rfl, rfl, (by decide : 3 + 0 ≤ _), (by decide : 7 + 0 ≤ _)⟩)
      dsimp only [Pt.U, Pt.locs, Pt.cells, Pt.slots] at X10 l10 y10 z10 st10 hQ10
      subst l10 y10 z10
      obtain ⟨rfl, N10q, Kc10, Ea10, Fa10, Fb10, Fc10⟩ := hQ10
      have N10 := Fr.app N9 N10q
      have hzt := hzt.keep Kc10 (allS g_f all0)
      have B_bs := B_bs.keep Kc10 (ninS (Ne.symm ne_f_bs) nin0) (ninS (Ne.symm ne_f_wa) nin0)
      have Z10 : n0 ≤ T10.heap.size := Nat.le_trans Z9 Kc10.1
      refine OEnds.go (t' := T10.setTop (mkF m 38 #[.val (.int p1), .val (.int p2), .val (.int (1 : Int32)), .val (.int z), .val (.ref f), .val (.int (1 : Int32)), .unset, .unset] [(.int (0 : Int32))])) (fun _ k => st10.trans k) ?_
      have E_f := Ea10
      have F_locals_f := Fa10
      have F_assigned_f := Fb10
      have F_reach_f := Fc10
      rw [show ((0 : Int32) + 1 : Int32) = (1 : Int32) from by decide] at F_locals_f
      refine OEnds.go (t' := T10.setTop (mkF m 44 #[.val (.int p1), .val (.int p2), .val (.int (1 : Int32)), .val (.int z), .val (.ref f), .val (.int (1 : Int32)), .val (.int (0 : Int32)), .unset] [(.int (0 : Int32)), (.int (1 : Int32))])) (fun _ k => ?_) ?_
      · show Steps p.tables e below (T10.setTop (mkF m 38 #[.val (.int p1), .val (.int p2), .val (.int (1 : Int32)), .val (.int z), .val (.ref f), .val (.int (1 : Int32)), .unset, .unset] [(.int (0 : Int32))])) _
        refine XS.istore X10.here hx rfl (hb hby at_38) rfl (l' := #[.val (.int p1), .val (.int p2), .val (.int (1 : Int32)), .val (.int z), .val (.ref f), .val (.int (1 : Int32)), .val (.int (0 : Int32)), .unset]) rfl ?_
        show Steps p.tables e below (T10.setTop (mkF m 40 #[.val (.int p1), .val (.int p2), .val (.int (1 : Int32)), .val (.int z), .val (.ref f), .val (.int (1 : Int32)), .val (.int (0 : Int32)), .unset] [])) _
        refine XS.iload X10.here hx rfl (hb hby at_40) rfl ?_
        show Steps p.tables e below (T10.setTop (mkF m 42 #[.val (.int p1), .val (.int p2), .val (.int (1 : Int32)), .val (.int z), .val (.ref f), .val (.int (1 : Int32)), .val (.int (0 : Int32)), .unset] [(.int (1 : Int32))])) _
        refine XS.iload X10.here hx rfl (hb hby at_42) rfl ?_
        show Steps p.tables e below (T10.setTop (mkF m 44 #[.val (.int p1), .val (.int p2), .val (.int (1 : Int32)), .val (.int z), .val (.ref f), .val (.int (1 : Int32)), .val (.int (0 : Int32)), .unset] [(.int (0 : Int32)), (.int (1 : Int32))])) _
        exact k
      refine OEnds.go (t' := T10.setTop (mkF m 47 #[.val (.int p1), .val (.int p2), .val (.int (1 : Int32)), .val (.int z), .val (.ref f), .val (.int (1 : Int32)), .val (.int (0 : Int32)), .unset] [(.int (1 : Int32))])) (fun _ k => XS.ifNo X10.here hx rfl (hb hby at_44) rfl ((if0 _ _).trans (teq (by decide)).2) k) ?_
      refine OEnds.go (t' := T10.setTop (mkF m 57 #[.val (.int p1), .val (.int p2), .val (.int (1 : Int32)), .val (.int z), .val (.ref f), .val (.int ((1 : Int32) &&& (1 : Int32))), .val (.int (0 : Int32)), .unset] [(.int (2 : Int32)), (.int (1 : Int32))])) (fun _ k => ?_) ?_
      · show Steps p.tables e below (T10.setTop (mkF m 47 #[.val (.int p1), .val (.int p2), .val (.int (1 : Int32)), .val (.int z), .val (.ref f), .val (.int (1 : Int32)), .val (.int (0 : Int32)), .unset] [(.int (1 : Int32))])) _
        refine XS.iconst X10.here hx rfl (hb hby at_47) ?_
        show Steps p.tables e below (T10.setTop (mkF m 48 #[.val (.int p1), .val (.int p2), .val (.int (1 : Int32)), .val (.int z), .val (.ref f), .val (.int (1 : Int32)), .val (.int (0 : Int32)), .unset] [(.int (1 : Int32)), (.int (1 : Int32))])) _
        refine XS.goto X10.here hx rfl (pc0 := 48) (pc' := 52) rfl (hb hby at_48) (by decide) (by decide) ?_
        show Steps p.tables e below (T10.setTop (mkF m 52 #[.val (.int p1), .val (.int p2), .val (.int (1 : Int32)), .val (.int z), .val (.ref f), .val (.int (1 : Int32)), .val (.int (0 : Int32)), .unset] [(.int (1 : Int32)), (.int (1 : Int32))])) _
        refine XS.iand X10.here hx rfl (hb hby at_52) rfl ?_
        show Steps p.tables e below (T10.setTop (mkF m 53 #[.val (.int p1), .val (.int p2), .val (.int (1 : Int32)), .val (.int z), .val (.ref f), .val (.int (1 : Int32)), .val (.int (0 : Int32)), .unset] [(.int ((1 : Int32) &&& (1 : Int32)))])) _
        refine XS.istore X10.here hx rfl (hb hby at_53) rfl (l' := #[.val (.int p1), .val (.int p2), .val (.int (1 : Int32)), .val (.int z), .val (.ref f), .val (.int ((1 : Int32) &&& (1 : Int32))), .val (.int (0 : Int32)), .unset]) rfl ?_
        show Steps p.tables e below (T10.setTop (mkF m 55 #[.val (.int p1), .val (.int p2), .val (.int (1 : Int32)), .val (.int z), .val (.ref f), .val (.int ((1 : Int32) &&& (1 : Int32))), .val (.int (0 : Int32)), .unset] [])) _
        refine XS.iloadN X10.here hx rfl (hb hby at_55) rfl ?_
        show Steps p.tables e below (T10.setTop (mkF m 56 #[.val (.int p1), .val (.int p2), .val (.int (1 : Int32)), .val (.int z), .val (.ref f), .val (.int ((1 : Int32) &&& (1 : Int32))), .val (.int (0 : Int32)), .unset] [(.int (1 : Int32))])) _
        refine XS.iconst X10.here hx rfl (hb hby at_56) ?_
        show Steps p.tables e below (T10.setTop (mkF m 57 #[.val (.int p1), .val (.int p2), .val (.int (1 : Int32)), .val (.int z), .val (.ref f), .val (.int ((1 : Int32) &&& (1 : Int32))), .val (.int (0 : Int32)), .unset] [(.int (2 : Int32)), (.int (1 : Int32))])) _
        exact k
      refine OEnds.go (t' := T10.setTop (mkF m 83 #[.val (.int p1), .val (.int p2), .val (.int (1 : Int32)), .val (.int z), .val (.ref f), .val (.int ((1 : Int32) &&& (1 : Int32))), .val (.int (0 : Int32)), .unset] [])) (fun _ k => XS.icmpYes X10.here hx rfl (pc0 := 57) (pc' := 83) rfl (hb hby at_57) rfl (tlt (by decide)).1 (by decide) (by decide) k) ?_
      refine OEnds.go (t' := T10.setTop (mkF m 85 #[.val (.int p1), .val (.int p2), .val (.int (1 : Int32)), .val (.int z), .val (.ref f), .val (.int ((1 : Int32) &&& (1 : Int32))), .val (.int (0 : Int32)), .unset] [(.int (3 : Int32)), (.int (1 : Int32))])) (fun _ k => ?_) ?_
      · show Steps p.tables e below (T10.setTop (mkF m 83 #[.val (.int p1), .val (.int p2), .val (.int (1 : Int32)), .val (.int z), .val (.ref f), .val (.int ((1 : Int32) &&& (1 : Int32))), .val (.int (0 : Int32)), .unset] [])) _
        refine XS.iloadN X10.here hx rfl (hb hby at_83) rfl ?_
        show Steps p.tables e below (T10.setTop (mkF m 84 #[.val (.int p1), .val (.int p2), .val (.int (1 : Int32)), .val (.int z), .val (.ref f), .val (.int ((1 : Int32) &&& (1 : Int32))), .val (.int (0 : Int32)), .unset] [(.int (1 : Int32))])) _
        refine XS.iconst X10.here hx rfl (hb hby at_84) ?_
        show Steps p.tables e below (T10.setTop (mkF m 85 #[.val (.int p1), .val (.int p2), .val (.int (1 : Int32)), .val (.int z), .val (.ref f), .val (.int ((1 : Int32) &&& (1 : Int32))), .val (.int (0 : Int32)), .unset] [(.int (3 : Int32)), (.int (1 : Int32))])) _
        exact k
      refine OEnds.go (t' := T10.setTop (mkF m 111 #[.val (.int p1), .val (.int p2), .val (.int (1 : Int32)), .val (.int z), .val (.ref f), .val (.int ((1 : Int32) &&& (1 : Int32))), .val (.int (0 : Int32)), .unset] [])) (fun _ k => XS.icmpYes X10.here hx rfl (pc0 := 85) (pc' := 111) rfl (hb hby at_85) rfl (tlt (by decide)).1 (by decide) (by decide) k) ?_
      refine OEnds.go (t' := T10.setTop (mkF m 112 #[.val (.int p1), .val (.int p2), .val (.int (1 : Int32)), .val (.int z), .val (.ref f), .val (.int ((1 : Int32) &&& (1 : Int32))), .val (.int (0 : Int32)), .unset] [(.int z)])) (fun _ k => ?_) ?_
      · show Steps p.tables e below (T10.setTop (mkF m 111 #[.val (.int p1), .val (.int p2), .val (.int (1 : Int32)), .val (.int z), .val (.ref f), .val (.int ((1 : Int32) &&& (1 : Int32))), .val (.int (0 : Int32)), .unset] [])) _
        refine XS.iloadN X10.here hx rfl (hb hby at_111) rfl ?_
        show Steps p.tables e below (T10.setTop (mkF m 112 #[.val (.int p1), .val (.int p2), .val (.int (1 : Int32)), .val (.int z), .val (.ref f), .val (.int ((1 : Int32) &&& (1 : Int32))), .val (.int (0 : Int32)), .unset] [(.int z)])) _
        exact k
      refine OEnds.cut (fun En => ∀ (Tq : State) (Tq_l : List Loc) (hq : Heap), Stand p l e room_1 s m #[(.int p1), (.int p2)] below meth c Tq Tq_l 5 11 → Tq.heap = hq → Fr n0 Tq_l → n0 ≤ hq.size → ∀ (qs : Addr) (qw : Addr) (qk : ClassId) (u : Int32) (w : Int64) (ur : Value), Old Z n0 hq → Exa Z hq f "com/example/typewright/typewright/Flow" → Fld Z hq f "com/example/typewright/typewright/Flow" "locals" "I" (.int (1 : Int32)) → Fld Z hq f "com/example/typewright/typewright/Flow" "assigned" "Ljava/util/BitSet;" (.ref qs) → Fld Z hq f "com/example/typewright/typewright/Flow" "reach" "Lcom/example/typewright/typewright/Flow$Reach;" ur → own_Bits Z hq qs qw qk u w → f ≠ qs → f ≠ qw → own_get u w (1 : Int32) = 0 → own_get u w (2 : Int32) = 0 → own_get u w 0 = z → own_get u w (0 : Int32) = z → En (Tq.setTop (mkF m 120 #[.val (.int p1), .val (.int p2), .val (.int (1 : Int32)), .val (.int z), .val (.ref f), .val (.int ((1 : Int32) &&& (1 : Int32))), .val (.int (0 : Int32)), .unset] []))) ?_ (fun K120 => ?_)
      · intro Tq Tq_l hq XTq eTq NTq ZTq qs qw qk u w ur hzt E_f F_locals_f F_assigned_f F_reach_f B_q ne_f_qs ne_f_qw hA hB hC hD
        refine OEnds.go (t' := Tq.setTop (mkF m 122 #[.val (.int p1), .val (.int p2), .val (.int (1 : Int32)), .val (.int z), .val (.ref f), .val (.int ((1 : Int32) &&& (1 : Int32))), .val (.int (0 : Int32)), .unset] [(.ref f)])) (fun _ k => ?_) ?_
        · show Steps p.tables e below (Tq.setTop (mkF m 120 #[.val (.int p1), .val (.int p2), .val (.int (1 : Int32)), .val (.int z), .val (.ref f), .val (.int ((1 : Int32) &&& (1 : Int32))), .val (.int (0 : Int32)), .unset] [])) _
          refine XS.aload XTq.here hx rfl (hb hby at_120) rfl rfl ?_
          show Steps p.tables e below (Tq.setTop (mkF m 122 #[.val (.int p1), .val (.int p2), .val (.int (1 : Int32)), .val (.int z), .val (.ref f), .val (.int ((1 : Int32) &&& (1 : Int32))), .val (.int (0 : Int32)), .unset] [(.ref f)])) _
          exact k
        obtain ⟨cq11, kq11, q11a, q11b, q11c⟩ := isOf hZ eTq E_f
        obtain ⟨_, _, ⟨T11, L11, k11, n11⟩, -, X11, ⟨Lc11, hQ11, l11, y11, z11⟩, st11⟩ := XTq.virtualBack hx (y := (⟨"com/example/typewright/typewright/Flow", "declare", "()I"⟩ : MethodName)) (z := (⟨"com/example/typewright/typewright/Flow", "declare", "()I"⟩ : MethodName)) hown (mvT hZ (hw _ (List.mem_of_getElem? (i := 59) rfl))) (mvT hZ (hw _ (List.mem_of_getElem? (i := 60) rfl))) (notFace_of_selects (args := #[]) (mvT hZ (hw _ (List.mem_of_getElem? (i := 62) rfl)))) (mvT hZ (hw _ (List.mem_of_getElem? (i := 62) rfl))) (mvT hZ (hw _ (List.mem_of_getElem? (i := 61) rfl))) (by decide) (backOf (W := 0) (rm10 l Z a0 hw [] f (1 : Int32) _ _ hq n0 ZTq F_locals_f F_assigned_f F_reach_f E_f g_f) hZ (hw _ (List.mem_of_getElem? (i := 63) rfl)) (hw _ (List.mem_of_getElem? (i := 2) rfl)) (by decide) (by decide)) q11a q11c (g := (mkF m 122 #[.val (.int p1), .val (.int p2), .val (.int (1 : Int32)), .val (.int z), .val (.ref f), .val (.int ((1 : Int32) &&& (1 : Int32))), .val (.int (0 : Int32)), .unset] [(.ref f)])) rfl (by rw [hml]; rfl) (Steps.refl _) (argsL := []) (rest := []) (lenOf pd_rm0_1 rfl) rfl (by show 2 * 0 + _ ≤ _; exact Nat.le_of_eq rfl) (hb hby at_122) (fun _ _ => ⟨rfl, eTq, (by decide : 5 + 0 ≤ _), (by decide : 11 + 0 ≤ _)⟩)
        dsimp only [Pt.U, Pt.locs, Pt.cells, Pt.slots] at X11 l11 y11 z11 st11 hQ11
        subst l11 y11 z11
        obtain ⟨rfl, N11q, Kc11, Ea11, Fa11, Fb11, Fc11⟩ := hQ11
        have N11 := Fr.app NTq N11q
        have hzt := hzt.keep Kc11 (allS g_f all0)
        have B_q := B_q.keep Kc11 (ninS (Ne.symm ne_f_qs) nin0) (ninS (Ne.symm ne_f_qw) nin0)
        have Z11 : n0 ≤ T11.heap.size := Nat.le_trans ZTq Kc11.1
        refine OEnds.go (t' := T11.setTop (mkF m 125 #[.val (.int p1), .val (.int p2), .val (.int (1 : Int32)), .val (.int z), .val (.ref f), .val (.int ((1 : Int32) &&& (1 : Int32))), .val (.int (0 : Int32)), .unset] [(.int (1 : Int32))])) (fun _ k => st11.trans k) ?_
        have E_f := Ea11
        have F_locals_f := Fa11
        have F_assigned_f := Fb11
        have F_reach_f := Fc11
        rw [show ((1 : Int32) + 1 : Int32) = (2 : Int32) from by decide] at F_locals_f
        refine OEnds.go (t' := T11.setTop (mkF m 129 #[.val (.int p1), .val (.int p2), .val (.int (1 : Int32)), .val (.int z), .val (.ref f), .val (.int ((1 : Int32) &&& (1 : Int32))), .val (.int (1 : Int32)), .unset] [(.ref f)])) (fun _ k => ?_) ?_
        · show Steps p.tables e below (T11.setTop (mkF m 125 #[.val (.int p1), .val (.int p2), .val (.int (1 : Int32)), .val (.int z), .val (.ref f), .val (.int ((1 : Int32) &&& (1 : Int32))), .val (.int (0 : Int32)), .unset] [(.int (1 : Int32))])) _
          refine XS.istore X11.here hx rfl (hb hby at_125) rfl (l' := #[.val (.int p1), .val (.int p2), .val (.int (1 : Int32)), .val (.int z), .val (.ref f), .val (.int ((1 : Int32) &&& (1 : Int32))), .val (.int (1 : Int32)), .unset]) rfl ?_
          show Steps p.tables e below (T11.setTop (mkF m 127 #[.val (.int p1), .val (.int p2), .val (.int (1 : Int32)), .val (.int z), .val (.ref f), .val (.int ((1 : Int32) &&& (1 : Int32))), .val (.int (1 : Int32)), .unset] [])) _
          refine XS.aload X11.here hx rfl (hb hby at_127) rfl rfl ?_
          show Steps p.tables e below (T11.setTop (mkF m 129 #[.val (.int p1), .val (.int p2), .val (.int (1 : Int32)), .val (.int z), .val (.ref f), .val (.int ((1 : Int32) &&& (1 : Int32))), .val (.int (1 : Int32)), .unset] [(.ref f)])) _
          exact k
        obtain ⟨cq12, kq12, q12a, q12b, q12c⟩ := isOf hZ rfl E_f
        obtain ⟨_, _, ⟨T12, L12, k12, n12⟩, -, X12, ⟨Lc12, hQ12, l12, y12, z12⟩, st12⟩ := X11.virtualBack hx (y := (⟨"com/example/typewright/typewright/Flow", "declare", "()I"⟩ : MethodName)) (z := (⟨"com/example/typewright/typewright/Flow", "declare", "()I"⟩ : MethodName)) hown (mvT hZ (hw _ (List.mem_of_getElem? (i := 59) rfl))) (mvT hZ (hw _ (List.mem_of_getElem? (i := 60) rfl))) (notFace_of_selects (args := #[]) (mvT hZ (hw _ (List.mem_of_getElem? (i := 62) rfl)))) (mvT hZ (hw _ (List.mem_of_getElem? (i := 62) rfl))) (mvT hZ (hw _ (List.mem_of_getElem? (i := 61) rfl))) (by decide) (backOf (W := 0) (rm10 l Z a0 hw [] f (2 : Int32) _ _ T11.heap n0 Z11 F_locals_f F_assigned_f F_reach_f E_f g_f) hZ (hw _ (List.mem_of_getElem? (i := 63) rfl)) (hw _ (List.mem_of_getElem? (i := 2) rfl)) (by decide) (by decide)) q12a q12c (g := (mkF m 129 #[.val (.int p1), .val (.int p2), .val (.int (1 : Int32)), .val (.int z), .val (.ref f), .val (.int ((1 : Int32) &&& (1 : Int32))), .val (.int (1 : Int32)), .unset] [(.ref f)])) rfl (by rw [hml]; rfl) (Steps.refl _) (argsL := []) (rest := []) (lenOf pd_rm0_1 rfl) rfl (by show 2 * 0 + _ ≤ _; exact Nat.le_of_eq rfl) (hb hby at_129) (fun _ _ => ⟨rfl, rfl, (by decide : 5 + 0 ≤ _), (by decide : 11 + 0 ≤ _)⟩)
        dsimp only [Pt.U, Pt.locs, Pt.cells, Pt.slots] at X12 l12 y12 z12 st12 hQ12
        subst l12 y12 z12
        obtain ⟨rfl, N12q, Kc12, Ea12, Fa12, Fb12, Fc12⟩ := hQ12
        have N12 := Fr.app N11 N12q
        have hzt := hzt.keep Kc12 (allS g_f all0)
        have B_q := B_q.keep Kc12 (ninS (Ne.symm ne_f_qs) nin0) (ninS (Ne.symm ne_f_qw) nin0)
        have Z12 : n0 ≤ T12.heap.size := Nat.le_trans Z11 Kc12.1
        refine OEnds.go (t' := T12.setTop (mkF m 132 #[.val (.int p1), .val (.int p2), .val (.int (1 : Int32)), .val (.int z), .val (.ref f), .val (.int ((1 : Int32) &&& (1 : Int32))), .val (.int (1 : Int32)), .unset] [(.int (2 : Int32))])) (fun _ k => st12.trans k) ?_
        have E_f := Ea12
        have F_locals_f := Fa12
        have F_assigned_f := Fb12
        have F_reach_f := Fc12
        rw [show ((2 : Int32) + 1 : Int32) = (3 : Int32) from by decide] at F_locals_f
        refine OEnds.go (t' := T12.setTop (mkF m 139 #[.val (.int p1), .val (.int p2), .val (.int (1 : Int32)), .val (.int z), .val (.ref f), .val (.int ((1 : Int32) &&& (1 : Int32))), .val (.int (1 : Int32)), .val (.int (2 : Int32))] [(.int (1 : Int32)), (.int (1 : Int32)), (.int ((1 : Int32) &&& (1 : Int32)))])) (fun _ k => ?_) ?_
        · show Steps p.tables e below (T12.setTop (mkF m 132 #[.val (.int p1), .val (.int p2), .val (.int (1 : Int32)), .val (.int z), .val (.ref f), .val (.int ((1 : Int32) &&& (1 : Int32))), .val (.int (1 : Int32)), .unset] [(.int (2 : Int32))])) _
          refine XS.istore X12.here hx rfl (hb hby at_132) rfl (l' := #[.val (.int p1), .val (.int p2), .val (.int (1 : Int32)), .val (.int z), .val (.ref f), .val (.int ((1 : Int32) &&& (1 : Int32))), .val (.int (1 : Int32)), .val (.int (2 : Int32))]) rfl ?_
          show Steps p.tables e below (T12.setTop (mkF m 134 #[.val (.int p1), .val (.int p2), .val (.int (1 : Int32)), .val (.int z), .val (.ref f), .val (.int ((1 : Int32) &&& (1 : Int32))), .val (.int (1 : Int32)), .val (.int (2 : Int32))] [])) _
          refine XS.iload X12.here hx rfl (hb hby at_134) rfl ?_
          show Steps p.tables e below (T12.setTop (mkF m 136 #[.val (.int p1), .val (.int p2), .val (.int (1 : Int32)), .val (.int z), .val (.ref f), .val (.int ((1 : Int32) &&& (1 : Int32))), .val (.int (1 : Int32)), .val (.int (2 : Int32))] [(.int ((1 : Int32) &&& (1 : Int32)))])) _
          refine XS.iload X12.here hx rfl (hb hby at_136) rfl ?_
          show Steps p.tables e below (T12.setTop (mkF m 138 #[.val (.int p1), .val (.int p2), .val (.int (1 : Int32)), .val (.int z), .val (.ref f), .val (.int ((1 : Int32) &&& (1 : Int32))), .val (.int (1 : Int32)), .val (.int (2 : Int32))] [(.int (1 : Int32)), (.int ((1 : Int32) &&& (1 : Int32)))])) _
          refine XS.iloadN X12.here hx rfl (hb hby at_138) rfl ?_
          show Steps p.tables e below (T12.setTop (mkF m 139 #[.val (.int p1), .val (.int p2), .val (.int (1 : Int32)), .val (.int z), .val (.ref f), .val (.int ((1 : Int32) &&& (1 : Int32))), .val (.int (1 : Int32)), .val (.int (2 : Int32))] [(.int (1 : Int32)), (.int (1 : Int32)), (.int ((1 : Int32) &&& (1 : Int32)))])) _
          exact k
        refine OEnds.go (t' := T12.setTop (mkF m 142 #[.val (.int p1), .val (.int p2), .val (.int (1 : Int32)), .val (.int z), .val (.ref f), .val (.int ((1 : Int32) &&& (1 : Int32))), .val (.int (1 : Int32)), .val (.int (2 : Int32))] [(.int ((1 : Int32) &&& (1 : Int32)))])) (fun _ k => XS.icmpNo X12.here hx rfl (hb hby at_139) rfl (teq (by decide)).2 k) ?_
        refine OEnds.go (t' := T12.setTop (mkF m 157 #[.val (.int p1), .val (.int p2), .val (.int (1 : Int32)), .val (.int z), .val (.ref f), .val (.int (((1 : Int32) &&& (1 : Int32)) &&& (1 : Int32))), .val (.int (1 : Int32)), .val (.int (2 : Int32))] [(.int ((1 : Int32) + (1 : Int32))), (.int (2 : Int32)), (.int (((1 : Int32) &&& (1 : Int32)) &&& (1 : Int32)))])) (fun _ k => ?_) ?_
        · show Steps p.tables e below (T12.setTop (mkF m 142 #[.val (.int p1), .val (.int p2), .val (.int (1 : Int32)), .val (.int z), .val (.ref f), .val (.int ((1 : Int32) &&& (1 : Int32))), .val (.int (1 : Int32)), .val (.int (2 : Int32))] [(.int ((1 : Int32) &&& (1 : Int32)))])) _
          refine XS.iconst X12.here hx rfl (hb hby at_142) ?_
          show Steps p.tables e below (T12.setTop (mkF m 143 #[.val (.int p1), .val (.int p2), .val (.int (1 : Int32)), .val (.int z), .val (.ref f), .val (.int ((1 : Int32) &&& (1 : Int32))), .val (.int (1 : Int32)), .val (.int (2 : Int32))] [(.int (1 : Int32)), (.int ((1 : Int32) &&& (1 : Int32)))])) _
          refine XS.goto X12.here hx rfl (pc0 := 143) (pc' := 147) rfl (hb hby at_143) (by decide) (by decide) ?_
          show Steps p.tables e below (T12.setTop (mkF m 147 #[.val (.int p1), .val (.int p2), .val (.int (1 : Int32)), .val (.int z), .val (.ref f), .val (.int ((1 : Int32) &&& (1 : Int32))), .val (.int (1 : Int32)), .val (.int (2 : Int32))] [(.int (1 : Int32)), (.int ((1 : Int32) &&& (1 : Int32)))])) _
          refine XS.iand X12.here hx rfl (hb hby at_147) rfl ?_
          show Steps p.tables e below (T12.setTop (mkF m 148 #[.val (.int p1), .val (.int p2), .val (.int (1 : Int32)), .val (.int z), .val (.ref f), .val (.int ((1 : Int32) &&& (1 : Int32))), .val (.int (1 : Int32)), .val (.int (2 : Int32))] [(.int (((1 : Int32) &&& (1 : Int32)) &&& (1 : Int32)))])) _
          refine XS.istore X12.here hx rfl (hb hby at_148) rfl (l' := #[.val (.int p1), .val (.int p2), .val (.int (1 : Int32)), .val (.int z), .val (.ref f), .val (.int (((1 : Int32) &&& (1 : Int32)) &&& (1 : Int32))), .val (.int (1 : Int32)), .val (.int (2 : Int32))]) rfl ?_
          show Steps p.tables e below (T12.setTop (mkF m 150 #[.val (.int p1), .val (.int p2), .val (.int (1 : Int32)), .val (.int z), .val (.ref f), .val (.int (((1 : Int32) &&& (1 : Int32)) &&& (1 : Int32))), .val (.int (1 : Int32)), .val (.int (2 : Int32))] [])) _
          refine XS.iload X12.here hx rfl (hb hby at_150) rfl ?_
          show Steps p.tables e below (T12.setTop (mkF m 152 #[.val (.int p1), .val (.int p2), .val (.int (1 : Int32)), .val (.int z), .val (.ref f), .val (.int (((1 : Int32) &&& (1 : Int32)) &&& (1 : Int32))), .val (.int (1 : Int32)), .val (.int (2 : Int32))] [(.int (((1 : Int32) &&& (1 : Int32)) &&& (1 : Int32)))])) _
          refine XS.iload X12.here hx rfl (hb hby at_152) rfl ?_
          show Steps p.tables e below (T12.setTop (mkF m 154 #[.val (.int p1), .val (.int p2), .val (.int (1 : Int32)), .val (.int z), .val (.ref f), .val (.int (((1 : Int32) &&& (1 : Int32)) &&& (1 : Int32))), .val (.int (1 : Int32)), .val (.int (2 : Int32))] [(.int (2 : Int32)), (.int (((1 : Int32) &&& (1 : Int32)) &&& (1 : Int32)))])) _
          refine XS.iloadN X12.here hx rfl (hb hby at_154) rfl ?_
          show Steps p.tables e below (T12.setTop (mkF m 155 #[.val (.int p1), .val (.int p2), .val (.int (1 : Int32)), .val (.int z), .val (.ref f), .val (.int (((1 : Int32) &&& (1 : Int32)) &&& (1 : Int32))), .val (.int (1 : Int32)), .val (.int (2 : Int32))] [(.int (1 : Int32)), (.int (2 : Int32)), (.int (((1 : Int32) &&& (1 : Int32)) &&& (1 : Int32)))])) _
          refine XS.iconst X12.here hx rfl (hb hby at_155) ?_
          show Steps p.tables e below (T12.setTop (mkF m 156 #[.val (.int p1), .val (.int p2), .val (.int (1 : Int32)), .val (.int z), .val (.ref f), .val (.int (((1 : Int32) &&& (1 : Int32)) &&& (1 : Int32))), .val (.int (1 : Int32)), .val (.int (2 : Int32))] [(.int (1 : Int32)), (.int (1 : Int32)), (.int (2 : Int32)), (.int (((1 : Int32) &&& (1 : Int32)) &&& (1 : Int32)))])) _
          refine XS.iadd X12.here hx rfl (hb hby at_156) rfl ?_
          show Steps p.tables e below (T12.setTop (mkF m 157 #[.val (.int p1), .val (.int p2), .val (.int (1 : Int32)), .val (.int z), .val (.ref f), .val (.int (((1 : Int32) &&& (1 : Int32)) &&& (1 : Int32))), .val (.int (1 : Int32)), .val (.int (2 : Int32))] [(.int ((1 : Int32) + (1 : Int32))), (.int (2 : Int32)), (.int (((1 : Int32) &&& (1 : Int32)) &&& (1 : Int32)))])) _
          exact k
        refine OEnds.go (t' := T12.setTop (mkF m 160 #[.val (.int p1), .val (.int p2), .val (.int (1 : Int32)), .val (.int z), .val (.ref f), .val (.int (((1 : Int32) &&& (1 : Int32)) &&& (1 : Int32))), .val (.int (1 : Int32)), .val (.int (2 : Int32))] [(.int (((1 : Int32) &&& (1 : Int32)) &&& (1 : Int32)))])) (fun _ k => XS.icmpNo X12.here hx rfl (hb hby at_157) rfl (teq (by decide)).2 k) ?_
        refine OEnds.go (t' := T12.setTop (mkF m 174 #[.val (.int p1), .val (.int p2), .val (.int (1 : Int32)), .val (.int z), .val (.ref f), .val (.int ((((1 : Int32) &&& (1 : Int32)) &&& (1 : Int32)) &&& (1 : Int32))), .val (.int (1 : Int32)), .val (.int (2 : Int32))] [(.int (1 : Int32)), (.ref f), (.int ((((1 : Int32) &&& (1 : Int32)) &&& (1 : Int32)) &&& (1 : Int32)))])) (fun _ k => ?_) ?_
        · show Steps p.tables e below (T12.setTop (mkF m 160 #[.val (.int p1), .val (.int p2), .val (.int (1 : Int32)), .val (.int z), .val (.ref f), .val (.int (((1 : Int32) &&& (1 : Int32)) &&& (1 : Int32))), .val (.int (1 : Int32)), .val (.int (2 : Int32))] [(.int (((1 : Int32) &&& (1 : Int32)) &&& (1 : Int32)))])) _
          refine XS.iconst X12.here hx rfl (hb hby at_160) ?_
          show Steps p.tables e below (T12.setTop (mkF m 161 #[.val (.int p1), .val (.int p2), .val (.int (1 : Int32)), .val (.int z), .val (.ref f), .val (.int (((1 : Int32) &&& (1 : Int32)) &&& (1 : Int32))), .val (.int (1 : Int32)), .val (.int (2 : Int32))] [(.int (1 : Int32)), (.int (((1 : Int32) &&& (1 : Int32)) &&& (1 : Int32)))])) _
          refine XS.goto X12.here hx rfl (pc0 := 161) (pc' := 165) rfl (hb hby at_161) (by decide) (by decide) ?_
          show Steps p.tables e below (T12.setTop (mkF m 165 #[.val (.int p1), .val (.int p2), .val (.int (1 : Int32)), .val (.int z), .val (.ref f), .val (.int (((1 : Int32) &&& (1 : Int32)) &&& (1 : Int32))), .val (.int (1 : Int32)), .val (.int (2 : Int32))] [(.int (1 : Int32)), (.int (((1 : Int32) &&& (1 : Int32)) &&& (1 : Int32)))])) _
          refine XS.iand X12.here hx rfl (hb hby at_165) rfl ?_
          show Steps p.tables e below (T12.setTop (mkF m 166 #[.val (.int p1), .val (.int p2), .val (.int (1 : Int32)), .val (.int z), .val (.ref f), .val (.int (((1 : Int32) &&& (1 : Int32)) &&& (1 : Int32))), .val (.int (1 : Int32)), .val (.int (2 : Int32))] [(.int ((((1 : Int32) &&& (1 : Int32)) &&& (1 : Int32)) &&& (1 : Int32)))])) _
          refine XS.istore X12.here hx rfl (hb hby at_166) rfl (l' := #[.val (.int p1), .val (.int p2), .val (.int (1 : Int32)), .val (.int z), .val (.ref f), .val (.int ((((1 : Int32) &&& (1 : Int32)) &&& (1 : Int32)) &&& (1 : Int32))), .val (.int (1 : Int32)), .val (.int (2 : Int32))]) rfl ?_
          show Steps p.tables e below (T12.setTop (mkF m 168 #[.val (.int p1), .val (.int p2), .val (.int (1 : Int32)), .val (.int z), .val (.ref f), .val (.int ((((1 : Int32) &&& (1 : Int32)) &&& (1 : Int32)) &&& (1 : Int32))), .val (.int (1 : Int32)), .val (.int (2 : Int32))] [])) _
          refine XS.iload X12.here hx rfl (hb hby at_168) rfl ?_
          show Steps p.tables e below (T12.setTop (mkF m 170 #[.val (.int p1), .val (.int p2), .val (.int (1 : Int32)), .val (.int z), .val (.ref f), .val (.int ((((1 : Int32) &&& (1 : Int32)) &&& (1 : Int32)) &&& (1 : Int32))), .val (.int (1 : Int32)), .val (.int (2 : Int32))] [(.int ((((1 : Int32) &&& (1 : Int32)) &&& (1 : Int32)) &&& (1 : Int32)))])) _
          refine XS.aload X12.here hx rfl (hb hby at_170) rfl rfl ?_
          show Steps p.tables e below (T12.setTop (mkF m 172 #[.val (.int p1), .val (.int p2), .val (.int (1 : Int32)), .val (.int z), .val (.ref f), .val (.int ((((1 : Int32) &&& (1 : Int32)) &&& (1 : Int32)) &&& (1 : Int32))), .val (.int (1 : Int32)), .val (.int (2 : Int32))] [(.ref f), (.int ((((1 : Int32) &&& (1 : Int32)) &&& (1 : Int32)) &&& (1 : Int32)))])) _
          refine XS.iload X12.here hx rfl (hb hby at_172) rfl ?_
          show Steps p.tables e below (T12.setTop (mkF m 174 #[.val (.int p1), .val (.int p2), .val (.int (1 : Int32)), .val (.int z), .val (.ref f), .val (.int ((((1 : Int32) &&& (1 : Int32)) &&& (1 : Int32)) &&& (1 : Int32))), .val (.int (1 : Int32)), .val (.int (2 : Int32))] [(.int (1 : Int32)), (.ref f), (.int ((((1 : Int32) &&& (1 : Int32)) &&& (1 : Int32)) &&& (1 : Int32)))])) _
          exact k
        obtain ⟨cq13, kq13, q13a, q13b, q13c⟩ := isOf hZ rfl E_f
        obtain ⟨_, _, ⟨T13, L13, k13, n13⟩, -, X13, ⟨Lc13, hQ13, l13, y13, z13⟩, st13⟩ := X12.virtualBack hx (y := (⟨"com/example/typewright/typewright/Flow", "isAssigned", "(I)Z"⟩ : MethodName)) (z := (⟨"com/example/typewright/typewright/Flow", "isAssigned", "(I)Z"⟩ : MethodName)) hown (mvT hZ (hw _ (List.mem_of_getElem? (i := 64) rfl))) (mvT hZ (hw _ (List.mem_of_getElem? (i := 65) rfl))) (notFace_of_selects (args := #[]) (mvT hZ (hw _ (List.mem_of_getElem? (i := 67) rfl)))) (mvT hZ (hw _ (List.mem_of_getElem? (i := 67) rfl))) (mvT hZ (hw _ (List.mem_of_getElem? (i := 66) rfl))) (by decide) (backOf (W := 1) (rm11 l Z a0 hw [] f (1 : Int32) qs qw qk u w T12.heap n0 Z12 (S_A.ext hzt.2) F_assigned_f (by decide) (by decide) B_q) hZ (hw _ (List.mem_of_getElem? (i := 68) rfl)) (hw _ (List.mem_of_getElem? (i := 2) rfl)) (by decide) (by decide)) q13a q13c (g := (mkF m 174 #[.val (.int p1), .val (.int p2), .val (.int (1 : Int32)), .val (.int z), .val (.ref f), .val (.int ((((1 : Int32) &&& (1 : Int32)) &&& (1 : Int32)) &&& (1 : Int32))), .val (.int (1 : Int32)), .val (.int (2 : Int32))] [(.int (1 : Int32)), (.ref f), (.int ((((1 : Int32) &&& (1 : Int32)) &&& (1 : Int32)) &&& (1 : Int32)))])) rfl (by rw [hml]; rfl) (Steps.refl _) (argsL := [(.int (1 : Int32))]) (rest := [(.int ((((1 : Int32) &&& (1 : Int32)) &&& (1 : Int32)) &&& (1 : Int32)))]) (lenOf pd_rm0_2 rfl) rfl (by show 2 * 0 + _ ≤ _; exact Nat.le_of_eq rfl) (hb hby at_174) (fun _ _ => ⟨rfl, rfl, (by decide : 5 + 0 ≤ _), (by decide : 11 + 0 ≤ _)⟩)
        dsimp only [Pt.U, Pt.locs, Pt.cells, Pt.slots] at X13 l13 y13 z13 st13 hQ13
        subst l13 y13 z13
        obtain ⟨rfl, N13q, eh⟩ := hQ13
        have N13 := Fr.app N12 N13q
        have eh13 := eh
        refine OEnds.go (t' := T13.setTop (mkF m 177 #[.val (.int p1), .val (.int p2), .val (.int (1 : Int32)), .val (.int z), .val (.ref f), .val (.int ((((1 : Int32) &&& (1 : Int32)) &&& (1 : Int32)) &&& (1 : Int32))), .val (.int (1 : Int32)), .val (.int (2 : Int32))] [(.int (own_get u w (1 : Int32))), (.int ((((1 : Int32) &&& (1 : Int32)) &&& (1 : Int32)) &&& (1 : Int32)))])) (fun _ k => st13.trans k) ?_
        refine OEnds.go (t' := T13.setTop (mkF m 180 #[.val (.int p1), .val (.int p2), .val (.int (1 : Int32)), .val (.int z), .val (.ref f), .val (.int ((((1 : Int32) &&& (1 : Int32)) &&& (1 : Int32)) &&& (1 : Int32))), .val (.int (1 : Int32)), .val (.int (2 : Int32))] [(.int ((((1 : Int32) &&& (1 : Int32)) &&& (1 : Int32)) &&& (1 : Int32)))])) (fun _ k => XS.ifNo X13.here hx rfl (hb hby at_177) rfl ((if0 _ _).trans (teq hA).2) k) ?_
        refine OEnds.go (t' := T13.setTop (mkF m 194 #[.val (.int p1), .val (.int p2), .val (.int (1 : Int32)), .val (.int z), .val (.ref f), .val (.int (((((1 : Int32) &&& (1 : Int32)) &&& (1 : Int32)) &&& (1 : Int32)) &&& (1 : Int32))), .val (.int (1 : Int32)), .val (.int (2 : Int32))] [(.int (2 : Int32)), (.ref f), (.int (((((1 : Int32) &&& (1 : Int32)) &&& (1 : Int32)) &&& (1 : Int32)) &&& (1 : Int32)))])) (fun _ k => ?_) ?_
        · show Steps p.tables e below (T13.setTop (mkF m 180 #[.val (.int p1), .val (.int p2), .val (.int (1 : Int32)), .val (.int z), .val (.ref f), .val (.int ((((1 : Int32) &&& (1 : Int32)) &&& (1 : Int32)) &&& (1 : Int32))), .val (.int (1 : Int32)), .val (.int (2 : Int32))] [(.int ((((1 : Int32) &&& (1 : Int32)) &&& (1 : Int32)) &&& (1 : Int32)))])) _
          refine XS.iconst X13.here hx rfl (hb hby at_180) ?_
          show Steps p.tables e below (T13.setTop (mkF m 181 #[.val (.int p1), .val (.int p2), .val (.int (1 : Int32)), .val (.int z), .val (.ref f), .val (.int ((((1 : Int32) &&& (1 : Int32)) &&& (1 : Int32)) &&& (1 : Int32))), .val (.int (1 : Int32)), .val (.int (2 : Int32))] [(.int (1 : Int32)), (.int ((((1 : Int32) &&& (1 : Int32)) &&& (1 : Int32)) &&& (1 : Int32)))])) _
          refine XS.goto X13.here hx rfl (pc0 := 181) (pc' := 185) rfl (hb hby at_181) (by decide) (by decide) ?_
          show Steps p.tables e below (T13.setTop (mkF m 185 #[.val (.int p1), .val (.int p2), .val (.int (1 : Int32)), .val (.int z), .val (.ref f), .val (.int ((((1 : Int32) &&& (1 : Int32)) &&& (1 : Int32)) &&& (1 : Int32))), .val (.int (1 : Int32)), .val (.int (2 : Int32))] [(.int (1 : Int32)), (.int ((((1 : Int32) &&& (1 : Int32)) &&& (1 : Int32)) &&& (1 : Int32)))])) _
          refine XS.iand X13.here hx rfl (hb hby at_185) rfl ?_
          show Steps p.tables e below (T13.setTop (mkF m 186 #[.val (.int p1), .val (.int p2), .val (.int (1 : Int32)), .val (.int z), .val (.ref f), .val (.int ((((1 : Int32) &&& (1 : Int32)) &&& (1 : Int32)) &&& (1 : Int32))), .val (.int (1 : Int32)), .val (.int (2 : Int32))] [(.int (((((1 : Int32) &&& (1 : Int32)) &&& (1 : Int32)) &&& (1 : Int32)) &&& (1 : Int32)))])) _
          refine XS.istore X13.here hx rfl (hb hby at_186) rfl (l' := #[.val (.int p1), .val (.int p2), .val (.int (1 : Int32)), .val (.int z), .val (.ref f), .val (.int (((((1 : Int32) &&& (1 : Int32)) &&& (1 : Int32)) &&& (1 : Int32)) &&& (1 : Int32))), .val (.int (1 : Int32)), .val (.int (2 : Int32))]) rfl ?_
          show Steps p.tables e below (T13.setTop (mkF m 188 #[.val (.int p1), .val (.int p2), .val (.int (1 : Int32)), .val (.int z), .val (.ref f), .val (.int (((((1 : Int32) &&& (1 : Int32)) &&& (1 : Int32)) &&& (1 : Int32)) &&& (1 : Int32))), .val (.int (1 : Int32)), .val (.int (2 : Int32))] [])) _
          refine XS.iload X13.here hx rfl (hb hby at_188) rfl ?_
          show Steps p.tables e below (T13.setTop (mkF m 190 #[.val (.int p1), .val (.int p2), .val (.int (1 : Int32)), .val (.int z), .val (.ref f), .val (.int (((((1 : Int32) &&& (1 : Int32)) &&& (1 : Int32)) &&& (1 : Int32)) &&& (1 : Int32))), .val (.int (1 : Int32)), .val (.int (2 : Int32))] [(.int (((((1 : Int32) &&& (1 : Int32)) &&& (1 : Int32)) &&& (1 : Int32)) &&& (1 : Int32)))])) _
          refine XS.aload X13.here hx rfl (hb hby at_190) rfl rfl ?_
          show Steps p.tables e below (T13.setTop (mkF m 192 #[.val (.int p1), .val (.int p2), .val (.int (1 : Int32)), .val (.int z), .val (.ref f), .val (.int (((((1 : Int32) &&& (1 : Int32)) &&& (1 : Int32)) &&& (1 : Int32)) &&& (1 : Int32))), .val (.int (1 : Int32)), .val (.int (2 : Int32))] [(.ref f), (.int (((((1 : Int32) &&& (1 : Int32)) &&& (1 : Int32)) &&& (1 : Int32)) &&& (1 : Int32)))])) _
          refine XS.iload X13.here hx rfl (hb hby at_192) rfl ?_
          show Steps p.tables e below (T13.setTop (mkF m 194 #[.val (.int p1), .val (.int p2), .val (.int (1 : Int32)), .val (.int z), .val (.ref f), .val (.int (((((1 : Int32) &&& (1 : Int32)) &&& (1 : Int32)) &&& (1 : Int32)) &&& (1 : Int32))), .val (.int (1 : Int32)), .val (.int (2 : Int32))] [(.int (2 : Int32)), (.ref f), (.int (((((1 : Int32) &&& (1 : Int32)) &&& (1 : Int32)) &&& (1 : Int32)) &&& (1 : Int32)))])) _
          exact k
        obtain ⟨cq14, kq14, q14a, q14b, q14c⟩ := isOf hZ eh13 E_f
        obtain ⟨_, _, ⟨T14, L14, k14, n14⟩, -, X14, ⟨Lc14, hQ14, l14, y14, z14⟩, st14⟩ := X13.virtualBack hx (y := (⟨"com/example/typewright/typewright/Flow", "isAssigned", "(I)Z"⟩ : MethodName)) (z := (⟨"com/example/typewright/typewright/Flow", "isAssigned", "(I)Z"⟩ : MethodName)) hown (mvT hZ (hw _ (List.mem_of_getElem? (i := 64) rfl))) (mvT hZ (hw _ (List.mem_of_getElem? (i := 65) rfl))) (notFace_of_selects (args := #[]) (mvT hZ (hw _ (List.mem_of_getElem? (i := 67) rfl)))) (mvT hZ (hw _ (List.mem_of_getElem? (i := 67) rfl))) (mvT hZ (hw _ (List.mem_of_getElem? (i := 66) rfl))) (by decide) (backOf (W := 1) (rm11 l Z a0 hw [] f (2 : Int32) qs qw qk u w T12.heap n0 Z12 (S_A.ext hzt.2) F_assigned_f (by decide) (by decide) B_q) hZ (hw _ (List.mem_of_getElem? (i := 68) rfl)) (hw _ (List.mem_of_getElem? (i := 2) rfl)) (by decide) (by decide)) q14a q14c (g := (mkF m 194 #[.val (.int p1), .val (.int p2), .val (.int (1 : Int32)), .val (.int z), .val (.ref f), .val (.int (((((1 : Int32) &&& (1 : Int32)) &&& (1 : Int32)) &&& (1 : Int32)) &&& (1 : Int32))), .val (.int (1 : Int32)), .val (.int (2 : Int32))] [(.int (2 : Int32)), (.ref f), (.int (((((1 : Int32) &&& (1 : Int32)) &&& (1 : Int32)) &&& (1 : Int32)) &&& (1 : Int32)))])) rfl (by rw [hml]; rfl) (Steps.refl _) (argsL := [(.int (2 : Int32))]) (rest := [(.int (((((1 : Int32) &&& (1 : Int32)) &&& (1 : Int32)) &&& (1 : Int32)) &&& (1 : Int32)))]) (lenOf pd_rm0_2 rfl) rfl (by show 2 * 0 + _ ≤ _; exact Nat.le_of_eq rfl) (hb hby at_194) (fun _ _ => ⟨rfl, eh13, (by decide : 5 + 0 ≤ _), (by decide : 11 + 0 ≤ _)⟩)
        dsimp only [Pt.U, Pt.locs, Pt.cells, Pt.slots] at X14 l14 y14 z14 st14 hQ14
        subst l14 y14 z14
        obtain ⟨rfl, N14q, eh⟩ := hQ14
        have N14 := Fr.app N13 N14q
        have eh14 := eh
        refine OEnds.go (t' := T14.setTop (mkF m 197 #[.val (.int p1), .val (.int p2), .val (.int (1 : Int32)), .val (.int z), .val (.ref f), .val (.int (((((1 : Int32) &&& (1 : Int32)) &&& (1 : Int32)) &&& (1 : Int32)) &&& (1 : Int32))), .val (.int (1 : Int32)), .val (.int (2 : Int32))] [(.int (own_get u w (2 : Int32))), (.int (((((1 : Int32) &&& (1 : Int32)) &&& (1 : Int32)) &&& (1 : Int32)) &&& (1 : Int32)))])) (fun _ k => st14.trans k) ?_
        refine OEnds.go (t' := T14.setTop (mkF m 200 #[.val (.int p1), .val (.int p2), .val (.int (1 : Int32)), .val (.int z), .val (.ref f), .val (.int (((((1 : Int32) &&& (1 : Int32)) &&& (1 : Int32)) &&& (1 : Int32)) &&& (1 : Int32))), .val (.int (1 : Int32)), .val (.int (2 : Int32))] [(.int (((((1 : Int32) &&& (1 : Int32)) &&& (1 : Int32)) &&& (1 : Int32)) &&& (1 : Int32)))])) (fun _ k => XS.ifNo X14.here hx rfl (hb hby at_197) rfl ((if0 _ _).trans (teq hB).2) k) ?_
        refine OEnds.go (t' := T14.setTop (mkF m 210 #[.val (.int p1), .val (.int p2), .val (.int (1 : Int32)), .val (.int z), .val (.ref f), .val (.int ((((((1 : Int32) &&& (1 : Int32)) &&& (1 : Int32)) &&& (1 : Int32)) &&& (1 : Int32)) &&& (1 : Int32))), .val (.int (1 : Int32)), .val (.int (2 : Int32))] [(.int (1 : Int32)), (.int (1 : Int32))])) (fun _ k => ?_) ?_
        · show Steps p.tables e below (T14.setTop (mkF m 200 #[.val (.int p1), .val (.int p2), .val (.int (1 : Int32)), .val (.int z), .val (.ref f), .val (.int (((((1 : Int32) &&& (1 : Int32)) &&& (1 : Int32)) &&& (1 : Int32)) &&& (1 : Int32))), .val (.int (1 : Int32)), .val (.int (2 : Int32))] [(.int (((((1 : Int32) &&& (1 : Int32)) &&& (1 : Int32)) &&& (1 : Int32)) &&& (1 : Int32)))])) _
          refine XS.iconst X14.here hx rfl (hb hby at_200) ?_
          show Steps p.tables e below (T14.setTop (mkF m 201 #[.val (.int p1), .val (.int p2), .val (.int (1 : Int32)), .val (.int z), .val (.ref f), .val (.int (((((1 : Int32) &&& (1 : Int32)) &&& (1 : Int32)) &&& (1 : Int32)) &&& (1 : Int32))), .val (.int (1 : Int32)), .val (.int (2 : Int32))] [(.int (1 : Int32)), (.int (((((1 : Int32) &&& (1 : Int32)) &&& (1 : Int32)) &&& (1 : Int32)) &&& (1 : Int32)))])) _
          refine XS.goto X14.here hx rfl (pc0 := 201) (pc' := 205) rfl (hb hby at_201) (by decide) (by decide) ?_
          show Steps p.tables e below (T14.setTop (mkF m 205 #[.val (.int p1), .val (.int p2), .val (.int (1 : Int32)), .val (.int z), .val (.ref f), .val (.int (((((1 : Int32) &&& (1 : Int32)) &&& (1 : Int32)) &&& (1 : Int32)) &&& (1 : Int32))), .val (.int (1 : Int32)), .val (.int (2 : Int32))] [(.int (1 : Int32)), (.int (((((1 : Int32) &&& (1 : Int32)) &&& (1 : Int32)) &&& (1 : Int32)) &&& (1 : Int32)))])) _
          refine XS.iand X14.here hx rfl (hb hby at_205) rfl ?_
          show Steps p.tables e below (T14.setTop (mkF m 206 #[.val (.int p1), .val (.int p2), .val (.int (1 : Int32)), .val (.int z), .val (.ref f), .val (.int (((((1 : Int32) &&& (1 : Int32)) &&& (1 : Int32)) &&& (1 : Int32)) &&& (1 : Int32))), .val (.int (1 : Int32)), .val (.int (2 : Int32))] [(.int ((((((1 : Int32) &&& (1 : Int32)) &&& (1 : Int32)) &&& (1 : Int32)) &&& (1 : Int32)) &&& (1 : Int32)))])) _
          refine XS.istore X14.here hx rfl (hb hby at_206) rfl (l' := #[.val (.int p1), .val (.int p2), .val (.int (1 : Int32)), .val (.int z), .val (.ref f), .val (.int ((((((1 : Int32) &&& (1 : Int32)) &&& (1 : Int32)) &&& (1 : Int32)) &&& (1 : Int32)) &&& (1 : Int32))), .val (.int (1 : Int32)), .val (.int (2 : Int32))]) rfl ?_
          show Steps p.tables e below (T14.setTop (mkF m 208 #[.val (.int p1), .val (.int p2), .val (.int (1 : Int32)), .val (.int z), .val (.ref f), .val (.int ((((((1 : Int32) &&& (1 : Int32)) &&& (1 : Int32)) &&& (1 : Int32)) &&& (1 : Int32)) &&& (1 : Int32))), .val (.int (1 : Int32)), .val (.int (2 : Int32))] [])) _
          refine XS.iloadN X14.here hx rfl (hb hby at_208) rfl ?_
          show Steps p.tables e below (T14.setTop (mkF m 209 #[.val (.int p1), .val (.int p2), .val (.int (1 : Int32)), .val (.int z), .val (.ref f), .val (.int ((((((1 : Int32) &&& (1 : Int32)) &&& (1 : Int32)) &&& (1 : Int32)) &&& (1 : Int32)) &&& (1 : Int32))), .val (.int (1 : Int32)), .val (.int (2 : Int32))] [(.int (1 : Int32))])) _
          refine XS.iconst X14.here hx rfl (hb hby at_209) ?_
          show Steps p.tables e below (T14.setTop (mkF m 210 #[.val (.int p1), .val (.int p2), .val (.int (1 : Int32)), .val (.int z), .val (.ref f), .val (.int ((((((1 : Int32) &&& (1 : Int32)) &&& (1 : Int32)) &&& (1 : Int32)) &&& (1 : Int32)) &&& (1 : Int32))), .val (.int (1 : Int32)), .val (.int (2 : Int32))] [(.int (1 : Int32)), (.int (1 : Int32))])) _
          exact k
        refine OEnds.go (t' := T14.setTop (mkF m 213 #[.val (.int p1), .val (.int p2), .val (.int (1 : Int32)), .val (.int z), .val (.ref f), .val (.int ((((((1 : Int32) &&& (1 : Int32)) &&& (1 : Int32)) &&& (1 : Int32)) &&& (1 : Int32)) &&& (1 : Int32))), .val (.int (1 : Int32)), .val (.int (2 : Int32))] [])) (fun _ k => XS.icmpNo X14.here hx rfl (hb hby at_210) rfl (flt (by decide)).1 k) ?_
        refine OEnds.go (t' := T14.setTop (mkF m 218 #[.val (.int p1), .val (.int p2), .val (.int (1 : Int32)), .val (.int z), .val (.ref f), .val (.int ((((((1 : Int32) &&& (1 : Int32)) &&& (1 : Int32)) &&& (1 : Int32)) &&& (1 : Int32)) &&& (1 : Int32))), .val (.int (1 : Int32)), .val (.int (2 : Int32))] [(.int (0 : Int32)), (.ref f), (.int ((((((1 : Int32) &&& (1 : Int32)) &&& (1 : Int32)) &&& (1 : Int32)) &&& (1 : Int32)) &&& (1 : Int32)))])) (fun _ k => ?_) ?_
        · show Steps p.tables e below (T14.setTop (mkF m 213 #[.val (.int p1), .val (.int p2), .val (.int (1 : Int32)), .val (.int z), .val (.ref f), .val (.int ((((((1 : Int32) &&& (1 : Int32)) &&& (1 : Int32)) &&& (1 : Int32)) &&& (1 : Int32)) &&& (1 : Int32))), .val (.int (1 : Int32)), .val (.int (2 : Int32))] [])) _
          refine XS.iload X14.here hx rfl (hb hby at_213) rfl ?_
          show Steps p.tables e below (T14.setTop (mkF m 215 #[.val (.int p1), .val (.int p2), .val (.int (1 : Int32)), .val (.int z), .val (.ref f), .val (.int ((((((1 : Int32) &&& (1 : Int32)) &&& (1 : Int32)) &&& (1 : Int32)) &&& (1 : Int32)) &&& (1 : Int32))), .val (.int (1 : Int32)), .val (.int (2 : Int32))] [(.int ((((((1 : Int32) &&& (1 : Int32)) &&& (1 : Int32)) &&& (1 : Int32)) &&& (1 : Int32)) &&& (1 : Int32)))])) _
          refine XS.aload X14.here hx rfl (hb hby at_215) rfl rfl ?_
          show Steps p.tables e below (T14.setTop (mkF m 217 #[.val (.int p1), .val (.int p2), .val (.int (1 : Int32)), .val (.int z), .val (.ref f), .val (.int ((((((1 : Int32) &&& (1 : Int32)) &&& (1 : Int32)) &&& (1 : Int32)) &&& (1 : Int32)) &&& (1 : Int32))), .val (.int (1 : Int32)), .val (.int (2 : Int32))] [(.ref f), (.int ((((((1 : Int32) &&& (1 : Int32)) &&& (1 : Int32)) &&& (1 : Int32)) &&& (1 : Int32)) &&& (1 : Int32)))])) _
          refine XS.iconst X14.here hx rfl (hb hby at_217) ?_
          show Steps p.tables e below (T14.setTop (mkF m 218 #[.val (.int p1), .val (.int p2), .val (.int (1 : Int32)), .val (.int z), .val (.ref f), .val (.int ((((((1 : Int32) &&& (1 : Int32)) &&& (1 : Int32)) &&& (1 : Int32)) &&& (1 : Int32)) &&& (1 : Int32))), .val (.int (1 : Int32)), .val (.int (2 : Int32))] [(.int (0 : Int32)), (.ref f), (.int ((((((1 : Int32) &&& (1 : Int32)) &&& (1 : Int32)) &&& (1 : Int32)) &&& (1 : Int32)) &&& (1 : Int32)))])) _
          exact k
        obtain ⟨cq15, kq15, q15a, q15b, q15c⟩ := isOf hZ eh14 E_f
        obtain ⟨_, _, ⟨T15, L15, k15, n15⟩, -, X15, ⟨Lc15, hQ15, l15, y15, z15⟩, st15⟩ := X14.virtualBack hx (y := (⟨"com/example/typewright/typewright/Flow", "isAssigned", "(I)Z"⟩ : MethodName)) (z := (⟨"com/example/typewright/typewright/Flow", "isAssigned", "(I)Z"⟩ : MethodName)) hown (mvT hZ (hw _ (List.mem_of_getElem? (i := 64) rfl))) (mvT hZ (hw _ (List.mem_of_getElem? (i := 65) rfl))) (notFace_of_selects (args := #[]) (mvT hZ (hw _ (List.mem_of_getElem? (i := 67) rfl)))) (mvT hZ (hw _ (List.mem_of_getElem? (i := 67) rfl))) (mvT hZ (hw _ (List.mem_of_getElem? (i := 66) rfl))) (by decide) (backOf (W := 1) (rm11 l Z a0 hw [] f (0 : Int32) qs qw qk u w T12.heap n0 Z12 (S_A.ext hzt.2) F_assigned_f (by decide) (by decide) B_q) hZ (hw _ (List.mem_of_getElem? (i := 68) rfl)) (hw _ (List.mem_of_getElem? (i := 2) rfl)) (by decide) (by decide)) q15a q15c (g := (mkF m 218 #[.val (.int p1), .val (.int p2), .val (.int (1 : Int32)), .val (.int z), .val (.ref f), .val (.int ((((((1 : Int32) &&& (1 : Int32)) &&& (1 : Int32)) &&& (1 : Int32)) &&& (1 : Int32)) &&& (1 : Int32))), .val (.int (1 : Int32)), .val (.int (2 : Int32))] [(.int (0 : Int32)), (.ref f), (.int ((((((1 : Int32) &&& (1 : Int32)) &&& (1 : Int32)) &&& (1 : Int32)) &&& (1 : Int32)) &&& (1 : Int32)))])) rfl (by rw [hml]; rfl) (Steps.refl _) (argsL := [(.int (0 : Int32))]) (rest := [(.int ((((((1 : Int32) &&& (1 : Int32)) &&& (1 : Int32)) &&& (1 : Int32)) &&& (1 : Int32)) &&& (1 : Int32)))]) (lenOf pd_rm0_2 rfl) rfl (by show 2 * 0 + _ ≤ _; exact Nat.le_of_eq rfl) (hb hby at_218) (fun _ _ => ⟨rfl, eh14, (by decide : 5 + 0 ≤ _), (by decide : 11 + 0 ≤ _)⟩)
        dsimp only [Pt.U, Pt.locs, Pt.cells, Pt.slots] at X15 l15 y15 z15 st15 hQ15
        subst l15 y15 z15
        obtain ⟨rfl, N15q, eh⟩ := hQ15
        have N15 := Fr.app N14 N15q
        have eh15 := eh
        refine OEnds.go (t' := T15.setTop (mkF m 221 #[.val (.int p1), .val (.int p2), .val (.int (1 : Int32)), .val (.int z), .val (.ref f), .val (.int ((((((1 : Int32) &&& (1 : Int32)) &&& (1 : Int32)) &&& (1 : Int32)) &&& (1 : Int32)) &&& (1 : Int32))), .val (.int (1 : Int32)), .val (.int (2 : Int32))] [(.int (own_get u w (0 : Int32))), (.int ((((((1 : Int32) &&& (1 : Int32)) &&& (1 : Int32)) &&& (1 : Int32)) &&& (1 : Int32)) &&& (1 : Int32)))])) (fun _ k => st15.trans k) ?_
        refine OEnds.go (t' := T15.setTop (mkF m 222 #[.val (.int p1), .val (.int p2), .val (.int (1 : Int32)), .val (.int z), .val (.ref f), .val (.int ((((((1 : Int32) &&& (1 : Int32)) &&& (1 : Int32)) &&& (1 : Int32)) &&& (1 : Int32)) &&& (1 : Int32))), .val (.int (1 : Int32)), .val (.int (2 : Int32))] [(.int z), (.int (own_get u w (0 : Int32))), (.int ((((((1 : Int32) &&& (1 : Int32)) &&& (1 : Int32)) &&& (1 : Int32)) &&& (1 : Int32)) &&& (1 : Int32)))])) (fun _ k => ?_) ?_
        · show Steps p.tables e below (T15.setTop (mkF m 221 #[.val (.int p1), .val (.int p2), .val (.int (1 : Int32)), .val (.int z), .val (.ref f), .val (.int ((((((1 : Int32) &&& (1 : Int32)) &&& (1 : Int32)) &&& (1 : Int32)) &&& (1 : Int32)) &&& (1 : Int32))), .val (.int (1 : Int32)), .val (.int (2 : Int32))] [(.int (own_get u w (0 : Int32))), (.int ((((((1 : Int32) &&& (1 : Int32)) &&& (1 : Int32)) &&& (1 : Int32)) &&& (1 : Int32)) &&& (1 : Int32)))])) _
          refine XS.iloadN X15.here hx rfl (hb hby at_221) rfl ?_
          show Steps p.tables e below (T15.setTop (mkF m 222 #[.val (.int p1), .val (.int p2), .val (.int (1 : Int32)), .val (.int z), .val (.ref f), .val (.int ((((((1 : Int32) &&& (1 : Int32)) &&& (1 : Int32)) &&& (1 : Int32)) &&& (1 : Int32)) &&& (1 : Int32))), .val (.int (1 : Int32)), .val (.int (2 : Int32))] [(.int z), (.int (own_get u w (0 : Int32))), (.int ((((((1 : Int32) &&& (1 : Int32)) &&& (1 : Int32)) &&& (1 : Int32)) &&& (1 : Int32)) &&& (1 : Int32)))])) _
          exact k
        refine OEnds.go (t' := T15.setTop (mkF m 225 #[.val (.int p1), .val (.int p2), .val (.int (1 : Int32)), .val (.int z), .val (.ref f), .val (.int ((((((1 : Int32) &&& (1 : Int32)) &&& (1 : Int32)) &&& (1 : Int32)) &&& (1 : Int32)) &&& (1 : Int32))), .val (.int (1 : Int32)), .val (.int (2 : Int32))] [(.int ((((((1 : Int32) &&& (1 : Int32)) &&& (1 : Int32)) &&& (1 : Int32)) &&& (1 : Int32)) &&& (1 : Int32)))])) (fun _ k => XS.icmpNo X15.here hx rfl (hb hby at_222) rfl (teq hC).2 k) ?_
        refine OEnds.go (t' := T15.setTop (mkF m 240 #[.val (.int p1), .val (.int p2), .val (.int (1 : Int32)), .val (.int z), .val (.ref f), .val (.int (((((((1 : Int32) &&& (1 : Int32)) &&& (1 : Int32)) &&& (1 : Int32)) &&& (1 : Int32)) &&& (1 : Int32)) &&& (1 : Int32))), .val (.int (1 : Int32)), .val (.int (2 : Int32))] [(.int ((1 : Int32) - (1 : Int32))), (.ref f), (.int (((((((1 : Int32) &&& (1 : Int32)) &&& (1 : Int32)) &&& (1 : Int32)) &&& (1 : Int32)) &&& (1 : Int32)) &&& (1 : Int32)))])) (fun _ k => ?_) ?_
        · show Steps p.tables e below (T15.setTop (mkF m 225 #[.val (.int p1), .val (.int p2), .val (.int (1 : Int32)), .val (.int z), .val (.ref f), .val (.int ((((((1 : Int32) &&& (1 : Int32)) &&& (1 : Int32)) &&& (1 : Int32)) &&& (1 : Int32)) &&& (1 : Int32))), .val (.int (1 : Int32)), .val (.int (2 : Int32))] [(.int ((((((1 : Int32) &&& (1 : Int32)) &&& (1 : Int32)) &&& (1 : Int32)) &&& (1 : Int32)) &&& (1 : Int32)))])) _
          refine XS.iconst X15.here hx rfl (hb hby at_225) ?_
          show Steps p.tables e below (T15.setTop (mkF m 226 #[.val (.int p1), .val (.int p2), .val (.int (1 : Int32)), .val (.int z), .val (.ref f), .val (.int ((((((1 : Int32) &&& (1 : Int32)) &&& (1 : Int32)) &&& (1 : Int32)) &&& (1 : Int32)) &&& (1 : Int32))), .val (.int (1 : Int32)), .val (.int (2 : Int32))] [(.int (1 : Int32)), (.int ((((((1 : Int32) &&& (1 : Int32)) &&& (1 : Int32)) &&& (1 : Int32)) &&& (1 : Int32)) &&& (1 : Int32)))])) _
          refine XS.goto X15.here hx rfl (pc0 := 226) (pc' := 230) rfl (hb hby at_226) (by decide) (by decide) ?_
          show Steps p.tables e below (T15.setTop (mkF m 230 #[.val (.int p1), .val (.int p2), .val (.int (1 : Int32)), .val (.int z), .val (.ref f), .val (.int ((((((1 : Int32) &&& (1 : Int32)) &&& (1 : Int32)) &&& (1 : Int32)) &&& (1 : Int32)) &&& (1 : Int32))), .val (.int (1 : Int32)), .val (.int (2 : Int32))] [(.int (1 : Int32)), (.int ((((((1 : Int32) &&& (1 : Int32)) &&& (1 : Int32)) &&& (1 : Int32)) &&& (1 : Int32)) &&& (1 : Int32)))])) _
          refine XS.iand X15.here hx rfl (hb hby at_230) rfl ?_
          show Steps p.tables e below (T15.setTop (mkF m 231 #[.val (.int p1), .val (.int p2), .val (.int (1 : Int32)), .val (.int z), .val (.ref f), .val (.int ((((((1 : Int32) &&& (1 : Int32)) &&& (1 : Int32)) &&& (1 : Int32)) &&& (1 : Int32)) &&& (1 : Int32))), .val (.int (1 : Int32)), .val (.int (2 : Int32))] [(.int (((((((1 : Int32) &&& (1 : Int32)) &&& (1 : Int32)) &&& (1 : Int32)) &&& (1 : Int32)) &&& (1 : Int32)) &&& (1 : Int32)))])) _
          refine XS.istore X15.here hx rfl (hb hby at_231) rfl (l' := #[.val (.int p1), .val (.int p2), .val (.int (1 : Int32)), .val (.int z), .val (.ref f), .val (.int (((((((1 : Int32) &&& (1 : Int32)) &&& (1 : Int32)) &&& (1 : Int32)) &&& (1 : Int32)) &&& (1 : Int32)) &&& (1 : Int32))), .val (.int (1 : Int32)), .val (.int (2 : Int32))]) rfl ?_
          show Steps p.tables e below (T15.setTop (mkF m 233 #[.val (.int p1), .val (.int p2), .val (.int (1 : Int32)), .val (.int z), .val (.ref f), .val (.int (((((((1 : Int32) &&& (1 : Int32)) &&& (1 : Int32)) &&& (1 : Int32)) &&& (1 : Int32)) &&& (1 : Int32)) &&& (1 : Int32))), .val (.int (1 : Int32)), .val (.int (2 : Int32))] [])) _
          refine XS.iload X15.here hx rfl (hb hby at_233) rfl ?_
          show Steps p.tables e below (T15.setTop (mkF m 235 #[.val (.int p1), .val (.int p2), .val (.int (1 : Int32)), .val (.int z), .val (.ref f), .val (.int (((((((1 : Int32) &&& (1 : Int32)) &&& (1 : Int32)) &&& (1 : Int32)) &&& (1 : Int32)) &&& (1 : Int32)) &&& (1 : Int32))), .val (.int (1 : Int32)), .val (.int (2 : Int32))] [(.int (((((((1 : Int32) &&& (1 : Int32)) &&& (1 : Int32)) &&& (1 : Int32)) &&& (1 : Int32)) &&& (1 : Int32)) &&& (1 : Int32)))])) _
          refine XS.aload X15.here hx rfl (hb hby at_235) rfl rfl ?_
          show Steps p.tables e below (T15.setTop (mkF m 237 #[.val (.int p1), .val (.int p2), .val (.int (1 : Int32)), .val (.int z), .val (.ref f), .val (.int (((((((1 : Int32) &&& (1 : Int32)) &&& (1 : Int32)) &&& (1 : Int32)) &&& (1 : Int32)) &&& (1 : Int32)) &&& (1 : Int32))), .val (.int (1 : Int32)), .val (.int (2 : Int32))] [(.ref f), (.int (((((((1 : Int32) &&& (1 : Int32)) &&& (1 : Int32)) &&& (1 : Int32)) &&& (1 : Int32)) &&& (1 : Int32)) &&& (1 : Int32)))])) _
          refine XS.iloadN X15.here hx rfl (hb hby at_237) rfl ?_
          show Steps p.tables e below (T15.setTop (mkF m 238 #[.val (.int p1), .val (.int p2), .val (.int (1 : Int32)), .val (.int z), .val (.ref f), .val (.int (((((((1 : Int32) &&& (1 : Int32)) &&& (1 : Int32)) &&& (1 : Int32)) &&& (1 : Int32)) &&& (1 : Int32)) &&& (1 : Int32))), .val (.int (1 : Int32)), .val (.int (2 : Int32))] [(.int (1 : Int32)), (.ref f), (.int (((((((1 : Int32) &&& (1 : Int32)) &&& (1 : Int32)) &&& (1 : Int32)) &&& (1 : Int32)) &&& (1 : Int32)) &&& (1 : Int32)))])) _
          refine XS.iconst X15.here hx rfl (hb hby at_238) ?_
          show Steps p.tables e below (T15.setTop (mkF m 239 #[.val (.int p1), .val (.int p2), .val (.int (1 : Int32)), .val (.int z), .val (.ref f), .val (.int (((((((1 : Int32) &&& (1 : Int32)) &&& (1 : Int32)) &&& (1 : Int32)) &&& (1 : Int32)) &&& (1 : Int32)) &&& (1 : Int32))), .val (.int (1 : Int32)), .val (.int (2 : Int32))] [(.int (1 : Int32)), (.int (1 : Int32)), (.ref f), (.int (((((((1 : Int32) &&& (1 : Int32)) &&& (1 : Int32)) &&& (1 : Int32)) &&& (1 : Int32)) &&& (1 : Int32)) &&& (1 : Int32)))])) _
          refine XS.isub X15.here hx rfl (hb hby at_239) rfl ?_
          show Steps p.tables e below (T15.setTop (mkF m 240 #[.val (.int p1), .val (.int p2), .val (.int (1 : Int32)), .val (.int z), .val (.ref f), .val (.int (((((((1 : Int32) &&& (1 : Int32)) &&& (1 : Int32)) &&& (1 : Int32)) &&& (1 : Int32)) &&& (1 : Int32)) &&& (1 : Int32))), .val (.int (1 : Int32)), .val (.int (2 : Int32))] [(.int ((1 : Int32) - (1 : Int32))), (.ref f), (.int (((((((1 : Int32) &&& (1 : Int32)) &&& (1 : Int32)) &&& (1 : Int32)) &&& (1 : Int32)) &&& (1 : Int32)) &&& (1 : Int32)))])) _
          exact k
        rw [show ((1 : Int32) - (1 : Int32)) = (0 : Int32) from by decide]
        obtain ⟨cq16, kq16, q16a, q16b, q16c⟩ := isOf hZ eh15 E_f
        obtain ⟨_, _, ⟨T16, L16, k16, n16⟩, -, X16, ⟨Lc16, hQ16, l16, y16, z16⟩, st16⟩ := X15.virtualBack hx (y := (⟨"com/example/typewright/typewright/Flow", "isAssigned", "(I)Z"⟩ : MethodName)) (z := (⟨"com/example/typewright/typewright/Flow", "isAssigned", "(I)Z"⟩ : MethodName)) hown (mvT hZ (hw _ (List.mem_of_getElem? (i := 64) rfl))) (mvT hZ (hw _ (List.mem_of_getElem? (i := 65) rfl))) (notFace_of_selects (args := #[]) (mvT hZ (hw _ (List.mem_of_getElem? (i := 67) rfl)))) (mvT hZ (hw _ (List.mem_of_getElem? (i := 67) rfl))) (mvT hZ (hw _ (List.mem_of_getElem? (i := 66) rfl))) (by decide) (backOf (W := 1) (rm11 l Z a0 hw [] f (0 : Int32) qs qw qk u w T12.heap n0 Z12 (S_A.ext hzt.2) F_assigned_f (by decide) (by decide) B_q) hZ (hw _ (List.mem_of_getElem? (i := 68) rfl)) (hw _ (List.mem_of_getElem? (i := 2) rfl)) (by decide) (by decide)) q16a q16c (g := (mkF m 240 #[.val (.int p1), .val (.int p2), .val (.int (1 : Int32)), .val (.int z), .val (.ref f), .val (.int (((((((1 : Int32) &&& (1 : Int32)) &&& (1 : Int32)) &&& (1 : Int32)) &&& (1 : Int32)) &&& (1 : Int32)) &&& (1 : Int32))), .val (.int (1 : Int32)), .val (.int (2 : Int32))] [(.int (0 : Int32)), (.ref f), (.int (((((((1 : Int32) &&& (1 : Int32)) &&& (1 : Int32)) &&& (1 : Int32)) &&& (1 : Int32)) &&& (1 : Int32)) &&& (1 : Int32)))])) rfl (by rw [hml]; rfl) (Steps.refl _) (argsL := [(.int (0 : Int32))]) (rest := [(.int (((((((1 : Int32) &&& (1 : Int32)) &&& (1 : Int32)) &&& (1 : Int32)) &&& (1 : Int32)) &&& (1 : Int32)) &&& (1 : Int32)))]) (lenOf pd_rm0_2 rfl) rfl (by show 2 * 0 + _ ≤ _; exact Nat.le_of_eq rfl) (hb hby at_240) (fun _ _ => ⟨rfl, eh15, (by decide : 5 + 0 ≤ _), (by decide : 11 + 0 ≤ _)⟩)
        dsimp only [Pt.U, Pt.locs, Pt.cells, Pt.slots] at X16 l16 y16 z16 st16 hQ16
        subst l16 y16 z16
        obtain ⟨rfl, N16q, eh⟩ := hQ16
        have N16 := Fr.app N15 N16q
        have eh16 := eh
        refine OEnds.go (t' := T16.setTop (mkF m 243 #[.val (.int p1), .val (.int p2), .val (.int (1 : Int32)), .val (.int z), .val (.ref f), .val (.int (((((((1 : Int32) &&& (1 : Int32)) &&& (1 : Int32)) &&& (1 : Int32)) &&& (1 : Int32)) &&& (1 : Int32)) &&& (1 : Int32))), .val (.int (1 : Int32)), .val (.int (2 : Int32))] [(.int (own_get u w (0 : Int32))), (.int (((((((1 : Int32) &&& (1 : Int32)) &&& (1 : Int32)) &&& (1 : Int32)) &&& (1 : Int32)) &&& (1 : Int32)) &&& (1 : Int32)))])) (fun _ k => st16.trans k) ?_
        refine OEnds.go (t' := T16.setTop (mkF m 244 #[.val (.int p1), .val (.int p2), .val (.int (1 : Int32)), .val (.int z), .val (.ref f), .val (.int (((((((1 : Int32) &&& (1 : Int32)) &&& (1 : Int32)) &&& (1 : Int32)) &&& (1 : Int32)) &&& (1 : Int32)) &&& (1 : Int32))), .val (.int (1 : Int32)), .val (.int (2 : Int32))] [(.int z), (.int (own_get u w (0 : Int32))), (.int (((((((1 : Int32) &&& (1 : Int32)) &&& (1 : Int32)) &&& (1 : Int32)) &&& (1 : Int32)) &&& (1 : Int32)) &&& (1 : Int32)))])) (fun _ k => ?_) ?_
        · show Steps p.tables e below (T16.setTop (mkF m 243 #[.val (.int p1), .val (.int p2), .val (.int (1 : Int32)), .val (.int z), .val (.ref f), .val (.int (((((((1 : Int32) &&& (1 : Int32)) &&& (1 : Int32)) &&& (1 : Int32)) &&& (1 : Int32)) &&& (1 : Int32)) &&& (1 : Int32))), .val (.int (1 : Int32)), .val (.int (2 : Int32))] [(.int (own_get u w (0 : Int32))), (.int (((((((1 : Int32) &&& (1 : Int32)) &&& (1 : Int32)) &&& (1 : Int32)) &&& (1 : Int32)) &&& (1 : Int32)) &&& (1 : Int32)))])) _
          refine XS.iloadN X16.here hx rfl (hb hby at_243) rfl ?_
          show Steps p.tables e below (T16.setTop (mkF m 244 #[.val (.int p1), .val (.int p2), .val (.int (1 : Int32)), .val (.int z), .val (.ref f), .val (.int (((((((1 : Int32) &&& (1 : Int32)) &&& (1 : Int32)) &&& (1 : Int32)) &&& (1 : Int32)) &&& (1 : Int32)) &&& (1 : Int32))), .val (.int (1 : Int32)), .val (.int (2 : Int32))] [(.int z), (.int (own_get u w (0 : Int32))), (.int (((((((1 : Int32) &&& (1 : Int32)) &&& (1 : Int32)) &&& (1 : Int32)) &&& (1 : Int32)) &&& (1 : Int32)) &&& (1 : Int32)))])) _
          exact k
        refine OEnds.go (t' := T16.setTop (mkF m 247 #[.val (.int p1), .val (.int p2), .val (.int (1 : Int32)), .val (.int z), .val (.ref f), .val (.int (((((((1 : Int32) &&& (1 : Int32)) &&& (1 : Int32)) &&& (1 : Int32)) &&& (1 : Int32)) &&& (1 : Int32)) &&& (1 : Int32))), .val (.int (1 : Int32)), .val (.int (2 : Int32))] [(.int (((((((1 : Int32) &&& (1 : Int32)) &&& (1 : Int32)) &&& (1 : Int32)) &&& (1 : Int32)) &&& (1 : Int32)) &&& (1 : Int32)))])) (fun _ k => XS.icmpNo X16.here hx rfl (hb hby at_244) rfl (teq hD).2 k) ?_
        refine OEnds.go (t' := T16.setTop (mkF m 257 #[.val (.int p1), .val (.int p2), .val (.int (1 : Int32)), .val (.int z), .val (.ref f), .val (.int ((((((((1 : Int32) &&& (1 : Int32)) &&& (1 : Int32)) &&& (1 : Int32)) &&& (1 : Int32)) &&& (1 : Int32)) &&& (1 : Int32)) &&& (1 : Int32))), .val (.int (1 : Int32)), .val (.int (2 : Int32))] [(.int ((((((((1 : Int32) &&& (1 : Int32)) &&& (1 : Int32)) &&& (1 : Int32)) &&& (1 : Int32)) &&& (1 : Int32)) &&& (1 : Int32)) &&& (1 : Int32)))])) (fun _ k => ?_) ?_
        · show Steps p.tables e below (T16.setTop (mkF m 247 #[.val (.int p1), .val (.int p2), .val (.int (1 : Int32)), .val (.int z), .val (.ref f), .val (.int (((((((1 : Int32) &&& (1 : Int32)) &&& (1 : Int32)) &&& (1 : Int32)) &&& (1 : Int32)) &&& (1 : Int32)) &&& (1 : Int32))), .val (.int (1 : Int32)), .val (.int (2 : Int32))] [(.int (((((((1 : Int32) &&& (1 : Int32)) &&& (1 : Int32)) &&& (1 : Int32)) &&& (1 : Int32)) &&& (1 : Int32)) &&& (1 : Int32)))])) _
          refine XS.iconst X16.here hx rfl (hb hby at_247) ?_
          show Steps p.tables e below (T16.setTop (mkF m 248 #[.val (.int p1), .val (.int p2), .val (.int (1 : Int32)), .val (.int z), .val (.ref f), .val (.int (((((((1 : Int32) &&& (1 : Int32)) &&& (1 : Int32)) &&& (1 : Int32)) &&& (1 : Int32)) &&& (1 : Int32)) &&& (1 : Int32))), .val (.int (1 : Int32)), .val (.int (2 : Int32))] [(.int (1 : Int32)), (.int (((((((1 : Int32) &&& (1 : Int32)) &&& (1 : Int32)) &&& (1 : Int32)) &&& (1 : Int32)) &&& (1 : Int32)) &&& (1 : Int32)))])) _
          refine XS.goto X16.here hx rfl (pc0 := 248) (pc' := 252) rfl (hb hby at_248) (by decide) (by decide) ?_
          show Steps p.tables e below (T16.setTop (mkF m 252 #[.val (.int p1), .val (.int p2), .val (.int (1 : Int32)), .val (.int z), .val (.ref f), .val (.int (((((((1 : Int32) &&& (1 : Int32)) &&& (1 : Int32)) &&& (1 : Int32)) &&& (1 : Int32)) &&& (1 : Int32)) &&& (1 : Int32))), .val (.int (1 : Int32)), .val (.int (2 : Int32))] [(.int (1 : Int32)), (.int (((((((1 : Int32) &&& (1 : Int32)) &&& (1 : Int32)) &&& (1 : Int32)) &&& (1 : Int32)) &&& (1 : Int32)) &&& (1 : Int32)))])) _
          refine XS.iand X16.here hx rfl (hb hby at_252) rfl ?_
          show Steps p.tables e below (T16.setTop (mkF m 253 #[.val (.int p1), .val (.int p2), .val (.int (1 : Int32)), .val (.int z), .val (.ref f), .val (.int (((((((1 : Int32) &&& (1 : Int32)) &&& (1 : Int32)) &&& (1 : Int32)) &&& (1 : Int32)) &&& (1 : Int32)) &&& (1 : Int32))), .val (.int (1 : Int32)), .val (.int (2 : Int32))] [(.int ((((((((1 : Int32) &&& (1 : Int32)) &&& (1 : Int32)) &&& (1 : Int32)) &&& (1 : Int32)) &&& (1 : Int32)) &&& (1 : Int32)) &&& (1 : Int32)))])) _
          refine XS.istore X16.here hx rfl (hb hby at_253) rfl (l' := #[.val (.int p1), .val (.int p2), .val (.int (1 : Int32)), .val (.int z), .val (.ref f), .val (.int ((((((((1 : Int32) &&& (1 : Int32)) &&& (1 : Int32)) &&& (1 : Int32)) &&& (1 : Int32)) &&& (1 : Int32)) &&& (1 : Int32)) &&& (1 : Int32))), .val (.int (1 : Int32)), .val (.int (2 : Int32))]) rfl ?_
          show Steps p.tables e below (T16.setTop (mkF m 255 #[.val (.int p1), .val (.int p2), .val (.int (1 : Int32)), .val (.int z), .val (.ref f), .val (.int ((((((((1 : Int32) &&& (1 : Int32)) &&& (1 : Int32)) &&& (1 : Int32)) &&& (1 : Int32)) &&& (1 : Int32)) &&& (1 : Int32)) &&& (1 : Int32))), .val (.int (1 : Int32)), .val (.int (2 : Int32))] [])) _
          refine XS.iload X16.here hx rfl (hb hby at_255) rfl ?_
          show Steps p.tables e below (T16.setTop (mkF m 257 #[.val (.int p1), .val (.int p2), .val (.int (1 : Int32)), .val (.int z), .val (.ref f), .val (.int ((((((((1 : Int32) &&& (1 : Int32)) &&& (1 : Int32)) &&& (1 : Int32)) &&& (1 : Int32)) &&& (1 : Int32)) &&& (1 : Int32)) &&& (1 : Int32))), .val (.int (1 : Int32)), .val (.int (2 : Int32))] [(.int ((((((((1 : Int32) &&& (1 : Int32)) &&& (1 : Int32)) &&& (1 : Int32)) &&& (1 : Int32)) &&& (1 : Int32)) &&& (1 : Int32)) &&& (1 : Int32)))])) _
          exact k
        refine OEnds.back X16 hlk (v := (some (.int (nar .boolean ((((((((1 : Int32) &&& (1 : Int32)) &&& (1 : Int32)) &&& (1 : Int32)) &&& (1 : Int32)) &&& (1 : Int32)) &&& (1 : Int32)) &&& (1 : Int32)))))) (fun h => by rw [hrt] at h; cases h) (fun fs hr => ?_) ?_ (by decide) (by decide)
        · exact retN X16 hx (t := .boolean) hrt (by simp) (hb hby at_257) hr
        · show Q0 Z p1 p2 r1 r2 h0 n0 _ T16.heap _
          rw [eh16]
          exact ⟨congrArg (fun z => some (Value.int z)) (by decide), N16⟩
      by_cases h112 : z = (0 : Int32)
      · refine OEnds.go (t' := T10.setTop (mkF m 120 #[.val (.int p1), .val (.int p2), .val (.int (1 : Int32)), .val (.int z), .val (.ref f), .val (.int ((1 : Int32) &&& (1 : Int32))), .val (.int (0 : Int32)), .unset] [])) (fun _ k => XS.ifYes X10.here hx rfl (pc0 := 112) (pc' := 120) rfl (hb hby at_112) rfl ((if0 _ _).trans (teq h112).1) (by decide) (by decide) k) ?_
        exact K120 _ _ _ (X10.mono (by decide) (by decide)) rfl N10 Z10 bs wa kb 0 0 _ hzt E_f F_locals_f F_assigned_f F_reach_f B_bs ne_f_bs ne_f_wa (by decide) (by decide) (by rw [h112]; decide) (by rw [h112]; decide)
      · refine OEnds.go (t' := T10.setTop (mkF m 115 #[.val (.int p1), .val (.int p2), .val (.int (1 : Int32)), .val (.int z), .val (.ref f), .val (.int ((1 : Int32) &&& (1 : Int32))), .val (.int (0 : Int32)), .unset] [])) (fun _ k => XS.ifNo X10.here hx rfl (hb hby at_112) rfl ((if0 _ _).trans (feq h112).1) k) ?_
        refine OEnds.go (t' := T10.setTop (mkF m 117 #[.val (.int p1), .val (.int p2), .val (.int (1 : Int32)), .val (.int z), .val (.ref f), .val (.int ((1 : Int32) &&& (1 : Int32))), .val (.int (0 : Int32)), .unset] [(.ref f)])) (fun _ k => ?_) ?_
        · show Steps p.tables e below (T10.setTop (mkF m 115 #[.val (.int p1), .val (.int p2), .val (.int (1 : Int32)), .val (.int z), .val (.ref f), .val (.int ((1 : Int32) &&& (1 : Int32))), .val (.int (0 : Int32)), .unset] [])) _
          refine XS.aload X10.here hx rfl (hb hby at_115) rfl rfl ?_
          show Steps p.tables e below (T10.setTop (mkF m 117 #[.val (.int p1), .val (.int p2), .val (.int (1 : Int32)), .val (.int z), .val (.ref f), .val (.int ((1 : Int32) &&& (1 : Int32))), .val (.int (0 : Int32)), .unset] [(.ref f)])) _
          exact k
        have lt_f := E_f.lt
        obtain ⟨cq17, kq17, q17a, q17b, q17c⟩ := isOf hZ rfl E_f
        obtain ⟨_, _, ⟨T17, L17, k17, n17⟩, -, X17, ⟨Lc17, hQ17, l17, y17, z17⟩, st17⟩ := X10.virtualBack hx (y := (⟨"com/example/typewright/typewright/Flow", "afterReturn", "()V"⟩ : MethodName)) (z := (⟨"com/example/typewright/typewright/Flow", "afterReturn", "()V"⟩ : MethodName)) hown (mvT hZ (hw _ (List.mem_of_getElem? (i := 38) rfl))) (mvT hZ (hw _ (List.mem_of_getElem? (i := 39) rfl))) (notFace_of_selects (args := #[]) (mvT hZ (hw _ (List.mem_of_getElem? (i := 41) rfl)))) (mvT hZ (hw _ (List.mem_of_getElem? (i := 41) rfl))) (mvT hZ (hw _ (List.mem_of_getElem? (i := 40) rfl))) (by decide) (backOf (W := 0) (rm6 l Z a0 hw [] f r2 (1 : Int32) _ _ T10.heap n0 Z10 S_A S_2 hzt F_locals_f F_assigned_f F_reach_f E_f g_f (by unfold own_N; decide)) hZ (hw _ (List.mem_of_getElem? (i := 42) rfl)) (hw _ (List.mem_of_getElem? (i := 2) rfl)) (by decide) (by decide)) q17a q17c (g := (mkF m 117 #[.val (.int p1), .val (.int p2), .val (.int (1 : Int32)), .val (.int z), .val (.ref f), .val (.int ((1 : Int32) &&& (1 : Int32))), .val (.int (0 : Int32)), .unset] [(.ref f)])) rfl (by rw [hml]; rfl) (Steps.refl _) (argsL := []) (rest := []) (lenOf pd_rm0_0 rfl) rfl (by show 2 * 0 + _ ≤ _; exact Nat.le_of_eq rfl) (hb hby at_117) (fun _ _ => ⟨rfl, rfl, (by decide : 3 + 2 ≤ _), (by decide : 7 + 4 ≤ _)⟩)
        dsimp only [Pt.U, Pt.locs, Pt.cells, Pt.slots] at X17 l17 y17 z17 st17 hQ17
        subst l17 y17 z17
        obtain ⟨rfl, N17q, Kc17, Ea17, Fa17, ⟨ur17, Fb17⟩, cs, cw, ck, Fc17, B_cs, ⟨szc, g_cs⟩, szv, g_cw⟩ := hQ17
        have N17 := Fr.app N10 N17q
        have hzt := hzt.keep Kc17 (allS g_f all0)
        have B_bs := B_bs.keep Kc17 (ninS (Ne.symm ne_f_bs) nin0) (ninS (Ne.symm ne_f_wa) nin0)
        have Z17 : n0 ≤ T17.heap.size := Nat.le_trans Z10 Kc17.1
        refine OEnds.go (t' := T17.setTop (mkF m 120 #[.val (.int p1), .val (.int p2), .val (.int (1 : Int32)), .val (.int z), .val (.ref f), .val (.int ((1 : Int32) &&& (1 : Int32))), .val (.int (0 : Int32)), .unset] [])) (fun _ k => st17.trans k) ?_
        have ne_f_cs : f ≠ cs := Nat.ne_of_lt (Nat.lt_of_lt_of_le lt_f szc)
        have ne_f_cw : f ≠ cw := Nat.ne_of_lt (Nat.lt_of_lt_of_le lt_f szv)
        have h112x : z = 1 := hz.resolve_left h112
        exact K120 _ _ _ (X17.mono (by decide) (by decide)) rfl N17 Z17 cs cw ck _ _ _ hzt Ea17 Fa17 Fc17 Fb17 B_cs ne_f_cs ne_f_cw (by decide) (by decide) (by rw [h112x]; decide) (by rw [h112x]; decide)
    · skip
      refine OEnds.go (t' := s₁.setTop (mkF m 16 #[.val (.int p1), .val (.int p2), .val (.int (2 : Int32)), .val (.int z), .unset, .unset, .unset, .unset] [])) (fun _ k => ?_) ?_
      · show Steps p.tables e below (s₁.setTop (mkF m 15 #[.val (.int p1), .val (.int p2), .val (.int (2 : Int32)), .unset, .unset, .unset, .unset, .unset] [(.int z)])) _
        refine XS.istoreN X0.here hx rfl (hb hby at_15) rfl (l' := #[.val (.int p1), .val (.int p2), .val (.int (2 : Int32)), .val (.int z), .unset, .unset, .unset, .unset]) rfl ?_
        show Steps p.tables e below (s₁.setTop (mkF m 16 #[.val (.int p1), .val (.int p2), .val (.int (2 : Int32)), .val (.int z), .unset, .unset, .unset, .unset] [])) _
        exact k
      obtain ⟨T18, h18, X18, e18, E18, A18, D18, -, st18⟩ := newO X0 hx hZ hown (hw _ (List.mem_of_getElem? (i := 0) rfl)) (hw _ (List.mem_of_getElem? (i := 1) rfl)) (hw _ (List.mem_of_getElem? (i := 2) rfl)) e0 (g := (mkF m 16 #[.val (.int p1), .val (.int p2), .val (.int (2 : Int32)), .val (.int z), .unset, .unset, .unset, .unset] [])) rfl (hb hby at_16) (by decide) (by decide)
      obtain ⟨f, gz18⟩ : ∃ z, z = h0.size := ⟨_, rfl⟩
      rw [← gz18] at A18 D18 st18
      have g_f : n0 ≤ f := Nat.le_trans Z0 (Nat.le_of_eq gz18.symm)
      have hzt := hzt.ext E18
      have Z18 : n0 ≤ h18.size := Nat.le_trans Z0 E18.1
      have E_f := A18
      have F_assigned_f : Fld Z h18 f "com/example/typewright/typewright/Flow" "assigned" "Ljava/util/BitSet;" .null := D18 (Or.inl (hw _ (List.mem_of_getElem? (i := 32) rfl))) (ty := (.object "java/util/BitSet")) (by decide)
      have F_reach_f : Fld Z h18 f "com/example/typewright/typewright/Flow" "reach" "Lcom/example/typewright/typewright/Flow$Reach;" .null := D18 (Or.inl (hw _ (List.mem_of_getElem? (i := 37) rfl))) (ty := (.object "com/example/typewright/typewright/Flow$Reach")) (by decide)
      have F_locals_f : Fld Z h18 f "com/example/typewright/typewright/Flow" "locals" "I" (.int (0 : Int32)) := D18 (Or.inl (hw _ (List.mem_of_getElem? (i := 48) rfl))) (ty := .int) (by decide)
      refine OEnds.go (t' := T18.setTop (mkF m 19 #[.val (.int p1), .val (.int p2), .val (.int (2 : Int32)), .val (.int z), .unset, .unset, .unset, .unset] [(.ref f)])) (fun _ k => st18 _ k) ?_
      refine OEnds.go (t' := T18.setTop (mkF m 20 #[.val (.int p1), .val (.int p2), .val (.int (2 : Int32)), .val (.int z), .unset, .unset, .unset, .unset] [(.ref f), (.ref f)])) (fun _ k => ?_) ?_
      · show Steps p.tables e below (T18.setTop (mkF m 19 #[.val (.int p1), .val (.int p2), .val (.int (2 : Int32)), .val (.int z), .unset, .unset, .unset, .unset] [(.ref f)])) _
        refine XS.dup X18.here hx rfl (hb hby at_19) rfl rfl ?_
        show Steps p.tables e below (T18.setTop (mkF m 20 #[.val (.int p1), .val (.int p2), .val (.int (2 : Int32)), .val (.int z), .unset, .unset, .unset, .unset] [(.ref f), (.ref f)])) _
        exact k
      have lt_f := E_f.lt
      obtain ⟨_, _, ⟨T19, L19, k19, n19⟩, -, X19, ⟨Lc19, hQ19, l19, y19, z19⟩, st19⟩ := X18.specialBack hx (y := (⟨"com/example/typewright/typewright/Flow", "<init>", "()V"⟩ : MethodName)) rfl hown (mvT hZ (hw _ (List.mem_of_getElem? (i := 3) rfl))) (mvT hZ (hw _ (List.mem_of_getElem? (i := 4) rfl))) (mvT hZ (hw _ (List.mem_of_getElem? (i := 5) rfl))) (by decide) (backOf (W := 1) (rm1 l Z a0 hw [] f r1 h18 n0 Z18 F_assigned_f F_locals_f F_reach_f E_f g_f S_1 hzt) hZ (hw _ (List.mem_of_getElem? (i := 5) rfl)) (hw _ (List.mem_of_getElem? (i := 2) rfl)) (by decide) (by decide)) (g := (mkF m 20 #[.val (.int p1), .val (.int p2), .val (.int (2 : Int32)), .val (.int z), .unset, .unset, .unset, .unset] [(.ref f), (.ref f)])) rfl (by rw [hml]; rfl) (Steps.refl _) (a := f) (argsL := []) (rest := [(.ref f)]) (lenOf pd_rm0_0 rfl) rfl (by show 2 * 0 + _ ≤ _; exact Nat.le_of_eq rfl) (hb hby at_20) (fun _ _ => ⟨rfl, e18, (by decide : 1 + 2 ≤ _), (by decide : 3 + 4 ≤ _)⟩)
      dsimp only [Pt.U, Pt.locs, Pt.cells, Pt.slots] at X19 l19 y19 z19 st19 hQ19
      subst l19 y19 z19
      obtain ⟨rfl, N19q, Kc19, Ea19, Fa19, ⟨ur19, Fb19⟩, bs, wa, kb, Fc19, B_bs, ⟨szs, g_bs⟩, szw, g_wa⟩ := hQ19
      have N19 := Fr.app N0 N19q
      have hzt := hzt.keep Kc19 (allS g_f all0)
      have Z19 : n0 ≤ T19.heap.size := Nat.le_trans Z18 Kc19.1
      refine OEnds.go (t' := T19.setTop (mkF m 23 #[.val (.int p1), .val (.int p2), .val (.int (2 : Int32)), .val (.int z), .unset, .unset, .unset, .unset] [(.ref f)])) (fun _ k => st19.trans k) ?_
      have ne_f_bs : f ≠ bs := Nat.ne_of_lt (Nat.lt_of_lt_of_le lt_f szs)
      have ne_f_wa : f ≠ wa := Nat.ne_of_lt (Nat.lt_of_lt_of_le lt_f szw)
      have E_f := Ea19
      have F_locals_f := Fa19
      have F_reach_f := Fb19
      have F_assigned_f := Fc19
      refine OEnds.go (t' := T19.setTop (mkF m 30 #[.val (.int p1), .val (.int p2), .val (.int (2 : Int32)), .val (.int z), .val (.ref f), .val (.int (1 : Int32)), .unset, .unset] [(.int (1 : Int32)), (.int (2 : Int32))])) (fun _ k => ?_) ?_
      · show Steps p.tables e below (T19.setTop (mkF m 23 #[.val (.int p1), .val (.int p2), .val (.int (2 : Int32)), .val (.int z), .unset, .unset, .unset, .unset] [(.ref f)])) _
        refine XS.astore X19.here hx rfl (hb hby at_23) rfl rfl (l' := #[.val (.int p1), .val (.int p2), .val (.int (2 : Int32)), .val (.int z), .val (.ref f), .unset, .unset, .unset]) rfl ?_
        show Steps p.tables e below (T19.setTop (mkF m 25 #[.val (.int p1), .val (.int p2), .val (.int (2 : Int32)), .val (.int z), .val (.ref f), .unset, .unset, .unset] [])) _
        refine XS.iconst X19.here hx rfl (hb hby at_25) ?_
        show Steps p.tables e below (T19.setTop (mkF m 26 #[.val (.int p1), .val (.int p2), .val (.int (2 : Int32)), .val (.int z), .val (.ref f), .unset, .unset, .unset] [(.int (1 : Int32))])) _
        refine XS.istore X19.here hx rfl (hb hby at_26) rfl (l' := #[.val (.int p1), .val (.int p2), .val (.int (2 : Int32)), .val (.int z), .val (.ref f), .val (.int (1 : Int32)), .unset, .unset]) rfl ?_
        show Steps p.tables e below (T19.setTop (mkF m 28 #[.val (.int p1), .val (.int p2), .val (.int (2 : Int32)), .val (.int z), .val (.ref f), .val (.int (1 : Int32)), .unset, .unset] [])) _
        refine XS.iloadN X19.here hx rfl (hb hby at_28) rfl ?_
        show Steps p.tables e below (T19.setTop (mkF m 29 #[.val (.int p1), .val (.int p2), .val (.int (2 : Int32)), .val (.int z), .val (.ref f), .val (.int (1 : Int32)), .unset, .unset] [(.int (2 : Int32))])) _
        refine XS.iconst X19.here hx rfl (hb hby at_29) ?_
        show Steps p.tables e below (T19.setTop (mkF m 30 #[.val (.int p1), .val (.int p2), .val (.int (2 : Int32)), .val (.int z), .val (.ref f), .val (.int (1 : Int32)), .unset, .unset] [(.int (1 : Int32)), (.int (2 : Int32))])) _
        exact k
      refine OEnds.go (t' := T19.setTop (mkF m 33 #[.val (.int p1), .val (.int p2), .val (.int (2 : Int32)), .val (.int z), .val (.ref f), .val (.int (1 : Int32)), .unset, .unset] [])) (fun _ k => XS.icmpNo X19.here hx rfl (hb hby at_30) rfl (flt (by decide)).1 k) ?_
      refine OEnds.go (t' := T19.setTop (mkF m 35 #[.val (.int p1), .val (.int p2), .val (.int (2 : Int32)), .val (.int z), .val (.ref f), .val (.int (1 : Int32)), .unset, .unset] [(.ref f)])) (fun _ k => ?_) ?_
      · show Steps p.tables e below (T19.setTop (mkF m 33 #[.val (.int p1), .val (.int p2), .val (.int (2 : Int32)), .val (.int z), .val (.ref f), .val (.int (1 : Int32)), .unset, .unset] [])) _
        refine XS.aload X19.here hx rfl (hb hby at_33) rfl rfl ?_
        show Steps p.tables e below (T19.setTop (mkF m 35 #[.val (.int p1), .val (.int p2), .val (.int (2 : Int32)), .val (.int z), .val (.ref f), .val (.int (1 : Int32)), .unset, .unset] [(.ref f)])) _
        exact k
      obtain ⟨cq20, kq20, q20a, q20b, q20c⟩ := isOf hZ rfl E_f
      obtain ⟨_, _, ⟨T20, L20, k20, n20⟩, -, X20, ⟨Lc20, hQ20, l20, y20, z20⟩, st20⟩ := X19.virtualBack hx (y := (⟨"com/example/typewright/typewright/Flow", "declare", "()I"⟩ : MethodName)) (z := (⟨"com/example/typewright/typewright/Flow", "declare", "()I"⟩ : MethodName)) hown (mvT hZ (hw _ (List.mem_of_getElem? (i := 59) rfl))) (mvT hZ (hw _ (List.mem_of_getElem? (i := 60) rfl))) (notFace_of_selects (args := #[]) (mvT hZ (hw _ (List.mem_of_getElem? (i := 62) rfl)))) (mvT hZ (hw _ (List.mem_of_getElem? (i := 62) rfl))) (mvT hZ (hw _ (List.mem_of_getElem? (i := 61) rfl))) (by decide) (backOf (W := 0) (rm10 l Z a0 hw [] f (0 : Int32) _ _ T19.heap n0 Z19 F_locals_f F_assigned_f F_reach_f E_f g_f) hZ (hw _ (List.mem_of_getElem? (i := 63) rfl)) (hw _ (List.mem_of_getElem? (i := 2) rfl)) (by decide) (by decide)) q20a q20c (g := (mkF m 35 #[.val (.int p1), .val (.int p2), .val (.int (2 : Int32)), .val (.int z), .val (.ref f), .val (.int (1 : Int32)), .unset, .unset] [(.ref f)])) rfl (by rw [hml]; rfl) (Steps.refl _) (argsL := []) (rest := []) (lenOf pd_rm0_1 rfl) rfl (by show 2 * 0 + _ ≤ _; exact Nat.le_of_eq rfl) (hb hby at_35) (fun _ _ => ⟨rfl, rfl, (by decide : 3 + 0 ≤ _), (by decide : 7 + 0 ≤ _)⟩)
      dsimp only [Pt.U, Pt.locs, Pt.cells, Pt.slots] at X20 l20 y20 z20 st20 hQ20
      subst l20 y20 z20
      obtain ⟨rfl, N20q, Kc20, Ea20, Fa20, Fb20, Fc20⟩ := hQ20
      have N20 := Fr.app N19 N20q
      have hzt := hzt.keep Kc20 (allS g_f all0)
      have B_bs := B_bs.keep Kc20 (ninS (Ne.symm ne_f_bs) nin0) (ninS (Ne.symm ne_f_wa) nin0)
      have Z20 : n0 ≤ T20.heap.size := Nat.le_trans Z19 Kc20.1
      refine OEnds.go (t' := T20.setTop (mkF m 38 #[.val (.int p1), .val (.int p2), .val (.int (2 : Int32)), .val (.int z), .val (.ref f), .val (.int (1 : Int32)), .unset, .unset] [(.int (0 : Int32))])) (fun _ k => st20.trans k) ?_
      have E_f := Ea20
      have F_locals_f := Fa20
      have F_assigned_f := Fb20
      have F_reach_f := Fc20
      rw [show ((0 : Int32) + 1 : Int32) = (1 : Int32) from by decide] at F_locals_f
      refine OEnds.go (t' := T20.setTop (mkF m 44 #[.val (.int p1), .val (.int p2), .val (.int (2 : Int32)), .val (.int z), .val (.ref f), .val (.int (1 : Int32)), .val (.int (0 : Int32)), .unset] [(.int (0 : Int32)), (.int (1 : Int32))])) (fun _ k => ?_) ?_
      · show Steps p.tables e below (T20.setTop (mkF m 38 #[.val (.int p1), .val (.int p2), .val (.int (2 : Int32)), .val (.int z), .val (.ref f), .val (.int (1 : Int32)), .unset, .unset] [(.int (0 : Int32))])) _
        refine XS.istore X20.here hx rfl (hb hby at_38) rfl (l' := #[.val (.int p1), .val (.int p2), .val (.int (2 : Int32)), .val (.int z), .val (.ref f), .val (.int (1 : Int32)), .val (.int (0 : Int32)), .unset]) rfl ?_
        show Steps p.tables e below (T20.setTop (mkF m 40 #[.val (.int p1), .val (.int p2), .val (.int (2 : Int32)), .val (.int z), .val (.ref f), .val (.int (1 : Int32)), .val (.int (0 : Int32)), .unset] [])) _
        refine XS.iload X20.here hx rfl (hb hby at_40) rfl ?_
        show Steps p.tables e below (T20.setTop (mkF m 42 #[.val (.int p1), .val (.int p2), .val (.int (2 : Int32)), .val (.int z), .val (.ref f), .val (.int (1 : Int32)), .val (.int (0 : Int32)), .unset] [(.int (1 : Int32))])) _
        refine XS.iload X20.here hx rfl (hb hby at_42) rfl ?_
        show Steps p.tables e below (T20.setTop (mkF m 44 #[.val (.int p1), .val (.int p2), .val (.int (2 : Int32)), .val (.int z), .val (.ref f), .val (.int (1 : Int32)), .val (.int (0 : Int32)), .unset] [(.int (0 : Int32)), (.int (1 : Int32))])) _
        exact k
      refine OEnds.go (t' := T20.setTop (mkF m 47 #[.val (.int p1), .val (.int p2), .val (.int (2 : Int32)), .val (.int z), .val (.ref f), .val (.int (1 : Int32)), .val (.int (0 : Int32)), .unset] [(.int (1 : Int32))])) (fun _ k => XS.ifNo X20.here hx rfl (hb hby at_44) rfl ((if0 _ _).trans (teq (by decide)).2) k) ?_
      refine OEnds.go (t' := T20.setTop (mkF m 57 #[.val (.int p1), .val (.int p2), .val (.int (2 : Int32)), .val (.int z), .val (.ref f), .val (.int ((1 : Int32) &&& (1 : Int32))), .val (.int (0 : Int32)), .unset] [(.int (2 : Int32)), (.int (2 : Int32))])) (fun _ k => ?_) ?_
      · show Steps p.tables e below (T20.setTop (mkF m 47 #[.val (.int p1), .val (.int p2), .val (.int (2 : Int32)), .val (.int z), .val (.ref f), .val (.int (1 : Int32)), .val (.int (0 : Int32)), .unset] [(.int (1 : Int32))])) _
        refine XS.iconst X20.here hx rfl (hb hby at_47) ?_
        show Steps p.tables e below (T20.setTop (mkF m 48 #[.val (.int p1), .val (.int p2), .val (.int (2 : Int32)), .val (.int z), .val (.ref f), .val (.int (1 : Int32)), .val (.int (0 : Int32)), .unset] [(.int (1 : Int32)), (.int (1 : Int32))])) _
        refine XS.goto X20.here hx rfl (pc0 := 48) (pc' := 52) rfl (hb hby at_48) (by decide) (by decide) ?_
        show Steps p.tables e below (T20.setTop (mkF m 52 #[.val (.int p1), .val (.int p2), .val (.int (2 : Int32)), .val (.int z), .val (.ref f), .val (.int (1 : Int32)), .val (.int (0 : Int32)), .unset] [(.int (1 : Int32)), (.int (1 : Int32))])) _
        refine XS.iand X20.here hx rfl (hb hby at_52) rfl ?_
        show Steps p.tables e below (T20.setTop (mkF m 53 #[.val (.int p1), .val (.int p2), .val (.int (2 : Int32)), .val (.int z), .val (.ref f), .val (.int (1 : Int32)), .val (.int (0 : Int32)), .unset] [(.int ((1 : Int32) &&& (1 : Int32)))])) _
        refine XS.istore X20.here hx rfl (hb hby at_53) rfl (l' := #[.val (.int p1), .val (.int p2), .val (.int (2 : Int32)), .val (.int z), .val (.ref f), .val (.int ((1 : Int32) &&& (1 : Int32))), .val (.int (0 : Int32)), .unset]) rfl ?_
        show Steps p.tables e below (T20.setTop (mkF m 55 #[.val (.int p1), .val (.int p2), .val (.int (2 : Int32)), .val (.int z), .val (.ref f), .val (.int ((1 : Int32) &&& (1 : Int32))), .val (.int (0 : Int32)), .unset] [])) _
        refine XS.iloadN X20.here hx rfl (hb hby at_55) rfl ?_
        show Steps p.tables e below (T20.setTop (mkF m 56 #[.val (.int p1), .val (.int p2), .val (.int (2 : Int32)), .val (.int z), .val (.ref f), .val (.int ((1 : Int32) &&& (1 : Int32))), .val (.int (0 : Int32)), .unset] [(.int (2 : Int32))])) _
        refine XS.iconst X20.here hx rfl (hb hby at_56) ?_
        show Steps p.tables e below (T20.setTop (mkF m 57 #[.val (.int p1), .val (.int p2), .val (.int (2 : Int32)), .val (.int z), .val (.ref f), .val (.int ((1 : Int32) &&& (1 : Int32))), .val (.int (0 : Int32)), .unset] [(.int (2 : Int32)), (.int (2 : Int32))])) _
        exact k
      refine OEnds.go (t' := T20.setTop (mkF m 60 #[.val (.int p1), .val (.int p2), .val (.int (2 : Int32)), .val (.int z), .val (.ref f), .val (.int ((1 : Int32) &&& (1 : Int32))), .val (.int (0 : Int32)), .unset] [])) (fun _ k => XS.icmpNo X20.here hx rfl (hb hby at_57) rfl (flt (by decide)).1 k) ?_
      refine OEnds.go (t' := T20.setTop (mkF m 62 #[.val (.int p1), .val (.int p2), .val (.int (2 : Int32)), .val (.int z), .val (.ref f), .val (.int ((1 : Int32) &&& (1 : Int32))), .val (.int (0 : Int32)), .unset] [(.ref f)])) (fun _ k => ?_) ?_
      · show Steps p.tables e below (T20.setTop (mkF m 60 #[.val (.int p1), .val (.int p2), .val (.int (2 : Int32)), .val (.int z), .val (.ref f), .val (.int ((1 : Int32) &&& (1 : Int32))), .val (.int (0 : Int32)), .unset] [])) _
        refine XS.aload X20.here hx rfl (hb hby at_60) rfl rfl ?_
        show Steps p.tables e below (T20.setTop (mkF m 62 #[.val (.int p1), .val (.int p2), .val (.int (2 : Int32)), .val (.int z), .val (.ref f), .val (.int ((1 : Int32) &&& (1 : Int32))), .val (.int (0 : Int32)), .unset] [(.ref f)])) _
        exact k
      obtain ⟨cq21, kq21, q21a, q21b, q21c⟩ := isOf hZ rfl E_f
      obtain ⟨_, _, ⟨T21, L21, k21, n21⟩, -, X21, ⟨Lc21, hQ21, l21, y21, z21⟩, st21⟩ := X20.virtualBack hx (y := (⟨"com/example/typewright/typewright/Flow", "declare", "()I"⟩ : MethodName)) (z := (⟨"com/example/typewright/typewright/Flow", "declare", "()I"⟩ : MethodName)) hown (mvT hZ (hw _ (List.mem_of_getElem? (i := 59) rfl))) (mvT hZ (hw _ (List.mem_of_getElem? (i := 60) rfl))) (notFace_of_selects (args := #[]) (mvT hZ (hw _ (List.mem_of_getElem? (i := 62) rfl)))) (mvT hZ (hw _ (List.mem_of_getElem? (i := 62) rfl))) (mvT hZ (hw _ (List.mem_of_getElem? (i := 61) rfl))) (by decide) (backOf (W := 0) (rm10 l Z a0 hw [] f (1 : Int32) _ _ T20.heap n0 Z20 F_locals_f F_assigned_f F_reach_f E_f g_f) hZ (hw _ (List.mem_of_getElem? (i := 63) rfl)) (hw _ (List.mem_of_getElem? (i := 2) rfl)) (by decide) (by decide)) q21a q21c (g := (mkF m 62 #[.val (.int p1), .val (.int p2), .val (.int (2 : Int32)), .val (.int z), .val (.ref f), .val (.int ((1 : Int32) &&& (1 : Int32))), .val (.int (0 : Int32)), .unset] [(.ref f)])) rfl (by rw [hml]; rfl) (Steps.refl _) (argsL := []) (rest := []) (lenOf pd_rm0_1 rfl) rfl (by show 2 * 0 + _ ≤ _; exact Nat.le_of_eq rfl) (hb hby at_62) (fun _ _ => ⟨rfl, rfl, (by decide : 3 + 0 ≤ _), (by decide : 7 + 0 ≤ _)⟩)
      dsimp only [Pt.U, Pt.locs, Pt.cells, Pt.slots] at X21 l21 y21 z21 st21 hQ21
      subst l21 y21 z21
      obtain ⟨rfl, N21q, Kc21, Ea21, Fa21, Fb21, Fc21⟩ := hQ21
      have N21 := Fr.app N20 N21q
      have hzt := hzt.keep Kc21 (allS g_f all0)
      have B_bs := B_bs.keep Kc21 (ninS (Ne.symm ne_f_bs) nin0) (ninS (Ne.symm ne_f_wa) nin0)
      have Z21 : n0 ≤ T21.heap.size := Nat.le_trans Z20 Kc21.1
      refine OEnds.go (t' := T21.setTop (mkF m 65 #[.val (.int p1), .val (.int p2), .val (.int (2 : Int32)), .val (.int z), .val (.ref f), .val (.int ((1 : Int32) &&& (1 : Int32))), .val (.int (0 : Int32)), .unset] [(.int (1 : Int32))])) (fun _ k => st21.trans k) ?_
      have E_f := Ea21
      have F_locals_f := Fa21
      have F_assigned_f := Fb21
      have F_reach_f := Fc21
      rw [show ((1 : Int32) + 1 : Int32) = (2 : Int32) from by decide] at F_locals_f
      refine OEnds.go (t' := T21.setTop (mkF m 72 #[.val (.int p1), .val (.int p2), .val (.int (2 : Int32)), .val (.int z), .val (.ref f), .val (.int ((1 : Int32) &&& (1 : Int32))), .val (.int (1 : Int32)), .unset] [(.int (1 : Int32)), (.int (1 : Int32)), (.int ((1 : Int32) &&& (1 : Int32)))])) (fun _ k => ?_) ?_
      · show Steps p.tables e below (T21.setTop (mkF m 65 #[.val (.int p1), .val (.int p2), .val (.int (2 : Int32)), .val (.int z), .val (.ref f), .val (.int ((1 : Int32) &&& (1 : Int32))), .val (.int (0 : Int32)), .unset] [(.int (1 : Int32))])) _
        refine XS.istore X21.here hx rfl (hb hby at_65) rfl (l' := #[.val (.int p1), .val (.int p2), .val (.int (2 : Int32)), .val (.int z), .val (.ref f), .val (.int ((1 : Int32) &&& (1 : Int32))), .val (.int (1 : Int32)), .unset]) rfl ?_
        show Steps p.tables e below (T21.setTop (mkF m 67 #[.val (.int p1), .val (.int p2), .val (.int (2 : Int32)), .val (.int z), .val (.ref f), .val (.int ((1 : Int32) &&& (1 : Int32))), .val (.int (1 : Int32)), .unset] [])) _
        refine XS.iload X21.here hx rfl (hb hby at_67) rfl ?_
        show Steps p.tables e below (T21.setTop (mkF m 69 #[.val (.int p1), .val (.int p2), .val (.int (2 : Int32)), .val (.int z), .val (.ref f), .val (.int ((1 : Int32) &&& (1 : Int32))), .val (.int (1 : Int32)), .unset] [(.int ((1 : Int32) &&& (1 : Int32)))])) _
        refine XS.iload X21.here hx rfl (hb hby at_69) rfl ?_
        show Steps p.tables e below (T21.setTop (mkF m 71 #[.val (.int p1), .val (.int p2), .val (.int (2 : Int32)), .val (.int z), .val (.ref f), .val (.int ((1 : Int32) &&& (1 : Int32))), .val (.int (1 : Int32)), .unset] [(.int (1 : Int32)), (.int ((1 : Int32) &&& (1 : Int32)))])) _
        refine XS.iconst X21.here hx rfl (hb hby at_71) ?_
        show Steps p.tables e below (T21.setTop (mkF m 72 #[.val (.int p1), .val (.int p2), .val (.int (2 : Int32)), .val (.int z), .val (.ref f), .val (.int ((1 : Int32) &&& (1 : Int32))), .val (.int (1 : Int32)), .unset] [(.int (1 : Int32)), (.int (1 : Int32)), (.int ((1 : Int32) &&& (1 : Int32)))])) _
        exact k
      refine OEnds.go (t' := T21.setTop (mkF m 75 #[.val (.int p1), .val (.int p2), .val (.int (2 : Int32)), .val (.int z), .val (.ref f), .val (.int ((1 : Int32) &&& (1 : Int32))), .val (.int (1 : Int32)), .unset] [(.int ((1 : Int32) &&& (1 : Int32)))])) (fun _ k => XS.icmpNo X21.here hx rfl (hb hby at_72) rfl (teq (by decide)).2 k) ?_
      refine OEnds.go (t' := T21.setTop (mkF m 85 #[.val (.int p1), .val (.int p2), .val (.int (2 : Int32)), .val (.int z), .val (.ref f), .val (.int (((1 : Int32) &&& (1 : Int32)) &&& (1 : Int32))), .val (.int (1 : Int32)), .unset] [(.int (3 : Int32)), (.int (2 : Int32))])) (fun _ k => ?_) ?_
      · show Steps p.tables e below (T21.setTop (mkF m 75 #[.val (.int p1), .val (.int p2), .val (.int (2 : Int32)), .val (.int z), .val (.ref f), .val (.int ((1 : Int32) &&& (1 : Int32))), .val (.int (1 : Int32)), .unset] [(.int ((1 : Int32) &&& (1 : Int32)))])) _
        refine XS.iconst X21.here hx rfl (hb hby at_75) ?_
        show Steps p.tables e below (T21.setTop (mkF m 76 #[.val (.int p1), .val (.int p2), .val (.int (2 : Int32)), .val (.int z), .val (.ref f), .val (.int ((1 : Int32) &&& (1 : Int32))), .val (.int (1 : Int32)), .unset] [(.int (1 : Int32)), (.int ((1 : Int32) &&& (1 : Int32)))])) _
        refine XS.goto X21.here hx rfl (pc0 := 76) (pc' := 80) rfl (hb hby at_76) (by decide) (by decide) ?_
        show Steps p.tables e below (T21.setTop (mkF m 80 #[.val (.int p1), .val (.int p2), .val (.int (2 : Int32)), .val (.int z), .val (.ref f), .val (.int ((1 : Int32) &&& (1 : Int32))), .val (.int (1 : Int32)), .unset] [(.int (1 : Int32)), (.int ((1 : Int32) &&& (1 : Int32)))])) _
        refine XS.iand X21.here hx rfl (hb hby at_80) rfl ?_
        show Steps p.tables e below (T21.setTop (mkF m 81 #[.val (.int p1), .val (.int p2), .val (.int (2 : Int32)), .val (.int z), .val (.ref f), .val (.int ((1 : Int32) &&& (1 : Int32))), .val (.int (1 : Int32)), .unset] [(.int (((1 : Int32) &&& (1 : Int32)) &&& (1 : Int32)))])) _
        refine XS.istore X21.here hx rfl (hb hby at_81) rfl (l' := #[.val (.int p1), .val (.int p2), .val (.int (2 : Int32)), .val (.int z), .val (.ref f), .val (.int (((1 : Int32) &&& (1 : Int32)) &&& (1 : Int32))), .val (.int (1 : Int32)), .unset]) rfl ?_
        show Steps p.tables e below (T21.setTop (mkF m 83 #[.val (.int p1), .val (.int p2), .val (.int (2 : Int32)), .val (.int z), .val (.ref f), .val (.int (((1 : Int32) &&& (1 : Int32)) &&& (1 : Int32))), .val (.int (1 : Int32)), .unset] [])) _
        refine XS.iloadN X21.here hx rfl (hb hby at_83) rfl ?_
        show Steps p.tables e below (T21.setTop (mkF m 84 #[.val (.int p1), .val (.int p2), .val (.int (2 : Int32)), .val (.int z), .val (.ref f), .val (.int (((1 : Int32) &&& (1 : Int32)) &&& (1 : Int32))), .val (.int (1 : Int32)), .unset] [(.int (2 : Int32))])) _
        refine XS.iconst X21.here hx rfl (hb hby at_84) ?_
        show Steps p.tables e below (T21.setTop (mkF m 85 #[.val (.int p1), .val (.int p2), .val (.int (2 : Int32)), .val (.int z), .val (.ref f), .val (.int (((1 : Int32) &&& (1 : Int32)) &&& (1 : Int32))), .val (.int (1 : Int32)), .unset] [(.int (3 : Int32)), (.int (2 : Int32))])) _
        exact k
      refine OEnds.go (t' := T21.setTop (mkF m 111 #[.val (.int p1), .val (.int p2), .val (.int (2 : Int32)), .val (.int z), .val (.ref f), .val (.int (((1 : Int32) &&& (1 : Int32)) &&& (1 : Int32))), .val (.int (1 : Int32)), .unset] [])) (fun _ k => XS.icmpYes X21.here hx rfl (pc0 := 85) (pc' := 111) rfl (hb hby at_85) rfl (tlt (by decide)).1 (by decide) (by decide) k) ?_
      refine OEnds.go (t' := T21.setTop (mkF m 112 #[.val (.int p1), .val (.int p2), .val (.int (2 : Int32)), .val (.int z), .val (.ref f), .val (.int (((1 : Int32) &&& (1 : Int32)) &&& (1 : Int32))), .val (.int (1 : Int32)), .unset] [(.int z)])) (fun _ k => ?_) ?_
      · show Steps p.tables e below (T21.setTop (mkF m 111 #[.val (.int p1), .val (.int p2), .val (.int (2 : Int32)), .val (.int z), .val (.ref f), .val (.int (((1 : Int32) &&& (1 : Int32)) &&& (1 : Int32))), .val (.int (1 : Int32)), .unset] [])) _
        refine XS.iloadN X21.here hx rfl (hb hby at_111) rfl ?_
        show Steps p.tables e below (T21.setTop (mkF m 112 #[.val (.int p1), .val (.int p2), .val (.int (2 : Int32)), .val (.int z), .val (.ref f), .val (.int (((1 : Int32) &&& (1 : Int32)) &&& (1 : Int32))), .val (.int (1 : Int32)), .unset] [(.int z)])) _
        exact k
      refine OEnds.cut (fun En => ∀ (Tq : State) (Tq_l : List Loc) (hq : Heap), Stand p l e room_1 s m #[(.int p1), (.int p2)] below meth c Tq Tq_l 5 11 → Tq.heap = hq → Fr n0 Tq_l → n0 ≤ hq.size → ∀ (qs : Addr) (qw : Addr) (qk : ClassId) (u : Int32) (w : Int64) (ur : Value), Old Z n0 hq → Exa Z hq f "com/example/typewright/typewright/Flow" → Fld Z hq f "com/example/typewright/typewright/Flow" "locals" "I" (.int (2 : Int32)) → Fld Z hq f "com/example/typewright/typewright/Flow" "assigned" "Ljava/util/BitSet;" (.ref qs) → Fld Z hq f "com/example/typewright/typewright/Flow" "reach" "Lcom/example/typewright/typewright/Flow$Reach;" ur → own_Bits Z hq qs qw qk u w → f ≠ qs → f ≠ qw → own_get u w (2 : Int32) = 0 → own_get u w (3 : Int32) = 0 → own_get u w 0 = z → own_get u w (1 : Int32) = z → En (Tq.setTop (mkF m 120 #[.val (.int p1), .val (.int p2), .val (.int (2 : Int32)), .val (.int z), .val (.ref f), .val (.int (((1 : Int32) &&& (1 : Int32)) &&& (1 : Int32))), .val (.int (1 : Int32)), .unset] []))) ?_ (fun K120 => ?_)
      · intro Tq Tq_l hq XTq eTq NTq ZTq qs qw qk u w ur hzt E_f F_locals_f F_assigned_f F_reach_f B_q ne_f_qs ne_f_qw hA hB hC hD
        refine OEnds.go (t' := Tq.setTop (mkF m 122 #[.val (.int p1), .val (.int p2), .val (.int (2 : Int32)), .val (.int z), .val (.ref f), .val (.int (((1 : Int32) &&& (1 : Int32)) &&& (1 : Int32))), .val (.int (1 : Int32)), .unset] [(.ref f)])) (fun _ k => ?_) ?_
        · show Steps p.tables e below (Tq.setTop (mkF m 120 #[.val (.int p1), .val (.int p2), .val (.int (2 : Int32)), .val (.int z), .val (.ref f), .val (.int (((1 : Int32) &&& (1 : Int32)) &&& (1 : Int32))), .val (.int (1 : Int32)), .unset] [])) _
          refine XS.aload XTq.here hx rfl (hb hby at_120) rfl rfl ?_
          show Steps p.tables e below (Tq.setTop (mkF m 122 #[.val (.int p1), .val (.int p2), .val (.int (2 : Int32)), .val (.int z), .val (.ref f), .val (.int (((1 : Int32) &&& (1 : Int32)) &&& (1 : Int32))), .val (.int (1 : Int32)), .unset] [(.ref f)])) _
          exact k
        obtain ⟨cq22, kq22, q22a, q22b, q22c⟩ := isOf hZ eTq E_f
        obtain ⟨_, _, ⟨T22, L22, k22, n22⟩, -, X22, ⟨Lc22, hQ22, l22, y22, z22⟩, st22⟩ := XTq.virtualBack hx (y := (⟨"com/example/typewright/typewright/Flow", "declare", "()I"⟩ : MethodName)) (z := (⟨"com/example/typewright/typewright/Flow", "declare", "()I"⟩ : MethodName)) hown (mvT hZ (hw _ (List.mem_of_getElem? (i := 59) rfl))) (mvT hZ (hw _ (List.mem_of_getElem? (i := 60) rfl))) (notFace_of_selects (args := #[]) (mvT hZ (hw _ (List.mem_of_getElem? (i := 62) rfl)))) (mvT hZ (hw _ (List.mem_of_getElem? (i := 62) rfl))) (mvT hZ (hw _ (List.mem_of_getElem? (i := 61) rfl))) (by decide) (backOf (W := 0) (rm10 l Z a0 hw [] f (2 : Int32) _ _ hq n0 ZTq F_locals_f F_assigned_f F_reach_f E_f g_f) hZ (hw _ (List.mem_of_getElem? (i := 63) rfl)) (hw _ (List.mem_of_getElem? (i := 2) rfl)) (by decide) (by decide)) q22a q22c (g := (mkF m 122 #[.val (.int p1), .val (.int p2), .val (.int (2 : Int32)), .val (.int z), .val (.ref f), .val (.int (((1 : Int32) &&& (1 : Int32)) &&& (1 : Int32))), .val (.int (1 : Int32)), .unset] [(.ref f)])) rfl (by rw [hml]; rfl) (Steps.refl _) (argsL := []) (rest := []) (lenOf pd_rm0_1 rfl) rfl (by show 2 * 0 + _ ≤ _; exact Nat.le_of_eq rfl) (hb hby at_122) (fun _ _ => ⟨rfl, eTq, (by decide : 5 + 0 ≤ _), (by decide : 11 + 0 ≤ _)⟩)
        dsimp only [Pt.U, Pt.locs, Pt.cells, Pt.slots] at X22 l22 y22 z22 st22 hQ22
        subst l22 y22 z22
        obtain ⟨rfl, N22q, Kc22, Ea22, Fa22, Fb22, Fc22⟩ := hQ22
        have N22 := Fr.app NTq N22q
        have hzt := hzt.keep Kc22 (allS g_f all0)
        have B_q := B_q.keep Kc22 (ninS (Ne.symm ne_f_qs) nin0) (ninS (Ne.symm ne_f_qw) nin0)
        have Z22 : n0 ≤ T22.heap.size := Nat.le_trans ZTq Kc22.1
        refine OEnds.go (t' := T22.setTop (mkF m 125 #[.val (.int p1), .val (.int p2), .val (.int (2 : Int32)), .val (.int z), .val (.ref f), .val (.int (((1 : Int32) &&& (1 : Int32)) &&& (1 : Int32))), .val (.int (1 : Int32)), .unset] [(.int (2 : Int32))])) (fun _ k => st22.trans k) ?_
        have E_f := Ea22
        have F_locals_f := Fa22
        have F_assigned_f := Fb22
        have F_reach_f := Fc22
        rw [show ((2 : Int32) + 1 : Int32) = (3 : Int32) from by decide] at F_locals_f
        refine OEnds.go (t' := T22.setTop (mkF m 129 #[.val (.int p1), .val (.int p2), .val (.int (2 : Int32)), .val (.int z), .val (.ref f), .val (.int (((1 : Int32) &&& (1 : Int32)) &&& (1 : Int32))), .val (.int (2 : Int32)), .unset] [(.ref f)])) (fun _ k => ?_) ?_
        · show Steps p.tables e below (T22.setTop (mkF m 125 #[.val (.int p1), .val (.int p2), .val (.int (2 : Int32)), .val (.int z), .val (.ref f), .val (.int (((1 : Int32) &&& (1 : Int32)) &&& (1 : Int32))), .val (.int (1 : Int32)), .unset] [(.int (2 : Int32))])) _
          refine XS.istore X22.here hx rfl (hb hby at_125) rfl (l' := #[.val (.int p1), .val (.int p2), .val (.int (2 : Int32)), .val (.int z), .val (.ref f), .val (.int (((1 : Int32) &&& (1 : Int32)) &&& (1 : Int32))), .val (.int (2 : Int32)), .unset]) rfl ?_
          show Steps p.tables e below (T22.setTop (mkF m 127 #[.val (.int p1), .val (.int p2), .val (.int (2 : Int32)), .val (.int z), .val (.ref f), .val (.int (((1 : Int32) &&& (1 : Int32)) &&& (1 : Int32))), .val (.int (2 : Int32)), .unset] [])) _
          refine XS.aload X22.here hx rfl (hb hby at_127) rfl rfl ?_
          show Steps p.tables e below (T22.setTop (mkF m 129 #[.val (.int p1), .val (.int p2), .val (.int (2 : Int32)), .val (.int z), .val (.ref f), .val (.int (((1 : Int32) &&& (1 : Int32)) &&& (1 : Int32))), .val (.int (2 : Int32)), .unset] [(.ref f)])) _
          exact k
        obtain ⟨cq23, kq23, q23a, q23b, q23c⟩ := isOf hZ rfl E_f
        obtain ⟨_, _, ⟨T23, L23, k23, n23⟩, -, X23, ⟨Lc23, hQ23, l23, y23, z23⟩, st23⟩ := X22.virtualBack hx (y := (⟨"com/example/typewright/typewright/Flow", "declare", "()I"⟩ : MethodName)) (z := (⟨"com/example/typewright/typewright/Flow", "declare", "()I"⟩ : MethodName)) hown (mvT hZ (hw _ (List.mem_of_getElem? (i := 59) rfl))) (mvT hZ (hw _ (List.mem_of_getElem? (i := 60) rfl))) (notFace_of_selects (args := #[]) (mvT hZ (hw _ (List.mem_of_getElem? (i := 62) rfl)))) (mvT hZ (hw _ (List.mem_of_getElem? (i := 62) rfl))) (mvT hZ (hw _ (List.mem_of_getElem? (i := 61) rfl))) (by decide) (backOf (W := 0) (rm10 l Z a0 hw [] f (3 : Int32) _ _ T22.heap n0 Z22 F_locals_f F_assigned_f F_reach_f E_f g_f) hZ (hw _ (List.mem_of_getElem? (i := 63) rfl)) (hw _ (List.mem_of_getElem? (i := 2) rfl)) (by decide) (by decide)) q23a q23c (g := (mkF m 129 #[.val (.int p1), .val (.int p2), .val (.int (2 : Int32)), .val (.int z), .val (.ref f), .val (.int (((1 : Int32) &&& (1 : Int32)) &&& (1 : Int32))), .val (.int (2 : Int32)), .unset] [(.ref f)])) rfl (by rw [hml]; rfl) (Steps.refl _) (argsL := []) (rest := []) (lenOf pd_rm0_1 rfl) rfl (by show 2 * 0 + _ ≤ _; exact Nat.le_of_eq rfl) (hb hby at_129) (fun _ _ => ⟨rfl, rfl, (by decide : 5 + 0 ≤ _), (by decide : 11 + 0 ≤ _)⟩)
        dsimp only [Pt.U, Pt.locs, Pt.cells, Pt.slots] at X23 l23 y23 z23 st23 hQ23
        subst l23 y23 z23
        obtain ⟨rfl, N23q, Kc23, Ea23, Fa23, Fb23, Fc23⟩ := hQ23
        have N23 := Fr.app N22 N23q
        have hzt := hzt.keep Kc23 (allS g_f all0)
        have B_q := B_q.keep Kc23 (ninS (Ne.symm ne_f_qs) nin0) (ninS (Ne.symm ne_f_qw) nin0)
        have Z23 : n0 ≤ T23.heap.size := Nat.le_trans Z22 Kc23.1
        refine OEnds.go (t' := T23.setTop (mkF m 132 #[.val (.int p1), .val (.int p2), .val (.int (2 : Int32)), .val (.int z), .val (.ref f), .val (.int (((1 : Int32) &&& (1 : Int32)) &&& (1 : Int32))), .val (.int (2 : Int32)), .unset] [(.int (3 : Int32))])) (fun _ k => st23.trans k) ?_
        have E_f := Ea23
        have F_locals_f := Fa23
        have F_assigned_f := Fb23
        have F_reach_f := Fc23
        rw [show ((3 : Int32) + 1 : Int32) = (4 : Int32) from by decide] at F_locals_f
        refine OEnds.go (t' := T23.setTop (mkF m 139 #[.val (.int p1), .val (.int p2), .val (.int (2 : Int32)), .val (.int z), .val (.ref f), .val (.int (((1 : Int32) &&& (1 : Int32)) &&& (1 : Int32))), .val (.int (2 : Int32)), .val (.int (3 : Int32))] [(.int (2 : Int32)), (.int (2 : Int32)), (.int (((1 : Int32) &&& (1 : Int32)) &&& (1 : Int32)))])) (fun _ k => ?_) ?_
        · show Steps p.tables e below (T23.setTop (mkF m 132 #[.val (.int p1), .val (.int p2), .val (.int (2 : Int32)), .val (.int z), .val (.ref f), .val (.int (((1 : Int32) &&& (1 : Int32)) &&& (1 : Int32))), .val (.int (2 : Int32)), .unset] [(.int (3 : Int32))])) _
          refine XS.istore X23.here hx rfl (hb hby at_132) rfl (l' := #[.val (.int p1), .val (.int p2), .val (.int (2 : Int32)), .val (.int z), .val (.ref f), .val (.int (((1 : Int32) &&& (1 : Int32)) &&& (1 : Int32))), .val (.int (2 : Int32)), .val (.int (3 : Int32))]) rfl ?_
          show Steps p.tables e below (T23.setTop (mkF m 134 #[.val (.int p1), .val (.int p2), .val (.int (2 : Int32)), .val (.int z), .val (.ref f), .val (.int (((1 : Int32) &&& (1 : Int32)) &&& (1 : Int32))), .val (.int (2 : Int32)), .val (.int (3 : Int32))] [])) _
          refine XS.iload X23.here hx rfl (hb hby at_134) rfl ?_
          show Steps p.tables e below (T23.setTop (mkF m 136 #[.val (.int p1), .val (.int p2), .val (.int (2 : Int32)), .val (.int z), .val (.ref f), .val (.int (((1 : Int32) &&& (1 : Int32)) &&& (1 : Int32))), .val (.int (2 : Int32)), .val (.int (3 : Int32))] [(.int (((1 : Int32) &&& (1 : Int32)) &&& (1 : Int32)))])) _
          refine XS.iload X23.here hx rfl (hb hby at_136) rfl ?_
          show Steps p.tables e below (T23.setTop (mkF m 138 #[.val (.int p1), .val (.int p2), .val (.int (2 : Int32)), .val (.int z), .val (.ref f), .val (.int (((1 : Int32) &&& (1 : Int32)) &&& (1 : Int32))), .val (.int (2 : Int32)), .val (.int (3 : Int32))] [(.int (2 : Int32)), (.int (((1 : Int32) &&& (1 : Int32)) &&& (1 : Int32)))])) _
          refine XS.iloadN X23.here hx rfl (hb hby at_138) rfl ?_
          show Steps p.tables e below (T23.setTop (mkF m 139 #[.val (.int p1), .val (.int p2), .val (.int (2 : Int32)), .val (.int z), .val (.ref f), .val (.int (((1 : Int32) &&& (1 : Int32)) &&& (1 : Int32))), .val (.int (2 : Int32)), .val (.int (3 : Int32))] [(.int (2 : Int32)), (.int (2 : Int32)), (.int (((1 : Int32) &&& (1 : Int32)) &&& (1 : Int32)))])) _
          exact k
        refine OEnds.go (t' := T23.setTop (mkF m 142 #[.val (.int p1), .val (.int p2), .val (.int (2 : Int32)), .val (.int z), .val (.ref f), .val (.int (((1 : Int32) &&& (1 : Int32)) &&& (1 : Int32))), .val (.int (2 : Int32)), .val (.int (3 : Int32))] [(.int (((1 : Int32) &&& (1 : Int32)) &&& (1 : Int32)))])) (fun _ k => XS.icmpNo X23.here hx rfl (hb hby at_139) rfl (teq (by decide)).2 k) ?_
        refine OEnds.go (t' := T23.setTop (mkF m 157 #[.val (.int p1), .val (.int p2), .val (.int (2 : Int32)), .val (.int z), .val (.ref f), .val (.int ((((1 : Int32) &&& (1 : Int32)) &&& (1 : Int32)) &&& (1 : Int32))), .val (.int (2 : Int32)), .val (.int (3 : Int32))] [(.int ((2 : Int32) + (1 : Int32))), (.int (3 : Int32)), (.int ((((1 : Int32) &&& (1 : Int32)) &&& (1 : Int32)) &&& (1 : Int32)))])) (fun _ k => ?_) ?_
        · show Steps p.tables e below (T23.setTop (mkF m 142 #[.val (.int p1), .val (.int p2), .val (.int (2 : Int32)), .val (.int z), .val (.ref f), .val (.int (((1 : Int32) &&& (1 : Int32)) &&& (1 : Int32))), .val (.int (2 : Int32)), .val (.int (3 : Int32))] [(.int (((1 : Int32) &&& (1 : Int32)) &&& (1 : Int32)))])) _
          refine XS.iconst X23.here hx rfl (hb hby at_142) ?_
          show Steps p.tables e below (T23.setTop (mkF m 143 #[.val (.int p1), .val (.int p2), .val (.int (2 : Int32)), .val (.int z), .val (.ref f), .val (.int (((1 : Int32) &&& (1 : Int32)) &&& (1 : Int32))), .val (.int (2 : Int32)), .val (.int (3 : Int32))] [(.int (1 : Int32)), (.int (((1 : Int32) &&& (1 : Int32)) &&& (1 : Int32)))])) _
          refine XS.goto X23.here hx rfl (pc0 := 143) (pc' := 147) rfl (hb hby at_143) (by decide) (by decide) ?_
          show Steps p.tables e below (T23.setTop (mkF m 147 #[.val (.int p1), .val (.int p2), .val (.int (2 : Int32)), .val (.int z), .val (.ref f), .val (.int (((1 : Int32) &&& (1 : Int32)) &&& (1 : Int32))), .val (.int (2 : Int32)), .val (.int (3 : Int32))] [(.int (1 : Int32)), (.int (((1 : Int32) &&& (1 : Int32)) &&& (1 : Int32)))])) _
          refine XS.iand X23.here hx rfl (hb hby at_147) rfl ?_
          show Steps p.tables e below (T23.setTop (mkF m 148 #[.val (.int p1), .val (.int p2), .val (.int (2 : Int32)), .val (.int z), .val (.ref f), .val (.int (((1 : Int32) &&& (1 : Int32)) &&& (1 : Int32))), .val (.int (2 : Int32)), .val (.int (3 : Int32))] [(.int ((((1 : Int32) &&& (1 : Int32)) &&& (1 : Int32)) &&& (1 : Int32)))])) _
          refine XS.istore X23.here hx rfl (hb hby at_148) rfl (l' := #[.val (.int p1), .val (.int p2), .val (.int (2 : Int32)), .val (.int z), .val (.ref f), .val (.int ((((1 : Int32) &&& (1 : Int32)) &&& (1 : Int32)) &&& (1 : Int32))), .val (.int (2 : Int32)), .val (.int (3 : Int32))]) rfl ?_
          show Steps p.tables e below (T23.setTop (mkF m 150 #[.val (.int p1), .val (.int p2), .val (.int (2 : Int32)), .val (.int z), .val (.ref f), .val (.int ((((1 : Int32) &&& (1 : Int32)) &&& (1 : Int32)) &&& (1 : Int32))), .val (.int (2 : Int32)), .val (.int (3 : Int32))] [])) _
          refine XS.iload X23.here hx rfl (hb hby at_150) rfl ?_
          show Steps p.tables e below (T23.setTop (mkF m 152 #[.val (.int p1), .val (.int p2), .val (.int (2 : Int32)), .val (.int z), .val (.ref f), .val (.int ((((1 : Int32) &&& (1 : Int32)) &&& (1 : Int32)) &&& (1 : Int32))), .val (.int (2 : Int32)), .val (.int (3 : Int32))] [(.int ((((1 : Int32) &&& (1 : Int32)) &&& (1 : Int32)) &&& (1 : Int32)))])) _
          refine XS.iload X23.here hx rfl (hb hby at_152) rfl ?_
          show Steps p.tables e below (T23.setTop (mkF m 154 #[.val (.int p1), .val (.int p2), .val (.int (2 : Int32)), .val (.int z), .val (.ref f), .val (.int ((((1 : Int32) &&& (1 : Int32)) &&& (1 : Int32)) &&& (1 : Int32))), .val (.int (2 : Int32)), .val (.int (3 : Int32))] [(.int (3 : Int32)), (.int ((((1 : Int32) &&& (1 : Int32)) &&& (1 : Int32)) &&& (1 : Int32)))])) _
          refine XS.iloadN X23.here hx rfl (hb hby at_154) rfl ?_
          show Steps p.tables e below (T23.setTop (mkF m 155 #[.val (.int p1), .val (.int p2), .val (.int (2 : Int32)), .val (.int z), .val (.ref f), .val (.int ((((1 : Int32) &&& (1 : Int32)) &&& (1 : Int32)) &&& (1 : Int32))), .val (.int (2 : Int32)), .val (.int (3 : Int32))] [(.int (2 : Int32)), (.int (3 : Int32)), (.int ((((1 : Int32) &&& (1 : Int32)) &&& (1 : Int32)) &&& (1 : Int32)))])) _
          refine XS.iconst X23.here hx rfl (hb hby at_155) ?_
          show Steps p.tables e below (T23.setTop (mkF m 156 #[.val (.int p1), .val (.int p2), .val (.int (2 : Int32)), .val (.int z), .val (.ref f), .val (.int ((((1 : Int32) &&& (1 : Int32)) &&& (1 : Int32)) &&& (1 : Int32))), .val (.int (2 : Int32)), .val (.int (3 : Int32))] [(.int (1 : Int32)), (.int (2 : Int32)), (.int (3 : Int32)), (.int ((((1 : Int32) &&& (1 : Int32)) &&& (1 : Int32)) &&& (1 : Int32)))])) _
          refine XS.iadd X23.here hx rfl (hb hby at_156) rfl ?_
          show Steps p.tables e below (T23.setTop (mkF m 157 #[.val (.int p1), .val (.int p2), .val (.int (2 : Int32)), .val (.int z), .val (.ref f), .val (.int ((((1 : Int32) &&& (1 : Int32)) &&& (1 : Int32)) &&& (1 : Int32))), .val (.int (2 : Int32)), .val (.int (3 : Int32))] [(.int ((2 : Int32) + (1 : Int32))), (.int (3 : Int32)), (.int ((((1 : Int32) &&& (1 : Int32)) &&& (1 : Int32)) &&& (1 : Int32)))])) _
          exact k
        refine OEnds.go (t' := T23.setTop (mkF m 160 #[.val (.int p1), .val (.int p2), .val (.int (2 : Int32)), .val (.int z), .val (.ref f), .val (.int ((((1 : Int32) &&& (1 : Int32)) &&& (1 : Int32)) &&& (1 : Int32))), .val (.int (2 : Int32)), .val (.int (3 : Int32))] [(.int ((((1 : Int32) &&& (1 : Int32)) &&& (1 : Int32)) &&& (1 : Int32)))])) (fun _ k => XS.icmpNo X23.here hx rfl (hb hby at_157) rfl (teq (by decide)).2 k) ?_
        refine OEnds.go (t' := T23.setTop (mkF m 174 #[.val (.int p1), .val (.int p2), .val (.int (2 : Int32)), .val (.int z), .val (.ref f), .val (.int (((((1 : Int32) &&& (1 : Int32)) &&& (1 : Int32)) &&& (1 : Int32)) &&& (1 : Int32))), .val (.int (2 : Int32)), .val (.int (3 : Int32))] [(.int (2 : Int32)), (.ref f), (.int (((((1 : Int32) &&& (1 : Int32)) &&& (1 : Int32)) &&& (1 : Int32)) &&& (1 : Int32)))])) (fun _ k => ?_) ?_
        · show Steps p.tables e below (T23.setTop (mkF m 160 #[.val (.int p1), .val (.int p2), .val (.int (2 : Int32)), .val (.int z), .val (.ref f), .val (.int ((((1 : Int32) &&& (1 : Int32)) &&& (1 : Int32)) &&& (1 : Int32))), .val (.int (2 : Int32)), .val (.int (3 : Int32))] [(.int ((((1 : Int32) &&& (1 : Int32)) &&& (1 : Int32)) &&& (1 : Int32)))])) _
          refine XS.iconst X23.here hx rfl (hb hby at_160) ?_
          show Steps p.tables e below (T23.setTop (mkF m 161 #[.val (.int p1), .val (.int p2), .val (.int (2 : Int32)), .val (.int z), .val (.ref f), .val (.int ((((1 : Int32) &&& (1 : Int32)) &&& (1 : Int32)) &&& (1 : Int32))), .val (.int (2 : Int32)), .val (.int (3 : Int32))] [(.int (1 : Int32)), (.int ((((1 : Int32) &&& (1 : Int32)) &&& (1 : Int32)) &&& (1 : Int32)))])) _
          refine XS.goto X23.here hx rfl (pc0 := 161) (pc' := 165) rfl (hb hby at_161) (by decide) (by decide) ?_
          show Steps p.tables e below (T23.setTop (mkF m 165 #[.val (.int p1), .val (.int p2), .val (.int (2 : Int32)), .val (.int z), .val (.ref f), .val (.int ((((1 : Int32) &&& (1 : Int32)) &&& (1 : Int32)) &&& (1 : Int32))), .val (.int (2 : Int32)), .val (.int (3 : Int32))] [(.int (1 : Int32)), (.int ((((1 : Int32) &&& (1 : Int32)) &&& (1 : Int32)) &&& (1 : Int32)))])) _
          refine XS.iand X23.here hx rfl (hb hby at_165) rfl ?_
          show Steps p.tables e below (T23.setTop (mkF m 166 #[.val (.int p1), .val (.int p2), .val (.int (2 : Int32)), .val (.int z), .val (.ref f), .val (.int ((((1 : Int32) &&& (1 : Int32)) &&& (1 : Int32)) &&& (1 : Int32))), .val (.int (2 : Int32)), .val (.int (3 : Int32))] [(.int (((((1 : Int32) &&& (1 : Int32)) &&& (1 : Int32)) &&& (1 : Int32)) &&& (1 : Int32)))])) _
          refine XS.istore X23.here hx rfl (hb hby at_166) rfl (l' := #[.val (.int p1), .val (.int p2), .val (.int (2 : Int32)), .val (.int z), .val (.ref f), .val (.int (((((1 : Int32) &&& (1 : Int32)) &&& (1 : Int32)) &&& (1 : Int32)) &&& (1 : Int32))), .val (.int (2 : Int32)), .val (.int (3 : Int32))]) rfl ?_
          show Steps p.tables e below (T23.setTop (mkF m 168 #[.val (.int p1), .val (.int p2), .val (.int (2 : Int32)), .val (.int z), .val (.ref f), .val (.int (((((1 : Int32) &&& (1 : Int32)) &&& (1 : Int32)) &&& (1 : Int32)) &&& (1 : Int32))), .val (.int (2 : Int32)), .val (.int (3 : Int32))] [])) _
          refine XS.iload X23.here hx rfl (hb hby at_168) rfl ?_
          show Steps p.tables e below (T23.setTop (mkF m 170 #[.val (.int p1), .val (.int p2), .val (.int (2 : Int32)), .val (.int z), .val (.ref f), .val (.int (((((1 : Int32) &&& (1 : Int32)) &&& (1 : Int32)) &&& (1 : Int32)) &&& (1 : Int32))), .val (.int (2 : Int32)), .val (.int (3 : Int32))] [(.int (((((1 : Int32) &&& (1 : Int32)) &&& (1 : Int32)) &&& (1 : Int32)) &&& (1 : Int32)))])) _
          refine XS.aload X23.here hx rfl (hb hby at_170) rfl rfl ?_
          show Steps p.tables e below (T23.setTop (mkF m 172 #[.val (.int p1), .val (.int p2), .val (.int (2 : Int32)), .val (.int z), .val (.ref f), .val (.int (((((1 : Int32) &&& (1 : Int32)) &&& (1 : Int32)) &&& (1 : Int32)) &&& (1 : Int32))), .val (.int (2 : Int32)), .val (.int (3 : Int32))] [(.ref f), (.int (((((1 : Int32) &&& (1 : Int32)) &&& (1 : Int32)) &&& (1 : Int32)) &&& (1 : Int32)))])) _
          refine XS.iload X23.here hx rfl (hb hby at_172) rfl ?_
          show Steps p.tables e below (T23.setTop (mkF m 174 #[.val (.int p1), .val (.int p2), .val (.int (2 : Int32)), .val (.int z), .val (.ref f), .val (.int (((((1 : Int32) &&& (1 : Int32)) &&& (1 : Int32)) &&& (1 : Int32)) &&& (1 : Int32))), .val (.int (2 : Int32)), .val (.int (3 : Int32))] [(.int (2 : Int32)), (.ref f), (.int (((((1 : Int32) &&& (1 : Int32)) &&& (1 : Int32)) &&& (1 : Int32)) &&& (1 : Int32)))])) _
          exact k
        obtain ⟨cq24, kq24, q24a, q24b, q24c⟩ := isOf hZ rfl E_f
        obtain ⟨_, _, ⟨T24, L24, k24, n24⟩, -, X24, ⟨Lc24, hQ24, l24, y24, z24⟩, st24⟩ := X23.virtualBack hx (y := (⟨"com/example/typewright/typewright/Flow", "isAssigned", "(I)Z"⟩ : MethodName)) (z := (⟨"com/example/typewright/typewright/Flow", "isAssigned", "(I)Z"⟩ : MethodName)) hown (mvT hZ (hw _ (List.mem_of_getElem? (i := 64) rfl))) (mvT hZ (hw _ (List.mem_of_getElem? (i := 65) rfl))) (notFace_of_selects (args := #[]) (mvT hZ (hw _ (List.mem_of_getElem? (i := 67) rfl)))) (mvT hZ (hw _ (List.mem_of_getElem? (i := 67) rfl))) (mvT hZ (hw _ (List.mem_of_getElem? (i := 66) rfl))) (by decide) (backOf (W := 1) (rm11 l Z a0 hw [] f (2 : Int32) qs qw qk u w T23.heap n0 Z23 (S_A.ext hzt.2) F_assigned_f (by decide) (by decide) B_q) hZ (hw _ (List.mem_of_getElem? (i := 68) rfl)) (hw _ (List.mem_of_getElem? (i := 2) rfl)) (by decide) (by decide)) q24a q24c (g := (mkF m 174 #[.val (.int p1), .val (.int p2), .val (.int (2 : Int32)), .val (.int z), .val (.ref f), .val (.int (((((1 : Int32) &&& (1 : Int32)) &&& (1 : Int32)) &&& (1 : Int32)) &&& (1 : Int32))), .val (.int (2 : Int32)), .val (.int (3 : Int32))] [(.int (2 : Int32)), (.ref f), (.int (((((1 : Int32) &&& (1 : Int32)) &&& (1 : Int32)) &&& (1 : Int32)) &&& (1 : Int32)))])) rfl (by rw [hml]; rfl) (Steps.refl _) (argsL := [(.int (2 : Int32))]) (rest := [(.int (((((1 : Int32) &&& (1 : Int32)) &&& (1 : Int32)) &&& (1 : Int32)) &&& (1 : Int32)))]) (lenOf pd_rm0_2 rfl) rfl (by show 2 * 0 + _ ≤ _; exact Nat.le_of_eq rfl) (hb hby at_174) (fun _ _ => ⟨rfl, rfl, (by decide : 5 + 0 ≤ _), (by decide : 11 + 0 ≤ _)⟩)
        dsimp only [Pt.U, Pt.locs, Pt.cells, Pt.slots] at X24 l24 y24 z24 st24 hQ24
        subst l24 y24 z24
        obtain ⟨rfl, N24q, eh⟩ := hQ24
        have N24 := Fr.app N23 N24q
        have eh24 := eh
        refine OEnds.go (t' := T24.setTop (mkF m 177 #[.val (.int p1), .val (.int p2), .val (.int (2 : Int32)), .val (.int z), .val (.ref f), .val (.int (((((1 : Int32) &&& (1 : Int32)) &&& (1 : Int32)) &&& (1 : Int32)) &&& (1 : Int32))), .val (.int (2 : Int32)), .val (.int (3 : Int32))] [(.int (own_get u w (2 : Int32))), (.int (((((1 : Int32) &&& (1 : Int32)) &&& (1 : Int32)) &&& (1 : Int32)) &&& (1 : Int32)))])) (fun _ k => st24.trans k) ?_
        refine OEnds.go (t' := T24.setTop (mkF m 180 #[.val (.int p1), .val (.int p2), .val (.int (2 : Int32)), .val (.int z), .val (.ref f), .val (.int (((((1 : Int32) &&& (1 : Int32)) &&& (1 : Int32)) &&& (1 : Int32)) &&& (1 : Int32))), .val (.int (2 : Int32)), .val (.int (3 : Int32))] [(.int (((((1 : Int32) &&& (1 : Int32)) &&& (1 : Int32)) &&& (1 : Int32)) &&& (1 : Int32)))])) (fun _ k => XS.ifNo X24.here hx rfl (hb hby at_177) rfl ((if0 _ _).trans (teq hA).2) k) ?_
        refine OEnds.go (t' := T24.setTop (mkF m 194 #[.val (.int p1), .val (.int p2), .val (.int (2 : Int32)), .val (.int z), .val (.ref f), .val (.int ((((((1 : Int32) &&& (1 : Int32)) &&& (1 : Int32)) &&& (1 : Int32)) &&& (1 : Int32)) &&& (1 : Int32))), .val (.int (2 : Int32)), .val (.int (3 : Int32))] [(.int (3 : Int32)), (.ref f), (.int ((((((1 : Int32) &&& (1 : Int32)) &&& (1 : Int32)) &&& (1 : Int32)) &&& (1 : Int32)) &&& (1 : Int32)))])) (fun _ k => ?_) ?_
        · show Steps p.tables e below (T24.setTop (mkF m 180 #[.val (.int p1), .val (.int p2), .val (.int (2 : Int32)), .val (.int z), .val (.ref f), .val (.int (((((1 : Int32) &&& (1 : Int32)) &&& (1 : Int32)) &&& (1 : Int32)) &&& (1 : Int32))), .val (.int (2 : Int32)), .val (.int (3 : Int32))] [(.int (((((1 : Int32) &&& (1 : Int32)) &&& (1 : Int32)) &&& (1 : Int32)) &&& (1 : Int32)))])) _
          refine XS.iconst X24.here hx rfl (hb hby at_180) ?_
          show Steps p.tables e below (T24.setTop (mkF m 181 #[.val (.int p1), .val (.int p2), .val (.int (2 : Int32)), .val (.int z), .val (.ref f), .val (.int (((((1 : Int32) &&& (1 : Int32)) &&& (1 : Int32)) &&& (1 : Int32)) &&& (1 : Int32))), .val (.int (2 : Int32)), .val (.int (3 : Int32))] [(.int (1 : Int32)), (.int (((((1 : Int32) &&& (1 : Int32)) &&& (1 : Int32)) &&& (1 : Int32)) &&& (1 : Int32)))])) _
          refine XS.goto X24.here hx rfl (pc0 := 181) (pc' := 185) rfl (hb hby at_181) (by decide) (by decide) ?_
          show Steps p.tables e below (T24.setTop (mkF m 185 #[.val (.int p1), .val (.int p2), .val (.int (2 : Int32)), .val (.int z), .val (.ref f), .val (.int (((((1 : Int32) &&& (1 : Int32)) &&& (1 : Int32)) &&& (1 : Int32)) &&& (1 : Int32))), .val (.int (2 : Int32)), .val (.int (3 : Int32))] [(.int (1 : Int32)), (.int (((((1 : Int32) &&& (1 : Int32)) &&& (1 : Int32)) &&& (1 : Int32)) &&& (1 : Int32)))])) _
          refine XS.iand X24.here hx rfl (hb hby at_185) rfl ?_
          show Steps p.tables e below (T24.setTop (mkF m 186 #[.val (.int p1), .val (.int p2), .val (.int (2 : Int32)), .val (.int z), .val (.ref f), .val (.int (((((1 : Int32) &&& (1 : Int32)) &&& (1 : Int32)) &&& (1 : Int32)) &&& (1 : Int32))), .val (.int (2 : Int32)), .val (.int (3 : Int32))] [(.int ((((((1 : Int32) &&& (1 : Int32)) &&& (1 : Int32)) &&& (1 : Int32)) &&& (1 : Int32)) &&& (1 : Int32)))])) _
          refine XS.istore X24.here hx rfl (hb hby at_186) rfl (l' := #[.val (.int p1), .val (.int p2), .val (.int (2 : Int32)), .val (.int z), .val (.ref f), .val (.int ((((((1 : Int32) &&& (1 : Int32)) &&& (1 : Int32)) &&& (1 : Int32)) &&& (1 : Int32)) &&& (1 : Int32))), .val (.int (2 : Int32)), .val (.int (3 : Int32))]) rfl ?_
          show Steps p.tables e below (T24.setTop (mkF m 188 #[.val (.int p1), .val (.int p2), .val (.int (2 : Int32)), .val (.int z), .val (.ref f), .val (.int ((((((1 : Int32) &&& (1 : Int32)) &&& (1 : Int32)) &&& (1 : Int32)) &&& (1 : Int32)) &&& (1 : Int32))), .val (.int (2 : Int32)), .val (.int (3 : Int32))] [])) _
          refine XS.iload X24.here hx rfl (hb hby at_188) rfl ?_
          show Steps p.tables e below (T24.setTop (mkF m 190 #[.val (.int p1), .val (.int p2), .val (.int (2 : Int32)), .val (.int z), .val (.ref f), .val (.int ((((((1 : Int32) &&& (1 : Int32)) &&& (1 : Int32)) &&& (1 : Int32)) &&& (1 : Int32)) &&& (1 : Int32))), .val (.int (2 : Int32)), .val (.int (3 : Int32))] [(.int ((((((1 : Int32) &&& (1 : Int32)) &&& (1 : Int32)) &&& (1 : Int32)) &&& (1 : Int32)) &&& (1 : Int32)))])) _
          refine XS.aload X24.here hx rfl (hb hby at_190) rfl rfl ?_
          show Steps p.tables e below (T24.setTop (mkF m 192 #[.val (.int p1), .val (.int p2), .val (.int (2 : Int32)), .val (.int z), .val (.ref f), .val (.int ((((((1 : Int32) &&& (1 : Int32)) &&& (1 : Int32)) &&& (1 : Int32)) &&& (1 : Int32)) &&& (1 : Int32))), .val (.int (2 : Int32)), .val (.int (3 : Int32))] [(.ref f), (.int ((((((1 : Int32) &&& (1 : Int32)) &&& (1 : Int32)) &&& (1 : Int32)) &&& (1 : Int32)) &&& (1 : Int32)))])) _
          refine XS.iload X24.here hx rfl (hb hby at_192) rfl ?_
          show Steps p.tables e below (T24.setTop (mkF m 194 #[.val (.int p1), .val (.int p2), .val (.int (2 : Int32)), .val (.int z), .val (.ref f), .val (.int ((((((1 : Int32) &&& (1 : Int32)) &&& (1 : Int32)) &&& (1 : Int32)) &&& (1 : Int32)) &&& (1 : Int32))), .val (.int (2 : Int32)), .val (.int (3 : Int32))] [(.int (3 : Int32)), (.ref f), (.int ((((((1 : Int32) &&& (1 : Int32)) &&& (1 : Int32)) &&& (1 : Int32)) &&& (1 : Int32)) &&& (1 : Int32)))])) _
          exact k
        obtain ⟨cq25, kq25, q25a, q25b, q25c⟩ := isOf hZ eh24 E_f
        obtain ⟨_, _, ⟨T25, L25, k25, n25⟩, -, X25, ⟨Lc25, hQ25, l25, y25, z25⟩, st25⟩ := X24.virtualBack hx (y := (⟨"com/example/typewright/typewright/Flow", "isAssigned", "(I)Z"⟩ : MethodName)) (z := (⟨"com/example/typewright/typewright/Flow", "isAssigned", "(I)Z"⟩ : MethodName)) hown (mvT hZ (hw _ (List.mem_of_getElem? (i := 64) rfl))) (mvT hZ (hw _ (List.mem_of_getElem? (i := 65) rfl))) (notFace_of_selects (args := #[]) (mvT hZ (hw _ (List.mem_of_getElem? (i := 67) rfl)))) (mvT hZ (hw _ (List.mem_of_getElem? (i := 67) rfl))) (mvT hZ (hw _ (List.mem_of_getElem? (i := 66) rfl))) (by decide) (backOf (W := 1) (rm11 l Z a0 hw [] f (3 : Int32) qs qw qk u w T23.heap n0 Z23 (S_A.ext hzt.2) F_assigned_f (by decide) (by decide) B_q) hZ (hw _ (List.mem_of_getElem? (i := 68) rfl)) (hw _ (List.mem_of_getElem? (i := 2) rfl)) (by decide) (by decide)) q25a q25c (g := (mkF m 194 #[.val (.int p1), .val (.int p2), .val (.int (2 : Int32)), .val (.int z), .val (.ref f), .val (.int ((((((1 : Int32) &&& (1 : Int32)) &&& (1 : Int32)) &&& (1 : Int32)) &&& (1 : Int32)) &&& (1 : Int32))), .val (.int (2 : Int32)), .val (.int (3 : Int32))] [(.int (3 : Int32)), (.ref f), (.int ((((((1 : Int32) &&& (1 : Int32)) &&& (1 : Int32)) &&& (1 : Int32)) &&& (1 : Int32)) &&& (1 : Int32)))])) rfl (by rw [hml]; rfl) (Steps.refl _) (argsL := [(.int (3 : Int32))]) (rest := [(.int ((((((1 : Int32) &&& (1 : Int32)) &&& (1 : Int32)) &&& (1 : Int32)) &&& (1 : Int32)) &&& (1 : Int32)))]) (lenOf pd_rm0_2 rfl) rfl (by show 2 * 0 + _ ≤ _; exact Nat.le_of_eq rfl) (hb hby at_194) (fun _ _ => ⟨rfl, eh24, (by decide : 5 + 0 ≤ _), (by decide : 11 + 0 ≤ _)⟩)
        dsimp only [Pt.U, Pt.locs, Pt.cells, Pt.slots] at X25 l25 y25 z25 st25 hQ25
        subst l25 y25 z25
        obtain ⟨rfl, N25q, eh⟩ := hQ25
        have N25 := Fr.app N24 N25q
        have eh25 := eh
        refine OEnds.go (t' := T25.setTop (mkF m 197 #[.val (.int p1), .val (.int p2), .val (.int (2 : Int32)), .val (.int z), .val (.ref f), .val (.int ((((((1 : Int32) &&& (1 : Int32)) &&& (1 : Int32)) &&& (1 : Int32)) &&& (1 : Int32)) &&& (1 : Int32))), .val (.int (2 : Int32)), .val (.int (3 : Int32))] [(.int (own_get u w (3 : Int32))), (.int ((((((1 : Int32) &&& (1 : Int32)) &&& (1 : Int32)) &&& (1 : Int32)) &&& (1 : Int32)) &&& (1 : Int32)))])) (fun _ k => st25.trans k) ?_
        refine OEnds.go (t' := T25.setTop (mkF m 200 #[.val (.int p1), .val (.int p2), .val (.int (2 : Int32)), .val (.int z), .val (.ref f), .val (.int ((((((1 : Int32) &&& (1 : Int32)) &&& (1 : Int32)) &&& (1 : Int32)) &&& (1 : Int32)) &&& (1 : Int32))), .val (.int (2 : Int32)), .val (.int (3 : Int32))] [(.int ((((((1 : Int32) &&& (1 : Int32)) &&& (1 : Int32)) &&& (1 : Int32)) &&& (1 : Int32)) &&& (1 : Int32)))])) (fun _ k => XS.ifNo X25.here hx rfl (hb hby at_197) rfl ((if0 _ _).trans (teq hB).2) k) ?_
        refine OEnds.go (t' := T25.setTop (mkF m 210 #[.val (.int p1), .val (.int p2), .val (.int (2 : Int32)), .val (.int z), .val (.ref f), .val (.int (((((((1 : Int32) &&& (1 : Int32)) &&& (1 : Int32)) &&& (1 : Int32)) &&& (1 : Int32)) &&& (1 : Int32)) &&& (1 : Int32))), .val (.int (2 : Int32)), .val (.int (3 : Int32))] [(.int (1 : Int32)), (.int (2 : Int32))])) (fun _ k => ?_) ?_
        · show Steps p.tables e below (T25.setTop (mkF m 200 #[.val (.int p1), .val (.int p2), .val (.int (2 : Int32)), .val (.int z), .val (.ref f), .val (.int ((((((1 : Int32) &&& (1 : Int32)) &&& (1 : Int32)) &&& (1 : Int32)) &&& (1 : Int32)) &&& (1 : Int32))), .val (.int (2 : Int32)), .val (.int (3 : Int32))] [(.int ((((((1 : Int32) &&& (1 : Int32)) &&& (1 : Int32)) &&& (1 : Int32)) &&& (1 : Int32)) &&& (1 : Int32)))])) _
          refine XS.iconst X25.here hx rfl (hb hby at_200) ?_
          show Steps p.tables e below (T25.setTop (mkF m 201 #[.val (.int p1), .val (.int p2), .val (.int (2 : Int32)), .val (.int z), .val (.ref f), .val (.int ((((((1 : Int32) &&& (1 : Int32)) &&& (1 : Int32)) &&& (1 : Int32)) &&& (1 : Int32)) &&& (1 : Int32))), .val (.int (2 : Int32)), .val (.int (3 : Int32))] [(.int (1 : Int32)), (.int ((((((1 : Int32) &&& (1 : Int32)) &&& (1 : Int32)) &&& (1 : Int32)) &&& (1 : Int32)) &&& (1 : Int32)))])) _
          refine XS.goto X25.here hx rfl (pc0 := 201) (pc' := 205) rfl (hb hby at_201) (by decide) (by decide) ?_
          show Steps p.tables e below (T25.setTop (mkF m 205 #[.val (.int p1), .val (.int p2), .val (.int (2 : Int32)), .val (.int z), .val (.ref f), .val (.int ((((((1 : Int32) &&& (1 : Int32)) &&& (1 : Int32)) &&& (1 : Int32)) &&& (1 : Int32)) &&& (1 : Int32))), .val (.int (2 : Int32)), .val (.int (3 : Int32))] [(.int (1 : Int32)), (.int ((((((1 : Int32) &&& (1 : Int32)) &&& (1 : Int32)) &&& (1 : Int32)) &&& (1 : Int32)) &&& (1 : Int32)))])) _
          refine XS.iand X25.here hx rfl (hb hby at_205) rfl ?_
          show Steps p.tables e below (T25.setTop (mkF m 206 #[.val (.int p1), .val (.int p2), .val (.int (2 : Int32)), .val (.int z), .val (.ref f), .val (.int ((((((1 : Int32) &&& (1 : Int32)) &&& (1 : Int32)) &&& (1 : Int32)) &&& (1 : Int32)) &&& (1 : Int32))), .val (.int (2 : Int32)), .val (.int (3 : Int32))] [(.int (((((((1 : Int32) &&& (1 : Int32)) &&& (1 : Int32)) &&& (1 : Int32)) &&& (1 : Int32)) &&& (1 : Int32)) &&& (1 : Int32)))])) _
          refine XS.istore X25.here hx rfl (hb hby at_206) rfl (l' := #[.val (.int p1), .val (.int p2), .val (.int (2 : Int32)), .val (.int z), .val (.ref f), .val (.int (((((((1 : Int32) &&& (1 : Int32)) &&& (1 : Int32)) &&& (1 : Int32)) &&& (1 : Int32)) &&& (1 : Int32)) &&& (1 : Int32))), .val (.int (2 : Int32)), .val (.int (3 : Int32))]) rfl ?_
          show Steps p.tables e below (T25.setTop (mkF m 208 #[.val (.int p1), .val (.int p2), .val (.int (2 : Int32)), .val (.int z), .val (.ref f), .val (.int (((((((1 : Int32) &&& (1 : Int32)) &&& (1 : Int32)) &&& (1 : Int32)) &&& (1 : Int32)) &&& (1 : Int32)) &&& (1 : Int32))), .val (.int (2 : Int32)), .val (.int (3 : Int32))] [])) _
          refine XS.iloadN X25.here hx rfl (hb hby at_208) rfl ?_
          show Steps p.tables e below (T25.setTop (mkF m 209 #[.val (.int p1), .val (.int p2), .val (.int (2 : Int32)), .val (.int z), .val (.ref f), .val (.int (((((((1 : Int32) &&& (1 : Int32)) &&& (1 : Int32)) &&& (1 : Int32)) &&& (1 : Int32)) &&& (1 : Int32)) &&& (1 : Int32))), .val (.int (2 : Int32)), .val (.int (3 : Int32))] [(.int (2 : Int32))])) _
          refine XS.iconst X25.here hx rfl (hb hby at_209) ?_
          show Steps p.tables e below (T25.setTop (mkF m 210 #[.val (.int p1), .val (.int p2), .val (.int (2 : Int32)), .val (.int z), .val (.ref f), .val (.int (((((((1 : Int32) &&& (1 : Int32)) &&& (1 : Int32)) &&& (1 : Int32)) &&& (1 : Int32)) &&& (1 : Int32)) &&& (1 : Int32))), .val (.int (2 : Int32)), .val (.int (3 : Int32))] [(.int (1 : Int32)), (.int (2 : Int32))])) _
          exact k
        refine OEnds.go (t' := T25.setTop (mkF m 213 #[.val (.int p1), .val (.int p2), .val (.int (2 : Int32)), .val (.int z), .val (.ref f), .val (.int (((((((1 : Int32) &&& (1 : Int32)) &&& (1 : Int32)) &&& (1 : Int32)) &&& (1 : Int32)) &&& (1 : Int32)) &&& (1 : Int32))), .val (.int (2 : Int32)), .val (.int (3 : Int32))] [])) (fun _ k => XS.icmpNo X25.here hx rfl (hb hby at_210) rfl (flt (by decide)).1 k) ?_
        refine OEnds.go (t' := T25.setTop (mkF m 218 #[.val (.int p1), .val (.int p2), .val (.int (2 : Int32)), .val (.int z), .val (.ref f), .val (.int (((((((1 : Int32) &&& (1 : Int32)) &&& (1 : Int32)) &&& (1 : Int32)) &&& (1 : Int32)) &&& (1 : Int32)) &&& (1 : Int32))), .val (.int (2 : Int32)), .val (.int (3 : Int32))] [(.int (0 : Int32)), (.ref f), (.int (((((((1 : Int32) &&& (1 : Int32)) &&& (1 : Int32)) &&& (1 : Int32)) &&& (1 : Int32)) &&& (1 : Int32)) &&& (1 : Int32)))])) (fun _ k => ?_) ?_
        · show Steps p.tables e below (T25.setTop (mkF m 213 #[.val (.int p1), .val (.int p2), .val (.int (2 : Int32)), .val (.int z), .val (.ref f), .val (.int (((((((1 : Int32) &&& (1 : Int32)) &&& (1 : Int32)) &&& (1 : Int32)) &&& (1 : Int32)) &&& (1 : Int32)) &&& (1 : Int32))), .val (.int (2 : Int32)), .val (.int (3 : Int32))] [])) _
          refine XS.iload X25.here hx rfl (hb hby at_213) rfl ?_
          show Steps p.tables e below (T25.setTop (mkF m 215 #[.val (.int p1), .val (.int p2), .val (.int (2 : Int32)), .val (.int z), .val (.ref f), .val (.int (((((((1 : Int32) &&& (1 : Int32)) &&& (1 : Int32)) &&& (1 : Int32)) &&& (1 : Int32)) &&& (1 : Int32)) &&& (1 : Int32))), .val (.int (2 : Int32)), .val (.int (3 : Int32))] [(.int (((((((1 : Int32) &&& (1 : Int32)) &&& (1 : Int32)) &&& (1 : Int32)) &&& (1 : Int32)) &&& (1 : Int32)) &&& (1 : Int32)))])) _
          refine XS.aload X25.here hx rfl (hb hby at_215) rfl rfl ?_
          show Steps p.tables e below (T25.setTop (mkF m 217 #[.val (.int p1), .val (.int p2), .val (.int (2 : Int32)), .val (.int z), .val (.ref f), .val (.int (((((((1 : Int32) &&& (1 : Int32)) &&& (1 : Int32)) &&& (1 : Int32)) &&& (1 : Int32)) &&& (1 : Int32)) &&& (1 : Int32))), .val (.int (2 : Int32)), .val (.int (3 : Int32))] [(.ref f), (.int (((((((1 : Int32) &&& (1 : Int32)) &&& (1 : Int32)) &&& (1 : Int32)) &&& (1 : Int32)) &&& (1 : Int32)) &&& (1 : Int32)))])) _
          refine XS.iconst X25.here hx rfl (hb hby at_217) ?_
          show Steps p.tables e below (T25.setTop (mkF m 218 #[.val (.int p1), .val (.int p2), .val (.int (2 : Int32)), .val (.int z), .val (.ref f), .val (.int (((((((1 : Int32) &&& (1 : Int32)) &&& (1 : Int32)) &&& (1 : Int32)) &&& (1 : Int32)) &&& (1 : Int32)) &&& (1 : Int32))), .val (.int (2 : Int32)), .val (.int (3 : Int32))] [(.int (0 : Int32)), (.ref f), (.int (((((((1 : Int32) &&& (1 : Int32)) &&& (1 : Int32)) &&& (1 : Int32)) &&& (1 : Int32)) &&& (1 : Int32)) &&& (1 : Int32)))])) _
          exact k
        obtain ⟨cq26, kq26, q26a, q26b, q26c⟩ := isOf hZ eh25 E_f
        obtain ⟨_, _, ⟨T26, L26, k26, n26⟩, -, X26, ⟨Lc26, hQ26, l26, y26, z26⟩, st26⟩ := X25.virtualBack hx (y := (⟨"com/example/typewright/typewright/Flow", "isAssigned", "(I)Z"⟩ : MethodName)) (z := (⟨"com/example/typewright/typewright/Flow", "isAssigned", "(I)Z"⟩ : MethodName)) hown (mvT hZ (hw _ (List.mem_of_getElem? (i := 64) rfl))) (mvT hZ (hw _ (List.mem_of_getElem? (i := 65) rfl))) (notFace_of_selects (args := #[]) (mvT hZ (hw _ (List.mem_of_getElem? (i := 67) rfl)))) (mvT hZ (hw _ (List.mem_of_getElem? (i := 67) rfl))) (mvT hZ (hw _ (List.mem_of_getElem? (i := 66) rfl))) (by decide) (backOf (W := 1) (rm11 l Z a0 hw [] f (0 : Int32) qs qw qk u w T23.heap n0 Z23 (S_A.ext hzt.2) F_assigned_f (by decide) (by decide) B_q) hZ (hw _ (List.mem_of_getElem? (i := 68) rfl)) (hw _ (List.mem_of_getElem? (i := 2) rfl)) (by decide) (by decide)) q26a q26c (g := (mkF m 218 #[.val (.int p1), .val (.int p2), .val (.int (2 : Int32)), .val (.int z), .val (.ref f), .val (.int (((((((1 : Int32) &&& (1 : Int32)) &&& (1 : Int32)) &&& (1 : Int32)) &&& (1 : Int32)) &&& (1 : Int32)) &&& (1 : Int32))), .val (.int (2 : Int32)), .val (.int (3 : Int32))] [(.int (0 : Int32)), (.ref f), (.int (((((((1 : Int32) &&& (1 : Int32)) &&& (1 : Int32)) &&& (1 : Int32)) &&& (1 : Int32)) &&& (1 : Int32)) &&& (1 : Int32)))])) rfl (by rw [hml]; rfl) (Steps.refl _) (argsL := [(.int (0 : Int32))]) (rest := [(.int (((((((1 : Int32) &&& (1 : Int32)) &&& (1 : Int32)) &&& (1 : Int32)) &&& (1 : Int32)) &&& (1 : Int32)) &&& (1 : Int32)))]) (lenOf pd_rm0_2 rfl) rfl (by show 2 * 0 + _ ≤ _; exact Nat.le_of_eq rfl) (hb hby at_218) (fun _ _ => ⟨rfl, eh25, (by decide : 5 + 0 ≤ _), (by decide : 11 + 0 ≤ _)⟩)
        dsimp only [Pt.U, Pt.locs, Pt.cells, Pt.slots] at X26 l26 y26 z26 st26 hQ26
        subst l26 y26 z26
        obtain ⟨rfl, N26q, eh⟩ := hQ26
        have N26 := Fr.app N25 N26q
        have eh26 := eh
        refine OEnds.go (t' := T26.setTop (mkF m 221 #[.val (.int p1), .val (.int p2), .val (.int (2 : Int32)), .val (.int z), .val (.ref f), .val (.int (((((((1 : Int32) &&& (1 : Int32)) &&& (1 : Int32)) &&& (1 : Int32)) &&& (1 : Int32)) &&& (1 : Int32)) &&& (1 : Int32))), .val (.int (2 : Int32)), .val (.int (3 : Int32))] [(.int (own_get u w (0 : Int32))), (.int (((((((1 : Int32) &&& (1 : Int32)) &&& (1 : Int32)) &&& (1 : Int32)) &&& (1 : Int32)) &&& (1 : Int32)) &&& (1 : Int32)))])) (fun _ k => st26.trans k) ?_
        refine OEnds.go (t' := T26.setTop (mkF m 222 #[.val (.int p1), .val (.int p2), .val (.int (2 : Int32)), .val (.int z), .val (.ref f), .val (.int (((((((1 : Int32) &&& (1 : Int32)) &&& (1 : Int32)) &&& (1 : Int32)) &&& (1 : Int32)) &&& (1 : Int32)) &&& (1 : Int32))), .val (.int (2 : Int32)), .val (.int (3 : Int32))] [(.int z), (.int (own_get u w (0 : Int32))), (.int (((((((1 : Int32) &&& (1 : Int32)) &&& (1 : Int32)) &&& (1 : Int32)) &&& (1 : Int32)) &&& (1 : Int32)) &&& (1 : Int32)))])) (fun _ k => ?_) ?_
        · show Steps p.tables e below (T26.setTop (mkF m 221 #[.val (.int p1), .val (.int p2), .val (.int (2 : Int32)), .val (.int z), .val (.ref f), .val (.int (((((((1 : Int32) &&& (1 : Int32)) &&& (1 : Int32)) &&& (1 : Int32)) &&& (1 : Int32)) &&& (1 : Int32)) &&& (1 : Int32))), .val (.int (2 : Int32)), .val (.int (3 : Int32))] [(.int (own_get u w (0 : Int32))), (.int (((((((1 : Int32) &&& (1 : Int32)) &&& (1 : Int32)) &&& (1 : Int32)) &&& (1 : Int32)) &&& (1 : Int32)) &&& (1 : Int32)))])) _
          refine XS.iloadN X26.here hx rfl (hb hby at_221) rfl ?_
          show Steps p.tables e below (T26.setTop (mkF m 222 #[.val (.int p1), .val (.int p2), .val (.int (2 : Int32)), .val (.int z), .val (.ref f), .val (.int (((((((1 : Int32) &&& (1 : Int32)) &&& (1 : Int32)) &&& (1 : Int32)) &&& (1 : Int32)) &&& (1 : Int32)) &&& (1 : Int32))), .val (.int (2 : Int32)), .val (.int (3 : Int32))] [(.int z), (.int (own_get u w (0 : Int32))), (.int (((((((1 : Int32) &&& (1 : Int32)) &&& (1 : Int32)) &&& (1 : Int32)) &&& (1 : Int32)) &&& (1 : Int32)) &&& (1 : Int32)))])) _
          exact k
        refine OEnds.go (t' := T26.setTop (mkF m 225 #[.val (.int p1), .val (.int p2), .val (.int (2 : Int32)), .val (.int z), .val (.ref f), .val (.int (((((((1 : Int32) &&& (1 : Int32)) &&& (1 : Int32)) &&& (1 : Int32)) &&& (1 : Int32)) &&& (1 : Int32)) &&& (1 : Int32))), .val (.int (2 : Int32)), .val (.int (3 : Int32))] [(.int (((((((1 : Int32) &&& (1 : Int32)) &&& (1 : Int32)) &&& (1 : Int32)) &&& (1 : Int32)) &&& (1 : Int32)) &&& (1 : Int32)))])) (fun _ k => XS.icmpNo X26.here hx rfl (hb hby at_222) rfl (teq hC).2 k) ?_
        refine OEnds.go (t' := T26.setTop (mkF m 240 #[.val (.int p1), .val (.int p2), .val (.int (2 : Int32)), .val (.int z), .val (.ref f), .val (.int ((((((((1 : Int32) &&& (1 : Int32)) &&& (1 : Int32)) &&& (1 : Int32)) &&& (1 : Int32)) &&& (1 : Int32)) &&& (1 : Int32)) &&& (1 : Int32))), .val (.int (2 : Int32)), .val (.int (3 : Int32))] [(.int ((2 : Int32) - (1 : Int32))), (.ref f), (.int ((((((((1 : Int32) &&& (1 : Int32)) &&& (1 : Int32)) &&& (1 : Int32)) &&& (1 : Int32)) &&& (1 : Int32)) &&& (1 : Int32)) &&& (1 : Int32)))])) (fun _ k => ?_) ?_
        · show Steps p.tables e below (T26.setTop (mkF m 225 #[.val (.int p1), .val (.int p2), .val (.int (2 : Int32)), .val (.int z), .val (.ref f), .val (.int (((((((1 : Int32) &&& (1 : Int32)) &&& (1 : Int32)) &&& (1 : Int32)) &&& (1 : Int32)) &&& (1 : Int32)) &&& (1 : Int32))), .val (.int (2 : Int32)), .val (.int (3 : Int32))] [(.int (((((((1 : Int32) &&& (1 : Int32)) &&& (1 : Int32)) &&& (1 : Int32)) &&& (1 : Int32)) &&& (1 : Int32)) &&& (1 : Int32)))])) _
          refine XS.iconst X26.here hx rfl (hb hby at_225) ?_
          show Steps p.tables e below (T26.setTop (mkF m 226 #[.val (.int p1), .val (.int p2), .val (.int (2 : Int32)), .val (.int z), .val (.ref f), .val (.int (((((((1 : Int32) &&& (1 : Int32)) &&& (1 : Int32)) &&& (1 : Int32)) &&& (1 : Int32)) &&& (1 : Int32)) &&& (1 : Int32))), .val (.int (2 : Int32)), .val (.int (3 : Int32))] [(.int (1 : Int32)), (.int (((((((1 : Int32) &&& (1 : Int32)) &&& (1 : Int32)) &&& (1 : Int32)) &&& (1 : Int32)) &&& (1 : Int32)) &&& (1 : Int32)))])) _
          refine XS.goto X26.here hx rfl (pc0 := 226) (pc' := 230) rfl (hb hby at_226) (by decide) (by decide) ?_
          show Steps p.tables e below (T26.setTop (mkF m 230 #[.val (.int p1), .val (.int p2), .val (.int (2 : Int32)), .val (.int z), .val (.ref f), .val (.int (((((((1 : Int32) &&& (1 : Int32)) &&& (1 : Int32)) &&& (1 : Int32)) &&& (1 : Int32)) &&& (1 : Int32)) &&& (1 : Int32))), .val (.int (2 : Int32)), .val (.int (3 : Int32))] [(.int (1 : Int32)), (.int (((((((1 : Int32) &&& (1 : Int32)) &&& (1 : Int32)) &&& (1 : Int32)) &&& (1 : Int32)) &&& (1 : Int32)) &&& (1 : Int32)))])) _
          refine XS.iand X26.here hx rfl (hb hby at_230) rfl ?_
          show Steps p.tables e below (T26.setTop (mkF m 231 #[.val (.int p1), .val (.int p2), .val (.int (2 : Int32)), .val (.int z), .val (.ref f), .val (.int (((((((1 : Int32) &&& (1 : Int32)) &&& (1 : Int32)) &&& (1 : Int32)) &&& (1 : Int32)) &&& (1 : Int32)) &&& (1 : Int32))), .val (.int (2 : Int32)), .val (.int (3 : Int32))] [(.int ((((((((1 : Int32) &&& (1 : Int32)) &&& (1 : Int32)) &&& (1 : Int32)) &&& (1 : Int32)) &&& (1 : Int32)) &&& (1 : Int32)) &&& (1 : Int32)))])) _
          refine XS.istore X26.here hx rfl (hb hby at_231) rfl (l' := #[.val (.int p1), .val (.int p2), .val (.int (2 : Int32)), .val (.int z), .val (.ref f), .val (.int ((((((((1 : Int32) &&& (1 : Int32)) &&& (1 : Int32)) &&& (1 : Int32)) &&& (1 : Int32)) &&& (1 : Int32)) &&& (1 : Int32)) &&& (1 : Int32))), .val (.int (2 : Int32)), .val (.int (3 : Int32))]) rfl ?_
          show Steps p.tables e below (T26.setTop (mkF m 233 #[.val (.int p1), .val (.int p2), .val (.int (2 : Int32)), .val (.int z), .val (.ref f), .val (.int ((((((((1 : Int32) &&& (1 : Int32)) &&& (1 : Int32)) &&& (1 : Int32)) &&& (1 : Int32)) &&& (1 : Int32)) &&& (1 : Int32)) &&& (1 : Int32))), .val (.int (2 : Int32)), .val (.int (3 : Int32))] [])) _
          refine XS.iload X26.here hx rfl (hb hby at_233) rfl ?_
          show Steps p.tables e below (T26.setTop (mkF m 235 #[.val (.int p1), .val (.int p2), .val (.int (2 : Int32)), .val (.int z), .val (.ref f), .val (.int ((((((((1 : Int32) &&& (1 : Int32)) &&& (1 : Int32)) &&& (1 : Int32)) &&& (1 : Int32)) &&& (1 : Int32)) &&& (1 : Int32)) &&& (1 : Int32))), .val (.int (2 : Int32)), .val (.int (3 : Int32))] [(.int ((((((((1 : Int32) &&& (1 : Int32)) &&& (1 : Int32)) &&& (1 : Int32)) &&& (1 : Int32)) &&& (1 : Int32)) &&& (1 : Int32)) &&& (1 : Int32)))])) _
          refine XS.aload X26.here hx rfl (hb hby at_235) rfl rfl ?_
          show Steps p.tables e below (T26.setTop (mkF m 237 #[.val (.int p1), .val (.int p2), .val (.int (2 : Int32)), .val (.int z), .val (.ref f), .val (.int ((((((((1 : Int32) &&& (1 : Int32)) &&& (1 : Int32)) &&& (1 : Int32)) &&& (1 : Int32)) &&& (1 : Int32)) &&& (1 : Int32)) &&& (1 : Int32))), .val (.int (2 : Int32)), .val (.int (3 : Int32))] [(.ref f), (.int ((((((((1 : Int32) &&& (1 : Int32)) &&& (1 : Int32)) &&& (1 : Int32)) &&& (1 : Int32)) &&& (1 : Int32)) &&& (1 : Int32)) &&& (1 : Int32)))])) _
          refine XS.iloadN X26.here hx rfl (hb hby at_237) rfl ?_
          show Steps p.tables e below (T26.setTop (mkF m 238 #[.val (.int p1), .val (.int p2), .val (.int (2 : Int32)), .val (.int z), .val (.ref f), .val (.int ((((((((1 : Int32) &&& (1 : Int32)) &&& (1 : Int32)) &&& (1 : Int32)) &&& (1 : Int32)) &&& (1 : Int32)) &&& (1 : Int32)) &&& (1 : Int32))), .val (.int (2 : Int32)), .val (.int (3 : Int32))] [(.int (2 : Int32)), (.ref f), (.int ((((((((1 : Int32) &&& (1 : Int32)) &&& (1 : Int32)) &&& (1 : Int32)) &&& (1 : Int32)) &&& (1 : Int32)) &&& (1 : Int32)) &&& (1 : Int32)))])) _
          refine XS.iconst X26.here hx rfl (hb hby at_238) ?_
          show Steps p.tables e below (T26.setTop (mkF m 239 #[.val (.int p1), .val (.int p2), .val (.int (2 : Int32)), .val (.int z), .val (.ref f), .val (.int ((((((((1 : Int32) &&& (1 : Int32)) &&& (1 : Int32)) &&& (1 : Int32)) &&& (1 : Int32)) &&& (1 : Int32)) &&& (1 : Int32)) &&& (1 : Int32))), .val (.int (2 : Int32)), .val (.int (3 : Int32))] [(.int (1 : Int32)), (.int (2 : Int32)), (.ref f), (.int ((((((((1 : Int32) &&& (1 : Int32)) &&& (1 : Int32)) &&& (1 : Int32)) &&& (1 : Int32)) &&& (1 : Int32)) &&& (1 : Int32)) &&& (1 : Int32)))])) _
          refine XS.isub X26.here hx rfl (hb hby at_239) rfl ?_
          show Steps p.tables e below (T26.setTop (mkF m 240 #[.val (.int p1), .val (.int p2), .val (.int (2 : Int32)), .val (.int z), .val (.ref f), .val (.int ((((((((1 : Int32) &&& (1 : Int32)) &&& (1 : Int32)) &&& (1 : Int32)) &&& (1 : Int32)) &&& (1 : Int32)) &&& (1 : Int32)) &&& (1 : Int32))), .val (.int (2 : Int32)), .val (.int (3 : Int32))] [(.int ((2 : Int32) - (1 : Int32))), (.ref f), (.int ((((((((1 : Int32) &&& (1 : Int32)) &&& (1 : Int32)) &&& (1 : Int32)) &&& (1 : Int32)) &&& (1 : Int32)) &&& (1 : Int32)) &&& (1 : Int32)))])) _
          exact k
        rw [show ((2 : Int32) - (1 : Int32)) = (1 : Int32) from by decide]
        obtain ⟨cq27, kq27, q27a, q27b, q27c⟩ := isOf hZ eh26 E_f
        obtain ⟨_, _, ⟨T27, L27, k27, n27⟩, -, X27, ⟨Lc27, hQ27, l27, y27, z27⟩, st27⟩ := X26.virtualBack hx (y := (⟨"com/example/typewright/typewright/Flow", "isAssigned", "(I)Z"⟩ : MethodName)) (z := (⟨"com/example/typewright/typewright/Flow", "isAssigned", "(I)Z"⟩ : MethodName)) hown (mvT hZ (hw _ (List.mem_of_getElem? (i := 64) rfl))) (mvT hZ (hw _ (List.mem_of_getElem? (i := 65) rfl))) (notFace_of_selects (args := #[]) (mvT hZ (hw _ (List.mem_of_getElem? (i := 67) rfl)))) (mvT hZ (hw _ (List.mem_of_getElem? (i := 67) rfl))) (mvT hZ (hw _ (List.mem_of_getElem? (i := 66) rfl))) (by decide) (backOf (W := 1) (rm11 l Z a0 hw [] f (1 : Int32) qs qw qk u w T23.heap n0 Z23 (S_A.ext hzt.2) F_assigned_f (by decide) (by decide) B_q) hZ (hw _ (List.mem_of_getElem? (i := 68) rfl)) (hw _ (List.mem_of_getElem? (i := 2) rfl)) (by decide) (by decide)) q27a q27c (g := (mkF m 240 #[.val (.int p1), .val (.int p2), .val (.int (2 : Int32)), .val (.int z), .val (.ref f), .val (.int ((((((((1 : Int32) &&& (1 : Int32)) &&& (1 : Int32)) &&& (1 : Int32)) &&& (1 : Int32)) &&& (1 : Int32)) &&& (1 : Int32)) &&& (1 : Int32))), .val (.int (2 : Int32)), .val (.int (3 : Int32))] [(.int (1 : Int32)), (.ref f), (.int ((((((((1 : Int32) &&& (1 : Int32)) &&& (1 : Int32)) &&& (1 : Int32)) &&& (1 : Int32)) &&& (1 : Int32)) &&& (1 : Int32)) &&& (1 : Int32)))])) rfl (by rw [hml]; rfl) (Steps.refl _) (argsL := [(.int (1 : Int32))]) (rest := [(.int ((((((((1 : Int32) &&& (1 : Int32)) &&& (1 : Int32)) &&& (1 : Int32)) &&& (1 : Int32)) &&& (1 : Int32)) &&& (1 : Int32)) &&& (1 : Int32)))]) (lenOf pd_rm0_2 rfl) rfl (by show 2 * 0 + _ ≤ _; exact Nat.le_of_eq rfl) (hb hby at_240) (fun _ _ => ⟨rfl, eh26, (by decide : 5 + 0 ≤ _), (by decide : 11 + 0 ≤ _)⟩)
        dsimp only [Pt.U, Pt.locs, Pt.cells, Pt.slots] at X27 l27 y27 z27 st27 hQ27
        subst l27 y27 z27
        obtain ⟨rfl, N27q, eh⟩ := hQ27
        have N27 := Fr.app N26 N27q
        have eh27 := eh
        refine OEnds.go (t' := T27.setTop (mkF m 243 #[.val (.int p1), .val (.int p2), .val (.int (2 : Int32)), .val (.int z), .val (.ref f), .val (.int ((((((((1 : Int32) &&& (1 : Int32)) &&& (1 : Int32)) &&& (1 : Int32)) &&& (1 : Int32)) &&& (1 : Int32)) &&& (1 : Int32)) &&& (1 : Int32))), .val (.int (2 : Int32)), .val (.int (3 : Int32))] [(.int (own_get u w (1 : Int32))), (.int ((((((((1 : Int32) &&& (1 : Int32)) &&& (1 : Int32)) &&& (1 : Int32)) &&& (1 : Int32)) &&& (1 : Int32)) &&& (1 : Int32)) &&& (1 : Int32)))])) (fun _ k => st27.trans k) ?_
        refine OEnds.go (t' := T27.setTop (mkF m 244 #[.val (.int p1), .val (.int p2), .val (.int (2 : Int32)), .val (.int z), .val (.ref f), .val (.int ((((((((1 : Int32) &&& (1 : Int32)) &&& (1 : Int32)) &&& (1 : Int32)) &&& (1 : Int32)) &&& (1 : Int32)) &&& (1 : Int32)) &&& (1 : Int32))), .val (.int (2 : Int32)), .val (.int (3 : Int32))] [(.int z), (.int (own_get u w (1 : Int32))), (.int ((((((((1 : Int32) &&& (1 : Int32)) &&& (1 : Int32)) &&& (1 : Int32)) &&& (1 : Int32)) &&& (1 : Int32)) &&& (1 : Int32)) &&& (1 : Int32)))])) (fun _ k => ?_) ?_
        · show Steps p.tables e below (T27.setTop (mkF m 243 #[.val (.int p1), .val (.int p2), .val (.int (2 : Int32)), .val (.int z), .val (.ref f), .val (.int ((((((((1 : Int32) &&& (1 : Int32)) &&& (1 : Int32)) &&& (1 : Int32)) &&& (1 : Int32)) &&& (1 : Int32)) &&& (1 : Int32)) &&& (1 : Int32))), .val (.int (2 : Int32)), .val (.int (3 : Int32))] [(.int (own_get u w (1 : Int32))), (.int ((((((((1 : Int32) &&& (1 : Int32)) &&& (1 : Int32)) &&& (1 : Int32)) &&& (1 : Int32)) &&& (1 : Int32)) &&& (1 : Int32)) &&& (1 : Int32)))])) _
          refine XS.iloadN X27.here hx rfl (hb hby at_243) rfl ?_
          show Steps p.tables e below (T27.setTop (mkF m 244 #[.val (.int p1), .val (.int p2), .val (.int (2 : Int32)), .val (.int z), .val (.ref f), .val (.int ((((((((1 : Int32) &&& (1 : Int32)) &&& (1 : Int32)) &&& (1 : Int32)) &&& (1 : Int32)) &&& (1 : Int32)) &&& (1 : Int32)) &&& (1 : Int32))), .val (.int (2 : Int32)), .val (.int (3 : Int32))] [(.int z), (.int (own_get u w (1 : Int32))), (.int ((((((((1 : Int32) &&& (1 : Int32)) &&& (1 : Int32)) &&& (1 : Int32)) &&& (1 : Int32)) &&& (1 : Int32)) &&& (1 : Int32)) &&& (1 : Int32)))])) _
          exact k
        refine OEnds.go (t' := T27.setTop (mkF m 247 #[.val (.int p1), .val (.int p2), .val (.int (2 : Int32)), .val (.int z), .val (.ref f), .val (.int ((((((((1 : Int32) &&& (1 : Int32)) &&& (1 : Int32)) &&& (1 : Int32)) &&& (1 : Int32)) &&& (1 : Int32)) &&& (1 : Int32)) &&& (1 : Int32))), .val (.int (2 : Int32)), .val (.int (3 : Int32))] [(.int ((((((((1 : Int32) &&& (1 : Int32)) &&& (1 : Int32)) &&& (1 : Int32)) &&& (1 : Int32)) &&& (1 : Int32)) &&& (1 : Int32)) &&& (1 : Int32)))])) (fun _ k => XS.icmpNo X27.here hx rfl (hb hby at_244) rfl (teq hD).2 k) ?_
        refine OEnds.go (t' := T27.setTop (mkF m 257 #[.val (.int p1), .val (.int p2), .val (.int (2 : Int32)), .val (.int z), .val (.ref f), .val (.int (((((((((1 : Int32) &&& (1 : Int32)) &&& (1 : Int32)) &&& (1 : Int32)) &&& (1 : Int32)) &&& (1 : Int32)) &&& (1 : Int32)) &&& (1 : Int32)) &&& (1 : Int32))), .val (.int (2 : Int32)), .val (.int (3 : Int32))] [(.int (((((((((1 : Int32) &&& (1 : Int32)) &&& (1 : Int32)) &&& (1 : Int32)) &&& (1 : Int32)) &&& (1 : Int32)) &&& (1 : Int32)) &&& (1 : Int32)) &&& (1 : Int32)))])) (fun _ k => ?_) ?_
        · show Steps p.tables e below (T27.setTop (mkF m 247 #[.val (.int p1), .val (.int p2), .val (.int (2 : Int32)), .val (.int z), .val (.ref f), .val (.int ((((((((1 : Int32) &&& (1 : Int32)) &&& (1 : Int32)) &&& (1 : Int32)) &&& (1 : Int32)) &&& (1 : Int32)) &&& (1 : Int32)) &&& (1 : Int32))), .val (.int (2 : Int32)), .val (.int (3 : Int32))] [(.int ((((((((1 : Int32) &&& (1 : Int32)) &&& (1 : Int32)) &&& (1 : Int32)) &&& (1 : Int32)) &&& (1 : Int32)) &&& (1 : Int32)) &&& (1 : Int32)))])) _
          refine XS.iconst X27.here hx rfl (hb hby at_247) ?_
          show Steps p.tables e below (T27.setTop (mkF m 248 #[.val (.int p1), .val (.int p2), .val (.int (2 : Int32)), .val (.int z), .val (.ref f), .val (.int ((((((((1 : Int32) &&& (1 : Int32)) &&& (1 : Int32)) &&& (1 : Int32)) &&& (1 : Int32)) &&& (1 : Int32)) &&& (1 : Int32)) &&& (1 : Int32))), .val (.int (2 : Int32)), .val (.int (3 : Int32))] [(.int (1 : Int32)), (.int ((((((((1 : Int32) &&& (1 : Int32)) &&& (1 : Int32)) &&& (1 : Int32)) &&& (1 : Int32)) &&& (1 : Int32)) &&& (1 : Int32)) &&& (1 : Int32)))])) _
          refine XS.goto X27.here hx rfl (pc0 := 248) (pc' := 252) rfl (hb hby at_248) (by decide) (by decide) ?_
          show Steps p.tables e below (T27.setTop (mkF m 252 #[.val (.int p1), .val (.int p2), .val (.int (2 : Int32)), .val (.int z), .val (.ref f), .val (.int ((((((((1 : Int32) &&& (1 : Int32)) &&& (1 : Int32)) &&& (1 : Int32)) &&& (1 : Int32)) &&& (1 : Int32)) &&& (1 : Int32)) &&& (1 : Int32))), .val (.int (2 : Int32)), .val (.int (3 : Int32))] [(.int (1 : Int32)), (.int ((((((((1 : Int32) &&& (1 : Int32)) &&& (1 : Int32)) &&& (1 : Int32)) &&& (1 : Int32)) &&& (1 : Int32)) &&& (1 : Int32)) &&& (1 : Int32)))])) _
          refine XS.iand X27.here hx rfl (hb hby at_252) rfl ?_
          show Steps p.tables e below (T27.setTop (mkF m 253 #[.val (.int p1), .val (.int p2), .val (.int (2 : Int32)), .val (.int z), .val (.ref f), .val (.int ((((((((1 : Int32) &&& (1 : Int32)) &&& (1 : Int32)) &&& (1 : Int32)) &&& (1 : Int32)) &&& (1 : Int32)) &&& (1 : Int32)) &&& (1 : Int32))), .val (.int (2 : Int32)), .val (.int (3 : Int32))] [(.int (((((((((1 : Int32) &&& (1 : Int32)) &&& (1 : Int32)) &&& (1 : Int32)) &&& (1 : Int32)) &&& (1 : Int32)) &&& (1 : Int32)) &&& (1 : Int32)) &&& (1 : Int32)))])) _
          refine XS.istore X27.here hx rfl (hb hby at_253) rfl (l' := #[.val (.int p1), .val (.int p2), .val (.int (2 : Int32)), .val (.int z), .val (.ref f), .val (.int (((((((((1 : Int32) &&& (1 : Int32)) &&& (1 : Int32)) &&& (1 : Int32)) &&& (1 : Int32)) &&& (1 : Int32)) &&& (1 : Int32)) &&& (1 : Int32)) &&& (1 : Int32))), .val (.int (2 : Int32)), .val (.int (3 : Int32))]) rfl ?_
          show Steps p.tables e below (T27.setTop (mkF m 255 #[.val (.int p1), .val (.int p2), .val (.int (2 : Int32)), .val (.int z), .val (.ref f), .val (.int (((((((((1 : Int32) &&& (1 : Int32)) &&& (1 : Int32)) &&& (1 : Int32)) &&& (1 : Int32)) &&& (1 : Int32)) &&& (1 : Int32)) &&& (1 : Int32)) &&& (1 : Int32))), .val (.int (2 : Int32)), .val (.int (3 : Int32))] [])) _
          refine XS.iload X27.here hx rfl (hb hby at_255) rfl ?_
          show Steps p.tables e below (T27.setTop (mkF m 257 #[.val (.int p1), .val (.int p2), .val (.int (2 : Int32)), .val (.int z), .val (.ref f), .val (.int (((((((((1 : Int32) &&& (1 : Int32)) &&& (1 : Int32)) &&& (1 : Int32)) &&& (1 : Int32)) &&& (1 : Int32)) &&& (1 : Int32)) &&& (1 : Int32)) &&& (1 : Int32))), .val (.int (2 : Int32)), .val (.int (3 : Int32))] [(.int (((((((((1 : Int32) &&& (1 : Int32)) &&& (1 : Int32)) &&& (1 : Int32)) &&& (1 : Int32)) &&& (1 : Int32)) &&& (1 : Int32)) &&& (1 : Int32)) &&& (1 : Int32)))])) _
          exact k
        refine OEnds.back X27 hlk (v := (some (.int (nar .boolean (((((((((1 : Int32) &&& (1 : Int32)) &&& (1 : Int32)) &&& (1 : Int32)) &&& (1 : Int32)) &&& (1 : Int32)) &&& (1 : Int32)) &&& (1 : Int32)) &&& (1 : Int32)))))) (fun h => by rw [hrt] at h; cases h) (fun fs hr => ?_) ?_ (by decide) (by decide)
        · exact retN X27 hx (t := .boolean) hrt (by simp) (hb hby at_257) hr
        · show Q0 Z p1 p2 r1 r2 h0 n0 _ T27.heap _
          rw [eh27]
          exact ⟨congrArg (fun z => some (Value.int z)) (by decide), N27⟩
      by_cases h112 : z = (0 : Int32)
      · refine OEnds.go (t' := T21.setTop (mkF m 120 #[.val (.int p1), .val (.int p2), .val (.int (2 : Int32)), .val (.int z), .val (.ref f), .val (.int (((1 : Int32) &&& (1 : Int32)) &&& (1 : Int32))), .val (.int (1 : Int32)), .unset] [])) (fun _ k => XS.ifYes X21.here hx rfl (pc0 := 112) (pc' := 120) rfl (hb hby at_112) rfl ((if0 _ _).trans (teq h112).1) (by decide) (by decide) k) ?_
        exact K120 _ _ _ (X21.mono (by decide) (by decide)) rfl N21 Z21 bs wa kb 0 0 _ hzt E_f F_locals_f F_assigned_f F_reach_f B_bs ne_f_bs ne_f_wa (by decide) (by decide) (by rw [h112]; decide) (by rw [h112]; decide)
      · refine OEnds.go (t' := T21.setTop (mkF m 115 #[.val (.int p1), .val (.int p2), .val (.int (2 : Int32)), .val (.int z), .val (.ref f), .val (.int (((1 : Int32) &&& (1 : Int32)) &&& (1 : Int32))), .val (.int (1 : Int32)), .unset] [])) (fun _ k => XS.ifNo X21.here hx rfl (hb hby at_112) rfl ((if0 _ _).trans (feq h112).1) k) ?_
        refine OEnds.go (t' := T21.setTop (mkF m 117 #[.val (.int p1), .val (.int p2), .val (.int (2 : Int32)), .val (.int z), .val (.ref f), .val (.int (((1 : Int32) &&& (1 : Int32)) &&& (1 : Int32))), .val (.int (1 : Int32)), .unset] [(.ref f)])) (fun _ k => ?_) ?_
        · show Steps p.tables e below (T21.setTop (mkF m 115 #[.val (.int p1), .val (.int p2), .val (.int (2 : Int32)), .val (.int z), .val (.ref f), .val (.int (((1 : Int32) &&& (1 : Int32)) &&& (1 : Int32))), .val (.int (1 : Int32)), .unset] [])) _
          refine XS.aload X21.here hx rfl (hb hby at_115) rfl rfl ?_
          show Steps p.tables e below (T21.setTop (mkF m 117 #[.val (.int p1), .val (.int p2), .val (.int (2 : Int32)), .val (.int z), .val (.ref f), .val (.int (((1 : Int32) &&& (1 : Int32)) &&& (1 : Int32))), .val (.int (1 : Int32)), .unset] [(.ref f)])) _
          exact k
        have lt_f := E_f.lt
        obtain ⟨cq28, kq28, q28a, q28b, q28c⟩ := isOf hZ rfl E_f
        obtain ⟨_, _, ⟨T28, L28, k28, n28⟩, -, X28, ⟨Lc28, hQ28, l28, y28, z28⟩, st28⟩ := X21.virtualBack hx (y := (⟨"com/example/typewright/typewright/Flow", "afterReturn", "()V"⟩ : MethodName)) (z := (⟨"com/example/typewright/typewright/Flow", "afterReturn", "()V"⟩ : MethodName)) hown (mvT hZ (hw _ (List.mem_of_getElem? (i := 38) rfl))) (mvT hZ (hw _ (List.mem_of_getElem? (i := 39) rfl))) (notFace_of_selects (args := #[]) (mvT hZ (hw _ (List.mem_of_getElem? (i := 41) rfl)))) (mvT hZ (hw _ (List.mem_of_getElem? (i := 41) rfl))) (mvT hZ (hw _ (List.mem_of_getElem? (i := 40) rfl))) (by decide) (backOf (W := 0) (rm6 l Z a0 hw [] f r2 (2 : Int32) _ _ T21.heap n0 Z21 S_A S_2 hzt F_locals_f F_assigned_f F_reach_f E_f g_f (by unfold own_N; decide)) hZ (hw _ (List.mem_of_getElem? (i := 42) rfl)) (hw _ (List.mem_of_getElem? (i := 2) rfl)) (by decide) (by decide)) q28a q28c (g := (mkF m 117 #[.val (.int p1), .val (.int p2), .val (.int (2 : Int32)), .val (.int z), .val (.ref f), .val (.int (((1 : Int32) &&& (1 : Int32)) &&& (1 : Int32))), .val (.int (1 : Int32)), .unset] [(.ref f)])) rfl (by rw [hml]; rfl) (Steps.refl _) (argsL := []) (rest := []) (lenOf pd_rm0_0 rfl) rfl (by show 2 * 0 + _ ≤ _; exact Nat.le_of_eq rfl) (hb hby at_117) (fun _ _ => ⟨rfl, rfl, (by decide : 3 + 2 ≤ _), (by decide : 7 + 4 ≤ _)⟩)
        dsimp only [Pt.U, Pt.locs, Pt.cells, Pt.slots] at X28 l28 y28 z28 st28 hQ28
        subst l28 y28 z28
        obtain ⟨rfl, N28q, Kc28, Ea28, Fa28, ⟨ur28, Fb28⟩, cs, cw, ck, Fc28, B_cs, ⟨szc, g_cs⟩, szv, g_cw⟩ := hQ28
        have N28 := Fr.app N21 N28q
        have hzt := hzt.keep Kc28 (allS g_f all0)
        have B_bs := B_bs.keep Kc28 (ninS (Ne.symm ne_f_bs) nin0) (ninS (Ne.symm ne_f_wa) nin0)
        have Z28 : n0 ≤ T28.heap.size := Nat.le_trans Z21 Kc28.1
        refine OEnds.go (t' := T28.setTop (mkF m 120 #[.val (.int p1), .val (.int p2), .val (.int (2 : Int32)), .val (.int z), .val (.ref f), .val (.int (((1 : Int32) &&& (1 : Int32)) &&& (1 : Int32))), .val (.int (1 : Int32)), .unset] [])) (fun _ k => st28.trans k) ?_
        have ne_f_cs : f ≠ cs := Nat.ne_of_lt (Nat.lt_of_lt_of_le lt_f szc)
        have ne_f_cw : f ≠ cw := Nat.ne_of_lt (Nat.lt_of_lt_of_le lt_f szv)
        have h112x : z = 1 := hz.resolve_left h112
        exact K120 _ _ _ (X28.mono (by decide) (by decide)) rfl N28 Z28 cs cw ck _ _ _ hzt Ea28 Fa28 Fc28 Fb28 B_cs ne_f_cs ne_f_cw (by decide) (by decide) (by rw [h112x]; decide) (by rw [h112x]; decide)
    · skip
      refine OEnds.go (t' := s₁.setTop (mkF m 16 #[.val (.int p1), .val (.int p2), .val (.int (3 : Int32)), .val (.int z), .unset, .unset, .unset, .unset] [])) (fun _ k => ?_) ?_
      · show Steps p.tables e below (s₁.setTop (mkF m 15 #[.val (.int p1), .val (.int p2), .val (.int (3 : Int32)), .unset, .unset, .unset, .unset, .unset] [(.int z)])) _
        refine XS.istoreN X0.here hx rfl (hb hby at_15) rfl (l' := #[.val (.int p1), .val (.int p2), .val (.int (3 : Int32)), .val (.int z), .unset, .unset, .unset, .unset]) rfl ?_
        show Steps p.tables e below (s₁.setTop (mkF m 16 #[.val (.int p1), .val (.int p2), .val (.int (3 : Int32)), .val (.int z), .unset, .unset, .unset, .unset] [])) _
        exact k
      obtain ⟨T29, h29, X29, e29, E29, A29, D29, -, st29⟩ := newO X0 hx hZ hown (hw _ (List.mem_of_getElem? (i := 0) rfl)) (hw _ (List.mem_of_getElem? (i := 1) rfl)) (hw _ (List.mem_of_getElem? (i := 2) rfl)) e0 (g := (mkF m 16 #[.val (.int p1), .val (.int p2), .val (.int (3 : Int32)), .val (.int z), .unset, .unset, .unset, .unset] [])) rfl (hb hby at_16) (by decide) (by decide)
      obtain ⟨f, gz29⟩ : ∃ z, z = h0.size := ⟨_, rfl⟩
      rw [← gz29] at A29 D29 st29
      have g_f : n0 ≤ f := Nat.le_trans Z0 (Nat.le_of_eq gz29.symm)
      have hzt := hzt.ext E29
      have Z29 : n0 ≤ h29.size := Nat.le_trans Z0 E29.1
      have E_f := A29
      have F_assigned_f : Fld Z h29 f "com/example/typewright/typewright/Flow" "assigned" "Ljava/util/BitSet;" .null := D29 (Or.inl (hw _ (List.mem_of_getElem? (i := 32) rfl))) (ty := (.object "java/util/BitSet")) (by decide)
      have F_reach_f : Fld Z h29 f "com/example/typewright/typewright/Flow" "reach" "Lcom/example/typewright/typewright/Flow$Reach;" .null := D29 (Or.inl (hw _ (List.mem_of_getElem? (i := 37) rfl))) (ty := (.object "com/example/typewright/typewright/Flow$Reach")) (by decide)
      have F_locals_f : Fld Z h29 f "com/example/typewright/typewright/Flow" "locals" "I" (.int (0 : Int32)) := D29 (Or.inl (hw _ (List.mem_of_getElem? (i := 48) rfl))) (ty := .int) (by decide)
      refine OEnds.go (t' := T29.setTop (mkF m 19 #[.val (.int p1), .val (.int p2), .val (.int (3 : Int32)), .val (.int z), .unset, .unset, .unset, .unset] [(.ref f)])) (fun _ k => st29 _ k) ?_
      refine OEnds.go (t' := T29.setTop (mkF m 20 #[.val (.int p1), .val (.int p2), .val (.int (3 : Int32)), .val (.int z), .unset, .unset, .unset, .unset] [(.ref f), (.ref f)])) (fun _ k => ?_) ?_
      · show Steps p.tables e below (T29.setTop (mkF m 19 #[.val (.int p1), .val (.int p2), .val (.int (3 : Int32)), .val (.int z), .unset, .unset, .unset, .unset] [(.ref f)])) _
        refine XS.dup X29.here hx rfl (hb hby at_19) rfl rfl ?_
        show Steps p.tables e below (T29.setTop (mkF m 20 #[.val (.int p1), .val (.int p2), .val (.int (3 : Int32)), .val (.int z), .unset, .unset, .unset, .unset] [(.ref f), (.ref f)])) _
        exact k
      have lt_f := E_f.lt
      obtain ⟨_, _, ⟨T30, L30, k30, n30⟩, -, X30, ⟨Lc30, hQ30, l30, y30, z30⟩, st30⟩ := X29.specialBack hx (y := (⟨"com/example/typewright/typewright/Flow", "<init>", "()V"⟩ : MethodName)) rfl hown (mvT hZ (hw _ (List.mem_of_getElem? (i := 3) rfl))) (mvT hZ (hw _ (List.mem_of_getElem? (i := 4) rfl))) (mvT hZ (hw _ (List.mem_of_getElem? (i := 5) rfl))) (by decide) (backOf (W := 1) (rm1 l Z a0 hw [] f r1 h29 n0 Z29 F_assigned_f F_locals_f F_reach_f E_f g_f S_1 hzt) hZ (hw _ (List.mem_of_getElem? (i := 5) rfl)) (hw _ (List.mem_of_getElem? (i := 2) rfl)) (by decide) (by decide)) (g := (mkF m 20 #[.val (.int p1), .val (.int p2), .val (.int (3 : Int32)), .val (.int z), .unset, .unset, .unset, .unset] [(.ref f), (.ref f)])) rfl (by rw [hml]; rfl) (Steps.refl _) (a := f) (argsL := []) (rest := [(.ref f)]) (lenOf pd_rm0_0 rfl) rfl (by show 2 * 0 + _ ≤ _; exact Nat.le_of_eq rfl) (hb hby at_20) (fun _ _ => ⟨rfl, e29, (by decide : 1 + 2 ≤ _), (by decide : 3 + 4 ≤ _)⟩)
      dsimp only [Pt.U, Pt.locs, Pt.cells, Pt.slots] at X30 l30 y30 z30 st30 hQ30
      subst l30 y30 z30
      obtain ⟨rfl, N30q, Kc30, Ea30, Fa30, ⟨ur30, Fb30⟩, bs, wa, kb, Fc30, B_bs, ⟨szs, g_bs⟩, szw, g_wa⟩ := hQ30
      have N30 := Fr.app N0 N30q
      have hzt := hzt.keep Kc30 (allS g_f all0)
      have Z30 : n0 ≤ T30.heap.size := Nat.le_trans Z29 Kc30.1
      refine OEnds.go (t' := T30.setTop (mkF m 23 #[.val (.int p1), .val (.int p2), .val (.int (3 : Int32)), .val (.int z), .unset, .unset, .unset, .unset] [(.ref f)])) (fun _ k => st30.trans k) ?_
      have ne_f_bs : f ≠ bs := Nat.ne_of_lt (Nat.lt_of_lt_of_le lt_f szs)
      have ne_f_wa : f ≠ wa := Nat.ne_of_lt (Nat.lt_of_lt_of_le lt_f szw)
      have E_f := Ea30
      have F_locals_f := Fa30
      have F_reach_f := Fb30
      have F_assigned_f := Fc30
      refine OEnds.go (t' := T30.setTop (mkF m 30 #[.val (.int p1), .val (.int p2), .val (.int (3 : Int32)), .val (.int z), .val (.ref f), .val (.int (1 : Int32)), .unset, .unset] [(.int (1 : Int32)), (.int (3 : Int32))])) (fun _ k => ?_) ?_
      · show Steps p.tables e below (T30.setTop (mkF m 23 #[.val (.int p1), .val (.int p2), .val (.int (3 : Int32)), .val (.int z), .unset, .unset, .unset, .unset] [(.ref f)])) _
        refine XS.astore X30.here hx rfl (hb hby at_23) rfl rfl (l' := #[.val (.int p1), .val (.int p2), .val (.int (3 : Int32)), .val (.int z), .val (.ref f), .unset, .unset, .unset]) rfl ?_
        show Steps p.tables e below (T30.setTop (mkF m 25 #[.val (.int p1), .val (.int p2), .val (.int (3 : Int32)), .val (.int z), .val (.ref f), .unset, .unset, .unset] [])) _
        refine XS.iconst X30.here hx rfl (hb hby at_25) ?_
        show Steps p.tables e below (T30.setTop (mkF m 26 #[.val (.int p1), .val (.int p2), .val (.int (3 : Int32)), .val (.int z), .val (.ref f), .unset, .unset, .unset] [(.int (1 : Int32))])) _
        refine XS.istore X30.here hx rfl (hb hby at_26) rfl (l' := #[.val (.int p1), .val (.int p2), .val (.int (3 : Int32)), .val (.int z), .val (.ref f), .val (.int (1 : Int32)), .unset, .unset]) rfl ?_
        show Steps p.tables e below (T30.setTop (mkF m 28 #[.val (.int p1), .val (.int p2), .val (.int (3 : Int32)), .val (.int z), .val (.ref f), .val (.int (1 : Int32)), .unset, .unset] [])) _
        refine XS.iloadN X30.here hx rfl (hb hby at_28) rfl ?_
        show Steps p.tables e below (T30.setTop (mkF m 29 #[.val (.int p1), .val (.int p2), .val (.int (3 : Int32)), .val (.int z), .val (.ref f), .val (.int (1 : Int32)), .unset, .unset] [(.int (3 : Int32))])) _
        refine XS.iconst X30.here hx rfl (hb hby at_29) ?_
        show Steps p.tables e below (T30.setTop (mkF m 30 #[.val (.int p1), .val (.int p2), .val (.int (3 : Int32)), .val (.int z), .val (.ref f), .val (.int (1 : Int32)), .unset, .unset] [(.int (1 : Int32)), (.int (3 : Int32))])) _
        exact k
      refine OEnds.go (t' := T30.setTop (mkF m 33 #[.val (.int p1), .val (.int p2), .val (.int (3 : Int32)), .val (.int z), .val (.ref f), .val (.int (1 : Int32)), .unset, .unset] [])) (fun _ k => XS.icmpNo X30.here hx rfl (hb hby at_30) rfl (flt (by decide)).1 k) ?_
      refine OEnds.go (t' := T30.setTop (mkF m 35 #[.val (.int p1), .val (.int p2), .val (.int (3 : Int32)), .val (.int z), .val (.ref f), .val (.int (1 : Int32)), .unset, .unset] [(.ref f)])) (fun _ k => ?_) ?_
      · show Steps p.tables e below (T30.setTop (mkF m 33 #[.val (.int p1), .val (.int p2), .val (.int (3 : Int32)), .val (.int z), .val (.ref f), .val (.int (1 : Int32)), .unset, .unset] [])) _
        refine XS.aload X30.here hx rfl (hb hby at_33) rfl rfl ?_
        show Steps p.tables e below (T30.setTop (mkF m 35 #[.val (.int p1), .val (.int p2), .val (.int (3 : Int32)), .val (.int z), .val (.ref f), .val (.int (1 : Int32)), .unset, .unset] [(.ref f)])) _
        exact k
      obtain ⟨cq31, kq31, q31a, q31b, q31c⟩ := isOf hZ rfl E_f
      obtain ⟨_, _, ⟨T31, L31, k31, n31⟩, -, X31, ⟨Lc31, hQ31, l31, y31, z31⟩, st31⟩ := X30.virtualBack hx (y := (⟨"com/example/typewright/typewright/Flow", "declare", "()I"⟩ : MethodName)) (z := (⟨"com/example/typewright/typewright/Flow", "declare", "()I"⟩ : MethodName)) hown (mvT hZ (hw _ (List.mem_of_getElem? (i := 59) rfl))) (mvT hZ (hw _ (List.mem_of_getElem? (i := 60) rfl))) (notFace_of_selects (args := #[]) (mvT hZ (hw _ (List.mem_of_getElem? (i := 62) rfl)))) (mvT hZ (hw _ (List.mem_of_getElem? (i := 62) rfl))) (mvT hZ (hw _ (List.mem_of_getElem? (i := 61) rfl))) (by decide) (backOf (W := 0) (rm10 l Z a0 hw [] f (0 : Int32) _ _ T30.heap n0 Z30 F_locals_f F_assigned_f F_reach_f E_f g_f) hZ (hw _ (List.mem_of_getElem? (i := 63) rfl)) (hw _ (List.mem_of_getElem? (i := 2) rfl)) (by decide) (by decide)) q31a q31c (g := (mkF m 35 #[.val (.int p1), .val (.int p2), .val (.int (3 : Int32)), .val (.int z), .val (.ref f), .val (.int (1 : Int32)), .unset, .unset] [(.ref f)])) rfl (by rw [hml]; rfl) (Steps.refl _) (argsL := []) (rest := []) (lenOf pd_rm0_1 rfl) rfl (by show 2 * 0 + _ ≤ _; exact Nat.le_of_eq rfl) (hb hby at_35) (fun _ _ => ⟨rfl, rfl, (by decide : 3 + 0 ≤ _), (by decide : 7 + 0 ≤ _)⟩)
      dsimp only [Pt.U, Pt.locs, Pt.cells, Pt.slots] at X31 l31 y31 z31 st31 hQ31
      subst l31 y31 z31
      obtain ⟨rfl, N31q, Kc31, Ea31, Fa31, Fb31, Fc31⟩ := hQ31
      have N31 := Fr.app N30 N31q
      have hzt := hzt.keep Kc31 (allS g_f all0)
      have B_bs := B_bs.keep Kc31 (ninS (Ne.symm ne_f_bs) nin0) (ninS (Ne.symm ne_f_wa) nin0)
      have Z31 : n0 ≤ T31.heap.size := Nat.le_trans Z30 Kc31.1
      refine OEnds.go (t' := T31.setTop (mkF m 38 #[.val (.int p1), .val (.int p2), .val (.int (3 : Int32)), .val (.int z), .val (.ref f), .val (.int (1 : Int32)), .unset, .unset] [(.int (0 : Int32))])) (fun _ k => st31.trans k) ?_
      have E_f := Ea31
      have F_locals_f := Fa31
      have F_assigned_f := Fb31
      have F_reach_f := Fc31
      rw [show ((0 : Int32) + 1 : Int32) = (1 : Int32) from by decide] at F_locals_f
      refine OEnds.go (t' := T31.setTop (mkF m 44 #[.val (.int p1), .val (.int p2), .val (.int (3 : Int32)), .val (.int z), .val (.ref f), .val (.int (1 : Int32)), .val (.int (0 : Int32)), .unset] [(.int (0 : Int32)), (.int (1 : Int32))])) (fun _ k => ?_) ?_
      · show Steps p.tables e below (T31.setTop (mkF m 38 #[.val (.int p1), .val (.int p2), .val (.int (3 : Int32)), .val (.int z), .val (.ref f), .val (.int (1 : Int32)), .unset, .unset] [(.int (0 : Int32))])) _
        refine XS.istore X31.here hx rfl (hb hby at_38) rfl (l' := #[.val (.int p1), .val (.int p2), .val (.int (3 : Int32)), .val (.int z), .val (.ref f), .val (.int (1 : Int32)), .val (.int (0 : Int32)), .unset]) rfl ?_
        show Steps p.tables e below (T31.setTop (mkF m 40 #[.val (.int p1), .val (.int p2), .val (.int (3 : Int32)), .val (.int z), .val (.ref f), .val (.int (1 : Int32)), .val (.int (0 : Int32)), .unset] [])) _
        refine XS.iload X31.here hx rfl (hb hby at_40) rfl ?_
        show Steps p.tables e below (T31.setTop (mkF m 42 #[.val (.int p1), .val (.int p2), .val (.int (3 : Int32)), .val (.int z), .val (.ref f), .val (.int (1 : Int32)), .val (.int (0 : Int32)), .unset] [(.int (1 : Int32))])) _
        refine XS.iload X31.here hx rfl (hb hby at_42) rfl ?_
        show Steps p.tables e below (T31.setTop (mkF m 44 #[.val (.int p1), .val (.int p2), .val (.int (3 : Int32)), .val (.int z), .val (.ref f), .val (.int (1 : Int32)), .val (.int (0 : Int32)), .unset] [(.int (0 : Int32)), (.int (1 : Int32))])) _
        exact k
      refine OEnds.go (t' := T31.setTop (mkF m 47 #[.val (.int p1), .val (.int p2), .val (.int (3 : Int32)), .val (.int z), .val (.ref f), .val (.int (1 : Int32)), .val (.int (0 : Int32)), .unset] [(.int (1 : Int32))])) (fun _ k => XS.ifNo X31.here hx rfl (hb hby at_44) rfl ((if0 _ _).trans (teq (by decide)).2) k) ?_
      refine OEnds.go (t' := T31.setTop (mkF m 57 #[.val (.int p1), .val (.int p2), .val (.int (3 : Int32)), .val (.int z), .val (.ref f), .val (.int ((1 : Int32) &&& (1 : Int32))), .val (.int (0 : Int32)), .unset] [(.int (2 : Int32)), (.int (3 : Int32))])) (fun _ k => ?_) ?_
      · show Steps p.tables e below (T31.setTop (mkF m 47 #[.val (.int p1), .val (.int p2), .val (.int (3 : Int32)), .val (.int z), .val (.ref f), .val (.int (1 : Int32)), .val (.int (0 : Int32)), .unset] [(.int (1 : Int32))])) _
        refine XS.iconst X31.here hx rfl (hb hby at_47) ?_
        show Steps p.tables e below (T31.setTop (mkF m 48 #[.val (.int p1), .val (.int p2), .val (.int (3 : Int32)), .val (.int z), .val (.ref f), .val (.int (1 : Int32)), .val (.int (0 : Int32)), .unset] [(.int (1 : Int32)), (.int (1 : Int32))])) _
        refine XS.goto X31.here hx rfl (pc0 := 48) (pc' := 52) rfl (hb hby at_48) (by decide) (by decide) ?_
        show Steps p.tables e below (T31.setTop (mkF m 52 #[.val (.int p1), .val (.int p2), .val (.int (3 : Int32)), .val (.int z), .val (.ref f), .val (.int (1 : Int32)), .val (.int (0 : Int32)), .unset] [(.int (1 : Int32)), (.int (1 : Int32))])) _
        refine XS.iand X31.here hx rfl (hb hby at_52) rfl ?_
        show Steps p.tables e below (T31.setTop (mkF m 53 #[.val (.int p1), .val (.int p2), .val (.int (3 : Int32)), .val (.int z), .val (.ref f), .val (.int (1 : Int32)), .val (.int (0 : Int32)), .unset] [(.int ((1 : Int32) &&& (1 : Int32)))])) _
        refine XS.istore X31.here hx rfl (hb hby at_53) rfl (l' := #[.val (.int p1), .val (.int p2), .val (.int (3 : Int32)), .val (.int z), .val (.ref f), .val (.int ((1 : Int32) &&& (1 : Int32))), .val (.int (0 : Int32)), .unset]) rfl ?_
        show Steps p.tables e below (T31.setTop (mkF m 55 #[.val (.int p1), .val (.int p2), .val (.int (3 : Int32)), .val (.int z), .val (.ref f), .val (.int ((1 : Int32) &&& (1 : Int32))), .val (.int (0 : Int32)), .unset] [])) _
        refine XS.iloadN X31.here hx rfl (hb hby at_55) rfl ?_
        show Steps p.tables e below (T31.setTop (mkF m 56 #[.val (.int p1), .val (.int p2), .val (.int (3 : Int32)), .val (.int z), .val (.ref f), .val (.int ((1 : Int32) &&& (1 : Int32))), .val (.int (0 : Int32)), .unset] [(.int (3 : Int32))])) _
        refine XS.iconst X31.here hx rfl (hb hby at_56) ?_
        show Steps p.tables e below (T31.setTop (mkF m 57 #[.val (.int p1), .val (.int p2), .val (.int (3 : Int32)), .val (.int z), .val (.ref f), .val (.int ((1 : Int32) &&& (1 : Int32))), .val (.int (0 : Int32)), .unset] [(.int (2 : Int32)), (.int (3 : Int32))])) _
        exact k
      refine OEnds.go (t' := T31.setTop (mkF m 60 #[.val (.int p1), .val (.int p2), .val (.int (3 : Int32)), .val (.int z), .val (.ref f), .val (.int ((1 : Int32) &&& (1 : Int32))), .val (.int (0 : Int32)), .unset] [])) (fun _ k => XS.icmpNo X31.here hx rfl (hb hby at_57) rfl (flt (by decide)).1 k) ?_
      refine OEnds.go (t' := T31.setTop (mkF m 62 #[.val (.int p1), .val (.int p2), .val (.int (3 : Int32)), .val (.int z), .val (.ref f), .val (.int ((1 : Int32) &&& (1 : Int32))), .val (.int (0 : Int32)), .unset] [(.ref f)])) (fun _ k => ?_) ?_
      · show Steps p.tables e below (T31.setTop (mkF m 60 #[.val (.int p1), .val (.int p2), .val (.int (3 : Int32)), .val (.int z), .val (.ref f), .val (.int ((1 : Int32) &&& (1 : Int32))), .val (.int (0 : Int32)), .unset] [])) _
        refine XS.aload X31.here hx rfl (hb hby at_60) rfl rfl ?_
        show Steps p.tables e below (T31.setTop (mkF m 62 #[.val (.int p1), .val (.int p2), .val (.int (3 : Int32)), .val (.int z), .val (.ref f), .val (.int ((1 : Int32) &&& (1 : Int32))), .val (.int (0 : Int32)), .unset] [(.ref f)])) _
        exact k
      obtain ⟨cq32, kq32, q32a, q32b, q32c⟩ := isOf hZ rfl E_f
      obtain ⟨_, _, ⟨T32, L32, k32, n32⟩, -, X32, ⟨Lc32, hQ32, l32, y32, z32⟩, st32⟩ := X31.virtualBack hx (y := (⟨"com/example/typewright/typewright/Flow", "declare", "()I"⟩ : MethodName)) (z := (⟨"com/example/typewright/typewright/Flow", "declare", "()I"⟩ : MethodName)) hown (mvT hZ (hw _ (List.mem_of_getElem? (i := 59) rfl))) (mvT hZ (hw _ (List.mem_of_getElem? (i := 60) rfl))) (notFace_of_selects (args := #[]) (mvT hZ (hw _ (List.mem_of_getElem? (i := 62) rfl)))) (mvT hZ (hw _ (List.mem_of_getElem? (i := 62) rfl))) (mvT hZ (hw _ (List.mem_of_getElem? (i := 61) rfl))) (by decide) (backOf (W := 0) (rm10 l Z a0 hw [] f (1 : Int32) _ _ T31.heap n0 Z31 F_locals_f F_assigned_f F_reach_f E_f g_f) hZ (hw _ (List.mem_of_getElem? (i := 63) rfl)) (hw _ (List.mem_of_getElem? (i := 2) rfl)) (by decide) (by decide)) q32a q32c (g := (mkF m 62 #[.val (.int p1), .val (.int p2), .val (.int (3 : Int32)), .val (.int z), .val (.ref f), .val (.int ((1 : Int32) &&& (1 : Int32))), .val (.int (0 : Int32)), .unset] [(.ref f)])) rfl (by rw [hml]; rfl) (Steps.refl _) (argsL := []) (rest := []) (lenOf pd_rm0_1 rfl) rfl (by show 2 * 0 + _ ≤ _; exact Nat.le_of_eq rfl) (hb hby at_62) (fun _ _ => ⟨rfl, rfl, (by decide : 3 + 0 ≤ _), (by decide : 7 + 0 ≤ _)⟩)
      dsimp only [Pt.U, Pt.locs, Pt.cells, Pt.slots] at X32 l32 y32 z32 st32 hQ32
      subst l32 y32 z32
      obtain ⟨rfl, N32q, Kc32, Ea32, Fa32, Fb32, Fc32⟩ := hQ32
      have N32 := Fr.app N31 N32q
      have hzt := hzt.keep Kc32 (allS g_f all0)
      have B_bs := B_bs.keep Kc32 (ninS (Ne.symm ne_f_bs) nin0) (ninS (Ne.symm ne_f_wa) nin0)
      have Z32 : n0 ≤ T32.heap.size := Nat.le_trans Z31 Kc32.1
      refine OEnds.go (t' := T32.setTop (mkF m 65 #[.val (.int p1), .val (.int p2), .val (.int (3 : Int32)), .val (.int z), .val (.ref f), .val (.int ((1 : Int32) &&& (1 : Int32))), .val (.int (0 : Int32)), .unset] [(.int (1 : Int32))])) (fun _ k => st32.trans k) ?_
      have E_f := Ea32
      have F_locals_f := Fa32
      have F_assigned_f := Fb32
      have F_reach_f := Fc32
      rw [show ((1 : Int32) + 1 : Int32) = (2 : Int32) from by decide] at F_locals_f
      refine OEnds.go (t' := T32.setTop (mkF m 72 #[.val (.int p1), .val (.int p2), .val (.int (3 : Int32)), .val (.int z), .val (.ref f), .val (.int ((1 : Int32) &&& (1 : Int32))), .val (.int (1 : Int32)), .unset] [(.int (1 : Int32)), (.int (1 : Int32)), (.int ((1 : Int32) &&& (1 : Int32)))])) (fun _ k => ?_) ?_
      · show Steps p.tables e below (T32.setTop (mkF m 65 #[.val (.int p1), .val (.int p2), .val (.int (3 : Int32)), .val (.int z), .val (.ref f), .val (.int ((1 : Int32) &&& (1 : Int32))), .val (.int (0 : Int32)), .unset] [(.int (1 : Int32))])) _
        refine XS.istore X32.here hx rfl (hb hby at_65) rfl (l' := #[.val (.int p1), .val (.int p2), .val (.int (3 : Int32)), .val (.int z), .val (.ref f), .val (.int ((1 : Int32) &&& (1 : Int32))), .val (.int (1 : Int32)), .unset]) rfl ?_
        show Steps p.tables e below (T32.setTop (mkF m 67 #[.val (.int p1), .val (.int p2), .val (.int (3 : Int32)), .val (.int z), .val (.ref f), .val (.int ((1 : Int32) &&& (1 : Int32))), .val (.int (1 : Int32)), .unset] [])) _
        refine XS.iload X32.here hx rfl (hb hby at_67) rfl ?_
        show Steps p.tables e below (T32.setTop (mkF m 69 #[.val (.int p1), .val (.int p2), .val (.int (3 : Int32)), .val (.int z), .val (.ref f), .val (.int ((1 : Int32) &&& (1 : Int32))), .val (.int (1 : Int32)), .unset] [(.int ((1 : Int32) &&& (1 : Int32)))])) _
        refine XS.iload X32.here hx rfl (hb hby at_69) rfl ?_
        show Steps p.tables e below (T32.setTop (mkF m 71 #[.val (.int p1), .val (.int p2), .val (.int (3 : Int32)), .val (.int z), .val (.ref f), .val (.int ((1 : Int32) &&& (1 : Int32))), .val (.int (1 : Int32)), .unset] [(.int (1 : Int32)), (.int ((1 : Int32) &&& (1 : Int32)))])) _
        refine XS.iconst X32.here hx rfl (hb hby at_71) ?_
        show Steps p.tables e below (T32.setTop (mkF m 72 #[.val (.int p1), .val (.int p2), .val (.int (3 : Int32)), .val (.int z), .val (.ref f), .val (.int ((1 : Int32) &&& (1 : Int32))), .val (.int (1 : Int32)), .unset] [(.int (1 : Int32)), (.int (1 : Int32)), (.int ((1 : Int32) &&& (1 : Int32)))])) _
        exact k
      refine OEnds.go (t' := T32.setTop (mkF m 75 #[.val (.int p1), .val (.int p2), .val (.int (3 : Int32)), .val (.int z), .val (.ref f), .val (.int ((1 : Int32) &&& (1 : Int32))), .val (.int (1 : Int32)), .unset] [(.int ((1 : Int32) &&& (1 : Int32)))])) (fun _ k => XS.icmpNo X32.here hx rfl (hb hby at_72) rfl (teq (by decide)).2 k) ?_
      refine OEnds.go (t' := T32.setTop (mkF m 85 #[.val (.int p1), .val (.int p2), .val (.int (3 : Int32)), .val (.int z), .val (.ref f), .val (.int (((1 : Int32) &&& (1 : Int32)) &&& (1 : Int32))), .val (.int (1 : Int32)), .unset] [(.int (3 : Int32)), (.int (3 : Int32))])) (fun _ k => ?_) ?_
      · show Steps p.tables e below (T32.setTop (mkF m 75 #[.val (.int p1), .val (.int p2), .val (.int (3 : Int32)), .val (.int z), .val (.ref f), .val (.int ((1 : Int32) &&& (1 : Int32))), .val (.int (1 : Int32)), .unset] [(.int ((1 : Int32) &&& (1 : Int32)))])) _
        refine XS.iconst X32.here hx rfl (hb hby at_75) ?_
        show Steps p.tables e below (T32.setTop (mkF m 76 #[.val (.int p1), .val (.int p2), .val (.int (3 : Int32)), .val (.int z), .val (.ref f), .val (.int ((1 : Int32) &&& (1 : Int32))), .val (.int (1 : Int32)), .unset] [(.int (1 : Int32)), (.int ((1 : Int32) &&& (1 : Int32)))])) _
        refine XS.goto X32.here hx rfl (pc0 := 76) (pc' := 80) rfl (hb hby at_76) (by decide) (by decide) ?_
        show Steps p.tables e below (T32.setTop (mkF m 80 #[.val (.int p1), .val (.int p2), .val (.int (3 : Int32)), .val (.int z), .val (.ref f), .val (.int ((1 : Int32) &&& (1 : Int32))), .val (.int (1 : Int32)), .unset] [(.int (1 : Int32)), (.int ((1 : Int32) &&& (1 : Int32)))])) _
        refine XS.iand X32.here hx rfl (hb hby at_80) rfl ?_
        show Steps p.tables e below (T32.setTop (mkF m 81 #[.val (.int p1), .val (.int p2), .val (.int (3 : Int32)), .val (.int z), .val (.ref f), .val (.int ((1 : Int32) &&& (1 : Int32))), .val (.int (1 : Int32)), .unset] [(.int (((1 : Int32) &&& (1 : Int32)) &&& (1 : Int32)))])) _
        refine XS.istore X32.here hx rfl (hb hby at_81) rfl (l' := #[.val (.int p1), .val (.int p2), .val (.int (3 : Int32)), .val (.int z), .val (.ref f), .val (.int (((1 : Int32) &&& (1 : Int32)) &&& (1 : Int32))), .val (.int (1 : Int32)), .unset]) rfl ?_
        show Steps p.tables e below (T32.setTop (mkF m 83 #[.val (.int p1), .val (.int p2), .val (.int (3 : Int32)), .val (.int z), .val (.ref f), .val (.int (((1 : Int32) &&& (1 : Int32)) &&& (1 : Int32))), .val (.int (1 : Int32)), .unset] [])) _
        refine XS.iloadN X32.here hx rfl (hb hby at_83) rfl ?_
        show Steps p.tables e below (T32.setTop (mkF m 84 #[.val (.int p1), .val (.int p2), .val (.int (3 : Int32)), .val (.int z), .val (.ref f), .val (.int (((1 : Int32) &&& (1 : Int32)) &&& (1 : Int32))), .val (.int (1 : Int32)), .unset] [(.int (3 : Int32))])) _
        refine XS.iconst X32.here hx rfl (hb hby at_84) ?_
        show Steps p.tables e below (T32.setTop (mkF m 85 #[.val (.int p1), .val (.int p2), .val (.int (3 : Int32)), .val (.int z), .val (.ref f), .val (.int (((1 : Int32) &&& (1 : Int32)) &&& (1 : Int32))), .val (.int (1 : Int32)), .unset] [(.int (3 : Int32)), (.int (3 : Int32))])) _
        exact k
      refine OEnds.go (t' := T32.setTop (mkF m 88 #[.val (.int p1), .val (.int p2), .val (.int (3 : Int32)), .val (.int z), .val (.ref f), .val (.int (((1 : Int32) &&& (1 : Int32)) &&& (1 : Int32))), .val (.int (1 : Int32)), .unset] [])) (fun _ k => XS.icmpNo X32.here hx rfl (hb hby at_85) rfl (flt (by decide)).1 k) ?_
      refine OEnds.go (t' := T32.setTop (mkF m 90 #[.val (.int p1), .val (.int p2), .val (.int (3 : Int32)), .val (.int z), .val (.ref f), .val (.int (((1 : Int32) &&& (1 : Int32)) &&& (1 : Int32))), .val (.int (1 : Int32)), .unset] [(.ref f)])) (fun _ k => ?_) ?_
      · show Steps p.tables e below (T32.setTop (mkF m 88 #[.val (.int p1), .val (.int p2), .val (.int (3 : Int32)), .val (.int z), .val (.ref f), .val (.int (((1 : Int32) &&& (1 : Int32)) &&& (1 : Int32))), .val (.int (1 : Int32)), .unset] [])) _
        refine XS.aload X32.here hx rfl (hb hby at_88) rfl rfl ?_
        show Steps p.tables e below (T32.setTop (mkF m 90 #[.val (.int p1), .val (.int p2), .val (.int (3 : Int32)), .val (.int z), .val (.ref f), .val (.int (((1 : Int32) &&& (1 : Int32)) &&& (1 : Int32))), .val (.int (1 : Int32)), .unset] [(.ref f)])) _
        exact k
      obtain ⟨cq33, kq33, q33a, q33b, q33c⟩ := isOf hZ rfl E_f
      obtain ⟨_, _, ⟨T33, L33, k33, n33⟩, -, X33, ⟨Lc33, hQ33, l33, y33, z33⟩, st33⟩ := X32.virtualBack hx (y := (⟨"com/example/typewright/typewright/Flow", "declare", "()I"⟩ : MethodName)) (z := (⟨"com/example/typewright/typewright/Flow", "declare", "()I"⟩ : MethodName)) hown (mvT hZ (hw _ (List.mem_of_getElem? (i := 59) rfl))) (mvT hZ (hw _ (List.mem_of_getElem? (i := 60) rfl))) (notFace_of_selects (args := #[]) (mvT hZ (hw _ (List.mem_of_getElem? (i := 62) rfl)))) (mvT hZ (hw _ (List.mem_of_getElem? (i := 62) rfl))) (mvT hZ (hw _ (List.mem_of_getElem? (i := 61) rfl))) (by decide) (backOf (W := 0) (rm10 l Z a0 hw [] f (2 : Int32) _ _ T32.heap n0 Z32 F_locals_f F_assigned_f F_reach_f E_f g_f) hZ (hw _ (List.mem_of_getElem? (i := 63) rfl)) (hw _ (List.mem_of_getElem? (i := 2) rfl)) (by decide) (by decide)) q33a q33c (g := (mkF m 90 #[.val (.int p1), .val (.int p2), .val (.int (3 : Int32)), .val (.int z), .val (.ref f), .val (.int (((1 : Int32) &&& (1 : Int32)) &&& (1 : Int32))), .val (.int (1 : Int32)), .unset] [(.ref f)])) rfl (by rw [hml]; rfl) (Steps.refl _) (argsL := []) (rest := []) (lenOf pd_rm0_1 rfl) rfl (by show 2 * 0 + _ ≤ _; exact Nat.le_of_eq rfl) (hb hby at_90) (fun _ _ => ⟨rfl, rfl, (by decide : 3 + 0 ≤ _), (by decide : 7 + 0 ≤ _)⟩)
      dsimp only [Pt.U, Pt.locs, Pt.cells, Pt.slots] at X33 l33 y33 z33 st33 hQ33
      subst l33 y33 z33
      obtain ⟨rfl, N33q, Kc33, Ea33, Fa33, Fb33, Fc33⟩ := hQ33
      have N33 := Fr.app N32 N33q
      have hzt := hzt.keep Kc33 (allS g_f all0)
      have B_bs := B_bs.keep Kc33 (ninS (Ne.symm ne_f_bs) nin0) (ninS (Ne.symm ne_f_wa) nin0)
      have Z33 : n0 ≤ T33.heap.size := Nat.le_trans Z32 Kc33.1
      refine OEnds.go (t' := T33.setTop (mkF m 93 #[.val (.int p1), .val (.int p2), .val (.int (3 : Int32)), .val (.int z), .val (.ref f), .val (.int (((1 : Int32) &&& (1 : Int32)) &&& (1 : Int32))), .val (.int (1 : Int32)), .unset] [(.int (2 : Int32))])) (fun _ k => st33.trans k) ?_
      have E_f := Ea33
      have F_locals_f := Fa33
      have F_assigned_f := Fb33
      have F_reach_f := Fc33
      rw [show ((2 : Int32) + 1 : Int32) = (3 : Int32) from by decide] at F_locals_f
      refine OEnds.go (t' := T33.setTop (mkF m 100 #[.val (.int p1), .val (.int p2), .val (.int (3 : Int32)), .val (.int z), .val (.ref f), .val (.int (((1 : Int32) &&& (1 : Int32)) &&& (1 : Int32))), .val (.int (2 : Int32)), .unset] [(.int (2 : Int32)), (.int (2 : Int32)), (.int (((1 : Int32) &&& (1 : Int32)) &&& (1 : Int32)))])) (fun _ k => ?_) ?_
      · show Steps p.tables e below (T33.setTop (mkF m 93 #[.val (.int p1), .val (.int p2), .val (.int (3 : Int32)), .val (.int z), .val (.ref f), .val (.int (((1 : Int32) &&& (1 : Int32)) &&& (1 : Int32))), .val (.int (1 : Int32)), .unset] [(.int (2 : Int32))])) _
        refine XS.istore X33.here hx rfl (hb hby at_93) rfl (l' := #[.val (.int p1), .val (.int p2), .val (.int (3 : Int32)), .val (.int z), .val (.ref f), .val (.int (((1 : Int32) &&& (1 : Int32)) &&& (1 : Int32))), .val (.int (2 : Int32)), .unset]) rfl ?_
        show Steps p.tables e below (T33.setTop (mkF m 95 #[.val (.int p1), .val (.int p2), .val (.int (3 : Int32)), .val (.int z), .val (.ref f), .val (.int (((1 : Int32) &&& (1 : Int32)) &&& (1 : Int32))), .val (.int (2 : Int32)), .unset] [])) _
        refine XS.iload X33.here hx rfl (hb hby at_95) rfl ?_
        show Steps p.tables e below (T33.setTop (mkF m 97 #[.val (.int p1), .val (.int p2), .val (.int (3 : Int32)), .val (.int z), .val (.ref f), .val (.int (((1 : Int32) &&& (1 : Int32)) &&& (1 : Int32))), .val (.int (2 : Int32)), .unset] [(.int (((1 : Int32) &&& (1 : Int32)) &&& (1 : Int32)))])) _
        refine XS.iload X33.here hx rfl (hb hby at_97) rfl ?_
        show Steps p.tables e below (T33.setTop (mkF m 99 #[.val (.int p1), .val (.int p2), .val (.int (3 : Int32)), .val (.int z), .val (.ref f), .val (.int (((1 : Int32) &&& (1 : Int32)) &&& (1 : Int32))), .val (.int (2 : Int32)), .unset] [(.int (2 : Int32)), (.int (((1 : Int32) &&& (1 : Int32)) &&& (1 : Int32)))])) _
        refine XS.iconst X33.here hx rfl (hb hby at_99) ?_
        show Steps p.tables e below (T33.setTop (mkF m 100 #[.val (.int p1), .val (.int p2), .val (.int (3 : Int32)), .val (.int z), .val (.ref f), .val (.int (((1 : Int32) &&& (1 : Int32)) &&& (1 : Int32))), .val (.int (2 : Int32)), .unset] [(.int (2 : Int32)), (.int (2 : Int32)), (.int (((1 : Int32) &&& (1 : Int32)) &&& (1 : Int32)))])) _
        exact k
      refine OEnds.go (t' := T33.setTop (mkF m 103 #[.val (.int p1), .val (.int p2), .val (.int (3 : Int32)), .val (.int z), .val (.ref f), .val (.int (((1 : Int32) &&& (1 : Int32)) &&& (1 : Int32))), .val (.int (2 : Int32)), .unset] [(.int (((1 : Int32) &&& (1 : Int32)) &&& (1 : Int32)))])) (fun _ k => XS.icmpNo X33.here hx rfl (hb hby at_100) rfl (teq (by decide)).2 k) ?_
      refine OEnds.go (t' := T33.setTop (mkF m 111 #[.val (.int p1), .val (.int p2), .val (.int (3 : Int32)), .val (.int z), .val (.ref f), .val (.int ((((1 : Int32) &&& (1 : Int32)) &&& (1 : Int32)) &&& (1 : Int32))), .val (.int (2 : Int32)), .unset] [])) (fun _ k => ?_) ?_
      · show Steps p.tables e below (T33.setTop (mkF m 103 #[.val (.int p1), .val (.int p2), .val (.int (3 : Int32)), .val (.int z), .val (.ref f), .val (.int (((1 : Int32) &&& (1 : Int32)) &&& (1 : Int32))), .val (.int (2 : Int32)), .unset] [(.int (((1 : Int32) &&& (1 : Int32)) &&& (1 : Int32)))])) _
        refine XS.iconst X33.here hx rfl (hb hby at_103) ?_
        show Steps p.tables e below (T33.setTop (mkF m 104 #[.val (.int p1), .val (.int p2), .val (.int (3 : Int32)), .val (.int z), .val (.ref f), .val (.int (((1 : Int32) &&& (1 : Int32)) &&& (1 : Int32))), .val (.int (2 : Int32)), .unset] [(.int (1 : Int32)), (.int (((1 : Int32) &&& (1 : Int32)) &&& (1 : Int32)))])) _
        refine XS.goto X33.here hx rfl (pc0 := 104) (pc' := 108) rfl (hb hby at_104) (by decide) (by decide) ?_
        show Steps p.tables e below (T33.setTop (mkF m 108 #[.val (.int p1), .val (.int p2), .val (.int (3 : Int32)), .val (.int z), .val (.ref f), .val (.int (((1 : Int32) &&& (1 : Int32)) &&& (1 : Int32))), .val (.int (2 : Int32)), .unset] [(.int (1 : Int32)), (.int (((1 : Int32) &&& (1 : Int32)) &&& (1 : Int32)))])) _
        refine XS.iand X33.here hx rfl (hb hby at_108) rfl ?_
        show Steps p.tables e below (T33.setTop (mkF m 109 #[.val (.int p1), .val (.int p2), .val (.int (3 : Int32)), .val (.int z), .val (.ref f), .val (.int (((1 : Int32) &&& (1 : Int32)) &&& (1 : Int32))), .val (.int (2 : Int32)), .unset] [(.int ((((1 : Int32) &&& (1 : Int32)) &&& (1 : Int32)) &&& (1 : Int32)))])) _
        refine XS.istore X33.here hx rfl (hb hby at_109) rfl (l' := #[.val (.int p1), .val (.int p2), .val (.int (3 : Int32)), .val (.int z), .val (.ref f), .val (.int ((((1 : Int32) &&& (1 : Int32)) &&& (1 : Int32)) &&& (1 : Int32))), .val (.int (2 : Int32)), .unset]) rfl ?_
        show Steps p.tables e below (T33.setTop (mkF m 111 #[.val (.int p1), .val (.int p2), .val (.int (3 : Int32)), .val (.int z), .val (.ref f), .val (.int ((((1 : Int32) &&& (1 : Int32)) &&& (1 : Int32)) &&& (1 : Int32))), .val (.int (2 : Int32)), .unset] [])) _
        exact k
      refine OEnds.go (t' := T33.setTop (mkF m 112 #[.val (.int p1), .val (.int p2), .val (.int (3 : Int32)), .val (.int z), .val (.ref f), .val (.int ((((1 : Int32) &&& (1 : Int32)) &&& (1 : Int32)) &&& (1 : Int32))), .val (.int (2 : Int32)), .unset] [(.int z)])) (fun _ k => ?_) ?_
      · show Steps p.tables e below (T33.setTop (mkF m 111 #[.val (.int p1), .val (.int p2), .val (.int (3 : Int32)), .val (.int z), .val (.ref f), .val (.int ((((1 : Int32) &&& (1 : Int32)) &&& (1 : Int32)) &&& (1 : Int32))), .val (.int (2 : Int32)), .unset] [])) _
        refine XS.iloadN X33.here hx rfl (hb hby at_111) rfl ?_
        show Steps p.tables e below (T33.setTop (mkF m 112 #[.val (.int p1), .val (.int p2), .val (.int (3 : Int32)), .val (.int z), .val (.ref f), .val (.int ((((1 : Int32) &&& (1 : Int32)) &&& (1 : Int32)) &&& (1 : Int32))), .val (.int (2 : Int32)), .unset] [(.int z)])) _
        exact k
      refine OEnds.cut (fun En => ∀ (Tq : State) (Tq_l : List Loc) (hq : Heap), Stand p l e room_1 s m #[(.int p1), (.int p2)] below meth c Tq Tq_l 5 11 → Tq.heap = hq → Fr n0 Tq_l → n0 ≤ hq.size → ∀ (qs : Addr) (qw : Addr) (qk : ClassId) (u : Int32) (w : Int64) (ur : Value), Old Z n0 hq → Exa Z hq f "com/example/typewright/typewright/Flow" → Fld Z hq f "com/example/typewright/typewright/Flow" "locals" "I" (.int (3 : Int32)) → Fld Z hq f "com/example/typewright/typewright/Flow" "assigned" "Ljava/util/BitSet;" (.ref qs) → Fld Z hq f "com/example/typewright/typewright/Flow" "reach" "Lcom/example/typewright/typewright/Flow$Reach;" ur → own_Bits Z hq qs qw qk u w → f ≠ qs → f ≠ qw → own_get u w (3 : Int32) = 0 → own_get u w (4 : Int32) = 0 → own_get u w 0 = z → own_get u w (2 : Int32) = z → En (Tq.setTop (mkF m 120 #[.val (.int p1), .val (.int p2), .val (.int (3 : Int32)), .val (.int z), .val (.ref f), .val (.int ((((1 : Int32) &&& (1 : Int32)) &&& (1 : Int32)) &&& (1 : Int32))), .val (.int (2 : Int32)), .unset] []))) ?_ (fun K120 => ?_)
      · intro Tq Tq_l hq XTq eTq NTq ZTq qs qw qk u w ur hzt E_f F_locals_f F_assigned_f F_reach_f B_q ne_f_qs ne_f_qw hA hB hC hD
        refine OEnds.go (t' := Tq.setTop (mkF m 122 #[.val (.int p1), .val (.int p2), .val (.int (3 : Int32)), .val (.int z), .val (.ref f), .val (.int ((((1 : Int32) &&& (1 : Int32)) &&& (1 : Int32)) &&& (1 : Int32))), .val (.int (2 : Int32)), .unset] [(.ref f)])) (fun _ k => ?_) ?_
        · show Steps p.tables e below (Tq.setTop (mkF m 120 #[.val (.int p1), .val (.int p2), .val (.int (3 : Int32)), .val (.int z), .val (.ref f), .val (.int ((((1 : Int32) &&& (1 : Int32)) &&& (1 : Int32)) &&& (1 : Int32))), .val (.int (2 : Int32)), .unset] [])) _
          refine XS.aload XTq.here hx rfl (hb hby at_120) rfl rfl ?_
          show Steps p.tables e below (Tq.setTop (mkF m 122 #[.val (.int p1), .val (.int p2), .val (.int (3 : Int32)), .val (.int z), .val (.ref f), .val (.int ((((1 : Int32) &&& (1 : Int32)) &&& (1 : Int32)) &&& (1 : Int32))), .val (.int (2 : Int32)), .unset] [(.ref f)])) _
          exact k
        obtain ⟨cq34, kq34, q34a, q34b, q34c⟩ := isOf hZ eTq E_f
        obtain ⟨_, _, ⟨T34, L34, k34, n34⟩, -, X34, ⟨Lc34, hQ34, l34, y34, z34⟩, st34⟩ := XTq.virtualBack hx (y := (⟨"com/example/typewright/typewright/Flow", "declare", "()I"⟩ : MethodName)) (z := (⟨"com/example/typewright/typewright/Flow", "declare", "()I"⟩ : MethodName)) hown (mvT hZ (hw _ (List.mem_of_getElem? (i := 59) rfl))) (mvT hZ (hw _ (List.mem_of_getElem? (i := 60) rfl))) (notFace_of_selects (args := #[]) (mvT hZ (hw _ (List.mem_of_getElem? (i := 62) rfl)))) (mvT hZ (hw _ (List.mem_of_getElem? (i := 62) rfl))) (mvT hZ (hw _ (List.mem_of_getElem? (i := 61) rfl))) (by decide) (backOf (W := 0) (rm10 l Z a0 hw [] f (3 : Int32) _ _ hq n0 ZTq F_locals_f F_assigned_f F_reach_f E_f g_f) hZ (hw _ (List.mem_of_getElem? (i := 63) rfl)) (hw _ (List.mem_of_getElem? (i := 2) rfl)) (by decide) (by decide)) q34a q34c (g := (mkF m 122 #[.val (.int p1), .val (.int p2), .val (.int (3 : Int32)), .val (.int z), .val (.ref f), .val (.int ((((1 : Int32) &&& (1 : Int32)) &&& (1 : Int32)) &&& (1 : Int32))), .val (.int (2 : Int32)), .unset] [(.ref f)])) rfl (by rw [hml]; rfl) (Steps.refl _) (argsL := []) (rest := []) (lenOf pd_rm0_1 rfl) rfl (by show 2 * 0 + _ ≤ _; exact Nat.le_of_eq rfl) (hb hby at_122) (fun _ _ => ⟨rfl, eTq, (by decide : 5 + 0 ≤ _), (by decide : 11 + 0 ≤ _)⟩)
        dsimp only [Pt.U, Pt.locs, Pt.cells, Pt.slots] at X34 l34 y34 z34 st34 hQ34
        subst l34 y34 z34
        obtain ⟨rfl, N34q, Kc34, Ea34, Fa34, Fb34, Fc34⟩ := hQ34
        have N34 := Fr.app NTq N34q
        have hzt := hzt.keep Kc34 (allS g_f all0)
        have B_q := B_q.keep Kc34 (ninS (Ne.symm ne_f_qs) nin0) (ninS (Ne.symm ne_f_qw) nin0)
        have Z34 : n0 ≤ T34.heap.size := Nat.le_trans ZTq Kc34.1
        refine OEnds.go (t' := T34.setTop (mkF m 125 #[.val (.int p1), .val (.int p2), .val (.int (3 : Int32)), .val (.int z), .val (.ref f), .val (.int ((((1 : Int32) &&& (1 : Int32)) &&& (1 : Int32)) &&& (1 : Int32))), .val (.int (2 : Int32)), .unset] [(.int (3 : Int32))])) (fun _ k => st34.trans k) ?_
        have E_f := Ea34
        have F_locals_f := Fa34
        have F_assigned_f := Fb34
        have F_reach_f := Fc34
        rw [show ((3 : Int32) + 1 : Int32) = (4 : Int32) from by decide] at F_locals_f
        refine OEnds.go (t' := T34.setTop (mkF m 129 #[.val (.int p1), .val (.int p2), .val (.int (3 : Int32)), .val (.int z), .val (.ref f), .val (.int ((((1 : Int32) &&& (1 : Int32)) &&& (1 : Int32)) &&& (1 : Int32))), .val (.int (3 : Int32)), .unset] [(.ref f)])) (fun _ k => ?_) ?_
        · show Steps p.tables e below (T34.setTop (mkF m 125 #[.val (.int p1), .val (.int p2), .val (.int (3 : Int32)), .val (.int z), .val (.ref f), .val (.int ((((1 : Int32) &&& (1 : Int32)) &&& (1 : Int32)) &&& (1 : Int32))), .val (.int (2 : Int32)), .unset] [(.int (3 : Int32))])) _
          refine XS.istore X34.here hx rfl (hb hby at_125) rfl (l' := #[.val (.int p1), .val (.int p2), .val (.int (3 : Int32)), .val (.int z), .val (.ref f), .val (.int ((((1 : Int32) &&& (1 : Int32)) &&& (1 : Int32)) &&& (1 : Int32))), .val (.int (3 : Int32)), .unset]) rfl ?_
          show Steps p.tables e below (T34.setTop (mkF m 127 #[.val (.int p1), .val (.int p2), .val (.int (3 : Int32)), .val (.int z), .val (.ref f), .val (.int ((((1 : Int32) &&& (1 : Int32)) &&& (1 : Int32)) &&& (1 : Int32))), .val (.int (3 : Int32)), .unset] [])) _
          refine XS.aload X34.here hx rfl (hb hby at_127) rfl rfl ?_
          show Steps p.tables e below (T34.setTop (mkF m 129 #[.val (.int p1), .val (.int p2), .val (.int (3 : Int32)), .val (.int z), .val (.ref f), .val (.int ((((1 : Int32) &&& (1 : Int32)) &&& (1 : Int32)) &&& (1 : Int32))), .val (.int (3 : Int32)), .unset] [(.ref f)])) _
          exact k
        obtain ⟨cq35, kq35, q35a, q35b, q35c⟩ := isOf hZ rfl E_f
        obtain ⟨_, _, ⟨T35, L35, k35, n35⟩, -, X35, ⟨Lc35, hQ35, l35, y35, z35⟩, st35⟩ := X34.virtualBack hx (y := (⟨"com/example/typewright/typewright/Flow", "declare", "()I"⟩ : MethodName)) (z := (⟨"com/example/typewright/typewright/Flow", "declare", "()I"⟩ : MethodName)) hown (mvT hZ (hw _ (List.mem_of_getElem? (i := 59) rfl))) (mvT hZ (hw _ (List.mem_of_getElem? (i := 60) rfl))) (notFace_of_selects (args := #[]) (mvT hZ (hw _ (List.mem_of_getElem? (i := 62) rfl)))) (mvT hZ (hw _ (List.mem_of_getElem? (i := 62) rfl))) (mvT hZ (hw _ (List.mem_of_getElem? (i := 61) rfl))) (by decide) (backOf (W := 0) (rm10 l Z a0 hw [] f (4 : Int32) _ _ T34.heap n0 Z34 F_locals_f F_assigned_f F_reach_f E_f g_f) hZ (hw _ (List.mem_of_getElem? (i := 63) rfl)) (hw _ (List.mem_of_getElem? (i := 2) rfl)) (by decide) (by decide)) q35a q35c (g := (mkF m 129 #[.val (.int p1), .val (.int p2), .val (.int (3 : Int32)), .val (.int z), .val (.ref f), .val (.int ((((1 : Int32) &&& (1 : Int32)) &&& (1 : Int32)) &&& (1 : Int32))), .val (.int (3 : Int32)), .unset] [(.ref f)])) rfl (by rw [hml]; rfl) (Steps.refl _) (argsL := []) (rest := []) (lenOf pd_rm0_1 rfl) rfl (by show 2 * 0 + _ ≤ _; exact Nat.le_of_eq rfl) (hb hby at_129) (fun _ _ => ⟨rfl, rfl, (by decide : 5 + 0 ≤ _), (by decide : 11 + 0 ≤ _)⟩)
        dsimp only [Pt.U, Pt.locs, Pt.cells, Pt.slots] at X35 l35 y35 z35 st35 hQ35
        subst l35 y35 z35
        obtain ⟨rfl, N35q, Kc35, Ea35, Fa35, Fb35, Fc35⟩ := hQ35
        have N35 := Fr.app N34 N35q
        have hzt := hzt.keep Kc35 (allS g_f all0)
        have B_q := B_q.keep Kc35 (ninS (Ne.symm ne_f_qs) nin0) (ninS (Ne.symm ne_f_qw) nin0)
        have Z35 : n0 ≤ T35.heap.size := Nat.le_trans Z34 Kc35.1
        refine OEnds.go (t' := T35.setTop (mkF m 132 #[.val (.int p1), .val (.int p2), .val (.int (3 : Int32)), .val (.int z), .val (.ref f), .val (.int ((((1 : Int32) &&& (1 : Int32)) &&& (1 : Int32)) &&& (1 : Int32))), .val (.int (3 : Int32)), .unset] [(.int (4 : Int32))])) (fun _ k => st35.trans k) ?_
        have E_f := Ea35
        have F_locals_f := Fa35
        have F_assigned_f := Fb35
        have F_reach_f := Fc35
        rw [show ((4 : Int32) + 1 : Int32) = (5 : Int32) from by decide] at F_locals_f
        refine OEnds.go (t' := T35.setTop (mkF m 139 #[.val (.int p1), .val (.int p2), .val (.int (3 : Int32)), .val (.int z), .val (.ref f), .val (.int ((((1 : Int32) &&& (1 : Int32)) &&& (1 : Int32)) &&& (1 : Int32))), .val (.int (3 : Int32)), .val (.int (4 : Int32))] [(.int (3 : Int32)), (.int (3 : Int32)), (.int ((((1 : Int32) &&& (1 : Int32)) &&& (1 : Int32)) &&& (1 : Int32)))])) (fun _ k => ?_) ?_
        · show Steps p.tables e below (T35.setTop (mkF m 132 #[.val (.int p1), .val (.int p2), .val (.int (3 : Int32)), .val (.int z), .val (.ref f), .val (.int ((((1 : Int32) &&& (1 : Int32)) &&& (1 : Int32)) &&& (1 : Int32))), .val (.int (3 : Int32)), .unset] [(.int (4 : Int32))])) _
          refine XS.istore X35.here hx rfl (hb hby at_132) rfl (l' := #[.val (.int p1), .val (.int p2), .val (.int (3 : Int32)), .val (.int z), .val (.ref f), .val (.int ((((1 : Int32) &&& (1 : Int32)) &&& (1 : Int32)) &&& (1 : Int32))), .val (.int (3 : Int32)), .val (.int (4 : Int32))]) rfl ?_
          show Steps p.tables e below (T35.setTop (mkF m 134 #[.val (.int p1), .val (.int p2), .val (.int (3 : Int32)), .val (.int z), .val (.ref f), .val (.int ((((1 : Int32) &&& (1 : Int32)) &&& (1 : Int32)) &&& (1 : Int32))), .val (.int (3 : Int32)), .val (.int (4 : Int32))] [])) _
          refine XS.iload X35.here hx rfl (hb hby at_134) rfl ?_
          show Steps p.tables e below (T35.setTop (mkF m 136 #[.val (.int p1), .val (.int p2), .val (.int (3 : Int32)), .val (.int z), .val (.ref f), .val (.int ((((1 : Int32) &&& (1 : Int32)) &&& (1 : Int32)) &&& (1 : Int32))), .val (.int (3 : Int32)), .val (.int (4 : Int32))] [(.int ((((1 : Int32) &&& (1 : Int32)) &&& (1 : Int32)) &&& (1 : Int32)))])) _
          refine XS.iload X35.here hx rfl (hb hby at_136) rfl ?_
          show Steps p.tables e below (T35.setTop (mkF m 138 #[.val (.int p1), .val (.int p2), .val (.int (3 : Int32)), .val (.int z), .val (.ref f), .val (.int ((((1 : Int32) &&& (1 : Int32)) &&& (1 : Int32)) &&& (1 : Int32))), .val (.int (3 : Int32)), .val (.int (4 : Int32))] [(.int (3 : Int32)), (.int ((((1 : Int32) &&& (1 : Int32)) &&& (1 : Int32)) &&& (1 : Int32)))])) _
          refine XS.iloadN X35.here hx rfl (hb hby at_138) rfl ?_
          show Steps p.tables e below (T35.setTop (mkF m 139 #[.val (.int p1), .val (.int p2), .val (.int (3 : Int32)), .val (.int z), .val (.ref f), .val (.int ((((1 : Int32) &&& (1 : Int32)) &&& (1 : Int32)) &&& (1 : Int32))), .val (.int (3 : Int32)), .val (.int (4 : Int32))] [(.int (3 : Int32)), (.int (3 : Int32)), (.int ((((1 : Int32) &&& (1 : Int32)) &&& (1 : Int32)) &&& (1 : Int32)))])) _
          exact k
        refine OEnds.go (t' := T35.setTop (mkF m 142 #[.val (.int p1), .val (.int p2), .val (.int (3 : Int32)), .val (.int z), .val (.ref f), .val (.int ((((1 : Int32) &&& (1 : Int32)) &&& (1 : Int32)) &&& (1 : Int32))), .val (.int (3 : Int32)), .val (.int (4 : Int32))] [(.int ((((1 : Int32) &&& (1 : Int32)) &&& (1 : Int32)) &&& (1 : Int32)))])) (fun _ k => XS.icmpNo X35.here hx rfl (hb hby at_139) rfl (teq (by decide)).2 k) ?_
        refine OEnds.go (t' := T35.setTop (mkF m 157 #[.val (.int p1), .val (.int p2), .val (.int (3 : Int32)), .val (.int z), .val (.ref f), .val (.int (((((1 : Int32) &&& (1 : Int32)) &&& (1 : Int32)) &&& (1 : Int32)) &&& (1 : Int32))), .val (.int (3 : Int32)), .val (.int (4 : Int32))] [(.int ((3 : Int32) + (1 : Int32))), (.int (4 : Int32)), (.int (((((1 : Int32) &&& (1 : Int32)) &&& (1 : Int32)) &&& (1 : Int32)) &&& (1 : Int32)))])) (fun _ k => ?_) ?_
        · show Steps p.tables e below (T35.setTop (mkF m 142 #[.val (.int p1), .val (.int p2), .val (.int (3 : Int32)), .val (.int z), .val (.ref f), .val (.int ((((1 : Int32) &&& (1 : Int32)) &&& (1 : Int32)) &&& (1 : Int32))), .val (.int (3 : Int32)), .val (.int (4 : Int32))] [(.int ((((1 : Int32) &&& (1 : Int32)) &&& (1 : Int32)) &&& (1 : Int32)))])) _
          refine XS.iconst X35.here hx rfl (hb hby at_142) ?_
          show Steps p.tables e below (T35.setTop (mkF m 143 #[.val (.int p1), .val (.int p2), .val (.int (3 : Int32)), .val (.int z), .val (.ref f), .val (.int ((((1 : Int32) &&& (1 : Int32)) &&& (1 : Int32)) &&& (1 : Int32))), .val (.int (3 : Int32)), .val (.int (4 : Int32))] [(.int (1 : Int32)), (.int ((((1 : Int32) &&& (1 : Int32)) &&& (1 : Int32)) &&& (1 : Int32)))])) _
          refine XS.goto X35.here hx rfl (pc0 := 143) (pc' := 147) rfl (hb hby at_143) (by decide) (by decide) ?_
          show Steps p.tables e below (T35.setTop (mkF m 147 #[.val (.int p1), .val (.int p2), .val (.int (3 : Int32)), .val (.int z), .val (.ref f), .val (.int ((((1 : Int32) &&& (1 : Int32)) &&& (1 : Int32)) &&& (1 : Int32))), .val (.int (3 : Int32)), .val (.int (4 : Int32))] [(.int (1 : Int32)), (.int ((((1 : Int32) &&& (1 : Int32)) &&& (1 : Int32)) &&& (1 : Int32)))])) _
          refine XS.iand X35.here hx rfl (hb hby at_147) rfl ?_
          show Steps p.tables e below (T35.setTop (mkF m 148 #[.val (.int p1), .val (.int p2), .val (.int (3 : Int32)), .val (.int z), .val (.ref f), .val (.int ((((1 : Int32) &&& (1 : Int32)) &&& (1 : Int32)) &&& (1 : Int32))), .val (.int (3 : Int32)), .val (.int (4 : Int32))] [(.int (((((1 : Int32) &&& (1 : Int32)) &&& (1 : Int32)) &&& (1 : Int32)) &&& (1 : Int32)))])) _
          refine XS.istore X35.here hx rfl (hb hby at_148) rfl (l' := #[.val (.int p1), .val (.int p2), .val (.int (3 : Int32)), .val (.int z), .val (.ref f), .val (.int (((((1 : Int32) &&& (1 : Int32)) &&& (1 : Int32)) &&& (1 : Int32)) &&& (1 : Int32))), .val (.int (3 : Int32)), .val (.int (4 : Int32))]) rfl ?_
          show Steps p.tables e below (T35.setTop (mkF m 150 #[.val (.int p1), .val (.int p2), .val (.int (3 : Int32)), .val (.int z), .val (.ref f), .val (.int (((((1 : Int32) &&& (1 : Int32)) &&& (1 : Int32)) &&& (1 : Int32)) &&& (1 : Int32))), .val (.int (3 : Int32)), .val (.int (4 : Int32))] [])) _
          refine XS.iload X35.here hx rfl (hb hby at_150) rfl ?_
          show Steps p.tables e below (T35.setTop (mkF m 152 #[.val (.int p1), .val (.int p2), .val (.int (3 : Int32)), .val (.int z), .val (.ref f), .val (.int (((((1 : Int32) &&& (1 : Int32)) &&& (1 : Int32)) &&& (1 : Int32)) &&& (1 : Int32))), .val (.int (3 : Int32)), .val (.int (4 : Int32))] [(.int (((((1 : Int32) &&& (1 : Int32)) &&& (1 : Int32)) &&& (1 : Int32)) &&& (1 : Int32)))])) _
          refine XS.iload X35.here hx rfl (hb hby at_152) rfl ?_
          show Steps p.tables e below (T35.setTop (mkF m 154 #[.val (.int p1), .val (.int p2), .val (.int (3 : Int32)), .val (.int z), .val (.ref f), .val (.int (((((1 : Int32) &&& (1 : Int32)) &&& (1 : Int32)) &&& (1 : Int32)) &&& (1 : Int32))), .val (.int (3 : Int32)), .val (.int (4 : Int32))] [(.int (4 : Int32)), (.int (((((1 : Int32) &&& (1 : Int32)) &&& (1 : Int32)) &&& (1 : Int32)) &&& (1 : Int32)))])) _
          refine XS.iloadN X35.here hx rfl (hb hby at_154) rfl ?_
          show Steps p.tables e below (T35.setTop (mkF m 155 #[.val (.int p1), .val (.int p2), .val (.int (3 : Int32)), .val (.int z), .val (.ref f), .val (.int (((((1 : Int32) &&& (1 : Int32)) &&& (1 : Int32)) &&& (1 : Int32)) &&& (1 : Int32))), .val (.int (3 : Int32)), .val (.int (4 : Int32))] [(.int (3 : Int32)), (.int (4 : Int32)), (.int (((((1 : Int32) &&& (1 : Int32)) &&& (1 : Int32)) &&& (1 : Int32)) &&& (1 : Int32)))])) _
          refine XS.iconst X35.here hx rfl (hb hby at_155) ?_
          show Steps p.tables e below (T35.setTop (mkF m 156 #[.val (.int p1), .val (.int p2), .val (.int (3 : Int32)), .val (.int z), .val (.ref f), .val (.int (((((1 : Int32) &&& (1 : Int32)) &&& (1 : Int32)) &&& (1 : Int32)) &&& (1 : Int32))), .val (.int (3 : Int32)), .val (.int (4 : Int32))] [(.int (1 : Int32)), (.int (3 : Int32)), (.int (4 : Int32)), (.int (((((1 : Int32) &&& (1 : Int32)) &&& (1 : Int32)) &&& (1 : Int32)) &&& (1 : Int32)))])) _
          refine XS.iadd X35.here hx rfl (hb hby at_156) rfl ?_
          show Steps p.tables e below (T35.setTop (mkF m 157 #[.val (.int p1), .val (.int p2), .val (.int (3 : Int32)), .val (.int z), .val (.ref f), .val (.int (((((1 : Int32) &&& (1 : Int32)) &&& (1 : Int32)) &&& (1 : Int32)) &&& (1 : Int32))), .val (.int (3 : Int32)), .val (.int (4 : Int32))] [(.int ((3 : Int32) + (1 : Int32))), (.int (4 : Int32)), (.int (((((1 : Int32) &&& (1 : Int32)) &&& (1 : Int32)) &&& (1 : Int32)) &&& (1 : Int32)))])) _
          exact k
        refine OEnds.go (t' := T35.setTop (mkF m 160 #[.val (.int p1), .val (.int p2), .val (.int (3 : Int32)), .val (.int z), .val (.ref f), .val (.int (((((1 : Int32) &&& (1 : Int32)) &&& (1 : Int32)) &&& (1 : Int32)) &&& (1 : Int32))), .val (.int (3 : Int32)), .val (.int (4 : Int32))] [(.int (((((1 : Int32) &&& (1 : Int32)) &&& (1 : Int32)) &&& (1 : Int32)) &&& (1 : Int32)))])) (fun _ k => XS.icmpNo X35.here hx rfl (hb hby at_157) rfl (teq (by decide)).2 k) ?_
        refine OEnds.go (t' := T35.setTop (mkF m 174 #[.val (.int p1), .val (.int p2), .val (.int (3 : Int32)), .val (.int z), .val (.ref f), .val (.int ((((((1 : Int32) &&& (1 : Int32)) &&& (1 : Int32)) &&& (1 : Int32)) &&& (1 : Int32)) &&& (1 : Int32))), .val (.int (3 : Int32)), .val (.int (4 : Int32))] [(.int (3 : Int32)), (.ref f), (.int ((((((1 : Int32) &&& (1 : Int32)) &&& (1 : Int32)) &&& (1 : Int32)) &&& (1 : Int32)) &&& (1 : Int32)))])) (fun _ k => ?_) ?_
        · show Steps p.tables e below (T35.setTop (mkF m 160 #[.val (.int p1), .val (.int p2), .val (.int (3 : Int32)), .val (.int z), .val (.ref f), .val (.int (((((1 : Int32) &&& (1 : Int32)) &&& (1 : Int32)) &&& (1 : Int32)) &&& (1 : Int32))), .val (.int (3 : Int32)), .val (.int (4 : Int32))] [(.int (((((1 : Int32) &&& (1 : Int32)) &&& (1 : Int32)) &&& (1 : Int32)) &&& (1 : Int32)))])) _
          refine XS.iconst X35.here hx rfl (hb hby at_160) ?_
          show Steps p.tables e below (T35.setTop (mkF m 161 #[.val (.int p1), .val (.int p2), .val (.int (3 : Int32)), .val (.int z), .val (.ref f), .val (.int (((((1 : Int32) &&& (1 : Int32)) &&& (1 : Int32)) &&& (1 : Int32)) &&& (1 : Int32))), .val (.int (3 : Int32)), .val (.int (4 : Int32))] [(.int (1 : Int32)), (.int (((((1 : Int32) &&& (1 : Int32)) &&& (1 : Int32)) &&& (1 : Int32)) &&& (1 : Int32)))])) _
          refine XS.goto X35.here hx rfl (pc0 := 161) (pc' := 165) rfl (hb hby at_161) (by decide) (by decide) ?_
          show Steps p.tables e below (T35.setTop (mkF m 165 #[.val (.int p1), .val (.int p2), .val (.int (3 : Int32)), .val (.int z), .val (.ref f), .val (.int (((((1 : Int32) &&& (1 : Int32)) &&& (1 : Int32)) &&& (1 : Int32)) &&& (1 : Int32))), .val (.int (3 : Int32)), .val (.int (4 : Int32))] [(.int (1 : Int32)), (.int (((((1 : Int32) &&& (1 : Int32)) &&& (1 : Int32)) &&& (1 : Int32)) &&& (1 : Int32)))])) _
          refine XS.iand X35.here hx rfl (hb hby at_165) rfl ?_
          show Steps p.tables e below (T35.setTop (mkF m 166 #[.val (.int p1), .val (.int p2), .val (.int (3 : Int32)), .val (.int z), .val (.ref f), .val (.int (((((1 : Int32) &&& (1 : Int32)) &&& (1 : Int32)) &&& (1 : Int32)) &&& (1 : Int32))), .val (.int (3 : Int32)), .val (.int (4 : Int32))] [(.int ((((((1 : Int32) &&& (1 : Int32)) &&& (1 : Int32)) &&& (1 : Int32)) &&& (1 : Int32)) &&& (1 : Int32)))])) _
          refine XS.istore X35.here hx rfl (hb hby at_166) rfl (l' := #[.val (.int p1), .val (.int p2), .val (.int (3 : Int32)), .val (.int z), .val (.ref f), .val (.int ((((((1 : Int32) &&& (1 : Int32)) &&& (1 : Int32)) &&& (1 : Int32)) &&& (1 : Int32)) &&& (1 : Int32))), .val (.int (3 : Int32)), .val (.int (4 : Int32))]) rfl ?_
          show Steps p.tables e below (T35.setTop (mkF m 168 #[.val (.int p1), .val (.int p2), .val (.int (3 : Int32)), .val (.int z), .val (.ref f), .val (.int ((((((1 : Int32) &&& (1 : Int32)) &&& (1 : Int32)) &&& (1 : Int32)) &&& (1 : Int32)) &&& (1 : Int32))), .val (.int (3 : Int32)), .val (.int (4 : Int32))] [])) _
          refine XS.iload X35.here hx rfl (hb hby at_168) rfl ?_
          show Steps p.tables e below (T35.setTop (mkF m 170 #[.val (.int p1), .val (.int p2), .val (.int (3 : Int32)), .val (.int z), .val (.ref f), .val (.int ((((((1 : Int32) &&& (1 : Int32)) &&& (1 : Int32)) &&& (1 : Int32)) &&& (1 : Int32)) &&& (1 : Int32))), .val (.int (3 : Int32)), .val (.int (4 : Int32))] [(.int ((((((1 : Int32) &&& (1 : Int32)) &&& (1 : Int32)) &&& (1 : Int32)) &&& (1 : Int32)) &&& (1 : Int32)))])) _
          refine XS.aload X35.here hx rfl (hb hby at_170) rfl rfl ?_
          show Steps p.tables e below (T35.setTop (mkF m 172 #[.val (.int p1), .val (.int p2), .val (.int (3 : Int32)), .val (.int z), .val (.ref f), .val (.int ((((((1 : Int32) &&& (1 : Int32)) &&& (1 : Int32)) &&& (1 : Int32)) &&& (1 : Int32)) &&& (1 : Int32))), .val (.int (3 : Int32)), .val (.int (4 : Int32))] [(.ref f), (.int ((((((1 : Int32) &&& (1 : Int32)) &&& (1 : Int32)) &&& (1 : Int32)) &&& (1 : Int32)) &&& (1 : Int32)))])) _
          refine XS.iload X35.here hx rfl (hb hby at_172) rfl ?_
          show Steps p.tables e below (T35.setTop (mkF m 174 #[.val (.int p1), .val (.int p2), .val (.int (3 : Int32)), .val (.int z), .val (.ref f), .val (.int ((((((1 : Int32) &&& (1 : Int32)) &&& (1 : Int32)) &&& (1 : Int32)) &&& (1 : Int32)) &&& (1 : Int32))), .val (.int (3 : Int32)), .val (.int (4 : Int32))] [(.int (3 : Int32)), (.ref f), (.int ((((((1 : Int32) &&& (1 : Int32)) &&& (1 : Int32)) &&& (1 : Int32)) &&& (1 : Int32)) &&& (1 : Int32)))])) _
          exact k
        obtain ⟨cq36, kq36, q36a, q36b, q36c⟩ := isOf hZ rfl E_f
        obtain ⟨_, _, ⟨T36, L36, k36, n36⟩, -, X36, ⟨Lc36, hQ36, l36, y36, z36⟩, st36⟩ := X35.virtualBack hx (y := (⟨"com/example/typewright/typewright/Flow", "isAssigned", "(I)Z"⟩ : MethodName)) (z := (⟨"com/example/typewright/typewright/Flow", "isAssigned", "(I)Z"⟩ : MethodName)) hown (mvT hZ (hw _ (List.mem_of_getElem? (i := 64) rfl))) (mvT hZ (hw _ (List.mem_of_getElem? (i := 65) rfl))) (notFace_of_selects (args := #[]) (mvT hZ (hw _ (List.mem_of_getElem? (i := 67) rfl)))) (mvT hZ (hw _ (List.mem_of_getElem? (i := 67) rfl))) (mvT hZ (hw _ (List.mem_of_getElem? (i := 66) rfl))) (by decide) (backOf (W := 1) (rm11 l Z a0 hw [] f (3 : Int32) qs qw qk u w T35.heap n0 Z35 (S_A.ext hzt.2) F_assigned_f (by decide) (by decide) B_q) hZ (hw _ (List.mem_of_getElem? (i := 68) rfl)) (hw _ (List.mem_of_getElem? (i := 2) rfl)) (by decide) (by decide)) q36a q36c (g := (mkF m 174 #[.val (.int p1), .val (.int p2), .val (.int (3 : Int32)), .val (.int z), .val (.ref f), .val (.int ((((((1 : Int32) &&& (1 : Int32)) &&& (1 : Int32)) &&& (1 : Int32)) &&& (1 : Int32)) &&& (1 : Int32))), .val (.int (3 : Int32)), .val (.int (4 : Int32))] [(.int (3 : Int32)), (.ref f), (.int ((((((1 : Int32) &&& (1 : Int32)) &&& (1 : Int32)) &&& (1 : Int32)) &&& (1 : Int32)) &&& (1 : Int32)))])) rfl (by rw [hml]; rfl) (Steps.refl _) (argsL := [(.int (3 : Int32))]) (rest := [(.int ((((((1 : Int32) &&& (1 : Int32)) &&& (1 : Int32)) &&& (1 : Int32)) &&& (1 : Int32)) &&& (1 : Int32)))]) (lenOf pd_rm0_2 rfl) rfl (by show 2 * 0 + _ ≤ _; exact Nat.le_of_eq rfl) (hb hby at_174) (fun _ _ => ⟨rfl, rfl, (by decide : 5 + 0 ≤ _), (by decide : 11 + 0 ≤ _)⟩)
        dsimp only [Pt.U, Pt.locs, Pt.cells, Pt.slots] at X36 l36 y36 z36 st36 hQ36
        subst l36 y36 z36
        obtain ⟨rfl, N36q, eh⟩ := hQ36
        have N36 := Fr.app N35 N36q
        have eh36 := eh
        refine OEnds.go (t' := T36.setTop (mkF m 177 #[.val (.int p1), .val (.int p2), .val (.int (3 : Int32)), .val (.int z), .val (.ref f), .val (.int ((((((1 : Int32) &&& (1 : Int32)) &&& (1 : Int32)) &&& (1 : Int32)) &&& (1 : Int32)) &&& (1 : Int32))), .val (.int (3 : Int32)), .val (.int (4 : Int32))] [(.int (own_get u w (3 : Int32))), (.int ((((((1 : Int32) &&& (1 : Int32)) &&& (1 : Int32)) &&& (1 : Int32)) &&& (1 : Int32)) &&& (1 : Int32)))])) (fun _ k => st36.trans k) ?_
        refine OEnds.go (t' := T36.setTop (mkF m 180 #[.val (.int p1), .val (.int p2), .val (.int (3 : Int32)), .val (.int z), .val (.ref f), .val (.int ((((((1 : Int32) &&& (1 : Int32)) &&& (1 : Int32)) &&& (1 : Int32)) &&& (1 : Int32)) &&& (1 : Int32))), .val (.int (3 : Int32)), .val (.int (4 : Int32))] [(.int ((((((1 : Int32) &&& (1 : Int32)) &&& (1 : Int32)) &&& (1 : Int32)) &&& (1 : Int32)) &&& (1 : Int32)))])) (fun _ k => XS.ifNo X36.here hx rfl (hb hby at_177) rfl ((if0 _ _).trans (teq hA).2) k) ?_
        refine OEnds.go (t' := T36.setTop (mkF m 194 #[.val (.int p1), .val (.int p2), .val (.int (3 : Int32)), .val (.int z), .val (.ref f), .val (.int (((((((1 : Int32) &&& (1 : Int32)) &&& (1 : Int32)) &&& (1 : Int32)) &&& (1 : Int32)) &&& (1 : Int32)) &&& (1 : Int32))), .val (.int (3 : Int32)), .val (.int (4 : Int32))] [(.int (4 : Int32)), (.ref f), (.int (((((((1 : Int32) &&& (1 : Int32)) &&& (1 : Int32)) &&& (1 : Int32)) &&& (1 : Int32)) &&& (1 : Int32)) &&& (1 : Int32)))])) (fun _ k => ?_) ?_
        · show Steps p.tables e below (T36.setTop (mkF m 180 #[.val (.int p1), .val (.int p2), .val (.int (3 : Int32)), .val (.int z), .val (.ref f), .val (.int ((((((1 : Int32) &&& (1 : Int32)) &&& (1 : Int32)) &&& (1 : Int32)) &&& (1 : Int32)) &&& (1 : Int32))), .val (.int (3 : Int32)), .val (.int (4 : Int32))] [(.int ((((((1 : Int32) &&& (1 : Int32)) &&& (1 : Int32)) &&& (1 : Int32)) &&& (1 : Int32)) &&& (1 : Int32)))])) _
          refine XS.iconst X36.here hx rfl (hb hby at_180) ?_
          show Steps p.tables e below (T36.setTop (mkF m 181 #[.val (.int p1), .val (.int p2), .val (.int (3 : Int32)), .val (.int z), .val (.ref f), .val (.int ((((((1 : Int32) &&& (1 : Int32)) &&& (1 : Int32)) &&& (1 : Int32)) &&& (1 : Int32)) &&& (1 : Int32))), .val (.int (3 : Int32)), .val (.int (4 : Int32))] [(.int (1 : Int32)), (.int ((((((1 : Int32) &&& (1 : Int32)) &&& (1 : Int32)) &&& (1 : Int32)) &&& (1 : Int32)) &&& (1 : Int32)))])) _
          refine XS.goto X36.here hx rfl (pc0 := 181) (pc' := 185) rfl (hb hby at_181) (by decide) (by decide) ?_
          show Steps p.tables e below (T36.setTop (mkF m 185 #[.val (.int p1), .val (.int p2), .val (.int (3 : Int32)), .val (.int z), .val (.ref f), .val (.int ((((((1 : Int32) &&& (1 : Int32)) &&& (1 : Int32)) &&& (1 : Int32)) &&& (1 : Int32)) &&& (1 : Int32))), .val (.int (3 : Int32)), .val (.int (4 : Int32))] [(.int (1 : Int32)), (.int ((((((1 : Int32) &&& (1 : Int32)) &&& (1 : Int32)) &&& (1 : Int32)) &&& (1 : Int32)) &&& (1 : Int32)))])) _
          refine XS.iand X36.here hx rfl (hb hby at_185) rfl ?_
          show Steps p.tables e below (T36.setTop (mkF m 186 #[.val (.int p1), .val (.int p2), .val (.int (3 : Int32)), .val (.int z), .val (.ref f), .val (.int ((((((1 : Int32) &&& (1 : Int32)) &&& (1 : Int32)) &&& (1 : Int32)) &&& (1 : Int32)) &&& (1 : Int32))), .val (.int (3 : Int32)), .val (.int (4 : Int32))] [(.int (((((((1 : Int32) &&& (1 : Int32)) &&& (1 : Int32)) &&& (1 : Int32)) &&& (1 : Int32)) &&& (1 : Int32)) &&& (1 : Int32)))])) _
          refine XS.istore X36.here hx rfl (hb hby at_186) rfl (l' := #[.val (.int p1), .val (.int p2), .val (.int (3 : Int32)), .val (.int z), .val (.ref f), .val (.int (((((((1 : Int32) &&& (1 : Int32)) &&& (1 : Int32)) &&& (1 : Int32)) &&& (1 : Int32)) &&& (1 : Int32)) &&& (1 : Int32))), .val (.int (3 : Int32)), .val (.int (4 : Int32))]) rfl ?_
          show Steps p.tables e below (T36.setTop (mkF m 188 #[.val (.int p1), .val (.int p2), .val (.int (3 : Int32)), .val (.int z), .val (.ref f), .val (.int (((((((1 : Int32) &&& (1 : Int32)) &&& (1 : Int32)) &&& (1 : Int32)) &&& (1 : Int32)) &&& (1 : Int32)) &&& (1 : Int32))), .val (.int (3 : Int32)), .val (.int (4 : Int32))] [])) _
          refine XS.iload X36.here hx rfl (hb hby at_188) rfl ?_
          show Steps p.tables e below (T36.setTop (mkF m 190 #[.val (.int p1), .val (.int p2), .val (.int (3 : Int32)), .val (.int z), .val (.ref f), .val (.int (((((((1 : Int32) &&& (1 : Int32)) &&& (1 : Int32)) &&& (1 : Int32)) &&& (1 : Int32)) &&& (1 : Int32)) &&& (1 : Int32))), .val (.int (3 : Int32)), .val (.int (4 : Int32))] [(.int (((((((1 : Int32) &&& (1 : Int32)) &&& (1 : Int32)) &&& (1 : Int32)) &&& (1 : Int32)) &&& (1 : Int32)) &&& (1 : Int32)))])) _
          refine XS.aload X36.here hx rfl (hb hby at_190) rfl rfl ?_
          show Steps p.tables e below (T36.setTop (mkF m 192 #[.val (.int p1), .val (.int p2), .val (.int (3 : Int32)), .val (.int z), .val (.ref f), .val (.int (((((((1 : Int32) &&& (1 : Int32)) &&& (1 : Int32)) &&& (1 : Int32)) &&& (1 : Int32)) &&& (1 : Int32)) &&& (1 : Int32))), .val (.int (3 : Int32)), .val (.int (4 : Int32))] [(.ref f), (.int (((((((1 : Int32) &&& (1 : Int32)) &&& (1 : Int32)) &&& (1 : Int32)) &&& (1 : Int32)) &&& (1 : Int32)) &&& (1 : Int32)))])) _
          refine XS.iload X36.here hx rfl (hb hby at_192) rfl ?_
          show Steps p.tables e below (T36.setTop (mkF m 194 #[.val (.int p1), .val (.int p2), .val (.int (3 : Int32)), .val (.int z), .val (.ref f), .val (.int (((((((1 : Int32) &&& (1 : Int32)) &&& (1 : Int32)) &&& (1 : Int32)) &&& (1 : Int32)) &&& (1 : Int32)) &&& (1 : Int32))), .val (.int (3 : Int32)), .val (.int (4 : Int32))] [(.int (4 : Int32)), (.ref f), (.int (((((((1 : Int32) &&& (1 : Int32)) &&& (1 : Int32)) &&& (1 : Int32)) &&& (1 : Int32)) &&& (1 : Int32)) &&& (1 : Int32)))])) _
          exact k
        obtain ⟨cq37, kq37, q37a, q37b, q37c⟩ := isOf hZ eh36 E_f
        obtain ⟨_, _, ⟨T37, L37, k37, n37⟩, -, X37, ⟨Lc37, hQ37, l37, y37, z37⟩, st37⟩ := X36.virtualBack hx (y := (⟨"com/example/typewright/typewright/Flow", "isAssigned", "(I)Z"⟩ : MethodName)) (z := (⟨"com/example/typewright/typewright/Flow", "isAssigned", "(I)Z"⟩ : MethodName)) hown (mvT hZ (hw _ (List.mem_of_getElem? (i := 64) rfl))) (mvT hZ (hw _ (List.mem_of_getElem? (i := 65) rfl))) (notFace_of_selects (args := #[]) (mvT hZ (hw _ (List.mem_of_getElem? (i := 67) rfl)))) (mvT hZ (hw _ (List.mem_of_getElem? (i := 67) rfl))) (mvT hZ (hw _ (List.mem_of_getElem? (i := 66) rfl))) (by decide) (backOf (W := 1) (rm11 l Z a0 hw [] f (4 : Int32) qs qw qk u w T35.heap n0 Z35 (S_A.ext hzt.2) F_assigned_f (by decide) (by decide) B_q) hZ (hw _ (List.mem_of_getElem? (i := 68) rfl)) (hw _ (List.mem_of_getElem? (i := 2) rfl)) (by decide) (by decide)) q37a q37c (g := (mkF m 194 #[.val (.int p1), .val (.int p2), .val (.int (3 : Int32)), .val (.int z), .val (.ref f), .val (.int (((((((1 : Int32) &&& (1 : Int32)) &&& (1 : Int32)) &&& (1 : Int32)) &&& (1 : Int32)) &&& (1 : Int32)) &&& (1 : Int32))), .val (.int (3 : Int32)), .val (.int (4 : Int32))] [(.int (4 : Int32)), (.ref f), (.int (((((((1 : Int32) &&& (1 : Int32)) &&& (1 : Int32)) &&& (1 : Int32)) &&& (1 : Int32)) &&& (1 : Int32)) &&& (1 : Int32)))])) rfl (by rw [hml]; rfl) (Steps.refl _) (argsL := [(.int (4 : Int32))]) (rest := [(.int (((((((1 : Int32) &&& (1 : Int32)) &&& (1 : Int32)) &&& (1 : Int32)) &&& (1 : Int32)) &&& (1 : Int32)) &&& (1 : Int32)))]) (lenOf pd_rm0_2 rfl) rfl (by show 2 * 0 + _ ≤ _; exact Nat.le_of_eq rfl) (hb hby at_194) (fun _ _ => ⟨rfl, eh36, (by decide : 5 + 0 ≤ _), (by decide : 11 + 0 ≤ _)⟩)
        dsimp only [Pt.U, Pt.locs, Pt.cells, Pt.slots] at X37 l37 y37 z37 st37 hQ37
        subst l37 y37 z37
        obtain ⟨rfl, N37q, eh⟩ := hQ37
        have N37 := Fr.app N36 N37q
        have eh37 := eh
        refine OEnds.go (t' := T37.setTop (mkF m 197 #[.val (.int p1), .val (.int p2), .val (.int (3 : Int32)), .val (.int z), .val (.ref f), .val (.int (((((((1 : Int32) &&& (1 : Int32)) &&& (1 : Int32)) &&& (1 : Int32)) &&& (1 : Int32)) &&& (1 : Int32)) &&& (1 : Int32))), .val (.int (3 : Int32)), .val (.int (4 : Int32))] [(.int (own_get u w (4 : Int32))), (.int (((((((1 : Int32) &&& (1 : Int32)) &&& (1 : Int32)) &&& (1 : Int32)) &&& (1 : Int32)) &&& (1 : Int32)) &&& (1 : Int32)))])) (fun _ k => st37.trans k) ?_
        refine OEnds.go (t' := T37.setTop (mkF m 200 #[.val (.int p1), .val (.int p2), .val (.int (3 : Int32)), .val (.int z), .val (.ref f), .val (.int (((((((1 : Int32) &&& (1 : Int32)) &&& (1 : Int32)) &&& (1 : Int32)) &&& (1 : Int32)) &&& (1 : Int32)) &&& (1 : Int32))), .val (.int (3 : Int32)), .val (.int (4 : Int32))] [(.int (((((((1 : Int32) &&& (1 : Int32)) &&& (1 : Int32)) &&& (1 : Int32)) &&& (1 : Int32)) &&& (1 : Int32)) &&& (1 : Int32)))])) (fun _ k => XS.ifNo X37.here hx rfl (hb hby at_197) rfl ((if0 _ _).trans (teq hB).2) k) ?_
        refine OEnds.go (t' := T37.setTop (mkF m 210 #[.val (.int p1), .val (.int p2), .val (.int (3 : Int32)), .val (.int z), .val (.ref f), .val (.int ((((((((1 : Int32) &&& (1 : Int32)) &&& (1 : Int32)) &&& (1 : Int32)) &&& (1 : Int32)) &&& (1 : Int32)) &&& (1 : Int32)) &&& (1 : Int32))), .val (.int (3 : Int32)), .val (.int (4 : Int32))] [(.int (1 : Int32)), (.int (3 : Int32))])) (fun _ k => ?_) ?_
        · show Steps p.tables e below (T37.setTop (mkF m 200 #[.val (.int p1), .val (.int p2), .val (.int (3 : Int32)), .val (.int z), .val (.ref f), .val (.int (((((((1 : Int32) &&& (1 : Int32)) &&& (1 : Int32)) &&& (1 : Int32)) &&& (1 : Int32)) &&& (1 : Int32)) &&& (1 : Int32))), .val (.int (3 : Int32)), .val (.int (4 : Int32))] [(.int (((((((1 : Int32) &&& (1 : Int32)) &&& (1 : Int32)) &&& (1 : Int32)) &&& (1 : Int32)) &&& (1 : Int32)) &&& (1 : Int32)))])) _
          refine XS.iconst X37.here hx rfl (hb hby at_200) ?_
          show Steps p.tables e below (T37.setTop (mkF m 201 #[.val (.int p1), .val (.int p2), .val (.int (3 : Int32)), .val (.int z), .val (.ref f), .val (.int (((((((1 : Int32) &&& (1 : Int32)) &&& (1 : Int32)) &&& (1 : Int32)) &&& (1 : Int32)) &&& (1 : Int32)) &&& (1 : Int32))), .val (.int (3 : Int32)), .val (.int (4 : Int32))] [(.int (1 : Int32)), (.int (((((((1 : Int32) &&& (1 : Int32)) &&& (1 : Int32)) &&& (1 : Int32)) &&& (1 : Int32)) &&& (1 : Int32)) &&& (1 : Int32)))])) _
          refine XS.goto X37.here hx rfl (pc0 := 201) (pc' := 205) rfl (hb hby at_201) (by decide) (by decide) ?_
          show Steps p.tables e below (T37.setTop (mkF m 205 #[.val (.int p1), .val (.int p2), .val (.int (3 : Int32)), .val (.int z), .val (.ref f), .val (.int (((((((1 : Int32) &&& (1 : Int32)) &&& (1 : Int32)) &&& (1 : Int32)) &&& (1 : Int32)) &&& (1 : Int32)) &&& (1 : Int32))), .val (.int (3 : Int32)), .val (.int (4 : Int32))] [(.int (1 : Int32)), (.int (((((((1 : Int32) &&& (1 : Int32)) &&& (1 : Int32)) &&& (1 : Int32)) &&& (1 : Int32)) &&& (1 : Int32)) &&& (1 : Int32)))])) _
          refine XS.iand X37.here hx rfl (hb hby at_205) rfl ?_
          show Steps p.tables e below (T37.setTop (mkF m 206 #[.val (.int p1), .val (.int p2), .val (.int (3 : Int32)), .val (.int z), .val (.ref f), .val (.int (((((((1 : Int32) &&& (1 : Int32)) &&& (1 : Int32)) &&& (1 : Int32)) &&& (1 : Int32)) &&& (1 : Int32)) &&& (1 : Int32))), .val (.int (3 : Int32)), .val (.int (4 : Int32))] [(.int ((((((((1 : Int32) &&& (1 : Int32)) &&& (1 : Int32)) &&& (1 : Int32)) &&& (1 : Int32)) &&& (1 : Int32)) &&& (1 : Int32)) &&& (1 : Int32)))])) _
          refine XS.istore X37.here hx rfl (hb hby at_206) rfl (l' := #[.val (.int p1), .val (.int p2), .val (.int (3 : Int32)), .val (.int z), .val (.ref f), .val (.int ((((((((1 : Int32) &&& (1 : Int32)) &&& (1 : Int32)) &&& (1 : Int32)) &&& (1 : Int32)) &&& (1 : Int32)) &&& (1 : Int32)) &&& (1 : Int32))), .val (.int (3 : Int32)), .val (.int (4 : Int32))]) rfl ?_
          show Steps p.tables e below (T37.setTop (mkF m 208 #[.val (.int p1), .val (.int p2), .val (.int (3 : Int32)), .val (.int z), .val (.ref f), .val (.int ((((((((1 : Int32) &&& (1 : Int32)) &&& (1 : Int32)) &&& (1 : Int32)) &&& (1 : Int32)) &&& (1 : Int32)) &&& (1 : Int32)) &&& (1 : Int32))), .val (.int (3 : Int32)), .val (.int (4 : Int32))] [])) _
          refine XS.iloadN X37.here hx rfl (hb hby at_208) rfl ?_
          show Steps p.tables e below (T37.setTop (mkF m 209 #[.val (.int p1), .val (.int p2), .val (.int (3 : Int32)), .val (.int z), .val (.ref f), .val (.int ((((((((1 : Int32) &&& (1 : Int32)) &&& (1 : Int32)) &&& (1 : Int32)) &&& (1 : Int32)) &&& (1 : Int32)) &&& (1 : Int32)) &&& (1 : Int32))), .val (.int (3 : Int32)), .val (.int (4 : Int32))] [(.int (3 : Int32))])) _
          refine XS.iconst X37.here hx rfl (hb hby at_209) ?_
          show Steps p.tables e below (T37.setTop (mkF m 210 #[.val (.int p1), .val (.int p2), .val (.int (3 : Int32)), .val (.int z), .val (.ref f), .val (.int ((((((((1 : Int32) &&& (1 : Int32)) &&& (1 : Int32)) &&& (1 : Int32)) &&& (1 : Int32)) &&& (1 : Int32)) &&& (1 : Int32)) &&& (1 : Int32))), .val (.int (3 : Int32)), .val (.int (4 : Int32))] [(.int (1 : Int32)), (.int (3 : Int32))])) _
          exact k
        refine OEnds.go (t' := T37.setTop (mkF m 213 #[.val (.int p1), .val (.int p2), .val (.int (3 : Int32)), .val (.int z), .val (.ref f), .val (.int ((((((((1 : Int32) &&& (1 : Int32)) &&& (1 : Int32)) &&& (1 : Int32)) &&& (1 : Int32)) &&& (1 : Int32)) &&& (1 : Int32)) &&& (1 : Int32))), .val (.int (3 : Int32)), .val (.int (4 : Int32))] [])) (fun _ k => XS.icmpNo X37.here hx rfl (hb hby at_210) rfl (flt (by decide)).1 k) ?_
        refine OEnds.go (t' := T37.setTop (mkF m 218 #[.val (.int p1), .val (.int p2), .val (.int (3 : Int32)), .val (.int z), .val (.ref f), .val (.int ((((((((1 : Int32) &&& (1 : Int32)) &&& (1 : Int32)) &&& (1 : Int32)) &&& (1 : Int32)) &&& (1 : Int32)) &&& (1 : Int32)) &&& (1 : Int32))), .val (.int (3 : Int32)), .val (.int (4 : Int32))] [(.int (0 : Int32)), (.ref f), (.int ((((((((1 : Int32) &&& (1 : Int32)) &&& (1 : Int32)) &&& (1 : Int32)) &&& (1 : Int32)) &&& (1 : Int32)) &&& (1 : Int32)) &&& (1 : Int32)))])) (fun _ k => ?_) ?_
        · show Steps p.tables e below (T37.setTop (mkF m 213 #[.val (.int p1), .val (.int p2), .val (.int (3 : Int32)), .val (.int z), .val (.ref f), .val (.int ((((((((1 : Int32) &&& (1 : Int32)) &&& (1 : Int32)) &&& (1 : Int32)) &&& (1 : Int32)) &&& (1 : Int32)) &&& (1 : Int32)) &&& (1 : Int32))), .val (.int (3 : Int32)), .val (.int (4 : Int32))] [])) _
          refine XS.iload X37.here hx rfl (hb hby at_213) rfl ?_
          show Steps p.tables e below (T37.setTop (mkF m 215 #[.val (.int p1), .val (.int p2), .val (.int (3 : Int32)), .val (.int z), .val (.ref f), .val (.int ((((((((1 : Int32) &&& (1 : Int32)) &&& (1 : Int32)) &&& (1 : Int32)) &&& (1 : Int32)) &&& (1 : Int32)) &&& (1 : Int32)) &&& (1 : Int32))), .val (.int (3 : Int32)), .val (.int (4 : Int32))] [(.int ((((((((1 : Int32) &&& (1 : Int32)) &&& (1 : Int32)) &&& (1 : Int32)) &&& (1 : Int32)) &&& (1 : Int32)) &&& (1 : Int32)) &&& (1 : Int32)))])) _
          refine XS.aload X37.here hx rfl (hb hby at_215) rfl rfl ?_
          show Steps p.tables e below (T37.setTop (mkF m 217 #[.val (.int p1), .val (.int p2), .val (.int (3 : Int32)), .val (.int z), .val (.ref f), .val (.int ((((((((1 : Int32) &&& (1 : Int32)) &&& (1 : Int32)) &&& (1 : Int32)) &&& (1 : Int32)) &&& (1 : Int32)) &&& (1 : Int32)) &&& (1 : Int32))), .val (.int (3 : Int32)), .val (.int (4 : Int32))] [(.ref f), (.int ((((((((1 : Int32) &&& (1 : Int32)) &&& (1 : Int32)) &&& (1 : Int32)) &&& (1 : Int32)) &&& (1 : Int32)) &&& (1 : Int32)) &&& (1 : Int32)))])) _
          refine XS.iconst X37.here hx rfl (hb hby at_217) ?_
          show Steps p.tables e below (T37.setTop (mkF m 218 #[.val (.int p1), .val (.int p2), .val (.int (3 : Int32)), .val (.int z), .val (.ref f), .val (.int ((((((((1 : Int32) &&& (1 : Int32)) &&& (1 : Int32)) &&& (1 : Int32)) &&& (1 : Int32)) &&& (1 : Int32)) &&& (1 : Int32)) &&& (1 : Int32))), .val (.int (3 : Int32)), .val (.int (4 : Int32))] [(.int (0 : Int32)), (.ref f), (.int ((((((((1 : Int32) &&& (1 : Int32)) &&& (1 : Int32)) &&& (1 : Int32)) &&& (1 : Int32)) &&& (1 : Int32)) &&& (1 : Int32)) &&& (1 : Int32)))])) _
          exact k
        obtain ⟨cq38, kq38, q38a, q38b, q38c⟩ := isOf hZ eh37 E_f
        obtain ⟨_, _, ⟨T38, L38, k38, n38⟩, -, X38, ⟨Lc38, hQ38, l38, y38, z38⟩, st38⟩ := X37.virtualBack hx (y := (⟨"com/example/typewright/typewright/Flow", "isAssigned", "(I)Z"⟩ : MethodName)) (z := (⟨"com/example/typewright/typewright/Flow", "isAssigned", "(I)Z"⟩ : MethodName)) hown (mvT hZ (hw _ (List.mem_of_getElem? (i := 64) rfl))) (mvT hZ (hw _ (List.mem_of_getElem? (i := 65) rfl))) (notFace_of_selects (args := #[]) (mvT hZ (hw _ (List.mem_of_getElem? (i := 67) rfl)))) (mvT hZ (hw _ (List.mem_of_getElem? (i := 67) rfl))) (mvT hZ (hw _ (List.mem_of_getElem? (i := 66) rfl))) (by decide) (backOf (W := 1) (rm11 l Z a0 hw [] f (0 : Int32) qs qw qk u w T35.heap n0 Z35 (S_A.ext hzt.2) F_assigned_f (by decide) (by decide) B_q) hZ (hw _ (List.mem_of_getElem? (i := 68) rfl)) (hw _ (List.mem_of_getElem? (i := 2) rfl)) (by decide) (by decide)) q38a q38c (g := (mkF m 218 #[.val (.int p1), .val (.int p2), .val (.int (3 : Int32)), .val (.int z), .val (.ref f), .val (.int ((((((((1 : Int32) &&& (1 : Int32)) &&& (1 : Int32)) &&& (1 : Int32)) &&& (1 : Int32)) &&& (1 : Int32)) &&& (1 : Int32)) &&& (1 : Int32))), .val (.int (3 : Int32)), .val (.int (4 : Int32))] [(.int (0 : Int32)), (.ref f), (.int ((((((((1 : Int32) &&& (1 : Int32)) &&& (1 : Int32)) &&& (1 : Int32)) &&& (1 : Int32)) &&& (1 : Int32)) &&& (1 : Int32)) &&& (1 : Int32)))])) rfl (by rw [hml]; rfl) (Steps.refl _) (argsL := [(.int (0 : Int32))]) (rest := [(.int ((((((((1 : Int32) &&& (1 : Int32)) &&& (1 : Int32)) &&& (1 : Int32)) &&& (1 : Int32)) &&& (1 : Int32)) &&& (1 : Int32)) &&& (1 : Int32)))]) (lenOf pd_rm0_2 rfl) rfl (by show 2 * 0 + _ ≤ _; exact Nat.le_of_eq rfl) (hb hby at_218) (fun _ _ => ⟨rfl, eh37, (by decide : 5 + 0 ≤ _), (by decide : 11 + 0 ≤ _)⟩)
        dsimp only [Pt.U, Pt.locs, Pt.cells, Pt.slots] at X38 l38 y38 z38 st38 hQ38
        subst l38 y38 z38
        obtain ⟨rfl, N38q, eh⟩ := hQ38
        have N38 := Fr.app N37 N38q
        have eh38 := eh
        refine OEnds.go (t' := T38.setTop (mkF m 221 #[.val (.int p1), .val (.int p2), .val (.int (3 : Int32)), .val (.int z), .val (.ref f), .val (.int ((((((((1 : Int32) &&& (1 : Int32)) &&& (1 : Int32)) &&& (1 : Int32)) &&& (1 : Int32)) &&& (1 : Int32)) &&& (1 : Int32)) &&& (1 : Int32))), .val (.int (3 : Int32)), .val (.int (4 : Int32))] [(.int (own_get u w (0 : Int32))), (.int ((((((((1 : Int32) &&& (1 : Int32)) &&& (1 : Int32)) &&& (1 : Int32)) &&& (1 : Int32)) &&& (1 : Int32)) &&& (1 : Int32)) &&& (1 : Int32)))])) (fun _ k => st38.trans k) ?_
        refine OEnds.go (t' := T38.setTop (mkF m 222 #[.val (.int p1), .val (.int p2), .val (.int (3 : Int32)), .val (.int z), .val (.ref f), .val (.int ((((((((1 : Int32) &&& (1 : Int32)) &&& (1 : Int32)) &&& (1 : Int32)) &&& (1 : Int32)) &&& (1 : Int32)) &&& (1 : Int32)) &&& (1 : Int32))), .val (.int (3 : Int32)), .val (.int (4 : Int32))] [(.int z), (.int (own_get u w (0 : Int32))), (.int ((((((((1 : Int32) &&& (1 : Int32)) &&& (1 : Int32)) &&& (1 : Int32)) &&& (1 : Int32)) &&& (1 : Int32)) &&& (1 : Int32)) &&& (1 : Int32)))])) (fun _ k => ?_) ?_
        · show Steps p.tables e below (T38.setTop (mkF m 221 #[.val (.int p1), .val (.int p2), .val (.int (3 : Int32)), .val (.int z), .val (.ref f), .val (.int ((((((((1 : Int32) &&& (1 : Int32)) &&& (1 : Int32)) &&& (1 : Int32)) &&& (1 : Int32)) &&& (1 : Int32)) &&& (1 : Int32)) &&& (1 : Int32))), .val (.int (3 : Int32)), .val (.int (4 : Int32))] [(.int (own_get u w (0 : Int32))), (.int ((((((((1 : Int32) &&& (1 : Int32)) &&& (1 : Int32)) &&& (1 : Int32)) &&& (1 : Int32)) &&& (1 : Int32)) &&& (1 : Int32)) &&& (1 : Int32)))])) _
          refine XS.iloadN X38.here hx rfl (hb hby at_221) rfl ?_
          show Steps p.tables e below (T38.setTop (mkF m 222 #[.val (.int p1), .val (.int p2), .val (.int (3 : Int32)), .val (.int z), .val (.ref f), .val (.int ((((((((1 : Int32) &&& (1 : Int32)) &&& (1 : Int32)) &&& (1 : Int32)) &&& (1 : Int32)) &&& (1 : Int32)) &&& (1 : Int32)) &&& (1 : Int32))), .val (.int (3 : Int32)), .val (.int (4 : Int32))] [(.int z), (.int (own_get u w (0 : Int32))), (.int ((((((((1 : Int32) &&& (1 : Int32)) &&& (1 : Int32)) &&& (1 : Int32)) &&& (1 : Int32)) &&& (1 : Int32)) &&& (1 : Int32)) &&& (1 : Int32)))])) _
          exact k
        refine OEnds.go (t' := T38.setTop (mkF m 225 #[.val (.int p1), .val (.int p2), .val (.int (3 : Int32)), .val (.int z), .val (.ref f), .val (.int ((((((((1 : Int32) &&& (1 : Int32)) &&& (1 : Int32)) &&& (1 : Int32)) &&& (1 : Int32)) &&& (1 : Int32)) &&& (1 : Int32)) &&& (1 : Int32))), .val (.int (3 : Int32)), .val (.int (4 : Int32))] [(.int ((((((((1 : Int32) &&& (1 : Int32)) &&& (1 : Int32)) &&& (1 : Int32)) &&& (1 : Int32)) &&& (1 : Int32)) &&& (1 : Int32)) &&& (1 : Int32)))])) (fun _ k => XS.icmpNo X38.here hx rfl (hb hby at_222) rfl (teq hC).2 k) ?_
        refine OEnds.go (t' := T38.setTop (mkF m 240 #[.val (.int p1), .val (.int p2), .val (.int (3 : Int32)), .val (.int z), .val (.ref f), .val (.int (((((((((1 : Int32) &&& (1 : Int32)) &&& (1 : Int32)) &&& (1 : Int32)) &&& (1 : Int32)) &&& (1 : Int32)) &&& (1 : Int32)) &&& (1 : Int32)) &&& (1 : Int32))), .val (.int (3 : Int32)), .val (.int (4 : Int32))] [(.int ((3 : Int32) - (1 : Int32))), (.ref f), (.int (((((((((1 : Int32) &&& (1 : Int32)) &&& (1 : Int32)) &&& (1 : Int32)) &&& (1 : Int32)) &&& (1 : Int32)) &&& (1 : Int32)) &&& (1 : Int32)) &&& (1 : Int32)))])) (fun _ k => ?_) ?_
        · show Steps p.tables e below (T38.setTop (mkF m 225 #[.val (.int p1), .val (.int p2), .val (.int (3 : Int32)), .val (.int z), .val (.ref f), .val (.int ((((((((1 : Int32) &&& (1 : Int32)) &&& (1 : Int32)) &&& (1 : Int32)) &&& (1 : Int32)) &&& (1 : Int32)) &&& (1 : Int32)) &&& (1 : Int32))), .val (.int (3 : Int32)), .val (.int (4 : Int32))] [(.int ((((((((1 : Int32) &&& (1 : Int32)) &&& (1 : Int32)) &&& (1 : Int32)) &&& (1 : Int32)) &&& (1 : Int32)) &&& (1 : Int32)) &&& (1 : Int32)))])) _
          refine XS.iconst X38.here hx rfl (hb hby at_225) ?_
          show Steps p.tables e below (T38.setTop (mkF m 226 #[.val (.int p1), .val (.int p2), .val (.int (3 : Int32)), .val (.int z), .val (.ref f), .val (.int ((((((((1 : Int32) &&& (1 : Int32)) &&& (1 : Int32)) &&& (1 : Int32)) &&& (1 : Int32)) &&& (1 : Int32)) &&& (1 : Int32)) &&& (1 : Int32))), .val (.int (3 : Int32)), .val (.int (4 : Int32))] [(.int (1 : Int32)), (.int ((((((((1 : Int32) &&& (1 : Int32)) &&& (1 : Int32)) &&& (1 : Int32)) &&& (1 : Int32)) &&& (1 : Int32)) &&& (1 : Int32)) &&& (1 : Int32)))])) _
          refine XS.goto X38.here hx rfl (pc0 := 226) (pc' := 230) rfl (hb hby at_226) (by decide) (by decide) ?_
          show Steps p.tables e below (T38.setTop (mkF m 230 #[.val (.int p1), .val (.int p2), .val (.int (3 : Int32)), .val (.int z), .val (.ref f), .val (.int ((((((((1 : Int32) &&& (1 : Int32)) &&& (1 : Int32)) &&& (1 : Int32)) &&& (1 : Int32)) &&& (1 : Int32)) &&& (1 : Int32)) &&& (1 : Int32))), .val (.int (3 : Int32)), .val (.int (4 : Int32))] [(.int (1 : Int32)), (.int ((((((((1 : Int32) &&& (1 : Int32)) &&& (1 : Int32)) &&& (1 : Int32)) &&& (1 : Int32)) &&& (1 : Int32)) &&& (1 : Int32)) &&& (1 : Int32)))])) _
          refine XS.iand X38.here hx rfl (hb hby at_230) rfl ?_
          show Steps p.tables e below (T38.setTop (mkF m 231 #[.val (.int p1), .val (.int p2), .val (.int (3 : Int32)), .val (.int z), .val (.ref f), .val (.int ((((((((1 : Int32) &&& (1 : Int32)) &&& (1 : Int32)) &&& (1 : Int32)) &&& (1 : Int32)) &&& (1 : Int32)) &&& (1 : Int32)) &&& (1 : Int32))), .val (.int (3 : Int32)), .val (.int (4 : Int32))] [(.int (((((((((1 : Int32) &&& (1 : Int32)) &&& (1 : Int32)) &&& (1 : Int32)) &&& (1 : Int32)) &&& (1 : Int32)) &&& (1 : Int32)) &&& (1 : Int32)) &&& (1 : Int32)))])) _
          refine XS.istore X38.here hx rfl (hb hby at_231) rfl (l' := #[.val (.int p1), .val (.int p2), .val (.int (3 : Int32)), .val (.int z), .val (.ref f), .val (.int (((((((((1 : Int32) &&& (1 : Int32)) &&& (1 : Int32)) &&& (1 : Int32)) &&& (1 : Int32)) &&& (1 : Int32)) &&& (1 : Int32)) &&& (1 : Int32)) &&& (1 : Int32))), .val (.int (3 : Int32)), .val (.int (4 : Int32))]) rfl ?_
          show Steps p.tables e below (T38.setTop (mkF m 233 #[.val (.int p1), .val (.int p2), .val (.int (3 : Int32)), .val (.int z), .val (.ref f), .val (.int (((((((((1 : Int32) &&& (1 : Int32)) &&& (1 : Int32)) &&& (1 : Int32)) &&& (1 : Int32)) &&& (1 : Int32)) &&& (1 : Int32)) &&& (1 : Int32)) &&& (1 : Int32))), .val (.int (3 : Int32)), .val (.int (4 : Int32))] [])) _
          refine XS.iload X38.here hx rfl (hb hby at_233) rfl ?_
          show Steps p.tables e below (T38.setTop (mkF m 235 #[.val (.int p1), .val (.int p2), .val (.int (3 : Int32)), .val (.int z), .val (.ref f), .val (.int (((((((((1 : Int32) &&& (1 : Int32)) &&& (1 : Int32)) &&& (1 : Int32)) &&& (1 : Int32)) &&& (1 : Int32)) &&& (1 : Int32)) &&& (1 : Int32)) &&& (1 : Int32))), .val (.int (3 : Int32)), .val (.int (4 : Int32))] [(.int (((((((((1 : Int32) &&& (1 : Int32)) &&& (1 : Int32)) &&& (1 : Int32)) &&& (1 : Int32)) &&& (1 : Int32)) &&& (1 : Int32)) &&& (1 : Int32)) &&& (1 : Int32)))])) _
          refine XS.aload X38.here hx rfl (hb hby at_235) rfl rfl ?_
          show Steps p.tables e below (T38.setTop (mkF m 237 #[.val (.int p1), .val (.int p2), .val (.int (3 : Int32)), .val (.int z), .val (.ref f), .val (.int (((((((((1 : Int32) &&& (1 : Int32)) &&& (1 : Int32)) &&& (1 : Int32)) &&& (1 : Int32)) &&& (1 : Int32)) &&& (1 : Int32)) &&& (1 : Int32)) &&& (1 : Int32))), .val (.int (3 : Int32)), .val (.int (4 : Int32))] [(.ref f), (.int (((((((((1 : Int32) &&& (1 : Int32)) &&& (1 : Int32)) &&& (1 : Int32)) &&& (1 : Int32)) &&& (1 : Int32)) &&& (1 : Int32)) &&& (1 : Int32)) &&& (1 : Int32)))])) _
          refine XS.iloadN X38.here hx rfl (hb hby at_237) rfl ?_
          show Steps p.tables e below (T38.setTop (mkF m 238 #[.val (.int p1), .val (.int p2), .val (.int (3 : Int32)), .val (.int z), .val (.ref f), .val (.int (((((((((1 : Int32) &&& (1 : Int32)) &&& (1 : Int32)) &&& (1 : Int32)) &&& (1 : Int32)) &&& (1 : Int32)) &&& (1 : Int32)) &&& (1 : Int32)) &&& (1 : Int32))), .val (.int (3 : Int32)), .val (.int (4 : Int32))] [(.int (3 : Int32)), (.ref f), (.int (((((((((1 : Int32) &&& (1 : Int32)) &&& (1 : Int32)) &&& (1 : Int32)) &&& (1 : Int32)) &&& (1 : Int32)) &&& (1 : Int32)) &&& (1 : Int32)) &&& (1 : Int32)))])) _
          refine XS.iconst X38.here hx rfl (hb hby at_238) ?_
          show Steps p.tables e below (T38.setTop (mkF m 239 #[.val (.int p1), .val (.int p2), .val (.int (3 : Int32)), .val (.int z), .val (.ref f), .val (.int (((((((((1 : Int32) &&& (1 : Int32)) &&& (1 : Int32)) &&& (1 : Int32)) &&& (1 : Int32)) &&& (1 : Int32)) &&& (1 : Int32)) &&& (1 : Int32)) &&& (1 : Int32))), .val (.int (3 : Int32)), .val (.int (4 : Int32))] [(.int (1 : Int32)), (.int (3 : Int32)), (.ref f), (.int (((((((((1 : Int32) &&& (1 : Int32)) &&& (1 : Int32)) &&& (1 : Int32)) &&& (1 : Int32)) &&& (1 : Int32)) &&& (1 : Int32)) &&& (1 : Int32)) &&& (1 : Int32)))])) _
          refine XS.isub X38.here hx rfl (hb hby at_239) rfl ?_
          show Steps p.tables e below (T38.setTop (mkF m 240 #[.val (.int p1), .val (.int p2), .val (.int (3 : Int32)), .val (.int z), .val (.ref f), .val (.int (((((((((1 : Int32) &&& (1 : Int32)) &&& (1 : Int32)) &&& (1 : Int32)) &&& (1 : Int32)) &&& (1 : Int32)) &&& (1 : Int32)) &&& (1 : Int32)) &&& (1 : Int32))), .val (.int (3 : Int32)), .val (.int (4 : Int32))] [(.int ((3 : Int32) - (1 : Int32))), (.ref f), (.int (((((((((1 : Int32) &&& (1 : Int32)) &&& (1 : Int32)) &&& (1 : Int32)) &&& (1 : Int32)) &&& (1 : Int32)) &&& (1 : Int32)) &&& (1 : Int32)) &&& (1 : Int32)))])) _
          exact k
        rw [show ((3 : Int32) - (1 : Int32)) = (2 : Int32) from by decide]
        obtain ⟨cq39, kq39, q39a, q39b, q39c⟩ := isOf hZ eh38 E_f
        obtain ⟨_, _, ⟨T39, L39, k39, n39⟩, -, X39, ⟨Lc39, hQ39, l39, y39, z39⟩, st39⟩ := X38.virtualBack hx (y := (⟨"com/example/typewright/typewright/Flow", "isAssigned", "(I)Z"⟩ : MethodName)) (z := (⟨"com/example/typewright/typewright/Flow", "isAssigned", "(I)Z"⟩ : MethodName)) hown (mvT hZ (hw _ (List.mem_of_getElem? (i := 64) rfl))) (mvT hZ (hw _ (List.mem_of_getElem? (i := 65) rfl))) (notFace_of_selects (args := #[]) (mvT hZ (hw _ (List.mem_of_getElem? (i := 67) rfl)))) (mvT hZ (hw _ (List.mem_of_getElem? (i := 67) rfl))) (mvT hZ (hw _ (List.mem_of_getElem? (i := 66) rfl))) (by decide) (backOf (W := 1) (rm11 l Z a0 hw [] f (2 : Int32) qs qw qk u w T35.heap n0 Z35 (S_A.ext hzt.2) F_assigned_f (by decide) (by decide) B_q) hZ (hw _ (List.mem_of_getElem? (i := 68) rfl)) (hw _ (List.mem_of_getElem? (i := 2) rfl)) (by decide) (by decide)) q39a q39c (g := (mkF m 240 #[.val (.int p1), .val (.int p2), .val (.int (3 : Int32)), .val (.int z), .val (.ref f), .val (.int (((((((((1 : Int32) &&& (1 : Int32)) &&& (1 : Int32)) &&& (1 : Int32)) &&& (1 : Int32)) &&& (1 : Int32)) &&& (1 : Int32)) &&& (1 : Int32)) &&& (1 : Int32))), .val (.int (3 : Int32)), .val (.int (4 : Int32))] [(.int (2 : Int32)), (.ref f), (.int (((((((((1 : Int32) &&& (1 : Int32)) &&& (1 : Int32)) &&& (1 : Int32)) &&& (1 : Int32)) &&& (1 : Int32)) &&& (1 : Int32)) &&& (1 : Int32)) &&& (1 : Int32)))])) rfl (by rw [hml]; rfl) (Steps.refl _) (argsL := [(.int (2 : Int32))]) (rest := [(.int (((((((((1 : Int32) &&& (1 : Int32)) &&& (1 : Int32)) &&& (1 : Int32)) &&& (1 : Int32)) &&& (1 : Int32)) &&& (1 : Int32)) &&& (1 : Int32)) &&& (1 : Int32)))]) (lenOf pd_rm0_2 rfl) rfl (by show 2 * 0 + _ ≤ _; exact Nat.le_of_eq rfl) (hb hby at_240) (fun _ _ => ⟨rfl, eh38, (by decide : 5 + 0 ≤ _), (by decide : 11 + 0 ≤ _)⟩)
        dsimp only [Pt.U, Pt.locs, Pt.cells, Pt.slots] at X39 l39 y39 z39 st39 hQ39
        subst l39 y39 z39
        obtain ⟨rfl, N39q, eh⟩ := hQ39
        have N39 := Fr.app N38 N39q
        have eh39 := eh
        refine OEnds.go (t' := T39.setTop (mkF m 243 #[.val (.int p1), .val (.int p2), .val (.int (3 : Int32)), .val (.int z), .val (.ref f), .val (.int (((((((((1 : Int32) &&& (1 : Int32)) &&& (1 : Int32)) &&& (1 : Int32)) &&& (1 : Int32)) &&& (1 : Int32)) &&& (1 : Int32)) &&& (1 : Int32)) &&& (1 : Int32))), .val (.int (3 : Int32)), .val (.int (4 : Int32))] [(.int (own_get u w (2 : Int32))), (.int (((((((((1 : Int32) &&& (1 : Int32)) &&& (1 : Int32)) &&& (1 : Int32)) &&& (1 : Int32)) &&& (1 : Int32)) &&& (1 : Int32)) &&& (1 : Int32)) &&& (1 : Int32)))])) (fun _ k => st39.trans k) ?_
        refine OEnds.go (t' := T39.setTop (mkF m 244 #[.val (.int p1), .val (.int p2), .val (.int (3 : Int32)), .val (.int z), .val (.ref f), .val (.int (((((((((1 : Int32) &&& (1 : Int32)) &&& (1 : Int32)) &&& (1 : Int32)) &&& (1 : Int32)) &&& (1 : Int32)) &&& (1 : Int32)) &&& (1 : Int32)) &&& (1 : Int32))), .val (.int (3 : Int32)), .val (.int (4 : Int32))] [(.int z), (.int (own_get u w (2 : Int32))), (.int (((((((((1 : Int32) &&& (1 : Int32)) &&& (1 : Int32)) &&& (1 : Int32)) &&& (1 : Int32)) &&& (1 : Int32)) &&& (1 : Int32)) &&& (1 : Int32)) &&& (1 : Int32)))])) (fun _ k => ?_) ?_
        · show Steps p.tables e below (T39.setTop (mkF m 243 #[.val (.int p1), .val (.int p2), .val (.int (3 : Int32)), .val (.int z), .val (.ref f), .val (.int (((((((((1 : Int32) &&& (1 : Int32)) &&& (1 : Int32)) &&& (1 : Int32)) &&& (1 : Int32)) &&& (1 : Int32)) &&& (1 : Int32)) &&& (1 : Int32)) &&& (1 : Int32))), .val (.int (3 : Int32)), .val (.int (4 : Int32))] [(.int (own_get u w (2 : Int32))), (.int (((((((((1 : Int32) &&& (1 : Int32)) &&& (1 : Int32)) &&& (1 : Int32)) &&& (1 : Int32)) &&& (1 : Int32)) &&& (1 : Int32)) &&& (1 : Int32)) &&& (1 : Int32)))])) _
          refine XS.iloadN X39.here hx rfl (hb hby at_243) rfl ?_
          show Steps p.tables e below (T39.setTop (mkF m 244 #[.val (.int p1), .val (.int p2), .val (.int (3 : Int32)), .val (.int z), .val (.ref f), .val (.int (((((((((1 : Int32) &&& (1 : Int32)) &&& (1 : Int32)) &&& (1 : Int32)) &&& (1 : Int32)) &&& (1 : Int32)) &&& (1 : Int32)) &&& (1 : Int32)) &&& (1 : Int32))), .val (.int (3 : Int32)), .val (.int (4 : Int32))] [(.int z), (.int (own_get u w (2 : Int32))), (.int (((((((((1 : Int32) &&& (1 : Int32)) &&& (1 : Int32)) &&& (1 : Int32)) &&& (1 : Int32)) &&& (1 : Int32)) &&& (1 : Int32)) &&& (1 : Int32)) &&& (1 : Int32)))])) _
          exact k
        refine OEnds.go (t' := T39.setTop (mkF m 247 #[.val (.int p1), .val (.int p2), .val (.int (3 : Int32)), .val (.int z), .val (.ref f), .val (.int (((((((((1 : Int32) &&& (1 : Int32)) &&& (1 : Int32)) &&& (1 : Int32)) &&& (1 : Int32)) &&& (1 : Int32)) &&& (1 : Int32)) &&& (1 : Int32)) &&& (1 : Int32))), .val (.int (3 : Int32)), .val (.int (4 : Int32))] [(.int (((((((((1 : Int32) &&& (1 : Int32)) &&& (1 : Int32)) &&& (1 : Int32)) &&& (1 : Int32)) &&& (1 : Int32)) &&& (1 : Int32)) &&& (1 : Int32)) &&& (1 : Int32)))])) (fun _ k => XS.icmpNo X39.here hx rfl (hb hby at_244) rfl (teq hD).2 k) ?_
        refine OEnds.go (t' := T39.setTop (mkF m 257 #[.val (.int p1), .val (.int p2), .val (.int (3 : Int32)), .val (.int z), .val (.ref f), .val (.int ((((((((((1 : Int32) &&& (1 : Int32)) &&& (1 : Int32)) &&& (1 : Int32)) &&& (1 : Int32)) &&& (1 : Int32)) &&& (1 : Int32)) &&& (1 : Int32)) &&& (1 : Int32)) &&& (1 : Int32))), .val (.int (3 : Int32)), .val (.int (4 : Int32))] [(.int ((((((((((1 : Int32) &&& (1 : Int32)) &&& (1 : Int32)) &&& (1 : Int32)) &&& (1 : Int32)) &&& (1 : Int32)) &&& (1 : Int32)) &&& (1 : Int32)) &&& (1 : Int32)) &&& (1 : Int32)))])) (fun _ k => ?_) ?_
        · show Steps p.tables e below (T39.setTop (mkF m 247 #[.val (.int p1), .val (.int p2), .val (.int (3 : Int32)), .val (.int z), .val (.ref f), .val (.int (((((((((1 : Int32) &&& (1 : Int32)) &&& (1 : Int32)) &&& (1 : Int32)) &&& (1 : Int32)) &&& (1 : Int32)) &&& (1 : Int32)) &&& (1 : Int32)) &&& (1 : Int32))), .val (.int (3 : Int32)), .val (.int (4 : Int32))] [(.int (((((((((1 : Int32) &&& (1 : Int32)) &&& (1 : Int32)) &&& (1 : Int32)) &&& (1 : Int32)) &&& (1 : Int32)) &&& (1 : Int32)) &&& (1 : Int32)) &&& (1 : Int32)))])) _
          refine XS.iconst X39.here hx rfl (hb hby at_247) ?_
          show Steps p.tables e below (T39.setTop (mkF m 248 #[.val (.int p1), .val (.int p2), .val (.int (3 : Int32)), .val (.int z), .val (.ref f), .val (.int (((((((((1 : Int32) &&& (1 : Int32)) &&& (1 : Int32)) &&& (1 : Int32)) &&& (1 : Int32)) &&& (1 : Int32)) &&& (1 : Int32)) &&& (1 : Int32)) &&& (1 : Int32))), .val (.int (3 : Int32)), .val (.int (4 : Int32))] [(.int (1 : Int32)), (.int (((((((((1 : Int32) &&& (1 : Int32)) &&& (1 : Int32)) &&& (1 : Int32)) &&& (1 : Int32)) &&& (1 : Int32)) &&& (1 : Int32)) &&& (1 : Int32)) &&& (1 : Int32)))])) _
          refine XS.goto X39.here hx rfl (pc0 := 248) (pc' := 252) rfl (hb hby at_248) (by decide) (by decide) ?_
          show Steps p.tables e below (T39.setTop (mkF m 252 #[.val (.int p1), .val (.int p2), .val (.int (3 : Int32)), .val (.int z), .val (.ref f), .val (.int (((((((((1 : Int32) &&& (1 : Int32)) &&& (1 : Int32)) &&& (1 : Int32)) &&& (1 : Int32)) &&& (1 : Int32)) &&& (1 : Int32)) &&& (1 : Int32)) &&& (1 : Int32))), .val (.int (3 : Int32)), .val (.int (4 : Int32))] [(.int (1 : Int32)), (.int (((((((((1 : Int32) &&& (1 : Int32)) &&& (1 : Int32)) &&& (1 : Int32)) &&& (1 : Int32)) &&& (1 : Int32)) &&& (1 : Int32)) &&& (1 : Int32)) &&& (1 : Int32)))])) _
          refine XS.iand X39.here hx rfl (hb hby at_252) rfl ?_
          show Steps p.tables e below (T39.setTop (mkF m 253 #[.val (.int p1), .val (.int p2), .val (.int (3 : Int32)), .val (.int z), .val (.ref f), .val (.int (((((((((1 : Int32) &&& (1 : Int32)) &&& (1 : Int32)) &&& (1 : Int32)) &&& (1 : Int32)) &&& (1 : Int32)) &&& (1 : Int32)) &&& (1 : Int32)) &&& (1 : Int32))), .val (.int (3 : Int32)), .val (.int (4 : Int32))] [(.int ((((((((((1 : Int32) &&& (1 : Int32)) &&& (1 : Int32)) &&& (1 : Int32)) &&& (1 : Int32)) &&& (1 : Int32)) &&& (1 : Int32)) &&& (1 : Int32)) &&& (1 : Int32)) &&& (1 : Int32)))])) _
          refine XS.istore X39.here hx rfl (hb hby at_253) rfl (l' := #[.val (.int p1), .val (.int p2), .val (.int (3 : Int32)), .val (.int z), .val (.ref f), .val (.int ((((((((((1 : Int32) &&& (1 : Int32)) &&& (1 : Int32)) &&& (1 : Int32)) &&& (1 : Int32)) &&& (1 : Int32)) &&& (1 : Int32)) &&& (1 : Int32)) &&& (1 : Int32)) &&& (1 : Int32))), .val (.int (3 : Int32)), .val (.int (4 : Int32))]) rfl ?_
          show Steps p.tables e below (T39.setTop (mkF m 255 #[.val (.int p1), .val (.int p2), .val (.int (3 : Int32)), .val (.int z), .val (.ref f), .val (.int ((((((((((1 : Int32) &&& (1 : Int32)) &&& (1 : Int32)) &&& (1 : Int32)) &&& (1 : Int32)) &&& (1 : Int32)) &&& (1 : Int32)) &&& (1 : Int32)) &&& (1 : Int32)) &&& (1 : Int32))), .val (.int (3 : Int32)), .val (.int (4 : Int32))] [])) _
          refine XS.iload X39.here hx rfl (hb hby at_255) rfl ?_
          show Steps p.tables e below (T39.setTop (mkF m 257 #[.val (.int p1), .val (.int p2), .val (.int (3 : Int32)), .val (.int z), .val (.ref f), .val (.int ((((((((((1 : Int32) &&& (1 : Int32)) &&& (1 : Int32)) &&& (1 : Int32)) &&& (1 : Int32)) &&& (1 : Int32)) &&& (1 : Int32)) &&& (1 : Int32)) &&& (1 : Int32)) &&& (1 : Int32))), .val (.int (3 : Int32)), .val (.int (4 : Int32))] [(.int ((((((((((1 : Int32) &&& (1 : Int32)) &&& (1 : Int32)) &&& (1 : Int32)) &&& (1 : Int32)) &&& (1 : Int32)) &&& (1 : Int32)) &&& (1 : Int32)) &&& (1 : Int32)) &&& (1 : Int32)))])) _
          exact k
        refine OEnds.back X39 hlk (v := (some (.int (nar .boolean ((((((((((1 : Int32) &&& (1 : Int32)) &&& (1 : Int32)) &&& (1 : Int32)) &&& (1 : Int32)) &&& (1 : Int32)) &&& (1 : Int32)) &&& (1 : Int32)) &&& (1 : Int32)) &&& (1 : Int32)))))) (fun h => by rw [hrt] at h; cases h) (fun fs hr => ?_) ?_ (by decide) (by decide)
        · exact retN X39 hx (t := .boolean) hrt (by simp) (hb hby at_257) hr
        · show Q0 Z p1 p2 r1 r2 h0 n0 _ T39.heap _
          rw [eh39]
          exact ⟨congrArg (fun z => some (Value.int z)) (by decide), N39⟩
      by_cases h112 : z = (0 : Int32)
      · refine OEnds.go (t' := T33.setTop (mkF m 120 #[.val (.int p1), .val (.int p2), .val (.int (3 : Int32)), .val (.int z), .val (.ref f), .val (.int ((((1 : Int32) &&& (1 : Int32)) &&& (1 : Int32)) &&& (1 : Int32))), .val (.int (2 : Int32)), .unset] [])) (fun _ k => XS.ifYes X33.here hx rfl (pc0 := 112) (pc' := 120) rfl (hb hby at_112) rfl ((if0 _ _).trans (teq h112).1) (by decide) (by decide) k) ?_
        exact K120 _ _ _ (X33.mono (by decide) (by decide)) rfl N33 Z33 bs wa kb 0 0 _ hzt E_f F_locals_f F_assigned_f F_reach_f B_bs ne_f_bs ne_f_wa (by decide) (by decide) (by rw [h112]; decide) (by rw [h112]; decide)
      · refine OEnds.go (t' := T33.setTop (mkF m 115 #[.val (.int p1), .val (.int p2), .val (.int (3 : Int32)), .val (.int z), .val (.ref f), .val (.int ((((1 : Int32) &&& (1 : Int32)) &&& (1 : Int32)) &&& (1 : Int32))), .val (.int (2 : Int32)), .unset] [])) (fun _ k => XS.ifNo X33.here hx rfl (hb hby at_112) rfl ((if0 _ _).trans (feq h112).1) k) ?_
        refine OEnds.go (t' := T33.setTop (mkF m 117 #[.val (.int p1), .val (.int p2), .val (.int (3 : Int32)), .val (.int z), .val (.ref f), .val (.int ((((1 : Int32) &&& (1 : Int32)) &&& (1 : Int32)) &&& (1 : Int32))), .val (.int (2 : Int32)), .unset] [(.ref f)])) (fun _ k => ?_) ?_
        · show Steps p.tables e below (T33.setTop (mkF m 115 #[.val (.int p1), .val (.int p2), .val (.int (3 : Int32)), .val (.int z), .val (.ref f), .val (.int ((((1 : Int32) &&& (1 : Int32)) &&& (1 : Int32)) &&& (1 : Int32))), .val (.int (2 : Int32)), .unset] [])) _
          refine XS.aload X33.here hx rfl (hb hby at_115) rfl rfl ?_
          show Steps p.tables e below (T33.setTop (mkF m 117 #[.val (.int p1), .val (.int p2), .val (.int (3 : Int32)), .val (.int z), .val (.ref f), .val (.int ((((1 : Int32) &&& (1 : Int32)) &&& (1 : Int32)) &&& (1 : Int32))), .val (.int (2 : Int32)), .unset] [(.ref f)])) _
          exact k
        have lt_f := E_f.lt
        obtain ⟨cq40, kq40, q40a, q40b, q40c⟩ := isOf hZ rfl E_f
        obtain ⟨_, _, ⟨T40, L40, k40, n40⟩, -, X40, ⟨Lc40, hQ40, l40, y40, z40⟩, st40⟩ := X33.virtualBack hx (y := (⟨"com/example/typewright/typewright/Flow", "afterReturn", "()V"⟩ : MethodName)) (z := (⟨"com/example/typewright/typewright/Flow", "afterReturn", "()V"⟩ : MethodName)) hown (mvT hZ (hw _ (List.mem_of_getElem? (i := 38) rfl))) (mvT hZ (hw _ (List.mem_of_getElem? (i := 39) rfl))) (notFace_of_selects (args := #[]) (mvT hZ (hw _ (List.mem_of_getElem? (i := 41) rfl)))) (mvT hZ (hw _ (List.mem_of_getElem? (i := 41) rfl))) (mvT hZ (hw _ (List.mem_of_getElem? (i := 40) rfl))) (by decide) (backOf (W := 0) (rm6 l Z a0 hw [] f r2 (3 : Int32) _ _ T33.heap n0 Z33 S_A S_2 hzt F_locals_f F_assigned_f F_reach_f E_f g_f (by unfold own_N; decide)) hZ (hw _ (List.mem_of_getElem? (i := 42) rfl)) (hw _ (List.mem_of_getElem? (i := 2) rfl)) (by decide) (by decide)) q40a q40c (g := (mkF m 117 #[.val (.int p1), .val (.int p2), .val (.int (3 : Int32)), .val (.int z), .val (.ref f), .val (.int ((((1 : Int32) &&& (1 : Int32)) &&& (1 : Int32)) &&& (1 : Int32))), .val (.int (2 : Int32)), .unset] [(.ref f)])) rfl (by rw [hml]; rfl) (Steps.refl _) (argsL := []) (rest := []) (lenOf pd_rm0_0 rfl) rfl (by show 2 * 0 + _ ≤ _; exact Nat.le_of_eq rfl) (hb hby at_117) (fun _ _ => ⟨rfl, rfl, (by decide : 3 + 2 ≤ _), (by decide : 7 + 4 ≤ _)⟩)
        dsimp only [Pt.U, Pt.locs, Pt.cells, Pt.slots] at X40 l40 y40 z40 st40 hQ40
        subst l40 y40 z40
        obtain ⟨rfl, N40q, Kc40, Ea40, Fa40, ⟨ur40, Fb40⟩, cs, cw, ck, Fc40, B_cs, ⟨szc, g_cs⟩, szv, g_cw⟩ := hQ40
        have N40 := Fr.app N33 N40q
        have hzt := hzt.keep Kc40 (allS g_f all0)
        have B_bs := B_bs.keep Kc40 (ninS (Ne.symm ne_f_bs) nin0) (ninS (Ne.symm ne_f_wa) nin0)
        have Z40 : n0 ≤ T40.heap.size := Nat.le_trans Z33 Kc40.1
        refine OEnds.go (t' := T40.setTop (mkF m 120 #[.val (.int p1), .val (.int p2), .val (.int (3 : Int32)), .val (.int z), .val (.ref f), .val (.int ((((1 : Int32) &&& (1 : Int32)) &&& (1 : Int32)) &&& (1 : Int32))), .val (.int (2 : Int32)), .unset] [])) (fun _ k => st40.trans k) ?_
        have ne_f_cs : f ≠ cs := Nat.ne_of_lt (Nat.lt_of_lt_of_le lt_f szc)
        have ne_f_cw : f ≠ cw := Nat.ne_of_lt (Nat.lt_of_lt_of_le lt_f szv)
        have h112x : z = 1 := hz.resolve_left h112
        exact K120 _ _ _ (X40.mono (by decide) (by decide)) rfl N40 Z40 cs cw ck _ _ _ hzt Ea40 Fa40 Fc40 Fb40 B_cs ne_f_cs ne_f_cw (by decide) (by decide) (by rw [h112x]; decide) (by rw [h112x]; decide)
  refine OEnds.go (t' := s₁.setTop (mkF m 7 #[.val (.int p1), .val (.int p2), .val (.int n), .unset, .unset, .unset, .unset, .unset] [(.int (p2 &&& (1 : Int32)))])) (fun _ k => ?_) ?_
  · show Steps p.tables e below (s₁.setTop (mkF m 4 #[.val (.int p1), .val (.int p2), .val (.int n), .unset, .unset, .unset, .unset, .unset] [])) _
    refine XS.iloadN X0.here hx rfl (hb hby at_4) rfl ?_
    show Steps p.tables e below (s₁.setTop (mkF m 5 #[.val (.int p1), .val (.int p2), .val (.int n), .unset, .unset, .unset, .unset, .unset] [(.int p2)])) _
    refine XS.iconst X0.here hx rfl (hb hby at_5) ?_
    show Steps p.tables e below (s₁.setTop (mkF m 6 #[.val (.int p1), .val (.int p2), .val (.int n), .unset, .unset, .unset, .unset, .unset] [(.int (1 : Int32)), (.int p2)])) _
    refine XS.iand X0.here hx rfl (hb hby at_6) rfl ?_
    show Steps p.tables e below (s₁.setTop (mkF m 7 #[.val (.int p1), .val (.int p2), .val (.int n), .unset, .unset, .unset, .unset, .unset] [(.int (p2 &&& (1 : Int32)))])) _
    exact k
  by_cases h7 : (p2 &&& (1 : Int32)) = (0 : Int32)
  · refine OEnds.go (t' := s₁.setTop (mkF m 14 #[.val (.int p1), .val (.int p2), .val (.int n), .unset, .unset, .unset, .unset, .unset] [])) (fun _ k => XS.ifYes X0.here hx rfl (pc0 := 7) (pc' := 14) rfl (hb hby at_7) rfl ((if0 _ _).trans (teq h7).1) (by decide) (by decide) k) ?_
    refine OEnds.go (t' := s₁.setTop (mkF m 15 #[.val (.int p1), .val (.int p2), .val (.int n), .unset, .unset, .unset, .unset, .unset] [(.int (0 : Int32))])) (fun _ k => ?_) ?_
    · show Steps p.tables e below (s₁.setTop (mkF m 14 #[.val (.int p1), .val (.int p2), .val (.int n), .unset, .unset, .unset, .unset, .unset] [])) _
      refine XS.iconst X0.here hx rfl (hb hby at_14) ?_
      show Steps p.tables e below (s₁.setTop (mkF m 15 #[.val (.int p1), .val (.int p2), .val (.int n), .unset, .unset, .unset, .unset, .unset] [(.int (0 : Int32))])) _
      exact k
    exact K15 _ (Or.inl rfl)
  · refine OEnds.go (t' := s₁.setTop (mkF m 10 #[.val (.int p1), .val (.int p2), .val (.int n), .unset, .unset, .unset, .unset, .unset] [])) (fun _ k => XS.ifNo X0.here hx rfl (hb hby at_7) rfl ((if0 _ _).trans (feq h7).1) k) ?_
    refine OEnds.go (t' := s₁.setTop (mkF m 15 #[.val (.int p1), .val (.int p2), .val (.int n), .unset, .unset, .unset, .unset, .unset] [(.int (1 : Int32))])) (fun _ k => ?_) ?_
    · show Steps p.tables e below (s₁.setTop (mkF m 10 #[.val (.int p1), .val (.int p2), .val (.int n), .unset, .unset, .unset, .unset, .unset] [])) _
      refine XS.iconst X0.here hx rfl (hb hby at_10) ?_
      show Steps p.tables e below (s₁.setTop (mkF m 11 #[.val (.int p1), .val (.int p2), .val (.int n), .unset, .unset, .unset, .unset, .unset] [(.int (1 : Int32))])) _
      refine XS.goto X0.here hx rfl (pc0 := 11) (pc' := 15) rfl (hb hby at_11) (by decide) (by decide) ?_
      show Steps p.tables e below (s₁.setTop (mkF m 15 #[.val (.int p1), .val (.int p2), .val (.int n), .unset, .unset, .unset, .unset, .unset] [(.int (1 : Int32))])) _
      exact k
    exact K15 _ (Or.inr rfl)
set_option maxRecDepth 65536 in
set_option maxHeartbeats 40000000 in
theorem comes_1 {Post : Tables → Env → Array Value → State → Outcome → State → Prop} (hpost : ∀ tb e args s v u, (limb_1_1.after args s (.returned v) u = true ∧ limb_1_2.after args s (.returned v) u = true ∧ True) → FrameEnd s (.returned v) u (Jvm.fieldLocs frame_1_writes args s ++ Jvm.arrayLocs frame_1_arrays args s ++ Jvm.staticLocs frame_1_statics s) 24 128 → Post tb e args s (.returned v) u) :
    ArmFor flags0 classFile x code maxLocals ret World_1 tables_1 room_1 Calls_1 rest_1 Pre_1 Post := by
  intro l hfl _ _ p e ha hc hk s m args below hf hA hF happ hP
  obtain ⟨hcalls, hrest, hpre⟩ := hP
  obtain ⟨-, -, -, hnamed, -, -, -, hat⟩ := (Spec.applies_iff hf).mp happ
  obtain ⟨hg, hn⟩ := and_e (Cond.before_iff.mp (show (Jvm.Cond.and given_1 narrow_1).before args s = true from hpre))
  obtain ⟨gc, g0⟩ := and_e hg
  obtain ⟨ga0, g1⟩ := and_e g0
  obtain ⟨w0, w1, rfl⟩ : ∃ w0 w1 : Value, args = #[w0, w1] := by
    have hs : args.size = 2 := by simpa [Cond.value, given_1] using gc
    obtain ⟨L⟩ := args
    match L, hs with
    | [w0, w1], _ => exact ⟨w0, w1, rfl⟩
  have hw := fun d (hd : d ∈ tables_1) => atoms_spec (ws := Jvm.Cond.code x code maxLocals ret :: tables_1) hat d (List.mem_cons_of_mem _ hd)
  have hfit : Fit s := fun {y c} hc i hi => by
    obtain ⟨ha, rfl⟩ := Array.getElem?_eq_some_iff.mp hc
    have q := List.all_eq_true.mp ((Array.all_eq_true_iff_forall_mem.mp hF) _ (Array.getElem_mem ha)) i (List.mem_range.mpr hi)
    simpa [Array.getElem?_eq_getElem hi] using q
  obtain ⟨hsets, hown0⟩ := atoms_of _ (rest_1_c_eq ▸ (show rest_1_c.before _ s = true from hrest))
  obtain ⟨i0, ei0⟩ := is_v ga0
  obtain rfl : w0 = (.int i0) := Option.some.inj ei0
  obtain ⟨i1, ei1⟩ := is_v g1
  obtain rfl : w1 = (.int i1) := Option.some.inj ei1
  obtain ⟨n0, hn0⟩ := and_e hn
  have n1 := hn0
  obtain ⟨a_REACHABLE, v_REACHABLE⟩ := exa_v n0
  have E_REACHABLE := Exa.start v_REACHABLE n0
  have S_REACHABLE := Sta.start v_REACHABLE (Or.inr ⟨(hw _ (List.mem_of_getElem? (i := 34) rfl)), (hw _ (List.mem_of_getElem? (i := 35) rfl))⟩)
  obtain ⟨a_UNREACHABLE, v_UNREACHABLE⟩ := exa_v n1
  have E_UNREACHABLE := Exa.start v_UNREACHABLE n1
  have S_UNREACHABLE := Sta.start v_UNREACHABLE (Or.inr ⟨(hw _ (List.mem_of_getElem? (i := 34) rfl)), (hw _ (List.mem_of_getElem? (i := 58) rfl))⟩)
  have S_A := Sta.start (own_eqi (Cond.before_iff.mp (hsets _ (List.mem_of_getElem? (i := 2) rfl)))) (Or.inl (hsets _ (List.mem_of_getElem? (i := 1) rfl)))
  obtain ⟨n, o, h1, h2, h3, _, L, rfl, ⟨rfl, N⟩, hq⟩ := rm0 l s _ hw tables_1 i0 i1 a_REACHABLE a_UNREACHABLE s.heap s.heap.size (Nat.le_refl _) S_A S_REACHABLE S_UNREACHABLE (Old.start s) p e ha hc hk s m _ below hf ((Spec.applies_iff_loose hf).mp happ).1 ⟨rfl, State.Warmed39.refl s, rfl⟩ trivial
  refine ⟨n, _, h1, h2, h3, hpost _ _ _ _ _ _ ⟨Cond.after_iff.mpr rfl, Cond.after_iff.mpr (eq_i res_at (Term.int_eval (1)) rfl), trivial⟩ ⟨hq.1, hq.2.1, (hq.2.2.sift fun y hy => Or.inr (N y hy)).mono (by decide) (by decide)⟩⟩
theorem main_1_1 : Claimed_1_1 := comes_1 fun _ _ _ _ _ _ h hF => ⟨h.1, hF⟩
theorem main_1_2 : Claimed_1_2 := comes_1 fun _ _ _ _ _ _ h hF => ⟨h.2.1, hF⟩
end Jvm.Pilot.@@N@@
namespace Jvm.Pilot.@@N@@
open Jvm Jvm.ClassFile Sem Op Lib Jvm.Free Jvm.Stand Jvm.Pilot.@@N@@.Jvm.D
/-! MADE BY PROGRAM (witnessworld.py) out of the Statement's table words and the real class files: 16 classes; the members and pool entries that the words name. The judged class is class 1, her method 1. -/
namespace start1
open Jvm.ClassFile
def u (s : String) : CpInfo := .utf8 (stringToUtf16 s)
/-- a pool by its gaps: so many unusable entries, then the entry; so many at the end -/
def gap : Nat → List CpInfo → List CpInfo
  | 0, r => r
  | n + 1, r => .unusable :: gap n r
def poolList (es : List (Nat × CpInfo)) (last : Nat) : List CpInfo := es.foldr (fun e r => gap e.1 (e.2 :: r)) (gap last [])
def pool (es : List (Nat × CpInfo)) (last : Nat) : Array CpInfo := ⟨poolList es last⟩
def fileOf (pool : Array CpInfo) (this : Nat) (attrs : Array Attribute := #[]) (ms : Array MethodInfo := #[]) (fl : Nat := 33) (sup : Nat := 0) (ifs : Array Nat := #[]) (fds : Array FieldInfo := #[]) : ClassFile where
  minorVersion := 0
  majorVersion := 65
  constantPool := pool
  accessFlags := fl
  thisClass := this
  superClass := sup
  interfaces := ifs
  fields := fds
  methods := ms
  attributes := attrs
def plain (name : String) (sup : Option ClassId) : Class where
  name := name
  kind := .ordinary
  loader := none
  accessFlags := 33
  super := sup
  interfaces := #[]
  cf := none
  fields := #[]
  methods := #[]
  instanceTypes := #[]
  staticTypes := #[]
  resolved := #[]
  callSites := []
  init := .initialized
  statics := none
  mirror := none

def pool0 : Array CpInfo := pool [(5, u "<init>"), (0, u "()V"), (1, .class_ 10), (1, u "java/lang/Object")] 113

def k0c0 : Code := { maxStack := 0, maxLocals := 1, code := object_method_1_code, exceptionTable := #[], attributes := #[] }
def k0m0 : Method := { name := "<init>", desc := "()V", sig := { parameters := [], returnType := none }, accessFlags := 1, code := some k0c0 }
/-- java/lang/Object -/
def k0 : Class := { plain "java/lang/Object" none with
  accessFlags := 33
  interfaces := #[]
  cf := some (fileOf pool0 8 #[] #[{ accessFlags := 1, nameIndex := 5, descriptorIndex := 6, attributes := #[] }] 33 0 #[] #[])
  fields := #[]
  methods := #[k0m0]
  instanceTypes := #[]
  staticTypes := #[]
  resolved := Array.replicate 124 none
  statics := none }

def pool1 : Array CpInfo := pool [(2, .class_ 4), (0, .nameAndType 5 6), (0, u "java/lang/Object"), (0, u "<init>"), (0, u "()V"), (0, .class_ 8), (0, u "com/example/typewright/typewright/Flow"), (0, .methodref 7 3), (0, .methodref 7 11), (0, .nameAndType 12 13), (0, u "declare"), (0, u "()I"), (0, .methodref 7 15), (0, .nameAndType 16 6), (0, u "afterReturn"), (0, .methodref 7 18), (0, .nameAndType 19 20), (0, u "isAssigned"), (0, u "(I)Z"), (0, .class_ 22), (0, u "com/example/typewright/typewright/FlowDeclarePinLaw"), (2, u "law"), (0, u "(II)Z")] 3

def k1m0 : Method := { name := "<init>", desc := "()V", sig := { parameters := [], returnType := none }, accessFlags := 1, code := none }
def k1c1 : Code := { maxStack := 4, maxLocals := 8, code := code, exceptionTable := #[], attributes := #[] }
def k1m1 : Method := { name := "law", desc := "(II)Z", sig := { parameters := [.int, .int], returnType := some .boolean }, accessFlags := 9, code := some k1c1 }
/-- com/example/typewright/typewright/FlowDeclarePinLaw -/
def k1 : Class := { plain "com/example/typewright/typewright/FlowDeclarePinLaw" (some 0) with
  accessFlags := 49
  interfaces := #[]
  cf := some (fileOf pool1 21 #[] #[{ accessFlags := 1, nameIndex := 5, descriptorIndex := 6, attributes := #[] }, { accessFlags := 9, nameIndex := 25, descriptorIndex := 26, attributes := #[] }] 49 2 #[] #[])
  fields := #[]
  methods := #[k1m0, k1m1]
  instanceTypes := #[]
  staticTypes := #[]
  resolved := Array.replicate 30 none
  statics := none }

def pool2 : Array CpInfo := pool [(1, .methodref 2 3), (0, .class_ 4), (0, .nameAndType 5 6), (0, u "java/lang/Object"), (0, u "<init>"), (0, u "()V"), (0, .class_ 8), (0, u "java/util/BitSet"), (0, .methodref 7 3), (0, .fieldref 11 12), (0, .class_ 13), (0, .nameAndType 14 15), (0, u "com/example/typewright/typewright/Flow"), (0, u "assigned"), (0, u "Ljava/util/BitSet;"), (0, .fieldref 17 18), (0, .class_ 19), (0, .nameAndType 20 21), (0, u "com/example/typewright/typewright/Flow$Reach"), (0, u "REACHABLE"), (0, u "Lcom/example/typewright/typewright/Flow$Reach;"), (0, .fieldref 11 23), (0, .nameAndType 24 21), (0, u "reach"), (0, .fieldref 11 26), (0, .nameAndType 27 28), (0, u "locals"), (0, u "I"), (0, .methodref 7 30), (0, .nameAndType 31 32), (0, u "get"), (0, u "(I)Z"), (2, u "set"), (11, .class_ 48), (0, u "com/example/typewright/typewright/Flow$Branches"), (0, .methodref 11 50), (0, .nameAndType 51 52), (0, u "everything"), (0, u "()Ljava/util/BitSet;"), (20, .fieldref 17 74), (0, .nameAndType 75 21), (0, u "UNREACHABLE"), (3, .class_ 80), (0, u "com/example/typewright/typewright/Flow$Point"), (16, .methodref 7 98), (0, .nameAndType 35 99), (0, u "(II)V"), (6, u "declare"), (0, u "()I"), (0, u "isAssigned"), (22, u "afterReturn")] 8

def k2c0 : Code := { maxStack := 3, maxLocals := 1, code := prog_35_method_1_code, exceptionTable := #[], attributes := #[] }
def k2m0 : Method := { name := "<init>", desc := "()V", sig := { parameters := [], returnType := none }, accessFlags := 0, code := some k2c0 }
def k2c1 : Code := { maxStack := 4, maxLocals := 1, code := prog_35_method_2_code, exceptionTable := #[], attributes := #[] }
def k2m1 : Method := { name := "declare", desc := "()I", sig := { parameters := [], returnType := some .int }, accessFlags := 0, code := some k2c1 }
def k2c2 : Code := { maxStack := 2, maxLocals := 2, code := prog_35_method_3_code, exceptionTable := #[], attributes := #[] }
def k2m2 : Method := { name := "isAssigned", desc := "(I)Z", sig := { parameters := [.int], returnType := some .boolean }, accessFlags := 0, code := some k2c2 }
def k2c3 : Code := { maxStack := 2, maxLocals := 1, code := prog_35_method_16_code, exceptionTable := #[], attributes := #[] }
def k2m3 : Method := { name := "afterReturn", desc := "()V", sig := { parameters := [], returnType := none }, accessFlags := 0, code := some k2c3 }
def k2c4 : Code := { maxStack := 3, maxLocals := 2, code := prog_35_method_18_code, exceptionTable := #[], attributes := #[] }
def k2m4 : Method := { name := "everything", desc := "()Ljava/util/BitSet;", sig := { parameters := [], returnType := some (.object "java/util/BitSet") }, accessFlags := 2, code := some k2c4 }
/-- com/example/typewright/typewright/Flow -/
def k2 : Class := { plain "com/example/typewright/typewright/Flow" (some 0) with
  accessFlags := 48
  interfaces := #[]
  cf := some (fileOf pool2 11 #[.nestMembers #[79, 47, 17]] #[{ accessFlags := 0, nameIndex := 5, descriptorIndex := 6, attributes := #[] }, { accessFlags := 0, nameIndex := 106, descriptorIndex := 107, attributes := #[] }, { accessFlags := 0, nameIndex := 108, descriptorIndex := 32, attributes := #[] }, { accessFlags := 0, nameIndex := 131, descriptorIndex := 6, attributes := #[] }, { accessFlags := 2, nameIndex := 51, descriptorIndex := 52, attributes := #[] }] 48 2 #[] #[{ accessFlags := 2, nameIndex := 14, descriptorIndex := 15, attributes := #[] }, { accessFlags := 2, nameIndex := 27, descriptorIndex := 28, attributes := #[] }, { accessFlags := 2, nameIndex := 24, descriptorIndex := 21, attributes := #[] }])
  fields := #[{ name := "assigned", type := (.object "java/util/BitSet"), accessFlags := 2, slot := 0, constantValue := 0 }, { name := "locals", type := .int, accessFlags := 2, slot := 1, constantValue := 0 }, { name := "reach", type := (.object "com/example/typewright/typewright/Flow$Reach"), accessFlags := 2, slot := 2, constantValue := 0 }]
  methods := #[k2m0, k2m1, k2m2, k2m3, k2m4]
  instanceTypes := #[(.object "java/util/BitSet"), .int, (.object "com/example/typewright/typewright/Flow$Reach")]
  staticTypes := #[]
  resolved := Array.replicate 140 none
  statics := none }

def pool3 : Array CpInfo := pool [(1, .class_ 2), (0, u "java/lang/Cloneable"), (0, .class_ 4), (0, u "java/lang/Object")] 2

/-- java/lang/Cloneable -/
def k3 : Class := { plain "java/lang/Cloneable" (some 0) with
  accessFlags := 1537
  interfaces := #[]
  cf := some (fileOf pool3 1 #[] #[] 1537 3 #[] #[])
  fields := #[]
  methods := #[]
  instanceTypes := #[]
  staticTypes := #[]
  resolved := Array.replicate 7 none
  statics := none }

def pool4 : Array CpInfo := pool [(1, .class_ 2), (0, u "java/io/Serializable"), (0, .class_ 4), (0, u "java/lang/Object")] 2

/-- java/io/Serializable -/
def k4 : Class := { plain "java/io/Serializable" (some 0) with
  accessFlags := 1537
  interfaces := #[]
  cf := some (fileOf pool4 1 #[] #[] 1537 3 #[] #[])
  fields := #[]
  methods := #[]
  instanceTypes := #[]
  staticTypes := #[]
  resolved := Array.replicate 7 none
  statics := none }

def pool5 : Array CpInfo := pool [(1, .class_ 2), (0, u "java/util/BitSet"), (0, .fieldref 1 4), (0, .nameAndType 5 6), (0, u "$assertionsDisabled"), (0, u "Z"), (0, .fieldref 1 8), (0, .nameAndType 9 10), (0, u "wordsInUse"), (0, u "I"), (0, .fieldref 1 12), (0, .nameAndType 13 14), (0, u "words"), (0, u "[J"), (3, .nameAndType 19 20), (0, u "<init>"), (0, u "()V"), (0, .methodref 22 18), (0, .class_ 23), (0, u "java/lang/Object"), (0, .fieldref 1 25), (0, .nameAndType 26 6), (0, u "sizeIsSticky"), (0, .methodref 1 28), (0, .nameAndType 29 30), (0, u "initWords"), (0, u "(I)V"), (21, .methodref 1 53), (0, .nameAndType 54 55), (0, u "wordIndex"), (0, u "(I)I"), (0, .methodref 1 57), (0, .nameAndType 58 20), (0, u "checkInvariants"), (21, u "get"), (58, .methodref 1 140), (0, .nameAndType 141 30), (0, u "ensureCapacity"), (13, .methodref 1 156), (0, .nameAndType 157 30), (0, u "expandTo"), (3, .methodref 1 162), (0, .nameAndType 163 164), (0, u "checkRange"), (0, u "(II)V"), (0, .long 18446744073709551615), (3, u "set"), (99, .class_ 270), (0, u "java/util/BitSet$1BitSetSpliterator"), (22, u "serialPersistentFields"), (0, u "[Ljava/io/ObjectStreamField;"), (0, .class_ 296), (0, u "java/lang/Cloneable"), (0, .class_ 298), (0, u "java/io/Serializable"), (0, u "ADDRESS_BITS_PER_WORD"), (2, u "BITS_PER_WORD"), (1, u "BIT_INDEX_MASK"), (1, u "WORD_MASK"), (0, u "J"), (0, u "serialVersionUID"), (42, u "(I)Z")] 65

def k5c0 : Code := { maxStack := 2, maxLocals := 1, code := jdk_92_method_1_code, exceptionTable := #[], attributes := #[] }
def k5m0 : Method := { name := "wordIndex", desc := "(I)I", sig := { parameters := [.int], returnType := some .int }, accessFlags := 10, code := some k5c0 }
def k5c1 : Code := { maxStack := 4, maxLocals := 1, code := jdk_92_method_2_code, exceptionTable := #[], attributes := #[] }
def k5m1 : Method := { name := "checkInvariants", desc := "()V", sig := { parameters := [], returnType := none }, accessFlags := 2, code := some k5c1 }
def k5c2 : Code := { maxStack := 2, maxLocals := 1, code := jdk_92_method_4_code, exceptionTable := #[], attributes := #[] }
def k5m2 : Method := { name := "<init>", desc := "()V", sig := { parameters := [], returnType := none }, accessFlags := 1, code := some k5c2 }
def k5c3 : Code := { maxStack := 3, maxLocals := 2, code := jdk_92_method_6_code, exceptionTable := #[], attributes := #[] }
def k5m3 : Method := { name := "initWords", desc := "(I)V", sig := { parameters := [.int], returnType := none }, accessFlags := 2, code := some k5c3 }
def k5c4 : Code := { maxStack := 3, maxLocals := 3, code := jdk_92_method_14_code, exceptionTable := #[], attributes := #[] }
def k5m4 : Method := { name := "ensureCapacity", desc := "(I)V", sig := { parameters := [.int], returnType := none }, accessFlags := 2, code := some k5c4 }
def k5c5 : Code := { maxStack := 2, maxLocals := 3, code := jdk_92_method_15_code, exceptionTable := #[], attributes := #[] }
def k5m5 : Method := { name := "expandTo", desc := "(I)V", sig := { parameters := [.int], returnType := none }, accessFlags := 2, code := some k5c5 }
def k5c6 : Code := { maxStack := 4, maxLocals := 2, code := jdk_92_method_16_code, exceptionTable := #[], attributes := #[] }
def k5m6 : Method := { name := "checkRange", desc := "(II)V", sig := { parameters := [.int, .int], returnType := none }, accessFlags := 10, code := some k5c6 }
def k5c7 : Code := { maxStack := 8, maxLocals := 10, code := jdk_92_method_21_code, exceptionTable := #[], attributes := #[] }
def k5m7 : Method := { name := "set", desc := "(II)V", sig := { parameters := [.int, .int], returnType := none }, accessFlags := 1, code := some k5c7 }
def k5c8 : Code := { maxStack := 5, maxLocals := 3, code := jdk_92_method_26_code, exceptionTable := #[], attributes := #[] }
def k5m8 : Method := { name := "get", desc := "(I)Z", sig := { parameters := [.int], returnType := some .boolean }, accessFlags := 1, code := some k5c8 }
/-- java/util/BitSet -/
def k5 : Class := { plain "java/util/BitSet" (some 0) with
  accessFlags := 33
  interfaces := #[3, 4]
  cf := some (fileOf pool5 1 #[.nestMembers #[269]] #[{ accessFlags := 10, nameIndex := 54, descriptorIndex := 55, attributes := #[] }, { accessFlags := 2, nameIndex := 58, descriptorIndex := 20, attributes := #[] }, { accessFlags := 1, nameIndex := 19, descriptorIndex := 20, attributes := #[] }, { accessFlags := 2, nameIndex := 29, descriptorIndex := 30, attributes := #[] }, { accessFlags := 2, nameIndex := 141, descriptorIndex := 30, attributes := #[] }, { accessFlags := 2, nameIndex := 157, descriptorIndex := 30, attributes := #[] }, { accessFlags := 10, nameIndex := 163, descriptorIndex := 164, attributes := #[] }, { accessFlags := 1, nameIndex := 169, descriptorIndex := 164, attributes := #[] }, { accessFlags := 1, nameIndex := 80, descriptorIndex := 351, attributes := #[] }] 33 22 #[295, 297] #[{ accessFlags := 26, nameIndex := 299, descriptorIndex := 10, attributes := #[] }, { accessFlags := 26, nameIndex := 302, descriptorIndex := 10, attributes := #[] }, { accessFlags := 26, nameIndex := 304, descriptorIndex := 10, attributes := #[] }, { accessFlags := 26, nameIndex := 306, descriptorIndex := 307, attributes := #[] }, { accessFlags := 26, nameIndex := 293, descriptorIndex := 294, attributes := #[] }, { accessFlags := 2, nameIndex := 13, descriptorIndex := 14, attributes := #[] }, { accessFlags := 130, nameIndex := 9, descriptorIndex := 10, attributes := #[] }, { accessFlags := 130, nameIndex := 26, descriptorIndex := 6, attributes := #[] }, { accessFlags := 26, nameIndex := 308, descriptorIndex := 307, attributes := #[] }, { accessFlags := 4120, nameIndex := 5, descriptorIndex := 6, attributes := #[] }])
  fields := #[{ name := "ADDRESS_BITS_PER_WORD", type := .int, accessFlags := 26, slot := 0, constantValue := 0 }, { name := "BITS_PER_WORD", type := .int, accessFlags := 26, slot := 1, constantValue := 0 }, { name := "BIT_INDEX_MASK", type := .int, accessFlags := 26, slot := 2, constantValue := 0 }, { name := "WORD_MASK", type := .long, accessFlags := 26, slot := 3, constantValue := 0 }, { name := "serialPersistentFields", type := (.array (.object "java/io/ObjectStreamField")), accessFlags := 26, slot := 4, constantValue := 0 }, { name := "words", type := (.array .long), accessFlags := 2, slot := 0, constantValue := 0 }, { name := "wordsInUse", type := .int, accessFlags := 130, slot := 1, constantValue := 0 }, { name := "sizeIsSticky", type := .boolean, accessFlags := 130, slot := 2, constantValue := 0 }, { name := "serialVersionUID", type := .long, accessFlags := 26, slot := 5, constantValue := 0 }, { name := "$assertionsDisabled", type := .boolean, accessFlags := 4120, slot := 6, constantValue := 0 }]
  methods := #[k5m0, k5m1, k5m2, k5m3, k5m4, k5m5, k5m6, k5m7, k5m8]
  instanceTypes := #[(.array .long), .int, .boolean]
  staticTypes := #[.int, .int, .int, .long, (.array (.object "java/io/ObjectStreamField")), .long, .boolean]
  resolved := Array.replicate 417 none
  statics := some 0 }

def pool6 : Array CpInfo := pool [(1, .class_ 2), (0, u "java/lang/constant/Constable"), (0, .class_ 4), (0, u "java/lang/Object")] 6

/-- java/lang/constant/Constable -/
def k6 : Class := { plain "java/lang/constant/Constable" (some 0) with
  accessFlags := 1537
  interfaces := #[]
  cf := some (fileOf pool6 1 #[] #[] 1537 3 #[] #[])
  fields := #[]
  methods := #[]
  instanceTypes := #[]
  staticTypes := #[]
  resolved := Array.replicate 11 none
  statics := none }

def pool7 : Array CpInfo := pool [(1, .class_ 2), (0, u "java/lang/Comparable"), (0, .class_ 4), (0, u "java/lang/Object")] 7

/-- java/lang/Comparable -/
def k7 : Class := { plain "java/lang/Comparable" (some 0) with
  accessFlags := 1537
  interfaces := #[]
  cf := some (fileOf pool7 1 #[] #[] 1537 3 #[] #[])
  fields := #[]
  methods := #[]
  instanceTypes := #[]
  staticTypes := #[]
  resolved := Array.replicate 12 none
  statics := none }

def pool8 : Array CpInfo := pool [(2, .class_ 4), (1, u "java/lang/Enum"), (0, u "name"), (0, u "Ljava/lang/String;"), (2, u "ordinal"), (0, u "I"), (1, .class_ 14), (1, u "java/lang/Object"), (4, u "hash"), (86, .class_ 108), (1, u "java/lang/Enum$EnumDesc"), (2, .class_ 112), (0, u "java/lang/constant/Constable"), (0, .class_ 114), (0, u "java/lang/Comparable"), (0, .class_ 116), (0, u "java/io/Serializable")] 87

/-- java/lang/Enum -/
def k8 : Class := { plain "java/lang/Enum" (some 0) with
  accessFlags := 1057
  interfaces := #[6, 7, 4]
  cf := some (fileOf pool8 2 #[.nestMembers #[106]] #[] 1057 12 #[111, 113, 115] #[{ accessFlags := 18, nameIndex := 5, descriptorIndex := 6, attributes := #[] }, { accessFlags := 18, nameIndex := 9, descriptorIndex := 10, attributes := #[] }, { accessFlags := 2, nameIndex := 19, descriptorIndex := 10, attributes := #[] }])
  fields := #[{ name := "name", type := (.object "java/lang/String"), accessFlags := 18, slot := 0, constantValue := 0 }, { name := "ordinal", type := .int, accessFlags := 18, slot := 1, constantValue := 0 }, { name := "hash", type := .int, accessFlags := 2, slot := 2, constantValue := 0 }]
  methods := #[]
  instanceTypes := #[(.object "java/lang/String"), .int, .int]
  staticTypes := #[]
  resolved := Array.replicate 204 none
  statics := none }

def pool9 : Array CpInfo := pool [(1, .class_ 2), (0, u "com/example/typewright/typewright/Flow$Reach"), (2, u "UNREACHABLE"), (0, u "Lcom/example/typewright/typewright/Flow$Reach;"), (2, u "REPORTED"), (2, u "REACHABLE"), (2, u "$VALUES"), (0, u "[Lcom/example/typewright/typewright/Flow$Reach;"), (6, .class_ 25), (1, u "java/lang/Enum"), (26, .class_ 53), (0, u "com/example/typewright/typewright/Flow")] 2

/-- com/example/typewright/typewright/Flow$Reach -/
def k9 : Class := { plain "com/example/typewright/typewright/Flow$Reach" (some 8) with
  accessFlags := 16432
  interfaces := #[]
  cf := some (fileOf pool9 1 #[.nestHost 52] #[] 16432 23 #[] #[{ accessFlags := 16409, nameIndex := 5, descriptorIndex := 6, attributes := #[] }, { accessFlags := 16409, nameIndex := 9, descriptorIndex := 6, attributes := #[] }, { accessFlags := 16409, nameIndex := 12, descriptorIndex := 6, attributes := #[] }, { accessFlags := 4122, nameIndex := 15, descriptorIndex := 16, attributes := #[] }])
  fields := #[{ name := "UNREACHABLE", type := (.object "com/example/typewright/typewright/Flow$Reach"), accessFlags := 16409, slot := 0, constantValue := 0 }, { name := "REPORTED", type := (.object "com/example/typewright/typewright/Flow$Reach"), accessFlags := 16409, slot := 1, constantValue := 0 }, { name := "REACHABLE", type := (.object "com/example/typewright/typewright/Flow$Reach"), accessFlags := 16409, slot := 2, constantValue := 0 }, { name := "$VALUES", type := (.array (.object "com/example/typewright/typewright/Flow$Reach")), accessFlags := 4122, slot := 3, constantValue := 0 }]
  methods := #[]
  instanceTypes := #[(.object "java/lang/String"), .int, .int]
  staticTypes := #[(.object "com/example/typewright/typewright/Flow$Reach"), (.object "com/example/typewright/typewright/Flow$Reach"), (.object "com/example/typewright/typewright/Flow$Reach"), (.array (.object "com/example/typewright/typewright/Flow$Reach"))]
  resolved := Array.replicate 56 none
  statics := some 1 }

/-- the primitive byte -/
def k10 : Class := { plain "byte" none with kind := .primitive 'B', accessFlags := 0x411 }
/-- [B -/
def k11 : Class := { plain "[B" (some 0) with kind := .array 10 .byte, interfaces := #[3, 4], accessFlags := 1041 }

/-- the primitive int -/
def k12 : Class := { plain "int" none with kind := .primitive 'I', accessFlags := 0x411 }
/-- [I -/
def k13 : Class := { plain "[I" (some 0) with kind := .array 12 .int, interfaces := #[3, 4], accessFlags := 1041 }

/-- the primitive long -/
def k14 : Class := { plain "long" none with kind := .primitive 'J', accessFlags := 0x411 }
/-- [J -/
def k15 : Class := { plain "[J" (some 0) with kind := .array 14 .long, interfaces := #[3, 4], accessFlags := 1041 }

def heap : Heap := #[{ cls := 5, slots := #[.int 0, .int 0, .int 0, .long 0, .null, .long 0, .int 1], vm := .statics 5 },
  { cls := 9, slots := #[.ref 3, .null, .ref 2, .null], vm := .statics 9 },
  { cls := 9, slots := #[.null, .int 2, .int 0], vm := .none },
  { cls := 9, slots := #[.null, .int 0, .int 0], vm := .none }]
def classes : Array Class := #[k0, k1, k2, k3, k4, k5, k6, k7, k8, k9, k10, k11, k12, k13, k14, k15]
def interned : List (Array UInt16 × Addr) := []
def slotsUsed : Nat := 17
def theMethod : MethodId := ⟨1, 1⟩
def args0 : Array Value := #[.int 2, .int 1]
def aboutOver (below : List Frame) : State where
  vm := { classes := classes, interned := interned.toArray }
  heap := heap
  slotsUsed := slotsUsed
  threads := #[{ frames := .invoking theMethod args0 :: below }]
def below0 : List Frame := [.native { method := ⟨0, 0⟩, args := #[] }]
def about1 : State := aboutOver below0
def p0 : Program := .bare "" "" ""
def e0 : Env := launch0.env 0 0 0
theorem w_frames : about1.frames = Frame.invoking theMethod args0 :: below0 := rfl
set_option maxRecDepth 65536 in
theorem w_args : argsFit about1.vm theMethod args0 = true := by decide +kernel
set_option maxRecDepth 65536 in
theorem w_heap : heapFits about1 = true := by decide +kernel
set_option maxRecDepth 65536 in
theorem w_runnable : about1.curStatus? = some .runnable := by decide +kernel
set_option maxRecDepth 65536 in
theorem w_alone : about1.alone = true := by decide +kernel
set_option maxRecDepth 65536 in
theorem w_named : about1.methodNamed? x = some theMethod := by decide +kernel
set_option maxRecDepth 65536 in
theorem w_hears : about1.hears theMethod below0 = true := by decide +kernel
set_option maxRecDepth 65536 in
theorem w_ripe : about1.ripe theMethod args0 below0 = true := by decide +kernel
theorem w_running : about1.status = .running := rfl
set_option maxRecDepth 65536 in
theorem w_room : about1.hasRoom e0.platform room_1 = true :=
  launch0.hasRoom_least _ room_1 (by decide +kernel) (by decide +kernel) (by decide +kernel) (by decide +kernel) (by decide +kernel) (by decide +kernel)
theorem allAtoms_all (ts : List Jvm.Cond) (a : Array Jvm.Value) (st : Jvm.State) : (allAtoms ts).before a st = ts.all (fun c => c.before a st) := by
  induction ts with
  | nil => rfl
  | cons c t ih =>
    show (Jvm.Cond.and c (allAtoms t)).before a st = _
    rw [Jvm.Cond.before_and, ih, List.all_cons]
def words1 : List Jvm.Cond := Jvm.Cond.code x code maxLocals ret :: tables_1
/-- a 'code' word, met by the world's own term for the bytes: nothing is compared byte by byte -/
theorem code_word {y : MethodName} {bytes : ByteArray} {mx : Nat} {rt : Option FieldType} {a : Array Value} {s : State} {m : MethodId} {meth : Method} {c : Code} (h1 : s.methodNamed? y = some m) (h2 : s.vm.method? m = some meth) (h3 : meth.code = some c) (h4 : c.code = bytes)
    (h5 : (c.maxLocals == mx && c.exceptionTable.isEmpty && decide (c.maxStack ≤ mostOperands) && decide (meth.sig.returnType = rt) && !meth.locks && decide (parseMethodDescriptor y.desc = some meth.sig)) = true) : (Jvm.Cond.code y bytes mx rt).before a s = true := by
  simp only [Bool.and_eq_true, beq_iff_eq, Bool.not_eq_true', decide_eq_true_eq] at h5
  obtain ⟨⟨⟨⟨⟨g1, g2⟩, g3⟩, g4⟩, g5⟩, g6⟩ := h5
  simp [Cond.before, Cond.holds, Cond.value, h1, h2, h3, h4, g1, g2, g3, g4, g5, g6]
def isCode : Jvm.Cond → Bool
  | .code _ _ _ _ => true
  | _ => false
theorem all_split {L : List Jvm.Cond} {P : Jvm.Cond → Bool} (h1 : L.all (fun c => isCode c || P c) = true) (h2 : ∀ c ∈ L.filter isCode, P c = true) : L.all P = true := by
  refine List.all_eq_true.mpr fun c hc => ?_
  have h := List.all_eq_true.mp h1 c hc
  rcases Bool.eq_false_or_eq_true (isCode c) with hi | hi
  · exact h2 c (List.mem_filter.mpr ⟨hc, hi⟩)
  · simpa [hi] using h
set_option maxRecDepth 65536 in
theorem w_c0 : (Jvm.Cond.code x code maxLocals ret).before args0 about1 = true := code_word (m := ⟨1, 1⟩) (meth := k1m1) (c := k1c1) (by decide +kernel) rfl rfl rfl (by decide +kernel)
set_option maxRecDepth 65536 in
theorem w_c1 : (Jvm.Cond.code ({ cls := "com/example/typewright/typewright/Flow", name := "<init>", desc := "()V" } : Jvm.MethodName) prog_35_method_1_code (1 : Nat) (Option.none : Option Jvm.ClassFile.FieldType)).before args0 about1 = true := code_word (m := ⟨2, 0⟩) (meth := k2m0) (c := k2c0) (by decide +kernel) rfl rfl rfl (by decide +kernel)
set_option maxRecDepth 65536 in
theorem w_c2 : (Jvm.Cond.code ({ cls := "java/lang/Object", name := "<init>", desc := "()V" } : Jvm.MethodName) object_method_1_code (1 : Nat) (Option.none : Option Jvm.ClassFile.FieldType)).before args0 about1 = true := code_word (m := ⟨0, 0⟩) (meth := k0m0) (c := k0c0) (by decide +kernel) rfl rfl rfl (by decide +kernel)
set_option maxRecDepth 65536 in
theorem w_c3 : (Jvm.Cond.code ({ cls := "java/util/BitSet", name := "<init>", desc := "()V" } : Jvm.MethodName) jdk_92_method_4_code (1 : Nat) (Option.none : Option Jvm.ClassFile.FieldType)).before args0 about1 = true := code_word (m := ⟨5, 2⟩) (meth := k5m2) (c := k5c2) (by decide +kernel) rfl rfl rfl (by decide +kernel)
set_option maxRecDepth 65536 in
theorem w_c4 : (Jvm.Cond.code ({ cls := "java/util/BitSet", name := "initWords", desc := "(I)V" } : Jvm.MethodName) jdk_92_method_6_code (2 : Nat) (Option.none : Option Jvm.ClassFile.FieldType)).before args0 about1 = true := code_word (m := ⟨5, 3⟩) (meth := k5m3) (c := k5c3) (by decide +kernel) rfl rfl rfl (by decide +kernel)
set_option maxRecDepth 65536 in
theorem w_c5 : (Jvm.Cond.code ({ cls := "java/util/BitSet", name := "wordIndex", desc := "(I)I" } : Jvm.MethodName) jdk_92_method_1_code (1 : Nat) (Option.some Jvm.ClassFile.FieldType.int)).before args0 about1 = true := code_word (m := ⟨5, 0⟩) (meth := k5m0) (c := k5c0) (by decide +kernel) rfl rfl rfl (by decide +kernel)
set_option maxRecDepth 65536 in
theorem w_c6 : (Jvm.Cond.code ({ cls := "com/example/typewright/typewright/Flow", name := "afterReturn", desc := "()V" } : Jvm.MethodName) prog_35_method_16_code (1 : Nat) (Option.none : Option Jvm.ClassFile.FieldType)).before args0 about1 = true := code_word (m := ⟨2, 3⟩) (meth := k2m3) (c := k2c3) (by decide +kernel) rfl rfl rfl (by decide +kernel)
set_option maxRecDepth 65536 in
theorem w_c7 : (Jvm.Cond.code ({ cls := "com/example/typewright/typewright/Flow", name := "everything", desc := "()Ljava/util/BitSet;" } : Jvm.MethodName) prog_35_method_18_code (2 : Nat) (Option.some (Jvm.ClassFile.FieldType.object "java/util/BitSet"))).before args0 about1 = true := code_word (m := ⟨2, 4⟩) (meth := k2m4) (c := k2c4) (by decide +kernel) rfl rfl rfl (by decide +kernel)
set_option maxRecDepth 65536 in
theorem w_c8 : (Jvm.Cond.code ({ cls := "java/util/BitSet", name := "set", desc := "(II)V" } : Jvm.MethodName) jdk_92_method_21_code (10 : Nat) (Option.none : Option Jvm.ClassFile.FieldType)).before args0 about1 = true := code_word (m := ⟨5, 7⟩) (meth := k5m7) (c := k5c7) (by decide +kernel) rfl rfl rfl (by decide +kernel)
set_option maxRecDepth 65536 in
theorem w_c9 : (Jvm.Cond.code ({ cls := "java/util/BitSet", name := "checkRange", desc := "(II)V" } : Jvm.MethodName) jdk_92_method_16_code (2 : Nat) (Option.none : Option Jvm.ClassFile.FieldType)).before args0 about1 = true := code_word (m := ⟨5, 6⟩) (meth := k5m6) (c := k5c6) (by decide +kernel) rfl rfl rfl (by decide +kernel)
set_option maxRecDepth 65536 in
theorem w_c10 : (Jvm.Cond.code ({ cls := "com/example/typewright/typewright/Flow", name := "declare", desc := "()I" } : Jvm.MethodName) prog_35_method_2_code (1 : Nat) (Option.some Jvm.ClassFile.FieldType.int)).before args0 about1 = true := code_word (m := ⟨2, 1⟩) (meth := k2m1) (c := k2c1) (by decide +kernel) rfl rfl rfl (by decide +kernel)
set_option maxRecDepth 65536 in
theorem w_c11 : (Jvm.Cond.code ({ cls := "com/example/typewright/typewright/Flow", name := "isAssigned", desc := "(I)Z" } : Jvm.MethodName) prog_35_method_3_code (2 : Nat) (Option.some Jvm.ClassFile.FieldType.boolean)).before args0 about1 = true := code_word (m := ⟨2, 2⟩) (meth := k2m2) (c := k2c2) (by decide +kernel) rfl rfl rfl (by decide +kernel)
set_option maxRecDepth 65536 in
theorem w_c12 : (Jvm.Cond.code ({ cls := "java/util/BitSet", name := "get", desc := "(I)Z" } : Jvm.MethodName) jdk_92_method_26_code (3 : Nat) (Option.some Jvm.ClassFile.FieldType.boolean)).before args0 about1 = true := code_word (m := ⟨5, 8⟩) (meth := k5m8) (c := k5c8) (by decide +kernel) rfl rfl rfl (by decide +kernel)
set_option maxRecDepth 65536 in
theorem w_c13 : (Jvm.Cond.code ({ cls := "java/util/BitSet", name := "checkInvariants", desc := "()V" } : Jvm.MethodName) jdk_92_method_2_code (1 : Nat) (Option.none : Option Jvm.ClassFile.FieldType)).before args0 about1 = true := code_word (m := ⟨5, 1⟩) (meth := k5m1) (c := k5c1) (by decide +kernel) rfl rfl rfl (by decide +kernel)
set_option maxRecDepth 65536 in
theorem w_c14 : (Jvm.Cond.code ({ cls := "java/util/BitSet", name := "expandTo", desc := "(I)V" } : Jvm.MethodName) jdk_92_method_15_code (3 : Nat) (Option.none : Option Jvm.ClassFile.FieldType)).before args0 about1 = true := code_word (m := ⟨5, 5⟩) (meth := k5m5) (c := k5c5) (by decide +kernel) rfl rfl rfl (by decide +kernel)
set_option maxRecDepth 65536 in
theorem w_c15 : (Jvm.Cond.code ({ cls := "java/util/BitSet", name := "ensureCapacity", desc := "(I)V" } : Jvm.MethodName) jdk_92_method_14_code (3 : Nat) (Option.none : Option Jvm.ClassFile.FieldType)).before args0 about1 = true := code_word (m := ⟨5, 4⟩) (meth := k5m4) (c := k5c4) (by decide +kernel) rfl rfl rfl (by decide +kernel)
def codes1 : List Jvm.Cond := [Jvm.Cond.code x code maxLocals ret, Jvm.Cond.code ({ cls := "com/example/typewright/typewright/Flow", name := "<init>", desc := "()V" } : Jvm.MethodName) prog_35_method_1_code (1 : Nat) (Option.none : Option Jvm.ClassFile.FieldType), Jvm.Cond.code ({ cls := "java/lang/Object", name := "<init>", desc := "()V" } : Jvm.MethodName) object_method_1_code (1 : Nat) (Option.none : Option Jvm.ClassFile.FieldType), Jvm.Cond.code ({ cls := "java/util/BitSet", name := "<init>", desc := "()V" } : Jvm.MethodName) jdk_92_method_4_code (1 : Nat) (Option.none : Option Jvm.ClassFile.FieldType), Jvm.Cond.code ({ cls := "java/util/BitSet", name := "initWords", desc := "(I)V" } : Jvm.MethodName) jdk_92_method_6_code (2 : Nat) (Option.none : Option Jvm.ClassFile.FieldType), Jvm.Cond.code ({ cls := "java/util/BitSet", name := "wordIndex", desc := "(I)I" } : Jvm.MethodName) jdk_92_method_1_code (1 : Nat) (Option.some Jvm.ClassFile.FieldType.int), Jvm.Cond.code ({ cls := "com/example/typewright/typewright/Flow", name := "afterReturn", desc := "()V" } : Jvm.MethodName) prog_35_method_16_code (1 : Nat) (Option.none : Option Jvm.ClassFile.FieldType), Jvm.Cond.code ({ cls := "com/example/typewright/typewright/Flow", name := "everything", desc := "()Ljava/util/BitSet;" } : Jvm.MethodName) prog_35_method_18_code (2 : Nat) (Option.some (Jvm.ClassFile.FieldType.object "java/util/BitSet")), Jvm.Cond.code ({ cls := "java/util/BitSet", name := "set", desc := "(II)V" } : Jvm.MethodName) jdk_92_method_21_code (10 : Nat) (Option.none : Option Jvm.ClassFile.FieldType), Jvm.Cond.code ({ cls := "java/util/BitSet", name := "checkRange", desc := "(II)V" } : Jvm.MethodName) jdk_92_method_16_code (2 : Nat) (Option.none : Option Jvm.ClassFile.FieldType), Jvm.Cond.code ({ cls := "com/example/typewright/typewright/Flow", name := "declare", desc := "()I" } : Jvm.MethodName) prog_35_method_2_code (1 : Nat) (Option.some Jvm.ClassFile.FieldType.int), Jvm.Cond.code ({ cls := "com/example/typewright/typewright/Flow", name := "isAssigned", desc := "(I)Z" } : Jvm.MethodName) prog_35_method_3_code (2 : Nat) (Option.some Jvm.ClassFile.FieldType.boolean), Jvm.Cond.code ({ cls := "java/util/BitSet", name := "get", desc := "(I)Z" } : Jvm.MethodName) jdk_92_method_26_code (3 : Nat) (Option.some Jvm.ClassFile.FieldType.boolean), Jvm.Cond.code ({ cls := "java/util/BitSet", name := "checkInvariants", desc := "()V" } : Jvm.MethodName) jdk_92_method_2_code (1 : Nat) (Option.none : Option Jvm.ClassFile.FieldType), Jvm.Cond.code ({ cls := "java/util/BitSet", name := "expandTo", desc := "(I)V" } : Jvm.MethodName) jdk_92_method_15_code (3 : Nat) (Option.none : Option Jvm.ClassFile.FieldType), Jvm.Cond.code ({ cls := "java/util/BitSet", name := "ensureCapacity", desc := "(I)V" } : Jvm.MethodName) jdk_92_method_14_code (3 : Nat) (Option.none : Option Jvm.ClassFile.FieldType)]
set_option maxRecDepth 65536 in
theorem codes_eq : words1.filter isCode = codes1 := rfl
theorem w_codes : ∀ c ∈ words1.filter isCode, c.before args0 about1 = true := by
  rw [codes_eq]
  intro c hc
  simp only [codes1, List.mem_cons, List.not_mem_nil, or_false] at hc
  rcases hc with rfl | rfl | rfl | rfl | rfl | rfl | rfl | rfl | rfl | rfl | rfl | rfl | rfl | rfl | rfl | rfl
  · exact w_c0
  · exact w_c1
  · exact w_c2
  · exact w_c3
  · exact w_c4
  · exact w_c5
  · exact w_c6
  · exact w_c7
  · exact w_c8
  · exact w_c9
  · exact w_c10
  · exact w_c11
  · exact w_c12
  · exact w_c13
  · exact w_c14
  · exact w_c15
set_option maxRecDepth 65536 in
theorem w_t1 : (words1.take 24).all (fun c => isCode c || c.before args0 about1) = true := by decide +kernel
set_option maxRecDepth 65536 in
theorem w_t2 : ((words1.drop 24).take 24).all (fun c => isCode c || c.before args0 about1) = true := by decide +kernel
set_option maxRecDepth 65536 in
theorem w_t3 : (((words1.drop 24).drop 24).take 24).all (fun c => isCode c || c.before args0 about1) = true := by decide +kernel
set_option maxRecDepth 65536 in
theorem w_t4 : (((words1.drop 24).drop 24).drop 24).all (fun c => isCode c || c.before args0 about1) = true := by decide +kernel
theorem w_tables : (allAtoms (Jvm.Cond.code x code maxLocals ret :: tables_1)).before args0 about1 = true := by
  rw [allAtoms_all]
  show words1.all (fun c => c.before args0 about1) = true
  refine all_split ?_ w_codes
  rw [← List.take_append_drop 24 words1, List.all_append, w_t1, ← List.take_append_drop 24 (words1.drop 24), List.all_append, w_t2, ← List.take_append_drop 24 ((words1.drop 24).drop 24), List.all_append, w_t3, w_t4]
  rfl
set_option maxRecDepth 65536 in
theorem w_rest : rest_1_c.before args0 about1 = true := by decide +kernel
set_option maxRecDepth 65536 in
theorem w_case : (Jvm.Cond.and given_1 narrow_1).before args0 about1 = true := by decide +kernel
theorem w_applies : (headSpec (Jvm.Cond.code x code maxLocals ret :: tables_1) room_1).applies x e0.platform about1 = true :=
  (Spec.applies_iff w_frames).mpr ⟨w_running, w_runnable, w_alone, w_named, w_hears, w_ripe, w_room, w_tables⟩
theorem atStart : AtStart classFile x code maxLocals ret World_1 tables_1 room_1 Calls_1 rest_1 Pre_1 launch0 p0 e0 about1 theMethod args0 below0 :=
  ⟨lists_1, trivial, launch0.admits_env _ _ _, launch0.least_env, fairChoices_fair.cas, fairChoices_fair.clock, w_frames, w_args, w_heap, w_applies, trivial, w_rest, w_case⟩
end start1
theorem witness_1 : WitnessClaimed_1 := ⟨start1.p0, start1.e0, start1.about1, start1.theMethod, start1.args0, start1.below0, start1.atStart⟩
end Jvm.Pilot.@@N@@
