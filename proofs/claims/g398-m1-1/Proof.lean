import JvmDerived
import JvmDerived.Pilot.@@N@@Statement
import JvmDerived.Pilot.@@N@@Code
set_option linter.unusedVariables false
set_option linter.unusedSimpArgs false
@@BLOCK:NumsL.lean.txt@@
namespace Jvm.OwnD
open Sem ClassFile Op Lib Jvm.Stand Jvm.Free
def own_dc (op : CmpOp) (x y : UInt64) : Int32 := match FP.dcmp x y with
  | some .gt => 1
  | some .eq => 0
  | some .lt => -1
  | none => match op with
    | .g => 1
    | .l => -1
theorem dcmpS {tb : Tables} [Ours tb] {e : Env} {below : List Frame} {T target : State} {m : MethodId} {c : Code} {g : JFrame} (h : At T m c below) (hx : tb.exec = Jvm.exec) (hg : g.method = m) {op : CmpOp} {x y : UInt64} {rest : List Value} (hd : decode c.code g.pc = .ok (.dcmp op, 1)) (hs : g.stack = .double y :: .double x :: rest)
    (hr : Steps tb e below (T.setTop { g with pc := g.pc + 1, stack := .int (own_dc op x y) :: rest }) target) : Steps tb e below (T.setTop g) target := by
  subst hg
  unfold own_dc at hr
  cases hq : FP.dcmp x y with
  | none => cases op <;> (rw [hq] at hr; jvm_step h [h.top, hx, hd, hs, hq]; exact hr)
  | some o => cases o <;> (rw [hq] at hr; jvm_step h [h.top, hx, hd, hs, hq]; exact hr)
theorem i2dS {tb : Tables} [Ours tb] {e : Env} {below : List Frame} {T target : State} {m : MethodId} {c : Code} {g : JFrame} (h : At T m c below) (hx : tb.exec = Jvm.exec) (hg : g.method = m) {x : Int32} {rest : List Value} (hd : decode c.code g.pc = .ok (.i2d, 1)) (hs : g.stack = .int x :: rest)
    (hr : Steps tb e below (T.setTop { g with pc := g.pc + 1, stack := .double (FP.i2d x) :: rest }) target) : Steps tb e below (T.setTop g) target := by
  subst hg
  jvm_step h [h.top, hx, hd, hs]
  exact hr
theorem dloadN {tb : Tables} [Ours tb] {e : Env} {below : List Frame} {T target : State} {m : MethodId} {c : Code} {g : JFrame} (h : At T m c below) (hx : tb.exec = Jvm.exec) (hg : g.method = m) {n : Fin 4} {x : UInt64} (hd : decode c.code g.pc = .ok (.dload_n n, 1)) (hl : g.locals[n.val]? = some (.val (.double x)))
    (hr : Steps tb e below (T.setTop { g with pc := g.pc + 1, stack := .double x :: g.stack }) target) : Steps tb e below (T.setTop g) target := by
  subst hg
  jvm_step h [h.top, hx, hd, hl]
  exact hr
theorem dload {tb : Tables} [Ours tb] {e : Env} {below : List Frame} {T target : State} {m : MethodId} {c : Code} {g : JFrame} (h : At T m c below) (hx : tb.exec = Jvm.exec) (hg : g.method = m) {n : Nat} {x : UInt64} (hd : decode c.code g.pc = .ok (.dload n, 2)) (hl : g.locals[n]? = some (.val (.double x)))
    (hr : Steps tb e below (T.setTop { g with pc := g.pc + 2, stack := .double x :: g.stack }) target) : Steps tb e below (T.setTop g) target := by
  subst hg
  jvm_step h [h.top, hx, hd, hl]
  exact hr
theorem dstoreN {tb : Tables} [Ours tb] {e : Env} {below : List Frame} {T target : State} {m : MethodId} {c : Code} {g : JFrame} (h : At T m c below) (hx : tb.exec = Jvm.exec) (hg : g.method = m) {n : Fin 4} {x : UInt64} {rest : List Value} {l' : Array Slot} (hd : decode c.code g.pc = .ok (.dstore_n n, 1)) (hs : g.stack = .double x :: rest) (hl : storeLocals g.locals n.val (.double x) = some l')
    (hr : Steps tb e below (T.setTop { g with pc := g.pc + 1, stack := rest, locals := l' }) target) : Steps tb e below (T.setTop g) target := by
  subst hg
  jvm_step h [h.top, hx, hd, hs, hl]
  exact hr
end Jvm.OwnD
namespace Jvm.RoadKit
open Sem ClassFile Op Lib Jvm.Stand Jvm.Free Jvm.LawKit
section New
variable {p : Program} {l : Launch} {e : Env} {R : Room} {s : State} {m : MethodId} {args : Array Value} {below : List Frame} {meth : Method} {c : Code} {T : State} {locs : List Loc} {cells slots : Nat}
theorem retI (X : Stand p l e R s m args below meth c T locs cells slots) (hx : p.tables.exec = Jvm.exec) {pc : Nat} {Ls : Array Slot} {z : Int32} {rest : List Value} (hret : meth.sig.returnType = some .int) (hd : decode c.code pc = .ok (.ireturn, 1)) {fs : List Frame}
    (hl : ∀ (f : JFrame) (acts : List Action), f.method = m → f.locked = none → f.entered = [] → (doReturn e (T.setTop f) acts (some (.int z))).1 = T.setFrames fs) : Steps p.tables e below (T.setTop (mkF m pc Ls (.int z :: rest))) (T.setFrames fs) :=
  retOut X hx hret rfl (Or.inl ⟨rfl, Or.inl rfl, z, rfl⟩) hd hl
theorem retJ (X : Stand p l e R s m args below meth c T locs cells slots) (hx : p.tables.exec = Jvm.exec) {pc : Nat} {Ls : Array Slot} {z : Int64} {rest : List Value} (hret : meth.sig.returnType = some .long) (hd : decode c.code pc = .ok (.lreturn, 1)) {fs : List Frame}
    (hl : ∀ (f : JFrame) (acts : List Action), f.method = m → f.locked = none → f.entered = [] → (doReturn e (T.setTop f) acts (some (.long z))).1 = T.setFrames fs) : Steps p.tables e below (T.setTop (mkF m pc Ls (.long z :: rest))) (T.setFrames fs) :=
  retOut X hx hret rfl (Or.inr (Or.inl ⟨rfl, rfl, z, rfl⟩)) hd hl
theorem retA (X : Stand p l e R s m args below meth c T locs cells slots) (hx : p.tables.exec = Jvm.exec) {pc : Nat} {Ls : Array Slot} {w : Value} {t : FieldType} {rest : List Value} (hret : meth.sig.returnType = some t) (ht : t.isReference = true) (hw : w.isRef = true) (hn : narrow t w = w) (hd : decode c.code pc = .ok (.areturn, 1)) {fs : List Frame}
    (hl : ∀ (f : JFrame) (acts : List Action), f.method = m → f.locked = none → f.entered = [] → (doReturn e (T.setTop f) acts (some w)).1 = T.setFrames fs) : Steps p.tables e below (T.setTop (mkF m pc Ls (w :: rest))) (T.setFrames fs) :=
  retOut X hx hret hn (Or.inr (Or.inr (Or.inr (Or.inr ⟨rfl, ht, hw⟩)))) hd hl
end New
end Jvm.RoadKit
namespace Jvm.Pilot.@@N@@
open Jvm Jvm.ClassFile Sem Op Lib Jvm.Free Jvm.Stand Jvm.LawKit Jvm.RoadKit Bundle Jvm.Pilot.@@N@@.Jvm.D
/-- the run from t ends by returning, as Q and the frame say -/
def OEnds (p : Program) (e : Env) (below : List Frame) (s : State) (Q : Option Value → Heap → List Loc → Prop) (C S : Nat) (t : State) : Prop :=
  ∃ s₂ o, Steps p.tables e below t s₂ ∧ s₂.status = .running ∧ Ended s₂ below o ∧ ∃ v L, o = .returned v ∧ Q v s₂.heap L ∧ FrameEnd s o s₂ L C S
theorem OEnds.go {p : Program} {e : Env} {below : List Frame} {s : State} {Q : Option Value → Heap → List Loc → Prop} {C S : Nat} {t t' : State} (h : ∀ u, Steps p.tables e below t' u → Steps p.tables e below t u) (k : OEnds p e below s Q C S t') : OEnds p e below s Q C S t := by
  obtain ⟨s₂, o, h1, h2⟩ := k
  exact ⟨s₂, o, h _ h1, h2⟩
theorem OEnds.cut {p : Program} {e : Env} {below : List Frame} {s : State} {Q : Option Value → Heap → List Loc → Prop} {C S : Nat} {t : State} (P : (State → Prop) → Prop) (k2 : P (OEnds p e below s Q C S)) (k1 : P (OEnds p e below s Q C S) → OEnds p e below s Q C S t) : OEnds p e below s Q C S t := k1 k2
theorem OEnds.back {p : Program} {l : Launch} {e : Env} {R : Room} {s : State} {m : MethodId} {args : Array Value} {below : List Frame} {meth : Method} {c : Code} {T : State} {locs : List Loc} {cells slots : Nat} (X : Stand p l e R s m args below meth c T locs cells slots) (hlk : meth.locks = false) {v : Option Value} (hv : meth.sig.returnType = none → v = none) {t : State} {Q : Option Value → Heap → List Loc → Prop} {C S : Nat}
    (st : ∀ fs, (∀ (f : JFrame) (acts : List Action), f.method = m → f.locked = none → f.entered = [] → (doReturn e (T.setTop f) acts v).1 = T.setFrames fs) → Steps p.tables e below t (T.setFrames fs)) (q : Q v T.heap locs) (hc : cells ≤ C) (hs : slots ≤ S) : OEnds p e below s Q C S t := by
  obtain ⟨fs, hr, hrun, hended, hW, hsame⟩ := X.leave hv hlk
  exact ⟨_, _, st fs hr, hrun, hended, _, _, rfl, q, ⟨_, rfl⟩, hW, hsame.mono hc hs⟩

theorem own_lt (x y : Int64) : lcmpW x y < 0 ↔ x < y := by rw [lcW, lc_lt]
theorem own_gt (x y : Int64) : 0 < lcmpW x y ↔ y < x := by rw [lcW, lc_gt]
theorem own_eq (x y : Int64) : lcmpW x y = 0 ↔ x = y := by rw [lcW, lc_eq]
/-- a term that equals a number, as the sheet says it -/
theorem own_eqi {args : Array Value} {s : State} {t : Term} {k : Int32} (h : (Jvm.Cond.eq t (Term.int k)).value args s none s [] = some true) : t.eval args s none [] s = some (.int k) := by
  obtain ⟨x, y, hx, hy, h1, h2⟩ := cmp_v (Or.inl h)
  have hy' : y = .int k := Option.some.inj (hy.symm.trans (Term.int_eval k))
  subst hy'
  obtain ⟨z, rfl⟩ : ∃ z, x = .int z := h2
  simp [Cond.value, hx, hy] at h
  rw [hx, h]
theorem own_fldi {args : Array Value} {s : State} {t : Term} {C n d : String} {a : Addr} {k : Int32} (ht : t.eval args s none [] s = some (.ref a)) (h : (Jvm.Cond.eq (Term.field t C n d) (Term.int k)).value args s none s [] = some true) : s.fieldOf? a C n d = some (.int k) := by
  rw [← fld_at ht]; exact own_eqi h
theorem own_ne {s : State} {C n d : String} {a b : Addr} {j k : Int32} (h1 : s.fieldOf? a C n d = some (.int j)) (h2 : s.fieldOf? b C n d = some (.int k)) (hk : j ≠ k) : a ≠ b := by
  intro e; subst e
  exact hk (Value.int.inj (Option.some.inj (h1.symm.trans h2)))

theorem own_mod (x m : Int32) (hm : 0 < m.toInt) : 0 ≤ ((x &&& 2147483647) % m).toInt ∧ ((x &&& 2147483647) % m).toInt < m.toInt := by
  have h : 0 ≤ (x &&& 2147483647).toInt := by
    rw [Jvm.Kit.i32_mask x 2147483647 (k := 31) (by decide) (by decide)]; omega
  rw [Jvm.Kit.i32_rem_nonneg h]
  exact ⟨Int.emod_nonneg _ (by omega), Int.emod_lt_of_pos _ hm⟩
theorem own_range {r : Int32} {n : Nat} (h0 : 0 ≤ r.toInt) (h1 : r.toInt < n) (hn : n ≤ 2 ^ 31) : ∃ k : Nat, k < n ∧ r = Int32.ofNat k := by
  refine ⟨r.toInt.toNat, by omega, ?_⟩
  rw [← Int32.toInt_inj, Int32.toInt_ofNat_small (by omega)]; omega


section OwnQ
variable {Z : State} {h h' : Heap} {a b ta oa ha : Addr} {ty : FieldType} {n : Nat} {ws : List Addr} {C : String}
/-- an array of sixteen places, each of its kind -/
def own_Ar (Z : State) (h : Heap) (a : Addr) (ty : FieldType) : Prop := ∃ c : Cell, Arr Z h a c ty ∧ c.slots.size = 16 ∧ ∀ i, i < 16 → ∃ v, c.slots[i]? = some v ∧ fits ty v = true
theorem own_Ar.ext (F : own_Ar Z h a ty) (E : Ext h h') : own_Ar Z h' a ty := by
  obtain ⟨c, A, r⟩ := F; exact ⟨c, A.ext E, r⟩
theorem own_Ar.other {sl : Nat} {w : Value} (F : own_Ar Z h b ty) (W : Wr h h' a sl w) (q : b ≠ a) : own_Ar Z h' b ty := by
  obtain ⟨c, A, r⟩ := F; exact ⟨c, A.other W q, r⟩
theorem own_Ar.keep (F : own_Ar Z h a ty) (K : Keep h h' ws) (q : a ∉ ws) : own_Ar Z h' a ty := by
  obtain ⟨c, A, r⟩ := F; exact ⟨c, ⟨K.2.1 _ _ A.1 q, A.2⟩, r⟩
theorem own_Ar.lt (F : own_Ar Z h a ty) : a < h.size := by
  obtain ⟨c, A, r⟩ := F; exact A.lt
theorem own_Ar.ne {a0 : Array Value} {k : Nat} (F : own_Ar Z h b ty) (E : Exa Z h a C) (wi : (Jvm.Cond.instantiable C k).before a0 Z = true) : a ≠ b := by
  obtain ⟨c, A, r⟩ := F; exact ne_arr E wi A
theorem own_Ar.new {cA : ClassId} (A : Arr Z h a (newA cA ty 16) ty) (hf : fits ty (defaultValue ty) = true) : own_Ar Z h a ty := by
  refine ⟨_, A, sz_new _ _ _, fun i hi => ⟨defaultValue ty, ?_, hf⟩⟩
  show (Array.replicate _ _)[i]? = _
  rw [Array.getElem?_replicate, if_pos (show i < (16 : Int32).toNatClampNeg from hi)]
theorem own_Ar.put {i : Nat} {v : Value} (F : own_Ar Z h a ty) (W : Wr h h' a i v) (hv : fits ty v = true) : own_Ar Z h' a ty := by
  obtain ⟨c, A, S, r⟩ := F
  refine ⟨c.setSlot i v, A.same W, by rw [sz_set]; exact S, fun j hj => ?_⟩
  by_cases e : j = i
  · subst e
    exact ⟨v, by simp [Cell.setSlot, S, hj], hv⟩
  · obtain ⟨u, hu, hf⟩ := r j hj
    exact ⟨u, by rw [← hu]; exact Array.getElem?_setIfInBounds_ne (Ne.symm e), hf⟩
theorem own_in {i : Nat} (hi : i < 16) : ¬ Int32.ofNat i < 0 := by
  rw [Int32.lt_iff_toInt_lt, Int32.toInt_ofNat_small (by omega)]
  have e : (0 : Int32).toInt = 0 := rfl
  omega
theorem own_clamp {i : Nat} (hi : i < 16) : (Int32.ofNat i).toNatClampNeg = i := by
  show (Int32.ofNat i).toInt.toNat = i
  rw [Int32.toInt_ofNat_small (by omega)]; omega
theorem own_Ar.at (F : own_Ar Z h a ty) {i : Nat} (hi : i < 16) : ∃ v, fits ty v = true ∧ ∃ c : Cell, Arr Z h a c ty ∧ ¬ (Int32.ofNat i < 0 ∨ c.slots.size ≤ (Int32.ofNat i).toNatClampNeg) ∧ c.slots[(Int32.ofNat i).toNatClampNeg]? = some v := by
  obtain ⟨c, A, S, r⟩ := F
  obtain ⟨v, hv, hf⟩ := r i hi
  exact ⟨v, hf, c, A, fun q => q.elim (own_in hi) (by rw [own_clamp hi, S]; omega), by rw [own_clamp hi]; exact hv⟩
theorem own_Ar.atD (F : own_Ar Z h a .double) {i : Nat} (hi : i < 16) : ∃ d : UInt64, ∃ c : Cell, Arr Z h a c .double ∧ ¬ (Int32.ofNat i < 0 ∨ c.slots.size ≤ (Int32.ofNat i).toNatClampNeg) ∧ c.slots[(Int32.ofNat i).toNatClampNeg]? = some (.double d) := by
  obtain ⟨v, hf, r⟩ := F.at hi; obtain ⟨d, rfl⟩ := fit_D hf; exact ⟨d, r⟩
theorem own_Ar.atJ (F : own_Ar Z h a .long) {i : Nat} (hi : i < 16) : ∃ d : Int64, ∃ c : Cell, Arr Z h a c .long ∧ ¬ (Int32.ofNat i < 0 ∨ c.slots.size ≤ (Int32.ofNat i).toNatClampNeg) ∧ c.slots[(Int32.ofNat i).toNatClampNeg]? = some (.long d) := by
  obtain ⟨v, hf, r⟩ := F.at hi; obtain ⟨d, rfl⟩ := fit_J hf; exact ⟨d, r⟩
theorem own_Ar.atI (F : own_Ar Z h a .int) {i : Nat} (hi : i < 16) : ∃ d : Int32, ∃ c : Cell, Arr Z h a c .int ∧ ¬ (Int32.ofNat i < 0 ∨ c.slots.size ≤ (Int32.ofNat i).toNatClampNeg) ∧ c.slots[(Int32.ofNat i).toNatClampNeg]? = some (.int d) := by
  obtain ⟨v, hf, r⟩ := F.at hi; obtain ⟨d, rfl⟩ := fit_I hf (Or.inl rfl); exact ⟨d, r⟩
theorem own_Ar.len (F : own_Ar Z h a ty) : ∃ c : Cell, Arr Z h a c ty ∧ c.slots.size.toInt32 = (16 : Int32) := by
  obtain ⟨c, A, S, r⟩ := F; exact ⟨c, A, by rw [S]; rfl⟩
/-- the queue with n departures -/
def own_Q (Z : State) (h : Heap) (a ta oa ha : Addr) (n : Nat) : Prop := Exa Z h a "com/example/fragmint/fragmint/engine/DepartureQueue" ∧ Fld Z h a "com/example/fragmint/fragmint/engine/DepartureQueue" "times" "[D" (.ref ta) ∧ Fld Z h a "com/example/fragmint/fragmint/engine/DepartureQueue" "order" "[J" (.ref oa) ∧ Fld Z h a "com/example/fragmint/fragmint/engine/DepartureQueue" "handles" "[I" (.ref ha) ∧ Fld Z h a "com/example/fragmint/fragmint/engine/DepartureQueue" "size" "I" (.int (Int32.ofNat n)) ∧ (∃ q : Int64, Fld Z h a "com/example/fragmint/fragmint/engine/DepartureQueue" "added" "J" (.long q)) ∧ own_Ar Z h ta .double ∧ own_Ar Z h oa .long ∧ own_Ar Z h ha .int ∧ ta ≠ oa ∧ ta ≠ ha ∧ oa ≠ ha
end OwnQ
theorem own_succ (i : Nat) : Int32.ofNat i + (1 : Int32) = Int32.ofNat (i + 1) := (Int32.ofNat_succ i).symm ▸ rfl
theorem own_pred (i : Nat) : Int32.ofNat (i + 1) - (1 : Int32) = Int32.ofNat i := by
  rw [← own_succ, Int32.add_sub_cancel]
theorem own_inj {i j : Nat} (hi : i < 2 ^ 31) (hj : j < 2 ^ 31) (e : Int32.ofNat i = Int32.ofNat j) : i = j := by
  have q := congrArg Int32.toInt e
  rw [Int32.toInt_ofNat_small hi, Int32.toInt_ofNat_small hj] at q
  omega
theorem own_ltn {i j : Nat} (hi : i < 2 ^ 31) (hj : j < 2 ^ 31) : Int32.ofNat i < Int32.ofNat j ↔ i < j := by
  rw [Int32.lt_iff_toInt_lt, Int32.toInt_ofNat_small hi, Int32.toInt_ofNat_small hj]; omega
theorem own_par_dec : ∀ i : Nat, i < 16 → 0 < i → ((Int32.ofNat i - (1 : Int32)) / (2 : Int32)) = Int32.ofNat ((i - 1) / 2) := by decide +kernel
theorem own_kid_dec : ∀ i : Nat, i < 16 → (((2 : Int32) * Int32.ofNat i) + (1 : Int32)) = Int32.ofNat (2 * i + 1) := by decide +kernel
def own_em (k : Nat) : Int32 := if Int32.ofNat k = 0 then 1 else 0
theorem own_st7 {v0 v3 v4 : Value} {d : UInt64} {q : Int64} {s7 : Slot} {v : Int32} (h : s7 = .unset ∨ ∃ w : Int32, s7 = .val (.int w)) : storeLocals #[.val v0, .val (.double d), .second, .val v3, .val v4, .val (.long q), .second, s7] 7 (.int v) = some #[.val v0, .val (.double d), .second, .val v3, .val v4, .val (.long q), .second, .val (.int v)] := by
  rcases h with rfl | ⟨w, rfl⟩ <;> rfl
theorem own_selP {Z : State} {a0 : Array Value} {y z : MethodName} (hz : z.cls = y.cls) (w : (Jvm.Cond.selects y.cls y y).before a0 Z = true) (wp : (Jvm.Cond.privateMethod z).before a0 Z = true) (wi : (Jvm.Cond.instanceMethod z).before a0 Z = true) (hy : z.cls ≠ "java/lang/invoke/MethodHandle" ∧ z.cls ≠ "java/lang/invoke/VarHandle") : (Jvm.Cond.selects z.cls z z).before a0 Z = true := by
  obtain ⟨c2, r2, m2, q1, q2, q3, q4, kP, hkP, hkPi⟩ := Cond.selects_spec w
  exact selects_self_of_private (by rw [hz]; exact findClass_of_methodNamed q3) hkP hkPi (Cond.privateMethod_at wp) wi hy

theorem d3_0 : decode prog_11_method_2_code 0 = .ok (.aload_n 0, 1) := by decide +kernel
theorem d3_1 : decode prog_11_method_2_code 1 = .ok (.getfield 21, 3) := by decide +kernel
theorem d3_4 : decode prog_11_method_2_code 4 = .ok (.ifCond .ne 7, 3) := by decide +kernel
theorem d3_7 : decode prog_11_method_2_code 7 = .ok (.iconst 1, 1) := by decide +kernel
theorem d3_8 : decode prog_11_method_2_code 8 = .ok (.goto 4, 3) := by decide +kernel
theorem d3_11 : decode prog_11_method_2_code 11 = .ok (.iconst 0, 1) := by decide +kernel
theorem d3_12 : decode prog_11_method_2_code 12 = .ok (.ireturn, 1) := by decide +kernel
theorem pn_3 : plainName "com/example/fragmint/fragmint/engine/DepartureQueue" = true := by first | (simp [plainName, overriddenIn]; done) | decide +kernel
theorem ef_rm3 (m : MethodId) (a1 : Addr) : entryFrame m #[(.ref a1)] 1 = mkF m 0 #[.val (.ref a1)] [] := by first | (simp [entryFrame, mkF, argsToLocals, Value.category]; done) | rfl
def Q3 (Z : State) (a1 : Addr) (ta : Addr) (oa : Addr) (ha : Addr) (n : Nat) (h0 : Heap) (n0 : Nat) (v : Option Value) (h : Heap) (L : List Loc) : Prop := v = some (.int (own_em n)) ∧ Fr n0 L ∧ h = h0
set_option maxRecDepth 65536 in
set_option maxHeartbeats 40000000 in
theorem rm3 (l : Launch) (Z : State) (a0 : Array Value) (hw : ∀ d ∈ tables_1, d.before a0 Z = true) (ws : List Jvm.Cond) (a1 : Addr) (ta : Addr) (oa : Addr) (ha : Addr) (n : Nat) (h0 : Heap) (n0 : Nat) (Z0 : n0 ≤ h0.size) (Q1 : own_Q Z h0 a1 ta oa ha n) :
    MetFree l (⟨"com/example/fragmint/fragmint/engine/DepartureQueue", "isEmpty", "()Z"⟩ : MethodName) (head1 (Jvm.Cond.code (⟨"com/example/fragmint/fragmint/engine/DepartureQueue", "isEmpty", "()Z"⟩ : MethodName) prog_11_method_2_code 1 (some .boolean) :: ws) ({ frames := 0, cells := 0, slots := 0, locals := 0 } : Room)) (fun a U => a = #[(.ref a1)] ∧ Z.Warmed39 U.vm ∧ U.heap = h0) (fun _ _ _ _ _ => True) (fun _ U o U' => ∃ v L, o = .returned v ∧ Q3 Z a1 ta oa ha n h0 n0 v U'.heap L ∧ FrameEnd U o U' L ({ frames := 0, cells := 0, slots := 0, locals := 0 } : Room).cells ({ frames := 0, cells := 0, slots := 0, locals := 0 } : Room).slots) := by
  refine MetFree.of_bodySF (plainFor_of_name pn_3) hisR ?_
  intro p e s m args below meth c s₁ Bd hml0 hP hK
  obtain ⟨rfl, hZ, hh⟩ := hP
  have hx := Bd.exec
  have hby := Bd.bytes
  have hml : c.maxLocals = 1 := hml0
  have hown : s.vm.findClass "com/example/fragmint/fragmint/engine/DepartureQueue" = some m.cls := findClass_of_methodNamed Bd.named
  have hnm := (name_of_methodNamed Bd.named Bd.method).1
  have hlk := BodyLoose.notSynchronized Bd
  have hrt := Bd.returns
  have X0 : Stand p l e ({ frames := 0, cells := 0, slots := 0, locals := 0 } : Room) s m #[(.ref a1)] below meth c s₁ [] 0 0 := Stand.of_body Bd
  have e0 : s₁.heap = h0 := by rw [← hh, Bd.state]; rfl
  have N0 := Fr.nil n0
  show OEnds p e below s (Q3 Z a1 ta oa ha n h0 n0) ({ frames := 0, cells := 0, slots := 0, locals := 0 } : Room).cells ({ frames := 0, cells := 0, slots := 0, locals := 0 } : Room).slots (s₁.setTop (entryFrame m #[(.ref a1)] 1))
  refine OEnds.go (t' := s₁.setTop (mkF m 0 #[.val (.ref a1)] [])) (fun t k => castTop (ef_rm3 m a1) k) ?_
  refine OEnds.go (t' := s₁.setTop (mkF m 1 #[.val (.ref a1)] [(.ref a1)])) (fun _ k => ?_) ?_
  · show Steps p.tables e below (s₁.setTop (mkF m 0 #[.val (.ref a1)] [])) _
    refine XS.aloadN X0.here hx rfl (hb hby d3_0) rfl rfl ?_
    show Steps p.tables e below (s₁.setTop (mkF m 1 #[.val (.ref a1)] [(.ref a1)])) _
    exact k
  obtain ⟨T1, X1, e1, st1⟩ := getF X0 hx hZ hown (host := "") (Or.inl (hw _ (List.mem_of_getElem? (i := 23) rfl))) Via.refl e0 Q1.2.2.2.2.1 (g := (mkF m 1 #[.val (.ref a1)] [(.ref a1)])) rfl rfl (hb hby d3_1)
  refine OEnds.go (t' := T1.setTop (mkF m 4 #[.val (.ref a1)] [(.int (Int32.ofNat n))])) (fun _ k => st1 _ k) ?_
  by_cases h4 : (Int32.ofNat n) = (0 : Int32)
  · refine OEnds.go (t' := T1.setTop (mkF m 7 #[.val (.ref a1)] [])) (fun _ k => XS.ifNo X1.here hx rfl (hb hby d3_4) rfl ((if0 _ _).trans (teq h4).2) k) ?_
    refine OEnds.go (t' := T1.setTop (mkF m 12 #[.val (.ref a1)] [(.int (1 : Int32))])) (fun _ k => ?_) ?_
    · show Steps p.tables e below (T1.setTop (mkF m 7 #[.val (.ref a1)] [])) _
      refine XS.iconst X1.here hx rfl (hb hby d3_7) ?_
      show Steps p.tables e below (T1.setTop (mkF m 8 #[.val (.ref a1)] [(.int (1 : Int32))])) _
      refine XS.goto X1.here hx rfl (pc0 := 8) (pc' := 12) rfl (hb hby d3_8) (by decide) (by decide) ?_
      show Steps p.tables e below (T1.setTop (mkF m 12 #[.val (.ref a1)] [(.int (1 : Int32))])) _
      exact k
    refine OEnds.back X1 hlk (v := (some (.int (1 : Int32)))) (fun h => by rw [hrt] at h; cases h) (fun fs hr => ?_) ?_ (by decide) (by decide)
    · exact retN X1 hx (t := .boolean) hrt (by simp) (hb hby d3_12) hr
    · show Q3 Z a1 ta oa ha n h0 n0 _ T1.heap _
      rw [e1]
      exact ⟨by rw [own_em, if_pos h4], N0, rfl⟩
  · refine OEnds.go (t' := T1.setTop (mkF m 11 #[.val (.ref a1)] [])) (fun _ k => XS.ifYes X1.here hx rfl (pc0 := 4) (pc' := 11) rfl (hb hby d3_4) rfl ((if0 _ _).trans (feq h4).2) (by decide) (by decide) k) ?_
    refine OEnds.go (t' := T1.setTop (mkF m 12 #[.val (.ref a1)] [(.int (0 : Int32))])) (fun _ k => ?_) ?_
    · show Steps p.tables e below (T1.setTop (mkF m 11 #[.val (.ref a1)] [])) _
      refine XS.iconst X1.here hx rfl (hb hby d3_11) ?_
      show Steps p.tables e below (T1.setTop (mkF m 12 #[.val (.ref a1)] [(.int (0 : Int32))])) _
      exact k
    refine OEnds.back X1 hlk (v := (some (.int (0 : Int32)))) (fun h => by rw [hrt] at h; cases h) (fun fs hr => ?_) ?_ (by decide) (by decide)
    · exact retN X1 hx (t := .boolean) hrt (by simp) (hb hby d3_12) hr
    · show Q3 Z a1 ta oa ha n h0 n0 _ T1.heap _
      rw [e1]
      exact ⟨by rw [own_em, if_neg h4], N0, rfl⟩
theorem d8_0 : decode prog_11_method_6_code 0 = .ok (.aload_n 0, 1) := by decide +kernel
theorem d8_1 : decode prog_11_method_6_code 1 = .ok (.getfield 21, 3) := by decide +kernel
theorem d8_4 : decode prog_11_method_6_code 4 = .ok (.ifCond .ne 13, 3) := by decide +kernel
theorem d8_17 : decode prog_11_method_6_code 17 = .ok (.return_, 1) := by decide +kernel
theorem pn_8 : plainName "com/example/fragmint/fragmint/engine/DepartureQueue" = true := by first | (simp [plainName, overriddenIn]; done) | decide +kernel
theorem ef_rm8 (m : MethodId) (a1 : Addr) : entryFrame m #[(.ref a1)] 1 = mkF m 0 #[.val (.ref a1)] [] := by first | (simp [entryFrame, mkF, argsToLocals, Value.category]; done) | rfl
def Q8 (Z : State) (a1 : Addr) (ta : Addr) (oa : Addr) (ha : Addr) (n : Nat) (h0 : Heap) (n0 : Nat) (v : Option Value) (h : Heap) (L : List Loc) : Prop := v = none ∧ Fr n0 L ∧ h = h0
set_option maxRecDepth 65536 in
set_option maxHeartbeats 40000000 in
theorem rm8 (l : Launch) (Z : State) (a0 : Array Value) (hw : ∀ d ∈ tables_1, d.before a0 Z = true) (ws : List Jvm.Cond) (a1 : Addr) (ta : Addr) (oa : Addr) (ha : Addr) (n : Nat) (h0 : Heap) (n0 : Nat) (Z0 : n0 ≤ h0.size) (Q1 : own_Q Z h0 a1 ta oa ha n) (c1 : ¬ Int32.ofNat n = 0) :
    MetFree l (⟨"com/example/fragmint/fragmint/engine/DepartureQueue", "checkNotEmpty", "()V"⟩ : MethodName) (head1 (Jvm.Cond.code (⟨"com/example/fragmint/fragmint/engine/DepartureQueue", "checkNotEmpty", "()V"⟩ : MethodName) prog_11_method_6_code 1 none :: ws) ({ frames := 0, cells := 0, slots := 0, locals := 0 } : Room)) (fun a U => a = #[(.ref a1)] ∧ Z.Warmed39 U.vm ∧ U.heap = h0) (fun _ _ _ _ _ => True) (fun _ U o U' => ∃ v L, o = .returned v ∧ Q8 Z a1 ta oa ha n h0 n0 v U'.heap L ∧ FrameEnd U o U' L ({ frames := 0, cells := 0, slots := 0, locals := 0 } : Room).cells ({ frames := 0, cells := 0, slots := 0, locals := 0 } : Room).slots) := by
  refine MetFree.of_bodySF (plainFor_of_name pn_8) hisR ?_
  intro p e s m args below meth c s₁ Bd hml0 hP hK
  obtain ⟨rfl, hZ, hh⟩ := hP
  have hx := Bd.exec
  have hby := Bd.bytes
  have hml : c.maxLocals = 1 := hml0
  have hown : s.vm.findClass "com/example/fragmint/fragmint/engine/DepartureQueue" = some m.cls := findClass_of_methodNamed Bd.named
  have hnm := (name_of_methodNamed Bd.named Bd.method).1
  have hlk := BodyLoose.notSynchronized Bd
  have hrt := Bd.returns
  have X0 : Stand p l e ({ frames := 0, cells := 0, slots := 0, locals := 0 } : Room) s m #[(.ref a1)] below meth c s₁ [] 0 0 := Stand.of_body Bd
  have e0 : s₁.heap = h0 := by rw [← hh, Bd.state]; rfl
  have N0 := Fr.nil n0
  show OEnds p e below s (Q8 Z a1 ta oa ha n h0 n0) ({ frames := 0, cells := 0, slots := 0, locals := 0 } : Room).cells ({ frames := 0, cells := 0, slots := 0, locals := 0 } : Room).slots (s₁.setTop (entryFrame m #[(.ref a1)] 1))
  refine OEnds.go (t' := s₁.setTop (mkF m 0 #[.val (.ref a1)] [])) (fun t k => castTop (ef_rm8 m a1) k) ?_
  refine OEnds.go (t' := s₁.setTop (mkF m 1 #[.val (.ref a1)] [(.ref a1)])) (fun _ k => ?_) ?_
  · show Steps p.tables e below (s₁.setTop (mkF m 0 #[.val (.ref a1)] [])) _
    refine XS.aloadN X0.here hx rfl (hb hby d8_0) rfl rfl ?_
    show Steps p.tables e below (s₁.setTop (mkF m 1 #[.val (.ref a1)] [(.ref a1)])) _
    exact k
  obtain ⟨T1, X1, e1, st1⟩ := getF X0 hx hZ hown (host := "") (Or.inl (hw _ (List.mem_of_getElem? (i := 23) rfl))) Via.refl e0 Q1.2.2.2.2.1 (g := (mkF m 1 #[.val (.ref a1)] [(.ref a1)])) rfl rfl (hb hby d8_1)
  refine OEnds.go (t' := T1.setTop (mkF m 4 #[.val (.ref a1)] [(.int (Int32.ofNat n))])) (fun _ k => st1 _ k) ?_
  refine OEnds.go (t' := T1.setTop (mkF m 17 #[.val (.ref a1)] [])) (fun _ k => XS.ifYes X1.here hx rfl (pc0 := 4) (pc' := 17) rfl (hb hby d8_4) rfl ((if0 _ _).trans (feq c1).2) (by decide) (by decide) k) ?_
  refine OEnds.back X1 hlk (v := none) (fun _ => rfl) (fun fs hr => ?_) ?_ (by decide) (by decide)
  · exact X1.returnOut hx hrt (hb hby d8_17) hr
  · show Q8 Z a1 ta oa ha n h0 n0 _ T1.heap _
    rw [e1]
    exact ⟨rfl, N0, rfl⟩
theorem d10_0 : decode prog_11_method_8_code 0 = .ok (.dload_n 0, 1) := by decide +kernel
theorem d10_1 : decode prog_11_method_8_code 1 = .ok (.dload 4, 2) := by decide +kernel
theorem d10_3 : decode prog_11_method_8_code 3 = .ok (.dcmp .g, 1) := by decide +kernel
theorem d10_4 : decode prog_11_method_8_code 4 = .ok (.ifCond .lt 17, 3) := by decide +kernel
theorem d10_7 : decode prog_11_method_8_code 7 = .ok (.dload_n 0, 1) := by decide +kernel
theorem d10_8 : decode prog_11_method_8_code 8 = .ok (.dload 4, 2) := by decide +kernel
theorem d10_10 : decode prog_11_method_8_code 10 = .ok (.dcmp .l, 1) := by decide +kernel
theorem d10_11 : decode prog_11_method_8_code 11 = .ok (.ifCond .ne 14, 3) := by decide +kernel
theorem d10_14 : decode prog_11_method_8_code 14 = .ok (.lload_n 2, 1) := by decide +kernel
theorem d10_15 : decode prog_11_method_8_code 15 = .ok (.lload 6, 2) := by decide +kernel
theorem d10_17 : decode prog_11_method_8_code 17 = .ok (.lcmp, 1) := by decide +kernel
theorem d10_18 : decode prog_11_method_8_code 18 = .ok (.ifCond .ge 7, 3) := by decide +kernel
theorem d10_21 : decode prog_11_method_8_code 21 = .ok (.iconst 1, 1) := by decide +kernel
theorem d10_22 : decode prog_11_method_8_code 22 = .ok (.goto 4, 3) := by decide +kernel
theorem d10_25 : decode prog_11_method_8_code 25 = .ok (.iconst 0, 1) := by decide +kernel
theorem d10_26 : decode prog_11_method_8_code 26 = .ok (.ireturn, 1) := by decide +kernel
theorem pn_10 : plainName "com/example/fragmint/fragmint/engine/DepartureQueue" = true := by first | (simp [plainName, overriddenIn]; done) | decide +kernel
theorem ef_rm10 (m : MethodId) (d1 : UInt64) (q1 : Int64) (d2 : UInt64) (q2 : Int64) : entryFrame m #[(.double d1), (.long q1), (.double d2), (.long q2)] 8 = mkF m 0 #[.val (.double d1), .second, .val (.long q1), .second, .val (.double d2), .second, .val (.long q2), .second] [] := by first | (simp [entryFrame, mkF, argsToLocals, Value.category]; done) | rfl
def Q10 (Z : State) (d1 : UInt64) (q1 : Int64) (d2 : UInt64) (q2 : Int64)  (h0 : Heap) (n0 : Nat) (v : Option Value) (h : Heap) (L : List Loc) : Prop := ∃ r : Int32, v = some (.int r) ∧ Fr n0 L ∧ h = h0
set_option maxRecDepth 65536 in
set_option maxHeartbeats 40000000 in
theorem rm10 (l : Launch) (Z : State) (a0 : Array Value) (hw : ∀ d ∈ tables_1, d.before a0 Z = true) (ws : List Jvm.Cond) (d1 : UInt64) (q1 : Int64) (d2 : UInt64) (q2 : Int64)  (h0 : Heap) (n0 : Nat) (Z0 : n0 ≤ h0.size)  :
    MetFree l (⟨"com/example/fragmint/fragmint/engine/DepartureQueue", "before", "(DJDJ)Z"⟩ : MethodName) (head1 (Jvm.Cond.code (⟨"com/example/fragmint/fragmint/engine/DepartureQueue", "before", "(DJDJ)Z"⟩ : MethodName) prog_11_method_8_code 8 (some .boolean) :: ws) ({ frames := 0, cells := 0, slots := 0, locals := 0 } : Room)) (fun a U => a = #[(.double d1), (.long q1), (.double d2), (.long q2)] ∧ Z.Warmed39 U.vm ∧ U.heap = h0) (fun _ _ _ _ _ => True) (fun _ U o U' => ∃ v L, o = .returned v ∧ Q10 Z d1 q1 d2 q2  h0 n0 v U'.heap L ∧ FrameEnd U o U' L ({ frames := 0, cells := 0, slots := 0, locals := 0 } : Room).cells ({ frames := 0, cells := 0, slots := 0, locals := 0 } : Room).slots) := by
  refine MetFree.of_bodySF (plainFor_of_name pn_10) hisR ?_
  intro p e s m args below meth c s₁ Bd hml0 hP hK
  obtain ⟨rfl, hZ, hh⟩ := hP
  have hx := Bd.exec
  have hby := Bd.bytes
  have hml : c.maxLocals = 8 := hml0
  have hown : s.vm.findClass "com/example/fragmint/fragmint/engine/DepartureQueue" = some m.cls := findClass_of_methodNamed Bd.named
  have hnm := (name_of_methodNamed Bd.named Bd.method).1
  have hlk := BodyLoose.notSynchronized Bd
  have hrt := Bd.returns
  have X0 : Stand p l e ({ frames := 0, cells := 0, slots := 0, locals := 0 } : Room) s m #[(.double d1), (.long q1), (.double d2), (.long q2)] below meth c s₁ [] 0 0 := Stand.of_body Bd
  have e0 : s₁.heap = h0 := by rw [← hh, Bd.state]; rfl
  have N0 := Fr.nil n0
  show OEnds p e below s (Q10 Z d1 q1 d2 q2  h0 n0) ({ frames := 0, cells := 0, slots := 0, locals := 0 } : Room).cells ({ frames := 0, cells := 0, slots := 0, locals := 0 } : Room).slots (s₁.setTop (entryFrame m #[(.double d1), (.long q1), (.double d2), (.long q2)] 8))
  refine OEnds.go (t' := s₁.setTop (mkF m 0 #[.val (.double d1), .second, .val (.long q1), .second, .val (.double d2), .second, .val (.long q2), .second] [])) (fun t k => castTop (ef_rm10 m d1 q1 d2 q2) k) ?_
  refine OEnds.go (t' := s₁.setTop (mkF m 4 #[.val (.double d1), .second, .val (.long q1), .second, .val (.double d2), .second, .val (.long q2), .second] [(.int (Jvm.OwnD.own_dc .g d1 d2))])) (fun _ k => ?_) ?_
  · show Steps p.tables e below (s₁.setTop (mkF m 0 #[.val (.double d1), .second, .val (.long q1), .second, .val (.double d2), .second, .val (.long q2), .second] [])) _
    refine Jvm.OwnD.dloadN X0.here hx rfl (hb hby d10_0) rfl ?_
    show Steps p.tables e below (s₁.setTop (mkF m 1 #[.val (.double d1), .second, .val (.long q1), .second, .val (.double d2), .second, .val (.long q2), .second] [(.double d1)])) _
    refine Jvm.OwnD.dload X0.here hx rfl (hb hby d10_1) rfl ?_
    show Steps p.tables e below (s₁.setTop (mkF m 3 #[.val (.double d1), .second, .val (.long q1), .second, .val (.double d2), .second, .val (.long q2), .second] [(.double d2), (.double d1)])) _
    refine Jvm.OwnD.dcmpS X0.here hx rfl (hb hby d10_3) rfl ?_
    show Steps p.tables e below (s₁.setTop (mkF m 4 #[.val (.double d1), .second, .val (.long q1), .second, .val (.double d2), .second, .val (.long q2), .second] [(.int (Jvm.OwnD.own_dc .g d1 d2))])) _
    exact k
  by_cases h4 : (Jvm.OwnD.own_dc .g d1 d2) < (0 : Int32)
  · refine OEnds.go (t' := s₁.setTop (mkF m 21 #[.val (.double d1), .second, .val (.long q1), .second, .val (.double d2), .second, .val (.long q2), .second] [])) (fun _ k => XS.ifYes X0.here hx rfl (pc0 := 4) (pc' := 21) rfl (hb hby d10_4) rfl ((if0 _ _).trans (tlt h4).1) (by decide) (by decide) k) ?_
    refine OEnds.go (t' := s₁.setTop (mkF m 26 #[.val (.double d1), .second, .val (.long q1), .second, .val (.double d2), .second, .val (.long q2), .second] [(.int (1 : Int32))])) (fun _ k => ?_) ?_
    · show Steps p.tables e below (s₁.setTop (mkF m 21 #[.val (.double d1), .second, .val (.long q1), .second, .val (.double d2), .second, .val (.long q2), .second] [])) _
      refine XS.iconst X0.here hx rfl (hb hby d10_21) ?_
      show Steps p.tables e below (s₁.setTop (mkF m 22 #[.val (.double d1), .second, .val (.long q1), .second, .val (.double d2), .second, .val (.long q2), .second] [(.int (1 : Int32))])) _
      refine XS.goto X0.here hx rfl (pc0 := 22) (pc' := 26) rfl (hb hby d10_22) (by decide) (by decide) ?_
      show Steps p.tables e below (s₁.setTop (mkF m 26 #[.val (.double d1), .second, .val (.long q1), .second, .val (.double d2), .second, .val (.long q2), .second] [(.int (1 : Int32))])) _
      exact k
    refine OEnds.back X0 hlk (v := (some (.int (1 : Int32)))) (fun h => by rw [hrt] at h; cases h) (fun fs hr => ?_) ?_ (by decide) (by decide)
    · exact retN X0 hx (t := .boolean) hrt (by simp) (hb hby d10_26) hr
    · show Q10 Z d1 q1 d2 q2  h0 n0 _ s₁.heap _
      rw [e0]
      exact ⟨_, rfl, N0, rfl⟩
  · refine OEnds.go (t' := s₁.setTop (mkF m 7 #[.val (.double d1), .second, .val (.long q1), .second, .val (.double d2), .second, .val (.long q2), .second] [])) (fun _ k => XS.ifNo X0.here hx rfl (hb hby d10_4) rfl ((if0 _ _).trans (flt h4).1) k) ?_
    refine OEnds.go (t' := s₁.setTop (mkF m 11 #[.val (.double d1), .second, .val (.long q1), .second, .val (.double d2), .second, .val (.long q2), .second] [(.int (Jvm.OwnD.own_dc .l d1 d2))])) (fun _ k => ?_) ?_
    · show Steps p.tables e below (s₁.setTop (mkF m 7 #[.val (.double d1), .second, .val (.long q1), .second, .val (.double d2), .second, .val (.long q2), .second] [])) _
      refine Jvm.OwnD.dloadN X0.here hx rfl (hb hby d10_7) rfl ?_
      show Steps p.tables e below (s₁.setTop (mkF m 8 #[.val (.double d1), .second, .val (.long q1), .second, .val (.double d2), .second, .val (.long q2), .second] [(.double d1)])) _
      refine Jvm.OwnD.dload X0.here hx rfl (hb hby d10_8) rfl ?_
      show Steps p.tables e below (s₁.setTop (mkF m 10 #[.val (.double d1), .second, .val (.long q1), .second, .val (.double d2), .second, .val (.long q2), .second] [(.double d2), (.double d1)])) _
      refine Jvm.OwnD.dcmpS X0.here hx rfl (hb hby d10_10) rfl ?_
      show Steps p.tables e below (s₁.setTop (mkF m 11 #[.val (.double d1), .second, .val (.long q1), .second, .val (.double d2), .second, .val (.long q2), .second] [(.int (Jvm.OwnD.own_dc .l d1 d2))])) _
      exact k
    by_cases h11 : (Jvm.OwnD.own_dc .l d1 d2) = (0 : Int32)
    · refine OEnds.go (t' := s₁.setTop (mkF m 14 #[.val (.double d1), .second, .val (.long q1), .second, .val (.double d2), .second, .val (.long q2), .second] [])) (fun _ k => XS.ifNo X0.here hx rfl (hb hby d10_11) rfl ((if0 _ _).trans (teq h11).2) k) ?_
      refine OEnds.go (t' := s₁.setTop (mkF m 18 #[.val (.double d1), .second, .val (.long q1), .second, .val (.double d2), .second, .val (.long q2), .second] [(.int (lcmpW q1 q2))])) (fun _ k => ?_) ?_
      · show Steps p.tables e below (s₁.setTop (mkF m 14 #[.val (.double d1), .second, .val (.long q1), .second, .val (.double d2), .second, .val (.long q2), .second] [])) _
        refine XS.lloadN X0.here hx rfl (hb hby d10_14) rfl ?_
        show Steps p.tables e below (s₁.setTop (mkF m 15 #[.val (.double d1), .second, .val (.long q1), .second, .val (.double d2), .second, .val (.long q2), .second] [(.long q1)])) _
        refine XS.lload X0.here hx rfl (hb hby d10_15) rfl ?_
        show Steps p.tables e below (s₁.setTop (mkF m 17 #[.val (.double d1), .second, .val (.long q1), .second, .val (.double d2), .second, .val (.long q2), .second] [(.long q2), (.long q1)])) _
        refine XS.lcmp X0.here hx rfl (hb hby d10_17) rfl ?_
        show Steps p.tables e below (s₁.setTop (mkF m 18 #[.val (.double d1), .second, .val (.long q1), .second, .val (.double d2), .second, .val (.long q2), .second] [(.int (lcmpW q1 q2))])) _
        exact k
      by_cases h18 : (lcmpW q1 q2) < (0 : Int32)
      · refine OEnds.go (t' := s₁.setTop (mkF m 21 #[.val (.double d1), .second, .val (.long q1), .second, .val (.double d2), .second, .val (.long q2), .second] [])) (fun _ k => XS.ifNo X0.here hx rfl (hb hby d10_18) rfl ((if0 _ _).trans (tlt h18).2.1) k) ?_
        refine OEnds.go (t' := s₁.setTop (mkF m 26 #[.val (.double d1), .second, .val (.long q1), .second, .val (.double d2), .second, .val (.long q2), .second] [(.int (1 : Int32))])) (fun _ k => ?_) ?_
        · show Steps p.tables e below (s₁.setTop (mkF m 21 #[.val (.double d1), .second, .val (.long q1), .second, .val (.double d2), .second, .val (.long q2), .second] [])) _
          refine XS.iconst X0.here hx rfl (hb hby d10_21) ?_
          show Steps p.tables e below (s₁.setTop (mkF m 22 #[.val (.double d1), .second, .val (.long q1), .second, .val (.double d2), .second, .val (.long q2), .second] [(.int (1 : Int32))])) _
          refine XS.goto X0.here hx rfl (pc0 := 22) (pc' := 26) rfl (hb hby d10_22) (by decide) (by decide) ?_
          show Steps p.tables e below (s₁.setTop (mkF m 26 #[.val (.double d1), .second, .val (.long q1), .second, .val (.double d2), .second, .val (.long q2), .second] [(.int (1 : Int32))])) _
          exact k
        refine OEnds.back X0 hlk (v := (some (.int (1 : Int32)))) (fun h => by rw [hrt] at h; cases h) (fun fs hr => ?_) ?_ (by decide) (by decide)
        · exact retN X0 hx (t := .boolean) hrt (by simp) (hb hby d10_26) hr
        · show Q10 Z d1 q1 d2 q2  h0 n0 _ s₁.heap _
          rw [e0]
          exact ⟨_, rfl, N0, rfl⟩
      · refine OEnds.go (t' := s₁.setTop (mkF m 25 #[.val (.double d1), .second, .val (.long q1), .second, .val (.double d2), .second, .val (.long q2), .second] [])) (fun _ k => XS.ifYes X0.here hx rfl (pc0 := 18) (pc' := 25) rfl (hb hby d10_18) rfl ((if0 _ _).trans (flt h18).2.1) (by decide) (by decide) k) ?_
        refine OEnds.go (t' := s₁.setTop (mkF m 26 #[.val (.double d1), .second, .val (.long q1), .second, .val (.double d2), .second, .val (.long q2), .second] [(.int (0 : Int32))])) (fun _ k => ?_) ?_
        · show Steps p.tables e below (s₁.setTop (mkF m 25 #[.val (.double d1), .second, .val (.long q1), .second, .val (.double d2), .second, .val (.long q2), .second] [])) _
          refine XS.iconst X0.here hx rfl (hb hby d10_25) ?_
          show Steps p.tables e below (s₁.setTop (mkF m 26 #[.val (.double d1), .second, .val (.long q1), .second, .val (.double d2), .second, .val (.long q2), .second] [(.int (0 : Int32))])) _
          exact k
        refine OEnds.back X0 hlk (v := (some (.int (0 : Int32)))) (fun h => by rw [hrt] at h; cases h) (fun fs hr => ?_) ?_ (by decide) (by decide)
        · exact retN X0 hx (t := .boolean) hrt (by simp) (hb hby d10_26) hr
        · show Q10 Z d1 q1 d2 q2  h0 n0 _ s₁.heap _
          rw [e0]
          exact ⟨_, rfl, N0, rfl⟩
    · refine OEnds.go (t' := s₁.setTop (mkF m 25 #[.val (.double d1), .second, .val (.long q1), .second, .val (.double d2), .second, .val (.long q2), .second] [])) (fun _ k => XS.ifYes X0.here hx rfl (pc0 := 11) (pc' := 25) rfl (hb hby d10_11) rfl ((if0 _ _).trans (feq h11).2) (by decide) (by decide) k) ?_
      refine OEnds.go (t' := s₁.setTop (mkF m 26 #[.val (.double d1), .second, .val (.long q1), .second, .val (.double d2), .second, .val (.long q2), .second] [(.int (0 : Int32))])) (fun _ k => ?_) ?_
      · show Steps p.tables e below (s₁.setTop (mkF m 25 #[.val (.double d1), .second, .val (.long q1), .second, .val (.double d2), .second, .val (.long q2), .second] [])) _
        refine XS.iconst X0.here hx rfl (hb hby d10_25) ?_
        show Steps p.tables e below (s₁.setTop (mkF m 26 #[.val (.double d1), .second, .val (.long q1), .second, .val (.double d2), .second, .val (.long q2), .second] [(.int (0 : Int32))])) _
        exact k
      refine OEnds.back X0 hlk (v := (some (.int (0 : Int32)))) (fun h => by rw [hrt] at h; cases h) (fun fs hr => ?_) ?_ (by decide) (by decide)
      · exact retN X0 hx (t := .boolean) hrt (by simp) (hb hby d10_26) hr
      · show Q10 Z d1 q1 d2 q2  h0 n0 _ s₁.heap _
        rw [e0]
        exact ⟨_, rfl, N0, rfl⟩
theorem d9_0 : decode prog_11_method_7_code 0 = .ok (.dload_n 1, 1) := by decide +kernel
theorem d9_1 : decode prog_11_method_7_code 1 = .ok (.lload_n 3, 1) := by decide +kernel
theorem d9_2 : decode prog_11_method_7_code 2 = .ok (.aload_n 0, 1) := by decide +kernel
theorem d9_3 : decode prog_11_method_7_code 3 = .ok (.getfield 7, 3) := by decide +kernel
theorem d9_6 : decode prog_11_method_7_code 6 = .ok (.iload 5, 2) := by decide +kernel
theorem d9_8 : decode prog_11_method_7_code 8 = .ok (.daload, 1) := by decide +kernel
theorem d9_9 : decode prog_11_method_7_code 9 = .ok (.aload_n 0, 1) := by decide +kernel
theorem d9_10 : decode prog_11_method_7_code 10 = .ok (.getfield 13, 3) := by decide +kernel
theorem d9_13 : decode prog_11_method_7_code 13 = .ok (.iload 5, 2) := by decide +kernel
theorem d9_15 : decode prog_11_method_7_code 15 = .ok (.laload, 1) := by decide +kernel
theorem d9_16 : decode prog_11_method_7_code 16 = .ok (.invokestatic 56, 3) := by decide +kernel
theorem d9_19 : decode prog_11_method_7_code 19 = .ok (.ireturn, 1) := by decide +kernel
theorem pn_9 : plainName "com/example/fragmint/fragmint/engine/DepartureQueue" = true := by first | (simp [plainName, overriddenIn]; done) | decide +kernel
theorem pd_rm9_0 : parseMethodDescriptor "(DJDJ)Z" = some ⟨[.double, .long, .double, .long], some .boolean⟩ := by decide +kernel
theorem ef_rm9 (m : MethodId) (a1 : Addr) (d1 : UInt64) (q1 : Int64) (p1 : Int32) : entryFrame m #[(.ref a1), (.double d1), (.long q1), (.int p1)] 6 = mkF m 0 #[.val (.ref a1), .val (.double d1), .second, .val (.long q1), .second, .val (.int p1)] [] := by first | (simp [entryFrame, mkF, argsToLocals, Value.category]; done) | rfl
def Q9 (Z : State) (a1 : Addr) (d1 : UInt64) (q1 : Int64) (p1 : Int32) (ta : Addr) (oa : Addr) (ha : Addr) (n : Nat) (i : Nat) (h0 : Heap) (n0 : Nat) (v : Option Value) (h : Heap) (L : List Loc) : Prop := ∃ r : Int32, v = some (.int r) ∧ Fr n0 L ∧ h = h0
set_option maxRecDepth 65536 in
set_option maxHeartbeats 40000000 in
theorem rm9 (l : Launch) (Z : State) (a0 : Array Value) (hw : ∀ d ∈ tables_1, d.before a0 Z = true) (ws : List Jvm.Cond) (a1 : Addr) (d1 : UInt64) (q1 : Int64) (p1 : Int32) (ta : Addr) (oa : Addr) (ha : Addr) (n : Nat) (i : Nat) (h0 : Heap) (n0 : Nat) (Z0 : n0 ≤ h0.size) (Q1 : own_Q Z h0 a1 ta oa ha n) (hi : i < 16) (ep : p1 = Int32.ofNat i) :
    MetFree l (⟨"com/example/fragmint/fragmint/engine/DepartureQueue", "before", "(DJI)Z"⟩ : MethodName) (head1 (Jvm.Cond.code (⟨"com/example/fragmint/fragmint/engine/DepartureQueue", "before", "(DJI)Z"⟩ : MethodName) prog_11_method_7_code 6 (some .boolean) :: ws) ({ frames := 1, cells := 0, slots := 0, locals := 19 } : Room)) (fun a U => a = #[(.ref a1), (.double d1), (.long q1), (.int p1)] ∧ Z.Warmed39 U.vm ∧ U.heap = h0) (fun _ _ _ _ _ => True) (fun _ U o U' => ∃ v L, o = .returned v ∧ Q9 Z a1 d1 q1 p1 ta oa ha n i h0 n0 v U'.heap L ∧ FrameEnd U o U' L ({ frames := 1, cells := 0, slots := 0, locals := 19 } : Room).cells ({ frames := 1, cells := 0, slots := 0, locals := 19 } : Room).slots) := by
  refine MetFree.of_bodySF (plainFor_of_name pn_9) hisR ?_
  intro p e s m args below meth c s₁ Bd hml0 hP hK
  obtain ⟨rfl, hZ, hh⟩ := hP
  have hx := Bd.exec
  have hby := Bd.bytes
  have hml : c.maxLocals = 6 := hml0
  have hown : s.vm.findClass "com/example/fragmint/fragmint/engine/DepartureQueue" = some m.cls := findClass_of_methodNamed Bd.named
  have hnm := (name_of_methodNamed Bd.named Bd.method).1
  have hlk := BodyLoose.notSynchronized Bd
  have hrt := Bd.returns
  have X0 : Stand p l e ({ frames := 1, cells := 0, slots := 0, locals := 19 } : Room) s m #[(.ref a1), (.double d1), (.long q1), (.int p1)] below meth c s₁ [] 0 0 := Stand.of_body Bd
  have e0 : s₁.heap = h0 := by rw [← hh, Bd.state]; rfl
  have N0 := Fr.nil n0
  show OEnds p e below s (Q9 Z a1 d1 q1 p1 ta oa ha n i h0 n0) ({ frames := 1, cells := 0, slots := 0, locals := 19 } : Room).cells ({ frames := 1, cells := 0, slots := 0, locals := 19 } : Room).slots (s₁.setTop (entryFrame m #[(.ref a1), (.double d1), (.long q1), (.int p1)] 6))
  refine OEnds.go (t' := s₁.setTop (mkF m 0 #[.val (.ref a1), .val (.double d1), .second, .val (.long q1), .second, .val (.int p1)] [])) (fun t k => castTop (ef_rm9 m a1 d1 q1 p1) k) ?_
  subst ep
  refine OEnds.go (t' := s₁.setTop (mkF m 3 #[.val (.ref a1), .val (.double d1), .second, .val (.long q1), .second, .val (.int (Int32.ofNat i))] [(.ref a1), (.long q1), (.double d1)])) (fun _ k => ?_) ?_
  · show Steps p.tables e below (s₁.setTop (mkF m 0 #[.val (.ref a1), .val (.double d1), .second, .val (.long q1), .second, .val (.int (Int32.ofNat i))] [])) _
    refine Jvm.OwnD.dloadN X0.here hx rfl (hb hby d9_0) rfl ?_
    show Steps p.tables e below (s₁.setTop (mkF m 1 #[.val (.ref a1), .val (.double d1), .second, .val (.long q1), .second, .val (.int (Int32.ofNat i))] [(.double d1)])) _
    refine XS.lloadN X0.here hx rfl (hb hby d9_1) rfl ?_
    show Steps p.tables e below (s₁.setTop (mkF m 2 #[.val (.ref a1), .val (.double d1), .second, .val (.long q1), .second, .val (.int (Int32.ofNat i))] [(.long q1), (.double d1)])) _
    refine XS.aloadN X0.here hx rfl (hb hby d9_2) rfl rfl ?_
    show Steps p.tables e below (s₁.setTop (mkF m 3 #[.val (.ref a1), .val (.double d1), .second, .val (.long q1), .second, .val (.int (Int32.ofNat i))] [(.ref a1), (.long q1), (.double d1)])) _
    exact k
  obtain ⟨T1, X1, e1, st1⟩ := getF X0 hx hZ hown (host := "") (Or.inl (hw _ (List.mem_of_getElem? (i := 10) rfl))) Via.refl e0 Q1.2.1 (g := (mkF m 3 #[.val (.ref a1), .val (.double d1), .second, .val (.long q1), .second, .val (.int (Int32.ofNat i))] [(.ref a1), (.long q1), (.double d1)])) rfl rfl (hb hby d9_3)
  refine OEnds.go (t' := T1.setTop (mkF m 6 #[.val (.ref a1), .val (.double d1), .second, .val (.long q1), .second, .val (.int (Int32.ofNat i))] [(.ref ta), (.long q1), (.double d1)])) (fun _ k => st1 _ k) ?_
  refine OEnds.go (t' := T1.setTop (mkF m 8 #[.val (.ref a1), .val (.double d1), .second, .val (.long q1), .second, .val (.int (Int32.ofNat i))] [(.int (Int32.ofNat i)), (.ref ta), (.long q1), (.double d1)])) (fun _ k => ?_) ?_
  · show Steps p.tables e below (T1.setTop (mkF m 6 #[.val (.ref a1), .val (.double d1), .second, .val (.long q1), .second, .val (.int (Int32.ofNat i))] [(.ref ta), (.long q1), (.double d1)])) _
    refine XS.iload X1.here hx rfl (hb hby d9_6) rfl ?_
    show Steps p.tables e below (T1.setTop (mkF m 8 #[.val (.ref a1), .val (.double d1), .second, .val (.long q1), .second, .val (.int (Int32.ofNat i))] [(.int (Int32.ofNat i)), (.ref ta), (.long q1), (.double d1)])) _
    exact k
  obtain ⟨x1, hx1⟩ := (Q1.2.2.2.2.2.2.1).atD hi
  obtain ⟨cl2, Ar2, hin2, hat2⟩ := hx1
  refine OEnds.go (t' := T1.setTop (mkF m 9 #[.val (.ref a1), .val (.double d1), .second, .val (.long q1), .second, .val (.int (Int32.ofNat i))] [(.double x1), (.long q1), (.double d1)])) (fun _ k => X1.daload hx (j := (Int32.ofNat i)) (v := (.double x1)) (by rw [e1]; exact Ar2.1) (State.isArrayOf_alike hZ.alike Ar2.2.1) Ar2.2.2 hin2 hat2 (g := (mkF m 8 #[.val (.ref a1), .val (.double d1), .second, .val (.long q1), .second, .val (.int (Int32.ofNat i))] [(.int (Int32.ofNat i)), (.ref ta), (.long q1), (.double d1)])) rfl rfl (hb hby d9_8) _ k) ?_
  refine OEnds.go (t' := T1.setTop (mkF m 10 #[.val (.ref a1), .val (.double d1), .second, .val (.long q1), .second, .val (.int (Int32.ofNat i))] [(.ref a1), (.double x1), (.long q1), (.double d1)])) (fun _ k => ?_) ?_
  · show Steps p.tables e below (T1.setTop (mkF m 9 #[.val (.ref a1), .val (.double d1), .second, .val (.long q1), .second, .val (.int (Int32.ofNat i))] [(.double x1), (.long q1), (.double d1)])) _
    refine XS.aloadN X1.here hx rfl (hb hby d9_9) rfl rfl ?_
    show Steps p.tables e below (T1.setTop (mkF m 10 #[.val (.ref a1), .val (.double d1), .second, .val (.long q1), .second, .val (.int (Int32.ofNat i))] [(.ref a1), (.double x1), (.long q1), (.double d1)])) _
    exact k
  obtain ⟨T3, X3, e3, st3⟩ := getF X1 hx hZ hown (host := "") (Or.inl (hw _ (List.mem_of_getElem? (i := 13) rfl))) Via.refl e1 Q1.2.2.1 (g := (mkF m 10 #[.val (.ref a1), .val (.double d1), .second, .val (.long q1), .second, .val (.int (Int32.ofNat i))] [(.ref a1), (.double x1), (.long q1), (.double d1)])) rfl rfl (hb hby d9_10)
  refine OEnds.go (t' := T3.setTop (mkF m 13 #[.val (.ref a1), .val (.double d1), .second, .val (.long q1), .second, .val (.int (Int32.ofNat i))] [(.ref oa), (.double x1), (.long q1), (.double d1)])) (fun _ k => st3 _ k) ?_
  refine OEnds.go (t' := T3.setTop (mkF m 15 #[.val (.ref a1), .val (.double d1), .second, .val (.long q1), .second, .val (.int (Int32.ofNat i))] [(.int (Int32.ofNat i)), (.ref oa), (.double x1), (.long q1), (.double d1)])) (fun _ k => ?_) ?_
  · show Steps p.tables e below (T3.setTop (mkF m 13 #[.val (.ref a1), .val (.double d1), .second, .val (.long q1), .second, .val (.int (Int32.ofNat i))] [(.ref oa), (.double x1), (.long q1), (.double d1)])) _
    refine XS.iload X3.here hx rfl (hb hby d9_13) rfl ?_
    show Steps p.tables e below (T3.setTop (mkF m 15 #[.val (.ref a1), .val (.double d1), .second, .val (.long q1), .second, .val (.int (Int32.ofNat i))] [(.int (Int32.ofNat i)), (.ref oa), (.double x1), (.long q1), (.double d1)])) _
    exact k
  obtain ⟨x2, hx2⟩ := (Q1.2.2.2.2.2.2.2.1).atJ hi
  obtain ⟨cl4, Ar4, hin4, hat4⟩ := hx2
  refine OEnds.go (t' := T3.setTop (mkF m 16 #[.val (.ref a1), .val (.double d1), .second, .val (.long q1), .second, .val (.int (Int32.ofNat i))] [(.long x2), (.double x1), (.long q1), (.double d1)])) (fun _ k => X3.laload hx (j := (Int32.ofNat i)) (v := (.long x2)) (by rw [e3]; exact Ar4.1) (State.isArrayOf_alike hZ.alike Ar4.2.1) Ar4.2.2 hin4 hat4 (g := (mkF m 15 #[.val (.ref a1), .val (.double d1), .second, .val (.long q1), .second, .val (.int (Int32.ofNat i))] [(.int (Int32.ofNat i)), (.ref oa), (.double x1), (.long q1), (.double d1)])) rfl rfl (hb hby d9_15) _ k) ?_
  obtain ⟨_, _, ⟨T5, L5, k5, n5⟩, -, X5, ⟨Lc5, hQ5, l5, y5, z5⟩, st5⟩ := Jvm.LawKit.callS X3 hx (y := (⟨"com/example/fragmint/fragmint/engine/DepartureQueue", "before", "(DJDJ)Z"⟩ : MethodName)) hown (mvT hZ (hw _ (List.mem_of_getElem? (i := 53) rfl))) (mvT hZ (hw _ (List.mem_of_getElem? (i := 54) rfl))) (mvT hZ (hw _ (List.mem_of_getElem? (i := 2) rfl))) (mvT hZ (hw _ (List.mem_of_getElem? (i := 55) rfl))) (by decide) (backOf (W := 0) (rm10 l Z a0 hw [] d1 q1 x1 x2 h0 n0 Z0 ) hZ (hw _ (List.mem_of_getElem? (i := 55) rfl)) (hw _ (List.mem_of_getElem? (i := 2) rfl)) (by decide) (by decide)) (g := (mkF m 16 #[.val (.ref a1), .val (.double d1), .second, .val (.long q1), .second, .val (.int (Int32.ofNat i))] [(.long x2), (.double x1), (.long q1), (.double d1)])) rfl (by rw [hml]; rfl) (argsL := [(.double d1), (.long q1), (.double x1), (.long x2)]) (rest := []) (lenOf pd_rm9_0 rfl) rfl (by show 2 * 0 + _ ≤ _; exact Nat.le_of_eq rfl) (hb hby d9_16) (fun _ _ => ⟨rfl, e3, (by decide : 0 + 0 ≤ _), (by decide : 0 + 0 ≤ _)⟩)
  dsimp only [Pt.U, Pt.locs, Pt.cells, Pt.slots] at X5 l5 y5 z5 st5 hQ5
  subst l5 y5 z5
  obtain ⟨r5, rfl, N5q, eh5⟩ := hQ5
  have N5 := Fr.app N0 N5q
  refine OEnds.go (t' := T5.setTop (mkF m 19 #[.val (.ref a1), .val (.double d1), .second, .val (.long q1), .second, .val (.int (Int32.ofNat i))] [(.int r5)])) (fun _ k => st5 _ k) ?_
  refine OEnds.back X5 hlk (v := (some (.int (nar .boolean r5)))) (fun h => by rw [hrt] at h; cases h) (fun fs hr => ?_) ?_ (by decide) (by decide)
  · exact retN X5 hx (t := .boolean) hrt (by simp) (hb hby d9_19) hr
  · show Q9 Z a1 d1 q1 (Int32.ofNat i) ta oa ha n i h0 n0 _ T5.heap _
    rw [eh5]
    exact ⟨_, rfl, N5, rfl⟩
theorem d6_0 : decode prog_11_method_10_code 0 = .ok (.aload_n 0, 1) := by decide +kernel
theorem d6_1 : decode prog_11_method_10_code 1 = .ok (.getfield 7, 3) := by decide +kernel
theorem d6_4 : decode prog_11_method_10_code 4 = .ok (.iload_n 1, 1) := by decide +kernel
theorem d6_5 : decode prog_11_method_10_code 5 = .ok (.dload_n 2, 1) := by decide +kernel
theorem d6_6 : decode prog_11_method_10_code 6 = .ok (.dastore, 1) := by decide +kernel
theorem d6_7 : decode prog_11_method_10_code 7 = .ok (.aload_n 0, 1) := by decide +kernel
theorem d6_8 : decode prog_11_method_10_code 8 = .ok (.getfield 13, 3) := by decide +kernel
theorem d6_11 : decode prog_11_method_10_code 11 = .ok (.iload_n 1, 1) := by decide +kernel
theorem d6_12 : decode prog_11_method_10_code 12 = .ok (.lload 4, 2) := by decide +kernel
theorem d6_14 : decode prog_11_method_10_code 14 = .ok (.lastore, 1) := by decide +kernel
theorem d6_15 : decode prog_11_method_10_code 15 = .ok (.aload_n 0, 1) := by decide +kernel
theorem d6_16 : decode prog_11_method_10_code 16 = .ok (.getfield 17, 3) := by decide +kernel
theorem d6_19 : decode prog_11_method_10_code 19 = .ok (.iload_n 1, 1) := by decide +kernel
theorem d6_20 : decode prog_11_method_10_code 20 = .ok (.iload 6, 2) := by decide +kernel
theorem d6_22 : decode prog_11_method_10_code 22 = .ok (.iastore, 1) := by decide +kernel
theorem d6_23 : decode prog_11_method_10_code 23 = .ok (.return_, 1) := by decide +kernel
theorem pn_6 : plainName "com/example/fragmint/fragmint/engine/DepartureQueue" = true := by first | (simp [plainName, overriddenIn]; done) | decide +kernel
theorem ef_rm6 (m : MethodId) (a1 : Addr) (p1 : Int32) (d1 : UInt64) (q1 : Int64) (p2 : Int32) : entryFrame m #[(.ref a1), (.int p1), (.double d1), (.long q1), (.int p2)] 7 = mkF m 0 #[.val (.ref a1), .val (.int p1), .val (.double d1), .second, .val (.long q1), .second, .val (.int p2)] [] := by first | (simp [entryFrame, mkF, argsToLocals, Value.category]; done) | rfl
def Q6 (Z : State) (a1 : Addr) (p1 : Int32) (d1 : UInt64) (q1 : Int64) (p2 : Int32) (ta : Addr) (oa : Addr) (ha : Addr) (n : Nat) (i : Nat) (h0 : Heap) (n0 : Nat) (v : Option Value) (h : Heap) (L : List Loc) : Prop := v = none ∧ Fr n0 L ∧ Keep h0 h [a1, ta, oa, ha] ∧ own_Q Z h a1 ta oa ha n
set_option maxRecDepth 65536 in
set_option maxHeartbeats 40000000 in
theorem rm6 (l : Launch) (Z : State) (a0 : Array Value) (hw : ∀ d ∈ tables_1, d.before a0 Z = true) (ws : List Jvm.Cond) (a1 : Addr) (p1 : Int32) (d1 : UInt64) (q1 : Int64) (p2 : Int32) (ta : Addr) (oa : Addr) (ha : Addr) (n : Nat) (i : Nat) (h0 : Heap) (n0 : Nat) (Z0 : n0 ≤ h0.size) (Q1 : own_Q Z h0 a1 ta oa ha n) (g_a1 : n0 ≤ a1) (g_ta : n0 ≤ ta) (g_oa : n0 ≤ oa) (g_ha : n0 ≤ ha) (hi : i < 16) (ep : p1 = Int32.ofNat i) :
    MetFree l (⟨"com/example/fragmint/fragmint/engine/DepartureQueue", "put", "(IDJI)V"⟩ : MethodName) (head1 (Jvm.Cond.code (⟨"com/example/fragmint/fragmint/engine/DepartureQueue", "put", "(IDJI)V"⟩ : MethodName) prog_11_method_10_code 7 none :: ws) ({ frames := 0, cells := 0, slots := 0, locals := 0 } : Room)) (fun a U => a = #[(.ref a1), (.int p1), (.double d1), (.long q1), (.int p2)] ∧ Z.Warmed39 U.vm ∧ U.heap = h0) (fun _ _ _ _ _ => True) (fun _ U o U' => ∃ v L, o = .returned v ∧ Q6 Z a1 p1 d1 q1 p2 ta oa ha n i h0 n0 v U'.heap L ∧ FrameEnd U o U' L ({ frames := 0, cells := 0, slots := 0, locals := 0 } : Room).cells ({ frames := 0, cells := 0, slots := 0, locals := 0 } : Room).slots) := by
  refine MetFree.of_bodySF (plainFor_of_name pn_6) hisR ?_
  intro p e s m args below meth c s₁ Bd hml0 hP hK
  obtain ⟨rfl, hZ, hh⟩ := hP
  have hx := Bd.exec
  have hby := Bd.bytes
  have hml : c.maxLocals = 7 := hml0
  have hown : s.vm.findClass "com/example/fragmint/fragmint/engine/DepartureQueue" = some m.cls := findClass_of_methodNamed Bd.named
  have hnm := (name_of_methodNamed Bd.named Bd.method).1
  have hlk := BodyLoose.notSynchronized Bd
  have hrt := Bd.returns
  have X0 : Stand p l e ({ frames := 0, cells := 0, slots := 0, locals := 0 } : Room) s m #[(.ref a1), (.int p1), (.double d1), (.long q1), (.int p2)] below meth c s₁ [] 0 0 := Stand.of_body Bd
  have e0 : s₁.heap = h0 := by rw [← hh, Bd.state]; rfl
  have N0 := Fr.nil n0
  show OEnds p e below s (Q6 Z a1 p1 d1 q1 p2 ta oa ha n i h0 n0) ({ frames := 0, cells := 0, slots := 0, locals := 0 } : Room).cells ({ frames := 0, cells := 0, slots := 0, locals := 0 } : Room).slots (s₁.setTop (entryFrame m #[(.ref a1), (.int p1), (.double d1), (.long q1), (.int p2)] 7))
  refine OEnds.go (t' := s₁.setTop (mkF m 0 #[.val (.ref a1), .val (.int p1), .val (.double d1), .second, .val (.long q1), .second, .val (.int p2)] [])) (fun t k => castTop (ef_rm6 m a1 p1 d1 q1 p2) k) ?_
  subst ep
  obtain ⟨E_a1, F_times_a1, F_order_a1, F_handles_a1, F_size_a1, ⟨qd, F_added_a1⟩, A_ta, A_oa, A_ha, n1, n2, n3⟩ := Q1
  have ne_a1_ta : a1 ≠ ta := A_ta.ne E_a1 (hw _ (List.mem_of_getElem? (i := 1) rfl))
  have ne_a1_oa : a1 ≠ oa := A_oa.ne E_a1 (hw _ (List.mem_of_getElem? (i := 1) rfl))
  have ne_a1_ha : a1 ≠ ha := A_ha.ne E_a1 (hw _ (List.mem_of_getElem? (i := 1) rfl))
  refine OEnds.go (t' := s₁.setTop (mkF m 1 #[.val (.ref a1), .val (.int (Int32.ofNat i)), .val (.double d1), .second, .val (.long q1), .second, .val (.int p2)] [(.ref a1)])) (fun _ k => ?_) ?_
  · show Steps p.tables e below (s₁.setTop (mkF m 0 #[.val (.ref a1), .val (.int (Int32.ofNat i)), .val (.double d1), .second, .val (.long q1), .second, .val (.int p2)] [])) _
    refine XS.aloadN X0.here hx rfl (hb hby d6_0) rfl rfl ?_
    show Steps p.tables e below (s₁.setTop (mkF m 1 #[.val (.ref a1), .val (.int (Int32.ofNat i)), .val (.double d1), .second, .val (.long q1), .second, .val (.int p2)] [(.ref a1)])) _
    exact k
  obtain ⟨T1, X1, e1, st1⟩ := getF X0 hx hZ hown (host := "") (Or.inl (hw _ (List.mem_of_getElem? (i := 10) rfl))) Via.refl e0 F_times_a1 (g := (mkF m 1 #[.val (.ref a1), .val (.int (Int32.ofNat i)), .val (.double d1), .second, .val (.long q1), .second, .val (.int p2)] [(.ref a1)])) rfl rfl (hb hby d6_1)
  refine OEnds.go (t' := T1.setTop (mkF m 4 #[.val (.ref a1), .val (.int (Int32.ofNat i)), .val (.double d1), .second, .val (.long q1), .second, .val (.int p2)] [(.ref ta)])) (fun _ k => st1 _ k) ?_
  refine OEnds.go (t' := T1.setTop (mkF m 6 #[.val (.ref a1), .val (.int (Int32.ofNat i)), .val (.double d1), .second, .val (.long q1), .second, .val (.int p2)] [(.double d1), (.int (Int32.ofNat i)), (.ref ta)])) (fun _ k => ?_) ?_
  · show Steps p.tables e below (T1.setTop (mkF m 4 #[.val (.ref a1), .val (.int (Int32.ofNat i)), .val (.double d1), .second, .val (.long q1), .second, .val (.int p2)] [(.ref ta)])) _
    refine XS.iloadN X1.here hx rfl (hb hby d6_4) rfl ?_
    show Steps p.tables e below (T1.setTop (mkF m 5 #[.val (.ref a1), .val (.int (Int32.ofNat i)), .val (.double d1), .second, .val (.long q1), .second, .val (.int p2)] [(.int (Int32.ofNat i)), (.ref ta)])) _
    refine Jvm.OwnD.dloadN X1.here hx rfl (hb hby d6_5) rfl ?_
    show Steps p.tables e below (T1.setTop (mkF m 6 #[.val (.ref a1), .val (.int (Int32.ofNat i)), .val (.double d1), .second, .val (.long q1), .second, .val (.int p2)] [(.double d1), (.int (Int32.ofNat i)), (.ref ta)])) _
    exact k
  obtain ⟨cl2, Ar2, hin2, -⟩ := (by obtain ⟨_, _, c, A, hin, _⟩ := A_ta.at hi; exact ⟨c, A, hin, trivial⟩ : ∃ c : Cell, Arr Z _ ta c _ ∧ ¬ (Int32.ofNat i < 0 ∨ c.slots.size ≤ (Int32.ofNat i).toNatClampNeg) ∧ True)
  obtain ⟨T2, h2, X2, e2, W2, st2⟩ := stD X1 hx hZ e1 Ar2 (j := (Int32.ofNat i)) hin2 (g := (mkF m 6 #[.val (.ref a1), .val (.int (Int32.ofNat i)), .val (.double d1), .second, .val (.long q1), .second, .val (.int p2)] [(.double d1), (.int (Int32.ofNat i)), (.ref ta)])) rfl rfl (hb hby d6_6)
  have N2 := Fr.snoc X2 N0 g_ta
  have E_a1 := E_a1.wr W2
  have F_times_a1 := F_times_a1.other W2 (Or.inl ne_a1_ta)
  have F_order_a1 := F_order_a1.other W2 (Or.inl ne_a1_ta)
  have F_handles_a1 := F_handles_a1.other W2 (Or.inl ne_a1_ta)
  have F_size_a1 := F_size_a1.other W2 (Or.inl ne_a1_ta)
  have F_added_a1 := F_added_a1.other W2 (Or.inl ne_a1_ta)
  have A_oa := A_oa.other W2 (Ne.symm n1)
  have A_ha := A_ha.other W2 (Ne.symm n2)
  have Z2 : n0 ≤ h2.size := Nat.le_trans Z0 (Keep.of_wr W2).1
  have K2 := (Keep.refl h0 [a1, ta, oa, ha]).wr W2 (Or.inl (List.mem_of_getElem? (i := 1) rfl))
  have A_ta := A_ta.put W2 rfl
  refine OEnds.go (t' := T2.setTop (mkF m 7 #[.val (.ref a1), .val (.int (Int32.ofNat i)), .val (.double d1), .second, .val (.long q1), .second, .val (.int p2)] [])) (fun _ k => st2 _ k) ?_
  refine OEnds.go (t' := T2.setTop (mkF m 8 #[.val (.ref a1), .val (.int (Int32.ofNat i)), .val (.double d1), .second, .val (.long q1), .second, .val (.int p2)] [(.ref a1)])) (fun _ k => ?_) ?_
  · show Steps p.tables e below (T2.setTop (mkF m 7 #[.val (.ref a1), .val (.int (Int32.ofNat i)), .val (.double d1), .second, .val (.long q1), .second, .val (.int p2)] [])) _
    refine XS.aloadN X2.here hx rfl (hb hby d6_7) rfl rfl ?_
    show Steps p.tables e below (T2.setTop (mkF m 8 #[.val (.ref a1), .val (.int (Int32.ofNat i)), .val (.double d1), .second, .val (.long q1), .second, .val (.int p2)] [(.ref a1)])) _
    exact k
  obtain ⟨T3, X3, e3, st3⟩ := getF X2 hx hZ hown (host := "") (Or.inl (hw _ (List.mem_of_getElem? (i := 13) rfl))) Via.refl e2 F_order_a1 (g := (mkF m 8 #[.val (.ref a1), .val (.int (Int32.ofNat i)), .val (.double d1), .second, .val (.long q1), .second, .val (.int p2)] [(.ref a1)])) rfl rfl (hb hby d6_8)
  refine OEnds.go (t' := T3.setTop (mkF m 11 #[.val (.ref a1), .val (.int (Int32.ofNat i)), .val (.double d1), .second, .val (.long q1), .second, .val (.int p2)] [(.ref oa)])) (fun _ k => st3 _ k) ?_
  refine OEnds.go (t' := T3.setTop (mkF m 14 #[.val (.ref a1), .val (.int (Int32.ofNat i)), .val (.double d1), .second, .val (.long q1), .second, .val (.int p2)] [(.long q1), (.int (Int32.ofNat i)), (.ref oa)])) (fun _ k => ?_) ?_
  · show Steps p.tables e below (T3.setTop (mkF m 11 #[.val (.ref a1), .val (.int (Int32.ofNat i)), .val (.double d1), .second, .val (.long q1), .second, .val (.int p2)] [(.ref oa)])) _
    refine XS.iloadN X3.here hx rfl (hb hby d6_11) rfl ?_
    show Steps p.tables e below (T3.setTop (mkF m 12 #[.val (.ref a1), .val (.int (Int32.ofNat i)), .val (.double d1), .second, .val (.long q1), .second, .val (.int p2)] [(.int (Int32.ofNat i)), (.ref oa)])) _
    refine XS.lload X3.here hx rfl (hb hby d6_12) rfl ?_
    show Steps p.tables e below (T3.setTop (mkF m 14 #[.val (.ref a1), .val (.int (Int32.ofNat i)), .val (.double d1), .second, .val (.long q1), .second, .val (.int p2)] [(.long q1), (.int (Int32.ofNat i)), (.ref oa)])) _
    exact k
  obtain ⟨cl4, Ar4, hin4, -⟩ := (by obtain ⟨_, _, c, A, hin, _⟩ := A_oa.at hi; exact ⟨c, A, hin, trivial⟩ : ∃ c : Cell, Arr Z _ oa c _ ∧ ¬ (Int32.ofNat i < 0 ∨ c.slots.size ≤ (Int32.ofNat i).toNatClampNeg) ∧ True)
  obtain ⟨T4, h4, X4, e4, W4, st4⟩ := stJ X3 hx hZ e3 Ar4 (j := (Int32.ofNat i)) hin4 (g := (mkF m 14 #[.val (.ref a1), .val (.int (Int32.ofNat i)), .val (.double d1), .second, .val (.long q1), .second, .val (.int p2)] [(.long q1), (.int (Int32.ofNat i)), (.ref oa)])) rfl rfl (hb hby d6_14)
  have N4 := Fr.snoc X4 N2 g_oa
  have E_a1 := E_a1.wr W4
  have F_times_a1 := F_times_a1.other W4 (Or.inl ne_a1_oa)
  have F_order_a1 := F_order_a1.other W4 (Or.inl ne_a1_oa)
  have F_handles_a1 := F_handles_a1.other W4 (Or.inl ne_a1_oa)
  have F_size_a1 := F_size_a1.other W4 (Or.inl ne_a1_oa)
  have F_added_a1 := F_added_a1.other W4 (Or.inl ne_a1_oa)
  have A_ha := A_ha.other W4 (Ne.symm n3)
  have A_ta := A_ta.other W4 n1
  have Z4 : n0 ≤ h4.size := Nat.le_trans Z2 (Keep.of_wr W4).1
  have K4 := K2.wr W4 (Or.inl (List.mem_of_getElem? (i := 2) rfl))
  have A_oa := A_oa.put W4 rfl
  refine OEnds.go (t' := T4.setTop (mkF m 15 #[.val (.ref a1), .val (.int (Int32.ofNat i)), .val (.double d1), .second, .val (.long q1), .second, .val (.int p2)] [])) (fun _ k => st4 _ k) ?_
  refine OEnds.go (t' := T4.setTop (mkF m 16 #[.val (.ref a1), .val (.int (Int32.ofNat i)), .val (.double d1), .second, .val (.long q1), .second, .val (.int p2)] [(.ref a1)])) (fun _ k => ?_) ?_
  · show Steps p.tables e below (T4.setTop (mkF m 15 #[.val (.ref a1), .val (.int (Int32.ofNat i)), .val (.double d1), .second, .val (.long q1), .second, .val (.int p2)] [])) _
    refine XS.aloadN X4.here hx rfl (hb hby d6_15) rfl rfl ?_
    show Steps p.tables e below (T4.setTop (mkF m 16 #[.val (.ref a1), .val (.int (Int32.ofNat i)), .val (.double d1), .second, .val (.long q1), .second, .val (.int p2)] [(.ref a1)])) _
    exact k
  obtain ⟨T5, X5, e5, st5⟩ := getF X4 hx hZ hown (host := "") (Or.inl (hw _ (List.mem_of_getElem? (i := 16) rfl))) Via.refl e4 F_handles_a1 (g := (mkF m 16 #[.val (.ref a1), .val (.int (Int32.ofNat i)), .val (.double d1), .second, .val (.long q1), .second, .val (.int p2)] [(.ref a1)])) rfl rfl (hb hby d6_16)
  refine OEnds.go (t' := T5.setTop (mkF m 19 #[.val (.ref a1), .val (.int (Int32.ofNat i)), .val (.double d1), .second, .val (.long q1), .second, .val (.int p2)] [(.ref ha)])) (fun _ k => st5 _ k) ?_
  refine OEnds.go (t' := T5.setTop (mkF m 22 #[.val (.ref a1), .val (.int (Int32.ofNat i)), .val (.double d1), .second, .val (.long q1), .second, .val (.int p2)] [(.int p2), (.int (Int32.ofNat i)), (.ref ha)])) (fun _ k => ?_) ?_
  · show Steps p.tables e below (T5.setTop (mkF m 19 #[.val (.ref a1), .val (.int (Int32.ofNat i)), .val (.double d1), .second, .val (.long q1), .second, .val (.int p2)] [(.ref ha)])) _
    refine XS.iloadN X5.here hx rfl (hb hby d6_19) rfl ?_
    show Steps p.tables e below (T5.setTop (mkF m 20 #[.val (.ref a1), .val (.int (Int32.ofNat i)), .val (.double d1), .second, .val (.long q1), .second, .val (.int p2)] [(.int (Int32.ofNat i)), (.ref ha)])) _
    refine XS.iload X5.here hx rfl (hb hby d6_20) rfl ?_
    show Steps p.tables e below (T5.setTop (mkF m 22 #[.val (.ref a1), .val (.int (Int32.ofNat i)), .val (.double d1), .second, .val (.long q1), .second, .val (.int p2)] [(.int p2), (.int (Int32.ofNat i)), (.ref ha)])) _
    exact k
  obtain ⟨cl6, Ar6, hin6, -⟩ := (by obtain ⟨_, _, c, A, hin, _⟩ := A_ha.at hi; exact ⟨c, A, hin, trivial⟩ : ∃ c : Cell, Arr Z _ ha c _ ∧ ¬ (Int32.ofNat i < 0 ∨ c.slots.size ≤ (Int32.ofNat i).toNatClampNeg) ∧ True)
  obtain ⟨T6, h6, X6, e6, W6, st6⟩ := stI X5 hx hZ e5 Ar6 (j := (Int32.ofNat i)) hin6 (g := (mkF m 22 #[.val (.ref a1), .val (.int (Int32.ofNat i)), .val (.double d1), .second, .val (.long q1), .second, .val (.int p2)] [(.int p2), (.int (Int32.ofNat i)), (.ref ha)])) rfl rfl (hb hby d6_22)
  have N6 := Fr.snoc X6 N4 g_ha
  have E_a1 := E_a1.wr W6
  have F_times_a1 := F_times_a1.other W6 (Or.inl ne_a1_ha)
  have F_order_a1 := F_order_a1.other W6 (Or.inl ne_a1_ha)
  have F_handles_a1 := F_handles_a1.other W6 (Or.inl ne_a1_ha)
  have F_size_a1 := F_size_a1.other W6 (Or.inl ne_a1_ha)
  have F_added_a1 := F_added_a1.other W6 (Or.inl ne_a1_ha)
  have A_ta := A_ta.other W6 n2
  have A_oa := A_oa.other W6 n3
  have Z6 : n0 ≤ h6.size := Nat.le_trans Z4 (Keep.of_wr W6).1
  have K6 := K4.wr W6 (Or.inl (List.mem_of_getElem? (i := 3) rfl))
  have A_ha := A_ha.put W6 rfl
  refine OEnds.go (t' := T6.setTop (mkF m 23 #[.val (.ref a1), .val (.int (Int32.ofNat i)), .val (.double d1), .second, .val (.long q1), .second, .val (.int p2)] [])) (fun _ k => st6 _ k) ?_
  refine OEnds.back X6 hlk (v := none) (fun _ => rfl) (fun fs hr => ?_) ?_ (by decide) (by decide)
  · exact X6.returnOut hx hrt (hb hby d6_23) hr
  · show Q6 Z a1 (Int32.ofNat i) d1 q1 p2 ta oa ha n i h0 n0 _ T6.heap _
    rw [e6]
    exact ⟨rfl, N6, K6, ⟨E_a1, F_times_a1, F_order_a1, F_handles_a1, F_size_a1, ⟨_, F_added_a1⟩, A_ta, A_oa, A_ha, n1, n2, n3⟩⟩
theorem d11_0 : decode prog_11_method_9_code 0 = .ok (.aload_n 0, 1) := by decide +kernel
theorem d11_1 : decode prog_11_method_9_code 1 = .ok (.iload_n 2, 1) := by decide +kernel
theorem d11_2 : decode prog_11_method_9_code 2 = .ok (.aload_n 0, 1) := by decide +kernel
theorem d11_3 : decode prog_11_method_9_code 3 = .ok (.getfield 7, 3) := by decide +kernel
theorem d11_6 : decode prog_11_method_9_code 6 = .ok (.iload_n 1, 1) := by decide +kernel
theorem d11_7 : decode prog_11_method_9_code 7 = .ok (.daload, 1) := by decide +kernel
theorem d11_8 : decode prog_11_method_9_code 8 = .ok (.aload_n 0, 1) := by decide +kernel
theorem d11_9 : decode prog_11_method_9_code 9 = .ok (.getfield 13, 3) := by decide +kernel
theorem d11_12 : decode prog_11_method_9_code 12 = .ok (.iload_n 1, 1) := by decide +kernel
theorem d11_13 : decode prog_11_method_9_code 13 = .ok (.laload, 1) := by decide +kernel
theorem d11_14 : decode prog_11_method_9_code 14 = .ok (.aload_n 0, 1) := by decide +kernel
theorem d11_15 : decode prog_11_method_9_code 15 = .ok (.getfield 17, 3) := by decide +kernel
theorem d11_18 : decode prog_11_method_9_code 18 = .ok (.iload_n 1, 1) := by decide +kernel
theorem d11_19 : decode prog_11_method_9_code 19 = .ok (.iaload, 1) := by decide +kernel
theorem d11_20 : decode prog_11_method_9_code 20 = .ok (.invokevirtual 49, 3) := by decide +kernel
theorem d11_23 : decode prog_11_method_9_code 23 = .ok (.return_, 1) := by decide +kernel
theorem pn_11 : plainName "com/example/fragmint/fragmint/engine/DepartureQueue" = true := by first | (simp [plainName, overriddenIn]; done) | decide +kernel
theorem pd_rm11_0 : parseMethodDescriptor "(IDJI)V" = some ⟨[.int, .double, .long, .int], none⟩ := by decide +kernel
theorem ef_rm11 (m : MethodId) (a1 : Addr) (p1 : Int32) (p2 : Int32) : entryFrame m #[(.ref a1), (.int p1), (.int p2)] 3 = mkF m 0 #[.val (.ref a1), .val (.int p1), .val (.int p2)] [] := by first | (simp [entryFrame, mkF, argsToLocals, Value.category]; done) | rfl
def Q11 (Z : State) (a1 : Addr) (p1 : Int32) (p2 : Int32) (ta : Addr) (oa : Addr) (ha : Addr) (n : Nat) (i : Nat) (j : Nat) (h0 : Heap) (n0 : Nat) (v : Option Value) (h : Heap) (L : List Loc) : Prop := v = none ∧ Fr n0 L ∧ Keep h0 h [a1, ta, oa, ha] ∧ own_Q Z h a1 ta oa ha n
set_option maxRecDepth 65536 in
set_option maxHeartbeats 40000000 in
theorem rm11 (l : Launch) (Z : State) (a0 : Array Value) (hw : ∀ d ∈ tables_1, d.before a0 Z = true) (ws : List Jvm.Cond) (a1 : Addr) (p1 : Int32) (p2 : Int32) (ta : Addr) (oa : Addr) (ha : Addr) (n : Nat) (i : Nat) (j : Nat) (h0 : Heap) (n0 : Nat) (Z0 : n0 ≤ h0.size) (Q1 : own_Q Z h0 a1 ta oa ha n) (g_a1 : n0 ≤ a1) (g_ta : n0 ≤ ta) (g_oa : n0 ≤ oa) (g_ha : n0 ≤ ha) (hi : i < 16) (hj : j < 16) (ep : p1 = Int32.ofNat i) (eq : p2 = Int32.ofNat j) :
    MetFree l (⟨"com/example/fragmint/fragmint/engine/DepartureQueue", "move", "(II)V"⟩ : MethodName) (head1 (Jvm.Cond.code (⟨"com/example/fragmint/fragmint/engine/DepartureQueue", "move", "(II)V"⟩ : MethodName) prog_11_method_9_code 3 none :: ws) ({ frames := 1, cells := 0, slots := 0, locals := 18 } : Room)) (fun a U => a = #[(.ref a1), (.int p1), (.int p2)] ∧ Z.Warmed39 U.vm ∧ U.heap = h0) (fun _ _ _ _ _ => True) (fun _ U o U' => ∃ v L, o = .returned v ∧ Q11 Z a1 p1 p2 ta oa ha n i j h0 n0 v U'.heap L ∧ FrameEnd U o U' L ({ frames := 1, cells := 0, slots := 0, locals := 18 } : Room).cells ({ frames := 1, cells := 0, slots := 0, locals := 18 } : Room).slots) := by
  refine MetFree.of_bodySF (plainFor_of_name pn_11) hisR ?_
  intro p e s m args below meth c s₁ Bd hml0 hP hK
  obtain ⟨rfl, hZ, hh⟩ := hP
  have hx := Bd.exec
  have hby := Bd.bytes
  have hml : c.maxLocals = 3 := hml0
  have hown : s.vm.findClass "com/example/fragmint/fragmint/engine/DepartureQueue" = some m.cls := findClass_of_methodNamed Bd.named
  have hnm := (name_of_methodNamed Bd.named Bd.method).1
  have hlk := BodyLoose.notSynchronized Bd
  have hrt := Bd.returns
  have X0 : Stand p l e ({ frames := 1, cells := 0, slots := 0, locals := 18 } : Room) s m #[(.ref a1), (.int p1), (.int p2)] below meth c s₁ [] 0 0 := Stand.of_body Bd
  have e0 : s₁.heap = h0 := by rw [← hh, Bd.state]; rfl
  have N0 := Fr.nil n0
  show OEnds p e below s (Q11 Z a1 p1 p2 ta oa ha n i j h0 n0) ({ frames := 1, cells := 0, slots := 0, locals := 18 } : Room).cells ({ frames := 1, cells := 0, slots := 0, locals := 18 } : Room).slots (s₁.setTop (entryFrame m #[(.ref a1), (.int p1), (.int p2)] 3))
  refine OEnds.go (t' := s₁.setTop (mkF m 0 #[.val (.ref a1), .val (.int p1), .val (.int p2)] [])) (fun t k => castTop (ef_rm11 m a1 p1 p2) k) ?_
  subst ep
  subst eq
  refine OEnds.go (t' := s₁.setTop (mkF m 3 #[.val (.ref a1), .val (.int (Int32.ofNat i)), .val (.int (Int32.ofNat j))] [(.ref a1), (.int (Int32.ofNat j)), (.ref a1)])) (fun _ k => ?_) ?_
  · show Steps p.tables e below (s₁.setTop (mkF m 0 #[.val (.ref a1), .val (.int (Int32.ofNat i)), .val (.int (Int32.ofNat j))] [])) _
    refine XS.aloadN X0.here hx rfl (hb hby d11_0) rfl rfl ?_
    show Steps p.tables e below (s₁.setTop (mkF m 1 #[.val (.ref a1), .val (.int (Int32.ofNat i)), .val (.int (Int32.ofNat j))] [(.ref a1)])) _
    refine XS.iloadN X0.here hx rfl (hb hby d11_1) rfl ?_
    show Steps p.tables e below (s₁.setTop (mkF m 2 #[.val (.ref a1), .val (.int (Int32.ofNat i)), .val (.int (Int32.ofNat j))] [(.int (Int32.ofNat j)), (.ref a1)])) _
    refine XS.aloadN X0.here hx rfl (hb hby d11_2) rfl rfl ?_
    show Steps p.tables e below (s₁.setTop (mkF m 3 #[.val (.ref a1), .val (.int (Int32.ofNat i)), .val (.int (Int32.ofNat j))] [(.ref a1), (.int (Int32.ofNat j)), (.ref a1)])) _
    exact k
  obtain ⟨T1, X1, e1, st1⟩ := getF X0 hx hZ hown (host := "") (Or.inl (hw _ (List.mem_of_getElem? (i := 10) rfl))) Via.refl e0 Q1.2.1 (g := (mkF m 3 #[.val (.ref a1), .val (.int (Int32.ofNat i)), .val (.int (Int32.ofNat j))] [(.ref a1), (.int (Int32.ofNat j)), (.ref a1)])) rfl rfl (hb hby d11_3)
  refine OEnds.go (t' := T1.setTop (mkF m 6 #[.val (.ref a1), .val (.int (Int32.ofNat i)), .val (.int (Int32.ofNat j))] [(.ref ta), (.int (Int32.ofNat j)), (.ref a1)])) (fun _ k => st1 _ k) ?_
  refine OEnds.go (t' := T1.setTop (mkF m 7 #[.val (.ref a1), .val (.int (Int32.ofNat i)), .val (.int (Int32.ofNat j))] [(.int (Int32.ofNat i)), (.ref ta), (.int (Int32.ofNat j)), (.ref a1)])) (fun _ k => ?_) ?_
  · show Steps p.tables e below (T1.setTop (mkF m 6 #[.val (.ref a1), .val (.int (Int32.ofNat i)), .val (.int (Int32.ofNat j))] [(.ref ta), (.int (Int32.ofNat j)), (.ref a1)])) _
    refine XS.iloadN X1.here hx rfl (hb hby d11_6) rfl ?_
    show Steps p.tables e below (T1.setTop (mkF m 7 #[.val (.ref a1), .val (.int (Int32.ofNat i)), .val (.int (Int32.ofNat j))] [(.int (Int32.ofNat i)), (.ref ta), (.int (Int32.ofNat j)), (.ref a1)])) _
    exact k
  obtain ⟨x1, hx1⟩ := (Q1.2.2.2.2.2.2.1).atD hi
  obtain ⟨cl2, Ar2, hin2, hat2⟩ := hx1
  refine OEnds.go (t' := T1.setTop (mkF m 8 #[.val (.ref a1), .val (.int (Int32.ofNat i)), .val (.int (Int32.ofNat j))] [(.double x1), (.int (Int32.ofNat j)), (.ref a1)])) (fun _ k => X1.daload hx (j := (Int32.ofNat i)) (v := (.double x1)) (by rw [e1]; exact Ar2.1) (State.isArrayOf_alike hZ.alike Ar2.2.1) Ar2.2.2 hin2 hat2 (g := (mkF m 7 #[.val (.ref a1), .val (.int (Int32.ofNat i)), .val (.int (Int32.ofNat j))] [(.int (Int32.ofNat i)), (.ref ta), (.int (Int32.ofNat j)), (.ref a1)])) rfl rfl (hb hby d11_7) _ k) ?_
  refine OEnds.go (t' := T1.setTop (mkF m 9 #[.val (.ref a1), .val (.int (Int32.ofNat i)), .val (.int (Int32.ofNat j))] [(.ref a1), (.double x1), (.int (Int32.ofNat j)), (.ref a1)])) (fun _ k => ?_) ?_
  · show Steps p.tables e below (T1.setTop (mkF m 8 #[.val (.ref a1), .val (.int (Int32.ofNat i)), .val (.int (Int32.ofNat j))] [(.double x1), (.int (Int32.ofNat j)), (.ref a1)])) _
    refine XS.aloadN X1.here hx rfl (hb hby d11_8) rfl rfl ?_
    show Steps p.tables e below (T1.setTop (mkF m 9 #[.val (.ref a1), .val (.int (Int32.ofNat i)), .val (.int (Int32.ofNat j))] [(.ref a1), (.double x1), (.int (Int32.ofNat j)), (.ref a1)])) _
    exact k
  obtain ⟨T3, X3, e3, st3⟩ := getF X1 hx hZ hown (host := "") (Or.inl (hw _ (List.mem_of_getElem? (i := 13) rfl))) Via.refl e1 Q1.2.2.1 (g := (mkF m 9 #[.val (.ref a1), .val (.int (Int32.ofNat i)), .val (.int (Int32.ofNat j))] [(.ref a1), (.double x1), (.int (Int32.ofNat j)), (.ref a1)])) rfl rfl (hb hby d11_9)
  refine OEnds.go (t' := T3.setTop (mkF m 12 #[.val (.ref a1), .val (.int (Int32.ofNat i)), .val (.int (Int32.ofNat j))] [(.ref oa), (.double x1), (.int (Int32.ofNat j)), (.ref a1)])) (fun _ k => st3 _ k) ?_
  refine OEnds.go (t' := T3.setTop (mkF m 13 #[.val (.ref a1), .val (.int (Int32.ofNat i)), .val (.int (Int32.ofNat j))] [(.int (Int32.ofNat i)), (.ref oa), (.double x1), (.int (Int32.ofNat j)), (.ref a1)])) (fun _ k => ?_) ?_
  · show Steps p.tables e below (T3.setTop (mkF m 12 #[.val (.ref a1), .val (.int (Int32.ofNat i)), .val (.int (Int32.ofNat j))] [(.ref oa), (.double x1), (.int (Int32.ofNat j)), (.ref a1)])) _
    refine XS.iloadN X3.here hx rfl (hb hby d11_12) rfl ?_
    show Steps p.tables e below (T3.setTop (mkF m 13 #[.val (.ref a1), .val (.int (Int32.ofNat i)), .val (.int (Int32.ofNat j))] [(.int (Int32.ofNat i)), (.ref oa), (.double x1), (.int (Int32.ofNat j)), (.ref a1)])) _
    exact k
  obtain ⟨x2, hx2⟩ := (Q1.2.2.2.2.2.2.2.1).atJ hi
  obtain ⟨cl4, Ar4, hin4, hat4⟩ := hx2
  refine OEnds.go (t' := T3.setTop (mkF m 14 #[.val (.ref a1), .val (.int (Int32.ofNat i)), .val (.int (Int32.ofNat j))] [(.long x2), (.double x1), (.int (Int32.ofNat j)), (.ref a1)])) (fun _ k => X3.laload hx (j := (Int32.ofNat i)) (v := (.long x2)) (by rw [e3]; exact Ar4.1) (State.isArrayOf_alike hZ.alike Ar4.2.1) Ar4.2.2 hin4 hat4 (g := (mkF m 13 #[.val (.ref a1), .val (.int (Int32.ofNat i)), .val (.int (Int32.ofNat j))] [(.int (Int32.ofNat i)), (.ref oa), (.double x1), (.int (Int32.ofNat j)), (.ref a1)])) rfl rfl (hb hby d11_13) _ k) ?_
  refine OEnds.go (t' := T3.setTop (mkF m 15 #[.val (.ref a1), .val (.int (Int32.ofNat i)), .val (.int (Int32.ofNat j))] [(.ref a1), (.long x2), (.double x1), (.int (Int32.ofNat j)), (.ref a1)])) (fun _ k => ?_) ?_
  · show Steps p.tables e below (T3.setTop (mkF m 14 #[.val (.ref a1), .val (.int (Int32.ofNat i)), .val (.int (Int32.ofNat j))] [(.long x2), (.double x1), (.int (Int32.ofNat j)), (.ref a1)])) _
    refine XS.aloadN X3.here hx rfl (hb hby d11_14) rfl rfl ?_
    show Steps p.tables e below (T3.setTop (mkF m 15 #[.val (.ref a1), .val (.int (Int32.ofNat i)), .val (.int (Int32.ofNat j))] [(.ref a1), (.long x2), (.double x1), (.int (Int32.ofNat j)), (.ref a1)])) _
    exact k
  obtain ⟨T5, X5, e5, st5⟩ := getF X3 hx hZ hown (host := "") (Or.inl (hw _ (List.mem_of_getElem? (i := 16) rfl))) Via.refl e3 Q1.2.2.2.1 (g := (mkF m 15 #[.val (.ref a1), .val (.int (Int32.ofNat i)), .val (.int (Int32.ofNat j))] [(.ref a1), (.long x2), (.double x1), (.int (Int32.ofNat j)), (.ref a1)])) rfl rfl (hb hby d11_15)
  refine OEnds.go (t' := T5.setTop (mkF m 18 #[.val (.ref a1), .val (.int (Int32.ofNat i)), .val (.int (Int32.ofNat j))] [(.ref ha), (.long x2), (.double x1), (.int (Int32.ofNat j)), (.ref a1)])) (fun _ k => st5 _ k) ?_
  refine OEnds.go (t' := T5.setTop (mkF m 19 #[.val (.ref a1), .val (.int (Int32.ofNat i)), .val (.int (Int32.ofNat j))] [(.int (Int32.ofNat i)), (.ref ha), (.long x2), (.double x1), (.int (Int32.ofNat j)), (.ref a1)])) (fun _ k => ?_) ?_
  · show Steps p.tables e below (T5.setTop (mkF m 18 #[.val (.ref a1), .val (.int (Int32.ofNat i)), .val (.int (Int32.ofNat j))] [(.ref ha), (.long x2), (.double x1), (.int (Int32.ofNat j)), (.ref a1)])) _
    refine XS.iloadN X5.here hx rfl (hb hby d11_18) rfl ?_
    show Steps p.tables e below (T5.setTop (mkF m 19 #[.val (.ref a1), .val (.int (Int32.ofNat i)), .val (.int (Int32.ofNat j))] [(.int (Int32.ofNat i)), (.ref ha), (.long x2), (.double x1), (.int (Int32.ofNat j)), (.ref a1)])) _
    exact k
  obtain ⟨x3, hx3⟩ := (Q1.2.2.2.2.2.2.2.2.1).atI hi
  obtain ⟨cl6, Ar6, hin6, hat6⟩ := hx3
  refine OEnds.go (t' := T5.setTop (mkF m 20 #[.val (.ref a1), .val (.int (Int32.ofNat i)), .val (.int (Int32.ofNat j))] [(.int x3), (.long x2), (.double x1), (.int (Int32.ofNat j)), (.ref a1)])) (fun _ k => X5.iaload hx (j := (Int32.ofNat i)) (v := (.int x3)) (by rw [e5]; exact Ar6.1) (State.isArrayOf_alike hZ.alike Ar6.2.1) Ar6.2.2 hin6 hat6 (g := (mkF m 19 #[.val (.ref a1), .val (.int (Int32.ofNat i)), .val (.int (Int32.ofNat j))] [(.int (Int32.ofNat i)), (.ref ha), (.long x2), (.double x1), (.int (Int32.ofNat j)), (.ref a1)])) rfl rfl (hb hby d11_19) _ k) ?_
  obtain ⟨cq7, q7, q7x⟩ := (Q1.1).cell
  obtain ⟨_, _, ⟨T7, L7, k7, n7⟩, -, X7, ⟨Lc7, hQ7, l7, y7, z7⟩, st7⟩ := X5.privateBack hx (y := (⟨"com/example/fragmint/fragmint/engine/DepartureQueue", "put", "(IDJI)V"⟩ : MethodName)) hown (mvT hZ (hw _ (List.mem_of_getElem? (i := 36) rfl))) (mvT hZ (hw _ (List.mem_of_getElem? (i := 37) rfl))) (mvT hZ (own_selP (y := (⟨"com/example/fragmint/fragmint/engine/DepartureQueue", "isEmpty", "()Z"⟩ : MethodName)) (z := (⟨"com/example/fragmint/fragmint/engine/DepartureQueue", "put", "(IDJI)V"⟩ : MethodName)) rfl (hw _ (List.mem_of_getElem? (i := 21) rfl)) (hw _ (List.mem_of_getElem? (i := 38) rfl)) (hw _ (List.mem_of_getElem? (i := 37) rfl)) (by decide))) (Cond.privateMethod_at (mvP hZ (hw _ (List.mem_of_getElem? (i := 38) rfl)) (args := #[]))) (mvT hZ (hw _ (List.mem_of_getElem? (i := 39) rfl))) (by decide) (backOf (W := 0) (rm6 l Z a0 hw [] a1 (Int32.ofNat j) x1 x2 x3 ta oa ha n j h0 n0 Z0 Q1 g_a1 g_ta g_oa g_ha hj rfl) hZ (hw _ (List.mem_of_getElem? (i := 39) rfl)) (hw _ (List.mem_of_getElem? (i := 2) rfl)) (by decide) (by decide)) (g := (mkF m 20 #[.val (.ref a1), .val (.int (Int32.ofNat i)), .val (.int (Int32.ofNat j))] [(.int x3), (.long x2), (.double x1), (.int (Int32.ofNat j)), (.ref a1)])) rfl (by rw [hml]; rfl) (Steps.refl _) (a := a1) (by rw [e5]; exact q7) q7x (argsL := [(.int (Int32.ofNat j)), (.double x1), (.long x2), (.int x3)]) (rest := []) (lenOf pd_rm11_0 rfl) rfl (by show 2 * 0 + _ ≤ _; exact Nat.le_of_eq rfl) (hb hby d11_20) (fun _ _ => ⟨rfl, e5, (by decide : 0 + 0 ≤ _), (by decide : 0 + 0 ≤ _)⟩)
  dsimp only [Pt.U, Pt.locs, Pt.cells, Pt.slots] at X7 l7 y7 z7 st7 hQ7
  subst l7 y7 z7
  obtain ⟨rfl, N7q, Kc7, Qx7⟩ := hQ7
  have N7 := Fr.app N0 N7q
  have Z7 : n0 ≤ T7.heap.size := Nat.le_trans Z0 Kc7.1
  refine OEnds.go (t' := T7.setTop (mkF m 23 #[.val (.ref a1), .val (.int (Int32.ofNat i)), .val (.int (Int32.ofNat j))] [])) (fun _ k => st7.trans k) ?_
  refine OEnds.back X7 hlk (v := none) (fun _ => rfl) (fun fs hr => ?_) ?_ (by decide) (by decide)
  · exact X7.returnOut hx hrt (hb hby d11_23) hr
  · show Q11 Z a1 (Int32.ofNat i) (Int32.ofNat j) ta oa ha n i j h0 n0 _ T7.heap _
    exact ⟨rfl, N7, Kc7, Qx7⟩
theorem d5_0 : decode prog_11_method_3_code 0 = .ok (.aload_n 0, 1) := by decide +kernel
theorem d5_1 : decode prog_11_method_3_code 1 = .ok (.getfield 21, 3) := by decide +kernel
theorem d5_4 : decode prog_11_method_3_code 4 = .ok (.aload_n 0, 1) := by decide +kernel
theorem d5_5 : decode prog_11_method_3_code 5 = .ok (.getfield 7, 3) := by decide +kernel
theorem d5_8 : decode prog_11_method_3_code 8 = .ok (.arraylength, 1) := by decide +kernel
theorem d5_9 : decode prog_11_method_3_code 9 = .ok (.if_icmp .ne 54, 3) := by decide +kernel
theorem d5_63 : decode prog_11_method_3_code 63 = .ok (.aload_n 0, 1) := by decide +kernel
theorem d5_64 : decode prog_11_method_3_code 64 = .ok (.dup, 1) := by decide +kernel
theorem d5_65 : decode prog_11_method_3_code 65 = .ok (.getfield 21, 3) := by decide +kernel
theorem d5_68 : decode prog_11_method_3_code 68 = .ok (.dup_x1, 1) := by decide +kernel
theorem d5_69 : decode prog_11_method_3_code 69 = .ok (.iconst 1, 1) := by decide +kernel
theorem d5_70 : decode prog_11_method_3_code 70 = .ok (.iadd, 1) := by decide +kernel
theorem d5_71 : decode prog_11_method_3_code 71 = .ok (.putfield 21, 3) := by decide +kernel
theorem d5_74 : decode prog_11_method_3_code 74 = .ok (.istore 4, 2) := by decide +kernel
theorem d5_76 : decode prog_11_method_3_code 76 = .ok (.aload_n 0, 1) := by decide +kernel
theorem d5_77 : decode prog_11_method_3_code 77 = .ok (.dup, 1) := by decide +kernel
theorem d5_78 : decode prog_11_method_3_code 78 = .ok (.getfield 37, 3) := by decide +kernel
theorem d5_81 : decode prog_11_method_3_code 81 = .ok (.dup2_x1, 1) := by decide +kernel
theorem d5_82 : decode prog_11_method_3_code 82 = .ok (.lconst 1, 1) := by decide +kernel
theorem d5_83 : decode prog_11_method_3_code 83 = .ok (.ladd, 1) := by decide +kernel
theorem d5_84 : decode prog_11_method_3_code 84 = .ok (.putfield 37, 3) := by decide +kernel
theorem d5_87 : decode prog_11_method_3_code 87 = .ok (.lstore 5, 2) := by decide +kernel
theorem d5_89 : decode prog_11_method_3_code 89 = .ok (.iload 4, 2) := by decide +kernel
theorem d5_91 : decode prog_11_method_3_code 91 = .ok (.ifCond .le 41, 3) := by decide +kernel
theorem d5_94 : decode prog_11_method_3_code 94 = .ok (.iload 4, 2) := by decide +kernel
theorem d5_96 : decode prog_11_method_3_code 96 = .ok (.iconst 1, 1) := by decide +kernel
theorem d5_97 : decode prog_11_method_3_code 97 = .ok (.isub, 1) := by decide +kernel
theorem d5_98 : decode prog_11_method_3_code 98 = .ok (.iconst 2, 1) := by decide +kernel
theorem d5_99 : decode prog_11_method_3_code 99 = .ok (.idiv, 1) := by decide +kernel
theorem d5_100 : decode prog_11_method_3_code 100 = .ok (.istore 7, 2) := by decide +kernel
theorem d5_102 : decode prog_11_method_3_code 102 = .ok (.aload_n 0, 1) := by decide +kernel
theorem d5_103 : decode prog_11_method_3_code 103 = .ok (.dload_n 1, 1) := by decide +kernel
theorem d5_104 : decode prog_11_method_3_code 104 = .ok (.lload 5, 2) := by decide +kernel
theorem d5_106 : decode prog_11_method_3_code 106 = .ok (.iload 7, 2) := by decide +kernel
theorem d5_108 : decode prog_11_method_3_code 108 = .ok (.invokevirtual 41, 3) := by decide +kernel
theorem d5_111 : decode prog_11_method_3_code 111 = .ok (.ifCond .ne 6, 3) := by decide +kernel
theorem d5_114 : decode prog_11_method_3_code 114 = .ok (.goto 18, 3) := by decide +kernel
theorem d5_117 : decode prog_11_method_3_code 117 = .ok (.aload_n 0, 1) := by decide +kernel
theorem d5_118 : decode prog_11_method_3_code 118 = .ok (.iload 7, 2) := by decide +kernel
theorem d5_120 : decode prog_11_method_3_code 120 = .ok (.iload 4, 2) := by decide +kernel
theorem d5_122 : decode prog_11_method_3_code 122 = .ok (.invokevirtual 45, 3) := by decide +kernel
theorem d5_125 : decode prog_11_method_3_code 125 = .ok (.iload 7, 2) := by decide +kernel
theorem d5_127 : decode prog_11_method_3_code 127 = .ok (.istore 4, 2) := by decide +kernel
theorem d5_129 : decode prog_11_method_3_code 129 = .ok (.goto (-40), 3) := by decide +kernel
theorem d5_132 : decode prog_11_method_3_code 132 = .ok (.aload_n 0, 1) := by decide +kernel
theorem d5_133 : decode prog_11_method_3_code 133 = .ok (.iload 4, 2) := by decide +kernel
theorem d5_135 : decode prog_11_method_3_code 135 = .ok (.dload_n 1, 1) := by decide +kernel
theorem d5_136 : decode prog_11_method_3_code 136 = .ok (.lload 5, 2) := by decide +kernel
theorem d5_138 : decode prog_11_method_3_code 138 = .ok (.iload_n 3, 1) := by decide +kernel
theorem d5_139 : decode prog_11_method_3_code 139 = .ok (.invokevirtual 49, 3) := by decide +kernel
theorem d5_142 : decode prog_11_method_3_code 142 = .ok (.return_, 1) := by decide +kernel
theorem pn_5 : plainName "com/example/fragmint/fragmint/engine/DepartureQueue" = true := by first | (simp [plainName, overriddenIn]; done) | decide +kernel
theorem pd_rm5_0 : parseMethodDescriptor "(IDJI)V" = some ⟨[.int, .double, .long, .int], none⟩ := by decide +kernel
theorem pd_rm5_1 : parseMethodDescriptor "(DJI)Z" = some ⟨[.double, .long, .int], some .boolean⟩ := by decide +kernel
theorem pd_rm5_2 : parseMethodDescriptor "(II)V" = some ⟨[.int, .int], none⟩ := by decide +kernel
theorem ef_rm5 (m : MethodId) (a1 : Addr) (d1 : UInt64) (p1 : Int32) : entryFrame m #[(.ref a1), (.double d1), (.int p1)] 8 = mkF m 0 #[.val (.ref a1), .val (.double d1), .second, .val (.int p1), .unset, .unset, .unset, .unset] [] := by first | (simp [entryFrame, mkF, argsToLocals, Value.category]; done) | rfl
def Q5 (Z : State) (a1 : Addr) (d1 : UInt64) (p1 : Int32) (ta : Addr) (oa : Addr) (ha : Addr) (n : Nat) (h0 : Heap) (n0 : Nat) (v : Option Value) (h : Heap) (L : List Loc) : Prop := v = none ∧ Fr n0 L ∧ Keep h0 h [a1, ta, oa, ha] ∧ own_Q Z h a1 ta oa ha (n + 1)
set_option maxRecDepth 65536 in
set_option maxHeartbeats 40000000 in
theorem rm5 (l : Launch) (Z : State) (a0 : Array Value) (hw : ∀ d ∈ tables_1, d.before a0 Z = true) (ws : List Jvm.Cond) (a1 : Addr) (d1 : UInt64) (p1 : Int32) (ta : Addr) (oa : Addr) (ha : Addr) (n : Nat) (h0 : Heap) (n0 : Nat) (Z0 : n0 ≤ h0.size) (Q1 : own_Q Z h0 a1 ta oa ha n) (g_a1 : n0 ≤ a1) (g_ta : n0 ≤ ta) (g_oa : n0 ≤ oa) (g_ha : n0 ≤ ha) (hn : n < 15) :
    MetFree l (⟨"com/example/fragmint/fragmint/engine/DepartureQueue", "add", "(DI)V"⟩ : MethodName) (head1 (Jvm.Cond.code (⟨"com/example/fragmint/fragmint/engine/DepartureQueue", "add", "(DI)V"⟩ : MethodName) prog_11_method_3_code 8 none :: ws) ({ frames := 2, cells := 0, slots := 0, locals := 36 } : Room)) (fun a U => a = #[(.ref a1), (.double d1), (.int p1)] ∧ Z.Warmed39 U.vm ∧ U.heap = h0) (fun _ _ _ _ _ => True) (fun _ U o U' => ∃ v L, o = .returned v ∧ Q5 Z a1 d1 p1 ta oa ha n h0 n0 v U'.heap L ∧ FrameEnd U o U' L ({ frames := 2, cells := 0, slots := 0, locals := 36 } : Room).cells ({ frames := 2, cells := 0, slots := 0, locals := 36 } : Room).slots) := by
  refine MetFree.of_bodySF (plainFor_of_name pn_5) hisR ?_
  intro p e s m args below meth c s₁ Bd hml0 hP hK
  obtain ⟨rfl, hZ, hh⟩ := hP
  have hx := Bd.exec
  have hby := Bd.bytes
  have hml : c.maxLocals = 8 := hml0
  have hown : s.vm.findClass "com/example/fragmint/fragmint/engine/DepartureQueue" = some m.cls := findClass_of_methodNamed Bd.named
  have hnm := (name_of_methodNamed Bd.named Bd.method).1
  have hlk := BodyLoose.notSynchronized Bd
  have hrt := Bd.returns
  have X0 : Stand p l e ({ frames := 2, cells := 0, slots := 0, locals := 36 } : Room) s m #[(.ref a1), (.double d1), (.int p1)] below meth c s₁ [] 0 0 := Stand.of_body Bd
  have e0 : s₁.heap = h0 := by rw [← hh, Bd.state]; rfl
  have N0 := Fr.nil n0
  show OEnds p e below s (Q5 Z a1 d1 p1 ta oa ha n h0 n0) ({ frames := 2, cells := 0, slots := 0, locals := 36 } : Room).cells ({ frames := 2, cells := 0, slots := 0, locals := 36 } : Room).slots (s₁.setTop (entryFrame m #[(.ref a1), (.double d1), (.int p1)] 8))
  refine OEnds.go (t' := s₁.setTop (mkF m 0 #[.val (.ref a1), .val (.double d1), .second, .val (.int p1), .unset, .unset, .unset, .unset] [])) (fun t k => castTop (ef_rm5 m a1 d1 p1) k) ?_
  obtain ⟨E_a1, F_times_a1, F_order_a1, F_handles_a1, F_size_a1, ⟨qd, F_added_a1⟩, A_ta, A_oa, A_ha, n1, n2, n3⟩ := Q1
  have ne_a1_ta : a1 ≠ ta := A_ta.ne E_a1 (hw _ (List.mem_of_getElem? (i := 1) rfl))
  have ne_a1_oa : a1 ≠ oa := A_oa.ne E_a1 (hw _ (List.mem_of_getElem? (i := 1) rfl))
  have ne_a1_ha : a1 ≠ ha := A_ha.ne E_a1 (hw _ (List.mem_of_getElem? (i := 1) rfl))
  refine OEnds.go (t' := s₁.setTop (mkF m 1 #[.val (.ref a1), .val (.double d1), .second, .val (.int p1), .unset, .unset, .unset, .unset] [(.ref a1)])) (fun _ k => ?_) ?_
  · show Steps p.tables e below (s₁.setTop (mkF m 0 #[.val (.ref a1), .val (.double d1), .second, .val (.int p1), .unset, .unset, .unset, .unset] [])) _
    refine XS.aloadN X0.here hx rfl (hb hby d5_0) rfl rfl ?_
    show Steps p.tables e below (s₁.setTop (mkF m 1 #[.val (.ref a1), .val (.double d1), .second, .val (.int p1), .unset, .unset, .unset, .unset] [(.ref a1)])) _
    exact k
  obtain ⟨T1, X1, e1, st1⟩ := getF X0 hx hZ hown (host := "") (Or.inl (hw _ (List.mem_of_getElem? (i := 23) rfl))) Via.refl e0 F_size_a1 (g := (mkF m 1 #[.val (.ref a1), .val (.double d1), .second, .val (.int p1), .unset, .unset, .unset, .unset] [(.ref a1)])) rfl rfl (hb hby d5_1)
  refine OEnds.go (t' := T1.setTop (mkF m 4 #[.val (.ref a1), .val (.double d1), .second, .val (.int p1), .unset, .unset, .unset, .unset] [(.int (Int32.ofNat n))])) (fun _ k => st1 _ k) ?_
  refine OEnds.go (t' := T1.setTop (mkF m 5 #[.val (.ref a1), .val (.double d1), .second, .val (.int p1), .unset, .unset, .unset, .unset] [(.ref a1), (.int (Int32.ofNat n))])) (fun _ k => ?_) ?_
  · show Steps p.tables e below (T1.setTop (mkF m 4 #[.val (.ref a1), .val (.double d1), .second, .val (.int p1), .unset, .unset, .unset, .unset] [(.int (Int32.ofNat n))])) _
    refine XS.aloadN X1.here hx rfl (hb hby d5_4) rfl rfl ?_
    show Steps p.tables e below (T1.setTop (mkF m 5 #[.val (.ref a1), .val (.double d1), .second, .val (.int p1), .unset, .unset, .unset, .unset] [(.ref a1), (.int (Int32.ofNat n))])) _
    exact k
  obtain ⟨T2, X2, e2, st2⟩ := getF X1 hx hZ hown (host := "") (Or.inl (hw _ (List.mem_of_getElem? (i := 10) rfl))) Via.refl e1 F_times_a1 (g := (mkF m 5 #[.val (.ref a1), .val (.double d1), .second, .val (.int p1), .unset, .unset, .unset, .unset] [(.ref a1), (.int (Int32.ofNat n))])) rfl rfl (hb hby d5_5)
  refine OEnds.go (t' := T2.setTop (mkF m 8 #[.val (.ref a1), .val (.double d1), .second, .val (.int p1), .unset, .unset, .unset, .unset] [(.ref ta), (.int (Int32.ofNat n))])) (fun _ k => st2 _ k) ?_
  obtain ⟨cl3, Ar3, hl3⟩ := A_ta.len
  refine OEnds.go (t' := T2.setTop (mkF m 9 #[.val (.ref a1), .val (.double d1), .second, .val (.int p1), .unset, .unset, .unset, .unset] [(.int cl3.slots.size.toInt32), (.int (Int32.ofNat n))])) (fun _ k => X2.arraylength hx (by rw [e2]; exact Ar3.1) (State.isArrayOf_alike hZ.alike Ar3.2.1) (g := (mkF m 8 #[.val (.ref a1), .val (.double d1), .second, .val (.int p1), .unset, .unset, .unset, .unset] [(.ref ta), (.int (Int32.ofNat n))])) rfl rfl (hb hby d5_8) _ k) ?_
  rw [hl3]
  refine OEnds.go (t' := T2.setTop (mkF m 63 #[.val (.ref a1), .val (.double d1), .second, .val (.int p1), .unset, .unset, .unset, .unset] [])) (fun _ k => XS.icmpYes X2.here hx rfl (pc0 := 9) (pc' := 63) rfl (hb hby d5_9) rfl (feq (fun q => absurd (own_inj (i := n) (j := 16) (by omega) (by decide) q) (by omega))).2 (by decide) (by decide) k) ?_
  refine OEnds.go (t' := T2.setTop (mkF m 65 #[.val (.ref a1), .val (.double d1), .second, .val (.int p1), .unset, .unset, .unset, .unset] [(.ref a1), (.ref a1)])) (fun _ k => ?_) ?_
  · show Steps p.tables e below (T2.setTop (mkF m 63 #[.val (.ref a1), .val (.double d1), .second, .val (.int p1), .unset, .unset, .unset, .unset] [])) _
    refine XS.aloadN X2.here hx rfl (hb hby d5_63) rfl rfl ?_
    show Steps p.tables e below (T2.setTop (mkF m 64 #[.val (.ref a1), .val (.double d1), .second, .val (.int p1), .unset, .unset, .unset, .unset] [(.ref a1)])) _
    refine XS.dup X2.here hx rfl (hb hby d5_64) rfl rfl ?_
    show Steps p.tables e below (T2.setTop (mkF m 65 #[.val (.ref a1), .val (.double d1), .second, .val (.int p1), .unset, .unset, .unset, .unset] [(.ref a1), (.ref a1)])) _
    exact k
  obtain ⟨T4, X4, e4, st4⟩ := getF X2 hx hZ hown (host := "") (Or.inl (hw _ (List.mem_of_getElem? (i := 23) rfl))) Via.refl e2 F_size_a1 (g := (mkF m 65 #[.val (.ref a1), .val (.double d1), .second, .val (.int p1), .unset, .unset, .unset, .unset] [(.ref a1), (.ref a1)])) rfl rfl (hb hby d5_65)
  refine OEnds.go (t' := T4.setTop (mkF m 68 #[.val (.ref a1), .val (.double d1), .second, .val (.int p1), .unset, .unset, .unset, .unset] [(.int (Int32.ofNat n)), (.ref a1)])) (fun _ k => st4 _ k) ?_
  refine OEnds.go (t' := T4.setTop (mkF m 71 #[.val (.ref a1), .val (.double d1), .second, .val (.int p1), .unset, .unset, .unset, .unset] [(.int ((Int32.ofNat n) + (1 : Int32))), (.ref a1), (.int (Int32.ofNat n))])) (fun _ k => ?_) ?_
  · show Steps p.tables e below (T4.setTop (mkF m 68 #[.val (.ref a1), .val (.double d1), .second, .val (.int p1), .unset, .unset, .unset, .unset] [(.int (Int32.ofNat n)), (.ref a1)])) _
    refine XS.dupX1 X4.here hx rfl (hb hby d5_68) rfl rfl rfl ?_
    show Steps p.tables e below (T4.setTop (mkF m 69 #[.val (.ref a1), .val (.double d1), .second, .val (.int p1), .unset, .unset, .unset, .unset] [(.int (Int32.ofNat n)), (.ref a1), (.int (Int32.ofNat n))])) _
    refine XS.iconst X4.here hx rfl (hb hby d5_69) ?_
    show Steps p.tables e below (T4.setTop (mkF m 70 #[.val (.ref a1), .val (.double d1), .second, .val (.int p1), .unset, .unset, .unset, .unset] [(.int (1 : Int32)), (.int (Int32.ofNat n)), (.ref a1), (.int (Int32.ofNat n))])) _
    refine XS.iadd X4.here hx rfl (hb hby d5_70) rfl ?_
    show Steps p.tables e below (T4.setTop (mkF m 71 #[.val (.ref a1), .val (.double d1), .second, .val (.int p1), .unset, .unset, .unset, .unset] [(.int ((Int32.ofNat n) + (1 : Int32))), (.ref a1), (.int (Int32.ofNat n))])) _
    exact k
  obtain ⟨T5, h5, X5, e5, W5, st5⟩ := putF X4 hx hZ hown (host := "") (Or.inl (hw _ (List.mem_of_getElem? (i := 23) rfl))) Via.refl e4 F_size_a1 E_a1 (Or.inl (hw _ (List.mem_of_getElem? (i := 24) rfl))) (hw _ (List.mem_of_getElem? (i := 1) rfl)) (ty := .int) (by decide) rfl rfl (g := (mkF m 71 #[.val (.ref a1), .val (.double d1), .second, .val (.int p1), .unset, .unset, .unset, .unset] [(.int ((Int32.ofNat n) + (1 : Int32))), (.ref a1), (.int (Int32.ofNat n))])) rfl rfl (hb hby d5_71)
  have N5 := Fr.snoc X5 N0 g_a1
  have E_a1 := E_a1.wr W5
  have F_times_a1 := F_times_a1.other W5 (Or.inr (slot_ne (Or.inl (hw _ (List.mem_of_getElem? (i := 11) rfl))) (Or.inl (hw _ (List.mem_of_getElem? (i := 24) rfl))) (by decide) (t := (.array .double)) (t' := .int) (by decide) (by decide)))
  have F_order_a1 := F_order_a1.other W5 (Or.inr (slot_ne (Or.inl (hw _ (List.mem_of_getElem? (i := 14) rfl))) (Or.inl (hw _ (List.mem_of_getElem? (i := 24) rfl))) (by decide) (t := (.array .long)) (t' := .int) (by decide) (by decide)))
  have F_handles_a1 := F_handles_a1.other W5 (Or.inr (slot_ne (Or.inl (hw _ (List.mem_of_getElem? (i := 17) rfl))) (Or.inl (hw _ (List.mem_of_getElem? (i := 24) rfl))) (by decide) (t := (.array .int)) (t' := .int) (by decide) (by decide)))
  have F_size_a1 := F_size_a1.same W5
  have F_added_a1 := F_added_a1.other W5 (Or.inr (slot_ne (Or.inl (hw _ (List.mem_of_getElem? (i := 35) rfl))) (Or.inl (hw _ (List.mem_of_getElem? (i := 24) rfl))) (by decide) (t := .long) (t' := .int) (by decide) (by decide)))
  have A_ta := A_ta.other W5 (Ne.symm ne_a1_ta)
  have A_oa := A_oa.other W5 (Ne.symm ne_a1_oa)
  have A_ha := A_ha.other W5 (Ne.symm ne_a1_ha)
  have Z5 : n0 ≤ h5.size := Nat.le_trans Z0 (Keep.of_wr W5).1
  have K5 := (Keep.refl h0 [a1, ta, oa, ha]).wr W5 (Or.inl (List.mem_of_getElem? (i := 0) rfl))
  refine OEnds.go (t' := T5.setTop (mkF m 74 #[.val (.ref a1), .val (.double d1), .second, .val (.int p1), .unset, .unset, .unset, .unset] [(.int (Int32.ofNat n))])) (fun _ k => st5 _ k) ?_
  rw [own_succ] at F_size_a1
  refine OEnds.go (t' := T5.setTop (mkF m 78 #[.val (.ref a1), .val (.double d1), .second, .val (.int p1), .val (.int (Int32.ofNat n)), .unset, .unset, .unset] [(.ref a1), (.ref a1)])) (fun _ k => ?_) ?_
  · show Steps p.tables e below (T5.setTop (mkF m 74 #[.val (.ref a1), .val (.double d1), .second, .val (.int p1), .unset, .unset, .unset, .unset] [(.int (Int32.ofNat n))])) _
    refine XS.istore X5.here hx rfl (hb hby d5_74) rfl (l' := #[.val (.ref a1), .val (.double d1), .second, .val (.int p1), .val (.int (Int32.ofNat n)), .unset, .unset, .unset]) rfl ?_
    show Steps p.tables e below (T5.setTop (mkF m 76 #[.val (.ref a1), .val (.double d1), .second, .val (.int p1), .val (.int (Int32.ofNat n)), .unset, .unset, .unset] [])) _
    refine XS.aloadN X5.here hx rfl (hb hby d5_76) rfl rfl ?_
    show Steps p.tables e below (T5.setTop (mkF m 77 #[.val (.ref a1), .val (.double d1), .second, .val (.int p1), .val (.int (Int32.ofNat n)), .unset, .unset, .unset] [(.ref a1)])) _
    refine XS.dup X5.here hx rfl (hb hby d5_77) rfl rfl ?_
    show Steps p.tables e below (T5.setTop (mkF m 78 #[.val (.ref a1), .val (.double d1), .second, .val (.int p1), .val (.int (Int32.ofNat n)), .unset, .unset, .unset] [(.ref a1), (.ref a1)])) _
    exact k
  obtain ⟨T6, X6, e6, st6⟩ := getF X5 hx hZ hown (host := "") (Or.inl (hw _ (List.mem_of_getElem? (i := 34) rfl))) Via.refl e5 F_added_a1 (g := (mkF m 78 #[.val (.ref a1), .val (.double d1), .second, .val (.int p1), .val (.int (Int32.ofNat n)), .unset, .unset, .unset] [(.ref a1), (.ref a1)])) rfl rfl (hb hby d5_78)
  refine OEnds.go (t' := T6.setTop (mkF m 81 #[.val (.ref a1), .val (.double d1), .second, .val (.int p1), .val (.int (Int32.ofNat n)), .unset, .unset, .unset] [(.long qd), (.ref a1)])) (fun _ k => st6 _ k) ?_
  refine OEnds.go (t' := T6.setTop (mkF m 84 #[.val (.ref a1), .val (.double d1), .second, .val (.int p1), .val (.int (Int32.ofNat n)), .unset, .unset, .unset] [(.long (qd + (1 : Int64))), (.ref a1), (.long qd)])) (fun _ k => ?_) ?_
  · show Steps p.tables e below (T6.setTop (mkF m 81 #[.val (.ref a1), .val (.double d1), .second, .val (.int p1), .val (.int (Int32.ofNat n)), .unset, .unset, .unset] [(.long qd), (.ref a1)])) _
    jvm_step X6.here [X6.here.top, hx, (hb hby d5_81), Value.category]
    show Steps p.tables e below (T6.setTop (mkF m 82 #[.val (.ref a1), .val (.double d1), .second, .val (.int p1), .val (.int (Int32.ofNat n)), .unset, .unset, .unset] [(.long qd), (.ref a1), (.long qd)])) _
    refine XS.lconst X6.here hx rfl (hb hby d5_82) ?_
    show Steps p.tables e below (T6.setTop (mkF m 83 #[.val (.ref a1), .val (.double d1), .second, .val (.int p1), .val (.int (Int32.ofNat n)), .unset, .unset, .unset] [(.long (1 : Int64)), (.long qd), (.ref a1), (.long qd)])) _
    refine XS.ladd X6.here hx rfl (hb hby d5_83) rfl ?_
    show Steps p.tables e below (T6.setTop (mkF m 84 #[.val (.ref a1), .val (.double d1), .second, .val (.int p1), .val (.int (Int32.ofNat n)), .unset, .unset, .unset] [(.long (qd + (1 : Int64))), (.ref a1), (.long qd)])) _
    exact k
  obtain ⟨T7, h7, X7, e7, W7, st7⟩ := putF X6 hx hZ hown (host := "") (Or.inl (hw _ (List.mem_of_getElem? (i := 34) rfl))) Via.refl e6 F_added_a1 E_a1 (Or.inl (hw _ (List.mem_of_getElem? (i := 35) rfl))) (hw _ (List.mem_of_getElem? (i := 1) rfl)) (ty := .long) (by decide) rfl rfl (g := (mkF m 84 #[.val (.ref a1), .val (.double d1), .second, .val (.int p1), .val (.int (Int32.ofNat n)), .unset, .unset, .unset] [(.long (qd + (1 : Int64))), (.ref a1), (.long qd)])) rfl rfl (hb hby d5_84)
  have N7 := Fr.snoc X7 N5 g_a1
  have E_a1 := E_a1.wr W7
  have F_times_a1 := F_times_a1.other W7 (Or.inr (slot_ne (Or.inl (hw _ (List.mem_of_getElem? (i := 11) rfl))) (Or.inl (hw _ (List.mem_of_getElem? (i := 35) rfl))) (by decide) (t := (.array .double)) (t' := .long) (by decide) (by decide)))
  have F_order_a1 := F_order_a1.other W7 (Or.inr (slot_ne (Or.inl (hw _ (List.mem_of_getElem? (i := 14) rfl))) (Or.inl (hw _ (List.mem_of_getElem? (i := 35) rfl))) (by decide) (t := (.array .long)) (t' := .long) (by decide) (by decide)))
  have F_handles_a1 := F_handles_a1.other W7 (Or.inr (slot_ne (Or.inl (hw _ (List.mem_of_getElem? (i := 17) rfl))) (Or.inl (hw _ (List.mem_of_getElem? (i := 35) rfl))) (by decide) (t := (.array .int)) (t' := .long) (by decide) (by decide)))
  have F_size_a1 := F_size_a1.other W7 (Or.inr (slot_ne (Or.inl (hw _ (List.mem_of_getElem? (i := 24) rfl))) (Or.inl (hw _ (List.mem_of_getElem? (i := 35) rfl))) (by decide) (t := .int) (t' := .long) (by decide) (by decide)))
  have F_added_a1 := F_added_a1.same W7
  have A_ta := A_ta.other W7 (Ne.symm ne_a1_ta)
  have A_oa := A_oa.other W7 (Ne.symm ne_a1_oa)
  have A_ha := A_ha.other W7 (Ne.symm ne_a1_ha)
  have Z7 : n0 ≤ h7.size := Nat.le_trans Z5 (Keep.of_wr W7).1
  have K7 := K5.wr W7 (Or.inl (List.mem_of_getElem? (i := 0) rfl))
  refine OEnds.go (t' := T7.setTop (mkF m 87 #[.val (.ref a1), .val (.double d1), .second, .val (.int p1), .val (.int (Int32.ofNat n)), .unset, .unset, .unset] [(.long qd)])) (fun _ k => st7 _ k) ?_
  refine OEnds.go (t' := T7.setTop (mkF m 89 #[.val (.ref a1), .val (.double d1), .second, .val (.int p1), .val (.int (Int32.ofNat n)), .val (.long qd), .second, .unset] [])) (fun _ k => ?_) ?_
  · show Steps p.tables e below (T7.setTop (mkF m 87 #[.val (.ref a1), .val (.double d1), .second, .val (.int p1), .val (.int (Int32.ofNat n)), .unset, .unset, .unset] [(.long qd)])) _
    refine XS.lstore X7.here hx rfl (hb hby d5_87) rfl (l' := #[.val (.ref a1), .val (.double d1), .second, .val (.int p1), .val (.int (Int32.ofNat n)), .val (.long qd), .second, .unset]) rfl ?_
    show Steps p.tables e below (T7.setTop (mkF m 89 #[.val (.ref a1), .val (.double d1), .second, .val (.int p1), .val (.int (Int32.ofNat n)), .val (.long qd), .second, .unset] [])) _
    exact k
  refine OEnds.cut (fun En => ∀ (i : Nat) (Tj : State) (lj : List Loc) (hj : Heap) (s7 : Slot), Stand p l e ({ frames := 2, cells := 0, slots := 0, locals := 36 } : Room) s m #[(.ref a1), (.double d1), (.int p1)] below meth c Tj lj 0 0 → Tj.heap = hj → Fr n0 lj → n0 ≤ hj.size → Keep h0 hj [a1, ta, oa, ha] → own_Q Z hj a1 ta oa ha (n + 1) → i < 16 → En (Tj.setTop (mkF m 132 #[.val (.ref a1), .val (.double d1), .second, .val (.int p1), .val (.int (Int32.ofNat i)), .val (.long qd), .second, s7] []))) ?_ (fun K132 => ?_)
  · intro i Tj lj hj s7 Xj ej Nj Zj Kj Qj hi
    refine OEnds.go (t' := Tj.setTop (mkF m 139 #[.val (.ref a1), .val (.double d1), .second, .val (.int p1), .val (.int (Int32.ofNat i)), .val (.long qd), .second, s7] [(.int p1), (.long qd), (.double d1), (.int (Int32.ofNat i)), (.ref a1)])) (fun _ k => ?_) ?_
    · show Steps p.tables e below (Tj.setTop (mkF m 132 #[.val (.ref a1), .val (.double d1), .second, .val (.int p1), .val (.int (Int32.ofNat i)), .val (.long qd), .second, s7] [])) _
      refine XS.aloadN Xj.here hx rfl (hb hby d5_132) rfl rfl ?_
      show Steps p.tables e below (Tj.setTop (mkF m 133 #[.val (.ref a1), .val (.double d1), .second, .val (.int p1), .val (.int (Int32.ofNat i)), .val (.long qd), .second, s7] [(.ref a1)])) _
      refine XS.iload Xj.here hx rfl (hb hby d5_133) rfl ?_
      show Steps p.tables e below (Tj.setTop (mkF m 135 #[.val (.ref a1), .val (.double d1), .second, .val (.int p1), .val (.int (Int32.ofNat i)), .val (.long qd), .second, s7] [(.int (Int32.ofNat i)), (.ref a1)])) _
      refine Jvm.OwnD.dloadN Xj.here hx rfl (hb hby d5_135) rfl ?_
      show Steps p.tables e below (Tj.setTop (mkF m 136 #[.val (.ref a1), .val (.double d1), .second, .val (.int p1), .val (.int (Int32.ofNat i)), .val (.long qd), .second, s7] [(.double d1), (.int (Int32.ofNat i)), (.ref a1)])) _
      refine XS.lload Xj.here hx rfl (hb hby d5_136) rfl ?_
      show Steps p.tables e below (Tj.setTop (mkF m 138 #[.val (.ref a1), .val (.double d1), .second, .val (.int p1), .val (.int (Int32.ofNat i)), .val (.long qd), .second, s7] [(.long qd), (.double d1), (.int (Int32.ofNat i)), (.ref a1)])) _
      refine XS.iloadN Xj.here hx rfl (hb hby d5_138) rfl ?_
      show Steps p.tables e below (Tj.setTop (mkF m 139 #[.val (.ref a1), .val (.double d1), .second, .val (.int p1), .val (.int (Int32.ofNat i)), .val (.long qd), .second, s7] [(.int p1), (.long qd), (.double d1), (.int (Int32.ofNat i)), (.ref a1)])) _
      exact k
    obtain ⟨cq8, q8, q8x⟩ := (Qj.1).cell
    obtain ⟨_, _, ⟨T8, L8, k8, n8⟩, -, X8, ⟨Lc8, hQ8, l8, y8, z8⟩, st8⟩ := Xj.privateBack hx (y := (⟨"com/example/fragmint/fragmint/engine/DepartureQueue", "put", "(IDJI)V"⟩ : MethodName)) hown (mvT hZ (hw _ (List.mem_of_getElem? (i := 36) rfl))) (mvT hZ (hw _ (List.mem_of_getElem? (i := 37) rfl))) (mvT hZ (own_selP (y := (⟨"com/example/fragmint/fragmint/engine/DepartureQueue", "isEmpty", "()Z"⟩ : MethodName)) (z := (⟨"com/example/fragmint/fragmint/engine/DepartureQueue", "put", "(IDJI)V"⟩ : MethodName)) rfl (hw _ (List.mem_of_getElem? (i := 21) rfl)) (hw _ (List.mem_of_getElem? (i := 38) rfl)) (hw _ (List.mem_of_getElem? (i := 37) rfl)) (by decide))) (Cond.privateMethod_at (mvP hZ (hw _ (List.mem_of_getElem? (i := 38) rfl)) (args := #[]))) (mvT hZ (hw _ (List.mem_of_getElem? (i := 39) rfl))) (by decide) (backOf (W := 0) (rm6 l Z a0 hw [] a1 (Int32.ofNat i) d1 qd p1 ta oa ha (n + 1) i hj n0 Zj Qj g_a1 g_ta g_oa g_ha hi rfl) hZ (hw _ (List.mem_of_getElem? (i := 39) rfl)) (hw _ (List.mem_of_getElem? (i := 2) rfl)) (by decide) (by decide)) (g := (mkF m 139 #[.val (.ref a1), .val (.double d1), .second, .val (.int p1), .val (.int (Int32.ofNat i)), .val (.long qd), .second, s7] [(.int p1), (.long qd), (.double d1), (.int (Int32.ofNat i)), (.ref a1)])) rfl (by rw [hml]; rfl) (Steps.refl _) (a := a1) (by rw [ej]; exact q8) q8x (argsL := [(.int (Int32.ofNat i)), (.double d1), (.long qd), (.int p1)]) (rest := []) (lenOf pd_rm5_0 rfl) rfl (by show 2 * 0 + _ ≤ _; exact Nat.le_of_eq rfl) (hb hby d5_139) (fun _ _ => ⟨rfl, ej, (by decide : 0 + 0 ≤ _), (by decide : 0 + 0 ≤ _)⟩)
    dsimp only [Pt.U, Pt.locs, Pt.cells, Pt.slots] at X8 l8 y8 z8 st8 hQ8
    subst l8 y8 z8
    obtain ⟨rfl, N8q, Kc8, Qx8⟩ := hQ8
    have N8 := Fr.app Nj N8q
    have Z8 : n0 ≤ T8.heap.size := Nat.le_trans Zj Kc8.1
    have K8 := Kj.trans Kc8 (allS (Or.inl (List.mem_of_getElem? (i := 0) rfl)) (allS (Or.inl (List.mem_of_getElem? (i := 1) rfl)) (allS (Or.inl (List.mem_of_getElem? (i := 2) rfl)) (allS (Or.inl (List.mem_of_getElem? (i := 3) rfl)) all0))))
    refine OEnds.go (t' := T8.setTop (mkF m 142 #[.val (.ref a1), .val (.double d1), .second, .val (.int p1), .val (.int (Int32.ofNat i)), .val (.long qd), .second, s7] [])) (fun _ k => st8.trans k) ?_
    refine OEnds.back X8 hlk (v := none) (fun _ => rfl) (fun fs hr => ?_) ?_ (by decide) (by decide)
    · exact X8.returnOut hx hrt (hb hby d5_142) hr
    · show Q5 Z a1 d1 p1 ta oa ha n h0 n0 _ T8.heap _
      exact ⟨rfl, N8, K8, Qx8⟩
  refine OEnds.cut (fun En => ∀ (d i : Nat) (Tj : State) (lj : List Loc) (hj : Heap) (s7 : Slot), Stand p l e ({ frames := 2, cells := 0, slots := 0, locals := 36 } : Room) s m #[(.ref a1), (.double d1), (.int p1)] below meth c Tj lj 0 0 → Tj.heap = hj → Fr n0 lj → n0 ≤ hj.size → Keep h0 hj [a1, ta, oa, ha] → own_Q Z hj a1 ta oa ha (n + 1) → i ≤ d → i < 16 → (s7 = .unset ∨ ∃ w : Int32, s7 = .val (.int w)) → En (Tj.setTop (mkF m 89 #[.val (.ref a1), .val (.double d1), .second, .val (.int p1), .val (.int (Int32.ofNat i)), .val (.long qd), .second, s7] []))) ?_ (fun K89 => ?_)
  · intro d
    induction d with
    | zero => 
      intro i Tj lj hj s7 Xj ej Nj Zj Kj Qj hd hi hs7
      refine OEnds.go (t' := Tj.setTop (mkF m 91 #[.val (.ref a1), .val (.double d1), .second, .val (.int p1), .val (.int (Int32.ofNat i)), .val (.long qd), .second, s7] [(.int (Int32.ofNat i))])) (fun _ k => ?_) ?_
      · show Steps p.tables e below (Tj.setTop (mkF m 89 #[.val (.ref a1), .val (.double d1), .second, .val (.int p1), .val (.int (Int32.ofNat i)), .val (.long qd), .second, s7] [])) _
        refine XS.iload Xj.here hx rfl (hb hby d5_89) rfl ?_
        show Steps p.tables e below (Tj.setTop (mkF m 91 #[.val (.ref a1), .val (.double d1), .second, .val (.int p1), .val (.int (Int32.ofNat i)), .val (.long qd), .second, s7] [(.int (Int32.ofNat i))])) _
        exact k
      refine OEnds.go (t' := Tj.setTop (mkF m 132 #[.val (.ref a1), .val (.double d1), .second, .val (.int p1), .val (.int (Int32.ofNat i)), .val (.long qd), .second, s7] [])) (fun _ k => XS.ifYes Xj.here hx rfl (pc0 := 91) (pc' := 132) rfl (hb hby d5_91) rfl ((if0 _ _).trans (flt (fun q => absurd ((own_ltn (i := 0) (by decide) (by omega)).mp q) (by omega))).2.2.2) (by decide) (by decide) k) ?_
      exact K132 i _ _ _ _ Xj ej Nj Zj Kj Qj hi
    | succ d ih => 
      intro i Tj lj hj s7 Xj ej Nj Zj Kj Qj hd hi hs7
      refine OEnds.go (t' := Tj.setTop (mkF m 91 #[.val (.ref a1), .val (.double d1), .second, .val (.int p1), .val (.int (Int32.ofNat i)), .val (.long qd), .second, s7] [(.int (Int32.ofNat i))])) (fun _ k => ?_) ?_
      · show Steps p.tables e below (Tj.setTop (mkF m 89 #[.val (.ref a1), .val (.double d1), .second, .val (.int p1), .val (.int (Int32.ofNat i)), .val (.long qd), .second, s7] [])) _
        refine XS.iload Xj.here hx rfl (hb hby d5_89) rfl ?_
        show Steps p.tables e below (Tj.setTop (mkF m 91 #[.val (.ref a1), .val (.double d1), .second, .val (.int p1), .val (.int (Int32.ofNat i)), .val (.long qd), .second, s7] [(.int (Int32.ofNat i))])) _
        exact k
      by_cases h91 : (0 : Int32) < (Int32.ofNat i)
      · refine OEnds.go (t' := Tj.setTop (mkF m 94 #[.val (.ref a1), .val (.double d1), .second, .val (.int p1), .val (.int (Int32.ofNat i)), .val (.long qd), .second, s7] [])) (fun _ k => XS.ifNo Xj.here hx rfl (hb hby d5_91) rfl ((if0 _ _).trans (tlt h91).2.2.2) k) ?_
        have h0i : 0 < i := (own_ltn (i := 0) (by decide) (by omega)).mp h91
        refine OEnds.go (t' := Tj.setTop (mkF m 100 #[.val (.ref a1), .val (.double d1), .second, .val (.int p1), .val (.int (Int32.ofNat i)), .val (.long qd), .second, s7] [(.int (((Int32.ofNat i) - (1 : Int32)) / (2 : Int32)))])) (fun _ k => ?_) ?_
        · show Steps p.tables e below (Tj.setTop (mkF m 94 #[.val (.ref a1), .val (.double d1), .second, .val (.int p1), .val (.int (Int32.ofNat i)), .val (.long qd), .second, s7] [])) _
          refine XS.iload Xj.here hx rfl (hb hby d5_94) rfl ?_
          show Steps p.tables e below (Tj.setTop (mkF m 96 #[.val (.ref a1), .val (.double d1), .second, .val (.int p1), .val (.int (Int32.ofNat i)), .val (.long qd), .second, s7] [(.int (Int32.ofNat i))])) _
          refine XS.iconst Xj.here hx rfl (hb hby d5_96) ?_
          show Steps p.tables e below (Tj.setTop (mkF m 97 #[.val (.ref a1), .val (.double d1), .second, .val (.int p1), .val (.int (Int32.ofNat i)), .val (.long qd), .second, s7] [(.int (1 : Int32)), (.int (Int32.ofNat i))])) _
          refine XS.isub Xj.here hx rfl (hb hby d5_97) rfl ?_
          show Steps p.tables e below (Tj.setTop (mkF m 98 #[.val (.ref a1), .val (.double d1), .second, .val (.int p1), .val (.int (Int32.ofNat i)), .val (.long qd), .second, s7] [(.int ((Int32.ofNat i) - (1 : Int32)))])) _
          refine XS.iconst Xj.here hx rfl (hb hby d5_98) ?_
          show Steps p.tables e below (Tj.setTop (mkF m 99 #[.val (.ref a1), .val (.double d1), .second, .val (.int p1), .val (.int (Int32.ofNat i)), .val (.long qd), .second, s7] [(.int (2 : Int32)), (.int ((Int32.ofNat i) - (1 : Int32)))])) _
          refine XS.idiv Xj.here hx rfl (hb hby d5_99) rfl (by decide) ?_
          show Steps p.tables e below (Tj.setTop (mkF m 100 #[.val (.ref a1), .val (.double d1), .second, .val (.int p1), .val (.int (Int32.ofNat i)), .val (.long qd), .second, s7] [(.int (((Int32.ofNat i) - (1 : Int32)) / (2 : Int32)))])) _
          exact k
        rw [own_par_dec i hi h0i]
        refine OEnds.go (t' := Tj.setTop (mkF m 108 #[.val (.ref a1), .val (.double d1), .second, .val (.int p1), .val (.int (Int32.ofNat i)), .val (.long qd), .second, .val (.int (Int32.ofNat ((i - 1) / 2)))] [(.int (Int32.ofNat ((i - 1) / 2))), (.long qd), (.double d1), (.ref a1)])) (fun _ k => ?_) ?_
        · show Steps p.tables e below (Tj.setTop (mkF m 100 #[.val (.ref a1), .val (.double d1), .second, .val (.int p1), .val (.int (Int32.ofNat i)), .val (.long qd), .second, s7] [(.int (Int32.ofNat ((i - 1) / 2)))])) _
          refine XS.istore Xj.here hx rfl (hb hby d5_100) rfl (l' := #[.val (.ref a1), .val (.double d1), .second, .val (.int p1), .val (.int (Int32.ofNat i)), .val (.long qd), .second, .val (.int (Int32.ofNat ((i - 1) / 2)))]) (own_st7 hs7) ?_
          show Steps p.tables e below (Tj.setTop (mkF m 102 #[.val (.ref a1), .val (.double d1), .second, .val (.int p1), .val (.int (Int32.ofNat i)), .val (.long qd), .second, .val (.int (Int32.ofNat ((i - 1) / 2)))] [])) _
          refine XS.aloadN Xj.here hx rfl (hb hby d5_102) rfl rfl ?_
          show Steps p.tables e below (Tj.setTop (mkF m 103 #[.val (.ref a1), .val (.double d1), .second, .val (.int p1), .val (.int (Int32.ofNat i)), .val (.long qd), .second, .val (.int (Int32.ofNat ((i - 1) / 2)))] [(.ref a1)])) _
          refine Jvm.OwnD.dloadN Xj.here hx rfl (hb hby d5_103) rfl ?_
          show Steps p.tables e below (Tj.setTop (mkF m 104 #[.val (.ref a1), .val (.double d1), .second, .val (.int p1), .val (.int (Int32.ofNat i)), .val (.long qd), .second, .val (.int (Int32.ofNat ((i - 1) / 2)))] [(.double d1), (.ref a1)])) _
          refine XS.lload Xj.here hx rfl (hb hby d5_104) rfl ?_
          show Steps p.tables e below (Tj.setTop (mkF m 106 #[.val (.ref a1), .val (.double d1), .second, .val (.int p1), .val (.int (Int32.ofNat i)), .val (.long qd), .second, .val (.int (Int32.ofNat ((i - 1) / 2)))] [(.long qd), (.double d1), (.ref a1)])) _
          refine XS.iload Xj.here hx rfl (hb hby d5_106) rfl ?_
          show Steps p.tables e below (Tj.setTop (mkF m 108 #[.val (.ref a1), .val (.double d1), .second, .val (.int p1), .val (.int (Int32.ofNat i)), .val (.long qd), .second, .val (.int (Int32.ofNat ((i - 1) / 2)))] [(.int (Int32.ofNat ((i - 1) / 2))), (.long qd), (.double d1), (.ref a1)])) _
          exact k
        obtain ⟨cq9, q9, q9x⟩ := (Qj.1).cell
        obtain ⟨_, _, ⟨T9, L9, k9, n9⟩, -, X9, ⟨Lc9, hQ9, l9, y9, z9⟩, st9⟩ := Xj.privateBack hx (y := (⟨"com/example/fragmint/fragmint/engine/DepartureQueue", "before", "(DJI)Z"⟩ : MethodName)) hown (mvT hZ (hw _ (List.mem_of_getElem? (i := 49) rfl))) (mvT hZ (hw _ (List.mem_of_getElem? (i := 50) rfl))) (mvT hZ (own_selP (y := (⟨"com/example/fragmint/fragmint/engine/DepartureQueue", "isEmpty", "()Z"⟩ : MethodName)) (z := (⟨"com/example/fragmint/fragmint/engine/DepartureQueue", "before", "(DJI)Z"⟩ : MethodName)) rfl (hw _ (List.mem_of_getElem? (i := 21) rfl)) (hw _ (List.mem_of_getElem? (i := 51) rfl)) (hw _ (List.mem_of_getElem? (i := 50) rfl)) (by decide))) (Cond.privateMethod_at (mvP hZ (hw _ (List.mem_of_getElem? (i := 51) rfl)) (args := #[]))) (mvT hZ (hw _ (List.mem_of_getElem? (i := 52) rfl))) (by decide) (backOf (W := 0) (rm9 l Z a0 hw [] a1 d1 qd (Int32.ofNat ((i - 1) / 2)) ta oa ha (n + 1) ((i - 1) / 2) hj n0 Zj Qj (by omega) rfl) hZ (hw _ (List.mem_of_getElem? (i := 52) rfl)) (hw _ (List.mem_of_getElem? (i := 2) rfl)) (by decide) (by decide)) (g := (mkF m 108 #[.val (.ref a1), .val (.double d1), .second, .val (.int p1), .val (.int (Int32.ofNat i)), .val (.long qd), .second, .val (.int (Int32.ofNat ((i - 1) / 2)))] [(.int (Int32.ofNat ((i - 1) / 2))), (.long qd), (.double d1), (.ref a1)])) rfl (by rw [hml]; rfl) (Steps.refl _) (a := a1) (by rw [ej]; exact q9) q9x (argsL := [(.double d1), (.long qd), (.int (Int32.ofNat ((i - 1) / 2)))]) (rest := []) (lenOf pd_rm5_1 rfl) rfl (by show 2 * 0 + _ ≤ _; exact Nat.le_of_eq rfl) (hb hby d5_108) (fun _ _ => ⟨rfl, ej, (by decide : 0 + 0 ≤ _), (by decide : 0 + 0 ≤ _)⟩)
        dsimp only [Pt.U, Pt.locs, Pt.cells, Pt.slots] at X9 l9 y9 z9 st9 hQ9
        subst l9 y9 z9
        obtain ⟨r9, rfl, N9q, eh9⟩ := hQ9
        have N9 := Fr.app Nj N9q
        refine OEnds.go (t' := T9.setTop (mkF m 111 #[.val (.ref a1), .val (.double d1), .second, .val (.int p1), .val (.int (Int32.ofNat i)), .val (.long qd), .second, .val (.int (Int32.ofNat ((i - 1) / 2)))] [(.int r9)])) (fun _ k => st9.trans k) ?_
        by_cases h111 : r9 = (0 : Int32)
        · refine OEnds.go (t' := T9.setTop (mkF m 114 #[.val (.ref a1), .val (.double d1), .second, .val (.int p1), .val (.int (Int32.ofNat i)), .val (.long qd), .second, .val (.int (Int32.ofNat ((i - 1) / 2)))] [])) (fun _ k => XS.ifNo X9.here hx rfl (hb hby d5_111) rfl ((if0 _ _).trans (teq h111).2) k) ?_
          refine OEnds.go (t' := T9.setTop (mkF m 132 #[.val (.ref a1), .val (.double d1), .second, .val (.int p1), .val (.int (Int32.ofNat i)), .val (.long qd), .second, .val (.int (Int32.ofNat ((i - 1) / 2)))] [])) (fun _ k => ?_) ?_
          · show Steps p.tables e below (T9.setTop (mkF m 114 #[.val (.ref a1), .val (.double d1), .second, .val (.int p1), .val (.int (Int32.ofNat i)), .val (.long qd), .second, .val (.int (Int32.ofNat ((i - 1) / 2)))] [])) _
            refine XS.goto X9.here hx rfl (pc0 := 114) (pc' := 132) rfl (hb hby d5_114) (by decide) (by decide) ?_
            show Steps p.tables e below (T9.setTop (mkF m 132 #[.val (.ref a1), .val (.double d1), .second, .val (.int p1), .val (.int (Int32.ofNat i)), .val (.long qd), .second, .val (.int (Int32.ofNat ((i - 1) / 2)))] [])) _
            exact k
          exact K132 i _ _ _ _ X9 eh9 N9 Zj Kj Qj hi
        · refine OEnds.go (t' := T9.setTop (mkF m 117 #[.val (.ref a1), .val (.double d1), .second, .val (.int p1), .val (.int (Int32.ofNat i)), .val (.long qd), .second, .val (.int (Int32.ofNat ((i - 1) / 2)))] [])) (fun _ k => XS.ifYes X9.here hx rfl (pc0 := 111) (pc' := 117) rfl (hb hby d5_111) rfl ((if0 _ _).trans (feq h111).2) (by decide) (by decide) k) ?_
          refine OEnds.go (t' := T9.setTop (mkF m 122 #[.val (.ref a1), .val (.double d1), .second, .val (.int p1), .val (.int (Int32.ofNat i)), .val (.long qd), .second, .val (.int (Int32.ofNat ((i - 1) / 2)))] [(.int (Int32.ofNat i)), (.int (Int32.ofNat ((i - 1) / 2))), (.ref a1)])) (fun _ k => ?_) ?_
          · show Steps p.tables e below (T9.setTop (mkF m 117 #[.val (.ref a1), .val (.double d1), .second, .val (.int p1), .val (.int (Int32.ofNat i)), .val (.long qd), .second, .val (.int (Int32.ofNat ((i - 1) / 2)))] [])) _
            refine XS.aloadN X9.here hx rfl (hb hby d5_117) rfl rfl ?_
            show Steps p.tables e below (T9.setTop (mkF m 118 #[.val (.ref a1), .val (.double d1), .second, .val (.int p1), .val (.int (Int32.ofNat i)), .val (.long qd), .second, .val (.int (Int32.ofNat ((i - 1) / 2)))] [(.ref a1)])) _
            refine XS.iload X9.here hx rfl (hb hby d5_118) rfl ?_
            show Steps p.tables e below (T9.setTop (mkF m 120 #[.val (.ref a1), .val (.double d1), .second, .val (.int p1), .val (.int (Int32.ofNat i)), .val (.long qd), .second, .val (.int (Int32.ofNat ((i - 1) / 2)))] [(.int (Int32.ofNat ((i - 1) / 2))), (.ref a1)])) _
            refine XS.iload X9.here hx rfl (hb hby d5_120) rfl ?_
            show Steps p.tables e below (T9.setTop (mkF m 122 #[.val (.ref a1), .val (.double d1), .second, .val (.int p1), .val (.int (Int32.ofNat i)), .val (.long qd), .second, .val (.int (Int32.ofNat ((i - 1) / 2)))] [(.int (Int32.ofNat i)), (.int (Int32.ofNat ((i - 1) / 2))), (.ref a1)])) _
            exact k
          obtain ⟨cq10, q10, q10x⟩ := (Qj.1).cell
          obtain ⟨_, _, ⟨T10, L10, k10, n10⟩, -, X10, ⟨Lc10, hQ10, l10, y10, z10⟩, st10⟩ := X9.privateBack hx (y := (⟨"com/example/fragmint/fragmint/engine/DepartureQueue", "move", "(II)V"⟩ : MethodName)) hown (mvT hZ (hw _ (List.mem_of_getElem? (i := 56) rfl))) (mvT hZ (hw _ (List.mem_of_getElem? (i := 57) rfl))) (mvT hZ (own_selP (y := (⟨"com/example/fragmint/fragmint/engine/DepartureQueue", "isEmpty", "()Z"⟩ : MethodName)) (z := (⟨"com/example/fragmint/fragmint/engine/DepartureQueue", "move", "(II)V"⟩ : MethodName)) rfl (hw _ (List.mem_of_getElem? (i := 21) rfl)) (hw _ (List.mem_of_getElem? (i := 58) rfl)) (hw _ (List.mem_of_getElem? (i := 57) rfl)) (by decide))) (Cond.privateMethod_at (mvP hZ (hw _ (List.mem_of_getElem? (i := 58) rfl)) (args := #[]))) (mvT hZ (hw _ (List.mem_of_getElem? (i := 59) rfl))) (by decide) (backOf (W := 0) (rm11 l Z a0 hw [] a1 (Int32.ofNat ((i - 1) / 2)) (Int32.ofNat i) ta oa ha (n + 1) ((i - 1) / 2) i hj n0 Zj Qj g_a1 g_ta g_oa g_ha (by omega) hi rfl rfl) hZ (hw _ (List.mem_of_getElem? (i := 59) rfl)) (hw _ (List.mem_of_getElem? (i := 2) rfl)) (by decide) (by decide)) (g := (mkF m 122 #[.val (.ref a1), .val (.double d1), .second, .val (.int p1), .val (.int (Int32.ofNat i)), .val (.long qd), .second, .val (.int (Int32.ofNat ((i - 1) / 2)))] [(.int (Int32.ofNat i)), (.int (Int32.ofNat ((i - 1) / 2))), (.ref a1)])) rfl (by rw [hml]; rfl) (Steps.refl _) (a := a1) (by rw [eh9]; exact q10) q10x (argsL := [(.int (Int32.ofNat ((i - 1) / 2))), (.int (Int32.ofNat i))]) (rest := []) (lenOf pd_rm5_2 rfl) rfl (by show 2 * 0 + _ ≤ _; exact Nat.le_of_eq rfl) (hb hby d5_122) (fun _ _ => ⟨rfl, eh9, (by decide : 0 + 0 ≤ _), (by decide : 0 + 0 ≤ _)⟩)
          dsimp only [Pt.U, Pt.locs, Pt.cells, Pt.slots] at X10 l10 y10 z10 st10 hQ10
          subst l10 y10 z10
          obtain ⟨rfl, N10q, Kc10, Qx10⟩ := hQ10
          have N10 := Fr.app N9 N10q
          have Z10 : n0 ≤ T10.heap.size := Nat.le_trans Zj Kc10.1
          have K10 := Kj.trans Kc10 (allS (Or.inl (List.mem_of_getElem? (i := 0) rfl)) (allS (Or.inl (List.mem_of_getElem? (i := 1) rfl)) (allS (Or.inl (List.mem_of_getElem? (i := 2) rfl)) (allS (Or.inl (List.mem_of_getElem? (i := 3) rfl)) all0))))
          refine OEnds.go (t' := T10.setTop (mkF m 125 #[.val (.ref a1), .val (.double d1), .second, .val (.int p1), .val (.int (Int32.ofNat i)), .val (.long qd), .second, .val (.int (Int32.ofNat ((i - 1) / 2)))] [])) (fun _ k => st10.trans k) ?_
          refine OEnds.go (t' := T10.setTop (mkF m 89 #[.val (.ref a1), .val (.double d1), .second, .val (.int p1), .val (.int (Int32.ofNat ((i - 1) / 2))), .val (.long qd), .second, .val (.int (Int32.ofNat ((i - 1) / 2)))] [])) (fun _ k => ?_) ?_
          · show Steps p.tables e below (T10.setTop (mkF m 125 #[.val (.ref a1), .val (.double d1), .second, .val (.int p1), .val (.int (Int32.ofNat i)), .val (.long qd), .second, .val (.int (Int32.ofNat ((i - 1) / 2)))] [])) _
            refine XS.iload X10.here hx rfl (hb hby d5_125) rfl ?_
            show Steps p.tables e below (T10.setTop (mkF m 127 #[.val (.ref a1), .val (.double d1), .second, .val (.int p1), .val (.int (Int32.ofNat i)), .val (.long qd), .second, .val (.int (Int32.ofNat ((i - 1) / 2)))] [(.int (Int32.ofNat ((i - 1) / 2)))])) _
            refine XS.istore X10.here hx rfl (hb hby d5_127) rfl (l' := #[.val (.ref a1), .val (.double d1), .second, .val (.int p1), .val (.int (Int32.ofNat ((i - 1) / 2))), .val (.long qd), .second, .val (.int (Int32.ofNat ((i - 1) / 2)))]) rfl ?_
            show Steps p.tables e below (T10.setTop (mkF m 129 #[.val (.ref a1), .val (.double d1), .second, .val (.int p1), .val (.int (Int32.ofNat ((i - 1) / 2))), .val (.long qd), .second, .val (.int (Int32.ofNat ((i - 1) / 2)))] [])) _
            refine XS.goto X10.here hx rfl (pc0 := 129) (pc' := 89) rfl (hb hby d5_129) (by decide) (by decide) ?_
            show Steps p.tables e below (T10.setTop (mkF m 89 #[.val (.ref a1), .val (.double d1), .second, .val (.int p1), .val (.int (Int32.ofNat ((i - 1) / 2))), .val (.long qd), .second, .val (.int (Int32.ofNat ((i - 1) / 2)))] [])) _
            exact k
          exact ih ((i - 1) / 2) _ _ _ _ X10 rfl N10 Z10 K10 Qx10 (by omega) (by omega) (Or.inr ⟨_, rfl⟩)
      · refine OEnds.go (t' := Tj.setTop (mkF m 132 #[.val (.ref a1), .val (.double d1), .second, .val (.int p1), .val (.int (Int32.ofNat i)), .val (.long qd), .second, s7] [])) (fun _ k => XS.ifYes Xj.here hx rfl (pc0 := 91) (pc' := 132) rfl (hb hby d5_91) rfl ((if0 _ _).trans (flt h91).2.2.2) (by decide) (by decide) k) ?_
        exact K132 i _ _ _ _ Xj ej Nj Zj Kj Qj hi
  exact K89 n n _ _ _ .unset X7 e7 N7 Z7 K7 ⟨E_a1, F_times_a1, F_order_a1, F_handles_a1, F_size_a1, ⟨_, F_added_a1⟩, A_ta, A_oa, A_ha, n1, n2, n3⟩ (Nat.le_refl _) (by omega) (Or.inl rfl)
theorem d7_0 : decode prog_11_method_5_code 0 = .ok (.aload_n 0, 1) := by decide +kernel
theorem d7_1 : decode prog_11_method_5_code 1 = .ok (.invokevirtual 53, 3) := by decide +kernel
theorem d7_4 : decode prog_11_method_5_code 4 = .ok (.aload_n 0, 1) := by decide +kernel
theorem d7_5 : decode prog_11_method_5_code 5 = .ok (.getfield 17, 3) := by decide +kernel
theorem d7_8 : decode prog_11_method_5_code 8 = .ok (.iconst 0, 1) := by decide +kernel
theorem d7_9 : decode prog_11_method_5_code 9 = .ok (.iaload, 1) := by decide +kernel
theorem d7_10 : decode prog_11_method_5_code 10 = .ok (.istore_n 1, 1) := by decide +kernel
theorem d7_11 : decode prog_11_method_5_code 11 = .ok (.aload_n 0, 1) := by decide +kernel
theorem d7_12 : decode prog_11_method_5_code 12 = .ok (.dup, 1) := by decide +kernel
theorem d7_13 : decode prog_11_method_5_code 13 = .ok (.getfield 21, 3) := by decide +kernel
theorem d7_16 : decode prog_11_method_5_code 16 = .ok (.iconst 1, 1) := by decide +kernel
theorem d7_17 : decode prog_11_method_5_code 17 = .ok (.isub, 1) := by decide +kernel
theorem d7_18 : decode prog_11_method_5_code 18 = .ok (.putfield 21, 3) := by decide +kernel
theorem d7_21 : decode prog_11_method_5_code 21 = .ok (.aload_n 0, 1) := by decide +kernel
theorem d7_22 : decode prog_11_method_5_code 22 = .ok (.getfield 7, 3) := by decide +kernel
theorem d7_25 : decode prog_11_method_5_code 25 = .ok (.aload_n 0, 1) := by decide +kernel
theorem d7_26 : decode prog_11_method_5_code 26 = .ok (.getfield 21, 3) := by decide +kernel
theorem d7_29 : decode prog_11_method_5_code 29 = .ok (.daload, 1) := by decide +kernel
theorem d7_30 : decode prog_11_method_5_code 30 = .ok (.dstore_n 2, 1) := by decide +kernel
theorem d7_31 : decode prog_11_method_5_code 31 = .ok (.aload_n 0, 1) := by decide +kernel
theorem d7_32 : decode prog_11_method_5_code 32 = .ok (.getfield 13, 3) := by decide +kernel
theorem d7_35 : decode prog_11_method_5_code 35 = .ok (.aload_n 0, 1) := by decide +kernel
theorem d7_36 : decode prog_11_method_5_code 36 = .ok (.getfield 21, 3) := by decide +kernel
theorem d7_39 : decode prog_11_method_5_code 39 = .ok (.laload, 1) := by decide +kernel
theorem d7_40 : decode prog_11_method_5_code 40 = .ok (.lstore 4, 2) := by decide +kernel
theorem d7_42 : decode prog_11_method_5_code 42 = .ok (.aload_n 0, 1) := by decide +kernel
theorem d7_43 : decode prog_11_method_5_code 43 = .ok (.getfield 17, 3) := by decide +kernel
theorem d7_46 : decode prog_11_method_5_code 46 = .ok (.aload_n 0, 1) := by decide +kernel
theorem d7_47 : decode prog_11_method_5_code 47 = .ok (.getfield 21, 3) := by decide +kernel
theorem d7_50 : decode prog_11_method_5_code 50 = .ok (.iaload, 1) := by decide +kernel
theorem d7_51 : decode prog_11_method_5_code 51 = .ok (.istore 6, 2) := by decide +kernel
theorem d7_53 : decode prog_11_method_5_code 53 = .ok (.iconst 0, 1) := by decide +kernel
theorem d7_54 : decode prog_11_method_5_code 54 = .ok (.istore 7, 2) := by decide +kernel
theorem d7_56 : decode prog_11_method_5_code 56 = .ok (.iconst 1, 1) := by decide +kernel
theorem d7_57 : decode prog_11_method_5_code 57 = .ok (.istore 8, 2) := by decide +kernel
theorem d7_59 : decode prog_11_method_5_code 59 = .ok (.iload 8, 2) := by decide +kernel
theorem d7_61 : decode prog_11_method_5_code 61 = .ok (.aload_n 0, 1) := by decide +kernel
theorem d7_62 : decode prog_11_method_5_code 62 = .ok (.getfield 21, 3) := by decide +kernel
theorem d7_65 : decode prog_11_method_5_code 65 = .ok (.if_icmp .ge 93, 3) := by decide +kernel
theorem d7_68 : decode prog_11_method_5_code 68 = .ok (.iload 8, 2) := by decide +kernel
theorem d7_70 : decode prog_11_method_5_code 70 = .ok (.iconst 1, 1) := by decide +kernel
theorem d7_71 : decode prog_11_method_5_code 71 = .ok (.iadd, 1) := by decide +kernel
theorem d7_72 : decode prog_11_method_5_code 72 = .ok (.aload_n 0, 1) := by decide +kernel
theorem d7_73 : decode prog_11_method_5_code 73 = .ok (.getfield 21, 3) := by decide +kernel
theorem d7_76 : decode prog_11_method_5_code 76 = .ok (.if_icmp .ge 33, 3) := by decide +kernel
theorem d7_79 : decode prog_11_method_5_code 79 = .ok (.aload_n 0, 1) := by decide +kernel
theorem d7_80 : decode prog_11_method_5_code 80 = .ok (.aload_n 0, 1) := by decide +kernel
theorem d7_81 : decode prog_11_method_5_code 81 = .ok (.getfield 7, 3) := by decide +kernel
theorem d7_84 : decode prog_11_method_5_code 84 = .ok (.iload 8, 2) := by decide +kernel
theorem d7_86 : decode prog_11_method_5_code 86 = .ok (.iconst 1, 1) := by decide +kernel
theorem d7_87 : decode prog_11_method_5_code 87 = .ok (.iadd, 1) := by decide +kernel
theorem d7_88 : decode prog_11_method_5_code 88 = .ok (.daload, 1) := by decide +kernel
theorem d7_89 : decode prog_11_method_5_code 89 = .ok (.aload_n 0, 1) := by decide +kernel
theorem d7_90 : decode prog_11_method_5_code 90 = .ok (.getfield 13, 3) := by decide +kernel
theorem d7_93 : decode prog_11_method_5_code 93 = .ok (.iload 8, 2) := by decide +kernel
theorem d7_95 : decode prog_11_method_5_code 95 = .ok (.iconst 1, 1) := by decide +kernel
theorem d7_96 : decode prog_11_method_5_code 96 = .ok (.iadd, 1) := by decide +kernel
theorem d7_97 : decode prog_11_method_5_code 97 = .ok (.laload, 1) := by decide +kernel
theorem d7_98 : decode prog_11_method_5_code 98 = .ok (.iload 8, 2) := by decide +kernel
theorem d7_100 : decode prog_11_method_5_code 100 = .ok (.invokevirtual 41, 3) := by decide +kernel
theorem d7_103 : decode prog_11_method_5_code 103 = .ok (.ifCond .eq 6, 3) := by decide +kernel
theorem d7_106 : decode prog_11_method_5_code 106 = .ok (.iinc 8 1, 3) := by decide +kernel
theorem d7_109 : decode prog_11_method_5_code 109 = .ok (.aload_n 0, 1) := by decide +kernel
theorem d7_110 : decode prog_11_method_5_code 110 = .ok (.getfield 7, 3) := by decide +kernel
theorem d7_113 : decode prog_11_method_5_code 113 = .ok (.iload 8, 2) := by decide +kernel
theorem d7_115 : decode prog_11_method_5_code 115 = .ok (.daload, 1) := by decide +kernel
theorem d7_116 : decode prog_11_method_5_code 116 = .ok (.aload_n 0, 1) := by decide +kernel
theorem d7_117 : decode prog_11_method_5_code 117 = .ok (.getfield 13, 3) := by decide +kernel
theorem d7_120 : decode prog_11_method_5_code 120 = .ok (.iload 8, 2) := by decide +kernel
theorem d7_122 : decode prog_11_method_5_code 122 = .ok (.laload, 1) := by decide +kernel
theorem d7_123 : decode prog_11_method_5_code 123 = .ok (.dload_n 2, 1) := by decide +kernel
theorem d7_124 : decode prog_11_method_5_code 124 = .ok (.lload 4, 2) := by decide +kernel
theorem d7_126 : decode prog_11_method_5_code 126 = .ok (.invokestatic 56, 3) := by decide +kernel
theorem d7_129 : decode prog_11_method_5_code 129 = .ok (.ifCond .ne 6, 3) := by decide +kernel
theorem d7_132 : decode prog_11_method_5_code 132 = .ok (.goto 26, 3) := by decide +kernel
theorem d7_135 : decode prog_11_method_5_code 135 = .ok (.aload_n 0, 1) := by decide +kernel
theorem d7_136 : decode prog_11_method_5_code 136 = .ok (.iload 8, 2) := by decide +kernel
theorem d7_138 : decode prog_11_method_5_code 138 = .ok (.iload 7, 2) := by decide +kernel
theorem d7_140 : decode prog_11_method_5_code 140 = .ok (.invokevirtual 45, 3) := by decide +kernel
theorem d7_143 : decode prog_11_method_5_code 143 = .ok (.iload 8, 2) := by decide +kernel
theorem d7_145 : decode prog_11_method_5_code 145 = .ok (.istore 7, 2) := by decide +kernel
theorem d7_147 : decode prog_11_method_5_code 147 = .ok (.iconst 2, 1) := by decide +kernel
theorem d7_148 : decode prog_11_method_5_code 148 = .ok (.iload 7, 2) := by decide +kernel
theorem d7_150 : decode prog_11_method_5_code 150 = .ok (.imul, 1) := by decide +kernel
theorem d7_151 : decode prog_11_method_5_code 151 = .ok (.iconst 1, 1) := by decide +kernel
theorem d7_152 : decode prog_11_method_5_code 152 = .ok (.iadd, 1) := by decide +kernel
theorem d7_153 : decode prog_11_method_5_code 153 = .ok (.istore 8, 2) := by decide +kernel
theorem d7_155 : decode prog_11_method_5_code 155 = .ok (.goto (-96), 3) := by decide +kernel
theorem d7_158 : decode prog_11_method_5_code 158 = .ok (.aload_n 0, 1) := by decide +kernel
theorem d7_159 : decode prog_11_method_5_code 159 = .ok (.iload 7, 2) := by decide +kernel
theorem d7_161 : decode prog_11_method_5_code 161 = .ok (.dload_n 2, 1) := by decide +kernel
theorem d7_162 : decode prog_11_method_5_code 162 = .ok (.lload 4, 2) := by decide +kernel
theorem d7_164 : decode prog_11_method_5_code 164 = .ok (.iload 6, 2) := by decide +kernel
theorem d7_166 : decode prog_11_method_5_code 166 = .ok (.invokevirtual 49, 3) := by decide +kernel
theorem d7_169 : decode prog_11_method_5_code 169 = .ok (.iload_n 1, 1) := by decide +kernel
theorem d7_170 : decode prog_11_method_5_code 170 = .ok (.ireturn, 1) := by decide +kernel
theorem pn_7 : plainName "com/example/fragmint/fragmint/engine/DepartureQueue" = true := by first | (simp [plainName, overriddenIn]; done) | decide +kernel
theorem pd_rm7_0 : parseMethodDescriptor "()V" = some ⟨[], none⟩ := by decide +kernel
theorem pd_rm7_1 : parseMethodDescriptor "(IDJI)V" = some ⟨[.int, .double, .long, .int], none⟩ := by decide +kernel
theorem pd_rm7_2 : parseMethodDescriptor "(DJDJ)Z" = some ⟨[.double, .long, .double, .long], some .boolean⟩ := by decide +kernel
theorem pd_rm7_3 : parseMethodDescriptor "(II)V" = some ⟨[.int, .int], none⟩ := by decide +kernel
theorem pd_rm7_4 : parseMethodDescriptor "(DJI)Z" = some ⟨[.double, .long, .int], some .boolean⟩ := by decide +kernel
theorem ef_rm7 (m : MethodId) (a1 : Addr) : entryFrame m #[(.ref a1)] 9 = mkF m 0 #[.val (.ref a1), .unset, .unset, .unset, .unset, .unset, .unset, .unset, .unset] [] := by first | (simp [entryFrame, mkF, argsToLocals, Value.category]; done) | rfl
def Q7 (Z : State) (a1 : Addr) (ta : Addr) (oa : Addr) (ha : Addr) (n : Nat) (h0 : Heap) (n0 : Nat) (v : Option Value) (h : Heap) (L : List Loc) : Prop := ∃ r : Int32, v = some (.int r) ∧ Fr n0 L ∧ Keep h0 h [a1, ta, oa, ha] ∧ own_Q Z h a1 ta oa ha n
set_option maxRecDepth 65536 in
set_option maxHeartbeats 40000000 in
theorem rm7 (l : Launch) (Z : State) (a0 : Array Value) (hw : ∀ d ∈ tables_1, d.before a0 Z = true) (ws : List Jvm.Cond) (a1 : Addr) (ta : Addr) (oa : Addr) (ha : Addr) (n : Nat) (h0 : Heap) (n0 : Nat) (Z0 : n0 ≤ h0.size) (Q1 : own_Q Z h0 a1 ta oa ha (n + 1)) (g_a1 : n0 ≤ a1) (g_ta : n0 ≤ ta) (g_oa : n0 ≤ oa) (g_ha : n0 ≤ ha) (hn : n < 15) :
    MetFree l (⟨"com/example/fragmint/fragmint/engine/DepartureQueue", "removeNext", "()I"⟩ : MethodName) (head1 (Jvm.Cond.code (⟨"com/example/fragmint/fragmint/engine/DepartureQueue", "removeNext", "()I"⟩ : MethodName) prog_11_method_5_code 9 (some .int) :: ws) ({ frames := 2, cells := 0, slots := 0, locals := 36 } : Room)) (fun a U => a = #[(.ref a1)] ∧ Z.Warmed39 U.vm ∧ U.heap = h0) (fun _ _ _ _ _ => True) (fun _ U o U' => ∃ v L, o = .returned v ∧ Q7 Z a1 ta oa ha n h0 n0 v U'.heap L ∧ FrameEnd U o U' L ({ frames := 2, cells := 0, slots := 0, locals := 36 } : Room).cells ({ frames := 2, cells := 0, slots := 0, locals := 36 } : Room).slots) := by
  refine MetFree.of_bodySF (plainFor_of_name pn_7) hisR ?_
  intro p e s m args below meth c s₁ Bd hml0 hP hK
  obtain ⟨rfl, hZ, hh⟩ := hP
  have hx := Bd.exec
  have hby := Bd.bytes
  have hml : c.maxLocals = 9 := hml0
  have hown : s.vm.findClass "com/example/fragmint/fragmint/engine/DepartureQueue" = some m.cls := findClass_of_methodNamed Bd.named
  have hnm := (name_of_methodNamed Bd.named Bd.method).1
  have hlk := BodyLoose.notSynchronized Bd
  have hrt := Bd.returns
  have X0 : Stand p l e ({ frames := 2, cells := 0, slots := 0, locals := 36 } : Room) s m #[(.ref a1)] below meth c s₁ [] 0 0 := Stand.of_body Bd
  have e0 : s₁.heap = h0 := by rw [← hh, Bd.state]; rfl
  have N0 := Fr.nil n0
  show OEnds p e below s (Q7 Z a1 ta oa ha n h0 n0) ({ frames := 2, cells := 0, slots := 0, locals := 36 } : Room).cells ({ frames := 2, cells := 0, slots := 0, locals := 36 } : Room).slots (s₁.setTop (entryFrame m #[(.ref a1)] 9))
  refine OEnds.go (t' := s₁.setTop (mkF m 0 #[.val (.ref a1), .unset, .unset, .unset, .unset, .unset, .unset, .unset, .unset] [])) (fun t k => castTop (ef_rm7 m a1) k) ?_
  refine OEnds.go (t' := s₁.setTop (mkF m 1 #[.val (.ref a1), .unset, .unset, .unset, .unset, .unset, .unset, .unset, .unset] [(.ref a1)])) (fun _ k => ?_) ?_
  · show Steps p.tables e below (s₁.setTop (mkF m 0 #[.val (.ref a1), .unset, .unset, .unset, .unset, .unset, .unset, .unset, .unset] [])) _
    refine XS.aloadN X0.here hx rfl (hb hby d7_0) rfl rfl ?_
    show Steps p.tables e below (s₁.setTop (mkF m 1 #[.val (.ref a1), .unset, .unset, .unset, .unset, .unset, .unset, .unset, .unset] [(.ref a1)])) _
    exact k
  obtain ⟨cq1, q1, q1x⟩ := (Q1.1).cell
  obtain ⟨_, _, ⟨T1, L1, k1, n1⟩, -, X1, ⟨Lc1, hQ1, l1, y1, z1⟩, st1⟩ := X0.privateBack hx (y := (⟨"com/example/fragmint/fragmint/engine/DepartureQueue", "checkNotEmpty", "()V"⟩ : MethodName)) hown (mvT hZ (hw _ (List.mem_of_getElem? (i := 45) rfl))) (mvT hZ (hw _ (List.mem_of_getElem? (i := 46) rfl))) (mvT hZ (own_selP (y := (⟨"com/example/fragmint/fragmint/engine/DepartureQueue", "isEmpty", "()Z"⟩ : MethodName)) (z := (⟨"com/example/fragmint/fragmint/engine/DepartureQueue", "checkNotEmpty", "()V"⟩ : MethodName)) rfl (hw _ (List.mem_of_getElem? (i := 21) rfl)) (hw _ (List.mem_of_getElem? (i := 47) rfl)) (hw _ (List.mem_of_getElem? (i := 46) rfl)) (by decide))) (Cond.privateMethod_at (mvP hZ (hw _ (List.mem_of_getElem? (i := 47) rfl)) (args := #[]))) (mvT hZ (hw _ (List.mem_of_getElem? (i := 48) rfl))) (by decide) (backOf (W := 0) (rm8 l Z a0 hw [] a1 ta oa ha (n + 1) h0 n0 Z0 Q1 (fun q => absurd (own_inj (i := n + 1) (j := 0) (by omega) (by decide) q) (by omega))) hZ (hw _ (List.mem_of_getElem? (i := 48) rfl)) (hw _ (List.mem_of_getElem? (i := 2) rfl)) (by decide) (by decide)) (g := (mkF m 1 #[.val (.ref a1), .unset, .unset, .unset, .unset, .unset, .unset, .unset, .unset] [(.ref a1)])) rfl (by rw [hml]; rfl) (Steps.refl _) (a := a1) (by rw [e0]; exact q1) q1x (argsL := []) (rest := []) (lenOf pd_rm7_0 rfl) rfl (by show 2 * 0 + _ ≤ _; exact Nat.le_of_eq rfl) (hb hby d7_1) (fun _ _ => ⟨rfl, e0, (by decide : 0 + 0 ≤ _), (by decide : 0 + 0 ≤ _)⟩)
  dsimp only [Pt.U, Pt.locs, Pt.cells, Pt.slots] at X1 l1 y1 z1 st1 hQ1
  subst l1 y1 z1
  obtain ⟨rfl, N1q, eh⟩ := hQ1
  have N1 := Fr.app N0 N1q
  have eh1 := eh
  refine OEnds.go (t' := T1.setTop (mkF m 4 #[.val (.ref a1), .unset, .unset, .unset, .unset, .unset, .unset, .unset, .unset] [])) (fun _ k => st1.trans k) ?_
  obtain ⟨E_a1, F_times_a1, F_order_a1, F_handles_a1, F_size_a1, ⟨qd, F_added_a1⟩, A_ta, A_oa, A_ha, n1, n2, n3⟩ := Q1
  have ne_a1_ta : a1 ≠ ta := A_ta.ne E_a1 (hw _ (List.mem_of_getElem? (i := 1) rfl))
  have ne_a1_oa : a1 ≠ oa := A_oa.ne E_a1 (hw _ (List.mem_of_getElem? (i := 1) rfl))
  have ne_a1_ha : a1 ≠ ha := A_ha.ne E_a1 (hw _ (List.mem_of_getElem? (i := 1) rfl))
  refine OEnds.go (t' := T1.setTop (mkF m 5 #[.val (.ref a1), .unset, .unset, .unset, .unset, .unset, .unset, .unset, .unset] [(.ref a1)])) (fun _ k => ?_) ?_
  · show Steps p.tables e below (T1.setTop (mkF m 4 #[.val (.ref a1), .unset, .unset, .unset, .unset, .unset, .unset, .unset, .unset] [])) _
    refine XS.aloadN X1.here hx rfl (hb hby d7_4) rfl rfl ?_
    show Steps p.tables e below (T1.setTop (mkF m 5 #[.val (.ref a1), .unset, .unset, .unset, .unset, .unset, .unset, .unset, .unset] [(.ref a1)])) _
    exact k
  obtain ⟨T2, X2, e2, st2⟩ := getF X1 hx hZ hown (host := "") (Or.inl (hw _ (List.mem_of_getElem? (i := 16) rfl))) Via.refl eh1 F_handles_a1 (g := (mkF m 5 #[.val (.ref a1), .unset, .unset, .unset, .unset, .unset, .unset, .unset, .unset] [(.ref a1)])) rfl rfl (hb hby d7_5)
  refine OEnds.go (t' := T2.setTop (mkF m 8 #[.val (.ref a1), .unset, .unset, .unset, .unset, .unset, .unset, .unset, .unset] [(.ref ha)])) (fun _ k => st2 _ k) ?_
  refine OEnds.go (t' := T2.setTop (mkF m 9 #[.val (.ref a1), .unset, .unset, .unset, .unset, .unset, .unset, .unset, .unset] [(.int (0 : Int32)), (.ref ha)])) (fun _ k => ?_) ?_
  · show Steps p.tables e below (T2.setTop (mkF m 8 #[.val (.ref a1), .unset, .unset, .unset, .unset, .unset, .unset, .unset, .unset] [(.ref ha)])) _
    refine XS.iconst X2.here hx rfl (hb hby d7_8) ?_
    show Steps p.tables e below (T2.setTop (mkF m 9 #[.val (.ref a1), .unset, .unset, .unset, .unset, .unset, .unset, .unset, .unset] [(.int (0 : Int32)), (.ref ha)])) _
    exact k
  obtain ⟨y1, hy1⟩ := (A_ha).atI (i := 0) (by decide)
  obtain ⟨cl3, Ar3, hin3, hat3⟩ := hy1
  refine OEnds.go (t' := T2.setTop (mkF m 10 #[.val (.ref a1), .unset, .unset, .unset, .unset, .unset, .unset, .unset, .unset] [(.int y1)])) (fun _ k => X2.iaload hx (j := (0 : Int32)) (v := (.int y1)) (by rw [e2]; exact Ar3.1) (State.isArrayOf_alike hZ.alike Ar3.2.1) Ar3.2.2 hin3 hat3 (g := (mkF m 9 #[.val (.ref a1), .unset, .unset, .unset, .unset, .unset, .unset, .unset, .unset] [(.int (0 : Int32)), (.ref ha)])) rfl rfl (hb hby d7_9) _ k) ?_
  refine OEnds.go (t' := T2.setTop (mkF m 13 #[.val (.ref a1), .val (.int y1), .unset, .unset, .unset, .unset, .unset, .unset, .unset] [(.ref a1), (.ref a1)])) (fun _ k => ?_) ?_
  · show Steps p.tables e below (T2.setTop (mkF m 10 #[.val (.ref a1), .unset, .unset, .unset, .unset, .unset, .unset, .unset, .unset] [(.int y1)])) _
    refine XS.istoreN X2.here hx rfl (hb hby d7_10) rfl (l' := #[.val (.ref a1), .val (.int y1), .unset, .unset, .unset, .unset, .unset, .unset, .unset]) rfl ?_
    show Steps p.tables e below (T2.setTop (mkF m 11 #[.val (.ref a1), .val (.int y1), .unset, .unset, .unset, .unset, .unset, .unset, .unset] [])) _
    refine XS.aloadN X2.here hx rfl (hb hby d7_11) rfl rfl ?_
    show Steps p.tables e below (T2.setTop (mkF m 12 #[.val (.ref a1), .val (.int y1), .unset, .unset, .unset, .unset, .unset, .unset, .unset] [(.ref a1)])) _
    refine XS.dup X2.here hx rfl (hb hby d7_12) rfl rfl ?_
    show Steps p.tables e below (T2.setTop (mkF m 13 #[.val (.ref a1), .val (.int y1), .unset, .unset, .unset, .unset, .unset, .unset, .unset] [(.ref a1), (.ref a1)])) _
    exact k
  obtain ⟨T4, X4, e4, st4⟩ := getF X2 hx hZ hown (host := "") (Or.inl (hw _ (List.mem_of_getElem? (i := 23) rfl))) Via.refl e2 F_size_a1 (g := (mkF m 13 #[.val (.ref a1), .val (.int y1), .unset, .unset, .unset, .unset, .unset, .unset, .unset] [(.ref a1), (.ref a1)])) rfl rfl (hb hby d7_13)
  refine OEnds.go (t' := T4.setTop (mkF m 16 #[.val (.ref a1), .val (.int y1), .unset, .unset, .unset, .unset, .unset, .unset, .unset] [(.int (Int32.ofNat (n + 1))), (.ref a1)])) (fun _ k => st4 _ k) ?_
  refine OEnds.go (t' := T4.setTop (mkF m 18 #[.val (.ref a1), .val (.int y1), .unset, .unset, .unset, .unset, .unset, .unset, .unset] [(.int ((Int32.ofNat (n + 1)) - (1 : Int32))), (.ref a1)])) (fun _ k => ?_) ?_
  · show Steps p.tables e below (T4.setTop (mkF m 16 #[.val (.ref a1), .val (.int y1), .unset, .unset, .unset, .unset, .unset, .unset, .unset] [(.int (Int32.ofNat (n + 1))), (.ref a1)])) _
    refine XS.iconst X4.here hx rfl (hb hby d7_16) ?_
    show Steps p.tables e below (T4.setTop (mkF m 17 #[.val (.ref a1), .val (.int y1), .unset, .unset, .unset, .unset, .unset, .unset, .unset] [(.int (1 : Int32)), (.int (Int32.ofNat (n + 1))), (.ref a1)])) _
    refine XS.isub X4.here hx rfl (hb hby d7_17) rfl ?_
    show Steps p.tables e below (T4.setTop (mkF m 18 #[.val (.ref a1), .val (.int y1), .unset, .unset, .unset, .unset, .unset, .unset, .unset] [(.int ((Int32.ofNat (n + 1)) - (1 : Int32))), (.ref a1)])) _
    exact k
  obtain ⟨T5, h5, X5, e5, W5, st5⟩ := putF X4 hx hZ hown (host := "") (Or.inl (hw _ (List.mem_of_getElem? (i := 23) rfl))) Via.refl e4 F_size_a1 E_a1 (Or.inl (hw _ (List.mem_of_getElem? (i := 24) rfl))) (hw _ (List.mem_of_getElem? (i := 1) rfl)) (ty := .int) (by decide) rfl rfl (g := (mkF m 18 #[.val (.ref a1), .val (.int y1), .unset, .unset, .unset, .unset, .unset, .unset, .unset] [(.int ((Int32.ofNat (n + 1)) - (1 : Int32))), (.ref a1)])) rfl rfl (hb hby d7_18)
  have N5 := Fr.snoc X5 N1 g_a1
  have E_a1 := E_a1.wr W5
  have F_times_a1 := F_times_a1.other W5 (Or.inr (slot_ne (Or.inl (hw _ (List.mem_of_getElem? (i := 11) rfl))) (Or.inl (hw _ (List.mem_of_getElem? (i := 24) rfl))) (by decide) (t := (.array .double)) (t' := .int) (by decide) (by decide)))
  have F_order_a1 := F_order_a1.other W5 (Or.inr (slot_ne (Or.inl (hw _ (List.mem_of_getElem? (i := 14) rfl))) (Or.inl (hw _ (List.mem_of_getElem? (i := 24) rfl))) (by decide) (t := (.array .long)) (t' := .int) (by decide) (by decide)))
  have F_handles_a1 := F_handles_a1.other W5 (Or.inr (slot_ne (Or.inl (hw _ (List.mem_of_getElem? (i := 17) rfl))) (Or.inl (hw _ (List.mem_of_getElem? (i := 24) rfl))) (by decide) (t := (.array .int)) (t' := .int) (by decide) (by decide)))
  have F_size_a1 := F_size_a1.same W5
  have F_added_a1 := F_added_a1.other W5 (Or.inr (slot_ne (Or.inl (hw _ (List.mem_of_getElem? (i := 35) rfl))) (Or.inl (hw _ (List.mem_of_getElem? (i := 24) rfl))) (by decide) (t := .long) (t' := .int) (by decide) (by decide)))
  have A_ta := A_ta.other W5 (Ne.symm ne_a1_ta)
  have A_oa := A_oa.other W5 (Ne.symm ne_a1_oa)
  have A_ha := A_ha.other W5 (Ne.symm ne_a1_ha)
  have Z5 : n0 ≤ h5.size := Nat.le_trans Z0 (Keep.of_wr W5).1
  have K5 := (Keep.refl h0 [a1, ta, oa, ha]).wr W5 (Or.inl (List.mem_of_getElem? (i := 0) rfl))
  refine OEnds.go (t' := T5.setTop (mkF m 21 #[.val (.ref a1), .val (.int y1), .unset, .unset, .unset, .unset, .unset, .unset, .unset] [])) (fun _ k => st5 _ k) ?_
  rw [own_pred] at F_size_a1
  refine OEnds.go (t' := T5.setTop (mkF m 22 #[.val (.ref a1), .val (.int y1), .unset, .unset, .unset, .unset, .unset, .unset, .unset] [(.ref a1)])) (fun _ k => ?_) ?_
  · show Steps p.tables e below (T5.setTop (mkF m 21 #[.val (.ref a1), .val (.int y1), .unset, .unset, .unset, .unset, .unset, .unset, .unset] [])) _
    refine XS.aloadN X5.here hx rfl (hb hby d7_21) rfl rfl ?_
    show Steps p.tables e below (T5.setTop (mkF m 22 #[.val (.ref a1), .val (.int y1), .unset, .unset, .unset, .unset, .unset, .unset, .unset] [(.ref a1)])) _
    exact k
  obtain ⟨T6, X6, e6, st6⟩ := getF X5 hx hZ hown (host := "") (Or.inl (hw _ (List.mem_of_getElem? (i := 10) rfl))) Via.refl e5 F_times_a1 (g := (mkF m 22 #[.val (.ref a1), .val (.int y1), .unset, .unset, .unset, .unset, .unset, .unset, .unset] [(.ref a1)])) rfl rfl (hb hby d7_22)
  refine OEnds.go (t' := T6.setTop (mkF m 25 #[.val (.ref a1), .val (.int y1), .unset, .unset, .unset, .unset, .unset, .unset, .unset] [(.ref ta)])) (fun _ k => st6 _ k) ?_
  refine OEnds.go (t' := T6.setTop (mkF m 26 #[.val (.ref a1), .val (.int y1), .unset, .unset, .unset, .unset, .unset, .unset, .unset] [(.ref a1), (.ref ta)])) (fun _ k => ?_) ?_
  · show Steps p.tables e below (T6.setTop (mkF m 25 #[.val (.ref a1), .val (.int y1), .unset, .unset, .unset, .unset, .unset, .unset, .unset] [(.ref ta)])) _
    refine XS.aloadN X6.here hx rfl (hb hby d7_25) rfl rfl ?_
    show Steps p.tables e below (T6.setTop (mkF m 26 #[.val (.ref a1), .val (.int y1), .unset, .unset, .unset, .unset, .unset, .unset, .unset] [(.ref a1), (.ref ta)])) _
    exact k
  obtain ⟨T7, X7, e7, st7⟩ := getF X6 hx hZ hown (host := "") (Or.inl (hw _ (List.mem_of_getElem? (i := 23) rfl))) Via.refl e6 F_size_a1 (g := (mkF m 26 #[.val (.ref a1), .val (.int y1), .unset, .unset, .unset, .unset, .unset, .unset, .unset] [(.ref a1), (.ref ta)])) rfl rfl (hb hby d7_26)
  refine OEnds.go (t' := T7.setTop (mkF m 29 #[.val (.ref a1), .val (.int y1), .unset, .unset, .unset, .unset, .unset, .unset, .unset] [(.int (Int32.ofNat n)), (.ref ta)])) (fun _ k => st7 _ k) ?_
  obtain ⟨y2, hy2⟩ := (A_ta).atD (i := n) (by omega)
  obtain ⟨cl8, Ar8, hin8, hat8⟩ := hy2
  refine OEnds.go (t' := T7.setTop (mkF m 30 #[.val (.ref a1), .val (.int y1), .unset, .unset, .unset, .unset, .unset, .unset, .unset] [(.double y2)])) (fun _ k => X7.daload hx (j := (Int32.ofNat n)) (v := (.double y2)) (by rw [e7]; exact Ar8.1) (State.isArrayOf_alike hZ.alike Ar8.2.1) Ar8.2.2 hin8 hat8 (g := (mkF m 29 #[.val (.ref a1), .val (.int y1), .unset, .unset, .unset, .unset, .unset, .unset, .unset] [(.int (Int32.ofNat n)), (.ref ta)])) rfl rfl (hb hby d7_29) _ k) ?_
  refine OEnds.go (t' := T7.setTop (mkF m 32 #[.val (.ref a1), .val (.int y1), .val (.double y2), .second, .unset, .unset, .unset, .unset, .unset] [(.ref a1)])) (fun _ k => ?_) ?_
  · show Steps p.tables e below (T7.setTop (mkF m 30 #[.val (.ref a1), .val (.int y1), .unset, .unset, .unset, .unset, .unset, .unset, .unset] [(.double y2)])) _
    refine Jvm.OwnD.dstoreN X7.here hx rfl (hb hby d7_30) rfl (l' := #[.val (.ref a1), .val (.int y1), .val (.double y2), .second, .unset, .unset, .unset, .unset, .unset]) rfl ?_
    show Steps p.tables e below (T7.setTop (mkF m 31 #[.val (.ref a1), .val (.int y1), .val (.double y2), .second, .unset, .unset, .unset, .unset, .unset] [])) _
    refine XS.aloadN X7.here hx rfl (hb hby d7_31) rfl rfl ?_
    show Steps p.tables e below (T7.setTop (mkF m 32 #[.val (.ref a1), .val (.int y1), .val (.double y2), .second, .unset, .unset, .unset, .unset, .unset] [(.ref a1)])) _
    exact k
  obtain ⟨T9, X9, e9, st9⟩ := getF X7 hx hZ hown (host := "") (Or.inl (hw _ (List.mem_of_getElem? (i := 13) rfl))) Via.refl e7 F_order_a1 (g := (mkF m 32 #[.val (.ref a1), .val (.int y1), .val (.double y2), .second, .unset, .unset, .unset, .unset, .unset] [(.ref a1)])) rfl rfl (hb hby d7_32)
  refine OEnds.go (t' := T9.setTop (mkF m 35 #[.val (.ref a1), .val (.int y1), .val (.double y2), .second, .unset, .unset, .unset, .unset, .unset] [(.ref oa)])) (fun _ k => st9 _ k) ?_
  refine OEnds.go (t' := T9.setTop (mkF m 36 #[.val (.ref a1), .val (.int y1), .val (.double y2), .second, .unset, .unset, .unset, .unset, .unset] [(.ref a1), (.ref oa)])) (fun _ k => ?_) ?_
  · show Steps p.tables e below (T9.setTop (mkF m 35 #[.val (.ref a1), .val (.int y1), .val (.double y2), .second, .unset, .unset, .unset, .unset, .unset] [(.ref oa)])) _
    refine XS.aloadN X9.here hx rfl (hb hby d7_35) rfl rfl ?_
    show Steps p.tables e below (T9.setTop (mkF m 36 #[.val (.ref a1), .val (.int y1), .val (.double y2), .second, .unset, .unset, .unset, .unset, .unset] [(.ref a1), (.ref oa)])) _
    exact k
  obtain ⟨T10, X10, e10, st10⟩ := getF X9 hx hZ hown (host := "") (Or.inl (hw _ (List.mem_of_getElem? (i := 23) rfl))) Via.refl e9 F_size_a1 (g := (mkF m 36 #[.val (.ref a1), .val (.int y1), .val (.double y2), .second, .unset, .unset, .unset, .unset, .unset] [(.ref a1), (.ref oa)])) rfl rfl (hb hby d7_36)
  refine OEnds.go (t' := T10.setTop (mkF m 39 #[.val (.ref a1), .val (.int y1), .val (.double y2), .second, .unset, .unset, .unset, .unset, .unset] [(.int (Int32.ofNat n)), (.ref oa)])) (fun _ k => st10 _ k) ?_
  obtain ⟨y3, hy3⟩ := (A_oa).atJ (i := n) (by omega)
  obtain ⟨cl11, Ar11, hin11, hat11⟩ := hy3
  refine OEnds.go (t' := T10.setTop (mkF m 40 #[.val (.ref a1), .val (.int y1), .val (.double y2), .second, .unset, .unset, .unset, .unset, .unset] [(.long y3)])) (fun _ k => X10.laload hx (j := (Int32.ofNat n)) (v := (.long y3)) (by rw [e10]; exact Ar11.1) (State.isArrayOf_alike hZ.alike Ar11.2.1) Ar11.2.2 hin11 hat11 (g := (mkF m 39 #[.val (.ref a1), .val (.int y1), .val (.double y2), .second, .unset, .unset, .unset, .unset, .unset] [(.int (Int32.ofNat n)), (.ref oa)])) rfl rfl (hb hby d7_39) _ k) ?_
  refine OEnds.go (t' := T10.setTop (mkF m 43 #[.val (.ref a1), .val (.int y1), .val (.double y2), .second, .val (.long y3), .second, .unset, .unset, .unset] [(.ref a1)])) (fun _ k => ?_) ?_
  · show Steps p.tables e below (T10.setTop (mkF m 40 #[.val (.ref a1), .val (.int y1), .val (.double y2), .second, .unset, .unset, .unset, .unset, .unset] [(.long y3)])) _
    refine XS.lstore X10.here hx rfl (hb hby d7_40) rfl (l' := #[.val (.ref a1), .val (.int y1), .val (.double y2), .second, .val (.long y3), .second, .unset, .unset, .unset]) rfl ?_
    show Steps p.tables e below (T10.setTop (mkF m 42 #[.val (.ref a1), .val (.int y1), .val (.double y2), .second, .val (.long y3), .second, .unset, .unset, .unset] [])) _
    refine XS.aloadN X10.here hx rfl (hb hby d7_42) rfl rfl ?_
    show Steps p.tables e below (T10.setTop (mkF m 43 #[.val (.ref a1), .val (.int y1), .val (.double y2), .second, .val (.long y3), .second, .unset, .unset, .unset] [(.ref a1)])) _
    exact k
  obtain ⟨T12, X12, e12, st12⟩ := getF X10 hx hZ hown (host := "") (Or.inl (hw _ (List.mem_of_getElem? (i := 16) rfl))) Via.refl e10 F_handles_a1 (g := (mkF m 43 #[.val (.ref a1), .val (.int y1), .val (.double y2), .second, .val (.long y3), .second, .unset, .unset, .unset] [(.ref a1)])) rfl rfl (hb hby d7_43)
  refine OEnds.go (t' := T12.setTop (mkF m 46 #[.val (.ref a1), .val (.int y1), .val (.double y2), .second, .val (.long y3), .second, .unset, .unset, .unset] [(.ref ha)])) (fun _ k => st12 _ k) ?_
  refine OEnds.go (t' := T12.setTop (mkF m 47 #[.val (.ref a1), .val (.int y1), .val (.double y2), .second, .val (.long y3), .second, .unset, .unset, .unset] [(.ref a1), (.ref ha)])) (fun _ k => ?_) ?_
  · show Steps p.tables e below (T12.setTop (mkF m 46 #[.val (.ref a1), .val (.int y1), .val (.double y2), .second, .val (.long y3), .second, .unset, .unset, .unset] [(.ref ha)])) _
    refine XS.aloadN X12.here hx rfl (hb hby d7_46) rfl rfl ?_
    show Steps p.tables e below (T12.setTop (mkF m 47 #[.val (.ref a1), .val (.int y1), .val (.double y2), .second, .val (.long y3), .second, .unset, .unset, .unset] [(.ref a1), (.ref ha)])) _
    exact k
  obtain ⟨T13, X13, e13, st13⟩ := getF X12 hx hZ hown (host := "") (Or.inl (hw _ (List.mem_of_getElem? (i := 23) rfl))) Via.refl e12 F_size_a1 (g := (mkF m 47 #[.val (.ref a1), .val (.int y1), .val (.double y2), .second, .val (.long y3), .second, .unset, .unset, .unset] [(.ref a1), (.ref ha)])) rfl rfl (hb hby d7_47)
  refine OEnds.go (t' := T13.setTop (mkF m 50 #[.val (.ref a1), .val (.int y1), .val (.double y2), .second, .val (.long y3), .second, .unset, .unset, .unset] [(.int (Int32.ofNat n)), (.ref ha)])) (fun _ k => st13 _ k) ?_
  obtain ⟨y4, hy4⟩ := (A_ha).atI (i := n) (by omega)
  obtain ⟨cl14, Ar14, hin14, hat14⟩ := hy4
  refine OEnds.go (t' := T13.setTop (mkF m 51 #[.val (.ref a1), .val (.int y1), .val (.double y2), .second, .val (.long y3), .second, .unset, .unset, .unset] [(.int y4)])) (fun _ k => X13.iaload hx (j := (Int32.ofNat n)) (v := (.int y4)) (by rw [e13]; exact Ar14.1) (State.isArrayOf_alike hZ.alike Ar14.2.1) Ar14.2.2 hin14 hat14 (g := (mkF m 50 #[.val (.ref a1), .val (.int y1), .val (.double y2), .second, .val (.long y3), .second, .unset, .unset, .unset] [(.int (Int32.ofNat n)), (.ref ha)])) rfl rfl (hb hby d7_50) _ k) ?_
  refine OEnds.go (t' := T13.setTop (mkF m 59 #[.val (.ref a1), .val (.int y1), .val (.double y2), .second, .val (.long y3), .second, .val (.int y4), .val (.int (0 : Int32)), .val (.int (1 : Int32))] [])) (fun _ k => ?_) ?_
  · show Steps p.tables e below (T13.setTop (mkF m 51 #[.val (.ref a1), .val (.int y1), .val (.double y2), .second, .val (.long y3), .second, .unset, .unset, .unset] [(.int y4)])) _
    refine XS.istore X13.here hx rfl (hb hby d7_51) rfl (l' := #[.val (.ref a1), .val (.int y1), .val (.double y2), .second, .val (.long y3), .second, .val (.int y4), .unset, .unset]) rfl ?_
    show Steps p.tables e below (T13.setTop (mkF m 53 #[.val (.ref a1), .val (.int y1), .val (.double y2), .second, .val (.long y3), .second, .val (.int y4), .unset, .unset] [])) _
    refine XS.iconst X13.here hx rfl (hb hby d7_53) ?_
    show Steps p.tables e below (T13.setTop (mkF m 54 #[.val (.ref a1), .val (.int y1), .val (.double y2), .second, .val (.long y3), .second, .val (.int y4), .unset, .unset] [(.int (0 : Int32))])) _
    refine XS.istore X13.here hx rfl (hb hby d7_54) rfl (l' := #[.val (.ref a1), .val (.int y1), .val (.double y2), .second, .val (.long y3), .second, .val (.int y4), .val (.int (0 : Int32)), .unset]) rfl ?_
    show Steps p.tables e below (T13.setTop (mkF m 56 #[.val (.ref a1), .val (.int y1), .val (.double y2), .second, .val (.long y3), .second, .val (.int y4), .val (.int (0 : Int32)), .unset] [])) _
    refine XS.iconst X13.here hx rfl (hb hby d7_56) ?_
    show Steps p.tables e below (T13.setTop (mkF m 57 #[.val (.ref a1), .val (.int y1), .val (.double y2), .second, .val (.long y3), .second, .val (.int y4), .val (.int (0 : Int32)), .unset] [(.int (1 : Int32))])) _
    refine XS.istore X13.here hx rfl (hb hby d7_57) rfl (l' := #[.val (.ref a1), .val (.int y1), .val (.double y2), .second, .val (.long y3), .second, .val (.int y4), .val (.int (0 : Int32)), .val (.int (1 : Int32))]) rfl ?_
    show Steps p.tables e below (T13.setTop (mkF m 59 #[.val (.ref a1), .val (.int y1), .val (.double y2), .second, .val (.long y3), .second, .val (.int y4), .val (.int (0 : Int32)), .val (.int (1 : Int32))] [])) _
    exact k
  refine OEnds.cut (fun En => ∀ (i : Nat) (cv : Int32) (Tj : State) (lj : List Loc) (hj : Heap) , Stand p l e ({ frames := 2, cells := 0, slots := 0, locals := 36 } : Room) s m #[(.ref a1)] below meth c Tj lj 0 0 → Tj.heap = hj → Fr n0 lj → n0 ≤ hj.size → Keep h0 hj [a1, ta, oa, ha] → own_Q Z hj a1 ta oa ha n → i < 16 → En (Tj.setTop (mkF m 158 #[.val (.ref a1), .val (.int y1), .val (.double y2), .second, .val (.long y3), .second, .val (.int y4), .val (.int (Int32.ofNat i)), .val (.int cv)] []))) ?_ (fun K158 => ?_)
  · intro i cv Tj lj hj Xj ej Nj Zj Kj Qj hi
    refine OEnds.go (t' := Tj.setTop (mkF m 166 #[.val (.ref a1), .val (.int y1), .val (.double y2), .second, .val (.long y3), .second, .val (.int y4), .val (.int (Int32.ofNat i)), .val (.int cv)] [(.int y4), (.long y3), (.double y2), (.int (Int32.ofNat i)), (.ref a1)])) (fun _ k => ?_) ?_
    · show Steps p.tables e below (Tj.setTop (mkF m 158 #[.val (.ref a1), .val (.int y1), .val (.double y2), .second, .val (.long y3), .second, .val (.int y4), .val (.int (Int32.ofNat i)), .val (.int cv)] [])) _
      refine XS.aloadN Xj.here hx rfl (hb hby d7_158) rfl rfl ?_
      show Steps p.tables e below (Tj.setTop (mkF m 159 #[.val (.ref a1), .val (.int y1), .val (.double y2), .second, .val (.long y3), .second, .val (.int y4), .val (.int (Int32.ofNat i)), .val (.int cv)] [(.ref a1)])) _
      refine XS.iload Xj.here hx rfl (hb hby d7_159) rfl ?_
      show Steps p.tables e below (Tj.setTop (mkF m 161 #[.val (.ref a1), .val (.int y1), .val (.double y2), .second, .val (.long y3), .second, .val (.int y4), .val (.int (Int32.ofNat i)), .val (.int cv)] [(.int (Int32.ofNat i)), (.ref a1)])) _
      refine Jvm.OwnD.dloadN Xj.here hx rfl (hb hby d7_161) rfl ?_
      show Steps p.tables e below (Tj.setTop (mkF m 162 #[.val (.ref a1), .val (.int y1), .val (.double y2), .second, .val (.long y3), .second, .val (.int y4), .val (.int (Int32.ofNat i)), .val (.int cv)] [(.double y2), (.int (Int32.ofNat i)), (.ref a1)])) _
      refine XS.lload Xj.here hx rfl (hb hby d7_162) rfl ?_
      show Steps p.tables e below (Tj.setTop (mkF m 164 #[.val (.ref a1), .val (.int y1), .val (.double y2), .second, .val (.long y3), .second, .val (.int y4), .val (.int (Int32.ofNat i)), .val (.int cv)] [(.long y3), (.double y2), (.int (Int32.ofNat i)), (.ref a1)])) _
      refine XS.iload Xj.here hx rfl (hb hby d7_164) rfl ?_
      show Steps p.tables e below (Tj.setTop (mkF m 166 #[.val (.ref a1), .val (.int y1), .val (.double y2), .second, .val (.long y3), .second, .val (.int y4), .val (.int (Int32.ofNat i)), .val (.int cv)] [(.int y4), (.long y3), (.double y2), (.int (Int32.ofNat i)), (.ref a1)])) _
      exact k
    obtain ⟨cq15, q15, q15x⟩ := (Qj.1).cell
    obtain ⟨_, _, ⟨T15, L15, k15, n15⟩, -, X15, ⟨Lc15, hQ15, l15, y15, z15⟩, st15⟩ := Xj.privateBack hx (y := (⟨"com/example/fragmint/fragmint/engine/DepartureQueue", "put", "(IDJI)V"⟩ : MethodName)) hown (mvT hZ (hw _ (List.mem_of_getElem? (i := 36) rfl))) (mvT hZ (hw _ (List.mem_of_getElem? (i := 37) rfl))) (mvT hZ (own_selP (y := (⟨"com/example/fragmint/fragmint/engine/DepartureQueue", "isEmpty", "()Z"⟩ : MethodName)) (z := (⟨"com/example/fragmint/fragmint/engine/DepartureQueue", "put", "(IDJI)V"⟩ : MethodName)) rfl (hw _ (List.mem_of_getElem? (i := 21) rfl)) (hw _ (List.mem_of_getElem? (i := 38) rfl)) (hw _ (List.mem_of_getElem? (i := 37) rfl)) (by decide))) (Cond.privateMethod_at (mvP hZ (hw _ (List.mem_of_getElem? (i := 38) rfl)) (args := #[]))) (mvT hZ (hw _ (List.mem_of_getElem? (i := 39) rfl))) (by decide) (backOf (W := 0) (rm6 l Z a0 hw [] a1 (Int32.ofNat i) y2 y3 y4 ta oa ha n i hj n0 Zj Qj g_a1 g_ta g_oa g_ha hi rfl) hZ (hw _ (List.mem_of_getElem? (i := 39) rfl)) (hw _ (List.mem_of_getElem? (i := 2) rfl)) (by decide) (by decide)) (g := (mkF m 166 #[.val (.ref a1), .val (.int y1), .val (.double y2), .second, .val (.long y3), .second, .val (.int y4), .val (.int (Int32.ofNat i)), .val (.int cv)] [(.int y4), (.long y3), (.double y2), (.int (Int32.ofNat i)), (.ref a1)])) rfl (by rw [hml]; rfl) (Steps.refl _) (a := a1) (by rw [ej]; exact q15) q15x (argsL := [(.int (Int32.ofNat i)), (.double y2), (.long y3), (.int y4)]) (rest := []) (lenOf pd_rm7_1 rfl) rfl (by show 2 * 0 + _ ≤ _; exact Nat.le_of_eq rfl) (hb hby d7_166) (fun _ _ => ⟨rfl, ej, (by decide : 0 + 0 ≤ _), (by decide : 0 + 0 ≤ _)⟩)
    dsimp only [Pt.U, Pt.locs, Pt.cells, Pt.slots] at X15 l15 y15 z15 st15 hQ15
    subst l15 y15 z15
    obtain ⟨rfl, N15q, Kc15, Qx15⟩ := hQ15
    have N15 := Fr.app Nj N15q
    have Z15 : n0 ≤ T15.heap.size := Nat.le_trans Zj Kc15.1
    have K15 := Kj.trans Kc15 (allS (Or.inl (List.mem_of_getElem? (i := 0) rfl)) (allS (Or.inl (List.mem_of_getElem? (i := 1) rfl)) (allS (Or.inl (List.mem_of_getElem? (i := 2) rfl)) (allS (Or.inl (List.mem_of_getElem? (i := 3) rfl)) all0))))
    refine OEnds.go (t' := T15.setTop (mkF m 169 #[.val (.ref a1), .val (.int y1), .val (.double y2), .second, .val (.long y3), .second, .val (.int y4), .val (.int (Int32.ofNat i)), .val (.int cv)] [])) (fun _ k => st15.trans k) ?_
    refine OEnds.go (t' := T15.setTop (mkF m 170 #[.val (.ref a1), .val (.int y1), .val (.double y2), .second, .val (.long y3), .second, .val (.int y4), .val (.int (Int32.ofNat i)), .val (.int cv)] [(.int y1)])) (fun _ k => ?_) ?_
    · show Steps p.tables e below (T15.setTop (mkF m 169 #[.val (.ref a1), .val (.int y1), .val (.double y2), .second, .val (.long y3), .second, .val (.int y4), .val (.int (Int32.ofNat i)), .val (.int cv)] [])) _
      refine XS.iloadN X15.here hx rfl (hb hby d7_169) rfl ?_
      show Steps p.tables e below (T15.setTop (mkF m 170 #[.val (.ref a1), .val (.int y1), .val (.double y2), .second, .val (.long y3), .second, .val (.int y4), .val (.int (Int32.ofNat i)), .val (.int cv)] [(.int y1)])) _
      exact k
    refine OEnds.back X15 hlk (v := (some (.int y1))) (fun h => by rw [hrt] at h; cases h) (fun fs hr => ?_) ?_ (by decide) (by decide)
    · exact retI X15 hx hrt (hb hby d7_170) hr
    · show Q7 Z a1 ta oa ha n h0 n0 _ T15.heap _
      exact ⟨_, rfl, N15, K15, Qx15⟩
  refine OEnds.cut (fun En => ∀ (d i c9 : Nat) (Tj : State) (lj : List Loc) (hj : Heap) , Stand p l e ({ frames := 2, cells := 0, slots := 0, locals := 36 } : Room) s m #[(.ref a1)] below meth c Tj lj 0 0 → Tj.heap = hj → Fr n0 lj → n0 ≤ hj.size → Keep h0 hj [a1, ta, oa, ha] → own_Q Z hj a1 ta oa ha n → 16 ≤ c9 + d → i < 16 → c9 < 100 → En (Tj.setTop (mkF m 59 #[.val (.ref a1), .val (.int y1), .val (.double y2), .second, .val (.long y3), .second, .val (.int y4), .val (.int (Int32.ofNat i)), .val (.int (Int32.ofNat c9))] []))) ?_ (fun K59 => ?_)
  · intro d
    induction d with
    | zero => 
      intro i c9 Tj lj hj Xj ej Nj Zj Kj Qj hd hi hc
      refine OEnds.go (t' := Tj.setTop (mkF m 62 #[.val (.ref a1), .val (.int y1), .val (.double y2), .second, .val (.long y3), .second, .val (.int y4), .val (.int (Int32.ofNat i)), .val (.int (Int32.ofNat c9))] [(.ref a1), (.int (Int32.ofNat c9))])) (fun _ k => ?_) ?_
      · show Steps p.tables e below (Tj.setTop (mkF m 59 #[.val (.ref a1), .val (.int y1), .val (.double y2), .second, .val (.long y3), .second, .val (.int y4), .val (.int (Int32.ofNat i)), .val (.int (Int32.ofNat c9))] [])) _
        refine XS.iload Xj.here hx rfl (hb hby d7_59) rfl ?_
        show Steps p.tables e below (Tj.setTop (mkF m 61 #[.val (.ref a1), .val (.int y1), .val (.double y2), .second, .val (.long y3), .second, .val (.int y4), .val (.int (Int32.ofNat i)), .val (.int (Int32.ofNat c9))] [(.int (Int32.ofNat c9))])) _
        refine XS.aloadN Xj.here hx rfl (hb hby d7_61) rfl rfl ?_
        show Steps p.tables e below (Tj.setTop (mkF m 62 #[.val (.ref a1), .val (.int y1), .val (.double y2), .second, .val (.long y3), .second, .val (.int y4), .val (.int (Int32.ofNat i)), .val (.int (Int32.ofNat c9))] [(.ref a1), (.int (Int32.ofNat c9))])) _
        exact k
      obtain ⟨T16, X16, e16, st16⟩ := getF Xj hx hZ hown (host := "") (Or.inl (hw _ (List.mem_of_getElem? (i := 23) rfl))) Via.refl ej Qj.2.2.2.2.1 (g := (mkF m 62 #[.val (.ref a1), .val (.int y1), .val (.double y2), .second, .val (.long y3), .second, .val (.int y4), .val (.int (Int32.ofNat i)), .val (.int (Int32.ofNat c9))] [(.ref a1), (.int (Int32.ofNat c9))])) rfl rfl (hb hby d7_62)
      refine OEnds.go (t' := T16.setTop (mkF m 65 #[.val (.ref a1), .val (.int y1), .val (.double y2), .second, .val (.long y3), .second, .val (.int y4), .val (.int (Int32.ofNat i)), .val (.int (Int32.ofNat c9))] [(.int (Int32.ofNat n)), (.int (Int32.ofNat c9))])) (fun _ k => st16 _ k) ?_
      refine OEnds.go (t' := T16.setTop (mkF m 158 #[.val (.ref a1), .val (.int y1), .val (.double y2), .second, .val (.long y3), .second, .val (.int y4), .val (.int (Int32.ofNat i)), .val (.int (Int32.ofNat c9))] [])) (fun _ k => XS.icmpYes X16.here hx rfl (pc0 := 65) (pc' := 158) rfl (hb hby d7_65) rfl (flt (fun q => absurd ((own_ltn (by omega) (by omega)).mp q) (by omega))).2.1 (by decide) (by decide) k) ?_
      exact K158 i _ _ _ _ X16 e16 Nj Zj Kj Qj hi
    | succ d ih => 
      intro i c9 Tj lj hj Xj ej Nj Zj Kj Qj hd hi hc
      refine OEnds.go (t' := Tj.setTop (mkF m 62 #[.val (.ref a1), .val (.int y1), .val (.double y2), .second, .val (.long y3), .second, .val (.int y4), .val (.int (Int32.ofNat i)), .val (.int (Int32.ofNat c9))] [(.ref a1), (.int (Int32.ofNat c9))])) (fun _ k => ?_) ?_
      · show Steps p.tables e below (Tj.setTop (mkF m 59 #[.val (.ref a1), .val (.int y1), .val (.double y2), .second, .val (.long y3), .second, .val (.int y4), .val (.int (Int32.ofNat i)), .val (.int (Int32.ofNat c9))] [])) _
        refine XS.iload Xj.here hx rfl (hb hby d7_59) rfl ?_
        show Steps p.tables e below (Tj.setTop (mkF m 61 #[.val (.ref a1), .val (.int y1), .val (.double y2), .second, .val (.long y3), .second, .val (.int y4), .val (.int (Int32.ofNat i)), .val (.int (Int32.ofNat c9))] [(.int (Int32.ofNat c9))])) _
        refine XS.aloadN Xj.here hx rfl (hb hby d7_61) rfl rfl ?_
        show Steps p.tables e below (Tj.setTop (mkF m 62 #[.val (.ref a1), .val (.int y1), .val (.double y2), .second, .val (.long y3), .second, .val (.int y4), .val (.int (Int32.ofNat i)), .val (.int (Int32.ofNat c9))] [(.ref a1), (.int (Int32.ofNat c9))])) _
        exact k
      obtain ⟨T17, X17, e17, st17⟩ := getF Xj hx hZ hown (host := "") (Or.inl (hw _ (List.mem_of_getElem? (i := 23) rfl))) Via.refl ej Qj.2.2.2.2.1 (g := (mkF m 62 #[.val (.ref a1), .val (.int y1), .val (.double y2), .second, .val (.long y3), .second, .val (.int y4), .val (.int (Int32.ofNat i)), .val (.int (Int32.ofNat c9))] [(.ref a1), (.int (Int32.ofNat c9))])) rfl rfl (hb hby d7_62)
      refine OEnds.go (t' := T17.setTop (mkF m 65 #[.val (.ref a1), .val (.int y1), .val (.double y2), .second, .val (.long y3), .second, .val (.int y4), .val (.int (Int32.ofNat i)), .val (.int (Int32.ofNat c9))] [(.int (Int32.ofNat n)), (.int (Int32.ofNat c9))])) (fun _ k => st17 _ k) ?_
      by_cases h65 : (Int32.ofNat c9) < (Int32.ofNat n)
      · refine OEnds.go (t' := T17.setTop (mkF m 68 #[.val (.ref a1), .val (.int y1), .val (.double y2), .second, .val (.long y3), .second, .val (.int y4), .val (.int (Int32.ofNat i)), .val (.int (Int32.ofNat c9))] [])) (fun _ k => XS.icmpNo X17.here hx rfl (hb hby d7_65) rfl (tlt h65).2.1 k) ?_
        have hc9 : c9 < n := (own_ltn (by omega) (by omega)).mp h65
        refine OEnds.cut (fun En => ∀ (Tk : State) (Tk_l : List Loc), Stand p l e ({ frames := 2, cells := 0, slots := 0, locals := 36 } : Room) s m #[(.ref a1)] below meth c Tk Tk_l 0 0 → Tk.heap = hj → Fr n0 Tk_l → ∀ (c8 : Nat), c9 ≤ c8 → c8 < n → En (Tk.setTop (mkF m 109 #[.val (.ref a1), .val (.int y1), .val (.double y2), .second, .val (.long y3), .second, .val (.int y4), .val (.int (Int32.ofNat i)), .val (.int (Int32.ofNat c8))] []))) ?_ (fun K109 => ?_)
        · intro Tk Tk_l XTk eTk NTk c8 hc1 hc2
          refine OEnds.go (t' := Tk.setTop (mkF m 110 #[.val (.ref a1), .val (.int y1), .val (.double y2), .second, .val (.long y3), .second, .val (.int y4), .val (.int (Int32.ofNat i)), .val (.int (Int32.ofNat c8))] [(.ref a1)])) (fun _ k => ?_) ?_
          · show Steps p.tables e below (Tk.setTop (mkF m 109 #[.val (.ref a1), .val (.int y1), .val (.double y2), .second, .val (.long y3), .second, .val (.int y4), .val (.int (Int32.ofNat i)), .val (.int (Int32.ofNat c8))] [])) _
            refine XS.aloadN XTk.here hx rfl (hb hby d7_109) rfl rfl ?_
            show Steps p.tables e below (Tk.setTop (mkF m 110 #[.val (.ref a1), .val (.int y1), .val (.double y2), .second, .val (.long y3), .second, .val (.int y4), .val (.int (Int32.ofNat i)), .val (.int (Int32.ofNat c8))] [(.ref a1)])) _
            exact k
          obtain ⟨T18, X18, e18, st18⟩ := getF XTk hx hZ hown (host := "") (Or.inl (hw _ (List.mem_of_getElem? (i := 10) rfl))) Via.refl eTk Qj.2.1 (g := (mkF m 110 #[.val (.ref a1), .val (.int y1), .val (.double y2), .second, .val (.long y3), .second, .val (.int y4), .val (.int (Int32.ofNat i)), .val (.int (Int32.ofNat c8))] [(.ref a1)])) rfl rfl (hb hby d7_110)
          refine OEnds.go (t' := T18.setTop (mkF m 113 #[.val (.ref a1), .val (.int y1), .val (.double y2), .second, .val (.long y3), .second, .val (.int y4), .val (.int (Int32.ofNat i)), .val (.int (Int32.ofNat c8))] [(.ref ta)])) (fun _ k => st18 _ k) ?_
          refine OEnds.go (t' := T18.setTop (mkF m 115 #[.val (.ref a1), .val (.int y1), .val (.double y2), .second, .val (.long y3), .second, .val (.int y4), .val (.int (Int32.ofNat i)), .val (.int (Int32.ofNat c8))] [(.int (Int32.ofNat c8)), (.ref ta)])) (fun _ k => ?_) ?_
          · show Steps p.tables e below (T18.setTop (mkF m 113 #[.val (.ref a1), .val (.int y1), .val (.double y2), .second, .val (.long y3), .second, .val (.int y4), .val (.int (Int32.ofNat i)), .val (.int (Int32.ofNat c8))] [(.ref ta)])) _
            refine XS.iload X18.here hx rfl (hb hby d7_113) rfl ?_
            show Steps p.tables e below (T18.setTop (mkF m 115 #[.val (.ref a1), .val (.int y1), .val (.double y2), .second, .val (.long y3), .second, .val (.int y4), .val (.int (Int32.ofNat i)), .val (.int (Int32.ofNat c8))] [(.int (Int32.ofNat c8)), (.ref ta)])) _
            exact k
          obtain ⟨z1, hz1⟩ := (Qj.2.2.2.2.2.2.1).atD (i := c8) (by omega)
          obtain ⟨cl19, Ar19, hin19, hat19⟩ := hz1
          refine OEnds.go (t' := T18.setTop (mkF m 116 #[.val (.ref a1), .val (.int y1), .val (.double y2), .second, .val (.long y3), .second, .val (.int y4), .val (.int (Int32.ofNat i)), .val (.int (Int32.ofNat c8))] [(.double z1)])) (fun _ k => X18.daload hx (j := (Int32.ofNat c8)) (v := (.double z1)) (by rw [e18]; exact Ar19.1) (State.isArrayOf_alike hZ.alike Ar19.2.1) Ar19.2.2 hin19 hat19 (g := (mkF m 115 #[.val (.ref a1), .val (.int y1), .val (.double y2), .second, .val (.long y3), .second, .val (.int y4), .val (.int (Int32.ofNat i)), .val (.int (Int32.ofNat c8))] [(.int (Int32.ofNat c8)), (.ref ta)])) rfl rfl (hb hby d7_115) _ k) ?_
          refine OEnds.go (t' := T18.setTop (mkF m 117 #[.val (.ref a1), .val (.int y1), .val (.double y2), .second, .val (.long y3), .second, .val (.int y4), .val (.int (Int32.ofNat i)), .val (.int (Int32.ofNat c8))] [(.ref a1), (.double z1)])) (fun _ k => ?_) ?_
          · show Steps p.tables e below (T18.setTop (mkF m 116 #[.val (.ref a1), .val (.int y1), .val (.double y2), .second, .val (.long y3), .second, .val (.int y4), .val (.int (Int32.ofNat i)), .val (.int (Int32.ofNat c8))] [(.double z1)])) _
            refine XS.aloadN X18.here hx rfl (hb hby d7_116) rfl rfl ?_
            show Steps p.tables e below (T18.setTop (mkF m 117 #[.val (.ref a1), .val (.int y1), .val (.double y2), .second, .val (.long y3), .second, .val (.int y4), .val (.int (Int32.ofNat i)), .val (.int (Int32.ofNat c8))] [(.ref a1), (.double z1)])) _
            exact k
          obtain ⟨T20, X20, e20, st20⟩ := getF X18 hx hZ hown (host := "") (Or.inl (hw _ (List.mem_of_getElem? (i := 13) rfl))) Via.refl e18 Qj.2.2.1 (g := (mkF m 117 #[.val (.ref a1), .val (.int y1), .val (.double y2), .second, .val (.long y3), .second, .val (.int y4), .val (.int (Int32.ofNat i)), .val (.int (Int32.ofNat c8))] [(.ref a1), (.double z1)])) rfl rfl (hb hby d7_117)
          refine OEnds.go (t' := T20.setTop (mkF m 120 #[.val (.ref a1), .val (.int y1), .val (.double y2), .second, .val (.long y3), .second, .val (.int y4), .val (.int (Int32.ofNat i)), .val (.int (Int32.ofNat c8))] [(.ref oa), (.double z1)])) (fun _ k => st20 _ k) ?_
          refine OEnds.go (t' := T20.setTop (mkF m 122 #[.val (.ref a1), .val (.int y1), .val (.double y2), .second, .val (.long y3), .second, .val (.int y4), .val (.int (Int32.ofNat i)), .val (.int (Int32.ofNat c8))] [(.int (Int32.ofNat c8)), (.ref oa), (.double z1)])) (fun _ k => ?_) ?_
          · show Steps p.tables e below (T20.setTop (mkF m 120 #[.val (.ref a1), .val (.int y1), .val (.double y2), .second, .val (.long y3), .second, .val (.int y4), .val (.int (Int32.ofNat i)), .val (.int (Int32.ofNat c8))] [(.ref oa), (.double z1)])) _
            refine XS.iload X20.here hx rfl (hb hby d7_120) rfl ?_
            show Steps p.tables e below (T20.setTop (mkF m 122 #[.val (.ref a1), .val (.int y1), .val (.double y2), .second, .val (.long y3), .second, .val (.int y4), .val (.int (Int32.ofNat i)), .val (.int (Int32.ofNat c8))] [(.int (Int32.ofNat c8)), (.ref oa), (.double z1)])) _
            exact k
          obtain ⟨z2, hz2⟩ := (Qj.2.2.2.2.2.2.2.1).atJ (i := c8) (by omega)
          obtain ⟨cl21, Ar21, hin21, hat21⟩ := hz2
          refine OEnds.go (t' := T20.setTop (mkF m 123 #[.val (.ref a1), .val (.int y1), .val (.double y2), .second, .val (.long y3), .second, .val (.int y4), .val (.int (Int32.ofNat i)), .val (.int (Int32.ofNat c8))] [(.long z2), (.double z1)])) (fun _ k => X20.laload hx (j := (Int32.ofNat c8)) (v := (.long z2)) (by rw [e20]; exact Ar21.1) (State.isArrayOf_alike hZ.alike Ar21.2.1) Ar21.2.2 hin21 hat21 (g := (mkF m 122 #[.val (.ref a1), .val (.int y1), .val (.double y2), .second, .val (.long y3), .second, .val (.int y4), .val (.int (Int32.ofNat i)), .val (.int (Int32.ofNat c8))] [(.int (Int32.ofNat c8)), (.ref oa), (.double z1)])) rfl rfl (hb hby d7_122) _ k) ?_
          refine OEnds.go (t' := T20.setTop (mkF m 126 #[.val (.ref a1), .val (.int y1), .val (.double y2), .second, .val (.long y3), .second, .val (.int y4), .val (.int (Int32.ofNat i)), .val (.int (Int32.ofNat c8))] [(.long y3), (.double y2), (.long z2), (.double z1)])) (fun _ k => ?_) ?_
          · show Steps p.tables e below (T20.setTop (mkF m 123 #[.val (.ref a1), .val (.int y1), .val (.double y2), .second, .val (.long y3), .second, .val (.int y4), .val (.int (Int32.ofNat i)), .val (.int (Int32.ofNat c8))] [(.long z2), (.double z1)])) _
            refine Jvm.OwnD.dloadN X20.here hx rfl (hb hby d7_123) rfl ?_
            show Steps p.tables e below (T20.setTop (mkF m 124 #[.val (.ref a1), .val (.int y1), .val (.double y2), .second, .val (.long y3), .second, .val (.int y4), .val (.int (Int32.ofNat i)), .val (.int (Int32.ofNat c8))] [(.double y2), (.long z2), (.double z1)])) _
            refine XS.lload X20.here hx rfl (hb hby d7_124) rfl ?_
            show Steps p.tables e below (T20.setTop (mkF m 126 #[.val (.ref a1), .val (.int y1), .val (.double y2), .second, .val (.long y3), .second, .val (.int y4), .val (.int (Int32.ofNat i)), .val (.int (Int32.ofNat c8))] [(.long y3), (.double y2), (.long z2), (.double z1)])) _
            exact k
          obtain ⟨_, _, ⟨T22, L22, k22, n22⟩, -, X22, ⟨Lc22, hQ22, l22, y22, z22⟩, st22⟩ := Jvm.LawKit.callS X20 hx (y := (⟨"com/example/fragmint/fragmint/engine/DepartureQueue", "before", "(DJDJ)Z"⟩ : MethodName)) hown (mvT hZ (hw _ (List.mem_of_getElem? (i := 53) rfl))) (mvT hZ (hw _ (List.mem_of_getElem? (i := 54) rfl))) (mvT hZ (hw _ (List.mem_of_getElem? (i := 2) rfl))) (mvT hZ (hw _ (List.mem_of_getElem? (i := 55) rfl))) (by decide) (backOf (W := 0) (rm10 l Z a0 hw [] z1 z2 y2 y3 hj n0 Zj ) hZ (hw _ (List.mem_of_getElem? (i := 55) rfl)) (hw _ (List.mem_of_getElem? (i := 2) rfl)) (by decide) (by decide)) (g := (mkF m 126 #[.val (.ref a1), .val (.int y1), .val (.double y2), .second, .val (.long y3), .second, .val (.int y4), .val (.int (Int32.ofNat i)), .val (.int (Int32.ofNat c8))] [(.long y3), (.double y2), (.long z2), (.double z1)])) rfl (by rw [hml]; rfl) (argsL := [(.double z1), (.long z2), (.double y2), (.long y3)]) (rest := []) (lenOf pd_rm7_2 rfl) rfl (by show 2 * 0 + _ ≤ _; exact Nat.le_of_eq rfl) (hb hby d7_126) (fun _ _ => ⟨rfl, e20, (by decide : 0 + 0 ≤ _), (by decide : 0 + 0 ≤ _)⟩)
          dsimp only [Pt.U, Pt.locs, Pt.cells, Pt.slots] at X22 l22 y22 z22 st22 hQ22
          subst l22 y22 z22
          obtain ⟨r22, rfl, N22q, eh22⟩ := hQ22
          have N22 := Fr.app NTk N22q
          refine OEnds.go (t' := T22.setTop (mkF m 129 #[.val (.ref a1), .val (.int y1), .val (.double y2), .second, .val (.long y3), .second, .val (.int y4), .val (.int (Int32.ofNat i)), .val (.int (Int32.ofNat c8))] [(.int r22)])) (fun _ k => st22 _ k) ?_
          by_cases h129 : r22 = (0 : Int32)
          · refine OEnds.go (t' := T22.setTop (mkF m 132 #[.val (.ref a1), .val (.int y1), .val (.double y2), .second, .val (.long y3), .second, .val (.int y4), .val (.int (Int32.ofNat i)), .val (.int (Int32.ofNat c8))] [])) (fun _ k => XS.ifNo X22.here hx rfl (hb hby d7_129) rfl ((if0 _ _).trans (teq h129).2) k) ?_
            refine OEnds.go (t' := T22.setTop (mkF m 158 #[.val (.ref a1), .val (.int y1), .val (.double y2), .second, .val (.long y3), .second, .val (.int y4), .val (.int (Int32.ofNat i)), .val (.int (Int32.ofNat c8))] [])) (fun _ k => ?_) ?_
            · show Steps p.tables e below (T22.setTop (mkF m 132 #[.val (.ref a1), .val (.int y1), .val (.double y2), .second, .val (.long y3), .second, .val (.int y4), .val (.int (Int32.ofNat i)), .val (.int (Int32.ofNat c8))] [])) _
              refine XS.goto X22.here hx rfl (pc0 := 132) (pc' := 158) rfl (hb hby d7_132) (by decide) (by decide) ?_
              show Steps p.tables e below (T22.setTop (mkF m 158 #[.val (.ref a1), .val (.int y1), .val (.double y2), .second, .val (.long y3), .second, .val (.int y4), .val (.int (Int32.ofNat i)), .val (.int (Int32.ofNat c8))] [])) _
              exact k
            exact K158 i _ _ _ _ X22 eh22 N22 Zj Kj Qj hi
          · refine OEnds.go (t' := T22.setTop (mkF m 135 #[.val (.ref a1), .val (.int y1), .val (.double y2), .second, .val (.long y3), .second, .val (.int y4), .val (.int (Int32.ofNat i)), .val (.int (Int32.ofNat c8))] [])) (fun _ k => XS.ifYes X22.here hx rfl (pc0 := 129) (pc' := 135) rfl (hb hby d7_129) rfl ((if0 _ _).trans (feq h129).2) (by decide) (by decide) k) ?_
            refine OEnds.go (t' := T22.setTop (mkF m 140 #[.val (.ref a1), .val (.int y1), .val (.double y2), .second, .val (.long y3), .second, .val (.int y4), .val (.int (Int32.ofNat i)), .val (.int (Int32.ofNat c8))] [(.int (Int32.ofNat i)), (.int (Int32.ofNat c8)), (.ref a1)])) (fun _ k => ?_) ?_
            · show Steps p.tables e below (T22.setTop (mkF m 135 #[.val (.ref a1), .val (.int y1), .val (.double y2), .second, .val (.long y3), .second, .val (.int y4), .val (.int (Int32.ofNat i)), .val (.int (Int32.ofNat c8))] [])) _
              refine XS.aloadN X22.here hx rfl (hb hby d7_135) rfl rfl ?_
              show Steps p.tables e below (T22.setTop (mkF m 136 #[.val (.ref a1), .val (.int y1), .val (.double y2), .second, .val (.long y3), .second, .val (.int y4), .val (.int (Int32.ofNat i)), .val (.int (Int32.ofNat c8))] [(.ref a1)])) _
              refine XS.iload X22.here hx rfl (hb hby d7_136) rfl ?_
              show Steps p.tables e below (T22.setTop (mkF m 138 #[.val (.ref a1), .val (.int y1), .val (.double y2), .second, .val (.long y3), .second, .val (.int y4), .val (.int (Int32.ofNat i)), .val (.int (Int32.ofNat c8))] [(.int (Int32.ofNat c8)), (.ref a1)])) _
              refine XS.iload X22.here hx rfl (hb hby d7_138) rfl ?_
              show Steps p.tables e below (T22.setTop (mkF m 140 #[.val (.ref a1), .val (.int y1), .val (.double y2), .second, .val (.long y3), .second, .val (.int y4), .val (.int (Int32.ofNat i)), .val (.int (Int32.ofNat c8))] [(.int (Int32.ofNat i)), (.int (Int32.ofNat c8)), (.ref a1)])) _
              exact k
            obtain ⟨cq23, q23, q23x⟩ := (Qj.1).cell
            obtain ⟨_, _, ⟨T23, L23, k23, n23⟩, -, X23, ⟨Lc23, hQ23, l23, y23, z23⟩, st23⟩ := X22.privateBack hx (y := (⟨"com/example/fragmint/fragmint/engine/DepartureQueue", "move", "(II)V"⟩ : MethodName)) hown (mvT hZ (hw _ (List.mem_of_getElem? (i := 56) rfl))) (mvT hZ (hw _ (List.mem_of_getElem? (i := 57) rfl))) (mvT hZ (own_selP (y := (⟨"com/example/fragmint/fragmint/engine/DepartureQueue", "isEmpty", "()Z"⟩ : MethodName)) (z := (⟨"com/example/fragmint/fragmint/engine/DepartureQueue", "move", "(II)V"⟩ : MethodName)) rfl (hw _ (List.mem_of_getElem? (i := 21) rfl)) (hw _ (List.mem_of_getElem? (i := 58) rfl)) (hw _ (List.mem_of_getElem? (i := 57) rfl)) (by decide))) (Cond.privateMethod_at (mvP hZ (hw _ (List.mem_of_getElem? (i := 58) rfl)) (args := #[]))) (mvT hZ (hw _ (List.mem_of_getElem? (i := 59) rfl))) (by decide) (backOf (W := 0) (rm11 l Z a0 hw [] a1 (Int32.ofNat c8) (Int32.ofNat i) ta oa ha n c8 i hj n0 Zj Qj g_a1 g_ta g_oa g_ha (by omega) hi rfl rfl) hZ (hw _ (List.mem_of_getElem? (i := 59) rfl)) (hw _ (List.mem_of_getElem? (i := 2) rfl)) (by decide) (by decide)) (g := (mkF m 140 #[.val (.ref a1), .val (.int y1), .val (.double y2), .second, .val (.long y3), .second, .val (.int y4), .val (.int (Int32.ofNat i)), .val (.int (Int32.ofNat c8))] [(.int (Int32.ofNat i)), (.int (Int32.ofNat c8)), (.ref a1)])) rfl (by rw [hml]; rfl) (Steps.refl _) (a := a1) (by rw [eh22]; exact q23) q23x (argsL := [(.int (Int32.ofNat c8)), (.int (Int32.ofNat i))]) (rest := []) (lenOf pd_rm7_3 rfl) rfl (by show 2 * 0 + _ ≤ _; exact Nat.le_of_eq rfl) (hb hby d7_140) (fun _ _ => ⟨rfl, eh22, (by decide : 0 + 0 ≤ _), (by decide : 0 + 0 ≤ _)⟩)
            dsimp only [Pt.U, Pt.locs, Pt.cells, Pt.slots] at X23 l23 y23 z23 st23 hQ23
            subst l23 y23 z23
            obtain ⟨rfl, N23q, Kc23, Qx23⟩ := hQ23
            have N23 := Fr.app N22 N23q
            have Z23 : n0 ≤ T23.heap.size := Nat.le_trans Zj Kc23.1
            have K23 := Kj.trans Kc23 (allS (Or.inl (List.mem_of_getElem? (i := 0) rfl)) (allS (Or.inl (List.mem_of_getElem? (i := 1) rfl)) (allS (Or.inl (List.mem_of_getElem? (i := 2) rfl)) (allS (Or.inl (List.mem_of_getElem? (i := 3) rfl)) all0))))
            refine OEnds.go (t' := T23.setTop (mkF m 143 #[.val (.ref a1), .val (.int y1), .val (.double y2), .second, .val (.long y3), .second, .val (.int y4), .val (.int (Int32.ofNat i)), .val (.int (Int32.ofNat c8))] [])) (fun _ k => st23.trans k) ?_
            refine OEnds.go (t' := T23.setTop (mkF m 153 #[.val (.ref a1), .val (.int y1), .val (.double y2), .second, .val (.long y3), .second, .val (.int y4), .val (.int (Int32.ofNat c8)), .val (.int (Int32.ofNat c8))] [(.int (((2 : Int32) * (Int32.ofNat c8)) + (1 : Int32)))])) (fun _ k => ?_) ?_
            · show Steps p.tables e below (T23.setTop (mkF m 143 #[.val (.ref a1), .val (.int y1), .val (.double y2), .second, .val (.long y3), .second, .val (.int y4), .val (.int (Int32.ofNat i)), .val (.int (Int32.ofNat c8))] [])) _
              refine XS.iload X23.here hx rfl (hb hby d7_143) rfl ?_
              show Steps p.tables e below (T23.setTop (mkF m 145 #[.val (.ref a1), .val (.int y1), .val (.double y2), .second, .val (.long y3), .second, .val (.int y4), .val (.int (Int32.ofNat i)), .val (.int (Int32.ofNat c8))] [(.int (Int32.ofNat c8))])) _
              refine XS.istore X23.here hx rfl (hb hby d7_145) rfl (l' := #[.val (.ref a1), .val (.int y1), .val (.double y2), .second, .val (.long y3), .second, .val (.int y4), .val (.int (Int32.ofNat c8)), .val (.int (Int32.ofNat c8))]) rfl ?_
              show Steps p.tables e below (T23.setTop (mkF m 147 #[.val (.ref a1), .val (.int y1), .val (.double y2), .second, .val (.long y3), .second, .val (.int y4), .val (.int (Int32.ofNat c8)), .val (.int (Int32.ofNat c8))] [])) _
              refine XS.iconst X23.here hx rfl (hb hby d7_147) ?_
              show Steps p.tables e below (T23.setTop (mkF m 148 #[.val (.ref a1), .val (.int y1), .val (.double y2), .second, .val (.long y3), .second, .val (.int y4), .val (.int (Int32.ofNat c8)), .val (.int (Int32.ofNat c8))] [(.int (2 : Int32))])) _
              refine XS.iload X23.here hx rfl (hb hby d7_148) rfl ?_
              show Steps p.tables e below (T23.setTop (mkF m 150 #[.val (.ref a1), .val (.int y1), .val (.double y2), .second, .val (.long y3), .second, .val (.int y4), .val (.int (Int32.ofNat c8)), .val (.int (Int32.ofNat c8))] [(.int (Int32.ofNat c8)), (.int (2 : Int32))])) _
              refine XS.imul X23.here hx rfl (hb hby d7_150) rfl ?_
              show Steps p.tables e below (T23.setTop (mkF m 151 #[.val (.ref a1), .val (.int y1), .val (.double y2), .second, .val (.long y3), .second, .val (.int y4), .val (.int (Int32.ofNat c8)), .val (.int (Int32.ofNat c8))] [(.int ((2 : Int32) * (Int32.ofNat c8)))])) _
              refine XS.iconst X23.here hx rfl (hb hby d7_151) ?_
              show Steps p.tables e below (T23.setTop (mkF m 152 #[.val (.ref a1), .val (.int y1), .val (.double y2), .second, .val (.long y3), .second, .val (.int y4), .val (.int (Int32.ofNat c8)), .val (.int (Int32.ofNat c8))] [(.int (1 : Int32)), (.int ((2 : Int32) * (Int32.ofNat c8)))])) _
              refine XS.iadd X23.here hx rfl (hb hby d7_152) rfl ?_
              show Steps p.tables e below (T23.setTop (mkF m 153 #[.val (.ref a1), .val (.int y1), .val (.double y2), .second, .val (.long y3), .second, .val (.int y4), .val (.int (Int32.ofNat c8)), .val (.int (Int32.ofNat c8))] [(.int (((2 : Int32) * (Int32.ofNat c8)) + (1 : Int32)))])) _
              exact k
            rw [own_kid_dec c8 (by omega)]
            refine OEnds.go (t' := T23.setTop (mkF m 59 #[.val (.ref a1), .val (.int y1), .val (.double y2), .second, .val (.long y3), .second, .val (.int y4), .val (.int (Int32.ofNat c8)), .val (.int (Int32.ofNat (2 * c8 + 1)))] [])) (fun _ k => ?_) ?_
            · show Steps p.tables e below (T23.setTop (mkF m 153 #[.val (.ref a1), .val (.int y1), .val (.double y2), .second, .val (.long y3), .second, .val (.int y4), .val (.int (Int32.ofNat c8)), .val (.int (Int32.ofNat c8))] [(.int (Int32.ofNat (2 * c8 + 1)))])) _
              refine XS.istore X23.here hx rfl (hb hby d7_153) rfl (l' := #[.val (.ref a1), .val (.int y1), .val (.double y2), .second, .val (.long y3), .second, .val (.int y4), .val (.int (Int32.ofNat c8)), .val (.int (Int32.ofNat (2 * c8 + 1)))]) rfl ?_
              show Steps p.tables e below (T23.setTop (mkF m 155 #[.val (.ref a1), .val (.int y1), .val (.double y2), .second, .val (.long y3), .second, .val (.int y4), .val (.int (Int32.ofNat c8)), .val (.int (Int32.ofNat (2 * c8 + 1)))] [])) _
              refine XS.goto X23.here hx rfl (pc0 := 155) (pc' := 59) rfl (hb hby d7_155) (by decide) (by decide) ?_
              show Steps p.tables e below (T23.setTop (mkF m 59 #[.val (.ref a1), .val (.int y1), .val (.double y2), .second, .val (.long y3), .second, .val (.int y4), .val (.int (Int32.ofNat c8)), .val (.int (Int32.ofNat (2 * c8 + 1)))] [])) _
              exact k
            exact ih c8 (2 * c8 + 1) _ _ _ X23 rfl N23 Z23 K23 Qx23 (by omega) (by omega) (by omega)
        refine OEnds.go (t' := T17.setTop (mkF m 72 #[.val (.ref a1), .val (.int y1), .val (.double y2), .second, .val (.long y3), .second, .val (.int y4), .val (.int (Int32.ofNat i)), .val (.int (Int32.ofNat c9))] [(.int ((Int32.ofNat c9) + (1 : Int32)))])) (fun _ k => ?_) ?_
        · show Steps p.tables e below (T17.setTop (mkF m 68 #[.val (.ref a1), .val (.int y1), .val (.double y2), .second, .val (.long y3), .second, .val (.int y4), .val (.int (Int32.ofNat i)), .val (.int (Int32.ofNat c9))] [])) _
          refine XS.iload X17.here hx rfl (hb hby d7_68) rfl ?_
          show Steps p.tables e below (T17.setTop (mkF m 70 #[.val (.ref a1), .val (.int y1), .val (.double y2), .second, .val (.long y3), .second, .val (.int y4), .val (.int (Int32.ofNat i)), .val (.int (Int32.ofNat c9))] [(.int (Int32.ofNat c9))])) _
          refine XS.iconst X17.here hx rfl (hb hby d7_70) ?_
          show Steps p.tables e below (T17.setTop (mkF m 71 #[.val (.ref a1), .val (.int y1), .val (.double y2), .second, .val (.long y3), .second, .val (.int y4), .val (.int (Int32.ofNat i)), .val (.int (Int32.ofNat c9))] [(.int (1 : Int32)), (.int (Int32.ofNat c9))])) _
          refine XS.iadd X17.here hx rfl (hb hby d7_71) rfl ?_
          show Steps p.tables e below (T17.setTop (mkF m 72 #[.val (.ref a1), .val (.int y1), .val (.double y2), .second, .val (.long y3), .second, .val (.int y4), .val (.int (Int32.ofNat i)), .val (.int (Int32.ofNat c9))] [(.int ((Int32.ofNat c9) + (1 : Int32)))])) _
          exact k
        rw [own_succ]
        refine OEnds.go (t' := T17.setTop (mkF m 73 #[.val (.ref a1), .val (.int y1), .val (.double y2), .second, .val (.long y3), .second, .val (.int y4), .val (.int (Int32.ofNat i)), .val (.int (Int32.ofNat c9))] [(.ref a1), (.int (Int32.ofNat (c9 + 1)))])) (fun _ k => ?_) ?_
        · show Steps p.tables e below (T17.setTop (mkF m 72 #[.val (.ref a1), .val (.int y1), .val (.double y2), .second, .val (.long y3), .second, .val (.int y4), .val (.int (Int32.ofNat i)), .val (.int (Int32.ofNat c9))] [(.int (Int32.ofNat (c9 + 1)))])) _
          refine XS.aloadN X17.here hx rfl (hb hby d7_72) rfl rfl ?_
          show Steps p.tables e below (T17.setTop (mkF m 73 #[.val (.ref a1), .val (.int y1), .val (.double y2), .second, .val (.long y3), .second, .val (.int y4), .val (.int (Int32.ofNat i)), .val (.int (Int32.ofNat c9))] [(.ref a1), (.int (Int32.ofNat (c9 + 1)))])) _
          exact k
        obtain ⟨T24, X24, e24, st24⟩ := getF X17 hx hZ hown (host := "") (Or.inl (hw _ (List.mem_of_getElem? (i := 23) rfl))) Via.refl e17 Qj.2.2.2.2.1 (g := (mkF m 73 #[.val (.ref a1), .val (.int y1), .val (.double y2), .second, .val (.long y3), .second, .val (.int y4), .val (.int (Int32.ofNat i)), .val (.int (Int32.ofNat c9))] [(.ref a1), (.int (Int32.ofNat (c9 + 1)))])) rfl rfl (hb hby d7_73)
        refine OEnds.go (t' := T24.setTop (mkF m 76 #[.val (.ref a1), .val (.int y1), .val (.double y2), .second, .val (.long y3), .second, .val (.int y4), .val (.int (Int32.ofNat i)), .val (.int (Int32.ofNat c9))] [(.int (Int32.ofNat n)), (.int (Int32.ofNat (c9 + 1)))])) (fun _ k => st24 _ k) ?_
        by_cases h76 : (Int32.ofNat (c9 + 1)) < (Int32.ofNat n)
        · refine OEnds.go (t' := T24.setTop (mkF m 79 #[.val (.ref a1), .val (.int y1), .val (.double y2), .second, .val (.long y3), .second, .val (.int y4), .val (.int (Int32.ofNat i)), .val (.int (Int32.ofNat c9))] [])) (fun _ k => XS.icmpNo X24.here hx rfl (hb hby d7_76) rfl (tlt h76).2.1 k) ?_
          have hc10 : c9 + 1 < n := (own_ltn (by omega) (by omega)).mp h76
          refine OEnds.go (t' := T24.setTop (mkF m 81 #[.val (.ref a1), .val (.int y1), .val (.double y2), .second, .val (.long y3), .second, .val (.int y4), .val (.int (Int32.ofNat i)), .val (.int (Int32.ofNat c9))] [(.ref a1), (.ref a1)])) (fun _ k => ?_) ?_
          · show Steps p.tables e below (T24.setTop (mkF m 79 #[.val (.ref a1), .val (.int y1), .val (.double y2), .second, .val (.long y3), .second, .val (.int y4), .val (.int (Int32.ofNat i)), .val (.int (Int32.ofNat c9))] [])) _
            refine XS.aloadN X24.here hx rfl (hb hby d7_79) rfl rfl ?_
            show Steps p.tables e below (T24.setTop (mkF m 80 #[.val (.ref a1), .val (.int y1), .val (.double y2), .second, .val (.long y3), .second, .val (.int y4), .val (.int (Int32.ofNat i)), .val (.int (Int32.ofNat c9))] [(.ref a1)])) _
            refine XS.aloadN X24.here hx rfl (hb hby d7_80) rfl rfl ?_
            show Steps p.tables e below (T24.setTop (mkF m 81 #[.val (.ref a1), .val (.int y1), .val (.double y2), .second, .val (.long y3), .second, .val (.int y4), .val (.int (Int32.ofNat i)), .val (.int (Int32.ofNat c9))] [(.ref a1), (.ref a1)])) _
            exact k
          obtain ⟨T25, X25, e25, st25⟩ := getF X24 hx hZ hown (host := "") (Or.inl (hw _ (List.mem_of_getElem? (i := 10) rfl))) Via.refl e24 Qj.2.1 (g := (mkF m 81 #[.val (.ref a1), .val (.int y1), .val (.double y2), .second, .val (.long y3), .second, .val (.int y4), .val (.int (Int32.ofNat i)), .val (.int (Int32.ofNat c9))] [(.ref a1), (.ref a1)])) rfl rfl (hb hby d7_81)
          refine OEnds.go (t' := T25.setTop (mkF m 84 #[.val (.ref a1), .val (.int y1), .val (.double y2), .second, .val (.long y3), .second, .val (.int y4), .val (.int (Int32.ofNat i)), .val (.int (Int32.ofNat c9))] [(.ref ta), (.ref a1)])) (fun _ k => st25 _ k) ?_
          refine OEnds.go (t' := T25.setTop (mkF m 88 #[.val (.ref a1), .val (.int y1), .val (.double y2), .second, .val (.long y3), .second, .val (.int y4), .val (.int (Int32.ofNat i)), .val (.int (Int32.ofNat c9))] [(.int ((Int32.ofNat c9) + (1 : Int32))), (.ref ta), (.ref a1)])) (fun _ k => ?_) ?_
          · show Steps p.tables e below (T25.setTop (mkF m 84 #[.val (.ref a1), .val (.int y1), .val (.double y2), .second, .val (.long y3), .second, .val (.int y4), .val (.int (Int32.ofNat i)), .val (.int (Int32.ofNat c9))] [(.ref ta), (.ref a1)])) _
            refine XS.iload X25.here hx rfl (hb hby d7_84) rfl ?_
            show Steps p.tables e below (T25.setTop (mkF m 86 #[.val (.ref a1), .val (.int y1), .val (.double y2), .second, .val (.long y3), .second, .val (.int y4), .val (.int (Int32.ofNat i)), .val (.int (Int32.ofNat c9))] [(.int (Int32.ofNat c9)), (.ref ta), (.ref a1)])) _
            refine XS.iconst X25.here hx rfl (hb hby d7_86) ?_
            show Steps p.tables e below (T25.setTop (mkF m 87 #[.val (.ref a1), .val (.int y1), .val (.double y2), .second, .val (.long y3), .second, .val (.int y4), .val (.int (Int32.ofNat i)), .val (.int (Int32.ofNat c9))] [(.int (1 : Int32)), (.int (Int32.ofNat c9)), (.ref ta), (.ref a1)])) _
            refine XS.iadd X25.here hx rfl (hb hby d7_87) rfl ?_
            show Steps p.tables e below (T25.setTop (mkF m 88 #[.val (.ref a1), .val (.int y1), .val (.double y2), .second, .val (.long y3), .second, .val (.int y4), .val (.int (Int32.ofNat i)), .val (.int (Int32.ofNat c9))] [(.int ((Int32.ofNat c9) + (1 : Int32))), (.ref ta), (.ref a1)])) _
            exact k
          rw [own_succ]
          obtain ⟨u1, hu1⟩ := (Qj.2.2.2.2.2.2.1).atD (i := c9 + 1) (by omega)
          obtain ⟨cl26, Ar26, hin26, hat26⟩ := hu1
          refine OEnds.go (t' := T25.setTop (mkF m 89 #[.val (.ref a1), .val (.int y1), .val (.double y2), .second, .val (.long y3), .second, .val (.int y4), .val (.int (Int32.ofNat i)), .val (.int (Int32.ofNat c9))] [(.double u1), (.ref a1)])) (fun _ k => X25.daload hx (j := (Int32.ofNat (c9 + 1))) (v := (.double u1)) (by rw [e25]; exact Ar26.1) (State.isArrayOf_alike hZ.alike Ar26.2.1) Ar26.2.2 hin26 hat26 (g := (mkF m 88 #[.val (.ref a1), .val (.int y1), .val (.double y2), .second, .val (.long y3), .second, .val (.int y4), .val (.int (Int32.ofNat i)), .val (.int (Int32.ofNat c9))] [(.int (Int32.ofNat (c9 + 1))), (.ref ta), (.ref a1)])) rfl rfl (hb hby d7_88) _ k) ?_
          refine OEnds.go (t' := T25.setTop (mkF m 90 #[.val (.ref a1), .val (.int y1), .val (.double y2), .second, .val (.long y3), .second, .val (.int y4), .val (.int (Int32.ofNat i)), .val (.int (Int32.ofNat c9))] [(.ref a1), (.double u1), (.ref a1)])) (fun _ k => ?_) ?_
          · show Steps p.tables e below (T25.setTop (mkF m 89 #[.val (.ref a1), .val (.int y1), .val (.double y2), .second, .val (.long y3), .second, .val (.int y4), .val (.int (Int32.ofNat i)), .val (.int (Int32.ofNat c9))] [(.double u1), (.ref a1)])) _
            refine XS.aloadN X25.here hx rfl (hb hby d7_89) rfl rfl ?_
            show Steps p.tables e below (T25.setTop (mkF m 90 #[.val (.ref a1), .val (.int y1), .val (.double y2), .second, .val (.long y3), .second, .val (.int y4), .val (.int (Int32.ofNat i)), .val (.int (Int32.ofNat c9))] [(.ref a1), (.double u1), (.ref a1)])) _
            exact k
          obtain ⟨T27, X27, e27, st27⟩ := getF X25 hx hZ hown (host := "") (Or.inl (hw _ (List.mem_of_getElem? (i := 13) rfl))) Via.refl e25 Qj.2.2.1 (g := (mkF m 90 #[.val (.ref a1), .val (.int y1), .val (.double y2), .second, .val (.long y3), .second, .val (.int y4), .val (.int (Int32.ofNat i)), .val (.int (Int32.ofNat c9))] [(.ref a1), (.double u1), (.ref a1)])) rfl rfl (hb hby d7_90)
          refine OEnds.go (t' := T27.setTop (mkF m 93 #[.val (.ref a1), .val (.int y1), .val (.double y2), .second, .val (.long y3), .second, .val (.int y4), .val (.int (Int32.ofNat i)), .val (.int (Int32.ofNat c9))] [(.ref oa), (.double u1), (.ref a1)])) (fun _ k => st27 _ k) ?_
          refine OEnds.go (t' := T27.setTop (mkF m 97 #[.val (.ref a1), .val (.int y1), .val (.double y2), .second, .val (.long y3), .second, .val (.int y4), .val (.int (Int32.ofNat i)), .val (.int (Int32.ofNat c9))] [(.int ((Int32.ofNat c9) + (1 : Int32))), (.ref oa), (.double u1), (.ref a1)])) (fun _ k => ?_) ?_
          · show Steps p.tables e below (T27.setTop (mkF m 93 #[.val (.ref a1), .val (.int y1), .val (.double y2), .second, .val (.long y3), .second, .val (.int y4), .val (.int (Int32.ofNat i)), .val (.int (Int32.ofNat c9))] [(.ref oa), (.double u1), (.ref a1)])) _
            refine XS.iload X27.here hx rfl (hb hby d7_93) rfl ?_
            show Steps p.tables e below (T27.setTop (mkF m 95 #[.val (.ref a1), .val (.int y1), .val (.double y2), .second, .val (.long y3), .second, .val (.int y4), .val (.int (Int32.ofNat i)), .val (.int (Int32.ofNat c9))] [(.int (Int32.ofNat c9)), (.ref oa), (.double u1), (.ref a1)])) _
            refine XS.iconst X27.here hx rfl (hb hby d7_95) ?_
            show Steps p.tables e below (T27.setTop (mkF m 96 #[.val (.ref a1), .val (.int y1), .val (.double y2), .second, .val (.long y3), .second, .val (.int y4), .val (.int (Int32.ofNat i)), .val (.int (Int32.ofNat c9))] [(.int (1 : Int32)), (.int (Int32.ofNat c9)), (.ref oa), (.double u1), (.ref a1)])) _
            refine XS.iadd X27.here hx rfl (hb hby d7_96) rfl ?_
            show Steps p.tables e below (T27.setTop (mkF m 97 #[.val (.ref a1), .val (.int y1), .val (.double y2), .second, .val (.long y3), .second, .val (.int y4), .val (.int (Int32.ofNat i)), .val (.int (Int32.ofNat c9))] [(.int ((Int32.ofNat c9) + (1 : Int32))), (.ref oa), (.double u1), (.ref a1)])) _
            exact k
          rw [own_succ]
          obtain ⟨u2, hu2⟩ := (Qj.2.2.2.2.2.2.2.1).atJ (i := c9 + 1) (by omega)
          obtain ⟨cl28, Ar28, hin28, hat28⟩ := hu2
          refine OEnds.go (t' := T27.setTop (mkF m 98 #[.val (.ref a1), .val (.int y1), .val (.double y2), .second, .val (.long y3), .second, .val (.int y4), .val (.int (Int32.ofNat i)), .val (.int (Int32.ofNat c9))] [(.long u2), (.double u1), (.ref a1)])) (fun _ k => X27.laload hx (j := (Int32.ofNat (c9 + 1))) (v := (.long u2)) (by rw [e27]; exact Ar28.1) (State.isArrayOf_alike hZ.alike Ar28.2.1) Ar28.2.2 hin28 hat28 (g := (mkF m 97 #[.val (.ref a1), .val (.int y1), .val (.double y2), .second, .val (.long y3), .second, .val (.int y4), .val (.int (Int32.ofNat i)), .val (.int (Int32.ofNat c9))] [(.int (Int32.ofNat (c9 + 1))), (.ref oa), (.double u1), (.ref a1)])) rfl rfl (hb hby d7_97) _ k) ?_
          refine OEnds.go (t' := T27.setTop (mkF m 100 #[.val (.ref a1), .val (.int y1), .val (.double y2), .second, .val (.long y3), .second, .val (.int y4), .val (.int (Int32.ofNat i)), .val (.int (Int32.ofNat c9))] [(.int (Int32.ofNat c9)), (.long u2), (.double u1), (.ref a1)])) (fun _ k => ?_) ?_
          · show Steps p.tables e below (T27.setTop (mkF m 98 #[.val (.ref a1), .val (.int y1), .val (.double y2), .second, .val (.long y3), .second, .val (.int y4), .val (.int (Int32.ofNat i)), .val (.int (Int32.ofNat c9))] [(.long u2), (.double u1), (.ref a1)])) _
            refine XS.iload X27.here hx rfl (hb hby d7_98) rfl ?_
            show Steps p.tables e below (T27.setTop (mkF m 100 #[.val (.ref a1), .val (.int y1), .val (.double y2), .second, .val (.long y3), .second, .val (.int y4), .val (.int (Int32.ofNat i)), .val (.int (Int32.ofNat c9))] [(.int (Int32.ofNat c9)), (.long u2), (.double u1), (.ref a1)])) _
            exact k
          obtain ⟨cq29, q29, q29x⟩ := (Qj.1).cell
          obtain ⟨_, _, ⟨T29, L29, k29, n29⟩, -, X29, ⟨Lc29, hQ29, l29, y29, z29⟩, st29⟩ := X27.privateBack hx (y := (⟨"com/example/fragmint/fragmint/engine/DepartureQueue", "before", "(DJI)Z"⟩ : MethodName)) hown (mvT hZ (hw _ (List.mem_of_getElem? (i := 49) rfl))) (mvT hZ (hw _ (List.mem_of_getElem? (i := 50) rfl))) (mvT hZ (own_selP (y := (⟨"com/example/fragmint/fragmint/engine/DepartureQueue", "isEmpty", "()Z"⟩ : MethodName)) (z := (⟨"com/example/fragmint/fragmint/engine/DepartureQueue", "before", "(DJI)Z"⟩ : MethodName)) rfl (hw _ (List.mem_of_getElem? (i := 21) rfl)) (hw _ (List.mem_of_getElem? (i := 51) rfl)) (hw _ (List.mem_of_getElem? (i := 50) rfl)) (by decide))) (Cond.privateMethod_at (mvP hZ (hw _ (List.mem_of_getElem? (i := 51) rfl)) (args := #[]))) (mvT hZ (hw _ (List.mem_of_getElem? (i := 52) rfl))) (by decide) (backOf (W := 0) (rm9 l Z a0 hw [] a1 u1 u2 (Int32.ofNat c9) ta oa ha n c9 hj n0 Zj Qj (by omega) rfl) hZ (hw _ (List.mem_of_getElem? (i := 52) rfl)) (hw _ (List.mem_of_getElem? (i := 2) rfl)) (by decide) (by decide)) (g := (mkF m 100 #[.val (.ref a1), .val (.int y1), .val (.double y2), .second, .val (.long y3), .second, .val (.int y4), .val (.int (Int32.ofNat i)), .val (.int (Int32.ofNat c9))] [(.int (Int32.ofNat c9)), (.long u2), (.double u1), (.ref a1)])) rfl (by rw [hml]; rfl) (Steps.refl _) (a := a1) (by rw [e27]; exact q29) q29x (argsL := [(.double u1), (.long u2), (.int (Int32.ofNat c9))]) (rest := []) (lenOf pd_rm7_4 rfl) rfl (by show 2 * 0 + _ ≤ _; exact Nat.le_of_eq rfl) (hb hby d7_100) (fun _ _ => ⟨rfl, e27, (by decide : 0 + 0 ≤ _), (by decide : 0 + 0 ≤ _)⟩)
          dsimp only [Pt.U, Pt.locs, Pt.cells, Pt.slots] at X29 l29 y29 z29 st29 hQ29
          subst l29 y29 z29
          obtain ⟨r29, rfl, N29q, eh29⟩ := hQ29
          have N29 := Fr.app Nj N29q
          refine OEnds.go (t' := T29.setTop (mkF m 103 #[.val (.ref a1), .val (.int y1), .val (.double y2), .second, .val (.long y3), .second, .val (.int y4), .val (.int (Int32.ofNat i)), .val (.int (Int32.ofNat c9))] [(.int r29)])) (fun _ k => st29.trans k) ?_
          by_cases h103 : r29 = (0 : Int32)
          · refine OEnds.go (t' := T29.setTop (mkF m 109 #[.val (.ref a1), .val (.int y1), .val (.double y2), .second, .val (.long y3), .second, .val (.int y4), .val (.int (Int32.ofNat i)), .val (.int (Int32.ofNat c9))] [])) (fun _ k => XS.ifYes X29.here hx rfl (pc0 := 103) (pc' := 109) rfl (hb hby d7_103) rfl ((if0 _ _).trans (teq h103).1) (by decide) (by decide) k) ?_
            exact K109 _ _ X29 eh29 N29 c9 (Nat.le_refl _) hc9
          · refine OEnds.go (t' := T29.setTop (mkF m 106 #[.val (.ref a1), .val (.int y1), .val (.double y2), .second, .val (.long y3), .second, .val (.int y4), .val (.int (Int32.ofNat i)), .val (.int (Int32.ofNat c9))] [])) (fun _ k => XS.ifNo X29.here hx rfl (hb hby d7_103) rfl ((if0 _ _).trans (feq h103).1) k) ?_
            refine OEnds.go (t' := T29.setTop (mkF m 109 #[.val (.ref a1), .val (.int y1), .val (.double y2), .second, .val (.long y3), .second, .val (.int y4), .val (.int (Int32.ofNat i)), .val (.int ((Int32.ofNat c9) + (1 : Int32)))] [])) (fun _ k => ?_) ?_
            · show Steps p.tables e below (T29.setTop (mkF m 106 #[.val (.ref a1), .val (.int y1), .val (.double y2), .second, .val (.long y3), .second, .val (.int y4), .val (.int (Int32.ofNat i)), .val (.int (Int32.ofNat c9))] [])) _
              refine XS.iinc X29.here hx rfl (hb hby d7_106) rfl (l' := #[.val (.ref a1), .val (.int y1), .val (.double y2), .second, .val (.long y3), .second, .val (.int y4), .val (.int (Int32.ofNat i)), .val (.int ((Int32.ofNat c9) + (1 : Int32)))]) rfl ?_
              show Steps p.tables e below (T29.setTop (mkF m 109 #[.val (.ref a1), .val (.int y1), .val (.double y2), .second, .val (.long y3), .second, .val (.int y4), .val (.int (Int32.ofNat i)), .val (.int ((Int32.ofNat c9) + (1 : Int32)))] [])) _
              exact k
            rw [own_succ]
            exact K109 _ _ X29 eh29 N29 (c9 + 1) (by omega) (by omega)
        · refine OEnds.go (t' := T24.setTop (mkF m 109 #[.val (.ref a1), .val (.int y1), .val (.double y2), .second, .val (.long y3), .second, .val (.int y4), .val (.int (Int32.ofNat i)), .val (.int (Int32.ofNat c9))] [])) (fun _ k => XS.icmpYes X24.here hx rfl (pc0 := 76) (pc' := 109) rfl (hb hby d7_76) rfl (flt h76).2.1 (by decide) (by decide) k) ?_
          exact K109 _ _ X24 e24 Nj c9 (Nat.le_refl _) hc9
      · refine OEnds.go (t' := T17.setTop (mkF m 158 #[.val (.ref a1), .val (.int y1), .val (.double y2), .second, .val (.long y3), .second, .val (.int y4), .val (.int (Int32.ofNat i)), .val (.int (Int32.ofNat c9))] [])) (fun _ k => XS.icmpYes X17.here hx rfl (pc0 := 65) (pc' := 158) rfl (hb hby d7_65) rfl (flt h65).2.1 (by decide) (by decide) k) ?_
        exact K158 i _ _ _ _ X17 e17 Nj Zj Kj Qj hi
  exact K59 16 0 1 _ _ _ X13 e13 N5 Z5 K5 ⟨E_a1, F_times_a1, F_order_a1, F_handles_a1, F_size_a1, ⟨_, F_added_a1⟩, A_ta, A_oa, A_ha, n1, n2, n3⟩ (by decide) (by decide) (by decide)
theorem d1_0 : decode prog_11_method_1_code 0 = .ok (.aload_n 0, 1) := by decide +kernel
theorem d1_1 : decode prog_11_method_1_code 1 = .ok (.invokespecial 1, 3) := by decide +kernel
theorem d1_4 : decode prog_11_method_1_code 4 = .ok (.aload_n 0, 1) := by decide +kernel
theorem d1_5 : decode prog_11_method_1_code 5 = .ok (.bipush 16, 2) := by decide +kernel
theorem d1_7 : decode prog_11_method_1_code 7 = .ok (.newarray .double, 2) := by decide +kernel
theorem d1_9 : decode prog_11_method_1_code 9 = .ok (.putfield 7, 3) := by decide +kernel
theorem d1_12 : decode prog_11_method_1_code 12 = .ok (.aload_n 0, 1) := by decide +kernel
theorem d1_13 : decode prog_11_method_1_code 13 = .ok (.bipush 16, 2) := by decide +kernel
theorem d1_15 : decode prog_11_method_1_code 15 = .ok (.newarray .long, 2) := by decide +kernel
theorem d1_17 : decode prog_11_method_1_code 17 = .ok (.putfield 13, 3) := by decide +kernel
theorem d1_20 : decode prog_11_method_1_code 20 = .ok (.aload_n 0, 1) := by decide +kernel
theorem d1_21 : decode prog_11_method_1_code 21 = .ok (.bipush 16, 2) := by decide +kernel
theorem d1_23 : decode prog_11_method_1_code 23 = .ok (.newarray .int, 2) := by decide +kernel
theorem d1_25 : decode prog_11_method_1_code 25 = .ok (.putfield 17, 3) := by decide +kernel
theorem d1_28 : decode prog_11_method_1_code 28 = .ok (.return_, 1) := by decide +kernel
theorem pn_1 : plainName "com/example/fragmint/fragmint/engine/DepartureQueue" = true := by first | (simp [plainName, overriddenIn]; done) | decide +kernel
theorem ef_rm1 (m : MethodId) (a1 : Addr) : entryFrame m #[(.ref a1)] 1 = mkF m 0 #[.val (.ref a1)] [] := by first | (simp [entryFrame, mkF, argsToLocals, Value.category]; done) | rfl
def Q1 (Z : State) (a1 : Addr)  (h0 : Heap) (n0 : Nat) (v : Option Value) (h : Heap) (L : List Loc) : Prop := v = none ∧ Fr n0 L ∧ Keep h0 h [a1] ∧ ∃ ta oa ha : Addr, own_Q Z h a1 ta oa ha 0 ∧ n0 ≤ ta ∧ n0 ≤ oa ∧ n0 ≤ ha
set_option maxRecDepth 65536 in
set_option maxHeartbeats 40000000 in
theorem rm1 (l : Launch) (Z : State) (a0 : Array Value) (hw : ∀ d ∈ tables_1, d.before a0 Z = true) (ws : List Jvm.Cond) (a1 : Addr)  (h0 : Heap) (n0 : Nat) (Z0 : n0 ≤ h0.size) (F_times_a1 : Fld Z h0 a1 "com/example/fragmint/fragmint/engine/DepartureQueue" "times" "[D" .null) (F_order_a1 : Fld Z h0 a1 "com/example/fragmint/fragmint/engine/DepartureQueue" "order" "[J" .null) (F_handles_a1 : Fld Z h0 a1 "com/example/fragmint/fragmint/engine/DepartureQueue" "handles" "[I" .null) (F_size_a1 : Fld Z h0 a1 "com/example/fragmint/fragmint/engine/DepartureQueue" "size" "I" (.int (0 : Int32))) (F_added_a1 : Fld Z h0 a1 "com/example/fragmint/fragmint/engine/DepartureQueue" "added" "J" (.long (0 : Int64))) (E_a1 : Exa Z h0 a1 "com/example/fragmint/fragmint/engine/DepartureQueue") (g_a1 : n0 ≤ a1) :
    MetFree l (⟨"com/example/fragmint/fragmint/engine/DepartureQueue", "<init>", "()V"⟩ : MethodName) (head1 (Jvm.Cond.code (⟨"com/example/fragmint/fragmint/engine/DepartureQueue", "<init>", "()V"⟩ : MethodName) prog_11_method_1_code 1 none :: ws) ({ frames := 1, cells := 3, slots := 48, locals := 12 } : Room)) (fun a U => a = #[(.ref a1)] ∧ Z.Warmed39 U.vm ∧ U.heap = h0) (fun _ _ _ _ _ => True) (fun _ U o U' => ∃ v L, o = .returned v ∧ Q1 Z a1  h0 n0 v U'.heap L ∧ FrameEnd U o U' L ({ frames := 1, cells := 3, slots := 48, locals := 12 } : Room).cells ({ frames := 1, cells := 3, slots := 48, locals := 12 } : Room).slots) := by
  refine MetFree.of_bodySF (plainFor_of_name pn_1) hisR ?_
  intro p e s m args below meth c s₁ Bd hml0 hP hK
  obtain ⟨rfl, hZ, hh⟩ := hP
  have hx := Bd.exec
  have hby := Bd.bytes
  have hml : c.maxLocals = 1 := hml0
  have hown : s.vm.findClass "com/example/fragmint/fragmint/engine/DepartureQueue" = some m.cls := findClass_of_methodNamed Bd.named
  have hnm := (name_of_methodNamed Bd.named Bd.method).1
  have hlk := BodyLoose.notSynchronized Bd
  have hrt := Bd.returns
  have X0 : Stand p l e ({ frames := 1, cells := 3, slots := 48, locals := 12 } : Room) s m #[(.ref a1)] below meth c s₁ [] 0 0 := Stand.of_body Bd
  have e0 : s₁.heap = h0 := by rw [← hh, Bd.state]; rfl
  have N0 := Fr.nil n0
  show OEnds p e below s (Q1 Z a1  h0 n0) ({ frames := 1, cells := 3, slots := 48, locals := 12 } : Room).cells ({ frames := 1, cells := 3, slots := 48, locals := 12 } : Room).slots (s₁.setTop (entryFrame m #[(.ref a1)] 1))
  refine OEnds.go (t' := s₁.setTop (mkF m 0 #[.val (.ref a1)] [])) (fun t k => castTop (ef_rm1 m a1) k) ?_
  refine OEnds.go (t' := s₁.setTop (mkF m 1 #[.val (.ref a1)] [(.ref a1)])) (fun _ k => ?_) ?_
  · show Steps p.tables e below (s₁.setTop (mkF m 0 #[.val (.ref a1)] [])) _
    refine XS.aloadN X0.here hx rfl (hb hby d1_0) rfl rfl ?_
    show Steps p.tables e below (s₁.setTop (mkF m 1 #[.val (.ref a1)] [(.ref a1)])) _
    exact k
  obtain ⟨T1, X1, e1, st1⟩ := initO X0 hx hZ hown (hw _ (List.mem_of_getElem? (i := 6) rfl)) (hw _ (List.mem_of_getElem? (i := 7) rfl)) (hw _ (List.mem_of_getElem? (i := 8) rfl)) e0 (g := (mkF m 1 #[.val (.ref a1)] [(.ref a1)])) rfl (by rw [hml]; rfl) rfl (hb hby d1_1) (by decide) (W := 0) (by show 2 * 0 + _ ≤ _; exact Nat.le_of_eq rfl) (by decide)
  refine OEnds.go (t' := T1.setTop (mkF m 4 #[.val (.ref a1)] [])) (fun _ k => st1 _ k) ?_
  refine OEnds.go (t' := T1.setTop (mkF m 7 #[.val (.ref a1)] [(.int (16 : Int32)), (.ref a1)])) (fun _ k => ?_) ?_
  · show Steps p.tables e below (T1.setTop (mkF m 4 #[.val (.ref a1)] [])) _
    refine XS.aloadN X1.here hx rfl (hb hby d1_4) rfl rfl ?_
    show Steps p.tables e below (T1.setTop (mkF m 5 #[.val (.ref a1)] [(.ref a1)])) _
    refine XS.bipush X1.here hx rfl (hb hby d1_5) ?_
    show Steps p.tables e below (T1.setTop (mkF m 7 #[.val (.ref a1)] [(.int (16 : Int32)), (.ref a1)])) _
    exact k
  obtain ⟨T2, h2, ka2, X2, e2, E2, A2, st2⟩ := newP X1 hx hZ (hw _ (List.mem_of_getElem? (i := 9) rfl)) e1 (g := (mkF m 7 #[.val (.ref a1)] [(.int (16 : Int32)), (.ref a1)])) rfl (hb hby d1_7) rfl (by decide) (cap := 16) (by decide) (by decide) (by decide) (by decide)
  obtain ⟨ta, gz2⟩ : ∃ z, z = h0.size := ⟨_, rfl⟩
  rw [← gz2] at A2 st2
  have ne_a1_ta : a1 ≠ ta := Nat.ne_of_lt (Nat.lt_of_lt_of_le E_a1.lt (Nat.le_of_eq gz2.symm))
  have g_ta : n0 ≤ ta := Nat.le_trans Z0 (Nat.le_of_eq gz2.symm)
  have sz_ta : h0.size ≤ ta := Nat.le_trans (Keep.refl h0 [a1]).1 (Nat.le_of_eq gz2.symm)
  have E_a1 := E_a1.ext E2
  have F_times_a1 := F_times_a1.ext E2
  have F_order_a1 := F_order_a1.ext E2
  have F_handles_a1 := F_handles_a1.ext E2
  have F_size_a1 := F_size_a1.ext E2
  have F_added_a1 := F_added_a1.ext E2
  have Z2 : n0 ≤ h2.size := Nat.le_trans Z0 E2.1
  have K2 := (Keep.refl h0 [a1]).ext E2
  have V_ta := own_Ar.new A2 rfl
  refine OEnds.go (t' := T2.setTop (mkF m 9 #[.val (.ref a1)] [(.ref ta), (.ref a1)])) (fun _ k => st2 _ k) ?_
  obtain ⟨T3, h3, X3, e3, W3, st3⟩ := putF X2 hx hZ hown (host := "") (Or.inl (hw _ (List.mem_of_getElem? (i := 10) rfl))) Via.refl e2 F_times_a1 E_a1 (Or.inl (hw _ (List.mem_of_getElem? (i := 11) rfl))) (hw _ (List.mem_of_getElem? (i := 1) rfl)) (ty := (.array .double)) (by decide) rfl rfl (g := (mkF m 9 #[.val (.ref a1)] [(.ref ta), (.ref a1)])) rfl rfl (hb hby d1_9)
  have N3 := Fr.snoc X3 N0 g_a1
  have E_a1 := E_a1.wr W3
  have F_times_a1 := F_times_a1.same W3
  have F_order_a1 := F_order_a1.other W3 (Or.inr (slot_ne (Or.inl (hw _ (List.mem_of_getElem? (i := 14) rfl))) (Or.inl (hw _ (List.mem_of_getElem? (i := 11) rfl))) (by decide) (t := (.array .long)) (t' := (.array .double)) (by decide) (by decide)))
  have F_handles_a1 := F_handles_a1.other W3 (Or.inr (slot_ne (Or.inl (hw _ (List.mem_of_getElem? (i := 17) rfl))) (Or.inl (hw _ (List.mem_of_getElem? (i := 11) rfl))) (by decide) (t := (.array .int)) (t' := (.array .double)) (by decide) (by decide)))
  have F_size_a1 := F_size_a1.other W3 (Or.inr (slot_ne (Or.inl (hw _ (List.mem_of_getElem? (i := 24) rfl))) (Or.inl (hw _ (List.mem_of_getElem? (i := 11) rfl))) (by decide) (t := .int) (t' := (.array .double)) (by decide) (by decide)))
  have F_added_a1 := F_added_a1.other W3 (Or.inr (slot_ne (Or.inl (hw _ (List.mem_of_getElem? (i := 35) rfl))) (Or.inl (hw _ (List.mem_of_getElem? (i := 11) rfl))) (by decide) (t := .long) (t' := (.array .double)) (by decide) (by decide)))
  have V_ta := V_ta.other W3 (Ne.symm ne_a1_ta)
  have Z3 : n0 ≤ h3.size := Nat.le_trans Z2 (Keep.of_wr W3).1
  have K3 := K2.wr W3 (Or.inl (List.mem_of_getElem? (i := 0) rfl))
  refine OEnds.go (t' := T3.setTop (mkF m 12 #[.val (.ref a1)] [])) (fun _ k => st3 _ k) ?_
  refine OEnds.go (t' := T3.setTop (mkF m 15 #[.val (.ref a1)] [(.int (16 : Int32)), (.ref a1)])) (fun _ k => ?_) ?_
  · show Steps p.tables e below (T3.setTop (mkF m 12 #[.val (.ref a1)] [])) _
    refine XS.aloadN X3.here hx rfl (hb hby d1_12) rfl rfl ?_
    show Steps p.tables e below (T3.setTop (mkF m 13 #[.val (.ref a1)] [(.ref a1)])) _
    refine XS.bipush X3.here hx rfl (hb hby d1_13) ?_
    show Steps p.tables e below (T3.setTop (mkF m 15 #[.val (.ref a1)] [(.int (16 : Int32)), (.ref a1)])) _
    exact k
  obtain ⟨T4, h4, ka4, X4, e4, E4, A4, st4⟩ := newP X3 hx hZ (hw _ (List.mem_of_getElem? (i := 12) rfl)) e3 (g := (mkF m 15 #[.val (.ref a1)] [(.int (16 : Int32)), (.ref a1)])) rfl (hb hby d1_15) rfl (by decide) (cap := 16) (by decide) (by decide) (by decide) (by decide)
  obtain ⟨oa, gz4⟩ : ∃ z, z = h3.size := ⟨_, rfl⟩
  rw [← gz4] at A4 st4
  have ne_a1_oa : a1 ≠ oa := Nat.ne_of_lt (Nat.lt_of_lt_of_le E_a1.lt (Nat.le_of_eq gz4.symm))
  have ne_ta_oa : ta ≠ oa := Nat.ne_of_lt (Nat.lt_of_lt_of_le V_ta.lt (Nat.le_of_eq gz4.symm))
  have g_oa : n0 ≤ oa := Nat.le_trans Z3 (Nat.le_of_eq gz4.symm)
  have sz_oa : h0.size ≤ oa := Nat.le_trans K3.1 (Nat.le_of_eq gz4.symm)
  have E_a1 := E_a1.ext E4
  have F_times_a1 := F_times_a1.ext E4
  have F_order_a1 := F_order_a1.ext E4
  have F_handles_a1 := F_handles_a1.ext E4
  have F_size_a1 := F_size_a1.ext E4
  have F_added_a1 := F_added_a1.ext E4
  have V_ta := V_ta.ext E4
  have Z4 : n0 ≤ h4.size := Nat.le_trans Z3 E4.1
  have K4 := K3.ext E4
  have V_oa := own_Ar.new A4 rfl
  refine OEnds.go (t' := T4.setTop (mkF m 17 #[.val (.ref a1)] [(.ref oa), (.ref a1)])) (fun _ k => st4 _ k) ?_
  obtain ⟨T5, h5, X5, e5, W5, st5⟩ := putF X4 hx hZ hown (host := "") (Or.inl (hw _ (List.mem_of_getElem? (i := 13) rfl))) Via.refl e4 F_order_a1 E_a1 (Or.inl (hw _ (List.mem_of_getElem? (i := 14) rfl))) (hw _ (List.mem_of_getElem? (i := 1) rfl)) (ty := (.array .long)) (by decide) rfl rfl (g := (mkF m 17 #[.val (.ref a1)] [(.ref oa), (.ref a1)])) rfl rfl (hb hby d1_17)
  have N5 := Fr.snoc X5 N3 g_a1
  have E_a1 := E_a1.wr W5
  have F_times_a1 := F_times_a1.other W5 (Or.inr (slot_ne (Or.inl (hw _ (List.mem_of_getElem? (i := 11) rfl))) (Or.inl (hw _ (List.mem_of_getElem? (i := 14) rfl))) (by decide) (t := (.array .double)) (t' := (.array .long)) (by decide) (by decide)))
  have F_order_a1 := F_order_a1.same W5
  have F_handles_a1 := F_handles_a1.other W5 (Or.inr (slot_ne (Or.inl (hw _ (List.mem_of_getElem? (i := 17) rfl))) (Or.inl (hw _ (List.mem_of_getElem? (i := 14) rfl))) (by decide) (t := (.array .int)) (t' := (.array .long)) (by decide) (by decide)))
  have F_size_a1 := F_size_a1.other W5 (Or.inr (slot_ne (Or.inl (hw _ (List.mem_of_getElem? (i := 24) rfl))) (Or.inl (hw _ (List.mem_of_getElem? (i := 14) rfl))) (by decide) (t := .int) (t' := (.array .long)) (by decide) (by decide)))
  have F_added_a1 := F_added_a1.other W5 (Or.inr (slot_ne (Or.inl (hw _ (List.mem_of_getElem? (i := 35) rfl))) (Or.inl (hw _ (List.mem_of_getElem? (i := 14) rfl))) (by decide) (t := .long) (t' := (.array .long)) (by decide) (by decide)))
  have V_ta := V_ta.other W5 (Ne.symm ne_a1_ta)
  have V_oa := V_oa.other W5 (Ne.symm ne_a1_oa)
  have Z5 : n0 ≤ h5.size := Nat.le_trans Z4 (Keep.of_wr W5).1
  have K5 := K4.wr W5 (Or.inl (List.mem_of_getElem? (i := 0) rfl))
  refine OEnds.go (t' := T5.setTop (mkF m 20 #[.val (.ref a1)] [])) (fun _ k => st5 _ k) ?_
  refine OEnds.go (t' := T5.setTop (mkF m 23 #[.val (.ref a1)] [(.int (16 : Int32)), (.ref a1)])) (fun _ k => ?_) ?_
  · show Steps p.tables e below (T5.setTop (mkF m 20 #[.val (.ref a1)] [])) _
    refine XS.aloadN X5.here hx rfl (hb hby d1_20) rfl rfl ?_
    show Steps p.tables e below (T5.setTop (mkF m 21 #[.val (.ref a1)] [(.ref a1)])) _
    refine XS.bipush X5.here hx rfl (hb hby d1_21) ?_
    show Steps p.tables e below (T5.setTop (mkF m 23 #[.val (.ref a1)] [(.int (16 : Int32)), (.ref a1)])) _
    exact k
  obtain ⟨T6, h6, ka6, X6, e6, E6, A6, st6⟩ := newP X5 hx hZ (hw _ (List.mem_of_getElem? (i := 15) rfl)) e5 (g := (mkF m 23 #[.val (.ref a1)] [(.int (16 : Int32)), (.ref a1)])) rfl (hb hby d1_23) rfl (by decide) (cap := 16) (by decide) (by decide) (by decide) (by decide)
  obtain ⟨ha, gz6⟩ : ∃ z, z = h5.size := ⟨_, rfl⟩
  rw [← gz6] at A6 st6
  have ne_a1_ha : a1 ≠ ha := Nat.ne_of_lt (Nat.lt_of_lt_of_le E_a1.lt (Nat.le_of_eq gz6.symm))
  have ne_ta_ha : ta ≠ ha := Nat.ne_of_lt (Nat.lt_of_lt_of_le V_ta.lt (Nat.le_of_eq gz6.symm))
  have ne_oa_ha : oa ≠ ha := Nat.ne_of_lt (Nat.lt_of_lt_of_le V_oa.lt (Nat.le_of_eq gz6.symm))
  have g_ha : n0 ≤ ha := Nat.le_trans Z5 (Nat.le_of_eq gz6.symm)
  have sz_ha : h0.size ≤ ha := Nat.le_trans K5.1 (Nat.le_of_eq gz6.symm)
  have E_a1 := E_a1.ext E6
  have F_times_a1 := F_times_a1.ext E6
  have F_order_a1 := F_order_a1.ext E6
  have F_handles_a1 := F_handles_a1.ext E6
  have F_size_a1 := F_size_a1.ext E6
  have F_added_a1 := F_added_a1.ext E6
  have V_ta := V_ta.ext E6
  have V_oa := V_oa.ext E6
  have Z6 : n0 ≤ h6.size := Nat.le_trans Z5 E6.1
  have K6 := K5.ext E6
  have V_ha := own_Ar.new A6 rfl
  refine OEnds.go (t' := T6.setTop (mkF m 25 #[.val (.ref a1)] [(.ref ha), (.ref a1)])) (fun _ k => st6 _ k) ?_
  obtain ⟨T7, h7, X7, e7, W7, st7⟩ := putF X6 hx hZ hown (host := "") (Or.inl (hw _ (List.mem_of_getElem? (i := 16) rfl))) Via.refl e6 F_handles_a1 E_a1 (Or.inl (hw _ (List.mem_of_getElem? (i := 17) rfl))) (hw _ (List.mem_of_getElem? (i := 1) rfl)) (ty := (.array .int)) (by decide) rfl rfl (g := (mkF m 25 #[.val (.ref a1)] [(.ref ha), (.ref a1)])) rfl rfl (hb hby d1_25)
  have N7 := Fr.snoc X7 N5 g_a1
  have E_a1 := E_a1.wr W7
  have F_times_a1 := F_times_a1.other W7 (Or.inr (slot_ne (Or.inl (hw _ (List.mem_of_getElem? (i := 11) rfl))) (Or.inl (hw _ (List.mem_of_getElem? (i := 17) rfl))) (by decide) (t := (.array .double)) (t' := (.array .int)) (by decide) (by decide)))
  have F_order_a1 := F_order_a1.other W7 (Or.inr (slot_ne (Or.inl (hw _ (List.mem_of_getElem? (i := 14) rfl))) (Or.inl (hw _ (List.mem_of_getElem? (i := 17) rfl))) (by decide) (t := (.array .long)) (t' := (.array .int)) (by decide) (by decide)))
  have F_handles_a1 := F_handles_a1.same W7
  have F_size_a1 := F_size_a1.other W7 (Or.inr (slot_ne (Or.inl (hw _ (List.mem_of_getElem? (i := 24) rfl))) (Or.inl (hw _ (List.mem_of_getElem? (i := 17) rfl))) (by decide) (t := .int) (t' := (.array .int)) (by decide) (by decide)))
  have F_added_a1 := F_added_a1.other W7 (Or.inr (slot_ne (Or.inl (hw _ (List.mem_of_getElem? (i := 35) rfl))) (Or.inl (hw _ (List.mem_of_getElem? (i := 17) rfl))) (by decide) (t := .long) (t' := (.array .int)) (by decide) (by decide)))
  have V_ta := V_ta.other W7 (Ne.symm ne_a1_ta)
  have V_oa := V_oa.other W7 (Ne.symm ne_a1_oa)
  have V_ha := V_ha.other W7 (Ne.symm ne_a1_ha)
  have Z7 : n0 ≤ h7.size := Nat.le_trans Z6 (Keep.of_wr W7).1
  have K7 := K6.wr W7 (Or.inl (List.mem_of_getElem? (i := 0) rfl))
  refine OEnds.go (t' := T7.setTop (mkF m 28 #[.val (.ref a1)] [])) (fun _ k => st7 _ k) ?_
  refine OEnds.back X7 hlk (v := none) (fun _ => rfl) (fun fs hr => ?_) ?_ (by decide) (by decide)
  · exact X7.returnOut hx hrt (hb hby d1_28) hr
  · show Q1 Z a1  h0 n0 _ T7.heap _
    rw [e7]
    exact ⟨rfl, N7, K7, ta, oa, ha, ⟨E_a1, F_times_a1, F_order_a1, F_handles_a1, F_size_a1, ⟨_, F_added_a1⟩, V_ta, V_oa, V_ha, ne_ta_oa, ne_ta_ha, ne_oa_ha⟩, g_ta, g_oa, g_ha⟩
theorem d4_0 : decode method_2_code 0 = .ok (.iload_n 2, 1) := by decide +kernel
theorem d4_1 : decode method_2_code 1 = .ok (.ifCond .ne 7, 3) := by decide +kernel
theorem d4_4 : decode method_2_code 4 = .ok (.iload_n 1, 1) := by decide +kernel
theorem d4_5 : decode method_2_code 5 = .ok (.ifCond .ne 15, 3) := by decide +kernel
theorem d4_8 : decode method_2_code 8 = .ok (.aload_n 0, 1) := by decide +kernel
theorem d4_9 : decode method_2_code 9 = .ok (.iload_n 3, 1) := by decide +kernel
theorem d4_10 : decode method_2_code 10 = .ok (.i2d, 1) := by decide +kernel
theorem d4_11 : decode method_2_code 11 = .ok (.iload 4, 2) := by decide +kernel
theorem d4_13 : decode method_2_code 13 = .ok (.invokevirtual 7, 3) := by decide +kernel
theorem d4_16 : decode method_2_code 16 = .ok (.iload_n 1, 1) := by decide +kernel
theorem d4_17 : decode method_2_code 17 = .ok (.iconst 1, 1) := by decide +kernel
theorem d4_18 : decode method_2_code 18 = .ok (.iadd, 1) := by decide +kernel
theorem d4_19 : decode method_2_code 19 = .ok (.ireturn, 1) := by decide +kernel
theorem d4_20 : decode method_2_code 20 = .ok (.aload_n 0, 1) := by decide +kernel
theorem d4_21 : decode method_2_code 21 = .ok (.invokevirtual 13, 3) := by decide +kernel
theorem d4_24 : decode method_2_code 24 = .ok (.pop, 1) := by decide +kernel
theorem d4_25 : decode method_2_code 25 = .ok (.iload_n 1, 1) := by decide +kernel
theorem d4_26 : decode method_2_code 26 = .ok (.iconst 1, 1) := by decide +kernel
theorem d4_27 : decode method_2_code 27 = .ok (.isub, 1) := by decide +kernel
theorem d4_28 : decode method_2_code 28 = .ok (.ireturn, 1) := by decide +kernel
theorem pn_4 : plainName "com/example/fragmint/fragmint/engine/DepartureQueueIsEmptyPinLaw" = true := by first | (simp [plainName, overriddenIn]; done) | decide +kernel
theorem pd_rm4_0 : parseMethodDescriptor "(DI)V" = some ⟨[.double, .int], none⟩ := by decide +kernel
theorem pd_rm4_1 : parseMethodDescriptor "()I" = some ⟨[], some .int⟩ := by decide +kernel
theorem ef_rm4 (m : MethodId) (a1 : Addr) (p1 : Int32) (p2 : Int32) (p3 : Int32) (p4 : Int32) : entryFrame m #[(.ref a1), (.int p1), (.int p2), (.int p3), (.int p4)] 5 = mkF m 0 #[.val (.ref a1), .val (.int p1), .val (.int p2), .val (.int p3), .val (.int p4)] [] := by first | (simp [entryFrame, mkF, argsToLocals, Value.category]; done) | rfl
def Q4 (Z : State) (a1 : Addr) (p1 : Int32) (p2 : Int32) (p3 : Int32) (p4 : Int32) (ta : Addr) (oa : Addr) (ha : Addr) (n : Nat) (h0 : Heap) (n0 : Nat) (v : Option Value) (h : Heap) (L : List Loc) : Prop := ∃ n' : Nat, v = some (.int (Int32.ofNat n')) ∧ Fr n0 L ∧ Keep h0 h [a1, ta, oa, ha] ∧ own_Q Z h a1 ta oa ha n' ∧ n' ≤ n + 1
set_option maxRecDepth 65536 in
set_option maxHeartbeats 40000000 in
theorem rm4 (l : Launch) (Z : State) (a0 : Array Value) (hw : ∀ d ∈ tables_1, d.before a0 Z = true) (ws : List Jvm.Cond) (a1 : Addr) (p1 : Int32) (p2 : Int32) (p3 : Int32) (p4 : Int32) (ta : Addr) (oa : Addr) (ha : Addr) (n : Nat) (h0 : Heap) (n0 : Nat) (Z0 : n0 ≤ h0.size) (Q1 : own_Q Z h0 a1 ta oa ha n) (g_a1 : n0 ≤ a1) (g_ta : n0 ≤ ta) (g_oa : n0 ≤ oa) (g_ha : n0 ≤ ha) (hn : n < 4) (ep : p1 = Int32.ofNat n) :
    MetFree l (⟨"com/example/fragmint/fragmint/engine/DepartureQueueIsEmptyPinLaw", "step", "(Lcom/example/fragmint/fragmint/engine/DepartureQueue;IIII)I"⟩ : MethodName) (head1 (Jvm.Cond.code (⟨"com/example/fragmint/fragmint/engine/DepartureQueueIsEmptyPinLaw", "step", "(Lcom/example/fragmint/fragmint/engine/DepartureQueue;IIII)I"⟩ : MethodName) method_2_code 5 (some .int) :: ws) ({ frames := 3, cells := 0, slots := 0, locals := 56 } : Room)) (fun a U => a = #[(.ref a1), (.int p1), (.int p2), (.int p3), (.int p4)] ∧ Z.Warmed39 U.vm ∧ U.heap = h0) (fun _ _ _ _ _ => True) (fun _ U o U' => ∃ v L, o = .returned v ∧ Q4 Z a1 p1 p2 p3 p4 ta oa ha n h0 n0 v U'.heap L ∧ FrameEnd U o U' L ({ frames := 3, cells := 0, slots := 0, locals := 56 } : Room).cells ({ frames := 3, cells := 0, slots := 0, locals := 56 } : Room).slots) := by
  refine MetFree.of_bodySF (plainFor_of_name pn_4) hisR ?_
  intro p e s m args below meth c s₁ Bd hml0 hP hK
  obtain ⟨rfl, hZ, hh⟩ := hP
  have hx := Bd.exec
  have hby := Bd.bytes
  have hml : c.maxLocals = 5 := hml0
  have hown : s.vm.findClass "com/example/fragmint/fragmint/engine/DepartureQueueIsEmptyPinLaw" = some m.cls := findClass_of_methodNamed Bd.named
  have hnm := (name_of_methodNamed Bd.named Bd.method).1
  have hlk := BodyLoose.notSynchronized Bd
  have hrt := Bd.returns
  have X0 : Stand p l e ({ frames := 3, cells := 0, slots := 0, locals := 56 } : Room) s m #[(.ref a1), (.int p1), (.int p2), (.int p3), (.int p4)] below meth c s₁ [] 0 0 := Stand.of_body Bd
  have e0 : s₁.heap = h0 := by rw [← hh, Bd.state]; rfl
  have N0 := Fr.nil n0
  show OEnds p e below s (Q4 Z a1 p1 p2 p3 p4 ta oa ha n h0 n0) ({ frames := 3, cells := 0, slots := 0, locals := 56 } : Room).cells ({ frames := 3, cells := 0, slots := 0, locals := 56 } : Room).slots (s₁.setTop (entryFrame m #[(.ref a1), (.int p1), (.int p2), (.int p3), (.int p4)] 5))
  refine OEnds.go (t' := s₁.setTop (mkF m 0 #[.val (.ref a1), .val (.int p1), .val (.int p2), .val (.int p3), .val (.int p4)] [])) (fun t k => castTop (ef_rm4 m a1 p1 p2 p3 p4) k) ?_
  subst ep
  refine OEnds.cut (fun En => En (s₁.setTop (mkF m 8 #[.val (.ref a1), .val (.int (Int32.ofNat n)), .val (.int p2), .val (.int p3), .val (.int p4)] []))) ?_ (fun K8 => ?_)
  · skip
    refine OEnds.go (t' := s₁.setTop (mkF m 13 #[.val (.ref a1), .val (.int (Int32.ofNat n)), .val (.int p2), .val (.int p3), .val (.int p4)] [(.int p4), (.double (FP.i2d p3)), (.ref a1)])) (fun _ k => ?_) ?_
    · show Steps p.tables e below (s₁.setTop (mkF m 8 #[.val (.ref a1), .val (.int (Int32.ofNat n)), .val (.int p2), .val (.int p3), .val (.int p4)] [])) _
      refine XS.aloadN X0.here hx rfl (hb hby d4_8) rfl rfl ?_
      show Steps p.tables e below (s₁.setTop (mkF m 9 #[.val (.ref a1), .val (.int (Int32.ofNat n)), .val (.int p2), .val (.int p3), .val (.int p4)] [(.ref a1)])) _
      refine XS.iloadN X0.here hx rfl (hb hby d4_9) rfl ?_
      show Steps p.tables e below (s₁.setTop (mkF m 10 #[.val (.ref a1), .val (.int (Int32.ofNat n)), .val (.int p2), .val (.int p3), .val (.int p4)] [(.int p3), (.ref a1)])) _
      refine Jvm.OwnD.i2dS X0.here hx rfl (hb hby d4_10) rfl ?_
      show Steps p.tables e below (s₁.setTop (mkF m 11 #[.val (.ref a1), .val (.int (Int32.ofNat n)), .val (.int p2), .val (.int p3), .val (.int p4)] [(.double (FP.i2d p3)), (.ref a1)])) _
      refine XS.iload X0.here hx rfl (hb hby d4_11) rfl ?_
      show Steps p.tables e below (s₁.setTop (mkF m 13 #[.val (.ref a1), .val (.int (Int32.ofNat n)), .val (.int p2), .val (.int p3), .val (.int p4)] [(.int p4), (.double (FP.i2d p3)), (.ref a1)])) _
      exact k
    obtain ⟨cq1, kq1, q1a, q1b, q1c⟩ := isOf hZ e0 Q1.1
    obtain ⟨_, _, ⟨T1, L1, k1, n1⟩, -, X1, ⟨Lc1, hQ1, l1, y1, z1⟩, st1⟩ := X0.virtualBack hx (y := (⟨"com/example/fragmint/fragmint/engine/DepartureQueue", "add", "(DI)V"⟩ : MethodName)) (z := (⟨"com/example/fragmint/fragmint/engine/DepartureQueue", "add", "(DI)V"⟩ : MethodName)) hown (mvT hZ (hw _ (List.mem_of_getElem? (i := 29) rfl))) (mvT hZ (hw _ (List.mem_of_getElem? (i := 30) rfl))) (notFace_of_selects (args := #[]) (mvT hZ (hw _ (List.mem_of_getElem? (i := 32) rfl)))) (mvT hZ (hw _ (List.mem_of_getElem? (i := 32) rfl))) (mvT hZ (hw _ (List.mem_of_getElem? (i := 31) rfl))) (by decide) (backOf (W := 0) (rm5 l Z a0 hw [] a1 (FP.i2d p3) p4 ta oa ha n h0 n0 Z0 Q1 g_a1 g_ta g_oa g_ha (by omega)) hZ (hw _ (List.mem_of_getElem? (i := 33) rfl)) (hw _ (List.mem_of_getElem? (i := 2) rfl)) (by decide) (by decide)) q1a q1c (g := (mkF m 13 #[.val (.ref a1), .val (.int (Int32.ofNat n)), .val (.int p2), .val (.int p3), .val (.int p4)] [(.int p4), (.double (FP.i2d p3)), (.ref a1)])) rfl (by rw [hml]; rfl) (Steps.refl _) (argsL := [(.double (FP.i2d p3)), (.int p4)]) (rest := []) (lenOf pd_rm4_0 rfl) rfl (by show 2 * 0 + _ ≤ _; exact Nat.le_of_eq rfl) (hb hby d4_13) (fun _ _ => ⟨rfl, e0, (by decide : 0 + 0 ≤ _), (by decide : 0 + 0 ≤ _)⟩)
    dsimp only [Pt.U, Pt.locs, Pt.cells, Pt.slots] at X1 l1 y1 z1 st1 hQ1
    subst l1 y1 z1
    obtain ⟨rfl, N1q, Kc1, Qx1⟩ := hQ1
    have N1 := Fr.app N0 N1q
    have Z1 : n0 ≤ T1.heap.size := Nat.le_trans Z0 Kc1.1
    refine OEnds.go (t' := T1.setTop (mkF m 16 #[.val (.ref a1), .val (.int (Int32.ofNat n)), .val (.int p2), .val (.int p3), .val (.int p4)] [])) (fun _ k => st1.trans k) ?_
    refine OEnds.go (t' := T1.setTop (mkF m 19 #[.val (.ref a1), .val (.int (Int32.ofNat n)), .val (.int p2), .val (.int p3), .val (.int p4)] [(.int ((Int32.ofNat n) + (1 : Int32)))])) (fun _ k => ?_) ?_
    · show Steps p.tables e below (T1.setTop (mkF m 16 #[.val (.ref a1), .val (.int (Int32.ofNat n)), .val (.int p2), .val (.int p3), .val (.int p4)] [])) _
      refine XS.iloadN X1.here hx rfl (hb hby d4_16) rfl ?_
      show Steps p.tables e below (T1.setTop (mkF m 17 #[.val (.ref a1), .val (.int (Int32.ofNat n)), .val (.int p2), .val (.int p3), .val (.int p4)] [(.int (Int32.ofNat n))])) _
      refine XS.iconst X1.here hx rfl (hb hby d4_17) ?_
      show Steps p.tables e below (T1.setTop (mkF m 18 #[.val (.ref a1), .val (.int (Int32.ofNat n)), .val (.int p2), .val (.int p3), .val (.int p4)] [(.int (1 : Int32)), (.int (Int32.ofNat n))])) _
      refine XS.iadd X1.here hx rfl (hb hby d4_18) rfl ?_
      show Steps p.tables e below (T1.setTop (mkF m 19 #[.val (.ref a1), .val (.int (Int32.ofNat n)), .val (.int p2), .val (.int p3), .val (.int p4)] [(.int ((Int32.ofNat n) + (1 : Int32)))])) _
      exact k
    rw [own_succ]
    refine OEnds.back X1 hlk (v := (some (.int (Int32.ofNat (n + 1))))) (fun h => by rw [hrt] at h; cases h) (fun fs hr => ?_) ?_ (by decide) (by decide)
    · exact retI X1 hx hrt (hb hby d4_19) hr
    · show Q4 Z a1 (Int32.ofNat n) p2 p3 p4 ta oa ha n h0 n0 _ T1.heap _
      exact ⟨_, rfl, N1, Kc1, Qx1, Nat.le_refl _⟩
  refine OEnds.go (t' := s₁.setTop (mkF m 1 #[.val (.ref a1), .val (.int (Int32.ofNat n)), .val (.int p2), .val (.int p3), .val (.int p4)] [(.int p2)])) (fun _ k => ?_) ?_
  · show Steps p.tables e below (s₁.setTop (mkF m 0 #[.val (.ref a1), .val (.int (Int32.ofNat n)), .val (.int p2), .val (.int p3), .val (.int p4)] [])) _
    refine XS.iloadN X0.here hx rfl (hb hby d4_0) rfl ?_
    show Steps p.tables e below (s₁.setTop (mkF m 1 #[.val (.ref a1), .val (.int (Int32.ofNat n)), .val (.int p2), .val (.int p3), .val (.int p4)] [(.int p2)])) _
    exact k
  by_cases h1 : p2 = (0 : Int32)
  · refine OEnds.go (t' := s₁.setTop (mkF m 4 #[.val (.ref a1), .val (.int (Int32.ofNat n)), .val (.int p2), .val (.int p3), .val (.int p4)] [])) (fun _ k => XS.ifNo X0.here hx rfl (hb hby d4_1) rfl ((if0 _ _).trans (teq h1).2) k) ?_
    refine OEnds.go (t' := s₁.setTop (mkF m 5 #[.val (.ref a1), .val (.int (Int32.ofNat n)), .val (.int p2), .val (.int p3), .val (.int p4)] [(.int (Int32.ofNat n))])) (fun _ k => ?_) ?_
    · show Steps p.tables e below (s₁.setTop (mkF m 4 #[.val (.ref a1), .val (.int (Int32.ofNat n)), .val (.int p2), .val (.int p3), .val (.int p4)] [])) _
      refine XS.iloadN X0.here hx rfl (hb hby d4_4) rfl ?_
      show Steps p.tables e below (s₁.setTop (mkF m 5 #[.val (.ref a1), .val (.int (Int32.ofNat n)), .val (.int p2), .val (.int p3), .val (.int p4)] [(.int (Int32.ofNat n))])) _
      exact k
    by_cases h5 : (Int32.ofNat n) = (0 : Int32)
    · refine OEnds.go (t' := s₁.setTop (mkF m 8 #[.val (.ref a1), .val (.int (Int32.ofNat n)), .val (.int p2), .val (.int p3), .val (.int p4)] [])) (fun _ k => XS.ifNo X0.here hx rfl (hb hby d4_5) rfl ((if0 _ _).trans (teq h5).2) k) ?_
      exact K8 
    · refine OEnds.go (t' := s₁.setTop (mkF m 20 #[.val (.ref a1), .val (.int (Int32.ofNat n)), .val (.int p2), .val (.int p3), .val (.int p4)] [])) (fun _ k => XS.ifYes X0.here hx rfl (pc0 := 5) (pc' := 20) rfl (hb hby d4_5) rfl ((if0 _ _).trans (feq h5).2) (by decide) (by decide) k) ?_
      obtain ⟨kk, rfl⟩ : ∃ kk, n = kk + 1 := ⟨n - 1, by have : n ≠ 0 := fun q => h5 (by rw [q]; rfl); omega⟩
      refine OEnds.go (t' := s₁.setTop (mkF m 21 #[.val (.ref a1), .val (.int (Int32.ofNat (kk + 1))), .val (.int p2), .val (.int p3), .val (.int p4)] [(.ref a1)])) (fun _ k => ?_) ?_
      · show Steps p.tables e below (s₁.setTop (mkF m 20 #[.val (.ref a1), .val (.int (Int32.ofNat (kk + 1))), .val (.int p2), .val (.int p3), .val (.int p4)] [])) _
        refine XS.aloadN X0.here hx rfl (hb hby d4_20) rfl rfl ?_
        show Steps p.tables e below (s₁.setTop (mkF m 21 #[.val (.ref a1), .val (.int (Int32.ofNat (kk + 1))), .val (.int p2), .val (.int p3), .val (.int p4)] [(.ref a1)])) _
        exact k
      obtain ⟨cq2, kq2, q2a, q2b, q2c⟩ := isOf hZ e0 Q1.1
      obtain ⟨_, _, ⟨T2, L2, k2, n2⟩, -, X2, ⟨Lc2, hQ2, l2, y2, z2⟩, st2⟩ := X0.virtualBack hx (y := (⟨"com/example/fragmint/fragmint/engine/DepartureQueue", "removeNext", "()I"⟩ : MethodName)) (z := (⟨"com/example/fragmint/fragmint/engine/DepartureQueue", "removeNext", "()I"⟩ : MethodName)) hown (mvT hZ (hw _ (List.mem_of_getElem? (i := 40) rfl))) (mvT hZ (hw _ (List.mem_of_getElem? (i := 41) rfl))) (notFace_of_selects (args := #[]) (mvT hZ (hw _ (List.mem_of_getElem? (i := 43) rfl)))) (mvT hZ (hw _ (List.mem_of_getElem? (i := 43) rfl))) (mvT hZ (hw _ (List.mem_of_getElem? (i := 42) rfl))) (by decide) (backOf (W := 0) (rm7 l Z a0 hw [] a1 ta oa ha kk h0 n0 Z0 Q1 g_a1 g_ta g_oa g_ha (by omega)) hZ (hw _ (List.mem_of_getElem? (i := 44) rfl)) (hw _ (List.mem_of_getElem? (i := 2) rfl)) (by decide) (by decide)) q2a q2c (g := (mkF m 21 #[.val (.ref a1), .val (.int (Int32.ofNat (kk + 1))), .val (.int p2), .val (.int p3), .val (.int p4)] [(.ref a1)])) rfl (by rw [hml]; rfl) (Steps.refl _) (argsL := []) (rest := []) (lenOf pd_rm4_1 rfl) rfl (by show 2 * 0 + _ ≤ _; exact Nat.le_of_eq rfl) (hb hby d4_21) (fun _ _ => ⟨rfl, e0, (by decide : 0 + 0 ≤ _), (by decide : 0 + 0 ≤ _)⟩)
      dsimp only [Pt.U, Pt.locs, Pt.cells, Pt.slots] at X2 l2 y2 z2 st2 hQ2
      subst l2 y2 z2
      obtain ⟨r2, rfl, N2q, Kc2, Qx2⟩ := hQ2
      have N2 := Fr.app N0 N2q
      have Z2 : n0 ≤ T2.heap.size := Nat.le_trans Z0 Kc2.1
      refine OEnds.go (t' := T2.setTop (mkF m 24 #[.val (.ref a1), .val (.int (Int32.ofNat (kk + 1))), .val (.int p2), .val (.int p3), .val (.int p4)] [(.int r2)])) (fun _ k => st2.trans k) ?_
      refine OEnds.go (t' := T2.setTop (mkF m 28 #[.val (.ref a1), .val (.int (Int32.ofNat (kk + 1))), .val (.int p2), .val (.int p3), .val (.int p4)] [(.int ((Int32.ofNat (kk + 1)) - (1 : Int32)))])) (fun _ k => ?_) ?_
      · show Steps p.tables e below (T2.setTop (mkF m 24 #[.val (.ref a1), .val (.int (Int32.ofNat (kk + 1))), .val (.int p2), .val (.int p3), .val (.int p4)] [(.int r2)])) _
        refine XS.pop X2.here hx rfl (hb hby d4_24) rfl rfl ?_
        show Steps p.tables e below (T2.setTop (mkF m 25 #[.val (.ref a1), .val (.int (Int32.ofNat (kk + 1))), .val (.int p2), .val (.int p3), .val (.int p4)] [])) _
        refine XS.iloadN X2.here hx rfl (hb hby d4_25) rfl ?_
        show Steps p.tables e below (T2.setTop (mkF m 26 #[.val (.ref a1), .val (.int (Int32.ofNat (kk + 1))), .val (.int p2), .val (.int p3), .val (.int p4)] [(.int (Int32.ofNat (kk + 1)))])) _
        refine XS.iconst X2.here hx rfl (hb hby d4_26) ?_
        show Steps p.tables e below (T2.setTop (mkF m 27 #[.val (.ref a1), .val (.int (Int32.ofNat (kk + 1))), .val (.int p2), .val (.int p3), .val (.int p4)] [(.int (1 : Int32)), (.int (Int32.ofNat (kk + 1)))])) _
        refine XS.isub X2.here hx rfl (hb hby d4_27) rfl ?_
        show Steps p.tables e below (T2.setTop (mkF m 28 #[.val (.ref a1), .val (.int (Int32.ofNat (kk + 1))), .val (.int p2), .val (.int p3), .val (.int p4)] [(.int ((Int32.ofNat (kk + 1)) - (1 : Int32)))])) _
        exact k
      rw [own_pred]
      skip
      refine OEnds.back X2 hlk (v := (some (.int (Int32.ofNat kk)))) (fun h => by rw [hrt] at h; cases h) (fun fs hr => ?_) ?_ (by decide) (by decide)
      · exact retI X2 hx hrt (hb hby d4_28) hr
      · show Q4 Z a1 (Int32.ofNat (kk + 1)) p2 p3 p4 ta oa ha (kk + 1) h0 n0 _ T2.heap _
        exact ⟨_, rfl, N2, Kc2, Qx2, by omega⟩
  · refine OEnds.go (t' := s₁.setTop (mkF m 8 #[.val (.ref a1), .val (.int (Int32.ofNat n)), .val (.int p2), .val (.int p3), .val (.int p4)] [])) (fun _ k => XS.ifYes X0.here hx rfl (pc0 := 1) (pc' := 8) rfl (hb hby d4_1) rfl ((if0 _ _).trans (feq h1).2) (by decide) (by decide) k) ?_
    exact K8 
theorem pn_0 : plainName "com/example/fragmint/fragmint/engine/DepartureQueueIsEmptyPinLaw" = true := by first | (simp [plainName, overriddenIn]; done) | decide +kernel
theorem pd_rm0_0 : parseMethodDescriptor "()V" = some ⟨[], none⟩ := by decide +kernel
theorem pd_rm0_1 : parseMethodDescriptor "()Z" = some ⟨[], some .boolean⟩ := by decide +kernel
theorem pd_rm0_2 : parseMethodDescriptor "(Lcom/example/fragmint/fragmint/engine/DepartureQueue;IIII)I" = some ⟨[(.object "com/example/fragmint/fragmint/engine/DepartureQueue"), .int, .int, .int, .int], some .int⟩ := by decide +kernel
theorem ef_rm0 (m : MethodId) (p1 : Int32) (p2 : Int32) (p3 : Int32) : entryFrame m #[(.int p1), (.int p2), (.int p3)] maxLocals = mkF m 0 #[.val (.int p1), .val (.int p2), .val (.int p3), .unset, .unset, .unset] [] := by first | (simp [entryFrame, mkF, argsToLocals, Value.category, maxLocals]; done) | rfl
def Q0 (Z : State) (p1 : Int32) (p2 : Int32) (p3 : Int32)  (h0 : Heap) (n0 : Nat) (v : Option Value) (h : Heap) (L : List Loc) : Prop := v = some (.int 1) ∧ Fr n0 L
set_option maxRecDepth 65536 in
set_option maxHeartbeats 40000000 in
theorem rm0 (l : Launch) (Z : State) (a0 : Array Value) (hw : ∀ d ∈ tables_1, d.before a0 Z = true) (ws : List Jvm.Cond) (p1 : Int32) (p2 : Int32) (p3 : Int32)  (h0 : Heap) (n0 : Nat) (Z0 : n0 ≤ h0.size)  :
    MetFree l x (head1 (Jvm.Cond.code x code maxLocals ret :: ws) room_1) (fun a U => a = #[(.int p1), (.int p2), (.int p3)] ∧ Z.Warmed39 U.vm ∧ U.heap = h0) (fun _ _ _ _ _ => True) (fun _ U o U' => ∃ v L, o = .returned v ∧ Q0 Z p1 p2 p3  h0 n0 v U'.heap L ∧ FrameEnd U o U' L room_1.cells room_1.slots) := by
  refine MetFree.of_bodySF (plainFor_of_name pn_0) hisR ?_
  intro p e s m args below meth c s₁ Bd hml0 hP hK
  obtain ⟨rfl, hZ, hh⟩ := hP
  have hx := Bd.exec
  have hby := Bd.bytes
  have hml : c.maxLocals = 6 := hml0
  have hown : s.vm.findClass "com/example/fragmint/fragmint/engine/DepartureQueueIsEmptyPinLaw" = some m.cls := findClass_of_methodNamed Bd.named
  have hnm := (name_of_methodNamed Bd.named Bd.method).1
  have hlk := BodyLoose.notSynchronized Bd
  have hrt := Bd.returns
  have X0 : Stand p l e room_1 s m #[(.int p1), (.int p2), (.int p3)] below meth c s₁ [] 0 0 := Stand.of_body Bd
  have e0 : s₁.heap = h0 := by rw [← hh, Bd.state]; rfl
  have N0 := Fr.nil n0
  show OEnds p e below s (Q0 Z p1 p2 p3  h0 n0) room_1.cells room_1.slots (s₁.setTop (entryFrame m #[(.int p1), (.int p2), (.int p3)] maxLocals))
  refine OEnds.go (t' := s₁.setTop (mkF m 0 #[.val (.int p1), .val (.int p2), .val (.int p3), .unset, .unset, .unset] [])) (fun t k => castTop (ef_rm0 m p1 p2 p3) k) ?_
  obtain ⟨T1, h1, X1, e1, E1, A1, D1, -, st1⟩ := newO X0 hx hZ hown (hw _ (List.mem_of_getElem? (i := 0) rfl)) (hw _ (List.mem_of_getElem? (i := 1) rfl)) (hw _ (List.mem_of_getElem? (i := 2) rfl)) e0 (g := (mkF m 0 #[.val (.int p1), .val (.int p2), .val (.int p3), .unset, .unset, .unset] [])) rfl (hb hby at_0) (by decide) (by decide)
  obtain ⟨q1, gz1⟩ : ∃ z, z = h0.size := ⟨_, rfl⟩
  rw [← gz1] at A1 D1 st1
  have g_q1 : n0 ≤ q1 := Nat.le_trans Z0 (Nat.le_of_eq gz1.symm)
  have Z1 : n0 ≤ h1.size := Nat.le_trans Z0 E1.1
  have E_q1 := A1
  have F_times_q1 : Fld Z h1 q1 "com/example/fragmint/fragmint/engine/DepartureQueue" "times" "[D" .null := D1 (Or.inl (hw _ (List.mem_of_getElem? (i := 11) rfl))) (ty := (.array .double)) (by decide)
  have F_order_q1 : Fld Z h1 q1 "com/example/fragmint/fragmint/engine/DepartureQueue" "order" "[J" .null := D1 (Or.inl (hw _ (List.mem_of_getElem? (i := 14) rfl))) (ty := (.array .long)) (by decide)
  have F_handles_q1 : Fld Z h1 q1 "com/example/fragmint/fragmint/engine/DepartureQueue" "handles" "[I" .null := D1 (Or.inl (hw _ (List.mem_of_getElem? (i := 17) rfl))) (ty := (.array .int)) (by decide)
  have F_size_q1 : Fld Z h1 q1 "com/example/fragmint/fragmint/engine/DepartureQueue" "size" "I" (.int (0 : Int32)) := D1 (Or.inl (hw _ (List.mem_of_getElem? (i := 24) rfl))) (ty := .int) (by decide)
  have F_added_q1 : Fld Z h1 q1 "com/example/fragmint/fragmint/engine/DepartureQueue" "added" "J" (.long (0 : Int64)) := D1 (Or.inl (hw _ (List.mem_of_getElem? (i := 35) rfl))) (ty := .long) (by decide)
  refine OEnds.go (t' := T1.setTop (mkF m 3 #[.val (.int p1), .val (.int p2), .val (.int p3), .unset, .unset, .unset] [(.ref q1)])) (fun _ k => st1 _ k) ?_
  refine OEnds.go (t' := T1.setTop (mkF m 4 #[.val (.int p1), .val (.int p2), .val (.int p3), .unset, .unset, .unset] [(.ref q1), (.ref q1)])) (fun _ k => ?_) ?_
  · show Steps p.tables e below (T1.setTop (mkF m 3 #[.val (.int p1), .val (.int p2), .val (.int p3), .unset, .unset, .unset] [(.ref q1)])) _
    refine XS.dup X1.here hx rfl (hb hby at_3) rfl rfl ?_
    show Steps p.tables e below (T1.setTop (mkF m 4 #[.val (.int p1), .val (.int p2), .val (.int p3), .unset, .unset, .unset] [(.ref q1), (.ref q1)])) _
    exact k
  obtain ⟨_, _, ⟨T2, L2, k2, n2⟩, -, X2, ⟨Lc2, hQ2, l2, y2, z2⟩, st2⟩ := X1.specialBack hx (y := (⟨"com/example/fragmint/fragmint/engine/DepartureQueue", "<init>", "()V"⟩ : MethodName)) rfl hown (mvT hZ (hw _ (List.mem_of_getElem? (i := 3) rfl))) (mvT hZ (hw _ (List.mem_of_getElem? (i := 4) rfl))) (mvT hZ (hw _ (List.mem_of_getElem? (i := 5) rfl))) (by decide) (backOf (W := 1) (rm1 l Z a0 hw [] q1 h1 n0 Z1 F_times_q1 F_order_q1 F_handles_q1 F_size_q1 F_added_q1 E_q1 g_q1) hZ (hw _ (List.mem_of_getElem? (i := 5) rfl)) (hw _ (List.mem_of_getElem? (i := 2) rfl)) (by decide) (by decide)) (g := (mkF m 4 #[.val (.int p1), .val (.int p2), .val (.int p3), .unset, .unset, .unset] [(.ref q1), (.ref q1)])) rfl (by rw [hml]; rfl) (Steps.refl _) (a := q1) (argsL := []) (rest := [(.ref q1)]) (lenOf pd_rm0_0 rfl) rfl (by show 2 * 0 + _ ≤ _; exact Nat.le_of_eq rfl) (hb hby at_4) (fun _ _ => ⟨rfl, e1, (by decide : 1 + 3 ≤ _), (by decide : 5 + 48 ≤ _)⟩)
  dsimp only [Pt.U, Pt.locs, Pt.cells, Pt.slots] at X2 l2 y2 z2 st2 hQ2
  subst l2 y2 z2
  obtain ⟨rfl, N2q, Kc2, ta, oa, ha, Q0x, g_ta, g_oa, g_ha⟩ := hQ2
  have N2 := Fr.app N0 N2q
  have Z2 : n0 ≤ T2.heap.size := Nat.le_trans Z1 Kc2.1
  refine OEnds.go (t' := T2.setTop (mkF m 7 #[.val (.int p1), .val (.int p2), .val (.int p3), .unset, .unset, .unset] [(.ref q1)])) (fun _ k => st2.trans k) ?_
  refine OEnds.go (t' := T2.setTop (mkF m 9 #[.val (.int p1), .val (.int p2), .val (.int p3), .val (.ref q1), .unset, .unset] [(.ref q1)])) (fun _ k => ?_) ?_
  · show Steps p.tables e below (T2.setTop (mkF m 7 #[.val (.int p1), .val (.int p2), .val (.int p3), .unset, .unset, .unset] [(.ref q1)])) _
    refine XS.astoreN X2.here hx rfl (hb hby at_7) rfl rfl (l' := #[.val (.int p1), .val (.int p2), .val (.int p3), .val (.ref q1), .unset, .unset]) rfl ?_
    show Steps p.tables e below (T2.setTop (mkF m 8 #[.val (.int p1), .val (.int p2), .val (.int p3), .val (.ref q1), .unset, .unset] [])) _
    refine XS.aloadN X2.here hx rfl (hb hby at_8) rfl rfl ?_
    show Steps p.tables e below (T2.setTop (mkF m 9 #[.val (.int p1), .val (.int p2), .val (.int p3), .val (.ref q1), .unset, .unset] [(.ref q1)])) _
    exact k
  obtain ⟨cq3, kq3, q3a, q3b, q3c⟩ := isOf hZ rfl Q0x.1
  obtain ⟨_, _, ⟨T3, L3, k3, n3⟩, -, X3, ⟨Lc3, hQ3, l3, y3, z3⟩, st3⟩ := X2.virtualBack hx (y := (⟨"com/example/fragmint/fragmint/engine/DepartureQueue", "isEmpty", "()Z"⟩ : MethodName)) (z := (⟨"com/example/fragmint/fragmint/engine/DepartureQueue", "isEmpty", "()Z"⟩ : MethodName)) hown (mvT hZ (hw _ (List.mem_of_getElem? (i := 18) rfl))) (mvT hZ (hw _ (List.mem_of_getElem? (i := 19) rfl))) (notFace_of_selects (args := #[]) (mvT hZ (hw _ (List.mem_of_getElem? (i := 21) rfl)))) (mvT hZ (hw _ (List.mem_of_getElem? (i := 21) rfl))) (mvT hZ (hw _ (List.mem_of_getElem? (i := 20) rfl))) (by decide) (backOf (W := 0) (rm3 l Z a0 hw [] q1 ta oa ha 0 T2.heap n0 Z2 Q0x) hZ (hw _ (List.mem_of_getElem? (i := 22) rfl)) (hw _ (List.mem_of_getElem? (i := 2) rfl)) (by decide) (by decide)) q3a q3c (g := (mkF m 9 #[.val (.int p1), .val (.int p2), .val (.int p3), .val (.ref q1), .unset, .unset] [(.ref q1)])) rfl (by rw [hml]; rfl) (Steps.refl _) (argsL := []) (rest := []) (lenOf pd_rm0_1 rfl) rfl (by show 2 * 0 + _ ≤ _; exact Nat.le_of_eq rfl) (hb hby at_9) (fun _ _ => ⟨rfl, rfl, (by decide : 4 + 0 ≤ _), (by decide : 53 + 0 ≤ _)⟩)
  dsimp only [Pt.U, Pt.locs, Pt.cells, Pt.slots] at X3 l3 y3 z3 st3 hQ3
  subst l3 y3 z3
  obtain ⟨rfl, N3q, eh⟩ := hQ3
  have N3 := Fr.app N2 N3q
  have eh3 := eh
  refine OEnds.go (t' := T3.setTop (mkF m 12 #[.val (.int p1), .val (.int p2), .val (.int p3), .val (.ref q1), .unset, .unset] [(.int (own_em 0))])) (fun _ k => st3.trans k) ?_
  rw [show own_em 0 = (1 : Int32) from by decide]
  refine OEnds.go (t' := T3.setTop (mkF m 17 #[.val (.int p1), .val (.int p2), .val (.int p3), .val (.ref q1), .val (.int (1 : Int32)), .val (.int (0 : Int32))] [])) (fun _ k => ?_) ?_
  · show Steps p.tables e below (T3.setTop (mkF m 12 #[.val (.int p1), .val (.int p2), .val (.int p3), .val (.ref q1), .unset, .unset] [(.int (1 : Int32))])) _
    refine XS.istore X3.here hx rfl (hb hby at_12) rfl (l' := #[.val (.int p1), .val (.int p2), .val (.int p3), .val (.ref q1), .val (.int (1 : Int32)), .unset]) rfl ?_
    show Steps p.tables e below (T3.setTop (mkF m 14 #[.val (.int p1), .val (.int p2), .val (.int p3), .val (.ref q1), .val (.int (1 : Int32)), .unset] [])) _
    refine XS.iconst X3.here hx rfl (hb hby at_14) ?_
    show Steps p.tables e below (T3.setTop (mkF m 15 #[.val (.int p1), .val (.int p2), .val (.int p3), .val (.ref q1), .val (.int (1 : Int32)), .unset] [(.int (0 : Int32))])) _
    refine XS.istore X3.here hx rfl (hb hby at_15) rfl (l' := #[.val (.int p1), .val (.int p2), .val (.int p3), .val (.ref q1), .val (.int (1 : Int32)), .val (.int (0 : Int32))]) rfl ?_
    show Steps p.tables e below (T3.setTop (mkF m 17 #[.val (.int p1), .val (.int p2), .val (.int p3), .val (.ref q1), .val (.int (1 : Int32)), .val (.int (0 : Int32))] [])) _
    exact k
  have e0x : (0 : Int32) = Int32.ofNat 0 := rfl
  refine OEnds.go (t' := T3.setTop (mkF m 28 #[.val (.int p1), .val (.int p2), .val (.int p3), .val (.ref q1), .val (.int (1 : Int32)), .val (.int (0 : Int32))] [(.int p3), (.int (p2 &&& (15 : Int32))), (.int (p1 &&& (1 : Int32))), (.int (0 : Int32)), (.ref q1)])) (fun _ k => ?_) ?_
  · show Steps p.tables e below (T3.setTop (mkF m 17 #[.val (.int p1), .val (.int p2), .val (.int p3), .val (.ref q1), .val (.int (1 : Int32)), .val (.int (0 : Int32))] [])) _
    refine XS.aloadN X3.here hx rfl (hb hby at_17) rfl rfl ?_
    show Steps p.tables e below (T3.setTop (mkF m 18 #[.val (.int p1), .val (.int p2), .val (.int p3), .val (.ref q1), .val (.int (1 : Int32)), .val (.int (0 : Int32))] [(.ref q1)])) _
    refine XS.iload X3.here hx rfl (hb hby at_18) rfl ?_
    show Steps p.tables e below (T3.setTop (mkF m 20 #[.val (.int p1), .val (.int p2), .val (.int p3), .val (.ref q1), .val (.int (1 : Int32)), .val (.int (0 : Int32))] [(.int (0 : Int32)), (.ref q1)])) _
    refine XS.iloadN X3.here hx rfl (hb hby at_20) rfl ?_
    show Steps p.tables e below (T3.setTop (mkF m 21 #[.val (.int p1), .val (.int p2), .val (.int p3), .val (.ref q1), .val (.int (1 : Int32)), .val (.int (0 : Int32))] [(.int p1), (.int (0 : Int32)), (.ref q1)])) _
    refine XS.iconst X3.here hx rfl (hb hby at_21) ?_
    show Steps p.tables e below (T3.setTop (mkF m 22 #[.val (.int p1), .val (.int p2), .val (.int p3), .val (.ref q1), .val (.int (1 : Int32)), .val (.int (0 : Int32))] [(.int (1 : Int32)), (.int p1), (.int (0 : Int32)), (.ref q1)])) _
    refine XS.iand X3.here hx rfl (hb hby at_22) rfl ?_
    show Steps p.tables e below (T3.setTop (mkF m 23 #[.val (.int p1), .val (.int p2), .val (.int p3), .val (.ref q1), .val (.int (1 : Int32)), .val (.int (0 : Int32))] [(.int (p1 &&& (1 : Int32))), (.int (0 : Int32)), (.ref q1)])) _
    refine XS.iloadN X3.here hx rfl (hb hby at_23) rfl ?_
    show Steps p.tables e below (T3.setTop (mkF m 24 #[.val (.int p1), .val (.int p2), .val (.int p3), .val (.ref q1), .val (.int (1 : Int32)), .val (.int (0 : Int32))] [(.int p2), (.int (p1 &&& (1 : Int32))), (.int (0 : Int32)), (.ref q1)])) _
    refine XS.bipush X3.here hx rfl (hb hby at_24) ?_
    show Steps p.tables e below (T3.setTop (mkF m 26 #[.val (.int p1), .val (.int p2), .val (.int p3), .val (.ref q1), .val (.int (1 : Int32)), .val (.int (0 : Int32))] [(.int (15 : Int32)), (.int p2), (.int (p1 &&& (1 : Int32))), (.int (0 : Int32)), (.ref q1)])) _
    refine XS.iand X3.here hx rfl (hb hby at_26) rfl ?_
    show Steps p.tables e below (T3.setTop (mkF m 27 #[.val (.int p1), .val (.int p2), .val (.int p3), .val (.ref q1), .val (.int (1 : Int32)), .val (.int (0 : Int32))] [(.int (p2 &&& (15 : Int32))), (.int (p1 &&& (1 : Int32))), (.int (0 : Int32)), (.ref q1)])) _
    refine XS.iloadN X3.here hx rfl (hb hby at_27) rfl ?_
    show Steps p.tables e below (T3.setTop (mkF m 28 #[.val (.int p1), .val (.int p2), .val (.int p3), .val (.ref q1), .val (.int (1 : Int32)), .val (.int (0 : Int32))] [(.int p3), (.int (p2 &&& (15 : Int32))), (.int (p1 &&& (1 : Int32))), (.int (0 : Int32)), (.ref q1)])) _
    exact k
  obtain ⟨_, _, ⟨T4, L4, k4, n4⟩, -, X4, ⟨Lc4, hQ4, l4, y4, z4⟩, st4⟩ := Jvm.LawKit.callS X3 hx (y := (⟨"com/example/fragmint/fragmint/engine/DepartureQueueIsEmptyPinLaw", "step", "(Lcom/example/fragmint/fragmint/engine/DepartureQueue;IIII)I"⟩ : MethodName)) hown (mvT hZ (hw _ (List.mem_of_getElem? (i := 25) rfl))) (mvT hZ (hw _ (List.mem_of_getElem? (i := 26) rfl))) (mvT hZ (hw _ (List.mem_of_getElem? (i := 27) rfl))) (mvT hZ (hw _ (List.mem_of_getElem? (i := 28) rfl))) (by decide) (backOf (W := 0) (rm4 l Z a0 hw [] q1 (0 : Int32) (p1 &&& (1 : Int32)) (p2 &&& (15 : Int32)) p3 ta oa ha 0 T2.heap n0 Z2 Q0x g_q1 g_ta g_oa g_ha (by omega) e0x) hZ (hw _ (List.mem_of_getElem? (i := 28) rfl)) (hw _ (List.mem_of_getElem? (i := 27) rfl)) (by decide) (by decide)) (g := (mkF m 28 #[.val (.int p1), .val (.int p2), .val (.int p3), .val (.ref q1), .val (.int (1 : Int32)), .val (.int (0 : Int32))] [(.int p3), (.int (p2 &&& (15 : Int32))), (.int (p1 &&& (1 : Int32))), (.int (0 : Int32)), (.ref q1)])) rfl (by rw [hml]; rfl) (argsL := [(.ref q1), (.int (0 : Int32)), (.int (p1 &&& (1 : Int32))), (.int (p2 &&& (15 : Int32))), (.int p3)]) (rest := []) (lenOf pd_rm0_2 rfl) rfl (by show 2 * 0 + _ ≤ _; exact Nat.le_of_eq rfl) (hb hby at_28) (fun _ _ => ⟨rfl, eh3, (by decide : 4 + 0 ≤ _), (by decide : 53 + 0 ≤ _)⟩)
  dsimp only [Pt.U, Pt.locs, Pt.cells, Pt.slots] at X4 l4 y4 z4 st4 hQ4
  subst l4 y4 z4
  obtain ⟨m1, rfl, N4q, Kc4, Qm1, hm1⟩ := hQ4
  have N4 := Fr.app N3 N4q
  have Z4 : n0 ≤ T4.heap.size := Nat.le_trans Z2 Kc4.1
  refine OEnds.go (t' := T4.setTop (mkF m 31 #[.val (.int p1), .val (.int p2), .val (.int p3), .val (.ref q1), .val (.int (1 : Int32)), .val (.int (0 : Int32))] [(.int (Int32.ofNat m1))])) (fun _ k => st4 _ k) ?_
  refine OEnds.go (t' := T4.setTop (mkF m 36 #[.val (.int p1), .val (.int p2), .val (.int p3), .val (.ref q1), .val (.int (1 : Int32)), .val (.int (Int32.ofNat m1))] [(.ref q1), (.int (1 : Int32))])) (fun _ k => ?_) ?_
  · show Steps p.tables e below (T4.setTop (mkF m 31 #[.val (.int p1), .val (.int p2), .val (.int p3), .val (.ref q1), .val (.int (1 : Int32)), .val (.int (0 : Int32))] [(.int (Int32.ofNat m1))])) _
    refine XS.istore X4.here hx rfl (hb hby at_31) rfl (l' := #[.val (.int p1), .val (.int p2), .val (.int p3), .val (.ref q1), .val (.int (1 : Int32)), .val (.int (Int32.ofNat m1))]) rfl ?_
    show Steps p.tables e below (T4.setTop (mkF m 33 #[.val (.int p1), .val (.int p2), .val (.int p3), .val (.ref q1), .val (.int (1 : Int32)), .val (.int (Int32.ofNat m1))] [])) _
    refine XS.iload X4.here hx rfl (hb hby at_33) rfl ?_
    show Steps p.tables e below (T4.setTop (mkF m 35 #[.val (.int p1), .val (.int p2), .val (.int p3), .val (.ref q1), .val (.int (1 : Int32)), .val (.int (Int32.ofNat m1))] [(.int (1 : Int32))])) _
    refine XS.aloadN X4.here hx rfl (hb hby at_35) rfl rfl ?_
    show Steps p.tables e below (T4.setTop (mkF m 36 #[.val (.int p1), .val (.int p2), .val (.int p3), .val (.ref q1), .val (.int (1 : Int32)), .val (.int (Int32.ofNat m1))] [(.ref q1), (.int (1 : Int32))])) _
    exact k
  obtain ⟨cq5, kq5, q5a, q5b, q5c⟩ := isOf hZ rfl Qm1.1
  obtain ⟨_, _, ⟨T5, L5, k5, n5⟩, -, X5, ⟨Lc5, hQ5, l5, y5, z5⟩, st5⟩ := X4.virtualBack hx (y := (⟨"com/example/fragmint/fragmint/engine/DepartureQueue", "isEmpty", "()Z"⟩ : MethodName)) (z := (⟨"com/example/fragmint/fragmint/engine/DepartureQueue", "isEmpty", "()Z"⟩ : MethodName)) hown (mvT hZ (hw _ (List.mem_of_getElem? (i := 18) rfl))) (mvT hZ (hw _ (List.mem_of_getElem? (i := 19) rfl))) (notFace_of_selects (args := #[]) (mvT hZ (hw _ (List.mem_of_getElem? (i := 21) rfl)))) (mvT hZ (hw _ (List.mem_of_getElem? (i := 21) rfl))) (mvT hZ (hw _ (List.mem_of_getElem? (i := 20) rfl))) (by decide) (backOf (W := 1) (rm3 l Z a0 hw [] q1 ta oa ha m1 T4.heap n0 Z4 Qm1) hZ (hw _ (List.mem_of_getElem? (i := 22) rfl)) (hw _ (List.mem_of_getElem? (i := 2) rfl)) (by decide) (by decide)) q5a q5c (g := (mkF m 36 #[.val (.int p1), .val (.int p2), .val (.int p3), .val (.ref q1), .val (.int (1 : Int32)), .val (.int (Int32.ofNat m1))] [(.ref q1), (.int (1 : Int32))])) rfl (by rw [hml]; rfl) (Steps.refl _) (argsL := []) (rest := [(.int (1 : Int32))]) (lenOf pd_rm0_1 rfl) rfl (by show 2 * 0 + _ ≤ _; exact Nat.le_of_eq rfl) (hb hby at_36) (fun _ _ => ⟨rfl, rfl, (by decide : 4 + 0 ≤ _), (by decide : 53 + 0 ≤ _)⟩)
  dsimp only [Pt.U, Pt.locs, Pt.cells, Pt.slots] at X5 l5 y5 z5 st5 hQ5
  subst l5 y5 z5
  obtain ⟨rfl, N5q, eh⟩ := hQ5
  have N5 := Fr.app N4 N5q
  have eh5 := eh
  refine OEnds.go (t' := T5.setTop (mkF m 39 #[.val (.int p1), .val (.int p2), .val (.int p3), .val (.ref q1), .val (.int (1 : Int32)), .val (.int (Int32.ofNat m1))] [(.int (own_em m1)), (.int (1 : Int32))])) (fun _ k => st5.trans k) ?_
  refine OEnds.go (t' := T5.setTop (mkF m 41 #[.val (.int p1), .val (.int p2), .val (.int p3), .val (.ref q1), .val (.int (1 : Int32)), .val (.int (Int32.ofNat m1))] [(.int (Int32.ofNat m1)), (.int (own_em m1)), (.int (1 : Int32))])) (fun _ k => ?_) ?_
  · show Steps p.tables e below (T5.setTop (mkF m 39 #[.val (.int p1), .val (.int p2), .val (.int p3), .val (.ref q1), .val (.int (1 : Int32)), .val (.int (Int32.ofNat m1))] [(.int (own_em m1)), (.int (1 : Int32))])) _
    refine XS.iload X5.here hx rfl (hb hby at_39) rfl ?_
    show Steps p.tables e below (T5.setTop (mkF m 41 #[.val (.int p1), .val (.int p2), .val (.int p3), .val (.ref q1), .val (.int (1 : Int32)), .val (.int (Int32.ofNat m1))] [(.int (Int32.ofNat m1)), (.int (own_em m1)), (.int (1 : Int32))])) _
    exact k
  refine OEnds.cut (fun En => ∀ (z1 : Int32), z1 = own_em m1 → En (T5.setTop (mkF m 49 #[.val (.int p1), .val (.int p2), .val (.int p3), .val (.ref q1), .val (.int (1 : Int32)), .val (.int (Int32.ofNat m1))] [(.int z1), (.int (own_em m1)), (.int (1 : Int32))]))) ?_ (fun K49 => ?_)
  · intro z1 hz1
    refine OEnds.go (t' := T5.setTop (mkF m 52 #[.val (.int p1), .val (.int p2), .val (.int p3), .val (.ref q1), .val (.int (1 : Int32)), .val (.int (Int32.ofNat m1))] [(.int (1 : Int32))])) (fun _ k => XS.icmpNo X5.here hx rfl (hb hby at_49) rfl (teq hz1.symm).2 k) ?_
    refine OEnds.go (t' := T5.setTop (mkF m 60 #[.val (.int p1), .val (.int p2), .val (.int p3), .val (.ref q1), .val (.int ((1 : Int32) &&& (1 : Int32))), .val (.int (Int32.ofNat m1))] [])) (fun _ k => ?_) ?_
    · show Steps p.tables e below (T5.setTop (mkF m 52 #[.val (.int p1), .val (.int p2), .val (.int p3), .val (.ref q1), .val (.int (1 : Int32)), .val (.int (Int32.ofNat m1))] [(.int (1 : Int32))])) _
      refine XS.iconst X5.here hx rfl (hb hby at_52) ?_
      show Steps p.tables e below (T5.setTop (mkF m 53 #[.val (.int p1), .val (.int p2), .val (.int p3), .val (.ref q1), .val (.int (1 : Int32)), .val (.int (Int32.ofNat m1))] [(.int (1 : Int32)), (.int (1 : Int32))])) _
      refine XS.goto X5.here hx rfl (pc0 := 53) (pc' := 57) rfl (hb hby at_53) (by decide) (by decide) ?_
      show Steps p.tables e below (T5.setTop (mkF m 57 #[.val (.int p1), .val (.int p2), .val (.int p3), .val (.ref q1), .val (.int (1 : Int32)), .val (.int (Int32.ofNat m1))] [(.int (1 : Int32)), (.int (1 : Int32))])) _
      refine XS.iand X5.here hx rfl (hb hby at_57) rfl ?_
      show Steps p.tables e below (T5.setTop (mkF m 58 #[.val (.int p1), .val (.int p2), .val (.int p3), .val (.ref q1), .val (.int (1 : Int32)), .val (.int (Int32.ofNat m1))] [(.int ((1 : Int32) &&& (1 : Int32)))])) _
      refine XS.istore X5.here hx rfl (hb hby at_58) rfl (l' := #[.val (.int p1), .val (.int p2), .val (.int p3), .val (.ref q1), .val (.int ((1 : Int32) &&& (1 : Int32))), .val (.int (Int32.ofNat m1))]) rfl ?_
      show Steps p.tables e below (T5.setTop (mkF m 60 #[.val (.int p1), .val (.int p2), .val (.int p3), .val (.ref q1), .val (.int ((1 : Int32) &&& (1 : Int32))), .val (.int (Int32.ofNat m1))] [])) _
      exact k
    refine OEnds.go (t' := T5.setTop (mkF m 73 #[.val (.int p1), .val (.int p2), .val (.int p3), .val (.ref q1), .val (.int ((1 : Int32) &&& (1 : Int32))), .val (.int (Int32.ofNat m1))] [(.int p3), (.int (((p2.toUInt32 >>> ((4 : Int32) &&& 31).toUInt32).toInt32) &&& (15 : Int32))), (.int (p1 &&& (2 : Int32))), (.int (Int32.ofNat m1)), (.ref q1)])) (fun _ k => ?_) ?_
    · show Steps p.tables e below (T5.setTop (mkF m 60 #[.val (.int p1), .val (.int p2), .val (.int p3), .val (.ref q1), .val (.int ((1 : Int32) &&& (1 : Int32))), .val (.int (Int32.ofNat m1))] [])) _
      refine XS.aloadN X5.here hx rfl (hb hby at_60) rfl rfl ?_
      show Steps p.tables e below (T5.setTop (mkF m 61 #[.val (.int p1), .val (.int p2), .val (.int p3), .val (.ref q1), .val (.int ((1 : Int32) &&& (1 : Int32))), .val (.int (Int32.ofNat m1))] [(.ref q1)])) _
      refine XS.iload X5.here hx rfl (hb hby at_61) rfl ?_
      show Steps p.tables e below (T5.setTop (mkF m 63 #[.val (.int p1), .val (.int p2), .val (.int p3), .val (.ref q1), .val (.int ((1 : Int32) &&& (1 : Int32))), .val (.int (Int32.ofNat m1))] [(.int (Int32.ofNat m1)), (.ref q1)])) _
      refine XS.iloadN X5.here hx rfl (hb hby at_63) rfl ?_
      show Steps p.tables e below (T5.setTop (mkF m 64 #[.val (.int p1), .val (.int p2), .val (.int p3), .val (.ref q1), .val (.int ((1 : Int32) &&& (1 : Int32))), .val (.int (Int32.ofNat m1))] [(.int p1), (.int (Int32.ofNat m1)), (.ref q1)])) _
      refine XS.iconst X5.here hx rfl (hb hby at_64) ?_
      show Steps p.tables e below (T5.setTop (mkF m 65 #[.val (.int p1), .val (.int p2), .val (.int p3), .val (.ref q1), .val (.int ((1 : Int32) &&& (1 : Int32))), .val (.int (Int32.ofNat m1))] [(.int (2 : Int32)), (.int p1), (.int (Int32.ofNat m1)), (.ref q1)])) _
      refine XS.iand X5.here hx rfl (hb hby at_65) rfl ?_
      show Steps p.tables e below (T5.setTop (mkF m 66 #[.val (.int p1), .val (.int p2), .val (.int p3), .val (.ref q1), .val (.int ((1 : Int32) &&& (1 : Int32))), .val (.int (Int32.ofNat m1))] [(.int (p1 &&& (2 : Int32))), (.int (Int32.ofNat m1)), (.ref q1)])) _
      refine XS.iloadN X5.here hx rfl (hb hby at_66) rfl ?_
      show Steps p.tables e below (T5.setTop (mkF m 67 #[.val (.int p1), .val (.int p2), .val (.int p3), .val (.ref q1), .val (.int ((1 : Int32) &&& (1 : Int32))), .val (.int (Int32.ofNat m1))] [(.int p2), (.int (p1 &&& (2 : Int32))), (.int (Int32.ofNat m1)), (.ref q1)])) _
      refine XS.iconst X5.here hx rfl (hb hby at_67) ?_
      show Steps p.tables e below (T5.setTop (mkF m 68 #[.val (.int p1), .val (.int p2), .val (.int p3), .val (.ref q1), .val (.int ((1 : Int32) &&& (1 : Int32))), .val (.int (Int32.ofNat m1))] [(.int (4 : Int32)), (.int p2), (.int (p1 &&& (2 : Int32))), (.int (Int32.ofNat m1)), (.ref q1)])) _
      refine XS.iushr X5.here hx rfl (hb hby at_68) rfl ?_
      show Steps p.tables e below (T5.setTop (mkF m 69 #[.val (.int p1), .val (.int p2), .val (.int p3), .val (.ref q1), .val (.int ((1 : Int32) &&& (1 : Int32))), .val (.int (Int32.ofNat m1))] [(.int ((p2.toUInt32 >>> ((4 : Int32) &&& 31).toUInt32).toInt32)), (.int (p1 &&& (2 : Int32))), (.int (Int32.ofNat m1)), (.ref q1)])) _
      refine XS.bipush X5.here hx rfl (hb hby at_69) ?_
      show Steps p.tables e below (T5.setTop (mkF m 71 #[.val (.int p1), .val (.int p2), .val (.int p3), .val (.ref q1), .val (.int ((1 : Int32) &&& (1 : Int32))), .val (.int (Int32.ofNat m1))] [(.int (15 : Int32)), (.int ((p2.toUInt32 >>> ((4 : Int32) &&& 31).toUInt32).toInt32)), (.int (p1 &&& (2 : Int32))), (.int (Int32.ofNat m1)), (.ref q1)])) _
      refine XS.iand X5.here hx rfl (hb hby at_71) rfl ?_
      show Steps p.tables e below (T5.setTop (mkF m 72 #[.val (.int p1), .val (.int p2), .val (.int p3), .val (.ref q1), .val (.int ((1 : Int32) &&& (1 : Int32))), .val (.int (Int32.ofNat m1))] [(.int (((p2.toUInt32 >>> ((4 : Int32) &&& 31).toUInt32).toInt32) &&& (15 : Int32))), (.int (p1 &&& (2 : Int32))), (.int (Int32.ofNat m1)), (.ref q1)])) _
      refine XS.iloadN X5.here hx rfl (hb hby at_72) rfl ?_
      show Steps p.tables e below (T5.setTop (mkF m 73 #[.val (.int p1), .val (.int p2), .val (.int p3), .val (.ref q1), .val (.int ((1 : Int32) &&& (1 : Int32))), .val (.int (Int32.ofNat m1))] [(.int p3), (.int (((p2.toUInt32 >>> ((4 : Int32) &&& 31).toUInt32).toInt32) &&& (15 : Int32))), (.int (p1 &&& (2 : Int32))), (.int (Int32.ofNat m1)), (.ref q1)])) _
      exact k
    obtain ⟨_, _, ⟨T6, L6, k6, n6⟩, -, X6, ⟨Lc6, hQ6, l6, y6, z6⟩, st6⟩ := Jvm.LawKit.callS X5 hx (y := (⟨"com/example/fragmint/fragmint/engine/DepartureQueueIsEmptyPinLaw", "step", "(Lcom/example/fragmint/fragmint/engine/DepartureQueue;IIII)I"⟩ : MethodName)) hown (mvT hZ (hw _ (List.mem_of_getElem? (i := 25) rfl))) (mvT hZ (hw _ (List.mem_of_getElem? (i := 26) rfl))) (mvT hZ (hw _ (List.mem_of_getElem? (i := 27) rfl))) (mvT hZ (hw _ (List.mem_of_getElem? (i := 28) rfl))) (by decide) (backOf (W := 0) (rm4 l Z a0 hw [] q1 (Int32.ofNat m1) (p1 &&& (2 : Int32)) (((p2.toUInt32 >>> ((4 : Int32) &&& 31).toUInt32).toInt32) &&& (15 : Int32)) p3 ta oa ha m1 T4.heap n0 Z4 Qm1 g_q1 g_ta g_oa g_ha (by omega) rfl) hZ (hw _ (List.mem_of_getElem? (i := 28) rfl)) (hw _ (List.mem_of_getElem? (i := 27) rfl)) (by decide) (by decide)) (g := (mkF m 73 #[.val (.int p1), .val (.int p2), .val (.int p3), .val (.ref q1), .val (.int ((1 : Int32) &&& (1 : Int32))), .val (.int (Int32.ofNat m1))] [(.int p3), (.int (((p2.toUInt32 >>> ((4 : Int32) &&& 31).toUInt32).toInt32) &&& (15 : Int32))), (.int (p1 &&& (2 : Int32))), (.int (Int32.ofNat m1)), (.ref q1)])) rfl (by rw [hml]; rfl) (argsL := [(.ref q1), (.int (Int32.ofNat m1)), (.int (p1 &&& (2 : Int32))), (.int (((p2.toUInt32 >>> ((4 : Int32) &&& 31).toUInt32).toInt32) &&& (15 : Int32))), (.int p3)]) (rest := []) (lenOf pd_rm0_2 rfl) rfl (by show 2 * 0 + _ ≤ _; exact Nat.le_of_eq rfl) (hb hby at_73) (fun _ _ => ⟨rfl, eh5, (by decide : 4 + 0 ≤ _), (by decide : 53 + 0 ≤ _)⟩)
    dsimp only [Pt.U, Pt.locs, Pt.cells, Pt.slots] at X6 l6 y6 z6 st6 hQ6
    subst l6 y6 z6
    obtain ⟨m2, rfl, N6q, Kc6, Qm2, hm2⟩ := hQ6
    have N6 := Fr.app N5 N6q
    have Z6 : n0 ≤ T6.heap.size := Nat.le_trans Z4 Kc6.1
    refine OEnds.go (t' := T6.setTop (mkF m 76 #[.val (.int p1), .val (.int p2), .val (.int p3), .val (.ref q1), .val (.int ((1 : Int32) &&& (1 : Int32))), .val (.int (Int32.ofNat m1))] [(.int (Int32.ofNat m2))])) (fun _ k => st6 _ k) ?_
    refine OEnds.go (t' := T6.setTop (mkF m 81 #[.val (.int p1), .val (.int p2), .val (.int p3), .val (.ref q1), .val (.int ((1 : Int32) &&& (1 : Int32))), .val (.int (Int32.ofNat m2))] [(.ref q1), (.int ((1 : Int32) &&& (1 : Int32)))])) (fun _ k => ?_) ?_
    · show Steps p.tables e below (T6.setTop (mkF m 76 #[.val (.int p1), .val (.int p2), .val (.int p3), .val (.ref q1), .val (.int ((1 : Int32) &&& (1 : Int32))), .val (.int (Int32.ofNat m1))] [(.int (Int32.ofNat m2))])) _
      refine XS.istore X6.here hx rfl (hb hby at_76) rfl (l' := #[.val (.int p1), .val (.int p2), .val (.int p3), .val (.ref q1), .val (.int ((1 : Int32) &&& (1 : Int32))), .val (.int (Int32.ofNat m2))]) rfl ?_
      show Steps p.tables e below (T6.setTop (mkF m 78 #[.val (.int p1), .val (.int p2), .val (.int p3), .val (.ref q1), .val (.int ((1 : Int32) &&& (1 : Int32))), .val (.int (Int32.ofNat m2))] [])) _
      refine XS.iload X6.here hx rfl (hb hby at_78) rfl ?_
      show Steps p.tables e below (T6.setTop (mkF m 80 #[.val (.int p1), .val (.int p2), .val (.int p3), .val (.ref q1), .val (.int ((1 : Int32) &&& (1 : Int32))), .val (.int (Int32.ofNat m2))] [(.int ((1 : Int32) &&& (1 : Int32)))])) _
      refine XS.aloadN X6.here hx rfl (hb hby at_80) rfl rfl ?_
      show Steps p.tables e below (T6.setTop (mkF m 81 #[.val (.int p1), .val (.int p2), .val (.int p3), .val (.ref q1), .val (.int ((1 : Int32) &&& (1 : Int32))), .val (.int (Int32.ofNat m2))] [(.ref q1), (.int ((1 : Int32) &&& (1 : Int32)))])) _
      exact k
    obtain ⟨cq7, kq7, q7a, q7b, q7c⟩ := isOf hZ rfl Qm2.1
    obtain ⟨_, _, ⟨T7, L7, k7, n7⟩, -, X7, ⟨Lc7, hQ7, l7, y7, z7⟩, st7⟩ := X6.virtualBack hx (y := (⟨"com/example/fragmint/fragmint/engine/DepartureQueue", "isEmpty", "()Z"⟩ : MethodName)) (z := (⟨"com/example/fragmint/fragmint/engine/DepartureQueue", "isEmpty", "()Z"⟩ : MethodName)) hown (mvT hZ (hw _ (List.mem_of_getElem? (i := 18) rfl))) (mvT hZ (hw _ (List.mem_of_getElem? (i := 19) rfl))) (notFace_of_selects (args := #[]) (mvT hZ (hw _ (List.mem_of_getElem? (i := 21) rfl)))) (mvT hZ (hw _ (List.mem_of_getElem? (i := 21) rfl))) (mvT hZ (hw _ (List.mem_of_getElem? (i := 20) rfl))) (by decide) (backOf (W := 1) (rm3 l Z a0 hw [] q1 ta oa ha m2 T6.heap n0 Z6 Qm2) hZ (hw _ (List.mem_of_getElem? (i := 22) rfl)) (hw _ (List.mem_of_getElem? (i := 2) rfl)) (by decide) (by decide)) q7a q7c (g := (mkF m 81 #[.val (.int p1), .val (.int p2), .val (.int p3), .val (.ref q1), .val (.int ((1 : Int32) &&& (1 : Int32))), .val (.int (Int32.ofNat m2))] [(.ref q1), (.int ((1 : Int32) &&& (1 : Int32)))])) rfl (by rw [hml]; rfl) (Steps.refl _) (argsL := []) (rest := [(.int ((1 : Int32) &&& (1 : Int32)))]) (lenOf pd_rm0_1 rfl) rfl (by show 2 * 0 + _ ≤ _; exact Nat.le_of_eq rfl) (hb hby at_81) (fun _ _ => ⟨rfl, rfl, (by decide : 4 + 0 ≤ _), (by decide : 53 + 0 ≤ _)⟩)
    dsimp only [Pt.U, Pt.locs, Pt.cells, Pt.slots] at X7 l7 y7 z7 st7 hQ7
    subst l7 y7 z7
    obtain ⟨rfl, N7q, eh⟩ := hQ7
    have N7 := Fr.app N6 N7q
    have eh7 := eh
    refine OEnds.go (t' := T7.setTop (mkF m 84 #[.val (.int p1), .val (.int p2), .val (.int p3), .val (.ref q1), .val (.int ((1 : Int32) &&& (1 : Int32))), .val (.int (Int32.ofNat m2))] [(.int (own_em m2)), (.int ((1 : Int32) &&& (1 : Int32)))])) (fun _ k => st7.trans k) ?_
    refine OEnds.go (t' := T7.setTop (mkF m 86 #[.val (.int p1), .val (.int p2), .val (.int p3), .val (.ref q1), .val (.int ((1 : Int32) &&& (1 : Int32))), .val (.int (Int32.ofNat m2))] [(.int (Int32.ofNat m2)), (.int (own_em m2)), (.int ((1 : Int32) &&& (1 : Int32)))])) (fun _ k => ?_) ?_
    · show Steps p.tables e below (T7.setTop (mkF m 84 #[.val (.int p1), .val (.int p2), .val (.int p3), .val (.ref q1), .val (.int ((1 : Int32) &&& (1 : Int32))), .val (.int (Int32.ofNat m2))] [(.int (own_em m2)), (.int ((1 : Int32) &&& (1 : Int32)))])) _
      refine XS.iload X7.here hx rfl (hb hby at_84) rfl ?_
      show Steps p.tables e below (T7.setTop (mkF m 86 #[.val (.int p1), .val (.int p2), .val (.int p3), .val (.ref q1), .val (.int ((1 : Int32) &&& (1 : Int32))), .val (.int (Int32.ofNat m2))] [(.int (Int32.ofNat m2)), (.int (own_em m2)), (.int ((1 : Int32) &&& (1 : Int32)))])) _
      exact k
    refine OEnds.cut (fun En => ∀ (z2 : Int32), z2 = own_em m2 → En (T7.setTop (mkF m 94 #[.val (.int p1), .val (.int p2), .val (.int p3), .val (.ref q1), .val (.int ((1 : Int32) &&& (1 : Int32))), .val (.int (Int32.ofNat m2))] [(.int z2), (.int (own_em m2)), (.int ((1 : Int32) &&& (1 : Int32)))]))) ?_ (fun K94 => ?_)
    · intro z2 hz2
      refine OEnds.go (t' := T7.setTop (mkF m 97 #[.val (.int p1), .val (.int p2), .val (.int p3), .val (.ref q1), .val (.int ((1 : Int32) &&& (1 : Int32))), .val (.int (Int32.ofNat m2))] [(.int ((1 : Int32) &&& (1 : Int32)))])) (fun _ k => XS.icmpNo X7.here hx rfl (hb hby at_94) rfl (teq hz2.symm).2 k) ?_
      refine OEnds.go (t' := T7.setTop (mkF m 105 #[.val (.int p1), .val (.int p2), .val (.int p3), .val (.ref q1), .val (.int (((1 : Int32) &&& (1 : Int32)) &&& (1 : Int32))), .val (.int (Int32.ofNat m2))] [])) (fun _ k => ?_) ?_
      · show Steps p.tables e below (T7.setTop (mkF m 97 #[.val (.int p1), .val (.int p2), .val (.int p3), .val (.ref q1), .val (.int ((1 : Int32) &&& (1 : Int32))), .val (.int (Int32.ofNat m2))] [(.int ((1 : Int32) &&& (1 : Int32)))])) _
        refine XS.iconst X7.here hx rfl (hb hby at_97) ?_
        show Steps p.tables e below (T7.setTop (mkF m 98 #[.val (.int p1), .val (.int p2), .val (.int p3), .val (.ref q1), .val (.int ((1 : Int32) &&& (1 : Int32))), .val (.int (Int32.ofNat m2))] [(.int (1 : Int32)), (.int ((1 : Int32) &&& (1 : Int32)))])) _
        refine XS.goto X7.here hx rfl (pc0 := 98) (pc' := 102) rfl (hb hby at_98) (by decide) (by decide) ?_
        show Steps p.tables e below (T7.setTop (mkF m 102 #[.val (.int p1), .val (.int p2), .val (.int p3), .val (.ref q1), .val (.int ((1 : Int32) &&& (1 : Int32))), .val (.int (Int32.ofNat m2))] [(.int (1 : Int32)), (.int ((1 : Int32) &&& (1 : Int32)))])) _
        refine XS.iand X7.here hx rfl (hb hby at_102) rfl ?_
        show Steps p.tables e below (T7.setTop (mkF m 103 #[.val (.int p1), .val (.int p2), .val (.int p3), .val (.ref q1), .val (.int ((1 : Int32) &&& (1 : Int32))), .val (.int (Int32.ofNat m2))] [(.int (((1 : Int32) &&& (1 : Int32)) &&& (1 : Int32)))])) _
        refine XS.istore X7.here hx rfl (hb hby at_103) rfl (l' := #[.val (.int p1), .val (.int p2), .val (.int p3), .val (.ref q1), .val (.int (((1 : Int32) &&& (1 : Int32)) &&& (1 : Int32))), .val (.int (Int32.ofNat m2))]) rfl ?_
        show Steps p.tables e below (T7.setTop (mkF m 105 #[.val (.int p1), .val (.int p2), .val (.int p3), .val (.ref q1), .val (.int (((1 : Int32) &&& (1 : Int32)) &&& (1 : Int32))), .val (.int (Int32.ofNat m2))] [])) _
        exact k
      refine OEnds.go (t' := T7.setTop (mkF m 119 #[.val (.int p1), .val (.int p2), .val (.int p3), .val (.ref q1), .val (.int (((1 : Int32) &&& (1 : Int32)) &&& (1 : Int32))), .val (.int (Int32.ofNat m2))] [(.int p3), (.int (((p2.toUInt32 >>> ((8 : Int32) &&& 31).toUInt32).toInt32) &&& (15 : Int32))), (.int (p1 &&& (4 : Int32))), (.int (Int32.ofNat m2)), (.ref q1)])) (fun _ k => ?_) ?_
      · show Steps p.tables e below (T7.setTop (mkF m 105 #[.val (.int p1), .val (.int p2), .val (.int p3), .val (.ref q1), .val (.int (((1 : Int32) &&& (1 : Int32)) &&& (1 : Int32))), .val (.int (Int32.ofNat m2))] [])) _
        refine XS.aloadN X7.here hx rfl (hb hby at_105) rfl rfl ?_
        show Steps p.tables e below (T7.setTop (mkF m 106 #[.val (.int p1), .val (.int p2), .val (.int p3), .val (.ref q1), .val (.int (((1 : Int32) &&& (1 : Int32)) &&& (1 : Int32))), .val (.int (Int32.ofNat m2))] [(.ref q1)])) _
        refine XS.iload X7.here hx rfl (hb hby at_106) rfl ?_
        show Steps p.tables e below (T7.setTop (mkF m 108 #[.val (.int p1), .val (.int p2), .val (.int p3), .val (.ref q1), .val (.int (((1 : Int32) &&& (1 : Int32)) &&& (1 : Int32))), .val (.int (Int32.ofNat m2))] [(.int (Int32.ofNat m2)), (.ref q1)])) _
        refine XS.iloadN X7.here hx rfl (hb hby at_108) rfl ?_
        show Steps p.tables e below (T7.setTop (mkF m 109 #[.val (.int p1), .val (.int p2), .val (.int p3), .val (.ref q1), .val (.int (((1 : Int32) &&& (1 : Int32)) &&& (1 : Int32))), .val (.int (Int32.ofNat m2))] [(.int p1), (.int (Int32.ofNat m2)), (.ref q1)])) _
        refine XS.iconst X7.here hx rfl (hb hby at_109) ?_
        show Steps p.tables e below (T7.setTop (mkF m 110 #[.val (.int p1), .val (.int p2), .val (.int p3), .val (.ref q1), .val (.int (((1 : Int32) &&& (1 : Int32)) &&& (1 : Int32))), .val (.int (Int32.ofNat m2))] [(.int (4 : Int32)), (.int p1), (.int (Int32.ofNat m2)), (.ref q1)])) _
        refine XS.iand X7.here hx rfl (hb hby at_110) rfl ?_
        show Steps p.tables e below (T7.setTop (mkF m 111 #[.val (.int p1), .val (.int p2), .val (.int p3), .val (.ref q1), .val (.int (((1 : Int32) &&& (1 : Int32)) &&& (1 : Int32))), .val (.int (Int32.ofNat m2))] [(.int (p1 &&& (4 : Int32))), (.int (Int32.ofNat m2)), (.ref q1)])) _
        refine XS.iloadN X7.here hx rfl (hb hby at_111) rfl ?_
        show Steps p.tables e below (T7.setTop (mkF m 112 #[.val (.int p1), .val (.int p2), .val (.int p3), .val (.ref q1), .val (.int (((1 : Int32) &&& (1 : Int32)) &&& (1 : Int32))), .val (.int (Int32.ofNat m2))] [(.int p2), (.int (p1 &&& (4 : Int32))), (.int (Int32.ofNat m2)), (.ref q1)])) _
        refine XS.bipush X7.here hx rfl (hb hby at_112) ?_
        show Steps p.tables e below (T7.setTop (mkF m 114 #[.val (.int p1), .val (.int p2), .val (.int p3), .val (.ref q1), .val (.int (((1 : Int32) &&& (1 : Int32)) &&& (1 : Int32))), .val (.int (Int32.ofNat m2))] [(.int (8 : Int32)), (.int p2), (.int (p1 &&& (4 : Int32))), (.int (Int32.ofNat m2)), (.ref q1)])) _
        refine XS.iushr X7.here hx rfl (hb hby at_114) rfl ?_
        show Steps p.tables e below (T7.setTop (mkF m 115 #[.val (.int p1), .val (.int p2), .val (.int p3), .val (.ref q1), .val (.int (((1 : Int32) &&& (1 : Int32)) &&& (1 : Int32))), .val (.int (Int32.ofNat m2))] [(.int ((p2.toUInt32 >>> ((8 : Int32) &&& 31).toUInt32).toInt32)), (.int (p1 &&& (4 : Int32))), (.int (Int32.ofNat m2)), (.ref q1)])) _
        refine XS.bipush X7.here hx rfl (hb hby at_115) ?_
        show Steps p.tables e below (T7.setTop (mkF m 117 #[.val (.int p1), .val (.int p2), .val (.int p3), .val (.ref q1), .val (.int (((1 : Int32) &&& (1 : Int32)) &&& (1 : Int32))), .val (.int (Int32.ofNat m2))] [(.int (15 : Int32)), (.int ((p2.toUInt32 >>> ((8 : Int32) &&& 31).toUInt32).toInt32)), (.int (p1 &&& (4 : Int32))), (.int (Int32.ofNat m2)), (.ref q1)])) _
        refine XS.iand X7.here hx rfl (hb hby at_117) rfl ?_
        show Steps p.tables e below (T7.setTop (mkF m 118 #[.val (.int p1), .val (.int p2), .val (.int p3), .val (.ref q1), .val (.int (((1 : Int32) &&& (1 : Int32)) &&& (1 : Int32))), .val (.int (Int32.ofNat m2))] [(.int (((p2.toUInt32 >>> ((8 : Int32) &&& 31).toUInt32).toInt32) &&& (15 : Int32))), (.int (p1 &&& (4 : Int32))), (.int (Int32.ofNat m2)), (.ref q1)])) _
        refine XS.iloadN X7.here hx rfl (hb hby at_118) rfl ?_
        show Steps p.tables e below (T7.setTop (mkF m 119 #[.val (.int p1), .val (.int p2), .val (.int p3), .val (.ref q1), .val (.int (((1 : Int32) &&& (1 : Int32)) &&& (1 : Int32))), .val (.int (Int32.ofNat m2))] [(.int p3), (.int (((p2.toUInt32 >>> ((8 : Int32) &&& 31).toUInt32).toInt32) &&& (15 : Int32))), (.int (p1 &&& (4 : Int32))), (.int (Int32.ofNat m2)), (.ref q1)])) _
        exact k
      obtain ⟨_, _, ⟨T8, L8, k8, n8⟩, -, X8, ⟨Lc8, hQ8, l8, y8, z8⟩, st8⟩ := Jvm.LawKit.callS X7 hx (y := (⟨"com/example/fragmint/fragmint/engine/DepartureQueueIsEmptyPinLaw", "step", "(Lcom/example/fragmint/fragmint/engine/DepartureQueue;IIII)I"⟩ : MethodName)) hown (mvT hZ (hw _ (List.mem_of_getElem? (i := 25) rfl))) (mvT hZ (hw _ (List.mem_of_getElem? (i := 26) rfl))) (mvT hZ (hw _ (List.mem_of_getElem? (i := 27) rfl))) (mvT hZ (hw _ (List.mem_of_getElem? (i := 28) rfl))) (by decide) (backOf (W := 0) (rm4 l Z a0 hw [] q1 (Int32.ofNat m2) (p1 &&& (4 : Int32)) (((p2.toUInt32 >>> ((8 : Int32) &&& 31).toUInt32).toInt32) &&& (15 : Int32)) p3 ta oa ha m2 T6.heap n0 Z6 Qm2 g_q1 g_ta g_oa g_ha (by omega) rfl) hZ (hw _ (List.mem_of_getElem? (i := 28) rfl)) (hw _ (List.mem_of_getElem? (i := 27) rfl)) (by decide) (by decide)) (g := (mkF m 119 #[.val (.int p1), .val (.int p2), .val (.int p3), .val (.ref q1), .val (.int (((1 : Int32) &&& (1 : Int32)) &&& (1 : Int32))), .val (.int (Int32.ofNat m2))] [(.int p3), (.int (((p2.toUInt32 >>> ((8 : Int32) &&& 31).toUInt32).toInt32) &&& (15 : Int32))), (.int (p1 &&& (4 : Int32))), (.int (Int32.ofNat m2)), (.ref q1)])) rfl (by rw [hml]; rfl) (argsL := [(.ref q1), (.int (Int32.ofNat m2)), (.int (p1 &&& (4 : Int32))), (.int (((p2.toUInt32 >>> ((8 : Int32) &&& 31).toUInt32).toInt32) &&& (15 : Int32))), (.int p3)]) (rest := []) (lenOf pd_rm0_2 rfl) rfl (by show 2 * 0 + _ ≤ _; exact Nat.le_of_eq rfl) (hb hby at_119) (fun _ _ => ⟨rfl, eh7, (by decide : 4 + 0 ≤ _), (by decide : 53 + 0 ≤ _)⟩)
      dsimp only [Pt.U, Pt.locs, Pt.cells, Pt.slots] at X8 l8 y8 z8 st8 hQ8
      subst l8 y8 z8
      obtain ⟨m3, rfl, N8q, Kc8, Qm3, hm3⟩ := hQ8
      have N8 := Fr.app N7 N8q
      have Z8 : n0 ≤ T8.heap.size := Nat.le_trans Z6 Kc8.1
      refine OEnds.go (t' := T8.setTop (mkF m 122 #[.val (.int p1), .val (.int p2), .val (.int p3), .val (.ref q1), .val (.int (((1 : Int32) &&& (1 : Int32)) &&& (1 : Int32))), .val (.int (Int32.ofNat m2))] [(.int (Int32.ofNat m3))])) (fun _ k => st8 _ k) ?_
      refine OEnds.go (t' := T8.setTop (mkF m 127 #[.val (.int p1), .val (.int p2), .val (.int p3), .val (.ref q1), .val (.int (((1 : Int32) &&& (1 : Int32)) &&& (1 : Int32))), .val (.int (Int32.ofNat m3))] [(.ref q1), (.int (((1 : Int32) &&& (1 : Int32)) &&& (1 : Int32)))])) (fun _ k => ?_) ?_
      · show Steps p.tables e below (T8.setTop (mkF m 122 #[.val (.int p1), .val (.int p2), .val (.int p3), .val (.ref q1), .val (.int (((1 : Int32) &&& (1 : Int32)) &&& (1 : Int32))), .val (.int (Int32.ofNat m2))] [(.int (Int32.ofNat m3))])) _
        refine XS.istore X8.here hx rfl (hb hby at_122) rfl (l' := #[.val (.int p1), .val (.int p2), .val (.int p3), .val (.ref q1), .val (.int (((1 : Int32) &&& (1 : Int32)) &&& (1 : Int32))), .val (.int (Int32.ofNat m3))]) rfl ?_
        show Steps p.tables e below (T8.setTop (mkF m 124 #[.val (.int p1), .val (.int p2), .val (.int p3), .val (.ref q1), .val (.int (((1 : Int32) &&& (1 : Int32)) &&& (1 : Int32))), .val (.int (Int32.ofNat m3))] [])) _
        refine XS.iload X8.here hx rfl (hb hby at_124) rfl ?_
        show Steps p.tables e below (T8.setTop (mkF m 126 #[.val (.int p1), .val (.int p2), .val (.int p3), .val (.ref q1), .val (.int (((1 : Int32) &&& (1 : Int32)) &&& (1 : Int32))), .val (.int (Int32.ofNat m3))] [(.int (((1 : Int32) &&& (1 : Int32)) &&& (1 : Int32)))])) _
        refine XS.aloadN X8.here hx rfl (hb hby at_126) rfl rfl ?_
        show Steps p.tables e below (T8.setTop (mkF m 127 #[.val (.int p1), .val (.int p2), .val (.int p3), .val (.ref q1), .val (.int (((1 : Int32) &&& (1 : Int32)) &&& (1 : Int32))), .val (.int (Int32.ofNat m3))] [(.ref q1), (.int (((1 : Int32) &&& (1 : Int32)) &&& (1 : Int32)))])) _
        exact k
      obtain ⟨cq9, kq9, q9a, q9b, q9c⟩ := isOf hZ rfl Qm3.1
      obtain ⟨_, _, ⟨T9, L9, k9, n9⟩, -, X9, ⟨Lc9, hQ9, l9, y9, z9⟩, st9⟩ := X8.virtualBack hx (y := (⟨"com/example/fragmint/fragmint/engine/DepartureQueue", "isEmpty", "()Z"⟩ : MethodName)) (z := (⟨"com/example/fragmint/fragmint/engine/DepartureQueue", "isEmpty", "()Z"⟩ : MethodName)) hown (mvT hZ (hw _ (List.mem_of_getElem? (i := 18) rfl))) (mvT hZ (hw _ (List.mem_of_getElem? (i := 19) rfl))) (notFace_of_selects (args := #[]) (mvT hZ (hw _ (List.mem_of_getElem? (i := 21) rfl)))) (mvT hZ (hw _ (List.mem_of_getElem? (i := 21) rfl))) (mvT hZ (hw _ (List.mem_of_getElem? (i := 20) rfl))) (by decide) (backOf (W := 1) (rm3 l Z a0 hw [] q1 ta oa ha m3 T8.heap n0 Z8 Qm3) hZ (hw _ (List.mem_of_getElem? (i := 22) rfl)) (hw _ (List.mem_of_getElem? (i := 2) rfl)) (by decide) (by decide)) q9a q9c (g := (mkF m 127 #[.val (.int p1), .val (.int p2), .val (.int p3), .val (.ref q1), .val (.int (((1 : Int32) &&& (1 : Int32)) &&& (1 : Int32))), .val (.int (Int32.ofNat m3))] [(.ref q1), (.int (((1 : Int32) &&& (1 : Int32)) &&& (1 : Int32)))])) rfl (by rw [hml]; rfl) (Steps.refl _) (argsL := []) (rest := [(.int (((1 : Int32) &&& (1 : Int32)) &&& (1 : Int32)))]) (lenOf pd_rm0_1 rfl) rfl (by show 2 * 0 + _ ≤ _; exact Nat.le_of_eq rfl) (hb hby at_127) (fun _ _ => ⟨rfl, rfl, (by decide : 4 + 0 ≤ _), (by decide : 53 + 0 ≤ _)⟩)
      dsimp only [Pt.U, Pt.locs, Pt.cells, Pt.slots] at X9 l9 y9 z9 st9 hQ9
      subst l9 y9 z9
      obtain ⟨rfl, N9q, eh⟩ := hQ9
      have N9 := Fr.app N8 N9q
      have eh9 := eh
      refine OEnds.go (t' := T9.setTop (mkF m 130 #[.val (.int p1), .val (.int p2), .val (.int p3), .val (.ref q1), .val (.int (((1 : Int32) &&& (1 : Int32)) &&& (1 : Int32))), .val (.int (Int32.ofNat m3))] [(.int (own_em m3)), (.int (((1 : Int32) &&& (1 : Int32)) &&& (1 : Int32)))])) (fun _ k => st9.trans k) ?_
      refine OEnds.go (t' := T9.setTop (mkF m 132 #[.val (.int p1), .val (.int p2), .val (.int p3), .val (.ref q1), .val (.int (((1 : Int32) &&& (1 : Int32)) &&& (1 : Int32))), .val (.int (Int32.ofNat m3))] [(.int (Int32.ofNat m3)), (.int (own_em m3)), (.int (((1 : Int32) &&& (1 : Int32)) &&& (1 : Int32)))])) (fun _ k => ?_) ?_
      · show Steps p.tables e below (T9.setTop (mkF m 130 #[.val (.int p1), .val (.int p2), .val (.int p3), .val (.ref q1), .val (.int (((1 : Int32) &&& (1 : Int32)) &&& (1 : Int32))), .val (.int (Int32.ofNat m3))] [(.int (own_em m3)), (.int (((1 : Int32) &&& (1 : Int32)) &&& (1 : Int32)))])) _
        refine XS.iload X9.here hx rfl (hb hby at_130) rfl ?_
        show Steps p.tables e below (T9.setTop (mkF m 132 #[.val (.int p1), .val (.int p2), .val (.int p3), .val (.ref q1), .val (.int (((1 : Int32) &&& (1 : Int32)) &&& (1 : Int32))), .val (.int (Int32.ofNat m3))] [(.int (Int32.ofNat m3)), (.int (own_em m3)), (.int (((1 : Int32) &&& (1 : Int32)) &&& (1 : Int32)))])) _
        exact k
      refine OEnds.cut (fun En => ∀ (z3 : Int32), z3 = own_em m3 → En (T9.setTop (mkF m 140 #[.val (.int p1), .val (.int p2), .val (.int p3), .val (.ref q1), .val (.int (((1 : Int32) &&& (1 : Int32)) &&& (1 : Int32))), .val (.int (Int32.ofNat m3))] [(.int z3), (.int (own_em m3)), (.int (((1 : Int32) &&& (1 : Int32)) &&& (1 : Int32)))]))) ?_ (fun K140 => ?_)
      · intro z3 hz3
        refine OEnds.go (t' := T9.setTop (mkF m 143 #[.val (.int p1), .val (.int p2), .val (.int p3), .val (.ref q1), .val (.int (((1 : Int32) &&& (1 : Int32)) &&& (1 : Int32))), .val (.int (Int32.ofNat m3))] [(.int (((1 : Int32) &&& (1 : Int32)) &&& (1 : Int32)))])) (fun _ k => XS.icmpNo X9.here hx rfl (hb hby at_140) rfl (teq hz3.symm).2 k) ?_
        refine OEnds.go (t' := T9.setTop (mkF m 151 #[.val (.int p1), .val (.int p2), .val (.int p3), .val (.ref q1), .val (.int ((((1 : Int32) &&& (1 : Int32)) &&& (1 : Int32)) &&& (1 : Int32))), .val (.int (Int32.ofNat m3))] [])) (fun _ k => ?_) ?_
        · show Steps p.tables e below (T9.setTop (mkF m 143 #[.val (.int p1), .val (.int p2), .val (.int p3), .val (.ref q1), .val (.int (((1 : Int32) &&& (1 : Int32)) &&& (1 : Int32))), .val (.int (Int32.ofNat m3))] [(.int (((1 : Int32) &&& (1 : Int32)) &&& (1 : Int32)))])) _
          refine XS.iconst X9.here hx rfl (hb hby at_143) ?_
          show Steps p.tables e below (T9.setTop (mkF m 144 #[.val (.int p1), .val (.int p2), .val (.int p3), .val (.ref q1), .val (.int (((1 : Int32) &&& (1 : Int32)) &&& (1 : Int32))), .val (.int (Int32.ofNat m3))] [(.int (1 : Int32)), (.int (((1 : Int32) &&& (1 : Int32)) &&& (1 : Int32)))])) _
          refine XS.goto X9.here hx rfl (pc0 := 144) (pc' := 148) rfl (hb hby at_144) (by decide) (by decide) ?_
          show Steps p.tables e below (T9.setTop (mkF m 148 #[.val (.int p1), .val (.int p2), .val (.int p3), .val (.ref q1), .val (.int (((1 : Int32) &&& (1 : Int32)) &&& (1 : Int32))), .val (.int (Int32.ofNat m3))] [(.int (1 : Int32)), (.int (((1 : Int32) &&& (1 : Int32)) &&& (1 : Int32)))])) _
          refine XS.iand X9.here hx rfl (hb hby at_148) rfl ?_
          show Steps p.tables e below (T9.setTop (mkF m 149 #[.val (.int p1), .val (.int p2), .val (.int p3), .val (.ref q1), .val (.int (((1 : Int32) &&& (1 : Int32)) &&& (1 : Int32))), .val (.int (Int32.ofNat m3))] [(.int ((((1 : Int32) &&& (1 : Int32)) &&& (1 : Int32)) &&& (1 : Int32)))])) _
          refine XS.istore X9.here hx rfl (hb hby at_149) rfl (l' := #[.val (.int p1), .val (.int p2), .val (.int p3), .val (.ref q1), .val (.int ((((1 : Int32) &&& (1 : Int32)) &&& (1 : Int32)) &&& (1 : Int32))), .val (.int (Int32.ofNat m3))]) rfl ?_
          show Steps p.tables e below (T9.setTop (mkF m 151 #[.val (.int p1), .val (.int p2), .val (.int p3), .val (.ref q1), .val (.int ((((1 : Int32) &&& (1 : Int32)) &&& (1 : Int32)) &&& (1 : Int32))), .val (.int (Int32.ofNat m3))] [])) _
          exact k
        refine OEnds.go (t' := T9.setTop (mkF m 166 #[.val (.int p1), .val (.int p2), .val (.int p3), .val (.ref q1), .val (.int ((((1 : Int32) &&& (1 : Int32)) &&& (1 : Int32)) &&& (1 : Int32))), .val (.int (Int32.ofNat m3))] [(.int p3), (.int (((p2.toUInt32 >>> ((12 : Int32) &&& 31).toUInt32).toInt32) &&& (15 : Int32))), (.int (p1 &&& (8 : Int32))), (.int (Int32.ofNat m3)), (.ref q1)])) (fun _ k => ?_) ?_
        · show Steps p.tables e below (T9.setTop (mkF m 151 #[.val (.int p1), .val (.int p2), .val (.int p3), .val (.ref q1), .val (.int ((((1 : Int32) &&& (1 : Int32)) &&& (1 : Int32)) &&& (1 : Int32))), .val (.int (Int32.ofNat m3))] [])) _
          refine XS.aloadN X9.here hx rfl (hb hby at_151) rfl rfl ?_
          show Steps p.tables e below (T9.setTop (mkF m 152 #[.val (.int p1), .val (.int p2), .val (.int p3), .val (.ref q1), .val (.int ((((1 : Int32) &&& (1 : Int32)) &&& (1 : Int32)) &&& (1 : Int32))), .val (.int (Int32.ofNat m3))] [(.ref q1)])) _
          refine XS.iload X9.here hx rfl (hb hby at_152) rfl ?_
          show Steps p.tables e below (T9.setTop (mkF m 154 #[.val (.int p1), .val (.int p2), .val (.int p3), .val (.ref q1), .val (.int ((((1 : Int32) &&& (1 : Int32)) &&& (1 : Int32)) &&& (1 : Int32))), .val (.int (Int32.ofNat m3))] [(.int (Int32.ofNat m3)), (.ref q1)])) _
          refine XS.iloadN X9.here hx rfl (hb hby at_154) rfl ?_
          show Steps p.tables e below (T9.setTop (mkF m 155 #[.val (.int p1), .val (.int p2), .val (.int p3), .val (.ref q1), .val (.int ((((1 : Int32) &&& (1 : Int32)) &&& (1 : Int32)) &&& (1 : Int32))), .val (.int (Int32.ofNat m3))] [(.int p1), (.int (Int32.ofNat m3)), (.ref q1)])) _
          refine XS.bipush X9.here hx rfl (hb hby at_155) ?_
          show Steps p.tables e below (T9.setTop (mkF m 157 #[.val (.int p1), .val (.int p2), .val (.int p3), .val (.ref q1), .val (.int ((((1 : Int32) &&& (1 : Int32)) &&& (1 : Int32)) &&& (1 : Int32))), .val (.int (Int32.ofNat m3))] [(.int (8 : Int32)), (.int p1), (.int (Int32.ofNat m3)), (.ref q1)])) _
          refine XS.iand X9.here hx rfl (hb hby at_157) rfl ?_
          show Steps p.tables e below (T9.setTop (mkF m 158 #[.val (.int p1), .val (.int p2), .val (.int p3), .val (.ref q1), .val (.int ((((1 : Int32) &&& (1 : Int32)) &&& (1 : Int32)) &&& (1 : Int32))), .val (.int (Int32.ofNat m3))] [(.int (p1 &&& (8 : Int32))), (.int (Int32.ofNat m3)), (.ref q1)])) _
          refine XS.iloadN X9.here hx rfl (hb hby at_158) rfl ?_
          show Steps p.tables e below (T9.setTop (mkF m 159 #[.val (.int p1), .val (.int p2), .val (.int p3), .val (.ref q1), .val (.int ((((1 : Int32) &&& (1 : Int32)) &&& (1 : Int32)) &&& (1 : Int32))), .val (.int (Int32.ofNat m3))] [(.int p2), (.int (p1 &&& (8 : Int32))), (.int (Int32.ofNat m3)), (.ref q1)])) _
          refine XS.bipush X9.here hx rfl (hb hby at_159) ?_
          show Steps p.tables e below (T9.setTop (mkF m 161 #[.val (.int p1), .val (.int p2), .val (.int p3), .val (.ref q1), .val (.int ((((1 : Int32) &&& (1 : Int32)) &&& (1 : Int32)) &&& (1 : Int32))), .val (.int (Int32.ofNat m3))] [(.int (12 : Int32)), (.int p2), (.int (p1 &&& (8 : Int32))), (.int (Int32.ofNat m3)), (.ref q1)])) _
          refine XS.iushr X9.here hx rfl (hb hby at_161) rfl ?_
          show Steps p.tables e below (T9.setTop (mkF m 162 #[.val (.int p1), .val (.int p2), .val (.int p3), .val (.ref q1), .val (.int ((((1 : Int32) &&& (1 : Int32)) &&& (1 : Int32)) &&& (1 : Int32))), .val (.int (Int32.ofNat m3))] [(.int ((p2.toUInt32 >>> ((12 : Int32) &&& 31).toUInt32).toInt32)), (.int (p1 &&& (8 : Int32))), (.int (Int32.ofNat m3)), (.ref q1)])) _
          refine XS.bipush X9.here hx rfl (hb hby at_162) ?_
          show Steps p.tables e below (T9.setTop (mkF m 164 #[.val (.int p1), .val (.int p2), .val (.int p3), .val (.ref q1), .val (.int ((((1 : Int32) &&& (1 : Int32)) &&& (1 : Int32)) &&& (1 : Int32))), .val (.int (Int32.ofNat m3))] [(.int (15 : Int32)), (.int ((p2.toUInt32 >>> ((12 : Int32) &&& 31).toUInt32).toInt32)), (.int (p1 &&& (8 : Int32))), (.int (Int32.ofNat m3)), (.ref q1)])) _
          refine XS.iand X9.here hx rfl (hb hby at_164) rfl ?_
          show Steps p.tables e below (T9.setTop (mkF m 165 #[.val (.int p1), .val (.int p2), .val (.int p3), .val (.ref q1), .val (.int ((((1 : Int32) &&& (1 : Int32)) &&& (1 : Int32)) &&& (1 : Int32))), .val (.int (Int32.ofNat m3))] [(.int (((p2.toUInt32 >>> ((12 : Int32) &&& 31).toUInt32).toInt32) &&& (15 : Int32))), (.int (p1 &&& (8 : Int32))), (.int (Int32.ofNat m3)), (.ref q1)])) _
          refine XS.iloadN X9.here hx rfl (hb hby at_165) rfl ?_
          show Steps p.tables e below (T9.setTop (mkF m 166 #[.val (.int p1), .val (.int p2), .val (.int p3), .val (.ref q1), .val (.int ((((1 : Int32) &&& (1 : Int32)) &&& (1 : Int32)) &&& (1 : Int32))), .val (.int (Int32.ofNat m3))] [(.int p3), (.int (((p2.toUInt32 >>> ((12 : Int32) &&& 31).toUInt32).toInt32) &&& (15 : Int32))), (.int (p1 &&& (8 : Int32))), (.int (Int32.ofNat m3)), (.ref q1)])) _
          exact k
        obtain ⟨_, _, ⟨T10, L10, k10, n10⟩, -, X10, ⟨Lc10, hQ10, l10, y10, z10⟩, st10⟩ := Jvm.LawKit.callS X9 hx (y := (⟨"com/example/fragmint/fragmint/engine/DepartureQueueIsEmptyPinLaw", "step", "(Lcom/example/fragmint/fragmint/engine/DepartureQueue;IIII)I"⟩ : MethodName)) hown (mvT hZ (hw _ (List.mem_of_getElem? (i := 25) rfl))) (mvT hZ (hw _ (List.mem_of_getElem? (i := 26) rfl))) (mvT hZ (hw _ (List.mem_of_getElem? (i := 27) rfl))) (mvT hZ (hw _ (List.mem_of_getElem? (i := 28) rfl))) (by decide) (backOf (W := 0) (rm4 l Z a0 hw [] q1 (Int32.ofNat m3) (p1 &&& (8 : Int32)) (((p2.toUInt32 >>> ((12 : Int32) &&& 31).toUInt32).toInt32) &&& (15 : Int32)) p3 ta oa ha m3 T8.heap n0 Z8 Qm3 g_q1 g_ta g_oa g_ha (by omega) rfl) hZ (hw _ (List.mem_of_getElem? (i := 28) rfl)) (hw _ (List.mem_of_getElem? (i := 27) rfl)) (by decide) (by decide)) (g := (mkF m 166 #[.val (.int p1), .val (.int p2), .val (.int p3), .val (.ref q1), .val (.int ((((1 : Int32) &&& (1 : Int32)) &&& (1 : Int32)) &&& (1 : Int32))), .val (.int (Int32.ofNat m3))] [(.int p3), (.int (((p2.toUInt32 >>> ((12 : Int32) &&& 31).toUInt32).toInt32) &&& (15 : Int32))), (.int (p1 &&& (8 : Int32))), (.int (Int32.ofNat m3)), (.ref q1)])) rfl (by rw [hml]; rfl) (argsL := [(.ref q1), (.int (Int32.ofNat m3)), (.int (p1 &&& (8 : Int32))), (.int (((p2.toUInt32 >>> ((12 : Int32) &&& 31).toUInt32).toInt32) &&& (15 : Int32))), (.int p3)]) (rest := []) (lenOf pd_rm0_2 rfl) rfl (by show 2 * 0 + _ ≤ _; exact Nat.le_of_eq rfl) (hb hby at_166) (fun _ _ => ⟨rfl, eh9, (by decide : 4 + 0 ≤ _), (by decide : 53 + 0 ≤ _)⟩)
        dsimp only [Pt.U, Pt.locs, Pt.cells, Pt.slots] at X10 l10 y10 z10 st10 hQ10
        subst l10 y10 z10
        obtain ⟨m4, rfl, N10q, Kc10, Qm4, hm4⟩ := hQ10
        have N10 := Fr.app N9 N10q
        have Z10 : n0 ≤ T10.heap.size := Nat.le_trans Z8 Kc10.1
        refine OEnds.go (t' := T10.setTop (mkF m 169 #[.val (.int p1), .val (.int p2), .val (.int p3), .val (.ref q1), .val (.int ((((1 : Int32) &&& (1 : Int32)) &&& (1 : Int32)) &&& (1 : Int32))), .val (.int (Int32.ofNat m3))] [(.int (Int32.ofNat m4))])) (fun _ k => st10 _ k) ?_
        refine OEnds.go (t' := T10.setTop (mkF m 174 #[.val (.int p1), .val (.int p2), .val (.int p3), .val (.ref q1), .val (.int ((((1 : Int32) &&& (1 : Int32)) &&& (1 : Int32)) &&& (1 : Int32))), .val (.int (Int32.ofNat m4))] [(.ref q1), (.int ((((1 : Int32) &&& (1 : Int32)) &&& (1 : Int32)) &&& (1 : Int32)))])) (fun _ k => ?_) ?_
        · show Steps p.tables e below (T10.setTop (mkF m 169 #[.val (.int p1), .val (.int p2), .val (.int p3), .val (.ref q1), .val (.int ((((1 : Int32) &&& (1 : Int32)) &&& (1 : Int32)) &&& (1 : Int32))), .val (.int (Int32.ofNat m3))] [(.int (Int32.ofNat m4))])) _
          refine XS.istore X10.here hx rfl (hb hby at_169) rfl (l' := #[.val (.int p1), .val (.int p2), .val (.int p3), .val (.ref q1), .val (.int ((((1 : Int32) &&& (1 : Int32)) &&& (1 : Int32)) &&& (1 : Int32))), .val (.int (Int32.ofNat m4))]) rfl ?_
          show Steps p.tables e below (T10.setTop (mkF m 171 #[.val (.int p1), .val (.int p2), .val (.int p3), .val (.ref q1), .val (.int ((((1 : Int32) &&& (1 : Int32)) &&& (1 : Int32)) &&& (1 : Int32))), .val (.int (Int32.ofNat m4))] [])) _
          refine XS.iload X10.here hx rfl (hb hby at_171) rfl ?_
          show Steps p.tables e below (T10.setTop (mkF m 173 #[.val (.int p1), .val (.int p2), .val (.int p3), .val (.ref q1), .val (.int ((((1 : Int32) &&& (1 : Int32)) &&& (1 : Int32)) &&& (1 : Int32))), .val (.int (Int32.ofNat m4))] [(.int ((((1 : Int32) &&& (1 : Int32)) &&& (1 : Int32)) &&& (1 : Int32)))])) _
          refine XS.aloadN X10.here hx rfl (hb hby at_173) rfl rfl ?_
          show Steps p.tables e below (T10.setTop (mkF m 174 #[.val (.int p1), .val (.int p2), .val (.int p3), .val (.ref q1), .val (.int ((((1 : Int32) &&& (1 : Int32)) &&& (1 : Int32)) &&& (1 : Int32))), .val (.int (Int32.ofNat m4))] [(.ref q1), (.int ((((1 : Int32) &&& (1 : Int32)) &&& (1 : Int32)) &&& (1 : Int32)))])) _
          exact k
        obtain ⟨cq11, kq11, q11a, q11b, q11c⟩ := isOf hZ rfl Qm4.1
        obtain ⟨_, _, ⟨T11, L11, k11, n11⟩, -, X11, ⟨Lc11, hQ11, l11, y11, z11⟩, st11⟩ := X10.virtualBack hx (y := (⟨"com/example/fragmint/fragmint/engine/DepartureQueue", "isEmpty", "()Z"⟩ : MethodName)) (z := (⟨"com/example/fragmint/fragmint/engine/DepartureQueue", "isEmpty", "()Z"⟩ : MethodName)) hown (mvT hZ (hw _ (List.mem_of_getElem? (i := 18) rfl))) (mvT hZ (hw _ (List.mem_of_getElem? (i := 19) rfl))) (notFace_of_selects (args := #[]) (mvT hZ (hw _ (List.mem_of_getElem? (i := 21) rfl)))) (mvT hZ (hw _ (List.mem_of_getElem? (i := 21) rfl))) (mvT hZ (hw _ (List.mem_of_getElem? (i := 20) rfl))) (by decide) (backOf (W := 1) (rm3 l Z a0 hw [] q1 ta oa ha m4 T10.heap n0 Z10 Qm4) hZ (hw _ (List.mem_of_getElem? (i := 22) rfl)) (hw _ (List.mem_of_getElem? (i := 2) rfl)) (by decide) (by decide)) q11a q11c (g := (mkF m 174 #[.val (.int p1), .val (.int p2), .val (.int p3), .val (.ref q1), .val (.int ((((1 : Int32) &&& (1 : Int32)) &&& (1 : Int32)) &&& (1 : Int32))), .val (.int (Int32.ofNat m4))] [(.ref q1), (.int ((((1 : Int32) &&& (1 : Int32)) &&& (1 : Int32)) &&& (1 : Int32)))])) rfl (by rw [hml]; rfl) (Steps.refl _) (argsL := []) (rest := [(.int ((((1 : Int32) &&& (1 : Int32)) &&& (1 : Int32)) &&& (1 : Int32)))]) (lenOf pd_rm0_1 rfl) rfl (by show 2 * 0 + _ ≤ _; exact Nat.le_of_eq rfl) (hb hby at_174) (fun _ _ => ⟨rfl, rfl, (by decide : 4 + 0 ≤ _), (by decide : 53 + 0 ≤ _)⟩)
        dsimp only [Pt.U, Pt.locs, Pt.cells, Pt.slots] at X11 l11 y11 z11 st11 hQ11
        subst l11 y11 z11
        obtain ⟨rfl, N11q, eh⟩ := hQ11
        have N11 := Fr.app N10 N11q
        have eh11 := eh
        refine OEnds.go (t' := T11.setTop (mkF m 177 #[.val (.int p1), .val (.int p2), .val (.int p3), .val (.ref q1), .val (.int ((((1 : Int32) &&& (1 : Int32)) &&& (1 : Int32)) &&& (1 : Int32))), .val (.int (Int32.ofNat m4))] [(.int (own_em m4)), (.int ((((1 : Int32) &&& (1 : Int32)) &&& (1 : Int32)) &&& (1 : Int32)))])) (fun _ k => st11.trans k) ?_
        refine OEnds.go (t' := T11.setTop (mkF m 179 #[.val (.int p1), .val (.int p2), .val (.int p3), .val (.ref q1), .val (.int ((((1 : Int32) &&& (1 : Int32)) &&& (1 : Int32)) &&& (1 : Int32))), .val (.int (Int32.ofNat m4))] [(.int (Int32.ofNat m4)), (.int (own_em m4)), (.int ((((1 : Int32) &&& (1 : Int32)) &&& (1 : Int32)) &&& (1 : Int32)))])) (fun _ k => ?_) ?_
        · show Steps p.tables e below (T11.setTop (mkF m 177 #[.val (.int p1), .val (.int p2), .val (.int p3), .val (.ref q1), .val (.int ((((1 : Int32) &&& (1 : Int32)) &&& (1 : Int32)) &&& (1 : Int32))), .val (.int (Int32.ofNat m4))] [(.int (own_em m4)), (.int ((((1 : Int32) &&& (1 : Int32)) &&& (1 : Int32)) &&& (1 : Int32)))])) _
          refine XS.iload X11.here hx rfl (hb hby at_177) rfl ?_
          show Steps p.tables e below (T11.setTop (mkF m 179 #[.val (.int p1), .val (.int p2), .val (.int p3), .val (.ref q1), .val (.int ((((1 : Int32) &&& (1 : Int32)) &&& (1 : Int32)) &&& (1 : Int32))), .val (.int (Int32.ofNat m4))] [(.int (Int32.ofNat m4)), (.int (own_em m4)), (.int ((((1 : Int32) &&& (1 : Int32)) &&& (1 : Int32)) &&& (1 : Int32)))])) _
          exact k
        refine OEnds.cut (fun En => ∀ (z4 : Int32), z4 = own_em m4 → En (T11.setTop (mkF m 187 #[.val (.int p1), .val (.int p2), .val (.int p3), .val (.ref q1), .val (.int ((((1 : Int32) &&& (1 : Int32)) &&& (1 : Int32)) &&& (1 : Int32))), .val (.int (Int32.ofNat m4))] [(.int z4), (.int (own_em m4)), (.int ((((1 : Int32) &&& (1 : Int32)) &&& (1 : Int32)) &&& (1 : Int32)))]))) ?_ (fun K187 => ?_)
        · intro z4 hz4
          refine OEnds.go (t' := T11.setTop (mkF m 190 #[.val (.int p1), .val (.int p2), .val (.int p3), .val (.ref q1), .val (.int ((((1 : Int32) &&& (1 : Int32)) &&& (1 : Int32)) &&& (1 : Int32))), .val (.int (Int32.ofNat m4))] [(.int ((((1 : Int32) &&& (1 : Int32)) &&& (1 : Int32)) &&& (1 : Int32)))])) (fun _ k => XS.icmpNo X11.here hx rfl (hb hby at_187) rfl (teq hz4.symm).2 k) ?_
          refine OEnds.go (t' := T11.setTop (mkF m 198 #[.val (.int p1), .val (.int p2), .val (.int p3), .val (.ref q1), .val (.int (((((1 : Int32) &&& (1 : Int32)) &&& (1 : Int32)) &&& (1 : Int32)) &&& (1 : Int32))), .val (.int (Int32.ofNat m4))] [])) (fun _ k => ?_) ?_
          · show Steps p.tables e below (T11.setTop (mkF m 190 #[.val (.int p1), .val (.int p2), .val (.int p3), .val (.ref q1), .val (.int ((((1 : Int32) &&& (1 : Int32)) &&& (1 : Int32)) &&& (1 : Int32))), .val (.int (Int32.ofNat m4))] [(.int ((((1 : Int32) &&& (1 : Int32)) &&& (1 : Int32)) &&& (1 : Int32)))])) _
            refine XS.iconst X11.here hx rfl (hb hby at_190) ?_
            show Steps p.tables e below (T11.setTop (mkF m 191 #[.val (.int p1), .val (.int p2), .val (.int p3), .val (.ref q1), .val (.int ((((1 : Int32) &&& (1 : Int32)) &&& (1 : Int32)) &&& (1 : Int32))), .val (.int (Int32.ofNat m4))] [(.int (1 : Int32)), (.int ((((1 : Int32) &&& (1 : Int32)) &&& (1 : Int32)) &&& (1 : Int32)))])) _
            refine XS.goto X11.here hx rfl (pc0 := 191) (pc' := 195) rfl (hb hby at_191) (by decide) (by decide) ?_
            show Steps p.tables e below (T11.setTop (mkF m 195 #[.val (.int p1), .val (.int p2), .val (.int p3), .val (.ref q1), .val (.int ((((1 : Int32) &&& (1 : Int32)) &&& (1 : Int32)) &&& (1 : Int32))), .val (.int (Int32.ofNat m4))] [(.int (1 : Int32)), (.int ((((1 : Int32) &&& (1 : Int32)) &&& (1 : Int32)) &&& (1 : Int32)))])) _
            refine XS.iand X11.here hx rfl (hb hby at_195) rfl ?_
            show Steps p.tables e below (T11.setTop (mkF m 196 #[.val (.int p1), .val (.int p2), .val (.int p3), .val (.ref q1), .val (.int ((((1 : Int32) &&& (1 : Int32)) &&& (1 : Int32)) &&& (1 : Int32))), .val (.int (Int32.ofNat m4))] [(.int (((((1 : Int32) &&& (1 : Int32)) &&& (1 : Int32)) &&& (1 : Int32)) &&& (1 : Int32)))])) _
            refine XS.istore X11.here hx rfl (hb hby at_196) rfl (l' := #[.val (.int p1), .val (.int p2), .val (.int p3), .val (.ref q1), .val (.int (((((1 : Int32) &&& (1 : Int32)) &&& (1 : Int32)) &&& (1 : Int32)) &&& (1 : Int32))), .val (.int (Int32.ofNat m4))]) rfl ?_
            show Steps p.tables e below (T11.setTop (mkF m 198 #[.val (.int p1), .val (.int p2), .val (.int p3), .val (.ref q1), .val (.int (((((1 : Int32) &&& (1 : Int32)) &&& (1 : Int32)) &&& (1 : Int32)) &&& (1 : Int32))), .val (.int (Int32.ofNat m4))] [])) _
            exact k
          refine OEnds.go (t' := T11.setTop (mkF m 200 #[.val (.int p1), .val (.int p2), .val (.int p3), .val (.ref q1), .val (.int (((((1 : Int32) &&& (1 : Int32)) &&& (1 : Int32)) &&& (1 : Int32)) &&& (1 : Int32))), .val (.int (Int32.ofNat m4))] [(.int (((((1 : Int32) &&& (1 : Int32)) &&& (1 : Int32)) &&& (1 : Int32)) &&& (1 : Int32)))])) (fun _ k => ?_) ?_
          · show Steps p.tables e below (T11.setTop (mkF m 198 #[.val (.int p1), .val (.int p2), .val (.int p3), .val (.ref q1), .val (.int (((((1 : Int32) &&& (1 : Int32)) &&& (1 : Int32)) &&& (1 : Int32)) &&& (1 : Int32))), .val (.int (Int32.ofNat m4))] [])) _
            refine XS.iload X11.here hx rfl (hb hby at_198) rfl ?_
            show Steps p.tables e below (T11.setTop (mkF m 200 #[.val (.int p1), .val (.int p2), .val (.int p3), .val (.ref q1), .val (.int (((((1 : Int32) &&& (1 : Int32)) &&& (1 : Int32)) &&& (1 : Int32)) &&& (1 : Int32))), .val (.int (Int32.ofNat m4))] [(.int (((((1 : Int32) &&& (1 : Int32)) &&& (1 : Int32)) &&& (1 : Int32)) &&& (1 : Int32)))])) _
            exact k
          refine OEnds.back X11 hlk (v := (some (.int (nar .boolean (((((1 : Int32) &&& (1 : Int32)) &&& (1 : Int32)) &&& (1 : Int32)) &&& (1 : Int32)))))) (fun h => by rw [hrt] at h; cases h) (fun fs hr => ?_) ?_ (by decide) (by decide)
          · exact retN X11 hx (t := .boolean) hrt (by simp) (hb hby at_200) hr
          · show Q0 Z p1 p2 p3  h0 n0 _ T11.heap _
            rw [eh11]
            exact ⟨congrArg (fun z => some (Value.int z)) (by decide), N11⟩
        by_cases hb4 : (Int32.ofNat m4) = (0 : Int32)
        · refine OEnds.go (t' := T11.setTop (mkF m 182 #[.val (.int p1), .val (.int p2), .val (.int p3), .val (.ref q1), .val (.int ((((1 : Int32) &&& (1 : Int32)) &&& (1 : Int32)) &&& (1 : Int32))), .val (.int (Int32.ofNat m4))] [(.int (own_em m4)), (.int ((((1 : Int32) &&& (1 : Int32)) &&& (1 : Int32)) &&& (1 : Int32)))])) (fun _ k => XS.ifNo X11.here hx rfl (hb hby at_179) rfl ((if0 _ _).trans (teq hb4).2) k) ?_
          refine OEnds.go (t' := T11.setTop (mkF m 187 #[.val (.int p1), .val (.int p2), .val (.int p3), .val (.ref q1), .val (.int ((((1 : Int32) &&& (1 : Int32)) &&& (1 : Int32)) &&& (1 : Int32))), .val (.int (Int32.ofNat m4))] [(.int (1 : Int32)), (.int (own_em m4)), (.int ((((1 : Int32) &&& (1 : Int32)) &&& (1 : Int32)) &&& (1 : Int32)))])) (fun _ k => ?_) ?_
          · show Steps p.tables e below (T11.setTop (mkF m 182 #[.val (.int p1), .val (.int p2), .val (.int p3), .val (.ref q1), .val (.int ((((1 : Int32) &&& (1 : Int32)) &&& (1 : Int32)) &&& (1 : Int32))), .val (.int (Int32.ofNat m4))] [(.int (own_em m4)), (.int ((((1 : Int32) &&& (1 : Int32)) &&& (1 : Int32)) &&& (1 : Int32)))])) _
            refine XS.iconst X11.here hx rfl (hb hby at_182) ?_
            show Steps p.tables e below (T11.setTop (mkF m 183 #[.val (.int p1), .val (.int p2), .val (.int p3), .val (.ref q1), .val (.int ((((1 : Int32) &&& (1 : Int32)) &&& (1 : Int32)) &&& (1 : Int32))), .val (.int (Int32.ofNat m4))] [(.int (1 : Int32)), (.int (own_em m4)), (.int ((((1 : Int32) &&& (1 : Int32)) &&& (1 : Int32)) &&& (1 : Int32)))])) _
            refine XS.goto X11.here hx rfl (pc0 := 183) (pc' := 187) rfl (hb hby at_183) (by decide) (by decide) ?_
            show Steps p.tables e below (T11.setTop (mkF m 187 #[.val (.int p1), .val (.int p2), .val (.int p3), .val (.ref q1), .val (.int ((((1 : Int32) &&& (1 : Int32)) &&& (1 : Int32)) &&& (1 : Int32))), .val (.int (Int32.ofNat m4))] [(.int (1 : Int32)), (.int (own_em m4)), (.int ((((1 : Int32) &&& (1 : Int32)) &&& (1 : Int32)) &&& (1 : Int32)))])) _
            exact k
          exact K187 _ (by rw [own_em, if_pos hb4])
        · refine OEnds.go (t' := T11.setTop (mkF m 186 #[.val (.int p1), .val (.int p2), .val (.int p3), .val (.ref q1), .val (.int ((((1 : Int32) &&& (1 : Int32)) &&& (1 : Int32)) &&& (1 : Int32))), .val (.int (Int32.ofNat m4))] [(.int (own_em m4)), (.int ((((1 : Int32) &&& (1 : Int32)) &&& (1 : Int32)) &&& (1 : Int32)))])) (fun _ k => XS.ifYes X11.here hx rfl (pc0 := 179) (pc' := 186) rfl (hb hby at_179) rfl ((if0 _ _).trans (feq hb4).2) (by decide) (by decide) k) ?_
          refine OEnds.go (t' := T11.setTop (mkF m 187 #[.val (.int p1), .val (.int p2), .val (.int p3), .val (.ref q1), .val (.int ((((1 : Int32) &&& (1 : Int32)) &&& (1 : Int32)) &&& (1 : Int32))), .val (.int (Int32.ofNat m4))] [(.int (0 : Int32)), (.int (own_em m4)), (.int ((((1 : Int32) &&& (1 : Int32)) &&& (1 : Int32)) &&& (1 : Int32)))])) (fun _ k => ?_) ?_
          · show Steps p.tables e below (T11.setTop (mkF m 186 #[.val (.int p1), .val (.int p2), .val (.int p3), .val (.ref q1), .val (.int ((((1 : Int32) &&& (1 : Int32)) &&& (1 : Int32)) &&& (1 : Int32))), .val (.int (Int32.ofNat m4))] [(.int (own_em m4)), (.int ((((1 : Int32) &&& (1 : Int32)) &&& (1 : Int32)) &&& (1 : Int32)))])) _
            refine XS.iconst X11.here hx rfl (hb hby at_186) ?_
            show Steps p.tables e below (T11.setTop (mkF m 187 #[.val (.int p1), .val (.int p2), .val (.int p3), .val (.ref q1), .val (.int ((((1 : Int32) &&& (1 : Int32)) &&& (1 : Int32)) &&& (1 : Int32))), .val (.int (Int32.ofNat m4))] [(.int (0 : Int32)), (.int (own_em m4)), (.int ((((1 : Int32) &&& (1 : Int32)) &&& (1 : Int32)) &&& (1 : Int32)))])) _
            exact k
          exact K187 _ (by rw [own_em, if_neg hb4])
      by_cases hb3 : (Int32.ofNat m3) = (0 : Int32)
      · refine OEnds.go (t' := T9.setTop (mkF m 135 #[.val (.int p1), .val (.int p2), .val (.int p3), .val (.ref q1), .val (.int (((1 : Int32) &&& (1 : Int32)) &&& (1 : Int32))), .val (.int (Int32.ofNat m3))] [(.int (own_em m3)), (.int (((1 : Int32) &&& (1 : Int32)) &&& (1 : Int32)))])) (fun _ k => XS.ifNo X9.here hx rfl (hb hby at_132) rfl ((if0 _ _).trans (teq hb3).2) k) ?_
        refine OEnds.go (t' := T9.setTop (mkF m 140 #[.val (.int p1), .val (.int p2), .val (.int p3), .val (.ref q1), .val (.int (((1 : Int32) &&& (1 : Int32)) &&& (1 : Int32))), .val (.int (Int32.ofNat m3))] [(.int (1 : Int32)), (.int (own_em m3)), (.int (((1 : Int32) &&& (1 : Int32)) &&& (1 : Int32)))])) (fun _ k => ?_) ?_
        · show Steps p.tables e below (T9.setTop (mkF m 135 #[.val (.int p1), .val (.int p2), .val (.int p3), .val (.ref q1), .val (.int (((1 : Int32) &&& (1 : Int32)) &&& (1 : Int32))), .val (.int (Int32.ofNat m3))] [(.int (own_em m3)), (.int (((1 : Int32) &&& (1 : Int32)) &&& (1 : Int32)))])) _
          refine XS.iconst X9.here hx rfl (hb hby at_135) ?_
          show Steps p.tables e below (T9.setTop (mkF m 136 #[.val (.int p1), .val (.int p2), .val (.int p3), .val (.ref q1), .val (.int (((1 : Int32) &&& (1 : Int32)) &&& (1 : Int32))), .val (.int (Int32.ofNat m3))] [(.int (1 : Int32)), (.int (own_em m3)), (.int (((1 : Int32) &&& (1 : Int32)) &&& (1 : Int32)))])) _
          refine XS.goto X9.here hx rfl (pc0 := 136) (pc' := 140) rfl (hb hby at_136) (by decide) (by decide) ?_
          show Steps p.tables e below (T9.setTop (mkF m 140 #[.val (.int p1), .val (.int p2), .val (.int p3), .val (.ref q1), .val (.int (((1 : Int32) &&& (1 : Int32)) &&& (1 : Int32))), .val (.int (Int32.ofNat m3))] [(.int (1 : Int32)), (.int (own_em m3)), (.int (((1 : Int32) &&& (1 : Int32)) &&& (1 : Int32)))])) _
          exact k
        exact K140 _ (by rw [own_em, if_pos hb3])
      · refine OEnds.go (t' := T9.setTop (mkF m 139 #[.val (.int p1), .val (.int p2), .val (.int p3), .val (.ref q1), .val (.int (((1 : Int32) &&& (1 : Int32)) &&& (1 : Int32))), .val (.int (Int32.ofNat m3))] [(.int (own_em m3)), (.int (((1 : Int32) &&& (1 : Int32)) &&& (1 : Int32)))])) (fun _ k => XS.ifYes X9.here hx rfl (pc0 := 132) (pc' := 139) rfl (hb hby at_132) rfl ((if0 _ _).trans (feq hb3).2) (by decide) (by decide) k) ?_
        refine OEnds.go (t' := T9.setTop (mkF m 140 #[.val (.int p1), .val (.int p2), .val (.int p3), .val (.ref q1), .val (.int (((1 : Int32) &&& (1 : Int32)) &&& (1 : Int32))), .val (.int (Int32.ofNat m3))] [(.int (0 : Int32)), (.int (own_em m3)), (.int (((1 : Int32) &&& (1 : Int32)) &&& (1 : Int32)))])) (fun _ k => ?_) ?_
        · show Steps p.tables e below (T9.setTop (mkF m 139 #[.val (.int p1), .val (.int p2), .val (.int p3), .val (.ref q1), .val (.int (((1 : Int32) &&& (1 : Int32)) &&& (1 : Int32))), .val (.int (Int32.ofNat m3))] [(.int (own_em m3)), (.int (((1 : Int32) &&& (1 : Int32)) &&& (1 : Int32)))])) _
          refine XS.iconst X9.here hx rfl (hb hby at_139) ?_
          show Steps p.tables e below (T9.setTop (mkF m 140 #[.val (.int p1), .val (.int p2), .val (.int p3), .val (.ref q1), .val (.int (((1 : Int32) &&& (1 : Int32)) &&& (1 : Int32))), .val (.int (Int32.ofNat m3))] [(.int (0 : Int32)), (.int (own_em m3)), (.int (((1 : Int32) &&& (1 : Int32)) &&& (1 : Int32)))])) _
          exact k
        exact K140 _ (by rw [own_em, if_neg hb3])
    by_cases hb2 : (Int32.ofNat m2) = (0 : Int32)
    · refine OEnds.go (t' := T7.setTop (mkF m 89 #[.val (.int p1), .val (.int p2), .val (.int p3), .val (.ref q1), .val (.int ((1 : Int32) &&& (1 : Int32))), .val (.int (Int32.ofNat m2))] [(.int (own_em m2)), (.int ((1 : Int32) &&& (1 : Int32)))])) (fun _ k => XS.ifNo X7.here hx rfl (hb hby at_86) rfl ((if0 _ _).trans (teq hb2).2) k) ?_
      refine OEnds.go (t' := T7.setTop (mkF m 94 #[.val (.int p1), .val (.int p2), .val (.int p3), .val (.ref q1), .val (.int ((1 : Int32) &&& (1 : Int32))), .val (.int (Int32.ofNat m2))] [(.int (1 : Int32)), (.int (own_em m2)), (.int ((1 : Int32) &&& (1 : Int32)))])) (fun _ k => ?_) ?_
      · show Steps p.tables e below (T7.setTop (mkF m 89 #[.val (.int p1), .val (.int p2), .val (.int p3), .val (.ref q1), .val (.int ((1 : Int32) &&& (1 : Int32))), .val (.int (Int32.ofNat m2))] [(.int (own_em m2)), (.int ((1 : Int32) &&& (1 : Int32)))])) _
        refine XS.iconst X7.here hx rfl (hb hby at_89) ?_
        show Steps p.tables e below (T7.setTop (mkF m 90 #[.val (.int p1), .val (.int p2), .val (.int p3), .val (.ref q1), .val (.int ((1 : Int32) &&& (1 : Int32))), .val (.int (Int32.ofNat m2))] [(.int (1 : Int32)), (.int (own_em m2)), (.int ((1 : Int32) &&& (1 : Int32)))])) _
        refine XS.goto X7.here hx rfl (pc0 := 90) (pc' := 94) rfl (hb hby at_90) (by decide) (by decide) ?_
        show Steps p.tables e below (T7.setTop (mkF m 94 #[.val (.int p1), .val (.int p2), .val (.int p3), .val (.ref q1), .val (.int ((1 : Int32) &&& (1 : Int32))), .val (.int (Int32.ofNat m2))] [(.int (1 : Int32)), (.int (own_em m2)), (.int ((1 : Int32) &&& (1 : Int32)))])) _
        exact k
      exact K94 _ (by rw [own_em, if_pos hb2])
    · refine OEnds.go (t' := T7.setTop (mkF m 93 #[.val (.int p1), .val (.int p2), .val (.int p3), .val (.ref q1), .val (.int ((1 : Int32) &&& (1 : Int32))), .val (.int (Int32.ofNat m2))] [(.int (own_em m2)), (.int ((1 : Int32) &&& (1 : Int32)))])) (fun _ k => XS.ifYes X7.here hx rfl (pc0 := 86) (pc' := 93) rfl (hb hby at_86) rfl ((if0 _ _).trans (feq hb2).2) (by decide) (by decide) k) ?_
      refine OEnds.go (t' := T7.setTop (mkF m 94 #[.val (.int p1), .val (.int p2), .val (.int p3), .val (.ref q1), .val (.int ((1 : Int32) &&& (1 : Int32))), .val (.int (Int32.ofNat m2))] [(.int (0 : Int32)), (.int (own_em m2)), (.int ((1 : Int32) &&& (1 : Int32)))])) (fun _ k => ?_) ?_
      · show Steps p.tables e below (T7.setTop (mkF m 93 #[.val (.int p1), .val (.int p2), .val (.int p3), .val (.ref q1), .val (.int ((1 : Int32) &&& (1 : Int32))), .val (.int (Int32.ofNat m2))] [(.int (own_em m2)), (.int ((1 : Int32) &&& (1 : Int32)))])) _
        refine XS.iconst X7.here hx rfl (hb hby at_93) ?_
        show Steps p.tables e below (T7.setTop (mkF m 94 #[.val (.int p1), .val (.int p2), .val (.int p3), .val (.ref q1), .val (.int ((1 : Int32) &&& (1 : Int32))), .val (.int (Int32.ofNat m2))] [(.int (0 : Int32)), (.int (own_em m2)), (.int ((1 : Int32) &&& (1 : Int32)))])) _
        exact k
      exact K94 _ (by rw [own_em, if_neg hb2])
  by_cases hb1 : (Int32.ofNat m1) = (0 : Int32)
  · refine OEnds.go (t' := T5.setTop (mkF m 44 #[.val (.int p1), .val (.int p2), .val (.int p3), .val (.ref q1), .val (.int (1 : Int32)), .val (.int (Int32.ofNat m1))] [(.int (own_em m1)), (.int (1 : Int32))])) (fun _ k => XS.ifNo X5.here hx rfl (hb hby at_41) rfl ((if0 _ _).trans (teq hb1).2) k) ?_
    refine OEnds.go (t' := T5.setTop (mkF m 49 #[.val (.int p1), .val (.int p2), .val (.int p3), .val (.ref q1), .val (.int (1 : Int32)), .val (.int (Int32.ofNat m1))] [(.int (1 : Int32)), (.int (own_em m1)), (.int (1 : Int32))])) (fun _ k => ?_) ?_
    · show Steps p.tables e below (T5.setTop (mkF m 44 #[.val (.int p1), .val (.int p2), .val (.int p3), .val (.ref q1), .val (.int (1 : Int32)), .val (.int (Int32.ofNat m1))] [(.int (own_em m1)), (.int (1 : Int32))])) _
      refine XS.iconst X5.here hx rfl (hb hby at_44) ?_
      show Steps p.tables e below (T5.setTop (mkF m 45 #[.val (.int p1), .val (.int p2), .val (.int p3), .val (.ref q1), .val (.int (1 : Int32)), .val (.int (Int32.ofNat m1))] [(.int (1 : Int32)), (.int (own_em m1)), (.int (1 : Int32))])) _
      refine XS.goto X5.here hx rfl (pc0 := 45) (pc' := 49) rfl (hb hby at_45) (by decide) (by decide) ?_
      show Steps p.tables e below (T5.setTop (mkF m 49 #[.val (.int p1), .val (.int p2), .val (.int p3), .val (.ref q1), .val (.int (1 : Int32)), .val (.int (Int32.ofNat m1))] [(.int (1 : Int32)), (.int (own_em m1)), (.int (1 : Int32))])) _
      exact k
    exact K49 _ (by rw [own_em, if_pos hb1])
  · refine OEnds.go (t' := T5.setTop (mkF m 48 #[.val (.int p1), .val (.int p2), .val (.int p3), .val (.ref q1), .val (.int (1 : Int32)), .val (.int (Int32.ofNat m1))] [(.int (own_em m1)), (.int (1 : Int32))])) (fun _ k => XS.ifYes X5.here hx rfl (pc0 := 41) (pc' := 48) rfl (hb hby at_41) rfl ((if0 _ _).trans (feq hb1).2) (by decide) (by decide) k) ?_
    refine OEnds.go (t' := T5.setTop (mkF m 49 #[.val (.int p1), .val (.int p2), .val (.int p3), .val (.ref q1), .val (.int (1 : Int32)), .val (.int (Int32.ofNat m1))] [(.int (0 : Int32)), (.int (own_em m1)), (.int (1 : Int32))])) (fun _ k => ?_) ?_
    · show Steps p.tables e below (T5.setTop (mkF m 48 #[.val (.int p1), .val (.int p2), .val (.int p3), .val (.ref q1), .val (.int (1 : Int32)), .val (.int (Int32.ofNat m1))] [(.int (own_em m1)), (.int (1 : Int32))])) _
      refine XS.iconst X5.here hx rfl (hb hby at_48) ?_
      show Steps p.tables e below (T5.setTop (mkF m 49 #[.val (.int p1), .val (.int p2), .val (.int p3), .val (.ref q1), .val (.int (1 : Int32)), .val (.int (Int32.ofNat m1))] [(.int (0 : Int32)), (.int (own_em m1)), (.int (1 : Int32))])) _
      exact k
    exact K49 _ (by rw [own_em, if_neg hb1])
set_option maxRecDepth 65536 in
set_option maxHeartbeats 40000000 in
theorem comes_1 {Post : Tables → Env → Array Value → State → Outcome → State → Prop} (hpost : ∀ tb e args s v u, (limb_1_1.after args s (.returned v) u = true ∧ limb_1_2.after args s (.returned v) u = true ∧ True) → FrameEnd s (.returned v) u (Jvm.fieldLocs frame_1_writes args s ++ Jvm.arrayLocs frame_1_arrays args s ++ Jvm.staticLocs frame_1_statics s) 16 192 → Post tb e args s (.returned v) u) :
    ArmFor flags0 classFile x code maxLocals ret World_1 tables_1 room_1 Calls_1 rest_1 Pre_1 Post := by
  intro l hfl _ _ p e ha hc hk s m args below hf hA hF happ hP
  obtain ⟨hcalls, hrest, hpre⟩ := hP
  obtain ⟨-, -, -, hnamed, -, -, -, hat⟩ := (Spec.applies_iff hf).mp happ
  obtain ⟨hg, hn⟩ := and_e (Cond.before_iff.mp (show (Jvm.Cond.and given_1 narrow_1).before args s = true from hpre))
  obtain ⟨gc, g0⟩ := and_e hg
  obtain ⟨ga0, g1⟩ := and_e g0
  obtain ⟨ga1, g2⟩ := and_e g1
  obtain ⟨w0, w1, w2, rfl⟩ : ∃ w0 w1 w2 : Value, args = #[w0, w1, w2] := by
    have hs : args.size = 3 := by simpa [Cond.value, given_1] using gc
    obtain ⟨L⟩ := args
    match L, hs with
    | [w0, w1, w2], _ => exact ⟨w0, w1, w2, rfl⟩
  have hw := fun d (hd : d ∈ tables_1) => atoms_spec (ws := Jvm.Cond.code x code maxLocals ret :: tables_1) hat d (List.mem_cons_of_mem _ hd)
  have hfit : Fit s := fun {y c} hc i hi => by
    obtain ⟨ha, rfl⟩ := Array.getElem?_eq_some_iff.mp hc
    have q := List.all_eq_true.mp ((Array.all_eq_true_iff_forall_mem.mp hF) _ (Array.getElem_mem ha)) i (List.mem_range.mpr hi)
    simpa [Array.getElem?_eq_getElem hi] using q
  obtain ⟨i0, ei0⟩ := is_v ga0
  obtain rfl : w0 = (.int i0) := Option.some.inj ei0
  obtain ⟨i1, ei1⟩ := is_v ga1
  obtain rfl : w1 = (.int i1) := Option.some.inj ei1
  obtain ⟨i2, ei2⟩ := is_v g2
  obtain rfl : w2 = (.int i2) := Option.some.inj ei2
  obtain ⟨n, o, h1, h2, h3, _, L, rfl, ⟨rfl, N⟩, hq⟩ := rm0 l s _ hw tables_1 i0 i1 i2  s.heap s.heap.size (Nat.le_refl _)  p e ha hc hk s m _ below hf ((Spec.applies_iff_loose hf).mp happ).1 ⟨rfl, State.Warmed39.refl s, rfl⟩ trivial
  refine ⟨n, _, h1, h2, h3, hpost _ _ _ _ _ _ ⟨Cond.after_iff.mpr rfl, Cond.after_iff.mpr (eq_i res_at (Term.int_eval (1)) rfl), trivial⟩ ⟨hq.1, hq.2.1, (hq.2.2.sift fun y hy => Or.inr (N y hy)).mono (by decide) (by decide)⟩⟩
theorem main_1_1 : Claimed_1_1 := comes_1 fun _ _ _ _ _ _ h hF => ⟨h.1, hF⟩
theorem main_1_2 : Claimed_1_2 := comes_1 fun _ _ _ _ _ _ h hF => ⟨h.2.1, hF⟩
end Jvm.Pilot.@@N@@
namespace Jvm.Pilot.@@N@@
open Jvm Jvm.ClassFile Sem Op Lib Jvm.Free Jvm.Stand Jvm.Pilot.@@N@@.Jvm.D
/-! MADE BY PROGRAM (witnessworld.py) out of the Statement's table words and the real class files: 11 classes; the members and pool entries that the words name. The judged class is class 1, her method 2. -/
namespace start1
open Jvm.ClassFile
def u (s : String) : CpInfo := .utf8 (stringToUtf16 s)
/-- a pool by its gaps: so many unusable entries, then the entry; so many at the end -/
def gap : Nat → List CpInfo → List CpInfo
  | 0, r => r
  | n + 1, r => .unusable :: gap n r
def poolList (es : List (Nat × CpInfo)) (last : Nat) : List CpInfo := es.foldr (fun e r => gap e.1 (e.2 :: r)) (gap last [])
def pool (es : List (Nat × CpInfo)) (last : Nat) : Array CpInfo := ⟨poolList es last⟩
def fileOf (pool : Array CpInfo) (this : Nat) (attrs : Array Attribute := #[]) (ms : Array MethodInfo := #[]) (fl : Nat := 33) (sup : Nat := 0) (ifs : Array Nat := #[]) (fds : Array FieldInfo := #[]) : ClassFile where
  minorVersion := 0
  majorVersion := 65
  constantPool := pool
  accessFlags := fl
  thisClass := this
  superClass := sup
  interfaces := ifs
  fields := fds
  methods := ms
  attributes := attrs
def plain (name : String) (sup : Option ClassId) : Class where
  name := name
  kind := .ordinary
  loader := none
  accessFlags := 33
  super := sup
  interfaces := #[]
  cf := none
  fields := #[]
  methods := #[]
  instanceTypes := #[]
  staticTypes := #[]
  resolved := #[]
  callSites := []
  init := .initialized
  statics := none
  mirror := none

def pool0 : Array CpInfo := pool [(5, u "<init>"), (0, u "()V"), (1, .class_ 10), (1, u "java/lang/Object")] 113

def k0c0 : Code := { maxStack := 0, maxLocals := 1, code := object_method_1_code, exceptionTable := #[], attributes := #[] }
def k0m0 : Method := { name := "<init>", desc := "()V", sig := { parameters := [], returnType := none }, accessFlags := 1, code := some k0c0 }
/-- java/lang/Object -/
def k0 : Class := { plain "java/lang/Object" none with
  accessFlags := 33
  interfaces := #[]
  cf := some (fileOf pool0 8 #[] #[{ accessFlags := 1, nameIndex := 5, descriptorIndex := 6, attributes := #[] }] 33 0 #[] #[])
  fields := #[]
  methods := #[k0m0]
  instanceTypes := #[]
  staticTypes := #[]
  resolved := Array.replicate 124 none
  statics := none }

def pool1 : Array CpInfo := pool [(2, .class_ 4), (0, .nameAndType 5 6), (0, u "java/lang/Object"), (0, u "<init>"), (0, u "()V"), (0, .methodref 8 9), (0, .class_ 10), (0, .nameAndType 11 12), (0, u "com/example/fragmint/fragmint/engine/DepartureQueue"), (0, u "add"), (0, u "(DI)V"), (0, .methodref 8 14), (0, .nameAndType 15 16), (0, u "removeNext"), (0, u "()I"), (0, .methodref 8 3), (0, .methodref 8 19), (0, .nameAndType 20 21), (0, u "isEmpty"), (0, u "()Z"), (0, .methodref 23 24), (0, .class_ 25), (0, .nameAndType 26 27), (0, u "com/example/fragmint/fragmint/engine/DepartureQueueIsEmptyPinLaw"), (0, u "step"), (0, u "(Lcom/example/fragmint/fragmint/engine/DepartureQueue;IIII)I"), (3, u "law"), (0, u "(III)Z")] 2

def k1m0 : Method := { name := "<init>", desc := "()V", sig := { parameters := [], returnType := none }, accessFlags := 2, code := none }
def k1c1 : Code := { maxStack := 4, maxLocals := 5, code := method_2_code, exceptionTable := #[], attributes := #[] }
def k1m1 : Method := { name := "step", desc := "(Lcom/example/fragmint/fragmint/engine/DepartureQueue;IIII)I", sig := { parameters := [(.object "com/example/fragmint/fragmint/engine/DepartureQueue"), .int, .int, .int, .int], returnType := some .int }, accessFlags := 10, code := some k1c1 }
def k1c2 : Code := { maxStack := 5, maxLocals := 6, code := code, exceptionTable := #[], attributes := #[] }
def k1m2 : Method := { name := "law", desc := "(III)Z", sig := { parameters := [.int, .int, .int], returnType := some .boolean }, accessFlags := 9, code := some k1c2 }
/-- com/example/fragmint/fragmint/engine/DepartureQueueIsEmptyPinLaw -/
def k1 : Class := { plain "com/example/fragmint/fragmint/engine/DepartureQueueIsEmptyPinLaw" (some 0) with
  accessFlags := 49
  interfaces := #[]
  cf := some (fileOf pool1 23 #[] #[{ accessFlags := 2, nameIndex := 5, descriptorIndex := 6, attributes := #[] }, { accessFlags := 10, nameIndex := 26, descriptorIndex := 27, attributes := #[] }, { accessFlags := 9, nameIndex := 31, descriptorIndex := 32, attributes := #[] }] 49 2 #[] #[])
  fields := #[]
  methods := #[k1m0, k1m1, k1m2]
  instanceTypes := #[]
  staticTypes := #[]
  resolved := Array.replicate 35 none
  statics := none }

def pool2 : Array CpInfo := pool [(1, .methodref 2 3), (0, .class_ 4), (0, .nameAndType 5 6), (0, u "java/lang/Object"), (0, u "<init>"), (0, u "()V"), (0, .fieldref 8 9), (0, .class_ 10), (0, .nameAndType 11 12), (0, u "com/example/fragmint/fragmint/engine/DepartureQueue"), (0, u "times"), (0, u "[D"), (0, .fieldref 8 14), (0, .nameAndType 15 16), (0, u "order"), (0, u "[J"), (0, .fieldref 8 18), (0, .nameAndType 19 20), (0, u "handles"), (0, u "[I"), (0, .fieldref 8 22), (0, .nameAndType 23 24), (0, u "size"), (0, u "I"), (12, .fieldref 8 38), (0, .nameAndType 39 40), (0, u "added"), (0, u "J"), (0, .methodref 8 42), (0, .nameAndType 43 44), (0, u "before"), (0, u "(DJI)Z"), (0, .methodref 8 46), (0, .nameAndType 47 48), (0, u "move"), (0, u "(II)V"), (0, .methodref 8 50), (0, .nameAndType 51 52), (0, u "put"), (0, u "(IDJI)V"), (0, .methodref 8 54), (0, .nameAndType 55 6), (0, u "checkNotEmpty"), (0, .methodref 8 57), (0, .nameAndType 43 58), (0, u "(DJDJ)Z"), (9, u "isEmpty"), (0, u "()Z"), (1, u "add"), (0, u "(DI)V"), (2, u "removeNext"), (0, u "()I")] 2

def k2c0 : Code := { maxStack := 2, maxLocals := 1, code := prog_11_method_1_code, exceptionTable := #[], attributes := #[] }
def k2m0 : Method := { name := "<init>", desc := "()V", sig := { parameters := [], returnType := none }, accessFlags := 1, code := some k2c0 }
def k2c1 : Code := { maxStack := 1, maxLocals := 1, code := prog_11_method_2_code, exceptionTable := #[], attributes := #[] }
def k2m1 : Method := { name := "isEmpty", desc := "()Z", sig := { parameters := [], returnType := some .boolean }, accessFlags := 1, code := some k2c1 }
def k2c2 : Code := { maxStack := 7, maxLocals := 8, code := prog_11_method_3_code, exceptionTable := #[], attributes := #[] }
def k2m2 : Method := { name := "add", desc := "(DI)V", sig := { parameters := [.double, .int], returnType := none }, accessFlags := 1, code := some k2c2 }
def k2c3 : Code := { maxStack := 8, maxLocals := 9, code := prog_11_method_5_code, exceptionTable := #[], attributes := #[] }
def k2m3 : Method := { name := "removeNext", desc := "()I", sig := { parameters := [], returnType := some .int }, accessFlags := 1, code := some k2c3 }
def k2c4 : Code := { maxStack := 3, maxLocals := 1, code := prog_11_method_6_code, exceptionTable := #[], attributes := #[] }
def k2m4 : Method := { name := "checkNotEmpty", desc := "()V", sig := { parameters := [], returnType := none }, accessFlags := 2, code := some k2c4 }
def k2c5 : Code := { maxStack := 8, maxLocals := 6, code := prog_11_method_7_code, exceptionTable := #[], attributes := #[] }
def k2m5 : Method := { name := "before", desc := "(DJI)Z", sig := { parameters := [.double, .long, .int], returnType := some .boolean }, accessFlags := 2, code := some k2c5 }
def k2c6 : Code := { maxStack := 4, maxLocals := 8, code := prog_11_method_8_code, exceptionTable := #[], attributes := #[] }
def k2m6 : Method := { name := "before", desc := "(DJDJ)Z", sig := { parameters := [.double, .long, .double, .long], returnType := some .boolean }, accessFlags := 10, code := some k2c6 }
def k2c7 : Code := { maxStack := 8, maxLocals := 3, code := prog_11_method_9_code, exceptionTable := #[], attributes := #[] }
def k2m7 : Method := { name := "move", desc := "(II)V", sig := { parameters := [.int, .int], returnType := none }, accessFlags := 2, code := some k2c7 }
def k2c8 : Code := { maxStack := 4, maxLocals := 7, code := prog_11_method_10_code, exceptionTable := #[], attributes := #[] }
def k2m8 : Method := { name := "put", desc := "(IDJI)V", sig := { parameters := [.int, .double, .long, .int], returnType := none }, accessFlags := 2, code := some k2c8 }
/-- com/example/fragmint/fragmint/engine/DepartureQueue -/
def k2 : Class := { plain "com/example/fragmint/fragmint/engine/DepartureQueue" (some 0) with
  accessFlags := 49
  interfaces := #[]
  cf := some (fileOf pool2 8 #[] #[{ accessFlags := 1, nameIndex := 5, descriptorIndex := 6, attributes := #[] }, { accessFlags := 1, nameIndex := 68, descriptorIndex := 69, attributes := #[] }, { accessFlags := 1, nameIndex := 71, descriptorIndex := 72, attributes := #[] }, { accessFlags := 1, nameIndex := 75, descriptorIndex := 76, attributes := #[] }, { accessFlags := 2, nameIndex := 55, descriptorIndex := 6, attributes := #[] }, { accessFlags := 2, nameIndex := 43, descriptorIndex := 44, attributes := #[] }, { accessFlags := 10, nameIndex := 43, descriptorIndex := 58, attributes := #[] }, { accessFlags := 2, nameIndex := 47, descriptorIndex := 48, attributes := #[] }, { accessFlags := 2, nameIndex := 51, descriptorIndex := 52, attributes := #[] }] 49 2 #[] #[{ accessFlags := 2, nameIndex := 11, descriptorIndex := 12, attributes := #[] }, { accessFlags := 2, nameIndex := 15, descriptorIndex := 16, attributes := #[] }, { accessFlags := 2, nameIndex := 19, descriptorIndex := 20, attributes := #[] }, { accessFlags := 2, nameIndex := 23, descriptorIndex := 24, attributes := #[] }, { accessFlags := 2, nameIndex := 39, descriptorIndex := 40, attributes := #[] }])
  fields := #[{ name := "times", type := (.array .double), accessFlags := 2, slot := 0, constantValue := 0 }, { name := "order", type := (.array .long), accessFlags := 2, slot := 1, constantValue := 0 }, { name := "handles", type := (.array .int), accessFlags := 2, slot := 2, constantValue := 0 }, { name := "size", type := .int, accessFlags := 2, slot := 3, constantValue := 0 }, { name := "added", type := .long, accessFlags := 2, slot := 4, constantValue := 0 }]
  methods := #[k2m0, k2m1, k2m2, k2m3, k2m4, k2m5, k2m6, k2m7, k2m8]
  instanceTypes := #[(.array .double), (.array .long), (.array .int), .int, .long]
  staticTypes := #[]
  resolved := Array.replicate 79 none
  statics := none }

def pool3 : Array CpInfo := pool [(1, u "java/lang/Cloneable"), (0, .class_ 1), (0, u "java/lang/Object"), (0, .class_ 3)] 3

/-- java/lang/Cloneable -/
def k3 : Class := { plain "java/lang/Cloneable" (some 0) with
  accessFlags := 1537
  interfaces := #[]
  cf := some (fileOf pool3 2 #[] #[] 1537 4 #[] #[])
  fields := #[]
  methods := #[]
  instanceTypes := #[]
  staticTypes := #[]
  resolved := Array.replicate 8 none
  statics := none }

def pool4 : Array CpInfo := pool [(1, u "java/io/Serializable"), (0, .class_ 1), (0, u "java/lang/Object"), (0, .class_ 3)] 3

/-- java/io/Serializable -/
def k4 : Class := { plain "java/io/Serializable" (some 0) with
  accessFlags := 1537
  interfaces := #[]
  cf := some (fileOf pool4 2 #[] #[] 1537 4 #[] #[])
  fields := #[]
  methods := #[]
  instanceTypes := #[]
  staticTypes := #[]
  resolved := Array.replicate 8 none
  statics := none }

/-- the primitive byte -/
def k5 : Class := { plain "byte" none with kind := .primitive 'B', accessFlags := 0x411 }
/-- [B -/
def k6 : Class := { plain "[B" (some 0) with kind := .array 5 .byte, interfaces := #[3, 4], accessFlags := 1041 }

/-- the primitive int -/
def k7 : Class := { plain "int" none with kind := .primitive 'I', accessFlags := 0x411 }
/-- [I -/
def k8 : Class := { plain "[I" (some 0) with kind := .array 7 .int, interfaces := #[3, 4], accessFlags := 1041 }

/-- the primitive long -/
def k9 : Class := { plain "long" none with kind := .primitive 'J', accessFlags := 0x411 }
/-- [J -/
def k10 : Class := { plain "[J" (some 0) with kind := .array 9 .long, interfaces := #[3, 4], accessFlags := 1041 }
/-- the primitive double -/
def k11 : Class := { plain "double" none with kind := .primitive 'D', accessFlags := 0x411 }
/-- [D -/
def k12 : Class := { plain "[D" (some 0) with kind := .array 11 .double, interfaces := #[3, 4], accessFlags := 1041 }

def heap : Heap := #[]
def classes : Array Class := #[k0, k1, k2, k3, k4, k5, k6, k7, k8, k9, k10, k11, k12]
def interned : List (Array UInt16 × Addr) := []
def slotsUsed : Nat := 0
def theMethod : MethodId := ⟨1, 2⟩
def args0 : Array Value := #[.int 2, .int 1, .int 5]
def aboutOver (below : List Frame) : State where
  vm := { classes := classes, interned := interned.toArray }
  heap := heap
  slotsUsed := slotsUsed
  threads := #[{ frames := .invoking theMethod args0 :: below }]
def below0 : List Frame := [.native { method := ⟨0, 0⟩, args := #[] }]
def about1 : State := aboutOver below0
def p0 : Program := .bare "" "" ""
def e0 : Env := launch0.env 0 0 0
theorem w_frames : about1.frames = Frame.invoking theMethod args0 :: below0 := rfl
set_option maxRecDepth 65536 in
theorem w_args : argsFit about1.vm theMethod args0 = true := by decide +kernel
set_option maxRecDepth 65536 in
theorem w_heap : heapFits about1 = true := by decide +kernel
set_option maxRecDepth 65536 in
theorem w_runnable : about1.curStatus? = some .runnable := by decide +kernel
set_option maxRecDepth 65536 in
theorem w_alone : about1.alone = true := by decide +kernel
set_option maxRecDepth 65536 in
theorem w_named : about1.methodNamed? x = some theMethod := by decide +kernel
set_option maxRecDepth 65536 in
theorem w_hears : about1.hears theMethod below0 = true := by decide +kernel
set_option maxRecDepth 65536 in
theorem w_ripe : about1.ripe theMethod args0 below0 = true := by decide +kernel
theorem w_running : about1.status = .running := rfl
set_option maxRecDepth 65536 in
theorem w_room : about1.hasRoom e0.platform room_1 = true :=
  launch0.hasRoom_least _ room_1 (by decide +kernel) (by decide +kernel) (by decide +kernel) (by decide +kernel) (by decide +kernel) (by decide +kernel)
theorem allAtoms_all (ts : List Jvm.Cond) (a : Array Jvm.Value) (st : Jvm.State) : (allAtoms ts).before a st = ts.all (fun c => c.before a st) := by
  induction ts with
  | nil => rfl
  | cons c t ih =>
    show (Jvm.Cond.and c (allAtoms t)).before a st = _
    rw [Jvm.Cond.before_and, ih, List.all_cons]
def words1 : List Jvm.Cond := Jvm.Cond.code x code maxLocals ret :: tables_1
/-- a 'code' word, met by the world's own term for the bytes: nothing is compared byte by byte -/
theorem code_word {y : MethodName} {bytes : ByteArray} {mx : Nat} {rt : Option FieldType} {a : Array Value} {s : State} {m : MethodId} {meth : Method} {c : Code} (h1 : s.methodNamed? y = some m) (h2 : s.vm.method? m = some meth) (h3 : meth.code = some c) (h4 : c.code = bytes)
    (h5 : (c.maxLocals == mx && c.exceptionTable.isEmpty && decide (c.maxStack ≤ mostOperands) && decide (meth.sig.returnType = rt) && !meth.locks && decide (parseMethodDescriptor y.desc = some meth.sig)) = true) : (Jvm.Cond.code y bytes mx rt).before a s = true := by
  simp only [Bool.and_eq_true, beq_iff_eq, Bool.not_eq_true', decide_eq_true_eq] at h5
  obtain ⟨⟨⟨⟨⟨g1, g2⟩, g3⟩, g4⟩, g5⟩, g6⟩ := h5
  simp [Cond.before, Cond.holds, Cond.value, h1, h2, h3, h4, g1, g2, g3, g4, g5, g6]
def isCode : Jvm.Cond → Bool
  | .code _ _ _ _ => true
  | _ => false
theorem all_split {L : List Jvm.Cond} {P : Jvm.Cond → Bool} (h1 : L.all (fun c => isCode c || P c) = true) (h2 : ∀ c ∈ L.filter isCode, P c = true) : L.all P = true := by
  refine List.all_eq_true.mpr fun c hc => ?_
  have h := List.all_eq_true.mp h1 c hc
  rcases Bool.eq_false_or_eq_true (isCode c) with hi | hi
  · exact h2 c (List.mem_filter.mpr ⟨hc, hi⟩)
  · simpa [hi] using h
set_option maxRecDepth 65536 in
theorem w_c0 : (Jvm.Cond.code x code maxLocals ret).before args0 about1 = true := code_word (m := ⟨1, 2⟩) (meth := k1m2) (c := k1c2) (by decide +kernel) rfl rfl rfl (by decide +kernel)
set_option maxRecDepth 65536 in
theorem w_c1 : (Jvm.Cond.code ({ cls := "com/example/fragmint/fragmint/engine/DepartureQueue", name := "<init>", desc := "()V" } : Jvm.MethodName) prog_11_method_1_code (1 : Nat) (Option.none : Option Jvm.ClassFile.FieldType)).before args0 about1 = true := code_word (m := ⟨2, 0⟩) (meth := k2m0) (c := k2c0) (by decide +kernel) rfl rfl rfl (by decide +kernel)
set_option maxRecDepth 65536 in
theorem w_c2 : (Jvm.Cond.code ({ cls := "java/lang/Object", name := "<init>", desc := "()V" } : Jvm.MethodName) object_method_1_code (1 : Nat) (Option.none : Option Jvm.ClassFile.FieldType)).before args0 about1 = true := code_word (m := ⟨0, 0⟩) (meth := k0m0) (c := k0c0) (by decide +kernel) rfl rfl rfl (by decide +kernel)
set_option maxRecDepth 65536 in
theorem w_c3 : (Jvm.Cond.code ({ cls := "com/example/fragmint/fragmint/engine/DepartureQueue", name := "isEmpty", desc := "()Z" } : Jvm.MethodName) prog_11_method_2_code (1 : Nat) (Option.some Jvm.ClassFile.FieldType.boolean)).before args0 about1 = true := code_word (m := ⟨2, 1⟩) (meth := k2m1) (c := k2c1) (by decide +kernel) rfl rfl rfl (by decide +kernel)
set_option maxRecDepth 65536 in
theorem w_c4 : (Jvm.Cond.code ({ cls := "com/example/fragmint/fragmint/engine/DepartureQueueIsEmptyPinLaw", name := "step", desc := "(Lcom/example/fragmint/fragmint/engine/DepartureQueue;IIII)I" } : Jvm.MethodName) method_2_code (5 : Nat) (Option.some Jvm.ClassFile.FieldType.int)).before args0 about1 = true := code_word (m := ⟨1, 1⟩) (meth := k1m1) (c := k1c1) (by decide +kernel) rfl rfl rfl (by decide +kernel)
set_option maxRecDepth 65536 in
theorem w_c5 : (Jvm.Cond.code ({ cls := "com/example/fragmint/fragmint/engine/DepartureQueue", name := "add", desc := "(DI)V" } : Jvm.MethodName) prog_11_method_3_code (8 : Nat) (Option.none : Option Jvm.ClassFile.FieldType)).before args0 about1 = true := code_word (m := ⟨2, 2⟩) (meth := k2m2) (c := k2c2) (by decide +kernel) rfl rfl rfl (by decide +kernel)
set_option maxRecDepth 65536 in
theorem w_c6 : (Jvm.Cond.code ({ cls := "com/example/fragmint/fragmint/engine/DepartureQueue", name := "put", desc := "(IDJI)V" } : Jvm.MethodName) prog_11_method_10_code (7 : Nat) (Option.none : Option Jvm.ClassFile.FieldType)).before args0 about1 = true := code_word (m := ⟨2, 8⟩) (meth := k2m8) (c := k2c8) (by decide +kernel) rfl rfl rfl (by decide +kernel)
set_option maxRecDepth 65536 in
theorem w_c7 : (Jvm.Cond.code ({ cls := "com/example/fragmint/fragmint/engine/DepartureQueue", name := "removeNext", desc := "()I" } : Jvm.MethodName) prog_11_method_5_code (9 : Nat) (Option.some Jvm.ClassFile.FieldType.int)).before args0 about1 = true := code_word (m := ⟨2, 3⟩) (meth := k2m3) (c := k2c3) (by decide +kernel) rfl rfl rfl (by decide +kernel)
set_option maxRecDepth 65536 in
theorem w_c8 : (Jvm.Cond.code ({ cls := "com/example/fragmint/fragmint/engine/DepartureQueue", name := "checkNotEmpty", desc := "()V" } : Jvm.MethodName) prog_11_method_6_code (1 : Nat) (Option.none : Option Jvm.ClassFile.FieldType)).before args0 about1 = true := code_word (m := ⟨2, 4⟩) (meth := k2m4) (c := k2c4) (by decide +kernel) rfl rfl rfl (by decide +kernel)
set_option maxRecDepth 65536 in
theorem w_c9 : (Jvm.Cond.code ({ cls := "com/example/fragmint/fragmint/engine/DepartureQueue", name := "before", desc := "(DJI)Z" } : Jvm.MethodName) prog_11_method_7_code (6 : Nat) (Option.some Jvm.ClassFile.FieldType.boolean)).before args0 about1 = true := code_word (m := ⟨2, 5⟩) (meth := k2m5) (c := k2c5) (by decide +kernel) rfl rfl rfl (by decide +kernel)
set_option maxRecDepth 65536 in
theorem w_c10 : (Jvm.Cond.code ({ cls := "com/example/fragmint/fragmint/engine/DepartureQueue", name := "before", desc := "(DJDJ)Z" } : Jvm.MethodName) prog_11_method_8_code (8 : Nat) (Option.some Jvm.ClassFile.FieldType.boolean)).before args0 about1 = true := code_word (m := ⟨2, 6⟩) (meth := k2m6) (c := k2c6) (by decide +kernel) rfl rfl rfl (by decide +kernel)
set_option maxRecDepth 65536 in
theorem w_c11 : (Jvm.Cond.code ({ cls := "com/example/fragmint/fragmint/engine/DepartureQueue", name := "move", desc := "(II)V" } : Jvm.MethodName) prog_11_method_9_code (3 : Nat) (Option.none : Option Jvm.ClassFile.FieldType)).before args0 about1 = true := code_word (m := ⟨2, 7⟩) (meth := k2m7) (c := k2c7) (by decide +kernel) rfl rfl rfl (by decide +kernel)
def codes1 : List Jvm.Cond := [Jvm.Cond.code x code maxLocals ret, Jvm.Cond.code ({ cls := "com/example/fragmint/fragmint/engine/DepartureQueue", name := "<init>", desc := "()V" } : Jvm.MethodName) prog_11_method_1_code (1 : Nat) (Option.none : Option Jvm.ClassFile.FieldType), Jvm.Cond.code ({ cls := "java/lang/Object", name := "<init>", desc := "()V" } : Jvm.MethodName) object_method_1_code (1 : Nat) (Option.none : Option Jvm.ClassFile.FieldType), Jvm.Cond.code ({ cls := "com/example/fragmint/fragmint/engine/DepartureQueue", name := "isEmpty", desc := "()Z" } : Jvm.MethodName) prog_11_method_2_code (1 : Nat) (Option.some Jvm.ClassFile.FieldType.boolean), Jvm.Cond.code ({ cls := "com/example/fragmint/fragmint/engine/DepartureQueueIsEmptyPinLaw", name := "step", desc := "(Lcom/example/fragmint/fragmint/engine/DepartureQueue;IIII)I" } : Jvm.MethodName) method_2_code (5 : Nat) (Option.some Jvm.ClassFile.FieldType.int), Jvm.Cond.code ({ cls := "com/example/fragmint/fragmint/engine/DepartureQueue", name := "add", desc := "(DI)V" } : Jvm.MethodName) prog_11_method_3_code (8 : Nat) (Option.none : Option Jvm.ClassFile.FieldType), Jvm.Cond.code ({ cls := "com/example/fragmint/fragmint/engine/DepartureQueue", name := "put", desc := "(IDJI)V" } : Jvm.MethodName) prog_11_method_10_code (7 : Nat) (Option.none : Option Jvm.ClassFile.FieldType), Jvm.Cond.code ({ cls := "com/example/fragmint/fragmint/engine/DepartureQueue", name := "removeNext", desc := "()I" } : Jvm.MethodName) prog_11_method_5_code (9 : Nat) (Option.some Jvm.ClassFile.FieldType.int), Jvm.Cond.code ({ cls := "com/example/fragmint/fragmint/engine/DepartureQueue", name := "checkNotEmpty", desc := "()V" } : Jvm.MethodName) prog_11_method_6_code (1 : Nat) (Option.none : Option Jvm.ClassFile.FieldType), Jvm.Cond.code ({ cls := "com/example/fragmint/fragmint/engine/DepartureQueue", name := "before", desc := "(DJI)Z" } : Jvm.MethodName) prog_11_method_7_code (6 : Nat) (Option.some Jvm.ClassFile.FieldType.boolean), Jvm.Cond.code ({ cls := "com/example/fragmint/fragmint/engine/DepartureQueue", name := "before", desc := "(DJDJ)Z" } : Jvm.MethodName) prog_11_method_8_code (8 : Nat) (Option.some Jvm.ClassFile.FieldType.boolean), Jvm.Cond.code ({ cls := "com/example/fragmint/fragmint/engine/DepartureQueue", name := "move", desc := "(II)V" } : Jvm.MethodName) prog_11_method_9_code (3 : Nat) (Option.none : Option Jvm.ClassFile.FieldType)]
set_option maxRecDepth 65536 in
theorem codes_eq : words1.filter isCode = codes1 := rfl
theorem w_codes : ∀ c ∈ words1.filter isCode, c.before args0 about1 = true := by
  rw [codes_eq]
  intro c hc
  simp only [codes1, List.mem_cons, List.not_mem_nil, or_false] at hc
  rcases hc with rfl | rfl | rfl | rfl | rfl | rfl | rfl | rfl | rfl | rfl | rfl | rfl
  · exact w_c0
  · exact w_c1
  · exact w_c2
  · exact w_c3
  · exact w_c4
  · exact w_c5
  · exact w_c6
  · exact w_c7
  · exact w_c8
  · exact w_c9
  · exact w_c10
  · exact w_c11
set_option maxRecDepth 65536 in
theorem w_t1 : (words1.take 24).all (fun c => isCode c || c.before args0 about1) = true := by decide +kernel
set_option maxRecDepth 65536 in
theorem w_t2 : ((words1.drop 24).take 24).all (fun c => isCode c || c.before args0 about1) = true := by decide +kernel
set_option maxRecDepth 65536 in
theorem w_t3 : ((words1.drop 24).drop 24).all (fun c => isCode c || c.before args0 about1) = true := by decide +kernel
theorem w_tables : (allAtoms (Jvm.Cond.code x code maxLocals ret :: tables_1)).before args0 about1 = true := by
  rw [allAtoms_all]
  show words1.all (fun c => c.before args0 about1) = true
  refine all_split ?_ w_codes
  rw [← List.take_append_drop 24 words1, List.all_append, w_t1, ← List.take_append_drop 24 (words1.drop 24), List.all_append, w_t2, w_t3]
  rfl
set_option maxRecDepth 65536 in
theorem w_case : (Jvm.Cond.and given_1 narrow_1).before args0 about1 = true := by decide +kernel
theorem w_applies : (headSpec (Jvm.Cond.code x code maxLocals ret :: tables_1) room_1).applies x e0.platform about1 = true :=
  (Spec.applies_iff w_frames).mpr ⟨w_running, w_runnable, w_alone, w_named, w_hears, w_ripe, w_room, w_tables⟩
theorem atStart : AtStart classFile x code maxLocals ret World_1 tables_1 room_1 Calls_1 rest_1 Pre_1 launch0 p0 e0 about1 theMethod args0 below0 :=
  ⟨lists_1, trivial, launch0.admits_env _ _ _, launch0.least_env, fairChoices_fair.cas, fairChoices_fair.clock, w_frames, w_args, w_heap, w_applies, trivial, trivial, w_case⟩
end start1
theorem witness_1 : WitnessClaimed_1 := ⟨start1.p0, start1.e0, start1.about1, start1.theMethod, start1.args0, start1.below0, start1.atStart⟩
end Jvm.Pilot.@@N@@
