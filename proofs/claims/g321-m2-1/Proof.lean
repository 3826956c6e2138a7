import JvmDerived
import JvmDerived.Pilot.@@N@@Statement
import JvmDerived.Pilot.@@N@@Code
set_option linter.unusedVariables false
set_option linter.unusedSimpArgs false
@@BLOCK:NumsL.lean.txt@@
namespace Jvm.RoadKit
open Sem ClassFile Op Lib Jvm.Stand Jvm.Free Jvm.LawKit
section New
variable {p : Program} {l : Launch} {e : Env} {R : Room} {s : State} {m : MethodId} {args : Array Value} {below : List Frame} {meth : Method} {c : Code} {T : State} {locs : List Loc} {cells slots : Nat}
theorem retI (X : Stand p l e R s m args below meth c T locs cells slots) (hx : p.tables.exec = Jvm.exec) {pc : Nat} {Ls : Array Slot} {z : Int32} {rest : List Value} (hret : meth.sig.returnType = some .int) (hd : decode c.code pc = .ok (.ireturn, 1)) {fs : List Frame}
    (hl : ∀ (f : JFrame) (acts : List Action), f.method = m → f.locked = none → f.entered = [] → (doReturn e (T.setTop f) acts (some (.int z))).1 = T.setFrames fs) : Steps p.tables e below (T.setTop (mkF m pc Ls (.int z :: rest))) (T.setFrames fs) :=
  retOut X hx hret rfl (Or.inl ⟨rfl, Or.inl rfl, z, rfl⟩) hd hl
theorem retJ (X : Stand p l e R s m args below meth c T locs cells slots) (hx : p.tables.exec = Jvm.exec) {pc : Nat} {Ls : Array Slot} {z : Int64} {rest : List Value} (hret : meth.sig.returnType = some .long) (hd : decode c.code pc = .ok (.lreturn, 1)) {fs : List Frame}
    (hl : ∀ (f : JFrame) (acts : List Action), f.method = m → f.locked = none → f.entered = [] → (doReturn e (T.setTop f) acts (some (.long z))).1 = T.setFrames fs) : Steps p.tables e below (T.setTop (mkF m pc Ls (.long z :: rest))) (T.setFrames fs) :=
  retOut X hx hret rfl (Or.inr (Or.inl ⟨rfl, rfl, z, rfl⟩)) hd hl
theorem retA (X : Stand p l e R s m args below meth c T locs cells slots) (hx : p.tables.exec = Jvm.exec) {pc : Nat} {Ls : Array Slot} {w : Value} {t : FieldType} {rest : List Value} (hret : meth.sig.returnType = some t) (ht : t.isReference = true) (hw : w.isRef = true) (hn : narrow t w = w) (hd : decode c.code pc = .ok (.areturn, 1)) {fs : List Frame}
    (hl : ∀ (f : JFrame) (acts : List Action), f.method = m → f.locked = none → f.entered = [] → (doReturn e (T.setTop f) acts (some w)).1 = T.setFrames fs) : Steps p.tables e below (T.setTop (mkF m pc Ls (w :: rest))) (T.setFrames fs) :=
  retOut X hx hret hn (Or.inr (Or.inr (Or.inr (Or.inr ⟨rfl, ht, hw⟩)))) hd hl
end New
end Jvm.RoadKit
namespace Jvm.Pilot.@@N@@
open Jvm Jvm.ClassFile Sem Op Lib Jvm.Free Jvm.Stand Jvm.LawKit Jvm.RoadKit Bundle Jvm.Pilot.@@N@@.Jvm.D
/-- the run from t ends by returning, as Q and the frame say -/
def OEnds (p : Program) (e : Env) (below : List Frame) (s : State) (Q : Option Value → Heap → List Loc → Prop) (C S : Nat) (t : State) : Prop :=
  ∃ s₂ o, Steps p.tables e below t s₂ ∧ s₂.status = .running ∧ Ended s₂ below o ∧ ∃ v L, o = .returned v ∧ Q v s₂.heap L ∧ FrameEnd s o s₂ L C S
theorem OEnds.go {p : Program} {e : Env} {below : List Frame} {s : State} {Q : Option Value → Heap → List Loc → Prop} {C S : Nat} {t t' : State} (h : ∀ u, Steps p.tables e below t' u → Steps p.tables e below t u) (k : OEnds p e below s Q C S t') : OEnds p e below s Q C S t := by
  obtain ⟨s₂, o, h1, h2⟩ := k
  exact ⟨s₂, o, h _ h1, h2⟩
theorem OEnds.cut {p : Program} {e : Env} {below : List Frame} {s : State} {Q : Option Value → Heap → List Loc → Prop} {C S : Nat} {t : State} (P : (State → Prop) → Prop) (k2 : P (OEnds p e below s Q C S)) (k1 : P (OEnds p e below s Q C S) → OEnds p e below s Q C S t) : OEnds p e below s Q C S t := k1 k2
theorem OEnds.back {p : Program} {l : Launch} {e : Env} {R : Room} {s : State} {m : MethodId} {args : Array Value} {below : List Frame} {meth : Method} {c : Code} {T : State} {locs : List Loc} {cells slots : Nat} (X : Stand p l e R s m args below meth c T locs cells slots) (hlk : meth.locks = false) {v : Option Value} (hv : meth.sig.returnType = none → v = none) {t : State} {Q : Option Value → Heap → List Loc → Prop} {C S : Nat}
    (st : ∀ fs, (∀ (f : JFrame) (acts : List Action), f.method = m → f.locked = none → f.entered = [] → (doReturn e (T.setTop f) acts v).1 = T.setFrames fs) → Steps p.tables e below t (T.setFrames fs)) (q : Q v T.heap locs) (hc : cells ≤ C) (hs : slots ≤ S) : OEnds p e below s Q C S t := by
  obtain ⟨fs, hr, hrun, hended, hW, hsame⟩ := X.leave hv hlk
  exact ⟨_, _, st fs hr, hrun, hended, _, _, rfl, q, ⟨_, rfl⟩, hW, hsame.mono hc hs⟩
/-- the same for a body that resolves a String constant: the wide frame -/
def OEndsW (p : Program) (e : Env) (below : List Frame) (s : State) (Q : Option Value → Heap → Vm → List Loc → Prop) (C S : Nat) (t : State) : Prop :=
  ∃ s₂ o, Steps p.tables e below t s₂ ∧ s₂.status = .running ∧ Ended s₂ below o ∧ ∃ v L, o = .returned v ∧ Q v s₂.heap s₂.vm L ∧ ReturnedEndW s o s₂ L C S
theorem OEndsW.go {p : Program} {e : Env} {below : List Frame} {s : State} {Q : Option Value → Heap → Vm → List Loc → Prop} {C S : Nat} {t t' : State} (h : ∀ u, Steps p.tables e below t' u → Steps p.tables e below t u) (k : OEndsW p e below s Q C S t') : OEndsW p e below s Q C S t := by
  obtain ⟨s₂, o, h1, h2⟩ := k
  exact ⟨s₂, o, h _ h1, h2⟩
theorem OEndsW.cut {p : Program} {e : Env} {below : List Frame} {s : State} {Q : Option Value → Heap → Vm → List Loc → Prop} {C S : Nat} {t : State} (P : (State → Prop) → Prop) (k2 : P (OEndsW p e below s Q C S)) (k1 : P (OEndsW p e below s Q C S) → OEndsW p e below s Q C S t) : OEndsW p e below s Q C S t := k1 k2
theorem OEndsW.back {p : Program} {l : Launch} {e : Env} {R : Room} {s : State} {vm₁ : Vm} {m : MethodId} {args : Array Value} {below : List Frame} {meth : Method} {c : Code} {T : State} {locs : List Loc} {cells slots : Nat} (X : Stand p l e R (s.setVm vm₁) m args below meth c T locs cells slots) {n : Nat} (hS : s.Since vm₁ n) (hn : n ≤ T.heap.size) (hlk : meth.locks = false) {v : Option Value} (hv : meth.sig.returnType = none → v = none) {t : State} {Q : Option Value → Heap → Vm → List Loc → Prop} {C S : Nat}
    (st : ∀ fs, (∀ (f : JFrame) (acts : List Action), f.method = m → f.locked = none → f.entered = [] → (doReturn e (T.setTop f) acts v).1 = T.setFrames fs) → Steps p.tables e below t (T.setFrames fs)) (q : Q v T.heap T.vm locs) (hc : cells ≤ C) (hs : slots ≤ S) : OEndsW p e below s Q C S t := by
  obtain ⟨fs, hr, hrun, hended, h1, h2, h3, h4⟩ := X.leaveW hS hn hv hlk
  exact ⟨_, _, st fs hr, hrun, hended, _, _, rfl, q, h1, h2, h3, h4.mono hc hs⟩
/-- who pays a call of a body that may resolve a String constant, by its contract; Pv: what it asks of the tables -/
theorem own_backI {p : Program} {l : Launch} {e : Env} {R : Room} {s Z : State} {args : Array Value} {below : List Frame} {a0 : Array Value} {h : Heap} {y : MethodName} {bytes : ByteArray} {maxL : Nat} {ret : Option FieldType} {rm : Room} {len W : Nat} {as' : Array Value} {Pv : Vm → Prop} {Q : Option Value → Heap → Vm → List Loc → Prop}
    (hM : MetFree l y (head1 [Jvm.Cond.code y bytes maxL ret] rm) (fun a U => a = as' ∧ Z.Warmed39 U.vm ∧ U.heap = h ∧ Pv U.vm) (fun _ _ _ _ _ => True) (fun _ U o U' => ∃ v L, o = .returned v ∧ Q v U'.heap U'.vm L ∧ ReturnedEndW U o U' L rm.cells rm.slots))
    (hZ : Z.Warmed39 s.vm) (hPv : ∀ vm, s.WarmedH vm → Pv vm) (wc : (Jvm.Cond.code y bytes maxL ret).before a0 Z = true) (wz : (Jvm.Cond.initialized y.cls).before a0 Z = true) (hf : rm.frames + 1 ≤ R.frames) (hl : W + (maxL + 11) + rm.locals ≤ R.locals) :
    BackS l R p e below s args y len W (fun A a => a = as' ∧ A.U.heap = h ∧ A.cells + rm.cells ≤ R.cells ∧ A.slots + rm.slots ≤ R.slots)
      (fun A _ v B => ∃ L, Q v B.U.heap B.U.vm L ∧ B.locs = A.locs ++ L ∧ B.cells = A.cells + rm.cells ∧ B.slots = A.slots + rm.slots) := by
  refine BackS.of_freeW (bytes := bytes) (maxL := maxL) (ret := ret) (E := fun _ _ o t L k n => (k = rm.cells ∧ n = rm.slots) ∧ ∃ v, o = .returned v ∧ Q v t.heap t.vm L) hM hf hl ?_ ?_ (fun _ _ _ _ _ _ _ _ _ => trivial) ?_ ?_
  · intro m meth c A a Y hp
    have hU : Z.Warmed39 A.U.vm := wtrans hZ Y.warmed
    refine ⟨?_, mv hU wc, mv hU wz, hp.2.2.1, hp.2.2.2⟩
    show (Jvm.Cond.and _ .tt).before a A.U = true
    rw [Cond.before_and, mv hU wc]
    rfl
  · intro m meth c A a g mk Y hp
    exact ⟨hp.1, wtrans hZ Y.warmed, hp.2.1, hPv _ Y.warmed⟩
  · rintro a first o t ⟨v, L, h1, h2, h3⟩
    exact ⟨L, _, _, h3, ⟨rfl, rfl⟩, v, h1, h2⟩
  · rintro m meth c A a g mk v t L k n Y hp hq hr ⟨⟨rfl, rfl⟩, v', h1, h2⟩
    cases h1
    exact ⟨L, h2, rfl, rfl, rfl⟩
theorem own_IBstays {Z s : State} {vm : Vm} {Ts : List String} (I : IB Z s.vm Ts) (hW : s.WarmedH vm) : IB Z vm Ts := by
  obtain ⟨more, e, q⟩ := I
  exact ⟨more, ((hW.since 0).same_table (Nat.zero_le _)).trans e, q⟩

theorem own_lt (x y : Int64) : lcmpW x y < 0 ↔ x < y := by rw [lcW, lc_lt]
theorem own_gt (x y : Int64) : 0 < lcmpW x y ↔ y < x := by rw [lcW, lc_gt]
theorem own_eq (x y : Int64) : lcmpW x y = 0 ↔ x = y := by rw [lcW, lc_eq]
/-- a term that equals a number, as the sheet says it -/
theorem own_eqi {args : Array Value} {s : State} {t : Term} {k : Int32} (h : (Jvm.Cond.eq t (Term.int k)).value args s none s [] = some true) : t.eval args s none [] s = some (.int k) := by
  obtain ⟨x, y, hx, hy, h1, h2⟩ := cmp_v (Or.inl h)
  have hy' : y = .int k := Option.some.inj (hy.symm.trans (Term.int_eval k))
  subst hy'
  obtain ⟨z, rfl⟩ : ∃ z, x = .int z := h2
  simp [Cond.value, hx, hy] at h
  rw [hx, h]
theorem own_fldi {args : Array Value} {s : State} {t : Term} {C n d : String} {a : Addr} {k : Int32} (ht : t.eval args s none [] s = some (.ref a)) (h : (Jvm.Cond.eq (Term.field t C n d) (Term.int k)).value args s none s [] = some true) : s.fieldOf? a C n d = some (.int k) := by
  rw [← fld_at ht]; exact own_eqi h
theorem own_ne {s : State} {C n d : String} {a b : Addr} {j k : Int32} (h1 : s.fieldOf? a C n d = some (.int j)) (h2 : s.fieldOf? b C n d = some (.int k)) (hk : j ≠ k) : a ≠ b := by
  intro e; subst e
  exact hk (Value.int.inj (Option.some.inj (h1.symm.trans h2)))

theorem own_mod (x m : Int32) (hm : 0 < m.toInt) : 0 ≤ ((x &&& 2147483647) % m).toInt ∧ ((x &&& 2147483647) % m).toInt < m.toInt := by
  have h : 0 ≤ (x &&& 2147483647).toInt := by
    rw [Jvm.Kit.i32_mask x 2147483647 (k := 31) (by decide) (by decide)]; omega
  rw [Jvm.Kit.i32_rem_nonneg h]
  exact ⟨Int.emod_nonneg _ (by omega), Int.emod_lt_of_pos _ hm⟩
theorem own_range {r : Int32} {n : Nat} (h0 : 0 ≤ r.toInt) (h1 : r.toInt < n) (hn : n ≤ 2 ^ 31) : ∃ k : Nat, k < n ∧ r = Int32.ofNat k := by
  refine ⟨r.toInt.toNat, by omega, ?_⟩
  rw [← Int32.toInt_inj, Int32.toInt_ofNat_small (by omega)]; omega


section OwnS
variable {Z : State} {h h' : Heap} {a b : Addr} {k : ClassId} {xs ys : List Int32} {ws : List Addr}
def own_eqL (xs ys : List Int32) : Int32 := if xs = ys then 1 else 0
/-- the bytes at b -/
def own_By (Z : State) (h : Heap) (b : Addr) (k : ClassId) (xs : List Int32) : Prop := Arv Z h b k .byte (Int32.ofNat xs.length) (xs.map Value.int) (.int 0) ∧ xs.length < 2 ^ 31
/-- a String of Latin-1 bytes -/
def own_S (Z : State) (h : Heap) (a : Addr) (b : Addr) (k : ClassId) (xs : List Int32) : Prop := Exa Z h a "java/lang/String" ∧ Fld Z h a "java/lang/String" "coder" "B" (.int 0) ∧ Fld Z h a "java/lang/String" "value" "[B" (.ref b) ∧ own_By Z h b k xs
theorem own_By.ext (F : own_By Z h b k xs) (E : Ext h h') : own_By Z h' b k xs := ⟨F.1.ext E, F.2⟩
theorem own_By.keep (F : own_By Z h b k xs) (K : Keep h h' ws) (q : b ∉ ws) : own_By Z h' b k xs := ⟨F.1.keep K q, F.2⟩
theorem own_By.other {sl : Nat} {w : Value} (F : own_By Z h b k xs) (W : Wr h h' a sl w) (q : b ≠ a) : own_By Z h' b k xs := ⟨F.1.other W q, F.2⟩
theorem own_By.lt (F : own_By Z h b k xs) : b < h.size := F.1.lt
theorem own_S.ext (F : own_S Z h a b k xs) (E : Ext h h') : own_S Z h' a b k xs := ⟨F.1.ext E, F.2.1.ext E, F.2.2.1.ext E, F.2.2.2.ext E⟩
theorem own_S.keep (F : own_S Z h a b k xs) (K : Keep h h' ws) (q : a ∉ ws) (r : b ∉ ws) : own_S Z h' a b k xs := ⟨F.1.keep K, F.2.1.keep K q, F.2.2.1.keep K q, F.2.2.2.keep K r⟩
theorem own_S.other {c : Addr} {sl : Nat} {w : Value} (F : own_S Z h a b k xs) (W : Wr h h' c sl w) (q : a ≠ c) (r : b ≠ c) : own_S Z h' a b k xs := ⟨F.1.wr W, F.2.1.other W (Or.inl q), F.2.2.1.other W (Or.inl q), F.2.2.2.other W r⟩
theorem own_S.lt (F : own_S Z h a b k xs) : a < h.size := F.1.lt
theorem own_ofNat_inj {i j : Nat} (hi : i < 2 ^ 31) (hj : j < 2 ^ 31) (e : Int32.ofNat i = Int32.ofNat j) : i = j := by
  have q := congrArg Int32.toInt e
  rw [Int32.toInt_ofNat_small hi, Int32.toInt_ofNat_small hj] at q
  omega
theorem own_ofNat_lt {i j : Nat} (hi : i < 2 ^ 31) (hj : j < 2 ^ 31) : Int32.ofNat i < Int32.ofNat j ↔ i < j := by
  rw [Int32.lt_iff_toInt_lt, Int32.toInt_ofNat_small hi, Int32.toInt_ofNat_small hj]; omega
theorem own_ofNat_clamp {i : Nat} (hi : i < 2 ^ 31) : (Int32.ofNat i).toNatClampNeg = i := by
  show (Int32.ofNat i).toInt.toNat = i
  rw [Int32.toInt_ofNat_small hi]; omega
theorem own_succ (i : Nat) : Int32.ofNat i + (1 : Int32) = Int32.ofNat (i + 1) := (Int32.ofNat_succ i).symm ▸ rfl
theorem own_getD_map (xs : List Int32) (i : Nat) : (xs.map Value.int).getD i (.int 0) = .int (xs.getD i 0) := by
  rw [List.getD_eq_getElem?_getD, List.getD_eq_getElem?_getD, List.getElem?_map]
  cases xs[i]? <;> rfl
theorem own_byte (F : own_By Z h b k xs) {i : Nat} (hi : i < xs.length) : ∃ c : Cell, Arr Z h b c .byte ∧ ¬ (Int32.ofNat i < 0 ∨ c.slots.size ≤ (Int32.ofNat i).toNatClampNeg) ∧ c.slots[(Int32.ofNat i).toNatClampNeg]? = some (.int (xs.getD i 0)) := by
  obtain ⟨⟨c, A, q, S, N, H, G⟩, hl⟩ := F
  have h0 : ¬ Int32.ofNat i < 0 := by
    rw [Int32.lt_iff_toInt_lt, Int32.toInt_ofNat_small (by omega)]
    have e : (0 : Int32).toInt = 0 := rfl
    omega
  have hin : ¬ (Int32.ofNat i < 0 ∨ c.slots.size ≤ (Int32.ofNat i).toNatClampNeg) := inb_of S ⟨h0, (own_ofNat_lt (by omega) hl).mpr hi⟩
  refine ⟨c, A, hin, H.at hin ?_⟩
  rw [own_ofNat_clamp (by omega)]
  exact own_getD_map xs i
theorem own_blen (F : own_By Z h b k xs) : ∃ c : Cell, Arr Z h b c .byte ∧ c.slots.size.toInt32 = Int32.ofNat xs.length := by
  obtain ⟨⟨c, A, q, S, N, H, G⟩, hl⟩ := F
  exact ⟨c, A, len_of S N⟩
theorem own_list_ext (hl : xs.length = ys.length) (hj : ∀ j, j < xs.length → xs.getD j 0 = ys.getD j 0) : xs = ys := by
  refine List.ext_getElem hl fun j h1 h2 => ?_
  have q := hj j h1
  rw [List.getD_eq_getElem?_getD, List.getD_eq_getElem?_getD, List.getElem?_eq_getElem h1, List.getElem?_eq_getElem h2] at q
  exact q
/-- one array bears one text -/
theorem own_By.same {k' : ClassId} (F : own_By Z h b k xs) (G : own_By Z h b k' ys) : xs = ys := by
  obtain ⟨⟨c, A, q, S, N, H, -⟩, hl⟩ := F
  obtain ⟨⟨c', A', q', S', N', H', -⟩, hl'⟩ := G
  cases A.1.symm.trans A'.1
  rw [own_ofNat_clamp hl] at S
  rw [own_ofNat_clamp hl'] at S'
  refine own_list_ext (S.symm.trans S') fun j hj => ?_
  have e1 := H j (by omega)
  have e2 := H' j (by omega)
  rw [own_getD_map] at e1 e2
  exact Value.int.inj (Option.some.inj (e1.symm.trans e2))
theorem own_S.same {b' : Addr} {k' : ClassId} (F : own_S Z h a b k xs) (G : own_S Z h a b' k' ys) : xs = ys := by
  have hb : b = b' := by
    by_cases e : b = b'
    · exact e
    · exact absurd rfl (Fld.ne F.2.2.1 G.2.2.1 (fun q => e (Value.ref.inj q)))
  subst hb
  exact F.2.2.2.same G.2.2.2
theorem own_eqL1 (h : ¬ own_eqL xs ys = 0) : own_eqL xs ys = 1 := by
  unfold own_eqL at h ⊢
  split
  · rfl
  · rename_i q; exact absurd (if_neg q) h
end OwnS


theorem own_len {args : Array Value} {s : State} {t : Term} {a : Addr} {cl : Cell} {ty : FieldType} {z : Int32} (ht : t.eval args s none [] s = some (.ref a)) (A : Arr s s.heap a cl ty) (h : (Jvm.Cond.eq (Term.length t) (Term.int z)).value args s none s [] = some true) : cl.slots.size < 2 ^ 31 ∧ cl.slots.size.toInt32 = z := by
  have h' := own_eqi h
  have ha : s.arrayAt? a = some cl := A.fin (State.Warmed39.refl s).alike
  by_cases hl : cl.slots.size < 2 ^ 31
  · rw [len_f ht ha hl] at h'
    exact ⟨hl, Value.int.inj (Option.some.inj h')⟩
  · exfalso
    simp [Term.eval, ht, ha, hl] at h'
theorem own_el {args : Array Value} {s : State} {t : Term} {a : Addr} {cl : Cell} {ty : FieldType} {j k : Int32} (ht : t.eval args s none [] s = some (.ref a)) (A : Arr s s.heap a cl ty) (h : (Jvm.Cond.eq (Term.elem t (Term.int j)) (Term.int k)).value args s none s [] = some true) : cl.slots[j.toNatClampNeg]? = some (.int k) := (elem_in (own_eqi h) ht (Term.int_eval j) A.1).2
theorem own_nei {args : Array Value} {s : State} {t : Term} {w : Int32} (ht : t.eval args s none [] s = some (.int w)) (h : (Jvm.Cond.not (Jvm.Cond.eq t (Term.int 0))).value args s none s [] = some true) : ¬ w = 0 := by
  intro e; subst e
  have h' := not_v h
  have : (Jvm.Cond.eq t (Term.int 0)).value args s none s [] = some true := eq_i ht (Term.int_eval 0) rfl
  rw [this] at h'; cases h'


theorem own_mem_of {xs : List Int32} {i : Nat} {c : Int32} (hi : i < xs.length) (e : xs.getD i 0 = c) : c ∈ xs := by
  rw [List.getD_eq_getElem?_getD, List.getElem?_eq_getElem hi] at e
  exact e ▸ List.getElem_mem hi
theorem own_not_mem {xs : List Int32} {c : Int32} (h : ∀ j, j < xs.length → ¬ xs.getD j 0 = c) : ¬ c ∈ xs := by
  intro hm
  obtain ⟨j, hj, e⟩ := List.getElem_of_mem hm
  refine h j hj ?_
  rw [List.getD_eq_getElem?_getD, List.getElem?_eq_getElem hj]
  exact e
theorem own_ofNat_nn {i : Nat} (hi : i < 2 ^ 31) : ¬ Int32.ofNat i < 0 := by
  rw [Int32.lt_iff_toInt_lt, Int32.toInt_ofNat_small hi]
  have e : (0 : Int32).toInt = 0 := rfl
  omega
theorem own_shr0 (x : Int32) : (x >>> ((0 : Int32) &&& 31)) = x := by
  rw [← Int32.toInt_inj, Jvm.Kit.i32_shr x ((0 : Int32) &&& 31) (k := 0) (by decide)]
  omega
def own_max (a b : Int32) : Int32 := if a < b then b else a
def own_min (a b : Int32) : Int32 := if b < a then b else a
theorem own_min_self (a : Int32) : own_min a a = a := by unfold own_min; split <;> rfl


section OwnC
variable {Z : State} {h h' : Heap} {a b : Addr} {k : ClassId} {cs xs : List Int32} {ws : List Addr}
def own_b (c : Int32) : Int32 := c.toInt8.toInt32
/-- the chars at b, each 0 to 255 -/
def own_Ch (Z : State) (h : Heap) (b : Addr) (k : ClassId) (cs : List Int32) : Prop := Arv Z h b k .char (Int32.ofNat cs.length) (cs.map Value.int) (.int 0) ∧ cs.length < 2 ^ 31 ∧ ∀ c ∈ cs, 0 ≤ c.toInt ∧ c.toInt ≤ 255
theorem own_Ch.ext (F : own_Ch Z h b k cs) (E : Ext h h') : own_Ch Z h' b k cs := ⟨F.1.ext E, F.2⟩
theorem own_Ch.keep (F : own_Ch Z h b k cs) (K : Keep h h' ws) (q : b ∉ ws) : own_Ch Z h' b k cs := ⟨F.1.keep K q, F.2⟩
theorem own_Ch.other {sl : Nat} {w : Value} (F : own_Ch Z h b k cs) (W : Wr h h' a sl w) (q : b ≠ a) : own_Ch Z h' b k cs := ⟨F.1.other W q, F.2⟩
theorem own_Ch.lt (F : own_Ch Z h b k cs) : b < h.size := F.1.lt
theorem own_clen (F : own_Ch Z h b k cs) : ∃ c : Cell, Arr Z h b c .char ∧ c.slots.size.toInt32 = Int32.ofNat cs.length := by
  obtain ⟨⟨c, A, q, S, N, H, G⟩, hl⟩ := F
  exact ⟨c, A, len_of S N⟩
theorem own_cread (F : own_Ch Z h b k cs) {i : Nat} (hi : i < cs.length) : ∃ c : Cell, Arr Z h b c .char ∧ ¬ (Int32.ofNat i < 0 ∨ c.slots.size ≤ (Int32.ofNat i).toNatClampNeg) ∧ c.slots[(Int32.ofNat i).toNatClampNeg]? = some (.int (cs.getD i 0)) := by
  obtain ⟨⟨c, A, q, S, N, H, G⟩, hl, -⟩ := F
  have hin : ¬ (Int32.ofNat i < 0 ∨ c.slots.size ≤ (Int32.ofNat i).toNatClampNeg) := inb_of S ⟨own_ofNat_nn (by omega), (own_ofNat_lt (by omega) hl).mpr hi⟩
  refine ⟨c, A, hin, H.at hin ?_⟩
  rw [own_ofNat_clamp (by omega)]
  exact own_getD_map cs i
theorem own_cle (F : own_Ch Z h b k cs) {i : Nat} (hi : i < cs.length) : ¬ 255 < cs.getD i 0 := by
  have hm : cs.getD i 0 ∈ cs := own_mem_of hi rfl
  have q := F.2.2 _ hm
  rw [Int32.lt_iff_toInt_lt]
  have e : (255 : Int32).toInt = 255 := rfl
  omega
/-- the bytes when i of them are written -/
def own_fill (cs : List Int32) (i : Nat) : List Int32 := (cs.take i).map own_b ++ List.replicate (cs.length - i) 0
theorem own_fill_len {i : Nat} (hi : i ≤ cs.length) : (own_fill cs i).length = cs.length := by
  simp only [own_fill, List.length_append, List.length_map, List.length_take, List.length_replicate]; omega
theorem own_fill_zero : own_fill cs 0 = List.replicate cs.length 0 := by simp [own_fill]
theorem own_fill_all : own_fill cs cs.length = cs.map own_b := by simp [own_fill]
theorem own_fill_set {i : Nat} (hi : i < cs.length) : (own_fill cs i).set i (own_b (cs.getD i 0)) = own_fill cs (i + 1) := by
  have e1 : cs.length - i = (cs.length - (i + 1)) + 1 := by omega
  have e2 : ((cs.take i).map own_b).length = i := by simp only [List.length_map, List.length_take]; omega
  have e3 : cs.take (i + 1) = cs.take i ++ [cs.getD i 0] := by
    rw [List.take_add_one, List.getElem?_eq_getElem hi, List.getD_eq_getElem?_getD, List.getElem?_eq_getElem hi]; rfl
  unfold own_fill
  rw [e1, List.replicate_succ, e3, List.map_append, List.append_assoc]
  conv => lhs; rw [List.set_append_right _ _ (by omega)]
  rw [e2, Nat.sub_self]
  rfl
/-- the byte array being filled -/
def own_Fi (Z : State) (h : Heap) (b : Addr) (k : ClassId) (cs : List Int32) (i : Nat) : Prop := Arv Z h b k .byte (Int32.ofNat cs.length) ((own_fill cs i).map Value.int) (.int 0) ∧ cs.length < 2 ^ 31
theorem own_Fi.lt {i : Nat} (F : own_Fi Z h b k cs i) : b < h.size := F.1.lt
theorem own_Fi.at {i : Nat} (F : own_Fi Z h b k cs i) (hi : i < cs.length) : ∃ c : Cell, Arr Z h b c .byte ∧ ¬ (Int32.ofNat i < 0 ∨ c.slots.size ≤ (Int32.ofNat i).toNatClampNeg) ∧ True := by
  obtain ⟨⟨c, A, q, S, N, H, G⟩, hl⟩ := F
  exact ⟨c, A, inb_of S ⟨own_ofNat_nn (by omega), (own_ofNat_lt (by omega) hl).mpr hi⟩, trivial⟩
theorem own_bb (x : Int32) : nar .byte (x.toInt8.toInt32) = own_b x := by
  show (x.toInt8.toInt32).toInt8.toInt32 = x.toInt8.toInt32
  rw [Int8.toInt8_toInt32]
theorem own_Fi.put {i : Nat} (F : own_Fi Z h b k cs i) (hi : i < cs.length) (W : Wr h h' b (Int32.ofNat i).toNatClampNeg (.int (nar .byte ((cs.getD i 0).toInt8.toInt32)))) : own_Fi Z h' b k cs (i + 1) := by
  obtain ⟨⟨c, A, q, S, N, H, G⟩, hl⟩ := F
  refine ⟨?_, hl⟩
  have r := Arv.set A q S N H G (fits_nar_byte _) W i (own_ofNat_clamp (by omega)) (by rw [List.length_map, own_fill_len (by omega)]; exact hi)
  rw [show (cs.getD i 0).toInt8.toInt32.toInt8.toInt32 = own_b (cs.getD i 0) from own_bb _, ← List.map_set, own_fill_set hi] at r
  exact r
theorem own_Fi.done (F : own_Fi Z h b k cs cs.length) : own_By Z h b k (cs.map own_b) := by
  obtain ⟨F, hl⟩ := F
  rw [own_fill_all] at F
  exact ⟨by rw [List.length_map]; exact F, by rw [List.length_map]; exact hl⟩
theorem own_Fi.first (F : Arv Z h b k .byte (Int32.ofNat cs.length) [] (.int 0)) (hl : cs.length < 2 ^ 31) : own_Fi Z h b k cs 0 := by
  refine ⟨?_, hl⟩
  rw [own_fill_zero, List.map_replicate]
  exact F.pad (pad_rep [] (.int 0) cs.length)
theorem own_s6 {a b c d e f s6 : Slot} {v : Int32} (h : s6 = .unset ∨ ∃ w : Int32, s6 = .val (.int w)) (ha : ∃ w, a = .val w) (hb : ∃ w, b = .val w) (hc : ∃ w, c = .val w) (hd : ∃ w, d = .val w) (he : ∃ w, e = .val w) (hf : ∃ w : Int32, f = .val (.int w)) : storeLocals #[a, b, c, d, e, f, s6] 6 (.int v) = some #[a, b, c, d, e, f, .val (.int v)] := by
  obtain ⟨_, rfl⟩ := ha; obtain ⟨_, rfl⟩ := hb; obtain ⟨_, rfl⟩ := hc; obtain ⟨_, rfl⟩ := hd; obtain ⟨_, rfl⟩ := he; obtain ⟨_, rfl⟩ := hf
  rcases h with rfl | ⟨w, rfl⟩ <;> rfl
theorem own_cfa (x : Int32) : (((x - x).toUInt32 >>> ((31 : Int32) &&& 31).toUInt32).toInt32).toInt8.toInt32 = 0 := by
  rw [Int32.sub_self]; decide
end OwnC


/-- what is known of the constant "" of java/lang/String: not yet loaded since the start, or loaded and empty -/
def own_Ev (Z : State) (vm : Vm) (h : Heap) : Prop := IB Z vm [] ∨ ∃ (lit lb : Addr) (lk : ClassId), Lit (Z.setVm vm) "java/lang/String" 7 lit ∧ own_S Z h lit lb lk []
theorem own_Ev.keep0 {Z : State} {vm : Vm} {h h' : Heap} (F : own_Ev Z vm h) (K : Keep h h' []) : own_Ev Z vm h' := by
  rcases F with F | ⟨lit, lb, lk, L, S⟩
  · exact Or.inl F
  · exact Or.inr ⟨lit, lb, lk, L, S.keep K nin0 nin0⟩
theorem own_Lit_stays {Z s : State} {vm : Vm} {a : Addr} (L : Lit (Z.setVm s.vm) "java/lang/String" 7 a) (hW : s.Warmed39 vm) : Lit (Z.setVm vm) "java/lang/String" 7 a :=
  State.resolvedAt?_warmed39 (s := s) hW L
theorem own_Ev.stays {Z s : State} {vm : Vm} {h : Heap} (F : own_Ev Z s.vm h) (hW : s.WarmedH vm) : own_Ev Z vm h := by
  rcases F with F | ⟨lit, lb, lk, L, S⟩
  · exact Or.inl (own_IBstays F hW)
  · exact Or.inr ⟨lit, lb, lk, own_Lit_stays L hW.wide, S⟩


def own_us (x k : Int32) : Int32 := (x.toUInt32 >>> (k &&& 31).toUInt32).toInt32
def own_len3 (x : Int32) : Int32 := own_us x 16 &&& 3
def own_ch (x i : Int32) : Int32 := if i = 0 then x &&& 255 else if i = 1 then own_us x 8 &&& 255 else own_us x 24 &&& 255
def own_cs (n x : Int32) : List Int32 := if n = 0 then [] else if n = 1 then [own_ch x 0] else if n = 2 then [own_ch x 0, own_ch x 1] else [own_ch x 0, own_ch x 1, own_ch x 2]
def own_C (x : Int32) : List Int32 := own_cs (own_len3 x) x
def own_same (x y : Int32) : Int32 := own_eqL (own_C x) (own_C y)
def own_and (u v : Int32) : Int32 := if u = 0 then 0 else if v = 0 then 0 else 1
theorem own_cb (x : Int32) : 0 ≤ (x &&& 255).toInt ∧ (x &&& 255).toInt ≤ 255 := by
  rw [Jvm.Kit.i32_mask x 255 (k := 8) (by decide) (by decide)]; omega
theorem own_chb (x i : Int32) : 0 ≤ (own_ch x i).toInt ∧ (own_ch x i).toInt ≤ 255 := by
  unfold own_ch; split
  · exact own_cb _
  · split <;> exact own_cb _
theorem own_narm (x : Int32) : nar .char (x &&& 255) = x &&& 255 := i2c_mask x
theorem own_narc (x i : Int32) : nar .char (own_ch x i) = own_ch x i := by
  unfold own_ch; split
  · exact i2c_mask _
  · split <;> exact i2c_mask _
theorem own_four (x : Int32) : own_len3 x = 0 ∨ own_len3 x = 1 ∨ own_len3 x = 2 ∨ own_len3 x = 3 := by
  have h : (own_len3 x).toInt = (own_us x 16).toInt % 2 ^ 2 := Jvm.Kit.i32_mask (own_us x 16) 3 (k := 2) (by decide) (by decide)
  obtain ⟨j, hj, e⟩ := own_range (r := own_len3 x) (n := 4) (by omega) (by omega) (by decide)
  rw [e]
  match j, hj with
  | 0, _ => exact Or.inl rfl
  | 1, _ => exact Or.inr (Or.inl rfl)
  | 2, _ => exact Or.inr (Or.inr (Or.inl rfl))
  | 3, _ => exact Or.inr (Or.inr (Or.inr rfl))
theorem own_C0 {x : Int32} (h : own_len3 x = 0) : own_C x = [] := by rw [own_C, h]; rfl
theorem own_C1 {x : Int32} (h : own_len3 x = 1) : own_C x = [own_ch x 0] := by rw [own_C, h]; rfl
theorem own_C2 {x : Int32} (h : own_len3 x = 2) : own_C x = [own_ch x 0, own_ch x 1] := by rw [own_C, h]; rfl
theorem own_C3 {x : Int32} (h : own_len3 x = 3) : own_C x = [own_ch x 0, own_ch x 1, own_ch x 2] := by rw [own_C, h]; rfl
theorem own_C_len (x : Int32) : Int32.ofNat (own_C x).length = own_len3 x := by
  rcases own_four x with h | h | h | h
  · rw [own_C0 h, h]; rfl
  · rw [own_C1 h, h]; rfl
  · rw [own_C2 h, h]; rfl
  · rw [own_C3 h, h]; rfl
theorem own_Cb (x : Int32) : ∀ c ∈ own_C x, 0 ≤ c.toInt ∧ c.toInt ≤ 255 := by
  intro c hc
  rcases own_four x with h | h | h | h
  · rw [own_C0 h] at hc; cases hc
  · rw [own_C1 h] at hc; simp only [List.mem_cons, List.not_mem_nil, or_false] at hc; subst hc; exact own_chb _ _
  · rw [own_C2 h] at hc; simp only [List.mem_cons, List.not_mem_nil, or_false] at hc; rcases hc with rfl | rfl <;> exact own_chb _ _
  · rw [own_C3 h] at hc; simp only [List.mem_cons, List.not_mem_nil, or_false] at hc; rcases hc with rfl | rfl | rfl <;> exact own_chb _ _
theorem own_same_len {x y : Int32} (h : ¬ own_len3 x = own_len3 y) : own_same x y = 0 := by
  rw [own_same, own_eqL, if_neg]
  intro q
  exact h (by rw [← own_C_len x, ← own_C_len y, q])
theorem own_same_no {x y : Int32} (h : ¬ own_C x = own_C y) : own_same x y = 0 := by rw [own_same, own_eqL, if_neg h]
theorem own_same_yes {x y : Int32} (h : own_C x = own_C y) : own_same x y = 1 := by rw [own_same, own_eqL, if_pos h]
theorem own_b_dec : ∀ i : Nat, i < 256 → ∀ j : Nat, j < 256 → own_b (Int32.ofNat i) = own_b (Int32.ofNat j) → i = j := by
  intro i hi j hj h
  have e : ∀ k : Nat, k < 256 → (own_b (Int32.ofNat k)).toInt = if k < 128 then (k : Int) else (k : Int) - 256 := by decide +kernel
  have q := congrArg Int32.toInt h
  rw [e i hi, e j hj] at q
  split at q <;> split at q <;> omega
theorem own_b_inj {c d : Int32} (hc : 0 ≤ c.toInt ∧ c.toInt ≤ 255) (hd : 0 ≤ d.toInt ∧ d.toInt ≤ 255) (h : own_b c = own_b d) : c = d := by
  obtain ⟨i, hi, rfl⟩ := own_range (r := c) (n := 256) hc.1 (by omega) (by decide)
  obtain ⟨j, hj, rfl⟩ := own_range (r := d) (n := 256) hd.1 (by omega) (by decide)
  rw [own_b_dec i hi j hj h]
theorem own_map_inj : ∀ {xs ys : List Int32}, (∀ c ∈ xs, 0 ≤ c.toInt ∧ c.toInt ≤ 255) → (∀ c ∈ ys, 0 ≤ c.toInt ∧ c.toInt ≤ 255) → xs.map own_b = ys.map own_b → xs = ys
  | [], [], _, _, _ => rfl
  | [], _ :: _, _, _, h => by cases h
  | _ :: _, [], _, _, h => by cases h
  | x :: xs, y :: ys, hx, hy, h => by
    have h1 := (List.cons.inj h).1
    have h2 := (List.cons.inj h).2
    rw [own_b_inj (hx x (List.mem_cons_self ..)) (hy y (List.mem_cons_self ..)) h1, own_map_inj (fun c q => hx c (List.mem_cons_of_mem _ q)) (fun c q => hy c (List.mem_cons_of_mem _ q)) h2]
theorem own_sm (a u : Int32) : own_eqL ((own_C u).map own_b) ((own_C a).map own_b) = own_same a u := by
  by_cases h : own_C a = own_C u
  · rw [own_same_yes h, own_eqL, if_pos (by rw [h])]
  · rw [own_same_no h, own_eqL, if_neg (fun q => h (own_map_inj (own_Cb a) (own_Cb u) q.symm))]

theorem d17_0 : decode jdk_52_method_21_code 0 = .ok (.iconst 0, 1) := by decide +kernel
theorem d17_1 : decode jdk_52_method_21_code 1 = .ok (.istore 5, 2) := by decide +kernel
theorem d17_3 : decode jdk_52_method_21_code 3 = .ok (.iload 5, 2) := by decide +kernel
theorem d17_5 : decode jdk_52_method_21_code 5 = .ok (.iload 4, 2) := by decide +kernel
theorem d17_7 : decode jdk_52_method_21_code 7 = .ok (.if_icmp .ge 37, 3) := by decide +kernel
theorem d17_10 : decode jdk_52_method_21_code 10 = .ok (.aload_n 0, 1) := by decide +kernel
theorem d17_11 : decode jdk_52_method_21_code 11 = .ok (.iload_n 1, 1) := by decide +kernel
theorem d17_12 : decode jdk_52_method_21_code 12 = .ok (.caload, 1) := by decide +kernel
theorem d17_13 : decode jdk_52_method_21_code 13 = .ok (.istore 6, 2) := by decide +kernel
theorem d17_15 : decode jdk_52_method_21_code 15 = .ok (.iload 6, 2) := by decide +kernel
theorem d17_17 : decode jdk_52_method_21_code 17 = .ok (.sipush 255, 3) := by decide +kernel
theorem d17_20 : decode jdk_52_method_21_code 20 = .ok (.if_icmp .le 6, 3) := by decide +kernel
theorem d17_26 : decode jdk_52_method_21_code 26 = .ok (.aload_n 2, 1) := by decide +kernel
theorem d17_27 : decode jdk_52_method_21_code 27 = .ok (.iload_n 3, 1) := by decide +kernel
theorem d17_28 : decode jdk_52_method_21_code 28 = .ok (.iload 6, 2) := by decide +kernel
theorem d17_30 : decode jdk_52_method_21_code 30 = .ok (.i2b, 1) := by decide +kernel
theorem d17_31 : decode jdk_52_method_21_code 31 = .ok (.bastore, 1) := by decide +kernel
theorem d17_32 : decode jdk_52_method_21_code 32 = .ok (.iinc 1 1, 3) := by decide +kernel
theorem d17_35 : decode jdk_52_method_21_code 35 = .ok (.iinc 3 1, 3) := by decide +kernel
theorem d17_38 : decode jdk_52_method_21_code 38 = .ok (.iinc 5 1, 3) := by decide +kernel
theorem d17_41 : decode jdk_52_method_21_code 41 = .ok (.goto (-38), 3) := by decide +kernel
theorem d17_44 : decode jdk_52_method_21_code 44 = .ok (.iload 4, 2) := by decide +kernel
theorem d17_46 : decode jdk_52_method_21_code 46 = .ok (.ireturn, 1) := by decide +kernel
theorem pn_17 : plainName "java/lang/StringUTF16" = true := by first | (simp [plainName, overriddenIn]; done) | decide +kernel
theorem ef_rm17 (m : MethodId) (b1 : Addr) (b2 : Addr) (p5 : Int32) : entryFrame m #[(.ref b1), (.int (0 : Int32)), (.ref b2), (.int (0 : Int32)), (.int p5)] 7 = mkF m 0 #[.val (.ref b1), .val (.int (0 : Int32)), .val (.ref b2), .val (.int (0 : Int32)), .val (.int p5), .unset, .unset] [] := by first | (simp [entryFrame, mkF, argsToLocals, Value.category]; done) | rfl
def Q17 (Z : State) (b1 : Addr) (b2 : Addr) (p5 : Int32) (k1 : ClassId) (k2 : ClassId) (cs : List Int32) (h0 : Heap) (n0 : Nat) (v : Option Value) (h : Heap) (L : List Loc) : Prop := v = some (.int p5) ∧ Fr n0 L ∧ Keep h0 h [b2] ∧ own_Fi Z h b2 k2 cs cs.length
set_option maxRecDepth 65536 in
set_option maxHeartbeats 40000000 in
theorem rm17 (l : Launch) (Z : State) (a0 : Array Value) (hw : ∀ d ∈ tables_1, d.before a0 Z = true) (ws : List Jvm.Cond) (b1 : Addr) (b2 : Addr) (p5 : Int32) (k1 : ClassId) (k2 : ClassId) (cs : List Int32) (h0 : Heap) (n0 : Nat) (Z0 : n0 ≤ h0.size) (C1 : own_Ch Z h0 b1 k1 cs) (A2 : own_Fi Z h0 b2 k2 cs 0) (e5 : p5 = Int32.ofNat cs.length) (g_b2 : n0 ≤ b2) (ne12 : b1 ≠ b2) :
    MetFree l (⟨"java/lang/StringUTF16", "compress", "([CI[BII)I"⟩ : MethodName) (head1 (Jvm.Cond.code (⟨"java/lang/StringUTF16", "compress", "([CI[BII)I"⟩ : MethodName) jdk_52_method_21_code 7 (some .int) :: ws) ({ frames := 0, cells := 0, slots := 0, locals := 0 } : Room)) (fun a U => a = #[(.ref b1), (.int (0 : Int32)), (.ref b2), (.int (0 : Int32)), (.int p5)] ∧ Z.Warmed39 U.vm ∧ U.heap = h0) (fun _ _ _ _ _ => True) (fun _ U o U' => ∃ v L, o = .returned v ∧ Q17 Z b1 b2 p5 k1 k2 cs h0 n0 v U'.heap L ∧ FrameEnd U o U' L ({ frames := 0, cells := 0, slots := 0, locals := 0 } : Room).cells ({ frames := 0, cells := 0, slots := 0, locals := 0 } : Room).slots) := by
  refine MetFree.of_bodySF (plainFor_of_name pn_17) hisR ?_
  intro p e s m args below meth c s₁ Bd hml0 hP hK
  obtain ⟨rfl, hZ, hh⟩ := hP
  have hx := Bd.exec
  have hby := Bd.bytes
  have hml : c.maxLocals = 7 := hml0
  have hown : s.vm.findClass "java/lang/StringUTF16" = some m.cls := findClass_of_methodNamed Bd.named
  have hnm := (name_of_methodNamed Bd.named Bd.method).1
  have hlk := BodyLoose.notSynchronized Bd
  have hrt := Bd.returns
  have X0 : Stand p l e ({ frames := 0, cells := 0, slots := 0, locals := 0 } : Room) s m #[(.ref b1), (.int (0 : Int32)), (.ref b2), (.int (0 : Int32)), (.int p5)] below meth c s₁ [] 0 0 := Stand.of_body Bd
  have e0 : s₁.heap = h0 := by rw [← hh, Bd.state]; rfl
  have N0 := Fr.nil n0
  show OEnds p e below s (Q17 Z b1 b2 p5 k1 k2 cs h0 n0) ({ frames := 0, cells := 0, slots := 0, locals := 0 } : Room).cells ({ frames := 0, cells := 0, slots := 0, locals := 0 } : Room).slots (s₁.setTop (entryFrame m #[(.ref b1), (.int (0 : Int32)), (.ref b2), (.int (0 : Int32)), (.int p5)] 7))
  refine OEnds.go (t' := s₁.setTop (mkF m 0 #[.val (.ref b1), .val (.int (0 : Int32)), .val (.ref b2), .val (.int (0 : Int32)), .val (.int p5), .unset, .unset] [])) (fun t k => castTop (ef_rm17 m b1 b2 p5) k) ?_
  refine OEnds.cut (fun En => ∀ (d i : Nat) (Tj : State) (lj : List Loc) (hj : Heap) (s6 : Slot), Stand p l e ({ frames := 0, cells := 0, slots := 0, locals := 0 } : Room) s m #[(.ref b1), (.int (0 : Int32)), (.ref b2), (.int (0 : Int32)), (.int p5)] below meth c Tj lj 0 0 → Tj.heap = hj → Fr n0 lj → n0 ≤ hj.size → Keep h0 hj [b2] → own_Ch Z hj b1 k1 cs → own_Fi Z hj b2 k2 cs i → i + d = cs.length → (s6 = .unset ∨ ∃ w : Int32, s6 = .val (.int w)) → En (Tj.setTop (mkF m 3 #[.val (.ref b1), .val (.int (Int32.ofNat i)), .val (.ref b2), .val (.int (Int32.ofNat i)), .val (.int p5), .val (.int (Int32.ofNat i)), s6] []))) ?_ (fun K3 => ?_)
  · intro d
    induction d with
    | zero => 
      intro i Tj lj hj s6 Xj ej Nj Zj Kj C1 A2 hi hs6
      refine OEnds.go (t' := Tj.setTop (mkF m 7 #[.val (.ref b1), .val (.int (Int32.ofNat i)), .val (.ref b2), .val (.int (Int32.ofNat i)), .val (.int p5), .val (.int (Int32.ofNat i)), s6] [(.int p5), (.int (Int32.ofNat i))])) (fun _ k => ?_) ?_
      · show Steps p.tables e below (Tj.setTop (mkF m 3 #[.val (.ref b1), .val (.int (Int32.ofNat i)), .val (.ref b2), .val (.int (Int32.ofNat i)), .val (.int p5), .val (.int (Int32.ofNat i)), s6] [])) _
        refine XS.iload Xj.here hx rfl (hb hby d17_3) rfl ?_
        show Steps p.tables e below (Tj.setTop (mkF m 5 #[.val (.ref b1), .val (.int (Int32.ofNat i)), .val (.ref b2), .val (.int (Int32.ofNat i)), .val (.int p5), .val (.int (Int32.ofNat i)), s6] [(.int (Int32.ofNat i))])) _
        refine XS.iload Xj.here hx rfl (hb hby d17_5) rfl ?_
        show Steps p.tables e below (Tj.setTop (mkF m 7 #[.val (.ref b1), .val (.int (Int32.ofNat i)), .val (.ref b2), .val (.int (Int32.ofNat i)), .val (.int p5), .val (.int (Int32.ofNat i)), s6] [(.int p5), (.int (Int32.ofNat i))])) _
        exact k
      refine OEnds.go (t' := Tj.setTop (mkF m 44 #[.val (.ref b1), .val (.int (Int32.ofNat i)), .val (.ref b2), .val (.int (Int32.ofNat i)), .val (.int p5), .val (.int (Int32.ofNat i)), s6] [])) (fun _ k => XS.icmpYes Xj.here hx rfl (pc0 := 7) (pc' := 44) rfl (hb hby d17_7) rfl (flt (fun q => absurd ((own_ofNat_lt (by have := C1.2.1; omega) C1.2.1).mp (e5 ▸ q)) (by omega))).2.1 (by decide) (by decide) k) ?_
      refine OEnds.go (t' := Tj.setTop (mkF m 46 #[.val (.ref b1), .val (.int (Int32.ofNat i)), .val (.ref b2), .val (.int (Int32.ofNat i)), .val (.int p5), .val (.int (Int32.ofNat i)), s6] [(.int p5)])) (fun _ k => ?_) ?_
      · show Steps p.tables e below (Tj.setTop (mkF m 44 #[.val (.ref b1), .val (.int (Int32.ofNat i)), .val (.ref b2), .val (.int (Int32.ofNat i)), .val (.int p5), .val (.int (Int32.ofNat i)), s6] [])) _
        refine XS.iload Xj.here hx rfl (hb hby d17_44) rfl ?_
        show Steps p.tables e below (Tj.setTop (mkF m 46 #[.val (.ref b1), .val (.int (Int32.ofNat i)), .val (.ref b2), .val (.int (Int32.ofNat i)), .val (.int p5), .val (.int (Int32.ofNat i)), s6] [(.int p5)])) _
        exact k
      obtain rfl : i = cs.length := by omega
      refine OEnds.back Xj hlk (v := (some (.int p5))) (fun h => by rw [hrt] at h; cases h) (fun fs hr => ?_) ?_ (by decide) (by decide)
      · exact retI Xj hx hrt (hb hby d17_46) hr
      · show Q17 Z b1 b2 p5 k1 k2 cs h0 n0 _ Tj.heap _
        rw [ej]
        exact ⟨rfl, Nj, Kj, A2⟩
    | succ d ih => 
      intro i Tj lj hj s6 Xj ej Nj Zj Kj C1 A2 hi hs6
      refine OEnds.go (t' := Tj.setTop (mkF m 7 #[.val (.ref b1), .val (.int (Int32.ofNat i)), .val (.ref b2), .val (.int (Int32.ofNat i)), .val (.int p5), .val (.int (Int32.ofNat i)), s6] [(.int p5), (.int (Int32.ofNat i))])) (fun _ k => ?_) ?_
      · show Steps p.tables e below (Tj.setTop (mkF m 3 #[.val (.ref b1), .val (.int (Int32.ofNat i)), .val (.ref b2), .val (.int (Int32.ofNat i)), .val (.int p5), .val (.int (Int32.ofNat i)), s6] [])) _
        refine XS.iload Xj.here hx rfl (hb hby d17_3) rfl ?_
        show Steps p.tables e below (Tj.setTop (mkF m 5 #[.val (.ref b1), .val (.int (Int32.ofNat i)), .val (.ref b2), .val (.int (Int32.ofNat i)), .val (.int p5), .val (.int (Int32.ofNat i)), s6] [(.int (Int32.ofNat i))])) _
        refine XS.iload Xj.here hx rfl (hb hby d17_5) rfl ?_
        show Steps p.tables e below (Tj.setTop (mkF m 7 #[.val (.ref b1), .val (.int (Int32.ofNat i)), .val (.ref b2), .val (.int (Int32.ofNat i)), .val (.int p5), .val (.int (Int32.ofNat i)), s6] [(.int p5), (.int (Int32.ofNat i))])) _
        exact k
      refine OEnds.go (t' := Tj.setTop (mkF m 10 #[.val (.ref b1), .val (.int (Int32.ofNat i)), .val (.ref b2), .val (.int (Int32.ofNat i)), .val (.int p5), .val (.int (Int32.ofNat i)), s6] [])) (fun _ k => XS.icmpNo Xj.here hx rfl (hb hby d17_7) rfl (tlt (e5.symm ▸ (own_ofNat_lt (by have := C1.2.1; omega) C1.2.1).mpr (by omega))).2.1 k) ?_
      refine OEnds.go (t' := Tj.setTop (mkF m 12 #[.val (.ref b1), .val (.int (Int32.ofNat i)), .val (.ref b2), .val (.int (Int32.ofNat i)), .val (.int p5), .val (.int (Int32.ofNat i)), s6] [(.int (Int32.ofNat i)), (.ref b1)])) (fun _ k => ?_) ?_
      · show Steps p.tables e below (Tj.setTop (mkF m 10 #[.val (.ref b1), .val (.int (Int32.ofNat i)), .val (.ref b2), .val (.int (Int32.ofNat i)), .val (.int p5), .val (.int (Int32.ofNat i)), s6] [])) _
        refine XS.aloadN Xj.here hx rfl (hb hby d17_10) rfl rfl ?_
        show Steps p.tables e below (Tj.setTop (mkF m 11 #[.val (.ref b1), .val (.int (Int32.ofNat i)), .val (.ref b2), .val (.int (Int32.ofNat i)), .val (.int p5), .val (.int (Int32.ofNat i)), s6] [(.ref b1)])) _
        refine XS.iloadN Xj.here hx rfl (hb hby d17_11) rfl ?_
        show Steps p.tables e below (Tj.setTop (mkF m 12 #[.val (.ref b1), .val (.int (Int32.ofNat i)), .val (.ref b2), .val (.int (Int32.ofNat i)), .val (.int p5), .val (.int (Int32.ofNat i)), s6] [(.int (Int32.ofNat i)), (.ref b1)])) _
        exact k
      obtain ⟨cl1, Ar1, hin1, hat1⟩ := own_cread C1 (i := i) (by omega)
      refine OEnds.go (t' := Tj.setTop (mkF m 13 #[.val (.ref b1), .val (.int (Int32.ofNat i)), .val (.ref b2), .val (.int (Int32.ofNat i)), .val (.int p5), .val (.int (Int32.ofNat i)), s6] [(.int (cs.getD i 0))])) (fun _ k => Xj.caload hx (j := (Int32.ofNat i)) (v := (.int (cs.getD i 0))) (by rw [ej]; exact Ar1.1) (State.isArrayOf_alike hZ.alike Ar1.2.1) Ar1.2.2 hin1 hat1 (g := (mkF m 12 #[.val (.ref b1), .val (.int (Int32.ofNat i)), .val (.ref b2), .val (.int (Int32.ofNat i)), .val (.int p5), .val (.int (Int32.ofNat i)), s6] [(.int (Int32.ofNat i)), (.ref b1)])) rfl rfl (hb hby d17_12) _ k) ?_
      refine OEnds.go (t' := Tj.setTop (mkF m 20 #[.val (.ref b1), .val (.int (Int32.ofNat i)), .val (.ref b2), .val (.int (Int32.ofNat i)), .val (.int p5), .val (.int (Int32.ofNat i)), .val (.int (cs.getD i 0))] [(.int (255 : Int32)), (.int (cs.getD i 0))])) (fun _ k => ?_) ?_
      · show Steps p.tables e below (Tj.setTop (mkF m 13 #[.val (.ref b1), .val (.int (Int32.ofNat i)), .val (.ref b2), .val (.int (Int32.ofNat i)), .val (.int p5), .val (.int (Int32.ofNat i)), s6] [(.int (cs.getD i 0))])) _
        refine XS.istore Xj.here hx rfl (hb hby d17_13) rfl (l' := #[.val (.ref b1), .val (.int (Int32.ofNat i)), .val (.ref b2), .val (.int (Int32.ofNat i)), .val (.int p5), .val (.int (Int32.ofNat i)), .val (.int (cs.getD i 0))]) (own_s6 hs6 ⟨_, rfl⟩ ⟨_, rfl⟩ ⟨_, rfl⟩ ⟨_, rfl⟩ ⟨_, rfl⟩ ⟨_, rfl⟩) ?_
        show Steps p.tables e below (Tj.setTop (mkF m 15 #[.val (.ref b1), .val (.int (Int32.ofNat i)), .val (.ref b2), .val (.int (Int32.ofNat i)), .val (.int p5), .val (.int (Int32.ofNat i)), .val (.int (cs.getD i 0))] [])) _
        refine XS.iload Xj.here hx rfl (hb hby d17_15) rfl ?_
        show Steps p.tables e below (Tj.setTop (mkF m 17 #[.val (.ref b1), .val (.int (Int32.ofNat i)), .val (.ref b2), .val (.int (Int32.ofNat i)), .val (.int p5), .val (.int (Int32.ofNat i)), .val (.int (cs.getD i 0))] [(.int (cs.getD i 0))])) _
        refine XS.sipush Xj.here hx rfl (hb hby d17_17) ?_
        show Steps p.tables e below (Tj.setTop (mkF m 20 #[.val (.ref b1), .val (.int (Int32.ofNat i)), .val (.ref b2), .val (.int (Int32.ofNat i)), .val (.int p5), .val (.int (Int32.ofNat i)), .val (.int (cs.getD i 0))] [(.int (255 : Int32)), (.int (cs.getD i 0))])) _
        exact k
      refine OEnds.go (t' := Tj.setTop (mkF m 26 #[.val (.ref b1), .val (.int (Int32.ofNat i)), .val (.ref b2), .val (.int (Int32.ofNat i)), .val (.int p5), .val (.int (Int32.ofNat i)), .val (.int (cs.getD i 0))] [])) (fun _ k => XS.icmpYes Xj.here hx rfl (pc0 := 20) (pc' := 26) rfl (hb hby d17_20) rfl (flt (own_cle C1 (by omega))).2.2.2 (by decide) (by decide) k) ?_
      refine OEnds.go (t' := Tj.setTop (mkF m 31 #[.val (.ref b1), .val (.int (Int32.ofNat i)), .val (.ref b2), .val (.int (Int32.ofNat i)), .val (.int p5), .val (.int (Int32.ofNat i)), .val (.int (cs.getD i 0))] [(.int ((cs.getD i 0).toInt8.toInt32)), (.int (Int32.ofNat i)), (.ref b2)])) (fun _ k => ?_) ?_
      · show Steps p.tables e below (Tj.setTop (mkF m 26 #[.val (.ref b1), .val (.int (Int32.ofNat i)), .val (.ref b2), .val (.int (Int32.ofNat i)), .val (.int p5), .val (.int (Int32.ofNat i)), .val (.int (cs.getD i 0))] [])) _
        refine XS.aloadN Xj.here hx rfl (hb hby d17_26) rfl rfl ?_
        show Steps p.tables e below (Tj.setTop (mkF m 27 #[.val (.ref b1), .val (.int (Int32.ofNat i)), .val (.ref b2), .val (.int (Int32.ofNat i)), .val (.int p5), .val (.int (Int32.ofNat i)), .val (.int (cs.getD i 0))] [(.ref b2)])) _
        refine XS.iloadN Xj.here hx rfl (hb hby d17_27) rfl ?_
        show Steps p.tables e below (Tj.setTop (mkF m 28 #[.val (.ref b1), .val (.int (Int32.ofNat i)), .val (.ref b2), .val (.int (Int32.ofNat i)), .val (.int p5), .val (.int (Int32.ofNat i)), .val (.int (cs.getD i 0))] [(.int (Int32.ofNat i)), (.ref b2)])) _
        refine XS.iload Xj.here hx rfl (hb hby d17_28) rfl ?_
        show Steps p.tables e below (Tj.setTop (mkF m 30 #[.val (.ref b1), .val (.int (Int32.ofNat i)), .val (.ref b2), .val (.int (Int32.ofNat i)), .val (.int p5), .val (.int (Int32.ofNat i)), .val (.int (cs.getD i 0))] [(.int (cs.getD i 0)), (.int (Int32.ofNat i)), (.ref b2)])) _
        refine XS.i2b Xj.here hx rfl (hb hby d17_30) rfl ?_
        show Steps p.tables e below (Tj.setTop (mkF m 31 #[.val (.ref b1), .val (.int (Int32.ofNat i)), .val (.ref b2), .val (.int (Int32.ofNat i)), .val (.int p5), .val (.int (Int32.ofNat i)), .val (.int (cs.getD i 0))] [(.int ((cs.getD i 0).toInt8.toInt32)), (.int (Int32.ofNat i)), (.ref b2)])) _
        exact k
      obtain ⟨cl2, Ar2, hin2, -⟩ := own_Fi.at A2 (by omega)
      obtain ⟨T2, h2, X2, e2, W2, st2⟩ := stB Xj hx hZ ej Ar2 (j := (Int32.ofNat i)) hin2 (g := (mkF m 31 #[.val (.ref b1), .val (.int (Int32.ofNat i)), .val (.ref b2), .val (.int (Int32.ofNat i)), .val (.int p5), .val (.int (Int32.ofNat i)), .val (.int (cs.getD i 0))] [(.int ((cs.getD i 0).toInt8.toInt32)), (.int (Int32.ofNat i)), (.ref b2)])) rfl rfl (hb hby d17_31)
      have N2 := Fr.snoc X2 Nj g_b2
      have C1 := C1.other W2 ne12
      have Z2 : n0 ≤ h2.size := Nat.le_trans Zj (Keep.of_wr W2).1
      have K2 := Kj.wr W2 (Or.inl (List.mem_of_getElem? (i := 0) rfl))
      have A2 := A2.put (by omega) W2
      refine OEnds.go (t' := T2.setTop (mkF m 32 #[.val (.ref b1), .val (.int (Int32.ofNat i)), .val (.ref b2), .val (.int (Int32.ofNat i)), .val (.int p5), .val (.int (Int32.ofNat i)), .val (.int (cs.getD i 0))] [])) (fun _ k => st2 _ k) ?_
      refine OEnds.go (t' := T2.setTop (mkF m 3 #[.val (.ref b1), .val (.int ((Int32.ofNat i) + (1 : Int32))), .val (.ref b2), .val (.int ((Int32.ofNat i) + (1 : Int32))), .val (.int p5), .val (.int ((Int32.ofNat i) + (1 : Int32))), .val (.int (cs.getD i 0))] [])) (fun _ k => ?_) ?_
      · show Steps p.tables e below (T2.setTop (mkF m 32 #[.val (.ref b1), .val (.int (Int32.ofNat i)), .val (.ref b2), .val (.int (Int32.ofNat i)), .val (.int p5), .val (.int (Int32.ofNat i)), .val (.int (cs.getD i 0))] [])) _
        refine XS.iinc X2.here hx rfl (hb hby d17_32) rfl (l' := #[.val (.ref b1), .val (.int ((Int32.ofNat i) + (1 : Int32))), .val (.ref b2), .val (.int (Int32.ofNat i)), .val (.int p5), .val (.int (Int32.ofNat i)), .val (.int (cs.getD i 0))]) rfl ?_
        show Steps p.tables e below (T2.setTop (mkF m 35 #[.val (.ref b1), .val (.int ((Int32.ofNat i) + (1 : Int32))), .val (.ref b2), .val (.int (Int32.ofNat i)), .val (.int p5), .val (.int (Int32.ofNat i)), .val (.int (cs.getD i 0))] [])) _
        refine XS.iinc X2.here hx rfl (hb hby d17_35) rfl (l' := #[.val (.ref b1), .val (.int ((Int32.ofNat i) + (1 : Int32))), .val (.ref b2), .val (.int ((Int32.ofNat i) + (1 : Int32))), .val (.int p5), .val (.int (Int32.ofNat i)), .val (.int (cs.getD i 0))]) rfl ?_
        show Steps p.tables e below (T2.setTop (mkF m 38 #[.val (.ref b1), .val (.int ((Int32.ofNat i) + (1 : Int32))), .val (.ref b2), .val (.int ((Int32.ofNat i) + (1 : Int32))), .val (.int p5), .val (.int (Int32.ofNat i)), .val (.int (cs.getD i 0))] [])) _
        refine XS.iinc X2.here hx rfl (hb hby d17_38) rfl (l' := #[.val (.ref b1), .val (.int ((Int32.ofNat i) + (1 : Int32))), .val (.ref b2), .val (.int ((Int32.ofNat i) + (1 : Int32))), .val (.int p5), .val (.int ((Int32.ofNat i) + (1 : Int32))), .val (.int (cs.getD i 0))]) rfl ?_
        show Steps p.tables e below (T2.setTop (mkF m 41 #[.val (.ref b1), .val (.int ((Int32.ofNat i) + (1 : Int32))), .val (.ref b2), .val (.int ((Int32.ofNat i) + (1 : Int32))), .val (.int p5), .val (.int ((Int32.ofNat i) + (1 : Int32))), .val (.int (cs.getD i 0))] [])) _
        refine XS.goto X2.here hx rfl (pc0 := 41) (pc' := 3) rfl (hb hby d17_41) (by decide) (by decide) ?_
        show Steps p.tables e below (T2.setTop (mkF m 3 #[.val (.ref b1), .val (.int ((Int32.ofNat i) + (1 : Int32))), .val (.ref b2), .val (.int ((Int32.ofNat i) + (1 : Int32))), .val (.int p5), .val (.int ((Int32.ofNat i) + (1 : Int32))), .val (.int (cs.getD i 0))] [])) _
        exact k
      simp only [own_succ]
      exact ih (i + 1) _ _ _ _ X2 e2 N2 Z2 K2 C1 A2 (by omega) (Or.inr ⟨_, rfl⟩)
  refine OEnds.go (t' := s₁.setTop (mkF m 3 #[.val (.ref b1), .val (.int (0 : Int32)), .val (.ref b2), .val (.int (0 : Int32)), .val (.int p5), .val (.int (0 : Int32)), .unset] [])) (fun _ k => ?_) ?_
  · show Steps p.tables e below (s₁.setTop (mkF m 0 #[.val (.ref b1), .val (.int (0 : Int32)), .val (.ref b2), .val (.int (0 : Int32)), .val (.int p5), .unset, .unset] [])) _
    refine XS.iconst X0.here hx rfl (hb hby d17_0) ?_
    show Steps p.tables e below (s₁.setTop (mkF m 1 #[.val (.ref b1), .val (.int (0 : Int32)), .val (.ref b2), .val (.int (0 : Int32)), .val (.int p5), .unset, .unset] [(.int (0 : Int32))])) _
    refine XS.istore X0.here hx rfl (hb hby d17_1) rfl (l' := #[.val (.ref b1), .val (.int (0 : Int32)), .val (.ref b2), .val (.int (0 : Int32)), .val (.int p5), .val (.int (0 : Int32)), .unset]) rfl ?_
    show Steps p.tables e below (s₁.setTop (mkF m 3 #[.val (.ref b1), .val (.int (0 : Int32)), .val (.ref b2), .val (.int (0 : Int32)), .val (.int p5), .val (.int (0 : Int32)), .unset] [])) _
    exact k
  exact K3 cs.length 0 _ _ _ .unset X0 e0 N0 Z0 (Keep.refl h0 [b2]) C1 A2 (by omega) (Or.inl rfl)
theorem d16_0 : decode jdk_52_method_16_code 0 = .ok (.iload_n 2, 1) := by decide +kernel
theorem d16_1 : decode jdk_52_method_16_code 1 = .ok (.newarray .byte, 2) := by decide +kernel
theorem d16_3 : decode jdk_52_method_16_code 3 = .ok (.astore_n 3, 1) := by decide +kernel
theorem d16_4 : decode jdk_52_method_16_code 4 = .ok (.aload_n 0, 1) := by decide +kernel
theorem d16_5 : decode jdk_52_method_16_code 5 = .ok (.iload_n 1, 1) := by decide +kernel
theorem d16_6 : decode jdk_52_method_16_code 6 = .ok (.aload_n 3, 1) := by decide +kernel
theorem d16_7 : decode jdk_52_method_16_code 7 = .ok (.iconst 0, 1) := by decide +kernel
theorem d16_8 : decode jdk_52_method_16_code 8 = .ok (.iload_n 2, 1) := by decide +kernel
theorem d16_9 : decode jdk_52_method_16_code 9 = .ok (.invokestatic 115, 3) := by decide +kernel
theorem d16_12 : decode jdk_52_method_16_code 12 = .ok (.istore 4, 2) := by decide +kernel
theorem d16_14 : decode jdk_52_method_16_code 14 = .ok (.iload 4, 2) := by decide +kernel
theorem d16_16 : decode jdk_52_method_16_code 16 = .ok (.iload_n 2, 1) := by decide +kernel
theorem d16_17 : decode jdk_52_method_16_code 17 = .ok (.if_icmp .eq 40, 3) := by decide +kernel
theorem d16_57 : decode jdk_52_method_16_code 57 = .ok (.aload_n 3, 1) := by decide +kernel
theorem d16_58 : decode jdk_52_method_16_code 58 = .ok (.areturn, 1) := by decide +kernel
theorem pn_16 : plainName "java/lang/StringUTF16" = true := by first | (simp [plainName, overriddenIn]; done) | decide +kernel
theorem pd_rm16_0 : parseMethodDescriptor "([CI[BII)I" = some ⟨[(.array .char), .int, (.array .byte), .int, .int], some .int⟩ := by decide +kernel
theorem ef_rm16 (m : MethodId) (b1 : Addr) (p3 : Int32) : entryFrame m #[(.ref b1), (.int (0 : Int32)), (.int p3)] 6 = mkF m 0 #[.val (.ref b1), .val (.int (0 : Int32)), .val (.int p3), .unset, .unset, .unset] [] := by first | (simp [entryFrame, mkF, argsToLocals, Value.category]; done) | rfl
def Q16 (Z : State) (b1 : Addr) (p3 : Int32) (k1 : ClassId) (cs : List Int32) (h0 : Heap) (n0 : Nat) (v : Option Value) (h : Heap) (L : List Loc) : Prop := ∃ (b : Addr) (k : ClassId), v = some (.ref b) ∧ Fr n0 L ∧ Keep h0 h [] ∧ own_By Z h b k (cs.map own_b) ∧ h0.size ≤ b ∧ n0 ≤ b
set_option maxRecDepth 65536 in
set_option maxHeartbeats 40000000 in
theorem rm16 (l : Launch) (Z : State) (a0 : Array Value) (hw : ∀ d ∈ tables_1, d.before a0 Z = true) (ws : List Jvm.Cond) (b1 : Addr) (p3 : Int32) (k1 : ClassId) (cs : List Int32) (h0 : Heap) (n0 : Nat) (Z0 : n0 ≤ h0.size) (C1 : own_Ch Z h0 b1 k1 cs) (e3 : p3 = Int32.ofNat cs.length) (h8 : cs.length ≤ 8) :
    MetFree l (⟨"java/lang/StringUTF16", "compress", "([CII)[B"⟩ : MethodName) (head1 (Jvm.Cond.code (⟨"java/lang/StringUTF16", "compress", "([CII)[B"⟩ : MethodName) jdk_52_method_16_code 6 (some (.array .byte)) :: ws) ({ frames := 1, cells := 1, slots := 8, locals := 18 } : Room)) (fun a U => a = #[(.ref b1), (.int (0 : Int32)), (.int p3)] ∧ Z.Warmed39 U.vm ∧ U.heap = h0) (fun _ _ _ _ _ => True) (fun _ U o U' => ∃ v L, o = .returned v ∧ Q16 Z b1 p3 k1 cs h0 n0 v U'.heap L ∧ FrameEnd U o U' L ({ frames := 1, cells := 1, slots := 8, locals := 18 } : Room).cells ({ frames := 1, cells := 1, slots := 8, locals := 18 } : Room).slots) := by
  refine MetFree.of_bodySF (plainFor_of_name pn_16) hisR ?_
  intro p e s m args below meth c s₁ Bd hml0 hP hK
  obtain ⟨rfl, hZ, hh⟩ := hP
  have hx := Bd.exec
  have hby := Bd.bytes
  have hml : c.maxLocals = 6 := hml0
  have hown : s.vm.findClass "java/lang/StringUTF16" = some m.cls := findClass_of_methodNamed Bd.named
  have hnm := (name_of_methodNamed Bd.named Bd.method).1
  have hlk := BodyLoose.notSynchronized Bd
  have hrt := Bd.returns
  have X0 : Stand p l e ({ frames := 1, cells := 1, slots := 8, locals := 18 } : Room) s m #[(.ref b1), (.int (0 : Int32)), (.int p3)] below meth c s₁ [] 0 0 := Stand.of_body Bd
  have e0 : s₁.heap = h0 := by rw [← hh, Bd.state]; rfl
  have N0 := Fr.nil n0
  show OEnds p e below s (Q16 Z b1 p3 k1 cs h0 n0) ({ frames := 1, cells := 1, slots := 8, locals := 18 } : Room).cells ({ frames := 1, cells := 1, slots := 8, locals := 18 } : Room).slots (s₁.setTop (entryFrame m #[(.ref b1), (.int (0 : Int32)), (.int p3)] 6))
  refine OEnds.go (t' := s₁.setTop (mkF m 0 #[.val (.ref b1), .val (.int (0 : Int32)), .val (.int p3), .unset, .unset, .unset] [])) (fun t k => castTop (ef_rm16 m b1 p3) k) ?_
  refine OEnds.go (t' := s₁.setTop (mkF m 1 #[.val (.ref b1), .val (.int (0 : Int32)), .val (.int p3), .unset, .unset, .unset] [(.int p3)])) (fun _ k => ?_) ?_
  · show Steps p.tables e below (s₁.setTop (mkF m 0 #[.val (.ref b1), .val (.int (0 : Int32)), .val (.int p3), .unset, .unset, .unset] [])) _
    refine XS.iloadN X0.here hx rfl (hb hby d16_0) rfl ?_
    show Steps p.tables e below (s₁.setTop (mkF m 1 #[.val (.ref b1), .val (.int (0 : Int32)), .val (.int p3), .unset, .unset, .unset] [(.int p3)])) _
    exact k
  obtain ⟨T1, h1, ka1, X1, e1, E1, A1, st1⟩ := newP X0 hx hZ (hw _ (List.mem_of_getElem? (i := 22) rfl)) e0 (g := (mkF m 1 #[.val (.ref b1), .val (.int (0 : Int32)), .val (.int p3), .unset, .unset, .unset] [(.int p3)])) rfl (hb hby d16_1) rfl (e3.symm ▸ own_ofNat_nn (by omega)) (cap := 8) (by rw [e3, own_ofNat_clamp (by omega)]; exact h8) (by decide) (by decide) (by decide)
  obtain ⟨d1, gz1⟩ : ∃ z, z = h0.size := ⟨_, rfl⟩
  rw [← gz1] at A1 st1
  have ne_b1_d1 : b1 ≠ d1 := Nat.ne_of_lt (Nat.lt_of_lt_of_le C1.lt (Nat.le_of_eq gz1.symm))
  have g_d1 : n0 ≤ d1 := Nat.le_trans Z0 (Nat.le_of_eq gz1.symm)
  have sz_d1 : h0.size ≤ d1 := Nat.le_trans (Keep.refl h0 []).1 (Nat.le_of_eq gz1.symm)
  have C1 := C1.ext E1
  have Z1 : n0 ≤ h1.size := Nat.le_trans Z0 E1.1
  have K1 := (Keep.refl h0 []).ext E1
  have V_d1 : Arv Z h1 d1 ka1 .byte p3 [] (.int (0 : Int32)) := Arv.new A1 (e3.symm ▸ own_ofNat_nn (by omega))
  refine OEnds.go (t' := T1.setTop (mkF m 3 #[.val (.ref b1), .val (.int (0 : Int32)), .val (.int p3), .unset, .unset, .unset] [(.ref d1)])) (fun _ k => st1 _ k) ?_
  rw [e3] at V_d1
  have A_d1 := own_Fi.first V_d1 C1.2.1
  refine OEnds.go (t' := T1.setTop (mkF m 9 #[.val (.ref b1), .val (.int (0 : Int32)), .val (.int p3), .val (.ref d1), .unset, .unset] [(.int p3), (.int (0 : Int32)), (.ref d1), (.int (0 : Int32)), (.ref b1)])) (fun _ k => ?_) ?_
  · show Steps p.tables e below (T1.setTop (mkF m 3 #[.val (.ref b1), .val (.int (0 : Int32)), .val (.int p3), .unset, .unset, .unset] [(.ref d1)])) _
    refine XS.astoreN X1.here hx rfl (hb hby d16_3) rfl rfl (l' := #[.val (.ref b1), .val (.int (0 : Int32)), .val (.int p3), .val (.ref d1), .unset, .unset]) rfl ?_
    show Steps p.tables e below (T1.setTop (mkF m 4 #[.val (.ref b1), .val (.int (0 : Int32)), .val (.int p3), .val (.ref d1), .unset, .unset] [])) _
    refine XS.aloadN X1.here hx rfl (hb hby d16_4) rfl rfl ?_
    show Steps p.tables e below (T1.setTop (mkF m 5 #[.val (.ref b1), .val (.int (0 : Int32)), .val (.int p3), .val (.ref d1), .unset, .unset] [(.ref b1)])) _
    refine XS.iloadN X1.here hx rfl (hb hby d16_5) rfl ?_
    show Steps p.tables e below (T1.setTop (mkF m 6 #[.val (.ref b1), .val (.int (0 : Int32)), .val (.int p3), .val (.ref d1), .unset, .unset] [(.int (0 : Int32)), (.ref b1)])) _
    refine XS.aloadN X1.here hx rfl (hb hby d16_6) rfl rfl ?_
    show Steps p.tables e below (T1.setTop (mkF m 7 #[.val (.ref b1), .val (.int (0 : Int32)), .val (.int p3), .val (.ref d1), .unset, .unset] [(.ref d1), (.int (0 : Int32)), (.ref b1)])) _
    refine XS.iconst X1.here hx rfl (hb hby d16_7) ?_
    show Steps p.tables e below (T1.setTop (mkF m 8 #[.val (.ref b1), .val (.int (0 : Int32)), .val (.int p3), .val (.ref d1), .unset, .unset] [(.int (0 : Int32)), (.ref d1), (.int (0 : Int32)), (.ref b1)])) _
    refine XS.iloadN X1.here hx rfl (hb hby d16_8) rfl ?_
    show Steps p.tables e below (T1.setTop (mkF m 9 #[.val (.ref b1), .val (.int (0 : Int32)), .val (.int p3), .val (.ref d1), .unset, .unset] [(.int p3), (.int (0 : Int32)), (.ref d1), (.int (0 : Int32)), (.ref b1)])) _
    exact k
  obtain ⟨_, _, ⟨T2, L2, k2, n2⟩, -, X2, ⟨Lc2, hQ2, l2, y2, z2⟩, st2⟩ := Jvm.LawKit.callS X1 hx (y := (⟨"java/lang/StringUTF16", "compress", "([CI[BII)I"⟩ : MethodName)) hown (mvT hZ (hw _ (List.mem_of_getElem? (i := 101) rfl))) (mvT hZ (hw _ (List.mem_of_getElem? (i := 102) rfl))) (mvT hZ (hw _ (List.mem_of_getElem? (i := 99) rfl))) (mvT hZ (hw _ (List.mem_of_getElem? (i := 103) rfl))) (by decide) (backOf (W := 0) (rm17 l Z a0 hw [] b1 d1 p3 k1 ka1 cs h1 n0 Z1 C1 A_d1 e3 g_d1 ne_b1_d1) hZ (hw _ (List.mem_of_getElem? (i := 103) rfl)) (hw _ (List.mem_of_getElem? (i := 99) rfl)) (by decide) (by decide)) (g := (mkF m 9 #[.val (.ref b1), .val (.int (0 : Int32)), .val (.int p3), .val (.ref d1), .unset, .unset] [(.int p3), (.int (0 : Int32)), (.ref d1), (.int (0 : Int32)), (.ref b1)])) rfl (by rw [hml]; rfl) (argsL := [(.ref b1), (.int (0 : Int32)), (.ref d1), (.int (0 : Int32)), (.int p3)]) (rest := []) (lenOf pd_rm16_0 rfl) rfl (by show 2 * 0 + _ ≤ _; exact Nat.le_of_eq rfl) (hb hby d16_9) (fun _ _ => ⟨rfl, e1, (by decide : 1 + 0 ≤ _), (by decide : 8 + 0 ≤ _)⟩)
  dsimp only [Pt.U, Pt.locs, Pt.cells, Pt.slots] at X2 l2 y2 z2 st2 hQ2
  subst l2 y2 z2
  obtain ⟨rfl, N2q, Kc2, Ad2⟩ := hQ2
  have N2 := Fr.app N0 N2q
  have C1 := C1.keep Kc2 (ninS ne_b1_d1 nin0)
  have Z2 : n0 ≤ T2.heap.size := Nat.le_trans Z1 Kc2.1
  have K2 := K1.trans Kc2 (allS (Or.inr sz_d1) all0)
  refine OEnds.go (t' := T2.setTop (mkF m 12 #[.val (.ref b1), .val (.int (0 : Int32)), .val (.int p3), .val (.ref d1), .unset, .unset] [(.int p3)])) (fun _ k => st2 _ k) ?_
  refine OEnds.go (t' := T2.setTop (mkF m 17 #[.val (.ref b1), .val (.int (0 : Int32)), .val (.int p3), .val (.ref d1), .val (.int p3), .unset] [(.int p3), (.int p3)])) (fun _ k => ?_) ?_
  · show Steps p.tables e below (T2.setTop (mkF m 12 #[.val (.ref b1), .val (.int (0 : Int32)), .val (.int p3), .val (.ref d1), .unset, .unset] [(.int p3)])) _
    refine XS.istore X2.here hx rfl (hb hby d16_12) rfl (l' := #[.val (.ref b1), .val (.int (0 : Int32)), .val (.int p3), .val (.ref d1), .val (.int p3), .unset]) rfl ?_
    show Steps p.tables e below (T2.setTop (mkF m 14 #[.val (.ref b1), .val (.int (0 : Int32)), .val (.int p3), .val (.ref d1), .val (.int p3), .unset] [])) _
    refine XS.iload X2.here hx rfl (hb hby d16_14) rfl ?_
    show Steps p.tables e below (T2.setTop (mkF m 16 #[.val (.ref b1), .val (.int (0 : Int32)), .val (.int p3), .val (.ref d1), .val (.int p3), .unset] [(.int p3)])) _
    refine XS.iloadN X2.here hx rfl (hb hby d16_16) rfl ?_
    show Steps p.tables e below (T2.setTop (mkF m 17 #[.val (.ref b1), .val (.int (0 : Int32)), .val (.int p3), .val (.ref d1), .val (.int p3), .unset] [(.int p3), (.int p3)])) _
    exact k
  refine OEnds.go (t' := T2.setTop (mkF m 57 #[.val (.ref b1), .val (.int (0 : Int32)), .val (.int p3), .val (.ref d1), .val (.int p3), .unset] [])) (fun _ k => XS.icmpYes X2.here hx rfl (pc0 := 17) (pc' := 57) rfl (hb hby d16_17) rfl (teq rfl).1 (by decide) (by decide) k) ?_
  refine OEnds.go (t' := T2.setTop (mkF m 58 #[.val (.ref b1), .val (.int (0 : Int32)), .val (.int p3), .val (.ref d1), .val (.int p3), .unset] [(.ref d1)])) (fun _ k => ?_) ?_
  · show Steps p.tables e below (T2.setTop (mkF m 57 #[.val (.ref b1), .val (.int (0 : Int32)), .val (.int p3), .val (.ref d1), .val (.int p3), .unset] [])) _
    refine XS.aloadN X2.here hx rfl (hb hby d16_57) rfl rfl ?_
    show Steps p.tables e below (T2.setTop (mkF m 58 #[.val (.ref b1), .val (.int (0 : Int32)), .val (.int p3), .val (.ref d1), .val (.int p3), .unset] [(.ref d1)])) _
    exact k
  refine OEnds.back X2 hlk (v := (some (.ref d1))) (fun h => by rw [hrt] at h; cases h) (fun fs hr => ?_) ?_ (by decide) (by decide)
  · exact retA X2 hx hrt rfl rfl rfl (hb hby d16_58) hr
  · show Q16 Z b1 p3 k1 cs h0 n0 _ T2.heap _
    exact ⟨_, _, rfl, N2, K2, Ad2.done, sz_d1, g_d1⟩
theorem d18_0 : decode jdk_52_method_15_code 0 = .ok (.iload_n 1, 1) := by decide +kernel
theorem d18_1 : decode jdk_52_method_15_code 1 = .ok (.aload_n 0, 1) := by decide +kernel
theorem d18_2 : decode jdk_52_method_15_code 2 = .ok (.arraylength, 1) := by decide +kernel
theorem d18_3 : decode jdk_52_method_15_code 3 = .ok (.isub, 1) := by decide +kernel
theorem d18_4 : decode jdk_52_method_15_code 4 = .ok (.bipush 31, 2) := by decide +kernel
theorem d18_6 : decode jdk_52_method_15_code 6 = .ok (.iushr, 1) := by decide +kernel
theorem d18_7 : decode jdk_52_method_15_code 7 = .ok (.i2b, 1) := by decide +kernel
theorem d18_8 : decode jdk_52_method_15_code 8 = .ok (.ireturn, 1) := by decide +kernel
theorem pn_18 : plainName "java/lang/StringUTF16" = true := by first | (simp [plainName, overriddenIn]; done) | decide +kernel
theorem ef_rm18 (m : MethodId) (b1 : Addr) (p2 : Int32) : entryFrame m #[(.ref b1), (.int p2)] 2 = mkF m 0 #[.val (.ref b1), .val (.int p2)] [] := by first | (simp [entryFrame, mkF, argsToLocals, Value.category]; done) | rfl
def Q18 (Z : State) (b1 : Addr) (p2 : Int32) (k1 : ClassId) (xs : List Int32) (h0 : Heap) (n0 : Nat) (v : Option Value) (h : Heap) (L : List Loc) : Prop := v = some (.int 0) ∧ Fr n0 L ∧ h = h0
set_option maxRecDepth 65536 in
set_option maxHeartbeats 40000000 in
theorem rm18 (l : Launch) (Z : State) (a0 : Array Value) (hw : ∀ d ∈ tables_1, d.before a0 Z = true) (ws : List Jvm.Cond) (b1 : Addr) (p2 : Int32) (k1 : ClassId) (xs : List Int32) (h0 : Heap) (n0 : Nat) (Z0 : n0 ≤ h0.size) (V1 : own_By Z h0 b1 k1 xs) (e2 : p2 = Int32.ofNat xs.length) :
    MetFree l (⟨"java/lang/StringUTF16", "coderFromArrayLen", "([BI)B"⟩ : MethodName) (head1 (Jvm.Cond.code (⟨"java/lang/StringUTF16", "coderFromArrayLen", "([BI)B"⟩ : MethodName) jdk_52_method_15_code 2 (some .byte) :: ws) ({ frames := 0, cells := 0, slots := 0, locals := 0 } : Room)) (fun a U => a = #[(.ref b1), (.int p2)] ∧ Z.Warmed39 U.vm ∧ U.heap = h0) (fun _ _ _ _ _ => True) (fun _ U o U' => ∃ v L, o = .returned v ∧ Q18 Z b1 p2 k1 xs h0 n0 v U'.heap L ∧ FrameEnd U o U' L ({ frames := 0, cells := 0, slots := 0, locals := 0 } : Room).cells ({ frames := 0, cells := 0, slots := 0, locals := 0 } : Room).slots) := by
  refine MetFree.of_bodySF (plainFor_of_name pn_18) hisR ?_
  intro p e s m args below meth c s₁ Bd hml0 hP hK
  obtain ⟨rfl, hZ, hh⟩ := hP
  have hx := Bd.exec
  have hby := Bd.bytes
  have hml : c.maxLocals = 2 := hml0
  have hown : s.vm.findClass "java/lang/StringUTF16" = some m.cls := findClass_of_methodNamed Bd.named
  have hnm := (name_of_methodNamed Bd.named Bd.method).1
  have hlk := BodyLoose.notSynchronized Bd
  have hrt := Bd.returns
  have X0 : Stand p l e ({ frames := 0, cells := 0, slots := 0, locals := 0 } : Room) s m #[(.ref b1), (.int p2)] below meth c s₁ [] 0 0 := Stand.of_body Bd
  have e0 : s₁.heap = h0 := by rw [← hh, Bd.state]; rfl
  have N0 := Fr.nil n0
  show OEnds p e below s (Q18 Z b1 p2 k1 xs h0 n0) ({ frames := 0, cells := 0, slots := 0, locals := 0 } : Room).cells ({ frames := 0, cells := 0, slots := 0, locals := 0 } : Room).slots (s₁.setTop (entryFrame m #[(.ref b1), (.int p2)] 2))
  refine OEnds.go (t' := s₁.setTop (mkF m 0 #[.val (.ref b1), .val (.int p2)] [])) (fun t k => castTop (ef_rm18 m b1 p2) k) ?_
  refine OEnds.go (t' := s₁.setTop (mkF m 2 #[.val (.ref b1), .val (.int p2)] [(.ref b1), (.int p2)])) (fun _ k => ?_) ?_
  · show Steps p.tables e below (s₁.setTop (mkF m 0 #[.val (.ref b1), .val (.int p2)] [])) _
    refine XS.iloadN X0.here hx rfl (hb hby d18_0) rfl ?_
    show Steps p.tables e below (s₁.setTop (mkF m 1 #[.val (.ref b1), .val (.int p2)] [(.int p2)])) _
    refine XS.aloadN X0.here hx rfl (hb hby d18_1) rfl rfl ?_
    show Steps p.tables e below (s₁.setTop (mkF m 2 #[.val (.ref b1), .val (.int p2)] [(.ref b1), (.int p2)])) _
    exact k
  obtain ⟨cl1, Ar1, hl1⟩ := own_blen V1
  refine OEnds.go (t' := s₁.setTop (mkF m 3 #[.val (.ref b1), .val (.int p2)] [(.int cl1.slots.size.toInt32), (.int p2)])) (fun _ k => X0.arraylength hx (by rw [e0]; exact Ar1.1) (State.isArrayOf_alike hZ.alike Ar1.2.1) (g := (mkF m 2 #[.val (.ref b1), .val (.int p2)] [(.ref b1), (.int p2)])) rfl rfl (hb hby d18_2) _ k) ?_
  rw [hl1]
  rw [← e2]
  refine OEnds.go (t' := s₁.setTop (mkF m 8 #[.val (.ref b1), .val (.int p2)] [(.int ((((p2 - p2).toUInt32 >>> ((31 : Int32) &&& 31).toUInt32).toInt32).toInt8.toInt32))])) (fun _ k => ?_) ?_
  · show Steps p.tables e below (s₁.setTop (mkF m 3 #[.val (.ref b1), .val (.int p2)] [(.int p2), (.int p2)])) _
    refine XS.isub X0.here hx rfl (hb hby d18_3) rfl ?_
    show Steps p.tables e below (s₁.setTop (mkF m 4 #[.val (.ref b1), .val (.int p2)] [(.int (p2 - p2))])) _
    refine XS.bipush X0.here hx rfl (hb hby d18_4) ?_
    show Steps p.tables e below (s₁.setTop (mkF m 6 #[.val (.ref b1), .val (.int p2)] [(.int (31 : Int32)), (.int (p2 - p2))])) _
    refine XS.iushr X0.here hx rfl (hb hby d18_6) rfl ?_
    show Steps p.tables e below (s₁.setTop (mkF m 7 #[.val (.ref b1), .val (.int p2)] [(.int (((p2 - p2).toUInt32 >>> ((31 : Int32) &&& 31).toUInt32).toInt32))])) _
    refine XS.i2b X0.here hx rfl (hb hby d18_7) rfl ?_
    show Steps p.tables e below (s₁.setTop (mkF m 8 #[.val (.ref b1), .val (.int p2)] [(.int ((((p2 - p2).toUInt32 >>> ((31 : Int32) &&& 31).toUInt32).toInt32).toInt8.toInt32))])) _
    exact k
  rw [own_cfa]
  refine OEnds.back X0 hlk (v := (some (.int (0 : Int32)))) (fun h => by rw [hrt] at h; cases h) (fun fs hr => ?_) ?_ (by decide) (by decide)
  · exact retN X0 hx (t := .byte) hrt (by simp) (hb hby d18_8) hr
  · show Q18 Z b1 p2 k1 xs h0 n0 _ s₁.heap _
    rw [e0]
    exact ⟨rfl, N0, rfl⟩
theorem d4_0 : decode jdk_42_method_149_code 0 = .ok (.aload_n 0, 1) := by decide +kernel
theorem d4_1 : decode jdk_42_method_149_code 1 = .ok (.invokespecial 1, 3) := by decide +kernel
theorem d4_4 : decode jdk_42_method_149_code 4 = .ok (.iload_n 3, 1) := by decide +kernel
theorem d4_5 : decode jdk_42_method_149_code 5 = .ok (.ifCond .ne 22, 3) := by decide +kernel
theorem d4_27 : decode jdk_42_method_149_code 27 = .ok (.getstatic 38, 3) := by decide +kernel
theorem d4_30 : decode jdk_42_method_149_code 30 = .ok (.ifCond .eq 28, 3) := by decide +kernel
theorem d4_33 : decode jdk_42_method_149_code 33 = .ok (.aload_n 1, 1) := by decide +kernel
theorem d4_34 : decode jdk_42_method_149_code 34 = .ok (.iload_n 2, 1) := by decide +kernel
theorem d4_35 : decode jdk_42_method_149_code 35 = .ok (.iload_n 3, 1) := by decide +kernel
theorem d4_36 : decode jdk_42_method_149_code 36 = .ok (.invokestatic 177, 3) := by decide +kernel
theorem d4_39 : decode jdk_42_method_149_code 39 = .ok (.astore 5, 2) := by decide +kernel
theorem d4_41 : decode jdk_42_method_149_code 41 = .ok (.aload_n 0, 1) := by decide +kernel
theorem d4_42 : decode jdk_42_method_149_code 42 = .ok (.aload 5, 2) := by decide +kernel
theorem d4_44 : decode jdk_42_method_149_code 44 = .ok (.iload_n 3, 1) := by decide +kernel
theorem d4_45 : decode jdk_42_method_149_code 45 = .ok (.invokestatic 47, 3) := by decide +kernel
theorem d4_48 : decode jdk_42_method_149_code 48 = .ok (.putfield 15, 3) := by decide +kernel
theorem d4_51 : decode jdk_42_method_149_code 51 = .ok (.aload_n 0, 1) := by decide +kernel
theorem d4_52 : decode jdk_42_method_149_code 52 = .ok (.aload 5, 2) := by decide +kernel
theorem d4_54 : decode jdk_42_method_149_code 54 = .ok (.putfield 9, 3) := by decide +kernel
theorem d4_57 : decode jdk_42_method_149_code 57 = .ok (.return_, 1) := by decide +kernel
theorem pn_4 : plainName "java/lang/String" = true := by first | (simp [plainName, overriddenIn]; done) | decide +kernel
theorem pd_rm4_0 : parseMethodDescriptor "([CII)[B" = some ⟨[(.array .char), .int, .int], some (.array .byte)⟩ := by decide +kernel
theorem pd_rm4_1 : parseMethodDescriptor "([BI)B" = some ⟨[(.array .byte), .int], some .byte⟩ := by decide +kernel
theorem ef_rm4 (m : MethodId) (a1 : Addr) (b1 : Addr) (p3 : Int32) : entryFrame m #[(.ref a1), (.ref b1), (.int (0 : Int32)), (.int p3), .null] 6 = mkF m 0 #[.val (.ref a1), .val (.ref b1), .val (.int (0 : Int32)), .val (.int p3), .val .null, .unset] [] := by first | (simp [entryFrame, mkF, argsToLocals, Value.category]; done) | rfl
def Q4 (Z : State) (a1 : Addr) (b1 : Addr) (p3 : Int32) (w1 : Int32) (k1 : ClassId) (cs : List Int32) (h0 : Heap) (n0 : Nat) (v : Option Value) (h : Heap) (L : List Loc) : Prop := v = none ∧ Fr n0 L ∧ Keep h0 h [a1] ∧ ∃ (b : Addr) (k : ClassId), own_S Z h a1 b k (cs.map own_b)
set_option maxRecDepth 65536 in
set_option maxHeartbeats 40000000 in
theorem rm4 (l : Launch) (Z : State) (a0 : Array Value) (hw : ∀ d ∈ tables_1, d.before a0 Z = true) (ws : List Jvm.Cond) (a1 : Addr) (b1 : Addr) (p3 : Int32) (w1 : Int32) (k1 : ClassId) (cs : List Int32) (h0 : Heap) (n0 : Nat) (Z0 : n0 ≤ h0.size) (S_C : Sta Z h0 "java/lang/String" "COMPACT_STRINGS" "Z" (.int w1)) (c0 : ¬ w1 = 0) (F_value_a1 : Fld Z h0 a1 "java/lang/String" "value" "[B" .null) (F_coder_a1 : Fld Z h0 a1 "java/lang/String" "coder" "B" (.int (0 : Int32))) (E_a1 : Exa Z h0 a1 "java/lang/String") (g_a1 : n0 ≤ a1) (C1 : own_Ch Z h0 b1 k1 cs) (e3 : p3 = Int32.ofNat cs.length) (h8 : cs.length ≤ 8) (hp : ¬ p3 = 0) :
    MetFree l (⟨"java/lang/String", "<init>", "([CIILjava/lang/Void;)V"⟩ : MethodName) (head1 (Jvm.Cond.code (⟨"java/lang/String", "<init>", "([CIILjava/lang/Void;)V"⟩ : MethodName) jdk_42_method_149_code 6 none :: ws) ({ frames := 2, cells := 1, slots := 8, locals := 35 } : Room)) (fun a U => a = #[(.ref a1), (.ref b1), (.int (0 : Int32)), (.int p3), .null] ∧ Z.Warmed39 U.vm ∧ U.heap = h0) (fun _ _ _ _ _ => True) (fun _ U o U' => ∃ v L, o = .returned v ∧ Q4 Z a1 b1 p3 w1 k1 cs h0 n0 v U'.heap L ∧ FrameEnd U o U' L ({ frames := 2, cells := 1, slots := 8, locals := 35 } : Room).cells ({ frames := 2, cells := 1, slots := 8, locals := 35 } : Room).slots) := by
  refine MetFree.of_bodySF (plainFor_of_name pn_4) hisR ?_
  intro p e s m args below meth c s₁ Bd hml0 hP hK
  obtain ⟨rfl, hZ, hh⟩ := hP
  have hx := Bd.exec
  have hby := Bd.bytes
  have hml : c.maxLocals = 6 := hml0
  have hown : s.vm.findClass "java/lang/String" = some m.cls := findClass_of_methodNamed Bd.named
  have hnm := (name_of_methodNamed Bd.named Bd.method).1
  have hlk := BodyLoose.notSynchronized Bd
  have hrt := Bd.returns
  have X0 : Stand p l e ({ frames := 2, cells := 1, slots := 8, locals := 35 } : Room) s m #[(.ref a1), (.ref b1), (.int (0 : Int32)), (.int p3), .null] below meth c s₁ [] 0 0 := Stand.of_body Bd
  have e0 : s₁.heap = h0 := by rw [← hh, Bd.state]; rfl
  have N0 := Fr.nil n0
  show OEnds p e below s (Q4 Z a1 b1 p3 w1 k1 cs h0 n0) ({ frames := 2, cells := 1, slots := 8, locals := 35 } : Room).cells ({ frames := 2, cells := 1, slots := 8, locals := 35 } : Room).slots (s₁.setTop (entryFrame m #[(.ref a1), (.ref b1), (.int (0 : Int32)), (.int p3), .null] 6))
  refine OEnds.go (t' := s₁.setTop (mkF m 0 #[.val (.ref a1), .val (.ref b1), .val (.int (0 : Int32)), .val (.int p3), .val .null, .unset] [])) (fun t k => castTop (ef_rm4 m a1 b1 p3) k) ?_
  have lt_a1 := E_a1.lt
  refine OEnds.go (t' := s₁.setTop (mkF m 1 #[.val (.ref a1), .val (.ref b1), .val (.int (0 : Int32)), .val (.int p3), .val .null, .unset] [(.ref a1)])) (fun _ k => ?_) ?_
  · show Steps p.tables e below (s₁.setTop (mkF m 0 #[.val (.ref a1), .val (.ref b1), .val (.int (0 : Int32)), .val (.int p3), .val .null, .unset] [])) _
    refine XS.aloadN X0.here hx rfl (hb hby d4_0) rfl rfl ?_
    show Steps p.tables e below (s₁.setTop (mkF m 1 #[.val (.ref a1), .val (.ref b1), .val (.int (0 : Int32)), .val (.int p3), .val .null, .unset] [(.ref a1)])) _
    exact k
  obtain ⟨T1, X1, e1, st1⟩ := initO X0 hx hZ hown (hw _ (List.mem_of_getElem? (i := 18) rfl)) (hw _ (List.mem_of_getElem? (i := 19) rfl)) (hw _ (List.mem_of_getElem? (i := 20) rfl)) e0 (g := (mkF m 1 #[.val (.ref a1), .val (.ref b1), .val (.int (0 : Int32)), .val (.int p3), .val .null, .unset] [(.ref a1)])) rfl (by rw [hml]; rfl) rfl (hb hby d4_1) (by decide) (W := 0) (by show 2 * 0 + _ ≤ _; exact Nat.le_of_eq rfl) (by decide)
  refine OEnds.go (t' := T1.setTop (mkF m 4 #[.val (.ref a1), .val (.ref b1), .val (.int (0 : Int32)), .val (.int p3), .val .null, .unset] [])) (fun _ k => st1 _ k) ?_
  refine OEnds.go (t' := T1.setTop (mkF m 5 #[.val (.ref a1), .val (.ref b1), .val (.int (0 : Int32)), .val (.int p3), .val .null, .unset] [(.int p3)])) (fun _ k => ?_) ?_
  · show Steps p.tables e below (T1.setTop (mkF m 4 #[.val (.ref a1), .val (.ref b1), .val (.int (0 : Int32)), .val (.int p3), .val .null, .unset] [])) _
    refine XS.iloadN X1.here hx rfl (hb hby d4_4) rfl ?_
    show Steps p.tables e below (T1.setTop (mkF m 5 #[.val (.ref a1), .val (.ref b1), .val (.int (0 : Int32)), .val (.int p3), .val .null, .unset] [(.int p3)])) _
    exact k
  refine OEnds.go (t' := T1.setTop (mkF m 27 #[.val (.ref a1), .val (.ref b1), .val (.int (0 : Int32)), .val (.int p3), .val .null, .unset] [])) (fun _ k => XS.ifYes X1.here hx rfl (pc0 := 5) (pc' := 27) rfl (hb hby d4_5) rfl ((if0 _ _).trans (feq hp).2) (by decide) (by decide) k) ?_
  obtain ⟨T2, X2, e2, st2⟩ := getS2 X1 hx hZ hown (host := "") (Or.inl (hw _ (List.mem_of_getElem? (i := 89) rfl))) Via.refl e1 S_C (g := (mkF m 27 #[.val (.ref a1), .val (.ref b1), .val (.int (0 : Int32)), .val (.int p3), .val .null, .unset] [])) rfl (hb hby d4_27)
  refine OEnds.go (t' := T2.setTop (mkF m 30 #[.val (.ref a1), .val (.ref b1), .val (.int (0 : Int32)), .val (.int p3), .val .null, .unset] [(.int w1)])) (fun _ k => st2 _ k) ?_
  refine OEnds.go (t' := T2.setTop (mkF m 33 #[.val (.ref a1), .val (.ref b1), .val (.int (0 : Int32)), .val (.int p3), .val .null, .unset] [])) (fun _ k => XS.ifNo X2.here hx rfl (hb hby d4_30) rfl ((if0 _ _).trans (feq c0).1) k) ?_
  refine OEnds.go (t' := T2.setTop (mkF m 36 #[.val (.ref a1), .val (.ref b1), .val (.int (0 : Int32)), .val (.int p3), .val .null, .unset] [(.int p3), (.int (0 : Int32)), (.ref b1)])) (fun _ k => ?_) ?_
  · show Steps p.tables e below (T2.setTop (mkF m 33 #[.val (.ref a1), .val (.ref b1), .val (.int (0 : Int32)), .val (.int p3), .val .null, .unset] [])) _
    refine XS.aloadN X2.here hx rfl (hb hby d4_33) rfl rfl ?_
    show Steps p.tables e below (T2.setTop (mkF m 34 #[.val (.ref a1), .val (.ref b1), .val (.int (0 : Int32)), .val (.int p3), .val .null, .unset] [(.ref b1)])) _
    refine XS.iloadN X2.here hx rfl (hb hby d4_34) rfl ?_
    show Steps p.tables e below (T2.setTop (mkF m 35 #[.val (.ref a1), .val (.ref b1), .val (.int (0 : Int32)), .val (.int p3), .val .null, .unset] [(.int (0 : Int32)), (.ref b1)])) _
    refine XS.iloadN X2.here hx rfl (hb hby d4_35) rfl ?_
    show Steps p.tables e below (T2.setTop (mkF m 36 #[.val (.ref a1), .val (.ref b1), .val (.int (0 : Int32)), .val (.int p3), .val .null, .unset] [(.int p3), (.int (0 : Int32)), (.ref b1)])) _
    exact k
  obtain ⟨_, _, ⟨T3, L3, k3, n3⟩, -, X3, ⟨Lc3, hQ3, l3, y3, z3⟩, st3⟩ := Jvm.LawKit.callS X2 hx (y := (⟨"java/lang/StringUTF16", "compress", "([CII)[B"⟩ : MethodName)) hown (mvT hZ (hw _ (List.mem_of_getElem? (i := 97) rfl))) (mvT hZ (hw _ (List.mem_of_getElem? (i := 98) rfl))) (mvT hZ (hw _ (List.mem_of_getElem? (i := 99) rfl))) (mvT hZ (hw _ (List.mem_of_getElem? (i := 100) rfl))) (by decide) (backOf (W := 0) (rm16 l Z a0 hw [] b1 p3 k1 cs h0 n0 Z0 C1 e3 h8) hZ (hw _ (List.mem_of_getElem? (i := 100) rfl)) (hw _ (List.mem_of_getElem? (i := 99) rfl)) (by decide) (by decide)) (g := (mkF m 36 #[.val (.ref a1), .val (.ref b1), .val (.int (0 : Int32)), .val (.int p3), .val .null, .unset] [(.int p3), (.int (0 : Int32)), (.ref b1)])) rfl (by rw [hml]; rfl) (argsL := [(.ref b1), (.int (0 : Int32)), (.int p3)]) (rest := []) (lenOf pd_rm4_0 rfl) rfl (by show 2 * 0 + _ ≤ _; exact Nat.le_of_eq rfl) (hb hby d4_36) (fun _ _ => ⟨rfl, e2, (by decide : 0 + 1 ≤ _), (by decide : 0 + 8 ≤ _)⟩)
  dsimp only [Pt.U, Pt.locs, Pt.cells, Pt.slots] at X3 l3 y3 z3 st3 hQ3
  subst l3 y3 z3
  obtain ⟨d3, kd3, rfl, N3q, Kc3, V3, sz3, g3⟩ := hQ3
  have N3 := Fr.app N0 N3q
  have E_a1 := E_a1.keep Kc3
  have F_value_a1 := F_value_a1.keep Kc3 nin0
  have F_coder_a1 := F_coder_a1.keep Kc3 nin0
  have Z3 : n0 ≤ T3.heap.size := Nat.le_trans Z0 Kc3.1
  have K3 := (Keep.refl h0 [a1]).trans Kc3 all0
  refine OEnds.go (t' := T3.setTop (mkF m 39 #[.val (.ref a1), .val (.ref b1), .val (.int (0 : Int32)), .val (.int p3), .val .null, .unset] [(.ref d3)])) (fun _ k => st3 _ k) ?_
  have ne_a1_d : a1 ≠ d3 := Nat.ne_of_lt (Nat.lt_of_lt_of_le lt_a1 sz3)
  refine OEnds.go (t' := T3.setTop (mkF m 45 #[.val (.ref a1), .val (.ref b1), .val (.int (0 : Int32)), .val (.int p3), .val .null, .val (.ref d3)] [(.int p3), (.ref d3), (.ref a1)])) (fun _ k => ?_) ?_
  · show Steps p.tables e below (T3.setTop (mkF m 39 #[.val (.ref a1), .val (.ref b1), .val (.int (0 : Int32)), .val (.int p3), .val .null, .unset] [(.ref d3)])) _
    refine XS.astore X3.here hx rfl (hb hby d4_39) rfl rfl (l' := #[.val (.ref a1), .val (.ref b1), .val (.int (0 : Int32)), .val (.int p3), .val .null, .val (.ref d3)]) rfl ?_
    show Steps p.tables e below (T3.setTop (mkF m 41 #[.val (.ref a1), .val (.ref b1), .val (.int (0 : Int32)), .val (.int p3), .val .null, .val (.ref d3)] [])) _
    refine XS.aloadN X3.here hx rfl (hb hby d4_41) rfl rfl ?_
    show Steps p.tables e below (T3.setTop (mkF m 42 #[.val (.ref a1), .val (.ref b1), .val (.int (0 : Int32)), .val (.int p3), .val .null, .val (.ref d3)] [(.ref a1)])) _
    refine XS.aload X3.here hx rfl (hb hby d4_42) rfl rfl ?_
    show Steps p.tables e below (T3.setTop (mkF m 44 #[.val (.ref a1), .val (.ref b1), .val (.int (0 : Int32)), .val (.int p3), .val .null, .val (.ref d3)] [(.ref d3), (.ref a1)])) _
    refine XS.iloadN X3.here hx rfl (hb hby d4_44) rfl ?_
    show Steps p.tables e below (T3.setTop (mkF m 45 #[.val (.ref a1), .val (.ref b1), .val (.int (0 : Int32)), .val (.int p3), .val .null, .val (.ref d3)] [(.int p3), (.ref d3), (.ref a1)])) _
    exact k
  obtain ⟨_, _, ⟨T4, L4, k4, n4⟩, -, X4, ⟨Lc4, hQ4, l4, y4, z4⟩, st4⟩ := Jvm.LawKit.callS X3 hx (y := (⟨"java/lang/StringUTF16", "coderFromArrayLen", "([BI)B"⟩ : MethodName)) hown (mvT hZ (hw _ (List.mem_of_getElem? (i := 104) rfl))) (mvT hZ (hw _ (List.mem_of_getElem? (i := 105) rfl))) (mvT hZ (hw _ (List.mem_of_getElem? (i := 99) rfl))) (mvT hZ (hw _ (List.mem_of_getElem? (i := 106) rfl))) (by decide) (backOf (W := 1) (rm18 l Z a0 hw [] d3 p3 kd3 (cs.map own_b) T3.heap n0 Z3 V3 (by rw [List.length_map]; exact e3)) hZ (hw _ (List.mem_of_getElem? (i := 106) rfl)) (hw _ (List.mem_of_getElem? (i := 99) rfl)) (by decide) (by decide)) (g := (mkF m 45 #[.val (.ref a1), .val (.ref b1), .val (.int (0 : Int32)), .val (.int p3), .val .null, .val (.ref d3)] [(.int p3), (.ref d3), (.ref a1)])) rfl (by rw [hml]; rfl) (argsL := [(.ref d3), (.int p3)]) (rest := [(.ref a1)]) (lenOf pd_rm4_1 rfl) rfl (by show 2 * 0 + _ ≤ _; exact Nat.le_of_eq rfl) (hb hby d4_45) (fun _ _ => ⟨rfl, rfl, (by decide : 1 + 0 ≤ _), (by decide : 8 + 0 ≤ _)⟩)
  dsimp only [Pt.U, Pt.locs, Pt.cells, Pt.slots] at X4 l4 y4 z4 st4 hQ4
  subst l4 y4 z4
  obtain ⟨rfl, N4q, eh⟩ := hQ4
  have N4 := Fr.app N3 N4q
  have eh4 := eh
  refine OEnds.go (t' := T4.setTop (mkF m 48 #[.val (.ref a1), .val (.ref b1), .val (.int (0 : Int32)), .val (.int p3), .val .null, .val (.ref d3)] [(.int (0 : Int32)), (.ref a1)])) (fun _ k => st4 _ k) ?_
  obtain ⟨T5, h5, X5, e5, W5, st5⟩ := putFN X4 hx hZ hown (hw _ (List.mem_of_getElem? (i := 28) rfl)) Via.refl eh4 F_coder_a1 E_a1 (Or.inr ⟨(hw _ (List.mem_of_getElem? (i := 24) rfl)), rfl, hnm⟩) (hw _ (List.mem_of_getElem? (i := 9) rfl)) (ty := .byte) (v' := (.int (0 : Int32))) (by decide) rfl rfl (g := (mkF m 48 #[.val (.ref a1), .val (.ref b1), .val (.int (0 : Int32)), .val (.int p3), .val .null, .val (.ref d3)] [(.int (0 : Int32)), (.ref a1)])) rfl rfl (hb hby d4_48)
  have N5 := Fr.snoc X5 N4 g_a1
  have E_a1 := E_a1.wr W5
  have F_value_a1 := F_value_a1.other W5 (Or.inr (slot_ne (Or.inr (hw _ (List.mem_of_getElem? (i := 23) rfl))) (Or.inr (hw _ (List.mem_of_getElem? (i := 24) rfl))) (by decide) (t := (.array .byte)) (t' := .byte) (by decide) (by decide)))
  have F_coder_a1 := F_coder_a1.same W5
  have V3 := V3.other W5 (Ne.symm ne_a1_d)
  have Z5 : n0 ≤ h5.size := Nat.le_trans Z3 (Keep.of_wr W5).1
  have K5 := K3.wr W5 (Or.inl (List.mem_of_getElem? (i := 0) rfl))
  refine OEnds.go (t' := T5.setTop (mkF m 51 #[.val (.ref a1), .val (.ref b1), .val (.int (0 : Int32)), .val (.int p3), .val .null, .val (.ref d3)] [])) (fun _ k => st5 _ k) ?_
  refine OEnds.go (t' := T5.setTop (mkF m 54 #[.val (.ref a1), .val (.ref b1), .val (.int (0 : Int32)), .val (.int p3), .val .null, .val (.ref d3)] [(.ref d3), (.ref a1)])) (fun _ k => ?_) ?_
  · show Steps p.tables e below (T5.setTop (mkF m 51 #[.val (.ref a1), .val (.ref b1), .val (.int (0 : Int32)), .val (.int p3), .val .null, .val (.ref d3)] [])) _
    refine XS.aloadN X5.here hx rfl (hb hby d4_51) rfl rfl ?_
    show Steps p.tables e below (T5.setTop (mkF m 52 #[.val (.ref a1), .val (.ref b1), .val (.int (0 : Int32)), .val (.int p3), .val .null, .val (.ref d3)] [(.ref a1)])) _
    refine XS.aload X5.here hx rfl (hb hby d4_52) rfl rfl ?_
    show Steps p.tables e below (T5.setTop (mkF m 54 #[.val (.ref a1), .val (.ref b1), .val (.int (0 : Int32)), .val (.int p3), .val .null, .val (.ref d3)] [(.ref d3), (.ref a1)])) _
    exact k
  obtain ⟨T6, h6, X6, e6, W6, st6⟩ := putF X5 hx hZ hown (host := "") (Or.inl (hw _ (List.mem_of_getElem? (i := 27) rfl))) Via.refl e5 F_value_a1 E_a1 (Or.inr ⟨(hw _ (List.mem_of_getElem? (i := 23) rfl)), rfl, hnm⟩) (hw _ (List.mem_of_getElem? (i := 9) rfl)) (ty := (.array .byte)) (by decide) rfl rfl (g := (mkF m 54 #[.val (.ref a1), .val (.ref b1), .val (.int (0 : Int32)), .val (.int p3), .val .null, .val (.ref d3)] [(.ref d3), (.ref a1)])) rfl rfl (hb hby d4_54)
  have N6 := Fr.snoc X6 N5 g_a1
  have E_a1 := E_a1.wr W6
  have F_value_a1 := F_value_a1.same W6
  have F_coder_a1 := F_coder_a1.other W6 (Or.inr (slot_ne (Or.inr (hw _ (List.mem_of_getElem? (i := 24) rfl))) (Or.inr (hw _ (List.mem_of_getElem? (i := 23) rfl))) (by decide) (t := .byte) (t' := (.array .byte)) (by decide) (by decide)))
  have V3 := V3.other W6 (Ne.symm ne_a1_d)
  have Z6 : n0 ≤ h6.size := Nat.le_trans Z5 (Keep.of_wr W6).1
  have K6 := K5.wr W6 (Or.inl (List.mem_of_getElem? (i := 0) rfl))
  refine OEnds.go (t' := T6.setTop (mkF m 57 #[.val (.ref a1), .val (.ref b1), .val (.int (0 : Int32)), .val (.int p3), .val .null, .val (.ref d3)] [])) (fun _ k => st6 _ k) ?_
  refine OEnds.back X6 hlk (v := none) (fun _ => rfl) (fun fs hr => ?_) ?_ (by decide) (by decide)
  · exact X6.returnOut hx hrt (hb hby d4_57) hr
  · show Q4 Z a1 b1 p3 w1 k1 cs h0 n0 _ T6.heap _
    rw [e6]
    exact ⟨rfl, N6, K6, _, _, E_a1, F_coder_a1, F_value_a1, V3⟩
theorem d3_0 : decode jdk_42_method_3_code 0 = .ok (.aload_n 0, 1) := by decide +kernel
theorem d3_1 : decode jdk_42_method_3_code 1 = .ok (.aload_n 1, 1) := by decide +kernel
theorem d3_2 : decode jdk_42_method_3_code 2 = .ok (.iconst 0, 1) := by decide +kernel
theorem d3_3 : decode jdk_42_method_3_code 3 = .ok (.aload_n 1, 1) := by decide +kernel
theorem d3_4 : decode jdk_42_method_3_code 4 = .ok (.arraylength, 1) := by decide +kernel
theorem d3_5 : decode jdk_42_method_3_code 5 = .ok (.aconst_null, 1) := by decide +kernel
theorem d3_6 : decode jdk_42_method_3_code 6 = .ok (.invokespecial 27, 3) := by decide +kernel
theorem d3_9 : decode jdk_42_method_3_code 9 = .ok (.return_, 1) := by decide +kernel
theorem pn_3 : plainName "java/lang/String" = true := by first | (simp [plainName, overriddenIn]; done) | decide +kernel
theorem pd_rm3_0 : parseMethodDescriptor "([CIILjava/lang/Void;)V" = some ⟨[(.array .char), .int, .int, (.object "java/lang/Void")], none⟩ := by decide +kernel
theorem ef_rm3 (m : MethodId) (a1 : Addr) (b1 : Addr) : entryFrame m #[(.ref a1), (.ref b1)] 2 = mkF m 0 #[.val (.ref a1), .val (.ref b1)] [] := by first | (simp [entryFrame, mkF, argsToLocals, Value.category]; done) | rfl
def Q3 (Z : State) (a1 : Addr) (b1 : Addr) (w1 : Int32) (k1 : ClassId) (cs : List Int32) (h0 : Heap) (n0 : Nat) (v : Option Value) (h : Heap) (L : List Loc) : Prop := v = none ∧ Fr n0 L ∧ Keep h0 h [a1] ∧ ∃ (b : Addr) (k : ClassId), own_S Z h a1 b k (cs.map own_b)
set_option maxRecDepth 65536 in
set_option maxHeartbeats 40000000 in
theorem rm3 (l : Launch) (Z : State) (a0 : Array Value) (hw : ∀ d ∈ tables_1, d.before a0 Z = true) (ws : List Jvm.Cond) (a1 : Addr) (b1 : Addr) (w1 : Int32) (k1 : ClassId) (cs : List Int32) (h0 : Heap) (n0 : Nat) (Z0 : n0 ≤ h0.size) (S_C : Sta Z h0 "java/lang/String" "COMPACT_STRINGS" "Z" (.int w1)) (c0 : ¬ w1 = 0) (F_value_a1 : Fld Z h0 a1 "java/lang/String" "value" "[B" .null) (F_coder_a1 : Fld Z h0 a1 "java/lang/String" "coder" "B" (.int (0 : Int32))) (E_a1 : Exa Z h0 a1 "java/lang/String") (g_a1 : n0 ≤ a1) (C1 : own_Ch Z h0 b1 k1 cs) (h8 : cs.length ≤ 8) (hp : 0 < cs.length) :
    MetFree l (⟨"java/lang/String", "<init>", "([C)V"⟩ : MethodName) (head1 (Jvm.Cond.code (⟨"java/lang/String", "<init>", "([C)V"⟩ : MethodName) jdk_42_method_3_code 2 none :: ws) ({ frames := 3, cells := 1, slots := 8, locals := 52 } : Room)) (fun a U => a = #[(.ref a1), (.ref b1)] ∧ Z.Warmed39 U.vm ∧ U.heap = h0) (fun _ _ _ _ _ => True) (fun _ U o U' => ∃ v L, o = .returned v ∧ Q3 Z a1 b1 w1 k1 cs h0 n0 v U'.heap L ∧ FrameEnd U o U' L ({ frames := 3, cells := 1, slots := 8, locals := 52 } : Room).cells ({ frames := 3, cells := 1, slots := 8, locals := 52 } : Room).slots) := by
  refine MetFree.of_bodySF (plainFor_of_name pn_3) hisR ?_
  intro p e s m args below meth c s₁ Bd hml0 hP hK
  obtain ⟨rfl, hZ, hh⟩ := hP
  have hx := Bd.exec
  have hby := Bd.bytes
  have hml : c.maxLocals = 2 := hml0
  have hown : s.vm.findClass "java/lang/String" = some m.cls := findClass_of_methodNamed Bd.named
  have hnm := (name_of_methodNamed Bd.named Bd.method).1
  have hlk := BodyLoose.notSynchronized Bd
  have hrt := Bd.returns
  have X0 : Stand p l e ({ frames := 3, cells := 1, slots := 8, locals := 52 } : Room) s m #[(.ref a1), (.ref b1)] below meth c s₁ [] 0 0 := Stand.of_body Bd
  have e0 : s₁.heap = h0 := by rw [← hh, Bd.state]; rfl
  have N0 := Fr.nil n0
  show OEnds p e below s (Q3 Z a1 b1 w1 k1 cs h0 n0) ({ frames := 3, cells := 1, slots := 8, locals := 52 } : Room).cells ({ frames := 3, cells := 1, slots := 8, locals := 52 } : Room).slots (s₁.setTop (entryFrame m #[(.ref a1), (.ref b1)] 2))
  refine OEnds.go (t' := s₁.setTop (mkF m 0 #[.val (.ref a1), .val (.ref b1)] [])) (fun t k => castTop (ef_rm3 m a1 b1) k) ?_
  refine OEnds.go (t' := s₁.setTop (mkF m 4 #[.val (.ref a1), .val (.ref b1)] [(.ref b1), (.int (0 : Int32)), (.ref b1), (.ref a1)])) (fun _ k => ?_) ?_
  · show Steps p.tables e below (s₁.setTop (mkF m 0 #[.val (.ref a1), .val (.ref b1)] [])) _
    refine XS.aloadN X0.here hx rfl (hb hby d3_0) rfl rfl ?_
    show Steps p.tables e below (s₁.setTop (mkF m 1 #[.val (.ref a1), .val (.ref b1)] [(.ref a1)])) _
    refine XS.aloadN X0.here hx rfl (hb hby d3_1) rfl rfl ?_
    show Steps p.tables e below (s₁.setTop (mkF m 2 #[.val (.ref a1), .val (.ref b1)] [(.ref b1), (.ref a1)])) _
    refine XS.iconst X0.here hx rfl (hb hby d3_2) ?_
    show Steps p.tables e below (s₁.setTop (mkF m 3 #[.val (.ref a1), .val (.ref b1)] [(.int (0 : Int32)), (.ref b1), (.ref a1)])) _
    refine XS.aloadN X0.here hx rfl (hb hby d3_3) rfl rfl ?_
    show Steps p.tables e below (s₁.setTop (mkF m 4 #[.val (.ref a1), .val (.ref b1)] [(.ref b1), (.int (0 : Int32)), (.ref b1), (.ref a1)])) _
    exact k
  obtain ⟨cl1, Ar1, hl1⟩ := own_clen C1
  refine OEnds.go (t' := s₁.setTop (mkF m 5 #[.val (.ref a1), .val (.ref b1)] [(.int cl1.slots.size.toInt32), (.int (0 : Int32)), (.ref b1), (.ref a1)])) (fun _ k => X0.arraylength hx (by rw [e0]; exact Ar1.1) (State.isArrayOf_alike hZ.alike Ar1.2.1) (g := (mkF m 4 #[.val (.ref a1), .val (.ref b1)] [(.ref b1), (.int (0 : Int32)), (.ref b1), (.ref a1)])) rfl rfl (hb hby d3_4) _ k) ?_
  rw [hl1]
  refine OEnds.go (t' := s₁.setTop (mkF m 6 #[.val (.ref a1), .val (.ref b1)] [.null, (.int (Int32.ofNat cs.length)), (.int (0 : Int32)), (.ref b1), (.ref a1)])) (fun _ k => ?_) ?_
  · show Steps p.tables e below (s₁.setTop (mkF m 5 #[.val (.ref a1), .val (.ref b1)] [(.int (Int32.ofNat cs.length)), (.int (0 : Int32)), (.ref b1), (.ref a1)])) _
    refine XS.aconstNull X0.here hx rfl (hb hby d3_5) ?_
    show Steps p.tables e below (s₁.setTop (mkF m 6 #[.val (.ref a1), .val (.ref b1)] [.null, (.int (Int32.ofNat cs.length)), (.int (0 : Int32)), (.ref b1), (.ref a1)])) _
    exact k
  obtain ⟨_, _, ⟨T2, L2, k2, n2⟩, -, X2, ⟨Lc2, hQ2, l2, y2, z2⟩, st2⟩ := X0.specialBack hx (y := (⟨"java/lang/String", "<init>", "([CIILjava/lang/Void;)V"⟩ : MethodName)) rfl hown (mvT hZ (hw _ (List.mem_of_getElem? (i := 14) rfl))) (mvT hZ (hw _ (List.mem_of_getElem? (i := 15) rfl))) (mvT hZ (hw _ (List.mem_of_getElem? (i := 17) rfl))) (by decide) (backOf (W := 0) (rm4 l Z a0 hw [] a1 b1 (Int32.ofNat cs.length) w1 k1 cs h0 n0 Z0 S_C c0 F_value_a1 F_coder_a1 E_a1 g_a1 C1 rfl h8 (fun q => absurd (own_ofNat_inj (i := cs.length) (j := 0) (by omega) (by decide) q) (by omega))) hZ (hw _ (List.mem_of_getElem? (i := 17) rfl)) (hw _ (List.mem_of_getElem? (i := 10) rfl)) (by decide) (by decide)) (g := (mkF m 6 #[.val (.ref a1), .val (.ref b1)] [.null, (.int (Int32.ofNat cs.length)), (.int (0 : Int32)), (.ref b1), (.ref a1)])) rfl (by rw [hml]; rfl) (Steps.refl _) (a := a1) (argsL := [(.ref b1), (.int (0 : Int32)), (.int (Int32.ofNat cs.length)), .null]) (rest := []) (lenOf pd_rm3_0 rfl) rfl (by show 2 * 0 + _ ≤ _; exact Nat.le_of_eq rfl) (hb hby d3_6) (fun _ _ => ⟨rfl, e0, (by decide : 0 + 1 ≤ _), (by decide : 0 + 8 ≤ _)⟩)
  dsimp only [Pt.U, Pt.locs, Pt.cells, Pt.slots] at X2 l2 y2 z2 st2 hQ2
  subst l2 y2 z2
  obtain ⟨rfl, N2q, Kc2, hs2⟩ := hQ2
  have N2 := Fr.app N0 N2q
  have Z2 : n0 ≤ T2.heap.size := Nat.le_trans Z0 Kc2.1
  refine OEnds.go (t' := T2.setTop (mkF m 9 #[.val (.ref a1), .val (.ref b1)] [])) (fun _ k => st2.trans k) ?_
  refine OEnds.back X2 hlk (v := none) (fun _ => rfl) (fun fs hr => ?_) ?_ (by decide) (by decide)
  · exact X2.returnOut hx hrt (hb hby d3_9) hr
  · show Q3 Z a1 b1 w1 k1 cs h0 n0 _ T2.heap _
    exact ⟨rfl, N2, Kc2, hs2⟩
theorem d4_8 : decode jdk_42_method_149_code 8 = .ok (.aload_n 0, 1) := by decide +kernel
theorem d4_9 : decode jdk_42_method_149_code 9 = .ok (.ldc 7, 2) := by decide +kernel
theorem d4_11 : decode jdk_42_method_149_code 11 = .ok (.getfield 9, 3) := by decide +kernel
theorem d4_14 : decode jdk_42_method_149_code 14 = .ok (.putfield 9, 3) := by decide +kernel
theorem d4_17 : decode jdk_42_method_149_code 17 = .ok (.aload_n 0, 1) := by decide +kernel
theorem d4_18 : decode jdk_42_method_149_code 18 = .ok (.ldc 7, 2) := by decide +kernel
theorem d4_20 : decode jdk_42_method_149_code 20 = .ok (.getfield 15, 3) := by decide +kernel
theorem d4_23 : decode jdk_42_method_149_code 23 = .ok (.putfield 15, 3) := by decide +kernel
theorem d4_26 : decode jdk_42_method_149_code 26 = .ok (.return_, 1) := by decide +kernel
theorem ef_rmE4 (m : MethodId) (a1 : Addr) (b1 : Addr) : entryFrame m #[(.ref a1), (.ref b1), (.int (0 : Int32)), (.int (0 : Int32)), .null] 6 = mkF m 0 #[.val (.ref a1), .val (.ref b1), .val (.int (0 : Int32)), .val (.int (0 : Int32)), .val .null, .unset] [] := by first | (simp [entryFrame, mkF, argsToLocals, Value.category]; done) | rfl
def QE4 (Z : State) (a1 : Addr) (b1 : Addr)  (h0 : Heap) (n0 : Nat) (v : Option Value) (h : Heap) (vm : Vm) (L : List Loc) : Prop := v = none ∧ Fr n0 L ∧ Keep h0 h [a1] ∧ (∃ (b : Addr) (k : ClassId), own_S Z h a1 b k []) ∧ own_Ev Z vm h
set_option maxRecDepth 65536 in
set_option maxHeartbeats 40000000 in
theorem rmE4 (l : Launch) (Z : State) (a0 : Array Value) (hw : ∀ d ∈ tables_1, d.before a0 Z = true) (ws : List Jvm.Cond) (a1 : Addr) (b1 : Addr)  (h0 : Heap) (n0 : Nat) (Z0 : n0 ≤ h0.size) (hzo : Old Z n0 h0) (hcw : Jvm.Lit.compactW.before a0 Z = true) (hH : Jvm.Lit.constHeld Z "java/lang/String" 7) (F_value_a1 : Fld Z h0 a1 "java/lang/String" "value" "[B" .null) (F_coder_a1 : Fld Z h0 a1 "java/lang/String" "coder" "B" (.int (0 : Int32))) (E_a1 : Exa Z h0 a1 "java/lang/String") (g_a1 : n0 ≤ a1) :
    MetFree l (⟨"java/lang/String", "<init>", "([CIILjava/lang/Void;)V"⟩ : MethodName) (head1 (Jvm.Cond.code (⟨"java/lang/String", "<init>", "([CIILjava/lang/Void;)V"⟩ : MethodName) jdk_42_method_149_code 6 none :: ws) ({ frames := 1, cells := 2, slots := 4, locals := 12 } : Room)) (fun a U => a = #[(.ref a1), (.ref b1), (.int (0 : Int32)), (.int (0 : Int32)), .null] ∧ Z.Warmed39 U.vm ∧ U.heap = h0 ∧ own_Ev Z U.vm h0) (fun _ _ _ _ _ => True) (fun _ U o U' => ∃ v L, o = .returned v ∧ QE4 Z a1 b1  h0 n0 v U'.heap U'.vm L ∧ ReturnedEndW U o U' L ({ frames := 1, cells := 2, slots := 4, locals := 12 } : Room).cells ({ frames := 1, cells := 2, slots := 4, locals := 12 } : Room).slots) := by
  refine MetFree.of_bodySF (plainFor_of_name pn_4) hisR ?_
  intro p e s m args below meth c s₁ Bd hml0 hP hK
  obtain ⟨rfl, hZ, hh, hpv⟩ := hP
  have hx := Bd.exec
  have hby := Bd.bytes
  have hml : c.maxLocals = 6 := hml0
  have hown : s.vm.findClass "java/lang/String" = some m.cls := findClass_of_methodNamed Bd.named
  have hnm := (name_of_methodNamed Bd.named Bd.method).1
  have hlk := BodyLoose.notSynchronized Bd
  have hrt := Bd.returns
  have X0 : Stand p l e ({ frames := 1, cells := 2, slots := 4, locals := 12 } : Room) s m #[(.ref a1), (.ref b1), (.int (0 : Int32)), (.int (0 : Int32)), .null] below meth c s₁ [] 0 0 := Stand.of_body Bd
  have e0 : s₁.heap = h0 := by rw [← hh, Bd.state]; rfl
  have N0 := Fr.nil n0
  have hS0 : s.Since s.vm 0 := (State.WarmedH.refl s).since 0
  have IB0 := hpv
  have hkp : ∀ (b : Addr) (cl : Cell), Z.heap[b]? = some cl → s.heap[b]? = some cl := fun b cl q => by rw [hh]; exact hzo.2.2 b cl q
  show OEndsW p e below s (QE4 Z a1 b1  h0 n0) ({ frames := 1, cells := 2, slots := 4, locals := 12 } : Room).cells ({ frames := 1, cells := 2, slots := 4, locals := 12 } : Room).slots (s₁.setTop (entryFrame m #[(.ref a1), (.ref b1), (.int (0 : Int32)), (.int (0 : Int32)), .null] 6))
  refine OEndsW.go (t' := s₁.setTop (mkF m 0 #[.val (.ref a1), .val (.ref b1), .val (.int (0 : Int32)), .val (.int (0 : Int32)), .val .null, .unset] [])) (fun t k => castTop (ef_rmE4 m a1 b1) k) ?_
  refine OEndsW.go (t' := s₁.setTop (mkF m 1 #[.val (.ref a1), .val (.ref b1), .val (.int (0 : Int32)), .val (.int (0 : Int32)), .val .null, .unset] [(.ref a1)])) (fun _ k => ?_) ?_
  · show Steps p.tables e below (s₁.setTop (mkF m 0 #[.val (.ref a1), .val (.ref b1), .val (.int (0 : Int32)), .val (.int (0 : Int32)), .val .null, .unset] [])) _
    refine XS.aloadN X0.here hx rfl (hb hby d4_0) rfl rfl ?_
    show Steps p.tables e below (s₁.setTop (mkF m 1 #[.val (.ref a1), .val (.ref b1), .val (.int (0 : Int32)), .val (.int (0 : Int32)), .val .null, .unset] [(.ref a1)])) _
    exact k
  obtain ⟨T1, X1, e1, st1⟩ := initO X0 hx hZ hown (hw _ (List.mem_of_getElem? (i := 18) rfl)) (hw _ (List.mem_of_getElem? (i := 19) rfl)) (hw _ (List.mem_of_getElem? (i := 20) rfl)) e0 (g := (mkF m 1 #[.val (.ref a1), .val (.ref b1), .val (.int (0 : Int32)), .val (.int (0 : Int32)), .val .null, .unset] [(.ref a1)])) rfl (by rw [hml]; rfl) rfl (hb hby d4_1) (by decide) (W := 0) (by show 2 * 0 + _ ≤ _; exact Nat.le_of_eq rfl) (by decide)
  refine OEndsW.go (t' := T1.setTop (mkF m 4 #[.val (.ref a1), .val (.ref b1), .val (.int (0 : Int32)), .val (.int (0 : Int32)), .val .null, .unset] [])) (fun _ k => st1 _ k) ?_
  refine OEndsW.go (t' := T1.setTop (mkF m 5 #[.val (.ref a1), .val (.ref b1), .val (.int (0 : Int32)), .val (.int (0 : Int32)), .val .null, .unset] [(.int (0 : Int32))])) (fun _ k => ?_) ?_
  · show Steps p.tables e below (T1.setTop (mkF m 4 #[.val (.ref a1), .val (.ref b1), .val (.int (0 : Int32)), .val (.int (0 : Int32)), .val .null, .unset] [])) _
    refine XS.iloadN X1.here hx rfl (hb hby d4_4) rfl ?_
    show Steps p.tables e below (T1.setTop (mkF m 5 #[.val (.ref a1), .val (.ref b1), .val (.int (0 : Int32)), .val (.int (0 : Int32)), .val .null, .unset] [(.int (0 : Int32))])) _
    exact k
  refine OEndsW.go (t' := T1.setTop (mkF m 8 #[.val (.ref a1), .val (.ref b1), .val (.int (0 : Int32)), .val (.int (0 : Int32)), .val .null, .unset] [])) (fun _ k => XS.ifNo X1.here hx rfl (hb hby d4_5) rfl ((if0 _ _).trans (teq rfl).2) k) ?_
  refine OEndsW.go (t' := T1.setTop (mkF m 9 #[.val (.ref a1), .val (.ref b1), .val (.int (0 : Int32)), .val (.int (0 : Int32)), .val .null, .unset] [(.ref a1)])) (fun _ k => ?_) ?_
  · show Steps p.tables e below (T1.setTop (mkF m 8 #[.val (.ref a1), .val (.ref b1), .val (.int (0 : Int32)), .val (.int (0 : Int32)), .val .null, .unset] [])) _
    refine XS.aloadN X1.here hx rfl (hb hby d4_8) rfl rfl ?_
    show Steps p.tables e below (T1.setTop (mkF m 9 #[.val (.ref a1), .val (.ref b1), .val (.int (0 : Int32)), .val (.int (0 : Int32)), .val .null, .unset] [(.ref a1)])) _
    exact k
  rcases hpv with IBh | ⟨lit, lit_b, lit_k, LTh, lit_S⟩
  · have wS2 : ∀ a ∈ Bundle.stringAtoms, a.before a0 Z = true := by
      intro d hd
      simp only [Bundle.stringAtoms, List.mem_cons, List.not_mem_nil, or_false] at hd
      rcases hd with rfl | rfl | rfl | rfl | rfl | rfl | rfl
      · exact hw _ (List.mem_of_getElem? (i := 10) rfl)
      · exact hw _ (List.mem_of_getElem? (i := 9) rfl)
      · exact hw _ (List.mem_of_getElem? (i := 22) rfl)
      · exact hw _ (List.mem_of_getElem? (i := 23) rfl)
      · exact hw _ (List.mem_of_getElem? (i := 24) rfl)
      · exact hw _ (List.mem_of_getElem? (i := 25) rfl)
      · exact hw _ (List.mem_of_getElem? (i := 26) rfl)
    obtain ⟨lit, T2, h2, kz2, lit_b, lit_k, X2, e2, E2, hS2, hk2, hZ, hown, Ea2, Ca2, Va2, Aa2, -, -, IB2, LT2, st2⟩ := ldcSVL (s := s) (vm0 := s.vm) (Ts := []) X1 hx hZ hown (hw _ (List.mem_of_getElem? (i := 21) rfl)) wS2 e1 hS0 (Nat.zero_le _) (Fr.nil _) hkp IBh (by decide) hH hcw (vs := ([] : List Int32).map Value.int) (z := Int32.ofNat 0) (by decide) (by decide) (by decide) (g := (mkF m 9 #[.val (.ref a1), .val (.ref b1), .val (.int (0 : Int32)), .val (.int (0 : Int32)), .val .null, .unset] [(.ref a1)])) rfl (hb hby d4_9) (n := 0) (by decide) (by decide) (by decide) (by decide)
    have E_a1 := E_a1.ext E2
    have F_value_a1 := F_value_a1.ext E2
    have F_coder_a1 := F_coder_a1.ext E2
    have Z2 : n0 ≤ h2.size := Nat.le_trans Z0 E2.1
    have K2 := (Keep.refl h0 [a1]).ext E2
    have lit_S : own_S Z h2 lit lit_b lit_k [] := ⟨Ea2, Ca2, Va2, Aa2, by decide⟩
    refine OEndsW.go (t' := T2.setTop (mkF m 11 #[.val (.ref a1), .val (.ref b1), .val (.int (0 : Int32)), .val (.int (0 : Int32)), .val .null, .unset] [(.ref lit), (.ref a1)])) (fun _ k => st2 _ k) ?_
    have ne1 : a1 ≠ lit := Fld.ne F_value_a1 lit_S.2.2.1 nofun
    have ne2 : a1 ≠ lit_b := Exa.neArv E_a1 lit_S.2.2.2.1 (hw _ (List.mem_of_getElem? (i := 9) rfl))
    obtain ⟨T3, X3, e3, st3⟩ := getF X2 hx hZ hown (host := "") (Or.inl (hw _ (List.mem_of_getElem? (i := 27) rfl))) Via.refl e2 lit_S.2.2.1 (g := (mkF m 11 #[.val (.ref a1), .val (.ref b1), .val (.int (0 : Int32)), .val (.int (0 : Int32)), .val .null, .unset] [(.ref lit), (.ref a1)])) rfl rfl (hb hby d4_11)
    refine OEndsW.go (t' := T3.setTop (mkF m 14 #[.val (.ref a1), .val (.ref b1), .val (.int (0 : Int32)), .val (.int (0 : Int32)), .val .null, .unset] [(.ref lit_b), (.ref a1)])) (fun _ k => st3 _ k) ?_
    obtain ⟨T4, h4, X4, e4, W4, st4⟩ := putF X3 hx hZ hown (host := "") (Or.inl (hw _ (List.mem_of_getElem? (i := 27) rfl))) Via.refl e3 F_value_a1 E_a1 (Or.inr ⟨(hw _ (List.mem_of_getElem? (i := 23) rfl)), rfl, hnm⟩) (hw _ (List.mem_of_getElem? (i := 9) rfl)) (ty := (.array .byte)) (by decide) rfl rfl (g := (mkF m 14 #[.val (.ref a1), .val (.ref b1), .val (.int (0 : Int32)), .val (.int (0 : Int32)), .val .null, .unset] [(.ref lit_b), (.ref a1)])) rfl rfl (hb hby d4_14)
    have N4 := Fr.snoc X4 N0 g_a1
    have E_a1 := E_a1.wr W4
    have F_value_a1 := F_value_a1.same W4
    have F_coder_a1 := F_coder_a1.other W4 (Or.inr (slot_ne (Or.inr (hw _ (List.mem_of_getElem? (i := 24) rfl))) (Or.inr (hw _ (List.mem_of_getElem? (i := 23) rfl))) (by decide) (t := .byte) (t' := (.array .byte)) (by decide) (by decide)))
    have lit_S := lit_S.other W4 (Ne.symm ne1) (Ne.symm ne2)
    have Z4 : n0 ≤ h4.size := Nat.le_trans Z2 (Keep.of_wr W4).1
    have hk4 := Nat.le_trans hk2 (Keep.of_wr W4).1
    have K4 := K2.wr W4 (Or.inl (List.mem_of_getElem? (i := 0) rfl))
    refine OEndsW.go (t' := T4.setTop (mkF m 17 #[.val (.ref a1), .val (.ref b1), .val (.int (0 : Int32)), .val (.int (0 : Int32)), .val .null, .unset] [])) (fun _ k => st4 _ k) ?_
    refine OEndsW.go (t' := T4.setTop (mkF m 18 #[.val (.ref a1), .val (.ref b1), .val (.int (0 : Int32)), .val (.int (0 : Int32)), .val .null, .unset] [(.ref a1)])) (fun _ k => ?_) ?_
    · show Steps p.tables e below (T4.setTop (mkF m 17 #[.val (.ref a1), .val (.ref b1), .val (.int (0 : Int32)), .val (.int (0 : Int32)), .val .null, .unset] [])) _
      refine XS.aloadN X4.here hx rfl (hb hby d4_17) rfl rfl ?_
      show Steps p.tables e below (T4.setTop (mkF m 18 #[.val (.ref a1), .val (.ref b1), .val (.int (0 : Int32)), .val (.int (0 : Int32)), .val .null, .unset] [(.ref a1)])) _
      exact k
    refine OEndsW.go (t' := T4.setTop (mkF m 20 #[.val (.ref a1), .val (.ref b1), .val (.int (0 : Int32)), .val (.int (0 : Int32)), .val .null, .unset] [(.ref lit), (.ref a1)])) (fun _ k => ldcAgain (s := s) (vm0 := T2.vm) X4 hx hZ hown (hw _ (List.mem_of_getElem? (i := 21) rfl)) LT2 (g := (mkF m 18 #[.val (.ref a1), .val (.ref b1), .val (.int (0 : Int32)), .val (.int (0 : Int32)), .val .null, .unset] [(.ref a1)])) rfl (hb hby d4_18) _ k) ?_
    obtain ⟨T5, X5, e5, st5⟩ := getF X4 hx hZ hown (host := "") (Or.inl (hw _ (List.mem_of_getElem? (i := 28) rfl))) Via.refl e4 lit_S.2.1 (g := (mkF m 20 #[.val (.ref a1), .val (.ref b1), .val (.int (0 : Int32)), .val (.int (0 : Int32)), .val .null, .unset] [(.ref lit), (.ref a1)])) rfl rfl (hb hby d4_20)
    refine OEndsW.go (t' := T5.setTop (mkF m 23 #[.val (.ref a1), .val (.ref b1), .val (.int (0 : Int32)), .val (.int (0 : Int32)), .val .null, .unset] [(.int (0 : Int32)), (.ref a1)])) (fun _ k => st5 _ k) ?_
    obtain ⟨T6, h6, X6, e6, W6, st6⟩ := putFN X5 hx hZ hown (hw _ (List.mem_of_getElem? (i := 28) rfl)) Via.refl e5 F_coder_a1 E_a1 (Or.inr ⟨(hw _ (List.mem_of_getElem? (i := 24) rfl)), rfl, hnm⟩) (hw _ (List.mem_of_getElem? (i := 9) rfl)) (ty := .byte) (v' := (.int (0 : Int32))) (by decide) rfl rfl (g := (mkF m 23 #[.val (.ref a1), .val (.ref b1), .val (.int (0 : Int32)), .val (.int (0 : Int32)), .val .null, .unset] [(.int (0 : Int32)), (.ref a1)])) rfl rfl (hb hby d4_23)
    have N6 := Fr.snoc X6 N4 g_a1
    have E_a1 := E_a1.wr W6
    have F_value_a1 := F_value_a1.other W6 (Or.inr (slot_ne (Or.inr (hw _ (List.mem_of_getElem? (i := 23) rfl))) (Or.inr (hw _ (List.mem_of_getElem? (i := 24) rfl))) (by decide) (t := (.array .byte)) (t' := .byte) (by decide) (by decide)))
    have F_coder_a1 := F_coder_a1.same W6
    have lit_S := lit_S.other W6 (Ne.symm ne1) (Ne.symm ne2)
    have Z6 : n0 ≤ h6.size := Nat.le_trans Z4 (Keep.of_wr W6).1
    have hk6 := Nat.le_trans hk4 (Keep.of_wr W6).1
    have K6 := K4.wr W6 (Or.inl (List.mem_of_getElem? (i := 0) rfl))
    refine OEndsW.go (t' := T6.setTop (mkF m 26 #[.val (.ref a1), .val (.ref b1), .val (.int (0 : Int32)), .val (.int (0 : Int32)), .val .null, .unset] [])) (fun _ k => st6 _ k) ?_
    refine OEndsW.back X6 hS2 (by rw [e6]; exact hk6) hlk (v := none) (fun _ => rfl) (fun fs hr => ?_) ?_ (by decide) (by decide)
    · exact X6.returnOut hx hrt (hb hby d4_26) hr
    · show QE4 Z a1 b1  h0 n0 _ T6.heap T6.vm _
      rw [e6]
      exact ⟨rfl, N6, K6, ⟨_, _, E_a1, F_coder_a1, F_value_a1, lit_S.2.2.2⟩, Or.inr ⟨_, _, _, own_Lit_stays (s := (s.setVm T2.vm)) LT2 X6.warmed.wide, lit_S⟩⟩
  · refine OEndsW.go (t' := T1.setTop (mkF m 11 #[.val (.ref a1), .val (.ref b1), .val (.int (0 : Int32)), .val (.int (0 : Int32)), .val .null, .unset] [(.ref lit), (.ref a1)])) (fun _ k => ldcAgain (s := s) (vm0 := s.vm) X1 hx hZ hown (hw _ (List.mem_of_getElem? (i := 21) rfl)) LTh (g := (mkF m 9 #[.val (.ref a1), .val (.ref b1), .val (.int (0 : Int32)), .val (.int (0 : Int32)), .val .null, .unset] [(.ref a1)])) rfl (hb hby d4_9) _ k) ?_
    have ne1 : a1 ≠ lit := Fld.ne F_value_a1 lit_S.2.2.1 nofun
    have ne2 : a1 ≠ lit_b := Exa.neArv E_a1 lit_S.2.2.2.1 (hw _ (List.mem_of_getElem? (i := 9) rfl))
    obtain ⟨T7, X7, e7, st7⟩ := getF X1 hx hZ hown (host := "") (Or.inl (hw _ (List.mem_of_getElem? (i := 27) rfl))) Via.refl e1 lit_S.2.2.1 (g := (mkF m 11 #[.val (.ref a1), .val (.ref b1), .val (.int (0 : Int32)), .val (.int (0 : Int32)), .val .null, .unset] [(.ref lit), (.ref a1)])) rfl rfl (hb hby d4_11)
    refine OEndsW.go (t' := T7.setTop (mkF m 14 #[.val (.ref a1), .val (.ref b1), .val (.int (0 : Int32)), .val (.int (0 : Int32)), .val .null, .unset] [(.ref lit_b), (.ref a1)])) (fun _ k => st7 _ k) ?_
    obtain ⟨T8, h8, X8, e8, W8, st8⟩ := putF X7 hx hZ hown (host := "") (Or.inl (hw _ (List.mem_of_getElem? (i := 27) rfl))) Via.refl e7 F_value_a1 E_a1 (Or.inr ⟨(hw _ (List.mem_of_getElem? (i := 23) rfl)), rfl, hnm⟩) (hw _ (List.mem_of_getElem? (i := 9) rfl)) (ty := (.array .byte)) (by decide) rfl rfl (g := (mkF m 14 #[.val (.ref a1), .val (.ref b1), .val (.int (0 : Int32)), .val (.int (0 : Int32)), .val .null, .unset] [(.ref lit_b), (.ref a1)])) rfl rfl (hb hby d4_14)
    have N8 := Fr.snoc X8 N0 g_a1
    have E_a1 := E_a1.wr W8
    have F_value_a1 := F_value_a1.same W8
    have F_coder_a1 := F_coder_a1.other W8 (Or.inr (slot_ne (Or.inr (hw _ (List.mem_of_getElem? (i := 24) rfl))) (Or.inr (hw _ (List.mem_of_getElem? (i := 23) rfl))) (by decide) (t := .byte) (t' := (.array .byte)) (by decide) (by decide)))
    have lit_S := lit_S.other W8 (Ne.symm ne1) (Ne.symm ne2)
    have Z8 : n0 ≤ h8.size := Nat.le_trans Z0 (Keep.of_wr W8).1
    have K8 := (Keep.refl h0 [a1]).wr W8 (Or.inl (List.mem_of_getElem? (i := 0) rfl))
    refine OEndsW.go (t' := T8.setTop (mkF m 17 #[.val (.ref a1), .val (.ref b1), .val (.int (0 : Int32)), .val (.int (0 : Int32)), .val .null, .unset] [])) (fun _ k => st8 _ k) ?_
    refine OEndsW.go (t' := T8.setTop (mkF m 18 #[.val (.ref a1), .val (.ref b1), .val (.int (0 : Int32)), .val (.int (0 : Int32)), .val .null, .unset] [(.ref a1)])) (fun _ k => ?_) ?_
    · show Steps p.tables e below (T8.setTop (mkF m 17 #[.val (.ref a1), .val (.ref b1), .val (.int (0 : Int32)), .val (.int (0 : Int32)), .val .null, .unset] [])) _
      refine XS.aloadN X8.here hx rfl (hb hby d4_17) rfl rfl ?_
      show Steps p.tables e below (T8.setTop (mkF m 18 #[.val (.ref a1), .val (.ref b1), .val (.int (0 : Int32)), .val (.int (0 : Int32)), .val .null, .unset] [(.ref a1)])) _
      exact k
    refine OEndsW.go (t' := T8.setTop (mkF m 20 #[.val (.ref a1), .val (.ref b1), .val (.int (0 : Int32)), .val (.int (0 : Int32)), .val .null, .unset] [(.ref lit), (.ref a1)])) (fun _ k => ldcAgain (s := s) (vm0 := s.vm) X8 hx hZ hown (hw _ (List.mem_of_getElem? (i := 21) rfl)) LTh (g := (mkF m 18 #[.val (.ref a1), .val (.ref b1), .val (.int (0 : Int32)), .val (.int (0 : Int32)), .val .null, .unset] [(.ref a1)])) rfl (hb hby d4_18) _ k) ?_
    obtain ⟨T9, X9, e9, st9⟩ := getF X8 hx hZ hown (host := "") (Or.inl (hw _ (List.mem_of_getElem? (i := 28) rfl))) Via.refl e8 lit_S.2.1 (g := (mkF m 20 #[.val (.ref a1), .val (.ref b1), .val (.int (0 : Int32)), .val (.int (0 : Int32)), .val .null, .unset] [(.ref lit), (.ref a1)])) rfl rfl (hb hby d4_20)
    refine OEndsW.go (t' := T9.setTop (mkF m 23 #[.val (.ref a1), .val (.ref b1), .val (.int (0 : Int32)), .val (.int (0 : Int32)), .val .null, .unset] [(.int (0 : Int32)), (.ref a1)])) (fun _ k => st9 _ k) ?_
    obtain ⟨T10, h10, X10, e10, W10, st10⟩ := putFN X9 hx hZ hown (hw _ (List.mem_of_getElem? (i := 28) rfl)) Via.refl e9 F_coder_a1 E_a1 (Or.inr ⟨(hw _ (List.mem_of_getElem? (i := 24) rfl)), rfl, hnm⟩) (hw _ (List.mem_of_getElem? (i := 9) rfl)) (ty := .byte) (v' := (.int (0 : Int32))) (by decide) rfl rfl (g := (mkF m 23 #[.val (.ref a1), .val (.ref b1), .val (.int (0 : Int32)), .val (.int (0 : Int32)), .val .null, .unset] [(.int (0 : Int32)), (.ref a1)])) rfl rfl (hb hby d4_23)
    have N10 := Fr.snoc X10 N8 g_a1
    have E_a1 := E_a1.wr W10
    have F_value_a1 := F_value_a1.other W10 (Or.inr (slot_ne (Or.inr (hw _ (List.mem_of_getElem? (i := 23) rfl))) (Or.inr (hw _ (List.mem_of_getElem? (i := 24) rfl))) (by decide) (t := (.array .byte)) (t' := .byte) (by decide) (by decide)))
    have F_coder_a1 := F_coder_a1.same W10
    have lit_S := lit_S.other W10 (Ne.symm ne1) (Ne.symm ne2)
    have Z10 : n0 ≤ h10.size := Nat.le_trans Z8 (Keep.of_wr W10).1
    have K10 := K8.wr W10 (Or.inl (List.mem_of_getElem? (i := 0) rfl))
    refine OEndsW.go (t' := T10.setTop (mkF m 26 #[.val (.ref a1), .val (.ref b1), .val (.int (0 : Int32)), .val (.int (0 : Int32)), .val .null, .unset] [])) (fun _ k => st10 _ k) ?_
    refine OEndsW.back (vm₁ := s.vm) X10 hS0 (Nat.zero_le _) hlk (v := none) (fun _ => rfl) (fun fs hr => ?_) ?_ (by decide) (by decide)
    · exact X10.returnOut hx hrt (hb hby d4_26) hr
    · show QE4 Z a1 b1  h0 n0 _ T10.heap T10.vm _
      rw [e10]
      exact ⟨rfl, N10, K10, ⟨_, _, E_a1, F_coder_a1, F_value_a1, lit_S.2.2.2⟩, Or.inr ⟨_, _, _, own_Lit_stays (s := s) LTh X10.warmed.wide, lit_S⟩⟩
theorem pd_rmE1_0 : parseMethodDescriptor "([CIILjava/lang/Void;)V" = some ⟨[(.array .char), .int, .int, (.object "java/lang/Void")], none⟩ := by decide +kernel
theorem ef_rmE1 (m : MethodId) (a1 : Addr) (b1 : Addr) : entryFrame m #[(.ref a1), (.ref b1)] 2 = mkF m 0 #[.val (.ref a1), .val (.ref b1)] [] := by first | (simp [entryFrame, mkF, argsToLocals, Value.category]; done) | rfl
def QE1 (Z : State) (a1 : Addr) (b1 : Addr) (k1 : ClassId) (h0 : Heap) (n0 : Nat) (v : Option Value) (h : Heap) (vm : Vm) (L : List Loc) : Prop := v = none ∧ Fr n0 L ∧ Keep h0 h [a1] ∧ (∃ (b : Addr) (k : ClassId), own_S Z h a1 b k []) ∧ own_Ev Z vm h
set_option maxRecDepth 65536 in
set_option maxHeartbeats 40000000 in
theorem rmE1 (l : Launch) (Z : State) (a0 : Array Value) (hw : ∀ d ∈ tables_1, d.before a0 Z = true) (ws : List Jvm.Cond) (a1 : Addr) (b1 : Addr) (k1 : ClassId) (h0 : Heap) (n0 : Nat) (Z0 : n0 ≤ h0.size) (hzo : Old Z n0 h0) (hcw : Jvm.Lit.compactW.before a0 Z = true) (hH : Jvm.Lit.constHeld Z "java/lang/String" 7) (F_value_a1 : Fld Z h0 a1 "java/lang/String" "value" "[B" .null) (F_coder_a1 : Fld Z h0 a1 "java/lang/String" "coder" "B" (.int (0 : Int32))) (E_a1 : Exa Z h0 a1 "java/lang/String") (g_a1 : n0 ≤ a1) (C1 : own_Ch Z h0 b1 k1 []) :
    MetFree l (⟨"java/lang/String", "<init>", "([C)V"⟩ : MethodName) (head1 (Jvm.Cond.code (⟨"java/lang/String", "<init>", "([C)V"⟩ : MethodName) jdk_42_method_3_code 2 none :: ws) ({ frames := 2, cells := 2, slots := 4, locals := 29 } : Room)) (fun a U => a = #[(.ref a1), (.ref b1)] ∧ Z.Warmed39 U.vm ∧ U.heap = h0 ∧ own_Ev Z U.vm h0) (fun _ _ _ _ _ => True) (fun _ U o U' => ∃ v L, o = .returned v ∧ QE1 Z a1 b1 k1 h0 n0 v U'.heap U'.vm L ∧ ReturnedEndW U o U' L ({ frames := 2, cells := 2, slots := 4, locals := 29 } : Room).cells ({ frames := 2, cells := 2, slots := 4, locals := 29 } : Room).slots) := by
  refine MetFree.of_bodySF (plainFor_of_name pn_3) hisR ?_
  intro p e s m args below meth c s₁ Bd hml0 hP hK
  obtain ⟨rfl, hZ, hh, hpv⟩ := hP
  have hx := Bd.exec
  have hby := Bd.bytes
  have hml : c.maxLocals = 2 := hml0
  have hown : s.vm.findClass "java/lang/String" = some m.cls := findClass_of_methodNamed Bd.named
  have hnm := (name_of_methodNamed Bd.named Bd.method).1
  have hlk := BodyLoose.notSynchronized Bd
  have hrt := Bd.returns
  have X0 : Stand p l e ({ frames := 2, cells := 2, slots := 4, locals := 29 } : Room) s m #[(.ref a1), (.ref b1)] below meth c s₁ [] 0 0 := Stand.of_body Bd
  have e0 : s₁.heap = h0 := by rw [← hh, Bd.state]; rfl
  have N0 := Fr.nil n0
  have hS0 : s.Since s.vm 0 := (State.WarmedH.refl s).since 0
  have IB0 := hpv
  have hkp : ∀ (b : Addr) (cl : Cell), Z.heap[b]? = some cl → s.heap[b]? = some cl := fun b cl q => by rw [hh]; exact hzo.2.2 b cl q
  show OEndsW p e below s (QE1 Z a1 b1 k1 h0 n0) ({ frames := 2, cells := 2, slots := 4, locals := 29 } : Room).cells ({ frames := 2, cells := 2, slots := 4, locals := 29 } : Room).slots (s₁.setTop (entryFrame m #[(.ref a1), (.ref b1)] 2))
  refine OEndsW.go (t' := s₁.setTop (mkF m 0 #[.val (.ref a1), .val (.ref b1)] [])) (fun t k => castTop (ef_rmE1 m a1 b1) k) ?_
  refine OEndsW.go (t' := s₁.setTop (mkF m 4 #[.val (.ref a1), .val (.ref b1)] [(.ref b1), (.int (0 : Int32)), (.ref b1), (.ref a1)])) (fun _ k => ?_) ?_
  · show Steps p.tables e below (s₁.setTop (mkF m 0 #[.val (.ref a1), .val (.ref b1)] [])) _
    refine XS.aloadN X0.here hx rfl (hb hby d3_0) rfl rfl ?_
    show Steps p.tables e below (s₁.setTop (mkF m 1 #[.val (.ref a1), .val (.ref b1)] [(.ref a1)])) _
    refine XS.aloadN X0.here hx rfl (hb hby d3_1) rfl rfl ?_
    show Steps p.tables e below (s₁.setTop (mkF m 2 #[.val (.ref a1), .val (.ref b1)] [(.ref b1), (.ref a1)])) _
    refine XS.iconst X0.here hx rfl (hb hby d3_2) ?_
    show Steps p.tables e below (s₁.setTop (mkF m 3 #[.val (.ref a1), .val (.ref b1)] [(.int (0 : Int32)), (.ref b1), (.ref a1)])) _
    refine XS.aloadN X0.here hx rfl (hb hby d3_3) rfl rfl ?_
    show Steps p.tables e below (s₁.setTop (mkF m 4 #[.val (.ref a1), .val (.ref b1)] [(.ref b1), (.int (0 : Int32)), (.ref b1), (.ref a1)])) _
    exact k
  obtain ⟨cl1, Ar1, hl1⟩ := (show ∃ c : Cell, Arr Z h0 b1 c .char ∧ c.slots.size.toInt32 = (0 : Int32) from own_clen C1)
  refine OEndsW.go (t' := s₁.setTop (mkF m 5 #[.val (.ref a1), .val (.ref b1)] [(.int cl1.slots.size.toInt32), (.int (0 : Int32)), (.ref b1), (.ref a1)])) (fun _ k => X0.arraylength hx (by rw [e0]; exact Ar1.1) (State.isArrayOf_alike hZ.alike Ar1.2.1) (g := (mkF m 4 #[.val (.ref a1), .val (.ref b1)] [(.ref b1), (.int (0 : Int32)), (.ref b1), (.ref a1)])) rfl rfl (hb hby d3_4) _ k) ?_
  rw [hl1]
  refine OEndsW.go (t' := s₁.setTop (mkF m 6 #[.val (.ref a1), .val (.ref b1)] [.null, (.int (0 : Int32)), (.int (0 : Int32)), (.ref b1), (.ref a1)])) (fun _ k => ?_) ?_
  · show Steps p.tables e below (s₁.setTop (mkF m 5 #[.val (.ref a1), .val (.ref b1)] [(.int (0 : Int32)), (.int (0 : Int32)), (.ref b1), (.ref a1)])) _
    refine XS.aconstNull X0.here hx rfl (hb hby d3_5) ?_
    show Steps p.tables e below (s₁.setTop (mkF m 6 #[.val (.ref a1), .val (.ref b1)] [.null, (.int (0 : Int32)), (.int (0 : Int32)), (.ref b1), (.ref a1)])) _
    exact k
  obtain ⟨_, _, ⟨T2, L2, k2, n2⟩, -, X2, hSq2, hgq2, ⟨Lc2, hQ2, l2, y2, z2⟩, st2⟩ := X0.specialBackS hx (y := (⟨"java/lang/String", "<init>", "([CIILjava/lang/Void;)V"⟩ : MethodName)) rfl hown (mvT hZ (hw _ (List.mem_of_getElem? (i := 14) rfl))) (mvT hZ (hw _ (List.mem_of_getElem? (i := 15) rfl))) (mvT hZ (hw _ (List.mem_of_getElem? (i := 17) rfl))) (by decide) (own_backI (W := 0) (rmE4 l Z a0 hw [] a1 b1 h0 n0 Z0 hzo hcw hH F_value_a1 F_coder_a1 E_a1 g_a1) hZ (fun vm hW => own_Ev.stays hpv hW) (hw _ (List.mem_of_getElem? (i := 17) rfl)) (hw _ (List.mem_of_getElem? (i := 10) rfl)) (by decide) (by decide)) (g := (mkF m 6 #[.val (.ref a1), .val (.ref b1)] [.null, (.int (0 : Int32)), (.int (0 : Int32)), (.ref b1), (.ref a1)])) rfl (by rw [hml]; rfl) (Steps.refl _) (a := a1) (argsL := [(.ref b1), (.int (0 : Int32)), (.int (0 : Int32)), .null]) (rest := []) (lenOf pd_rmE1_0 rfl) rfl (by show 2 * 0 + _ ≤ _; exact Nat.le_of_eq rfl) (hb hby d3_6) (fun _ _ => ⟨rfl, e0, (by decide : 0 + 2 ≤ _), (by decide : 0 + 4 ≤ _)⟩)
  dsimp only [Pt.U, Pt.locs, Pt.cells, Pt.slots] at X2 l2 y2 z2 st2 hQ2 hSq2 hgq2
  subst l2 y2 z2
  obtain ⟨X2, hS2, hZ, hown⟩ := rebS (s := s) (vm0 := s.vm) (vm1 := T2.vm) hS0 (Nat.zero_le _) X2 hSq2 hgq2 hZ hown
  obtain ⟨rfl, N2q, Kc2, hs2, hv2⟩ := hQ2
  have N2 := Fr.app N0 N2q
  have Z2 : n0 ≤ T2.heap.size := Nat.le_trans Z0 Kc2.1
  have hk2 : T2.heap.size ≤ T2.heap.size := Nat.le_refl _
  refine OEndsW.go (t' := T2.setTop (mkF m 9 #[.val (.ref a1), .val (.ref b1)] [])) (fun _ k => st2.trans k) ?_
  refine OEndsW.back X2 hS2 hk2 hlk (v := none) (fun _ => rfl) (fun fs hr => ?_) ?_ (by decide) (by decide)
  · exact X2.returnOut hx hrt (hb hby d3_9) hr
  · show QE1 Z a1 b1 k1 h0 n0 _ T2.heap T2.vm _
    exact ⟨rfl, N2, Kc2, hs2, hv2⟩
theorem d2_0 : decode method_3_code 0 = .ok (.iload_n 0, 1) := by decide +kernel
theorem d2_1 : decode method_3_code 1 = .ok (.bipush 16, 2) := by decide +kernel
theorem d2_3 : decode method_3_code 3 = .ok (.iushr, 1) := by decide +kernel
theorem d2_4 : decode method_3_code 4 = .ok (.iconst 3, 1) := by decide +kernel
theorem d2_5 : decode method_3_code 5 = .ok (.iand, 1) := by decide +kernel
theorem d2_6 : decode method_3_code 6 = .ok (.ireturn, 1) := by decide +kernel
theorem pn_2 : plainName "com/example/viitta/viitta/core/SafeXmlStartTagIsPinLaw" = true := by first | (simp [plainName, overriddenIn]; done) | decide +kernel
theorem ef_rm2 (m : MethodId) (p1 : Int32) : entryFrame m #[(.int p1)] 1 = mkF m 0 #[.val (.int p1)] [] := by first | (simp [entryFrame, mkF, argsToLocals, Value.category]; done) | rfl
def Q2 (Z : State) (p1 : Int32)  (h0 : Heap) (n0 : Nat) (v : Option Value) (h : Heap) (L : List Loc) : Prop := v = some (.int (own_len3 p1)) ∧ Fr n0 L ∧ h = h0
set_option maxRecDepth 65536 in
set_option maxHeartbeats 40000000 in
theorem rm2 (l : Launch) (Z : State) (a0 : Array Value) (hw : ∀ d ∈ tables_1, d.before a0 Z = true) (ws : List Jvm.Cond) (p1 : Int32)  (h0 : Heap) (n0 : Nat) (Z0 : n0 ≤ h0.size)  :
    MetFree l (⟨"com/example/viitta/viitta/core/SafeXmlStartTagIsPinLaw", "len", "(I)I"⟩ : MethodName) (head1 (Jvm.Cond.code (⟨"com/example/viitta/viitta/core/SafeXmlStartTagIsPinLaw", "len", "(I)I"⟩ : MethodName) method_3_code 1 (some .int) :: ws) ({ frames := 0, cells := 0, slots := 0, locals := 0 } : Room)) (fun a U => a = #[(.int p1)] ∧ Z.Warmed39 U.vm ∧ U.heap = h0) (fun _ _ _ _ _ => True) (fun _ U o U' => ∃ v L, o = .returned v ∧ Q2 Z p1  h0 n0 v U'.heap L ∧ FrameEnd U o U' L ({ frames := 0, cells := 0, slots := 0, locals := 0 } : Room).cells ({ frames := 0, cells := 0, slots := 0, locals := 0 } : Room).slots) := by
  refine MetFree.of_bodySF (plainFor_of_name pn_2) hisR ?_
  intro p e s m args below meth c s₁ Bd hml0 hP hK
  obtain ⟨rfl, hZ, hh⟩ := hP
  have hx := Bd.exec
  have hby := Bd.bytes
  have hml : c.maxLocals = 1 := hml0
  have hown : s.vm.findClass "com/example/viitta/viitta/core/SafeXmlStartTagIsPinLaw" = some m.cls := findClass_of_methodNamed Bd.named
  have hnm := (name_of_methodNamed Bd.named Bd.method).1
  have hlk := BodyLoose.notSynchronized Bd
  have hrt := Bd.returns
  have X0 : Stand p l e ({ frames := 0, cells := 0, slots := 0, locals := 0 } : Room) s m #[(.int p1)] below meth c s₁ [] 0 0 := Stand.of_body Bd
  have e0 : s₁.heap = h0 := by rw [← hh, Bd.state]; rfl
  have N0 := Fr.nil n0
  show OEnds p e below s (Q2 Z p1  h0 n0) ({ frames := 0, cells := 0, slots := 0, locals := 0 } : Room).cells ({ frames := 0, cells := 0, slots := 0, locals := 0 } : Room).slots (s₁.setTop (entryFrame m #[(.int p1)] 1))
  refine OEnds.go (t' := s₁.setTop (mkF m 0 #[.val (.int p1)] [])) (fun t k => castTop (ef_rm2 m p1) k) ?_
  refine OEnds.go (t' := s₁.setTop (mkF m 6 #[.val (.int p1)] [(.int (((p1.toUInt32 >>> ((16 : Int32) &&& 31).toUInt32).toInt32) &&& (3 : Int32)))])) (fun _ k => ?_) ?_
  · show Steps p.tables e below (s₁.setTop (mkF m 0 #[.val (.int p1)] [])) _
    refine XS.iloadN X0.here hx rfl (hb hby d2_0) rfl ?_
    show Steps p.tables e below (s₁.setTop (mkF m 1 #[.val (.int p1)] [(.int p1)])) _
    refine XS.bipush X0.here hx rfl (hb hby d2_1) ?_
    show Steps p.tables e below (s₁.setTop (mkF m 3 #[.val (.int p1)] [(.int (16 : Int32)), (.int p1)])) _
    refine XS.iushr X0.here hx rfl (hb hby d2_3) rfl ?_
    show Steps p.tables e below (s₁.setTop (mkF m 4 #[.val (.int p1)] [(.int ((p1.toUInt32 >>> ((16 : Int32) &&& 31).toUInt32).toInt32))])) _
    refine XS.iconst X0.here hx rfl (hb hby d2_4) ?_
    show Steps p.tables e below (s₁.setTop (mkF m 5 #[.val (.int p1)] [(.int (3 : Int32)), (.int ((p1.toUInt32 >>> ((16 : Int32) &&& 31).toUInt32).toInt32))])) _
    refine XS.iand X0.here hx rfl (hb hby d2_5) rfl ?_
    show Steps p.tables e below (s₁.setTop (mkF m 6 #[.val (.int p1)] [(.int (((p1.toUInt32 >>> ((16 : Int32) &&& 31).toUInt32).toInt32) &&& (3 : Int32)))])) _
    exact k
  refine OEnds.back X0 hlk (v := (some (.int (((p1.toUInt32 >>> ((16 : Int32) &&& 31).toUInt32).toInt32) &&& (3 : Int32))))) (fun h => by rw [hrt] at h; cases h) (fun fs hr => ?_) ?_ (by decide) (by decide)
  · exact retI X0 hx hrt (hb hby d2_6) hr
  · show Q2 Z p1  h0 n0 _ s₁.heap _
    rw [e0]
    exact ⟨rfl, N0, rfl⟩
theorem d15_0 : decode method_4_code 0 = .ok (.iload_n 1, 1) := by decide +kernel
theorem d15_1 : decode method_4_code 1 = .ok (.ifCond .ne 10, 3) := by decide +kernel
theorem d15_4 : decode method_4_code 4 = .ok (.iload_n 0, 1) := by decide +kernel
theorem d15_5 : decode method_4_code 5 = .ok (.sipush 255, 3) := by decide +kernel
theorem d15_8 : decode method_4_code 8 = .ok (.iand, 1) := by decide +kernel
theorem d15_9 : decode method_4_code 9 = .ok (.i2c, 1) := by decide +kernel
theorem d15_10 : decode method_4_code 10 = .ok (.ireturn, 1) := by decide +kernel
theorem d15_11 : decode method_4_code 11 = .ok (.iload_n 1, 1) := by decide +kernel
theorem d15_12 : decode method_4_code 12 = .ok (.iconst 1, 1) := by decide +kernel
theorem d15_13 : decode method_4_code 13 = .ok (.if_icmp .ne 13, 3) := by decide +kernel
theorem d15_16 : decode method_4_code 16 = .ok (.iload_n 0, 1) := by decide +kernel
theorem d15_17 : decode method_4_code 17 = .ok (.bipush 8, 2) := by decide +kernel
theorem d15_19 : decode method_4_code 19 = .ok (.iushr, 1) := by decide +kernel
theorem d15_20 : decode method_4_code 20 = .ok (.sipush 255, 3) := by decide +kernel
theorem d15_23 : decode method_4_code 23 = .ok (.iand, 1) := by decide +kernel
theorem d15_24 : decode method_4_code 24 = .ok (.i2c, 1) := by decide +kernel
theorem d15_25 : decode method_4_code 25 = .ok (.ireturn, 1) := by decide +kernel
theorem d15_26 : decode method_4_code 26 = .ok (.iload_n 0, 1) := by decide +kernel
theorem d15_27 : decode method_4_code 27 = .ok (.bipush 24, 2) := by decide +kernel
theorem d15_29 : decode method_4_code 29 = .ok (.iushr, 1) := by decide +kernel
theorem d15_30 : decode method_4_code 30 = .ok (.sipush 255, 3) := by decide +kernel
theorem d15_33 : decode method_4_code 33 = .ok (.iand, 1) := by decide +kernel
theorem d15_34 : decode method_4_code 34 = .ok (.i2c, 1) := by decide +kernel
theorem d15_35 : decode method_4_code 35 = .ok (.ireturn, 1) := by decide +kernel
theorem pn_15 : plainName "com/example/viitta/viitta/core/SafeXmlStartTagIsPinLaw" = true := by first | (simp [plainName, overriddenIn]; done) | decide +kernel
theorem ef_rm15 (m : MethodId) (p1 : Int32) (p2 : Int32) : entryFrame m #[(.int p1), (.int p2)] 2 = mkF m 0 #[.val (.int p1), .val (.int p2)] [] := by first | (simp [entryFrame, mkF, argsToLocals, Value.category]; done) | rfl
def Q15 (Z : State) (p1 : Int32) (p2 : Int32)  (h0 : Heap) (n0 : Nat) (v : Option Value) (h : Heap) (L : List Loc) : Prop := v = some (.int (own_ch p1 p2)) ∧ Fr n0 L ∧ h = h0
set_option maxRecDepth 65536 in
set_option maxHeartbeats 40000000 in
theorem rm15 (l : Launch) (Z : State) (a0 : Array Value) (hw : ∀ d ∈ tables_1, d.before a0 Z = true) (ws : List Jvm.Cond) (p1 : Int32) (p2 : Int32)  (h0 : Heap) (n0 : Nat) (Z0 : n0 ≤ h0.size)  :
    MetFree l (⟨"com/example/viitta/viitta/core/SafeXmlStartTagIsPinLaw", "ch", "(II)C"⟩ : MethodName) (head1 (Jvm.Cond.code (⟨"com/example/viitta/viitta/core/SafeXmlStartTagIsPinLaw", "ch", "(II)C"⟩ : MethodName) method_4_code 2 (some .char) :: ws) ({ frames := 0, cells := 0, slots := 0, locals := 0 } : Room)) (fun a U => a = #[(.int p1), (.int p2)] ∧ Z.Warmed39 U.vm ∧ U.heap = h0) (fun _ _ _ _ _ => True) (fun _ U o U' => ∃ v L, o = .returned v ∧ Q15 Z p1 p2  h0 n0 v U'.heap L ∧ FrameEnd U o U' L ({ frames := 0, cells := 0, slots := 0, locals := 0 } : Room).cells ({ frames := 0, cells := 0, slots := 0, locals := 0 } : Room).slots) := by
  refine MetFree.of_bodySF (plainFor_of_name pn_15) hisR ?_
  intro p e s m args below meth c s₁ Bd hml0 hP hK
  obtain ⟨rfl, hZ, hh⟩ := hP
  have hx := Bd.exec
  have hby := Bd.bytes
  have hml : c.maxLocals = 2 := hml0
  have hown : s.vm.findClass "com/example/viitta/viitta/core/SafeXmlStartTagIsPinLaw" = some m.cls := findClass_of_methodNamed Bd.named
  have hnm := (name_of_methodNamed Bd.named Bd.method).1
  have hlk := BodyLoose.notSynchronized Bd
  have hrt := Bd.returns
  have X0 : Stand p l e ({ frames := 0, cells := 0, slots := 0, locals := 0 } : Room) s m #[(.int p1), (.int p2)] below meth c s₁ [] 0 0 := Stand.of_body Bd
  have e0 : s₁.heap = h0 := by rw [← hh, Bd.state]; rfl
  have N0 := Fr.nil n0
  show OEnds p e below s (Q15 Z p1 p2  h0 n0) ({ frames := 0, cells := 0, slots := 0, locals := 0 } : Room).cells ({ frames := 0, cells := 0, slots := 0, locals := 0 } : Room).slots (s₁.setTop (entryFrame m #[(.int p1), (.int p2)] 2))
  refine OEnds.go (t' := s₁.setTop (mkF m 0 #[.val (.int p1), .val (.int p2)] [])) (fun t k => castTop (ef_rm15 m p1 p2) k) ?_
  refine OEnds.go (t' := s₁.setTop (mkF m 1 #[.val (.int p1), .val (.int p2)] [(.int p2)])) (fun _ k => ?_) ?_
  · show Steps p.tables e below (s₁.setTop (mkF m 0 #[.val (.int p1), .val (.int p2)] [])) _
    refine XS.iloadN X0.here hx rfl (hb hby d15_0) rfl ?_
    show Steps p.tables e below (s₁.setTop (mkF m 1 #[.val (.int p1), .val (.int p2)] [(.int p2)])) _
    exact k
  by_cases h1 : p2 = (0 : Int32)
  · refine OEnds.go (t' := s₁.setTop (mkF m 4 #[.val (.int p1), .val (.int p2)] [])) (fun _ k => XS.ifNo X0.here hx rfl (hb hby d15_1) rfl ((if0 _ _).trans (teq h1).2) k) ?_
    refine OEnds.go (t' := s₁.setTop (mkF m 10 #[.val (.int p1), .val (.int p2)] [(.int ((p1 &&& (255 : Int32)).toUInt32.toUInt16.toUInt32.toInt32))])) (fun _ k => ?_) ?_
    · show Steps p.tables e below (s₁.setTop (mkF m 4 #[.val (.int p1), .val (.int p2)] [])) _
      refine XS.iloadN X0.here hx rfl (hb hby d15_4) rfl ?_
      show Steps p.tables e below (s₁.setTop (mkF m 5 #[.val (.int p1), .val (.int p2)] [(.int p1)])) _
      refine XS.sipush X0.here hx rfl (hb hby d15_5) ?_
      show Steps p.tables e below (s₁.setTop (mkF m 8 #[.val (.int p1), .val (.int p2)] [(.int (255 : Int32)), (.int p1)])) _
      refine XS.iand X0.here hx rfl (hb hby d15_8) rfl ?_
      show Steps p.tables e below (s₁.setTop (mkF m 9 #[.val (.int p1), .val (.int p2)] [(.int (p1 &&& (255 : Int32)))])) _
      refine XS.i2c X0.here hx rfl (hb hby d15_9) rfl ?_
      show Steps p.tables e below (s₁.setTop (mkF m 10 #[.val (.int p1), .val (.int p2)] [(.int ((p1 &&& (255 : Int32)).toUInt32.toUInt16.toUInt32.toInt32))])) _
      exact k
    rw [i2c_mask]
    refine OEnds.back X0 hlk (v := (some (.int (nar .char (p1 &&& (255 : Int32)))))) (fun h => by rw [hrt] at h; cases h) (fun fs hr => ?_) ?_ (by decide) (by decide)
    · exact retN X0 hx (t := .char) hrt (by simp) (hb hby d15_10) hr
    · show Q15 Z p1 p2  h0 n0 _ s₁.heap _
      rw [e0]
      exact ⟨by rw [own_narm, own_ch, if_pos h1] <;> rfl, N0, rfl⟩
  · refine OEnds.go (t' := s₁.setTop (mkF m 11 #[.val (.int p1), .val (.int p2)] [])) (fun _ k => XS.ifYes X0.here hx rfl (pc0 := 1) (pc' := 11) rfl (hb hby d15_1) rfl ((if0 _ _).trans (feq h1).2) (by decide) (by decide) k) ?_
    refine OEnds.go (t' := s₁.setTop (mkF m 13 #[.val (.int p1), .val (.int p2)] [(.int (1 : Int32)), (.int p2)])) (fun _ k => ?_) ?_
    · show Steps p.tables e below (s₁.setTop (mkF m 11 #[.val (.int p1), .val (.int p2)] [])) _
      refine XS.iloadN X0.here hx rfl (hb hby d15_11) rfl ?_
      show Steps p.tables e below (s₁.setTop (mkF m 12 #[.val (.int p1), .val (.int p2)] [(.int p2)])) _
      refine XS.iconst X0.here hx rfl (hb hby d15_12) ?_
      show Steps p.tables e below (s₁.setTop (mkF m 13 #[.val (.int p1), .val (.int p2)] [(.int (1 : Int32)), (.int p2)])) _
      exact k
    by_cases h13 : p2 = (1 : Int32)
    · refine OEnds.go (t' := s₁.setTop (mkF m 16 #[.val (.int p1), .val (.int p2)] [])) (fun _ k => XS.icmpNo X0.here hx rfl (hb hby d15_13) rfl (teq h13).2 k) ?_
      refine OEnds.go (t' := s₁.setTop (mkF m 25 #[.val (.int p1), .val (.int p2)] [(.int ((((p1.toUInt32 >>> ((8 : Int32) &&& 31).toUInt32).toInt32) &&& (255 : Int32)).toUInt32.toUInt16.toUInt32.toInt32))])) (fun _ k => ?_) ?_
      · show Steps p.tables e below (s₁.setTop (mkF m 16 #[.val (.int p1), .val (.int p2)] [])) _
        refine XS.iloadN X0.here hx rfl (hb hby d15_16) rfl ?_
        show Steps p.tables e below (s₁.setTop (mkF m 17 #[.val (.int p1), .val (.int p2)] [(.int p1)])) _
        refine XS.bipush X0.here hx rfl (hb hby d15_17) ?_
        show Steps p.tables e below (s₁.setTop (mkF m 19 #[.val (.int p1), .val (.int p2)] [(.int (8 : Int32)), (.int p1)])) _
        refine XS.iushr X0.here hx rfl (hb hby d15_19) rfl ?_
        show Steps p.tables e below (s₁.setTop (mkF m 20 #[.val (.int p1), .val (.int p2)] [(.int ((p1.toUInt32 >>> ((8 : Int32) &&& 31).toUInt32).toInt32))])) _
        refine XS.sipush X0.here hx rfl (hb hby d15_20) ?_
        show Steps p.tables e below (s₁.setTop (mkF m 23 #[.val (.int p1), .val (.int p2)] [(.int (255 : Int32)), (.int ((p1.toUInt32 >>> ((8 : Int32) &&& 31).toUInt32).toInt32))])) _
        refine XS.iand X0.here hx rfl (hb hby d15_23) rfl ?_
        show Steps p.tables e below (s₁.setTop (mkF m 24 #[.val (.int p1), .val (.int p2)] [(.int (((p1.toUInt32 >>> ((8 : Int32) &&& 31).toUInt32).toInt32) &&& (255 : Int32)))])) _
        refine XS.i2c X0.here hx rfl (hb hby d15_24) rfl ?_
        show Steps p.tables e below (s₁.setTop (mkF m 25 #[.val (.int p1), .val (.int p2)] [(.int ((((p1.toUInt32 >>> ((8 : Int32) &&& 31).toUInt32).toInt32) &&& (255 : Int32)).toUInt32.toUInt16.toUInt32.toInt32))])) _
        exact k
      rw [i2c_mask]
      refine OEnds.back X0 hlk (v := (some (.int (nar .char (((p1.toUInt32 >>> ((8 : Int32) &&& 31).toUInt32).toInt32) &&& (255 : Int32)))))) (fun h => by rw [hrt] at h; cases h) (fun fs hr => ?_) ?_ (by decide) (by decide)
      · exact retN X0 hx (t := .char) hrt (by simp) (hb hby d15_25) hr
      · show Q15 Z p1 p2  h0 n0 _ s₁.heap _
        rw [e0]
        exact ⟨by rw [own_narm, own_ch, if_neg h1, if_pos h13] <;> rfl, N0, rfl⟩
    · refine OEnds.go (t' := s₁.setTop (mkF m 26 #[.val (.int p1), .val (.int p2)] [])) (fun _ k => XS.icmpYes X0.here hx rfl (pc0 := 13) (pc' := 26) rfl (hb hby d15_13) rfl (feq h13).2 (by decide) (by decide) k) ?_
      refine OEnds.go (t' := s₁.setTop (mkF m 35 #[.val (.int p1), .val (.int p2)] [(.int ((((p1.toUInt32 >>> ((24 : Int32) &&& 31).toUInt32).toInt32) &&& (255 : Int32)).toUInt32.toUInt16.toUInt32.toInt32))])) (fun _ k => ?_) ?_
      · show Steps p.tables e below (s₁.setTop (mkF m 26 #[.val (.int p1), .val (.int p2)] [])) _
        refine XS.iloadN X0.here hx rfl (hb hby d15_26) rfl ?_
        show Steps p.tables e below (s₁.setTop (mkF m 27 #[.val (.int p1), .val (.int p2)] [(.int p1)])) _
        refine XS.bipush X0.here hx rfl (hb hby d15_27) ?_
        show Steps p.tables e below (s₁.setTop (mkF m 29 #[.val (.int p1), .val (.int p2)] [(.int (24 : Int32)), (.int p1)])) _
        refine XS.iushr X0.here hx rfl (hb hby d15_29) rfl ?_
        show Steps p.tables e below (s₁.setTop (mkF m 30 #[.val (.int p1), .val (.int p2)] [(.int ((p1.toUInt32 >>> ((24 : Int32) &&& 31).toUInt32).toInt32))])) _
        refine XS.sipush X0.here hx rfl (hb hby d15_30) ?_
        show Steps p.tables e below (s₁.setTop (mkF m 33 #[.val (.int p1), .val (.int p2)] [(.int (255 : Int32)), (.int ((p1.toUInt32 >>> ((24 : Int32) &&& 31).toUInt32).toInt32))])) _
        refine XS.iand X0.here hx rfl (hb hby d15_33) rfl ?_
        show Steps p.tables e below (s₁.setTop (mkF m 34 #[.val (.int p1), .val (.int p2)] [(.int (((p1.toUInt32 >>> ((24 : Int32) &&& 31).toUInt32).toInt32) &&& (255 : Int32)))])) _
        refine XS.i2c X0.here hx rfl (hb hby d15_34) rfl ?_
        show Steps p.tables e below (s₁.setTop (mkF m 35 #[.val (.int p1), .val (.int p2)] [(.int ((((p1.toUInt32 >>> ((24 : Int32) &&& 31).toUInt32).toInt32) &&& (255 : Int32)).toUInt32.toUInt16.toUInt32.toInt32))])) _
        exact k
      rw [i2c_mask]
      refine OEnds.back X0 hlk (v := (some (.int (nar .char (((p1.toUInt32 >>> ((24 : Int32) &&& 31).toUInt32).toInt32) &&& (255 : Int32)))))) (fun h => by rw [hrt] at h; cases h) (fun fs hr => ?_) ?_ (by decide) (by decide)
      · exact retN X0 hx (t := .char) hrt (by simp) (hb hby d15_35) hr
      · show Q15 Z p1 p2  h0 n0 _ s₁.heap _
        rw [e0]
        exact ⟨by rw [own_narm, own_ch, if_neg h1, if_neg h13] <;> rfl, N0, rfl⟩
theorem d1_0 : decode method_5_code 0 = .ok (.iload_n 0, 1) := by decide +kernel
theorem d1_1 : decode method_5_code 1 = .ok (.invokestatic 29, 3) := by decide +kernel
theorem d1_4 : decode method_5_code 4 = .ok (.istore_n 1, 1) := by decide +kernel
theorem d1_5 : decode method_5_code 5 = .ok (.iload_n 1, 1) := by decide +kernel
theorem d1_6 : decode method_5_code 6 = .ok (.newarray .char, 2) := by decide +kernel
theorem d1_8 : decode method_5_code 8 = .ok (.astore_n 2, 1) := by decide +kernel
theorem d1_9 : decode method_5_code 9 = .ok (.iload_n 1, 1) := by decide +kernel
theorem d1_10 : decode method_5_code 10 = .ok (.ifCond .le 11, 3) := by decide +kernel
theorem d1_13 : decode method_5_code 13 = .ok (.aload_n 2, 1) := by decide +kernel
theorem d1_14 : decode method_5_code 14 = .ok (.iconst 0, 1) := by decide +kernel
theorem d1_15 : decode method_5_code 15 = .ok (.iload_n 0, 1) := by decide +kernel
theorem d1_16 : decode method_5_code 16 = .ok (.iconst 0, 1) := by decide +kernel
theorem d1_17 : decode method_5_code 17 = .ok (.invokestatic 33, 3) := by decide +kernel
theorem d1_20 : decode method_5_code 20 = .ok (.castore, 1) := by decide +kernel
theorem d1_21 : decode method_5_code 21 = .ok (.iload_n 1, 1) := by decide +kernel
theorem d1_22 : decode method_5_code 22 = .ok (.iconst 1, 1) := by decide +kernel
theorem d1_23 : decode method_5_code 23 = .ok (.if_icmp .le 11, 3) := by decide +kernel
theorem d1_26 : decode method_5_code 26 = .ok (.aload_n 2, 1) := by decide +kernel
theorem d1_27 : decode method_5_code 27 = .ok (.iconst 1, 1) := by decide +kernel
theorem d1_28 : decode method_5_code 28 = .ok (.iload_n 0, 1) := by decide +kernel
theorem d1_29 : decode method_5_code 29 = .ok (.iconst 1, 1) := by decide +kernel
theorem d1_30 : decode method_5_code 30 = .ok (.invokestatic 33, 3) := by decide +kernel
theorem d1_33 : decode method_5_code 33 = .ok (.castore, 1) := by decide +kernel
theorem d1_34 : decode method_5_code 34 = .ok (.iload_n 1, 1) := by decide +kernel
theorem d1_35 : decode method_5_code 35 = .ok (.iconst 2, 1) := by decide +kernel
theorem d1_36 : decode method_5_code 36 = .ok (.if_icmp .le 11, 3) := by decide +kernel
theorem d1_39 : decode method_5_code 39 = .ok (.aload_n 2, 1) := by decide +kernel
theorem d1_40 : decode method_5_code 40 = .ok (.iconst 2, 1) := by decide +kernel
theorem d1_41 : decode method_5_code 41 = .ok (.iload_n 0, 1) := by decide +kernel
theorem d1_42 : decode method_5_code 42 = .ok (.iconst 2, 1) := by decide +kernel
theorem d1_43 : decode method_5_code 43 = .ok (.invokestatic 33, 3) := by decide +kernel
theorem d1_46 : decode method_5_code 46 = .ok (.castore, 1) := by decide +kernel
theorem d1_47 : decode method_5_code 47 = .ok (.new 37, 3) := by decide +kernel
theorem d1_50 : decode method_5_code 50 = .ok (.dup, 1) := by decide +kernel
theorem d1_51 : decode method_5_code 51 = .ok (.aload_n 2, 1) := by decide +kernel
theorem d1_52 : decode method_5_code 52 = .ok (.invokespecial 39, 3) := by decide +kernel
theorem d1_55 : decode method_5_code 55 = .ok (.areturn, 1) := by decide +kernel
theorem pn_1 : plainName "com/example/viitta/viitta/core/SafeXmlStartTagIsPinLaw" = true := by first | (simp [plainName, overriddenIn]; done) | decide +kernel
theorem pd_rm1_0 : parseMethodDescriptor "(I)I" = some ⟨[.int], some .int⟩ := by decide +kernel
theorem pd_rm1_1 : parseMethodDescriptor "([C)V" = some ⟨[(.array .char)], none⟩ := by decide +kernel
theorem pd_rm1_2 : parseMethodDescriptor "(II)C" = some ⟨[.int, .int], some .char⟩ := by decide +kernel
theorem ef_rm1 (m : MethodId) (p1 : Int32) : entryFrame m #[(.int p1)] 3 = mkF m 0 #[.val (.int p1), .unset, .unset] [] := by first | (simp [entryFrame, mkF, argsToLocals, Value.category]; done) | rfl
def Q1 (Z : State) (p1 : Int32) (w1 : Int32) (h0 : Heap) (n0 : Nat) (v : Option Value) (h : Heap) (vm : Vm) (L : List Loc) : Prop := ∃ (a : Addr) (b : Addr) (k : ClassId), v = some (.ref a) ∧ Fr n0 L ∧ Keep h0 h [] ∧ own_S Z h a b k ((own_C p1).map own_b) ∧ own_Ev Z vm h
set_option maxRecDepth 65536 in
set_option maxHeartbeats 40000000 in
theorem rm1 (l : Launch) (Z : State) (a0 : Array Value) (hw : ∀ d ∈ tables_1, d.before a0 Z = true) (ws : List Jvm.Cond) (p1 : Int32) (w1 : Int32) (h0 : Heap) (n0 : Nat) (Z0 : n0 ≤ h0.size) (S_C : Sta Z Z.heap "java/lang/String" "COMPACT_STRINGS" "Z" (.int w1)) (c0 : ¬ w1 = 0) (hzo : Old Z n0 h0) (hcw : Jvm.Lit.compactW.before a0 Z = true) (hH : Jvm.Lit.constHeld Z "java/lang/String" 7) :
    MetFree l (⟨"com/example/viitta/viitta/core/SafeXmlStartTagIsPinLaw", "mk", "(I)Ljava/lang/String;"⟩ : MethodName) (head1 (Jvm.Cond.code (⟨"com/example/viitta/viitta/core/SafeXmlStartTagIsPinLaw", "mk", "(I)Ljava/lang/String;"⟩ : MethodName) method_5_code 3 (some (.object "java/lang/String")) :: ws) ({ frames := 4, cells := 4, slots := 15, locals := 66 } : Room)) (fun a U => a = #[(.int p1)] ∧ Z.Warmed39 U.vm ∧ U.heap = h0 ∧ own_Ev Z U.vm h0) (fun _ _ _ _ _ => True) (fun _ U o U' => ∃ v L, o = .returned v ∧ Q1 Z p1 w1 h0 n0 v U'.heap U'.vm L ∧ ReturnedEndW U o U' L ({ frames := 4, cells := 4, slots := 15, locals := 66 } : Room).cells ({ frames := 4, cells := 4, slots := 15, locals := 66 } : Room).slots) := by
  refine MetFree.of_bodySF (plainFor_of_name pn_1) hisR ?_
  intro p e s m args below meth c s₁ Bd hml0 hP hK
  obtain ⟨rfl, hZ, hh, hpv⟩ := hP
  have hx := Bd.exec
  have hby := Bd.bytes
  have hml : c.maxLocals = 3 := hml0
  have hown : s.vm.findClass "com/example/viitta/viitta/core/SafeXmlStartTagIsPinLaw" = some m.cls := findClass_of_methodNamed Bd.named
  have hnm := (name_of_methodNamed Bd.named Bd.method).1
  have hlk := BodyLoose.notSynchronized Bd
  have hrt := Bd.returns
  have X0 : Stand p l e ({ frames := 4, cells := 4, slots := 15, locals := 66 } : Room) s m #[(.int p1)] below meth c s₁ [] 0 0 := Stand.of_body Bd
  have e0 : s₁.heap = h0 := by rw [← hh, Bd.state]; rfl
  have N0 := Fr.nil n0
  have hS0 : s.Since s.vm 0 := (State.WarmedH.refl s).since 0
  have IB0 := hpv
  have hkp : ∀ (b : Addr) (cl : Cell), Z.heap[b]? = some cl → s.heap[b]? = some cl := fun b cl q => by rw [hh]; exact hzo.2.2 b cl q
  show OEndsW p e below s (Q1 Z p1 w1 h0 n0) ({ frames := 4, cells := 4, slots := 15, locals := 66 } : Room).cells ({ frames := 4, cells := 4, slots := 15, locals := 66 } : Room).slots (s₁.setTop (entryFrame m #[(.int p1)] 3))
  refine OEndsW.go (t' := s₁.setTop (mkF m 0 #[.val (.int p1), .unset, .unset] [])) (fun t k => castTop (ef_rm1 m p1) k) ?_
  have hzt := hzo
  refine OEndsW.go (t' := s₁.setTop (mkF m 1 #[.val (.int p1), .unset, .unset] [(.int p1)])) (fun _ k => ?_) ?_
  · show Steps p.tables e below (s₁.setTop (mkF m 0 #[.val (.int p1), .unset, .unset] [])) _
    refine XS.iloadN X0.here hx rfl (hb hby d1_0) rfl ?_
    show Steps p.tables e below (s₁.setTop (mkF m 1 #[.val (.int p1), .unset, .unset] [(.int p1)])) _
    exact k
  obtain ⟨_, _, ⟨T1, L1, k1, n1⟩, -, X1, ⟨Lc1, hQ1, l1, y1, z1⟩, st1⟩ := Jvm.LawKit.callS X0 hx (y := (⟨"com/example/viitta/viitta/core/SafeXmlStartTagIsPinLaw", "len", "(I)I"⟩ : MethodName)) hown (mvT hZ (hw _ (List.mem_of_getElem? (i := 4) rfl))) (mvT hZ (hw _ (List.mem_of_getElem? (i := 5) rfl))) (mvT hZ (hw _ (List.mem_of_getElem? (i := 2) rfl))) (mvT hZ (hw _ (List.mem_of_getElem? (i := 6) rfl))) (by decide) (backOf (W := 0) (rm2 l Z a0 hw [] p1 h0 n0 Z0 ) hZ (hw _ (List.mem_of_getElem? (i := 6) rfl)) (hw _ (List.mem_of_getElem? (i := 2) rfl)) (by decide) (by decide)) (g := (mkF m 1 #[.val (.int p1), .unset, .unset] [(.int p1)])) rfl (by rw [hml]; rfl) (argsL := [(.int p1)]) (rest := []) (lenOf pd_rm1_0 rfl) rfl (by show 2 * 0 + _ ≤ _; exact Nat.le_of_eq rfl) (hb hby d1_1) (fun _ _ => ⟨rfl, e0, (by decide : 0 + 0 ≤ _), (by decide : 0 + 0 ≤ _)⟩)
  dsimp only [Pt.U, Pt.locs, Pt.cells, Pt.slots] at X1 l1 y1 z1 st1 hQ1
  subst l1 y1 z1
  obtain ⟨rfl, N1q, eh⟩ := hQ1
  have N1 := Fr.app N0 N1q
  have eh1 := eh
  refine OEndsW.go (t' := T1.setTop (mkF m 4 #[.val (.int p1), .unset, .unset] [(.int (own_len3 p1))])) (fun _ k => st1 _ k) ?_
  have hfour := own_four p1
  generalize hn : own_len3 p1 = n at hfour
  rcases hfour with rfl | rfl | rfl | rfl
  · skip
    refine OEndsW.go (t' := T1.setTop (mkF m 6 #[.val (.int p1), .val (.int (0 : Int32)), .unset] [(.int (0 : Int32))])) (fun _ k => ?_) ?_
    · show Steps p.tables e below (T1.setTop (mkF m 4 #[.val (.int p1), .unset, .unset] [(.int (0 : Int32))])) _
      refine XS.istoreN X1.here hx rfl (hb hby d1_4) rfl (l' := #[.val (.int p1), .val (.int (0 : Int32)), .unset]) rfl ?_
      show Steps p.tables e below (T1.setTop (mkF m 5 #[.val (.int p1), .val (.int (0 : Int32)), .unset] [])) _
      refine XS.iloadN X1.here hx rfl (hb hby d1_5) rfl ?_
      show Steps p.tables e below (T1.setTop (mkF m 6 #[.val (.int p1), .val (.int (0 : Int32)), .unset] [(.int (0 : Int32))])) _
      exact k
    obtain ⟨T2, h2, ka2, X2, e2, E2, A2, st2⟩ := newP X1 hx hZ (hw _ (List.mem_of_getElem? (i := 7) rfl)) eh1 (g := (mkF m 6 #[.val (.int p1), .val (.int (0 : Int32)), .unset] [(.int (0 : Int32))])) rfl (hb hby d1_6) rfl (by decide) (cap := 0) (by decide) (by decide) (by decide) (by decide)
    obtain ⟨ar, gz2⟩ : ∃ z, z = h0.size := ⟨_, rfl⟩
    rw [← gz2] at A2 st2
    have g_ar : n0 ≤ ar := Nat.le_trans Z0 (Nat.le_of_eq gz2.symm)
    have sz_ar : h0.size ≤ ar := Nat.le_trans (Keep.refl h0 []).1 (Nat.le_of_eq gz2.symm)
    have hzt := hzt.ext E2
    have Z2 : n0 ≤ h2.size := Nat.le_trans Z0 E2.1
    have K2 := (Keep.refl h0 []).ext E2
    have V_ar : Arv Z h2 ar ka2 .char (0 : Int32) [] (.int (0 : Int32)) := Arv.new A2 (by decide)
    refine OEndsW.go (t' := T2.setTop (mkF m 8 #[.val (.int p1), .val (.int (0 : Int32)), .unset] [(.ref ar)])) (fun _ k => st2 _ k) ?_
    refine OEndsW.go (t' := T2.setTop (mkF m 10 #[.val (.int p1), .val (.int (0 : Int32)), .val (.ref ar)] [(.int (0 : Int32))])) (fun _ k => ?_) ?_
    · show Steps p.tables e below (T2.setTop (mkF m 8 #[.val (.int p1), .val (.int (0 : Int32)), .unset] [(.ref ar)])) _
      refine XS.astoreN X2.here hx rfl (hb hby d1_8) rfl rfl (l' := #[.val (.int p1), .val (.int (0 : Int32)), .val (.ref ar)]) rfl ?_
      show Steps p.tables e below (T2.setTop (mkF m 9 #[.val (.int p1), .val (.int (0 : Int32)), .val (.ref ar)] [])) _
      refine XS.iloadN X2.here hx rfl (hb hby d1_9) rfl ?_
      show Steps p.tables e below (T2.setTop (mkF m 10 #[.val (.int p1), .val (.int (0 : Int32)), .val (.ref ar)] [(.int (0 : Int32))])) _
      exact k
    refine OEndsW.go (t' := T2.setTop (mkF m 21 #[.val (.int p1), .val (.int (0 : Int32)), .val (.ref ar)] [])) (fun _ k => XS.ifYes X2.here hx rfl (pc0 := 10) (pc' := 21) rfl (hb hby d1_10) rfl ((if0 _ _).trans (flt (by decide)).2.2.2) (by decide) (by decide) k) ?_
    refine OEndsW.go (t' := T2.setTop (mkF m 23 #[.val (.int p1), .val (.int (0 : Int32)), .val (.ref ar)] [(.int (1 : Int32)), (.int (0 : Int32))])) (fun _ k => ?_) ?_
    · show Steps p.tables e below (T2.setTop (mkF m 21 #[.val (.int p1), .val (.int (0 : Int32)), .val (.ref ar)] [])) _
      refine XS.iloadN X2.here hx rfl (hb hby d1_21) rfl ?_
      show Steps p.tables e below (T2.setTop (mkF m 22 #[.val (.int p1), .val (.int (0 : Int32)), .val (.ref ar)] [(.int (0 : Int32))])) _
      refine XS.iconst X2.here hx rfl (hb hby d1_22) ?_
      show Steps p.tables e below (T2.setTop (mkF m 23 #[.val (.int p1), .val (.int (0 : Int32)), .val (.ref ar)] [(.int (1 : Int32)), (.int (0 : Int32))])) _
      exact k
    refine OEndsW.go (t' := T2.setTop (mkF m 34 #[.val (.int p1), .val (.int (0 : Int32)), .val (.ref ar)] [])) (fun _ k => XS.icmpYes X2.here hx rfl (pc0 := 23) (pc' := 34) rfl (hb hby d1_23) rfl (flt (by decide)).2.2.2 (by decide) (by decide) k) ?_
    refine OEndsW.go (t' := T2.setTop (mkF m 36 #[.val (.int p1), .val (.int (0 : Int32)), .val (.ref ar)] [(.int (2 : Int32)), (.int (0 : Int32))])) (fun _ k => ?_) ?_
    · show Steps p.tables e below (T2.setTop (mkF m 34 #[.val (.int p1), .val (.int (0 : Int32)), .val (.ref ar)] [])) _
      refine XS.iloadN X2.here hx rfl (hb hby d1_34) rfl ?_
      show Steps p.tables e below (T2.setTop (mkF m 35 #[.val (.int p1), .val (.int (0 : Int32)), .val (.ref ar)] [(.int (0 : Int32))])) _
      refine XS.iconst X2.here hx rfl (hb hby d1_35) ?_
      show Steps p.tables e below (T2.setTop (mkF m 36 #[.val (.int p1), .val (.int (0 : Int32)), .val (.ref ar)] [(.int (2 : Int32)), (.int (0 : Int32))])) _
      exact k
    refine OEndsW.go (t' := T2.setTop (mkF m 47 #[.val (.int p1), .val (.int (0 : Int32)), .val (.ref ar)] [])) (fun _ k => XS.icmpYes X2.here hx rfl (pc0 := 36) (pc' := 47) rfl (hb hby d1_36) rfl (flt (by decide)).2.2.2 (by decide) (by decide) k) ?_
    have C_ar : own_Ch Z h2 ar ka2 [] := ⟨V_ar, by decide, by simp⟩
    obtain ⟨T3, h3, X3, e3, E3, A3, D3, -, st3⟩ := newO X2 hx hZ hown (hw _ (List.mem_of_getElem? (i := 8) rfl)) (hw _ (List.mem_of_getElem? (i := 9) rfl)) (hw _ (List.mem_of_getElem? (i := 10) rfl)) e2 (g := (mkF m 47 #[.val (.int p1), .val (.int (0 : Int32)), .val (.ref ar)] [])) rfl (hb hby d1_47) (by decide) (by decide)
    obtain ⟨b1, gz3⟩ : ∃ z, z = h2.size := ⟨_, rfl⟩
    rw [← gz3] at A3 D3 st3
    have ne_ar_b1 : ar ≠ b1 := Nat.ne_of_lt (Nat.lt_of_lt_of_le C_ar.lt (Nat.le_of_eq gz3.symm))
    have g_b1 : n0 ≤ b1 := Nat.le_trans Z2 (Nat.le_of_eq gz3.symm)
    have sz_b1 : h0.size ≤ b1 := Nat.le_trans K2.1 (Nat.le_of_eq gz3.symm)
    have hzt := hzt.ext E3
    have C_ar := C_ar.ext E3
    have Z3 : n0 ≤ h3.size := Nat.le_trans Z2 E3.1
    have K3 := K2.ext E3
    have E_b1 := A3
    have F_value_b1 : Fld Z h3 b1 "java/lang/String" "value" "[B" .null := D3 (Or.inr (hw _ (List.mem_of_getElem? (i := 23) rfl))) (ty := (.array .byte)) (by decide)
    have F_coder_b1 : Fld Z h3 b1 "java/lang/String" "coder" "B" (.int (0 : Int32)) := D3 (Or.inr (hw _ (List.mem_of_getElem? (i := 24) rfl))) (ty := .byte) (by decide)
    refine OEndsW.go (t' := T3.setTop (mkF m 50 #[.val (.int p1), .val (.int (0 : Int32)), .val (.ref ar)] [(.ref b1)])) (fun _ k => st3 _ k) ?_
    refine OEndsW.go (t' := T3.setTop (mkF m 52 #[.val (.int p1), .val (.int (0 : Int32)), .val (.ref ar)] [(.ref ar), (.ref b1), (.ref b1)])) (fun _ k => ?_) ?_
    · show Steps p.tables e below (T3.setTop (mkF m 50 #[.val (.int p1), .val (.int (0 : Int32)), .val (.ref ar)] [(.ref b1)])) _
      refine XS.dup X3.here hx rfl (hb hby d1_50) rfl rfl ?_
      show Steps p.tables e below (T3.setTop (mkF m 51 #[.val (.int p1), .val (.int (0 : Int32)), .val (.ref ar)] [(.ref b1), (.ref b1)])) _
      refine XS.aloadN X3.here hx rfl (hb hby d1_51) rfl rfl ?_
      show Steps p.tables e below (T3.setTop (mkF m 52 #[.val (.int p1), .val (.int (0 : Int32)), .val (.ref ar)] [(.ref ar), (.ref b1), (.ref b1)])) _
      exact k
    obtain ⟨_, _, ⟨T4, L4, k4, n4⟩, -, X4, hSq4, hgq4, ⟨Lc4, hQ4, l4, y4, z4⟩, st4⟩ := X3.specialBackS hx (y := (⟨"java/lang/String", "<init>", "([C)V"⟩ : MethodName)) rfl hown (mvT hZ (hw _ (List.mem_of_getElem? (i := 11) rfl))) (mvT hZ (hw _ (List.mem_of_getElem? (i := 12) rfl))) (mvT hZ (hw _ (List.mem_of_getElem? (i := 13) rfl))) (by decide) (own_backI (W := 1) (rmE1 l Z a0 hw [] b1 ar _ h3 n0 Z3 hzt hcw hH F_value_b1 F_coder_b1 E_b1 g_b1 C_ar) hZ (fun vm hW => (hpv.keep0 K3).stays hW) (hw _ (List.mem_of_getElem? (i := 13) rfl)) (hw _ (List.mem_of_getElem? (i := 10) rfl)) (by decide) (by decide)) (g := (mkF m 52 #[.val (.int p1), .val (.int (0 : Int32)), .val (.ref ar)] [(.ref ar), (.ref b1), (.ref b1)])) rfl (by rw [hml]; rfl) (Steps.refl _) (a := b1) (argsL := [(.ref ar)]) (rest := [(.ref b1)]) (lenOf pd_rm1_1 rfl) rfl (by show 2 * 0 + _ ≤ _; exact Nat.le_of_eq rfl) (hb hby d1_52) (fun _ _ => ⟨rfl, e3, (by decide : 2 + 2 ≤ _), (by decide : 4 + 4 ≤ _)⟩)
    dsimp only [Pt.U, Pt.locs, Pt.cells, Pt.slots] at X4 l4 y4 z4 st4 hQ4 hSq4 hgq4
    subst l4 y4 z4
    obtain ⟨X4, hS4, hZ, hown⟩ := rebS (s := s) (vm0 := s.vm) (vm1 := T4.vm) hS0 (Nat.zero_le _) X4 hSq4 hgq4 hZ hown
    obtain ⟨rfl, N4q, Kc4, ⟨bb4, kk4, hs4⟩, hv4⟩ := hQ4
    have N4 := Fr.app N1 N4q
    have hzt := hzt.keep Kc4 (allS g_b1 all0)
    have C_ar := C_ar.keep Kc4 (ninS ne_ar_b1 nin0)
    have E_b1 := E_b1.keep Kc4
    have Z4 : n0 ≤ T4.heap.size := Nat.le_trans Z3 Kc4.1
    have K4 := K3.trans Kc4 (allS (Or.inr sz_b1) all0)
    have hk4 : T4.heap.size ≤ T4.heap.size := Nat.le_refl _
    refine OEndsW.go (t' := T4.setTop (mkF m 55 #[.val (.int p1), .val (.int (0 : Int32)), .val (.ref ar)] [(.ref b1)])) (fun _ k => st4.trans k) ?_
    refine OEndsW.back X4 hS4 hk4 hlk (v := (some (.ref b1))) (fun h => by rw [hrt] at h; cases h) (fun fs hr => ?_) ?_ (by decide) (by decide)
    · exact retA X4 hx hrt rfl rfl rfl (hb hby d1_55) hr
    · show Q1 Z p1 w1 h0 n0 _ T4.heap T4.vm _
      exact ⟨_, _, _, rfl, N4, K4, by rw [own_C0 hn]; exact hs4, hv4⟩
  · skip
    refine OEndsW.go (t' := T1.setTop (mkF m 6 #[.val (.int p1), .val (.int (1 : Int32)), .unset] [(.int (1 : Int32))])) (fun _ k => ?_) ?_
    · show Steps p.tables e below (T1.setTop (mkF m 4 #[.val (.int p1), .unset, .unset] [(.int (1 : Int32))])) _
      refine XS.istoreN X1.here hx rfl (hb hby d1_4) rfl (l' := #[.val (.int p1), .val (.int (1 : Int32)), .unset]) rfl ?_
      show Steps p.tables e below (T1.setTop (mkF m 5 #[.val (.int p1), .val (.int (1 : Int32)), .unset] [])) _
      refine XS.iloadN X1.here hx rfl (hb hby d1_5) rfl ?_
      show Steps p.tables e below (T1.setTop (mkF m 6 #[.val (.int p1), .val (.int (1 : Int32)), .unset] [(.int (1 : Int32))])) _
      exact k
    obtain ⟨T5, h5, ka5, X5, e5, E5, A5, st5⟩ := newP X1 hx hZ (hw _ (List.mem_of_getElem? (i := 7) rfl)) eh1 (g := (mkF m 6 #[.val (.int p1), .val (.int (1 : Int32)), .unset] [(.int (1 : Int32))])) rfl (hb hby d1_6) rfl (by decide) (cap := 1) (by decide) (by decide) (by decide) (by decide)
    obtain ⟨ar, gz5⟩ : ∃ z, z = h0.size := ⟨_, rfl⟩
    rw [← gz5] at A5 st5
    have g_ar : n0 ≤ ar := Nat.le_trans Z0 (Nat.le_of_eq gz5.symm)
    have sz_ar : h0.size ≤ ar := Nat.le_trans (Keep.refl h0 []).1 (Nat.le_of_eq gz5.symm)
    have hzt := hzt.ext E5
    have Z5 : n0 ≤ h5.size := Nat.le_trans Z0 E5.1
    have K5 := (Keep.refl h0 []).ext E5
    have V_ar : Arv Z h5 ar ka5 .char (1 : Int32) [(.int (0 : Int32))] (.int (0 : Int32)) := (Arv.new A5 (by decide)).pad (pad_rep [] (.int (0 : Int32)) 1)
    refine OEndsW.go (t' := T5.setTop (mkF m 8 #[.val (.int p1), .val (.int (1 : Int32)), .unset] [(.ref ar)])) (fun _ k => st5 _ k) ?_
    refine OEndsW.go (t' := T5.setTop (mkF m 10 #[.val (.int p1), .val (.int (1 : Int32)), .val (.ref ar)] [(.int (1 : Int32))])) (fun _ k => ?_) ?_
    · show Steps p.tables e below (T5.setTop (mkF m 8 #[.val (.int p1), .val (.int (1 : Int32)), .unset] [(.ref ar)])) _
      refine XS.astoreN X5.here hx rfl (hb hby d1_8) rfl rfl (l' := #[.val (.int p1), .val (.int (1 : Int32)), .val (.ref ar)]) rfl ?_
      show Steps p.tables e below (T5.setTop (mkF m 9 #[.val (.int p1), .val (.int (1 : Int32)), .val (.ref ar)] [])) _
      refine XS.iloadN X5.here hx rfl (hb hby d1_9) rfl ?_
      show Steps p.tables e below (T5.setTop (mkF m 10 #[.val (.int p1), .val (.int (1 : Int32)), .val (.ref ar)] [(.int (1 : Int32))])) _
      exact k
    refine OEndsW.go (t' := T5.setTop (mkF m 13 #[.val (.int p1), .val (.int (1 : Int32)), .val (.ref ar)] [])) (fun _ k => XS.ifNo X5.here hx rfl (hb hby d1_10) rfl ((if0 _ _).trans (tlt (by decide)).2.2.2) k) ?_
    refine OEndsW.go (t' := T5.setTop (mkF m 17 #[.val (.int p1), .val (.int (1 : Int32)), .val (.ref ar)] [(.int (0 : Int32)), (.int p1), (.int (0 : Int32)), (.ref ar)])) (fun _ k => ?_) ?_
    · show Steps p.tables e below (T5.setTop (mkF m 13 #[.val (.int p1), .val (.int (1 : Int32)), .val (.ref ar)] [])) _
      refine XS.aloadN X5.here hx rfl (hb hby d1_13) rfl rfl ?_
      show Steps p.tables e below (T5.setTop (mkF m 14 #[.val (.int p1), .val (.int (1 : Int32)), .val (.ref ar)] [(.ref ar)])) _
      refine XS.iconst X5.here hx rfl (hb hby d1_14) ?_
      show Steps p.tables e below (T5.setTop (mkF m 15 #[.val (.int p1), .val (.int (1 : Int32)), .val (.ref ar)] [(.int (0 : Int32)), (.ref ar)])) _
      refine XS.iloadN X5.here hx rfl (hb hby d1_15) rfl ?_
      show Steps p.tables e below (T5.setTop (mkF m 16 #[.val (.int p1), .val (.int (1 : Int32)), .val (.ref ar)] [(.int p1), (.int (0 : Int32)), (.ref ar)])) _
      refine XS.iconst X5.here hx rfl (hb hby d1_16) ?_
      show Steps p.tables e below (T5.setTop (mkF m 17 #[.val (.int p1), .val (.int (1 : Int32)), .val (.ref ar)] [(.int (0 : Int32)), (.int p1), (.int (0 : Int32)), (.ref ar)])) _
      exact k
    obtain ⟨_, _, ⟨T6, L6, k6, n6⟩, -, X6, ⟨Lc6, hQ6, l6, y6, z6⟩, st6⟩ := Jvm.LawKit.callS X5 hx (y := (⟨"com/example/viitta/viitta/core/SafeXmlStartTagIsPinLaw", "ch", "(II)C"⟩ : MethodName)) hown (mvT hZ (hw _ (List.mem_of_getElem? (i := 94) rfl))) (mvT hZ (hw _ (List.mem_of_getElem? (i := 95) rfl))) (mvT hZ (hw _ (List.mem_of_getElem? (i := 2) rfl))) (mvT hZ (hw _ (List.mem_of_getElem? (i := 96) rfl))) (by decide) (backOf (W := 2) (rm15 l Z a0 hw [] p1 (0 : Int32) h5 n0 Z5 ) hZ (hw _ (List.mem_of_getElem? (i := 96) rfl)) (hw _ (List.mem_of_getElem? (i := 2) rfl)) (by decide) (by decide)) (g := (mkF m 17 #[.val (.int p1), .val (.int (1 : Int32)), .val (.ref ar)] [(.int (0 : Int32)), (.int p1), (.int (0 : Int32)), (.ref ar)])) rfl (by rw [hml]; rfl) (argsL := [(.int p1), (.int (0 : Int32))]) (rest := [(.int (0 : Int32)), (.ref ar)]) (lenOf pd_rm1_2 rfl) rfl (by show 2 * 0 + _ ≤ _; exact Nat.le_of_eq rfl) (hb hby d1_17) (fun _ _ => ⟨rfl, e5, (by decide : 1 + 0 ≤ _), (by decide : 1 + 0 ≤ _)⟩)
    dsimp only [Pt.U, Pt.locs, Pt.cells, Pt.slots] at X6 l6 y6 z6 st6 hQ6
    subst l6 y6 z6
    obtain ⟨rfl, N6q, eh⟩ := hQ6
    have N6 := Fr.app N1 N6q
    have eh6 := eh
    refine OEndsW.go (t' := T6.setTop (mkF m 20 #[.val (.int p1), .val (.int (1 : Int32)), .val (.ref ar)] [(.int (own_ch p1 (0 : Int32))), (.int (0 : Int32)), (.ref ar)])) (fun _ k => st6 _ k) ?_
    obtain ⟨cl7, Ar7, cq7, cS7, cN7, cH7, cG7⟩ := V_ar
    have hin7 : ¬ ((0 : Int32) < 0 ∨ cl7.slots.size ≤ ((0 : Int32)).toNatClampNeg) := inb_of cS7 ⟨by decide, by decide⟩
    obtain ⟨T7, h7, X7, e7, W7, st7⟩ := stC X6 hx hZ eh6 Ar7 (j := (0 : Int32)) hin7 (g := (mkF m 20 #[.val (.int p1), .val (.int (1 : Int32)), .val (.ref ar)] [(.int (own_ch p1 (0 : Int32))), (.int (0 : Int32)), (.ref ar)])) rfl rfl (hb hby d1_20)
    have N7 := Fr.snoc X7 N6 g_ar
    have hzt := hzt.wr W7 g_ar
    have Z7 : n0 ≤ h7.size := Nat.le_trans Z5 (Keep.of_wr W7).1
    have K7 := K5.wr W7 (Or.inr sz_ar)
    have V_ar := Arv.set Ar7 cq7 cS7 cN7 cH7 cG7 (fits_nar_char _) W7 0 rfl (Nat.le_of_ble_eq_true rfl)
    refine OEndsW.go (t' := T7.setTop (mkF m 21 #[.val (.int p1), .val (.int (1 : Int32)), .val (.ref ar)] [])) (fun _ k => st7 _ k) ?_
    refine OEndsW.go (t' := T7.setTop (mkF m 23 #[.val (.int p1), .val (.int (1 : Int32)), .val (.ref ar)] [(.int (1 : Int32)), (.int (1 : Int32))])) (fun _ k => ?_) ?_
    · show Steps p.tables e below (T7.setTop (mkF m 21 #[.val (.int p1), .val (.int (1 : Int32)), .val (.ref ar)] [])) _
      refine XS.iloadN X7.here hx rfl (hb hby d1_21) rfl ?_
      show Steps p.tables e below (T7.setTop (mkF m 22 #[.val (.int p1), .val (.int (1 : Int32)), .val (.ref ar)] [(.int (1 : Int32))])) _
      refine XS.iconst X7.here hx rfl (hb hby d1_22) ?_
      show Steps p.tables e below (T7.setTop (mkF m 23 #[.val (.int p1), .val (.int (1 : Int32)), .val (.ref ar)] [(.int (1 : Int32)), (.int (1 : Int32))])) _
      exact k
    refine OEndsW.go (t' := T7.setTop (mkF m 34 #[.val (.int p1), .val (.int (1 : Int32)), .val (.ref ar)] [])) (fun _ k => XS.icmpYes X7.here hx rfl (pc0 := 23) (pc' := 34) rfl (hb hby d1_23) rfl (flt (by decide)).2.2.2 (by decide) (by decide) k) ?_
    refine OEndsW.go (t' := T7.setTop (mkF m 36 #[.val (.int p1), .val (.int (1 : Int32)), .val (.ref ar)] [(.int (2 : Int32)), (.int (1 : Int32))])) (fun _ k => ?_) ?_
    · show Steps p.tables e below (T7.setTop (mkF m 34 #[.val (.int p1), .val (.int (1 : Int32)), .val (.ref ar)] [])) _
      refine XS.iloadN X7.here hx rfl (hb hby d1_34) rfl ?_
      show Steps p.tables e below (T7.setTop (mkF m 35 #[.val (.int p1), .val (.int (1 : Int32)), .val (.ref ar)] [(.int (1 : Int32))])) _
      refine XS.iconst X7.here hx rfl (hb hby d1_35) ?_
      show Steps p.tables e below (T7.setTop (mkF m 36 #[.val (.int p1), .val (.int (1 : Int32)), .val (.ref ar)] [(.int (2 : Int32)), (.int (1 : Int32))])) _
      exact k
    refine OEndsW.go (t' := T7.setTop (mkF m 47 #[.val (.int p1), .val (.int (1 : Int32)), .val (.ref ar)] [])) (fun _ k => XS.icmpYes X7.here hx rfl (pc0 := 36) (pc' := 47) rfl (hb hby d1_36) rfl (flt (by decide)).2.2.2 (by decide) (by decide) k) ?_
    have C_ar : own_Ch Z h7 ar ka5 [own_ch p1 0] := by
      refine ⟨?_, Nat.le_of_ble_eq_true rfl, ?_⟩
      · have q := V_ar
        rw [own_narc] at q
        exact q
      · intro z hz; simp only [List.mem_cons, List.not_mem_nil, or_false] at hz
        rcases hz with rfl <;> exact own_chb _ _
    obtain ⟨T8, h8, X8, e8, E8, A8, D8, -, st8⟩ := newO X7 hx hZ hown (hw _ (List.mem_of_getElem? (i := 8) rfl)) (hw _ (List.mem_of_getElem? (i := 9) rfl)) (hw _ (List.mem_of_getElem? (i := 10) rfl)) e7 (g := (mkF m 47 #[.val (.int p1), .val (.int (1 : Int32)), .val (.ref ar)] [])) rfl (hb hby d1_47) (by decide) (by decide)
    obtain ⟨b1, gz8⟩ : ∃ z, z = h7.size := ⟨_, rfl⟩
    rw [← gz8] at A8 D8 st8
    have ne_ar_b1 : ar ≠ b1 := Nat.ne_of_lt (Nat.lt_of_lt_of_le C_ar.lt (Nat.le_of_eq gz8.symm))
    have g_b1 : n0 ≤ b1 := Nat.le_trans Z7 (Nat.le_of_eq gz8.symm)
    have sz_b1 : h0.size ≤ b1 := Nat.le_trans K7.1 (Nat.le_of_eq gz8.symm)
    have hzt := hzt.ext E8
    have C_ar := C_ar.ext E8
    have Z8 : n0 ≤ h8.size := Nat.le_trans Z7 E8.1
    have K8 := K7.ext E8
    have E_b1 := A8
    have F_value_b1 : Fld Z h8 b1 "java/lang/String" "value" "[B" .null := D8 (Or.inr (hw _ (List.mem_of_getElem? (i := 23) rfl))) (ty := (.array .byte)) (by decide)
    have F_coder_b1 : Fld Z h8 b1 "java/lang/String" "coder" "B" (.int (0 : Int32)) := D8 (Or.inr (hw _ (List.mem_of_getElem? (i := 24) rfl))) (ty := .byte) (by decide)
    refine OEndsW.go (t' := T8.setTop (mkF m 50 #[.val (.int p1), .val (.int (1 : Int32)), .val (.ref ar)] [(.ref b1)])) (fun _ k => st8 _ k) ?_
    refine OEndsW.go (t' := T8.setTop (mkF m 52 #[.val (.int p1), .val (.int (1 : Int32)), .val (.ref ar)] [(.ref ar), (.ref b1), (.ref b1)])) (fun _ k => ?_) ?_
    · show Steps p.tables e below (T8.setTop (mkF m 50 #[.val (.int p1), .val (.int (1 : Int32)), .val (.ref ar)] [(.ref b1)])) _
      refine XS.dup X8.here hx rfl (hb hby d1_50) rfl rfl ?_
      show Steps p.tables e below (T8.setTop (mkF m 51 #[.val (.int p1), .val (.int (1 : Int32)), .val (.ref ar)] [(.ref b1), (.ref b1)])) _
      refine XS.aloadN X8.here hx rfl (hb hby d1_51) rfl rfl ?_
      show Steps p.tables e below (T8.setTop (mkF m 52 #[.val (.int p1), .val (.int (1 : Int32)), .val (.ref ar)] [(.ref ar), (.ref b1), (.ref b1)])) _
      exact k
    obtain ⟨_, _, ⟨T9, L9, k9, n9⟩, -, X9, ⟨Lc9, hQ9, l9, y9, z9⟩, st9⟩ := X8.specialBack hx (y := (⟨"java/lang/String", "<init>", "([C)V"⟩ : MethodName)) rfl hown (mvT hZ (hw _ (List.mem_of_getElem? (i := 11) rfl))) (mvT hZ (hw _ (List.mem_of_getElem? (i := 12) rfl))) (mvT hZ (hw _ (List.mem_of_getElem? (i := 13) rfl))) (by decide) (backOf (W := 1) (rm3 l Z a0 hw [] b1 ar w1 _ [own_ch p1 0] h8 n0 Z8 (S_C.ext hzt.2) c0 F_value_b1 F_coder_b1 E_b1 g_b1 C_ar (Nat.le_of_ble_eq_true rfl) (Nat.le_of_ble_eq_true rfl)) hZ (hw _ (List.mem_of_getElem? (i := 13) rfl)) (hw _ (List.mem_of_getElem? (i := 10) rfl)) (by decide) (by decide)) (g := (mkF m 52 #[.val (.int p1), .val (.int (1 : Int32)), .val (.ref ar)] [(.ref ar), (.ref b1), (.ref b1)])) rfl (by rw [hml]; rfl) (Steps.refl _) (a := b1) (argsL := [(.ref ar)]) (rest := [(.ref b1)]) (lenOf pd_rm1_1 rfl) rfl (by show 2 * 0 + _ ≤ _; exact Nat.le_of_eq rfl) (hb hby d1_52) (fun _ _ => ⟨rfl, e8, (by decide : 2 + 1 ≤ _), (by decide : 5 + 8 ≤ _)⟩)
    dsimp only [Pt.U, Pt.locs, Pt.cells, Pt.slots] at X9 l9 y9 z9 st9 hQ9
    subst l9 y9 z9
    obtain ⟨rfl, N9q, Kc9, bb9, kk9, hs9⟩ := hQ9
    have N9 := Fr.app N7 N9q
    have hzt := hzt.keep Kc9 (allS g_b1 all0)
    have C_ar := C_ar.keep Kc9 (ninS ne_ar_b1 nin0)
    have E_b1 := E_b1.keep Kc9
    have Z9 : n0 ≤ T9.heap.size := Nat.le_trans Z8 Kc9.1
    have K9 := K8.trans Kc9 (allS (Or.inr sz_b1) all0)
    refine OEndsW.go (t' := T9.setTop (mkF m 55 #[.val (.int p1), .val (.int (1 : Int32)), .val (.ref ar)] [(.ref b1)])) (fun _ k => st9.trans k) ?_
    refine OEndsW.back (vm₁ := s.vm) X9 hS0 (Nat.zero_le _) hlk (v := (some (.ref b1))) (fun h => by rw [hrt] at h; cases h) (fun fs hr => ?_) ?_ (by decide) (by decide)
    · exact retA X9 hx hrt rfl rfl rfl (hb hby d1_55) hr
    · show Q1 Z p1 w1 h0 n0 _ T9.heap T9.vm _
      exact ⟨_, _, _, rfl, N9, K9, by rw [own_C1 hn]; exact hs9, (hpv.keep0 K9).stays X9.warmed⟩
  · skip
    refine OEndsW.go (t' := T1.setTop (mkF m 6 #[.val (.int p1), .val (.int (2 : Int32)), .unset] [(.int (2 : Int32))])) (fun _ k => ?_) ?_
    · show Steps p.tables e below (T1.setTop (mkF m 4 #[.val (.int p1), .unset, .unset] [(.int (2 : Int32))])) _
      refine XS.istoreN X1.here hx rfl (hb hby d1_4) rfl (l' := #[.val (.int p1), .val (.int (2 : Int32)), .unset]) rfl ?_
      show Steps p.tables e below (T1.setTop (mkF m 5 #[.val (.int p1), .val (.int (2 : Int32)), .unset] [])) _
      refine XS.iloadN X1.here hx rfl (hb hby d1_5) rfl ?_
      show Steps p.tables e below (T1.setTop (mkF m 6 #[.val (.int p1), .val (.int (2 : Int32)), .unset] [(.int (2 : Int32))])) _
      exact k
    obtain ⟨T10, h10, ka10, X10, e10, E10, A10, st10⟩ := newP X1 hx hZ (hw _ (List.mem_of_getElem? (i := 7) rfl)) eh1 (g := (mkF m 6 #[.val (.int p1), .val (.int (2 : Int32)), .unset] [(.int (2 : Int32))])) rfl (hb hby d1_6) rfl (by decide) (cap := 2) (by decide) (by decide) (by decide) (by decide)
    obtain ⟨ar, gz10⟩ : ∃ z, z = h0.size := ⟨_, rfl⟩
    rw [← gz10] at A10 st10
    have g_ar : n0 ≤ ar := Nat.le_trans Z0 (Nat.le_of_eq gz10.symm)
    have sz_ar : h0.size ≤ ar := Nat.le_trans (Keep.refl h0 []).1 (Nat.le_of_eq gz10.symm)
    have hzt := hzt.ext E10
    have Z10 : n0 ≤ h10.size := Nat.le_trans Z0 E10.1
    have K10 := (Keep.refl h0 []).ext E10
    have V_ar : Arv Z h10 ar ka10 .char (2 : Int32) [(.int (0 : Int32)), (.int (0 : Int32))] (.int (0 : Int32)) := (Arv.new A10 (by decide)).pad (pad_rep [] (.int (0 : Int32)) 2)
    refine OEndsW.go (t' := T10.setTop (mkF m 8 #[.val (.int p1), .val (.int (2 : Int32)), .unset] [(.ref ar)])) (fun _ k => st10 _ k) ?_
    refine OEndsW.go (t' := T10.setTop (mkF m 10 #[.val (.int p1), .val (.int (2 : Int32)), .val (.ref ar)] [(.int (2 : Int32))])) (fun _ k => ?_) ?_
    · show Steps p.tables e below (T10.setTop (mkF m 8 #[.val (.int p1), .val (.int (2 : Int32)), .unset] [(.ref ar)])) _
      refine XS.astoreN X10.here hx rfl (hb hby d1_8) rfl rfl (l' := #[.val (.int p1), .val (.int (2 : Int32)), .val (.ref ar)]) rfl ?_
      show Steps p.tables e below (T10.setTop (mkF m 9 #[.val (.int p1), .val (.int (2 : Int32)), .val (.ref ar)] [])) _
      refine XS.iloadN X10.here hx rfl (hb hby d1_9) rfl ?_
      show Steps p.tables e below (T10.setTop (mkF m 10 #[.val (.int p1), .val (.int (2 : Int32)), .val (.ref ar)] [(.int (2 : Int32))])) _
      exact k
    refine OEndsW.go (t' := T10.setTop (mkF m 13 #[.val (.int p1), .val (.int (2 : Int32)), .val (.ref ar)] [])) (fun _ k => XS.ifNo X10.here hx rfl (hb hby d1_10) rfl ((if0 _ _).trans (tlt (by decide)).2.2.2) k) ?_
    refine OEndsW.go (t' := T10.setTop (mkF m 17 #[.val (.int p1), .val (.int (2 : Int32)), .val (.ref ar)] [(.int (0 : Int32)), (.int p1), (.int (0 : Int32)), (.ref ar)])) (fun _ k => ?_) ?_
    · show Steps p.tables e below (T10.setTop (mkF m 13 #[.val (.int p1), .val (.int (2 : Int32)), .val (.ref ar)] [])) _
      refine XS.aloadN X10.here hx rfl (hb hby d1_13) rfl rfl ?_
      show Steps p.tables e below (T10.setTop (mkF m 14 #[.val (.int p1), .val (.int (2 : Int32)), .val (.ref ar)] [(.ref ar)])) _
      refine XS.iconst X10.here hx rfl (hb hby d1_14) ?_
      show Steps p.tables e below (T10.setTop (mkF m 15 #[.val (.int p1), .val (.int (2 : Int32)), .val (.ref ar)] [(.int (0 : Int32)), (.ref ar)])) _
      refine XS.iloadN X10.here hx rfl (hb hby d1_15) rfl ?_
      show Steps p.tables e below (T10.setTop (mkF m 16 #[.val (.int p1), .val (.int (2 : Int32)), .val (.ref ar)] [(.int p1), (.int (0 : Int32)), (.ref ar)])) _
      refine XS.iconst X10.here hx rfl (hb hby d1_16) ?_
      show Steps p.tables e below (T10.setTop (mkF m 17 #[.val (.int p1), .val (.int (2 : Int32)), .val (.ref ar)] [(.int (0 : Int32)), (.int p1), (.int (0 : Int32)), (.ref ar)])) _
      exact k
    obtain ⟨_, _, ⟨T11, L11, k11, n11⟩, -, X11, ⟨Lc11, hQ11, l11, y11, z11⟩, st11⟩ := Jvm.LawKit.callS X10 hx (y := (⟨"com/example/viitta/viitta/core/SafeXmlStartTagIsPinLaw", "ch", "(II)C"⟩ : MethodName)) hown (mvT hZ (hw _ (List.mem_of_getElem? (i := 94) rfl))) (mvT hZ (hw _ (List.mem_of_getElem? (i := 95) rfl))) (mvT hZ (hw _ (List.mem_of_getElem? (i := 2) rfl))) (mvT hZ (hw _ (List.mem_of_getElem? (i := 96) rfl))) (by decide) (backOf (W := 2) (rm15 l Z a0 hw [] p1 (0 : Int32) h10 n0 Z10 ) hZ (hw _ (List.mem_of_getElem? (i := 96) rfl)) (hw _ (List.mem_of_getElem? (i := 2) rfl)) (by decide) (by decide)) (g := (mkF m 17 #[.val (.int p1), .val (.int (2 : Int32)), .val (.ref ar)] [(.int (0 : Int32)), (.int p1), (.int (0 : Int32)), (.ref ar)])) rfl (by rw [hml]; rfl) (argsL := [(.int p1), (.int (0 : Int32))]) (rest := [(.int (0 : Int32)), (.ref ar)]) (lenOf pd_rm1_2 rfl) rfl (by show 2 * 0 + _ ≤ _; exact Nat.le_of_eq rfl) (hb hby d1_17) (fun _ _ => ⟨rfl, e10, (by decide : 1 + 0 ≤ _), (by decide : 2 + 0 ≤ _)⟩)
    dsimp only [Pt.U, Pt.locs, Pt.cells, Pt.slots] at X11 l11 y11 z11 st11 hQ11
    subst l11 y11 z11
    obtain ⟨rfl, N11q, eh⟩ := hQ11
    have N11 := Fr.app N1 N11q
    have eh11 := eh
    refine OEndsW.go (t' := T11.setTop (mkF m 20 #[.val (.int p1), .val (.int (2 : Int32)), .val (.ref ar)] [(.int (own_ch p1 (0 : Int32))), (.int (0 : Int32)), (.ref ar)])) (fun _ k => st11 _ k) ?_
    obtain ⟨cl12, Ar12, cq12, cS12, cN12, cH12, cG12⟩ := V_ar
    have hin12 : ¬ ((0 : Int32) < 0 ∨ cl12.slots.size ≤ ((0 : Int32)).toNatClampNeg) := inb_of cS12 ⟨by decide, by decide⟩
    obtain ⟨T12, h12, X12, e12, W12, st12⟩ := stC X11 hx hZ eh11 Ar12 (j := (0 : Int32)) hin12 (g := (mkF m 20 #[.val (.int p1), .val (.int (2 : Int32)), .val (.ref ar)] [(.int (own_ch p1 (0 : Int32))), (.int (0 : Int32)), (.ref ar)])) rfl rfl (hb hby d1_20)
    have N12 := Fr.snoc X12 N11 g_ar
    have hzt := hzt.wr W12 g_ar
    have Z12 : n0 ≤ h12.size := Nat.le_trans Z10 (Keep.of_wr W12).1
    have K12 := K10.wr W12 (Or.inr sz_ar)
    have V_ar := Arv.set Ar12 cq12 cS12 cN12 cH12 cG12 (fits_nar_char _) W12 0 rfl (Nat.le_of_ble_eq_true rfl)
    refine OEndsW.go (t' := T12.setTop (mkF m 21 #[.val (.int p1), .val (.int (2 : Int32)), .val (.ref ar)] [])) (fun _ k => st12 _ k) ?_
    refine OEndsW.go (t' := T12.setTop (mkF m 23 #[.val (.int p1), .val (.int (2 : Int32)), .val (.ref ar)] [(.int (1 : Int32)), (.int (2 : Int32))])) (fun _ k => ?_) ?_
    · show Steps p.tables e below (T12.setTop (mkF m 21 #[.val (.int p1), .val (.int (2 : Int32)), .val (.ref ar)] [])) _
      refine XS.iloadN X12.here hx rfl (hb hby d1_21) rfl ?_
      show Steps p.tables e below (T12.setTop (mkF m 22 #[.val (.int p1), .val (.int (2 : Int32)), .val (.ref ar)] [(.int (2 : Int32))])) _
      refine XS.iconst X12.here hx rfl (hb hby d1_22) ?_
      show Steps p.tables e below (T12.setTop (mkF m 23 #[.val (.int p1), .val (.int (2 : Int32)), .val (.ref ar)] [(.int (1 : Int32)), (.int (2 : Int32))])) _
      exact k
    refine OEndsW.go (t' := T12.setTop (mkF m 26 #[.val (.int p1), .val (.int (2 : Int32)), .val (.ref ar)] [])) (fun _ k => XS.icmpNo X12.here hx rfl (hb hby d1_23) rfl (tlt (by decide)).2.2.2 k) ?_
    refine OEndsW.go (t' := T12.setTop (mkF m 30 #[.val (.int p1), .val (.int (2 : Int32)), .val (.ref ar)] [(.int (1 : Int32)), (.int p1), (.int (1 : Int32)), (.ref ar)])) (fun _ k => ?_) ?_
    · show Steps p.tables e below (T12.setTop (mkF m 26 #[.val (.int p1), .val (.int (2 : Int32)), .val (.ref ar)] [])) _
      refine XS.aloadN X12.here hx rfl (hb hby d1_26) rfl rfl ?_
      show Steps p.tables e below (T12.setTop (mkF m 27 #[.val (.int p1), .val (.int (2 : Int32)), .val (.ref ar)] [(.ref ar)])) _
      refine XS.iconst X12.here hx rfl (hb hby d1_27) ?_
      show Steps p.tables e below (T12.setTop (mkF m 28 #[.val (.int p1), .val (.int (2 : Int32)), .val (.ref ar)] [(.int (1 : Int32)), (.ref ar)])) _
      refine XS.iloadN X12.here hx rfl (hb hby d1_28) rfl ?_
      show Steps p.tables e below (T12.setTop (mkF m 29 #[.val (.int p1), .val (.int (2 : Int32)), .val (.ref ar)] [(.int p1), (.int (1 : Int32)), (.ref ar)])) _
      refine XS.iconst X12.here hx rfl (hb hby d1_29) ?_
      show Steps p.tables e below (T12.setTop (mkF m 30 #[.val (.int p1), .val (.int (2 : Int32)), .val (.ref ar)] [(.int (1 : Int32)), (.int p1), (.int (1 : Int32)), (.ref ar)])) _
      exact k
    obtain ⟨_, _, ⟨T13, L13, k13, n13⟩, -, X13, ⟨Lc13, hQ13, l13, y13, z13⟩, st13⟩ := Jvm.LawKit.callS X12 hx (y := (⟨"com/example/viitta/viitta/core/SafeXmlStartTagIsPinLaw", "ch", "(II)C"⟩ : MethodName)) hown (mvT hZ (hw _ (List.mem_of_getElem? (i := 94) rfl))) (mvT hZ (hw _ (List.mem_of_getElem? (i := 95) rfl))) (mvT hZ (hw _ (List.mem_of_getElem? (i := 2) rfl))) (mvT hZ (hw _ (List.mem_of_getElem? (i := 96) rfl))) (by decide) (backOf (W := 2) (rm15 l Z a0 hw [] p1 (1 : Int32) h12 n0 Z12 ) hZ (hw _ (List.mem_of_getElem? (i := 96) rfl)) (hw _ (List.mem_of_getElem? (i := 2) rfl)) (by decide) (by decide)) (g := (mkF m 30 #[.val (.int p1), .val (.int (2 : Int32)), .val (.ref ar)] [(.int (1 : Int32)), (.int p1), (.int (1 : Int32)), (.ref ar)])) rfl (by rw [hml]; rfl) (argsL := [(.int p1), (.int (1 : Int32))]) (rest := [(.int (1 : Int32)), (.ref ar)]) (lenOf pd_rm1_2 rfl) rfl (by show 2 * 0 + _ ≤ _; exact Nat.le_of_eq rfl) (hb hby d1_30) (fun _ _ => ⟨rfl, e12, (by decide : 1 + 0 ≤ _), (by decide : 2 + 0 ≤ _)⟩)
    dsimp only [Pt.U, Pt.locs, Pt.cells, Pt.slots] at X13 l13 y13 z13 st13 hQ13
    subst l13 y13 z13
    obtain ⟨rfl, N13q, eh⟩ := hQ13
    have N13 := Fr.app N12 N13q
    have eh13 := eh
    refine OEndsW.go (t' := T13.setTop (mkF m 33 #[.val (.int p1), .val (.int (2 : Int32)), .val (.ref ar)] [(.int (own_ch p1 (1 : Int32))), (.int (1 : Int32)), (.ref ar)])) (fun _ k => st13 _ k) ?_
    obtain ⟨cl14, Ar14, cq14, cS14, cN14, cH14, cG14⟩ := V_ar
    have hin14 : ¬ ((1 : Int32) < 0 ∨ cl14.slots.size ≤ ((1 : Int32)).toNatClampNeg) := inb_of cS14 ⟨by decide, by decide⟩
    obtain ⟨T14, h14, X14, e14, W14, st14⟩ := stC X13 hx hZ eh13 Ar14 (j := (1 : Int32)) hin14 (g := (mkF m 33 #[.val (.int p1), .val (.int (2 : Int32)), .val (.ref ar)] [(.int (own_ch p1 (1 : Int32))), (.int (1 : Int32)), (.ref ar)])) rfl rfl (hb hby d1_33)
    have N14 := Fr.snoc X14 N13 g_ar
    have hzt := hzt.wr W14 g_ar
    have Z14 : n0 ≤ h14.size := Nat.le_trans Z12 (Keep.of_wr W14).1
    have K14 := K12.wr W14 (Or.inr sz_ar)
    have V_ar := Arv.set Ar14 cq14 cS14 cN14 cH14 cG14 (fits_nar_char _) W14 1 rfl (Nat.le_of_ble_eq_true rfl)
    refine OEndsW.go (t' := T14.setTop (mkF m 34 #[.val (.int p1), .val (.int (2 : Int32)), .val (.ref ar)] [])) (fun _ k => st14 _ k) ?_
    refine OEndsW.go (t' := T14.setTop (mkF m 36 #[.val (.int p1), .val (.int (2 : Int32)), .val (.ref ar)] [(.int (2 : Int32)), (.int (2 : Int32))])) (fun _ k => ?_) ?_
    · show Steps p.tables e below (T14.setTop (mkF m 34 #[.val (.int p1), .val (.int (2 : Int32)), .val (.ref ar)] [])) _
      refine XS.iloadN X14.here hx rfl (hb hby d1_34) rfl ?_
      show Steps p.tables e below (T14.setTop (mkF m 35 #[.val (.int p1), .val (.int (2 : Int32)), .val (.ref ar)] [(.int (2 : Int32))])) _
      refine XS.iconst X14.here hx rfl (hb hby d1_35) ?_
      show Steps p.tables e below (T14.setTop (mkF m 36 #[.val (.int p1), .val (.int (2 : Int32)), .val (.ref ar)] [(.int (2 : Int32)), (.int (2 : Int32))])) _
      exact k
    refine OEndsW.go (t' := T14.setTop (mkF m 47 #[.val (.int p1), .val (.int (2 : Int32)), .val (.ref ar)] [])) (fun _ k => XS.icmpYes X14.here hx rfl (pc0 := 36) (pc' := 47) rfl (hb hby d1_36) rfl (flt (by decide)).2.2.2 (by decide) (by decide) k) ?_
    have C_ar : own_Ch Z h14 ar ka10 [own_ch p1 0, own_ch p1 1] := by
      refine ⟨?_, Nat.le_of_ble_eq_true rfl, ?_⟩
      · have q := V_ar
        rw [own_narc, own_narc] at q
        exact q
      · intro z hz; simp only [List.mem_cons, List.not_mem_nil, or_false] at hz
        rcases hz with rfl | rfl <;> exact own_chb _ _
    obtain ⟨T15, h15, X15, e15, E15, A15, D15, -, st15⟩ := newO X14 hx hZ hown (hw _ (List.mem_of_getElem? (i := 8) rfl)) (hw _ (List.mem_of_getElem? (i := 9) rfl)) (hw _ (List.mem_of_getElem? (i := 10) rfl)) e14 (g := (mkF m 47 #[.val (.int p1), .val (.int (2 : Int32)), .val (.ref ar)] [])) rfl (hb hby d1_47) (by decide) (by decide)
    obtain ⟨b1, gz15⟩ : ∃ z, z = h14.size := ⟨_, rfl⟩
    rw [← gz15] at A15 D15 st15
    have ne_ar_b1 : ar ≠ b1 := Nat.ne_of_lt (Nat.lt_of_lt_of_le C_ar.lt (Nat.le_of_eq gz15.symm))
    have g_b1 : n0 ≤ b1 := Nat.le_trans Z14 (Nat.le_of_eq gz15.symm)
    have sz_b1 : h0.size ≤ b1 := Nat.le_trans K14.1 (Nat.le_of_eq gz15.symm)
    have hzt := hzt.ext E15
    have C_ar := C_ar.ext E15
    have Z15 : n0 ≤ h15.size := Nat.le_trans Z14 E15.1
    have K15 := K14.ext E15
    have E_b1 := A15
    have F_value_b1 : Fld Z h15 b1 "java/lang/String" "value" "[B" .null := D15 (Or.inr (hw _ (List.mem_of_getElem? (i := 23) rfl))) (ty := (.array .byte)) (by decide)
    have F_coder_b1 : Fld Z h15 b1 "java/lang/String" "coder" "B" (.int (0 : Int32)) := D15 (Or.inr (hw _ (List.mem_of_getElem? (i := 24) rfl))) (ty := .byte) (by decide)
    refine OEndsW.go (t' := T15.setTop (mkF m 50 #[.val (.int p1), .val (.int (2 : Int32)), .val (.ref ar)] [(.ref b1)])) (fun _ k => st15 _ k) ?_
    refine OEndsW.go (t' := T15.setTop (mkF m 52 #[.val (.int p1), .val (.int (2 : Int32)), .val (.ref ar)] [(.ref ar), (.ref b1), (.ref b1)])) (fun _ k => ?_) ?_
    · show Steps p.tables e below (T15.setTop (mkF m 50 #[.val (.int p1), .val (.int (2 : Int32)), .val (.ref ar)] [(.ref b1)])) _
      refine XS.dup X15.here hx rfl (hb hby d1_50) rfl rfl ?_
      show Steps p.tables e below (T15.setTop (mkF m 51 #[.val (.int p1), .val (.int (2 : Int32)), .val (.ref ar)] [(.ref b1), (.ref b1)])) _
      refine XS.aloadN X15.here hx rfl (hb hby d1_51) rfl rfl ?_
      show Steps p.tables e below (T15.setTop (mkF m 52 #[.val (.int p1), .val (.int (2 : Int32)), .val (.ref ar)] [(.ref ar), (.ref b1), (.ref b1)])) _
      exact k
    obtain ⟨_, _, ⟨T16, L16, k16, n16⟩, -, X16, ⟨Lc16, hQ16, l16, y16, z16⟩, st16⟩ := X15.specialBack hx (y := (⟨"java/lang/String", "<init>", "([C)V"⟩ : MethodName)) rfl hown (mvT hZ (hw _ (List.mem_of_getElem? (i := 11) rfl))) (mvT hZ (hw _ (List.mem_of_getElem? (i := 12) rfl))) (mvT hZ (hw _ (List.mem_of_getElem? (i := 13) rfl))) (by decide) (backOf (W := 1) (rm3 l Z a0 hw [] b1 ar w1 _ [own_ch p1 0, own_ch p1 1] h15 n0 Z15 (S_C.ext hzt.2) c0 F_value_b1 F_coder_b1 E_b1 g_b1 C_ar (Nat.le_of_ble_eq_true rfl) (Nat.le_of_ble_eq_true rfl)) hZ (hw _ (List.mem_of_getElem? (i := 13) rfl)) (hw _ (List.mem_of_getElem? (i := 10) rfl)) (by decide) (by decide)) (g := (mkF m 52 #[.val (.int p1), .val (.int (2 : Int32)), .val (.ref ar)] [(.ref ar), (.ref b1), (.ref b1)])) rfl (by rw [hml]; rfl) (Steps.refl _) (a := b1) (argsL := [(.ref ar)]) (rest := [(.ref b1)]) (lenOf pd_rm1_1 rfl) rfl (by show 2 * 0 + _ ≤ _; exact Nat.le_of_eq rfl) (hb hby d1_52) (fun _ _ => ⟨rfl, e15, (by decide : 2 + 1 ≤ _), (by decide : 6 + 8 ≤ _)⟩)
    dsimp only [Pt.U, Pt.locs, Pt.cells, Pt.slots] at X16 l16 y16 z16 st16 hQ16
    subst l16 y16 z16
    obtain ⟨rfl, N16q, Kc16, bb16, kk16, hs16⟩ := hQ16
    have N16 := Fr.app N14 N16q
    have hzt := hzt.keep Kc16 (allS g_b1 all0)
    have C_ar := C_ar.keep Kc16 (ninS ne_ar_b1 nin0)
    have E_b1 := E_b1.keep Kc16
    have Z16 : n0 ≤ T16.heap.size := Nat.le_trans Z15 Kc16.1
    have K16 := K15.trans Kc16 (allS (Or.inr sz_b1) all0)
    refine OEndsW.go (t' := T16.setTop (mkF m 55 #[.val (.int p1), .val (.int (2 : Int32)), .val (.ref ar)] [(.ref b1)])) (fun _ k => st16.trans k) ?_
    refine OEndsW.back (vm₁ := s.vm) X16 hS0 (Nat.zero_le _) hlk (v := (some (.ref b1))) (fun h => by rw [hrt] at h; cases h) (fun fs hr => ?_) ?_ (by decide) (by decide)
    · exact retA X16 hx hrt rfl rfl rfl (hb hby d1_55) hr
    · show Q1 Z p1 w1 h0 n0 _ T16.heap T16.vm _
      exact ⟨_, _, _, rfl, N16, K16, by rw [own_C2 hn]; exact hs16, (hpv.keep0 K16).stays X16.warmed⟩
  · skip
    refine OEndsW.go (t' := T1.setTop (mkF m 6 #[.val (.int p1), .val (.int (3 : Int32)), .unset] [(.int (3 : Int32))])) (fun _ k => ?_) ?_
    · show Steps p.tables e below (T1.setTop (mkF m 4 #[.val (.int p1), .unset, .unset] [(.int (3 : Int32))])) _
      refine XS.istoreN X1.here hx rfl (hb hby d1_4) rfl (l' := #[.val (.int p1), .val (.int (3 : Int32)), .unset]) rfl ?_
      show Steps p.tables e below (T1.setTop (mkF m 5 #[.val (.int p1), .val (.int (3 : Int32)), .unset] [])) _
      refine XS.iloadN X1.here hx rfl (hb hby d1_5) rfl ?_
      show Steps p.tables e below (T1.setTop (mkF m 6 #[.val (.int p1), .val (.int (3 : Int32)), .unset] [(.int (3 : Int32))])) _
      exact k
    obtain ⟨T17, h17, ka17, X17, e17, E17, A17, st17⟩ := newP X1 hx hZ (hw _ (List.mem_of_getElem? (i := 7) rfl)) eh1 (g := (mkF m 6 #[.val (.int p1), .val (.int (3 : Int32)), .unset] [(.int (3 : Int32))])) rfl (hb hby d1_6) rfl (by decide) (cap := 3) (by decide) (by decide) (by decide) (by decide)
    obtain ⟨ar, gz17⟩ : ∃ z, z = h0.size := ⟨_, rfl⟩
    rw [← gz17] at A17 st17
    have g_ar : n0 ≤ ar := Nat.le_trans Z0 (Nat.le_of_eq gz17.symm)
    have sz_ar : h0.size ≤ ar := Nat.le_trans (Keep.refl h0 []).1 (Nat.le_of_eq gz17.symm)
    have hzt := hzt.ext E17
    have Z17 : n0 ≤ h17.size := Nat.le_trans Z0 E17.1
    have K17 := (Keep.refl h0 []).ext E17
    have V_ar : Arv Z h17 ar ka17 .char (3 : Int32) [(.int (0 : Int32)), (.int (0 : Int32)), (.int (0 : Int32))] (.int (0 : Int32)) := (Arv.new A17 (by decide)).pad (pad_rep [] (.int (0 : Int32)) 3)
    refine OEndsW.go (t' := T17.setTop (mkF m 8 #[.val (.int p1), .val (.int (3 : Int32)), .unset] [(.ref ar)])) (fun _ k => st17 _ k) ?_
    refine OEndsW.go (t' := T17.setTop (mkF m 10 #[.val (.int p1), .val (.int (3 : Int32)), .val (.ref ar)] [(.int (3 : Int32))])) (fun _ k => ?_) ?_
    · show Steps p.tables e below (T17.setTop (mkF m 8 #[.val (.int p1), .val (.int (3 : Int32)), .unset] [(.ref ar)])) _
      refine XS.astoreN X17.here hx rfl (hb hby d1_8) rfl rfl (l' := #[.val (.int p1), .val (.int (3 : Int32)), .val (.ref ar)]) rfl ?_
      show Steps p.tables e below (T17.setTop (mkF m 9 #[.val (.int p1), .val (.int (3 : Int32)), .val (.ref ar)] [])) _
      refine XS.iloadN X17.here hx rfl (hb hby d1_9) rfl ?_
      show Steps p.tables e below (T17.setTop (mkF m 10 #[.val (.int p1), .val (.int (3 : Int32)), .val (.ref ar)] [(.int (3 : Int32))])) _
      exact k
    refine OEndsW.go (t' := T17.setTop (mkF m 13 #[.val (.int p1), .val (.int (3 : Int32)), .val (.ref ar)] [])) (fun _ k => XS.ifNo X17.here hx rfl (hb hby d1_10) rfl ((if0 _ _).trans (tlt (by decide)).2.2.2) k) ?_
    refine OEndsW.go (t' := T17.setTop (mkF m 17 #[.val (.int p1), .val (.int (3 : Int32)), .val (.ref ar)] [(.int (0 : Int32)), (.int p1), (.int (0 : Int32)), (.ref ar)])) (fun _ k => ?_) ?_
    · show Steps p.tables e below (T17.setTop (mkF m 13 #[.val (.int p1), .val (.int (3 : Int32)), .val (.ref ar)] [])) _
      refine XS.aloadN X17.here hx rfl (hb hby d1_13) rfl rfl ?_
      show Steps p.tables e below (T17.setTop (mkF m 14 #[.val (.int p1), .val (.int (3 : Int32)), .val (.ref ar)] [(.ref ar)])) _
      refine XS.iconst X17.here hx rfl (hb hby d1_14) ?_
      show Steps p.tables e below (T17.setTop (mkF m 15 #[.val (.int p1), .val (.int (3 : Int32)), .val (.ref ar)] [(.int (0 : Int32)), (.ref ar)])) _
      refine XS.iloadN X17.here hx rfl (hb hby d1_15) rfl ?_
      show Steps p.tables e below (T17.setTop (mkF m 16 #[.val (.int p1), .val (.int (3 : Int32)), .val (.ref ar)] [(.int p1), (.int (0 : Int32)), (.ref ar)])) _
      refine XS.iconst X17.here hx rfl (hb hby d1_16) ?_
      show Steps p.tables e below (T17.setTop (mkF m 17 #[.val (.int p1), .val (.int (3 : Int32)), .val (.ref ar)] [(.int (0 : Int32)), (.int p1), (.int (0 : Int32)), (.ref ar)])) _
      exact k
    obtain ⟨_, _, ⟨T18, L18, k18, n18⟩, -, X18, ⟨Lc18, hQ18, l18, y18, z18⟩, st18⟩ := Jvm.LawKit.callS X17 hx (y := (⟨"com/example/viitta/viitta/core/SafeXmlStartTagIsPinLaw", "ch", "(II)C"⟩ : MethodName)) hown (mvT hZ (hw _ (List.mem_of_getElem? (i := 94) rfl))) (mvT hZ (hw _ (List.mem_of_getElem? (i := 95) rfl))) (mvT hZ (hw _ (List.mem_of_getElem? (i := 2) rfl))) (mvT hZ (hw _ (List.mem_of_getElem? (i := 96) rfl))) (by decide) (backOf (W := 2) (rm15 l Z a0 hw [] p1 (0 : Int32) h17 n0 Z17 ) hZ (hw _ (List.mem_of_getElem? (i := 96) rfl)) (hw _ (List.mem_of_getElem? (i := 2) rfl)) (by decide) (by decide)) (g := (mkF m 17 #[.val (.int p1), .val (.int (3 : Int32)), .val (.ref ar)] [(.int (0 : Int32)), (.int p1), (.int (0 : Int32)), (.ref ar)])) rfl (by rw [hml]; rfl) (argsL := [(.int p1), (.int (0 : Int32))]) (rest := [(.int (0 : Int32)), (.ref ar)]) (lenOf pd_rm1_2 rfl) rfl (by show 2 * 0 + _ ≤ _; exact Nat.le_of_eq rfl) (hb hby d1_17) (fun _ _ => ⟨rfl, e17, (by decide : 1 + 0 ≤ _), (by decide : 3 + 0 ≤ _)⟩)
    dsimp only [Pt.U, Pt.locs, Pt.cells, Pt.slots] at X18 l18 y18 z18 st18 hQ18
    subst l18 y18 z18
    obtain ⟨rfl, N18q, eh⟩ := hQ18
    have N18 := Fr.app N1 N18q
    have eh18 := eh
    refine OEndsW.go (t' := T18.setTop (mkF m 20 #[.val (.int p1), .val (.int (3 : Int32)), .val (.ref ar)] [(.int (own_ch p1 (0 : Int32))), (.int (0 : Int32)), (.ref ar)])) (fun _ k => st18 _ k) ?_
    obtain ⟨cl19, Ar19, cq19, cS19, cN19, cH19, cG19⟩ := V_ar
    have hin19 : ¬ ((0 : Int32) < 0 ∨ cl19.slots.size ≤ ((0 : Int32)).toNatClampNeg) := inb_of cS19 ⟨by decide, by decide⟩
    obtain ⟨T19, h19, X19, e19, W19, st19⟩ := stC X18 hx hZ eh18 Ar19 (j := (0 : Int32)) hin19 (g := (mkF m 20 #[.val (.int p1), .val (.int (3 : Int32)), .val (.ref ar)] [(.int (own_ch p1 (0 : Int32))), (.int (0 : Int32)), (.ref ar)])) rfl rfl (hb hby d1_20)
    have N19 := Fr.snoc X19 N18 g_ar
    have hzt := hzt.wr W19 g_ar
    have Z19 : n0 ≤ h19.size := Nat.le_trans Z17 (Keep.of_wr W19).1
    have K19 := K17.wr W19 (Or.inr sz_ar)
    have V_ar := Arv.set Ar19 cq19 cS19 cN19 cH19 cG19 (fits_nar_char _) W19 0 rfl (Nat.le_of_ble_eq_true rfl)
    refine OEndsW.go (t' := T19.setTop (mkF m 21 #[.val (.int p1), .val (.int (3 : Int32)), .val (.ref ar)] [])) (fun _ k => st19 _ k) ?_
    refine OEndsW.go (t' := T19.setTop (mkF m 23 #[.val (.int p1), .val (.int (3 : Int32)), .val (.ref ar)] [(.int (1 : Int32)), (.int (3 : Int32))])) (fun _ k => ?_) ?_
    · show Steps p.tables e below (T19.setTop (mkF m 21 #[.val (.int p1), .val (.int (3 : Int32)), .val (.ref ar)] [])) _
      refine XS.iloadN X19.here hx rfl (hb hby d1_21) rfl ?_
      show Steps p.tables e below (T19.setTop (mkF m 22 #[.val (.int p1), .val (.int (3 : Int32)), .val (.ref ar)] [(.int (3 : Int32))])) _
      refine XS.iconst X19.here hx rfl (hb hby d1_22) ?_
      show Steps p.tables e below (T19.setTop (mkF m 23 #[.val (.int p1), .val (.int (3 : Int32)), .val (.ref ar)] [(.int (1 : Int32)), (.int (3 : Int32))])) _
      exact k
    refine OEndsW.go (t' := T19.setTop (mkF m 26 #[.val (.int p1), .val (.int (3 : Int32)), .val (.ref ar)] [])) (fun _ k => XS.icmpNo X19.here hx rfl (hb hby d1_23) rfl (tlt (by decide)).2.2.2 k) ?_
    refine OEndsW.go (t' := T19.setTop (mkF m 30 #[.val (.int p1), .val (.int (3 : Int32)), .val (.ref ar)] [(.int (1 : Int32)), (.int p1), (.int (1 : Int32)), (.ref ar)])) (fun _ k => ?_) ?_
    · show Steps p.tables e below (T19.setTop (mkF m 26 #[.val (.int p1), .val (.int (3 : Int32)), .val (.ref ar)] [])) _
      refine XS.aloadN X19.here hx rfl (hb hby d1_26) rfl rfl ?_
      show Steps p.tables e below (T19.setTop (mkF m 27 #[.val (.int p1), .val (.int (3 : Int32)), .val (.ref ar)] [(.ref ar)])) _
      refine XS.iconst X19.here hx rfl (hb hby d1_27) ?_
      show Steps p.tables e below (T19.setTop (mkF m 28 #[.val (.int p1), .val (.int (3 : Int32)), .val (.ref ar)] [(.int (1 : Int32)), (.ref ar)])) _
      refine XS.iloadN X19.here hx rfl (hb hby d1_28) rfl ?_
      show Steps p.tables e below (T19.setTop (mkF m 29 #[.val (.int p1), .val (.int (3 : Int32)), .val (.ref ar)] [(.int p1), (.int (1 : Int32)), (.ref ar)])) _
      refine XS.iconst X19.here hx rfl (hb hby d1_29) ?_
      show Steps p.tables e below (T19.setTop (mkF m 30 #[.val (.int p1), .val (.int (3 : Int32)), .val (.ref ar)] [(.int (1 : Int32)), (.int p1), (.int (1 : Int32)), (.ref ar)])) _
      exact k
    obtain ⟨_, _, ⟨T20, L20, k20, n20⟩, -, X20, ⟨Lc20, hQ20, l20, y20, z20⟩, st20⟩ := Jvm.LawKit.callS X19 hx (y := (⟨"com/example/viitta/viitta/core/SafeXmlStartTagIsPinLaw", "ch", "(II)C"⟩ : MethodName)) hown (mvT hZ (hw _ (List.mem_of_getElem? (i := 94) rfl))) (mvT hZ (hw _ (List.mem_of_getElem? (i := 95) rfl))) (mvT hZ (hw _ (List.mem_of_getElem? (i := 2) rfl))) (mvT hZ (hw _ (List.mem_of_getElem? (i := 96) rfl))) (by decide) (backOf (W := 2) (rm15 l Z a0 hw [] p1 (1 : Int32) h19 n0 Z19 ) hZ (hw _ (List.mem_of_getElem? (i := 96) rfl)) (hw _ (List.mem_of_getElem? (i := 2) rfl)) (by decide) (by decide)) (g := (mkF m 30 #[.val (.int p1), .val (.int (3 : Int32)), .val (.ref ar)] [(.int (1 : Int32)), (.int p1), (.int (1 : Int32)), (.ref ar)])) rfl (by rw [hml]; rfl) (argsL := [(.int p1), (.int (1 : Int32))]) (rest := [(.int (1 : Int32)), (.ref ar)]) (lenOf pd_rm1_2 rfl) rfl (by show 2 * 0 + _ ≤ _; exact Nat.le_of_eq rfl) (hb hby d1_30) (fun _ _ => ⟨rfl, e19, (by decide : 1 + 0 ≤ _), (by decide : 3 + 0 ≤ _)⟩)
    dsimp only [Pt.U, Pt.locs, Pt.cells, Pt.slots] at X20 l20 y20 z20 st20 hQ20
    subst l20 y20 z20
    obtain ⟨rfl, N20q, eh⟩ := hQ20
    have N20 := Fr.app N19 N20q
    have eh20 := eh
    refine OEndsW.go (t' := T20.setTop (mkF m 33 #[.val (.int p1), .val (.int (3 : Int32)), .val (.ref ar)] [(.int (own_ch p1 (1 : Int32))), (.int (1 : Int32)), (.ref ar)])) (fun _ k => st20 _ k) ?_
    obtain ⟨cl21, Ar21, cq21, cS21, cN21, cH21, cG21⟩ := V_ar
    have hin21 : ¬ ((1 : Int32) < 0 ∨ cl21.slots.size ≤ ((1 : Int32)).toNatClampNeg) := inb_of cS21 ⟨by decide, by decide⟩
    obtain ⟨T21, h21, X21, e21, W21, st21⟩ := stC X20 hx hZ eh20 Ar21 (j := (1 : Int32)) hin21 (g := (mkF m 33 #[.val (.int p1), .val (.int (3 : Int32)), .val (.ref ar)] [(.int (own_ch p1 (1 : Int32))), (.int (1 : Int32)), (.ref ar)])) rfl rfl (hb hby d1_33)
    have N21 := Fr.snoc X21 N20 g_ar
    have hzt := hzt.wr W21 g_ar
    have Z21 : n0 ≤ h21.size := Nat.le_trans Z19 (Keep.of_wr W21).1
    have K21 := K19.wr W21 (Or.inr sz_ar)
    have V_ar := Arv.set Ar21 cq21 cS21 cN21 cH21 cG21 (fits_nar_char _) W21 1 rfl (Nat.le_of_ble_eq_true rfl)
    refine OEndsW.go (t' := T21.setTop (mkF m 34 #[.val (.int p1), .val (.int (3 : Int32)), .val (.ref ar)] [])) (fun _ k => st21 _ k) ?_
    refine OEndsW.go (t' := T21.setTop (mkF m 36 #[.val (.int p1), .val (.int (3 : Int32)), .val (.ref ar)] [(.int (2 : Int32)), (.int (3 : Int32))])) (fun _ k => ?_) ?_
    · show Steps p.tables e below (T21.setTop (mkF m 34 #[.val (.int p1), .val (.int (3 : Int32)), .val (.ref ar)] [])) _
      refine XS.iloadN X21.here hx rfl (hb hby d1_34) rfl ?_
      show Steps p.tables e below (T21.setTop (mkF m 35 #[.val (.int p1), .val (.int (3 : Int32)), .val (.ref ar)] [(.int (3 : Int32))])) _
      refine XS.iconst X21.here hx rfl (hb hby d1_35) ?_
      show Steps p.tables e below (T21.setTop (mkF m 36 #[.val (.int p1), .val (.int (3 : Int32)), .val (.ref ar)] [(.int (2 : Int32)), (.int (3 : Int32))])) _
      exact k
    refine OEndsW.go (t' := T21.setTop (mkF m 39 #[.val (.int p1), .val (.int (3 : Int32)), .val (.ref ar)] [])) (fun _ k => XS.icmpNo X21.here hx rfl (hb hby d1_36) rfl (tlt (by decide)).2.2.2 k) ?_
    refine OEndsW.go (t' := T21.setTop (mkF m 43 #[.val (.int p1), .val (.int (3 : Int32)), .val (.ref ar)] [(.int (2 : Int32)), (.int p1), (.int (2 : Int32)), (.ref ar)])) (fun _ k => ?_) ?_
    · show Steps p.tables e below (T21.setTop (mkF m 39 #[.val (.int p1), .val (.int (3 : Int32)), .val (.ref ar)] [])) _
      refine XS.aloadN X21.here hx rfl (hb hby d1_39) rfl rfl ?_
      show Steps p.tables e below (T21.setTop (mkF m 40 #[.val (.int p1), .val (.int (3 : Int32)), .val (.ref ar)] [(.ref ar)])) _
      refine XS.iconst X21.here hx rfl (hb hby d1_40) ?_
      show Steps p.tables e below (T21.setTop (mkF m 41 #[.val (.int p1), .val (.int (3 : Int32)), .val (.ref ar)] [(.int (2 : Int32)), (.ref ar)])) _
      refine XS.iloadN X21.here hx rfl (hb hby d1_41) rfl ?_
      show Steps p.tables e below (T21.setTop (mkF m 42 #[.val (.int p1), .val (.int (3 : Int32)), .val (.ref ar)] [(.int p1), (.int (2 : Int32)), (.ref ar)])) _
      refine XS.iconst X21.here hx rfl (hb hby d1_42) ?_
      show Steps p.tables e below (T21.setTop (mkF m 43 #[.val (.int p1), .val (.int (3 : Int32)), .val (.ref ar)] [(.int (2 : Int32)), (.int p1), (.int (2 : Int32)), (.ref ar)])) _
      exact k
    obtain ⟨_, _, ⟨T22, L22, k22, n22⟩, -, X22, ⟨Lc22, hQ22, l22, y22, z22⟩, st22⟩ := Jvm.LawKit.callS X21 hx (y := (⟨"com/example/viitta/viitta/core/SafeXmlStartTagIsPinLaw", "ch", "(II)C"⟩ : MethodName)) hown (mvT hZ (hw _ (List.mem_of_getElem? (i := 94) rfl))) (mvT hZ (hw _ (List.mem_of_getElem? (i := 95) rfl))) (mvT hZ (hw _ (List.mem_of_getElem? (i := 2) rfl))) (mvT hZ (hw _ (List.mem_of_getElem? (i := 96) rfl))) (by decide) (backOf (W := 2) (rm15 l Z a0 hw [] p1 (2 : Int32) h21 n0 Z21 ) hZ (hw _ (List.mem_of_getElem? (i := 96) rfl)) (hw _ (List.mem_of_getElem? (i := 2) rfl)) (by decide) (by decide)) (g := (mkF m 43 #[.val (.int p1), .val (.int (3 : Int32)), .val (.ref ar)] [(.int (2 : Int32)), (.int p1), (.int (2 : Int32)), (.ref ar)])) rfl (by rw [hml]; rfl) (argsL := [(.int p1), (.int (2 : Int32))]) (rest := [(.int (2 : Int32)), (.ref ar)]) (lenOf pd_rm1_2 rfl) rfl (by show 2 * 0 + _ ≤ _; exact Nat.le_of_eq rfl) (hb hby d1_43) (fun _ _ => ⟨rfl, e21, (by decide : 1 + 0 ≤ _), (by decide : 3 + 0 ≤ _)⟩)
    dsimp only [Pt.U, Pt.locs, Pt.cells, Pt.slots] at X22 l22 y22 z22 st22 hQ22
    subst l22 y22 z22
    obtain ⟨rfl, N22q, eh⟩ := hQ22
    have N22 := Fr.app N21 N22q
    have eh22 := eh
    refine OEndsW.go (t' := T22.setTop (mkF m 46 #[.val (.int p1), .val (.int (3 : Int32)), .val (.ref ar)] [(.int (own_ch p1 (2 : Int32))), (.int (2 : Int32)), (.ref ar)])) (fun _ k => st22 _ k) ?_
    obtain ⟨cl23, Ar23, cq23, cS23, cN23, cH23, cG23⟩ := V_ar
    have hin23 : ¬ ((2 : Int32) < 0 ∨ cl23.slots.size ≤ ((2 : Int32)).toNatClampNeg) := inb_of cS23 ⟨by decide, by decide⟩
    obtain ⟨T23, h23, X23, e23, W23, st23⟩ := stC X22 hx hZ eh22 Ar23 (j := (2 : Int32)) hin23 (g := (mkF m 46 #[.val (.int p1), .val (.int (3 : Int32)), .val (.ref ar)] [(.int (own_ch p1 (2 : Int32))), (.int (2 : Int32)), (.ref ar)])) rfl rfl (hb hby d1_46)
    have N23 := Fr.snoc X23 N22 g_ar
    have hzt := hzt.wr W23 g_ar
    have Z23 : n0 ≤ h23.size := Nat.le_trans Z21 (Keep.of_wr W23).1
    have K23 := K21.wr W23 (Or.inr sz_ar)
    have V_ar := Arv.set Ar23 cq23 cS23 cN23 cH23 cG23 (fits_nar_char _) W23 2 rfl (Nat.le_of_ble_eq_true rfl)
    refine OEndsW.go (t' := T23.setTop (mkF m 47 #[.val (.int p1), .val (.int (3 : Int32)), .val (.ref ar)] [])) (fun _ k => st23 _ k) ?_
    have C_ar : own_Ch Z h23 ar ka17 [own_ch p1 0, own_ch p1 1, own_ch p1 2] := by
      refine ⟨?_, Nat.le_of_ble_eq_true rfl, ?_⟩
      · have q := V_ar
        rw [own_narc, own_narc, own_narc] at q
        exact q
      · intro z hz; simp only [List.mem_cons, List.not_mem_nil, or_false] at hz
        rcases hz with rfl | rfl | rfl <;> exact own_chb _ _
    obtain ⟨T24, h24, X24, e24, E24, A24, D24, -, st24⟩ := newO X23 hx hZ hown (hw _ (List.mem_of_getElem? (i := 8) rfl)) (hw _ (List.mem_of_getElem? (i := 9) rfl)) (hw _ (List.mem_of_getElem? (i := 10) rfl)) e23 (g := (mkF m 47 #[.val (.int p1), .val (.int (3 : Int32)), .val (.ref ar)] [])) rfl (hb hby d1_47) (by decide) (by decide)
    obtain ⟨b1, gz24⟩ : ∃ z, z = h23.size := ⟨_, rfl⟩
    rw [← gz24] at A24 D24 st24
    have ne_ar_b1 : ar ≠ b1 := Nat.ne_of_lt (Nat.lt_of_lt_of_le C_ar.lt (Nat.le_of_eq gz24.symm))
    have g_b1 : n0 ≤ b1 := Nat.le_trans Z23 (Nat.le_of_eq gz24.symm)
    have sz_b1 : h0.size ≤ b1 := Nat.le_trans K23.1 (Nat.le_of_eq gz24.symm)
    have hzt := hzt.ext E24
    have C_ar := C_ar.ext E24
    have Z24 : n0 ≤ h24.size := Nat.le_trans Z23 E24.1
    have K24 := K23.ext E24
    have E_b1 := A24
    have F_value_b1 : Fld Z h24 b1 "java/lang/String" "value" "[B" .null := D24 (Or.inr (hw _ (List.mem_of_getElem? (i := 23) rfl))) (ty := (.array .byte)) (by decide)
    have F_coder_b1 : Fld Z h24 b1 "java/lang/String" "coder" "B" (.int (0 : Int32)) := D24 (Or.inr (hw _ (List.mem_of_getElem? (i := 24) rfl))) (ty := .byte) (by decide)
    refine OEndsW.go (t' := T24.setTop (mkF m 50 #[.val (.int p1), .val (.int (3 : Int32)), .val (.ref ar)] [(.ref b1)])) (fun _ k => st24 _ k) ?_
    refine OEndsW.go (t' := T24.setTop (mkF m 52 #[.val (.int p1), .val (.int (3 : Int32)), .val (.ref ar)] [(.ref ar), (.ref b1), (.ref b1)])) (fun _ k => ?_) ?_
    · show Steps p.tables e below (T24.setTop (mkF m 50 #[.val (.int p1), .val (.int (3 : Int32)), .val (.ref ar)] [(.ref b1)])) _
      refine XS.dup X24.here hx rfl (hb hby d1_50) rfl rfl ?_
      show Steps p.tables e below (T24.setTop (mkF m 51 #[.val (.int p1), .val (.int (3 : Int32)), .val (.ref ar)] [(.ref b1), (.ref b1)])) _
      refine XS.aloadN X24.here hx rfl (hb hby d1_51) rfl rfl ?_
      show Steps p.tables e below (T24.setTop (mkF m 52 #[.val (.int p1), .val (.int (3 : Int32)), .val (.ref ar)] [(.ref ar), (.ref b1), (.ref b1)])) _
      exact k
    obtain ⟨_, _, ⟨T25, L25, k25, n25⟩, -, X25, ⟨Lc25, hQ25, l25, y25, z25⟩, st25⟩ := X24.specialBack hx (y := (⟨"java/lang/String", "<init>", "([C)V"⟩ : MethodName)) rfl hown (mvT hZ (hw _ (List.mem_of_getElem? (i := 11) rfl))) (mvT hZ (hw _ (List.mem_of_getElem? (i := 12) rfl))) (mvT hZ (hw _ (List.mem_of_getElem? (i := 13) rfl))) (by decide) (backOf (W := 1) (rm3 l Z a0 hw [] b1 ar w1 _ [own_ch p1 0, own_ch p1 1, own_ch p1 2] h24 n0 Z24 (S_C.ext hzt.2) c0 F_value_b1 F_coder_b1 E_b1 g_b1 C_ar (Nat.le_of_ble_eq_true rfl) (Nat.le_of_ble_eq_true rfl)) hZ (hw _ (List.mem_of_getElem? (i := 13) rfl)) (hw _ (List.mem_of_getElem? (i := 10) rfl)) (by decide) (by decide)) (g := (mkF m 52 #[.val (.int p1), .val (.int (3 : Int32)), .val (.ref ar)] [(.ref ar), (.ref b1), (.ref b1)])) rfl (by rw [hml]; rfl) (Steps.refl _) (a := b1) (argsL := [(.ref ar)]) (rest := [(.ref b1)]) (lenOf pd_rm1_1 rfl) rfl (by show 2 * 0 + _ ≤ _; exact Nat.le_of_eq rfl) (hb hby d1_52) (fun _ _ => ⟨rfl, e24, (by decide : 2 + 1 ≤ _), (by decide : 7 + 8 ≤ _)⟩)
    dsimp only [Pt.U, Pt.locs, Pt.cells, Pt.slots] at X25 l25 y25 z25 st25 hQ25
    subst l25 y25 z25
    obtain ⟨rfl, N25q, Kc25, bb25, kk25, hs25⟩ := hQ25
    have N25 := Fr.app N23 N25q
    have hzt := hzt.keep Kc25 (allS g_b1 all0)
    have C_ar := C_ar.keep Kc25 (ninS ne_ar_b1 nin0)
    have E_b1 := E_b1.keep Kc25
    have Z25 : n0 ≤ T25.heap.size := Nat.le_trans Z24 Kc25.1
    have K25 := K24.trans Kc25 (allS (Or.inr sz_b1) all0)
    refine OEndsW.go (t' := T25.setTop (mkF m 55 #[.val (.int p1), .val (.int (3 : Int32)), .val (.ref ar)] [(.ref b1)])) (fun _ k => st25.trans k) ?_
    refine OEndsW.back (vm₁ := s.vm) X25 hS0 (Nat.zero_le _) hlk (v := (some (.ref b1))) (fun h => by rw [hrt] at h; cases h) (fun fs hr => ?_) ?_ (by decide) (by decide)
    · exact retA X25 hx hrt rfl rfl rfl (hb hby d1_55) hr
    · show Q1 Z p1 w1 h0 n0 _ T25.heap T25.vm _
      exact ⟨_, _, _, rfl, N25, K25, by rw [own_C3 hn]; exact hs25, (hpv.keep0 K25).stays X25.warmed⟩
theorem d11_0 : decode method_6_code 0 = .ok (.iload_n 0, 1) := by decide +kernel
theorem d11_1 : decode method_6_code 1 = .ok (.invokestatic 29, 3) := by decide +kernel
theorem d11_4 : decode method_6_code 4 = .ok (.istore_n 2, 1) := by decide +kernel
theorem d11_5 : decode method_6_code 5 = .ok (.iload_n 2, 1) := by decide +kernel
theorem d11_6 : decode method_6_code 6 = .ok (.iload_n 1, 1) := by decide +kernel
theorem d11_7 : decode method_6_code 7 = .ok (.invokestatic 29, 3) := by decide +kernel
theorem d11_10 : decode method_6_code 10 = .ok (.if_icmp .eq 5, 3) := by decide +kernel
theorem d11_13 : decode method_6_code 13 = .ok (.iconst 0, 1) := by decide +kernel
theorem d11_14 : decode method_6_code 14 = .ok (.ireturn, 1) := by decide +kernel
theorem d11_15 : decode method_6_code 15 = .ok (.iload_n 2, 1) := by decide +kernel
theorem d11_16 : decode method_6_code 16 = .ok (.ifCond .le 18, 3) := by decide +kernel
theorem d11_19 : decode method_6_code 19 = .ok (.iload_n 0, 1) := by decide +kernel
theorem d11_20 : decode method_6_code 20 = .ok (.iconst 0, 1) := by decide +kernel
theorem d11_21 : decode method_6_code 21 = .ok (.invokestatic 33, 3) := by decide +kernel
theorem d11_24 : decode method_6_code 24 = .ok (.iload_n 1, 1) := by decide +kernel
theorem d11_25 : decode method_6_code 25 = .ok (.iconst 0, 1) := by decide +kernel
theorem d11_26 : decode method_6_code 26 = .ok (.invokestatic 33, 3) := by decide +kernel
theorem d11_29 : decode method_6_code 29 = .ok (.if_icmp .eq 5, 3) := by decide +kernel
theorem d11_32 : decode method_6_code 32 = .ok (.iconst 0, 1) := by decide +kernel
theorem d11_33 : decode method_6_code 33 = .ok (.ireturn, 1) := by decide +kernel
theorem d11_34 : decode method_6_code 34 = .ok (.iload_n 2, 1) := by decide +kernel
theorem d11_35 : decode method_6_code 35 = .ok (.iconst 1, 1) := by decide +kernel
theorem d11_36 : decode method_6_code 36 = .ok (.if_icmp .le 18, 3) := by decide +kernel
theorem d11_39 : decode method_6_code 39 = .ok (.iload_n 0, 1) := by decide +kernel
theorem d11_40 : decode method_6_code 40 = .ok (.iconst 1, 1) := by decide +kernel
theorem d11_41 : decode method_6_code 41 = .ok (.invokestatic 33, 3) := by decide +kernel
theorem d11_44 : decode method_6_code 44 = .ok (.iload_n 1, 1) := by decide +kernel
theorem d11_45 : decode method_6_code 45 = .ok (.iconst 1, 1) := by decide +kernel
theorem d11_46 : decode method_6_code 46 = .ok (.invokestatic 33, 3) := by decide +kernel
theorem d11_49 : decode method_6_code 49 = .ok (.if_icmp .eq 5, 3) := by decide +kernel
theorem d11_52 : decode method_6_code 52 = .ok (.iconst 0, 1) := by decide +kernel
theorem d11_53 : decode method_6_code 53 = .ok (.ireturn, 1) := by decide +kernel
theorem d11_54 : decode method_6_code 54 = .ok (.iload_n 2, 1) := by decide +kernel
theorem d11_55 : decode method_6_code 55 = .ok (.iconst 2, 1) := by decide +kernel
theorem d11_56 : decode method_6_code 56 = .ok (.if_icmp .le 18, 3) := by decide +kernel
theorem d11_59 : decode method_6_code 59 = .ok (.iload_n 0, 1) := by decide +kernel
theorem d11_60 : decode method_6_code 60 = .ok (.iconst 2, 1) := by decide +kernel
theorem d11_61 : decode method_6_code 61 = .ok (.invokestatic 33, 3) := by decide +kernel
theorem d11_64 : decode method_6_code 64 = .ok (.iload_n 1, 1) := by decide +kernel
theorem d11_65 : decode method_6_code 65 = .ok (.iconst 2, 1) := by decide +kernel
theorem d11_66 : decode method_6_code 66 = .ok (.invokestatic 33, 3) := by decide +kernel
theorem d11_69 : decode method_6_code 69 = .ok (.if_icmp .eq 5, 3) := by decide +kernel
theorem d11_72 : decode method_6_code 72 = .ok (.iconst 0, 1) := by decide +kernel
theorem d11_73 : decode method_6_code 73 = .ok (.ireturn, 1) := by decide +kernel
theorem d11_74 : decode method_6_code 74 = .ok (.iconst 1, 1) := by decide +kernel
theorem d11_75 : decode method_6_code 75 = .ok (.ireturn, 1) := by decide +kernel
theorem pn_11 : plainName "com/example/viitta/viitta/core/SafeXmlStartTagIsPinLaw" = true := by first | (simp [plainName, overriddenIn]; done) | decide +kernel
theorem pd_rm11_0 : parseMethodDescriptor "(I)I" = some ⟨[.int], some .int⟩ := by decide +kernel
theorem pd_rm11_1 : parseMethodDescriptor "(II)C" = some ⟨[.int, .int], some .char⟩ := by decide +kernel
theorem ef_rm11 (m : MethodId) (p1 : Int32) (p2 : Int32) : entryFrame m #[(.int p1), (.int p2)] 3 = mkF m 0 #[.val (.int p1), .val (.int p2), .unset] [] := by first | (simp [entryFrame, mkF, argsToLocals, Value.category]; done) | rfl
def Q11 (Z : State) (p1 : Int32) (p2 : Int32)  (h0 : Heap) (n0 : Nat) (v : Option Value) (h : Heap) (L : List Loc) : Prop := v = some (.int (own_same p1 p2)) ∧ Fr n0 L ∧ h = h0
set_option maxRecDepth 65536 in
set_option maxHeartbeats 40000000 in
theorem rm11 (l : Launch) (Z : State) (a0 : Array Value) (hw : ∀ d ∈ tables_1, d.before a0 Z = true) (ws : List Jvm.Cond) (p1 : Int32) (p2 : Int32)  (h0 : Heap) (n0 : Nat) (Z0 : n0 ≤ h0.size)  :
    MetFree l (⟨"com/example/viitta/viitta/core/SafeXmlStartTagIsPinLaw", "same", "(II)Z"⟩ : MethodName) (head1 (Jvm.Cond.code (⟨"com/example/viitta/viitta/core/SafeXmlStartTagIsPinLaw", "same", "(II)Z"⟩ : MethodName) method_6_code 3 (some .boolean) :: ws) ({ frames := 1, cells := 0, slots := 0, locals := 14 } : Room)) (fun a U => a = #[(.int p1), (.int p2)] ∧ Z.Warmed39 U.vm ∧ U.heap = h0) (fun _ _ _ _ _ => True) (fun _ U o U' => ∃ v L, o = .returned v ∧ Q11 Z p1 p2  h0 n0 v U'.heap L ∧ FrameEnd U o U' L ({ frames := 1, cells := 0, slots := 0, locals := 14 } : Room).cells ({ frames := 1, cells := 0, slots := 0, locals := 14 } : Room).slots) := by
  refine MetFree.of_bodySF (plainFor_of_name pn_11) hisR ?_
  intro p e s m args below meth c s₁ Bd hml0 hP hK
  obtain ⟨rfl, hZ, hh⟩ := hP
  have hx := Bd.exec
  have hby := Bd.bytes
  have hml : c.maxLocals = 3 := hml0
  have hown : s.vm.findClass "com/example/viitta/viitta/core/SafeXmlStartTagIsPinLaw" = some m.cls := findClass_of_methodNamed Bd.named
  have hnm := (name_of_methodNamed Bd.named Bd.method).1
  have hlk := BodyLoose.notSynchronized Bd
  have hrt := Bd.returns
  have X0 : Stand p l e ({ frames := 1, cells := 0, slots := 0, locals := 14 } : Room) s m #[(.int p1), (.int p2)] below meth c s₁ [] 0 0 := Stand.of_body Bd
  have e0 : s₁.heap = h0 := by rw [← hh, Bd.state]; rfl
  have N0 := Fr.nil n0
  show OEnds p e below s (Q11 Z p1 p2  h0 n0) ({ frames := 1, cells := 0, slots := 0, locals := 14 } : Room).cells ({ frames := 1, cells := 0, slots := 0, locals := 14 } : Room).slots (s₁.setTop (entryFrame m #[(.int p1), (.int p2)] 3))
  refine OEnds.go (t' := s₁.setTop (mkF m 0 #[.val (.int p1), .val (.int p2), .unset] [])) (fun t k => castTop (ef_rm11 m p1 p2) k) ?_
  refine OEnds.go (t' := s₁.setTop (mkF m 1 #[.val (.int p1), .val (.int p2), .unset] [(.int p1)])) (fun _ k => ?_) ?_
  · show Steps p.tables e below (s₁.setTop (mkF m 0 #[.val (.int p1), .val (.int p2), .unset] [])) _
    refine XS.iloadN X0.here hx rfl (hb hby d11_0) rfl ?_
    show Steps p.tables e below (s₁.setTop (mkF m 1 #[.val (.int p1), .val (.int p2), .unset] [(.int p1)])) _
    exact k
  obtain ⟨_, _, ⟨T1, L1, k1, n1⟩, -, X1, ⟨Lc1, hQ1, l1, y1, z1⟩, st1⟩ := Jvm.LawKit.callS X0 hx (y := (⟨"com/example/viitta/viitta/core/SafeXmlStartTagIsPinLaw", "len", "(I)I"⟩ : MethodName)) hown (mvT hZ (hw _ (List.mem_of_getElem? (i := 4) rfl))) (mvT hZ (hw _ (List.mem_of_getElem? (i := 5) rfl))) (mvT hZ (hw _ (List.mem_of_getElem? (i := 2) rfl))) (mvT hZ (hw _ (List.mem_of_getElem? (i := 6) rfl))) (by decide) (backOf (W := 0) (rm2 l Z a0 hw [] p1 h0 n0 Z0 ) hZ (hw _ (List.mem_of_getElem? (i := 6) rfl)) (hw _ (List.mem_of_getElem? (i := 2) rfl)) (by decide) (by decide)) (g := (mkF m 1 #[.val (.int p1), .val (.int p2), .unset] [(.int p1)])) rfl (by rw [hml]; rfl) (argsL := [(.int p1)]) (rest := []) (lenOf pd_rm11_0 rfl) rfl (by show 2 * 0 + _ ≤ _; exact Nat.le_of_eq rfl) (hb hby d11_1) (fun _ _ => ⟨rfl, e0, (by decide : 0 + 0 ≤ _), (by decide : 0 + 0 ≤ _)⟩)
  dsimp only [Pt.U, Pt.locs, Pt.cells, Pt.slots] at X1 l1 y1 z1 st1 hQ1
  subst l1 y1 z1
  obtain ⟨rfl, N1q, eh⟩ := hQ1
  have N1 := Fr.app N0 N1q
  have eh1 := eh
  refine OEnds.go (t' := T1.setTop (mkF m 4 #[.val (.int p1), .val (.int p2), .unset] [(.int (own_len3 p1))])) (fun _ k => st1 _ k) ?_
  refine OEnds.go (t' := T1.setTop (mkF m 7 #[.val (.int p1), .val (.int p2), .val (.int (own_len3 p1))] [(.int p2), (.int (own_len3 p1))])) (fun _ k => ?_) ?_
  · show Steps p.tables e below (T1.setTop (mkF m 4 #[.val (.int p1), .val (.int p2), .unset] [(.int (own_len3 p1))])) _
    refine XS.istoreN X1.here hx rfl (hb hby d11_4) rfl (l' := #[.val (.int p1), .val (.int p2), .val (.int (own_len3 p1))]) rfl ?_
    show Steps p.tables e below (T1.setTop (mkF m 5 #[.val (.int p1), .val (.int p2), .val (.int (own_len3 p1))] [])) _
    refine XS.iloadN X1.here hx rfl (hb hby d11_5) rfl ?_
    show Steps p.tables e below (T1.setTop (mkF m 6 #[.val (.int p1), .val (.int p2), .val (.int (own_len3 p1))] [(.int (own_len3 p1))])) _
    refine XS.iloadN X1.here hx rfl (hb hby d11_6) rfl ?_
    show Steps p.tables e below (T1.setTop (mkF m 7 #[.val (.int p1), .val (.int p2), .val (.int (own_len3 p1))] [(.int p2), (.int (own_len3 p1))])) _
    exact k
  obtain ⟨_, _, ⟨T2, L2, k2, n2⟩, -, X2, ⟨Lc2, hQ2, l2, y2, z2⟩, st2⟩ := Jvm.LawKit.callS X1 hx (y := (⟨"com/example/viitta/viitta/core/SafeXmlStartTagIsPinLaw", "len", "(I)I"⟩ : MethodName)) hown (mvT hZ (hw _ (List.mem_of_getElem? (i := 4) rfl))) (mvT hZ (hw _ (List.mem_of_getElem? (i := 5) rfl))) (mvT hZ (hw _ (List.mem_of_getElem? (i := 2) rfl))) (mvT hZ (hw _ (List.mem_of_getElem? (i := 6) rfl))) (by decide) (backOf (W := 1) (rm2 l Z a0 hw [] p2 h0 n0 Z0 ) hZ (hw _ (List.mem_of_getElem? (i := 6) rfl)) (hw _ (List.mem_of_getElem? (i := 2) rfl)) (by decide) (by decide)) (g := (mkF m 7 #[.val (.int p1), .val (.int p2), .val (.int (own_len3 p1))] [(.int p2), (.int (own_len3 p1))])) rfl (by rw [hml]; rfl) (argsL := [(.int p2)]) (rest := [(.int (own_len3 p1))]) (lenOf pd_rm11_0 rfl) rfl (by show 2 * 0 + _ ≤ _; exact Nat.le_of_eq rfl) (hb hby d11_7) (fun _ _ => ⟨rfl, eh1, (by decide : 0 + 0 ≤ _), (by decide : 0 + 0 ≤ _)⟩)
  dsimp only [Pt.U, Pt.locs, Pt.cells, Pt.slots] at X2 l2 y2 z2 st2 hQ2
  subst l2 y2 z2
  obtain ⟨rfl, N2q, eh⟩ := hQ2
  have N2 := Fr.app N1 N2q
  have eh2 := eh
  refine OEnds.go (t' := T2.setTop (mkF m 10 #[.val (.int p1), .val (.int p2), .val (.int (own_len3 p1))] [(.int (own_len3 p2)), (.int (own_len3 p1))])) (fun _ k => st2 _ k) ?_
  by_cases h10 : (own_len3 p1) = (own_len3 p2)
  · refine OEnds.go (t' := T2.setTop (mkF m 15 #[.val (.int p1), .val (.int p2), .val (.int (own_len3 p1))] [])) (fun _ k => XS.icmpYes X2.here hx rfl (pc0 := 10) (pc' := 15) rfl (hb hby d11_10) rfl (teq h10).1 (by decide) (by decide) k) ?_
    have hm := h10.symm
    have hfour := own_four p1
    generalize hn : own_len3 p1 = n at hfour hm
    rcases hfour with rfl | rfl | rfl | rfl
    · skip
      refine OEnds.go (t' := T2.setTop (mkF m 16 #[.val (.int p1), .val (.int p2), .val (.int (0 : Int32))] [(.int (0 : Int32))])) (fun _ k => ?_) ?_
      · show Steps p.tables e below (T2.setTop (mkF m 15 #[.val (.int p1), .val (.int p2), .val (.int (0 : Int32))] [])) _
        refine XS.iloadN X2.here hx rfl (hb hby d11_15) rfl ?_
        show Steps p.tables e below (T2.setTop (mkF m 16 #[.val (.int p1), .val (.int p2), .val (.int (0 : Int32))] [(.int (0 : Int32))])) _
        exact k
      refine OEnds.go (t' := T2.setTop (mkF m 34 #[.val (.int p1), .val (.int p2), .val (.int (0 : Int32))] [])) (fun _ k => XS.ifYes X2.here hx rfl (pc0 := 16) (pc' := 34) rfl (hb hby d11_16) rfl ((if0 _ _).trans (flt (by decide)).2.2.2) (by decide) (by decide) k) ?_
      refine OEnds.go (t' := T2.setTop (mkF m 36 #[.val (.int p1), .val (.int p2), .val (.int (0 : Int32))] [(.int (1 : Int32)), (.int (0 : Int32))])) (fun _ k => ?_) ?_
      · show Steps p.tables e below (T2.setTop (mkF m 34 #[.val (.int p1), .val (.int p2), .val (.int (0 : Int32))] [])) _
        refine XS.iloadN X2.here hx rfl (hb hby d11_34) rfl ?_
        show Steps p.tables e below (T2.setTop (mkF m 35 #[.val (.int p1), .val (.int p2), .val (.int (0 : Int32))] [(.int (0 : Int32))])) _
        refine XS.iconst X2.here hx rfl (hb hby d11_35) ?_
        show Steps p.tables e below (T2.setTop (mkF m 36 #[.val (.int p1), .val (.int p2), .val (.int (0 : Int32))] [(.int (1 : Int32)), (.int (0 : Int32))])) _
        exact k
      refine OEnds.go (t' := T2.setTop (mkF m 54 #[.val (.int p1), .val (.int p2), .val (.int (0 : Int32))] [])) (fun _ k => XS.icmpYes X2.here hx rfl (pc0 := 36) (pc' := 54) rfl (hb hby d11_36) rfl (flt (by decide)).2.2.2 (by decide) (by decide) k) ?_
      refine OEnds.go (t' := T2.setTop (mkF m 56 #[.val (.int p1), .val (.int p2), .val (.int (0 : Int32))] [(.int (2 : Int32)), (.int (0 : Int32))])) (fun _ k => ?_) ?_
      · show Steps p.tables e below (T2.setTop (mkF m 54 #[.val (.int p1), .val (.int p2), .val (.int (0 : Int32))] [])) _
        refine XS.iloadN X2.here hx rfl (hb hby d11_54) rfl ?_
        show Steps p.tables e below (T2.setTop (mkF m 55 #[.val (.int p1), .val (.int p2), .val (.int (0 : Int32))] [(.int (0 : Int32))])) _
        refine XS.iconst X2.here hx rfl (hb hby d11_55) ?_
        show Steps p.tables e below (T2.setTop (mkF m 56 #[.val (.int p1), .val (.int p2), .val (.int (0 : Int32))] [(.int (2 : Int32)), (.int (0 : Int32))])) _
        exact k
      refine OEnds.go (t' := T2.setTop (mkF m 74 #[.val (.int p1), .val (.int p2), .val (.int (0 : Int32))] [])) (fun _ k => XS.icmpYes X2.here hx rfl (pc0 := 56) (pc' := 74) rfl (hb hby d11_56) rfl (flt (by decide)).2.2.2 (by decide) (by decide) k) ?_
      refine OEnds.go (t' := T2.setTop (mkF m 75 #[.val (.int p1), .val (.int p2), .val (.int (0 : Int32))] [(.int (1 : Int32))])) (fun _ k => ?_) ?_
      · show Steps p.tables e below (T2.setTop (mkF m 74 #[.val (.int p1), .val (.int p2), .val (.int (0 : Int32))] [])) _
        refine XS.iconst X2.here hx rfl (hb hby d11_74) ?_
        show Steps p.tables e below (T2.setTop (mkF m 75 #[.val (.int p1), .val (.int p2), .val (.int (0 : Int32))] [(.int (1 : Int32))])) _
        exact k
      refine OEnds.back X2 hlk (v := (some (.int (1 : Int32)))) (fun h => by rw [hrt] at h; cases h) (fun fs hr => ?_) ?_ (by decide) (by decide)
      · exact retN X2 hx (t := .boolean) hrt (by simp) (hb hby d11_75) hr
      · show Q11 Z p1 p2  h0 n0 _ T2.heap _
        rw [eh2]
        exact ⟨by rw [own_same_yes (by rw [own_C0 hn, own_C0 hm])], N2, rfl⟩
    · skip
      refine OEnds.go (t' := T2.setTop (mkF m 16 #[.val (.int p1), .val (.int p2), .val (.int (1 : Int32))] [(.int (1 : Int32))])) (fun _ k => ?_) ?_
      · show Steps p.tables e below (T2.setTop (mkF m 15 #[.val (.int p1), .val (.int p2), .val (.int (1 : Int32))] [])) _
        refine XS.iloadN X2.here hx rfl (hb hby d11_15) rfl ?_
        show Steps p.tables e below (T2.setTop (mkF m 16 #[.val (.int p1), .val (.int p2), .val (.int (1 : Int32))] [(.int (1 : Int32))])) _
        exact k
      refine OEnds.go (t' := T2.setTop (mkF m 19 #[.val (.int p1), .val (.int p2), .val (.int (1 : Int32))] [])) (fun _ k => XS.ifNo X2.here hx rfl (hb hby d11_16) rfl ((if0 _ _).trans (tlt (by decide)).2.2.2) k) ?_
      refine OEnds.go (t' := T2.setTop (mkF m 21 #[.val (.int p1), .val (.int p2), .val (.int (1 : Int32))] [(.int (0 : Int32)), (.int p1)])) (fun _ k => ?_) ?_
      · show Steps p.tables e below (T2.setTop (mkF m 19 #[.val (.int p1), .val (.int p2), .val (.int (1 : Int32))] [])) _
        refine XS.iloadN X2.here hx rfl (hb hby d11_19) rfl ?_
        show Steps p.tables e below (T2.setTop (mkF m 20 #[.val (.int p1), .val (.int p2), .val (.int (1 : Int32))] [(.int p1)])) _
        refine XS.iconst X2.here hx rfl (hb hby d11_20) ?_
        show Steps p.tables e below (T2.setTop (mkF m 21 #[.val (.int p1), .val (.int p2), .val (.int (1 : Int32))] [(.int (0 : Int32)), (.int p1)])) _
        exact k
      obtain ⟨_, _, ⟨T3, L3, k3, n3⟩, -, X3, ⟨Lc3, hQ3, l3, y3, z3⟩, st3⟩ := Jvm.LawKit.callS X2 hx (y := (⟨"com/example/viitta/viitta/core/SafeXmlStartTagIsPinLaw", "ch", "(II)C"⟩ : MethodName)) hown (mvT hZ (hw _ (List.mem_of_getElem? (i := 94) rfl))) (mvT hZ (hw _ (List.mem_of_getElem? (i := 95) rfl))) (mvT hZ (hw _ (List.mem_of_getElem? (i := 2) rfl))) (mvT hZ (hw _ (List.mem_of_getElem? (i := 96) rfl))) (by decide) (backOf (W := 0) (rm15 l Z a0 hw [] p1 (0 : Int32) h0 n0 Z0 ) hZ (hw _ (List.mem_of_getElem? (i := 96) rfl)) (hw _ (List.mem_of_getElem? (i := 2) rfl)) (by decide) (by decide)) (g := (mkF m 21 #[.val (.int p1), .val (.int p2), .val (.int (1 : Int32))] [(.int (0 : Int32)), (.int p1)])) rfl (by rw [hml]; rfl) (argsL := [(.int p1), (.int (0 : Int32))]) (rest := []) (lenOf pd_rm11_1 rfl) rfl (by show 2 * 0 + _ ≤ _; exact Nat.le_of_eq rfl) (hb hby d11_21) (fun _ _ => ⟨rfl, eh2, (by decide : 0 + 0 ≤ _), (by decide : 0 + 0 ≤ _)⟩)
      dsimp only [Pt.U, Pt.locs, Pt.cells, Pt.slots] at X3 l3 y3 z3 st3 hQ3
      subst l3 y3 z3
      obtain ⟨rfl, N3q, eh⟩ := hQ3
      have N3 := Fr.app N2 N3q
      have eh3 := eh
      refine OEnds.go (t' := T3.setTop (mkF m 24 #[.val (.int p1), .val (.int p2), .val (.int (1 : Int32))] [(.int (own_ch p1 (0 : Int32)))])) (fun _ k => st3 _ k) ?_
      refine OEnds.go (t' := T3.setTop (mkF m 26 #[.val (.int p1), .val (.int p2), .val (.int (1 : Int32))] [(.int (0 : Int32)), (.int p2), (.int (own_ch p1 (0 : Int32)))])) (fun _ k => ?_) ?_
      · show Steps p.tables e below (T3.setTop (mkF m 24 #[.val (.int p1), .val (.int p2), .val (.int (1 : Int32))] [(.int (own_ch p1 (0 : Int32)))])) _
        refine XS.iloadN X3.here hx rfl (hb hby d11_24) rfl ?_
        show Steps p.tables e below (T3.setTop (mkF m 25 #[.val (.int p1), .val (.int p2), .val (.int (1 : Int32))] [(.int p2), (.int (own_ch p1 (0 : Int32)))])) _
        refine XS.iconst X3.here hx rfl (hb hby d11_25) ?_
        show Steps p.tables e below (T3.setTop (mkF m 26 #[.val (.int p1), .val (.int p2), .val (.int (1 : Int32))] [(.int (0 : Int32)), (.int p2), (.int (own_ch p1 (0 : Int32)))])) _
        exact k
      obtain ⟨_, _, ⟨T4, L4, k4, n4⟩, -, X4, ⟨Lc4, hQ4, l4, y4, z4⟩, st4⟩ := Jvm.LawKit.callS X3 hx (y := (⟨"com/example/viitta/viitta/core/SafeXmlStartTagIsPinLaw", "ch", "(II)C"⟩ : MethodName)) hown (mvT hZ (hw _ (List.mem_of_getElem? (i := 94) rfl))) (mvT hZ (hw _ (List.mem_of_getElem? (i := 95) rfl))) (mvT hZ (hw _ (List.mem_of_getElem? (i := 2) rfl))) (mvT hZ (hw _ (List.mem_of_getElem? (i := 96) rfl))) (by decide) (backOf (W := 1) (rm15 l Z a0 hw [] p2 (0 : Int32) h0 n0 Z0 ) hZ (hw _ (List.mem_of_getElem? (i := 96) rfl)) (hw _ (List.mem_of_getElem? (i := 2) rfl)) (by decide) (by decide)) (g := (mkF m 26 #[.val (.int p1), .val (.int p2), .val (.int (1 : Int32))] [(.int (0 : Int32)), (.int p2), (.int (own_ch p1 (0 : Int32)))])) rfl (by rw [hml]; rfl) (argsL := [(.int p2), (.int (0 : Int32))]) (rest := [(.int (own_ch p1 (0 : Int32)))]) (lenOf pd_rm11_1 rfl) rfl (by show 2 * 0 + _ ≤ _; exact Nat.le_of_eq rfl) (hb hby d11_26) (fun _ _ => ⟨rfl, eh3, (by decide : 0 + 0 ≤ _), (by decide : 0 + 0 ≤ _)⟩)
      dsimp only [Pt.U, Pt.locs, Pt.cells, Pt.slots] at X4 l4 y4 z4 st4 hQ4
      subst l4 y4 z4
      obtain ⟨rfl, N4q, eh⟩ := hQ4
      have N4 := Fr.app N3 N4q
      have eh4 := eh
      refine OEnds.go (t' := T4.setTop (mkF m 29 #[.val (.int p1), .val (.int p2), .val (.int (1 : Int32))] [(.int (own_ch p2 (0 : Int32))), (.int (own_ch p1 (0 : Int32)))])) (fun _ k => st4 _ k) ?_
      by_cases q0 : (own_ch p1 (0 : Int32)) = (own_ch p2 (0 : Int32))
      · refine OEnds.go (t' := T4.setTop (mkF m 34 #[.val (.int p1), .val (.int p2), .val (.int (1 : Int32))] [])) (fun _ k => XS.icmpYes X4.here hx rfl (pc0 := 29) (pc' := 34) rfl (hb hby d11_29) rfl (teq q0).1 (by decide) (by decide) k) ?_
        refine OEnds.go (t' := T4.setTop (mkF m 36 #[.val (.int p1), .val (.int p2), .val (.int (1 : Int32))] [(.int (1 : Int32)), (.int (1 : Int32))])) (fun _ k => ?_) ?_
        · show Steps p.tables e below (T4.setTop (mkF m 34 #[.val (.int p1), .val (.int p2), .val (.int (1 : Int32))] [])) _
          refine XS.iloadN X4.here hx rfl (hb hby d11_34) rfl ?_
          show Steps p.tables e below (T4.setTop (mkF m 35 #[.val (.int p1), .val (.int p2), .val (.int (1 : Int32))] [(.int (1 : Int32))])) _
          refine XS.iconst X4.here hx rfl (hb hby d11_35) ?_
          show Steps p.tables e below (T4.setTop (mkF m 36 #[.val (.int p1), .val (.int p2), .val (.int (1 : Int32))] [(.int (1 : Int32)), (.int (1 : Int32))])) _
          exact k
        refine OEnds.go (t' := T4.setTop (mkF m 54 #[.val (.int p1), .val (.int p2), .val (.int (1 : Int32))] [])) (fun _ k => XS.icmpYes X4.here hx rfl (pc0 := 36) (pc' := 54) rfl (hb hby d11_36) rfl (flt (by decide)).2.2.2 (by decide) (by decide) k) ?_
        refine OEnds.go (t' := T4.setTop (mkF m 56 #[.val (.int p1), .val (.int p2), .val (.int (1 : Int32))] [(.int (2 : Int32)), (.int (1 : Int32))])) (fun _ k => ?_) ?_
        · show Steps p.tables e below (T4.setTop (mkF m 54 #[.val (.int p1), .val (.int p2), .val (.int (1 : Int32))] [])) _
          refine XS.iloadN X4.here hx rfl (hb hby d11_54) rfl ?_
          show Steps p.tables e below (T4.setTop (mkF m 55 #[.val (.int p1), .val (.int p2), .val (.int (1 : Int32))] [(.int (1 : Int32))])) _
          refine XS.iconst X4.here hx rfl (hb hby d11_55) ?_
          show Steps p.tables e below (T4.setTop (mkF m 56 #[.val (.int p1), .val (.int p2), .val (.int (1 : Int32))] [(.int (2 : Int32)), (.int (1 : Int32))])) _
          exact k
        refine OEnds.go (t' := T4.setTop (mkF m 74 #[.val (.int p1), .val (.int p2), .val (.int (1 : Int32))] [])) (fun _ k => XS.icmpYes X4.here hx rfl (pc0 := 56) (pc' := 74) rfl (hb hby d11_56) rfl (flt (by decide)).2.2.2 (by decide) (by decide) k) ?_
        refine OEnds.go (t' := T4.setTop (mkF m 75 #[.val (.int p1), .val (.int p2), .val (.int (1 : Int32))] [(.int (1 : Int32))])) (fun _ k => ?_) ?_
        · show Steps p.tables e below (T4.setTop (mkF m 74 #[.val (.int p1), .val (.int p2), .val (.int (1 : Int32))] [])) _
          refine XS.iconst X4.here hx rfl (hb hby d11_74) ?_
          show Steps p.tables e below (T4.setTop (mkF m 75 #[.val (.int p1), .val (.int p2), .val (.int (1 : Int32))] [(.int (1 : Int32))])) _
          exact k
        refine OEnds.back X4 hlk (v := (some (.int (1 : Int32)))) (fun h => by rw [hrt] at h; cases h) (fun fs hr => ?_) ?_ (by decide) (by decide)
        · exact retN X4 hx (t := .boolean) hrt (by simp) (hb hby d11_75) hr
        · show Q11 Z p1 p2  h0 n0 _ T4.heap _
          rw [eh4]
          exact ⟨by rw [own_same_yes (by rw [own_C1 hn, own_C1 hm, q0])], N4, rfl⟩
      · refine OEnds.go (t' := T4.setTop (mkF m 32 #[.val (.int p1), .val (.int p2), .val (.int (1 : Int32))] [])) (fun _ k => XS.icmpNo X4.here hx rfl (hb hby d11_29) rfl (feq q0).1 k) ?_
        refine OEnds.go (t' := T4.setTop (mkF m 33 #[.val (.int p1), .val (.int p2), .val (.int (1 : Int32))] [(.int (0 : Int32))])) (fun _ k => ?_) ?_
        · show Steps p.tables e below (T4.setTop (mkF m 32 #[.val (.int p1), .val (.int p2), .val (.int (1 : Int32))] [])) _
          refine XS.iconst X4.here hx rfl (hb hby d11_32) ?_
          show Steps p.tables e below (T4.setTop (mkF m 33 #[.val (.int p1), .val (.int p2), .val (.int (1 : Int32))] [(.int (0 : Int32))])) _
          exact k
        refine OEnds.back X4 hlk (v := (some (.int (0 : Int32)))) (fun h => by rw [hrt] at h; cases h) (fun fs hr => ?_) ?_ (by decide) (by decide)
        · exact retN X4 hx (t := .boolean) hrt (by simp) (hb hby d11_33) hr
        · show Q11 Z p1 p2  h0 n0 _ T4.heap _
          rw [eh4]
          exact ⟨by rw [own_same_no]; rw [own_C1 hn, own_C1 hm]; exact fun q => q0 (congrArg (fun l => l.getD 0 0) q), N4, rfl⟩
    · skip
      refine OEnds.go (t' := T2.setTop (mkF m 16 #[.val (.int p1), .val (.int p2), .val (.int (2 : Int32))] [(.int (2 : Int32))])) (fun _ k => ?_) ?_
      · show Steps p.tables e below (T2.setTop (mkF m 15 #[.val (.int p1), .val (.int p2), .val (.int (2 : Int32))] [])) _
        refine XS.iloadN X2.here hx rfl (hb hby d11_15) rfl ?_
        show Steps p.tables e below (T2.setTop (mkF m 16 #[.val (.int p1), .val (.int p2), .val (.int (2 : Int32))] [(.int (2 : Int32))])) _
        exact k
      refine OEnds.go (t' := T2.setTop (mkF m 19 #[.val (.int p1), .val (.int p2), .val (.int (2 : Int32))] [])) (fun _ k => XS.ifNo X2.here hx rfl (hb hby d11_16) rfl ((if0 _ _).trans (tlt (by decide)).2.2.2) k) ?_
      refine OEnds.go (t' := T2.setTop (mkF m 21 #[.val (.int p1), .val (.int p2), .val (.int (2 : Int32))] [(.int (0 : Int32)), (.int p1)])) (fun _ k => ?_) ?_
      · show Steps p.tables e below (T2.setTop (mkF m 19 #[.val (.int p1), .val (.int p2), .val (.int (2 : Int32))] [])) _
        refine XS.iloadN X2.here hx rfl (hb hby d11_19) rfl ?_
        show Steps p.tables e below (T2.setTop (mkF m 20 #[.val (.int p1), .val (.int p2), .val (.int (2 : Int32))] [(.int p1)])) _
        refine XS.iconst X2.here hx rfl (hb hby d11_20) ?_
        show Steps p.tables e below (T2.setTop (mkF m 21 #[.val (.int p1), .val (.int p2), .val (.int (2 : Int32))] [(.int (0 : Int32)), (.int p1)])) _
        exact k
      obtain ⟨_, _, ⟨T5, L5, k5, n5⟩, -, X5, ⟨Lc5, hQ5, l5, y5, z5⟩, st5⟩ := Jvm.LawKit.callS X2 hx (y := (⟨"com/example/viitta/viitta/core/SafeXmlStartTagIsPinLaw", "ch", "(II)C"⟩ : MethodName)) hown (mvT hZ (hw _ (List.mem_of_getElem? (i := 94) rfl))) (mvT hZ (hw _ (List.mem_of_getElem? (i := 95) rfl))) (mvT hZ (hw _ (List.mem_of_getElem? (i := 2) rfl))) (mvT hZ (hw _ (List.mem_of_getElem? (i := 96) rfl))) (by decide) (backOf (W := 0) (rm15 l Z a0 hw [] p1 (0 : Int32) h0 n0 Z0 ) hZ (hw _ (List.mem_of_getElem? (i := 96) rfl)) (hw _ (List.mem_of_getElem? (i := 2) rfl)) (by decide) (by decide)) (g := (mkF m 21 #[.val (.int p1), .val (.int p2), .val (.int (2 : Int32))] [(.int (0 : Int32)), (.int p1)])) rfl (by rw [hml]; rfl) (argsL := [(.int p1), (.int (0 : Int32))]) (rest := []) (lenOf pd_rm11_1 rfl) rfl (by show 2 * 0 + _ ≤ _; exact Nat.le_of_eq rfl) (hb hby d11_21) (fun _ _ => ⟨rfl, eh2, (by decide : 0 + 0 ≤ _), (by decide : 0 + 0 ≤ _)⟩)
      dsimp only [Pt.U, Pt.locs, Pt.cells, Pt.slots] at X5 l5 y5 z5 st5 hQ5
      subst l5 y5 z5
      obtain ⟨rfl, N5q, eh⟩ := hQ5
      have N5 := Fr.app N2 N5q
      have eh5 := eh
      refine OEnds.go (t' := T5.setTop (mkF m 24 #[.val (.int p1), .val (.int p2), .val (.int (2 : Int32))] [(.int (own_ch p1 (0 : Int32)))])) (fun _ k => st5 _ k) ?_
      refine OEnds.go (t' := T5.setTop (mkF m 26 #[.val (.int p1), .val (.int p2), .val (.int (2 : Int32))] [(.int (0 : Int32)), (.int p2), (.int (own_ch p1 (0 : Int32)))])) (fun _ k => ?_) ?_
      · show Steps p.tables e below (T5.setTop (mkF m 24 #[.val (.int p1), .val (.int p2), .val (.int (2 : Int32))] [(.int (own_ch p1 (0 : Int32)))])) _
        refine XS.iloadN X5.here hx rfl (hb hby d11_24) rfl ?_
        show Steps p.tables e below (T5.setTop (mkF m 25 #[.val (.int p1), .val (.int p2), .val (.int (2 : Int32))] [(.int p2), (.int (own_ch p1 (0 : Int32)))])) _
        refine XS.iconst X5.here hx rfl (hb hby d11_25) ?_
        show Steps p.tables e below (T5.setTop (mkF m 26 #[.val (.int p1), .val (.int p2), .val (.int (2 : Int32))] [(.int (0 : Int32)), (.int p2), (.int (own_ch p1 (0 : Int32)))])) _
        exact k
      obtain ⟨_, _, ⟨T6, L6, k6, n6⟩, -, X6, ⟨Lc6, hQ6, l6, y6, z6⟩, st6⟩ := Jvm.LawKit.callS X5 hx (y := (⟨"com/example/viitta/viitta/core/SafeXmlStartTagIsPinLaw", "ch", "(II)C"⟩ : MethodName)) hown (mvT hZ (hw _ (List.mem_of_getElem? (i := 94) rfl))) (mvT hZ (hw _ (List.mem_of_getElem? (i := 95) rfl))) (mvT hZ (hw _ (List.mem_of_getElem? (i := 2) rfl))) (mvT hZ (hw _ (List.mem_of_getElem? (i := 96) rfl))) (by decide) (backOf (W := 1) (rm15 l Z a0 hw [] p2 (0 : Int32) h0 n0 Z0 ) hZ (hw _ (List.mem_of_getElem? (i := 96) rfl)) (hw _ (List.mem_of_getElem? (i := 2) rfl)) (by decide) (by decide)) (g := (mkF m 26 #[.val (.int p1), .val (.int p2), .val (.int (2 : Int32))] [(.int (0 : Int32)), (.int p2), (.int (own_ch p1 (0 : Int32)))])) rfl (by rw [hml]; rfl) (argsL := [(.int p2), (.int (0 : Int32))]) (rest := [(.int (own_ch p1 (0 : Int32)))]) (lenOf pd_rm11_1 rfl) rfl (by show 2 * 0 + _ ≤ _; exact Nat.le_of_eq rfl) (hb hby d11_26) (fun _ _ => ⟨rfl, eh5, (by decide : 0 + 0 ≤ _), (by decide : 0 + 0 ≤ _)⟩)
      dsimp only [Pt.U, Pt.locs, Pt.cells, Pt.slots] at X6 l6 y6 z6 st6 hQ6
      subst l6 y6 z6
      obtain ⟨rfl, N6q, eh⟩ := hQ6
      have N6 := Fr.app N5 N6q
      have eh6 := eh
      refine OEnds.go (t' := T6.setTop (mkF m 29 #[.val (.int p1), .val (.int p2), .val (.int (2 : Int32))] [(.int (own_ch p2 (0 : Int32))), (.int (own_ch p1 (0 : Int32)))])) (fun _ k => st6 _ k) ?_
      by_cases q0 : (own_ch p1 (0 : Int32)) = (own_ch p2 (0 : Int32))
      · refine OEnds.go (t' := T6.setTop (mkF m 34 #[.val (.int p1), .val (.int p2), .val (.int (2 : Int32))] [])) (fun _ k => XS.icmpYes X6.here hx rfl (pc0 := 29) (pc' := 34) rfl (hb hby d11_29) rfl (teq q0).1 (by decide) (by decide) k) ?_
        refine OEnds.go (t' := T6.setTop (mkF m 36 #[.val (.int p1), .val (.int p2), .val (.int (2 : Int32))] [(.int (1 : Int32)), (.int (2 : Int32))])) (fun _ k => ?_) ?_
        · show Steps p.tables e below (T6.setTop (mkF m 34 #[.val (.int p1), .val (.int p2), .val (.int (2 : Int32))] [])) _
          refine XS.iloadN X6.here hx rfl (hb hby d11_34) rfl ?_
          show Steps p.tables e below (T6.setTop (mkF m 35 #[.val (.int p1), .val (.int p2), .val (.int (2 : Int32))] [(.int (2 : Int32))])) _
          refine XS.iconst X6.here hx rfl (hb hby d11_35) ?_
          show Steps p.tables e below (T6.setTop (mkF m 36 #[.val (.int p1), .val (.int p2), .val (.int (2 : Int32))] [(.int (1 : Int32)), (.int (2 : Int32))])) _
          exact k
        refine OEnds.go (t' := T6.setTop (mkF m 39 #[.val (.int p1), .val (.int p2), .val (.int (2 : Int32))] [])) (fun _ k => XS.icmpNo X6.here hx rfl (hb hby d11_36) rfl (tlt (by decide)).2.2.2 k) ?_
        refine OEnds.go (t' := T6.setTop (mkF m 41 #[.val (.int p1), .val (.int p2), .val (.int (2 : Int32))] [(.int (1 : Int32)), (.int p1)])) (fun _ k => ?_) ?_
        · show Steps p.tables e below (T6.setTop (mkF m 39 #[.val (.int p1), .val (.int p2), .val (.int (2 : Int32))] [])) _
          refine XS.iloadN X6.here hx rfl (hb hby d11_39) rfl ?_
          show Steps p.tables e below (T6.setTop (mkF m 40 #[.val (.int p1), .val (.int p2), .val (.int (2 : Int32))] [(.int p1)])) _
          refine XS.iconst X6.here hx rfl (hb hby d11_40) ?_
          show Steps p.tables e below (T6.setTop (mkF m 41 #[.val (.int p1), .val (.int p2), .val (.int (2 : Int32))] [(.int (1 : Int32)), (.int p1)])) _
          exact k
        obtain ⟨_, _, ⟨T7, L7, k7, n7⟩, -, X7, ⟨Lc7, hQ7, l7, y7, z7⟩, st7⟩ := Jvm.LawKit.callS X6 hx (y := (⟨"com/example/viitta/viitta/core/SafeXmlStartTagIsPinLaw", "ch", "(II)C"⟩ : MethodName)) hown (mvT hZ (hw _ (List.mem_of_getElem? (i := 94) rfl))) (mvT hZ (hw _ (List.mem_of_getElem? (i := 95) rfl))) (mvT hZ (hw _ (List.mem_of_getElem? (i := 2) rfl))) (mvT hZ (hw _ (List.mem_of_getElem? (i := 96) rfl))) (by decide) (backOf (W := 0) (rm15 l Z a0 hw [] p1 (1 : Int32) h0 n0 Z0 ) hZ (hw _ (List.mem_of_getElem? (i := 96) rfl)) (hw _ (List.mem_of_getElem? (i := 2) rfl)) (by decide) (by decide)) (g := (mkF m 41 #[.val (.int p1), .val (.int p2), .val (.int (2 : Int32))] [(.int (1 : Int32)), (.int p1)])) rfl (by rw [hml]; rfl) (argsL := [(.int p1), (.int (1 : Int32))]) (rest := []) (lenOf pd_rm11_1 rfl) rfl (by show 2 * 0 + _ ≤ _; exact Nat.le_of_eq rfl) (hb hby d11_41) (fun _ _ => ⟨rfl, eh6, (by decide : 0 + 0 ≤ _), (by decide : 0 + 0 ≤ _)⟩)
        dsimp only [Pt.U, Pt.locs, Pt.cells, Pt.slots] at X7 l7 y7 z7 st7 hQ7
        subst l7 y7 z7
        obtain ⟨rfl, N7q, eh⟩ := hQ7
        have N7 := Fr.app N6 N7q
        have eh7 := eh
        refine OEnds.go (t' := T7.setTop (mkF m 44 #[.val (.int p1), .val (.int p2), .val (.int (2 : Int32))] [(.int (own_ch p1 (1 : Int32)))])) (fun _ k => st7 _ k) ?_
        refine OEnds.go (t' := T7.setTop (mkF m 46 #[.val (.int p1), .val (.int p2), .val (.int (2 : Int32))] [(.int (1 : Int32)), (.int p2), (.int (own_ch p1 (1 : Int32)))])) (fun _ k => ?_) ?_
        · show Steps p.tables e below (T7.setTop (mkF m 44 #[.val (.int p1), .val (.int p2), .val (.int (2 : Int32))] [(.int (own_ch p1 (1 : Int32)))])) _
          refine XS.iloadN X7.here hx rfl (hb hby d11_44) rfl ?_
          show Steps p.tables e below (T7.setTop (mkF m 45 #[.val (.int p1), .val (.int p2), .val (.int (2 : Int32))] [(.int p2), (.int (own_ch p1 (1 : Int32)))])) _
          refine XS.iconst X7.here hx rfl (hb hby d11_45) ?_
          show Steps p.tables e below (T7.setTop (mkF m 46 #[.val (.int p1), .val (.int p2), .val (.int (2 : Int32))] [(.int (1 : Int32)), (.int p2), (.int (own_ch p1 (1 : Int32)))])) _
          exact k
        obtain ⟨_, _, ⟨T8, L8, k8, n8⟩, -, X8, ⟨Lc8, hQ8, l8, y8, z8⟩, st8⟩ := Jvm.LawKit.callS X7 hx (y := (⟨"com/example/viitta/viitta/core/SafeXmlStartTagIsPinLaw", "ch", "(II)C"⟩ : MethodName)) hown (mvT hZ (hw _ (List.mem_of_getElem? (i := 94) rfl))) (mvT hZ (hw _ (List.mem_of_getElem? (i := 95) rfl))) (mvT hZ (hw _ (List.mem_of_getElem? (i := 2) rfl))) (mvT hZ (hw _ (List.mem_of_getElem? (i := 96) rfl))) (by decide) (backOf (W := 1) (rm15 l Z a0 hw [] p2 (1 : Int32) h0 n0 Z0 ) hZ (hw _ (List.mem_of_getElem? (i := 96) rfl)) (hw _ (List.mem_of_getElem? (i := 2) rfl)) (by decide) (by decide)) (g := (mkF m 46 #[.val (.int p1), .val (.int p2), .val (.int (2 : Int32))] [(.int (1 : Int32)), (.int p2), (.int (own_ch p1 (1 : Int32)))])) rfl (by rw [hml]; rfl) (argsL := [(.int p2), (.int (1 : Int32))]) (rest := [(.int (own_ch p1 (1 : Int32)))]) (lenOf pd_rm11_1 rfl) rfl (by show 2 * 0 + _ ≤ _; exact Nat.le_of_eq rfl) (hb hby d11_46) (fun _ _ => ⟨rfl, eh7, (by decide : 0 + 0 ≤ _), (by decide : 0 + 0 ≤ _)⟩)
        dsimp only [Pt.U, Pt.locs, Pt.cells, Pt.slots] at X8 l8 y8 z8 st8 hQ8
        subst l8 y8 z8
        obtain ⟨rfl, N8q, eh⟩ := hQ8
        have N8 := Fr.app N7 N8q
        have eh8 := eh
        refine OEnds.go (t' := T8.setTop (mkF m 49 #[.val (.int p1), .val (.int p2), .val (.int (2 : Int32))] [(.int (own_ch p2 (1 : Int32))), (.int (own_ch p1 (1 : Int32)))])) (fun _ k => st8 _ k) ?_
        by_cases q1 : (own_ch p1 (1 : Int32)) = (own_ch p2 (1 : Int32))
        · refine OEnds.go (t' := T8.setTop (mkF m 54 #[.val (.int p1), .val (.int p2), .val (.int (2 : Int32))] [])) (fun _ k => XS.icmpYes X8.here hx rfl (pc0 := 49) (pc' := 54) rfl (hb hby d11_49) rfl (teq q1).1 (by decide) (by decide) k) ?_
          refine OEnds.go (t' := T8.setTop (mkF m 56 #[.val (.int p1), .val (.int p2), .val (.int (2 : Int32))] [(.int (2 : Int32)), (.int (2 : Int32))])) (fun _ k => ?_) ?_
          · show Steps p.tables e below (T8.setTop (mkF m 54 #[.val (.int p1), .val (.int p2), .val (.int (2 : Int32))] [])) _
            refine XS.iloadN X8.here hx rfl (hb hby d11_54) rfl ?_
            show Steps p.tables e below (T8.setTop (mkF m 55 #[.val (.int p1), .val (.int p2), .val (.int (2 : Int32))] [(.int (2 : Int32))])) _
            refine XS.iconst X8.here hx rfl (hb hby d11_55) ?_
            show Steps p.tables e below (T8.setTop (mkF m 56 #[.val (.int p1), .val (.int p2), .val (.int (2 : Int32))] [(.int (2 : Int32)), (.int (2 : Int32))])) _
            exact k
          refine OEnds.go (t' := T8.setTop (mkF m 74 #[.val (.int p1), .val (.int p2), .val (.int (2 : Int32))] [])) (fun _ k => XS.icmpYes X8.here hx rfl (pc0 := 56) (pc' := 74) rfl (hb hby d11_56) rfl (flt (by decide)).2.2.2 (by decide) (by decide) k) ?_
          refine OEnds.go (t' := T8.setTop (mkF m 75 #[.val (.int p1), .val (.int p2), .val (.int (2 : Int32))] [(.int (1 : Int32))])) (fun _ k => ?_) ?_
          · show Steps p.tables e below (T8.setTop (mkF m 74 #[.val (.int p1), .val (.int p2), .val (.int (2 : Int32))] [])) _
            refine XS.iconst X8.here hx rfl (hb hby d11_74) ?_
            show Steps p.tables e below (T8.setTop (mkF m 75 #[.val (.int p1), .val (.int p2), .val (.int (2 : Int32))] [(.int (1 : Int32))])) _
            exact k
          refine OEnds.back X8 hlk (v := (some (.int (1 : Int32)))) (fun h => by rw [hrt] at h; cases h) (fun fs hr => ?_) ?_ (by decide) (by decide)
          · exact retN X8 hx (t := .boolean) hrt (by simp) (hb hby d11_75) hr
          · show Q11 Z p1 p2  h0 n0 _ T8.heap _
            rw [eh8]
            exact ⟨by rw [own_same_yes (by rw [own_C2 hn, own_C2 hm, q0, q1])], N8, rfl⟩
        · refine OEnds.go (t' := T8.setTop (mkF m 52 #[.val (.int p1), .val (.int p2), .val (.int (2 : Int32))] [])) (fun _ k => XS.icmpNo X8.here hx rfl (hb hby d11_49) rfl (feq q1).1 k) ?_
          refine OEnds.go (t' := T8.setTop (mkF m 53 #[.val (.int p1), .val (.int p2), .val (.int (2 : Int32))] [(.int (0 : Int32))])) (fun _ k => ?_) ?_
          · show Steps p.tables e below (T8.setTop (mkF m 52 #[.val (.int p1), .val (.int p2), .val (.int (2 : Int32))] [])) _
            refine XS.iconst X8.here hx rfl (hb hby d11_52) ?_
            show Steps p.tables e below (T8.setTop (mkF m 53 #[.val (.int p1), .val (.int p2), .val (.int (2 : Int32))] [(.int (0 : Int32))])) _
            exact k
          refine OEnds.back X8 hlk (v := (some (.int (0 : Int32)))) (fun h => by rw [hrt] at h; cases h) (fun fs hr => ?_) ?_ (by decide) (by decide)
          · exact retN X8 hx (t := .boolean) hrt (by simp) (hb hby d11_53) hr
          · show Q11 Z p1 p2  h0 n0 _ T8.heap _
            rw [eh8]
            exact ⟨by rw [own_same_no]; rw [own_C2 hn, own_C2 hm]; exact fun q => q1 (congrArg (fun l => l.getD 1 0) q), N8, rfl⟩
      · refine OEnds.go (t' := T6.setTop (mkF m 32 #[.val (.int p1), .val (.int p2), .val (.int (2 : Int32))] [])) (fun _ k => XS.icmpNo X6.here hx rfl (hb hby d11_29) rfl (feq q0).1 k) ?_
        refine OEnds.go (t' := T6.setTop (mkF m 33 #[.val (.int p1), .val (.int p2), .val (.int (2 : Int32))] [(.int (0 : Int32))])) (fun _ k => ?_) ?_
        · show Steps p.tables e below (T6.setTop (mkF m 32 #[.val (.int p1), .val (.int p2), .val (.int (2 : Int32))] [])) _
          refine XS.iconst X6.here hx rfl (hb hby d11_32) ?_
          show Steps p.tables e below (T6.setTop (mkF m 33 #[.val (.int p1), .val (.int p2), .val (.int (2 : Int32))] [(.int (0 : Int32))])) _
          exact k
        refine OEnds.back X6 hlk (v := (some (.int (0 : Int32)))) (fun h => by rw [hrt] at h; cases h) (fun fs hr => ?_) ?_ (by decide) (by decide)
        · exact retN X6 hx (t := .boolean) hrt (by simp) (hb hby d11_33) hr
        · show Q11 Z p1 p2  h0 n0 _ T6.heap _
          rw [eh6]
          exact ⟨by rw [own_same_no]; rw [own_C2 hn, own_C2 hm]; exact fun q => q0 (congrArg (fun l => l.getD 0 0) q), N6, rfl⟩
    · skip
      refine OEnds.go (t' := T2.setTop (mkF m 16 #[.val (.int p1), .val (.int p2), .val (.int (3 : Int32))] [(.int (3 : Int32))])) (fun _ k => ?_) ?_
      · show Steps p.tables e below (T2.setTop (mkF m 15 #[.val (.int p1), .val (.int p2), .val (.int (3 : Int32))] [])) _
        refine XS.iloadN X2.here hx rfl (hb hby d11_15) rfl ?_
        show Steps p.tables e below (T2.setTop (mkF m 16 #[.val (.int p1), .val (.int p2), .val (.int (3 : Int32))] [(.int (3 : Int32))])) _
        exact k
      refine OEnds.go (t' := T2.setTop (mkF m 19 #[.val (.int p1), .val (.int p2), .val (.int (3 : Int32))] [])) (fun _ k => XS.ifNo X2.here hx rfl (hb hby d11_16) rfl ((if0 _ _).trans (tlt (by decide)).2.2.2) k) ?_
      refine OEnds.go (t' := T2.setTop (mkF m 21 #[.val (.int p1), .val (.int p2), .val (.int (3 : Int32))] [(.int (0 : Int32)), (.int p1)])) (fun _ k => ?_) ?_
      · show Steps p.tables e below (T2.setTop (mkF m 19 #[.val (.int p1), .val (.int p2), .val (.int (3 : Int32))] [])) _
        refine XS.iloadN X2.here hx rfl (hb hby d11_19) rfl ?_
        show Steps p.tables e below (T2.setTop (mkF m 20 #[.val (.int p1), .val (.int p2), .val (.int (3 : Int32))] [(.int p1)])) _
        refine XS.iconst X2.here hx rfl (hb hby d11_20) ?_
        show Steps p.tables e below (T2.setTop (mkF m 21 #[.val (.int p1), .val (.int p2), .val (.int (3 : Int32))] [(.int (0 : Int32)), (.int p1)])) _
        exact k
      obtain ⟨_, _, ⟨T9, L9, k9, n9⟩, -, X9, ⟨Lc9, hQ9, l9, y9, z9⟩, st9⟩ := Jvm.LawKit.callS X2 hx (y := (⟨"com/example/viitta/viitta/core/SafeXmlStartTagIsPinLaw", "ch", "(II)C"⟩ : MethodName)) hown (mvT hZ (hw _ (List.mem_of_getElem? (i := 94) rfl))) (mvT hZ (hw _ (List.mem_of_getElem? (i := 95) rfl))) (mvT hZ (hw _ (List.mem_of_getElem? (i := 2) rfl))) (mvT hZ (hw _ (List.mem_of_getElem? (i := 96) rfl))) (by decide) (backOf (W := 0) (rm15 l Z a0 hw [] p1 (0 : Int32) h0 n0 Z0 ) hZ (hw _ (List.mem_of_getElem? (i := 96) rfl)) (hw _ (List.mem_of_getElem? (i := 2) rfl)) (by decide) (by decide)) (g := (mkF m 21 #[.val (.int p1), .val (.int p2), .val (.int (3 : Int32))] [(.int (0 : Int32)), (.int p1)])) rfl (by rw [hml]; rfl) (argsL := [(.int p1), (.int (0 : Int32))]) (rest := []) (lenOf pd_rm11_1 rfl) rfl (by show 2 * 0 + _ ≤ _; exact Nat.le_of_eq rfl) (hb hby d11_21) (fun _ _ => ⟨rfl, eh2, (by decide : 0 + 0 ≤ _), (by decide : 0 + 0 ≤ _)⟩)
      dsimp only [Pt.U, Pt.locs, Pt.cells, Pt.slots] at X9 l9 y9 z9 st9 hQ9
      subst l9 y9 z9
      obtain ⟨rfl, N9q, eh⟩ := hQ9
      have N9 := Fr.app N2 N9q
      have eh9 := eh
      refine OEnds.go (t' := T9.setTop (mkF m 24 #[.val (.int p1), .val (.int p2), .val (.int (3 : Int32))] [(.int (own_ch p1 (0 : Int32)))])) (fun _ k => st9 _ k) ?_
      refine OEnds.go (t' := T9.setTop (mkF m 26 #[.val (.int p1), .val (.int p2), .val (.int (3 : Int32))] [(.int (0 : Int32)), (.int p2), (.int (own_ch p1 (0 : Int32)))])) (fun _ k => ?_) ?_
      · show Steps p.tables e below (T9.setTop (mkF m 24 #[.val (.int p1), .val (.int p2), .val (.int (3 : Int32))] [(.int (own_ch p1 (0 : Int32)))])) _
        refine XS.iloadN X9.here hx rfl (hb hby d11_24) rfl ?_
        show Steps p.tables e below (T9.setTop (mkF m 25 #[.val (.int p1), .val (.int p2), .val (.int (3 : Int32))] [(.int p2), (.int (own_ch p1 (0 : Int32)))])) _
        refine XS.iconst X9.here hx rfl (hb hby d11_25) ?_
        show Steps p.tables e below (T9.setTop (mkF m 26 #[.val (.int p1), .val (.int p2), .val (.int (3 : Int32))] [(.int (0 : Int32)), (.int p2), (.int (own_ch p1 (0 : Int32)))])) _
        exact k
      obtain ⟨_, _, ⟨T10, L10, k10, n10⟩, -, X10, ⟨Lc10, hQ10, l10, y10, z10⟩, st10⟩ := Jvm.LawKit.callS X9 hx (y := (⟨"com/example/viitta/viitta/core/SafeXmlStartTagIsPinLaw", "ch", "(II)C"⟩ : MethodName)) hown (mvT hZ (hw _ (List.mem_of_getElem? (i := 94) rfl))) (mvT hZ (hw _ (List.mem_of_getElem? (i := 95) rfl))) (mvT hZ (hw _ (List.mem_of_getElem? (i := 2) rfl))) (mvT hZ (hw _ (List.mem_of_getElem? (i := 96) rfl))) (by decide) (backOf (W := 1) (rm15 l Z a0 hw [] p2 (0 : Int32) h0 n0 Z0 ) hZ (hw _ (List.mem_of_getElem? (i := 96) rfl)) (hw _ (List.mem_of_getElem? (i := 2) rfl)) (by decide) (by decide)) (g := (mkF m 26 #[.val (.int p1), .val (.int p2), .val (.int (3 : Int32))] [(.int (0 : Int32)), (.int p2), (.int (own_ch p1 (0 : Int32)))])) rfl (by rw [hml]; rfl) (argsL := [(.int p2), (.int (0 : Int32))]) (rest := [(.int (own_ch p1 (0 : Int32)))]) (lenOf pd_rm11_1 rfl) rfl (by show 2 * 0 + _ ≤ _; exact Nat.le_of_eq rfl) (hb hby d11_26) (fun _ _ => ⟨rfl, eh9, (by decide : 0 + 0 ≤ _), (by decide : 0 + 0 ≤ _)⟩)
      dsimp only [Pt.U, Pt.locs, Pt.cells, Pt.slots] at X10 l10 y10 z10 st10 hQ10
      subst l10 y10 z10
      obtain ⟨rfl, N10q, eh⟩ := hQ10
      have N10 := Fr.app N9 N10q
      have eh10 := eh
      refine OEnds.go (t' := T10.setTop (mkF m 29 #[.val (.int p1), .val (.int p2), .val (.int (3 : Int32))] [(.int (own_ch p2 (0 : Int32))), (.int (own_ch p1 (0 : Int32)))])) (fun _ k => st10 _ k) ?_
      by_cases q0 : (own_ch p1 (0 : Int32)) = (own_ch p2 (0 : Int32))
      · refine OEnds.go (t' := T10.setTop (mkF m 34 #[.val (.int p1), .val (.int p2), .val (.int (3 : Int32))] [])) (fun _ k => XS.icmpYes X10.here hx rfl (pc0 := 29) (pc' := 34) rfl (hb hby d11_29) rfl (teq q0).1 (by decide) (by decide) k) ?_
        refine OEnds.go (t' := T10.setTop (mkF m 36 #[.val (.int p1), .val (.int p2), .val (.int (3 : Int32))] [(.int (1 : Int32)), (.int (3 : Int32))])) (fun _ k => ?_) ?_
        · show Steps p.tables e below (T10.setTop (mkF m 34 #[.val (.int p1), .val (.int p2), .val (.int (3 : Int32))] [])) _
          refine XS.iloadN X10.here hx rfl (hb hby d11_34) rfl ?_
          show Steps p.tables e below (T10.setTop (mkF m 35 #[.val (.int p1), .val (.int p2), .val (.int (3 : Int32))] [(.int (3 : Int32))])) _
          refine XS.iconst X10.here hx rfl (hb hby d11_35) ?_
          show Steps p.tables e below (T10.setTop (mkF m 36 #[.val (.int p1), .val (.int p2), .val (.int (3 : Int32))] [(.int (1 : Int32)), (.int (3 : Int32))])) _
          exact k
        refine OEnds.go (t' := T10.setTop (mkF m 39 #[.val (.int p1), .val (.int p2), .val (.int (3 : Int32))] [])) (fun _ k => XS.icmpNo X10.here hx rfl (hb hby d11_36) rfl (tlt (by decide)).2.2.2 k) ?_
        refine OEnds.go (t' := T10.setTop (mkF m 41 #[.val (.int p1), .val (.int p2), .val (.int (3 : Int32))] [(.int (1 : Int32)), (.int p1)])) (fun _ k => ?_) ?_
        · show Steps p.tables e below (T10.setTop (mkF m 39 #[.val (.int p1), .val (.int p2), .val (.int (3 : Int32))] [])) _
          refine XS.iloadN X10.here hx rfl (hb hby d11_39) rfl ?_
          show Steps p.tables e below (T10.setTop (mkF m 40 #[.val (.int p1), .val (.int p2), .val (.int (3 : Int32))] [(.int p1)])) _
          refine XS.iconst X10.here hx rfl (hb hby d11_40) ?_
          show Steps p.tables e below (T10.setTop (mkF m 41 #[.val (.int p1), .val (.int p2), .val (.int (3 : Int32))] [(.int (1 : Int32)), (.int p1)])) _
          exact k
        obtain ⟨_, _, ⟨T11, L11, k11, n11⟩, -, X11, ⟨Lc11, hQ11, l11, y11, z11⟩, st11⟩ := Jvm.LawKit.callS X10 hx (y := (⟨"com/example/viitta/viitta/core/SafeXmlStartTagIsPinLaw", "ch", "(II)C"⟩ : MethodName)) hown (mvT hZ (hw _ (List.mem_of_getElem? (i := 94) rfl))) (mvT hZ (hw _ (List.mem_of_getElem? (i := 95) rfl))) (mvT hZ (hw _ (List.mem_of_getElem? (i := 2) rfl))) (mvT hZ (hw _ (List.mem_of_getElem? (i := 96) rfl))) (by decide) (backOf (W := 0) (rm15 l Z a0 hw [] p1 (1 : Int32) h0 n0 Z0 ) hZ (hw _ (List.mem_of_getElem? (i := 96) rfl)) (hw _ (List.mem_of_getElem? (i := 2) rfl)) (by decide) (by decide)) (g := (mkF m 41 #[.val (.int p1), .val (.int p2), .val (.int (3 : Int32))] [(.int (1 : Int32)), (.int p1)])) rfl (by rw [hml]; rfl) (argsL := [(.int p1), (.int (1 : Int32))]) (rest := []) (lenOf pd_rm11_1 rfl) rfl (by show 2 * 0 + _ ≤ _; exact Nat.le_of_eq rfl) (hb hby d11_41) (fun _ _ => ⟨rfl, eh10, (by decide : 0 + 0 ≤ _), (by decide : 0 + 0 ≤ _)⟩)
        dsimp only [Pt.U, Pt.locs, Pt.cells, Pt.slots] at X11 l11 y11 z11 st11 hQ11
        subst l11 y11 z11
        obtain ⟨rfl, N11q, eh⟩ := hQ11
        have N11 := Fr.app N10 N11q
        have eh11 := eh
        refine OEnds.go (t' := T11.setTop (mkF m 44 #[.val (.int p1), .val (.int p2), .val (.int (3 : Int32))] [(.int (own_ch p1 (1 : Int32)))])) (fun _ k => st11 _ k) ?_
        refine OEnds.go (t' := T11.setTop (mkF m 46 #[.val (.int p1), .val (.int p2), .val (.int (3 : Int32))] [(.int (1 : Int32)), (.int p2), (.int (own_ch p1 (1 : Int32)))])) (fun _ k => ?_) ?_
        · show Steps p.tables e below (T11.setTop (mkF m 44 #[.val (.int p1), .val (.int p2), .val (.int (3 : Int32))] [(.int (own_ch p1 (1 : Int32)))])) _
          refine XS.iloadN X11.here hx rfl (hb hby d11_44) rfl ?_
          show Steps p.tables e below (T11.setTop (mkF m 45 #[.val (.int p1), .val (.int p2), .val (.int (3 : Int32))] [(.int p2), (.int (own_ch p1 (1 : Int32)))])) _
          refine XS.iconst X11.here hx rfl (hb hby d11_45) ?_
          show Steps p.tables e below (T11.setTop (mkF m 46 #[.val (.int p1), .val (.int p2), .val (.int (3 : Int32))] [(.int (1 : Int32)), (.int p2), (.int (own_ch p1 (1 : Int32)))])) _
          exact k
        obtain ⟨_, _, ⟨T12, L12, k12, n12⟩, -, X12, ⟨Lc12, hQ12, l12, y12, z12⟩, st12⟩ := Jvm.LawKit.callS X11 hx (y := (⟨"com/example/viitta/viitta/core/SafeXmlStartTagIsPinLaw", "ch", "(II)C"⟩ : MethodName)) hown (mvT hZ (hw _ (List.mem_of_getElem? (i := 94) rfl))) (mvT hZ (hw _ (List.mem_of_getElem? (i := 95) rfl))) (mvT hZ (hw _ (List.mem_of_getElem? (i := 2) rfl))) (mvT hZ (hw _ (List.mem_of_getElem? (i := 96) rfl))) (by decide) (backOf (W := 1) (rm15 l Z a0 hw [] p2 (1 : Int32) h0 n0 Z0 ) hZ (hw _ (List.mem_of_getElem? (i := 96) rfl)) (hw _ (List.mem_of_getElem? (i := 2) rfl)) (by decide) (by decide)) (g := (mkF m 46 #[.val (.int p1), .val (.int p2), .val (.int (3 : Int32))] [(.int (1 : Int32)), (.int p2), (.int (own_ch p1 (1 : Int32)))])) rfl (by rw [hml]; rfl) (argsL := [(.int p2), (.int (1 : Int32))]) (rest := [(.int (own_ch p1 (1 : Int32)))]) (lenOf pd_rm11_1 rfl) rfl (by show 2 * 0 + _ ≤ _; exact Nat.le_of_eq rfl) (hb hby d11_46) (fun _ _ => ⟨rfl, eh11, (by decide : 0 + 0 ≤ _), (by decide : 0 + 0 ≤ _)⟩)
        dsimp only [Pt.U, Pt.locs, Pt.cells, Pt.slots] at X12 l12 y12 z12 st12 hQ12
        subst l12 y12 z12
        obtain ⟨rfl, N12q, eh⟩ := hQ12
        have N12 := Fr.app N11 N12q
        have eh12 := eh
        refine OEnds.go (t' := T12.setTop (mkF m 49 #[.val (.int p1), .val (.int p2), .val (.int (3 : Int32))] [(.int (own_ch p2 (1 : Int32))), (.int (own_ch p1 (1 : Int32)))])) (fun _ k => st12 _ k) ?_
        by_cases q1 : (own_ch p1 (1 : Int32)) = (own_ch p2 (1 : Int32))
        · refine OEnds.go (t' := T12.setTop (mkF m 54 #[.val (.int p1), .val (.int p2), .val (.int (3 : Int32))] [])) (fun _ k => XS.icmpYes X12.here hx rfl (pc0 := 49) (pc' := 54) rfl (hb hby d11_49) rfl (teq q1).1 (by decide) (by decide) k) ?_
          refine OEnds.go (t' := T12.setTop (mkF m 56 #[.val (.int p1), .val (.int p2), .val (.int (3 : Int32))] [(.int (2 : Int32)), (.int (3 : Int32))])) (fun _ k => ?_) ?_
          · show Steps p.tables e below (T12.setTop (mkF m 54 #[.val (.int p1), .val (.int p2), .val (.int (3 : Int32))] [])) _
            refine XS.iloadN X12.here hx rfl (hb hby d11_54) rfl ?_
            show Steps p.tables e below (T12.setTop (mkF m 55 #[.val (.int p1), .val (.int p2), .val (.int (3 : Int32))] [(.int (3 : Int32))])) _
            refine XS.iconst X12.here hx rfl (hb hby d11_55) ?_
            show Steps p.tables e below (T12.setTop (mkF m 56 #[.val (.int p1), .val (.int p2), .val (.int (3 : Int32))] [(.int (2 : Int32)), (.int (3 : Int32))])) _
            exact k
          refine OEnds.go (t' := T12.setTop (mkF m 59 #[.val (.int p1), .val (.int p2), .val (.int (3 : Int32))] [])) (fun _ k => XS.icmpNo X12.here hx rfl (hb hby d11_56) rfl (tlt (by decide)).2.2.2 k) ?_
          refine OEnds.go (t' := T12.setTop (mkF m 61 #[.val (.int p1), .val (.int p2), .val (.int (3 : Int32))] [(.int (2 : Int32)), (.int p1)])) (fun _ k => ?_) ?_
          · show Steps p.tables e below (T12.setTop (mkF m 59 #[.val (.int p1), .val (.int p2), .val (.int (3 : Int32))] [])) _
            refine XS.iloadN X12.here hx rfl (hb hby d11_59) rfl ?_
            show Steps p.tables e below (T12.setTop (mkF m 60 #[.val (.int p1), .val (.int p2), .val (.int (3 : Int32))] [(.int p1)])) _
            refine XS.iconst X12.here hx rfl (hb hby d11_60) ?_
            show Steps p.tables e below (T12.setTop (mkF m 61 #[.val (.int p1), .val (.int p2), .val (.int (3 : Int32))] [(.int (2 : Int32)), (.int p1)])) _
            exact k
          obtain ⟨_, _, ⟨T13, L13, k13, n13⟩, -, X13, ⟨Lc13, hQ13, l13, y13, z13⟩, st13⟩ := Jvm.LawKit.callS X12 hx (y := (⟨"com/example/viitta/viitta/core/SafeXmlStartTagIsPinLaw", "ch", "(II)C"⟩ : MethodName)) hown (mvT hZ (hw _ (List.mem_of_getElem? (i := 94) rfl))) (mvT hZ (hw _ (List.mem_of_getElem? (i := 95) rfl))) (mvT hZ (hw _ (List.mem_of_getElem? (i := 2) rfl))) (mvT hZ (hw _ (List.mem_of_getElem? (i := 96) rfl))) (by decide) (backOf (W := 0) (rm15 l Z a0 hw [] p1 (2 : Int32) h0 n0 Z0 ) hZ (hw _ (List.mem_of_getElem? (i := 96) rfl)) (hw _ (List.mem_of_getElem? (i := 2) rfl)) (by decide) (by decide)) (g := (mkF m 61 #[.val (.int p1), .val (.int p2), .val (.int (3 : Int32))] [(.int (2 : Int32)), (.int p1)])) rfl (by rw [hml]; rfl) (argsL := [(.int p1), (.int (2 : Int32))]) (rest := []) (lenOf pd_rm11_1 rfl) rfl (by show 2 * 0 + _ ≤ _; exact Nat.le_of_eq rfl) (hb hby d11_61) (fun _ _ => ⟨rfl, eh12, (by decide : 0 + 0 ≤ _), (by decide : 0 + 0 ≤ _)⟩)
          dsimp only [Pt.U, Pt.locs, Pt.cells, Pt.slots] at X13 l13 y13 z13 st13 hQ13
          subst l13 y13 z13
          obtain ⟨rfl, N13q, eh⟩ := hQ13
          have N13 := Fr.app N12 N13q
          have eh13 := eh
          refine OEnds.go (t' := T13.setTop (mkF m 64 #[.val (.int p1), .val (.int p2), .val (.int (3 : Int32))] [(.int (own_ch p1 (2 : Int32)))])) (fun _ k => st13 _ k) ?_
          refine OEnds.go (t' := T13.setTop (mkF m 66 #[.val (.int p1), .val (.int p2), .val (.int (3 : Int32))] [(.int (2 : Int32)), (.int p2), (.int (own_ch p1 (2 : Int32)))])) (fun _ k => ?_) ?_
          · show Steps p.tables e below (T13.setTop (mkF m 64 #[.val (.int p1), .val (.int p2), .val (.int (3 : Int32))] [(.int (own_ch p1 (2 : Int32)))])) _
            refine XS.iloadN X13.here hx rfl (hb hby d11_64) rfl ?_
            show Steps p.tables e below (T13.setTop (mkF m 65 #[.val (.int p1), .val (.int p2), .val (.int (3 : Int32))] [(.int p2), (.int (own_ch p1 (2 : Int32)))])) _
            refine XS.iconst X13.here hx rfl (hb hby d11_65) ?_
            show Steps p.tables e below (T13.setTop (mkF m 66 #[.val (.int p1), .val (.int p2), .val (.int (3 : Int32))] [(.int (2 : Int32)), (.int p2), (.int (own_ch p1 (2 : Int32)))])) _
            exact k
          obtain ⟨_, _, ⟨T14, L14, k14, n14⟩, -, X14, ⟨Lc14, hQ14, l14, y14, z14⟩, st14⟩ := Jvm.LawKit.callS X13 hx (y := (⟨"com/example/viitta/viitta/core/SafeXmlStartTagIsPinLaw", "ch", "(II)C"⟩ : MethodName)) hown (mvT hZ (hw _ (List.mem_of_getElem? (i := 94) rfl))) (mvT hZ (hw _ (List.mem_of_getElem? (i := 95) rfl))) (mvT hZ (hw _ (List.mem_of_getElem? (i := 2) rfl))) (mvT hZ (hw _ (List.mem_of_getElem? (i := 96) rfl))) (by decide) (backOf (W := 1) (rm15 l Z a0 hw [] p2 (2 : Int32) h0 n0 Z0 ) hZ (hw _ (List.mem_of_getElem? (i := 96) rfl)) (hw _ (List.mem_of_getElem? (i := 2) rfl)) (by decide) (by decide)) (g := (mkF m 66 #[.val (.int p1), .val (.int p2), .val (.int (3 : Int32))] [(.int (2 : Int32)), (.int p2), (.int (own_ch p1 (2 : Int32)))])) rfl (by rw [hml]; rfl) (argsL := [(.int p2), (.int (2 : Int32))]) (rest := [(.int (own_ch p1 (2 : Int32)))]) (lenOf pd_rm11_1 rfl) rfl (by show 2 * 0 + _ ≤ _; exact Nat.le_of_eq rfl) (hb hby d11_66) (fun _ _ => ⟨rfl, eh13, (by decide : 0 + 0 ≤ _), (by decide : 0 + 0 ≤ _)⟩)
          dsimp only [Pt.U, Pt.locs, Pt.cells, Pt.slots] at X14 l14 y14 z14 st14 hQ14
          subst l14 y14 z14
          obtain ⟨rfl, N14q, eh⟩ := hQ14
          have N14 := Fr.app N13 N14q
          have eh14 := eh
          refine OEnds.go (t' := T14.setTop (mkF m 69 #[.val (.int p1), .val (.int p2), .val (.int (3 : Int32))] [(.int (own_ch p2 (2 : Int32))), (.int (own_ch p1 (2 : Int32)))])) (fun _ k => st14 _ k) ?_
          by_cases q2 : (own_ch p1 (2 : Int32)) = (own_ch p2 (2 : Int32))
          · refine OEnds.go (t' := T14.setTop (mkF m 74 #[.val (.int p1), .val (.int p2), .val (.int (3 : Int32))] [])) (fun _ k => XS.icmpYes X14.here hx rfl (pc0 := 69) (pc' := 74) rfl (hb hby d11_69) rfl (teq q2).1 (by decide) (by decide) k) ?_
            refine OEnds.go (t' := T14.setTop (mkF m 75 #[.val (.int p1), .val (.int p2), .val (.int (3 : Int32))] [(.int (1 : Int32))])) (fun _ k => ?_) ?_
            · show Steps p.tables e below (T14.setTop (mkF m 74 #[.val (.int p1), .val (.int p2), .val (.int (3 : Int32))] [])) _
              refine XS.iconst X14.here hx rfl (hb hby d11_74) ?_
              show Steps p.tables e below (T14.setTop (mkF m 75 #[.val (.int p1), .val (.int p2), .val (.int (3 : Int32))] [(.int (1 : Int32))])) _
              exact k
            refine OEnds.back X14 hlk (v := (some (.int (1 : Int32)))) (fun h => by rw [hrt] at h; cases h) (fun fs hr => ?_) ?_ (by decide) (by decide)
            · exact retN X14 hx (t := .boolean) hrt (by simp) (hb hby d11_75) hr
            · show Q11 Z p1 p2  h0 n0 _ T14.heap _
              rw [eh14]
              exact ⟨by rw [own_same_yes (by rw [own_C3 hn, own_C3 hm, q0, q1, q2])], N14, rfl⟩
          · refine OEnds.go (t' := T14.setTop (mkF m 72 #[.val (.int p1), .val (.int p2), .val (.int (3 : Int32))] [])) (fun _ k => XS.icmpNo X14.here hx rfl (hb hby d11_69) rfl (feq q2).1 k) ?_
            refine OEnds.go (t' := T14.setTop (mkF m 73 #[.val (.int p1), .val (.int p2), .val (.int (3 : Int32))] [(.int (0 : Int32))])) (fun _ k => ?_) ?_
            · show Steps p.tables e below (T14.setTop (mkF m 72 #[.val (.int p1), .val (.int p2), .val (.int (3 : Int32))] [])) _
              refine XS.iconst X14.here hx rfl (hb hby d11_72) ?_
              show Steps p.tables e below (T14.setTop (mkF m 73 #[.val (.int p1), .val (.int p2), .val (.int (3 : Int32))] [(.int (0 : Int32))])) _
              exact k
            refine OEnds.back X14 hlk (v := (some (.int (0 : Int32)))) (fun h => by rw [hrt] at h; cases h) (fun fs hr => ?_) ?_ (by decide) (by decide)
            · exact retN X14 hx (t := .boolean) hrt (by simp) (hb hby d11_73) hr
            · show Q11 Z p1 p2  h0 n0 _ T14.heap _
              rw [eh14]
              exact ⟨by rw [own_same_no]; rw [own_C3 hn, own_C3 hm]; exact fun q => q2 (congrArg (fun l => l.getD 2 0) q), N14, rfl⟩
        · refine OEnds.go (t' := T12.setTop (mkF m 52 #[.val (.int p1), .val (.int p2), .val (.int (3 : Int32))] [])) (fun _ k => XS.icmpNo X12.here hx rfl (hb hby d11_49) rfl (feq q1).1 k) ?_
          refine OEnds.go (t' := T12.setTop (mkF m 53 #[.val (.int p1), .val (.int p2), .val (.int (3 : Int32))] [(.int (0 : Int32))])) (fun _ k => ?_) ?_
          · show Steps p.tables e below (T12.setTop (mkF m 52 #[.val (.int p1), .val (.int p2), .val (.int (3 : Int32))] [])) _
            refine XS.iconst X12.here hx rfl (hb hby d11_52) ?_
            show Steps p.tables e below (T12.setTop (mkF m 53 #[.val (.int p1), .val (.int p2), .val (.int (3 : Int32))] [(.int (0 : Int32))])) _
            exact k
          refine OEnds.back X12 hlk (v := (some (.int (0 : Int32)))) (fun h => by rw [hrt] at h; cases h) (fun fs hr => ?_) ?_ (by decide) (by decide)
          · exact retN X12 hx (t := .boolean) hrt (by simp) (hb hby d11_53) hr
          · show Q11 Z p1 p2  h0 n0 _ T12.heap _
            rw [eh12]
            exact ⟨by rw [own_same_no]; rw [own_C3 hn, own_C3 hm]; exact fun q => q1 (congrArg (fun l => l.getD 1 0) q), N12, rfl⟩
      · refine OEnds.go (t' := T10.setTop (mkF m 32 #[.val (.int p1), .val (.int p2), .val (.int (3 : Int32))] [])) (fun _ k => XS.icmpNo X10.here hx rfl (hb hby d11_29) rfl (feq q0).1 k) ?_
        refine OEnds.go (t' := T10.setTop (mkF m 33 #[.val (.int p1), .val (.int p2), .val (.int (3 : Int32))] [(.int (0 : Int32))])) (fun _ k => ?_) ?_
        · show Steps p.tables e below (T10.setTop (mkF m 32 #[.val (.int p1), .val (.int p2), .val (.int (3 : Int32))] [])) _
          refine XS.iconst X10.here hx rfl (hb hby d11_32) ?_
          show Steps p.tables e below (T10.setTop (mkF m 33 #[.val (.int p1), .val (.int p2), .val (.int (3 : Int32))] [(.int (0 : Int32))])) _
          exact k
        refine OEnds.back X10 hlk (v := (some (.int (0 : Int32)))) (fun h => by rw [hrt] at h; cases h) (fun fs hr => ?_) ?_ (by decide) (by decide)
        · exact retN X10 hx (t := .boolean) hrt (by simp) (hb hby d11_33) hr
        · show Q11 Z p1 p2  h0 n0 _ T10.heap _
          rw [eh10]
          exact ⟨by rw [own_same_no]; rw [own_C3 hn, own_C3 hm]; exact fun q => q0 (congrArg (fun l => l.getD 0 0) q), N10, rfl⟩
  · refine OEnds.go (t' := T2.setTop (mkF m 13 #[.val (.int p1), .val (.int p2), .val (.int (own_len3 p1))] [])) (fun _ k => XS.icmpNo X2.here hx rfl (hb hby d11_10) rfl (feq h10).1 k) ?_
    refine OEnds.go (t' := T2.setTop (mkF m 14 #[.val (.int p1), .val (.int p2), .val (.int (own_len3 p1))] [(.int (0 : Int32))])) (fun _ k => ?_) ?_
    · show Steps p.tables e below (T2.setTop (mkF m 13 #[.val (.int p1), .val (.int p2), .val (.int (own_len3 p1))] [])) _
      refine XS.iconst X2.here hx rfl (hb hby d11_13) ?_
      show Steps p.tables e below (T2.setTop (mkF m 14 #[.val (.int p1), .val (.int p2), .val (.int (own_len3 p1))] [(.int (0 : Int32))])) _
      exact k
    refine OEnds.back X2 hlk (v := (some (.int (0 : Int32)))) (fun h => by rw [hrt] at h; cases h) (fun fs hr => ?_) ?_ (by decide) (by decide)
    · exact retN X2 hx (t := .boolean) hrt (by simp) (hb hby d11_14) hr
    · show Q11 Z p1 p2  h0 n0 _ T2.heap _
      rw [eh2]
      exact ⟨by rw [own_same_len h10], N2, rfl⟩
theorem d8_0 : decode jdk_22_method_1_code 0 = .ok (.aload_n 0, 1) := by decide +kernel
theorem d8_1 : decode jdk_22_method_1_code 1 = .ok (.invokespecial 1, 3) := by decide +kernel
theorem d8_4 : decode jdk_22_method_1_code 4 = .ok (.return_, 1) := by decide +kernel
theorem pn_8 : plainName "java/util/AbstractCollection" = true := by first | (simp [plainName, overriddenIn]; done) | decide +kernel
theorem ef_rm8 (m : MethodId) (a1 : Addr) : entryFrame m #[(.ref a1)] 1 = mkF m 0 #[.val (.ref a1)] [] := by first | (simp [entryFrame, mkF, argsToLocals, Value.category]; done) | rfl
def Q8 (Z : State) (a1 : Addr)  (h0 : Heap) (n0 : Nat) (v : Option Value) (h : Heap) (L : List Loc) : Prop := v = none ∧ Fr n0 L ∧ h = h0
set_option maxRecDepth 65536 in
set_option maxHeartbeats 40000000 in
theorem rm8 (l : Launch) (Z : State) (a0 : Array Value) (hw : ∀ d ∈ tables_1, d.before a0 Z = true) (ws : List Jvm.Cond) (a1 : Addr)  (h0 : Heap) (n0 : Nat) (Z0 : n0 ≤ h0.size)  :
    MetFree l (⟨"java/util/AbstractCollection", "<init>", "()V"⟩ : MethodName) (head1 (Jvm.Cond.code (⟨"java/util/AbstractCollection", "<init>", "()V"⟩ : MethodName) jdk_22_method_1_code 1 none :: ws) ({ frames := 1, cells := 0, slots := 0, locals := 12 } : Room)) (fun a U => a = #[(.ref a1)] ∧ Z.Warmed39 U.vm ∧ U.heap = h0) (fun _ _ _ _ _ => True) (fun _ U o U' => ∃ v L, o = .returned v ∧ Q8 Z a1  h0 n0 v U'.heap L ∧ FrameEnd U o U' L ({ frames := 1, cells := 0, slots := 0, locals := 12 } : Room).cells ({ frames := 1, cells := 0, slots := 0, locals := 12 } : Room).slots) := by
  refine MetFree.of_bodySF (plainFor_of_name pn_8) hisR ?_
  intro p e s m args below meth c s₁ Bd hml0 hP hK
  obtain ⟨rfl, hZ, hh⟩ := hP
  have hx := Bd.exec
  have hby := Bd.bytes
  have hml : c.maxLocals = 1 := hml0
  have hown : s.vm.findClass "java/util/AbstractCollection" = some m.cls := findClass_of_methodNamed Bd.named
  have hnm := (name_of_methodNamed Bd.named Bd.method).1
  have hlk := BodyLoose.notSynchronized Bd
  have hrt := Bd.returns
  have X0 : Stand p l e ({ frames := 1, cells := 0, slots := 0, locals := 12 } : Room) s m #[(.ref a1)] below meth c s₁ [] 0 0 := Stand.of_body Bd
  have e0 : s₁.heap = h0 := by rw [← hh, Bd.state]; rfl
  have N0 := Fr.nil n0
  show OEnds p e below s (Q8 Z a1  h0 n0) ({ frames := 1, cells := 0, slots := 0, locals := 12 } : Room).cells ({ frames := 1, cells := 0, slots := 0, locals := 12 } : Room).slots (s₁.setTop (entryFrame m #[(.ref a1)] 1))
  refine OEnds.go (t' := s₁.setTop (mkF m 0 #[.val (.ref a1)] [])) (fun t k => castTop (ef_rm8 m a1) k) ?_
  refine OEnds.go (t' := s₁.setTop (mkF m 1 #[.val (.ref a1)] [(.ref a1)])) (fun _ k => ?_) ?_
  · show Steps p.tables e below (s₁.setTop (mkF m 0 #[.val (.ref a1)] [])) _
    refine XS.aloadN X0.here hx rfl (hb hby d8_0) rfl rfl ?_
    show Steps p.tables e below (s₁.setTop (mkF m 1 #[.val (.ref a1)] [(.ref a1)])) _
    exact k
  obtain ⟨T1, X1, e1, st1⟩ := initO X0 hx hZ hown (hw _ (List.mem_of_getElem? (i := 50) rfl)) (hw _ (List.mem_of_getElem? (i := 19) rfl)) (hw _ (List.mem_of_getElem? (i := 20) rfl)) e0 (g := (mkF m 1 #[.val (.ref a1)] [(.ref a1)])) rfl (by rw [hml]; rfl) rfl (hb hby d8_1) (by decide) (W := 0) (by show 2 * 0 + _ ≤ _; exact Nat.le_of_eq rfl) (by decide)
  refine OEnds.go (t' := T1.setTop (mkF m 4 #[.val (.ref a1)] [])) (fun _ k => st1 _ k) ?_
  refine OEnds.back X1 hlk (v := none) (fun _ => rfl) (fun fs hr => ?_) ?_ (by decide) (by decide)
  · exact X1.returnOut hx hrt (hb hby d8_4) hr
  · show Q8 Z a1  h0 n0 _ T1.heap _
    rw [e1]
    exact ⟨rfl, N0, rfl⟩
theorem d7_0 : decode jdk_39_method_1_code 0 = .ok (.aload_n 0, 1) := by decide +kernel
theorem d7_1 : decode jdk_39_method_1_code 1 = .ok (.invokespecial 1, 3) := by decide +kernel
theorem d7_4 : decode jdk_39_method_1_code 4 = .ok (.aload_n 0, 1) := by decide +kernel
theorem d7_5 : decode jdk_39_method_1_code 5 = .ok (.iconst 0, 1) := by decide +kernel
theorem d7_6 : decode jdk_39_method_1_code 6 = .ok (.putfield 7, 3) := by decide +kernel
theorem d7_9 : decode jdk_39_method_1_code 9 = .ok (.return_, 1) := by decide +kernel
theorem pn_7 : plainName "java/util/AbstractList" = true := by first | (simp [plainName, overriddenIn]; done) | decide +kernel
theorem pd_rm7_0 : parseMethodDescriptor "()V" = some ⟨[], none⟩ := by decide +kernel
theorem ef_rm7 (m : MethodId) (a1 : Addr) : entryFrame m #[(.ref a1)] 1 = mkF m 0 #[.val (.ref a1)] [] := by first | (simp [entryFrame, mkF, argsToLocals, Value.category]; done) | rfl
def Q7 (Z : State) (a1 : Addr)  (h0 : Heap) (n0 : Nat) (v : Option Value) (h : Heap) (L : List Loc) : Prop := v = none ∧ Fr n0 L ∧ Keep h0 h [a1] ∧ (∀ u, Fld Z h0 a1 "java/util/ArrayList" "elementData" "[Ljava/lang/Object;" u → Fld Z h a1 "java/util/ArrayList" "elementData" "[Ljava/lang/Object;" u)
set_option maxRecDepth 65536 in
set_option maxHeartbeats 40000000 in
theorem rm7 (l : Launch) (Z : State) (a0 : Array Value) (hw : ∀ d ∈ tables_1, d.before a0 Z = true) (ws : List Jvm.Cond) (a1 : Addr)  (h0 : Heap) (n0 : Nat) (Z0 : n0 ≤ h0.size) (F_modCount_a1 : Fld Z h0 a1 "java/util/AbstractList" "modCount" "I" (.int (0 : Int32))) (E_a1 : Exa Z h0 a1 "java/util/ArrayList") (g_a1 : n0 ≤ a1) :
    MetFree l (⟨"java/util/AbstractList", "<init>", "()V"⟩ : MethodName) (head1 (Jvm.Cond.code (⟨"java/util/AbstractList", "<init>", "()V"⟩ : MethodName) jdk_39_method_1_code 1 none :: ws) ({ frames := 2, cells := 0, slots := 0, locals := 24 } : Room)) (fun a U => a = #[(.ref a1)] ∧ Z.Warmed39 U.vm ∧ U.heap = h0) (fun _ _ _ _ _ => True) (fun _ U o U' => ∃ v L, o = .returned v ∧ Q7 Z a1  h0 n0 v U'.heap L ∧ FrameEnd U o U' L ({ frames := 2, cells := 0, slots := 0, locals := 24 } : Room).cells ({ frames := 2, cells := 0, slots := 0, locals := 24 } : Room).slots) := by
  refine MetFree.of_bodySF (plainFor_of_name pn_7) hisR ?_
  intro p e s m args below meth c s₁ Bd hml0 hP hK
  obtain ⟨rfl, hZ, hh⟩ := hP
  have hx := Bd.exec
  have hby := Bd.bytes
  have hml : c.maxLocals = 1 := hml0
  have hown : s.vm.findClass "java/util/AbstractList" = some m.cls := findClass_of_methodNamed Bd.named
  have hnm := (name_of_methodNamed Bd.named Bd.method).1
  have hlk := BodyLoose.notSynchronized Bd
  have hrt := Bd.returns
  have X0 : Stand p l e ({ frames := 2, cells := 0, slots := 0, locals := 24 } : Room) s m #[(.ref a1)] below meth c s₁ [] 0 0 := Stand.of_body Bd
  have e0 : s₁.heap = h0 := by rw [← hh, Bd.state]; rfl
  have N0 := Fr.nil n0
  show OEnds p e below s (Q7 Z a1  h0 n0) ({ frames := 2, cells := 0, slots := 0, locals := 24 } : Room).cells ({ frames := 2, cells := 0, slots := 0, locals := 24 } : Room).slots (s₁.setTop (entryFrame m #[(.ref a1)] 1))
  refine OEnds.go (t' := s₁.setTop (mkF m 0 #[.val (.ref a1)] [])) (fun t k => castTop (ef_rm7 m a1) k) ?_
  refine OEnds.go (t' := s₁.setTop (mkF m 1 #[.val (.ref a1)] [(.ref a1)])) (fun _ k => ?_) ?_
  · show Steps p.tables e below (s₁.setTop (mkF m 0 #[.val (.ref a1)] [])) _
    refine XS.aloadN X0.here hx rfl (hb hby d7_0) rfl rfl ?_
    show Steps p.tables e below (s₁.setTop (mkF m 1 #[.val (.ref a1)] [(.ref a1)])) _
    exact k
  obtain ⟨_, _, ⟨T1, L1, k1, n1⟩, -, X1, ⟨Lc1, hQ1, l1, y1, z1⟩, st1⟩ := X0.specialBack hx (y := (⟨"java/util/AbstractCollection", "<init>", "()V"⟩ : MethodName)) rfl hown (mvT hZ (hw _ (List.mem_of_getElem? (i := 44) rfl))) (mvT hZ (hw _ (List.mem_of_getElem? (i := 45) rfl))) (mvT hZ (hw _ (List.mem_of_getElem? (i := 49) rfl))) (by decide) (backOf (W := 0) (rm8 l Z a0 hw [] a1 h0 n0 Z0 ) hZ (hw _ (List.mem_of_getElem? (i := 49) rfl)) (hw _ (List.mem_of_getElem? (i := 48) rfl)) (by decide) (by decide)) (g := (mkF m 1 #[.val (.ref a1)] [(.ref a1)])) rfl (by rw [hml]; rfl) (Steps.refl _) (a := a1) (argsL := []) (rest := []) (lenOf pd_rm7_0 rfl) rfl (by show 2 * 0 + _ ≤ _; exact Nat.le_of_eq rfl) (hb hby d7_1) (fun _ _ => ⟨rfl, e0, (by decide : 0 + 0 ≤ _), (by decide : 0 + 0 ≤ _)⟩)
  dsimp only [Pt.U, Pt.locs, Pt.cells, Pt.slots] at X1 l1 y1 z1 st1 hQ1
  subst l1 y1 z1
  obtain ⟨rfl, N1q, eh⟩ := hQ1
  have N1 := Fr.app N0 N1q
  have eh1 := eh
  refine OEnds.go (t' := T1.setTop (mkF m 4 #[.val (.ref a1)] [])) (fun _ k => st1.trans k) ?_
  refine OEnds.go (t' := T1.setTop (mkF m 6 #[.val (.ref a1)] [(.int (0 : Int32)), (.ref a1)])) (fun _ k => ?_) ?_
  · show Steps p.tables e below (T1.setTop (mkF m 4 #[.val (.ref a1)] [])) _
    refine XS.aloadN X1.here hx rfl (hb hby d7_4) rfl rfl ?_
    show Steps p.tables e below (T1.setTop (mkF m 5 #[.val (.ref a1)] [(.ref a1)])) _
    refine XS.iconst X1.here hx rfl (hb hby d7_5) ?_
    show Steps p.tables e below (T1.setTop (mkF m 6 #[.val (.ref a1)] [(.int (0 : Int32)), (.ref a1)])) _
    exact k
  obtain ⟨T2, h2, X2, e2, W2, st2⟩ := putF X1 hx hZ hown (host := "") (Or.inl (hw _ (List.mem_of_getElem? (i := 51) rfl))) Via.refl eh1 F_modCount_a1 E_a1 (Or.inl (hw _ (List.mem_of_getElem? (i := 52) rfl))) (hw _ (List.mem_of_getElem? (i := 33) rfl)) (ty := .int) (by decide) rfl rfl (g := (mkF m 6 #[.val (.ref a1)] [(.int (0 : Int32)), (.ref a1)])) rfl rfl (hb hby d7_6)
  have N2 := Fr.snoc X2 N1 g_a1
  have E_a1 := E_a1.wr W2
  have F_modCount_a1 := F_modCount_a1.same W2
  have Z2 : n0 ≤ h2.size := Nat.le_trans Z0 (Keep.of_wr W2).1
  have K2 := (Keep.refl h0 [a1]).wr W2 (Or.inl (List.mem_of_getElem? (i := 0) rfl))
  refine OEnds.go (t' := T2.setTop (mkF m 9 #[.val (.ref a1)] [])) (fun _ k => st2 _ k) ?_
  refine OEnds.back X2 hlk (v := none) (fun _ => rfl) (fun fs hr => ?_) ?_ (by decide) (by decide)
  · exact X2.returnOut hx hrt (hb hby d7_9) hr
  · show Q7 Z a1  h0 n0 _ T2.heap _
    rw [e2]
    exact ⟨rfl, N2, K2, fun u F => F.other W2 (Or.inr (slot_ne (Or.inl (hw _ (List.mem_of_getElem? (i := 55) rfl))) (Or.inl (hw _ (List.mem_of_getElem? (i := 52) rfl))) (by decide) (t := (.array (.object "java/lang/Object"))) (t' := .int) (by decide) (by decide)))⟩
theorem d6_0 : decode jdk_38_method_2_code 0 = .ok (.aload_n 0, 1) := by decide +kernel
theorem d6_1 : decode jdk_38_method_2_code 1 = .ok (.invokespecial 1, 3) := by decide +kernel
theorem d6_4 : decode jdk_38_method_2_code 4 = .ok (.aload_n 0, 1) := by decide +kernel
theorem d6_5 : decode jdk_38_method_2_code 5 = .ok (.getstatic 39, 3) := by decide +kernel
theorem d6_8 : decode jdk_38_method_2_code 8 = .ok (.putfield 9, 3) := by decide +kernel
theorem d6_11 : decode jdk_38_method_2_code 11 = .ok (.return_, 1) := by decide +kernel
theorem pn_6 : plainName "java/util/ArrayList" = true := by first | (simp [plainName, overriddenIn]; done) | decide +kernel
theorem pd_rm6_0 : parseMethodDescriptor "()V" = some ⟨[], none⟩ := by decide +kernel
theorem ef_rm6 (m : MethodId) (a1 : Addr) : entryFrame m #[(.ref a1)] 1 = mkF m 0 #[.val (.ref a1)] [] := by first | (simp [entryFrame, mkF, argsToLocals, Value.category]; done) | rfl
def Q6 (Z : State) (a1 : Addr) (d1 : Addr) (h0 : Heap) (n0 : Nat) (v : Option Value) (h : Heap) (L : List Loc) : Prop := v = none ∧ Fr n0 L ∧ Keep h0 h [a1]
set_option maxRecDepth 65536 in
set_option maxHeartbeats 40000000 in
theorem rm6 (l : Launch) (Z : State) (a0 : Array Value) (hw : ∀ d ∈ tables_1, d.before a0 Z = true) (ws : List Jvm.Cond) (a1 : Addr) (d1 : Addr) (h0 : Heap) (n0 : Nat) (Z0 : n0 ≤ h0.size) (F_modCount_a1 : Fld Z h0 a1 "java/util/AbstractList" "modCount" "I" (.int (0 : Int32))) (E_a1 : Exa Z h0 a1 "java/util/ArrayList") (g_a1 : n0 ≤ a1) (F_elementData_a1 : Fld Z h0 a1 "java/util/ArrayList" "elementData" "[Ljava/lang/Object;" .null) (S_D : Sta Z Z.heap "java/util/ArrayList" "DEFAULTCAPACITY_EMPTY_ELEMENTDATA" "[Ljava/lang/Object;" (.ref d1)) (hzo : Old Z n0 h0) :
    MetFree l (⟨"java/util/ArrayList", "<init>", "()V"⟩ : MethodName) (head1 (Jvm.Cond.code (⟨"java/util/ArrayList", "<init>", "()V"⟩ : MethodName) jdk_38_method_2_code 1 none :: ws) ({ frames := 3, cells := 0, slots := 0, locals := 36 } : Room)) (fun a U => a = #[(.ref a1)] ∧ Z.Warmed39 U.vm ∧ U.heap = h0) (fun _ _ _ _ _ => True) (fun _ U o U' => ∃ v L, o = .returned v ∧ Q6 Z a1 d1 h0 n0 v U'.heap L ∧ FrameEnd U o U' L ({ frames := 3, cells := 0, slots := 0, locals := 36 } : Room).cells ({ frames := 3, cells := 0, slots := 0, locals := 36 } : Room).slots) := by
  refine MetFree.of_bodySF (plainFor_of_name pn_6) hisR ?_
  intro p e s m args below meth c s₁ Bd hml0 hP hK
  obtain ⟨rfl, hZ, hh⟩ := hP
  have hx := Bd.exec
  have hby := Bd.bytes
  have hml : c.maxLocals = 1 := hml0
  have hown : s.vm.findClass "java/util/ArrayList" = some m.cls := findClass_of_methodNamed Bd.named
  have hnm := (name_of_methodNamed Bd.named Bd.method).1
  have hlk := BodyLoose.notSynchronized Bd
  have hrt := Bd.returns
  have X0 : Stand p l e ({ frames := 3, cells := 0, slots := 0, locals := 36 } : Room) s m #[(.ref a1)] below meth c s₁ [] 0 0 := Stand.of_body Bd
  have e0 : s₁.heap = h0 := by rw [← hh, Bd.state]; rfl
  have N0 := Fr.nil n0
  show OEnds p e below s (Q6 Z a1 d1 h0 n0) ({ frames := 3, cells := 0, slots := 0, locals := 36 } : Room).cells ({ frames := 3, cells := 0, slots := 0, locals := 36 } : Room).slots (s₁.setTop (entryFrame m #[(.ref a1)] 1))
  refine OEnds.go (t' := s₁.setTop (mkF m 0 #[.val (.ref a1)] [])) (fun t k => castTop (ef_rm6 m a1) k) ?_
  have hzt := hzo
  refine OEnds.go (t' := s₁.setTop (mkF m 1 #[.val (.ref a1)] [(.ref a1)])) (fun _ k => ?_) ?_
  · show Steps p.tables e below (s₁.setTop (mkF m 0 #[.val (.ref a1)] [])) _
    refine XS.aloadN X0.here hx rfl (hb hby d6_0) rfl rfl ?_
    show Steps p.tables e below (s₁.setTop (mkF m 1 #[.val (.ref a1)] [(.ref a1)])) _
    exact k
  obtain ⟨_, _, ⟨T1, L1, k1, n1⟩, -, X1, ⟨Lc1, hQ1, l1, y1, z1⟩, st1⟩ := X0.specialBack hx (y := (⟨"java/util/AbstractList", "<init>", "()V"⟩ : MethodName)) rfl hown (mvT hZ (hw _ (List.mem_of_getElem? (i := 38) rfl))) (mvT hZ (hw _ (List.mem_of_getElem? (i := 39) rfl))) (mvT hZ (hw _ (List.mem_of_getElem? (i := 43) rfl))) (by decide) (backOf (W := 0) (rm7 l Z a0 hw [] a1 h0 n0 Z0 F_modCount_a1 E_a1 g_a1) hZ (hw _ (List.mem_of_getElem? (i := 43) rfl)) (hw _ (List.mem_of_getElem? (i := 42) rfl)) (by decide) (by decide)) (g := (mkF m 1 #[.val (.ref a1)] [(.ref a1)])) rfl (by rw [hml]; rfl) (Steps.refl _) (a := a1) (argsL := []) (rest := []) (lenOf pd_rm6_0 rfl) rfl (by show 2 * 0 + _ ≤ _; exact Nat.le_of_eq rfl) (hb hby d6_1) (fun _ _ => ⟨rfl, e0, (by decide : 0 + 0 ≤ _), (by decide : 0 + 0 ≤ _)⟩)
  dsimp only [Pt.U, Pt.locs, Pt.cells, Pt.slots] at X1 l1 y1 z1 st1 hQ1
  subst l1 y1 z1
  obtain ⟨rfl, N1q, Kc1, he1⟩ := hQ1
  have N1 := Fr.app N0 N1q
  have hzt := hzt.keep Kc1 (allS g_a1 all0)
  have E_a1 := E_a1.keep Kc1
  have Z1 : n0 ≤ T1.heap.size := Nat.le_trans Z0 Kc1.1
  have K1 := (Keep.refl h0 [a1]).trans Kc1 (allS (Or.inl (List.mem_of_getElem? (i := 0) rfl)) all0)
  refine OEnds.go (t' := T1.setTop (mkF m 4 #[.val (.ref a1)] [])) (fun _ k => st1.trans k) ?_
  have F_elementData_a1 := he1 _ F_elementData_a1
  refine OEnds.go (t' := T1.setTop (mkF m 5 #[.val (.ref a1)] [(.ref a1)])) (fun _ k => ?_) ?_
  · show Steps p.tables e below (T1.setTop (mkF m 4 #[.val (.ref a1)] [])) _
    refine XS.aloadN X1.here hx rfl (hb hby d6_4) rfl rfl ?_
    show Steps p.tables e below (T1.setTop (mkF m 5 #[.val (.ref a1)] [(.ref a1)])) _
    exact k
  obtain ⟨T2, X2, e2, st2⟩ := getS2 X1 hx hZ hown (host := "") (Or.inl (hw _ (List.mem_of_getElem? (i := 53) rfl))) Via.refl rfl (S_D.ext hzt.2) (g := (mkF m 5 #[.val (.ref a1)] [(.ref a1)])) rfl (hb hby d6_5)
  refine OEnds.go (t' := T2.setTop (mkF m 8 #[.val (.ref a1)] [(.ref d1), (.ref a1)])) (fun _ k => st2 _ k) ?_
  obtain ⟨T3, h3, X3, e3, W3, st3⟩ := putF X2 hx hZ hown (host := "") (Or.inl (hw _ (List.mem_of_getElem? (i := 54) rfl))) Via.refl e2 F_elementData_a1 E_a1 (Or.inl (hw _ (List.mem_of_getElem? (i := 55) rfl))) (hw _ (List.mem_of_getElem? (i := 33) rfl)) (ty := (.array (.object "java/lang/Object"))) (by decide) rfl rfl (g := (mkF m 8 #[.val (.ref a1)] [(.ref d1), (.ref a1)])) rfl rfl (hb hby d6_8)
  have N3 := Fr.snoc X3 N1 g_a1
  have hzt := hzt.wr W3 g_a1
  have E_a1 := E_a1.wr W3
  have F_elementData_a1 := F_elementData_a1.same W3
  have Z3 : n0 ≤ h3.size := Nat.le_trans Z1 (Keep.of_wr W3).1
  have K3 := K1.wr W3 (Or.inl (List.mem_of_getElem? (i := 0) rfl))
  refine OEnds.go (t' := T3.setTop (mkF m 11 #[.val (.ref a1)] [])) (fun _ k => st3 _ k) ?_
  refine OEnds.back X3 hlk (v := none) (fun _ => rfl) (fun fs hr => ?_) ?_ (by decide) (by decide)
  · exact X3.returnOut hx hrt (hb hby d6_11) hr
  · show Q6 Z a1 d1 h0 n0 _ T3.heap _
    rw [e3]
    exact ⟨rfl, N3, K3⟩
theorem d10_0 : decode jdk_30_method_1_code 0 = .ok (.aload_n 0, 1) := by decide +kernel
theorem d10_1 : decode jdk_30_method_1_code 1 = .ok (.invokespecial 1, 3) := by decide +kernel
theorem d10_4 : decode jdk_30_method_1_code 4 = .ok (.return_, 1) := by decide +kernel
theorem pn_10 : plainName "java/lang/Record" = true := by first | (simp [plainName, overriddenIn]; done) | decide +kernel
theorem ef_rm10 (m : MethodId) (a1 : Addr) : entryFrame m #[(.ref a1)] 1 = mkF m 0 #[.val (.ref a1)] [] := by first | (simp [entryFrame, mkF, argsToLocals, Value.category]; done) | rfl
def Q10 (Z : State) (a1 : Addr)  (h0 : Heap) (n0 : Nat) (v : Option Value) (h : Heap) (L : List Loc) : Prop := v = none ∧ Fr n0 L ∧ h = h0
set_option maxRecDepth 65536 in
set_option maxHeartbeats 40000000 in
theorem rm10 (l : Launch) (Z : State) (a0 : Array Value) (hw : ∀ d ∈ tables_1, d.before a0 Z = true) (ws : List Jvm.Cond) (a1 : Addr)  (h0 : Heap) (n0 : Nat) (Z0 : n0 ≤ h0.size)  :
    MetFree l (⟨"java/lang/Record", "<init>", "()V"⟩ : MethodName) (head1 (Jvm.Cond.code (⟨"java/lang/Record", "<init>", "()V"⟩ : MethodName) jdk_30_method_1_code 1 none :: ws) ({ frames := 1, cells := 0, slots := 0, locals := 12 } : Room)) (fun a U => a = #[(.ref a1)] ∧ Z.Warmed39 U.vm ∧ U.heap = h0) (fun _ _ _ _ _ => True) (fun _ U o U' => ∃ v L, o = .returned v ∧ Q10 Z a1  h0 n0 v U'.heap L ∧ FrameEnd U o U' L ({ frames := 1, cells := 0, slots := 0, locals := 12 } : Room).cells ({ frames := 1, cells := 0, slots := 0, locals := 12 } : Room).slots) := by
  refine MetFree.of_bodySF (plainFor_of_name pn_10) hisR ?_
  intro p e s m args below meth c s₁ Bd hml0 hP hK
  obtain ⟨rfl, hZ, hh⟩ := hP
  have hx := Bd.exec
  have hby := Bd.bytes
  have hml : c.maxLocals = 1 := hml0
  have hown : s.vm.findClass "java/lang/Record" = some m.cls := findClass_of_methodNamed Bd.named
  have hnm := (name_of_methodNamed Bd.named Bd.method).1
  have hlk := BodyLoose.notSynchronized Bd
  have hrt := Bd.returns
  have X0 : Stand p l e ({ frames := 1, cells := 0, slots := 0, locals := 12 } : Room) s m #[(.ref a1)] below meth c s₁ [] 0 0 := Stand.of_body Bd
  have e0 : s₁.heap = h0 := by rw [← hh, Bd.state]; rfl
  have N0 := Fr.nil n0
  show OEnds p e below s (Q10 Z a1  h0 n0) ({ frames := 1, cells := 0, slots := 0, locals := 12 } : Room).cells ({ frames := 1, cells := 0, slots := 0, locals := 12 } : Room).slots (s₁.setTop (entryFrame m #[(.ref a1)] 1))
  refine OEnds.go (t' := s₁.setTop (mkF m 0 #[.val (.ref a1)] [])) (fun t k => castTop (ef_rm10 m a1) k) ?_
  refine OEnds.go (t' := s₁.setTop (mkF m 1 #[.val (.ref a1)] [(.ref a1)])) (fun _ k => ?_) ?_
  · show Steps p.tables e below (s₁.setTop (mkF m 0 #[.val (.ref a1)] [])) _
    refine XS.aloadN X0.here hx rfl (hb hby d10_0) rfl rfl ?_
    show Steps p.tables e below (s₁.setTop (mkF m 1 #[.val (.ref a1)] [(.ref a1)])) _
    exact k
  obtain ⟨T1, X1, e1, st1⟩ := initO X0 hx hZ hown (hw _ (List.mem_of_getElem? (i := 64) rfl)) (hw _ (List.mem_of_getElem? (i := 19) rfl)) (hw _ (List.mem_of_getElem? (i := 20) rfl)) e0 (g := (mkF m 1 #[.val (.ref a1)] [(.ref a1)])) rfl (by rw [hml]; rfl) rfl (hb hby d10_1) (by decide) (W := 0) (by show 2 * 0 + _ ≤ _; exact Nat.le_of_eq rfl) (by decide)
  refine OEnds.go (t' := T1.setTop (mkF m 4 #[.val (.ref a1)] [])) (fun _ k => st1 _ k) ?_
  refine OEnds.back X1 hlk (v := none) (fun _ => rfl) (fun fs hr => ?_) ?_ (by decide) (by decide)
  · exact X1.returnOut hx hrt (hb hby d10_4) hr
  · show Q10 Z a1  h0 n0 _ T1.heap _
    rw [e1]
    exact ⟨rfl, N0, rfl⟩
theorem d9_0 : decode prog_9_method_1_code 0 = .ok (.aload_n 0, 1) := by decide +kernel
theorem d9_1 : decode prog_9_method_1_code 1 = .ok (.invokespecial 1, 3) := by decide +kernel
theorem d9_4 : decode prog_9_method_1_code 4 = .ok (.aload_n 0, 1) := by decide +kernel
theorem d9_5 : decode prog_9_method_1_code 5 = .ok (.aload_n 1, 1) := by decide +kernel
theorem d9_6 : decode prog_9_method_1_code 6 = .ok (.putfield 7, 3) := by decide +kernel
theorem d9_9 : decode prog_9_method_1_code 9 = .ok (.aload_n 0, 1) := by decide +kernel
theorem d9_10 : decode prog_9_method_1_code 10 = .ok (.aload_n 2, 1) := by decide +kernel
theorem d9_11 : decode prog_9_method_1_code 11 = .ok (.putfield 13, 3) := by decide +kernel
theorem d9_14 : decode prog_9_method_1_code 14 = .ok (.aload_n 0, 1) := by decide +kernel
theorem d9_15 : decode prog_9_method_1_code 15 = .ok (.aload_n 3, 1) := by decide +kernel
theorem d9_16 : decode prog_9_method_1_code 16 = .ok (.putfield 16, 3) := by decide +kernel
theorem d9_19 : decode prog_9_method_1_code 19 = .ok (.aload_n 0, 1) := by decide +kernel
theorem d9_20 : decode prog_9_method_1_code 20 = .ok (.aload 4, 2) := by decide +kernel
theorem d9_22 : decode prog_9_method_1_code 22 = .ok (.putfield 19, 3) := by decide +kernel
theorem d9_25 : decode prog_9_method_1_code 25 = .ok (.aload_n 0, 1) := by decide +kernel
theorem d9_26 : decode prog_9_method_1_code 26 = .ok (.aload 5, 2) := by decide +kernel
theorem d9_28 : decode prog_9_method_1_code 28 = .ok (.putfield 23, 3) := by decide +kernel
theorem d9_31 : decode prog_9_method_1_code 31 = .ok (.return_, 1) := by decide +kernel
theorem pn_9 : plainName "com/example/viitta/viitta/core/SafeXml$StartTag" = true := by first | (simp [plainName, overriddenIn]; done) | decide +kernel
theorem pd_rmT0_0 : parseMethodDescriptor "()V" = some ⟨[], none⟩ := by decide +kernel
theorem ef_rmT0 (m : MethodId) (a1 : Addr) (a2 : Addr) (a3 : Addr) (a4 : Addr) (a5 : Addr) (a6 : Addr) : entryFrame m #[(.ref a1), (.ref a2), (.ref a3), (.ref a4), (.ref a5), (.ref a6)] 6 = mkF m 0 #[.val (.ref a1), .val (.ref a2), .val (.ref a3), .val (.ref a4), .val (.ref a5), .val (.ref a6)] [] := by first | (simp [entryFrame, mkF, argsToLocals, Value.category]; done) | rfl
def QT0 (Z : State) (a1 : Addr) (a2 : Addr) (a3 : Addr) (a4 : Addr) (a5 : Addr) (a6 : Addr)  (h0 : Heap) (n0 : Nat) (v : Option Value) (h : Heap) (L : List Loc) : Prop := v = none ∧ Fr n0 L ∧ Keep h0 h [a1] ∧ Exa Z h a1 "com/example/viitta/viitta/core/SafeXml$StartTag" ∧ Fld Z h a1 "com/example/viitta/viitta/core/SafeXml$StartTag" "namespace" "Ljava/lang/String;" (.ref a2) ∧ Fld Z h a1 "com/example/viitta/viitta/core/SafeXml$StartTag" "localName" "Ljava/lang/String;" (.ref a4)
set_option maxRecDepth 65536 in
set_option maxHeartbeats 40000000 in
theorem rmT0 (l : Launch) (Z : State) (a0 : Array Value) (hw : ∀ d ∈ tables_1, d.before a0 Z = true) (ws : List Jvm.Cond) (a1 : Addr) (a2 : Addr) (a3 : Addr) (a4 : Addr) (a5 : Addr) (a6 : Addr)  (h0 : Heap) (n0 : Nat) (Z0 : n0 ≤ h0.size) (F_namespace_a1 : Fld Z h0 a1 "com/example/viitta/viitta/core/SafeXml$StartTag" "namespace" "Ljava/lang/String;" .null) (F_qualifiedName_a1 : Fld Z h0 a1 "com/example/viitta/viitta/core/SafeXml$StartTag" "qualifiedName" "Ljava/lang/String;" .null) (F_localName_a1 : Fld Z h0 a1 "com/example/viitta/viitta/core/SafeXml$StartTag" "localName" "Ljava/lang/String;" .null) (F_namespaces_a1 : Fld Z h0 a1 "com/example/viitta/viitta/core/SafeXml$StartTag" "namespaces" "Ljava/util/List;" .null) (F_attributes_a1 : Fld Z h0 a1 "com/example/viitta/viitta/core/SafeXml$StartTag" "attributes" "Ljava/util/List;" .null) (E_a1 : Exa Z h0 a1 "com/example/viitta/viitta/core/SafeXml$StartTag") (g_a1 : n0 ≤ a1) :
    MetFree l (⟨"com/example/viitta/viitta/core/SafeXml$StartTag", "<init>", "(Ljava/lang/String;Ljava/lang/String;Ljava/lang/String;Ljava/util/List;Ljava/util/List;)V"⟩ : MethodName) (head1 (Jvm.Cond.code (⟨"com/example/viitta/viitta/core/SafeXml$StartTag", "<init>", "(Ljava/lang/String;Ljava/lang/String;Ljava/lang/String;Ljava/util/List;Ljava/util/List;)V"⟩ : MethodName) prog_9_method_1_code 6 none :: ws) ({ frames := 2, cells := 0, slots := 0, locals := 24 } : Room)) (fun a U => a = #[(.ref a1), (.ref a2), (.ref a3), (.ref a4), (.ref a5), (.ref a6)] ∧ Z.Warmed39 U.vm ∧ U.heap = h0) (fun _ _ _ _ _ => True) (fun _ U o U' => ∃ v L, o = .returned v ∧ QT0 Z a1 a2 a3 a4 a5 a6  h0 n0 v U'.heap L ∧ FrameEnd U o U' L ({ frames := 2, cells := 0, slots := 0, locals := 24 } : Room).cells ({ frames := 2, cells := 0, slots := 0, locals := 24 } : Room).slots) := by
  refine MetFree.of_bodySF (plainFor_of_name pn_9) hisR ?_
  intro p e s m args below meth c s₁ Bd hml0 hP hK
  obtain ⟨rfl, hZ, hh⟩ := hP
  have hx := Bd.exec
  have hby := Bd.bytes
  have hml : c.maxLocals = 6 := hml0
  have hown : s.vm.findClass "com/example/viitta/viitta/core/SafeXml$StartTag" = some m.cls := findClass_of_methodNamed Bd.named
  have hnm := (name_of_methodNamed Bd.named Bd.method).1
  have hlk := BodyLoose.notSynchronized Bd
  have hrt := Bd.returns
  have X0 : Stand p l e ({ frames := 2, cells := 0, slots := 0, locals := 24 } : Room) s m #[(.ref a1), (.ref a2), (.ref a3), (.ref a4), (.ref a5), (.ref a6)] below meth c s₁ [] 0 0 := Stand.of_body Bd
  have e0 : s₁.heap = h0 := by rw [← hh, Bd.state]; rfl
  have N0 := Fr.nil n0
  show OEnds p e below s (QT0 Z a1 a2 a3 a4 a5 a6  h0 n0) ({ frames := 2, cells := 0, slots := 0, locals := 24 } : Room).cells ({ frames := 2, cells := 0, slots := 0, locals := 24 } : Room).slots (s₁.setTop (entryFrame m #[(.ref a1), (.ref a2), (.ref a3), (.ref a4), (.ref a5), (.ref a6)] 6))
  refine OEnds.go (t' := s₁.setTop (mkF m 0 #[.val (.ref a1), .val (.ref a2), .val (.ref a3), .val (.ref a4), .val (.ref a5), .val (.ref a6)] [])) (fun t k => castTop (ef_rmT0 m a1 a2 a3 a4 a5 a6) k) ?_
  refine OEnds.go (t' := s₁.setTop (mkF m 1 #[.val (.ref a1), .val (.ref a2), .val (.ref a3), .val (.ref a4), .val (.ref a5), .val (.ref a6)] [(.ref a1)])) (fun _ k => ?_) ?_
  · show Steps p.tables e below (s₁.setTop (mkF m 0 #[.val (.ref a1), .val (.ref a2), .val (.ref a3), .val (.ref a4), .val (.ref a5), .val (.ref a6)] [])) _
    refine XS.aloadN X0.here hx rfl (hb hby d9_0) rfl rfl ?_
    show Steps p.tables e below (s₁.setTop (mkF m 1 #[.val (.ref a1), .val (.ref a2), .val (.ref a3), .val (.ref a4), .val (.ref a5), .val (.ref a6)] [(.ref a1)])) _
    exact k
  obtain ⟨_, _, ⟨T1, L1, k1, n1⟩, -, X1, ⟨Lc1, hQ1, l1, y1, z1⟩, st1⟩ := X0.specialBack hx (y := (⟨"java/lang/Record", "<init>", "()V"⟩ : MethodName)) rfl hown (mvT hZ (hw _ (List.mem_of_getElem? (i := 59) rfl))) (mvT hZ (hw _ (List.mem_of_getElem? (i := 60) rfl))) (mvT hZ (hw _ (List.mem_of_getElem? (i := 63) rfl))) (by decide) (backOf (W := 0) (rm10 l Z a0 hw [] a1 h0 n0 Z0 ) hZ (hw _ (List.mem_of_getElem? (i := 63) rfl)) (hw _ (List.mem_of_getElem? (i := 62) rfl)) (by decide) (by decide)) (g := (mkF m 1 #[.val (.ref a1), .val (.ref a2), .val (.ref a3), .val (.ref a4), .val (.ref a5), .val (.ref a6)] [(.ref a1)])) rfl (by rw [hml]; rfl) (Steps.refl _) (a := a1) (argsL := []) (rest := []) (lenOf pd_rmT0_0 rfl) rfl (by show 2 * 0 + _ ≤ _; exact Nat.le_of_eq rfl) (hb hby d9_1) (fun _ _ => ⟨rfl, e0, (by decide : 0 + 0 ≤ _), (by decide : 0 + 0 ≤ _)⟩)
  dsimp only [Pt.U, Pt.locs, Pt.cells, Pt.slots] at X1 l1 y1 z1 st1 hQ1
  subst l1 y1 z1
  obtain ⟨rfl, N1q, eh⟩ := hQ1
  have N1 := Fr.app N0 N1q
  have eh1 := eh
  refine OEnds.go (t' := T1.setTop (mkF m 4 #[.val (.ref a1), .val (.ref a2), .val (.ref a3), .val (.ref a4), .val (.ref a5), .val (.ref a6)] [])) (fun _ k => st1.trans k) ?_
  refine OEnds.go (t' := T1.setTop (mkF m 6 #[.val (.ref a1), .val (.ref a2), .val (.ref a3), .val (.ref a4), .val (.ref a5), .val (.ref a6)] [(.ref a2), (.ref a1)])) (fun _ k => ?_) ?_
  · show Steps p.tables e below (T1.setTop (mkF m 4 #[.val (.ref a1), .val (.ref a2), .val (.ref a3), .val (.ref a4), .val (.ref a5), .val (.ref a6)] [])) _
    refine XS.aloadN X1.here hx rfl (hb hby d9_4) rfl rfl ?_
    show Steps p.tables e below (T1.setTop (mkF m 5 #[.val (.ref a1), .val (.ref a2), .val (.ref a3), .val (.ref a4), .val (.ref a5), .val (.ref a6)] [(.ref a1)])) _
    refine XS.aloadN X1.here hx rfl (hb hby d9_5) rfl rfl ?_
    show Steps p.tables e below (T1.setTop (mkF m 6 #[.val (.ref a1), .val (.ref a2), .val (.ref a3), .val (.ref a4), .val (.ref a5), .val (.ref a6)] [(.ref a2), (.ref a1)])) _
    exact k
  obtain ⟨T2, h2, X2, e2, W2, st2⟩ := putF X1 hx hZ hown (host := "") (Or.inl (hw _ (List.mem_of_getElem? (i := 65) rfl))) Via.refl eh1 F_namespace_a1 E_a1 (Or.inr ⟨(hw _ (List.mem_of_getElem? (i := 66) rfl)), rfl, hnm⟩) (hw _ (List.mem_of_getElem? (i := 30) rfl)) (ty := (.object "java/lang/String")) (by decide) rfl rfl (g := (mkF m 6 #[.val (.ref a1), .val (.ref a2), .val (.ref a3), .val (.ref a4), .val (.ref a5), .val (.ref a6)] [(.ref a2), (.ref a1)])) rfl rfl (hb hby d9_6)
  have N2 := Fr.snoc X2 N1 g_a1
  have E_a1 := E_a1.wr W2
  have F_namespace_a1 := F_namespace_a1.same W2
  have F_qualifiedName_a1 := F_qualifiedName_a1.other W2 (Or.inr (slot_ne (Or.inr (hw _ (List.mem_of_getElem? (i := 68) rfl))) (Or.inr (hw _ (List.mem_of_getElem? (i := 66) rfl))) (by decide) (t := (.object "java/lang/String")) (t' := (.object "java/lang/String")) (by decide) (by decide)))
  have F_localName_a1 := F_localName_a1.other W2 (Or.inr (slot_ne (Or.inr (hw _ (List.mem_of_getElem? (i := 70) rfl))) (Or.inr (hw _ (List.mem_of_getElem? (i := 66) rfl))) (by decide) (t := (.object "java/lang/String")) (t' := (.object "java/lang/String")) (by decide) (by decide)))
  have F_namespaces_a1 := F_namespaces_a1.other W2 (Or.inr (slot_ne (Or.inr (hw _ (List.mem_of_getElem? (i := 72) rfl))) (Or.inr (hw _ (List.mem_of_getElem? (i := 66) rfl))) (by decide) (t := (.object "java/util/List")) (t' := (.object "java/lang/String")) (by decide) (by decide)))
  have F_attributes_a1 := F_attributes_a1.other W2 (Or.inr (slot_ne (Or.inr (hw _ (List.mem_of_getElem? (i := 74) rfl))) (Or.inr (hw _ (List.mem_of_getElem? (i := 66) rfl))) (by decide) (t := (.object "java/util/List")) (t' := (.object "java/lang/String")) (by decide) (by decide)))
  have Z2 : n0 ≤ h2.size := Nat.le_trans Z0 (Keep.of_wr W2).1
  have K2 := (Keep.refl h0 [a1]).wr W2 (Or.inl (List.mem_of_getElem? (i := 0) rfl))
  refine OEnds.go (t' := T2.setTop (mkF m 9 #[.val (.ref a1), .val (.ref a2), .val (.ref a3), .val (.ref a4), .val (.ref a5), .val (.ref a6)] [])) (fun _ k => st2 _ k) ?_
  refine OEnds.go (t' := T2.setTop (mkF m 11 #[.val (.ref a1), .val (.ref a2), .val (.ref a3), .val (.ref a4), .val (.ref a5), .val (.ref a6)] [(.ref a3), (.ref a1)])) (fun _ k => ?_) ?_
  · show Steps p.tables e below (T2.setTop (mkF m 9 #[.val (.ref a1), .val (.ref a2), .val (.ref a3), .val (.ref a4), .val (.ref a5), .val (.ref a6)] [])) _
    refine XS.aloadN X2.here hx rfl (hb hby d9_9) rfl rfl ?_
    show Steps p.tables e below (T2.setTop (mkF m 10 #[.val (.ref a1), .val (.ref a2), .val (.ref a3), .val (.ref a4), .val (.ref a5), .val (.ref a6)] [(.ref a1)])) _
    refine XS.aloadN X2.here hx rfl (hb hby d9_10) rfl rfl ?_
    show Steps p.tables e below (T2.setTop (mkF m 11 #[.val (.ref a1), .val (.ref a2), .val (.ref a3), .val (.ref a4), .val (.ref a5), .val (.ref a6)] [(.ref a3), (.ref a1)])) _
    exact k
  obtain ⟨T3, h3, X3, e3, W3, st3⟩ := putF X2 hx hZ hown (host := "") (Or.inl (hw _ (List.mem_of_getElem? (i := 67) rfl))) Via.refl e2 F_qualifiedName_a1 E_a1 (Or.inr ⟨(hw _ (List.mem_of_getElem? (i := 68) rfl)), rfl, hnm⟩) (hw _ (List.mem_of_getElem? (i := 30) rfl)) (ty := (.object "java/lang/String")) (by decide) rfl rfl (g := (mkF m 11 #[.val (.ref a1), .val (.ref a2), .val (.ref a3), .val (.ref a4), .val (.ref a5), .val (.ref a6)] [(.ref a3), (.ref a1)])) rfl rfl (hb hby d9_11)
  have N3 := Fr.snoc X3 N2 g_a1
  have E_a1 := E_a1.wr W3
  have F_namespace_a1 := F_namespace_a1.other W3 (Or.inr (slot_ne (Or.inr (hw _ (List.mem_of_getElem? (i := 66) rfl))) (Or.inr (hw _ (List.mem_of_getElem? (i := 68) rfl))) (by decide) (t := (.object "java/lang/String")) (t' := (.object "java/lang/String")) (by decide) (by decide)))
  have F_qualifiedName_a1 := F_qualifiedName_a1.same W3
  have F_localName_a1 := F_localName_a1.other W3 (Or.inr (slot_ne (Or.inr (hw _ (List.mem_of_getElem? (i := 70) rfl))) (Or.inr (hw _ (List.mem_of_getElem? (i := 68) rfl))) (by decide) (t := (.object "java/lang/String")) (t' := (.object "java/lang/String")) (by decide) (by decide)))
  have F_namespaces_a1 := F_namespaces_a1.other W3 (Or.inr (slot_ne (Or.inr (hw _ (List.mem_of_getElem? (i := 72) rfl))) (Or.inr (hw _ (List.mem_of_getElem? (i := 68) rfl))) (by decide) (t := (.object "java/util/List")) (t' := (.object "java/lang/String")) (by decide) (by decide)))
  have F_attributes_a1 := F_attributes_a1.other W3 (Or.inr (slot_ne (Or.inr (hw _ (List.mem_of_getElem? (i := 74) rfl))) (Or.inr (hw _ (List.mem_of_getElem? (i := 68) rfl))) (by decide) (t := (.object "java/util/List")) (t' := (.object "java/lang/String")) (by decide) (by decide)))
  have Z3 : n0 ≤ h3.size := Nat.le_trans Z2 (Keep.of_wr W3).1
  have K3 := K2.wr W3 (Or.inl (List.mem_of_getElem? (i := 0) rfl))
  refine OEnds.go (t' := T3.setTop (mkF m 14 #[.val (.ref a1), .val (.ref a2), .val (.ref a3), .val (.ref a4), .val (.ref a5), .val (.ref a6)] [])) (fun _ k => st3 _ k) ?_
  refine OEnds.go (t' := T3.setTop (mkF m 16 #[.val (.ref a1), .val (.ref a2), .val (.ref a3), .val (.ref a4), .val (.ref a5), .val (.ref a6)] [(.ref a4), (.ref a1)])) (fun _ k => ?_) ?_
  · show Steps p.tables e below (T3.setTop (mkF m 14 #[.val (.ref a1), .val (.ref a2), .val (.ref a3), .val (.ref a4), .val (.ref a5), .val (.ref a6)] [])) _
    refine XS.aloadN X3.here hx rfl (hb hby d9_14) rfl rfl ?_
    show Steps p.tables e below (T3.setTop (mkF m 15 #[.val (.ref a1), .val (.ref a2), .val (.ref a3), .val (.ref a4), .val (.ref a5), .val (.ref a6)] [(.ref a1)])) _
    refine XS.aloadN X3.here hx rfl (hb hby d9_15) rfl rfl ?_
    show Steps p.tables e below (T3.setTop (mkF m 16 #[.val (.ref a1), .val (.ref a2), .val (.ref a3), .val (.ref a4), .val (.ref a5), .val (.ref a6)] [(.ref a4), (.ref a1)])) _
    exact k
  obtain ⟨T4, h4, X4, e4, W4, st4⟩ := putF X3 hx hZ hown (host := "") (Or.inl (hw _ (List.mem_of_getElem? (i := 69) rfl))) Via.refl e3 F_localName_a1 E_a1 (Or.inr ⟨(hw _ (List.mem_of_getElem? (i := 70) rfl)), rfl, hnm⟩) (hw _ (List.mem_of_getElem? (i := 30) rfl)) (ty := (.object "java/lang/String")) (by decide) rfl rfl (g := (mkF m 16 #[.val (.ref a1), .val (.ref a2), .val (.ref a3), .val (.ref a4), .val (.ref a5), .val (.ref a6)] [(.ref a4), (.ref a1)])) rfl rfl (hb hby d9_16)
  have N4 := Fr.snoc X4 N3 g_a1
  have E_a1 := E_a1.wr W4
  have F_namespace_a1 := F_namespace_a1.other W4 (Or.inr (slot_ne (Or.inr (hw _ (List.mem_of_getElem? (i := 66) rfl))) (Or.inr (hw _ (List.mem_of_getElem? (i := 70) rfl))) (by decide) (t := (.object "java/lang/String")) (t' := (.object "java/lang/String")) (by decide) (by decide)))
  have F_qualifiedName_a1 := F_qualifiedName_a1.other W4 (Or.inr (slot_ne (Or.inr (hw _ (List.mem_of_getElem? (i := 68) rfl))) (Or.inr (hw _ (List.mem_of_getElem? (i := 70) rfl))) (by decide) (t := (.object "java/lang/String")) (t' := (.object "java/lang/String")) (by decide) (by decide)))
  have F_localName_a1 := F_localName_a1.same W4
  have F_namespaces_a1 := F_namespaces_a1.other W4 (Or.inr (slot_ne (Or.inr (hw _ (List.mem_of_getElem? (i := 72) rfl))) (Or.inr (hw _ (List.mem_of_getElem? (i := 70) rfl))) (by decide) (t := (.object "java/util/List")) (t' := (.object "java/lang/String")) (by decide) (by decide)))
  have F_attributes_a1 := F_attributes_a1.other W4 (Or.inr (slot_ne (Or.inr (hw _ (List.mem_of_getElem? (i := 74) rfl))) (Or.inr (hw _ (List.mem_of_getElem? (i := 70) rfl))) (by decide) (t := (.object "java/util/List")) (t' := (.object "java/lang/String")) (by decide) (by decide)))
  have Z4 : n0 ≤ h4.size := Nat.le_trans Z3 (Keep.of_wr W4).1
  have K4 := K3.wr W4 (Or.inl (List.mem_of_getElem? (i := 0) rfl))
  refine OEnds.go (t' := T4.setTop (mkF m 19 #[.val (.ref a1), .val (.ref a2), .val (.ref a3), .val (.ref a4), .val (.ref a5), .val (.ref a6)] [])) (fun _ k => st4 _ k) ?_
  refine OEnds.go (t' := T4.setTop (mkF m 22 #[.val (.ref a1), .val (.ref a2), .val (.ref a3), .val (.ref a4), .val (.ref a5), .val (.ref a6)] [(.ref a5), (.ref a1)])) (fun _ k => ?_) ?_
  · show Steps p.tables e below (T4.setTop (mkF m 19 #[.val (.ref a1), .val (.ref a2), .val (.ref a3), .val (.ref a4), .val (.ref a5), .val (.ref a6)] [])) _
    refine XS.aloadN X4.here hx rfl (hb hby d9_19) rfl rfl ?_
    show Steps p.tables e below (T4.setTop (mkF m 20 #[.val (.ref a1), .val (.ref a2), .val (.ref a3), .val (.ref a4), .val (.ref a5), .val (.ref a6)] [(.ref a1)])) _
    refine XS.aload X4.here hx rfl (hb hby d9_20) rfl rfl ?_
    show Steps p.tables e below (T4.setTop (mkF m 22 #[.val (.ref a1), .val (.ref a2), .val (.ref a3), .val (.ref a4), .val (.ref a5), .val (.ref a6)] [(.ref a5), (.ref a1)])) _
    exact k
  obtain ⟨T5, h5, X5, e5, W5, st5⟩ := putF X4 hx hZ hown (host := "") (Or.inl (hw _ (List.mem_of_getElem? (i := 71) rfl))) Via.refl e4 F_namespaces_a1 E_a1 (Or.inr ⟨(hw _ (List.mem_of_getElem? (i := 72) rfl)), rfl, hnm⟩) (hw _ (List.mem_of_getElem? (i := 30) rfl)) (ty := (.object "java/util/List")) (by decide) rfl rfl (g := (mkF m 22 #[.val (.ref a1), .val (.ref a2), .val (.ref a3), .val (.ref a4), .val (.ref a5), .val (.ref a6)] [(.ref a5), (.ref a1)])) rfl rfl (hb hby d9_22)
  have N5 := Fr.snoc X5 N4 g_a1
  have E_a1 := E_a1.wr W5
  have F_namespace_a1 := F_namespace_a1.other W5 (Or.inr (slot_ne (Or.inr (hw _ (List.mem_of_getElem? (i := 66) rfl))) (Or.inr (hw _ (List.mem_of_getElem? (i := 72) rfl))) (by decide) (t := (.object "java/lang/String")) (t' := (.object "java/util/List")) (by decide) (by decide)))
  have F_qualifiedName_a1 := F_qualifiedName_a1.other W5 (Or.inr (slot_ne (Or.inr (hw _ (List.mem_of_getElem? (i := 68) rfl))) (Or.inr (hw _ (List.mem_of_getElem? (i := 72) rfl))) (by decide) (t := (.object "java/lang/String")) (t' := (.object "java/util/List")) (by decide) (by decide)))
  have F_localName_a1 := F_localName_a1.other W5 (Or.inr (slot_ne (Or.inr (hw _ (List.mem_of_getElem? (i := 70) rfl))) (Or.inr (hw _ (List.mem_of_getElem? (i := 72) rfl))) (by decide) (t := (.object "java/lang/String")) (t' := (.object "java/util/List")) (by decide) (by decide)))
  have F_namespaces_a1 := F_namespaces_a1.same W5
  have F_attributes_a1 := F_attributes_a1.other W5 (Or.inr (slot_ne (Or.inr (hw _ (List.mem_of_getElem? (i := 74) rfl))) (Or.inr (hw _ (List.mem_of_getElem? (i := 72) rfl))) (by decide) (t := (.object "java/util/List")) (t' := (.object "java/util/List")) (by decide) (by decide)))
  have Z5 : n0 ≤ h5.size := Nat.le_trans Z4 (Keep.of_wr W5).1
  have K5 := K4.wr W5 (Or.inl (List.mem_of_getElem? (i := 0) rfl))
  refine OEnds.go (t' := T5.setTop (mkF m 25 #[.val (.ref a1), .val (.ref a2), .val (.ref a3), .val (.ref a4), .val (.ref a5), .val (.ref a6)] [])) (fun _ k => st5 _ k) ?_
  refine OEnds.go (t' := T5.setTop (mkF m 28 #[.val (.ref a1), .val (.ref a2), .val (.ref a3), .val (.ref a4), .val (.ref a5), .val (.ref a6)] [(.ref a6), (.ref a1)])) (fun _ k => ?_) ?_
  · show Steps p.tables e below (T5.setTop (mkF m 25 #[.val (.ref a1), .val (.ref a2), .val (.ref a3), .val (.ref a4), .val (.ref a5), .val (.ref a6)] [])) _
    refine XS.aloadN X5.here hx rfl (hb hby d9_25) rfl rfl ?_
    show Steps p.tables e below (T5.setTop (mkF m 26 #[.val (.ref a1), .val (.ref a2), .val (.ref a3), .val (.ref a4), .val (.ref a5), .val (.ref a6)] [(.ref a1)])) _
    refine XS.aload X5.here hx rfl (hb hby d9_26) rfl rfl ?_
    show Steps p.tables e below (T5.setTop (mkF m 28 #[.val (.ref a1), .val (.ref a2), .val (.ref a3), .val (.ref a4), .val (.ref a5), .val (.ref a6)] [(.ref a6), (.ref a1)])) _
    exact k
  obtain ⟨T6, h6, X6, e6, W6, st6⟩ := putF X5 hx hZ hown (host := "") (Or.inl (hw _ (List.mem_of_getElem? (i := 73) rfl))) Via.refl e5 F_attributes_a1 E_a1 (Or.inr ⟨(hw _ (List.mem_of_getElem? (i := 74) rfl)), rfl, hnm⟩) (hw _ (List.mem_of_getElem? (i := 30) rfl)) (ty := (.object "java/util/List")) (by decide) rfl rfl (g := (mkF m 28 #[.val (.ref a1), .val (.ref a2), .val (.ref a3), .val (.ref a4), .val (.ref a5), .val (.ref a6)] [(.ref a6), (.ref a1)])) rfl rfl (hb hby d9_28)
  have N6 := Fr.snoc X6 N5 g_a1
  have E_a1 := E_a1.wr W6
  have F_namespace_a1 := F_namespace_a1.other W6 (Or.inr (slot_ne (Or.inr (hw _ (List.mem_of_getElem? (i := 66) rfl))) (Or.inr (hw _ (List.mem_of_getElem? (i := 74) rfl))) (by decide) (t := (.object "java/lang/String")) (t' := (.object "java/util/List")) (by decide) (by decide)))
  have F_qualifiedName_a1 := F_qualifiedName_a1.other W6 (Or.inr (slot_ne (Or.inr (hw _ (List.mem_of_getElem? (i := 68) rfl))) (Or.inr (hw _ (List.mem_of_getElem? (i := 74) rfl))) (by decide) (t := (.object "java/lang/String")) (t' := (.object "java/util/List")) (by decide) (by decide)))
  have F_localName_a1 := F_localName_a1.other W6 (Or.inr (slot_ne (Or.inr (hw _ (List.mem_of_getElem? (i := 70) rfl))) (Or.inr (hw _ (List.mem_of_getElem? (i := 74) rfl))) (by decide) (t := (.object "java/lang/String")) (t' := (.object "java/util/List")) (by decide) (by decide)))
  have F_namespaces_a1 := F_namespaces_a1.other W6 (Or.inr (slot_ne (Or.inr (hw _ (List.mem_of_getElem? (i := 72) rfl))) (Or.inr (hw _ (List.mem_of_getElem? (i := 74) rfl))) (by decide) (t := (.object "java/util/List")) (t' := (.object "java/util/List")) (by decide) (by decide)))
  have F_attributes_a1 := F_attributes_a1.same W6
  have Z6 : n0 ≤ h6.size := Nat.le_trans Z5 (Keep.of_wr W6).1
  have K6 := K5.wr W6 (Or.inl (List.mem_of_getElem? (i := 0) rfl))
  refine OEnds.go (t' := T6.setTop (mkF m 31 #[.val (.ref a1), .val (.ref a2), .val (.ref a3), .val (.ref a4), .val (.ref a5), .val (.ref a6)] [])) (fun _ k => st6 _ k) ?_
  refine OEnds.back X6 hlk (v := none) (fun _ => rfl) (fun fs hr => ?_) ?_ (by decide) (by decide)
  · exact X6.returnOut hx hrt (hb hby d9_31) hr
  · show QT0 Z a1 a2 a3 a4 a5 a6  h0 n0 _ T6.heap _
    rw [e6]
    exact ⟨rfl, N6, K6, E_a1, F_namespace_a1, F_localName_a1⟩
theorem pd_rmT1_0 : parseMethodDescriptor "()V" = some ⟨[], none⟩ := by decide +kernel
theorem ef_rmT1 (m : MethodId) (a1 : Addr) (a3 : Addr) (a4 : Addr) (a5 : Addr) (a6 : Addr) : entryFrame m #[(.ref a1), .null, (.ref a3), (.ref a4), (.ref a5), (.ref a6)] 6 = mkF m 0 #[.val (.ref a1), .val .null, .val (.ref a3), .val (.ref a4), .val (.ref a5), .val (.ref a6)] [] := by first | (simp [entryFrame, mkF, argsToLocals, Value.category]; done) | rfl
def QT1 (Z : State) (a1 : Addr) (a3 : Addr) (a4 : Addr) (a5 : Addr) (a6 : Addr)  (h0 : Heap) (n0 : Nat) (v : Option Value) (h : Heap) (L : List Loc) : Prop := v = none ∧ Fr n0 L ∧ Keep h0 h [a1] ∧ Exa Z h a1 "com/example/viitta/viitta/core/SafeXml$StartTag" ∧ Fld Z h a1 "com/example/viitta/viitta/core/SafeXml$StartTag" "namespace" "Ljava/lang/String;" .null ∧ Fld Z h a1 "com/example/viitta/viitta/core/SafeXml$StartTag" "localName" "Ljava/lang/String;" (.ref a4)
set_option maxRecDepth 65536 in
set_option maxHeartbeats 40000000 in
theorem rmT1 (l : Launch) (Z : State) (a0 : Array Value) (hw : ∀ d ∈ tables_1, d.before a0 Z = true) (ws : List Jvm.Cond) (a1 : Addr) (a3 : Addr) (a4 : Addr) (a5 : Addr) (a6 : Addr)  (h0 : Heap) (n0 : Nat) (Z0 : n0 ≤ h0.size) (F_namespace_a1 : Fld Z h0 a1 "com/example/viitta/viitta/core/SafeXml$StartTag" "namespace" "Ljava/lang/String;" .null) (F_qualifiedName_a1 : Fld Z h0 a1 "com/example/viitta/viitta/core/SafeXml$StartTag" "qualifiedName" "Ljava/lang/String;" .null) (F_localName_a1 : Fld Z h0 a1 "com/example/viitta/viitta/core/SafeXml$StartTag" "localName" "Ljava/lang/String;" .null) (F_namespaces_a1 : Fld Z h0 a1 "com/example/viitta/viitta/core/SafeXml$StartTag" "namespaces" "Ljava/util/List;" .null) (F_attributes_a1 : Fld Z h0 a1 "com/example/viitta/viitta/core/SafeXml$StartTag" "attributes" "Ljava/util/List;" .null) (E_a1 : Exa Z h0 a1 "com/example/viitta/viitta/core/SafeXml$StartTag") (g_a1 : n0 ≤ a1) :
    MetFree l (⟨"com/example/viitta/viitta/core/SafeXml$StartTag", "<init>", "(Ljava/lang/String;Ljava/lang/String;Ljava/lang/String;Ljava/util/List;Ljava/util/List;)V"⟩ : MethodName) (head1 (Jvm.Cond.code (⟨"com/example/viitta/viitta/core/SafeXml$StartTag", "<init>", "(Ljava/lang/String;Ljava/lang/String;Ljava/lang/String;Ljava/util/List;Ljava/util/List;)V"⟩ : MethodName) prog_9_method_1_code 6 none :: ws) ({ frames := 2, cells := 0, slots := 0, locals := 24 } : Room)) (fun a U => a = #[(.ref a1), .null, (.ref a3), (.ref a4), (.ref a5), (.ref a6)] ∧ Z.Warmed39 U.vm ∧ U.heap = h0) (fun _ _ _ _ _ => True) (fun _ U o U' => ∃ v L, o = .returned v ∧ QT1 Z a1 a3 a4 a5 a6  h0 n0 v U'.heap L ∧ FrameEnd U o U' L ({ frames := 2, cells := 0, slots := 0, locals := 24 } : Room).cells ({ frames := 2, cells := 0, slots := 0, locals := 24 } : Room).slots) := by
  refine MetFree.of_bodySF (plainFor_of_name pn_9) hisR ?_
  intro p e s m args below meth c s₁ Bd hml0 hP hK
  obtain ⟨rfl, hZ, hh⟩ := hP
  have hx := Bd.exec
  have hby := Bd.bytes
  have hml : c.maxLocals = 6 := hml0
  have hown : s.vm.findClass "com/example/viitta/viitta/core/SafeXml$StartTag" = some m.cls := findClass_of_methodNamed Bd.named
  have hnm := (name_of_methodNamed Bd.named Bd.method).1
  have hlk := BodyLoose.notSynchronized Bd
  have hrt := Bd.returns
  have X0 : Stand p l e ({ frames := 2, cells := 0, slots := 0, locals := 24 } : Room) s m #[(.ref a1), .null, (.ref a3), (.ref a4), (.ref a5), (.ref a6)] below meth c s₁ [] 0 0 := Stand.of_body Bd
  have e0 : s₁.heap = h0 := by rw [← hh, Bd.state]; rfl
  have N0 := Fr.nil n0
  show OEnds p e below s (QT1 Z a1 a3 a4 a5 a6  h0 n0) ({ frames := 2, cells := 0, slots := 0, locals := 24 } : Room).cells ({ frames := 2, cells := 0, slots := 0, locals := 24 } : Room).slots (s₁.setTop (entryFrame m #[(.ref a1), .null, (.ref a3), (.ref a4), (.ref a5), (.ref a6)] 6))
  refine OEnds.go (t' := s₁.setTop (mkF m 0 #[.val (.ref a1), .val .null, .val (.ref a3), .val (.ref a4), .val (.ref a5), .val (.ref a6)] [])) (fun t k => castTop (ef_rmT1 m a1 a3 a4 a5 a6) k) ?_
  refine OEnds.go (t' := s₁.setTop (mkF m 1 #[.val (.ref a1), .val .null, .val (.ref a3), .val (.ref a4), .val (.ref a5), .val (.ref a6)] [(.ref a1)])) (fun _ k => ?_) ?_
  · show Steps p.tables e below (s₁.setTop (mkF m 0 #[.val (.ref a1), .val .null, .val (.ref a3), .val (.ref a4), .val (.ref a5), .val (.ref a6)] [])) _
    refine XS.aloadN X0.here hx rfl (hb hby d9_0) rfl rfl ?_
    show Steps p.tables e below (s₁.setTop (mkF m 1 #[.val (.ref a1), .val .null, .val (.ref a3), .val (.ref a4), .val (.ref a5), .val (.ref a6)] [(.ref a1)])) _
    exact k
  obtain ⟨_, _, ⟨T1, L1, k1, n1⟩, -, X1, ⟨Lc1, hQ1, l1, y1, z1⟩, st1⟩ := X0.specialBack hx (y := (⟨"java/lang/Record", "<init>", "()V"⟩ : MethodName)) rfl hown (mvT hZ (hw _ (List.mem_of_getElem? (i := 59) rfl))) (mvT hZ (hw _ (List.mem_of_getElem? (i := 60) rfl))) (mvT hZ (hw _ (List.mem_of_getElem? (i := 63) rfl))) (by decide) (backOf (W := 0) (rm10 l Z a0 hw [] a1 h0 n0 Z0 ) hZ (hw _ (List.mem_of_getElem? (i := 63) rfl)) (hw _ (List.mem_of_getElem? (i := 62) rfl)) (by decide) (by decide)) (g := (mkF m 1 #[.val (.ref a1), .val .null, .val (.ref a3), .val (.ref a4), .val (.ref a5), .val (.ref a6)] [(.ref a1)])) rfl (by rw [hml]; rfl) (Steps.refl _) (a := a1) (argsL := []) (rest := []) (lenOf pd_rmT1_0 rfl) rfl (by show 2 * 0 + _ ≤ _; exact Nat.le_of_eq rfl) (hb hby d9_1) (fun _ _ => ⟨rfl, e0, (by decide : 0 + 0 ≤ _), (by decide : 0 + 0 ≤ _)⟩)
  dsimp only [Pt.U, Pt.locs, Pt.cells, Pt.slots] at X1 l1 y1 z1 st1 hQ1
  subst l1 y1 z1
  obtain ⟨rfl, N1q, eh⟩ := hQ1
  have N1 := Fr.app N0 N1q
  have eh1 := eh
  refine OEnds.go (t' := T1.setTop (mkF m 4 #[.val (.ref a1), .val .null, .val (.ref a3), .val (.ref a4), .val (.ref a5), .val (.ref a6)] [])) (fun _ k => st1.trans k) ?_
  refine OEnds.go (t' := T1.setTop (mkF m 6 #[.val (.ref a1), .val .null, .val (.ref a3), .val (.ref a4), .val (.ref a5), .val (.ref a6)] [.null, (.ref a1)])) (fun _ k => ?_) ?_
  · show Steps p.tables e below (T1.setTop (mkF m 4 #[.val (.ref a1), .val .null, .val (.ref a3), .val (.ref a4), .val (.ref a5), .val (.ref a6)] [])) _
    refine XS.aloadN X1.here hx rfl (hb hby d9_4) rfl rfl ?_
    show Steps p.tables e below (T1.setTop (mkF m 5 #[.val (.ref a1), .val .null, .val (.ref a3), .val (.ref a4), .val (.ref a5), .val (.ref a6)] [(.ref a1)])) _
    refine XS.aloadN X1.here hx rfl (hb hby d9_5) rfl rfl ?_
    show Steps p.tables e below (T1.setTop (mkF m 6 #[.val (.ref a1), .val .null, .val (.ref a3), .val (.ref a4), .val (.ref a5), .val (.ref a6)] [.null, (.ref a1)])) _
    exact k
  obtain ⟨T2, h2, X2, e2, W2, st2⟩ := putF X1 hx hZ hown (host := "") (Or.inl (hw _ (List.mem_of_getElem? (i := 65) rfl))) Via.refl eh1 F_namespace_a1 E_a1 (Or.inr ⟨(hw _ (List.mem_of_getElem? (i := 66) rfl)), rfl, hnm⟩) (hw _ (List.mem_of_getElem? (i := 30) rfl)) (ty := (.object "java/lang/String")) (by decide) rfl rfl (g := (mkF m 6 #[.val (.ref a1), .val .null, .val (.ref a3), .val (.ref a4), .val (.ref a5), .val (.ref a6)] [.null, (.ref a1)])) rfl rfl (hb hby d9_6)
  have N2 := Fr.snoc X2 N1 g_a1
  have E_a1 := E_a1.wr W2
  have F_namespace_a1 := F_namespace_a1.same W2
  have F_qualifiedName_a1 := F_qualifiedName_a1.other W2 (Or.inr (slot_ne (Or.inr (hw _ (List.mem_of_getElem? (i := 68) rfl))) (Or.inr (hw _ (List.mem_of_getElem? (i := 66) rfl))) (by decide) (t := (.object "java/lang/String")) (t' := (.object "java/lang/String")) (by decide) (by decide)))
  have F_localName_a1 := F_localName_a1.other W2 (Or.inr (slot_ne (Or.inr (hw _ (List.mem_of_getElem? (i := 70) rfl))) (Or.inr (hw _ (List.mem_of_getElem? (i := 66) rfl))) (by decide) (t := (.object "java/lang/String")) (t' := (.object "java/lang/String")) (by decide) (by decide)))
  have F_namespaces_a1 := F_namespaces_a1.other W2 (Or.inr (slot_ne (Or.inr (hw _ (List.mem_of_getElem? (i := 72) rfl))) (Or.inr (hw _ (List.mem_of_getElem? (i := 66) rfl))) (by decide) (t := (.object "java/util/List")) (t' := (.object "java/lang/String")) (by decide) (by decide)))
  have F_attributes_a1 := F_attributes_a1.other W2 (Or.inr (slot_ne (Or.inr (hw _ (List.mem_of_getElem? (i := 74) rfl))) (Or.inr (hw _ (List.mem_of_getElem? (i := 66) rfl))) (by decide) (t := (.object "java/util/List")) (t' := (.object "java/lang/String")) (by decide) (by decide)))
  have Z2 : n0 ≤ h2.size := Nat.le_trans Z0 (Keep.of_wr W2).1
  have K2 := (Keep.refl h0 [a1]).wr W2 (Or.inl (List.mem_of_getElem? (i := 0) rfl))
  refine OEnds.go (t' := T2.setTop (mkF m 9 #[.val (.ref a1), .val .null, .val (.ref a3), .val (.ref a4), .val (.ref a5), .val (.ref a6)] [])) (fun _ k => st2 _ k) ?_
  refine OEnds.go (t' := T2.setTop (mkF m 11 #[.val (.ref a1), .val .null, .val (.ref a3), .val (.ref a4), .val (.ref a5), .val (.ref a6)] [(.ref a3), (.ref a1)])) (fun _ k => ?_) ?_
  · show Steps p.tables e below (T2.setTop (mkF m 9 #[.val (.ref a1), .val .null, .val (.ref a3), .val (.ref a4), .val (.ref a5), .val (.ref a6)] [])) _
    refine XS.aloadN X2.here hx rfl (hb hby d9_9) rfl rfl ?_
    show Steps p.tables e below (T2.setTop (mkF m 10 #[.val (.ref a1), .val .null, .val (.ref a3), .val (.ref a4), .val (.ref a5), .val (.ref a6)] [(.ref a1)])) _
    refine XS.aloadN X2.here hx rfl (hb hby d9_10) rfl rfl ?_
    show Steps p.tables e below (T2.setTop (mkF m 11 #[.val (.ref a1), .val .null, .val (.ref a3), .val (.ref a4), .val (.ref a5), .val (.ref a6)] [(.ref a3), (.ref a1)])) _
    exact k
  obtain ⟨T3, h3, X3, e3, W3, st3⟩ := putF X2 hx hZ hown (host := "") (Or.inl (hw _ (List.mem_of_getElem? (i := 67) rfl))) Via.refl e2 F_qualifiedName_a1 E_a1 (Or.inr ⟨(hw _ (List.mem_of_getElem? (i := 68) rfl)), rfl, hnm⟩) (hw _ (List.mem_of_getElem? (i := 30) rfl)) (ty := (.object "java/lang/String")) (by decide) rfl rfl (g := (mkF m 11 #[.val (.ref a1), .val .null, .val (.ref a3), .val (.ref a4), .val (.ref a5), .val (.ref a6)] [(.ref a3), (.ref a1)])) rfl rfl (hb hby d9_11)
  have N3 := Fr.snoc X3 N2 g_a1
  have E_a1 := E_a1.wr W3
  have F_namespace_a1 := F_namespace_a1.other W3 (Or.inr (slot_ne (Or.inr (hw _ (List.mem_of_getElem? (i := 66) rfl))) (Or.inr (hw _ (List.mem_of_getElem? (i := 68) rfl))) (by decide) (t := (.object "java/lang/String")) (t' := (.object "java/lang/String")) (by decide) (by decide)))
  have F_qualifiedName_a1 := F_qualifiedName_a1.same W3
  have F_localName_a1 := F_localName_a1.other W3 (Or.inr (slot_ne (Or.inr (hw _ (List.mem_of_getElem? (i := 70) rfl))) (Or.inr (hw _ (List.mem_of_getElem? (i := 68) rfl))) (by decide) (t := (.object "java/lang/String")) (t' := (.object "java/lang/String")) (by decide) (by decide)))
  have F_namespaces_a1 := F_namespaces_a1.other W3 (Or.inr (slot_ne (Or.inr (hw _ (List.mem_of_getElem? (i := 72) rfl))) (Or.inr (hw _ (List.mem_of_getElem? (i := 68) rfl))) (by decide) (t := (.object "java/util/List")) (t' := (.object "java/lang/String")) (by decide) (by decide)))
  have F_attributes_a1 := F_attributes_a1.other W3 (Or.inr (slot_ne (Or.inr (hw _ (List.mem_of_getElem? (i := 74) rfl))) (Or.inr (hw _ (List.mem_of_getElem? (i := 68) rfl))) (by decide) (t := (.object "java/util/List")) (t' := (.object "java/lang/String")) (by decide) (by decide)))
  have Z3 : n0 ≤ h3.size := Nat.le_trans Z2 (Keep.of_wr W3).1
  have K3 := K2.wr W3 (Or.inl (List.mem_of_getElem? (i := 0) rfl))
  refine OEnds.go (t' := T3.setTop (mkF m 14 #[.val (.ref a1), .val .null, .val (.ref a3), .val (.ref a4), .val (.ref a5), .val (.ref a6)] [])) (fun _ k => st3 _ k) ?_
  refine OEnds.go (t' := T3.setTop (mkF m 16 #[.val (.ref a1), .val .null, .val (.ref a3), .val (.ref a4), .val (.ref a5), .val (.ref a6)] [(.ref a4), (.ref a1)])) (fun _ k => ?_) ?_
  · show Steps p.tables e below (T3.setTop (mkF m 14 #[.val (.ref a1), .val .null, .val (.ref a3), .val (.ref a4), .val (.ref a5), .val (.ref a6)] [])) _
    refine XS.aloadN X3.here hx rfl (hb hby d9_14) rfl rfl ?_
    show Steps p.tables e below (T3.setTop (mkF m 15 #[.val (.ref a1), .val .null, .val (.ref a3), .val (.ref a4), .val (.ref a5), .val (.ref a6)] [(.ref a1)])) _
    refine XS.aloadN X3.here hx rfl (hb hby d9_15) rfl rfl ?_
    show Steps p.tables e below (T3.setTop (mkF m 16 #[.val (.ref a1), .val .null, .val (.ref a3), .val (.ref a4), .val (.ref a5), .val (.ref a6)] [(.ref a4), (.ref a1)])) _
    exact k
  obtain ⟨T4, h4, X4, e4, W4, st4⟩ := putF X3 hx hZ hown (host := "") (Or.inl (hw _ (List.mem_of_getElem? (i := 69) rfl))) Via.refl e3 F_localName_a1 E_a1 (Or.inr ⟨(hw _ (List.mem_of_getElem? (i := 70) rfl)), rfl, hnm⟩) (hw _ (List.mem_of_getElem? (i := 30) rfl)) (ty := (.object "java/lang/String")) (by decide) rfl rfl (g := (mkF m 16 #[.val (.ref a1), .val .null, .val (.ref a3), .val (.ref a4), .val (.ref a5), .val (.ref a6)] [(.ref a4), (.ref a1)])) rfl rfl (hb hby d9_16)
  have N4 := Fr.snoc X4 N3 g_a1
  have E_a1 := E_a1.wr W4
  have F_namespace_a1 := F_namespace_a1.other W4 (Or.inr (slot_ne (Or.inr (hw _ (List.mem_of_getElem? (i := 66) rfl))) (Or.inr (hw _ (List.mem_of_getElem? (i := 70) rfl))) (by decide) (t := (.object "java/lang/String")) (t' := (.object "java/lang/String")) (by decide) (by decide)))
  have F_qualifiedName_a1 := F_qualifiedName_a1.other W4 (Or.inr (slot_ne (Or.inr (hw _ (List.mem_of_getElem? (i := 68) rfl))) (Or.inr (hw _ (List.mem_of_getElem? (i := 70) rfl))) (by decide) (t := (.object "java/lang/String")) (t' := (.object "java/lang/String")) (by decide) (by decide)))
  have F_localName_a1 := F_localName_a1.same W4
  have F_namespaces_a1 := F_namespaces_a1.other W4 (Or.inr (slot_ne (Or.inr (hw _ (List.mem_of_getElem? (i := 72) rfl))) (Or.inr (hw _ (List.mem_of_getElem? (i := 70) rfl))) (by decide) (t := (.object "java/util/List")) (t' := (.object "java/lang/String")) (by decide) (by decide)))
  have F_attributes_a1 := F_attributes_a1.other W4 (Or.inr (slot_ne (Or.inr (hw _ (List.mem_of_getElem? (i := 74) rfl))) (Or.inr (hw _ (List.mem_of_getElem? (i := 70) rfl))) (by decide) (t := (.object "java/util/List")) (t' := (.object "java/lang/String")) (by decide) (by decide)))
  have Z4 : n0 ≤ h4.size := Nat.le_trans Z3 (Keep.of_wr W4).1
  have K4 := K3.wr W4 (Or.inl (List.mem_of_getElem? (i := 0) rfl))
  refine OEnds.go (t' := T4.setTop (mkF m 19 #[.val (.ref a1), .val .null, .val (.ref a3), .val (.ref a4), .val (.ref a5), .val (.ref a6)] [])) (fun _ k => st4 _ k) ?_
  refine OEnds.go (t' := T4.setTop (mkF m 22 #[.val (.ref a1), .val .null, .val (.ref a3), .val (.ref a4), .val (.ref a5), .val (.ref a6)] [(.ref a5), (.ref a1)])) (fun _ k => ?_) ?_
  · show Steps p.tables e below (T4.setTop (mkF m 19 #[.val (.ref a1), .val .null, .val (.ref a3), .val (.ref a4), .val (.ref a5), .val (.ref a6)] [])) _
    refine XS.aloadN X4.here hx rfl (hb hby d9_19) rfl rfl ?_
    show Steps p.tables e below (T4.setTop (mkF m 20 #[.val (.ref a1), .val .null, .val (.ref a3), .val (.ref a4), .val (.ref a5), .val (.ref a6)] [(.ref a1)])) _
    refine XS.aload X4.here hx rfl (hb hby d9_20) rfl rfl ?_
    show Steps p.tables e below (T4.setTop (mkF m 22 #[.val (.ref a1), .val .null, .val (.ref a3), .val (.ref a4), .val (.ref a5), .val (.ref a6)] [(.ref a5), (.ref a1)])) _
    exact k
  obtain ⟨T5, h5, X5, e5, W5, st5⟩ := putF X4 hx hZ hown (host := "") (Or.inl (hw _ (List.mem_of_getElem? (i := 71) rfl))) Via.refl e4 F_namespaces_a1 E_a1 (Or.inr ⟨(hw _ (List.mem_of_getElem? (i := 72) rfl)), rfl, hnm⟩) (hw _ (List.mem_of_getElem? (i := 30) rfl)) (ty := (.object "java/util/List")) (by decide) rfl rfl (g := (mkF m 22 #[.val (.ref a1), .val .null, .val (.ref a3), .val (.ref a4), .val (.ref a5), .val (.ref a6)] [(.ref a5), (.ref a1)])) rfl rfl (hb hby d9_22)
  have N5 := Fr.snoc X5 N4 g_a1
  have E_a1 := E_a1.wr W5
  have F_namespace_a1 := F_namespace_a1.other W5 (Or.inr (slot_ne (Or.inr (hw _ (List.mem_of_getElem? (i := 66) rfl))) (Or.inr (hw _ (List.mem_of_getElem? (i := 72) rfl))) (by decide) (t := (.object "java/lang/String")) (t' := (.object "java/util/List")) (by decide) (by decide)))
  have F_qualifiedName_a1 := F_qualifiedName_a1.other W5 (Or.inr (slot_ne (Or.inr (hw _ (List.mem_of_getElem? (i := 68) rfl))) (Or.inr (hw _ (List.mem_of_getElem? (i := 72) rfl))) (by decide) (t := (.object "java/lang/String")) (t' := (.object "java/util/List")) (by decide) (by decide)))
  have F_localName_a1 := F_localName_a1.other W5 (Or.inr (slot_ne (Or.inr (hw _ (List.mem_of_getElem? (i := 70) rfl))) (Or.inr (hw _ (List.mem_of_getElem? (i := 72) rfl))) (by decide) (t := (.object "java/lang/String")) (t' := (.object "java/util/List")) (by decide) (by decide)))
  have F_namespaces_a1 := F_namespaces_a1.same W5
  have F_attributes_a1 := F_attributes_a1.other W5 (Or.inr (slot_ne (Or.inr (hw _ (List.mem_of_getElem? (i := 74) rfl))) (Or.inr (hw _ (List.mem_of_getElem? (i := 72) rfl))) (by decide) (t := (.object "java/util/List")) (t' := (.object "java/util/List")) (by decide) (by decide)))
  have Z5 : n0 ≤ h5.size := Nat.le_trans Z4 (Keep.of_wr W5).1
  have K5 := K4.wr W5 (Or.inl (List.mem_of_getElem? (i := 0) rfl))
  refine OEnds.go (t' := T5.setTop (mkF m 25 #[.val (.ref a1), .val .null, .val (.ref a3), .val (.ref a4), .val (.ref a5), .val (.ref a6)] [])) (fun _ k => st5 _ k) ?_
  refine OEnds.go (t' := T5.setTop (mkF m 28 #[.val (.ref a1), .val .null, .val (.ref a3), .val (.ref a4), .val (.ref a5), .val (.ref a6)] [(.ref a6), (.ref a1)])) (fun _ k => ?_) ?_
  · show Steps p.tables e below (T5.setTop (mkF m 25 #[.val (.ref a1), .val .null, .val (.ref a3), .val (.ref a4), .val (.ref a5), .val (.ref a6)] [])) _
    refine XS.aloadN X5.here hx rfl (hb hby d9_25) rfl rfl ?_
    show Steps p.tables e below (T5.setTop (mkF m 26 #[.val (.ref a1), .val .null, .val (.ref a3), .val (.ref a4), .val (.ref a5), .val (.ref a6)] [(.ref a1)])) _
    refine XS.aload X5.here hx rfl (hb hby d9_26) rfl rfl ?_
    show Steps p.tables e below (T5.setTop (mkF m 28 #[.val (.ref a1), .val .null, .val (.ref a3), .val (.ref a4), .val (.ref a5), .val (.ref a6)] [(.ref a6), (.ref a1)])) _
    exact k
  obtain ⟨T6, h6, X6, e6, W6, st6⟩ := putF X5 hx hZ hown (host := "") (Or.inl (hw _ (List.mem_of_getElem? (i := 73) rfl))) Via.refl e5 F_attributes_a1 E_a1 (Or.inr ⟨(hw _ (List.mem_of_getElem? (i := 74) rfl)), rfl, hnm⟩) (hw _ (List.mem_of_getElem? (i := 30) rfl)) (ty := (.object "java/util/List")) (by decide) rfl rfl (g := (mkF m 28 #[.val (.ref a1), .val .null, .val (.ref a3), .val (.ref a4), .val (.ref a5), .val (.ref a6)] [(.ref a6), (.ref a1)])) rfl rfl (hb hby d9_28)
  have N6 := Fr.snoc X6 N5 g_a1
  have E_a1 := E_a1.wr W6
  have F_namespace_a1 := F_namespace_a1.other W6 (Or.inr (slot_ne (Or.inr (hw _ (List.mem_of_getElem? (i := 66) rfl))) (Or.inr (hw _ (List.mem_of_getElem? (i := 74) rfl))) (by decide) (t := (.object "java/lang/String")) (t' := (.object "java/util/List")) (by decide) (by decide)))
  have F_qualifiedName_a1 := F_qualifiedName_a1.other W6 (Or.inr (slot_ne (Or.inr (hw _ (List.mem_of_getElem? (i := 68) rfl))) (Or.inr (hw _ (List.mem_of_getElem? (i := 74) rfl))) (by decide) (t := (.object "java/lang/String")) (t' := (.object "java/util/List")) (by decide) (by decide)))
  have F_localName_a1 := F_localName_a1.other W6 (Or.inr (slot_ne (Or.inr (hw _ (List.mem_of_getElem? (i := 70) rfl))) (Or.inr (hw _ (List.mem_of_getElem? (i := 74) rfl))) (by decide) (t := (.object "java/lang/String")) (t' := (.object "java/util/List")) (by decide) (by decide)))
  have F_namespaces_a1 := F_namespaces_a1.other W6 (Or.inr (slot_ne (Or.inr (hw _ (List.mem_of_getElem? (i := 72) rfl))) (Or.inr (hw _ (List.mem_of_getElem? (i := 74) rfl))) (by decide) (t := (.object "java/util/List")) (t' := (.object "java/util/List")) (by decide) (by decide)))
  have F_attributes_a1 := F_attributes_a1.same W6
  have Z6 : n0 ≤ h6.size := Nat.le_trans Z5 (Keep.of_wr W6).1
  have K6 := K5.wr W6 (Or.inl (List.mem_of_getElem? (i := 0) rfl))
  refine OEnds.go (t' := T6.setTop (mkF m 31 #[.val (.ref a1), .val .null, .val (.ref a3), .val (.ref a4), .val (.ref a5), .val (.ref a6)] [])) (fun _ k => st6 _ k) ?_
  refine OEnds.back X6 hlk (v := none) (fun _ => rfl) (fun fs hr => ?_) ?_ (by decide) (by decide)
  · exact X6.returnOut hx hrt (hb hby d9_31) hr
  · show QT1 Z a1 a3 a4 a5 a6  h0 n0 _ T6.heap _
    rw [e6]
    exact ⟨rfl, N6, K6, E_a1, F_namespace_a1, F_localName_a1⟩
theorem d14_0 : decode jdk_43_method_13_code 0 = .ok (.aload_n 0, 1) := by decide +kernel
theorem d14_1 : decode jdk_43_method_13_code 1 = .ok (.arraylength, 1) := by decide +kernel
theorem d14_2 : decode jdk_43_method_13_code 2 = .ok (.aload_n 1, 1) := by decide +kernel
theorem d14_3 : decode jdk_43_method_13_code 3 = .ok (.arraylength, 1) := by decide +kernel
theorem d14_4 : decode jdk_43_method_13_code 4 = .ok (.if_icmp .ne 30, 3) := by decide +kernel
theorem d14_7 : decode jdk_43_method_13_code 7 = .ok (.iconst 0, 1) := by decide +kernel
theorem d14_8 : decode jdk_43_method_13_code 8 = .ok (.istore_n 2, 1) := by decide +kernel
theorem d14_9 : decode jdk_43_method_13_code 9 = .ok (.iload_n 2, 1) := by decide +kernel
theorem d14_10 : decode jdk_43_method_13_code 10 = .ok (.aload_n 0, 1) := by decide +kernel
theorem d14_11 : decode jdk_43_method_13_code 11 = .ok (.arraylength, 1) := by decide +kernel
theorem d14_12 : decode jdk_43_method_13_code 12 = .ok (.if_icmp .ge 20, 3) := by decide +kernel
theorem d14_15 : decode jdk_43_method_13_code 15 = .ok (.aload_n 0, 1) := by decide +kernel
theorem d14_16 : decode jdk_43_method_13_code 16 = .ok (.iload_n 2, 1) := by decide +kernel
theorem d14_17 : decode jdk_43_method_13_code 17 = .ok (.baload, 1) := by decide +kernel
theorem d14_18 : decode jdk_43_method_13_code 18 = .ok (.aload_n 1, 1) := by decide +kernel
theorem d14_19 : decode jdk_43_method_13_code 19 = .ok (.iload_n 2, 1) := by decide +kernel
theorem d14_20 : decode jdk_43_method_13_code 20 = .ok (.baload, 1) := by decide +kernel
theorem d14_21 : decode jdk_43_method_13_code 21 = .ok (.if_icmp .eq 5, 3) := by decide +kernel
theorem d14_24 : decode jdk_43_method_13_code 24 = .ok (.iconst 0, 1) := by decide +kernel
theorem d14_25 : decode jdk_43_method_13_code 25 = .ok (.ireturn, 1) := by decide +kernel
theorem d14_26 : decode jdk_43_method_13_code 26 = .ok (.iinc 2 1, 3) := by decide +kernel
theorem d14_29 : decode jdk_43_method_13_code 29 = .ok (.goto (-20), 3) := by decide +kernel
theorem d14_32 : decode jdk_43_method_13_code 32 = .ok (.iconst 1, 1) := by decide +kernel
theorem d14_33 : decode jdk_43_method_13_code 33 = .ok (.ireturn, 1) := by decide +kernel
theorem d14_34 : decode jdk_43_method_13_code 34 = .ok (.iconst 0, 1) := by decide +kernel
theorem d14_35 : decode jdk_43_method_13_code 35 = .ok (.ireturn, 1) := by decide +kernel
theorem pn_14 : plainName "java/lang/StringLatin1" = true := by first | (simp [plainName, overriddenIn]; done) | decide +kernel
theorem ef_rm14 (m : MethodId) (b1 : Addr) (b2 : Addr) : entryFrame m #[(.ref b1), (.ref b2)] 3 = mkF m 0 #[.val (.ref b1), .val (.ref b2), .unset] [] := by first | (simp [entryFrame, mkF, argsToLocals, Value.category]; done) | rfl
def Q14 (Z : State) (b1 : Addr) (b2 : Addr) (k1 : ClassId) (k2 : ClassId) (xs : List Int32) (ys : List Int32) (h0 : Heap) (n0 : Nat) (v : Option Value) (h : Heap) (L : List Loc) : Prop := v = some (.int (own_eqL xs ys)) ∧ Fr n0 L ∧ h = h0
set_option maxRecDepth 65536 in
set_option maxHeartbeats 40000000 in
theorem rm14 (l : Launch) (Z : State) (a0 : Array Value) (hw : ∀ d ∈ tables_1, d.before a0 Z = true) (ws : List Jvm.Cond) (b1 : Addr) (b2 : Addr) (k1 : ClassId) (k2 : ClassId) (xs : List Int32) (ys : List Int32) (h0 : Heap) (n0 : Nat) (Z0 : n0 ≤ h0.size) (V1 : own_By Z h0 b1 k1 xs) (V2 : own_By Z h0 b2 k2 ys) :
    MetFree l (⟨"java/lang/StringLatin1", "equals", "([B[B)Z"⟩ : MethodName) (head1 (Jvm.Cond.code (⟨"java/lang/StringLatin1", "equals", "([B[B)Z"⟩ : MethodName) jdk_43_method_13_code 3 (some .boolean) :: ws) ({ frames := 0, cells := 0, slots := 0, locals := 0 } : Room)) (fun a U => a = #[(.ref b1), (.ref b2)] ∧ Z.Warmed39 U.vm ∧ U.heap = h0) (fun _ _ _ _ _ => True) (fun _ U o U' => ∃ v L, o = .returned v ∧ Q14 Z b1 b2 k1 k2 xs ys h0 n0 v U'.heap L ∧ FrameEnd U o U' L ({ frames := 0, cells := 0, slots := 0, locals := 0 } : Room).cells ({ frames := 0, cells := 0, slots := 0, locals := 0 } : Room).slots) := by
  refine MetFree.of_bodySF (plainFor_of_name pn_14) hisR ?_
  intro p e s m args below meth c s₁ Bd hml0 hP hK
  obtain ⟨rfl, hZ, hh⟩ := hP
  have hx := Bd.exec
  have hby := Bd.bytes
  have hml : c.maxLocals = 3 := hml0
  have hown : s.vm.findClass "java/lang/StringLatin1" = some m.cls := findClass_of_methodNamed Bd.named
  have hnm := (name_of_methodNamed Bd.named Bd.method).1
  have hlk := BodyLoose.notSynchronized Bd
  have hrt := Bd.returns
  have X0 : Stand p l e ({ frames := 0, cells := 0, slots := 0, locals := 0 } : Room) s m #[(.ref b1), (.ref b2)] below meth c s₁ [] 0 0 := Stand.of_body Bd
  have e0 : s₁.heap = h0 := by rw [← hh, Bd.state]; rfl
  have N0 := Fr.nil n0
  show OEnds p e below s (Q14 Z b1 b2 k1 k2 xs ys h0 n0) ({ frames := 0, cells := 0, slots := 0, locals := 0 } : Room).cells ({ frames := 0, cells := 0, slots := 0, locals := 0 } : Room).slots (s₁.setTop (entryFrame m #[(.ref b1), (.ref b2)] 3))
  refine OEnds.go (t' := s₁.setTop (mkF m 0 #[.val (.ref b1), .val (.ref b2), .unset] [])) (fun t k => castTop (ef_rm14 m b1 b2) k) ?_
  refine OEnds.go (t' := s₁.setTop (mkF m 1 #[.val (.ref b1), .val (.ref b2), .unset] [(.ref b1)])) (fun _ k => ?_) ?_
  · show Steps p.tables e below (s₁.setTop (mkF m 0 #[.val (.ref b1), .val (.ref b2), .unset] [])) _
    refine XS.aloadN X0.here hx rfl (hb hby d14_0) rfl rfl ?_
    show Steps p.tables e below (s₁.setTop (mkF m 1 #[.val (.ref b1), .val (.ref b2), .unset] [(.ref b1)])) _
    exact k
  obtain ⟨cl1, Ar1, hl1⟩ := own_blen V1
  refine OEnds.go (t' := s₁.setTop (mkF m 2 #[.val (.ref b1), .val (.ref b2), .unset] [(.int cl1.slots.size.toInt32)])) (fun _ k => X0.arraylength hx (by rw [e0]; exact Ar1.1) (State.isArrayOf_alike hZ.alike Ar1.2.1) (g := (mkF m 1 #[.val (.ref b1), .val (.ref b2), .unset] [(.ref b1)])) rfl rfl (hb hby d14_1) _ k) ?_
  rw [hl1]
  refine OEnds.go (t' := s₁.setTop (mkF m 3 #[.val (.ref b1), .val (.ref b2), .unset] [(.ref b2), (.int (Int32.ofNat xs.length))])) (fun _ k => ?_) ?_
  · show Steps p.tables e below (s₁.setTop (mkF m 2 #[.val (.ref b1), .val (.ref b2), .unset] [(.int (Int32.ofNat xs.length))])) _
    refine XS.aloadN X0.here hx rfl (hb hby d14_2) rfl rfl ?_
    show Steps p.tables e below (s₁.setTop (mkF m 3 #[.val (.ref b1), .val (.ref b2), .unset] [(.ref b2), (.int (Int32.ofNat xs.length))])) _
    exact k
  obtain ⟨cl2, Ar2, hl2⟩ := own_blen V2
  refine OEnds.go (t' := s₁.setTop (mkF m 4 #[.val (.ref b1), .val (.ref b2), .unset] [(.int cl2.slots.size.toInt32), (.int (Int32.ofNat xs.length))])) (fun _ k => X0.arraylength hx (by rw [e0]; exact Ar2.1) (State.isArrayOf_alike hZ.alike Ar2.2.1) (g := (mkF m 3 #[.val (.ref b1), .val (.ref b2), .unset] [(.ref b2), (.int (Int32.ofNat xs.length))])) rfl rfl (hb hby d14_3) _ k) ?_
  rw [hl2]
  by_cases h4 : (Int32.ofNat xs.length) = (Int32.ofNat ys.length)
  · refine OEnds.go (t' := s₁.setTop (mkF m 7 #[.val (.ref b1), .val (.ref b2), .unset] [])) (fun _ k => XS.icmpNo X0.here hx rfl (hb hby d14_4) rfl (teq h4).2 k) ?_
    have hlen : xs.length = ys.length := own_ofNat_inj V1.2 V2.2 h4
    refine OEnds.cut (fun En => ∀ (d i : Nat), i + d = xs.length → (∀ j, j < i → xs.getD j 0 = ys.getD j 0) → En (s₁.setTop (mkF m 9 #[.val (.ref b1), .val (.ref b2), .val (.int (Int32.ofNat i))] []))) ?_ (fun K9 => ?_)
    · intro d
      induction d with
      | zero => 
        intro i hi ht
        refine OEnds.go (t' := s₁.setTop (mkF m 11 #[.val (.ref b1), .val (.ref b2), .val (.int (Int32.ofNat i))] [(.ref b1), (.int (Int32.ofNat i))])) (fun _ k => ?_) ?_
        · show Steps p.tables e below (s₁.setTop (mkF m 9 #[.val (.ref b1), .val (.ref b2), .val (.int (Int32.ofNat i))] [])) _
          refine XS.iloadN X0.here hx rfl (hb hby d14_9) rfl ?_
          show Steps p.tables e below (s₁.setTop (mkF m 10 #[.val (.ref b1), .val (.ref b2), .val (.int (Int32.ofNat i))] [(.int (Int32.ofNat i))])) _
          refine XS.aloadN X0.here hx rfl (hb hby d14_10) rfl rfl ?_
          show Steps p.tables e below (s₁.setTop (mkF m 11 #[.val (.ref b1), .val (.ref b2), .val (.int (Int32.ofNat i))] [(.ref b1), (.int (Int32.ofNat i))])) _
          exact k
        obtain ⟨cl3, Ar3, hl3⟩ := own_blen V1
        refine OEnds.go (t' := s₁.setTop (mkF m 12 #[.val (.ref b1), .val (.ref b2), .val (.int (Int32.ofNat i))] [(.int cl3.slots.size.toInt32), (.int (Int32.ofNat i))])) (fun _ k => X0.arraylength hx (by rw [e0]; exact Ar3.1) (State.isArrayOf_alike hZ.alike Ar3.2.1) (g := (mkF m 11 #[.val (.ref b1), .val (.ref b2), .val (.int (Int32.ofNat i))] [(.ref b1), (.int (Int32.ofNat i))])) rfl rfl (hb hby d14_11) _ k) ?_
        rw [hl3]
        refine OEnds.go (t' := s₁.setTop (mkF m 32 #[.val (.ref b1), .val (.ref b2), .val (.int (Int32.ofNat i))] [])) (fun _ k => XS.icmpYes X0.here hx rfl (pc0 := 12) (pc' := 32) rfl (hb hby d14_12) rfl (flt (fun q => absurd ((own_ofNat_lt (by have := V1.2; omega) V1.2).mp q) (by omega))).2.1 (by decide) (by decide) k) ?_
        refine OEnds.go (t' := s₁.setTop (mkF m 33 #[.val (.ref b1), .val (.ref b2), .val (.int (Int32.ofNat i))] [(.int (1 : Int32))])) (fun _ k => ?_) ?_
        · show Steps p.tables e below (s₁.setTop (mkF m 32 #[.val (.ref b1), .val (.ref b2), .val (.int (Int32.ofNat i))] [])) _
          refine XS.iconst X0.here hx rfl (hb hby d14_32) ?_
          show Steps p.tables e below (s₁.setTop (mkF m 33 #[.val (.ref b1), .val (.ref b2), .val (.int (Int32.ofNat i))] [(.int (1 : Int32))])) _
          exact k
        refine OEnds.back X0 hlk (v := (some (.int (1 : Int32)))) (fun h => by rw [hrt] at h; cases h) (fun fs hr => ?_) ?_ (by decide) (by decide)
        · exact retN X0 hx (t := .boolean) hrt (by simp) (hb hby d14_33) hr
        · show Q14 Z b1 b2 k1 k2 xs ys h0 n0 _ s₁.heap _
          rw [e0]
          exact ⟨by rw [own_eqL, if_pos (own_list_ext hlen (fun j hj => ht j (by omega)))], N0, rfl⟩
      | succ d ih => 
        intro i hi ht
        refine OEnds.go (t' := s₁.setTop (mkF m 11 #[.val (.ref b1), .val (.ref b2), .val (.int (Int32.ofNat i))] [(.ref b1), (.int (Int32.ofNat i))])) (fun _ k => ?_) ?_
        · show Steps p.tables e below (s₁.setTop (mkF m 9 #[.val (.ref b1), .val (.ref b2), .val (.int (Int32.ofNat i))] [])) _
          refine XS.iloadN X0.here hx rfl (hb hby d14_9) rfl ?_
          show Steps p.tables e below (s₁.setTop (mkF m 10 #[.val (.ref b1), .val (.ref b2), .val (.int (Int32.ofNat i))] [(.int (Int32.ofNat i))])) _
          refine XS.aloadN X0.here hx rfl (hb hby d14_10) rfl rfl ?_
          show Steps p.tables e below (s₁.setTop (mkF m 11 #[.val (.ref b1), .val (.ref b2), .val (.int (Int32.ofNat i))] [(.ref b1), (.int (Int32.ofNat i))])) _
          exact k
        obtain ⟨cl4, Ar4, hl4⟩ := own_blen V1
        refine OEnds.go (t' := s₁.setTop (mkF m 12 #[.val (.ref b1), .val (.ref b2), .val (.int (Int32.ofNat i))] [(.int cl4.slots.size.toInt32), (.int (Int32.ofNat i))])) (fun _ k => X0.arraylength hx (by rw [e0]; exact Ar4.1) (State.isArrayOf_alike hZ.alike Ar4.2.1) (g := (mkF m 11 #[.val (.ref b1), .val (.ref b2), .val (.int (Int32.ofNat i))] [(.ref b1), (.int (Int32.ofNat i))])) rfl rfl (hb hby d14_11) _ k) ?_
        rw [hl4]
        refine OEnds.go (t' := s₁.setTop (mkF m 15 #[.val (.ref b1), .val (.ref b2), .val (.int (Int32.ofNat i))] [])) (fun _ k => XS.icmpNo X0.here hx rfl (hb hby d14_12) rfl (tlt ((own_ofNat_lt (by have := V1.2; omega) V1.2).mpr (by omega))).2.1 k) ?_
        refine OEnds.go (t' := s₁.setTop (mkF m 17 #[.val (.ref b1), .val (.ref b2), .val (.int (Int32.ofNat i))] [(.int (Int32.ofNat i)), (.ref b1)])) (fun _ k => ?_) ?_
        · show Steps p.tables e below (s₁.setTop (mkF m 15 #[.val (.ref b1), .val (.ref b2), .val (.int (Int32.ofNat i))] [])) _
          refine XS.aloadN X0.here hx rfl (hb hby d14_15) rfl rfl ?_
          show Steps p.tables e below (s₁.setTop (mkF m 16 #[.val (.ref b1), .val (.ref b2), .val (.int (Int32.ofNat i))] [(.ref b1)])) _
          refine XS.iloadN X0.here hx rfl (hb hby d14_16) rfl ?_
          show Steps p.tables e below (s₁.setTop (mkF m 17 #[.val (.ref b1), .val (.ref b2), .val (.int (Int32.ofNat i))] [(.int (Int32.ofNat i)), (.ref b1)])) _
          exact k
        obtain ⟨cl5, Ar5, hin5, hat5⟩ := own_byte V1 (i := i) (by omega)
        refine OEnds.go (t' := s₁.setTop (mkF m 18 #[.val (.ref b1), .val (.ref b2), .val (.int (Int32.ofNat i))] [(.int (xs.getD i 0))])) (fun _ k => X0.baloadBytes hx (j := (Int32.ofNat i)) (v := (.int (xs.getD i 0))) (by rw [e0]; exact Ar5.1) (State.isArrayOf_alike hZ.alike Ar5.2.1) Ar5.2.2 hin5 hat5 (g := (mkF m 17 #[.val (.ref b1), .val (.ref b2), .val (.int (Int32.ofNat i))] [(.int (Int32.ofNat i)), (.ref b1)])) rfl rfl (hb hby d14_17) _ k) ?_
        refine OEnds.go (t' := s₁.setTop (mkF m 20 #[.val (.ref b1), .val (.ref b2), .val (.int (Int32.ofNat i))] [(.int (Int32.ofNat i)), (.ref b2), (.int (xs.getD i 0))])) (fun _ k => ?_) ?_
        · show Steps p.tables e below (s₁.setTop (mkF m 18 #[.val (.ref b1), .val (.ref b2), .val (.int (Int32.ofNat i))] [(.int (xs.getD i 0))])) _
          refine XS.aloadN X0.here hx rfl (hb hby d14_18) rfl rfl ?_
          show Steps p.tables e below (s₁.setTop (mkF m 19 #[.val (.ref b1), .val (.ref b2), .val (.int (Int32.ofNat i))] [(.ref b2), (.int (xs.getD i 0))])) _
          refine XS.iloadN X0.here hx rfl (hb hby d14_19) rfl ?_
          show Steps p.tables e below (s₁.setTop (mkF m 20 #[.val (.ref b1), .val (.ref b2), .val (.int (Int32.ofNat i))] [(.int (Int32.ofNat i)), (.ref b2), (.int (xs.getD i 0))])) _
          exact k
        obtain ⟨cl6, Ar6, hin6, hat6⟩ := own_byte V2 (i := i) (by omega)
        refine OEnds.go (t' := s₁.setTop (mkF m 21 #[.val (.ref b1), .val (.ref b2), .val (.int (Int32.ofNat i))] [(.int (ys.getD i 0)), (.int (xs.getD i 0))])) (fun _ k => X0.baloadBytes hx (j := (Int32.ofNat i)) (v := (.int (ys.getD i 0))) (by rw [e0]; exact Ar6.1) (State.isArrayOf_alike hZ.alike Ar6.2.1) Ar6.2.2 hin6 hat6 (g := (mkF m 20 #[.val (.ref b1), .val (.ref b2), .val (.int (Int32.ofNat i))] [(.int (Int32.ofNat i)), (.ref b2), (.int (xs.getD i 0))])) rfl rfl (hb hby d14_20) _ k) ?_
        by_cases h21 : (xs.getD i 0) = (ys.getD i 0)
        · refine OEnds.go (t' := s₁.setTop (mkF m 26 #[.val (.ref b1), .val (.ref b2), .val (.int (Int32.ofNat i))] [])) (fun _ k => XS.icmpYes X0.here hx rfl (pc0 := 21) (pc' := 26) rfl (hb hby d14_21) rfl (teq h21).1 (by decide) (by decide) k) ?_
          refine OEnds.go (t' := s₁.setTop (mkF m 9 #[.val (.ref b1), .val (.ref b2), .val (.int ((Int32.ofNat i) + (1 : Int32)))] [])) (fun _ k => ?_) ?_
          · show Steps p.tables e below (s₁.setTop (mkF m 26 #[.val (.ref b1), .val (.ref b2), .val (.int (Int32.ofNat i))] [])) _
            refine XS.iinc X0.here hx rfl (hb hby d14_26) rfl (l' := #[.val (.ref b1), .val (.ref b2), .val (.int ((Int32.ofNat i) + (1 : Int32)))]) rfl ?_
            show Steps p.tables e below (s₁.setTop (mkF m 29 #[.val (.ref b1), .val (.ref b2), .val (.int ((Int32.ofNat i) + (1 : Int32)))] [])) _
            refine XS.goto X0.here hx rfl (pc0 := 29) (pc' := 9) rfl (hb hby d14_29) (by decide) (by decide) ?_
            show Steps p.tables e below (s₁.setTop (mkF m 9 #[.val (.ref b1), .val (.ref b2), .val (.int ((Int32.ofNat i) + (1 : Int32)))] [])) _
            exact k
          rw [own_succ]
          exact ih (i + 1) (by omega) (fun j hj => by
            by_cases e : j = i
            · rw [e]; exact h21
            · exact ht j (by omega))
        · refine OEnds.go (t' := s₁.setTop (mkF m 24 #[.val (.ref b1), .val (.ref b2), .val (.int (Int32.ofNat i))] [])) (fun _ k => XS.icmpNo X0.here hx rfl (hb hby d14_21) rfl (feq h21).1 k) ?_
          refine OEnds.go (t' := s₁.setTop (mkF m 25 #[.val (.ref b1), .val (.ref b2), .val (.int (Int32.ofNat i))] [(.int (0 : Int32))])) (fun _ k => ?_) ?_
          · show Steps p.tables e below (s₁.setTop (mkF m 24 #[.val (.ref b1), .val (.ref b2), .val (.int (Int32.ofNat i))] [])) _
            refine XS.iconst X0.here hx rfl (hb hby d14_24) ?_
            show Steps p.tables e below (s₁.setTop (mkF m 25 #[.val (.ref b1), .val (.ref b2), .val (.int (Int32.ofNat i))] [(.int (0 : Int32))])) _
            exact k
          refine OEnds.back X0 hlk (v := (some (.int (0 : Int32)))) (fun h => by rw [hrt] at h; cases h) (fun fs hr => ?_) ?_ (by decide) (by decide)
          · exact retN X0 hx (t := .boolean) hrt (by simp) (hb hby d14_25) hr
          · show Q14 Z b1 b2 k1 k2 xs ys h0 n0 _ s₁.heap _
            rw [e0]
            exact ⟨by rw [own_eqL, if_neg (fun q => h21 (by rw [q]))], N0, rfl⟩
    refine OEnds.go (t' := s₁.setTop (mkF m 9 #[.val (.ref b1), .val (.ref b2), .val (.int (0 : Int32))] [])) (fun _ k => ?_) ?_
    · show Steps p.tables e below (s₁.setTop (mkF m 7 #[.val (.ref b1), .val (.ref b2), .unset] [])) _
      refine XS.iconst X0.here hx rfl (hb hby d14_7) ?_
      show Steps p.tables e below (s₁.setTop (mkF m 8 #[.val (.ref b1), .val (.ref b2), .unset] [(.int (0 : Int32))])) _
      refine XS.istoreN X0.here hx rfl (hb hby d14_8) rfl (l' := #[.val (.ref b1), .val (.ref b2), .val (.int (0 : Int32))]) rfl ?_
      show Steps p.tables e below (s₁.setTop (mkF m 9 #[.val (.ref b1), .val (.ref b2), .val (.int (0 : Int32))] [])) _
      exact k
    exact K9 xs.length 0 (by omega) (fun j hj => absurd hj (Nat.not_lt_zero j))
  · refine OEnds.go (t' := s₁.setTop (mkF m 34 #[.val (.ref b1), .val (.ref b2), .unset] [])) (fun _ k => XS.icmpYes X0.here hx rfl (pc0 := 4) (pc' := 34) rfl (hb hby d14_4) rfl (feq h4).2 (by decide) (by decide) k) ?_
    refine OEnds.go (t' := s₁.setTop (mkF m 35 #[.val (.ref b1), .val (.ref b2), .unset] [(.int (0 : Int32))])) (fun _ k => ?_) ?_
    · show Steps p.tables e below (s₁.setTop (mkF m 34 #[.val (.ref b1), .val (.ref b2), .unset] [])) _
      refine XS.iconst X0.here hx rfl (hb hby d14_34) ?_
      show Steps p.tables e below (s₁.setTop (mkF m 35 #[.val (.ref b1), .val (.ref b2), .unset] [(.int (0 : Int32))])) _
      exact k
    refine OEnds.back X0 hlk (v := (some (.int (0 : Int32)))) (fun h => by rw [hrt] at h; cases h) (fun fs hr => ?_) ?_ (by decide) (by decide)
    · exact retN X0 hx (t := .boolean) hrt (by simp) (hb hby d14_35) hr
    · show Q14 Z b1 b2 k1 k2 xs ys h0 n0 _ s₁.heap _
      rw [e0]
      exact ⟨by rw [own_eqL, if_neg (fun q => h4 (by rw [q]))], N0, rfl⟩
theorem d13_0 : decode jdk_42_method_66_code 0 = .ok (.aload_n 0, 1) := by decide +kernel
theorem d13_1 : decode jdk_42_method_66_code 1 = .ok (.aload_n 1, 1) := by decide +kernel
theorem d13_2 : decode jdk_42_method_66_code 2 = .ok (.if_acmp .ne 5, 3) := by decide +kernel
theorem d13_5 : decode jdk_42_method_66_code 5 = .ok (.iconst 1, 1) := by decide +kernel
theorem d13_6 : decode jdk_42_method_66_code 6 = .ok (.ireturn, 1) := by decide +kernel
theorem d13_7 : decode jdk_42_method_66_code 7 = .ok (.aload_n 1, 1) := by decide +kernel
theorem d13_8 : decode jdk_42_method_66_code 8 = .ok (.instanceof 10, 3) := by decide +kernel
theorem d13_11 : decode jdk_42_method_66_code 11 = .ok (.ifCond .eq 43, 3) := by decide +kernel
theorem d13_14 : decode jdk_42_method_66_code 14 = .ok (.aload_n 1, 1) := by decide +kernel
theorem d13_15 : decode jdk_42_method_66_code 15 = .ok (.checkcast 10, 3) := by decide +kernel
theorem d13_18 : decode jdk_42_method_66_code 18 = .ok (.astore_n 2, 1) := by decide +kernel
theorem d13_19 : decode jdk_42_method_66_code 19 = .ok (.getstatic 38, 3) := by decide +kernel
theorem d13_22 : decode jdk_42_method_66_code 22 = .ok (.ifCond .eq 14, 3) := by decide +kernel
theorem d13_25 : decode jdk_42_method_66_code 25 = .ok (.aload_n 0, 1) := by decide +kernel
theorem d13_26 : decode jdk_42_method_66_code 26 = .ok (.getfield 15, 3) := by decide +kernel
theorem d13_29 : decode jdk_42_method_66_code 29 = .ok (.aload_n 2, 1) := by decide +kernel
theorem d13_30 : decode jdk_42_method_66_code 30 = .ok (.getfield 15, 3) := by decide +kernel
theorem d13_33 : decode jdk_42_method_66_code 33 = .ok (.if_icmp .ne 21, 3) := by decide +kernel
theorem d13_36 : decode jdk_42_method_66_code 36 = .ok (.aload_n 0, 1) := by decide +kernel
theorem d13_37 : decode jdk_42_method_66_code 37 = .ok (.getfield 9, 3) := by decide +kernel
theorem d13_40 : decode jdk_42_method_66_code 40 = .ok (.aload_n 2, 1) := by decide +kernel
theorem d13_41 : decode jdk_42_method_66_code 41 = .ok (.getfield 9, 3) := by decide +kernel
theorem d13_44 : decode jdk_42_method_66_code 44 = .ok (.invokestatic 541, 3) := by decide +kernel
theorem d13_47 : decode jdk_42_method_66_code 47 = .ok (.ifCond .eq 7, 3) := by decide +kernel
theorem d13_50 : decode jdk_42_method_66_code 50 = .ok (.iconst 1, 1) := by decide +kernel
theorem d13_51 : decode jdk_42_method_66_code 51 = .ok (.goto 4, 3) := by decide +kernel
theorem d13_54 : decode jdk_42_method_66_code 54 = .ok (.iconst 0, 1) := by decide +kernel
theorem d13_55 : decode jdk_42_method_66_code 55 = .ok (.ireturn, 1) := by decide +kernel
theorem pn_13 : plainName "java/lang/String" = true := by first | (simp [plainName, overriddenIn]; done) | decide +kernel
theorem pd_rm13_0 : parseMethodDescriptor "([B[B)Z" = some ⟨[(.array .byte), (.array .byte)], some .boolean⟩ := by decide +kernel
theorem ef_rm13 (m : MethodId) (a1 : Addr) (a2 : Addr) : entryFrame m #[(.ref a1), (.ref a2)] 3 = mkF m 0 #[.val (.ref a1), .val (.ref a2), .unset] [] := by first | (simp [entryFrame, mkF, argsToLocals, Value.category]; done) | rfl
def Q13 (Z : State) (a1 : Addr) (a2 : Addr) (w1 : Int32) (b1 : Addr) (b2 : Addr) (k1 : ClassId) (k2 : ClassId) (xs : List Int32) (ys : List Int32) (h0 : Heap) (n0 : Nat) (v : Option Value) (h : Heap) (L : List Loc) : Prop := v = some (.int (own_eqL xs ys)) ∧ Fr n0 L ∧ h = h0
set_option maxRecDepth 65536 in
set_option maxHeartbeats 40000000 in
theorem rm13 (l : Launch) (Z : State) (a0 : Array Value) (hw : ∀ d ∈ tables_1, d.before a0 Z = true) (ws : List Jvm.Cond) (a1 : Addr) (a2 : Addr) (w1 : Int32) (b1 : Addr) (b2 : Addr) (k1 : ClassId) (k2 : ClassId) (xs : List Int32) (ys : List Int32) (h0 : Heap) (n0 : Nat) (Z0 : n0 ≤ h0.size) (S_C : Sta Z h0 "java/lang/String" "COMPACT_STRINGS" "Z" (.int w1)) (c0 : ¬ w1 = 0) (S1 : own_S Z h0 a1 b1 k1 xs) (S2 : own_S Z h0 a2 b2 k2 ys) :
    MetFree l (⟨"java/lang/String", "equals", "(Ljava/lang/Object;)Z"⟩ : MethodName) (head1 (Jvm.Cond.code (⟨"java/lang/String", "equals", "(Ljava/lang/Object;)Z"⟩ : MethodName) jdk_42_method_66_code 3 (some .boolean) :: ws) ({ frames := 1, cells := 0, slots := 0, locals := 14 } : Room)) (fun a U => a = #[(.ref a1), (.ref a2)] ∧ Z.Warmed39 U.vm ∧ U.heap = h0) (fun _ _ _ _ _ => True) (fun _ U o U' => ∃ v L, o = .returned v ∧ Q13 Z a1 a2 w1 b1 b2 k1 k2 xs ys h0 n0 v U'.heap L ∧ FrameEnd U o U' L ({ frames := 1, cells := 0, slots := 0, locals := 14 } : Room).cells ({ frames := 1, cells := 0, slots := 0, locals := 14 } : Room).slots) := by
  refine MetFree.of_bodySF (plainFor_of_name pn_13) hisR ?_
  intro p e s m args below meth c s₁ Bd hml0 hP hK
  obtain ⟨rfl, hZ, hh⟩ := hP
  have hx := Bd.exec
  have hby := Bd.bytes
  have hml : c.maxLocals = 3 := hml0
  have hown : s.vm.findClass "java/lang/String" = some m.cls := findClass_of_methodNamed Bd.named
  have hnm := (name_of_methodNamed Bd.named Bd.method).1
  have hlk := BodyLoose.notSynchronized Bd
  have hrt := Bd.returns
  have X0 : Stand p l e ({ frames := 1, cells := 0, slots := 0, locals := 14 } : Room) s m #[(.ref a1), (.ref a2)] below meth c s₁ [] 0 0 := Stand.of_body Bd
  have e0 : s₁.heap = h0 := by rw [← hh, Bd.state]; rfl
  have N0 := Fr.nil n0
  show OEnds p e below s (Q13 Z a1 a2 w1 b1 b2 k1 k2 xs ys h0 n0) ({ frames := 1, cells := 0, slots := 0, locals := 14 } : Room).cells ({ frames := 1, cells := 0, slots := 0, locals := 14 } : Room).slots (s₁.setTop (entryFrame m #[(.ref a1), (.ref a2)] 3))
  refine OEnds.go (t' := s₁.setTop (mkF m 0 #[.val (.ref a1), .val (.ref a2), .unset] [])) (fun t k => castTop (ef_rm13 m a1 a2) k) ?_
  refine OEnds.go (t' := s₁.setTop (mkF m 2 #[.val (.ref a1), .val (.ref a2), .unset] [(.ref a2), (.ref a1)])) (fun _ k => ?_) ?_
  · show Steps p.tables e below (s₁.setTop (mkF m 0 #[.val (.ref a1), .val (.ref a2), .unset] [])) _
    refine XS.aloadN X0.here hx rfl (hb hby d13_0) rfl rfl ?_
    show Steps p.tables e below (s₁.setTop (mkF m 1 #[.val (.ref a1), .val (.ref a2), .unset] [(.ref a1)])) _
    refine XS.aloadN X0.here hx rfl (hb hby d13_1) rfl rfl ?_
    show Steps p.tables e below (s₁.setTop (mkF m 2 #[.val (.ref a1), .val (.ref a2), .unset] [(.ref a2), (.ref a1)])) _
    exact k
  by_cases h2 : a1 = a2
  · refine OEnds.go (t' := s₁.setTop (mkF m 5 #[.val (.ref a1), .val (.ref a2), .unset] [])) (fun _ k => Jvm.RoadKit.acmp (g := (mkF m 2 #[.val (.ref a1), .val (.ref a2), .unset] [(.ref a2), (.ref a1)])) X0 hx rfl rfl rfl (pc0 := 2) (pc' := 5) (same := true) rfl (hb hby d13_2) rfl (decide_eq_true (congrArg Value.ref h2)) (by decide) (by decide) k) ?_
    refine OEnds.go (t' := s₁.setTop (mkF m 6 #[.val (.ref a1), .val (.ref a2), .unset] [(.int (1 : Int32))])) (fun _ k => ?_) ?_
    · show Steps p.tables e below (s₁.setTop (mkF m 5 #[.val (.ref a1), .val (.ref a2), .unset] [])) _
      refine XS.iconst X0.here hx rfl (hb hby d13_5) ?_
      show Steps p.tables e below (s₁.setTop (mkF m 6 #[.val (.ref a1), .val (.ref a2), .unset] [(.int (1 : Int32))])) _
      exact k
    refine OEnds.back X0 hlk (v := (some (.int (1 : Int32)))) (fun h => by rw [hrt] at h; cases h) (fun fs hr => ?_) ?_ (by decide) (by decide)
    · exact retN X0 hx (t := .boolean) hrt (by simp) (hb hby d13_6) hr
    · show Q13 Z a1 a2 w1 b1 b2 k1 k2 xs ys h0 n0 _ s₁.heap _
      rw [e0]
      exact ⟨by subst h2; rw [own_eqL, if_pos (S1.same S2)], N0, rfl⟩
  · refine OEnds.go (t' := s₁.setTop (mkF m 7 #[.val (.ref a1), .val (.ref a2), .unset] [])) (fun _ k => Jvm.RoadKit.acmp (g := (mkF m 2 #[.val (.ref a1), .val (.ref a2), .unset] [(.ref a2), (.ref a1)])) X0 hx rfl rfl rfl (pc0 := 2) (pc' := 7) (same := false) rfl (hb hby d13_2) rfl (decide_eq_false fun q => h2 (Value.ref.inj q)) (by decide) (by decide) k) ?_
    refine OEnds.go (t' := s₁.setTop (mkF m 8 #[.val (.ref a1), .val (.ref a2), .unset] [(.ref a2)])) (fun _ k => ?_) ?_
    · show Steps p.tables e below (s₁.setTop (mkF m 7 #[.val (.ref a1), .val (.ref a2), .unset] [])) _
      refine XS.aloadN X0.here hx rfl (hb hby d13_7) rfl rfl ?_
      show Steps p.tables e below (s₁.setTop (mkF m 8 #[.val (.ref a1), .val (.ref a2), .unset] [(.ref a2)])) _
      exact k
    obtain ⟨T1, X1, e1, st1⟩ := instY X0 hx hZ hown (hw _ (List.mem_of_getElem? (i := 88) rfl)) e0 (Ins.self S2.1) (g := (mkF m 8 #[.val (.ref a1), .val (.ref a2), .unset] [(.ref a2)])) rfl rfl (hb hby d13_8)
    refine OEnds.go (t' := T1.setTop (mkF m 11 #[.val (.ref a1), .val (.ref a2), .unset] [(.int (1 : Int32))])) (fun _ k => st1 _ k) ?_
    refine OEnds.go (t' := T1.setTop (mkF m 14 #[.val (.ref a1), .val (.ref a2), .unset] [])) (fun _ k => XS.ifNo X1.here hx rfl (hb hby d13_11) rfl ((if0 _ _).trans (feq (by decide)).1) k) ?_
    refine OEnds.go (t' := T1.setTop (mkF m 15 #[.val (.ref a1), .val (.ref a2), .unset] [(.ref a2)])) (fun _ k => ?_) ?_
    · show Steps p.tables e below (T1.setTop (mkF m 14 #[.val (.ref a1), .val (.ref a2), .unset] [])) _
      refine XS.aloadN X1.here hx rfl (hb hby d13_14) rfl rfl ?_
      show Steps p.tables e below (T1.setTop (mkF m 15 #[.val (.ref a1), .val (.ref a2), .unset] [(.ref a2)])) _
      exact k
    obtain ⟨T2, X2, e2, st2⟩ := castY X1 hx hZ hown (hw _ (List.mem_of_getElem? (i := 88) rfl)) e1 (Ins.self S2.1) (g := (mkF m 15 #[.val (.ref a1), .val (.ref a2), .unset] [(.ref a2)])) rfl rfl (hb hby d13_15)
    refine OEnds.go (t' := T2.setTop (mkF m 18 #[.val (.ref a1), .val (.ref a2), .unset] [(.ref a2)])) (fun _ k => st2 _ k) ?_
    refine OEnds.go (t' := T2.setTop (mkF m 19 #[.val (.ref a1), .val (.ref a2), .val (.ref a2)] [])) (fun _ k => ?_) ?_
    · show Steps p.tables e below (T2.setTop (mkF m 18 #[.val (.ref a1), .val (.ref a2), .unset] [(.ref a2)])) _
      refine XS.astoreN X2.here hx rfl (hb hby d13_18) rfl rfl (l' := #[.val (.ref a1), .val (.ref a2), .val (.ref a2)]) rfl ?_
      show Steps p.tables e below (T2.setTop (mkF m 19 #[.val (.ref a1), .val (.ref a2), .val (.ref a2)] [])) _
      exact k
    obtain ⟨T3, X3, e3, st3⟩ := getS2 X2 hx hZ hown (host := "") (Or.inl (hw _ (List.mem_of_getElem? (i := 89) rfl))) Via.refl e2 S_C (g := (mkF m 19 #[.val (.ref a1), .val (.ref a2), .val (.ref a2)] [])) rfl (hb hby d13_19)
    refine OEnds.go (t' := T3.setTop (mkF m 22 #[.val (.ref a1), .val (.ref a2), .val (.ref a2)] [(.int w1)])) (fun _ k => st3 _ k) ?_
    refine OEnds.go (t' := T3.setTop (mkF m 25 #[.val (.ref a1), .val (.ref a2), .val (.ref a2)] [])) (fun _ k => XS.ifNo X3.here hx rfl (hb hby d13_22) rfl ((if0 _ _).trans (feq c0).1) k) ?_
    refine OEnds.go (t' := T3.setTop (mkF m 26 #[.val (.ref a1), .val (.ref a2), .val (.ref a2)] [(.ref a1)])) (fun _ k => ?_) ?_
    · show Steps p.tables e below (T3.setTop (mkF m 25 #[.val (.ref a1), .val (.ref a2), .val (.ref a2)] [])) _
      refine XS.aloadN X3.here hx rfl (hb hby d13_25) rfl rfl ?_
      show Steps p.tables e below (T3.setTop (mkF m 26 #[.val (.ref a1), .val (.ref a2), .val (.ref a2)] [(.ref a1)])) _
      exact k
    obtain ⟨T4, X4, e4, st4⟩ := getF X3 hx hZ hown (host := "") (Or.inl (hw _ (List.mem_of_getElem? (i := 28) rfl))) Via.refl e3 S1.2.1 (g := (mkF m 26 #[.val (.ref a1), .val (.ref a2), .val (.ref a2)] [(.ref a1)])) rfl rfl (hb hby d13_26)
    refine OEnds.go (t' := T4.setTop (mkF m 29 #[.val (.ref a1), .val (.ref a2), .val (.ref a2)] [(.int (0 : Int32))])) (fun _ k => st4 _ k) ?_
    refine OEnds.go (t' := T4.setTop (mkF m 30 #[.val (.ref a1), .val (.ref a2), .val (.ref a2)] [(.ref a2), (.int (0 : Int32))])) (fun _ k => ?_) ?_
    · show Steps p.tables e below (T4.setTop (mkF m 29 #[.val (.ref a1), .val (.ref a2), .val (.ref a2)] [(.int (0 : Int32))])) _
      refine XS.aloadN X4.here hx rfl (hb hby d13_29) rfl rfl ?_
      show Steps p.tables e below (T4.setTop (mkF m 30 #[.val (.ref a1), .val (.ref a2), .val (.ref a2)] [(.ref a2), (.int (0 : Int32))])) _
      exact k
    obtain ⟨T5, X5, e5, st5⟩ := getF X4 hx hZ hown (host := "") (Or.inl (hw _ (List.mem_of_getElem? (i := 28) rfl))) Via.refl e4 S2.2.1 (g := (mkF m 30 #[.val (.ref a1), .val (.ref a2), .val (.ref a2)] [(.ref a2), (.int (0 : Int32))])) rfl rfl (hb hby d13_30)
    refine OEnds.go (t' := T5.setTop (mkF m 33 #[.val (.ref a1), .val (.ref a2), .val (.ref a2)] [(.int (0 : Int32)), (.int (0 : Int32))])) (fun _ k => st5 _ k) ?_
    refine OEnds.go (t' := T5.setTop (mkF m 36 #[.val (.ref a1), .val (.ref a2), .val (.ref a2)] [])) (fun _ k => XS.icmpNo X5.here hx rfl (hb hby d13_33) rfl (teq rfl).2 k) ?_
    refine OEnds.go (t' := T5.setTop (mkF m 37 #[.val (.ref a1), .val (.ref a2), .val (.ref a2)] [(.ref a1)])) (fun _ k => ?_) ?_
    · show Steps p.tables e below (T5.setTop (mkF m 36 #[.val (.ref a1), .val (.ref a2), .val (.ref a2)] [])) _
      refine XS.aloadN X5.here hx rfl (hb hby d13_36) rfl rfl ?_
      show Steps p.tables e below (T5.setTop (mkF m 37 #[.val (.ref a1), .val (.ref a2), .val (.ref a2)] [(.ref a1)])) _
      exact k
    obtain ⟨T6, X6, e6, st6⟩ := getF X5 hx hZ hown (host := "") (Or.inl (hw _ (List.mem_of_getElem? (i := 27) rfl))) Via.refl e5 S1.2.2.1 (g := (mkF m 37 #[.val (.ref a1), .val (.ref a2), .val (.ref a2)] [(.ref a1)])) rfl rfl (hb hby d13_37)
    refine OEnds.go (t' := T6.setTop (mkF m 40 #[.val (.ref a1), .val (.ref a2), .val (.ref a2)] [(.ref b1)])) (fun _ k => st6 _ k) ?_
    refine OEnds.go (t' := T6.setTop (mkF m 41 #[.val (.ref a1), .val (.ref a2), .val (.ref a2)] [(.ref a2), (.ref b1)])) (fun _ k => ?_) ?_
    · show Steps p.tables e below (T6.setTop (mkF m 40 #[.val (.ref a1), .val (.ref a2), .val (.ref a2)] [(.ref b1)])) _
      refine XS.aloadN X6.here hx rfl (hb hby d13_40) rfl rfl ?_
      show Steps p.tables e below (T6.setTop (mkF m 41 #[.val (.ref a1), .val (.ref a2), .val (.ref a2)] [(.ref a2), (.ref b1)])) _
      exact k
    obtain ⟨T7, X7, e7, st7⟩ := getF X6 hx hZ hown (host := "") (Or.inl (hw _ (List.mem_of_getElem? (i := 27) rfl))) Via.refl e6 S2.2.2.1 (g := (mkF m 41 #[.val (.ref a1), .val (.ref a2), .val (.ref a2)] [(.ref a2), (.ref b1)])) rfl rfl (hb hby d13_41)
    refine OEnds.go (t' := T7.setTop (mkF m 44 #[.val (.ref a1), .val (.ref a2), .val (.ref a2)] [(.ref b2), (.ref b1)])) (fun _ k => st7 _ k) ?_
    obtain ⟨_, _, ⟨T8, L8, k8, n8⟩, -, X8, ⟨Lc8, hQ8, l8, y8, z8⟩, st8⟩ := Jvm.LawKit.callS X7 hx (y := (⟨"java/lang/StringLatin1", "equals", "([B[B)Z"⟩ : MethodName)) hown (mvT hZ (hw _ (List.mem_of_getElem? (i := 90) rfl))) (mvT hZ (hw _ (List.mem_of_getElem? (i := 91) rfl))) (mvT hZ (hw _ (List.mem_of_getElem? (i := 92) rfl))) (mvT hZ (hw _ (List.mem_of_getElem? (i := 93) rfl))) (by decide) (backOf (W := 0) (rm14 l Z a0 hw [] b1 b2 k1 k2 xs ys h0 n0 Z0 S1.2.2.2 S2.2.2.2) hZ (hw _ (List.mem_of_getElem? (i := 93) rfl)) (hw _ (List.mem_of_getElem? (i := 92) rfl)) (by decide) (by decide)) (g := (mkF m 44 #[.val (.ref a1), .val (.ref a2), .val (.ref a2)] [(.ref b2), (.ref b1)])) rfl (by rw [hml]; rfl) (argsL := [(.ref b1), (.ref b2)]) (rest := []) (lenOf pd_rm13_0 rfl) rfl (by show 2 * 0 + _ ≤ _; exact Nat.le_of_eq rfl) (hb hby d13_44) (fun _ _ => ⟨rfl, e7, (by decide : 0 + 0 ≤ _), (by decide : 0 + 0 ≤ _)⟩)
    dsimp only [Pt.U, Pt.locs, Pt.cells, Pt.slots] at X8 l8 y8 z8 st8 hQ8
    subst l8 y8 z8
    obtain ⟨rfl, N8q, eh⟩ := hQ8
    have N8 := Fr.app N0 N8q
    have eh8 := eh
    refine OEnds.go (t' := T8.setTop (mkF m 47 #[.val (.ref a1), .val (.ref a2), .val (.ref a2)] [(.int (own_eqL xs ys))])) (fun _ k => st8 _ k) ?_
    by_cases h47 : (own_eqL xs ys) = (0 : Int32)
    · refine OEnds.go (t' := T8.setTop (mkF m 54 #[.val (.ref a1), .val (.ref a2), .val (.ref a2)] [])) (fun _ k => XS.ifYes X8.here hx rfl (pc0 := 47) (pc' := 54) rfl (hb hby d13_47) rfl ((if0 _ _).trans (teq h47).1) (by decide) (by decide) k) ?_
      refine OEnds.go (t' := T8.setTop (mkF m 55 #[.val (.ref a1), .val (.ref a2), .val (.ref a2)] [(.int (0 : Int32))])) (fun _ k => ?_) ?_
      · show Steps p.tables e below (T8.setTop (mkF m 54 #[.val (.ref a1), .val (.ref a2), .val (.ref a2)] [])) _
        refine XS.iconst X8.here hx rfl (hb hby d13_54) ?_
        show Steps p.tables e below (T8.setTop (mkF m 55 #[.val (.ref a1), .val (.ref a2), .val (.ref a2)] [(.int (0 : Int32))])) _
        exact k
      refine OEnds.back X8 hlk (v := (some (.int (0 : Int32)))) (fun h => by rw [hrt] at h; cases h) (fun fs hr => ?_) ?_ (by decide) (by decide)
      · exact retN X8 hx (t := .boolean) hrt (by simp) (hb hby d13_55) hr
      · show Q13 Z a1 a2 w1 b1 b2 k1 k2 xs ys h0 n0 _ T8.heap _
        rw [eh8]
        exact ⟨by rw [h47], N8, rfl⟩
    · refine OEnds.go (t' := T8.setTop (mkF m 50 #[.val (.ref a1), .val (.ref a2), .val (.ref a2)] [])) (fun _ k => XS.ifNo X8.here hx rfl (hb hby d13_47) rfl ((if0 _ _).trans (feq h47).1) k) ?_
      refine OEnds.go (t' := T8.setTop (mkF m 55 #[.val (.ref a1), .val (.ref a2), .val (.ref a2)] [(.int (1 : Int32))])) (fun _ k => ?_) ?_
      · show Steps p.tables e below (T8.setTop (mkF m 50 #[.val (.ref a1), .val (.ref a2), .val (.ref a2)] [])) _
        refine XS.iconst X8.here hx rfl (hb hby d13_50) ?_
        show Steps p.tables e below (T8.setTop (mkF m 51 #[.val (.ref a1), .val (.ref a2), .val (.ref a2)] [(.int (1 : Int32))])) _
        refine XS.goto X8.here hx rfl (pc0 := 51) (pc' := 55) rfl (hb hby d13_51) (by decide) (by decide) ?_
        show Steps p.tables e below (T8.setTop (mkF m 55 #[.val (.ref a1), .val (.ref a2), .val (.ref a2)] [(.int (1 : Int32))])) _
        exact k
      refine OEnds.back X8 hlk (v := (some (.int (1 : Int32)))) (fun h => by rw [hrt] at h; cases h) (fun fs hr => ?_) ?_ (by decide) (by decide)
      · exact retN X8 hx (t := .boolean) hrt (by simp) (hb hby d13_55) hr
      · show Q13 Z a1 a2 w1 b1 b2 k1 k2 xs ys h0 n0 _ T8.heap _
        rw [eh8]
        exact ⟨by rw [own_eqL1 h47], N8, rfl⟩
theorem ef_rmSN (m : MethodId) (a1 : Addr) : entryFrame m #[(.ref a1), .null] 3 = mkF m 0 #[.val (.ref a1), .val .null, .unset] [] := by first | (simp [entryFrame, mkF, argsToLocals, Value.category]; done) | rfl
def QSN (Z : State) (a1 : Addr)  (h0 : Heap) (n0 : Nat) (v : Option Value) (h : Heap) (L : List Loc) : Prop := v = some (.int 0) ∧ Fr n0 L ∧ h = h0
set_option maxRecDepth 65536 in
set_option maxHeartbeats 40000000 in
theorem rmSN (l : Launch) (Z : State) (a0 : Array Value) (hw : ∀ d ∈ tables_1, d.before a0 Z = true) (ws : List Jvm.Cond) (a1 : Addr)  (h0 : Heap) (n0 : Nat) (Z0 : n0 ≤ h0.size)  :
    MetFree l (⟨"java/lang/String", "equals", "(Ljava/lang/Object;)Z"⟩ : MethodName) (head1 (Jvm.Cond.code (⟨"java/lang/String", "equals", "(Ljava/lang/Object;)Z"⟩ : MethodName) jdk_42_method_66_code 3 (some .boolean) :: ws) ({ frames := 0, cells := 0, slots := 0, locals := 0 } : Room)) (fun a U => a = #[(.ref a1), .null] ∧ Z.Warmed39 U.vm ∧ U.heap = h0) (fun _ _ _ _ _ => True) (fun _ U o U' => ∃ v L, o = .returned v ∧ QSN Z a1  h0 n0 v U'.heap L ∧ FrameEnd U o U' L ({ frames := 0, cells := 0, slots := 0, locals := 0 } : Room).cells ({ frames := 0, cells := 0, slots := 0, locals := 0 } : Room).slots) := by
  refine MetFree.of_bodySF (plainFor_of_name pn_13) hisR ?_
  intro p e s m args below meth c s₁ Bd hml0 hP hK
  obtain ⟨rfl, hZ, hh⟩ := hP
  have hx := Bd.exec
  have hby := Bd.bytes
  have hml : c.maxLocals = 3 := hml0
  have hown : s.vm.findClass "java/lang/String" = some m.cls := findClass_of_methodNamed Bd.named
  have hnm := (name_of_methodNamed Bd.named Bd.method).1
  have hlk := BodyLoose.notSynchronized Bd
  have hrt := Bd.returns
  have X0 : Stand p l e ({ frames := 0, cells := 0, slots := 0, locals := 0 } : Room) s m #[(.ref a1), .null] below meth c s₁ [] 0 0 := Stand.of_body Bd
  have e0 : s₁.heap = h0 := by rw [← hh, Bd.state]; rfl
  have N0 := Fr.nil n0
  show OEnds p e below s (QSN Z a1  h0 n0) ({ frames := 0, cells := 0, slots := 0, locals := 0 } : Room).cells ({ frames := 0, cells := 0, slots := 0, locals := 0 } : Room).slots (s₁.setTop (entryFrame m #[(.ref a1), .null] 3))
  refine OEnds.go (t' := s₁.setTop (mkF m 0 #[.val (.ref a1), .val .null, .unset] [])) (fun t k => castTop (ef_rmSN m a1) k) ?_
  refine OEnds.go (t' := s₁.setTop (mkF m 2 #[.val (.ref a1), .val .null, .unset] [.null, (.ref a1)])) (fun _ k => ?_) ?_
  · show Steps p.tables e below (s₁.setTop (mkF m 0 #[.val (.ref a1), .val .null, .unset] [])) _
    refine XS.aloadN X0.here hx rfl (hb hby d13_0) rfl rfl ?_
    show Steps p.tables e below (s₁.setTop (mkF m 1 #[.val (.ref a1), .val .null, .unset] [(.ref a1)])) _
    refine XS.aloadN X0.here hx rfl (hb hby d13_1) rfl rfl ?_
    show Steps p.tables e below (s₁.setTop (mkF m 2 #[.val (.ref a1), .val .null, .unset] [.null, (.ref a1)])) _
    exact k
  refine OEnds.go (t' := s₁.setTop (mkF m 7 #[.val (.ref a1), .val .null, .unset] [])) (fun _ k => Jvm.RoadKit.acmp (g := (mkF m 2 #[.val (.ref a1), .val .null, .unset] [.null, (.ref a1)])) X0 hx rfl rfl rfl (pc0 := 2) (pc' := 7) (same := false) rfl (hb hby d13_2) rfl (decide_eq_false nofun) (by decide) (by decide) k) ?_
  refine OEnds.go (t' := s₁.setTop (mkF m 8 #[.val (.ref a1), .val .null, .unset] [.null])) (fun _ k => ?_) ?_
  · show Steps p.tables e below (s₁.setTop (mkF m 7 #[.val (.ref a1), .val .null, .unset] [])) _
    refine XS.aloadN X0.here hx rfl (hb hby d13_7) rfl rfl ?_
    show Steps p.tables e below (s₁.setTop (mkF m 8 #[.val (.ref a1), .val .null, .unset] [.null])) _
    exact k
  refine OEnds.go (t' := s₁.setTop (mkF m 11 #[.val (.ref a1), .val .null, .unset] [(.int (0 : Int32))])) (fun _ k => X0.instanceofNull hx (g := (mkF m 8 #[.val (.ref a1), .val .null, .unset] [.null])) rfl rfl (hb hby d13_8) _ k) ?_
  refine OEnds.go (t' := s₁.setTop (mkF m 54 #[.val (.ref a1), .val .null, .unset] [])) (fun _ k => XS.ifYes X0.here hx rfl (pc0 := 11) (pc' := 54) rfl (hb hby d13_11) rfl ((if0 _ _).trans (teq rfl).1) (by decide) (by decide) k) ?_
  refine OEnds.go (t' := s₁.setTop (mkF m 55 #[.val (.ref a1), .val .null, .unset] [(.int (0 : Int32))])) (fun _ k => ?_) ?_
  · show Steps p.tables e below (s₁.setTop (mkF m 54 #[.val (.ref a1), .val .null, .unset] [])) _
    refine XS.iconst X0.here hx rfl (hb hby d13_54) ?_
    show Steps p.tables e below (s₁.setTop (mkF m 55 #[.val (.ref a1), .val .null, .unset] [(.int (0 : Int32))])) _
    exact k
  refine OEnds.back X0 hlk (v := (some (.int (0 : Int32)))) (fun h => by rw [hrt] at h; cases h) (fun fs hr => ?_) ?_ (by decide) (by decide)
  · exact retN X0 hx (t := .boolean) hrt (by simp) (hb hby d13_55) hr
  · show QSN Z a1  h0 n0 _ s₁.heap _
    rw [e0]
    exact ⟨rfl, N0, rfl⟩
theorem d12_0 : decode prog_9_method_2_code 0 = .ok (.aload_n 1, 1) := by decide +kernel
theorem d12_1 : decode prog_9_method_2_code 1 = .ok (.aload_n 0, 1) := by decide +kernel
theorem d12_2 : decode prog_9_method_2_code 2 = .ok (.getfield 7, 3) := by decide +kernel
theorem d12_5 : decode prog_9_method_2_code 5 = .ok (.invokevirtual 26, 3) := by decide +kernel
theorem d12_8 : decode prog_9_method_2_code 8 = .ok (.ifCond .eq 18, 3) := by decide +kernel
theorem d12_11 : decode prog_9_method_2_code 11 = .ok (.aload_n 2, 1) := by decide +kernel
theorem d12_12 : decode prog_9_method_2_code 12 = .ok (.aload_n 0, 1) := by decide +kernel
theorem d12_13 : decode prog_9_method_2_code 13 = .ok (.getfield 16, 3) := by decide +kernel
theorem d12_16 : decode prog_9_method_2_code 16 = .ok (.invokevirtual 26, 3) := by decide +kernel
theorem d12_19 : decode prog_9_method_2_code 19 = .ok (.ifCond .eq 7, 3) := by decide +kernel
theorem d12_22 : decode prog_9_method_2_code 22 = .ok (.iconst 1, 1) := by decide +kernel
theorem d12_23 : decode prog_9_method_2_code 23 = .ok (.goto 4, 3) := by decide +kernel
theorem d12_26 : decode prog_9_method_2_code 26 = .ok (.iconst 0, 1) := by decide +kernel
theorem d12_27 : decode prog_9_method_2_code 27 = .ok (.ireturn, 1) := by decide +kernel
theorem pn_12 : plainName "com/example/viitta/viitta/core/SafeXml$StartTag" = true := by first | (simp [plainName, overriddenIn]; done) | decide +kernel
theorem pd_rmIs0_0 : parseMethodDescriptor "(Ljava/lang/Object;)Z" = some ⟨[(.object "java/lang/Object")], some .boolean⟩ := by decide +kernel
theorem ef_rmIs0 (m : MethodId) (a1 : Addr) (a2 : Addr) (a3 : Addr) : entryFrame m #[(.ref a1), (.ref a2), (.ref a3)] 3 = mkF m 0 #[.val (.ref a1), .val (.ref a2), .val (.ref a3)] [] := by first | (simp [entryFrame, mkF, argsToLocals, Value.category]; done) | rfl
def QIs0 (Z : State) (a1 : Addr) (a2 : Addr) (a3 : Addr) (w1 : Int32) (x2 : Addr) (b1 : Addr) (b2 : Addr) (k1 : ClassId) (k2 : ClassId) (xs : List Int32) (us : List Int32) (x1 : Addr) (b3 : Addr) (b4 : Addr) (k3 : ClassId) (k4 : ClassId) (ys : List Int32) (vs : List Int32) (h0 : Heap) (n0 : Nat) (v : Option Value) (h : Heap) (L : List Loc) : Prop := v = some (.int (own_and (own_eqL xs ys) (own_eqL us vs))) ∧ Fr n0 L ∧ h = h0
set_option maxRecDepth 65536 in
set_option maxHeartbeats 40000000 in
theorem rmIs0 (l : Launch) (Z : State) (a0 : Array Value) (hw : ∀ d ∈ tables_1, d.before a0 Z = true) (ws : List Jvm.Cond) (a1 : Addr) (a2 : Addr) (a3 : Addr) (w1 : Int32) (x2 : Addr) (b1 : Addr) (b2 : Addr) (k1 : ClassId) (k2 : ClassId) (xs : List Int32) (us : List Int32) (x1 : Addr) (b3 : Addr) (b4 : Addr) (k3 : ClassId) (k4 : ClassId) (ys : List Int32) (vs : List Int32) (h0 : Heap) (n0 : Nat) (Z0 : n0 ≤ h0.size) (S_C : Sta Z h0 "java/lang/String" "COMPACT_STRINGS" "Z" (.int w1)) (c0 : ¬ w1 = 0) (F1 : Fld Z h0 a1 "com/example/viitta/viitta/core/SafeXml$StartTag" "namespace" "Ljava/lang/String;" (.ref x1)) (F2 : Fld Z h0 a1 "com/example/viitta/viitta/core/SafeXml$StartTag" "localName" "Ljava/lang/String;" (.ref x2)) (A2 : own_S Z h0 a2 b1 k1 xs) (A3 : own_S Z h0 a3 b2 k2 us) (A4 : own_S Z h0 x1 b3 k3 ys) (A5 : own_S Z h0 x2 b4 k4 vs) :
    MetFree l (⟨"com/example/viitta/viitta/core/SafeXml$StartTag", "is", "(Ljava/lang/String;Ljava/lang/String;)Z"⟩ : MethodName) (head1 (Jvm.Cond.code (⟨"com/example/viitta/viitta/core/SafeXml$StartTag", "is", "(Ljava/lang/String;Ljava/lang/String;)Z"⟩ : MethodName) prog_9_method_2_code 3 (some .boolean) :: ws) ({ frames := 2, cells := 0, slots := 0, locals := 28 } : Room)) (fun a U => a = #[(.ref a1), (.ref a2), (.ref a3)] ∧ Z.Warmed39 U.vm ∧ U.heap = h0) (fun _ _ _ _ _ => True) (fun _ U o U' => ∃ v L, o = .returned v ∧ QIs0 Z a1 a2 a3 w1 x2 b1 b2 k1 k2 xs us x1 b3 b4 k3 k4 ys vs h0 n0 v U'.heap L ∧ FrameEnd U o U' L ({ frames := 2, cells := 0, slots := 0, locals := 28 } : Room).cells ({ frames := 2, cells := 0, slots := 0, locals := 28 } : Room).slots) := by
  refine MetFree.of_bodySF (plainFor_of_name pn_12) hisR ?_
  intro p e s m args below meth c s₁ Bd hml0 hP hK
  obtain ⟨rfl, hZ, hh⟩ := hP
  have hx := Bd.exec
  have hby := Bd.bytes
  have hml : c.maxLocals = 3 := hml0
  have hown : s.vm.findClass "com/example/viitta/viitta/core/SafeXml$StartTag" = some m.cls := findClass_of_methodNamed Bd.named
  have hnm := (name_of_methodNamed Bd.named Bd.method).1
  have hlk := BodyLoose.notSynchronized Bd
  have hrt := Bd.returns
  have X0 : Stand p l e ({ frames := 2, cells := 0, slots := 0, locals := 28 } : Room) s m #[(.ref a1), (.ref a2), (.ref a3)] below meth c s₁ [] 0 0 := Stand.of_body Bd
  have e0 : s₁.heap = h0 := by rw [← hh, Bd.state]; rfl
  have N0 := Fr.nil n0
  show OEnds p e below s (QIs0 Z a1 a2 a3 w1 x2 b1 b2 k1 k2 xs us x1 b3 b4 k3 k4 ys vs h0 n0) ({ frames := 2, cells := 0, slots := 0, locals := 28 } : Room).cells ({ frames := 2, cells := 0, slots := 0, locals := 28 } : Room).slots (s₁.setTop (entryFrame m #[(.ref a1), (.ref a2), (.ref a3)] 3))
  refine OEnds.go (t' := s₁.setTop (mkF m 0 #[.val (.ref a1), .val (.ref a2), .val (.ref a3)] [])) (fun t k => castTop (ef_rmIs0 m a1 a2 a3) k) ?_
  refine OEnds.go (t' := s₁.setTop (mkF m 2 #[.val (.ref a1), .val (.ref a2), .val (.ref a3)] [(.ref a1), (.ref a2)])) (fun _ k => ?_) ?_
  · show Steps p.tables e below (s₁.setTop (mkF m 0 #[.val (.ref a1), .val (.ref a2), .val (.ref a3)] [])) _
    refine XS.aloadN X0.here hx rfl (hb hby d12_0) rfl rfl ?_
    show Steps p.tables e below (s₁.setTop (mkF m 1 #[.val (.ref a1), .val (.ref a2), .val (.ref a3)] [(.ref a2)])) _
    refine XS.aloadN X0.here hx rfl (hb hby d12_1) rfl rfl ?_
    show Steps p.tables e below (s₁.setTop (mkF m 2 #[.val (.ref a1), .val (.ref a2), .val (.ref a3)] [(.ref a1), (.ref a2)])) _
    exact k
  obtain ⟨T1, X1, e1, st1⟩ := getF X0 hx hZ hown (host := "") (Or.inl (hw _ (List.mem_of_getElem? (i := 65) rfl))) Via.refl e0 F1 (g := (mkF m 2 #[.val (.ref a1), .val (.ref a2), .val (.ref a3)] [(.ref a1), (.ref a2)])) rfl rfl (hb hby d12_2)
  refine OEnds.go (t' := T1.setTop (mkF m 5 #[.val (.ref a1), .val (.ref a2), .val (.ref a3)] [(.ref x1), (.ref a2)])) (fun _ k => st1 _ k) ?_
  obtain ⟨cq2, kq2, q2a, q2b, q2c⟩ := isOf hZ e1 A2.1
  obtain ⟨_, _, ⟨T2, L2, k2, n2⟩, -, X2, ⟨Lc2, hQ2, l2, y2, z2⟩, st2⟩ := X1.virtualBack hx (y := (⟨"java/lang/String", "equals", "(Ljava/lang/Object;)Z"⟩ : MethodName)) (z := (⟨"java/lang/String", "equals", "(Ljava/lang/Object;)Z"⟩ : MethodName)) hown (mvT hZ (hw _ (List.mem_of_getElem? (i := 83) rfl))) (mvT hZ (hw _ (List.mem_of_getElem? (i := 84) rfl))) (notFace_of_selects (args := #[]) (mvT hZ (hw _ (List.mem_of_getElem? (i := 86) rfl)))) (mvT hZ (hw _ (List.mem_of_getElem? (i := 86) rfl))) (mvT hZ (hw _ (List.mem_of_getElem? (i := 85) rfl))) (by decide) (backOf (W := 0) (rm13 l Z a0 hw [] a2 x1 w1 b1 b3 k1 k3 xs ys h0 n0 Z0 S_C c0 A2 A4) hZ (hw _ (List.mem_of_getElem? (i := 87) rfl)) (hw _ (List.mem_of_getElem? (i := 10) rfl)) (by decide) (by decide)) q2a q2c (g := (mkF m 5 #[.val (.ref a1), .val (.ref a2), .val (.ref a3)] [(.ref x1), (.ref a2)])) rfl (by rw [hml]; rfl) (Steps.refl _) (argsL := [(.ref x1)]) (rest := []) (lenOf pd_rmIs0_0 rfl) rfl (by show 2 * 0 + _ ≤ _; exact Nat.le_of_eq rfl) (hb hby d12_5) (fun _ _ => ⟨rfl, e1, (by decide : 0 + 0 ≤ _), (by decide : 0 + 0 ≤ _)⟩)
  dsimp only [Pt.U, Pt.locs, Pt.cells, Pt.slots] at X2 l2 y2 z2 st2 hQ2
  subst l2 y2 z2
  obtain ⟨rfl, N2q, eh⟩ := hQ2
  have N2 := Fr.app N0 N2q
  have eh2 := eh
  refine OEnds.go (t' := T2.setTop (mkF m 8 #[.val (.ref a1), .val (.ref a2), .val (.ref a3)] [(.int (own_eqL xs ys))])) (fun _ k => st2.trans k) ?_
  by_cases h8 : (own_eqL xs ys) = (0 : Int32)
  · refine OEnds.go (t' := T2.setTop (mkF m 26 #[.val (.ref a1), .val (.ref a2), .val (.ref a3)] [])) (fun _ k => XS.ifYes X2.here hx rfl (pc0 := 8) (pc' := 26) rfl (hb hby d12_8) rfl ((if0 _ _).trans (teq h8).1) (by decide) (by decide) k) ?_
    refine OEnds.go (t' := T2.setTop (mkF m 27 #[.val (.ref a1), .val (.ref a2), .val (.ref a3)] [(.int (0 : Int32))])) (fun _ k => ?_) ?_
    · show Steps p.tables e below (T2.setTop (mkF m 26 #[.val (.ref a1), .val (.ref a2), .val (.ref a3)] [])) _
      refine XS.iconst X2.here hx rfl (hb hby d12_26) ?_
      show Steps p.tables e below (T2.setTop (mkF m 27 #[.val (.ref a1), .val (.ref a2), .val (.ref a3)] [(.int (0 : Int32))])) _
      exact k
    refine OEnds.back X2 hlk (v := (some (.int (0 : Int32)))) (fun h => by rw [hrt] at h; cases h) (fun fs hr => ?_) ?_ (by decide) (by decide)
    · exact retN X2 hx (t := .boolean) hrt (by simp) (hb hby d12_27) hr
    · show QIs0 Z a1 a2 a3 w1 x2 b1 b2 k1 k2 xs us x1 b3 b4 k3 k4 ys vs h0 n0 _ T2.heap _
      rw [eh2]
      exact ⟨by rw [own_and, if_pos h8], N2, rfl⟩
  · refine OEnds.go (t' := T2.setTop (mkF m 11 #[.val (.ref a1), .val (.ref a2), .val (.ref a3)] [])) (fun _ k => XS.ifNo X2.here hx rfl (hb hby d12_8) rfl ((if0 _ _).trans (feq h8).1) k) ?_
    refine OEnds.go (t' := T2.setTop (mkF m 13 #[.val (.ref a1), .val (.ref a2), .val (.ref a3)] [(.ref a1), (.ref a3)])) (fun _ k => ?_) ?_
    · show Steps p.tables e below (T2.setTop (mkF m 11 #[.val (.ref a1), .val (.ref a2), .val (.ref a3)] [])) _
      refine XS.aloadN X2.here hx rfl (hb hby d12_11) rfl rfl ?_
      show Steps p.tables e below (T2.setTop (mkF m 12 #[.val (.ref a1), .val (.ref a2), .val (.ref a3)] [(.ref a3)])) _
      refine XS.aloadN X2.here hx rfl (hb hby d12_12) rfl rfl ?_
      show Steps p.tables e below (T2.setTop (mkF m 13 #[.val (.ref a1), .val (.ref a2), .val (.ref a3)] [(.ref a1), (.ref a3)])) _
      exact k
    obtain ⟨T3, X3, e3, st3⟩ := getF X2 hx hZ hown (host := "") (Or.inl (hw _ (List.mem_of_getElem? (i := 69) rfl))) Via.refl eh2 F2 (g := (mkF m 13 #[.val (.ref a1), .val (.ref a2), .val (.ref a3)] [(.ref a1), (.ref a3)])) rfl rfl (hb hby d12_13)
    refine OEnds.go (t' := T3.setTop (mkF m 16 #[.val (.ref a1), .val (.ref a2), .val (.ref a3)] [(.ref x2), (.ref a3)])) (fun _ k => st3 _ k) ?_
    obtain ⟨cq4, kq4, q4a, q4b, q4c⟩ := isOf hZ e3 A3.1
    obtain ⟨_, _, ⟨T4, L4, k4, n4⟩, -, X4, ⟨Lc4, hQ4, l4, y4, z4⟩, st4⟩ := X3.virtualBack hx (y := (⟨"java/lang/String", "equals", "(Ljava/lang/Object;)Z"⟩ : MethodName)) (z := (⟨"java/lang/String", "equals", "(Ljava/lang/Object;)Z"⟩ : MethodName)) hown (mvT hZ (hw _ (List.mem_of_getElem? (i := 83) rfl))) (mvT hZ (hw _ (List.mem_of_getElem? (i := 84) rfl))) (notFace_of_selects (args := #[]) (mvT hZ (hw _ (List.mem_of_getElem? (i := 86) rfl)))) (mvT hZ (hw _ (List.mem_of_getElem? (i := 86) rfl))) (mvT hZ (hw _ (List.mem_of_getElem? (i := 85) rfl))) (by decide) (backOf (W := 0) (rm13 l Z a0 hw [] a3 x2 w1 b2 b4 k2 k4 us vs h0 n0 Z0 S_C c0 A3 A5) hZ (hw _ (List.mem_of_getElem? (i := 87) rfl)) (hw _ (List.mem_of_getElem? (i := 10) rfl)) (by decide) (by decide)) q4a q4c (g := (mkF m 16 #[.val (.ref a1), .val (.ref a2), .val (.ref a3)] [(.ref x2), (.ref a3)])) rfl (by rw [hml]; rfl) (Steps.refl _) (argsL := [(.ref x2)]) (rest := []) (lenOf pd_rmIs0_0 rfl) rfl (by show 2 * 0 + _ ≤ _; exact Nat.le_of_eq rfl) (hb hby d12_16) (fun _ _ => ⟨rfl, e3, (by decide : 0 + 0 ≤ _), (by decide : 0 + 0 ≤ _)⟩)
    dsimp only [Pt.U, Pt.locs, Pt.cells, Pt.slots] at X4 l4 y4 z4 st4 hQ4
    subst l4 y4 z4
    obtain ⟨rfl, N4q, eh⟩ := hQ4
    have N4 := Fr.app N2 N4q
    have eh4 := eh
    refine OEnds.go (t' := T4.setTop (mkF m 19 #[.val (.ref a1), .val (.ref a2), .val (.ref a3)] [(.int (own_eqL us vs))])) (fun _ k => st4.trans k) ?_
    by_cases h19 : (own_eqL us vs) = (0 : Int32)
    · refine OEnds.go (t' := T4.setTop (mkF m 26 #[.val (.ref a1), .val (.ref a2), .val (.ref a3)] [])) (fun _ k => XS.ifYes X4.here hx rfl (pc0 := 19) (pc' := 26) rfl (hb hby d12_19) rfl ((if0 _ _).trans (teq h19).1) (by decide) (by decide) k) ?_
      refine OEnds.go (t' := T4.setTop (mkF m 27 #[.val (.ref a1), .val (.ref a2), .val (.ref a3)] [(.int (0 : Int32))])) (fun _ k => ?_) ?_
      · show Steps p.tables e below (T4.setTop (mkF m 26 #[.val (.ref a1), .val (.ref a2), .val (.ref a3)] [])) _
        refine XS.iconst X4.here hx rfl (hb hby d12_26) ?_
        show Steps p.tables e below (T4.setTop (mkF m 27 #[.val (.ref a1), .val (.ref a2), .val (.ref a3)] [(.int (0 : Int32))])) _
        exact k
      refine OEnds.back X4 hlk (v := (some (.int (0 : Int32)))) (fun h => by rw [hrt] at h; cases h) (fun fs hr => ?_) ?_ (by decide) (by decide)
      · exact retN X4 hx (t := .boolean) hrt (by simp) (hb hby d12_27) hr
      · show QIs0 Z a1 a2 a3 w1 x2 b1 b2 k1 k2 xs us x1 b3 b4 k3 k4 ys vs h0 n0 _ T4.heap _
        rw [eh4]
        exact ⟨by rw [own_and, if_neg h8, if_pos h19], N4, rfl⟩
    · refine OEnds.go (t' := T4.setTop (mkF m 22 #[.val (.ref a1), .val (.ref a2), .val (.ref a3)] [])) (fun _ k => XS.ifNo X4.here hx rfl (hb hby d12_19) rfl ((if0 _ _).trans (feq h19).1) k) ?_
      refine OEnds.go (t' := T4.setTop (mkF m 27 #[.val (.ref a1), .val (.ref a2), .val (.ref a3)] [(.int (1 : Int32))])) (fun _ k => ?_) ?_
      · show Steps p.tables e below (T4.setTop (mkF m 22 #[.val (.ref a1), .val (.ref a2), .val (.ref a3)] [])) _
        refine XS.iconst X4.here hx rfl (hb hby d12_22) ?_
        show Steps p.tables e below (T4.setTop (mkF m 23 #[.val (.ref a1), .val (.ref a2), .val (.ref a3)] [(.int (1 : Int32))])) _
        refine XS.goto X4.here hx rfl (pc0 := 23) (pc' := 27) rfl (hb hby d12_23) (by decide) (by decide) ?_
        show Steps p.tables e below (T4.setTop (mkF m 27 #[.val (.ref a1), .val (.ref a2), .val (.ref a3)] [(.int (1 : Int32))])) _
        exact k
      refine OEnds.back X4 hlk (v := (some (.int (1 : Int32)))) (fun h => by rw [hrt] at h; cases h) (fun fs hr => ?_) ?_ (by decide) (by decide)
      · exact retN X4 hx (t := .boolean) hrt (by simp) (hb hby d12_27) hr
      · show QIs0 Z a1 a2 a3 w1 x2 b1 b2 k1 k2 xs us x1 b3 b4 k3 k4 ys vs h0 n0 _ T4.heap _
        rw [eh4]
        exact ⟨by rw [own_and, if_neg h8, if_neg h19], N4, rfl⟩
theorem pd_rmIs1_0 : parseMethodDescriptor "(Ljava/lang/Object;)Z" = some ⟨[(.object "java/lang/Object")], some .boolean⟩ := by decide +kernel
theorem ef_rmIs1 (m : MethodId) (a1 : Addr) (a2 : Addr) (a3 : Addr) : entryFrame m #[(.ref a1), (.ref a2), (.ref a3)] 3 = mkF m 0 #[.val (.ref a1), .val (.ref a2), .val (.ref a3)] [] := by first | (simp [entryFrame, mkF, argsToLocals, Value.category]; done) | rfl
def QIs1 (Z : State) (a1 : Addr) (a2 : Addr) (a3 : Addr) (w1 : Int32) (x2 : Addr) (b1 : Addr) (b2 : Addr) (k1 : ClassId) (k2 : ClassId) (xs : List Int32) (us : List Int32) (h0 : Heap) (n0 : Nat) (v : Option Value) (h : Heap) (L : List Loc) : Prop := v = some (.int 0) ∧ Fr n0 L ∧ h = h0
set_option maxRecDepth 65536 in
set_option maxHeartbeats 40000000 in
theorem rmIs1 (l : Launch) (Z : State) (a0 : Array Value) (hw : ∀ d ∈ tables_1, d.before a0 Z = true) (ws : List Jvm.Cond) (a1 : Addr) (a2 : Addr) (a3 : Addr) (w1 : Int32) (x2 : Addr) (b1 : Addr) (b2 : Addr) (k1 : ClassId) (k2 : ClassId) (xs : List Int32) (us : List Int32) (h0 : Heap) (n0 : Nat) (Z0 : n0 ≤ h0.size) (S_C : Sta Z h0 "java/lang/String" "COMPACT_STRINGS" "Z" (.int w1)) (c0 : ¬ w1 = 0) (F1 : Fld Z h0 a1 "com/example/viitta/viitta/core/SafeXml$StartTag" "namespace" "Ljava/lang/String;" .null) (F2 : Fld Z h0 a1 "com/example/viitta/viitta/core/SafeXml$StartTag" "localName" "Ljava/lang/String;" (.ref x2)) (A2 : own_S Z h0 a2 b1 k1 xs) (A3 : own_S Z h0 a3 b2 k2 us) :
    MetFree l (⟨"com/example/viitta/viitta/core/SafeXml$StartTag", "is", "(Ljava/lang/String;Ljava/lang/String;)Z"⟩ : MethodName) (head1 (Jvm.Cond.code (⟨"com/example/viitta/viitta/core/SafeXml$StartTag", "is", "(Ljava/lang/String;Ljava/lang/String;)Z"⟩ : MethodName) prog_9_method_2_code 3 (some .boolean) :: ws) ({ frames := 1, cells := 0, slots := 0, locals := 14 } : Room)) (fun a U => a = #[(.ref a1), (.ref a2), (.ref a3)] ∧ Z.Warmed39 U.vm ∧ U.heap = h0) (fun _ _ _ _ _ => True) (fun _ U o U' => ∃ v L, o = .returned v ∧ QIs1 Z a1 a2 a3 w1 x2 b1 b2 k1 k2 xs us h0 n0 v U'.heap L ∧ FrameEnd U o U' L ({ frames := 1, cells := 0, slots := 0, locals := 14 } : Room).cells ({ frames := 1, cells := 0, slots := 0, locals := 14 } : Room).slots) := by
  refine MetFree.of_bodySF (plainFor_of_name pn_12) hisR ?_
  intro p e s m args below meth c s₁ Bd hml0 hP hK
  obtain ⟨rfl, hZ, hh⟩ := hP
  have hx := Bd.exec
  have hby := Bd.bytes
  have hml : c.maxLocals = 3 := hml0
  have hown : s.vm.findClass "com/example/viitta/viitta/core/SafeXml$StartTag" = some m.cls := findClass_of_methodNamed Bd.named
  have hnm := (name_of_methodNamed Bd.named Bd.method).1
  have hlk := BodyLoose.notSynchronized Bd
  have hrt := Bd.returns
  have X0 : Stand p l e ({ frames := 1, cells := 0, slots := 0, locals := 14 } : Room) s m #[(.ref a1), (.ref a2), (.ref a3)] below meth c s₁ [] 0 0 := Stand.of_body Bd
  have e0 : s₁.heap = h0 := by rw [← hh, Bd.state]; rfl
  have N0 := Fr.nil n0
  show OEnds p e below s (QIs1 Z a1 a2 a3 w1 x2 b1 b2 k1 k2 xs us h0 n0) ({ frames := 1, cells := 0, slots := 0, locals := 14 } : Room).cells ({ frames := 1, cells := 0, slots := 0, locals := 14 } : Room).slots (s₁.setTop (entryFrame m #[(.ref a1), (.ref a2), (.ref a3)] 3))
  refine OEnds.go (t' := s₁.setTop (mkF m 0 #[.val (.ref a1), .val (.ref a2), .val (.ref a3)] [])) (fun t k => castTop (ef_rmIs1 m a1 a2 a3) k) ?_
  refine OEnds.go (t' := s₁.setTop (mkF m 2 #[.val (.ref a1), .val (.ref a2), .val (.ref a3)] [(.ref a1), (.ref a2)])) (fun _ k => ?_) ?_
  · show Steps p.tables e below (s₁.setTop (mkF m 0 #[.val (.ref a1), .val (.ref a2), .val (.ref a3)] [])) _
    refine XS.aloadN X0.here hx rfl (hb hby d12_0) rfl rfl ?_
    show Steps p.tables e below (s₁.setTop (mkF m 1 #[.val (.ref a1), .val (.ref a2), .val (.ref a3)] [(.ref a2)])) _
    refine XS.aloadN X0.here hx rfl (hb hby d12_1) rfl rfl ?_
    show Steps p.tables e below (s₁.setTop (mkF m 2 #[.val (.ref a1), .val (.ref a2), .val (.ref a3)] [(.ref a1), (.ref a2)])) _
    exact k
  obtain ⟨T1, X1, e1, st1⟩ := getF X0 hx hZ hown (host := "") (Or.inl (hw _ (List.mem_of_getElem? (i := 65) rfl))) Via.refl e0 F1 (g := (mkF m 2 #[.val (.ref a1), .val (.ref a2), .val (.ref a3)] [(.ref a1), (.ref a2)])) rfl rfl (hb hby d12_2)
  refine OEnds.go (t' := T1.setTop (mkF m 5 #[.val (.ref a1), .val (.ref a2), .val (.ref a3)] [.null, (.ref a2)])) (fun _ k => st1 _ k) ?_
  obtain ⟨cq2, kq2, q2a, q2b, q2c⟩ := isOf hZ e1 A2.1
  obtain ⟨_, _, ⟨T2, L2, k2, n2⟩, -, X2, ⟨Lc2, hQ2, l2, y2, z2⟩, st2⟩ := X1.virtualBack hx (y := (⟨"java/lang/String", "equals", "(Ljava/lang/Object;)Z"⟩ : MethodName)) (z := (⟨"java/lang/String", "equals", "(Ljava/lang/Object;)Z"⟩ : MethodName)) hown (mvT hZ (hw _ (List.mem_of_getElem? (i := 83) rfl))) (mvT hZ (hw _ (List.mem_of_getElem? (i := 84) rfl))) (notFace_of_selects (args := #[]) (mvT hZ (hw _ (List.mem_of_getElem? (i := 86) rfl)))) (mvT hZ (hw _ (List.mem_of_getElem? (i := 86) rfl))) (mvT hZ (hw _ (List.mem_of_getElem? (i := 85) rfl))) (by decide) (backOf (W := 0) (rmSN l Z a0 hw [] a2 h0 n0 Z0 ) hZ (hw _ (List.mem_of_getElem? (i := 87) rfl)) (hw _ (List.mem_of_getElem? (i := 10) rfl)) (by decide) (by decide)) q2a q2c (g := (mkF m 5 #[.val (.ref a1), .val (.ref a2), .val (.ref a3)] [.null, (.ref a2)])) rfl (by rw [hml]; rfl) (Steps.refl _) (argsL := [.null]) (rest := []) (lenOf pd_rmIs1_0 rfl) rfl (by show 2 * 0 + _ ≤ _; exact Nat.le_of_eq rfl) (hb hby d12_5) (fun _ _ => ⟨rfl, e1, (by decide : 0 + 0 ≤ _), (by decide : 0 + 0 ≤ _)⟩)
  dsimp only [Pt.U, Pt.locs, Pt.cells, Pt.slots] at X2 l2 y2 z2 st2 hQ2
  subst l2 y2 z2
  obtain ⟨rfl, N2q, eh⟩ := hQ2
  have N2 := Fr.app N0 N2q
  have eh2 := eh
  refine OEnds.go (t' := T2.setTop (mkF m 8 #[.val (.ref a1), .val (.ref a2), .val (.ref a3)] [(.int (0 : Int32))])) (fun _ k => st2.trans k) ?_
  refine OEnds.go (t' := T2.setTop (mkF m 26 #[.val (.ref a1), .val (.ref a2), .val (.ref a3)] [])) (fun _ k => XS.ifYes X2.here hx rfl (pc0 := 8) (pc' := 26) rfl (hb hby d12_8) rfl ((if0 _ _).trans (teq rfl).1) (by decide) (by decide) k) ?_
  refine OEnds.go (t' := T2.setTop (mkF m 27 #[.val (.ref a1), .val (.ref a2), .val (.ref a3)] [(.int (0 : Int32))])) (fun _ k => ?_) ?_
  · show Steps p.tables e below (T2.setTop (mkF m 26 #[.val (.ref a1), .val (.ref a2), .val (.ref a3)] [])) _
    refine XS.iconst X2.here hx rfl (hb hby d12_26) ?_
    show Steps p.tables e below (T2.setTop (mkF m 27 #[.val (.ref a1), .val (.ref a2), .val (.ref a3)] [(.int (0 : Int32))])) _
    exact k
  refine OEnds.back X2 hlk (v := (some (.int (0 : Int32)))) (fun h => by rw [hrt] at h; cases h) (fun fs hr => ?_) ?_ (by decide) (by decide)
  · exact retN X2 hx (t := .boolean) hrt (by simp) (hb hby d12_27) hr
  · show QIs1 Z a1 a2 a3 w1 x2 b1 b2 k1 k2 xs us h0 n0 _ T2.heap _
    rw [eh2]
    exact ⟨rfl, N2, rfl⟩
theorem pn_0 : plainName "com/example/viitta/viitta/core/SafeXmlStartTagIsPinLaw" = true := by first | (simp [plainName, overriddenIn]; done) | decide +kernel
theorem pd_rm0_0 : parseMethodDescriptor "(I)Ljava/lang/String;" = some ⟨[.int], some (.object "java/lang/String")⟩ := by decide +kernel
theorem pd_rm0_1 : parseMethodDescriptor "()V" = some ⟨[], none⟩ := by decide +kernel
theorem pd_rm0_2 : parseMethodDescriptor "(Ljava/lang/String;Ljava/lang/String;Ljava/lang/String;Ljava/util/List;Ljava/util/List;)V" = some ⟨[(.object "java/lang/String"), (.object "java/lang/String"), (.object "java/lang/String"), (.object "java/util/List"), (.object "java/util/List")], none⟩ := by decide +kernel
theorem pd_rm0_3 : parseMethodDescriptor "(Ljava/lang/String;Ljava/lang/String;)Z" = some ⟨[(.object "java/lang/String"), (.object "java/lang/String")], some .boolean⟩ := by decide +kernel
theorem pd_rm0_4 : parseMethodDescriptor "(II)Z" = some ⟨[.int, .int], some .boolean⟩ := by decide +kernel
theorem ef_rm0 (m : MethodId) (p1 : Int32) (p2 : Int32) (p3 : Int32) (p4 : Int32) (p5 : Int32) : entryFrame m #[(.int p1), (.int p2), (.int p3), (.int p4), (.int p5)] maxLocals = mkF m 0 #[.val (.int p1), .val (.int p2), .val (.int p3), .val (.int p4), .val (.int p5), .unset, .unset, .unset, .unset, .unset, .unset, .unset, .unset, .unset, .unset, .unset] [] := by first | (simp [entryFrame, mkF, argsToLocals, Value.category, maxLocals]; done) | rfl
def Q0 (Z : State) (p1 : Int32) (p2 : Int32) (p3 : Int32) (p4 : Int32) (p5 : Int32) (w1 : Int32) (d1 : Addr) (h0 : Heap) (n0 : Nat) (v : Option Value) (h : Heap) (vm : Vm) (L : List Loc) : Prop := v = some (.int 1) ∧ Fr n0 L
set_option maxRecDepth 65536 in
set_option maxHeartbeats 40000000 in
theorem rm0 (l : Launch) (Z : State) (a0 : Array Value) (hw : ∀ d ∈ tables_1, d.before a0 Z = true) (ws : List Jvm.Cond) (p1 : Int32) (p2 : Int32) (p3 : Int32) (p4 : Int32) (p5 : Int32) (w1 : Int32) (d1 : Addr) (h0 : Heap) (n0 : Nat) (Z0 : n0 ≤ h0.size) (S_C : Sta Z Z.heap "java/lang/String" "COMPACT_STRINGS" "Z" (.int w1)) (c0 : ¬ w1 = 0) (S_D : Sta Z Z.heap "java/util/ArrayList" "DEFAULTCAPACITY_EMPTY_ELEMENTDATA" "[Ljava/lang/Object;" (.ref d1)) (hzo : Old Z n0 h0) (hcw : Jvm.Lit.compactW.before a0 Z = true) (hH : Jvm.Lit.constHeld Z "java/lang/String" 7) :
    MetFree l x (head1 (Jvm.Cond.code x code maxLocals ret :: ws) room_1) (fun a U => a = #[(.int p1), (.int p2), (.int p3), (.int p4), (.int p5)] ∧ Z.Warmed39 U.vm ∧ U.heap = h0 ∧ IB Z U.vm []) (fun _ _ _ _ _ => True) (fun _ U o U' => ∃ v L, o = .returned v ∧ Q0 Z p1 p2 p3 p4 p5 w1 d1 h0 n0 v U'.heap U'.vm L ∧ ReturnedEndW U o U' L room_1.cells room_1.slots) := by
  refine MetFree.of_bodySF (plainFor_of_name pn_0) hisR ?_
  intro p e s m args below meth c s₁ Bd hml0 hP hK
  obtain ⟨rfl, hZ, hh, hpv⟩ := hP
  have hx := Bd.exec
  have hby := Bd.bytes
  have hml : c.maxLocals = 16 := hml0
  have hown : s.vm.findClass "com/example/viitta/viitta/core/SafeXmlStartTagIsPinLaw" = some m.cls := findClass_of_methodNamed Bd.named
  have hnm := (name_of_methodNamed Bd.named Bd.method).1
  have hlk := BodyLoose.notSynchronized Bd
  have hrt := Bd.returns
  have X0 : Stand p l e room_1 s m #[(.int p1), (.int p2), (.int p3), (.int p4), (.int p5)] below meth c s₁ [] 0 0 := Stand.of_body Bd
  have e0 : s₁.heap = h0 := by rw [← hh, Bd.state]; rfl
  have N0 := Fr.nil n0
  have hS0 : s.Since s.vm 0 := (State.WarmedH.refl s).since 0
  have IB0 := hpv
  have hkp : ∀ (b : Addr) (cl : Cell), Z.heap[b]? = some cl → s.heap[b]? = some cl := fun b cl q => by rw [hh]; exact hzo.2.2 b cl q
  show OEndsW p e below s (Q0 Z p1 p2 p3 p4 p5 w1 d1 h0 n0) room_1.cells room_1.slots (s₁.setTop (entryFrame m #[(.int p1), (.int p2), (.int p3), (.int p4), (.int p5)] maxLocals))
  refine OEndsW.go (t' := s₁.setTop (mkF m 0 #[.val (.int p1), .val (.int p2), .val (.int p3), .val (.int p4), .val (.int p5), .unset, .unset, .unset, .unset, .unset, .unset, .unset, .unset, .unset, .unset, .unset] [])) (fun t k => castTop (ef_rm0 m p1 p2 p3 p4 p5) k) ?_
  have hEv : own_Ev Z s.vm h0 := Or.inl hpv
  have hzt := hzo
  refine OEndsW.cut (fun En => ∀ (z5 : Int32), En (s₁.setTop (mkF m 12 #[.val (.int p1), .val (.int p2), .val (.int p3), .val (.int p4), .val (.int p5), .unset, .unset, .unset, .unset, .unset, .unset, .unset, .unset, .unset, .unset, .unset] [(.int z5)]))) ?_ (fun K12 => ?_)
  · intro z5
    refine OEndsW.go (t' := s₁.setTop (mkF m 14 #[.val (.int p1), .val (.int p2), .val (.int p3), .val (.int p4), .val (.int p5), .val (.int z5), .unset, .unset, .unset, .unset, .unset, .unset, .unset, .unset, .unset, .unset] [])) (fun _ k => ?_) ?_
    · show Steps p.tables e below (s₁.setTop (mkF m 12 #[.val (.int p1), .val (.int p2), .val (.int p3), .val (.int p4), .val (.int p5), .unset, .unset, .unset, .unset, .unset, .unset, .unset, .unset, .unset, .unset, .unset] [(.int z5)])) _
      refine XS.istore X0.here hx rfl (hb hby at_12) rfl (l' := #[.val (.int p1), .val (.int p2), .val (.int p3), .val (.int p4), .val (.int p5), .val (.int z5), .unset, .unset, .unset, .unset, .unset, .unset, .unset, .unset, .unset, .unset]) rfl ?_
      show Steps p.tables e below (s₁.setTop (mkF m 14 #[.val (.int p1), .val (.int p2), .val (.int p3), .val (.int p4), .val (.int p5), .val (.int z5), .unset, .unset, .unset, .unset, .unset, .unset, .unset, .unset, .unset, .unset] [])) _
      exact k
    refine OEndsW.cut (fun En => ∀ (z6 : Int32), En (s₁.setTop (mkF m 26 #[.val (.int p1), .val (.int p2), .val (.int p3), .val (.int p4), .val (.int p5), .val (.int z5), .unset, .unset, .unset, .unset, .unset, .unset, .unset, .unset, .unset, .unset] [(.int z6)]))) ?_ (fun K26 => ?_)
    · intro z6
      refine OEndsW.go (t' := s₁.setTop (mkF m 28 #[.val (.int p1), .val (.int p2), .val (.int p3), .val (.int p4), .val (.int p5), .val (.int z5), .val (.int z6), .unset, .unset, .unset, .unset, .unset, .unset, .unset, .unset, .unset] [])) (fun _ k => ?_) ?_
      · show Steps p.tables e below (s₁.setTop (mkF m 26 #[.val (.int p1), .val (.int p2), .val (.int p3), .val (.int p4), .val (.int p5), .val (.int z5), .unset, .unset, .unset, .unset, .unset, .unset, .unset, .unset, .unset, .unset] [(.int z6)])) _
        refine XS.istore X0.here hx rfl (hb hby at_26) rfl (l' := #[.val (.int p1), .val (.int p2), .val (.int p3), .val (.int p4), .val (.int p5), .val (.int z5), .val (.int z6), .unset, .unset, .unset, .unset, .unset, .unset, .unset, .unset, .unset]) rfl ?_
        show Steps p.tables e below (s₁.setTop (mkF m 28 #[.val (.int p1), .val (.int p2), .val (.int p3), .val (.int p4), .val (.int p5), .val (.int z5), .val (.int z6), .unset, .unset, .unset, .unset, .unset, .unset, .unset, .unset, .unset] [])) _
        exact k
      refine OEndsW.cut (fun En => ∀ (z7 : Int32), En (s₁.setTop (mkF m 40 #[.val (.int p1), .val (.int p2), .val (.int p3), .val (.int p4), .val (.int p5), .val (.int z5), .val (.int z6), .unset, .unset, .unset, .unset, .unset, .unset, .unset, .unset, .unset] [(.int z7)]))) ?_ (fun K40 => ?_)
      · intro z7
        refine OEndsW.go (t' := s₁.setTop (mkF m 42 #[.val (.int p1), .val (.int p2), .val (.int p3), .val (.int p4), .val (.int p5), .val (.int z5), .val (.int z6), .val (.int z7), .unset, .unset, .unset, .unset, .unset, .unset, .unset, .unset] [])) (fun _ k => ?_) ?_
        · show Steps p.tables e below (s₁.setTop (mkF m 40 #[.val (.int p1), .val (.int p2), .val (.int p3), .val (.int p4), .val (.int p5), .val (.int z5), .val (.int z6), .unset, .unset, .unset, .unset, .unset, .unset, .unset, .unset, .unset] [(.int z7)])) _
          refine XS.istore X0.here hx rfl (hb hby at_40) rfl (l' := #[.val (.int p1), .val (.int p2), .val (.int p3), .val (.int p4), .val (.int p5), .val (.int z5), .val (.int z6), .val (.int z7), .unset, .unset, .unset, .unset, .unset, .unset, .unset, .unset]) rfl ?_
          show Steps p.tables e below (s₁.setTop (mkF m 42 #[.val (.int p1), .val (.int p2), .val (.int p3), .val (.int p4), .val (.int p5), .val (.int z5), .val (.int z6), .val (.int z7), .unset, .unset, .unset, .unset, .unset, .unset, .unset, .unset] [])) _
          exact k
        refine OEndsW.cut (fun En => ∀ (z8 : Int32), En (s₁.setTop (mkF m 55 #[.val (.int p1), .val (.int p2), .val (.int p3), .val (.int p4), .val (.int p5), .val (.int z5), .val (.int z6), .val (.int z7), .unset, .unset, .unset, .unset, .unset, .unset, .unset, .unset] [(.int z8)]))) ?_ (fun K55 => ?_)
        · intro z8
          refine OEndsW.go (t' := s₁.setTop (mkF m 57 #[.val (.int p1), .val (.int p2), .val (.int p3), .val (.int p4), .val (.int p5), .val (.int z5), .val (.int z6), .val (.int z7), .val (.int z8), .unset, .unset, .unset, .unset, .unset, .unset, .unset] [])) (fun _ k => ?_) ?_
          · show Steps p.tables e below (s₁.setTop (mkF m 55 #[.val (.int p1), .val (.int p2), .val (.int p3), .val (.int p4), .val (.int p5), .val (.int z5), .val (.int z6), .val (.int z7), .unset, .unset, .unset, .unset, .unset, .unset, .unset, .unset] [(.int z8)])) _
            refine XS.istore X0.here hx rfl (hb hby at_55) rfl (l' := #[.val (.int p1), .val (.int p2), .val (.int p3), .val (.int p4), .val (.int p5), .val (.int z5), .val (.int z6), .val (.int z7), .val (.int z8), .unset, .unset, .unset, .unset, .unset, .unset, .unset]) rfl ?_
            show Steps p.tables e below (s₁.setTop (mkF m 57 #[.val (.int p1), .val (.int p2), .val (.int p3), .val (.int p4), .val (.int p5), .val (.int z5), .val (.int z6), .val (.int z7), .val (.int z8), .unset, .unset, .unset, .unset, .unset, .unset, .unset] [])) _
            exact k
          refine OEndsW.cut (fun En => ∀ (v9 : Int32), En (s₁.setTop (mkF m 67 #[.val (.int p1), .val (.int p2), .val (.int p3), .val (.int p4), .val (.int p5), .val (.int z5), .val (.int z6), .val (.int z7), .val (.int z8), .unset, .unset, .unset, .unset, .unset, .unset, .unset] [(.int v9)]))) ?_ (fun K67 => ?_)
          · intro v9
            refine OEndsW.go (t' := s₁.setTop (mkF m 69 #[.val (.int p1), .val (.int p2), .val (.int p3), .val (.int p4), .val (.int p5), .val (.int z5), .val (.int z6), .val (.int z7), .val (.int z8), .val (.int v9), .unset, .unset, .unset, .unset, .unset, .unset] [])) (fun _ k => ?_) ?_
            · show Steps p.tables e below (s₁.setTop (mkF m 67 #[.val (.int p1), .val (.int p2), .val (.int p3), .val (.int p4), .val (.int p5), .val (.int z5), .val (.int z6), .val (.int z7), .val (.int z8), .unset, .unset, .unset, .unset, .unset, .unset, .unset] [(.int v9)])) _
              refine XS.istore X0.here hx rfl (hb hby at_67) rfl (l' := #[.val (.int p1), .val (.int p2), .val (.int p3), .val (.int p4), .val (.int p5), .val (.int z5), .val (.int z6), .val (.int z7), .val (.int z8), .val (.int v9), .unset, .unset, .unset, .unset, .unset, .unset]) rfl ?_
              show Steps p.tables e below (s₁.setTop (mkF m 69 #[.val (.int p1), .val (.int p2), .val (.int p3), .val (.int p4), .val (.int p5), .val (.int z5), .val (.int z6), .val (.int z7), .val (.int z8), .val (.int v9), .unset, .unset, .unset, .unset, .unset, .unset] [])) _
              exact k
            refine OEndsW.cut (fun En => ∀ (v10 : Int32), En (s₁.setTop (mkF m 79 #[.val (.int p1), .val (.int p2), .val (.int p3), .val (.int p4), .val (.int p5), .val (.int z5), .val (.int z6), .val (.int z7), .val (.int z8), .val (.int v9), .unset, .unset, .unset, .unset, .unset, .unset] [(.int v10)]))) ?_ (fun K79 => ?_)
            · intro v10
              refine OEndsW.go (t' := s₁.setTop (mkF m 81 #[.val (.int p1), .val (.int p2), .val (.int p3), .val (.int p4), .val (.int p5), .val (.int z5), .val (.int z6), .val (.int z7), .val (.int z8), .val (.int v9), .val (.int v10), .unset, .unset, .unset, .unset, .unset] [])) (fun _ k => ?_) ?_
              · show Steps p.tables e below (s₁.setTop (mkF m 79 #[.val (.int p1), .val (.int p2), .val (.int p3), .val (.int p4), .val (.int p5), .val (.int z5), .val (.int z6), .val (.int z7), .val (.int z8), .val (.int v9), .unset, .unset, .unset, .unset, .unset, .unset] [(.int v10)])) _
                refine XS.istore X0.here hx rfl (hb hby at_79) rfl (l' := #[.val (.int p1), .val (.int p2), .val (.int p3), .val (.int p4), .val (.int p5), .val (.int z5), .val (.int z6), .val (.int z7), .val (.int z8), .val (.int v9), .val (.int v10), .unset, .unset, .unset, .unset, .unset]) rfl ?_
                show Steps p.tables e below (s₁.setTop (mkF m 81 #[.val (.int p1), .val (.int p2), .val (.int p3), .val (.int p4), .val (.int p5), .val (.int z5), .val (.int z6), .val (.int z7), .val (.int z8), .val (.int v9), .val (.int v10), .unset, .unset, .unset, .unset, .unset] [])) _
                exact k
              refine OEndsW.go (t' := s₁.setTop (mkF m 83 #[.val (.int p1), .val (.int p2), .val (.int p3), .val (.int p4), .val (.int p5), .val (.int z5), .val (.int z6), .val (.int z7), .val (.int z8), .val (.int v9), .val (.int v10), .unset, .unset, .unset, .unset, .unset] [(.int z5)])) (fun _ k => ?_) ?_
              · show Steps p.tables e below (s₁.setTop (mkF m 81 #[.val (.int p1), .val (.int p2), .val (.int p3), .val (.int p4), .val (.int p5), .val (.int z5), .val (.int z6), .val (.int z7), .val (.int z8), .val (.int v9), .val (.int v10), .unset, .unset, .unset, .unset, .unset] [])) _
                refine XS.iload X0.here hx rfl (hb hby at_81) rfl ?_
                show Steps p.tables e below (s₁.setTop (mkF m 83 #[.val (.int p1), .val (.int p2), .val (.int p3), .val (.int p4), .val (.int p5), .val (.int z5), .val (.int z6), .val (.int z7), .val (.int z8), .val (.int v9), .val (.int v10), .unset, .unset, .unset, .unset, .unset] [(.int z5)])) _
                exact k
              by_cases h83 : z5 = (0 : Int32)
              · refine OEndsW.go (t' := s₁.setTop (mkF m 90 #[.val (.int p1), .val (.int p2), .val (.int p3), .val (.int p4), .val (.int p5), .val (.int z5), .val (.int z6), .val (.int z7), .val (.int z8), .val (.int v9), .val (.int v10), .unset, .unset, .unset, .unset, .unset] [])) (fun _ k => XS.ifYes X0.here hx rfl (pc0 := 83) (pc' := 90) rfl (hb hby at_83) rfl ((if0 _ _).trans (teq h83).1) (by decide) (by decide) k) ?_
                refine OEndsW.go (t' := s₁.setTop (mkF m 91 #[.val (.int p1), .val (.int p2), .val (.int p3), .val (.int p4), .val (.int p5), .val (.int z5), .val (.int z6), .val (.int z7), .val (.int z8), .val (.int v9), .val (.int v10), .unset, .unset, .unset, .unset, .unset] [(.int p1)])) (fun _ k => ?_) ?_
                · show Steps p.tables e below (s₁.setTop (mkF m 90 #[.val (.int p1), .val (.int p2), .val (.int p3), .val (.int p4), .val (.int p5), .val (.int z5), .val (.int z6), .val (.int z7), .val (.int z8), .val (.int v9), .val (.int v10), .unset, .unset, .unset, .unset, .unset] [])) _
                  refine XS.iloadN X0.here hx rfl (hb hby at_90) rfl ?_
                  show Steps p.tables e below (s₁.setTop (mkF m 91 #[.val (.int p1), .val (.int p2), .val (.int p3), .val (.int p4), .val (.int p5), .val (.int z5), .val (.int z6), .val (.int z7), .val (.int z8), .val (.int v9), .val (.int v10), .unset, .unset, .unset, .unset, .unset] [(.int p1)])) _
                  exact k
                obtain ⟨_, _, ⟨T1, L1, k1, n1⟩, -, X1, hSq1, hgq1, ⟨Lc1, hQ1, l1, y1, z1⟩, st1⟩ := callSS X0 hx (y := (⟨"com/example/viitta/viitta/core/SafeXmlStartTagIsPinLaw", "mk", "(I)Ljava/lang/String;"⟩ : MethodName)) hown (mvT hZ (hw _ (List.mem_of_getElem? (i := 0) rfl))) (mvT hZ (hw _ (List.mem_of_getElem? (i := 1) rfl))) (mvT hZ (hw _ (List.mem_of_getElem? (i := 2) rfl))) (mvT hZ (hw _ (List.mem_of_getElem? (i := 3) rfl))) (by decide) (own_backI (W := 0) (rm1 l Z a0 hw [] p1 w1 h0 n0 Z0 S_C c0 hzt hcw hH) hZ (fun vm hW => hEv.stays hW) (hw _ (List.mem_of_getElem? (i := 3) rfl)) (hw _ (List.mem_of_getElem? (i := 2) rfl)) (by decide) (by decide)) (g := (mkF m 91 #[.val (.int p1), .val (.int p2), .val (.int p3), .val (.int p4), .val (.int p5), .val (.int z5), .val (.int z6), .val (.int z7), .val (.int z8), .val (.int v9), .val (.int v10), .unset, .unset, .unset, .unset, .unset] [(.int p1)])) rfl (by rw [hml]; rfl) (argsL := [(.int p1)]) (rest := []) (lenOf pd_rm0_0 rfl) rfl (by show 2 * 0 + _ ≤ _; exact Nat.le_of_eq rfl) (hb hby at_91) (fun _ _ => ⟨rfl, e0, (by decide : 0 + 4 ≤ _), (by decide : 0 + 15 ≤ _)⟩)
                dsimp only [Pt.U, Pt.locs, Pt.cells, Pt.slots] at X1 l1 y1 z1 st1 hQ1 hSq1 hgq1
                subst l1 y1 z1
                obtain ⟨X1, hS1, hZ, hown⟩ := rebS (s := s) (vm0 := s.vm) (vm1 := T1.vm) hS0 (Nat.zero_le _) X1 hSq1 hgq1 hZ hown
                obtain ⟨r1, r1_b, r1_k, rfl, N1q, Kc1, r1_S, hEv⟩ := hQ1
                have N1 := Fr.app N0 N1q
                have hzt := hzt.keep Kc1 all0
                have Z1 : n0 ≤ T1.heap.size := Nat.le_trans Z0 Kc1.1
                have hk1 : T1.heap.size ≤ T1.heap.size := Nat.le_refl _
                refine OEndsW.go (t' := T1.setTop (mkF m 94 #[.val (.int p1), .val (.int p2), .val (.int p3), .val (.int p4), .val (.int p5), .val (.int z5), .val (.int z6), .val (.int z7), .val (.int z8), .val (.int v9), .val (.int v10), .unset, .unset, .unset, .unset, .unset] [(.ref r1)])) (fun _ k => st1.trans k) ?_
                refine OEndsW.go (t' := T1.setTop (mkF m 97 #[.val (.int p1), .val (.int p2), .val (.int p3), .val (.int p4), .val (.int p5), .val (.int z5), .val (.int z6), .val (.int z7), .val (.int z8), .val (.int v9), .val (.int v10), .val (.ref r1), .unset, .unset, .unset, .unset] [(.int p2)])) (fun _ k => ?_) ?_
                · show Steps p.tables e below (T1.setTop (mkF m 94 #[.val (.int p1), .val (.int p2), .val (.int p3), .val (.int p4), .val (.int p5), .val (.int z5), .val (.int z6), .val (.int z7), .val (.int z8), .val (.int v9), .val (.int v10), .unset, .unset, .unset, .unset, .unset] [(.ref r1)])) _
                  refine XS.astore X1.here hx rfl (hb hby at_94) rfl rfl (l' := #[.val (.int p1), .val (.int p2), .val (.int p3), .val (.int p4), .val (.int p5), .val (.int z5), .val (.int z6), .val (.int z7), .val (.int z8), .val (.int v9), .val (.int v10), .val (.ref r1), .unset, .unset, .unset, .unset]) rfl ?_
                  show Steps p.tables e below (T1.setTop (mkF m 96 #[.val (.int p1), .val (.int p2), .val (.int p3), .val (.int p4), .val (.int p5), .val (.int z5), .val (.int z6), .val (.int z7), .val (.int z8), .val (.int v9), .val (.int v10), .val (.ref r1), .unset, .unset, .unset, .unset] [])) _
                  refine XS.iloadN X1.here hx rfl (hb hby at_96) rfl ?_
                  show Steps p.tables e below (T1.setTop (mkF m 97 #[.val (.int p1), .val (.int p2), .val (.int p3), .val (.int p4), .val (.int p5), .val (.int z5), .val (.int z6), .val (.int z7), .val (.int z8), .val (.int v9), .val (.int v10), .val (.ref r1), .unset, .unset, .unset, .unset] [(.int p2)])) _
                  exact k
                obtain ⟨_, _, ⟨T2, L2, k2, n2⟩, -, X2, hSq2, hgq2, ⟨Lc2, hQ2, l2, y2, z2⟩, st2⟩ := callSS X1 hx (y := (⟨"com/example/viitta/viitta/core/SafeXmlStartTagIsPinLaw", "mk", "(I)Ljava/lang/String;"⟩ : MethodName)) hown (mvT hZ (hw _ (List.mem_of_getElem? (i := 0) rfl))) (mvT hZ (hw _ (List.mem_of_getElem? (i := 1) rfl))) (mvT hZ (hw _ (List.mem_of_getElem? (i := 2) rfl))) (mvT hZ (hw _ (List.mem_of_getElem? (i := 3) rfl))) (by decide) (own_backI (W := 0) (rm1 l Z a0 hw [] p2 w1 T1.heap n0 Z1 S_C c0 hzt hcw hH) hZ (fun vm hW => hEv.stays hW) (hw _ (List.mem_of_getElem? (i := 3) rfl)) (hw _ (List.mem_of_getElem? (i := 2) rfl)) (by decide) (by decide)) (g := (mkF m 97 #[.val (.int p1), .val (.int p2), .val (.int p3), .val (.int p4), .val (.int p5), .val (.int z5), .val (.int z6), .val (.int z7), .val (.int z8), .val (.int v9), .val (.int v10), .val (.ref r1), .unset, .unset, .unset, .unset] [(.int p2)])) rfl (by rw [hml]; rfl) (argsL := [(.int p2)]) (rest := []) (lenOf pd_rm0_0 rfl) rfl (by show 2 * 0 + _ ≤ _; exact Nat.le_of_eq rfl) (hb hby at_97) (fun _ _ => ⟨rfl, rfl, (by decide : 4 + 4 ≤ _), (by decide : 15 + 15 ≤ _)⟩)
                dsimp only [Pt.U, Pt.locs, Pt.cells, Pt.slots] at X2 l2 y2 z2 st2 hQ2 hSq2 hgq2
                subst l2 y2 z2
                obtain ⟨X2, hS2, hZ, hown⟩ := rebS (s := s) (vm0 := T1.vm) (vm1 := T2.vm) hS1 hk1 X2 hSq2 hgq2 hZ hown
                obtain ⟨r2, r2_b, r2_k, rfl, N2q, Kc2, r2_S, hEv⟩ := hQ2
                have N2 := Fr.app N1 N2q
                have hzt := hzt.keep Kc2 all0
                have r1_S := r1_S.keep Kc2 nin0 nin0
                have Z2 : n0 ≤ T2.heap.size := Nat.le_trans Z1 Kc2.1
                have hk2 : T2.heap.size ≤ T2.heap.size := Nat.le_refl _
                refine OEndsW.go (t' := T2.setTop (mkF m 100 #[.val (.int p1), .val (.int p2), .val (.int p3), .val (.int p4), .val (.int p5), .val (.int z5), .val (.int z6), .val (.int z7), .val (.int z8), .val (.int v9), .val (.int v10), .val (.ref r1), .unset, .unset, .unset, .unset] [(.ref r2)])) (fun _ k => st2.trans k) ?_
                refine OEndsW.go (t' := T2.setTop (mkF m 104 #[.val (.int p1), .val (.int p2), .val (.int p3), .val (.int p4), .val (.int p5), .val (.int z5), .val (.int z6), .val (.int z7), .val (.int z8), .val (.int v9), .val (.int v10), .val (.ref r1), .val (.ref r2), .unset, .unset, .unset] [(.int z8)])) (fun _ k => ?_) ?_
                · show Steps p.tables e below (T2.setTop (mkF m 100 #[.val (.int p1), .val (.int p2), .val (.int p3), .val (.int p4), .val (.int p5), .val (.int z5), .val (.int z6), .val (.int z7), .val (.int z8), .val (.int v9), .val (.int v10), .val (.ref r1), .unset, .unset, .unset, .unset] [(.ref r2)])) _
                  refine XS.astore X2.here hx rfl (hb hby at_100) rfl rfl (l' := #[.val (.int p1), .val (.int p2), .val (.int p3), .val (.int p4), .val (.int p5), .val (.int z5), .val (.int z6), .val (.int z7), .val (.int z8), .val (.int v9), .val (.int v10), .val (.ref r1), .val (.ref r2), .unset, .unset, .unset]) rfl ?_
                  show Steps p.tables e below (T2.setTop (mkF m 102 #[.val (.int p1), .val (.int p2), .val (.int p3), .val (.int p4), .val (.int p5), .val (.int z5), .val (.int z6), .val (.int z7), .val (.int z8), .val (.int v9), .val (.int v10), .val (.ref r1), .val (.ref r2), .unset, .unset, .unset] [])) _
                  refine XS.iload X2.here hx rfl (hb hby at_102) rfl ?_
                  show Steps p.tables e below (T2.setTop (mkF m 104 #[.val (.int p1), .val (.int p2), .val (.int p3), .val (.int p4), .val (.int p5), .val (.int z5), .val (.int z6), .val (.int z7), .val (.int z8), .val (.int v9), .val (.int v10), .val (.ref r1), .val (.ref r2), .unset, .unset, .unset] [(.int z8)])) _
                  exact k
                refine OEndsW.cut (fun En => ∀ (Tq : State) (Tq_l : List Loc) (hTq : Heap) (vmTq : Vm) (kTq : Nat), Stand p l e room_1 (s.setVm vmTq) m #[(.int p1), (.int p2), (.int p3), (.int p4), (.int p5)] below meth c Tq Tq_l 12 45 → Tq.heap = hTq → Fr n0 Tq_l → n0 ≤ hTq.size → s.Since vmTq kTq → kTq ≤ hTq.size → Z.Warmed39 vmTq → vmTq.findClass "com/example/viitta/viitta/core/SafeXmlStartTagIsPinLaw" = some m.cls → ∀ (qn : Addr), Old Z n0 hTq → own_Ev Z vmTq hTq → own_S Z hTq r2 r2_b r2_k ((own_C p2).map own_b) → own_S Z hTq r1 r1_b r1_k ((own_C p1).map own_b) → En (Tq.setTop (mkF m 117 #[.val (.int p1), .val (.int p2), .val (.int p3), .val (.int p4), .val (.int p5), .val (.int z5), .val (.int z6), .val (.int z7), .val (.int z8), .val (.int v9), .val (.int v10), .val (.ref r1), .val (.ref r2), .unset, .unset, .unset] [(.ref qn)]))) ?_ (fun K117 => ?_)
                · intro Tq Tq_l hTq vmTq kTq XTq eTq NTq ZTq hSTq hkTq hZ hown qn hzt hEv r2_S r1_S
                  refine OEndsW.go (t' := Tq.setTop (mkF m 119 #[.val (.int p1), .val (.int p2), .val (.int p3), .val (.int p4), .val (.int p5), .val (.int z5), .val (.int z6), .val (.int z7), .val (.int z8), .val (.int v9), .val (.int v10), .val (.ref r1), .val (.ref r2), .val (.ref qn), .unset, .unset] [])) (fun _ k => ?_) ?_
                  · show Steps p.tables e below (Tq.setTop (mkF m 117 #[.val (.int p1), .val (.int p2), .val (.int p3), .val (.int p4), .val (.int p5), .val (.int z5), .val (.int z6), .val (.int z7), .val (.int z8), .val (.int v9), .val (.int v10), .val (.ref r1), .val (.ref r2), .unset, .unset, .unset] [(.ref qn)])) _
                    refine XS.astore XTq.here hx rfl (hb hby at_117) rfl rfl (l' := #[.val (.int p1), .val (.int p2), .val (.int p3), .val (.int p4), .val (.int p5), .val (.int z5), .val (.int z6), .val (.int z7), .val (.int z8), .val (.int v9), .val (.int v10), .val (.ref r1), .val (.ref r2), .val (.ref qn), .unset, .unset]) rfl ?_
                    show Steps p.tables e below (Tq.setTop (mkF m 119 #[.val (.int p1), .val (.int p2), .val (.int p3), .val (.int p4), .val (.int p5), .val (.int z5), .val (.int z6), .val (.int z7), .val (.int z8), .val (.int v9), .val (.int v10), .val (.ref r1), .val (.ref r2), .val (.ref qn), .unset, .unset] [])) _
                    exact k
                  obtain ⟨T3, h3, X3, e3, E3, A3, D3, -, st3⟩ := newO XTq hx hZ hown (hw _ (List.mem_of_getElem? (i := 29) rfl)) (hw _ (List.mem_of_getElem? (i := 30) rfl)) (hw _ (List.mem_of_getElem? (i := 31) rfl)) eTq (g := (mkF m 119 #[.val (.int p1), .val (.int p2), .val (.int p3), .val (.int p4), .val (.int p5), .val (.int z5), .val (.int z6), .val (.int z7), .val (.int z8), .val (.int v9), .val (.int v10), .val (.ref r1), .val (.ref r2), .val (.ref qn), .unset, .unset] [])) rfl (hb hby at_119) (by decide) (by decide)
                  obtain ⟨tg, gz3⟩ : ∃ z, z = hTq.size := ⟨_, rfl⟩
                  rw [← gz3] at A3 D3 st3
                  have ne_r2_tg : r2 ≠ tg := Nat.ne_of_lt (Nat.lt_of_lt_of_le r2_S.lt (Nat.le_of_eq gz3.symm))
                  have ne_r2_b_tg : r2_b ≠ tg := Nat.ne_of_lt (Nat.lt_of_lt_of_le r2_S.2.2.2.lt (Nat.le_of_eq gz3.symm))
                  have ne_r1_tg : r1 ≠ tg := Nat.ne_of_lt (Nat.lt_of_lt_of_le r1_S.lt (Nat.le_of_eq gz3.symm))
                  have ne_r1_b_tg : r1_b ≠ tg := Nat.ne_of_lt (Nat.lt_of_lt_of_le r1_S.2.2.2.lt (Nat.le_of_eq gz3.symm))
                  have g_tg : n0 ≤ tg := Nat.le_trans ZTq (Nat.le_of_eq gz3.symm)
                  have sz_tg : hTq.size ≤ tg := Nat.le_trans (Keep.refl hTq []).1 (Nat.le_of_eq gz3.symm)
                  have hzt := hzt.ext E3
                  have r2_S := r2_S.ext E3
                  have r1_S := r1_S.ext E3
                  have Z3 : n0 ≤ h3.size := Nat.le_trans ZTq E3.1
                  have hk3 := Nat.le_trans hkTq E3.1
                  have K3 := (Keep.refl hTq []).ext E3
                  have E_tg := A3
                  have F_namespace_tg : Fld Z h3 tg "com/example/viitta/viitta/core/SafeXml$StartTag" "namespace" "Ljava/lang/String;" .null := D3 (Or.inr (hw _ (List.mem_of_getElem? (i := 66) rfl))) (ty := (.object "java/lang/String")) (by decide)
                  have F_qualifiedName_tg : Fld Z h3 tg "com/example/viitta/viitta/core/SafeXml$StartTag" "qualifiedName" "Ljava/lang/String;" .null := D3 (Or.inr (hw _ (List.mem_of_getElem? (i := 68) rfl))) (ty := (.object "java/lang/String")) (by decide)
                  have F_localName_tg : Fld Z h3 tg "com/example/viitta/viitta/core/SafeXml$StartTag" "localName" "Ljava/lang/String;" .null := D3 (Or.inr (hw _ (List.mem_of_getElem? (i := 70) rfl))) (ty := (.object "java/lang/String")) (by decide)
                  have F_namespaces_tg : Fld Z h3 tg "com/example/viitta/viitta/core/SafeXml$StartTag" "namespaces" "Ljava/util/List;" .null := D3 (Or.inr (hw _ (List.mem_of_getElem? (i := 72) rfl))) (ty := (.object "java/util/List")) (by decide)
                  have F_attributes_tg : Fld Z h3 tg "com/example/viitta/viitta/core/SafeXml$StartTag" "attributes" "Ljava/util/List;" .null := D3 (Or.inr (hw _ (List.mem_of_getElem? (i := 74) rfl))) (ty := (.object "java/util/List")) (by decide)
                  refine OEndsW.go (t' := T3.setTop (mkF m 122 #[.val (.int p1), .val (.int p2), .val (.int p3), .val (.int p4), .val (.int p5), .val (.int z5), .val (.int z6), .val (.int z7), .val (.int z8), .val (.int v9), .val (.int v10), .val (.ref r1), .val (.ref r2), .val (.ref qn), .unset, .unset] [(.ref tg)])) (fun _ k => st3 _ k) ?_
                  refine OEndsW.go (t' := T3.setTop (mkF m 129 #[.val (.int p1), .val (.int p2), .val (.int p3), .val (.int p4), .val (.int p5), .val (.int z5), .val (.int z6), .val (.int z7), .val (.int z8), .val (.int v9), .val (.int v10), .val (.ref r1), .val (.ref r2), .val (.ref qn), .unset, .unset] [(.ref r2), (.ref qn), (.ref r1), (.ref tg), (.ref tg)])) (fun _ k => ?_) ?_
                  · show Steps p.tables e below (T3.setTop (mkF m 122 #[.val (.int p1), .val (.int p2), .val (.int p3), .val (.int p4), .val (.int p5), .val (.int z5), .val (.int z6), .val (.int z7), .val (.int z8), .val (.int v9), .val (.int v10), .val (.ref r1), .val (.ref r2), .val (.ref qn), .unset, .unset] [(.ref tg)])) _
                    refine XS.dup X3.here hx rfl (hb hby at_122) rfl rfl ?_
                    show Steps p.tables e below (T3.setTop (mkF m 123 #[.val (.int p1), .val (.int p2), .val (.int p3), .val (.int p4), .val (.int p5), .val (.int z5), .val (.int z6), .val (.int z7), .val (.int z8), .val (.int v9), .val (.int v10), .val (.ref r1), .val (.ref r2), .val (.ref qn), .unset, .unset] [(.ref tg), (.ref tg)])) _
                    refine XS.aload X3.here hx rfl (hb hby at_123) rfl rfl ?_
                    show Steps p.tables e below (T3.setTop (mkF m 125 #[.val (.int p1), .val (.int p2), .val (.int p3), .val (.int p4), .val (.int p5), .val (.int z5), .val (.int z6), .val (.int z7), .val (.int z8), .val (.int v9), .val (.int v10), .val (.ref r1), .val (.ref r2), .val (.ref qn), .unset, .unset] [(.ref r1), (.ref tg), (.ref tg)])) _
                    refine XS.aload X3.here hx rfl (hb hby at_125) rfl rfl ?_
                    show Steps p.tables e below (T3.setTop (mkF m 127 #[.val (.int p1), .val (.int p2), .val (.int p3), .val (.int p4), .val (.int p5), .val (.int z5), .val (.int z6), .val (.int z7), .val (.int z8), .val (.int v9), .val (.int v10), .val (.ref r1), .val (.ref r2), .val (.ref qn), .unset, .unset] [(.ref qn), (.ref r1), (.ref tg), (.ref tg)])) _
                    refine XS.aload X3.here hx rfl (hb hby at_127) rfl rfl ?_
                    show Steps p.tables e below (T3.setTop (mkF m 129 #[.val (.int p1), .val (.int p2), .val (.int p3), .val (.int p4), .val (.int p5), .val (.int z5), .val (.int z6), .val (.int z7), .val (.int z8), .val (.int v9), .val (.int v10), .val (.ref r1), .val (.ref r2), .val (.ref qn), .unset, .unset] [(.ref r2), (.ref qn), (.ref r1), (.ref tg), (.ref tg)])) _
                    exact k
                  obtain ⟨T4, h4, X4, e4, E4, A4, D4, -, st4⟩ := newO X3 hx hZ hown (hw _ (List.mem_of_getElem? (i := 32) rfl)) (hw _ (List.mem_of_getElem? (i := 33) rfl)) (hw _ (List.mem_of_getElem? (i := 34) rfl)) e3 (g := (mkF m 129 #[.val (.int p1), .val (.int p2), .val (.int p3), .val (.int p4), .val (.int p5), .val (.int z5), .val (.int z6), .val (.int z7), .val (.int z8), .val (.int v9), .val (.int v10), .val (.ref r1), .val (.ref r2), .val (.ref qn), .unset, .unset] [(.ref r2), (.ref qn), (.ref r1), (.ref tg), (.ref tg)])) rfl (hb hby at_129) (by decide) (by decide)
                  obtain ⟨u1, gz4⟩ : ∃ z, z = h3.size := ⟨_, rfl⟩
                  rw [← gz4] at A4 D4 st4
                  have ne_r2_u1 : r2 ≠ u1 := Nat.ne_of_lt (Nat.lt_of_lt_of_le r2_S.lt (Nat.le_of_eq gz4.symm))
                  have ne_r2_b_u1 : r2_b ≠ u1 := Nat.ne_of_lt (Nat.lt_of_lt_of_le r2_S.2.2.2.lt (Nat.le_of_eq gz4.symm))
                  have ne_r1_u1 : r1 ≠ u1 := Nat.ne_of_lt (Nat.lt_of_lt_of_le r1_S.lt (Nat.le_of_eq gz4.symm))
                  have ne_r1_b_u1 : r1_b ≠ u1 := Nat.ne_of_lt (Nat.lt_of_lt_of_le r1_S.2.2.2.lt (Nat.le_of_eq gz4.symm))
                  have ne_tg_u1 : tg ≠ u1 := Nat.ne_of_lt (Nat.lt_of_lt_of_le E_tg.lt (Nat.le_of_eq gz4.symm))
                  have g_u1 : n0 ≤ u1 := Nat.le_trans Z3 (Nat.le_of_eq gz4.symm)
                  have sz_u1 : hTq.size ≤ u1 := Nat.le_trans K3.1 (Nat.le_of_eq gz4.symm)
                  have hzt := hzt.ext E4
                  have r2_S := r2_S.ext E4
                  have r1_S := r1_S.ext E4
                  have E_tg := E_tg.ext E4
                  have F_namespace_tg := F_namespace_tg.ext E4
                  have F_qualifiedName_tg := F_qualifiedName_tg.ext E4
                  have F_localName_tg := F_localName_tg.ext E4
                  have F_namespaces_tg := F_namespaces_tg.ext E4
                  have F_attributes_tg := F_attributes_tg.ext E4
                  have Z4 : n0 ≤ h4.size := Nat.le_trans Z3 E4.1
                  have hk4 := Nat.le_trans hk3 E4.1
                  have K4 := K3.ext E4
                  have E_u1 := A4
                  have F_modCount_u1 : Fld Z h4 u1 "java/util/AbstractList" "modCount" "I" (.int (0 : Int32)) := D4 (Or.inl (hw _ (List.mem_of_getElem? (i := 52) rfl))) (ty := .int) (by decide)
                  have F_elementData_u1 : Fld Z h4 u1 "java/util/ArrayList" "elementData" "[Ljava/lang/Object;" .null := D4 (Or.inl (hw _ (List.mem_of_getElem? (i := 55) rfl))) (ty := (.array (.object "java/lang/Object"))) (by decide)
                  refine OEndsW.go (t' := T4.setTop (mkF m 132 #[.val (.int p1), .val (.int p2), .val (.int p3), .val (.int p4), .val (.int p5), .val (.int z5), .val (.int z6), .val (.int z7), .val (.int z8), .val (.int v9), .val (.int v10), .val (.ref r1), .val (.ref r2), .val (.ref qn), .unset, .unset] [(.ref u1), (.ref r2), (.ref qn), (.ref r1), (.ref tg), (.ref tg)])) (fun _ k => st4 _ k) ?_
                  refine OEndsW.go (t' := T4.setTop (mkF m 133 #[.val (.int p1), .val (.int p2), .val (.int p3), .val (.int p4), .val (.int p5), .val (.int z5), .val (.int z6), .val (.int z7), .val (.int z8), .val (.int v9), .val (.int v10), .val (.ref r1), .val (.ref r2), .val (.ref qn), .unset, .unset] [(.ref u1), (.ref u1), (.ref r2), (.ref qn), (.ref r1), (.ref tg), (.ref tg)])) (fun _ k => ?_) ?_
                  · show Steps p.tables e below (T4.setTop (mkF m 132 #[.val (.int p1), .val (.int p2), .val (.int p3), .val (.int p4), .val (.int p5), .val (.int z5), .val (.int z6), .val (.int z7), .val (.int z8), .val (.int v9), .val (.int v10), .val (.ref r1), .val (.ref r2), .val (.ref qn), .unset, .unset] [(.ref u1), (.ref r2), (.ref qn), (.ref r1), (.ref tg), (.ref tg)])) _
                    refine XS.dup X4.here hx rfl (hb hby at_132) rfl rfl ?_
                    show Steps p.tables e below (T4.setTop (mkF m 133 #[.val (.int p1), .val (.int p2), .val (.int p3), .val (.int p4), .val (.int p5), .val (.int z5), .val (.int z6), .val (.int z7), .val (.int z8), .val (.int v9), .val (.int v10), .val (.ref r1), .val (.ref r2), .val (.ref qn), .unset, .unset] [(.ref u1), (.ref u1), (.ref r2), (.ref qn), (.ref r1), (.ref tg), (.ref tg)])) _
                    exact k
                  obtain ⟨_, _, ⟨T5, L5, k5, n5⟩, -, X5, ⟨Lc5, hQ5, l5, y5, z5⟩, st5⟩ := X4.specialBack hx (y := (⟨"java/util/ArrayList", "<init>", "()V"⟩ : MethodName)) rfl hown (mvT hZ (hw _ (List.mem_of_getElem? (i := 35) rfl))) (mvT hZ (hw _ (List.mem_of_getElem? (i := 36) rfl))) (mvT hZ (hw _ (List.mem_of_getElem? (i := 37) rfl))) (by decide) (backOf (W := 6) (rm6 l Z a0 hw [] u1 d1 h4 n0 Z4 F_modCount_u1 E_u1 g_u1 F_elementData_u1 S_D hzt) hZ (hw _ (List.mem_of_getElem? (i := 37) rfl)) (hw _ (List.mem_of_getElem? (i := 34) rfl)) (by decide) (by decide)) (g := (mkF m 133 #[.val (.int p1), .val (.int p2), .val (.int p3), .val (.int p4), .val (.int p5), .val (.int z5), .val (.int z6), .val (.int z7), .val (.int z8), .val (.int v9), .val (.int v10), .val (.ref r1), .val (.ref r2), .val (.ref qn), .unset, .unset] [(.ref u1), (.ref u1), (.ref r2), (.ref qn), (.ref r1), (.ref tg), (.ref tg)])) rfl (by rw [hml]; rfl) (Steps.refl _) (a := u1) (argsL := []) (rest := [(.ref u1), (.ref r2), (.ref qn), (.ref r1), (.ref tg), (.ref tg)]) (lenOf pd_rm0_1 rfl) rfl (by show 2 * 0 + _ ≤ _; exact Nat.le_of_eq rfl) (hb hby at_133) (fun _ _ => ⟨rfl, e4, (by decide : 14 + 0 ≤ _), (by decide : 53 + 0 ≤ _)⟩)
                  dsimp only [Pt.U, Pt.locs, Pt.cells, Pt.slots] at X5 l5 y5 z5 st5 hQ5
                  subst l5 y5 z5
                  obtain ⟨rfl, N5q, Kc5⟩ := hQ5
                  have N5 := Fr.app NTq N5q
                  have hzt := hzt.keep Kc5 (allS g_u1 all0)
                  have r2_S := r2_S.keep Kc5 (ninS ne_r2_u1 nin0) (ninS ne_r2_b_u1 nin0)
                  have r1_S := r1_S.keep Kc5 (ninS ne_r1_u1 nin0) (ninS ne_r1_b_u1 nin0)
                  have E_tg := E_tg.keep Kc5
                  have F_namespace_tg := F_namespace_tg.keep Kc5 (ninS ne_tg_u1 nin0)
                  have F_qualifiedName_tg := F_qualifiedName_tg.keep Kc5 (ninS ne_tg_u1 nin0)
                  have F_localName_tg := F_localName_tg.keep Kc5 (ninS ne_tg_u1 nin0)
                  have F_namespaces_tg := F_namespaces_tg.keep Kc5 (ninS ne_tg_u1 nin0)
                  have F_attributes_tg := F_attributes_tg.keep Kc5 (ninS ne_tg_u1 nin0)
                  have E_u1 := E_u1.keep Kc5
                  have Z5 : n0 ≤ T5.heap.size := Nat.le_trans Z4 Kc5.1
                  have hk5 := Nat.le_trans hk4 Kc5.1
                  have K5 := K4.trans Kc5 (allS (Or.inr sz_u1) all0)
                  refine OEndsW.go (t' := T5.setTop (mkF m 136 #[.val (.int p1), .val (.int p2), .val (.int p3), .val (.int p4), .val (.int p5), .val (.int z5), .val (.int z6), .val (.int z7), .val (.int z8), .val (.int v9), .val (.int v10), .val (.ref r1), .val (.ref r2), .val (.ref qn), .unset, .unset] [(.ref u1), (.ref r2), (.ref qn), (.ref r1), (.ref tg), (.ref tg)])) (fun _ k => st5.trans k) ?_
                  obtain ⟨T6, h6, X6, e6, E6, A6, D6, -, st6⟩ := newO X5 hx hZ hown (hw _ (List.mem_of_getElem? (i := 32) rfl)) (hw _ (List.mem_of_getElem? (i := 33) rfl)) (hw _ (List.mem_of_getElem? (i := 34) rfl)) rfl (g := (mkF m 136 #[.val (.int p1), .val (.int p2), .val (.int p3), .val (.int p4), .val (.int p5), .val (.int z5), .val (.int z6), .val (.int z7), .val (.int z8), .val (.int v9), .val (.int v10), .val (.ref r1), .val (.ref r2), .val (.ref qn), .unset, .unset] [(.ref u1), (.ref r2), (.ref qn), (.ref r1), (.ref tg), (.ref tg)])) rfl (hb hby at_136) (by decide) (by decide)
                  obtain ⟨u2, gz6⟩ : ∃ z, z = T5.heap.size := ⟨_, rfl⟩
                  rw [← gz6] at A6 D6 st6
                  have ne_r2_u2 : r2 ≠ u2 := Nat.ne_of_lt (Nat.lt_of_lt_of_le r2_S.lt (Nat.le_of_eq gz6.symm))
                  have ne_r2_b_u2 : r2_b ≠ u2 := Nat.ne_of_lt (Nat.lt_of_lt_of_le r2_S.2.2.2.lt (Nat.le_of_eq gz6.symm))
                  have ne_r1_u2 : r1 ≠ u2 := Nat.ne_of_lt (Nat.lt_of_lt_of_le r1_S.lt (Nat.le_of_eq gz6.symm))
                  have ne_r1_b_u2 : r1_b ≠ u2 := Nat.ne_of_lt (Nat.lt_of_lt_of_le r1_S.2.2.2.lt (Nat.le_of_eq gz6.symm))
                  have ne_tg_u2 : tg ≠ u2 := Nat.ne_of_lt (Nat.lt_of_lt_of_le E_tg.lt (Nat.le_of_eq gz6.symm))
                  have g_u2 : n0 ≤ u2 := Nat.le_trans Z5 (Nat.le_of_eq gz6.symm)
                  have sz_u2 : hTq.size ≤ u2 := Nat.le_trans K5.1 (Nat.le_of_eq gz6.symm)
                  have hzt := hzt.ext E6
                  have r2_S := r2_S.ext E6
                  have r1_S := r1_S.ext E6
                  have E_tg := E_tg.ext E6
                  have F_namespace_tg := F_namespace_tg.ext E6
                  have F_qualifiedName_tg := F_qualifiedName_tg.ext E6
                  have F_localName_tg := F_localName_tg.ext E6
                  have F_namespaces_tg := F_namespaces_tg.ext E6
                  have F_attributes_tg := F_attributes_tg.ext E6
                  have Z6 : n0 ≤ h6.size := Nat.le_trans Z5 E6.1
                  have hk6 := Nat.le_trans hk5 E6.1
                  have K6 := K5.ext E6
                  have E_u2 := A6
                  have F_modCount_u2 : Fld Z h6 u2 "java/util/AbstractList" "modCount" "I" (.int (0 : Int32)) := D6 (Or.inl (hw _ (List.mem_of_getElem? (i := 52) rfl))) (ty := .int) (by decide)
                  have F_elementData_u2 : Fld Z h6 u2 "java/util/ArrayList" "elementData" "[Ljava/lang/Object;" .null := D6 (Or.inl (hw _ (List.mem_of_getElem? (i := 55) rfl))) (ty := (.array (.object "java/lang/Object"))) (by decide)
                  refine OEndsW.go (t' := T6.setTop (mkF m 139 #[.val (.int p1), .val (.int p2), .val (.int p3), .val (.int p4), .val (.int p5), .val (.int z5), .val (.int z6), .val (.int z7), .val (.int z8), .val (.int v9), .val (.int v10), .val (.ref r1), .val (.ref r2), .val (.ref qn), .unset, .unset] [(.ref u2), (.ref u1), (.ref r2), (.ref qn), (.ref r1), (.ref tg), (.ref tg)])) (fun _ k => st6 _ k) ?_
                  refine OEndsW.go (t' := T6.setTop (mkF m 140 #[.val (.int p1), .val (.int p2), .val (.int p3), .val (.int p4), .val (.int p5), .val (.int z5), .val (.int z6), .val (.int z7), .val (.int z8), .val (.int v9), .val (.int v10), .val (.ref r1), .val (.ref r2), .val (.ref qn), .unset, .unset] [(.ref u2), (.ref u2), (.ref u1), (.ref r2), (.ref qn), (.ref r1), (.ref tg), (.ref tg)])) (fun _ k => ?_) ?_
                  · show Steps p.tables e below (T6.setTop (mkF m 139 #[.val (.int p1), .val (.int p2), .val (.int p3), .val (.int p4), .val (.int p5), .val (.int z5), .val (.int z6), .val (.int z7), .val (.int z8), .val (.int v9), .val (.int v10), .val (.ref r1), .val (.ref r2), .val (.ref qn), .unset, .unset] [(.ref u2), (.ref u1), (.ref r2), (.ref qn), (.ref r1), (.ref tg), (.ref tg)])) _
                    refine XS.dup X6.here hx rfl (hb hby at_139) rfl rfl ?_
                    show Steps p.tables e below (T6.setTop (mkF m 140 #[.val (.int p1), .val (.int p2), .val (.int p3), .val (.int p4), .val (.int p5), .val (.int z5), .val (.int z6), .val (.int z7), .val (.int z8), .val (.int v9), .val (.int v10), .val (.ref r1), .val (.ref r2), .val (.ref qn), .unset, .unset] [(.ref u2), (.ref u2), (.ref u1), (.ref r2), (.ref qn), (.ref r1), (.ref tg), (.ref tg)])) _
                    exact k
                  obtain ⟨_, _, ⟨T7, L7, k7, n7⟩, -, X7, ⟨Lc7, hQ7, l7, y7, z7⟩, st7⟩ := X6.specialBack hx (y := (⟨"java/util/ArrayList", "<init>", "()V"⟩ : MethodName)) rfl hown (mvT hZ (hw _ (List.mem_of_getElem? (i := 35) rfl))) (mvT hZ (hw _ (List.mem_of_getElem? (i := 36) rfl))) (mvT hZ (hw _ (List.mem_of_getElem? (i := 37) rfl))) (by decide) (backOf (W := 7) (rm6 l Z a0 hw [] u2 d1 h6 n0 Z6 F_modCount_u2 E_u2 g_u2 F_elementData_u2 S_D hzt) hZ (hw _ (List.mem_of_getElem? (i := 37) rfl)) (hw _ (List.mem_of_getElem? (i := 34) rfl)) (by decide) (by decide)) (g := (mkF m 140 #[.val (.int p1), .val (.int p2), .val (.int p3), .val (.int p4), .val (.int p5), .val (.int z5), .val (.int z6), .val (.int z7), .val (.int z8), .val (.int v9), .val (.int v10), .val (.ref r1), .val (.ref r2), .val (.ref qn), .unset, .unset] [(.ref u2), (.ref u2), (.ref u1), (.ref r2), (.ref qn), (.ref r1), (.ref tg), (.ref tg)])) rfl (by rw [hml]; rfl) (Steps.refl _) (a := u2) (argsL := []) (rest := [(.ref u2), (.ref u1), (.ref r2), (.ref qn), (.ref r1), (.ref tg), (.ref tg)]) (lenOf pd_rm0_1 rfl) rfl (by show 2 * 0 + _ ≤ _; exact Nat.le_of_eq rfl) (hb hby at_140) (fun _ _ => ⟨rfl, e6, (by decide : 15 + 0 ≤ _), (by decide : 56 + 0 ≤ _)⟩)
                  dsimp only [Pt.U, Pt.locs, Pt.cells, Pt.slots] at X7 l7 y7 z7 st7 hQ7
                  subst l7 y7 z7
                  obtain ⟨rfl, N7q, Kc7⟩ := hQ7
                  have N7 := Fr.app N5 N7q
                  have hzt := hzt.keep Kc7 (allS g_u2 all0)
                  have r2_S := r2_S.keep Kc7 (ninS ne_r2_u2 nin0) (ninS ne_r2_b_u2 nin0)
                  have r1_S := r1_S.keep Kc7 (ninS ne_r1_u2 nin0) (ninS ne_r1_b_u2 nin0)
                  have E_tg := E_tg.keep Kc7
                  have F_namespace_tg := F_namespace_tg.keep Kc7 (ninS ne_tg_u2 nin0)
                  have F_qualifiedName_tg := F_qualifiedName_tg.keep Kc7 (ninS ne_tg_u2 nin0)
                  have F_localName_tg := F_localName_tg.keep Kc7 (ninS ne_tg_u2 nin0)
                  have F_namespaces_tg := F_namespaces_tg.keep Kc7 (ninS ne_tg_u2 nin0)
                  have F_attributes_tg := F_attributes_tg.keep Kc7 (ninS ne_tg_u2 nin0)
                  have E_u2 := E_u2.keep Kc7
                  have Z7 : n0 ≤ T7.heap.size := Nat.le_trans Z6 Kc7.1
                  have hk7 := Nat.le_trans hk6 Kc7.1
                  have K7 := K6.trans Kc7 (allS (Or.inr sz_u2) all0)
                  refine OEndsW.go (t' := T7.setTop (mkF m 143 #[.val (.int p1), .val (.int p2), .val (.int p3), .val (.int p4), .val (.int p5), .val (.int z5), .val (.int z6), .val (.int z7), .val (.int z8), .val (.int v9), .val (.int v10), .val (.ref r1), .val (.ref r2), .val (.ref qn), .unset, .unset] [(.ref u2), (.ref u1), (.ref r2), (.ref qn), (.ref r1), (.ref tg), (.ref tg)])) (fun _ k => st7.trans k) ?_
                  obtain ⟨_, _, ⟨T8, L8, k8, n8⟩, -, X8, ⟨Lc8, hQ8, l8, y8, z8⟩, st8⟩ := X7.specialBack hx (y := (⟨"com/example/viitta/viitta/core/SafeXml$StartTag", "<init>", "(Ljava/lang/String;Ljava/lang/String;Ljava/lang/String;Ljava/util/List;Ljava/util/List;)V"⟩ : MethodName)) rfl hown (mvT hZ (hw _ (List.mem_of_getElem? (i := 56) rfl))) (mvT hZ (hw _ (List.mem_of_getElem? (i := 57) rfl))) (mvT hZ (hw _ (List.mem_of_getElem? (i := 58) rfl))) (by decide) (backOf (W := 1) (rmT0 l Z a0 hw [] tg r1 qn r2 u1 u2 T7.heap n0 Z7 F_namespace_tg F_qualifiedName_tg F_localName_tg F_namespaces_tg F_attributes_tg E_tg g_tg) hZ (hw _ (List.mem_of_getElem? (i := 58) rfl)) (hw _ (List.mem_of_getElem? (i := 31) rfl)) (by decide) (by decide)) (g := (mkF m 143 #[.val (.int p1), .val (.int p2), .val (.int p3), .val (.int p4), .val (.int p5), .val (.int z5), .val (.int z6), .val (.int z7), .val (.int z8), .val (.int v9), .val (.int v10), .val (.ref r1), .val (.ref r2), .val (.ref qn), .unset, .unset] [(.ref u2), (.ref u1), (.ref r2), (.ref qn), (.ref r1), (.ref tg), (.ref tg)])) rfl (by rw [hml]; rfl) (Steps.refl _) (a := tg) (argsL := [(.ref r1), (.ref qn), (.ref r2), (.ref u1), (.ref u2)]) (rest := [(.ref tg)]) (lenOf pd_rm0_2 rfl) rfl (by show 2 * 0 + _ ≤ _; exact Nat.le_of_eq rfl) (hb hby at_143) (fun _ _ => ⟨rfl, rfl, (by decide : 15 + 0 ≤ _), (by decide : 56 + 0 ≤ _)⟩)
                  dsimp only [Pt.U, Pt.locs, Pt.cells, Pt.slots] at X8 l8 y8 z8 st8 hQ8
                  subst l8 y8 z8
                  obtain ⟨rfl, N8q, Kc8, Ea8, Fa8, Fb8⟩ := hQ8
                  have N8 := Fr.app N7 N8q
                  have hzt := hzt.keep Kc8 (allS g_tg all0)
                  have r2_S := r2_S.keep Kc8 (ninS ne_r2_tg nin0) (ninS ne_r2_b_tg nin0)
                  have r1_S := r1_S.keep Kc8 (ninS ne_r1_tg nin0) (ninS ne_r1_b_tg nin0)
                  have Z8 : n0 ≤ T8.heap.size := Nat.le_trans Z7 Kc8.1
                  have hk8 := Nat.le_trans hk7 Kc8.1
                  have K8 := K7.trans Kc8 (allS (Or.inr sz_tg) all0)
                  refine OEndsW.go (t' := T8.setTop (mkF m 146 #[.val (.int p1), .val (.int p2), .val (.int p3), .val (.int p4), .val (.int p5), .val (.int z5), .val (.int z6), .val (.int z7), .val (.int z8), .val (.int v9), .val (.int v10), .val (.ref r1), .val (.ref r2), .val (.ref qn), .unset, .unset] [(.ref tg)])) (fun _ k => st8.trans k) ?_
                  have E_tg := Ea8
                  have F_namespace_tg := Fa8
                  have F_localName_tg := Fb8
                  have hEv := hEv.keep0 K8
                  refine OEndsW.go (t' := T8.setTop (mkF m 148 #[.val (.int p1), .val (.int p2), .val (.int p3), .val (.int p4), .val (.int p5), .val (.int z5), .val (.int z6), .val (.int z7), .val (.int z8), .val (.int v9), .val (.int v10), .val (.ref r1), .val (.ref r2), .val (.ref qn), .val (.ref tg), .unset] [])) (fun _ k => ?_) ?_
                  · show Steps p.tables e below (T8.setTop (mkF m 146 #[.val (.int p1), .val (.int p2), .val (.int p3), .val (.int p4), .val (.int p5), .val (.int z5), .val (.int z6), .val (.int z7), .val (.int z8), .val (.int v9), .val (.int v10), .val (.ref r1), .val (.ref r2), .val (.ref qn), .unset, .unset] [(.ref tg)])) _
                    refine XS.astore X8.here hx rfl (hb hby at_146) rfl rfl (l' := #[.val (.int p1), .val (.int p2), .val (.int p3), .val (.int p4), .val (.int p5), .val (.int z5), .val (.int z6), .val (.int z7), .val (.int z8), .val (.int v9), .val (.int v10), .val (.ref r1), .val (.ref r2), .val (.ref qn), .val (.ref tg), .unset]) rfl ?_
                    show Steps p.tables e below (T8.setTop (mkF m 148 #[.val (.int p1), .val (.int p2), .val (.int p3), .val (.int p4), .val (.int p5), .val (.int z5), .val (.int z6), .val (.int z7), .val (.int z8), .val (.int v9), .val (.int v10), .val (.ref r1), .val (.ref r2), .val (.ref qn), .val (.ref tg), .unset] [])) _
                    exact k
                  refine OEndsW.go (t' := T8.setTop (mkF m 150 #[.val (.int p1), .val (.int p2), .val (.int p3), .val (.int p4), .val (.int p5), .val (.int z5), .val (.int z6), .val (.int z7), .val (.int z8), .val (.int v9), .val (.int v10), .val (.ref r1), .val (.ref r2), .val (.ref qn), .val (.ref tg), .unset] [(.int z5)])) (fun _ k => ?_) ?_
                  · show Steps p.tables e below (T8.setTop (mkF m 148 #[.val (.int p1), .val (.int p2), .val (.int p3), .val (.int p4), .val (.int p5), .val (.int z5), .val (.int z6), .val (.int z7), .val (.int z8), .val (.int v9), .val (.int v10), .val (.ref r1), .val (.ref r2), .val (.ref qn), .val (.ref tg), .unset] [])) _
                    refine XS.iload X8.here hx rfl (hb hby at_148) rfl ?_
                    show Steps p.tables e below (T8.setTop (mkF m 150 #[.val (.int p1), .val (.int p2), .val (.int p3), .val (.int p4), .val (.int p5), .val (.int z5), .val (.int z6), .val (.int z7), .val (.int z8), .val (.int v9), .val (.int v10), .val (.ref r1), .val (.ref r2), .val (.ref qn), .val (.ref tg), .unset] [(.int z5)])) _
                    exact k
                  refine OEndsW.cut (fun En => ∀ (Tz : State) (Tz_l : List Loc), Stand p l e room_1 (s.setVm vmTq) m #[(.int p1), (.int p2), (.int p3), (.int p4), (.int p5)] below meth c Tz Tz_l 15 56 → Tz.heap = T8.heap → Fr n0 Tz_l → ∀ (z : Int32), z = own_and (own_same p1 v9) (own_same p2 v10) → En (Tz.setTop (mkF m 176 #[.val (.int p1), .val (.int p2), .val (.int p3), .val (.int p4), .val (.int p5), .val (.int z5), .val (.int z6), .val (.int z7), .val (.int z8), .val (.int v9), .val (.int v10), .val (.ref r1), .val (.ref r2), .val (.ref qn), .val (.ref tg), .unset] [(.int z)]))) ?_ (fun K176 => ?_)
                  · intro Tz Tz_l XTz eTz NTz z hz
                    refine OEndsW.go (t' := Tz.setTop (mkF m 182 #[.val (.int p1), .val (.int p2), .val (.int p3), .val (.int p4), .val (.int p5), .val (.int z5), .val (.int z6), .val (.int z7), .val (.int z8), .val (.int v9), .val (.int v10), .val (.ref r1), .val (.ref r2), .val (.ref qn), .val (.ref tg), .val (.int z)] [(.int v9), (.ref tg)])) (fun _ k => ?_) ?_
                    · show Steps p.tables e below (Tz.setTop (mkF m 176 #[.val (.int p1), .val (.int p2), .val (.int p3), .val (.int p4), .val (.int p5), .val (.int z5), .val (.int z6), .val (.int z7), .val (.int z8), .val (.int v9), .val (.int v10), .val (.ref r1), .val (.ref r2), .val (.ref qn), .val (.ref tg), .unset] [(.int z)])) _
                      refine XS.istore XTz.here hx rfl (hb hby at_176) rfl (l' := #[.val (.int p1), .val (.int p2), .val (.int p3), .val (.int p4), .val (.int p5), .val (.int z5), .val (.int z6), .val (.int z7), .val (.int z8), .val (.int v9), .val (.int v10), .val (.ref r1), .val (.ref r2), .val (.ref qn), .val (.ref tg), .val (.int z)]) rfl ?_
                      show Steps p.tables e below (Tz.setTop (mkF m 178 #[.val (.int p1), .val (.int p2), .val (.int p3), .val (.int p4), .val (.int p5), .val (.int z5), .val (.int z6), .val (.int z7), .val (.int z8), .val (.int v9), .val (.int v10), .val (.ref r1), .val (.ref r2), .val (.ref qn), .val (.ref tg), .val (.int z)] [])) _
                      refine XS.aload XTz.here hx rfl (hb hby at_178) rfl rfl ?_
                      show Steps p.tables e below (Tz.setTop (mkF m 180 #[.val (.int p1), .val (.int p2), .val (.int p3), .val (.int p4), .val (.int p5), .val (.int z5), .val (.int z6), .val (.int z7), .val (.int z8), .val (.int v9), .val (.int v10), .val (.ref r1), .val (.ref r2), .val (.ref qn), .val (.ref tg), .val (.int z)] [(.ref tg)])) _
                      refine XS.iload XTz.here hx rfl (hb hby at_180) rfl ?_
                      show Steps p.tables e below (Tz.setTop (mkF m 182 #[.val (.int p1), .val (.int p2), .val (.int p3), .val (.int p4), .val (.int p5), .val (.int z5), .val (.int z6), .val (.int z7), .val (.int z8), .val (.int v9), .val (.int v10), .val (.ref r1), .val (.ref r2), .val (.ref qn), .val (.ref tg), .val (.int z)] [(.int v9), (.ref tg)])) _
                      exact k
                    obtain ⟨_, _, ⟨T9, L9, k9, n9⟩, -, X9, hSq9, hgq9, ⟨Lc9, hQ9, l9, y9, z9⟩, st9⟩ := callSS XTz hx (y := (⟨"com/example/viitta/viitta/core/SafeXmlStartTagIsPinLaw", "mk", "(I)Ljava/lang/String;"⟩ : MethodName)) hown (mvT hZ (hw _ (List.mem_of_getElem? (i := 0) rfl))) (mvT hZ (hw _ (List.mem_of_getElem? (i := 1) rfl))) (mvT hZ (hw _ (List.mem_of_getElem? (i := 2) rfl))) (mvT hZ (hw _ (List.mem_of_getElem? (i := 3) rfl))) (by decide) (own_backI (W := 1) (rm1 l Z a0 hw [] v9 w1 T8.heap n0 Z8 S_C c0 hzt hcw hH) hZ (fun vm hW => hEv.stays hW) (hw _ (List.mem_of_getElem? (i := 3) rfl)) (hw _ (List.mem_of_getElem? (i := 2) rfl)) (by decide) (by decide)) (g := (mkF m 182 #[.val (.int p1), .val (.int p2), .val (.int p3), .val (.int p4), .val (.int p5), .val (.int z5), .val (.int z6), .val (.int z7), .val (.int z8), .val (.int v9), .val (.int v10), .val (.ref r1), .val (.ref r2), .val (.ref qn), .val (.ref tg), .val (.int z)] [(.int v9), (.ref tg)])) rfl (by rw [hml]; rfl) (argsL := [(.int v9)]) (rest := [(.ref tg)]) (lenOf pd_rm0_0 rfl) rfl (by show 2 * 0 + _ ≤ _; exact Nat.le_of_eq rfl) (hb hby at_182) (fun _ _ => ⟨rfl, eTz, (by decide : 15 + 4 ≤ _), (by decide : 56 + 15 ≤ _)⟩)
                    dsimp only [Pt.U, Pt.locs, Pt.cells, Pt.slots] at X9 l9 y9 z9 st9 hQ9 hSq9 hgq9
                    subst l9 y9 z9
                    obtain ⟨X9, hS9, hZ, hown⟩ := rebS (s := s) (vm0 := vmTq) (vm1 := T9.vm) hSTq (by rw [eTz]; exact hk8) X9 hSq9 hgq9 hZ hown
                    obtain ⟨q1, q1_b, q1_k, rfl, N9q, Kc9, q1_S, hEv⟩ := hQ9
                    have N9 := Fr.app NTz N9q
                    have hzt := hzt.keep Kc9 all0
                    have r2_S := r2_S.keep Kc9 nin0 nin0
                    have r1_S := r1_S.keep Kc9 nin0 nin0
                    have E_tg := E_tg.keep Kc9
                    have F_namespace_tg := F_namespace_tg.keep Kc9 nin0
                    have F_localName_tg := F_localName_tg.keep Kc9 nin0
                    have Z9 : n0 ≤ T9.heap.size := Nat.le_trans Z8 Kc9.1
                    have hk9 : T9.heap.size ≤ T9.heap.size := Nat.le_refl _
                    refine OEndsW.go (t' := T9.setTop (mkF m 185 #[.val (.int p1), .val (.int p2), .val (.int p3), .val (.int p4), .val (.int p5), .val (.int z5), .val (.int z6), .val (.int z7), .val (.int z8), .val (.int v9), .val (.int v10), .val (.ref r1), .val (.ref r2), .val (.ref qn), .val (.ref tg), .val (.int z)] [(.ref q1), (.ref tg)])) (fun _ k => st9.trans k) ?_
                    refine OEndsW.go (t' := T9.setTop (mkF m 187 #[.val (.int p1), .val (.int p2), .val (.int p3), .val (.int p4), .val (.int p5), .val (.int z5), .val (.int z6), .val (.int z7), .val (.int z8), .val (.int v9), .val (.int v10), .val (.ref r1), .val (.ref r2), .val (.ref qn), .val (.ref tg), .val (.int z)] [(.int v10), (.ref q1), (.ref tg)])) (fun _ k => ?_) ?_
                    · show Steps p.tables e below (T9.setTop (mkF m 185 #[.val (.int p1), .val (.int p2), .val (.int p3), .val (.int p4), .val (.int p5), .val (.int z5), .val (.int z6), .val (.int z7), .val (.int z8), .val (.int v9), .val (.int v10), .val (.ref r1), .val (.ref r2), .val (.ref qn), .val (.ref tg), .val (.int z)] [(.ref q1), (.ref tg)])) _
                      refine XS.iload X9.here hx rfl (hb hby at_185) rfl ?_
                      show Steps p.tables e below (T9.setTop (mkF m 187 #[.val (.int p1), .val (.int p2), .val (.int p3), .val (.int p4), .val (.int p5), .val (.int z5), .val (.int z6), .val (.int z7), .val (.int z8), .val (.int v9), .val (.int v10), .val (.ref r1), .val (.ref r2), .val (.ref qn), .val (.ref tg), .val (.int z)] [(.int v10), (.ref q1), (.ref tg)])) _
                      exact k
                    obtain ⟨_, _, ⟨T10, L10, k10, n10⟩, -, X10, hSq10, hgq10, ⟨Lc10, hQ10, l10, y10, z10⟩, st10⟩ := callSS X9 hx (y := (⟨"com/example/viitta/viitta/core/SafeXmlStartTagIsPinLaw", "mk", "(I)Ljava/lang/String;"⟩ : MethodName)) hown (mvT hZ (hw _ (List.mem_of_getElem? (i := 0) rfl))) (mvT hZ (hw _ (List.mem_of_getElem? (i := 1) rfl))) (mvT hZ (hw _ (List.mem_of_getElem? (i := 2) rfl))) (mvT hZ (hw _ (List.mem_of_getElem? (i := 3) rfl))) (by decide) (own_backI (W := 2) (rm1 l Z a0 hw [] v10 w1 T9.heap n0 Z9 S_C c0 hzt hcw hH) hZ (fun vm hW => hEv.stays hW) (hw _ (List.mem_of_getElem? (i := 3) rfl)) (hw _ (List.mem_of_getElem? (i := 2) rfl)) (by decide) (by decide)) (g := (mkF m 187 #[.val (.int p1), .val (.int p2), .val (.int p3), .val (.int p4), .val (.int p5), .val (.int z5), .val (.int z6), .val (.int z7), .val (.int z8), .val (.int v9), .val (.int v10), .val (.ref r1), .val (.ref r2), .val (.ref qn), .val (.ref tg), .val (.int z)] [(.int v10), (.ref q1), (.ref tg)])) rfl (by rw [hml]; rfl) (argsL := [(.int v10)]) (rest := [(.ref q1), (.ref tg)]) (lenOf pd_rm0_0 rfl) rfl (by show 2 * 0 + _ ≤ _; exact Nat.le_of_eq rfl) (hb hby at_187) (fun _ _ => ⟨rfl, rfl, (by decide : 19 + 4 ≤ _), (by decide : 71 + 15 ≤ _)⟩)
                    dsimp only [Pt.U, Pt.locs, Pt.cells, Pt.slots] at X10 l10 y10 z10 st10 hQ10 hSq10 hgq10
                    subst l10 y10 z10
                    obtain ⟨X10, hS10, hZ, hown⟩ := rebS (s := s) (vm0 := T9.vm) (vm1 := T10.vm) hS9 hk9 X10 hSq10 hgq10 hZ hown
                    obtain ⟨q2, q2_b, q2_k, rfl, N10q, Kc10, q2_S, hEv⟩ := hQ10
                    have N10 := Fr.app N9 N10q
                    have hzt := hzt.keep Kc10 all0
                    have r2_S := r2_S.keep Kc10 nin0 nin0
                    have r1_S := r1_S.keep Kc10 nin0 nin0
                    have E_tg := E_tg.keep Kc10
                    have F_namespace_tg := F_namespace_tg.keep Kc10 nin0
                    have F_localName_tg := F_localName_tg.keep Kc10 nin0
                    have q1_S := q1_S.keep Kc10 nin0 nin0
                    have Z10 : n0 ≤ T10.heap.size := Nat.le_trans Z9 Kc10.1
                    have hk10 : T10.heap.size ≤ T10.heap.size := Nat.le_refl _
                    refine OEndsW.go (t' := T10.setTop (mkF m 190 #[.val (.int p1), .val (.int p2), .val (.int p3), .val (.int p4), .val (.int p5), .val (.int z5), .val (.int z6), .val (.int z7), .val (.int z8), .val (.int v9), .val (.int v10), .val (.ref r1), .val (.ref r2), .val (.ref qn), .val (.ref tg), .val (.int z)] [(.ref q2), (.ref q1), (.ref tg)])) (fun _ k => st10.trans k) ?_
                    obtain ⟨cq11, kq11, q11a, q11b, q11c⟩ := isOf hZ rfl E_tg
                    obtain ⟨_, _, ⟨T11, L11, k11, n11⟩, -, X11, ⟨Lc11, hQ11, l11, y11, z11⟩, st11⟩ := X10.virtualBack hx (y := (⟨"com/example/viitta/viitta/core/SafeXml$StartTag", "is", "(Ljava/lang/String;Ljava/lang/String;)Z"⟩ : MethodName)) (z := (⟨"com/example/viitta/viitta/core/SafeXml$StartTag", "is", "(Ljava/lang/String;Ljava/lang/String;)Z"⟩ : MethodName)) hown (mvT hZ (hw _ (List.mem_of_getElem? (i := 78) rfl))) (mvT hZ (hw _ (List.mem_of_getElem? (i := 79) rfl))) (notFace_of_selects (args := #[]) (mvT hZ (hw _ (List.mem_of_getElem? (i := 81) rfl)))) (mvT hZ (hw _ (List.mem_of_getElem? (i := 81) rfl))) (mvT hZ (hw _ (List.mem_of_getElem? (i := 80) rfl))) (by decide) (backOf (W := 0) (rmIs0 l Z a0 hw [] tg q1 q2 w1 r2 q1_b q2_b q1_k q2_k ((own_C v9).map own_b) ((own_C v10).map own_b) r1 r1_b r2_b r1_k r2_k ((own_C p1).map own_b) ((own_C p2).map own_b) T10.heap n0 Z10 (S_C.ext hzt.2) c0 F_namespace_tg F_localName_tg q1_S q2_S r1_S r2_S) hZ (hw _ (List.mem_of_getElem? (i := 82) rfl)) (hw _ (List.mem_of_getElem? (i := 31) rfl)) (by decide) (by decide)) q11a q11c (g := (mkF m 190 #[.val (.int p1), .val (.int p2), .val (.int p3), .val (.int p4), .val (.int p5), .val (.int z5), .val (.int z6), .val (.int z7), .val (.int z8), .val (.int v9), .val (.int v10), .val (.ref r1), .val (.ref r2), .val (.ref qn), .val (.ref tg), .val (.int z)] [(.ref q2), (.ref q1), (.ref tg)])) rfl (by rw [hml]; rfl) (Steps.refl _) (argsL := [(.ref q1), (.ref q2)]) (rest := []) (lenOf pd_rm0_3 rfl) rfl (by show 2 * 0 + _ ≤ _; exact Nat.le_of_eq rfl) (hb hby at_190) (fun _ _ => ⟨rfl, rfl, (by decide : 23 + 0 ≤ _), (by decide : 86 + 0 ≤ _)⟩)
                    dsimp only [Pt.U, Pt.locs, Pt.cells, Pt.slots] at X11 l11 y11 z11 st11 hQ11
                    subst l11 y11 z11
                    obtain ⟨rfl, N11q, eh⟩ := hQ11
                    have N11 := Fr.app N10 N11q
                    have eh11 := eh
                    refine OEndsW.go (t' := T11.setTop (mkF m 193 #[.val (.int p1), .val (.int p2), .val (.int p3), .val (.int p4), .val (.int p5), .val (.int z5), .val (.int z6), .val (.int z7), .val (.int z8), .val (.int v9), .val (.int v10), .val (.ref r1), .val (.ref r2), .val (.ref qn), .val (.ref tg), .val (.int z)] [(.int (own_and (own_eqL ((own_C v9).map own_b) ((own_C p1).map own_b)) (own_eqL ((own_C v10).map own_b) ((own_C p2).map own_b))))])) (fun _ k => st11.trans k) ?_
                    refine OEndsW.go (t' := T11.setTop (mkF m 195 #[.val (.int p1), .val (.int p2), .val (.int p3), .val (.int p4), .val (.int p5), .val (.int z5), .val (.int z6), .val (.int z7), .val (.int z8), .val (.int v9), .val (.int v10), .val (.ref r1), .val (.ref r2), .val (.ref qn), .val (.ref tg), .val (.int z)] [(.int z), (.int (own_and (own_eqL ((own_C v9).map own_b) ((own_C p1).map own_b)) (own_eqL ((own_C v10).map own_b) ((own_C p2).map own_b))))])) (fun _ k => ?_) ?_
                    · show Steps p.tables e below (T11.setTop (mkF m 193 #[.val (.int p1), .val (.int p2), .val (.int p3), .val (.int p4), .val (.int p5), .val (.int z5), .val (.int z6), .val (.int z7), .val (.int z8), .val (.int v9), .val (.int v10), .val (.ref r1), .val (.ref r2), .val (.ref qn), .val (.ref tg), .val (.int z)] [(.int (own_and (own_eqL ((own_C v9).map own_b) ((own_C p1).map own_b)) (own_eqL ((own_C v10).map own_b) ((own_C p2).map own_b))))])) _
                      refine XS.iload X11.here hx rfl (hb hby at_193) rfl ?_
                      show Steps p.tables e below (T11.setTop (mkF m 195 #[.val (.int p1), .val (.int p2), .val (.int p3), .val (.int p4), .val (.int p5), .val (.int z5), .val (.int z6), .val (.int z7), .val (.int z8), .val (.int v9), .val (.int v10), .val (.ref r1), .val (.ref r2), .val (.ref qn), .val (.ref tg), .val (.int z)] [(.int z), (.int (own_and (own_eqL ((own_C v9).map own_b) ((own_C p1).map own_b)) (own_eqL ((own_C v10).map own_b) ((own_C p2).map own_b))))])) _
                      exact k
                    refine OEndsW.go (t' := T11.setTop (mkF m 198 #[.val (.int p1), .val (.int p2), .val (.int p3), .val (.int p4), .val (.int p5), .val (.int z5), .val (.int z6), .val (.int z7), .val (.int z8), .val (.int v9), .val (.int v10), .val (.ref r1), .val (.ref r2), .val (.ref qn), .val (.ref tg), .val (.int z)] [])) (fun _ k => XS.icmpNo X11.here hx rfl (hb hby at_195) rfl (teq (by rw [own_sm, own_sm]; exact hz.symm)).2 k) ?_
                    refine OEndsW.go (t' := T11.setTop (mkF m 203 #[.val (.int p1), .val (.int p2), .val (.int p3), .val (.int p4), .val (.int p5), .val (.int z5), .val (.int z6), .val (.int z7), .val (.int z8), .val (.int v9), .val (.int v10), .val (.ref r1), .val (.ref r2), .val (.ref qn), .val (.ref tg), .val (.int z)] [(.int (1 : Int32))])) (fun _ k => ?_) ?_
                    · show Steps p.tables e below (T11.setTop (mkF m 198 #[.val (.int p1), .val (.int p2), .val (.int p3), .val (.int p4), .val (.int p5), .val (.int z5), .val (.int z6), .val (.int z7), .val (.int z8), .val (.int v9), .val (.int v10), .val (.ref r1), .val (.ref r2), .val (.ref qn), .val (.ref tg), .val (.int z)] [])) _
                      refine XS.iconst X11.here hx rfl (hb hby at_198) ?_
                      show Steps p.tables e below (T11.setTop (mkF m 199 #[.val (.int p1), .val (.int p2), .val (.int p3), .val (.int p4), .val (.int p5), .val (.int z5), .val (.int z6), .val (.int z7), .val (.int z8), .val (.int v9), .val (.int v10), .val (.ref r1), .val (.ref r2), .val (.ref qn), .val (.ref tg), .val (.int z)] [(.int (1 : Int32))])) _
                      refine XS.goto X11.here hx rfl (pc0 := 199) (pc' := 203) rfl (hb hby at_199) (by decide) (by decide) ?_
                      show Steps p.tables e below (T11.setTop (mkF m 203 #[.val (.int p1), .val (.int p2), .val (.int p3), .val (.int p4), .val (.int p5), .val (.int z5), .val (.int z6), .val (.int z7), .val (.int z8), .val (.int v9), .val (.int v10), .val (.ref r1), .val (.ref r2), .val (.ref qn), .val (.ref tg), .val (.int z)] [(.int (1 : Int32))])) _
                      exact k
                    refine OEndsW.back X11 hS10 (by rw [eh11]; exact hk10) hlk (v := (some (.int (1 : Int32)))) (fun h => by rw [hrt] at h; cases h) (fun fs hr => ?_) ?_ (by decide) (by decide)
                    · exact retN X11 hx (t := .boolean) hrt (by simp) (hb hby at_203) hr
                    · show Q0 Z p1 p2 p3 p4 p5 w1 d1 h0 n0 _ T11.heap T11.vm _
                      rw [eh11]
                      exact ⟨rfl, N11⟩
                  refine OEndsW.go (t' := T8.setTop (mkF m 153 #[.val (.int p1), .val (.int p2), .val (.int p3), .val (.int p4), .val (.int p5), .val (.int z5), .val (.int z6), .val (.int z7), .val (.int z8), .val (.int v9), .val (.int v10), .val (.ref r1), .val (.ref r2), .val (.ref qn), .val (.ref tg), .unset] [])) (fun _ k => XS.ifNo X8.here hx rfl (hb hby at_150) rfl ((if0 _ _).trans (teq h83).2) k) ?_
                  refine OEndsW.go (t' := T8.setTop (mkF m 156 #[.val (.int p1), .val (.int p2), .val (.int p3), .val (.int p4), .val (.int p5), .val (.int z5), .val (.int z6), .val (.int z7), .val (.int z8), .val (.int v9), .val (.int v10), .val (.ref r1), .val (.ref r2), .val (.ref qn), .val (.ref tg), .unset] [(.int v9), (.int p1)])) (fun _ k => ?_) ?_
                  · show Steps p.tables e below (T8.setTop (mkF m 153 #[.val (.int p1), .val (.int p2), .val (.int p3), .val (.int p4), .val (.int p5), .val (.int z5), .val (.int z6), .val (.int z7), .val (.int z8), .val (.int v9), .val (.int v10), .val (.ref r1), .val (.ref r2), .val (.ref qn), .val (.ref tg), .unset] [])) _
                    refine XS.iloadN X8.here hx rfl (hb hby at_153) rfl ?_
                    show Steps p.tables e below (T8.setTop (mkF m 154 #[.val (.int p1), .val (.int p2), .val (.int p3), .val (.int p4), .val (.int p5), .val (.int z5), .val (.int z6), .val (.int z7), .val (.int z8), .val (.int v9), .val (.int v10), .val (.ref r1), .val (.ref r2), .val (.ref qn), .val (.ref tg), .unset] [(.int p1)])) _
                    refine XS.iload X8.here hx rfl (hb hby at_154) rfl ?_
                    show Steps p.tables e below (T8.setTop (mkF m 156 #[.val (.int p1), .val (.int p2), .val (.int p3), .val (.int p4), .val (.int p5), .val (.int z5), .val (.int z6), .val (.int z7), .val (.int z8), .val (.int v9), .val (.int v10), .val (.ref r1), .val (.ref r2), .val (.ref qn), .val (.ref tg), .unset] [(.int v9), (.int p1)])) _
                    exact k
                  obtain ⟨_, _, ⟨T12, L12, k12, n12⟩, -, X12, ⟨Lc12, hQ12, l12, y12, z12⟩, st12⟩ := Jvm.LawKit.callS X8 hx (y := (⟨"com/example/viitta/viitta/core/SafeXmlStartTagIsPinLaw", "same", "(II)Z"⟩ : MethodName)) hown (mvT hZ (hw _ (List.mem_of_getElem? (i := 75) rfl))) (mvT hZ (hw _ (List.mem_of_getElem? (i := 76) rfl))) (mvT hZ (hw _ (List.mem_of_getElem? (i := 2) rfl))) (mvT hZ (hw _ (List.mem_of_getElem? (i := 77) rfl))) (by decide) (backOf (W := 0) (rm11 l Z a0 hw [] p1 v9 T8.heap n0 Z8 ) hZ (hw _ (List.mem_of_getElem? (i := 77) rfl)) (hw _ (List.mem_of_getElem? (i := 2) rfl)) (by decide) (by decide)) (g := (mkF m 156 #[.val (.int p1), .val (.int p2), .val (.int p3), .val (.int p4), .val (.int p5), .val (.int z5), .val (.int z6), .val (.int z7), .val (.int z8), .val (.int v9), .val (.int v10), .val (.ref r1), .val (.ref r2), .val (.ref qn), .val (.ref tg), .unset] [(.int v9), (.int p1)])) rfl (by rw [hml]; rfl) (argsL := [(.int p1), (.int v9)]) (rest := []) (lenOf pd_rm0_4 rfl) rfl (by show 2 * 0 + _ ≤ _; exact Nat.le_of_eq rfl) (hb hby at_156) (fun _ _ => ⟨rfl, rfl, (by decide : 15 + 0 ≤ _), (by decide : 56 + 0 ≤ _)⟩)
                  dsimp only [Pt.U, Pt.locs, Pt.cells, Pt.slots] at X12 l12 y12 z12 st12 hQ12
                  subst l12 y12 z12
                  obtain ⟨rfl, N12q, eh⟩ := hQ12
                  have N12 := Fr.app N8 N12q
                  have eh12 := eh
                  refine OEndsW.go (t' := T12.setTop (mkF m 159 #[.val (.int p1), .val (.int p2), .val (.int p3), .val (.int p4), .val (.int p5), .val (.int z5), .val (.int z6), .val (.int z7), .val (.int z8), .val (.int v9), .val (.int v10), .val (.ref r1), .val (.ref r2), .val (.ref qn), .val (.ref tg), .unset] [(.int (own_same p1 v9))])) (fun _ k => st12 _ k) ?_
                  by_cases h159 : (own_same p1 v9) = (0 : Int32)
                  · refine OEndsW.go (t' := T12.setTop (mkF m 175 #[.val (.int p1), .val (.int p2), .val (.int p3), .val (.int p4), .val (.int p5), .val (.int z5), .val (.int z6), .val (.int z7), .val (.int z8), .val (.int v9), .val (.int v10), .val (.ref r1), .val (.ref r2), .val (.ref qn), .val (.ref tg), .unset] [])) (fun _ k => XS.ifYes X12.here hx rfl (pc0 := 159) (pc' := 175) rfl (hb hby at_159) rfl ((if0 _ _).trans (teq h159).1) (by decide) (by decide) k) ?_
                    refine OEndsW.go (t' := T12.setTop (mkF m 176 #[.val (.int p1), .val (.int p2), .val (.int p3), .val (.int p4), .val (.int p5), .val (.int z5), .val (.int z6), .val (.int z7), .val (.int z8), .val (.int v9), .val (.int v10), .val (.ref r1), .val (.ref r2), .val (.ref qn), .val (.ref tg), .unset] [(.int (0 : Int32))])) (fun _ k => ?_) ?_
                    · show Steps p.tables e below (T12.setTop (mkF m 175 #[.val (.int p1), .val (.int p2), .val (.int p3), .val (.int p4), .val (.int p5), .val (.int z5), .val (.int z6), .val (.int z7), .val (.int z8), .val (.int v9), .val (.int v10), .val (.ref r1), .val (.ref r2), .val (.ref qn), .val (.ref tg), .unset] [])) _
                      refine XS.iconst X12.here hx rfl (hb hby at_175) ?_
                      show Steps p.tables e below (T12.setTop (mkF m 176 #[.val (.int p1), .val (.int p2), .val (.int p3), .val (.int p4), .val (.int p5), .val (.int z5), .val (.int z6), .val (.int z7), .val (.int z8), .val (.int v9), .val (.int v10), .val (.ref r1), .val (.ref r2), .val (.ref qn), .val (.ref tg), .unset] [(.int (0 : Int32))])) _
                      exact k
                    exact K176 _ _ X12 eh12 N12 _ (by rw [own_and, if_pos h159])
                  · refine OEndsW.go (t' := T12.setTop (mkF m 162 #[.val (.int p1), .val (.int p2), .val (.int p3), .val (.int p4), .val (.int p5), .val (.int z5), .val (.int z6), .val (.int z7), .val (.int z8), .val (.int v9), .val (.int v10), .val (.ref r1), .val (.ref r2), .val (.ref qn), .val (.ref tg), .unset] [])) (fun _ k => XS.ifNo X12.here hx rfl (hb hby at_159) rfl ((if0 _ _).trans (feq h159).1) k) ?_
                    refine OEndsW.go (t' := T12.setTop (mkF m 165 #[.val (.int p1), .val (.int p2), .val (.int p3), .val (.int p4), .val (.int p5), .val (.int z5), .val (.int z6), .val (.int z7), .val (.int z8), .val (.int v9), .val (.int v10), .val (.ref r1), .val (.ref r2), .val (.ref qn), .val (.ref tg), .unset] [(.int v10), (.int p2)])) (fun _ k => ?_) ?_
                    · show Steps p.tables e below (T12.setTop (mkF m 162 #[.val (.int p1), .val (.int p2), .val (.int p3), .val (.int p4), .val (.int p5), .val (.int z5), .val (.int z6), .val (.int z7), .val (.int z8), .val (.int v9), .val (.int v10), .val (.ref r1), .val (.ref r2), .val (.ref qn), .val (.ref tg), .unset] [])) _
                      refine XS.iloadN X12.here hx rfl (hb hby at_162) rfl ?_
                      show Steps p.tables e below (T12.setTop (mkF m 163 #[.val (.int p1), .val (.int p2), .val (.int p3), .val (.int p4), .val (.int p5), .val (.int z5), .val (.int z6), .val (.int z7), .val (.int z8), .val (.int v9), .val (.int v10), .val (.ref r1), .val (.ref r2), .val (.ref qn), .val (.ref tg), .unset] [(.int p2)])) _
                      refine XS.iload X12.here hx rfl (hb hby at_163) rfl ?_
                      show Steps p.tables e below (T12.setTop (mkF m 165 #[.val (.int p1), .val (.int p2), .val (.int p3), .val (.int p4), .val (.int p5), .val (.int z5), .val (.int z6), .val (.int z7), .val (.int z8), .val (.int v9), .val (.int v10), .val (.ref r1), .val (.ref r2), .val (.ref qn), .val (.ref tg), .unset] [(.int v10), (.int p2)])) _
                      exact k
                    obtain ⟨_, _, ⟨T13, L13, k13, n13⟩, -, X13, ⟨Lc13, hQ13, l13, y13, z13⟩, st13⟩ := Jvm.LawKit.callS X12 hx (y := (⟨"com/example/viitta/viitta/core/SafeXmlStartTagIsPinLaw", "same", "(II)Z"⟩ : MethodName)) hown (mvT hZ (hw _ (List.mem_of_getElem? (i := 75) rfl))) (mvT hZ (hw _ (List.mem_of_getElem? (i := 76) rfl))) (mvT hZ (hw _ (List.mem_of_getElem? (i := 2) rfl))) (mvT hZ (hw _ (List.mem_of_getElem? (i := 77) rfl))) (by decide) (backOf (W := 0) (rm11 l Z a0 hw [] p2 v10 T8.heap n0 Z8 ) hZ (hw _ (List.mem_of_getElem? (i := 77) rfl)) (hw _ (List.mem_of_getElem? (i := 2) rfl)) (by decide) (by decide)) (g := (mkF m 165 #[.val (.int p1), .val (.int p2), .val (.int p3), .val (.int p4), .val (.int p5), .val (.int z5), .val (.int z6), .val (.int z7), .val (.int z8), .val (.int v9), .val (.int v10), .val (.ref r1), .val (.ref r2), .val (.ref qn), .val (.ref tg), .unset] [(.int v10), (.int p2)])) rfl (by rw [hml]; rfl) (argsL := [(.int p2), (.int v10)]) (rest := []) (lenOf pd_rm0_4 rfl) rfl (by show 2 * 0 + _ ≤ _; exact Nat.le_of_eq rfl) (hb hby at_165) (fun _ _ => ⟨rfl, eh12, (by decide : 15 + 0 ≤ _), (by decide : 56 + 0 ≤ _)⟩)
                    dsimp only [Pt.U, Pt.locs, Pt.cells, Pt.slots] at X13 l13 y13 z13 st13 hQ13
                    subst l13 y13 z13
                    obtain ⟨rfl, N13q, eh⟩ := hQ13
                    have N13 := Fr.app N12 N13q
                    have eh13 := eh
                    refine OEndsW.go (t' := T13.setTop (mkF m 168 #[.val (.int p1), .val (.int p2), .val (.int p3), .val (.int p4), .val (.int p5), .val (.int z5), .val (.int z6), .val (.int z7), .val (.int z8), .val (.int v9), .val (.int v10), .val (.ref r1), .val (.ref r2), .val (.ref qn), .val (.ref tg), .unset] [(.int (own_same p2 v10))])) (fun _ k => st13 _ k) ?_
                    by_cases h168 : (own_same p2 v10) = (0 : Int32)
                    · refine OEndsW.go (t' := T13.setTop (mkF m 175 #[.val (.int p1), .val (.int p2), .val (.int p3), .val (.int p4), .val (.int p5), .val (.int z5), .val (.int z6), .val (.int z7), .val (.int z8), .val (.int v9), .val (.int v10), .val (.ref r1), .val (.ref r2), .val (.ref qn), .val (.ref tg), .unset] [])) (fun _ k => XS.ifYes X13.here hx rfl (pc0 := 168) (pc' := 175) rfl (hb hby at_168) rfl ((if0 _ _).trans (teq h168).1) (by decide) (by decide) k) ?_
                      refine OEndsW.go (t' := T13.setTop (mkF m 176 #[.val (.int p1), .val (.int p2), .val (.int p3), .val (.int p4), .val (.int p5), .val (.int z5), .val (.int z6), .val (.int z7), .val (.int z8), .val (.int v9), .val (.int v10), .val (.ref r1), .val (.ref r2), .val (.ref qn), .val (.ref tg), .unset] [(.int (0 : Int32))])) (fun _ k => ?_) ?_
                      · show Steps p.tables e below (T13.setTop (mkF m 175 #[.val (.int p1), .val (.int p2), .val (.int p3), .val (.int p4), .val (.int p5), .val (.int z5), .val (.int z6), .val (.int z7), .val (.int z8), .val (.int v9), .val (.int v10), .val (.ref r1), .val (.ref r2), .val (.ref qn), .val (.ref tg), .unset] [])) _
                        refine XS.iconst X13.here hx rfl (hb hby at_175) ?_
                        show Steps p.tables e below (T13.setTop (mkF m 176 #[.val (.int p1), .val (.int p2), .val (.int p3), .val (.int p4), .val (.int p5), .val (.int z5), .val (.int z6), .val (.int z7), .val (.int z8), .val (.int v9), .val (.int v10), .val (.ref r1), .val (.ref r2), .val (.ref qn), .val (.ref tg), .unset] [(.int (0 : Int32))])) _
                        exact k
                      exact K176 _ _ X13 eh13 N13 _ (by rw [own_and, if_neg h159, if_pos h168])
                    · refine OEndsW.go (t' := T13.setTop (mkF m 171 #[.val (.int p1), .val (.int p2), .val (.int p3), .val (.int p4), .val (.int p5), .val (.int z5), .val (.int z6), .val (.int z7), .val (.int z8), .val (.int v9), .val (.int v10), .val (.ref r1), .val (.ref r2), .val (.ref qn), .val (.ref tg), .unset] [])) (fun _ k => XS.ifNo X13.here hx rfl (hb hby at_168) rfl ((if0 _ _).trans (feq h168).1) k) ?_
                      refine OEndsW.go (t' := T13.setTop (mkF m 176 #[.val (.int p1), .val (.int p2), .val (.int p3), .val (.int p4), .val (.int p5), .val (.int z5), .val (.int z6), .val (.int z7), .val (.int z8), .val (.int v9), .val (.int v10), .val (.ref r1), .val (.ref r2), .val (.ref qn), .val (.ref tg), .unset] [(.int (1 : Int32))])) (fun _ k => ?_) ?_
                      · show Steps p.tables e below (T13.setTop (mkF m 171 #[.val (.int p1), .val (.int p2), .val (.int p3), .val (.int p4), .val (.int p5), .val (.int z5), .val (.int z6), .val (.int z7), .val (.int z8), .val (.int v9), .val (.int v10), .val (.ref r1), .val (.ref r2), .val (.ref qn), .val (.ref tg), .unset] [])) _
                        refine XS.iconst X13.here hx rfl (hb hby at_171) ?_
                        show Steps p.tables e below (T13.setTop (mkF m 172 #[.val (.int p1), .val (.int p2), .val (.int p3), .val (.int p4), .val (.int p5), .val (.int z5), .val (.int z6), .val (.int z7), .val (.int z8), .val (.int v9), .val (.int v10), .val (.ref r1), .val (.ref r2), .val (.ref qn), .val (.ref tg), .unset] [(.int (1 : Int32))])) _
                        refine XS.goto X13.here hx rfl (pc0 := 172) (pc' := 176) rfl (hb hby at_172) (by decide) (by decide) ?_
                        show Steps p.tables e below (T13.setTop (mkF m 176 #[.val (.int p1), .val (.int p2), .val (.int p3), .val (.int p4), .val (.int p5), .val (.int z5), .val (.int z6), .val (.int z7), .val (.int z8), .val (.int v9), .val (.int v10), .val (.ref r1), .val (.ref r2), .val (.ref qn), .val (.ref tg), .unset] [(.int (1 : Int32))])) _
                        exact k
                      exact K176 _ _ X13 eh13 N13 _ (by rw [own_and, if_neg h159, if_neg h168])
                by_cases h104 : z8 = (0 : Int32)
                · refine OEndsW.go (t' := T2.setTop (mkF m 115 #[.val (.int p1), .val (.int p2), .val (.int p3), .val (.int p4), .val (.int p5), .val (.int z5), .val (.int z6), .val (.int z7), .val (.int z8), .val (.int v9), .val (.int v10), .val (.ref r1), .val (.ref r2), .unset, .unset, .unset] [])) (fun _ k => XS.ifYes X2.here hx rfl (pc0 := 104) (pc' := 115) rfl (hb hby at_104) rfl ((if0 _ _).trans (teq h104).1) (by decide) (by decide) k) ?_
                  refine OEndsW.go (t' := T2.setTop (mkF m 117 #[.val (.int p1), .val (.int p2), .val (.int p3), .val (.int p4), .val (.int p5), .val (.int z5), .val (.int z6), .val (.int z7), .val (.int z8), .val (.int v9), .val (.int v10), .val (.ref r1), .val (.ref r2), .unset, .unset, .unset] [(.ref r2)])) (fun _ k => ?_) ?_
                  · show Steps p.tables e below (T2.setTop (mkF m 115 #[.val (.int p1), .val (.int p2), .val (.int p3), .val (.int p4), .val (.int p5), .val (.int z5), .val (.int z6), .val (.int z7), .val (.int z8), .val (.int v9), .val (.int v10), .val (.ref r1), .val (.ref r2), .unset, .unset, .unset] [])) _
                    refine XS.aload X2.here hx rfl (hb hby at_115) rfl rfl ?_
                    show Steps p.tables e below (T2.setTop (mkF m 117 #[.val (.int p1), .val (.int p2), .val (.int p3), .val (.int p4), .val (.int p5), .val (.int z5), .val (.int z6), .val (.int z7), .val (.int z8), .val (.int v9), .val (.int v10), .val (.ref r1), .val (.ref r2), .unset, .unset, .unset] [(.ref r2)])) _
                    exact k
                  exact K117 _ _ _ T2.vm _ (X2.mono (by decide) (by decide)) rfl N2 Z2 hS2 hk2 hZ hown _ hzt hEv r2_S r1_S
                · refine OEndsW.go (t' := T2.setTop (mkF m 107 #[.val (.int p1), .val (.int p2), .val (.int p3), .val (.int p4), .val (.int p5), .val (.int z5), .val (.int z6), .val (.int z7), .val (.int z8), .val (.int v9), .val (.int v10), .val (.ref r1), .val (.ref r2), .unset, .unset, .unset] [])) (fun _ k => XS.ifNo X2.here hx rfl (hb hby at_104) rfl ((if0 _ _).trans (feq h104).1) k) ?_
                  refine OEndsW.go (t' := T2.setTop (mkF m 109 #[.val (.int p1), .val (.int p2), .val (.int p3), .val (.int p4), .val (.int p5), .val (.int z5), .val (.int z6), .val (.int z7), .val (.int z8), .val (.int v9), .val (.int v10), .val (.ref r1), .val (.ref r2), .unset, .unset, .unset] [(.int v10)])) (fun _ k => ?_) ?_
                  · show Steps p.tables e below (T2.setTop (mkF m 107 #[.val (.int p1), .val (.int p2), .val (.int p3), .val (.int p4), .val (.int p5), .val (.int z5), .val (.int z6), .val (.int z7), .val (.int z8), .val (.int v9), .val (.int v10), .val (.ref r1), .val (.ref r2), .unset, .unset, .unset] [])) _
                    refine XS.iload X2.here hx rfl (hb hby at_107) rfl ?_
                    show Steps p.tables e below (T2.setTop (mkF m 109 #[.val (.int p1), .val (.int p2), .val (.int p3), .val (.int p4), .val (.int p5), .val (.int z5), .val (.int z6), .val (.int z7), .val (.int z8), .val (.int v9), .val (.int v10), .val (.ref r1), .val (.ref r2), .unset, .unset, .unset] [(.int v10)])) _
                    exact k
                  obtain ⟨_, _, ⟨T14, L14, k14, n14⟩, -, X14, hSq14, hgq14, ⟨Lc14, hQ14, l14, y14, z14⟩, st14⟩ := callSS X2 hx (y := (⟨"com/example/viitta/viitta/core/SafeXmlStartTagIsPinLaw", "mk", "(I)Ljava/lang/String;"⟩ : MethodName)) hown (mvT hZ (hw _ (List.mem_of_getElem? (i := 0) rfl))) (mvT hZ (hw _ (List.mem_of_getElem? (i := 1) rfl))) (mvT hZ (hw _ (List.mem_of_getElem? (i := 2) rfl))) (mvT hZ (hw _ (List.mem_of_getElem? (i := 3) rfl))) (by decide) (own_backI (W := 0) (rm1 l Z a0 hw [] v10 w1 T2.heap n0 Z2 S_C c0 hzt hcw hH) hZ (fun vm hW => hEv.stays hW) (hw _ (List.mem_of_getElem? (i := 3) rfl)) (hw _ (List.mem_of_getElem? (i := 2) rfl)) (by decide) (by decide)) (g := (mkF m 109 #[.val (.int p1), .val (.int p2), .val (.int p3), .val (.int p4), .val (.int p5), .val (.int z5), .val (.int z6), .val (.int z7), .val (.int z8), .val (.int v9), .val (.int v10), .val (.ref r1), .val (.ref r2), .unset, .unset, .unset] [(.int v10)])) rfl (by rw [hml]; rfl) (argsL := [(.int v10)]) (rest := []) (lenOf pd_rm0_0 rfl) rfl (by show 2 * 0 + _ ≤ _; exact Nat.le_of_eq rfl) (hb hby at_109) (fun _ _ => ⟨rfl, rfl, (by decide : 8 + 4 ≤ _), (by decide : 30 + 15 ≤ _)⟩)
                  dsimp only [Pt.U, Pt.locs, Pt.cells, Pt.slots] at X14 l14 y14 z14 st14 hQ14 hSq14 hgq14
                  subst l14 y14 z14
                  obtain ⟨X14, hS14, hZ, hown⟩ := rebS (s := s) (vm0 := T2.vm) (vm1 := T14.vm) hS2 hk2 X14 hSq14 hgq14 hZ hown
                  obtain ⟨r3, r3_b, r3_k, rfl, N14q, Kc14, r3_S, hEv⟩ := hQ14
                  have N14 := Fr.app N2 N14q
                  have hzt := hzt.keep Kc14 all0
                  have r1_S := r1_S.keep Kc14 nin0 nin0
                  have r2_S := r2_S.keep Kc14 nin0 nin0
                  have Z14 : n0 ≤ T14.heap.size := Nat.le_trans Z2 Kc14.1
                  have hk14 : T14.heap.size ≤ T14.heap.size := Nat.le_refl _
                  refine OEndsW.go (t' := T14.setTop (mkF m 112 #[.val (.int p1), .val (.int p2), .val (.int p3), .val (.int p4), .val (.int p5), .val (.int z5), .val (.int z6), .val (.int z7), .val (.int z8), .val (.int v9), .val (.int v10), .val (.ref r1), .val (.ref r2), .unset, .unset, .unset] [(.ref r3)])) (fun _ k => st14.trans k) ?_
                  refine OEndsW.go (t' := T14.setTop (mkF m 117 #[.val (.int p1), .val (.int p2), .val (.int p3), .val (.int p4), .val (.int p5), .val (.int z5), .val (.int z6), .val (.int z7), .val (.int z8), .val (.int v9), .val (.int v10), .val (.ref r1), .val (.ref r2), .unset, .unset, .unset] [(.ref r3)])) (fun _ k => ?_) ?_
                  · show Steps p.tables e below (T14.setTop (mkF m 112 #[.val (.int p1), .val (.int p2), .val (.int p3), .val (.int p4), .val (.int p5), .val (.int z5), .val (.int z6), .val (.int z7), .val (.int z8), .val (.int v9), .val (.int v10), .val (.ref r1), .val (.ref r2), .unset, .unset, .unset] [(.ref r3)])) _
                    refine XS.goto X14.here hx rfl (pc0 := 112) (pc' := 117) rfl (hb hby at_112) (by decide) (by decide) ?_
                    show Steps p.tables e below (T14.setTop (mkF m 117 #[.val (.int p1), .val (.int p2), .val (.int p3), .val (.int p4), .val (.int p5), .val (.int z5), .val (.int z6), .val (.int z7), .val (.int z8), .val (.int v9), .val (.int v10), .val (.ref r1), .val (.ref r2), .unset, .unset, .unset] [(.ref r3)])) _
                    exact k
                  exact K117 _ _ _ T14.vm _ (X14.mono (by decide) (by decide)) rfl N14 Z14 hS14 hk14 hZ hown _ hzt hEv r2_S r1_S
              · refine OEndsW.go (t' := s₁.setTop (mkF m 86 #[.val (.int p1), .val (.int p2), .val (.int p3), .val (.int p4), .val (.int p5), .val (.int z5), .val (.int z6), .val (.int z7), .val (.int z8), .val (.int v9), .val (.int v10), .unset, .unset, .unset, .unset, .unset] [])) (fun _ k => XS.ifNo X0.here hx rfl (hb hby at_83) rfl ((if0 _ _).trans (feq h83).1) k) ?_
                refine OEndsW.go (t' := s₁.setTop (mkF m 97 #[.val (.int p1), .val (.int p2), .val (.int p3), .val (.int p4), .val (.int p5), .val (.int z5), .val (.int z6), .val (.int z7), .val (.int z8), .val (.int v9), .val (.int v10), .val .null, .unset, .unset, .unset, .unset] [(.int p2)])) (fun _ k => ?_) ?_
                · show Steps p.tables e below (s₁.setTop (mkF m 86 #[.val (.int p1), .val (.int p2), .val (.int p3), .val (.int p4), .val (.int p5), .val (.int z5), .val (.int z6), .val (.int z7), .val (.int z8), .val (.int v9), .val (.int v10), .unset, .unset, .unset, .unset, .unset] [])) _
                  refine XS.aconstNull X0.here hx rfl (hb hby at_86) ?_
                  show Steps p.tables e below (s₁.setTop (mkF m 87 #[.val (.int p1), .val (.int p2), .val (.int p3), .val (.int p4), .val (.int p5), .val (.int z5), .val (.int z6), .val (.int z7), .val (.int z8), .val (.int v9), .val (.int v10), .unset, .unset, .unset, .unset, .unset] [.null])) _
                  refine XS.goto X0.here hx rfl (pc0 := 87) (pc' := 94) rfl (hb hby at_87) (by decide) (by decide) ?_
                  show Steps p.tables e below (s₁.setTop (mkF m 94 #[.val (.int p1), .val (.int p2), .val (.int p3), .val (.int p4), .val (.int p5), .val (.int z5), .val (.int z6), .val (.int z7), .val (.int z8), .val (.int v9), .val (.int v10), .unset, .unset, .unset, .unset, .unset] [.null])) _
                  refine XS.astore X0.here hx rfl (hb hby at_94) rfl rfl (l' := #[.val (.int p1), .val (.int p2), .val (.int p3), .val (.int p4), .val (.int p5), .val (.int z5), .val (.int z6), .val (.int z7), .val (.int z8), .val (.int v9), .val (.int v10), .val .null, .unset, .unset, .unset, .unset]) rfl ?_
                  show Steps p.tables e below (s₁.setTop (mkF m 96 #[.val (.int p1), .val (.int p2), .val (.int p3), .val (.int p4), .val (.int p5), .val (.int z5), .val (.int z6), .val (.int z7), .val (.int z8), .val (.int v9), .val (.int v10), .val .null, .unset, .unset, .unset, .unset] [])) _
                  refine XS.iloadN X0.here hx rfl (hb hby at_96) rfl ?_
                  show Steps p.tables e below (s₁.setTop (mkF m 97 #[.val (.int p1), .val (.int p2), .val (.int p3), .val (.int p4), .val (.int p5), .val (.int z5), .val (.int z6), .val (.int z7), .val (.int z8), .val (.int v9), .val (.int v10), .val .null, .unset, .unset, .unset, .unset] [(.int p2)])) _
                  exact k
                obtain ⟨_, _, ⟨T15, L15, k15, n15⟩, -, X15, hSq15, hgq15, ⟨Lc15, hQ15, l15, y15, z15⟩, st15⟩ := callSS X0 hx (y := (⟨"com/example/viitta/viitta/core/SafeXmlStartTagIsPinLaw", "mk", "(I)Ljava/lang/String;"⟩ : MethodName)) hown (mvT hZ (hw _ (List.mem_of_getElem? (i := 0) rfl))) (mvT hZ (hw _ (List.mem_of_getElem? (i := 1) rfl))) (mvT hZ (hw _ (List.mem_of_getElem? (i := 2) rfl))) (mvT hZ (hw _ (List.mem_of_getElem? (i := 3) rfl))) (by decide) (own_backI (W := 0) (rm1 l Z a0 hw [] p2 w1 h0 n0 Z0 S_C c0 hzt hcw hH) hZ (fun vm hW => hEv.stays hW) (hw _ (List.mem_of_getElem? (i := 3) rfl)) (hw _ (List.mem_of_getElem? (i := 2) rfl)) (by decide) (by decide)) (g := (mkF m 97 #[.val (.int p1), .val (.int p2), .val (.int p3), .val (.int p4), .val (.int p5), .val (.int z5), .val (.int z6), .val (.int z7), .val (.int z8), .val (.int v9), .val (.int v10), .val .null, .unset, .unset, .unset, .unset] [(.int p2)])) rfl (by rw [hml]; rfl) (argsL := [(.int p2)]) (rest := []) (lenOf pd_rm0_0 rfl) rfl (by show 2 * 0 + _ ≤ _; exact Nat.le_of_eq rfl) (hb hby at_97) (fun _ _ => ⟨rfl, e0, (by decide : 0 + 4 ≤ _), (by decide : 0 + 15 ≤ _)⟩)
                dsimp only [Pt.U, Pt.locs, Pt.cells, Pt.slots] at X15 l15 y15 z15 st15 hQ15 hSq15 hgq15
                subst l15 y15 z15
                obtain ⟨X15, hS15, hZ, hown⟩ := rebS (s := s) (vm0 := s.vm) (vm1 := T15.vm) hS0 (Nat.zero_le _) X15 hSq15 hgq15 hZ hown
                obtain ⟨r2, r2_b, r2_k, rfl, N15q, Kc15, r2_S, hEv⟩ := hQ15
                have N15 := Fr.app N0 N15q
                have hzt := hzt.keep Kc15 all0
                have Z15 : n0 ≤ T15.heap.size := Nat.le_trans Z0 Kc15.1
                have hk15 : T15.heap.size ≤ T15.heap.size := Nat.le_refl _
                refine OEndsW.go (t' := T15.setTop (mkF m 100 #[.val (.int p1), .val (.int p2), .val (.int p3), .val (.int p4), .val (.int p5), .val (.int z5), .val (.int z6), .val (.int z7), .val (.int z8), .val (.int v9), .val (.int v10), .val .null, .unset, .unset, .unset, .unset] [(.ref r2)])) (fun _ k => st15.trans k) ?_
                refine OEndsW.go (t' := T15.setTop (mkF m 104 #[.val (.int p1), .val (.int p2), .val (.int p3), .val (.int p4), .val (.int p5), .val (.int z5), .val (.int z6), .val (.int z7), .val (.int z8), .val (.int v9), .val (.int v10), .val .null, .val (.ref r2), .unset, .unset, .unset] [(.int z8)])) (fun _ k => ?_) ?_
                · show Steps p.tables e below (T15.setTop (mkF m 100 #[.val (.int p1), .val (.int p2), .val (.int p3), .val (.int p4), .val (.int p5), .val (.int z5), .val (.int z6), .val (.int z7), .val (.int z8), .val (.int v9), .val (.int v10), .val .null, .unset, .unset, .unset, .unset] [(.ref r2)])) _
                  refine XS.astore X15.here hx rfl (hb hby at_100) rfl rfl (l' := #[.val (.int p1), .val (.int p2), .val (.int p3), .val (.int p4), .val (.int p5), .val (.int z5), .val (.int z6), .val (.int z7), .val (.int z8), .val (.int v9), .val (.int v10), .val .null, .val (.ref r2), .unset, .unset, .unset]) rfl ?_
                  show Steps p.tables e below (T15.setTop (mkF m 102 #[.val (.int p1), .val (.int p2), .val (.int p3), .val (.int p4), .val (.int p5), .val (.int z5), .val (.int z6), .val (.int z7), .val (.int z8), .val (.int v9), .val (.int v10), .val .null, .val (.ref r2), .unset, .unset, .unset] [])) _
                  refine XS.iload X15.here hx rfl (hb hby at_102) rfl ?_
                  show Steps p.tables e below (T15.setTop (mkF m 104 #[.val (.int p1), .val (.int p2), .val (.int p3), .val (.int p4), .val (.int p5), .val (.int z5), .val (.int z6), .val (.int z7), .val (.int z8), .val (.int v9), .val (.int v10), .val .null, .val (.ref r2), .unset, .unset, .unset] [(.int z8)])) _
                  exact k
                refine OEndsW.cut (fun En => ∀ (Tq : State) (Tq_l : List Loc) (hTq : Heap) (vmTq : Vm) (kTq : Nat), Stand p l e room_1 (s.setVm vmTq) m #[(.int p1), (.int p2), (.int p3), (.int p4), (.int p5)] below meth c Tq Tq_l 8 30 → Tq.heap = hTq → Fr n0 Tq_l → n0 ≤ hTq.size → s.Since vmTq kTq → kTq ≤ hTq.size → Z.Warmed39 vmTq → vmTq.findClass "com/example/viitta/viitta/core/SafeXmlStartTagIsPinLaw" = some m.cls → ∀ (qn : Addr), Old Z n0 hTq → own_Ev Z vmTq hTq → own_S Z hTq r2 r2_b r2_k ((own_C p2).map own_b) → En (Tq.setTop (mkF m 117 #[.val (.int p1), .val (.int p2), .val (.int p3), .val (.int p4), .val (.int p5), .val (.int z5), .val (.int z6), .val (.int z7), .val (.int z8), .val (.int v9), .val (.int v10), .val .null, .val (.ref r2), .unset, .unset, .unset] [(.ref qn)]))) ?_ (fun K117 => ?_)
                · intro Tq Tq_l hTq vmTq kTq XTq eTq NTq ZTq hSTq hkTq hZ hown qn hzt hEv r2_S
                  refine OEndsW.go (t' := Tq.setTop (mkF m 119 #[.val (.int p1), .val (.int p2), .val (.int p3), .val (.int p4), .val (.int p5), .val (.int z5), .val (.int z6), .val (.int z7), .val (.int z8), .val (.int v9), .val (.int v10), .val .null, .val (.ref r2), .val (.ref qn), .unset, .unset] [])) (fun _ k => ?_) ?_
                  · show Steps p.tables e below (Tq.setTop (mkF m 117 #[.val (.int p1), .val (.int p2), .val (.int p3), .val (.int p4), .val (.int p5), .val (.int z5), .val (.int z6), .val (.int z7), .val (.int z8), .val (.int v9), .val (.int v10), .val .null, .val (.ref r2), .unset, .unset, .unset] [(.ref qn)])) _
                    refine XS.astore XTq.here hx rfl (hb hby at_117) rfl rfl (l' := #[.val (.int p1), .val (.int p2), .val (.int p3), .val (.int p4), .val (.int p5), .val (.int z5), .val (.int z6), .val (.int z7), .val (.int z8), .val (.int v9), .val (.int v10), .val .null, .val (.ref r2), .val (.ref qn), .unset, .unset]) rfl ?_
                    show Steps p.tables e below (Tq.setTop (mkF m 119 #[.val (.int p1), .val (.int p2), .val (.int p3), .val (.int p4), .val (.int p5), .val (.int z5), .val (.int z6), .val (.int z7), .val (.int z8), .val (.int v9), .val (.int v10), .val .null, .val (.ref r2), .val (.ref qn), .unset, .unset] [])) _
                    exact k
                  obtain ⟨T16, h16, X16, e16, E16, A16, D16, -, st16⟩ := newO XTq hx hZ hown (hw _ (List.mem_of_getElem? (i := 29) rfl)) (hw _ (List.mem_of_getElem? (i := 30) rfl)) (hw _ (List.mem_of_getElem? (i := 31) rfl)) eTq (g := (mkF m 119 #[.val (.int p1), .val (.int p2), .val (.int p3), .val (.int p4), .val (.int p5), .val (.int z5), .val (.int z6), .val (.int z7), .val (.int z8), .val (.int v9), .val (.int v10), .val .null, .val (.ref r2), .val (.ref qn), .unset, .unset] [])) rfl (hb hby at_119) (by decide) (by decide)
                  obtain ⟨tg, gz16⟩ : ∃ z, z = hTq.size := ⟨_, rfl⟩
                  rw [← gz16] at A16 D16 st16
                  have ne_r2_tg : r2 ≠ tg := Nat.ne_of_lt (Nat.lt_of_lt_of_le r2_S.lt (Nat.le_of_eq gz16.symm))
                  have ne_r2_b_tg : r2_b ≠ tg := Nat.ne_of_lt (Nat.lt_of_lt_of_le r2_S.2.2.2.lt (Nat.le_of_eq gz16.symm))
                  have g_tg : n0 ≤ tg := Nat.le_trans ZTq (Nat.le_of_eq gz16.symm)
                  have sz_tg : hTq.size ≤ tg := Nat.le_trans (Keep.refl hTq []).1 (Nat.le_of_eq gz16.symm)
                  have hzt := hzt.ext E16
                  have r2_S := r2_S.ext E16
                  have Z16 : n0 ≤ h16.size := Nat.le_trans ZTq E16.1
                  have hk16 := Nat.le_trans hkTq E16.1
                  have K16 := (Keep.refl hTq []).ext E16
                  have E_tg := A16
                  have F_namespace_tg : Fld Z h16 tg "com/example/viitta/viitta/core/SafeXml$StartTag" "namespace" "Ljava/lang/String;" .null := D16 (Or.inr (hw _ (List.mem_of_getElem? (i := 66) rfl))) (ty := (.object "java/lang/String")) (by decide)
                  have F_qualifiedName_tg : Fld Z h16 tg "com/example/viitta/viitta/core/SafeXml$StartTag" "qualifiedName" "Ljava/lang/String;" .null := D16 (Or.inr (hw _ (List.mem_of_getElem? (i := 68) rfl))) (ty := (.object "java/lang/String")) (by decide)
                  have F_localName_tg : Fld Z h16 tg "com/example/viitta/viitta/core/SafeXml$StartTag" "localName" "Ljava/lang/String;" .null := D16 (Or.inr (hw _ (List.mem_of_getElem? (i := 70) rfl))) (ty := (.object "java/lang/String")) (by decide)
                  have F_namespaces_tg : Fld Z h16 tg "com/example/viitta/viitta/core/SafeXml$StartTag" "namespaces" "Ljava/util/List;" .null := D16 (Or.inr (hw _ (List.mem_of_getElem? (i := 72) rfl))) (ty := (.object "java/util/List")) (by decide)
                  have F_attributes_tg : Fld Z h16 tg "com/example/viitta/viitta/core/SafeXml$StartTag" "attributes" "Ljava/util/List;" .null := D16 (Or.inr (hw _ (List.mem_of_getElem? (i := 74) rfl))) (ty := (.object "java/util/List")) (by decide)
                  refine OEndsW.go (t' := T16.setTop (mkF m 122 #[.val (.int p1), .val (.int p2), .val (.int p3), .val (.int p4), .val (.int p5), .val (.int z5), .val (.int z6), .val (.int z7), .val (.int z8), .val (.int v9), .val (.int v10), .val .null, .val (.ref r2), .val (.ref qn), .unset, .unset] [(.ref tg)])) (fun _ k => st16 _ k) ?_
                  refine OEndsW.go (t' := T16.setTop (mkF m 129 #[.val (.int p1), .val (.int p2), .val (.int p3), .val (.int p4), .val (.int p5), .val (.int z5), .val (.int z6), .val (.int z7), .val (.int z8), .val (.int v9), .val (.int v10), .val .null, .val (.ref r2), .val (.ref qn), .unset, .unset] [(.ref r2), (.ref qn), .null, (.ref tg), (.ref tg)])) (fun _ k => ?_) ?_
                  · show Steps p.tables e below (T16.setTop (mkF m 122 #[.val (.int p1), .val (.int p2), .val (.int p3), .val (.int p4), .val (.int p5), .val (.int z5), .val (.int z6), .val (.int z7), .val (.int z8), .val (.int v9), .val (.int v10), .val .null, .val (.ref r2), .val (.ref qn), .unset, .unset] [(.ref tg)])) _
                    refine XS.dup X16.here hx rfl (hb hby at_122) rfl rfl ?_
                    show Steps p.tables e below (T16.setTop (mkF m 123 #[.val (.int p1), .val (.int p2), .val (.int p3), .val (.int p4), .val (.int p5), .val (.int z5), .val (.int z6), .val (.int z7), .val (.int z8), .val (.int v9), .val (.int v10), .val .null, .val (.ref r2), .val (.ref qn), .unset, .unset] [(.ref tg), (.ref tg)])) _
                    refine XS.aload X16.here hx rfl (hb hby at_123) rfl rfl ?_
                    show Steps p.tables e below (T16.setTop (mkF m 125 #[.val (.int p1), .val (.int p2), .val (.int p3), .val (.int p4), .val (.int p5), .val (.int z5), .val (.int z6), .val (.int z7), .val (.int z8), .val (.int v9), .val (.int v10), .val .null, .val (.ref r2), .val (.ref qn), .unset, .unset] [.null, (.ref tg), (.ref tg)])) _
                    refine XS.aload X16.here hx rfl (hb hby at_125) rfl rfl ?_
                    show Steps p.tables e below (T16.setTop (mkF m 127 #[.val (.int p1), .val (.int p2), .val (.int p3), .val (.int p4), .val (.int p5), .val (.int z5), .val (.int z6), .val (.int z7), .val (.int z8), .val (.int v9), .val (.int v10), .val .null, .val (.ref r2), .val (.ref qn), .unset, .unset] [(.ref qn), .null, (.ref tg), (.ref tg)])) _
                    refine XS.aload X16.here hx rfl (hb hby at_127) rfl rfl ?_
                    show Steps p.tables e below (T16.setTop (mkF m 129 #[.val (.int p1), .val (.int p2), .val (.int p3), .val (.int p4), .val (.int p5), .val (.int z5), .val (.int z6), .val (.int z7), .val (.int z8), .val (.int v9), .val (.int v10), .val .null, .val (.ref r2), .val (.ref qn), .unset, .unset] [(.ref r2), (.ref qn), .null, (.ref tg), (.ref tg)])) _
                    exact k
                  obtain ⟨T17, h17, X17, e17, E17, A17, D17, -, st17⟩ := newO X16 hx hZ hown (hw _ (List.mem_of_getElem? (i := 32) rfl)) (hw _ (List.mem_of_getElem? (i := 33) rfl)) (hw _ (List.mem_of_getElem? (i := 34) rfl)) e16 (g := (mkF m 129 #[.val (.int p1), .val (.int p2), .val (.int p3), .val (.int p4), .val (.int p5), .val (.int z5), .val (.int z6), .val (.int z7), .val (.int z8), .val (.int v9), .val (.int v10), .val .null, .val (.ref r2), .val (.ref qn), .unset, .unset] [(.ref r2), (.ref qn), .null, (.ref tg), (.ref tg)])) rfl (hb hby at_129) (by decide) (by decide)
                  obtain ⟨u1, gz17⟩ : ∃ z, z = h16.size := ⟨_, rfl⟩
                  rw [← gz17] at A17 D17 st17
                  have ne_r2_u1 : r2 ≠ u1 := Nat.ne_of_lt (Nat.lt_of_lt_of_le r2_S.lt (Nat.le_of_eq gz17.symm))
                  have ne_r2_b_u1 : r2_b ≠ u1 := Nat.ne_of_lt (Nat.lt_of_lt_of_le r2_S.2.2.2.lt (Nat.le_of_eq gz17.symm))
                  have ne_tg_u1 : tg ≠ u1 := Nat.ne_of_lt (Nat.lt_of_lt_of_le E_tg.lt (Nat.le_of_eq gz17.symm))
                  have g_u1 : n0 ≤ u1 := Nat.le_trans Z16 (Nat.le_of_eq gz17.symm)
                  have sz_u1 : hTq.size ≤ u1 := Nat.le_trans K16.1 (Nat.le_of_eq gz17.symm)
                  have hzt := hzt.ext E17
                  have r2_S := r2_S.ext E17
                  have E_tg := E_tg.ext E17
                  have F_namespace_tg := F_namespace_tg.ext E17
                  have F_qualifiedName_tg := F_qualifiedName_tg.ext E17
                  have F_localName_tg := F_localName_tg.ext E17
                  have F_namespaces_tg := F_namespaces_tg.ext E17
                  have F_attributes_tg := F_attributes_tg.ext E17
                  have Z17 : n0 ≤ h17.size := Nat.le_trans Z16 E17.1
                  have hk17 := Nat.le_trans hk16 E17.1
                  have K17 := K16.ext E17
                  have E_u1 := A17
                  have F_modCount_u1 : Fld Z h17 u1 "java/util/AbstractList" "modCount" "I" (.int (0 : Int32)) := D17 (Or.inl (hw _ (List.mem_of_getElem? (i := 52) rfl))) (ty := .int) (by decide)
                  have F_elementData_u1 : Fld Z h17 u1 "java/util/ArrayList" "elementData" "[Ljava/lang/Object;" .null := D17 (Or.inl (hw _ (List.mem_of_getElem? (i := 55) rfl))) (ty := (.array (.object "java/lang/Object"))) (by decide)
                  refine OEndsW.go (t' := T17.setTop (mkF m 132 #[.val (.int p1), .val (.int p2), .val (.int p3), .val (.int p4), .val (.int p5), .val (.int z5), .val (.int z6), .val (.int z7), .val (.int z8), .val (.int v9), .val (.int v10), .val .null, .val (.ref r2), .val (.ref qn), .unset, .unset] [(.ref u1), (.ref r2), (.ref qn), .null, (.ref tg), (.ref tg)])) (fun _ k => st17 _ k) ?_
                  refine OEndsW.go (t' := T17.setTop (mkF m 133 #[.val (.int p1), .val (.int p2), .val (.int p3), .val (.int p4), .val (.int p5), .val (.int z5), .val (.int z6), .val (.int z7), .val (.int z8), .val (.int v9), .val (.int v10), .val .null, .val (.ref r2), .val (.ref qn), .unset, .unset] [(.ref u1), (.ref u1), (.ref r2), (.ref qn), .null, (.ref tg), (.ref tg)])) (fun _ k => ?_) ?_
                  · show Steps p.tables e below (T17.setTop (mkF m 132 #[.val (.int p1), .val (.int p2), .val (.int p3), .val (.int p4), .val (.int p5), .val (.int z5), .val (.int z6), .val (.int z7), .val (.int z8), .val (.int v9), .val (.int v10), .val .null, .val (.ref r2), .val (.ref qn), .unset, .unset] [(.ref u1), (.ref r2), (.ref qn), .null, (.ref tg), (.ref tg)])) _
                    refine XS.dup X17.here hx rfl (hb hby at_132) rfl rfl ?_
                    show Steps p.tables e below (T17.setTop (mkF m 133 #[.val (.int p1), .val (.int p2), .val (.int p3), .val (.int p4), .val (.int p5), .val (.int z5), .val (.int z6), .val (.int z7), .val (.int z8), .val (.int v9), .val (.int v10), .val .null, .val (.ref r2), .val (.ref qn), .unset, .unset] [(.ref u1), (.ref u1), (.ref r2), (.ref qn), .null, (.ref tg), (.ref tg)])) _
                    exact k
                  obtain ⟨_, _, ⟨T18, L18, k18, n18⟩, -, X18, ⟨Lc18, hQ18, l18, y18, z18⟩, st18⟩ := X17.specialBack hx (y := (⟨"java/util/ArrayList", "<init>", "()V"⟩ : MethodName)) rfl hown (mvT hZ (hw _ (List.mem_of_getElem? (i := 35) rfl))) (mvT hZ (hw _ (List.mem_of_getElem? (i := 36) rfl))) (mvT hZ (hw _ (List.mem_of_getElem? (i := 37) rfl))) (by decide) (backOf (W := 6) (rm6 l Z a0 hw [] u1 d1 h17 n0 Z17 F_modCount_u1 E_u1 g_u1 F_elementData_u1 S_D hzt) hZ (hw _ (List.mem_of_getElem? (i := 37) rfl)) (hw _ (List.mem_of_getElem? (i := 34) rfl)) (by decide) (by decide)) (g := (mkF m 133 #[.val (.int p1), .val (.int p2), .val (.int p3), .val (.int p4), .val (.int p5), .val (.int z5), .val (.int z6), .val (.int z7), .val (.int z8), .val (.int v9), .val (.int v10), .val .null, .val (.ref r2), .val (.ref qn), .unset, .unset] [(.ref u1), (.ref u1), (.ref r2), (.ref qn), .null, (.ref tg), (.ref tg)])) rfl (by rw [hml]; rfl) (Steps.refl _) (a := u1) (argsL := []) (rest := [(.ref u1), (.ref r2), (.ref qn), .null, (.ref tg), (.ref tg)]) (lenOf pd_rm0_1 rfl) rfl (by show 2 * 0 + _ ≤ _; exact Nat.le_of_eq rfl) (hb hby at_133) (fun _ _ => ⟨rfl, e17, (by decide : 10 + 0 ≤ _), (by decide : 38 + 0 ≤ _)⟩)
                  dsimp only [Pt.U, Pt.locs, Pt.cells, Pt.slots] at X18 l18 y18 z18 st18 hQ18
                  subst l18 y18 z18
                  obtain ⟨rfl, N18q, Kc18⟩ := hQ18
                  have N18 := Fr.app NTq N18q
                  have hzt := hzt.keep Kc18 (allS g_u1 all0)
                  have r2_S := r2_S.keep Kc18 (ninS ne_r2_u1 nin0) (ninS ne_r2_b_u1 nin0)
                  have E_tg := E_tg.keep Kc18
                  have F_namespace_tg := F_namespace_tg.keep Kc18 (ninS ne_tg_u1 nin0)
                  have F_qualifiedName_tg := F_qualifiedName_tg.keep Kc18 (ninS ne_tg_u1 nin0)
                  have F_localName_tg := F_localName_tg.keep Kc18 (ninS ne_tg_u1 nin0)
                  have F_namespaces_tg := F_namespaces_tg.keep Kc18 (ninS ne_tg_u1 nin0)
                  have F_attributes_tg := F_attributes_tg.keep Kc18 (ninS ne_tg_u1 nin0)
                  have E_u1 := E_u1.keep Kc18
                  have Z18 : n0 ≤ T18.heap.size := Nat.le_trans Z17 Kc18.1
                  have hk18 := Nat.le_trans hk17 Kc18.1
                  have K18 := K17.trans Kc18 (allS (Or.inr sz_u1) all0)
                  refine OEndsW.go (t' := T18.setTop (mkF m 136 #[.val (.int p1), .val (.int p2), .val (.int p3), .val (.int p4), .val (.int p5), .val (.int z5), .val (.int z6), .val (.int z7), .val (.int z8), .val (.int v9), .val (.int v10), .val .null, .val (.ref r2), .val (.ref qn), .unset, .unset] [(.ref u1), (.ref r2), (.ref qn), .null, (.ref tg), (.ref tg)])) (fun _ k => st18.trans k) ?_
                  obtain ⟨T19, h19, X19, e19, E19, A19, D19, -, st19⟩ := newO X18 hx hZ hown (hw _ (List.mem_of_getElem? (i := 32) rfl)) (hw _ (List.mem_of_getElem? (i := 33) rfl)) (hw _ (List.mem_of_getElem? (i := 34) rfl)) rfl (g := (mkF m 136 #[.val (.int p1), .val (.int p2), .val (.int p3), .val (.int p4), .val (.int p5), .val (.int z5), .val (.int z6), .val (.int z7), .val (.int z8), .val (.int v9), .val (.int v10), .val .null, .val (.ref r2), .val (.ref qn), .unset, .unset] [(.ref u1), (.ref r2), (.ref qn), .null, (.ref tg), (.ref tg)])) rfl (hb hby at_136) (by decide) (by decide)
                  obtain ⟨u2, gz19⟩ : ∃ z, z = T18.heap.size := ⟨_, rfl⟩
                  rw [← gz19] at A19 D19 st19
                  have ne_r2_u2 : r2 ≠ u2 := Nat.ne_of_lt (Nat.lt_of_lt_of_le r2_S.lt (Nat.le_of_eq gz19.symm))
                  have ne_r2_b_u2 : r2_b ≠ u2 := Nat.ne_of_lt (Nat.lt_of_lt_of_le r2_S.2.2.2.lt (Nat.le_of_eq gz19.symm))
                  have ne_tg_u2 : tg ≠ u2 := Nat.ne_of_lt (Nat.lt_of_lt_of_le E_tg.lt (Nat.le_of_eq gz19.symm))
                  have g_u2 : n0 ≤ u2 := Nat.le_trans Z18 (Nat.le_of_eq gz19.symm)
                  have sz_u2 : hTq.size ≤ u2 := Nat.le_trans K18.1 (Nat.le_of_eq gz19.symm)
                  have hzt := hzt.ext E19
                  have r2_S := r2_S.ext E19
                  have E_tg := E_tg.ext E19
                  have F_namespace_tg := F_namespace_tg.ext E19
                  have F_qualifiedName_tg := F_qualifiedName_tg.ext E19
                  have F_localName_tg := F_localName_tg.ext E19
                  have F_namespaces_tg := F_namespaces_tg.ext E19
                  have F_attributes_tg := F_attributes_tg.ext E19
                  have Z19 : n0 ≤ h19.size := Nat.le_trans Z18 E19.1
                  have hk19 := Nat.le_trans hk18 E19.1
                  have K19 := K18.ext E19
                  have E_u2 := A19
                  have F_modCount_u2 : Fld Z h19 u2 "java/util/AbstractList" "modCount" "I" (.int (0 : Int32)) := D19 (Or.inl (hw _ (List.mem_of_getElem? (i := 52) rfl))) (ty := .int) (by decide)
                  have F_elementData_u2 : Fld Z h19 u2 "java/util/ArrayList" "elementData" "[Ljava/lang/Object;" .null := D19 (Or.inl (hw _ (List.mem_of_getElem? (i := 55) rfl))) (ty := (.array (.object "java/lang/Object"))) (by decide)
                  refine OEndsW.go (t' := T19.setTop (mkF m 139 #[.val (.int p1), .val (.int p2), .val (.int p3), .val (.int p4), .val (.int p5), .val (.int z5), .val (.int z6), .val (.int z7), .val (.int z8), .val (.int v9), .val (.int v10), .val .null, .val (.ref r2), .val (.ref qn), .unset, .unset] [(.ref u2), (.ref u1), (.ref r2), (.ref qn), .null, (.ref tg), (.ref tg)])) (fun _ k => st19 _ k) ?_
                  refine OEndsW.go (t' := T19.setTop (mkF m 140 #[.val (.int p1), .val (.int p2), .val (.int p3), .val (.int p4), .val (.int p5), .val (.int z5), .val (.int z6), .val (.int z7), .val (.int z8), .val (.int v9), .val (.int v10), .val .null, .val (.ref r2), .val (.ref qn), .unset, .unset] [(.ref u2), (.ref u2), (.ref u1), (.ref r2), (.ref qn), .null, (.ref tg), (.ref tg)])) (fun _ k => ?_) ?_
                  · show Steps p.tables e below (T19.setTop (mkF m 139 #[.val (.int p1), .val (.int p2), .val (.int p3), .val (.int p4), .val (.int p5), .val (.int z5), .val (.int z6), .val (.int z7), .val (.int z8), .val (.int v9), .val (.int v10), .val .null, .val (.ref r2), .val (.ref qn), .unset, .unset] [(.ref u2), (.ref u1), (.ref r2), (.ref qn), .null, (.ref tg), (.ref tg)])) _
                    refine XS.dup X19.here hx rfl (hb hby at_139) rfl rfl ?_
                    show Steps p.tables e below (T19.setTop (mkF m 140 #[.val (.int p1), .val (.int p2), .val (.int p3), .val (.int p4), .val (.int p5), .val (.int z5), .val (.int z6), .val (.int z7), .val (.int z8), .val (.int v9), .val (.int v10), .val .null, .val (.ref r2), .val (.ref qn), .unset, .unset] [(.ref u2), (.ref u2), (.ref u1), (.ref r2), (.ref qn), .null, (.ref tg), (.ref tg)])) _
                    exact k
                  obtain ⟨_, _, ⟨T20, L20, k20, n20⟩, -, X20, ⟨Lc20, hQ20, l20, y20, z20⟩, st20⟩ := X19.specialBack hx (y := (⟨"java/util/ArrayList", "<init>", "()V"⟩ : MethodName)) rfl hown (mvT hZ (hw _ (List.mem_of_getElem? (i := 35) rfl))) (mvT hZ (hw _ (List.mem_of_getElem? (i := 36) rfl))) (mvT hZ (hw _ (List.mem_of_getElem? (i := 37) rfl))) (by decide) (backOf (W := 7) (rm6 l Z a0 hw [] u2 d1 h19 n0 Z19 F_modCount_u2 E_u2 g_u2 F_elementData_u2 S_D hzt) hZ (hw _ (List.mem_of_getElem? (i := 37) rfl)) (hw _ (List.mem_of_getElem? (i := 34) rfl)) (by decide) (by decide)) (g := (mkF m 140 #[.val (.int p1), .val (.int p2), .val (.int p3), .val (.int p4), .val (.int p5), .val (.int z5), .val (.int z6), .val (.int z7), .val (.int z8), .val (.int v9), .val (.int v10), .val .null, .val (.ref r2), .val (.ref qn), .unset, .unset] [(.ref u2), (.ref u2), (.ref u1), (.ref r2), (.ref qn), .null, (.ref tg), (.ref tg)])) rfl (by rw [hml]; rfl) (Steps.refl _) (a := u2) (argsL := []) (rest := [(.ref u2), (.ref u1), (.ref r2), (.ref qn), .null, (.ref tg), (.ref tg)]) (lenOf pd_rm0_1 rfl) rfl (by show 2 * 0 + _ ≤ _; exact Nat.le_of_eq rfl) (hb hby at_140) (fun _ _ => ⟨rfl, e19, (by decide : 11 + 0 ≤ _), (by decide : 41 + 0 ≤ _)⟩)
                  dsimp only [Pt.U, Pt.locs, Pt.cells, Pt.slots] at X20 l20 y20 z20 st20 hQ20
                  subst l20 y20 z20
                  obtain ⟨rfl, N20q, Kc20⟩ := hQ20
                  have N20 := Fr.app N18 N20q
                  have hzt := hzt.keep Kc20 (allS g_u2 all0)
                  have r2_S := r2_S.keep Kc20 (ninS ne_r2_u2 nin0) (ninS ne_r2_b_u2 nin0)
                  have E_tg := E_tg.keep Kc20
                  have F_namespace_tg := F_namespace_tg.keep Kc20 (ninS ne_tg_u2 nin0)
                  have F_qualifiedName_tg := F_qualifiedName_tg.keep Kc20 (ninS ne_tg_u2 nin0)
                  have F_localName_tg := F_localName_tg.keep Kc20 (ninS ne_tg_u2 nin0)
                  have F_namespaces_tg := F_namespaces_tg.keep Kc20 (ninS ne_tg_u2 nin0)
                  have F_attributes_tg := F_attributes_tg.keep Kc20 (ninS ne_tg_u2 nin0)
                  have E_u2 := E_u2.keep Kc20
                  have Z20 : n0 ≤ T20.heap.size := Nat.le_trans Z19 Kc20.1
                  have hk20 := Nat.le_trans hk19 Kc20.1
                  have K20 := K19.trans Kc20 (allS (Or.inr sz_u2) all0)
                  refine OEndsW.go (t' := T20.setTop (mkF m 143 #[.val (.int p1), .val (.int p2), .val (.int p3), .val (.int p4), .val (.int p5), .val (.int z5), .val (.int z6), .val (.int z7), .val (.int z8), .val (.int v9), .val (.int v10), .val .null, .val (.ref r2), .val (.ref qn), .unset, .unset] [(.ref u2), (.ref u1), (.ref r2), (.ref qn), .null, (.ref tg), (.ref tg)])) (fun _ k => st20.trans k) ?_
                  obtain ⟨_, _, ⟨T21, L21, k21, n21⟩, -, X21, ⟨Lc21, hQ21, l21, y21, z21⟩, st21⟩ := X20.specialBack hx (y := (⟨"com/example/viitta/viitta/core/SafeXml$StartTag", "<init>", "(Ljava/lang/String;Ljava/lang/String;Ljava/lang/String;Ljava/util/List;Ljava/util/List;)V"⟩ : MethodName)) rfl hown (mvT hZ (hw _ (List.mem_of_getElem? (i := 56) rfl))) (mvT hZ (hw _ (List.mem_of_getElem? (i := 57) rfl))) (mvT hZ (hw _ (List.mem_of_getElem? (i := 58) rfl))) (by decide) (backOf (W := 1) (rmT1 l Z a0 hw [] tg  qn r2 u1 u2 T20.heap n0 Z20 F_namespace_tg F_qualifiedName_tg F_localName_tg F_namespaces_tg F_attributes_tg E_tg g_tg) hZ (hw _ (List.mem_of_getElem? (i := 58) rfl)) (hw _ (List.mem_of_getElem? (i := 31) rfl)) (by decide) (by decide)) (g := (mkF m 143 #[.val (.int p1), .val (.int p2), .val (.int p3), .val (.int p4), .val (.int p5), .val (.int z5), .val (.int z6), .val (.int z7), .val (.int z8), .val (.int v9), .val (.int v10), .val .null, .val (.ref r2), .val (.ref qn), .unset, .unset] [(.ref u2), (.ref u1), (.ref r2), (.ref qn), .null, (.ref tg), (.ref tg)])) rfl (by rw [hml]; rfl) (Steps.refl _) (a := tg) (argsL := [.null, (.ref qn), (.ref r2), (.ref u1), (.ref u2)]) (rest := [(.ref tg)]) (lenOf pd_rm0_2 rfl) rfl (by show 2 * 0 + _ ≤ _; exact Nat.le_of_eq rfl) (hb hby at_143) (fun _ _ => ⟨rfl, rfl, (by decide : 11 + 0 ≤ _), (by decide : 41 + 0 ≤ _)⟩)
                  dsimp only [Pt.U, Pt.locs, Pt.cells, Pt.slots] at X21 l21 y21 z21 st21 hQ21
                  subst l21 y21 z21
                  obtain ⟨rfl, N21q, Kc21, Ea21, Fa21, Fb21⟩ := hQ21
                  have N21 := Fr.app N20 N21q
                  have hzt := hzt.keep Kc21 (allS g_tg all0)
                  have r2_S := r2_S.keep Kc21 (ninS ne_r2_tg nin0) (ninS ne_r2_b_tg nin0)
                  have Z21 : n0 ≤ T21.heap.size := Nat.le_trans Z20 Kc21.1
                  have hk21 := Nat.le_trans hk20 Kc21.1
                  have K21 := K20.trans Kc21 (allS (Or.inr sz_tg) all0)
                  refine OEndsW.go (t' := T21.setTop (mkF m 146 #[.val (.int p1), .val (.int p2), .val (.int p3), .val (.int p4), .val (.int p5), .val (.int z5), .val (.int z6), .val (.int z7), .val (.int z8), .val (.int v9), .val (.int v10), .val .null, .val (.ref r2), .val (.ref qn), .unset, .unset] [(.ref tg)])) (fun _ k => st21.trans k) ?_
                  have E_tg := Ea21
                  have F_namespace_tg := Fa21
                  have F_localName_tg := Fb21
                  have hEv := hEv.keep0 K21
                  refine OEndsW.go (t' := T21.setTop (mkF m 148 #[.val (.int p1), .val (.int p2), .val (.int p3), .val (.int p4), .val (.int p5), .val (.int z5), .val (.int z6), .val (.int z7), .val (.int z8), .val (.int v9), .val (.int v10), .val .null, .val (.ref r2), .val (.ref qn), .val (.ref tg), .unset] [])) (fun _ k => ?_) ?_
                  · show Steps p.tables e below (T21.setTop (mkF m 146 #[.val (.int p1), .val (.int p2), .val (.int p3), .val (.int p4), .val (.int p5), .val (.int z5), .val (.int z6), .val (.int z7), .val (.int z8), .val (.int v9), .val (.int v10), .val .null, .val (.ref r2), .val (.ref qn), .unset, .unset] [(.ref tg)])) _
                    refine XS.astore X21.here hx rfl (hb hby at_146) rfl rfl (l' := #[.val (.int p1), .val (.int p2), .val (.int p3), .val (.int p4), .val (.int p5), .val (.int z5), .val (.int z6), .val (.int z7), .val (.int z8), .val (.int v9), .val (.int v10), .val .null, .val (.ref r2), .val (.ref qn), .val (.ref tg), .unset]) rfl ?_
                    show Steps p.tables e below (T21.setTop (mkF m 148 #[.val (.int p1), .val (.int p2), .val (.int p3), .val (.int p4), .val (.int p5), .val (.int z5), .val (.int z6), .val (.int z7), .val (.int z8), .val (.int v9), .val (.int v10), .val .null, .val (.ref r2), .val (.ref qn), .val (.ref tg), .unset] [])) _
                    exact k
                  refine OEndsW.go (t' := T21.setTop (mkF m 150 #[.val (.int p1), .val (.int p2), .val (.int p3), .val (.int p4), .val (.int p5), .val (.int z5), .val (.int z6), .val (.int z7), .val (.int z8), .val (.int v9), .val (.int v10), .val .null, .val (.ref r2), .val (.ref qn), .val (.ref tg), .unset] [(.int z5)])) (fun _ k => ?_) ?_
                  · show Steps p.tables e below (T21.setTop (mkF m 148 #[.val (.int p1), .val (.int p2), .val (.int p3), .val (.int p4), .val (.int p5), .val (.int z5), .val (.int z6), .val (.int z7), .val (.int z8), .val (.int v9), .val (.int v10), .val .null, .val (.ref r2), .val (.ref qn), .val (.ref tg), .unset] [])) _
                    refine XS.iload X21.here hx rfl (hb hby at_148) rfl ?_
                    show Steps p.tables e below (T21.setTop (mkF m 150 #[.val (.int p1), .val (.int p2), .val (.int p3), .val (.int p4), .val (.int p5), .val (.int z5), .val (.int z6), .val (.int z7), .val (.int z8), .val (.int v9), .val (.int v10), .val .null, .val (.ref r2), .val (.ref qn), .val (.ref tg), .unset] [(.int z5)])) _
                    exact k
                  refine OEndsW.cut (fun En => ∀ (Tz : State) (Tz_l : List Loc), Stand p l e room_1 (s.setVm vmTq) m #[(.int p1), (.int p2), (.int p3), (.int p4), (.int p5)] below meth c Tz Tz_l 11 41 → Tz.heap = T21.heap → Fr n0 Tz_l → ∀ (z : Int32), z = 0 → En (Tz.setTop (mkF m 176 #[.val (.int p1), .val (.int p2), .val (.int p3), .val (.int p4), .val (.int p5), .val (.int z5), .val (.int z6), .val (.int z7), .val (.int z8), .val (.int v9), .val (.int v10), .val .null, .val (.ref r2), .val (.ref qn), .val (.ref tg), .unset] [(.int z)]))) ?_ (fun K176 => ?_)
                  · intro Tz Tz_l XTz eTz NTz z hz
                    refine OEndsW.go (t' := Tz.setTop (mkF m 182 #[.val (.int p1), .val (.int p2), .val (.int p3), .val (.int p4), .val (.int p5), .val (.int z5), .val (.int z6), .val (.int z7), .val (.int z8), .val (.int v9), .val (.int v10), .val .null, .val (.ref r2), .val (.ref qn), .val (.ref tg), .val (.int z)] [(.int v9), (.ref tg)])) (fun _ k => ?_) ?_
                    · show Steps p.tables e below (Tz.setTop (mkF m 176 #[.val (.int p1), .val (.int p2), .val (.int p3), .val (.int p4), .val (.int p5), .val (.int z5), .val (.int z6), .val (.int z7), .val (.int z8), .val (.int v9), .val (.int v10), .val .null, .val (.ref r2), .val (.ref qn), .val (.ref tg), .unset] [(.int z)])) _
                      refine XS.istore XTz.here hx rfl (hb hby at_176) rfl (l' := #[.val (.int p1), .val (.int p2), .val (.int p3), .val (.int p4), .val (.int p5), .val (.int z5), .val (.int z6), .val (.int z7), .val (.int z8), .val (.int v9), .val (.int v10), .val .null, .val (.ref r2), .val (.ref qn), .val (.ref tg), .val (.int z)]) rfl ?_
                      show Steps p.tables e below (Tz.setTop (mkF m 178 #[.val (.int p1), .val (.int p2), .val (.int p3), .val (.int p4), .val (.int p5), .val (.int z5), .val (.int z6), .val (.int z7), .val (.int z8), .val (.int v9), .val (.int v10), .val .null, .val (.ref r2), .val (.ref qn), .val (.ref tg), .val (.int z)] [])) _
                      refine XS.aload XTz.here hx rfl (hb hby at_178) rfl rfl ?_
                      show Steps p.tables e below (Tz.setTop (mkF m 180 #[.val (.int p1), .val (.int p2), .val (.int p3), .val (.int p4), .val (.int p5), .val (.int z5), .val (.int z6), .val (.int z7), .val (.int z8), .val (.int v9), .val (.int v10), .val .null, .val (.ref r2), .val (.ref qn), .val (.ref tg), .val (.int z)] [(.ref tg)])) _
                      refine XS.iload XTz.here hx rfl (hb hby at_180) rfl ?_
                      show Steps p.tables e below (Tz.setTop (mkF m 182 #[.val (.int p1), .val (.int p2), .val (.int p3), .val (.int p4), .val (.int p5), .val (.int z5), .val (.int z6), .val (.int z7), .val (.int z8), .val (.int v9), .val (.int v10), .val .null, .val (.ref r2), .val (.ref qn), .val (.ref tg), .val (.int z)] [(.int v9), (.ref tg)])) _
                      exact k
                    obtain ⟨_, _, ⟨T22, L22, k22, n22⟩, -, X22, hSq22, hgq22, ⟨Lc22, hQ22, l22, y22, z22⟩, st22⟩ := callSS XTz hx (y := (⟨"com/example/viitta/viitta/core/SafeXmlStartTagIsPinLaw", "mk", "(I)Ljava/lang/String;"⟩ : MethodName)) hown (mvT hZ (hw _ (List.mem_of_getElem? (i := 0) rfl))) (mvT hZ (hw _ (List.mem_of_getElem? (i := 1) rfl))) (mvT hZ (hw _ (List.mem_of_getElem? (i := 2) rfl))) (mvT hZ (hw _ (List.mem_of_getElem? (i := 3) rfl))) (by decide) (own_backI (W := 1) (rm1 l Z a0 hw [] v9 w1 T21.heap n0 Z21 S_C c0 hzt hcw hH) hZ (fun vm hW => hEv.stays hW) (hw _ (List.mem_of_getElem? (i := 3) rfl)) (hw _ (List.mem_of_getElem? (i := 2) rfl)) (by decide) (by decide)) (g := (mkF m 182 #[.val (.int p1), .val (.int p2), .val (.int p3), .val (.int p4), .val (.int p5), .val (.int z5), .val (.int z6), .val (.int z7), .val (.int z8), .val (.int v9), .val (.int v10), .val .null, .val (.ref r2), .val (.ref qn), .val (.ref tg), .val (.int z)] [(.int v9), (.ref tg)])) rfl (by rw [hml]; rfl) (argsL := [(.int v9)]) (rest := [(.ref tg)]) (lenOf pd_rm0_0 rfl) rfl (by show 2 * 0 + _ ≤ _; exact Nat.le_of_eq rfl) (hb hby at_182) (fun _ _ => ⟨rfl, eTz, (by decide : 11 + 4 ≤ _), (by decide : 41 + 15 ≤ _)⟩)
                    dsimp only [Pt.U, Pt.locs, Pt.cells, Pt.slots] at X22 l22 y22 z22 st22 hQ22 hSq22 hgq22
                    subst l22 y22 z22
                    obtain ⟨X22, hS22, hZ, hown⟩ := rebS (s := s) (vm0 := vmTq) (vm1 := T22.vm) hSTq (by rw [eTz]; exact hk21) X22 hSq22 hgq22 hZ hown
                    obtain ⟨q1, q1_b, q1_k, rfl, N22q, Kc22, q1_S, hEv⟩ := hQ22
                    have N22 := Fr.app NTz N22q
                    have hzt := hzt.keep Kc22 all0
                    have r2_S := r2_S.keep Kc22 nin0 nin0
                    have E_tg := E_tg.keep Kc22
                    have F_namespace_tg := F_namespace_tg.keep Kc22 nin0
                    have F_localName_tg := F_localName_tg.keep Kc22 nin0
                    have Z22 : n0 ≤ T22.heap.size := Nat.le_trans Z21 Kc22.1
                    have hk22 : T22.heap.size ≤ T22.heap.size := Nat.le_refl _
                    refine OEndsW.go (t' := T22.setTop (mkF m 185 #[.val (.int p1), .val (.int p2), .val (.int p3), .val (.int p4), .val (.int p5), .val (.int z5), .val (.int z6), .val (.int z7), .val (.int z8), .val (.int v9), .val (.int v10), .val .null, .val (.ref r2), .val (.ref qn), .val (.ref tg), .val (.int z)] [(.ref q1), (.ref tg)])) (fun _ k => st22.trans k) ?_
                    refine OEndsW.go (t' := T22.setTop (mkF m 187 #[.val (.int p1), .val (.int p2), .val (.int p3), .val (.int p4), .val (.int p5), .val (.int z5), .val (.int z6), .val (.int z7), .val (.int z8), .val (.int v9), .val (.int v10), .val .null, .val (.ref r2), .val (.ref qn), .val (.ref tg), .val (.int z)] [(.int v10), (.ref q1), (.ref tg)])) (fun _ k => ?_) ?_
                    · show Steps p.tables e below (T22.setTop (mkF m 185 #[.val (.int p1), .val (.int p2), .val (.int p3), .val (.int p4), .val (.int p5), .val (.int z5), .val (.int z6), .val (.int z7), .val (.int z8), .val (.int v9), .val (.int v10), .val .null, .val (.ref r2), .val (.ref qn), .val (.ref tg), .val (.int z)] [(.ref q1), (.ref tg)])) _
                      refine XS.iload X22.here hx rfl (hb hby at_185) rfl ?_
                      show Steps p.tables e below (T22.setTop (mkF m 187 #[.val (.int p1), .val (.int p2), .val (.int p3), .val (.int p4), .val (.int p5), .val (.int z5), .val (.int z6), .val (.int z7), .val (.int z8), .val (.int v9), .val (.int v10), .val .null, .val (.ref r2), .val (.ref qn), .val (.ref tg), .val (.int z)] [(.int v10), (.ref q1), (.ref tg)])) _
                      exact k
                    obtain ⟨_, _, ⟨T23, L23, k23, n23⟩, -, X23, hSq23, hgq23, ⟨Lc23, hQ23, l23, y23, z23⟩, st23⟩ := callSS X22 hx (y := (⟨"com/example/viitta/viitta/core/SafeXmlStartTagIsPinLaw", "mk", "(I)Ljava/lang/String;"⟩ : MethodName)) hown (mvT hZ (hw _ (List.mem_of_getElem? (i := 0) rfl))) (mvT hZ (hw _ (List.mem_of_getElem? (i := 1) rfl))) (mvT hZ (hw _ (List.mem_of_getElem? (i := 2) rfl))) (mvT hZ (hw _ (List.mem_of_getElem? (i := 3) rfl))) (by decide) (own_backI (W := 2) (rm1 l Z a0 hw [] v10 w1 T22.heap n0 Z22 S_C c0 hzt hcw hH) hZ (fun vm hW => hEv.stays hW) (hw _ (List.mem_of_getElem? (i := 3) rfl)) (hw _ (List.mem_of_getElem? (i := 2) rfl)) (by decide) (by decide)) (g := (mkF m 187 #[.val (.int p1), .val (.int p2), .val (.int p3), .val (.int p4), .val (.int p5), .val (.int z5), .val (.int z6), .val (.int z7), .val (.int z8), .val (.int v9), .val (.int v10), .val .null, .val (.ref r2), .val (.ref qn), .val (.ref tg), .val (.int z)] [(.int v10), (.ref q1), (.ref tg)])) rfl (by rw [hml]; rfl) (argsL := [(.int v10)]) (rest := [(.ref q1), (.ref tg)]) (lenOf pd_rm0_0 rfl) rfl (by show 2 * 0 + _ ≤ _; exact Nat.le_of_eq rfl) (hb hby at_187) (fun _ _ => ⟨rfl, rfl, (by decide : 15 + 4 ≤ _), (by decide : 56 + 15 ≤ _)⟩)
                    dsimp only [Pt.U, Pt.locs, Pt.cells, Pt.slots] at X23 l23 y23 z23 st23 hQ23 hSq23 hgq23
                    subst l23 y23 z23
                    obtain ⟨X23, hS23, hZ, hown⟩ := rebS (s := s) (vm0 := T22.vm) (vm1 := T23.vm) hS22 hk22 X23 hSq23 hgq23 hZ hown
                    obtain ⟨q2, q2_b, q2_k, rfl, N23q, Kc23, q2_S, hEv⟩ := hQ23
                    have N23 := Fr.app N22 N23q
                    have hzt := hzt.keep Kc23 all0
                    have r2_S := r2_S.keep Kc23 nin0 nin0
                    have E_tg := E_tg.keep Kc23
                    have F_namespace_tg := F_namespace_tg.keep Kc23 nin0
                    have F_localName_tg := F_localName_tg.keep Kc23 nin0
                    have q1_S := q1_S.keep Kc23 nin0 nin0
                    have Z23 : n0 ≤ T23.heap.size := Nat.le_trans Z22 Kc23.1
                    have hk23 : T23.heap.size ≤ T23.heap.size := Nat.le_refl _
                    refine OEndsW.go (t' := T23.setTop (mkF m 190 #[.val (.int p1), .val (.int p2), .val (.int p3), .val (.int p4), .val (.int p5), .val (.int z5), .val (.int z6), .val (.int z7), .val (.int z8), .val (.int v9), .val (.int v10), .val .null, .val (.ref r2), .val (.ref qn), .val (.ref tg), .val (.int z)] [(.ref q2), (.ref q1), (.ref tg)])) (fun _ k => st23.trans k) ?_
                    obtain ⟨cq24, kq24, q24a, q24b, q24c⟩ := isOf hZ rfl E_tg
                    obtain ⟨_, _, ⟨T24, L24, k24, n24⟩, -, X24, ⟨Lc24, hQ24, l24, y24, z24⟩, st24⟩ := X23.virtualBack hx (y := (⟨"com/example/viitta/viitta/core/SafeXml$StartTag", "is", "(Ljava/lang/String;Ljava/lang/String;)Z"⟩ : MethodName)) (z := (⟨"com/example/viitta/viitta/core/SafeXml$StartTag", "is", "(Ljava/lang/String;Ljava/lang/String;)Z"⟩ : MethodName)) hown (mvT hZ (hw _ (List.mem_of_getElem? (i := 78) rfl))) (mvT hZ (hw _ (List.mem_of_getElem? (i := 79) rfl))) (notFace_of_selects (args := #[]) (mvT hZ (hw _ (List.mem_of_getElem? (i := 81) rfl)))) (mvT hZ (hw _ (List.mem_of_getElem? (i := 81) rfl))) (mvT hZ (hw _ (List.mem_of_getElem? (i := 80) rfl))) (by decide) (backOf (W := 0) (rmIs1 l Z a0 hw [] tg q1 q2 w1 r2 q1_b q2_b q1_k q2_k _ _ T23.heap n0 Z23 (S_C.ext hzt.2) c0 F_namespace_tg F_localName_tg q1_S q2_S) hZ (hw _ (List.mem_of_getElem? (i := 82) rfl)) (hw _ (List.mem_of_getElem? (i := 31) rfl)) (by decide) (by decide)) q24a q24c (g := (mkF m 190 #[.val (.int p1), .val (.int p2), .val (.int p3), .val (.int p4), .val (.int p5), .val (.int z5), .val (.int z6), .val (.int z7), .val (.int z8), .val (.int v9), .val (.int v10), .val .null, .val (.ref r2), .val (.ref qn), .val (.ref tg), .val (.int z)] [(.ref q2), (.ref q1), (.ref tg)])) rfl (by rw [hml]; rfl) (Steps.refl _) (argsL := [(.ref q1), (.ref q2)]) (rest := []) (lenOf pd_rm0_3 rfl) rfl (by show 2 * 0 + _ ≤ _; exact Nat.le_of_eq rfl) (hb hby at_190) (fun _ _ => ⟨rfl, rfl, (by decide : 19 + 0 ≤ _), (by decide : 71 + 0 ≤ _)⟩)
                    dsimp only [Pt.U, Pt.locs, Pt.cells, Pt.slots] at X24 l24 y24 z24 st24 hQ24
                    subst l24 y24 z24
                    obtain ⟨rfl, N24q, eh⟩ := hQ24
                    have N24 := Fr.app N23 N24q
                    have eh24 := eh
                    refine OEndsW.go (t' := T24.setTop (mkF m 193 #[.val (.int p1), .val (.int p2), .val (.int p3), .val (.int p4), .val (.int p5), .val (.int z5), .val (.int z6), .val (.int z7), .val (.int z8), .val (.int v9), .val (.int v10), .val .null, .val (.ref r2), .val (.ref qn), .val (.ref tg), .val (.int z)] [(.int (0 : Int32))])) (fun _ k => st24.trans k) ?_
                    refine OEndsW.go (t' := T24.setTop (mkF m 195 #[.val (.int p1), .val (.int p2), .val (.int p3), .val (.int p4), .val (.int p5), .val (.int z5), .val (.int z6), .val (.int z7), .val (.int z8), .val (.int v9), .val (.int v10), .val .null, .val (.ref r2), .val (.ref qn), .val (.ref tg), .val (.int z)] [(.int z), (.int (0 : Int32))])) (fun _ k => ?_) ?_
                    · show Steps p.tables e below (T24.setTop (mkF m 193 #[.val (.int p1), .val (.int p2), .val (.int p3), .val (.int p4), .val (.int p5), .val (.int z5), .val (.int z6), .val (.int z7), .val (.int z8), .val (.int v9), .val (.int v10), .val .null, .val (.ref r2), .val (.ref qn), .val (.ref tg), .val (.int z)] [(.int (0 : Int32))])) _
                      refine XS.iload X24.here hx rfl (hb hby at_193) rfl ?_
                      show Steps p.tables e below (T24.setTop (mkF m 195 #[.val (.int p1), .val (.int p2), .val (.int p3), .val (.int p4), .val (.int p5), .val (.int z5), .val (.int z6), .val (.int z7), .val (.int z8), .val (.int v9), .val (.int v10), .val .null, .val (.ref r2), .val (.ref qn), .val (.ref tg), .val (.int z)] [(.int z), (.int (0 : Int32))])) _
                      exact k
                    refine OEndsW.go (t' := T24.setTop (mkF m 198 #[.val (.int p1), .val (.int p2), .val (.int p3), .val (.int p4), .val (.int p5), .val (.int z5), .val (.int z6), .val (.int z7), .val (.int z8), .val (.int v9), .val (.int v10), .val .null, .val (.ref r2), .val (.ref qn), .val (.ref tg), .val (.int z)] [])) (fun _ k => XS.icmpNo X24.here hx rfl (hb hby at_195) rfl (teq hz.symm).2 k) ?_
                    refine OEndsW.go (t' := T24.setTop (mkF m 203 #[.val (.int p1), .val (.int p2), .val (.int p3), .val (.int p4), .val (.int p5), .val (.int z5), .val (.int z6), .val (.int z7), .val (.int z8), .val (.int v9), .val (.int v10), .val .null, .val (.ref r2), .val (.ref qn), .val (.ref tg), .val (.int z)] [(.int (1 : Int32))])) (fun _ k => ?_) ?_
                    · show Steps p.tables e below (T24.setTop (mkF m 198 #[.val (.int p1), .val (.int p2), .val (.int p3), .val (.int p4), .val (.int p5), .val (.int z5), .val (.int z6), .val (.int z7), .val (.int z8), .val (.int v9), .val (.int v10), .val .null, .val (.ref r2), .val (.ref qn), .val (.ref tg), .val (.int z)] [])) _
                      refine XS.iconst X24.here hx rfl (hb hby at_198) ?_
                      show Steps p.tables e below (T24.setTop (mkF m 199 #[.val (.int p1), .val (.int p2), .val (.int p3), .val (.int p4), .val (.int p5), .val (.int z5), .val (.int z6), .val (.int z7), .val (.int z8), .val (.int v9), .val (.int v10), .val .null, .val (.ref r2), .val (.ref qn), .val (.ref tg), .val (.int z)] [(.int (1 : Int32))])) _
                      refine XS.goto X24.here hx rfl (pc0 := 199) (pc' := 203) rfl (hb hby at_199) (by decide) (by decide) ?_
                      show Steps p.tables e below (T24.setTop (mkF m 203 #[.val (.int p1), .val (.int p2), .val (.int p3), .val (.int p4), .val (.int p5), .val (.int z5), .val (.int z6), .val (.int z7), .val (.int z8), .val (.int v9), .val (.int v10), .val .null, .val (.ref r2), .val (.ref qn), .val (.ref tg), .val (.int z)] [(.int (1 : Int32))])) _
                      exact k
                    refine OEndsW.back X24 hS23 (by rw [eh24]; exact hk23) hlk (v := (some (.int (1 : Int32)))) (fun h => by rw [hrt] at h; cases h) (fun fs hr => ?_) ?_ (by decide) (by decide)
                    · exact retN X24 hx (t := .boolean) hrt (by simp) (hb hby at_203) hr
                    · show Q0 Z p1 p2 p3 p4 p5 w1 d1 h0 n0 _ T24.heap T24.vm _
                      rw [eh24]
                      exact ⟨rfl, N24⟩
                  refine OEndsW.go (t' := T21.setTop (mkF m 175 #[.val (.int p1), .val (.int p2), .val (.int p3), .val (.int p4), .val (.int p5), .val (.int z5), .val (.int z6), .val (.int z7), .val (.int z8), .val (.int v9), .val (.int v10), .val .null, .val (.ref r2), .val (.ref qn), .val (.ref tg), .unset] [])) (fun _ k => XS.ifYes X21.here hx rfl (pc0 := 150) (pc' := 175) rfl (hb hby at_150) rfl ((if0 _ _).trans (feq h83).2) (by decide) (by decide) k) ?_
                  refine OEndsW.go (t' := T21.setTop (mkF m 176 #[.val (.int p1), .val (.int p2), .val (.int p3), .val (.int p4), .val (.int p5), .val (.int z5), .val (.int z6), .val (.int z7), .val (.int z8), .val (.int v9), .val (.int v10), .val .null, .val (.ref r2), .val (.ref qn), .val (.ref tg), .unset] [(.int (0 : Int32))])) (fun _ k => ?_) ?_
                  · show Steps p.tables e below (T21.setTop (mkF m 175 #[.val (.int p1), .val (.int p2), .val (.int p3), .val (.int p4), .val (.int p5), .val (.int z5), .val (.int z6), .val (.int z7), .val (.int z8), .val (.int v9), .val (.int v10), .val .null, .val (.ref r2), .val (.ref qn), .val (.ref tg), .unset] [])) _
                    refine XS.iconst X21.here hx rfl (hb hby at_175) ?_
                    show Steps p.tables e below (T21.setTop (mkF m 176 #[.val (.int p1), .val (.int p2), .val (.int p3), .val (.int p4), .val (.int p5), .val (.int z5), .val (.int z6), .val (.int z7), .val (.int z8), .val (.int v9), .val (.int v10), .val .null, .val (.ref r2), .val (.ref qn), .val (.ref tg), .unset] [(.int (0 : Int32))])) _
                    exact k
                  exact K176 _ _ X21 rfl N21 _ rfl
                by_cases h104 : z8 = (0 : Int32)
                · refine OEndsW.go (t' := T15.setTop (mkF m 115 #[.val (.int p1), .val (.int p2), .val (.int p3), .val (.int p4), .val (.int p5), .val (.int z5), .val (.int z6), .val (.int z7), .val (.int z8), .val (.int v9), .val (.int v10), .val .null, .val (.ref r2), .unset, .unset, .unset] [])) (fun _ k => XS.ifYes X15.here hx rfl (pc0 := 104) (pc' := 115) rfl (hb hby at_104) rfl ((if0 _ _).trans (teq h104).1) (by decide) (by decide) k) ?_
                  refine OEndsW.go (t' := T15.setTop (mkF m 117 #[.val (.int p1), .val (.int p2), .val (.int p3), .val (.int p4), .val (.int p5), .val (.int z5), .val (.int z6), .val (.int z7), .val (.int z8), .val (.int v9), .val (.int v10), .val .null, .val (.ref r2), .unset, .unset, .unset] [(.ref r2)])) (fun _ k => ?_) ?_
                  · show Steps p.tables e below (T15.setTop (mkF m 115 #[.val (.int p1), .val (.int p2), .val (.int p3), .val (.int p4), .val (.int p5), .val (.int z5), .val (.int z6), .val (.int z7), .val (.int z8), .val (.int v9), .val (.int v10), .val .null, .val (.ref r2), .unset, .unset, .unset] [])) _
                    refine XS.aload X15.here hx rfl (hb hby at_115) rfl rfl ?_
                    show Steps p.tables e below (T15.setTop (mkF m 117 #[.val (.int p1), .val (.int p2), .val (.int p3), .val (.int p4), .val (.int p5), .val (.int z5), .val (.int z6), .val (.int z7), .val (.int z8), .val (.int v9), .val (.int v10), .val .null, .val (.ref r2), .unset, .unset, .unset] [(.ref r2)])) _
                    exact k
                  exact K117 _ _ _ T15.vm _ (X15.mono (by decide) (by decide)) rfl N15 Z15 hS15 hk15 hZ hown _ hzt hEv r2_S
                · refine OEndsW.go (t' := T15.setTop (mkF m 107 #[.val (.int p1), .val (.int p2), .val (.int p3), .val (.int p4), .val (.int p5), .val (.int z5), .val (.int z6), .val (.int z7), .val (.int z8), .val (.int v9), .val (.int v10), .val .null, .val (.ref r2), .unset, .unset, .unset] [])) (fun _ k => XS.ifNo X15.here hx rfl (hb hby at_104) rfl ((if0 _ _).trans (feq h104).1) k) ?_
                  refine OEndsW.go (t' := T15.setTop (mkF m 109 #[.val (.int p1), .val (.int p2), .val (.int p3), .val (.int p4), .val (.int p5), .val (.int z5), .val (.int z6), .val (.int z7), .val (.int z8), .val (.int v9), .val (.int v10), .val .null, .val (.ref r2), .unset, .unset, .unset] [(.int v10)])) (fun _ k => ?_) ?_
                  · show Steps p.tables e below (T15.setTop (mkF m 107 #[.val (.int p1), .val (.int p2), .val (.int p3), .val (.int p4), .val (.int p5), .val (.int z5), .val (.int z6), .val (.int z7), .val (.int z8), .val (.int v9), .val (.int v10), .val .null, .val (.ref r2), .unset, .unset, .unset] [])) _
                    refine XS.iload X15.here hx rfl (hb hby at_107) rfl ?_
                    show Steps p.tables e below (T15.setTop (mkF m 109 #[.val (.int p1), .val (.int p2), .val (.int p3), .val (.int p4), .val (.int p5), .val (.int z5), .val (.int z6), .val (.int z7), .val (.int z8), .val (.int v9), .val (.int v10), .val .null, .val (.ref r2), .unset, .unset, .unset] [(.int v10)])) _
                    exact k
                  obtain ⟨_, _, ⟨T25, L25, k25, n25⟩, -, X25, hSq25, hgq25, ⟨Lc25, hQ25, l25, y25, z25⟩, st25⟩ := callSS X15 hx (y := (⟨"com/example/viitta/viitta/core/SafeXmlStartTagIsPinLaw", "mk", "(I)Ljava/lang/String;"⟩ : MethodName)) hown (mvT hZ (hw _ (List.mem_of_getElem? (i := 0) rfl))) (mvT hZ (hw _ (List.mem_of_getElem? (i := 1) rfl))) (mvT hZ (hw _ (List.mem_of_getElem? (i := 2) rfl))) (mvT hZ (hw _ (List.mem_of_getElem? (i := 3) rfl))) (by decide) (own_backI (W := 0) (rm1 l Z a0 hw [] v10 w1 T15.heap n0 Z15 S_C c0 hzt hcw hH) hZ (fun vm hW => hEv.stays hW) (hw _ (List.mem_of_getElem? (i := 3) rfl)) (hw _ (List.mem_of_getElem? (i := 2) rfl)) (by decide) (by decide)) (g := (mkF m 109 #[.val (.int p1), .val (.int p2), .val (.int p3), .val (.int p4), .val (.int p5), .val (.int z5), .val (.int z6), .val (.int z7), .val (.int z8), .val (.int v9), .val (.int v10), .val .null, .val (.ref r2), .unset, .unset, .unset] [(.int v10)])) rfl (by rw [hml]; rfl) (argsL := [(.int v10)]) (rest := []) (lenOf pd_rm0_0 rfl) rfl (by show 2 * 0 + _ ≤ _; exact Nat.le_of_eq rfl) (hb hby at_109) (fun _ _ => ⟨rfl, rfl, (by decide : 4 + 4 ≤ _), (by decide : 15 + 15 ≤ _)⟩)
                  dsimp only [Pt.U, Pt.locs, Pt.cells, Pt.slots] at X25 l25 y25 z25 st25 hQ25 hSq25 hgq25
                  subst l25 y25 z25
                  obtain ⟨X25, hS25, hZ, hown⟩ := rebS (s := s) (vm0 := T15.vm) (vm1 := T25.vm) hS15 hk15 X25 hSq25 hgq25 hZ hown
                  obtain ⟨r3, r3_b, r3_k, rfl, N25q, Kc25, r3_S, hEv⟩ := hQ25
                  have N25 := Fr.app N15 N25q
                  have hzt := hzt.keep Kc25 all0
                  have r2_S := r2_S.keep Kc25 nin0 nin0
                  have Z25 : n0 ≤ T25.heap.size := Nat.le_trans Z15 Kc25.1
                  have hk25 : T25.heap.size ≤ T25.heap.size := Nat.le_refl _
                  refine OEndsW.go (t' := T25.setTop (mkF m 112 #[.val (.int p1), .val (.int p2), .val (.int p3), .val (.int p4), .val (.int p5), .val (.int z5), .val (.int z6), .val (.int z7), .val (.int z8), .val (.int v9), .val (.int v10), .val .null, .val (.ref r2), .unset, .unset, .unset] [(.ref r3)])) (fun _ k => st25.trans k) ?_
                  refine OEndsW.go (t' := T25.setTop (mkF m 117 #[.val (.int p1), .val (.int p2), .val (.int p3), .val (.int p4), .val (.int p5), .val (.int z5), .val (.int z6), .val (.int z7), .val (.int z8), .val (.int v9), .val (.int v10), .val .null, .val (.ref r2), .unset, .unset, .unset] [(.ref r3)])) (fun _ k => ?_) ?_
                  · show Steps p.tables e below (T25.setTop (mkF m 112 #[.val (.int p1), .val (.int p2), .val (.int p3), .val (.int p4), .val (.int p5), .val (.int z5), .val (.int z6), .val (.int z7), .val (.int z8), .val (.int v9), .val (.int v10), .val .null, .val (.ref r2), .unset, .unset, .unset] [(.ref r3)])) _
                    refine XS.goto X25.here hx rfl (pc0 := 112) (pc' := 117) rfl (hb hby at_112) (by decide) (by decide) ?_
                    show Steps p.tables e below (T25.setTop (mkF m 117 #[.val (.int p1), .val (.int p2), .val (.int p3), .val (.int p4), .val (.int p5), .val (.int z5), .val (.int z6), .val (.int z7), .val (.int z8), .val (.int v9), .val (.int v10), .val .null, .val (.ref r2), .unset, .unset, .unset] [(.ref r3)])) _
                    exact k
                  exact K117 _ _ _ T25.vm _ (X25.mono (by decide) (by decide)) rfl N25 Z25 hS25 hk25 hZ hown _ hzt hEv r2_S
            refine OEndsW.go (t' := s₁.setTop (mkF m 71 #[.val (.int p1), .val (.int p2), .val (.int p3), .val (.int p4), .val (.int p5), .val (.int z5), .val (.int z6), .val (.int z7), .val (.int z8), .val (.int v9), .unset, .unset, .unset, .unset, .unset, .unset] [(.int z7)])) (fun _ k => ?_) ?_
            · show Steps p.tables e below (s₁.setTop (mkF m 69 #[.val (.int p1), .val (.int p2), .val (.int p3), .val (.int p4), .val (.int p5), .val (.int z5), .val (.int z6), .val (.int z7), .val (.int z8), .val (.int v9), .unset, .unset, .unset, .unset, .unset, .unset] [])) _
              refine XS.iload X0.here hx rfl (hb hby at_69) rfl ?_
              show Steps p.tables e below (s₁.setTop (mkF m 71 #[.val (.int p1), .val (.int p2), .val (.int p3), .val (.int p4), .val (.int p5), .val (.int z5), .val (.int z6), .val (.int z7), .val (.int z8), .val (.int v9), .unset, .unset, .unset, .unset, .unset, .unset] [(.int z7)])) _
              exact k
            by_cases hf79 : z7 = (0 : Int32)
            · refine OEndsW.go (t' := s₁.setTop (mkF m 78 #[.val (.int p1), .val (.int p2), .val (.int p3), .val (.int p4), .val (.int p5), .val (.int z5), .val (.int z6), .val (.int z7), .val (.int z8), .val (.int v9), .unset, .unset, .unset, .unset, .unset, .unset] [])) (fun _ k => XS.ifYes X0.here hx rfl (pc0 := 71) (pc' := 78) rfl (hb hby at_71) rfl ((if0 _ _).trans (teq hf79).1) (by decide) (by decide) k) ?_
              refine OEndsW.go (t' := s₁.setTop (mkF m 79 #[.val (.int p1), .val (.int p2), .val (.int p3), .val (.int p4), .val (.int p5), .val (.int z5), .val (.int z6), .val (.int z7), .val (.int z8), .val (.int v9), .unset, .unset, .unset, .unset, .unset, .unset] [(.int p4)])) (fun _ k => ?_) ?_
              · show Steps p.tables e below (s₁.setTop (mkF m 78 #[.val (.int p1), .val (.int p2), .val (.int p3), .val (.int p4), .val (.int p5), .val (.int z5), .val (.int z6), .val (.int z7), .val (.int z8), .val (.int v9), .unset, .unset, .unset, .unset, .unset, .unset] [])) _
                refine XS.iloadN X0.here hx rfl (hb hby at_78) rfl ?_
                show Steps p.tables e below (s₁.setTop (mkF m 79 #[.val (.int p1), .val (.int p2), .val (.int p3), .val (.int p4), .val (.int p5), .val (.int z5), .val (.int z6), .val (.int z7), .val (.int z8), .val (.int v9), .unset, .unset, .unset, .unset, .unset, .unset] [(.int p4)])) _
                exact k
              exact K79 _
            · refine OEndsW.go (t' := s₁.setTop (mkF m 74 #[.val (.int p1), .val (.int p2), .val (.int p3), .val (.int p4), .val (.int p5), .val (.int z5), .val (.int z6), .val (.int z7), .val (.int z8), .val (.int v9), .unset, .unset, .unset, .unset, .unset, .unset] [])) (fun _ k => XS.ifNo X0.here hx rfl (hb hby at_71) rfl ((if0 _ _).trans (feq hf79).1) k) ?_
              refine OEndsW.go (t' := s₁.setTop (mkF m 79 #[.val (.int p1), .val (.int p2), .val (.int p3), .val (.int p4), .val (.int p5), .val (.int z5), .val (.int z6), .val (.int z7), .val (.int z8), .val (.int v9), .unset, .unset, .unset, .unset, .unset, .unset] [(.int p2)])) (fun _ k => ?_) ?_
              · show Steps p.tables e below (s₁.setTop (mkF m 74 #[.val (.int p1), .val (.int p2), .val (.int p3), .val (.int p4), .val (.int p5), .val (.int z5), .val (.int z6), .val (.int z7), .val (.int z8), .val (.int v9), .unset, .unset, .unset, .unset, .unset, .unset] [])) _
                refine XS.iloadN X0.here hx rfl (hb hby at_74) rfl ?_
                show Steps p.tables e below (s₁.setTop (mkF m 75 #[.val (.int p1), .val (.int p2), .val (.int p3), .val (.int p4), .val (.int p5), .val (.int z5), .val (.int z6), .val (.int z7), .val (.int z8), .val (.int v9), .unset, .unset, .unset, .unset, .unset, .unset] [(.int p2)])) _
                refine XS.goto X0.here hx rfl (pc0 := 75) (pc' := 79) rfl (hb hby at_75) (by decide) (by decide) ?_
                show Steps p.tables e below (s₁.setTop (mkF m 79 #[.val (.int p1), .val (.int p2), .val (.int p3), .val (.int p4), .val (.int p5), .val (.int z5), .val (.int z6), .val (.int z7), .val (.int z8), .val (.int v9), .unset, .unset, .unset, .unset, .unset, .unset] [(.int p2)])) _
                exact k
              exact K79 _
          refine OEndsW.go (t' := s₁.setTop (mkF m 59 #[.val (.int p1), .val (.int p2), .val (.int p3), .val (.int p4), .val (.int p5), .val (.int z5), .val (.int z6), .val (.int z7), .val (.int z8), .unset, .unset, .unset, .unset, .unset, .unset, .unset] [(.int z6)])) (fun _ k => ?_) ?_
          · show Steps p.tables e below (s₁.setTop (mkF m 57 #[.val (.int p1), .val (.int p2), .val (.int p3), .val (.int p4), .val (.int p5), .val (.int z5), .val (.int z6), .val (.int z7), .val (.int z8), .unset, .unset, .unset, .unset, .unset, .unset, .unset] [])) _
            refine XS.iload X0.here hx rfl (hb hby at_57) rfl ?_
            show Steps p.tables e below (s₁.setTop (mkF m 59 #[.val (.int p1), .val (.int p2), .val (.int p3), .val (.int p4), .val (.int p5), .val (.int z5), .val (.int z6), .val (.int z7), .val (.int z8), .unset, .unset, .unset, .unset, .unset, .unset, .unset] [(.int z6)])) _
            exact k
          by_cases hf67 : z6 = (0 : Int32)
          · refine OEndsW.go (t' := s₁.setTop (mkF m 66 #[.val (.int p1), .val (.int p2), .val (.int p3), .val (.int p4), .val (.int p5), .val (.int z5), .val (.int z6), .val (.int z7), .val (.int z8), .unset, .unset, .unset, .unset, .unset, .unset, .unset] [])) (fun _ k => XS.ifYes X0.here hx rfl (pc0 := 59) (pc' := 66) rfl (hb hby at_59) rfl ((if0 _ _).trans (teq hf67).1) (by decide) (by decide) k) ?_
            refine OEndsW.go (t' := s₁.setTop (mkF m 67 #[.val (.int p1), .val (.int p2), .val (.int p3), .val (.int p4), .val (.int p5), .val (.int z5), .val (.int z6), .val (.int z7), .val (.int z8), .unset, .unset, .unset, .unset, .unset, .unset, .unset] [(.int p3)])) (fun _ k => ?_) ?_
            · show Steps p.tables e below (s₁.setTop (mkF m 66 #[.val (.int p1), .val (.int p2), .val (.int p3), .val (.int p4), .val (.int p5), .val (.int z5), .val (.int z6), .val (.int z7), .val (.int z8), .unset, .unset, .unset, .unset, .unset, .unset, .unset] [])) _
              refine XS.iloadN X0.here hx rfl (hb hby at_66) rfl ?_
              show Steps p.tables e below (s₁.setTop (mkF m 67 #[.val (.int p1), .val (.int p2), .val (.int p3), .val (.int p4), .val (.int p5), .val (.int z5), .val (.int z6), .val (.int z7), .val (.int z8), .unset, .unset, .unset, .unset, .unset, .unset, .unset] [(.int p3)])) _
              exact k
            exact K67 _
          · refine OEndsW.go (t' := s₁.setTop (mkF m 62 #[.val (.int p1), .val (.int p2), .val (.int p3), .val (.int p4), .val (.int p5), .val (.int z5), .val (.int z6), .val (.int z7), .val (.int z8), .unset, .unset, .unset, .unset, .unset, .unset, .unset] [])) (fun _ k => XS.ifNo X0.here hx rfl (hb hby at_59) rfl ((if0 _ _).trans (feq hf67).1) k) ?_
            refine OEndsW.go (t' := s₁.setTop (mkF m 67 #[.val (.int p1), .val (.int p2), .val (.int p3), .val (.int p4), .val (.int p5), .val (.int z5), .val (.int z6), .val (.int z7), .val (.int z8), .unset, .unset, .unset, .unset, .unset, .unset, .unset] [(.int p1)])) (fun _ k => ?_) ?_
            · show Steps p.tables e below (s₁.setTop (mkF m 62 #[.val (.int p1), .val (.int p2), .val (.int p3), .val (.int p4), .val (.int p5), .val (.int z5), .val (.int z6), .val (.int z7), .val (.int z8), .unset, .unset, .unset, .unset, .unset, .unset, .unset] [])) _
              refine XS.iloadN X0.here hx rfl (hb hby at_62) rfl ?_
              show Steps p.tables e below (s₁.setTop (mkF m 63 #[.val (.int p1), .val (.int p2), .val (.int p3), .val (.int p4), .val (.int p5), .val (.int z5), .val (.int z6), .val (.int z7), .val (.int z8), .unset, .unset, .unset, .unset, .unset, .unset, .unset] [(.int p1)])) _
              refine XS.goto X0.here hx rfl (pc0 := 63) (pc' := 67) rfl (hb hby at_63) (by decide) (by decide) ?_
              show Steps p.tables e below (s₁.setTop (mkF m 67 #[.val (.int p1), .val (.int p2), .val (.int p3), .val (.int p4), .val (.int p5), .val (.int z5), .val (.int z6), .val (.int z7), .val (.int z8), .unset, .unset, .unset, .unset, .unset, .unset, .unset] [(.int p1)])) _
              exact k
            exact K67 _
        refine OEndsW.go (t' := s₁.setTop (mkF m 47 #[.val (.int p1), .val (.int p2), .val (.int p3), .val (.int p4), .val (.int p5), .val (.int z5), .val (.int z6), .val (.int z7), .unset, .unset, .unset, .unset, .unset, .unset, .unset, .unset] [(.int (p5 &&& (8 : Int32)))])) (fun _ k => ?_) ?_
        · show Steps p.tables e below (s₁.setTop (mkF m 42 #[.val (.int p1), .val (.int p2), .val (.int p3), .val (.int p4), .val (.int p5), .val (.int z5), .val (.int z6), .val (.int z7), .unset, .unset, .unset, .unset, .unset, .unset, .unset, .unset] [])) _
          refine XS.iload X0.here hx rfl (hb hby at_42) rfl ?_
          show Steps p.tables e below (s₁.setTop (mkF m 44 #[.val (.int p1), .val (.int p2), .val (.int p3), .val (.int p4), .val (.int p5), .val (.int z5), .val (.int z6), .val (.int z7), .unset, .unset, .unset, .unset, .unset, .unset, .unset, .unset] [(.int p5)])) _
          refine XS.bipush X0.here hx rfl (hb hby at_44) ?_
          show Steps p.tables e below (s₁.setTop (mkF m 46 #[.val (.int p1), .val (.int p2), .val (.int p3), .val (.int p4), .val (.int p5), .val (.int z5), .val (.int z6), .val (.int z7), .unset, .unset, .unset, .unset, .unset, .unset, .unset, .unset] [(.int (8 : Int32)), (.int p5)])) _
          refine XS.iand X0.here hx rfl (hb hby at_46) rfl ?_
          show Steps p.tables e below (s₁.setTop (mkF m 47 #[.val (.int p1), .val (.int p2), .val (.int p3), .val (.int p4), .val (.int p5), .val (.int z5), .val (.int z6), .val (.int z7), .unset, .unset, .unset, .unset, .unset, .unset, .unset, .unset] [(.int (p5 &&& (8 : Int32)))])) _
          exact k
        by_cases hf55 : (p5 &&& (8 : Int32)) = (0 : Int32)
        · refine OEndsW.go (t' := s₁.setTop (mkF m 54 #[.val (.int p1), .val (.int p2), .val (.int p3), .val (.int p4), .val (.int p5), .val (.int z5), .val (.int z6), .val (.int z7), .unset, .unset, .unset, .unset, .unset, .unset, .unset, .unset] [])) (fun _ k => XS.ifYes X0.here hx rfl (pc0 := 47) (pc' := 54) rfl (hb hby at_47) rfl ((if0 _ _).trans (teq hf55).1) (by decide) (by decide) k) ?_
          refine OEndsW.go (t' := s₁.setTop (mkF m 55 #[.val (.int p1), .val (.int p2), .val (.int p3), .val (.int p4), .val (.int p5), .val (.int z5), .val (.int z6), .val (.int z7), .unset, .unset, .unset, .unset, .unset, .unset, .unset, .unset] [(.int (0 : Int32))])) (fun _ k => ?_) ?_
          · show Steps p.tables e below (s₁.setTop (mkF m 54 #[.val (.int p1), .val (.int p2), .val (.int p3), .val (.int p4), .val (.int p5), .val (.int z5), .val (.int z6), .val (.int z7), .unset, .unset, .unset, .unset, .unset, .unset, .unset, .unset] [])) _
            refine XS.iconst X0.here hx rfl (hb hby at_54) ?_
            show Steps p.tables e below (s₁.setTop (mkF m 55 #[.val (.int p1), .val (.int p2), .val (.int p3), .val (.int p4), .val (.int p5), .val (.int z5), .val (.int z6), .val (.int z7), .unset, .unset, .unset, .unset, .unset, .unset, .unset, .unset] [(.int (0 : Int32))])) _
            exact k
          exact K55 _
        · refine OEndsW.go (t' := s₁.setTop (mkF m 50 #[.val (.int p1), .val (.int p2), .val (.int p3), .val (.int p4), .val (.int p5), .val (.int z5), .val (.int z6), .val (.int z7), .unset, .unset, .unset, .unset, .unset, .unset, .unset, .unset] [])) (fun _ k => XS.ifNo X0.here hx rfl (hb hby at_47) rfl ((if0 _ _).trans (feq hf55).1) k) ?_
          refine OEndsW.go (t' := s₁.setTop (mkF m 55 #[.val (.int p1), .val (.int p2), .val (.int p3), .val (.int p4), .val (.int p5), .val (.int z5), .val (.int z6), .val (.int z7), .unset, .unset, .unset, .unset, .unset, .unset, .unset, .unset] [(.int (1 : Int32))])) (fun _ k => ?_) ?_
          · show Steps p.tables e below (s₁.setTop (mkF m 50 #[.val (.int p1), .val (.int p2), .val (.int p3), .val (.int p4), .val (.int p5), .val (.int z5), .val (.int z6), .val (.int z7), .unset, .unset, .unset, .unset, .unset, .unset, .unset, .unset] [])) _
            refine XS.iconst X0.here hx rfl (hb hby at_50) ?_
            show Steps p.tables e below (s₁.setTop (mkF m 51 #[.val (.int p1), .val (.int p2), .val (.int p3), .val (.int p4), .val (.int p5), .val (.int z5), .val (.int z6), .val (.int z7), .unset, .unset, .unset, .unset, .unset, .unset, .unset, .unset] [(.int (1 : Int32))])) _
            refine XS.goto X0.here hx rfl (pc0 := 51) (pc' := 55) rfl (hb hby at_51) (by decide) (by decide) ?_
            show Steps p.tables e below (s₁.setTop (mkF m 55 #[.val (.int p1), .val (.int p2), .val (.int p3), .val (.int p4), .val (.int p5), .val (.int z5), .val (.int z6), .val (.int z7), .unset, .unset, .unset, .unset, .unset, .unset, .unset, .unset] [(.int (1 : Int32))])) _
            exact k
          exact K55 _
      refine OEndsW.go (t' := s₁.setTop (mkF m 32 #[.val (.int p1), .val (.int p2), .val (.int p3), .val (.int p4), .val (.int p5), .val (.int z5), .val (.int z6), .unset, .unset, .unset, .unset, .unset, .unset, .unset, .unset, .unset] [(.int (p5 &&& (4 : Int32)))])) (fun _ k => ?_) ?_
      · show Steps p.tables e below (s₁.setTop (mkF m 28 #[.val (.int p1), .val (.int p2), .val (.int p3), .val (.int p4), .val (.int p5), .val (.int z5), .val (.int z6), .unset, .unset, .unset, .unset, .unset, .unset, .unset, .unset, .unset] [])) _
        refine XS.iload X0.here hx rfl (hb hby at_28) rfl ?_
        show Steps p.tables e below (s₁.setTop (mkF m 30 #[.val (.int p1), .val (.int p2), .val (.int p3), .val (.int p4), .val (.int p5), .val (.int z5), .val (.int z6), .unset, .unset, .unset, .unset, .unset, .unset, .unset, .unset, .unset] [(.int p5)])) _
        refine XS.iconst X0.here hx rfl (hb hby at_30) ?_
        show Steps p.tables e below (s₁.setTop (mkF m 31 #[.val (.int p1), .val (.int p2), .val (.int p3), .val (.int p4), .val (.int p5), .val (.int z5), .val (.int z6), .unset, .unset, .unset, .unset, .unset, .unset, .unset, .unset, .unset] [(.int (4 : Int32)), (.int p5)])) _
        refine XS.iand X0.here hx rfl (hb hby at_31) rfl ?_
        show Steps p.tables e below (s₁.setTop (mkF m 32 #[.val (.int p1), .val (.int p2), .val (.int p3), .val (.int p4), .val (.int p5), .val (.int z5), .val (.int z6), .unset, .unset, .unset, .unset, .unset, .unset, .unset, .unset, .unset] [(.int (p5 &&& (4 : Int32)))])) _
        exact k
      by_cases hf40 : (p5 &&& (4 : Int32)) = (0 : Int32)
      · refine OEndsW.go (t' := s₁.setTop (mkF m 39 #[.val (.int p1), .val (.int p2), .val (.int p3), .val (.int p4), .val (.int p5), .val (.int z5), .val (.int z6), .unset, .unset, .unset, .unset, .unset, .unset, .unset, .unset, .unset] [])) (fun _ k => XS.ifYes X0.here hx rfl (pc0 := 32) (pc' := 39) rfl (hb hby at_32) rfl ((if0 _ _).trans (teq hf40).1) (by decide) (by decide) k) ?_
        refine OEndsW.go (t' := s₁.setTop (mkF m 40 #[.val (.int p1), .val (.int p2), .val (.int p3), .val (.int p4), .val (.int p5), .val (.int z5), .val (.int z6), .unset, .unset, .unset, .unset, .unset, .unset, .unset, .unset, .unset] [(.int (0 : Int32))])) (fun _ k => ?_) ?_
        · show Steps p.tables e below (s₁.setTop (mkF m 39 #[.val (.int p1), .val (.int p2), .val (.int p3), .val (.int p4), .val (.int p5), .val (.int z5), .val (.int z6), .unset, .unset, .unset, .unset, .unset, .unset, .unset, .unset, .unset] [])) _
          refine XS.iconst X0.here hx rfl (hb hby at_39) ?_
          show Steps p.tables e below (s₁.setTop (mkF m 40 #[.val (.int p1), .val (.int p2), .val (.int p3), .val (.int p4), .val (.int p5), .val (.int z5), .val (.int z6), .unset, .unset, .unset, .unset, .unset, .unset, .unset, .unset, .unset] [(.int (0 : Int32))])) _
          exact k
        exact K40 _
      · refine OEndsW.go (t' := s₁.setTop (mkF m 35 #[.val (.int p1), .val (.int p2), .val (.int p3), .val (.int p4), .val (.int p5), .val (.int z5), .val (.int z6), .unset, .unset, .unset, .unset, .unset, .unset, .unset, .unset, .unset] [])) (fun _ k => XS.ifNo X0.here hx rfl (hb hby at_32) rfl ((if0 _ _).trans (feq hf40).1) k) ?_
        refine OEndsW.go (t' := s₁.setTop (mkF m 40 #[.val (.int p1), .val (.int p2), .val (.int p3), .val (.int p4), .val (.int p5), .val (.int z5), .val (.int z6), .unset, .unset, .unset, .unset, .unset, .unset, .unset, .unset, .unset] [(.int (1 : Int32))])) (fun _ k => ?_) ?_
        · show Steps p.tables e below (s₁.setTop (mkF m 35 #[.val (.int p1), .val (.int p2), .val (.int p3), .val (.int p4), .val (.int p5), .val (.int z5), .val (.int z6), .unset, .unset, .unset, .unset, .unset, .unset, .unset, .unset, .unset] [])) _
          refine XS.iconst X0.here hx rfl (hb hby at_35) ?_
          show Steps p.tables e below (s₁.setTop (mkF m 36 #[.val (.int p1), .val (.int p2), .val (.int p3), .val (.int p4), .val (.int p5), .val (.int z5), .val (.int z6), .unset, .unset, .unset, .unset, .unset, .unset, .unset, .unset, .unset] [(.int (1 : Int32))])) _
          refine XS.goto X0.here hx rfl (pc0 := 36) (pc' := 40) rfl (hb hby at_36) (by decide) (by decide) ?_
          show Steps p.tables e below (s₁.setTop (mkF m 40 #[.val (.int p1), .val (.int p2), .val (.int p3), .val (.int p4), .val (.int p5), .val (.int z5), .val (.int z6), .unset, .unset, .unset, .unset, .unset, .unset, .unset, .unset, .unset] [(.int (1 : Int32))])) _
          exact k
        exact K40 _
    refine OEndsW.go (t' := s₁.setTop (mkF m 18 #[.val (.int p1), .val (.int p2), .val (.int p3), .val (.int p4), .val (.int p5), .val (.int z5), .unset, .unset, .unset, .unset, .unset, .unset, .unset, .unset, .unset, .unset] [(.int (p5 &&& (2 : Int32)))])) (fun _ k => ?_) ?_
    · show Steps p.tables e below (s₁.setTop (mkF m 14 #[.val (.int p1), .val (.int p2), .val (.int p3), .val (.int p4), .val (.int p5), .val (.int z5), .unset, .unset, .unset, .unset, .unset, .unset, .unset, .unset, .unset, .unset] [])) _
      refine XS.iload X0.here hx rfl (hb hby at_14) rfl ?_
      show Steps p.tables e below (s₁.setTop (mkF m 16 #[.val (.int p1), .val (.int p2), .val (.int p3), .val (.int p4), .val (.int p5), .val (.int z5), .unset, .unset, .unset, .unset, .unset, .unset, .unset, .unset, .unset, .unset] [(.int p5)])) _
      refine XS.iconst X0.here hx rfl (hb hby at_16) ?_
      show Steps p.tables e below (s₁.setTop (mkF m 17 #[.val (.int p1), .val (.int p2), .val (.int p3), .val (.int p4), .val (.int p5), .val (.int z5), .unset, .unset, .unset, .unset, .unset, .unset, .unset, .unset, .unset, .unset] [(.int (2 : Int32)), (.int p5)])) _
      refine XS.iand X0.here hx rfl (hb hby at_17) rfl ?_
      show Steps p.tables e below (s₁.setTop (mkF m 18 #[.val (.int p1), .val (.int p2), .val (.int p3), .val (.int p4), .val (.int p5), .val (.int z5), .unset, .unset, .unset, .unset, .unset, .unset, .unset, .unset, .unset, .unset] [(.int (p5 &&& (2 : Int32)))])) _
      exact k
    by_cases hf26 : (p5 &&& (2 : Int32)) = (0 : Int32)
    · refine OEndsW.go (t' := s₁.setTop (mkF m 25 #[.val (.int p1), .val (.int p2), .val (.int p3), .val (.int p4), .val (.int p5), .val (.int z5), .unset, .unset, .unset, .unset, .unset, .unset, .unset, .unset, .unset, .unset] [])) (fun _ k => XS.ifYes X0.here hx rfl (pc0 := 18) (pc' := 25) rfl (hb hby at_18) rfl ((if0 _ _).trans (teq hf26).1) (by decide) (by decide) k) ?_
      refine OEndsW.go (t' := s₁.setTop (mkF m 26 #[.val (.int p1), .val (.int p2), .val (.int p3), .val (.int p4), .val (.int p5), .val (.int z5), .unset, .unset, .unset, .unset, .unset, .unset, .unset, .unset, .unset, .unset] [(.int (0 : Int32))])) (fun _ k => ?_) ?_
      · show Steps p.tables e below (s₁.setTop (mkF m 25 #[.val (.int p1), .val (.int p2), .val (.int p3), .val (.int p4), .val (.int p5), .val (.int z5), .unset, .unset, .unset, .unset, .unset, .unset, .unset, .unset, .unset, .unset] [])) _
        refine XS.iconst X0.here hx rfl (hb hby at_25) ?_
        show Steps p.tables e below (s₁.setTop (mkF m 26 #[.val (.int p1), .val (.int p2), .val (.int p3), .val (.int p4), .val (.int p5), .val (.int z5), .unset, .unset, .unset, .unset, .unset, .unset, .unset, .unset, .unset, .unset] [(.int (0 : Int32))])) _
        exact k
      exact K26 _
    · refine OEndsW.go (t' := s₁.setTop (mkF m 21 #[.val (.int p1), .val (.int p2), .val (.int p3), .val (.int p4), .val (.int p5), .val (.int z5), .unset, .unset, .unset, .unset, .unset, .unset, .unset, .unset, .unset, .unset] [])) (fun _ k => XS.ifNo X0.here hx rfl (hb hby at_18) rfl ((if0 _ _).trans (feq hf26).1) k) ?_
      refine OEndsW.go (t' := s₁.setTop (mkF m 26 #[.val (.int p1), .val (.int p2), .val (.int p3), .val (.int p4), .val (.int p5), .val (.int z5), .unset, .unset, .unset, .unset, .unset, .unset, .unset, .unset, .unset, .unset] [(.int (1 : Int32))])) (fun _ k => ?_) ?_
      · show Steps p.tables e below (s₁.setTop (mkF m 21 #[.val (.int p1), .val (.int p2), .val (.int p3), .val (.int p4), .val (.int p5), .val (.int z5), .unset, .unset, .unset, .unset, .unset, .unset, .unset, .unset, .unset, .unset] [])) _
        refine XS.iconst X0.here hx rfl (hb hby at_21) ?_
        show Steps p.tables e below (s₁.setTop (mkF m 22 #[.val (.int p1), .val (.int p2), .val (.int p3), .val (.int p4), .val (.int p5), .val (.int z5), .unset, .unset, .unset, .unset, .unset, .unset, .unset, .unset, .unset, .unset] [(.int (1 : Int32))])) _
        refine XS.goto X0.here hx rfl (pc0 := 22) (pc' := 26) rfl (hb hby at_22) (by decide) (by decide) ?_
        show Steps p.tables e below (s₁.setTop (mkF m 26 #[.val (.int p1), .val (.int p2), .val (.int p3), .val (.int p4), .val (.int p5), .val (.int z5), .unset, .unset, .unset, .unset, .unset, .unset, .unset, .unset, .unset, .unset] [(.int (1 : Int32))])) _
        exact k
      exact K26 _
  refine OEndsW.go (t' := s₁.setTop (mkF m 4 #[.val (.int p1), .val (.int p2), .val (.int p3), .val (.int p4), .val (.int p5), .unset, .unset, .unset, .unset, .unset, .unset, .unset, .unset, .unset, .unset, .unset] [(.int (p5 &&& (1 : Int32)))])) (fun _ k => ?_) ?_
  · show Steps p.tables e below (s₁.setTop (mkF m 0 #[.val (.int p1), .val (.int p2), .val (.int p3), .val (.int p4), .val (.int p5), .unset, .unset, .unset, .unset, .unset, .unset, .unset, .unset, .unset, .unset, .unset] [])) _
    refine XS.iload X0.here hx rfl (hb hby at_0) rfl ?_
    show Steps p.tables e below (s₁.setTop (mkF m 2 #[.val (.int p1), .val (.int p2), .val (.int p3), .val (.int p4), .val (.int p5), .unset, .unset, .unset, .unset, .unset, .unset, .unset, .unset, .unset, .unset, .unset] [(.int p5)])) _
    refine XS.iconst X0.here hx rfl (hb hby at_2) ?_
    show Steps p.tables e below (s₁.setTop (mkF m 3 #[.val (.int p1), .val (.int p2), .val (.int p3), .val (.int p4), .val (.int p5), .unset, .unset, .unset, .unset, .unset, .unset, .unset, .unset, .unset, .unset, .unset] [(.int (1 : Int32)), (.int p5)])) _
    refine XS.iand X0.here hx rfl (hb hby at_3) rfl ?_
    show Steps p.tables e below (s₁.setTop (mkF m 4 #[.val (.int p1), .val (.int p2), .val (.int p3), .val (.int p4), .val (.int p5), .unset, .unset, .unset, .unset, .unset, .unset, .unset, .unset, .unset, .unset, .unset] [(.int (p5 &&& (1 : Int32)))])) _
    exact k
  by_cases hf12 : (p5 &&& (1 : Int32)) = (0 : Int32)
  · refine OEndsW.go (t' := s₁.setTop (mkF m 11 #[.val (.int p1), .val (.int p2), .val (.int p3), .val (.int p4), .val (.int p5), .unset, .unset, .unset, .unset, .unset, .unset, .unset, .unset, .unset, .unset, .unset] [])) (fun _ k => XS.ifYes X0.here hx rfl (pc0 := 4) (pc' := 11) rfl (hb hby at_4) rfl ((if0 _ _).trans (teq hf12).1) (by decide) (by decide) k) ?_
    refine OEndsW.go (t' := s₁.setTop (mkF m 12 #[.val (.int p1), .val (.int p2), .val (.int p3), .val (.int p4), .val (.int p5), .unset, .unset, .unset, .unset, .unset, .unset, .unset, .unset, .unset, .unset, .unset] [(.int (0 : Int32))])) (fun _ k => ?_) ?_
    · show Steps p.tables e below (s₁.setTop (mkF m 11 #[.val (.int p1), .val (.int p2), .val (.int p3), .val (.int p4), .val (.int p5), .unset, .unset, .unset, .unset, .unset, .unset, .unset, .unset, .unset, .unset, .unset] [])) _
      refine XS.iconst X0.here hx rfl (hb hby at_11) ?_
      show Steps p.tables e below (s₁.setTop (mkF m 12 #[.val (.int p1), .val (.int p2), .val (.int p3), .val (.int p4), .val (.int p5), .unset, .unset, .unset, .unset, .unset, .unset, .unset, .unset, .unset, .unset, .unset] [(.int (0 : Int32))])) _
      exact k
    exact K12 _
  · refine OEndsW.go (t' := s₁.setTop (mkF m 7 #[.val (.int p1), .val (.int p2), .val (.int p3), .val (.int p4), .val (.int p5), .unset, .unset, .unset, .unset, .unset, .unset, .unset, .unset, .unset, .unset, .unset] [])) (fun _ k => XS.ifNo X0.here hx rfl (hb hby at_4) rfl ((if0 _ _).trans (feq hf12).1) k) ?_
    refine OEndsW.go (t' := s₁.setTop (mkF m 12 #[.val (.int p1), .val (.int p2), .val (.int p3), .val (.int p4), .val (.int p5), .unset, .unset, .unset, .unset, .unset, .unset, .unset, .unset, .unset, .unset, .unset] [(.int (1 : Int32))])) (fun _ k => ?_) ?_
    · show Steps p.tables e below (s₁.setTop (mkF m 7 #[.val (.int p1), .val (.int p2), .val (.int p3), .val (.int p4), .val (.int p5), .unset, .unset, .unset, .unset, .unset, .unset, .unset, .unset, .unset, .unset, .unset] [])) _
      refine XS.iconst X0.here hx rfl (hb hby at_7) ?_
      show Steps p.tables e below (s₁.setTop (mkF m 8 #[.val (.int p1), .val (.int p2), .val (.int p3), .val (.int p4), .val (.int p5), .unset, .unset, .unset, .unset, .unset, .unset, .unset, .unset, .unset, .unset, .unset] [(.int (1 : Int32))])) _
      refine XS.goto X0.here hx rfl (pc0 := 8) (pc' := 12) rfl (hb hby at_8) (by decide) (by decide) ?_
      show Steps p.tables e below (s₁.setTop (mkF m 12 #[.val (.int p1), .val (.int p2), .val (.int p3), .val (.int p4), .val (.int p5), .unset, .unset, .unset, .unset, .unset, .unset, .unset, .unset, .unset, .unset, .unset] [(.int (1 : Int32))])) _
      exact k
    exact K12 _
set_option maxRecDepth 65536 in
set_option maxHeartbeats 40000000 in
theorem comes_1 {Post : Tables → Env → Array Value → State → Outcome → State → Prop} (hpost : ∀ tb e args s v u, (limb_1_1.after args s (.returned v) u = true ∧ limb_1_2.after args s (.returned v) u = true ∧ True) → ReturnedEndW s (.returned v) u (Jvm.fieldLocs frame_1_writes args s ++ Jvm.arrayLocs frame_1_arrays args s ++ Jvm.staticLocs frame_1_statics s) 48 1216 → Post tb e args s (.returned v) u) :
    ArmFor flags0 classFile x code maxLocals ret World_1 tables_1 room_1 Calls_1 rest_1 Pre_1 Post := by
  intro l hfl _ _ p e ha hc hk s m args below hf hA hF happ hP
  obtain ⟨hcalls, hrest, hpre⟩ := hP
  obtain ⟨-, -, -, hnamed, -, -, -, hat⟩ := (Spec.applies_iff hf).mp happ
  obtain ⟨hg, hn⟩ := and_e (Cond.before_iff.mp (show (Jvm.Cond.and given_1 narrow_1).before args s = true from hpre))
  obtain ⟨gc, g0⟩ := and_e hg
  obtain ⟨ga0, g1⟩ := and_e g0
  obtain ⟨ga1, g2⟩ := and_e g1
  obtain ⟨ga2, g3⟩ := and_e g2
  obtain ⟨ga3, g4⟩ := and_e g3
  obtain ⟨w0, w1, w2, w3, w4, rfl⟩ : ∃ w0 w1 w2 w3 w4 : Value, args = #[w0, w1, w2, w3, w4] := by
    have hs : args.size = 5 := by simpa [Cond.value, given_1] using gc
    obtain ⟨L⟩ := args
    match L, hs with
    | [w0, w1, w2, w3, w4], _ => exact ⟨w0, w1, w2, w3, w4, rfl⟩
  have hw := fun d (hd : d ∈ tables_1) => atoms_spec (ws := Jvm.Cond.code x code maxLocals ret :: tables_1) hat d (List.mem_cons_of_mem _ hd)
  have hfit : Fit s := fun {y c} hc i hi => by
    obtain ⟨ha, rfl⟩ := Array.getElem?_eq_some_iff.mp hc
    have q := List.all_eq_true.mp ((Array.all_eq_true_iff_forall_mem.mp hF) _ (Array.getElem_mem ha)) i (List.mem_range.mpr hi)
    simpa [Array.getElem?_eq_getElem hi] using q
  obtain ⟨hsets, hown0⟩ := atoms_of _ (rest_1_c_eq ▸ (show rest_1_c.before _ s = true from hrest))
  obtain ⟨i0, ei0⟩ := is_v ga0
  obtain rfl : w0 = (.int i0) := Option.some.inj ei0
  obtain ⟨i1, ei1⟩ := is_v ga1
  obtain rfl : w1 = (.int i1) := Option.some.inj ei1
  obtain ⟨i2, ei2⟩ := is_v ga2
  obtain rfl : w2 = (.int i2) := Option.some.inj ei2
  obtain ⟨i3, ei3⟩ := is_v ga3
  obtain rfl : w3 = (.int i3) := Option.some.inj ei3
  obtain ⟨i4, ei4⟩ := is_v g4
  obtain rfl : w4 = (.int i4) := Option.some.inj ei4
  have hC := hsets _ (List.mem_of_getElem? (i := 9) rfl)
  obtain ⟨w1, ew1⟩ := is_v (Cond.before_iff.mp (hsets _ (List.mem_of_getElem? (i := 10) rfl)))
  have S_C := Sta.start ew1 (Or.inl hC)
  have c0 : ¬ w1 = 0 := own_nei ew1 (Cond.before_iff.mp (hsets _ (List.mem_of_getElem? (i := 11) rfl)))
  have hcw := hsets _ (List.mem_of_getElem? (i := 11) rfl)
  have nD := Cond.before_iff.mp (hsets _ (List.mem_of_getElem? (i := 7) rfl))
  obtain ⟨d1, vD⟩ := exa_v nD
  have S_D := Sta.start vD (Or.inr ⟨(hw _ (List.mem_of_getElem? (i := 34) rfl)), hsets _ (List.mem_of_getElem? (i := 2) rfl)⟩)
  obtain ⟨n, o, h1, h2, h3, _, L, rfl, ⟨rfl, N⟩, hq⟩ := rm0 l s _ hw tables_1 i0 i1 i2 i3 i4 w1 d1 s.heap s.heap.size (Nat.le_refl _) S_C c0 S_D (Old.start s) hcw (hcalls.1 ("java/lang/String", 7) (List.mem_of_getElem? (i := 0) rfl)) p e ha hc hk s m _ below hf ((Spec.applies_iff_loose hf).mp happ).1 ⟨rfl, State.Warmed39.refl s, rfl, IB.start⟩ trivial
  refine ⟨n, _, h1, h2, h3, hpost _ _ _ _ _ _ ⟨Cond.after_iff.mpr rfl, Cond.after_iff.mpr (eq_i res_at (Term.int_eval (1)) rfl), trivial⟩ ⟨hq.1, hq.2.1, hq.2.2.1, (hq.2.2.2.sift fun y hy => Or.inr (N y hy)).mono (by decide) (by decide)⟩⟩
theorem main_1_1 : Claimed_1_1 := comes_1 fun _ _ _ _ _ _ h hF => ⟨h.1, hF⟩
theorem main_1_2 : Claimed_1_2 := comes_1 fun _ _ _ _ _ _ h hF => ⟨h.2.1, hF⟩
end Jvm.Pilot.@@N@@
namespace Jvm.Pilot.@@N@@
open Jvm Jvm.ClassFile Sem Op Lib Jvm.Free Jvm.Stand Jvm.Pilot.@@N@@.Jvm.D
/-! MADE BY PROGRAM (witnessworld.py) out of the Statement's table words and the real class files: 30 classes; the members and pool entries that the words name. The judged class is class 1, her method 1. -/
namespace start1
open Jvm.ClassFile
def u (s : String) : CpInfo := .utf8 (stringToUtf16 s)
/-- a pool by its gaps: so many unusable entries, then the entry; so many at the end -/
def gap : Nat → List CpInfo → List CpInfo
  | 0, r => r
  | n + 1, r => .unusable :: gap n r
def poolList (es : List (Nat × CpInfo)) (last : Nat) : List CpInfo := es.foldr (fun e r => gap e.1 (e.2 :: r)) (gap last [])
def pool (es : List (Nat × CpInfo)) (last : Nat) : Array CpInfo := ⟨poolList es last⟩
def fileOf (pool : Array CpInfo) (this : Nat) (attrs : Array Attribute := #[]) (ms : Array MethodInfo := #[]) (fl : Nat := 33) (sup : Nat := 0) (ifs : Array Nat := #[]) (fds : Array FieldInfo := #[]) : ClassFile where
  minorVersion := 0
  majorVersion := 65
  constantPool := pool
  accessFlags := fl
  thisClass := this
  superClass := sup
  interfaces := ifs
  fields := fds
  methods := ms
  attributes := attrs
def plain (name : String) (sup : Option ClassId) : Class where
  name := name
  kind := .ordinary
  loader := none
  accessFlags := 33
  super := sup
  interfaces := #[]
  cf := none
  fields := #[]
  methods := #[]
  instanceTypes := #[]
  staticTypes := #[]
  resolved := #[]
  callSites := []
  init := .initialized
  statics := none
  mirror := none

def pool0 : Array CpInfo := pool [(5, u "<init>"), (0, u "()V"), (1, .class_ 10), (1, u "java/lang/Object")] 113

def k0c0 : Code := { maxStack := 0, maxLocals := 1, code := object_method_1_code, exceptionTable := #[], attributes := #[] }
def k0m0 : Method := { name := "<init>", desc := "()V", sig := { parameters := [], returnType := none }, accessFlags := 1, code := some k0c0 }
/-- java/lang/Object -/
def k0 : Class := { plain "java/lang/Object" none with
  accessFlags := 33
  interfaces := #[]
  cf := some (fileOf pool0 8 #[] #[{ accessFlags := 1, nameIndex := 5, descriptorIndex := 6, attributes := #[] }] 33 0 #[] #[])
  fields := #[]
  methods := #[k0m0]
  instanceTypes := #[]
  staticTypes := #[]
  resolved := Array.replicate 124 none
  statics := none }

def pool1 : Array CpInfo := pool [(2, .class_ 4), (0, .nameAndType 5 6), (0, u "java/lang/Object"), (0, u "<init>"), (0, u "()V"), (0, .methodref 8 9), (0, .class_ 10), (0, .nameAndType 11 12), (0, u "com/example/viitta/viitta/core/SafeXmlStartTagIsPinLaw"), (0, u "mk"), (0, u "(I)Ljava/lang/String;"), (0, .class_ 14), (0, u "com/example/viitta/viitta/core/SafeXml$StartTag"), (0, .class_ 16), (0, u "java/util/ArrayList"), (0, .methodref 15 3), (0, .methodref 13 19), (0, .nameAndType 5 20), (0, u "(Ljava/lang/String;Ljava/lang/String;Ljava/lang/String;Ljava/util/List;Ljava/util/List;)V"), (0, .methodref 8 22), (0, .nameAndType 23 24), (0, u "same"), (0, u "(II)Z"), (0, .methodref 13 26), (0, .nameAndType 27 28), (0, u "is"), (0, u "(Ljava/lang/String;Ljava/lang/String;)Z"), (0, .methodref 8 30), (0, .nameAndType 31 32), (0, u "len"), (0, u "(I)I"), (0, .methodref 8 34), (0, .nameAndType 35 36), (0, u "ch"), (0, u "(II)C"), (0, .class_ 38), (0, u "java/lang/String"), (0, .methodref 37 40), (0, .nameAndType 5 41), (0, u "([C)V"), (2, u "law"), (0, u "(IIIII)Z")] 9

def k1m0 : Method := { name := "<init>", desc := "()V", sig := { parameters := [], returnType := none }, accessFlags := 1, code := none }
def k1c1 : Code := { maxStack := 8, maxLocals := 16, code := code, exceptionTable := #[], attributes := #[] }
def k1m1 : Method := { name := "law", desc := "(IIIII)Z", sig := { parameters := [.int, .int, .int, .int, .int], returnType := some .boolean }, accessFlags := 9, code := some k1c1 }
def k1c2 : Code := { maxStack := 2, maxLocals := 1, code := method_3_code, exceptionTable := #[], attributes := #[] }
def k1m2 : Method := { name := "len", desc := "(I)I", sig := { parameters := [.int], returnType := some .int }, accessFlags := 10, code := some k1c2 }
def k1c3 : Code := { maxStack := 2, maxLocals := 2, code := method_4_code, exceptionTable := #[], attributes := #[] }
def k1m3 : Method := { name := "ch", desc := "(II)C", sig := { parameters := [.int, .int], returnType := some .char }, accessFlags := 10, code := some k1c3 }
def k1c4 : Code := { maxStack := 4, maxLocals := 3, code := method_5_code, exceptionTable := #[], attributes := #[] }
def k1m4 : Method := { name := "mk", desc := "(I)Ljava/lang/String;", sig := { parameters := [.int], returnType := some (.object "java/lang/String") }, accessFlags := 10, code := some k1c4 }
def k1c5 : Code := { maxStack := 3, maxLocals := 3, code := method_6_code, exceptionTable := #[], attributes := #[] }
def k1m5 : Method := { name := "same", desc := "(II)Z", sig := { parameters := [.int, .int], returnType := some .boolean }, accessFlags := 10, code := some k1c5 }
/-- com/example/viitta/viitta/core/SafeXmlStartTagIsPinLaw -/
def k1 : Class := { plain "com/example/viitta/viitta/core/SafeXmlStartTagIsPinLaw" (some 0) with
  accessFlags := 49
  interfaces := #[]
  cf := some (fileOf pool1 8 #[] #[{ accessFlags := 1, nameIndex := 5, descriptorIndex := 6, attributes := #[] }, { accessFlags := 9, nameIndex := 44, descriptorIndex := 45, attributes := #[] }, { accessFlags := 10, nameIndex := 31, descriptorIndex := 32, attributes := #[] }, { accessFlags := 10, nameIndex := 35, descriptorIndex := 36, attributes := #[] }, { accessFlags := 10, nameIndex := 11, descriptorIndex := 12, attributes := #[] }, { accessFlags := 10, nameIndex := 23, descriptorIndex := 24, attributes := #[] }] 49 2 #[] #[])
  fields := #[]
  methods := #[k1m0, k1m1, k1m2, k1m3, k1m4, k1m5]
  instanceTypes := #[]
  staticTypes := #[]
  resolved := Array.replicate 55 none
  statics := none }

def pool2 : Array CpInfo := pool [(1, .class_ 2), (0, u "java/io/Serializable"), (0, .class_ 4), (0, u "java/lang/Object")] 2

/-- java/io/Serializable -/
def k2 : Class := { plain "java/io/Serializable" (some 0) with
  accessFlags := 1537
  interfaces := #[]
  cf := some (fileOf pool2 1 #[] #[] 1537 3 #[] #[])
  fields := #[]
  methods := #[]
  instanceTypes := #[]
  staticTypes := #[]
  resolved := Array.replicate 7 none
  statics := none }

def pool3 : Array CpInfo := pool [(1, .class_ 2), (0, u "java/lang/Comparable"), (0, .class_ 4), (0, u "java/lang/Object")] 7

/-- java/lang/Comparable -/
def k3 : Class := { plain "java/lang/Comparable" (some 0) with
  accessFlags := 1537
  interfaces := #[]
  cf := some (fileOf pool3 1 #[] #[] 1537 3 #[] #[])
  fields := #[]
  methods := #[]
  instanceTypes := #[]
  staticTypes := #[]
  resolved := Array.replicate 12 none
  statics := none }

def pool4 : Array CpInfo := pool [(2, .class_ 4), (1, u "java/lang/CharSequence"), (42, .class_ 48), (0, u "java/lang/CharSequence$1CodePointIterator"), (10, .class_ 60), (0, u "java/lang/CharSequence$1CharIterator"), (5, .class_ 67), (0, u "java/lang/Object")] 63

/-- java/lang/CharSequence -/
def k4 : Class := { plain "java/lang/CharSequence" (some 0) with
  accessFlags := 1537
  interfaces := #[]
  cf := some (fileOf pool4 2 #[.nestMembers #[47, 59]] #[] 1537 66 #[] #[])
  fields := #[]
  methods := #[]
  instanceTypes := #[]
  staticTypes := #[]
  resolved := Array.replicate 131 none
  statics := none }

def pool5 : Array CpInfo := pool [(1, .class_ 2), (0, u "java/lang/constant/Constable"), (0, .class_ 4), (0, u "java/lang/Object")] 6

/-- java/lang/constant/Constable -/
def k5 : Class := { plain "java/lang/constant/Constable" (some 0) with
  accessFlags := 1537
  interfaces := #[]
  cf := some (fileOf pool5 1 #[] #[] 1537 3 #[] #[])
  fields := #[]
  methods := #[]
  instanceTypes := #[]
  staticTypes := #[]
  resolved := Array.replicate 11 none
  statics := none }

def pool6 : Array CpInfo := pool [(1, .class_ 2), (0, u "java/lang/constant/ConstantDesc"), (0, .class_ 4), (0, u "java/lang/Object")] 32

/-- java/lang/constant/ConstantDesc -/
def k6 : Class := { plain "java/lang/constant/ConstantDesc" (some 0) with
  accessFlags := 1537
  interfaces := #[]
  cf := some (fileOf pool6 1 #[] #[] 1537 3 #[] #[])
  fields := #[]
  methods := #[]
  instanceTypes := #[]
  staticTypes := #[]
  resolved := Array.replicate 37 none
  statics := none }

def pool7 : Array CpInfo := pool [(1, .methodref 2 3), (0, .class_ 4), (0, .nameAndType 5 6), (0, u "java/lang/Object"), (0, u "<init>"), (0, u "()V"), (0, .string 8), (0, u ""), (0, .fieldref 10 11), (0, .class_ 12), (0, .nameAndType 13 14), (0, u "java/lang/String"), (0, u "value"), (0, u "[B"), (0, .fieldref 10 16), (0, .nameAndType 17 18), (0, u "coder"), (0, u "B"), (2, u "hash"), (0, u "I"), (2, u "hashIsZero"), (0, u "Z"), (0, .methodref 10 28), (0, .nameAndType 5 29), (0, u "([CIILjava/lang/Void;)V"), (8, .fieldref 10 39), (0, .nameAndType 40 26), (0, u "COMPACT_STRINGS"), (1, .class_ 44), (1, u "java/lang/StringUTF16"), (0, u "compress"), (1, .methodref 42 48), (0, .nameAndType 49 50), (0, u "coderFromArrayLen"), (0, u "([BI)B"), (56, .class_ 109), (1, u "java/lang/StringLatin1"), (67, .methodref 42 178), (0, .nameAndType 45 179), (0, u "([CII)[B"), (361, .methodref 107 542), (0, .nameAndType 543 544), (0, u "equals"), (0, u "([B[B)Z"), (28, u "(Ljava/lang/Object;)Z"), (1, .class_ 576), (0, u "java/lang/CharSequence"), (22, u "CASE_INSENSITIVE_ORDER"), (0, u "Ljava/util/Comparator;"), (409, u "([C)V"), (90, u "serialPersistentFields"), (0, u "[Ljava/io/ObjectStreamField;"), (0, .class_ 1104), (0, u "java/lang/String$CaseInsensitiveComparator"), (1, .class_ 1107), (0, u "java/io/Serializable"), (0, .class_ 1109), (0, u "java/lang/Comparable"), (0, .class_ 1111), (0, u "java/lang/constant/Constable"), (0, .class_ 1113), (0, u "java/lang/constant/ConstantDesc"), (2, u "serialVersionUID"), (0, u "J"), (3, u "REPL"), (0, u "C"), (2, u "LATIN1"), (1, u "UTF16")] 323

def k7m0 : Method := { name := "<init>", desc := "()V", sig := { parameters := [], returnType := none }, accessFlags := 1, code := none }
def k7c1 : Code := { maxStack := 5, maxLocals := 2, code := jdk_42_method_3_code, exceptionTable := #[], attributes := #[] }
def k7m1 : Method := { name := "<init>", desc := "([C)V", sig := { parameters := [(.array .char)], returnType := none }, accessFlags := 1, code := some k7c1 }
def k7c2 : Code := { maxStack := 2, maxLocals := 3, code := jdk_42_method_66_code, exceptionTable := #[], attributes := #[] }
def k7m2 : Method := { name := "equals", desc := "(Ljava/lang/Object;)Z", sig := { parameters := [(.object "java/lang/Object")], returnType := some .boolean }, accessFlags := 1, code := some k7c2 }
def k7c3 : Code := { maxStack := 4, maxLocals := 6, code := jdk_42_method_149_code, exceptionTable := #[], attributes := #[] }
def k7m3 : Method := { name := "<init>", desc := "([CIILjava/lang/Void;)V", sig := { parameters := [(.array .char), .int, .int, (.object "java/lang/Void")], returnType := none }, accessFlags := 2, code := some k7c3 }
/-- java/lang/String -/
def k7 : Class := { plain "java/lang/String" (some 0) with
  accessFlags := 49
  interfaces := #[2, 3, 4, 5, 6]
  cf := some (fileOf pool7 10 #[.nestMembers #[1103]] #[{ accessFlags := 1, nameIndex := 5, descriptorIndex := 6, attributes := #[] }, { accessFlags := 1, nameIndex := 5, descriptorIndex := 1010, attributes := #[] }, { accessFlags := 1, nameIndex := 543, descriptorIndex := 573, attributes := #[] }, { accessFlags := 2, nameIndex := 5, descriptorIndex := 29, attributes := #[] }] 49 2 #[1106, 1108, 575, 1110, 1112] #[{ accessFlags := 18, nameIndex := 13, descriptorIndex := 14, attributes := #[] }, { accessFlags := 18, nameIndex := 17, descriptorIndex := 18, attributes := #[] }, { accessFlags := 2, nameIndex := 21, descriptorIndex := 22, attributes := #[] }, { accessFlags := 2, nameIndex := 25, descriptorIndex := 26, attributes := #[] }, { accessFlags := 26, nameIndex := 1116, descriptorIndex := 1117, attributes := #[] }, { accessFlags := 24, nameIndex := 40, descriptorIndex := 26, attributes := #[] }, { accessFlags := 26, nameIndex := 1101, descriptorIndex := 1102, attributes := #[] }, { accessFlags := 26, nameIndex := 1121, descriptorIndex := 1122, attributes := #[] }, { accessFlags := 25, nameIndex := 599, descriptorIndex := 600, attributes := #[] }, { accessFlags := 24, nameIndex := 1125, descriptorIndex := 18, attributes := #[] }, { accessFlags := 24, nameIndex := 1127, descriptorIndex := 18, attributes := #[] }])
  fields := #[{ name := "value", type := (.array .byte), accessFlags := 18, slot := 0, constantValue := 0 }, { name := "coder", type := .byte, accessFlags := 18, slot := 1, constantValue := 0 }, { name := "hash", type := .int, accessFlags := 2, slot := 2, constantValue := 0 }, { name := "hashIsZero", type := .boolean, accessFlags := 2, slot := 3, constantValue := 0 }, { name := "serialVersionUID", type := .long, accessFlags := 26, slot := 0, constantValue := 0 }, { name := "COMPACT_STRINGS", type := .boolean, accessFlags := 24, slot := 1, constantValue := 0 }, { name := "serialPersistentFields", type := (.array (.object "java/io/ObjectStreamField")), accessFlags := 26, slot := 2, constantValue := 0 }, { name := "REPL", type := .char, accessFlags := 26, slot := 3, constantValue := 0 }, { name := "CASE_INSENSITIVE_ORDER", type := (.object "java/util/Comparator"), accessFlags := 25, slot := 4, constantValue := 0 }, { name := "LATIN1", type := .byte, accessFlags := 24, slot := 5, constantValue := 0 }, { name := "UTF16", type := .byte, accessFlags := 24, slot := 6, constantValue := 0 }]
  methods := #[k7m0, k7m1, k7m2, k7m3]
  instanceTypes := #[(.array .byte), .byte, .int, .boolean]
  staticTypes := #[.long, .boolean, (.array (.object "java/io/ObjectStreamField")), .char, (.object "java/util/Comparator"), .byte, .byte]
  resolved := Array.replicate 1451 none
  statics := some 0 }

def pool8 : Array CpInfo := pool [(1, .methodref 2 3), (0, .class_ 4), (0, .nameAndType 5 6), (0, u "java/lang/Object"), (0, u "<init>"), (0, u "()V"), (0, .class_ 8), (0, u "java/lang/Record")] 13

def k8c0 : Code := { maxStack := 1, maxLocals := 1, code := jdk_30_method_1_code, exceptionTable := #[], attributes := #[] }
def k8m0 : Method := { name := "<init>", desc := "()V", sig := { parameters := [], returnType := none }, accessFlags := 4, code := some k8c0 }
/-- java/lang/Record -/
def k8 : Class := { plain "java/lang/Record" (some 0) with
  accessFlags := 1057
  interfaces := #[]
  cf := some (fileOf pool8 7 #[] #[{ accessFlags := 4, nameIndex := 5, descriptorIndex := 6, attributes := #[] }] 1057 2 #[] #[])
  fields := #[]
  methods := #[k8m0]
  instanceTypes := #[]
  staticTypes := #[]
  resolved := Array.replicate 22 none
  statics := none }

def pool9 : Array CpInfo := pool [(1, .methodref 2 3), (0, .class_ 4), (0, .nameAndType 5 6), (0, u "java/lang/Record"), (0, u "<init>"), (0, u "()V"), (0, .fieldref 8 9), (0, .class_ 10), (0, .nameAndType 11 12), (0, u "com/example/viitta/viitta/core/SafeXml$StartTag"), (0, u "namespace"), (0, u "Ljava/lang/String;"), (0, .fieldref 8 14), (0, .nameAndType 15 12), (0, u "qualifiedName"), (0, .fieldref 8 17), (0, .nameAndType 18 12), (0, u "localName"), (0, .fieldref 8 20), (0, .nameAndType 21 22), (0, u "namespaces"), (0, u "Ljava/util/List;"), (0, .fieldref 8 24), (0, .nameAndType 25 22), (0, u "attributes"), (0, .methodref 27 28), (0, .class_ 29), (0, .nameAndType 30 31), (0, u "java/lang/String"), (0, u "equals"), (0, u "(Ljava/lang/Object;)Z"), (1, .class_ 35), (1, u "com/example/viitta/viitta/core/SafeXml"), (15, u "(Ljava/lang/String;Ljava/lang/String;Ljava/lang/String;Ljava/util/List;Ljava/util/List;)V"), (4, u "is"), (0, u "(Ljava/lang/String;Ljava/lang/String;)Z")] 34

def k9c0 : Code := { maxStack := 2, maxLocals := 6, code := prog_9_method_1_code, exceptionTable := #[], attributes := #[] }
def k9m0 : Method := { name := "<init>", desc := "(Ljava/lang/String;Ljava/lang/String;Ljava/lang/String;Ljava/util/List;Ljava/util/List;)V", sig := { parameters := [(.object "java/lang/String"), (.object "java/lang/String"), (.object "java/lang/String"), (.object "java/util/List"), (.object "java/util/List")], returnType := none }, accessFlags := 1, code := some k9c0 }
def k9c1 : Code := { maxStack := 2, maxLocals := 3, code := prog_9_method_2_code, exceptionTable := #[], attributes := #[] }
def k9m1 : Method := { name := "is", desc := "(Ljava/lang/String;Ljava/lang/String;)Z", sig := { parameters := [(.object "java/lang/String"), (.object "java/lang/String")], returnType := some .boolean }, accessFlags := 1, code := some k9c1 }
/-- com/example/viitta/viitta/core/SafeXml$StartTag -/
def k9 : Class := { plain "com/example/viitta/viitta/core/SafeXml$StartTag" (some 8) with
  accessFlags := 49
  interfaces := #[]
  cf := some (fileOf pool9 8 #[.nestHost 33] #[{ accessFlags := 1, nameIndex := 5, descriptorIndex := 51, attributes := #[] }, { accessFlags := 1, nameIndex := 56, descriptorIndex := 57, attributes := #[] }] 49 2 #[] #[{ accessFlags := 18, nameIndex := 11, descriptorIndex := 12, attributes := #[] }, { accessFlags := 18, nameIndex := 15, descriptorIndex := 12, attributes := #[] }, { accessFlags := 18, nameIndex := 18, descriptorIndex := 12, attributes := #[] }, { accessFlags := 18, nameIndex := 21, descriptorIndex := 22, attributes := #[] }, { accessFlags := 18, nameIndex := 25, descriptorIndex := 22, attributes := #[] }])
  fields := #[{ name := "namespace", type := (.object "java/lang/String"), accessFlags := 18, slot := 0, constantValue := 0 }, { name := "qualifiedName", type := (.object "java/lang/String"), accessFlags := 18, slot := 1, constantValue := 0 }, { name := "localName", type := (.object "java/lang/String"), accessFlags := 18, slot := 2, constantValue := 0 }, { name := "namespaces", type := (.object "java/util/List"), accessFlags := 18, slot := 3, constantValue := 0 }, { name := "attributes", type := (.object "java/util/List"), accessFlags := 18, slot := 4, constantValue := 0 }]
  methods := #[k9m0, k9m1]
  instanceTypes := #[(.object "java/lang/String"), (.object "java/lang/String"), (.object "java/lang/String"), (.object "java/util/List"), (.object "java/util/List")]
  staticTypes := #[]
  resolved := Array.replicate 92 none
  statics := none }

def pool10 : Array CpInfo := pool [(8, .class_ 10), (1, u "java/lang/Iterable"), (24, .class_ 36), (0, u "java/lang/Object")] 25

/-- java/lang/Iterable -/
def k10 : Class := { plain "java/lang/Iterable" (some 0) with
  accessFlags := 1537
  interfaces := #[]
  cf := some (fileOf pool10 8 #[] #[] 1537 35 #[] #[])
  fields := #[]
  methods := #[]
  instanceTypes := #[]
  staticTypes := #[]
  resolved := Array.replicate 62 none
  statics := none }

def pool11 : Array CpInfo := pool [(10, .class_ 12), (1, u "java/util/Collection"), (47, .class_ 61), (0, u "java/lang/Object"), (0, .class_ 63), (0, u "java/lang/Iterable")] 51

/-- java/util/Collection -/
def k11 : Class := { plain "java/util/Collection" (some 0) with
  accessFlags := 1537
  interfaces := #[10]
  cf := some (fileOf pool11 10 #[] #[] 1537 60 #[62] #[])
  fields := #[]
  methods := #[]
  instanceTypes := #[]
  staticTypes := #[]
  resolved := Array.replicate 115 none
  statics := none }

def pool12 : Array CpInfo := pool [(1, .methodref 2 3), (0, .class_ 4), (0, .nameAndType 5 6), (0, u "java/lang/Object"), (0, u "<init>"), (0, u "()V"), (1, .class_ 10), (1, u "java/util/AbstractCollection"), (66, .class_ 78), (0, u "java/util/Collection")] 81

def k12c0 : Code := { maxStack := 1, maxLocals := 1, code := jdk_22_method_1_code, exceptionTable := #[], attributes := #[] }
def k12m0 : Method := { name := "<init>", desc := "()V", sig := { parameters := [], returnType := none }, accessFlags := 4, code := some k12c0 }
/-- java/util/AbstractCollection -/
def k12 : Class := { plain "java/util/AbstractCollection" (some 0) with
  accessFlags := 1057
  interfaces := #[11]
  cf := some (fileOf pool12 8 #[] #[{ accessFlags := 4, nameIndex := 5, descriptorIndex := 6, attributes := #[] }] 1057 2 #[77] #[])
  fields := #[]
  methods := #[k12m0]
  instanceTypes := #[]
  staticTypes := #[]
  resolved := Array.replicate 160 none
  statics := none }

def pool13 : Array CpInfo := pool [(8, .class_ 10), (1, u "java/util/SequencedCollection"), (15, .class_ 27), (0, u "java/lang/Object"), (0, .class_ 29), (0, u "java/util/Collection")] 27

/-- java/util/SequencedCollection -/
def k13 : Class := { plain "java/util/SequencedCollection" (some 0) with
  accessFlags := 1537
  interfaces := #[11]
  cf := some (fileOf pool13 8 #[] #[] 1537 26 #[28] #[])
  fields := #[]
  methods := #[]
  instanceTypes := #[]
  staticTypes := #[]
  resolved := Array.replicate 57 none
  statics := none }

def pool14 : Array CpInfo := pool [(8, .class_ 10), (1, u "java/util/List"), (92, .class_ 104), (0, u "java/lang/Object"), (15, .class_ 121), (0, u "java/util/SequencedCollection")] 129

/-- java/util/List -/
def k14 : Class := { plain "java/util/List" (some 0) with
  accessFlags := 1537
  interfaces := #[13]
  cf := some (fileOf pool14 8 #[] #[] 1537 103 #[120] #[])
  fields := #[]
  methods := #[]
  instanceTypes := #[]
  staticTypes := #[]
  resolved := Array.replicate 251 none
  statics := none }

def pool15 : Array CpInfo := pool [(1, .methodref 2 3), (0, .class_ 4), (0, .nameAndType 5 6), (0, u "java/util/AbstractCollection"), (0, u "<init>"), (0, u "()V"), (0, .fieldref 8 9), (0, .class_ 10), (0, .nameAndType 11 12), (0, u "java/util/AbstractList"), (0, u "modCount"), (0, u "I"), (64, .class_ 78), (0, u "java/util/AbstractList$Itr"), (3, .class_ 83), (0, u "java/util/AbstractList$ListItr"), (9, .class_ 94), (0, u "java/util/AbstractList$RandomAccessSubList"), (3, .class_ 99), (0, u "java/util/AbstractList$SubList"), (33, .class_ 134), (0, u "java/util/List"), (73, .class_ 209), (0, u "java/util/AbstractList$SubList$1"), (0, .class_ 211), (0, u "java/util/AbstractList$RandomAccessSpliterator")] 6

def k15c0 : Code := { maxStack := 2, maxLocals := 1, code := jdk_39_method_1_code, exceptionTable := #[], attributes := #[] }
def k15m0 : Method := { name := "<init>", desc := "()V", sig := { parameters := [], returnType := none }, accessFlags := 4, code := some k15c0 }
/-- java/util/AbstractList -/
def k15 : Class := { plain "java/util/AbstractList" (some 12) with
  accessFlags := 1057
  interfaces := #[14]
  cf := some (fileOf pool15 8 #[.nestMembers #[93, 98, 208, 210, 82, 77]] #[{ accessFlags := 4, nameIndex := 5, descriptorIndex := 6, attributes := #[] }] 1057 2 #[133] #[{ accessFlags := 132, nameIndex := 11, descriptorIndex := 12, attributes := #[] }])
  fields := #[{ name := "modCount", type := .int, accessFlags := 132, slot := 0, constantValue := 0 }]
  methods := #[k15m0]
  instanceTypes := #[.int]
  staticTypes := #[]
  resolved := Array.replicate 218 none
  statics := none }

def pool16 : Array CpInfo := pool [(1, .class_ 2), (0, u "java/util/RandomAccess"), (0, .class_ 4), (0, u "java/lang/Object")] 2

/-- java/util/RandomAccess -/
def k16 : Class := { plain "java/util/RandomAccess" (some 0) with
  accessFlags := 1537
  interfaces := #[]
  cf := some (fileOf pool16 1 #[] #[] 1537 3 #[] #[])
  fields := #[]
  methods := #[]
  instanceTypes := #[]
  staticTypes := #[]
  resolved := Array.replicate 7 none
  statics := none }

def pool17 : Array CpInfo := pool [(1, .class_ 2), (0, u "java/lang/Cloneable"), (0, .class_ 4), (0, u "java/lang/Object")] 2

/-- java/lang/Cloneable -/
def k17 : Class := { plain "java/lang/Cloneable" (some 0) with
  accessFlags := 1537
  interfaces := #[]
  cf := some (fileOf pool17 1 #[] #[] 1537 3 #[] #[])
  fields := #[]
  methods := #[]
  instanceTypes := #[]
  staticTypes := #[]
  resolved := Array.replicate 7 none
  statics := none }

def pool18 : Array CpInfo := pool [(1, .methodref 2 3), (0, .class_ 4), (0, .nameAndType 5 6), (0, u "java/util/AbstractList"), (0, u "<init>"), (0, u "()V"), (2, .fieldref 10 11), (0, .class_ 12), (0, .nameAndType 13 14), (0, u "java/util/ArrayList"), (0, u "elementData"), (0, u "[Ljava/lang/Object;"), (2, u "EMPTY_ELEMENTDATA"), (21, .fieldref 10 40), (0, .nameAndType 41 14), (0, u "DEFAULTCAPACITY_EMPTY_ELEMENTDATA"), (8, u "size"), (0, u "I"), (96, .class_ 149), (0, u "java/util/List"), (112, .class_ 263), (0, u "java/util/ArrayList$ListItr"), (3, .class_ 268), (0, u "java/util/ArrayList$Itr"), (7, .class_ 277), (0, u "java/util/ArrayList$SubList"), (12, .class_ 291), (0, u "java/util/ArrayList$ArrayListSpliterator"), (37, .class_ 330), (0, u "java/util/RandomAccess"), (0, .class_ 332), (0, u "java/lang/Cloneable"), (0, .class_ 334), (0, u "java/io/Serializable"), (0, u "serialVersionUID"), (0, u "J"), (3, u "DEFAULT_CAPACITY"), (159, .class_ 501), (0, u "java/util/ArrayList$SubList$2"), (0, .class_ 503), (0, u "java/util/ArrayList$SubList$1")] 5

def k18c0 : Code := { maxStack := 2, maxLocals := 1, code := jdk_38_method_2_code, exceptionTable := #[], attributes := #[] }
def k18m0 : Method := { name := "<init>", desc := "()V", sig := { parameters := [], returnType := none }, accessFlags := 1, code := some k18c0 }
/-- java/util/ArrayList -/
def k18 : Class := { plain "java/util/ArrayList" (some 15) with
  accessFlags := 33
  interfaces := #[14, 16, 17, 2]
  cf := some (fileOf pool18 10 #[.nestMembers #[290, 276, 500, 502, 262, 267]] #[{ accessFlags := 1, nameIndex := 5, descriptorIndex := 6, attributes := #[] }] 33 2 #[148, 329, 331, 333] #[{ accessFlags := 26, nameIndex := 335, descriptorIndex := 336, attributes := #[] }, { accessFlags := 26, nameIndex := 340, descriptorIndex := 51, attributes := #[] }, { accessFlags := 26, nameIndex := 17, descriptorIndex := 14, attributes := #[] }, { accessFlags := 26, nameIndex := 41, descriptorIndex := 14, attributes := #[] }, { accessFlags := 128, nameIndex := 13, descriptorIndex := 14, attributes := #[] }, { accessFlags := 2, nameIndex := 50, descriptorIndex := 51, attributes := #[] }])
  fields := #[{ name := "serialVersionUID", type := .long, accessFlags := 26, slot := 0, constantValue := 0 }, { name := "DEFAULT_CAPACITY", type := .int, accessFlags := 26, slot := 1, constantValue := 0 }, { name := "EMPTY_ELEMENTDATA", type := (.array (.object "java/lang/Object")), accessFlags := 26, slot := 2, constantValue := 0 }, { name := "DEFAULTCAPACITY_EMPTY_ELEMENTDATA", type := (.array (.object "java/lang/Object")), accessFlags := 26, slot := 3, constantValue := 0 }, { name := "elementData", type := (.array (.object "java/lang/Object")), accessFlags := 128, slot := 1, constantValue := 0 }, { name := "size", type := .int, accessFlags := 2, slot := 2, constantValue := 0 }]
  methods := #[k18m0]
  instanceTypes := #[.int, (.array (.object "java/lang/Object")), .int]
  staticTypes := #[.long, .int, (.array (.object "java/lang/Object")), (.array (.object "java/lang/Object"))]
  resolved := Array.replicate 509 none
  statics := some 1 }

def pool19 : Array CpInfo := pool [(4, .class_ 6), (1, u "java/lang/Object"), (0, u "<init>"), (0, u "()V"), (5, .class_ 16), (1, u "java/lang/StringLatin1"), (104, u "$assertionsDisabled"), (0, u "Z"), (98, .class_ 223), (1, u "java/lang/StringLatin1$LinesSpliterator"), (57, u "equals"), (0, u "([B[B)Z"), (107, .class_ 391), (0, u "java/lang/StringLatin1$CharsSpliterator")] 3

def k19m0 : Method := { name := "<init>", desc := "()V", sig := { parameters := [], returnType := none }, accessFlags := 0, code := none }
def k19c1 : Code := { maxStack := 3, maxLocals := 3, code := jdk_43_method_13_code, exceptionTable := #[], attributes := #[] }
def k19m1 : Method := { name := "equals", desc := "([B[B)Z", sig := { parameters := [(.array .byte), (.array .byte)], returnType := some .boolean }, accessFlags := 9, code := some k19c1 }
/-- java/lang/StringLatin1 -/
def k19 : Class := { plain "java/lang/StringLatin1" (some 0) with
  accessFlags := 48
  interfaces := #[]
  cf := some (fileOf pool19 14 #[.nestMembers #[390, 221]] #[{ accessFlags := 0, nameIndex := 7, descriptorIndex := 8, attributes := #[] }, { accessFlags := 9, nameIndex := 281, descriptorIndex := 282, attributes := #[] }] 48 4 #[] #[{ accessFlags := 4120, nameIndex := 121, descriptorIndex := 122, attributes := #[] }])
  fields := #[{ name := "$assertionsDisabled", type := .boolean, accessFlags := 4120, slot := 0, constantValue := 0 }]
  methods := #[k19m0, k19m1]
  instanceTypes := #[]
  staticTypes := #[.boolean]
  resolved := Array.replicate 395 none
  statics := none }

def pool20 : Array CpInfo := pool [(6, .class_ 8), (1, u "java/lang/Object"), (0, u "<init>"), (0, u "()V"), (1, .class_ 14), (1, u "java/lang/StringUTF16"), (31, u "$assertionsDisabled"), (0, u "Z"), (13, u "HI_BYTE_SHIFT"), (0, u "I"), (2, u "LO_BYTE_SHIFT"), (49, .methodref 12 116), (0, .nameAndType 117 118), (0, u "compress"), (0, u "([CI[BII)I"), (3, u "([CII)[B"), (138, u "coderFromArrayLen"), (0, u "([BI)B"), (106, .class_ 371), (1, u "java/lang/StringUTF16$LinesSpliterator"), (58, u "MAX_LENGTH"), (196, .class_ 628), (0, u "java/lang/StringUTF16$CodePointsSpliterator"), (0, .class_ 630), (0, u "java/lang/StringUTF16$CharsSpliterator")] 4

def k20m0 : Method := { name := "<init>", desc := "()V", sig := { parameters := [], returnType := none }, accessFlags := 0, code := none }
def k20c1 : Code := { maxStack := 2, maxLocals := 2, code := jdk_52_method_15_code, exceptionTable := #[], attributes := #[] }
def k20m1 : Method := { name := "coderFromArrayLen", desc := "([BI)B", sig := { parameters := [(.array .byte), .int], returnType := some .byte }, accessFlags := 8, code := some k20c1 }
def k20c2 : Code := { maxStack := 5, maxLocals := 6, code := jdk_52_method_16_code, exceptionTable := #[], attributes := #[] }
def k20m2 : Method := { name := "compress", desc := "([CII)[B", sig := { parameters := [(.array .char), .int, .int], returnType := some (.array .byte) }, accessFlags := 9, code := some k20c2 }
def k20c3 : Code := { maxStack := 3, maxLocals := 7, code := jdk_52_method_21_code, exceptionTable := #[], attributes := #[] }
def k20m3 : Method := { name := "compress", desc := "([CI[BII)I", sig := { parameters := [(.array .char), .int, (.array .byte), .int, .int], returnType := some .int }, accessFlags := 9, code := some k20c3 }
/-- java/lang/StringUTF16 -/
def k20 : Class := { plain "java/lang/StringUTF16" (some 0) with
  accessFlags := 48
  interfaces := #[]
  cf := some (fileOf pool20 12 #[.nestMembers #[627, 629, 369]] #[{ accessFlags := 0, nameIndex := 9, descriptorIndex := 10, attributes := #[] }, { accessFlags := 8, nameIndex := 261, descriptorIndex := 262, attributes := #[] }, { accessFlags := 9, nameIndex := 117, descriptorIndex := 122, attributes := #[] }, { accessFlags := 9, nameIndex := 117, descriptorIndex := 118, attributes := #[] }] 48 6 #[] #[{ accessFlags := 26, nameIndex := 61, descriptorIndex := 62, attributes := #[] }, { accessFlags := 26, nameIndex := 65, descriptorIndex := 62, attributes := #[] }, { accessFlags := 24, nameIndex := 430, descriptorIndex := 62, attributes := #[] }, { accessFlags := 4120, nameIndex := 46, descriptorIndex := 47, attributes := #[] }])
  fields := #[{ name := "HI_BYTE_SHIFT", type := .int, accessFlags := 26, slot := 0, constantValue := 0 }, { name := "LO_BYTE_SHIFT", type := .int, accessFlags := 26, slot := 1, constantValue := 0 }, { name := "MAX_LENGTH", type := .int, accessFlags := 24, slot := 2, constantValue := 0 }, { name := "$assertionsDisabled", type := .boolean, accessFlags := 4120, slot := 3, constantValue := 0 }]
  methods := #[k20m0, k20m1, k20m2, k20m3]
  instanceTypes := #[]
  staticTypes := #[.int, .int, .int, .boolean]
  resolved := Array.replicate 635 none
  statics := none }

def pool21 : Array CpInfo := pool [(2, .class_ 4), (1, u "java/lang/Object"), (0, u "<init>"), (0, u "()V"), (17, .class_ 26), (1, u "jdk/internal/util/Preconditions"), (28, .class_ 56), (0, u "jdk/internal/util/Preconditions$4"), (57, .class_ 115), (0, u "jdk/internal/util/Preconditions$1"), (7, u "SIOOBE_FORMATTER"), (0, u "Ljava/util/function/BiFunction;"), (0, .class_ 126), (0, u "jdk/internal/util/Preconditions$2"), (3, u "AIOOBE_FORMATTER"), (0, .class_ 132), (0, u "jdk/internal/util/Preconditions$3"), (3, u "IOOBE_FORMATTER")] 57

def k21m0 : Method := { name := "<init>", desc := "()V", sig := { parameters := [], returnType := none }, accessFlags := 1, code := none }
/-- jdk/internal/util/Preconditions -/
def k21 : Class := { plain "jdk/internal/util/Preconditions" (some 0) with
  accessFlags := 33
  interfaces := #[]
  cf := some (fileOf pool21 24 #[.nestMembers #[55, 131, 125, 114]] #[{ accessFlags := 1, nameIndex := 5, descriptorIndex := 6, attributes := #[] }] 33 2 #[] #[{ accessFlags := 25, nameIndex := 123, descriptorIndex := 124, attributes := #[] }, { accessFlags := 25, nameIndex := 130, descriptorIndex := 124, attributes := #[] }, { accessFlags := 25, nameIndex := 136, descriptorIndex := 124, attributes := #[] }])
  fields := #[{ name := "SIOOBE_FORMATTER", type := (.object "java/util/function/BiFunction"), accessFlags := 25, slot := 0, constantValue := 0 }, { name := "AIOOBE_FORMATTER", type := (.object "java/util/function/BiFunction"), accessFlags := 25, slot := 1, constantValue := 0 }, { name := "IOOBE_FORMATTER", type := (.object "java/util/function/BiFunction"), accessFlags := 25, slot := 2, constantValue := 0 }]
  methods := #[k21m0]
  instanceTypes := #[]
  staticTypes := #[(.object "java/util/function/BiFunction"), (.object "java/util/function/BiFunction"), (.object "java/util/function/BiFunction")]
  resolved := Array.replicate 194 none
  statics := some 2 }

def pool22 : Array CpInfo := pool [(9, u "<init>"), (6, .class_ 18), (1, u "java/lang/Object"), (0, u "()V"), (1, .class_ 23), (1, u "jdk/internal/util/ArraysSupport"), (0, u "LOG2_ARRAY_LONG_INDEX_SCALE"), (0, u "I"), (2, u "U"), (0, u "Ljdk/internal/misc/Unsafe;"), (8, u "BIG_ENDIAN"), (0, u "Z"), (8, u "LOG2_BYTE_BIT_SIZE"), (4, u "LOG2_ARRAY_INT_INDEX_SCALE"), (54, u "JLA"), (0, u "Ljdk/internal/access/JavaLangAccess;"), (11, u "LOG2_ARRAY_BOOLEAN_INDEX_SCALE"), (9, u "LOG2_ARRAY_BYTE_INDEX_SCALE"), (5, u "LOG2_ARRAY_CHAR_INDEX_SCALE"), (5, u "LOG2_ARRAY_SHORT_INDEX_SCALE"), (18, u "LOG2_ARRAY_FLOAT_INDEX_SCALE"), (24, u "LOG2_ARRAY_DOUBLE_INDEX_SCALE"), (89, u "T_BOOLEAN"), (2, u "T_CHAR"), (1, u "T_FLOAT"), (1, u "T_DOUBLE"), (1, u "T_BYTE"), (1, u "T_SHORT"), (1, u "T_INT"), (1, u "T_LONG"), (1, u "SOFT_MAX_ARRAY_LENGTH")] 83

def k22m0 : Method := { name := "<init>", desc := "()V", sig := { parameters := [], returnType := none }, accessFlags := 2, code := none }
/-- jdk/internal/util/ArraysSupport -/
def k22 : Class := { plain "jdk/internal/util/ArraysSupport" (some 0) with
  accessFlags := 33
  interfaces := #[]
  cf := some (fileOf pool22 21 #[] #[{ accessFlags := 2, nameIndex := 9, descriptorIndex := 19, attributes := #[] }] 33 16 #[] #[{ accessFlags := 24, nameIndex := 28, descriptorIndex := 29, attributes := #[] }, { accessFlags := 26, nameIndex := 38, descriptorIndex := 39, attributes := #[] }, { accessFlags := 25, nameIndex := 121, descriptorIndex := 25, attributes := #[] }, { accessFlags := 25, nameIndex := 131, descriptorIndex := 25, attributes := #[] }, { accessFlags := 25, nameIndex := 137, descriptorIndex := 25, attributes := #[] }, { accessFlags := 25, nameIndex := 143, descriptorIndex := 25, attributes := #[] }, { accessFlags := 25, nameIndex := 53, descriptorIndex := 25, attributes := #[] }, { accessFlags := 25, nameIndex := 24, descriptorIndex := 25, attributes := #[] }, { accessFlags := 25, nameIndex := 162, descriptorIndex := 25, attributes := #[] }, { accessFlags := 25, nameIndex := 187, descriptorIndex := 25, attributes := #[] }, { accessFlags := 26, nameIndex := 48, descriptorIndex := 25, attributes := #[] }, { accessFlags := 25, nameIndex := 277, descriptorIndex := 25, attributes := #[] }, { accessFlags := 25, nameIndex := 280, descriptorIndex := 25, attributes := #[] }, { accessFlags := 25, nameIndex := 282, descriptorIndex := 25, attributes := #[] }, { accessFlags := 25, nameIndex := 284, descriptorIndex := 25, attributes := #[] }, { accessFlags := 25, nameIndex := 286, descriptorIndex := 25, attributes := #[] }, { accessFlags := 25, nameIndex := 288, descriptorIndex := 25, attributes := #[] }, { accessFlags := 25, nameIndex := 290, descriptorIndex := 25, attributes := #[] }, { accessFlags := 25, nameIndex := 292, descriptorIndex := 25, attributes := #[] }, { accessFlags := 26, nameIndex := 108, descriptorIndex := 109, attributes := #[] }, { accessFlags := 25, nameIndex := 294, descriptorIndex := 25, attributes := #[] }])
  fields := #[{ name := "U", type := (.object "jdk/internal/misc/Unsafe"), accessFlags := 24, slot := 0, constantValue := 0 }, { name := "BIG_ENDIAN", type := .boolean, accessFlags := 26, slot := 1, constantValue := 0 }, { name := "LOG2_ARRAY_BOOLEAN_INDEX_SCALE", type := .int, accessFlags := 25, slot := 2, constantValue := 0 }, { name := "LOG2_ARRAY_BYTE_INDEX_SCALE", type := .int, accessFlags := 25, slot := 3, constantValue := 0 }, { name := "LOG2_ARRAY_CHAR_INDEX_SCALE", type := .int, accessFlags := 25, slot := 4, constantValue := 0 }, { name := "LOG2_ARRAY_SHORT_INDEX_SCALE", type := .int, accessFlags := 25, slot := 5, constantValue := 0 }, { name := "LOG2_ARRAY_INT_INDEX_SCALE", type := .int, accessFlags := 25, slot := 6, constantValue := 0 }, { name := "LOG2_ARRAY_LONG_INDEX_SCALE", type := .int, accessFlags := 25, slot := 7, constantValue := 0 }, { name := "LOG2_ARRAY_FLOAT_INDEX_SCALE", type := .int, accessFlags := 25, slot := 8, constantValue := 0 }, { name := "LOG2_ARRAY_DOUBLE_INDEX_SCALE", type := .int, accessFlags := 25, slot := 9, constantValue := 0 }, { name := "LOG2_BYTE_BIT_SIZE", type := .int, accessFlags := 26, slot := 10, constantValue := 0 }, { name := "T_BOOLEAN", type := .int, accessFlags := 25, slot := 11, constantValue := 0 }, { name := "T_CHAR", type := .int, accessFlags := 25, slot := 12, constantValue := 0 }, { name := "T_FLOAT", type := .int, accessFlags := 25, slot := 13, constantValue := 0 }, { name := "T_DOUBLE", type := .int, accessFlags := 25, slot := 14, constantValue := 0 }, { name := "T_BYTE", type := .int, accessFlags := 25, slot := 15, constantValue := 0 }, { name := "T_SHORT", type := .int, accessFlags := 25, slot := 16, constantValue := 0 }, { name := "T_INT", type := .int, accessFlags := 25, slot := 17, constantValue := 0 }, { name := "T_LONG", type := .int, accessFlags := 25, slot := 18, constantValue := 0 }, { name := "JLA", type := (.object "jdk/internal/access/JavaLangAccess"), accessFlags := 26, slot := 19, constantValue := 0 }, { name := "SOFT_MAX_ARRAY_LENGTH", type := .int, accessFlags := 25, slot := 20, constantValue := 0 }]
  methods := #[k22m0]
  instanceTypes := #[]
  staticTypes := #[(.object "jdk/internal/misc/Unsafe"), .boolean, .int, .int, .int, .int, .int, .int, .int, .int, .int, .int, .int, .int, .int, .int, .int, .int, .int, (.object "jdk/internal/access/JavaLangAccess"), .int]
  resolved := Array.replicate 378 none
  statics := none }

/-- the primitive byte -/
def k23 : Class := { plain "byte" none with kind := .primitive 'B', accessFlags := 0x411 }
/-- [B -/
def k24 : Class := { plain "[B" (some 0) with kind := .array 23 .byte, interfaces := #[17, 2], accessFlags := 1041 }

/-- the primitive char -/
def k25 : Class := { plain "char" none with kind := .primitive 'C', accessFlags := 0x411 }
/-- [C -/
def k26 : Class := { plain "[C" (some 0) with kind := .array 25 .char, interfaces := #[17, 2], accessFlags := 1041 }

/-- the primitive int -/
def k27 : Class := { plain "int" none with kind := .primitive 'I', accessFlags := 0x411 }
/-- [I -/
def k28 : Class := { plain "[I" (some 0) with kind := .array 27 .int, interfaces := #[17, 2], accessFlags := 1041 }

/-- [Ljava/lang/Object; -/
def k29 : Class := { plain "[Ljava/lang/Object;" (some 0) with kind := .array 0 (.object "java/lang/Object"), interfaces := #[17, 2], accessFlags := 1041 }

def heap : Heap := #[{ cls := 7, slots := #[.long 0, .int 1, .null, .int 0, .null, .int 0, .int 0], vm := .statics 7 },
  { cls := 18, slots := #[.long 0, .int 0, .ref 3, .ref 4], vm := .statics 18 },
  { cls := 21, slots := #[.null, .null, .null], vm := .statics 21 },
  { cls := 29, slots := #[], vm := .none },
  { cls := 29, slots := #[], vm := .none }]
def classes : Array Class := #[k0, k1, k2, k3, k4, k5, k6, k7, k8, k9, k10, k11, k12, k13, k14, k15, k16, k17, k18, k19, k20, k21, k22, k23, k24, k25, k26, k27, k28, k29]
def interned : List (Array UInt16 × Addr) := []
def slotsUsed : Nat := 14
def theMethod : MethodId := ⟨1, 1⟩
def args0 : Array Value := #[.int 1, .int 7, .int 1, .int 9, .int 11]
def aboutOver (below : List Frame) : State where
  vm := { classes := classes, interned := interned.toArray }
  heap := heap
  slotsUsed := slotsUsed
  threads := #[{ frames := .invoking theMethod args0 :: below }]
def below0 : List Frame := [.native { method := ⟨0, 0⟩, args := #[] }]
def about1 : State := aboutOver below0
def p0 : Program := .bare "" "" ""
def e0 : Env := launch0.env 0 0 0
theorem w_frames : about1.frames = Frame.invoking theMethod args0 :: below0 := rfl
set_option maxRecDepth 65536 in
theorem w_args : argsFit about1.vm theMethod args0 = true := by decide +kernel
set_option maxRecDepth 65536 in
theorem w_heap : heapFits about1 = true := by decide +kernel
set_option maxRecDepth 65536 in
theorem w_runnable : about1.curStatus? = some .runnable := by decide +kernel
set_option maxRecDepth 65536 in
theorem w_alone : about1.alone = true := by decide +kernel
set_option maxRecDepth 65536 in
theorem w_named : about1.methodNamed? x = some theMethod := by decide +kernel
set_option maxRecDepth 65536 in
theorem w_hears : about1.hears theMethod below0 = true := by decide +kernel
set_option maxRecDepth 65536 in
theorem w_ripe : about1.ripe theMethod args0 below0 = true := by decide +kernel
theorem w_running : about1.status = .running := rfl
set_option maxRecDepth 65536 in
theorem w_room : about1.hasRoom e0.platform room_1 = true :=
  launch0.hasRoom_least _ room_1 (by decide +kernel) (by decide +kernel) (by decide +kernel) (by decide +kernel) (by decide +kernel) (by decide +kernel)
theorem allAtoms_all (ts : List Jvm.Cond) (a : Array Jvm.Value) (st : Jvm.State) : (allAtoms ts).before a st = ts.all (fun c => c.before a st) := by
  induction ts with
  | nil => rfl
  | cons c t ih =>
    show (Jvm.Cond.and c (allAtoms t)).before a st = _
    rw [Jvm.Cond.before_and, ih, List.all_cons]
def words1 : List Jvm.Cond := Jvm.Cond.code x code maxLocals ret :: tables_1
/-- a 'code' word, met by the world's own term for the bytes: nothing is compared byte by byte -/
theorem code_word {y : MethodName} {bytes : ByteArray} {mx : Nat} {rt : Option FieldType} {a : Array Value} {s : State} {m : MethodId} {meth : Method} {c : Code} (h1 : s.methodNamed? y = some m) (h2 : s.vm.method? m = some meth) (h3 : meth.code = some c) (h4 : c.code = bytes)
    (h5 : (c.maxLocals == mx && c.exceptionTable.isEmpty && decide (c.maxStack ≤ mostOperands) && decide (meth.sig.returnType = rt) && !meth.locks && decide (parseMethodDescriptor y.desc = some meth.sig)) = true) : (Jvm.Cond.code y bytes mx rt).before a s = true := by
  simp only [Bool.and_eq_true, beq_iff_eq, Bool.not_eq_true', decide_eq_true_eq] at h5
  obtain ⟨⟨⟨⟨⟨g1, g2⟩, g3⟩, g4⟩, g5⟩, g6⟩ := h5
  simp [Cond.before, Cond.holds, Cond.value, h1, h2, h3, h4, g1, g2, g3, g4, g5, g6]
def isCode : Jvm.Cond → Bool
  | .code _ _ _ _ => true
  | _ => false
theorem all_split {L : List Jvm.Cond} {P : Jvm.Cond → Bool} (h1 : L.all (fun c => isCode c || P c) = true) (h2 : ∀ c ∈ L.filter isCode, P c = true) : L.all P = true := by
  refine List.all_eq_true.mpr fun c hc => ?_
  have h := List.all_eq_true.mp h1 c hc
  rcases Bool.eq_false_or_eq_true (isCode c) with hi | hi
  · exact h2 c (List.mem_filter.mpr ⟨hc, hi⟩)
  · simpa [hi] using h
set_option maxRecDepth 65536 in
theorem w_c0 : (Jvm.Cond.code x code maxLocals ret).before args0 about1 = true := code_word (m := ⟨1, 1⟩) (meth := k1m1) (c := k1c1) (by decide +kernel) rfl rfl rfl (by decide +kernel)
set_option maxRecDepth 65536 in
theorem w_c1 : (Jvm.Cond.code ({ cls := "com/example/viitta/viitta/core/SafeXmlStartTagIsPinLaw", name := "mk", desc := "(I)Ljava/lang/String;" } : Jvm.MethodName) method_5_code (3 : Nat) (Option.some (Jvm.ClassFile.FieldType.object "java/lang/String"))).before args0 about1 = true := code_word (m := ⟨1, 4⟩) (meth := k1m4) (c := k1c4) (by decide +kernel) rfl rfl rfl (by decide +kernel)
set_option maxRecDepth 65536 in
theorem w_c2 : (Jvm.Cond.code ({ cls := "com/example/viitta/viitta/core/SafeXmlStartTagIsPinLaw", name := "len", desc := "(I)I" } : Jvm.MethodName) method_3_code (1 : Nat) (Option.some Jvm.ClassFile.FieldType.int)).before args0 about1 = true := code_word (m := ⟨1, 2⟩) (meth := k1m2) (c := k1c2) (by decide +kernel) rfl rfl rfl (by decide +kernel)
set_option maxRecDepth 65536 in
theorem w_c3 : (Jvm.Cond.code ({ cls := "java/lang/String", name := "<init>", desc := "([C)V" } : Jvm.MethodName) jdk_42_method_3_code (2 : Nat) (Option.none : Option Jvm.ClassFile.FieldType)).before args0 about1 = true := code_word (m := ⟨7, 1⟩) (meth := k7m1) (c := k7c1) (by decide +kernel) rfl rfl rfl (by decide +kernel)
set_option maxRecDepth 65536 in
theorem w_c4 : (Jvm.Cond.code ({ cls := "java/lang/String", name := "<init>", desc := "([CIILjava/lang/Void;)V" } : Jvm.MethodName) jdk_42_method_149_code (6 : Nat) (Option.none : Option Jvm.ClassFile.FieldType)).before args0 about1 = true := code_word (m := ⟨7, 3⟩) (meth := k7m3) (c := k7c3) (by decide +kernel) rfl rfl rfl (by decide +kernel)
set_option maxRecDepth 65536 in
theorem w_c5 : (Jvm.Cond.code ({ cls := "java/lang/Object", name := "<init>", desc := "()V" } : Jvm.MethodName) object_method_1_code (1 : Nat) (Option.none : Option Jvm.ClassFile.FieldType)).before args0 about1 = true := code_word (m := ⟨0, 0⟩) (meth := k0m0) (c := k0c0) (by decide +kernel) rfl rfl rfl (by decide +kernel)
set_option maxRecDepth 65536 in
theorem w_c6 : (Jvm.Cond.code ({ cls := "java/util/ArrayList", name := "<init>", desc := "()V" } : Jvm.MethodName) jdk_38_method_2_code (1 : Nat) (Option.none : Option Jvm.ClassFile.FieldType)).before args0 about1 = true := code_word (m := ⟨18, 0⟩) (meth := k18m0) (c := k18c0) (by decide +kernel) rfl rfl rfl (by decide +kernel)
set_option maxRecDepth 65536 in
theorem w_c7 : (Jvm.Cond.code ({ cls := "java/util/AbstractList", name := "<init>", desc := "()V" } : Jvm.MethodName) jdk_39_method_1_code (1 : Nat) (Option.none : Option Jvm.ClassFile.FieldType)).before args0 about1 = true := code_word (m := ⟨15, 0⟩) (meth := k15m0) (c := k15c0) (by decide +kernel) rfl rfl rfl (by decide +kernel)
set_option maxRecDepth 65536 in
theorem w_c8 : (Jvm.Cond.code ({ cls := "java/util/AbstractCollection", name := "<init>", desc := "()V" } : Jvm.MethodName) jdk_22_method_1_code (1 : Nat) (Option.none : Option Jvm.ClassFile.FieldType)).before args0 about1 = true := code_word (m := ⟨12, 0⟩) (meth := k12m0) (c := k12c0) (by decide +kernel) rfl rfl rfl (by decide +kernel)
set_option maxRecDepth 65536 in
theorem w_c9 : (Jvm.Cond.code ({ cls := "com/example/viitta/viitta/core/SafeXml$StartTag", name := "<init>", desc := "(Ljava/lang/String;Ljava/lang/String;Ljava/lang/String;Ljava/util/List;Ljava/util/List;)V" } : Jvm.MethodName) prog_9_method_1_code (6 : Nat) (Option.none : Option Jvm.ClassFile.FieldType)).before args0 about1 = true := code_word (m := ⟨9, 0⟩) (meth := k9m0) (c := k9c0) (by decide +kernel) rfl rfl rfl (by decide +kernel)
set_option maxRecDepth 65536 in
theorem w_c10 : (Jvm.Cond.code ({ cls := "java/lang/Record", name := "<init>", desc := "()V" } : Jvm.MethodName) jdk_30_method_1_code (1 : Nat) (Option.none : Option Jvm.ClassFile.FieldType)).before args0 about1 = true := code_word (m := ⟨8, 0⟩) (meth := k8m0) (c := k8c0) (by decide +kernel) rfl rfl rfl (by decide +kernel)
set_option maxRecDepth 65536 in
theorem w_c11 : (Jvm.Cond.code ({ cls := "com/example/viitta/viitta/core/SafeXmlStartTagIsPinLaw", name := "same", desc := "(II)Z" } : Jvm.MethodName) method_6_code (3 : Nat) (Option.some Jvm.ClassFile.FieldType.boolean)).before args0 about1 = true := code_word (m := ⟨1, 5⟩) (meth := k1m5) (c := k1c5) (by decide +kernel) rfl rfl rfl (by decide +kernel)
set_option maxRecDepth 65536 in
theorem w_c12 : (Jvm.Cond.code ({ cls := "com/example/viitta/viitta/core/SafeXml$StartTag", name := "is", desc := "(Ljava/lang/String;Ljava/lang/String;)Z" } : Jvm.MethodName) prog_9_method_2_code (3 : Nat) (Option.some Jvm.ClassFile.FieldType.boolean)).before args0 about1 = true := code_word (m := ⟨9, 1⟩) (meth := k9m1) (c := k9c1) (by decide +kernel) rfl rfl rfl (by decide +kernel)
set_option maxRecDepth 65536 in
theorem w_c13 : (Jvm.Cond.code ({ cls := "java/lang/String", name := "equals", desc := "(Ljava/lang/Object;)Z" } : Jvm.MethodName) jdk_42_method_66_code (3 : Nat) (Option.some Jvm.ClassFile.FieldType.boolean)).before args0 about1 = true := code_word (m := ⟨7, 2⟩) (meth := k7m2) (c := k7c2) (by decide +kernel) rfl rfl rfl (by decide +kernel)
set_option maxRecDepth 65536 in
theorem w_c14 : (Jvm.Cond.code ({ cls := "java/lang/StringLatin1", name := "equals", desc := "([B[B)Z" } : Jvm.MethodName) jdk_43_method_13_code (3 : Nat) (Option.some Jvm.ClassFile.FieldType.boolean)).before args0 about1 = true := code_word (m := ⟨19, 1⟩) (meth := k19m1) (c := k19c1) (by decide +kernel) rfl rfl rfl (by decide +kernel)
set_option maxRecDepth 65536 in
theorem w_c15 : (Jvm.Cond.code ({ cls := "com/example/viitta/viitta/core/SafeXmlStartTagIsPinLaw", name := "ch", desc := "(II)C" } : Jvm.MethodName) method_4_code (2 : Nat) (Option.some Jvm.ClassFile.FieldType.char)).before args0 about1 = true := code_word (m := ⟨1, 3⟩) (meth := k1m3) (c := k1c3) (by decide +kernel) rfl rfl rfl (by decide +kernel)
set_option maxRecDepth 65536 in
theorem w_c16 : (Jvm.Cond.code ({ cls := "java/lang/StringUTF16", name := "compress", desc := "([CII)[B" } : Jvm.MethodName) jdk_52_method_16_code (6 : Nat) (Option.some (Jvm.ClassFile.FieldType.array Jvm.ClassFile.FieldType.byte))).before args0 about1 = true := code_word (m := ⟨20, 2⟩) (meth := k20m2) (c := k20c2) (by decide +kernel) rfl rfl rfl (by decide +kernel)
set_option maxRecDepth 65536 in
theorem w_c17 : (Jvm.Cond.code ({ cls := "java/lang/StringUTF16", name := "compress", desc := "([CI[BII)I" } : Jvm.MethodName) jdk_52_method_21_code (7 : Nat) (Option.some Jvm.ClassFile.FieldType.int)).before args0 about1 = true := code_word (m := ⟨20, 3⟩) (meth := k20m3) (c := k20c3) (by decide +kernel) rfl rfl rfl (by decide +kernel)
set_option maxRecDepth 65536 in
theorem w_c18 : (Jvm.Cond.code ({ cls := "java/lang/StringUTF16", name := "coderFromArrayLen", desc := "([BI)B" } : Jvm.MethodName) jdk_52_method_15_code (2 : Nat) (Option.some Jvm.ClassFile.FieldType.byte)).before args0 about1 = true := code_word (m := ⟨20, 1⟩) (meth := k20m1) (c := k20c1) (by decide +kernel) rfl rfl rfl (by decide +kernel)
def codes1 : List Jvm.Cond := [Jvm.Cond.code x code maxLocals ret, Jvm.Cond.code ({ cls := "com/example/viitta/viitta/core/SafeXmlStartTagIsPinLaw", name := "mk", desc := "(I)Ljava/lang/String;" } : Jvm.MethodName) method_5_code (3 : Nat) (Option.some (Jvm.ClassFile.FieldType.object "java/lang/String")), Jvm.Cond.code ({ cls := "com/example/viitta/viitta/core/SafeXmlStartTagIsPinLaw", name := "len", desc := "(I)I" } : Jvm.MethodName) method_3_code (1 : Nat) (Option.some Jvm.ClassFile.FieldType.int), Jvm.Cond.code ({ cls := "java/lang/String", name := "<init>", desc := "([C)V" } : Jvm.MethodName) jdk_42_method_3_code (2 : Nat) (Option.none : Option Jvm.ClassFile.FieldType), Jvm.Cond.code ({ cls := "java/lang/String", name := "<init>", desc := "([CIILjava/lang/Void;)V" } : Jvm.MethodName) jdk_42_method_149_code (6 : Nat) (Option.none : Option Jvm.ClassFile.FieldType), Jvm.Cond.code ({ cls := "java/lang/Object", name := "<init>", desc := "()V" } : Jvm.MethodName) object_method_1_code (1 : Nat) (Option.none : Option Jvm.ClassFile.FieldType), Jvm.Cond.code ({ cls := "java/util/ArrayList", name := "<init>", desc := "()V" } : Jvm.MethodName) jdk_38_method_2_code (1 : Nat) (Option.none : Option Jvm.ClassFile.FieldType), Jvm.Cond.code ({ cls := "java/util/AbstractList", name := "<init>", desc := "()V" } : Jvm.MethodName) jdk_39_method_1_code (1 : Nat) (Option.none : Option Jvm.ClassFile.FieldType), Jvm.Cond.code ({ cls := "java/util/AbstractCollection", name := "<init>", desc := "()V" } : Jvm.MethodName) jdk_22_method_1_code (1 : Nat) (Option.none : Option Jvm.ClassFile.FieldType), Jvm.Cond.code ({ cls := "com/example/viitta/viitta/core/SafeXml$StartTag", name := "<init>", desc := "(Ljava/lang/String;Ljava/lang/String;Ljava/lang/String;Ljava/util/List;Ljava/util/List;)V" } : Jvm.MethodName) prog_9_method_1_code (6 : Nat) (Option.none : Option Jvm.ClassFile.FieldType), Jvm.Cond.code ({ cls := "java/lang/Record", name := "<init>", desc := "()V" } : Jvm.MethodName) jdk_30_method_1_code (1 : Nat) (Option.none : Option Jvm.ClassFile.FieldType), Jvm.Cond.code ({ cls := "com/example/viitta/viitta/core/SafeXmlStartTagIsPinLaw", name := "same", desc := "(II)Z" } : Jvm.MethodName) method_6_code (3 : Nat) (Option.some Jvm.ClassFile.FieldType.boolean), Jvm.Cond.code ({ cls := "com/example/viitta/viitta/core/SafeXml$StartTag", name := "is", desc := "(Ljava/lang/String;Ljava/lang/String;)Z" } : Jvm.MethodName) prog_9_method_2_code (3 : Nat) (Option.some Jvm.ClassFile.FieldType.boolean), Jvm.Cond.code ({ cls := "java/lang/String", name := "equals", desc := "(Ljava/lang/Object;)Z" } : Jvm.MethodName) jdk_42_method_66_code (3 : Nat) (Option.some Jvm.ClassFile.FieldType.boolean), Jvm.Cond.code ({ cls := "java/lang/StringLatin1", name := "equals", desc := "([B[B)Z" } : Jvm.MethodName) jdk_43_method_13_code (3 : Nat) (Option.some Jvm.ClassFile.FieldType.boolean), Jvm.Cond.code ({ cls := "com/example/viitta/viitta/core/SafeXmlStartTagIsPinLaw", name := "ch", desc := "(II)C" } : Jvm.MethodName) method_4_code (2 : Nat) (Option.some Jvm.ClassFile.FieldType.char), Jvm.Cond.code ({ cls := "java/lang/StringUTF16", name := "compress", desc := "([CII)[B" } : Jvm.MethodName) jdk_52_method_16_code (6 : Nat) (Option.some (Jvm.ClassFile.FieldType.array Jvm.ClassFile.FieldType.byte)), Jvm.Cond.code ({ cls := "java/lang/StringUTF16", name := "compress", desc := "([CI[BII)I" } : Jvm.MethodName) jdk_52_method_21_code (7 : Nat) (Option.some Jvm.ClassFile.FieldType.int), Jvm.Cond.code ({ cls := "java/lang/StringUTF16", name := "coderFromArrayLen", desc := "([BI)B" } : Jvm.MethodName) jdk_52_method_15_code (2 : Nat) (Option.some Jvm.ClassFile.FieldType.byte)]
set_option maxRecDepth 65536 in
theorem codes_eq : words1.filter isCode = codes1 := rfl
theorem w_codes : ∀ c ∈ words1.filter isCode, c.before args0 about1 = true := by
  rw [codes_eq]
  intro c hc
  simp only [codes1, List.mem_cons, List.not_mem_nil, or_false] at hc
  rcases hc with rfl | rfl | rfl | rfl | rfl | rfl | rfl | rfl | rfl | rfl | rfl | rfl | rfl | rfl | rfl | rfl | rfl | rfl | rfl
  · exact w_c0
  · exact w_c1
  · exact w_c2
  · exact w_c3
  · exact w_c4
  · exact w_c5
  · exact w_c6
  · exact w_c7
  · exact w_c8
  · exact w_c9
  · exact w_c10
  · exact w_c11
  · exact w_c12
  · exact w_c13
  · exact w_c14
  · exact w_c15
  · exact w_c16
  · exact w_c17
  · exact w_c18
set_option maxRecDepth 65536 in
theorem w_t1 : (words1.take 24).all (fun c => isCode c || c.before args0 about1) = true := by decide +kernel
set_option maxRecDepth 65536 in
theorem w_t2 : ((words1.drop 24).take 24).all (fun c => isCode c || c.before args0 about1) = true := by decide +kernel
set_option maxRecDepth 65536 in
theorem w_t3 : (((words1.drop 24).drop 24).take 24).all (fun c => isCode c || c.before args0 about1) = true := by decide +kernel
set_option maxRecDepth 65536 in
theorem w_t4 : ((((words1.drop 24).drop 24).drop 24).take 24).all (fun c => isCode c || c.before args0 about1) = true := by decide +kernel
set_option maxRecDepth 65536 in
theorem w_t5 : ((((words1.drop 24).drop 24).drop 24).drop 24).all (fun c => isCode c || c.before args0 about1) = true := by decide +kernel
theorem w_tables : (allAtoms (Jvm.Cond.code x code maxLocals ret :: tables_1)).before args0 about1 = true := by
  rw [allAtoms_all]
  show words1.all (fun c => c.before args0 about1) = true
  refine all_split ?_ w_codes
  rw [← List.take_append_drop 24 words1, List.all_append, w_t1, ← List.take_append_drop 24 (words1.drop 24), List.all_append, w_t2, ← List.take_append_drop 24 ((words1.drop 24).drop 24), List.all_append, w_t3, ← List.take_append_drop 24 (((words1.drop 24).drop 24).drop 24), List.all_append, w_t4, w_t5]
  rfl
set_option maxRecDepth 65536 in
theorem w_rest : rest_1_c.before args0 about1 = true := by decide +kernel
set_option maxRecDepth 65536 in
theorem w_case : (Jvm.Cond.and given_1 narrow_1).before args0 about1 = true := by decide +kernel
set_option maxRecDepth 65536 in
theorem w_consts : constsHeld consts_1 about1 := Jvm.Lit.constsHeldB_iff.mp (by decide +kernel)
theorem w_applies : (headSpec (Jvm.Cond.code x code maxLocals ret :: tables_1) room_1).applies x e0.platform about1 = true :=
  (Spec.applies_iff w_frames).mpr ⟨w_running, w_runnable, w_alone, w_named, w_hears, w_ripe, w_room, w_tables⟩
theorem atStart : AtStart classFile x code maxLocals ret World_1 tables_1 room_1 Calls_1 rest_1 Pre_1 launch0 p0 e0 about1 theMethod args0 below0 :=
  ⟨lists_1, trivial, launch0.admits_env _ _ _, launch0.least_env, fairChoices_fair.cas, fairChoices_fair.clock, w_frames, w_args, w_heap, w_applies, ⟨w_consts, trivial⟩, w_rest, w_case⟩
end start1
theorem witness_1 : WitnessClaimed_1 := ⟨start1.p0, start1.e0, start1.about1, start1.theMethod, start1.args0, start1.below0, start1.atStart⟩
end Jvm.Pilot.@@N@@
