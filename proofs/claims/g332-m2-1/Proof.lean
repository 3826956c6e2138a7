import JvmDerived
import JvmDerived.Pilot.@@N@@Statement
import JvmDerived.Pilot.@@N@@Code
set_option linter.unusedVariables false
set_option linter.unusedSimpArgs false
@@BLOCK:NumsL.lean.txt@@
namespace Jvm.RoadKit
open Sem ClassFile Op Lib Jvm.Stand Jvm.Free Jvm.LawKit
section New
variable {p : Program} {l : Launch} {e : Env} {R : Room} {s : State} {m : MethodId} {args : Array Value} {below : List Frame} {meth : Method} {c : Code} {T : State} {locs : List Loc} {cells slots : Nat}
theorem retI (X : Stand p l e R s m args below meth c T locs cells slots) (hx : p.tables.exec = Jvm.exec) {pc : Nat} {Ls : Array Slot} {z : Int32} {rest : List Value} (hret : meth.sig.returnType = some .int) (hd : decode c.code pc = .ok (.ireturn, 1)) {fs : List Frame}
    (hl : ∀ (f : JFrame) (acts : List Action), f.method = m → f.locked = none → f.entered = [] → (doReturn e (T.setTop f) acts (some (.int z))).1 = T.setFrames fs) : Steps p.tables e below (T.setTop (mkF m pc Ls (.int z :: rest))) (T.setFrames fs) :=
  retOut X hx hret rfl (Or.inl ⟨rfl, Or.inl rfl, z, rfl⟩) hd hl
theorem retJ (X : Stand p l e R s m args below meth c T locs cells slots) (hx : p.tables.exec = Jvm.exec) {pc : Nat} {Ls : Array Slot} {z : Int64} {rest : List Value} (hret : meth.sig.returnType = some .long) (hd : decode c.code pc = .ok (.lreturn, 1)) {fs : List Frame}
    (hl : ∀ (f : JFrame) (acts : List Action), f.method = m → f.locked = none → f.entered = [] → (doReturn e (T.setTop f) acts (some (.long z))).1 = T.setFrames fs) : Steps p.tables e below (T.setTop (mkF m pc Ls (.long z :: rest))) (T.setFrames fs) :=
  retOut X hx hret rfl (Or.inr (Or.inl ⟨rfl, rfl, z, rfl⟩)) hd hl
theorem retA (X : Stand p l e R s m args below meth c T locs cells slots) (hx : p.tables.exec = Jvm.exec) {pc : Nat} {Ls : Array Slot} {w : Value} {t : FieldType} {rest : List Value} (hret : meth.sig.returnType = some t) (ht : t.isReference = true) (hw : w.isRef = true) (hn : narrow t w = w) (hd : decode c.code pc = .ok (.areturn, 1)) {fs : List Frame}
    (hl : ∀ (f : JFrame) (acts : List Action), f.method = m → f.locked = none → f.entered = [] → (doReturn e (T.setTop f) acts (some w)).1 = T.setFrames fs) : Steps p.tables e below (T.setTop (mkF m pc Ls (w :: rest))) (T.setFrames fs) :=
  retOut X hx hret hn (Or.inr (Or.inr (Or.inr (Or.inr ⟨rfl, ht, hw⟩)))) hd hl
end New
end Jvm.RoadKit
namespace Jvm.Pilot.@@N@@
open Jvm Jvm.ClassFile Sem Op Lib Jvm.Free Jvm.Stand Jvm.LawKit Jvm.RoadKit Bundle Jvm.Pilot.@@N@@.Jvm.D
/-- the run from t ends by returning, as Q and the frame say -/
def OEnds (p : Program) (e : Env) (below : List Frame) (s : State) (Q : Option Value → Heap → List Loc → Prop) (C S : Nat) (t : State) : Prop :=
  ∃ s₂ o, Steps p.tables e below t s₂ ∧ s₂.status = .running ∧ Ended s₂ below o ∧ ∃ v L, o = .returned v ∧ Q v s₂.heap L ∧ FrameEnd s o s₂ L C S
theorem OEnds.go {p : Program} {e : Env} {below : List Frame} {s : State} {Q : Option Value → Heap → List Loc → Prop} {C S : Nat} {t t' : State} (h : ∀ u, Steps p.tables e below t' u → Steps p.tables e below t u) (k : OEnds p e below s Q C S t') : OEnds p e below s Q C S t := by
  obtain ⟨s₂, o, h1, h2⟩ := k
  exact ⟨s₂, o, h _ h1, h2⟩
theorem OEnds.cut {p : Program} {e : Env} {below : List Frame} {s : State} {Q : Option Value → Heap → List Loc → Prop} {C S : Nat} {t : State} (P : (State → Prop) → Prop) (k2 : P (OEnds p e below s Q C S)) (k1 : P (OEnds p e below s Q C S) → OEnds p e below s Q C S t) : OEnds p e below s Q C S t := k1 k2
theorem OEnds.back {p : Program} {l : Launch} {e : Env} {R : Room} {s : State} {m : MethodId} {args : Array Value} {below : List Frame} {meth : Method} {c : Code} {T : State} {locs : List Loc} {cells slots : Nat} (X : Stand p l e R s m args below meth c T locs cells slots) (hlk : meth.locks = false) {v : Option Value} (hv : meth.sig.returnType = none → v = none) {t : State} {Q : Option Value → Heap → List Loc → Prop} {C S : Nat}
    (st : ∀ fs, (∀ (f : JFrame) (acts : List Action), f.method = m → f.locked = none → f.entered = [] → (doReturn e (T.setTop f) acts v).1 = T.setFrames fs) → Steps p.tables e below t (T.setFrames fs)) (q : Q v T.heap locs) (hc : cells ≤ C) (hs : slots ≤ S) : OEnds p e below s Q C S t := by
  obtain ⟨fs, hr, hrun, hended, hW, hsame⟩ := X.leave hv hlk
  exact ⟨_, _, st fs hr, hrun, hended, _, _, rfl, q, ⟨_, rfl⟩, hW, hsame.mono hc hs⟩
/-- the same for a body that resolves a String constant: the wide frame -/
def OEndsW (p : Program) (e : Env) (below : List Frame) (s : State) (Q : Option Value → Heap → Vm → List Loc → Prop) (C S : Nat) (t : State) : Prop :=
  ∃ s₂ o, Steps p.tables e below t s₂ ∧ s₂.status = .running ∧ Ended s₂ below o ∧ ∃ v L, o = .returned v ∧ Q v s₂.heap s₂.vm L ∧ ReturnedEndW s o s₂ L C S
theorem OEndsW.go {p : Program} {e : Env} {below : List Frame} {s : State} {Q : Option Value → Heap → Vm → List Loc → Prop} {C S : Nat} {t t' : State} (h : ∀ u, Steps p.tables e below t' u → Steps p.tables e below t u) (k : OEndsW p e below s Q C S t') : OEndsW p e below s Q C S t := by
  obtain ⟨s₂, o, h1, h2⟩ := k
  exact ⟨s₂, o, h _ h1, h2⟩
theorem OEndsW.cut {p : Program} {e : Env} {below : List Frame} {s : State} {Q : Option Value → Heap → Vm → List Loc → Prop} {C S : Nat} {t : State} (P : (State → Prop) → Prop) (k2 : P (OEndsW p e below s Q C S)) (k1 : P (OEndsW p e below s Q C S) → OEndsW p e below s Q C S t) : OEndsW p e below s Q C S t := k1 k2
theorem OEndsW.back {p : Program} {l : Launch} {e : Env} {R : Room} {s : State} {vm₁ : Vm} {m : MethodId} {args : Array Value} {below : List Frame} {meth : Method} {c : Code} {T : State} {locs : List Loc} {cells slots : Nat} (X : Stand p l e R (s.setVm vm₁) m args below meth c T locs cells slots) {n : Nat} (hS : s.Since vm₁ n) (hn : n ≤ T.heap.size) (hlk : meth.locks = false) {v : Option Value} (hv : meth.sig.returnType = none → v = none) {t : State} {Q : Option Value → Heap → Vm → List Loc → Prop} {C S : Nat}
    (st : ∀ fs, (∀ (f : JFrame) (acts : List Action), f.method = m → f.locked = none → f.entered = [] → (doReturn e (T.setTop f) acts v).1 = T.setFrames fs) → Steps p.tables e below t (T.setFrames fs)) (q : Q v T.heap T.vm locs) (hc : cells ≤ C) (hs : slots ≤ S) : OEndsW p e below s Q C S t := by
  obtain ⟨fs, hr, hrun, hended, h1, h2, h3, h4⟩ := X.leaveW hS hn hv hlk
  exact ⟨_, _, st fs hr, hrun, hended, _, _, rfl, q, h1, h2, h3, h4.mono hc hs⟩
/-- who pays a call of a body that may resolve a String constant, by its contract; Pv: what it asks of the tables -/
theorem own_backI {p : Program} {l : Launch} {e : Env} {R : Room} {s Z : State} {args : Array Value} {below : List Frame} {a0 : Array Value} {h : Heap} {y : MethodName} {bytes : ByteArray} {maxL : Nat} {ret : Option FieldType} {rm : Room} {len W : Nat} {as' : Array Value} {Pv : Vm → Prop} {Q : Option Value → Heap → Vm → List Loc → Prop}
    (hM : MetFree l y (head1 [Jvm.Cond.code y bytes maxL ret] rm) (fun a U => a = as' ∧ Z.Warmed39 U.vm ∧ U.heap = h ∧ Pv U.vm) (fun _ _ _ _ _ => True) (fun _ U o U' => ∃ v L, o = .returned v ∧ Q v U'.heap U'.vm L ∧ ReturnedEndW U o U' L rm.cells rm.slots))
    (hZ : Z.Warmed39 s.vm) (hPv : ∀ vm, s.WarmedH vm → Pv vm) (wc : (Jvm.Cond.code y bytes maxL ret).before a0 Z = true) (wz : (Jvm.Cond.initialized y.cls).before a0 Z = true) (hf : rm.frames + 1 ≤ R.frames) (hl : W + (maxL + 11) + rm.locals ≤ R.locals) :
    BackS l R p e below s args y len W (fun A a => a = as' ∧ A.U.heap = h ∧ A.cells + rm.cells ≤ R.cells ∧ A.slots + rm.slots ≤ R.slots)
      (fun A _ v B => ∃ L, Q v B.U.heap B.U.vm L ∧ B.locs = A.locs ++ L ∧ B.cells = A.cells + rm.cells ∧ B.slots = A.slots + rm.slots) := by
  refine BackS.of_freeW (bytes := bytes) (maxL := maxL) (ret := ret) (E := fun _ _ o t L k n => (k = rm.cells ∧ n = rm.slots) ∧ ∃ v, o = .returned v ∧ Q v t.heap t.vm L) hM hf hl ?_ ?_ (fun _ _ _ _ _ _ _ _ _ => trivial) ?_ ?_
  · intro m meth c A a Y hp
    have hU : Z.Warmed39 A.U.vm := wtrans hZ Y.warmed
    refine ⟨?_, mv hU wc, mv hU wz, hp.2.2.1, hp.2.2.2⟩
    show (Jvm.Cond.and _ .tt).before a A.U = true
    rw [Cond.before_and, mv hU wc]
    rfl
  · intro m meth c A a g mk Y hp
    exact ⟨hp.1, wtrans hZ Y.warmed, hp.2.1, hPv _ Y.warmed⟩
  · rintro a first o t ⟨v, L, h1, h2, h3⟩
    exact ⟨L, _, _, h3, ⟨rfl, rfl⟩, v, h1, h2⟩
  · rintro m meth c A a g mk v t L k n Y hp hq hr ⟨⟨rfl, rfl⟩, v', h1, h2⟩
    cases h1
    exact ⟨L, h2, rfl, rfl, rfl⟩
theorem own_IBstays {Z s : State} {vm : Vm} {Ts : List String} (I : IB Z s.vm Ts) (hW : s.WarmedH vm) : IB Z vm Ts := by
  obtain ⟨more, e, q⟩ := I
  exact ⟨more, ((hW.since 0).same_table (Nat.zero_le _)).trans e, q⟩

theorem own_lt (x y : Int64) : lcmpW x y < 0 ↔ x < y := by rw [lcW, lc_lt]
theorem own_gt (x y : Int64) : 0 < lcmpW x y ↔ y < x := by rw [lcW, lc_gt]
theorem own_eq (x y : Int64) : lcmpW x y = 0 ↔ x = y := by rw [lcW, lc_eq]
/-- a term that equals a number, as the sheet says it -/
theorem own_eqi {args : Array Value} {s : State} {t : Term} {k : Int32} (h : (Jvm.Cond.eq t (Term.int k)).value args s none s [] = some true) : t.eval args s none [] s = some (.int k) := by
  obtain ⟨x, y, hx, hy, h1, h2⟩ := cmp_v (Or.inl h)
  have hy' : y = .int k := Option.some.inj (hy.symm.trans (Term.int_eval k))
  subst hy'
  obtain ⟨z, rfl⟩ : ∃ z, x = .int z := h2
  simp [Cond.value, hx, hy] at h
  rw [hx, h]
theorem own_fldi {args : Array Value} {s : State} {t : Term} {C n d : String} {a : Addr} {k : Int32} (ht : t.eval args s none [] s = some (.ref a)) (h : (Jvm.Cond.eq (Term.field t C n d) (Term.int k)).value args s none s [] = some true) : s.fieldOf? a C n d = some (.int k) := by
  rw [← fld_at ht]; exact own_eqi h
theorem own_ne {s : State} {C n d : String} {a b : Addr} {j k : Int32} (h1 : s.fieldOf? a C n d = some (.int j)) (h2 : s.fieldOf? b C n d = some (.int k)) (hk : j ≠ k) : a ≠ b := by
  intro e; subst e
  exact hk (Value.int.inj (Option.some.inj (h1.symm.trans h2)))

theorem own_mod (x m : Int32) (hm : 0 < m.toInt) : 0 ≤ ((x &&& 2147483647) % m).toInt ∧ ((x &&& 2147483647) % m).toInt < m.toInt := by
  have h : 0 ≤ (x &&& 2147483647).toInt := by
    rw [Jvm.Kit.i32_mask x 2147483647 (k := 31) (by decide) (by decide)]; omega
  rw [Jvm.Kit.i32_rem_nonneg h]
  exact ⟨Int.emod_nonneg _ (by omega), Int.emod_lt_of_pos _ hm⟩
theorem own_range {r : Int32} {n : Nat} (h0 : 0 ≤ r.toInt) (h1 : r.toInt < n) (hn : n ≤ 2 ^ 31) : ∃ k : Nat, k < n ∧ r = Int32.ofNat k := by
  refine ⟨r.toInt.toNat, by omega, ?_⟩
  rw [← Int32.toInt_inj, Int32.toInt_ofNat_small (by omega)]; omega


section OwnS
variable {Z : State} {h h' : Heap} {a b : Addr} {k : ClassId} {xs ys : List Int32} {ws : List Addr}
def own_eqL (xs ys : List Int32) : Int32 := if xs = ys then 1 else 0
/-- the bytes at b -/
def own_By (Z : State) (h : Heap) (b : Addr) (k : ClassId) (xs : List Int32) : Prop := Arv Z h b k .byte (Int32.ofNat xs.length) (xs.map Value.int) (.int 0) ∧ xs.length < 2 ^ 31
/-- a String of Latin-1 bytes -/
def own_S (Z : State) (h : Heap) (a : Addr) (b : Addr) (k : ClassId) (xs : List Int32) : Prop := Exa Z h a "java/lang/String" ∧ Fld Z h a "java/lang/String" "coder" "B" (.int 0) ∧ Fld Z h a "java/lang/String" "value" "[B" (.ref b) ∧ own_By Z h b k xs
theorem own_By.ext (F : own_By Z h b k xs) (E : Ext h h') : own_By Z h' b k xs := ⟨F.1.ext E, F.2⟩
theorem own_By.keep (F : own_By Z h b k xs) (K : Keep h h' ws) (q : b ∉ ws) : own_By Z h' b k xs := ⟨F.1.keep K q, F.2⟩
theorem own_By.other {sl : Nat} {w : Value} (F : own_By Z h b k xs) (W : Wr h h' a sl w) (q : b ≠ a) : own_By Z h' b k xs := ⟨F.1.other W q, F.2⟩
theorem own_By.lt (F : own_By Z h b k xs) : b < h.size := F.1.lt
theorem own_S.ext (F : own_S Z h a b k xs) (E : Ext h h') : own_S Z h' a b k xs := ⟨F.1.ext E, F.2.1.ext E, F.2.2.1.ext E, F.2.2.2.ext E⟩
theorem own_S.keep (F : own_S Z h a b k xs) (K : Keep h h' ws) (q : a ∉ ws) (r : b ∉ ws) : own_S Z h' a b k xs := ⟨F.1.keep K, F.2.1.keep K q, F.2.2.1.keep K q, F.2.2.2.keep K r⟩
theorem own_S.other {c : Addr} {sl : Nat} {w : Value} (F : own_S Z h a b k xs) (W : Wr h h' c sl w) (q : a ≠ c) (r : b ≠ c) : own_S Z h' a b k xs := ⟨F.1.wr W, F.2.1.other W (Or.inl q), F.2.2.1.other W (Or.inl q), F.2.2.2.other W r⟩
theorem own_S.lt (F : own_S Z h a b k xs) : a < h.size := F.1.lt
theorem own_ofNat_inj {i j : Nat} (hi : i < 2 ^ 31) (hj : j < 2 ^ 31) (e : Int32.ofNat i = Int32.ofNat j) : i = j := by
  have q := congrArg Int32.toInt e
  rw [Int32.toInt_ofNat_small hi, Int32.toInt_ofNat_small hj] at q
  omega
theorem own_ofNat_lt {i j : Nat} (hi : i < 2 ^ 31) (hj : j < 2 ^ 31) : Int32.ofNat i < Int32.ofNat j ↔ i < j := by
  rw [Int32.lt_iff_toInt_lt, Int32.toInt_ofNat_small hi, Int32.toInt_ofNat_small hj]; omega
theorem own_ofNat_clamp {i : Nat} (hi : i < 2 ^ 31) : (Int32.ofNat i).toNatClampNeg = i := by
  show (Int32.ofNat i).toInt.toNat = i
  rw [Int32.toInt_ofNat_small hi]; omega
theorem own_succ (i : Nat) : Int32.ofNat i + (1 : Int32) = Int32.ofNat (i + 1) := (Int32.ofNat_succ i).symm ▸ rfl
theorem own_getD_map (xs : List Int32) (i : Nat) : (xs.map Value.int).getD i (.int 0) = .int (xs.getD i 0) := by
  rw [List.getD_eq_getElem?_getD, List.getD_eq_getElem?_getD, List.getElem?_map]
  cases xs[i]? <;> rfl
theorem own_byte (F : own_By Z h b k xs) {i : Nat} (hi : i < xs.length) : ∃ c : Cell, Arr Z h b c .byte ∧ ¬ (Int32.ofNat i < 0 ∨ c.slots.size ≤ (Int32.ofNat i).toNatClampNeg) ∧ c.slots[(Int32.ofNat i).toNatClampNeg]? = some (.int (xs.getD i 0)) := by
  obtain ⟨⟨c, A, q, S, N, H, G⟩, hl⟩ := F
  have h0 : ¬ Int32.ofNat i < 0 := by
    rw [Int32.lt_iff_toInt_lt, Int32.toInt_ofNat_small (by omega)]
    have e : (0 : Int32).toInt = 0 := rfl
    omega
  have hin : ¬ (Int32.ofNat i < 0 ∨ c.slots.size ≤ (Int32.ofNat i).toNatClampNeg) := inb_of S ⟨h0, (own_ofNat_lt (by omega) hl).mpr hi⟩
  refine ⟨c, A, hin, H.at hin ?_⟩
  rw [own_ofNat_clamp (by omega)]
  exact own_getD_map xs i
theorem own_blen (F : own_By Z h b k xs) : ∃ c : Cell, Arr Z h b c .byte ∧ c.slots.size.toInt32 = Int32.ofNat xs.length := by
  obtain ⟨⟨c, A, q, S, N, H, G⟩, hl⟩ := F
  exact ⟨c, A, len_of S N⟩
theorem own_list_ext (hl : xs.length = ys.length) (hj : ∀ j, j < xs.length → xs.getD j 0 = ys.getD j 0) : xs = ys := by
  refine List.ext_getElem hl fun j h1 h2 => ?_
  have q := hj j h1
  rw [List.getD_eq_getElem?_getD, List.getD_eq_getElem?_getD, List.getElem?_eq_getElem h1, List.getElem?_eq_getElem h2] at q
  exact q
/-- one array bears one text -/
theorem own_By.same {k' : ClassId} (F : own_By Z h b k xs) (G : own_By Z h b k' ys) : xs = ys := by
  obtain ⟨⟨c, A, q, S, N, H, -⟩, hl⟩ := F
  obtain ⟨⟨c', A', q', S', N', H', -⟩, hl'⟩ := G
  cases A.1.symm.trans A'.1
  rw [own_ofNat_clamp hl] at S
  rw [own_ofNat_clamp hl'] at S'
  refine own_list_ext (S.symm.trans S') fun j hj => ?_
  have e1 := H j (by omega)
  have e2 := H' j (by omega)
  rw [own_getD_map] at e1 e2
  exact Value.int.inj (Option.some.inj (e1.symm.trans e2))
theorem own_S.same {b' : Addr} {k' : ClassId} (F : own_S Z h a b k xs) (G : own_S Z h a b' k' ys) : xs = ys := by
  have hb : b = b' := by
    by_cases e : b = b'
    · exact e
    · exact absurd rfl (Fld.ne F.2.2.1 G.2.2.1 (fun q => e (Value.ref.inj q)))
  subst hb
  exact F.2.2.2.same G.2.2.2
theorem own_eqL1 (h : ¬ own_eqL xs ys = 0) : own_eqL xs ys = 1 := by
  unfold own_eqL at h ⊢
  split
  · rfl
  · rename_i q; exact absurd (if_neg q) h
end OwnS


theorem own_len {args : Array Value} {s : State} {t : Term} {a : Addr} {cl : Cell} {ty : FieldType} {z : Int32} (ht : t.eval args s none [] s = some (.ref a)) (A : Arr s s.heap a cl ty) (h : (Jvm.Cond.eq (Term.length t) (Term.int z)).value args s none s [] = some true) : cl.slots.size < 2 ^ 31 ∧ cl.slots.size.toInt32 = z := by
  have h' := own_eqi h
  have ha : s.arrayAt? a = some cl := A.fin (State.Warmed39.refl s).alike
  by_cases hl : cl.slots.size < 2 ^ 31
  · rw [len_f ht ha hl] at h'
    exact ⟨hl, Value.int.inj (Option.some.inj h')⟩
  · exfalso
    simp [Term.eval, ht, ha, hl] at h'
theorem own_el {args : Array Value} {s : State} {t : Term} {a : Addr} {cl : Cell} {ty : FieldType} {j k : Int32} (ht : t.eval args s none [] s = some (.ref a)) (A : Arr s s.heap a cl ty) (h : (Jvm.Cond.eq (Term.elem t (Term.int j)) (Term.int k)).value args s none s [] = some true) : cl.slots[j.toNatClampNeg]? = some (.int k) := (elem_in (own_eqi h) ht (Term.int_eval j) A.1).2
theorem own_nei {args : Array Value} {s : State} {t : Term} {w : Int32} (ht : t.eval args s none [] s = some (.int w)) (h : (Jvm.Cond.not (Jvm.Cond.eq t (Term.int 0))).value args s none s [] = some true) : ¬ w = 0 := by
  intro e; subst e
  have h' := not_v h
  have : (Jvm.Cond.eq t (Term.int 0)).value args s none s [] = some true := eq_i ht (Term.int_eval 0) rfl
  rw [this] at h'; cases h'


theorem own_mem_of {xs : List Int32} {i : Nat} {c : Int32} (hi : i < xs.length) (e : xs.getD i 0 = c) : c ∈ xs := by
  rw [List.getD_eq_getElem?_getD, List.getElem?_eq_getElem hi] at e
  exact e ▸ List.getElem_mem hi
theorem own_not_mem {xs : List Int32} {c : Int32} (h : ∀ j, j < xs.length → ¬ xs.getD j 0 = c) : ¬ c ∈ xs := by
  intro hm
  obtain ⟨j, hj, e⟩ := List.getElem_of_mem hm
  refine h j hj ?_
  rw [List.getD_eq_getElem?_getD, List.getElem?_eq_getElem hj]
  exact e
theorem own_ofNat_nn {i : Nat} (hi : i < 2 ^ 31) : ¬ Int32.ofNat i < 0 := by
  rw [Int32.lt_iff_toInt_lt, Int32.toInt_ofNat_small hi]
  have e : (0 : Int32).toInt = 0 := rfl
  omega
theorem own_shr0 (x : Int32) : (x >>> ((0 : Int32) &&& 31)) = x := by
  rw [← Int32.toInt_inj, Jvm.Kit.i32_shr x ((0 : Int32) &&& 31) (k := 0) (by decide)]
  omega
def own_max (a b : Int32) : Int32 := if a < b then b else a
def own_min (a b : Int32) : Int32 := if b < a then b else a
theorem own_min_self (a : Int32) : own_min a a = a := by unfold own_min; split <;> rfl


section OwnC
variable {Z : State} {h h' : Heap} {a b : Addr} {k : ClassId} {cs xs : List Int32} {ws : List Addr}
def own_b (c : Int32) : Int32 := c.toInt8.toInt32
/-- the chars at b, each 0 to 255 -/
def own_Ch (Z : State) (h : Heap) (b : Addr) (k : ClassId) (cs : List Int32) : Prop := Arv Z h b k .char (Int32.ofNat cs.length) (cs.map Value.int) (.int 0) ∧ cs.length < 2 ^ 31 ∧ ∀ c ∈ cs, 0 ≤ c.toInt ∧ c.toInt ≤ 255
theorem own_Ch.ext (F : own_Ch Z h b k cs) (E : Ext h h') : own_Ch Z h' b k cs := ⟨F.1.ext E, F.2⟩
theorem own_Ch.keep (F : own_Ch Z h b k cs) (K : Keep h h' ws) (q : b ∉ ws) : own_Ch Z h' b k cs := ⟨F.1.keep K q, F.2⟩
theorem own_Ch.other {sl : Nat} {w : Value} (F : own_Ch Z h b k cs) (W : Wr h h' a sl w) (q : b ≠ a) : own_Ch Z h' b k cs := ⟨F.1.other W q, F.2⟩
theorem own_Ch.lt (F : own_Ch Z h b k cs) : b < h.size := F.1.lt
theorem own_clen (F : own_Ch Z h b k cs) : ∃ c : Cell, Arr Z h b c .char ∧ c.slots.size.toInt32 = Int32.ofNat cs.length := by
  obtain ⟨⟨c, A, q, S, N, H, G⟩, hl⟩ := F
  exact ⟨c, A, len_of S N⟩
theorem own_cread (F : own_Ch Z h b k cs) {i : Nat} (hi : i < cs.length) : ∃ c : Cell, Arr Z h b c .char ∧ ¬ (Int32.ofNat i < 0 ∨ c.slots.size ≤ (Int32.ofNat i).toNatClampNeg) ∧ c.slots[(Int32.ofNat i).toNatClampNeg]? = some (.int (cs.getD i 0)) := by
  obtain ⟨⟨c, A, q, S, N, H, G⟩, hl, -⟩ := F
  have hin : ¬ (Int32.ofNat i < 0 ∨ c.slots.size ≤ (Int32.ofNat i).toNatClampNeg) := inb_of S ⟨own_ofNat_nn (by omega), (own_ofNat_lt (by omega) hl).mpr hi⟩
  refine ⟨c, A, hin, H.at hin ?_⟩
  rw [own_ofNat_clamp (by omega)]
  exact own_getD_map cs i
theorem own_cle (F : own_Ch Z h b k cs) {i : Nat} (hi : i < cs.length) : ¬ 255 < cs.getD i 0 := by
  have hm : cs.getD i 0 ∈ cs := own_mem_of hi rfl
  have q := F.2.2 _ hm
  rw [Int32.lt_iff_toInt_lt]
  have e : (255 : Int32).toInt = 255 := rfl
  omega
/-- the bytes when i of them are written -/
def own_fill (cs : List Int32) (i : Nat) : List Int32 := (cs.take i).map own_b ++ List.replicate (cs.length - i) 0
theorem own_fill_len {i : Nat} (hi : i ≤ cs.length) : (own_fill cs i).length = cs.length := by
  simp only [own_fill, List.length_append, List.length_map, List.length_take, List.length_replicate]; omega
theorem own_fill_zero : own_fill cs 0 = List.replicate cs.length 0 := by simp [own_fill]
theorem own_fill_all : own_fill cs cs.length = cs.map own_b := by simp [own_fill]
theorem own_fill_set {i : Nat} (hi : i < cs.length) : (own_fill cs i).set i (own_b (cs.getD i 0)) = own_fill cs (i + 1) := by
  have e1 : cs.length - i = (cs.length - (i + 1)) + 1 := by omega
  have e2 : ((cs.take i).map own_b).length = i := by simp only [List.length_map, List.length_take]; omega
  have e3 : cs.take (i + 1) = cs.take i ++ [cs.getD i 0] := by
    rw [List.take_add_one, List.getElem?_eq_getElem hi, List.getD_eq_getElem?_getD, List.getElem?_eq_getElem hi]; rfl
  unfold own_fill
  rw [e1, List.replicate_succ, e3, List.map_append, List.append_assoc]
  conv => lhs; rw [List.set_append_right _ _ (by omega)]
  rw [e2, Nat.sub_self]
  rfl
/-- the byte array being filled -/
def own_Fi (Z : State) (h : Heap) (b : Addr) (k : ClassId) (cs : List Int32) (i : Nat) : Prop := Arv Z h b k .byte (Int32.ofNat cs.length) ((own_fill cs i).map Value.int) (.int 0) ∧ cs.length < 2 ^ 31
theorem own_Fi.lt {i : Nat} (F : own_Fi Z h b k cs i) : b < h.size := F.1.lt
theorem own_Fi.at {i : Nat} (F : own_Fi Z h b k cs i) (hi : i < cs.length) : ∃ c : Cell, Arr Z h b c .byte ∧ ¬ (Int32.ofNat i < 0 ∨ c.slots.size ≤ (Int32.ofNat i).toNatClampNeg) ∧ True := by
  obtain ⟨⟨c, A, q, S, N, H, G⟩, hl⟩ := F
  exact ⟨c, A, inb_of S ⟨own_ofNat_nn (by omega), (own_ofNat_lt (by omega) hl).mpr hi⟩, trivial⟩
theorem own_bb (x : Int32) : nar .byte (x.toInt8.toInt32) = own_b x := by
  show (x.toInt8.toInt32).toInt8.toInt32 = x.toInt8.toInt32
  rw [Int8.toInt8_toInt32]
theorem own_Fi.put {i : Nat} (F : own_Fi Z h b k cs i) (hi : i < cs.length) (W : Wr h h' b (Int32.ofNat i).toNatClampNeg (.int (nar .byte ((cs.getD i 0).toInt8.toInt32)))) : own_Fi Z h' b k cs (i + 1) := by
  obtain ⟨⟨c, A, q, S, N, H, G⟩, hl⟩ := F
  refine ⟨?_, hl⟩
  have r := Arv.set A q S N H G (fits_nar_byte _) W i (own_ofNat_clamp (by omega)) (by rw [List.length_map, own_fill_len (by omega)]; exact hi)
  rw [show (cs.getD i 0).toInt8.toInt32.toInt8.toInt32 = own_b (cs.getD i 0) from own_bb _, ← List.map_set, own_fill_set hi] at r
  exact r
theorem own_Fi.done (F : own_Fi Z h b k cs cs.length) : own_By Z h b k (cs.map own_b) := by
  obtain ⟨F, hl⟩ := F
  rw [own_fill_all] at F
  exact ⟨by rw [List.length_map]; exact F, by rw [List.length_map]; exact hl⟩
theorem own_Fi.first (F : Arv Z h b k .byte (Int32.ofNat cs.length) [] (.int 0)) (hl : cs.length < 2 ^ 31) : own_Fi Z h b k cs 0 := by
  refine ⟨?_, hl⟩
  rw [own_fill_zero, List.map_replicate]
  exact F.pad (pad_rep [] (.int 0) cs.length)
theorem own_s6 {a b c d e f s6 : Slot} {v : Int32} (h : s6 = .unset ∨ ∃ w : Int32, s6 = .val (.int w)) (ha : ∃ w, a = .val w) (hb : ∃ w, b = .val w) (hc : ∃ w, c = .val w) (hd : ∃ w, d = .val w) (he : ∃ w, e = .val w) (hf : ∃ w : Int32, f = .val (.int w)) : storeLocals #[a, b, c, d, e, f, s6] 6 (.int v) = some #[a, b, c, d, e, f, .val (.int v)] := by
  obtain ⟨_, rfl⟩ := ha; obtain ⟨_, rfl⟩ := hb; obtain ⟨_, rfl⟩ := hc; obtain ⟨_, rfl⟩ := hd; obtain ⟨_, rfl⟩ := he; obtain ⟨_, rfl⟩ := hf
  rcases h with rfl | ⟨w, rfl⟩ <;> rfl
theorem own_cfa (x : Int32) : (((x - x).toUInt32 >>> ((31 : Int32) &&& 31).toUInt32).toInt32).toInt8.toInt32 = 0 := by
  rw [Int32.sub_self]; decide
end OwnC


section OwnA
variable {Z : State} {h h' : Heap} {a b : Addr} {ws : List Addr} {x0 x1 x2 x3 : Addr}
abbrev own_B (z : Int32) : Prop := 0 ≤ z.toInt ∧ z.toInt ≤ 255
theorem own_nar_dec : ∀ i : Nat, i < 256 → nar .char (Int32.ofNat i) = Int32.ofNat i := by decide +kernel
theorem own_nar {z : Int32} (q : own_B z) : nar .char z = z := by
  obtain ⟨i, hi, rfl⟩ := own_range (r := z) (n := 256) q.1 (by omega) (by decide)
  exact own_nar_dec i hi
theorem own_narB {z : Int32} (q : own_B z) : own_B (nar .char z) := by rw [own_nar q]; exact q
theorem own_Bm (x : Int32) : own_B (x &&& 255) := by
  rw [own_B, Jvm.Kit.i32_mask x 255 (k := 8) (by decide) (by decide)]; omega
theorem own_Bl (y : Int64) : own_B (nar .char ((y &&& 255).toInt32.toUInt32.toUInt16.toUInt32.toInt32)) := by
  have h1 : (y &&& 255).toInt = y.toInt % 2 ^ 8 := Jvm.Kit.i64_mask y 255 (k := 8) (by decide) (by decide)
  have h2 : own_B ((y &&& 255).toInt32) := by
    have e : ((y &&& 255).toInt32).toInt = (y &&& 255).toInt.bmod (2 ^ 32) := Int64.toInt_toInt32 _
    rw [own_B, e, h1, Int.bmod_def]
    split <;> omega
  exact own_narB (own_narB h2)
/-- eight chars, each 0 to 255 -/
def own_C8 (Z : State) (h : Heap) (a : Addr) : Prop := ∃ c : Cell, Arr Z h a c .char ∧ c.slots.size = 8 ∧ ∀ i, i < 8 → ∃ z : Int32, c.slots[i]? = some (.int z) ∧ own_B z
theorem own_C8.ext (F : own_C8 Z h a) (E : Ext h h') : own_C8 Z h' a := by
  obtain ⟨c, A, r⟩ := F; exact ⟨c, A.ext E, r⟩
theorem own_C8.other {sl : Nat} {w : Value} (F : own_C8 Z h b) (W : Wr h h' a sl w) (q : b ≠ a) : own_C8 Z h' b := by
  obtain ⟨c, A, r⟩ := F; exact ⟨c, A.other W q, r⟩
theorem own_C8.keep (F : own_C8 Z h a) (K : Keep h h' ws) (q : a ∉ ws) : own_C8 Z h' a := by
  obtain ⟨c, A, r⟩ := F; exact ⟨c, ⟨K.2.1 _ _ A.1 q, A.2⟩, r⟩
theorem own_C8.lt (F : own_C8 Z h a) : a < h.size := by
  obtain ⟨c, A, r⟩ := F; exact A.lt
theorem own_C8.new {cA : ClassId} (A : Arr Z h a (newA cA .char 8) .char) : own_C8 Z h a := by
  refine ⟨_, A, sz_new _ _ _, fun i hi => ⟨0, ?_, by decide⟩⟩
  show (Array.replicate _ _)[i]? = _
  rw [Array.getElem?_replicate, if_pos (show i < (8 : Int32).toNatClampNeg from hi)]; rfl
theorem own_C8.put {i : Nat} {z : Int32} (F : own_C8 Z h a) (W : Wr h h' a i (.int z)) (hv : own_B z) : own_C8 Z h' a := by
  obtain ⟨c, A, S, r⟩ := F
  refine ⟨c.setSlot i (.int z), A.same W, by rw [sz_set]; exact S, fun j hj => ?_⟩
  by_cases e : j = i
  · subst e
    exact ⟨z, by simp [Cell.setSlot, S, hj], hv⟩
  · obtain ⟨u, hu, hf⟩ := r j hj
    exact ⟨u, by rw [← hu]; exact Array.getElem?_setIfInBounds_ne (Ne.symm e), hf⟩
theorem own_C8.inb (F : own_C8 Z h a) {j : Int32} (q : ¬ j < 0 ∧ j < 8) : ∃ c : Cell, Arr Z h a c .char ∧ ¬ (j < 0 ∨ c.slots.size ≤ j.toNatClampNeg) ∧ True := by
  obtain ⟨c, A, S, r⟩ := F
  exact ⟨c, A, inb_of (z := 8) (S.trans (by decide)) q, trivial⟩
theorem own_C8.rd (F : own_C8 Z h a) {j : Int32} (q : ¬ j < 0 ∧ j < 8) : ∃ z : Int32, own_B z ∧ ∃ c : Cell, Arr Z h a c .char ∧ ¬ (j < 0 ∨ c.slots.size ≤ j.toNatClampNeg) ∧ c.slots[j.toNatClampNeg]? = some (.int z) := by
  obtain ⟨c, A, S, r⟩ := F
  have hin := inb_of (z := 8) (S.trans (by decide)) q
  obtain ⟨z, h1, h2⟩ := r j.toNatClampNeg (Nat.lt_of_not_le fun t => hin (Or.inr (by rw [S]; exact t)))
  exact ⟨z, h2, c, A, hin, h1⟩
theorem own_byteJ {k : ClassId} {xs : List Int32} (F : own_By Z h b k xs) {j : Int32} (q : ¬ j < 0 ∧ j < Int32.ofNat xs.length) : ∃ z : Int32, ∃ c : Cell, Arr Z h b c .byte ∧ ¬ (j < 0 ∨ c.slots.size ≤ j.toNatClampNeg) ∧ c.slots[j.toNatClampNeg]? = some (.int z) := by
  obtain ⟨⟨c, A, q', S, N, H, G⟩, hl⟩ := F
  exact ⟨_, c, A, inb_of S q, H.at (inb_of S q) (own_getD_map xs _)⟩
/-- the four constants' array -/
def own_Vs (Z : State) (h : Heap) (a : Addr) (x0 x1 x2 x3 : Addr) : Prop := ∃ c : Cell, Arr Z h a c (.object "com/example/pnorm/pnorm/model/Weighting") ∧ FitC Z c ∧ c.slots.size = 4 ∧ ∀ i, i < 4 → c.slots[i]? = some ([Value.ref x0, .ref x1, .ref x2, .ref x3].getD i .null)
theorem own_Vs.ext (F : own_Vs Z h a x0 x1 x2 x3) (E : Ext h h') : own_Vs Z h' a x0 x1 x2 x3 := by
  obtain ⟨c, A, r⟩ := F; exact ⟨c, A.ext E, r⟩
theorem own_Vs.lt (F : own_Vs Z h a x0 x1 x2 x3) : a < h.size := by
  obtain ⟨c, A, r⟩ := F; exact A.lt
theorem own_Vs.len (F : own_Vs Z h a x0 x1 x2 x3) : ∃ c : Cell, Arr Z h a c (.object "com/example/pnorm/pnorm/model/Weighting") ∧ c.slots.size.toInt32 = (4 : Int32) := by
  obtain ⟨c, A, -, S, r⟩ := F; exact ⟨c, A, by rw [S]; rfl⟩
theorem own_Vs.rd (F : own_Vs Z h a x0 x1 x2 x3) {j : Int32} (q : ¬ j < 0 ∧ j < 4) {v : Value} (u : [Value.ref x0, .ref x1, .ref x2, .ref x3].getD j.toNatClampNeg .null = v) : ∃ c : Cell, Arr Z h a c (.object "com/example/pnorm/pnorm/model/Weighting") ∧ ¬ (j < 0 ∨ c.slots.size ≤ j.toNatClampNeg) ∧ c.slots[j.toNatClampNeg]? = some v := by
  obtain ⟨c, A, -, S, r⟩ := F
  have hin := inb_of (z := 4) (S.trans (by decide)) q
  have hl := r j.toNatClampNeg (Nat.lt_of_not_le fun t => hin (Or.inr (by rw [S]; exact t)))
  exact ⟨c, A, hin, by rw [hl, u]⟩
def own_pick (x0 x1 x2 x3 : Addr) (xs : List Int32) : Value := if [101, 98] = xs then .ref x0 else if [116, 102, 99, 46, 116, 102, 99] = xs then .ref x1 else if [108, 120, 99, 46, 108, 116, 99] = xs then .ref x2 else if [76, 110, 117, 46, 108, 116, 117] = xs then .ref x3 else .null
theorem own_eqL0 {xs ys : List Int32} (h : own_eqL xs ys = 0) : ¬ xs = ys := fun q => by rw [own_eqL, if_pos q] at h; exact absurd h (by decide)
theorem own_eqLt {xs ys : List Int32} (h : ¬ own_eqL xs ys = 0) : xs = ys := Classical.byContradiction fun q => h (by rw [own_eqL, if_neg q])
theorem own_isRef {v : Value} (h : v.isRef = true) : v = .null ∨ ∃ a, v = .ref a := by
  cases v <;> simp_all [Value.isRef]
theorem own_eqr {args : Array Value} {s : State} {t u : Term} {a : Addr} (hu : u.eval args s none [] s = some (.ref a)) (h : (Jvm.Cond.eq t u).value args s none s [] = some true) : t.eval args s none [] s = some (.ref a) := by
  obtain ⟨x, y, hx, hy, h1, h2⟩ := cmp_v (Or.inl h)
  cases hu.symm.trans hy
  cases x <;> simp [Cond.value, hx, hy, Kin, Value.isRef] at h h1 h2
  rw [hx, h]
theorem own_s12 {a b c d e f : Int32} {g : Int64} {bs n ar dd : Value} {s12 : Slot} {v : Addr} (hn : ∃ w : Int32, n = .int w) (hd : ∃ w : Int32, dd = .int w) (hb : ∃ w : Addr, bs = .ref w) (ha : ∃ w : Addr, ar = .ref w) (h : s12 = .unset ∨ ∃ w : Int32, s12 = .val (.int w)) : storeLocals #[.val (.int a), .val (.int b), .val (.int c), .val (.int d), .val (.long g), .second, .val (.int e), .val (.int f), .val bs, .val n, .val ar, .val dd, s12, .unset] 12 (.ref v) = some #[.val (.int a), .val (.int b), .val (.int c), .val (.int d), .val (.long g), .second, .val (.int e), .val (.int f), .val bs, .val n, .val ar, .val dd, .val (.ref v), .unset] := by
  obtain ⟨_, rfl⟩ := hn; obtain ⟨_, rfl⟩ := hd; obtain ⟨_, rfl⟩ := hb; obtain ⟨_, rfl⟩ := ha
  rcases h with rfl | ⟨w, rfl⟩ <;> rfl
end OwnA
/-- which of the String constants of D have been loaded since the start, and what each loaded one holds -/
def own_All (D : List (String × Nat × String × List Int32)) (Z : State) (vm : Vm) (h : Heap) : Prop := ∃ Ts : List String, IB Z vm Ts ∧ ∀ q ∈ D, q.2.2.1 ∉ Ts ∨ ∃ (lit lb : Addr) (lk : ClassId), Lit (Z.setVm vm) q.1 q.2.1 lit ∧ own_S Z h lit lb lk q.2.2.2
section OwnL
variable {D : List (String × Nat × String × List Int32)} {Z s : State} {vm : Vm} {h h' : Heap} {a : Addr}
theorem own_All.start (I : IB Z vm []) : own_All D Z vm h := ⟨[], I, fun q _ => Or.inl (by simp)⟩
theorem own_All.keep0 (F : own_All D Z vm h) (K : Keep h h' []) : own_All D Z vm h' := by
  obtain ⟨Ts, I, r⟩ := F
  exact ⟨Ts, I, fun q hq => (r q hq).imp id fun ⟨lit, lb, lk, L, S⟩ => ⟨lit, lb, lk, L, S.keep K nin0 nin0⟩⟩
theorem own_All.keep1 (F : own_All D Z vm h) (K : Keep h h' [a]) (hne : ∀ (lit lb : Addr) (lk : ClassId) (xs : List Int32), own_S Z h lit lb lk xs → lit ≠ a ∧ lb ≠ a) : own_All D Z vm h' := by
  obtain ⟨Ts, I, r⟩ := F
  exact ⟨Ts, I, fun q hq => (r q hq).imp id fun ⟨lit, lb, lk, L, S⟩ => ⟨lit, lb, lk, L, S.keep K (ninS (hne _ _ _ _ S).1 nin0) (ninS (hne _ _ _ _ S).2 nin0)⟩⟩
theorem own_LitW {C : String} {i : Nat} (L : Lit (Z.setVm s.vm) C i a) (hW : s.Warmed39 vm) : Lit (Z.setVm vm) C i a := State.resolvedAt?_warmed39 (s := s) hW L
theorem own_All.stays (F : own_All D Z s.vm h) (hW : s.WarmedH vm) : own_All D Z vm h := by
  obtain ⟨Ts, I, r⟩ := F
  exact ⟨Ts, own_IBstays I hW, fun q hq => (r q hq).imp id fun ⟨lit, lb, lk, L, S⟩ => ⟨lit, lb, lk, own_LitW L hW.wide, S⟩⟩
end OwnL
/-- ldc of a String constant of D, the first time or again -/
theorem own_ldc {p : Program} {l : Launch} {e : Env} {R : Room} {s : State} {m : MethodId} {args : Array Value} {below : List Frame} {meth : Method} {c : Code} {T Z : State} {locs : List Loc} {cells slots : Nat} {a0 : Array Value} {own text : String} {index : Nat} {h : Heap} {vm0 : Vm} {D : List (String × Nat × String × List Int32)} {xs : List Int32}
    (X : Stand p l e R (s.setVm vm0) m args below meth c T locs cells slots) (hx : p.tables.exec = Jvm.exec) (hZ : Z.Warmed39 vm0) (hown : vm0.findClass own = some m.cls) (w : (Jvm.Cond.stringLink own index text).before a0 Z = true) (wS : ∀ a ∈ Bundle.stringAtoms, a.before a0 Z = true)
    (eT : T.heap = h) {k0 : Nat} (hS : s.Since vm0 k0) (hk : k0 ≤ h.size) (N : Fr s.heap.size locs) (hkeep : ∀ (b : Addr) (cl : Cell), Z.heap[b]? = some cl → s.heap[b]? = some cl) (A : own_All D Z vm0 h) (hq : (own, index, text, xs) ∈ D) (hD : ∀ q ∈ D, q.2.2.1 = text → q = (own, index, text, xs)) (hh : Jvm.Lit.constHeld Z own index) (hcw : Jvm.Lit.compactW.before a0 Z = true)
    (ht : (∀ c ∈ text.toList, c.toNat < 256) ∧ text.toList.map (fun c => Value.int (Jvm.Lit.byteI c.toNat.toUInt16)) = xs.map Value.int) (hxl : xs.length < 2 ^ 31)
    {g : JFrame} (hg : g.method = m) (hd : decode c.code g.pc = .ok (.ldc index, 2)) {n : Nat} (hn : 4 * text.toList.length ≤ n) (hbig : n ≤ 536870912) (hc : cells + 2 ≤ R.cells) (hl' : slots + (n + 4) ≤ R.slots) :
    ∃ (a : Addr) (T' : State) (h' : Heap) (k1 : Nat) (b : Addr) (k : ClassId) (vm1 : Vm), Stand p l e R (s.setVm vm1) m args below meth c T' locs (cells + 2) (slots + (n + 4)) ∧ T'.heap = h' ∧ Ext h h' ∧ s.Since vm1 k1 ∧ k1 ≤ h'.size ∧ Z.Warmed39 (s.setVm vm1).vm ∧ (s.setVm vm1).vm.findClass own = some m.cls ∧
      own_S Z h' a b k xs ∧ own_All D Z vm1 h' ∧ Lit (s.setVm vm1) own index a ∧ ∀ target, Steps p.tables e below (T'.setTop { g with pc := g.pc + 2, stack := .ref a :: g.stack }) target → Steps p.tables e below (T.setTop g) target := by
  obtain ⟨Ts, I, r⟩ := A
  rcases r _ hq with hnot | ⟨lit, lb, lk, L, S⟩
  · obtain ⟨a, T', h', k1, b, k, r1, r2, r3, r4, r5, r6, r7, r8, r9, r10, r11, r12, r13, r14, r15, r16⟩ := ldcSVL (s := s.setVm vm0) (vm0 := vm0) X hx hZ hown w wS eT (k0 := 0) ((State.WarmedH.refl (s.setVm vm0)).since 0) (Nat.zero_le _) N hkeep I hnot hh hcw (z := Int32.ofNat xs.length) ht (own_ofNat_nn hxl) (by rw [own_ofNat_clamp hxl, List.length_map]) hg hd hn hbig hc hl'
    have S2 : (s.setVm vm0).Since T'.vm h'.size := ⟨r4.1, fun j q h1 h2 => ⟨(r4.2 j q h1 h2).1, Nat.lt_of_lt_of_le (r4.2 j q h1 h2).2 r5⟩⟩
    have hS2 : own_S Z h' a b k xs := ⟨r8, r9, r10, r11, hxl⟩
    refine ⟨a, T', h', h'.size, b, k, T'.vm, r1, r2, r3, hS.trans S2 (Nat.le_trans hk r3.1), Nat.le_refl _, r6, r7, hS2, ⟨text :: Ts, r14, fun q hqD => ?_⟩, r15, r16⟩
    by_cases et : q.2.2.1 = text
    · have eq := hD q hqD et
      subst eq
      exact Or.inr ⟨a, b, k, r15, hS2⟩
    · rcases r q hqD with h1 | ⟨lit, lb, lk, L, S⟩
      · exact Or.inl (fun hm => (List.mem_cons.mp hm).elim et h1)
      · exact Or.inr ⟨lit, lb, lk, own_LitW (s := s.setVm vm0) L r4.1, S.ext r3⟩
  · exact ⟨lit, T, h, k0, lb, lk, vm0, X.more (by omega) (by omega), eT, ⟨Nat.le_refl _, fun _ _ q => q⟩, hS, hk, hZ, hown, S, ⟨Ts, I, r⟩, L, ldcAgain (s := s) (vm0 := vm0) X hx hZ hown w L hg hd⟩
def own_lits : List (String × Nat × String × List Int32) := [("com/example/pnorm/pnorm/model/WeightingNamedPinLaw", 7, "eb", [101, 98]), ("com/example/pnorm/pnorm/model/WeightingNamedPinLaw", 9, "tfc.tfc", [116, 102, 99, 46, 116, 102, 99]), ("com/example/pnorm/pnorm/model/WeightingNamedPinLaw", 11, "lxc.ltc", [108, 120, 99, 46, 108, 116, 99]), ("com/example/pnorm/pnorm/model/WeightingNamedPinLaw", 13, "Lnu.ltu", [76, 110, 117, 46, 108, 116, 117]), ("java/lang/String", 7, "", [])]
theorem own_lits_0 : ∀ q ∈ own_lits, q.2.2.1 = "eb" → q = ("com/example/pnorm/pnorm/model/WeightingNamedPinLaw", 7, "eb", [101, 98]) := by decide
theorem own_lits_1 : ∀ q ∈ own_lits, q.2.2.1 = "tfc.tfc" → q = ("com/example/pnorm/pnorm/model/WeightingNamedPinLaw", 9, "tfc.tfc", [116, 102, 99, 46, 116, 102, 99]) := by decide
theorem own_lits_2 : ∀ q ∈ own_lits, q.2.2.1 = "lxc.ltc" → q = ("com/example/pnorm/pnorm/model/WeightingNamedPinLaw", 11, "lxc.ltc", [108, 120, 99, 46, 108, 116, 99]) := by decide
theorem own_lits_3 : ∀ q ∈ own_lits, q.2.2.1 = "Lnu.ltu" → q = ("com/example/pnorm/pnorm/model/WeightingNamedPinLaw", 13, "Lnu.ltu", [76, 110, 117, 46, 108, 116, 117]) := by decide
theorem own_lits_4 : ∀ q ∈ own_lits, q.2.2.1 = "" → q = ("java/lang/String", 7, "", []) := by decide

theorem own_nlt {x : Int32} (h : 0 ≤ x.toInt) : ¬ x < 0 := by
  rw [Int32.lt_iff_toInt_lt]; have e : (0 : Int32).toInt = 0 := rfl; omega
theorem own_lt8 {x : Int32} (h : x.toInt < 8) : x < 8 := by
  rw [Int32.lt_iff_toInt_lt]; have e : (8 : Int32).toInt = 8 := rfl; omega

theorem own_sz4 {n : Nat} (h : n < 2 ^ 31) (e : n.toInt32 = (4 : Int32)) : n = 4 := own_ofNat_inj (i := n) (j := 4) h (by decide) e

theorem d14_0 : decode jdk_52_method_21_code 0 = .ok (.iconst 0, 1) := by decide +kernel
theorem d14_1 : decode jdk_52_method_21_code 1 = .ok (.istore 5, 2) := by decide +kernel
theorem d14_3 : decode jdk_52_method_21_code 3 = .ok (.iload 5, 2) := by decide +kernel
theorem d14_5 : decode jdk_52_method_21_code 5 = .ok (.iload 4, 2) := by decide +kernel
theorem d14_7 : decode jdk_52_method_21_code 7 = .ok (.if_icmp .ge 37, 3) := by decide +kernel
theorem d14_10 : decode jdk_52_method_21_code 10 = .ok (.aload_n 0, 1) := by decide +kernel
theorem d14_11 : decode jdk_52_method_21_code 11 = .ok (.iload_n 1, 1) := by decide +kernel
theorem d14_12 : decode jdk_52_method_21_code 12 = .ok (.caload, 1) := by decide +kernel
theorem d14_13 : decode jdk_52_method_21_code 13 = .ok (.istore 6, 2) := by decide +kernel
theorem d14_15 : decode jdk_52_method_21_code 15 = .ok (.iload 6, 2) := by decide +kernel
theorem d14_17 : decode jdk_52_method_21_code 17 = .ok (.sipush 255, 3) := by decide +kernel
theorem d14_20 : decode jdk_52_method_21_code 20 = .ok (.if_icmp .le 6, 3) := by decide +kernel
theorem d14_26 : decode jdk_52_method_21_code 26 = .ok (.aload_n 2, 1) := by decide +kernel
theorem d14_27 : decode jdk_52_method_21_code 27 = .ok (.iload_n 3, 1) := by decide +kernel
theorem d14_28 : decode jdk_52_method_21_code 28 = .ok (.iload 6, 2) := by decide +kernel
theorem d14_30 : decode jdk_52_method_21_code 30 = .ok (.i2b, 1) := by decide +kernel
theorem d14_31 : decode jdk_52_method_21_code 31 = .ok (.bastore, 1) := by decide +kernel
theorem d14_32 : decode jdk_52_method_21_code 32 = .ok (.iinc 1 1, 3) := by decide +kernel
theorem d14_35 : decode jdk_52_method_21_code 35 = .ok (.iinc 3 1, 3) := by decide +kernel
theorem d14_38 : decode jdk_52_method_21_code 38 = .ok (.iinc 5 1, 3) := by decide +kernel
theorem d14_41 : decode jdk_52_method_21_code 41 = .ok (.goto (-38), 3) := by decide +kernel
theorem d14_44 : decode jdk_52_method_21_code 44 = .ok (.iload 4, 2) := by decide +kernel
theorem d14_46 : decode jdk_52_method_21_code 46 = .ok (.ireturn, 1) := by decide +kernel
theorem pn_14 : plainName "java/lang/StringUTF16" = true := by first | (simp [plainName, overriddenIn]; done) | decide +kernel
theorem ef_rm14 (m : MethodId) (b1 : Addr) (b2 : Addr) (p5 : Int32) : entryFrame m #[(.ref b1), (.int (0 : Int32)), (.ref b2), (.int (0 : Int32)), (.int p5)] 7 = mkF m 0 #[.val (.ref b1), .val (.int (0 : Int32)), .val (.ref b2), .val (.int (0 : Int32)), .val (.int p5), .unset, .unset] [] := by first | (simp [entryFrame, mkF, argsToLocals, Value.category]; done) | rfl
def Q14 (Z : State) (b1 : Addr) (b2 : Addr) (p5 : Int32) (k1 : ClassId) (k2 : ClassId) (cs : List Int32) (h0 : Heap) (n0 : Nat) (v : Option Value) (h : Heap) (L : List Loc) : Prop := v = some (.int p5) ∧ Fr n0 L ∧ Keep h0 h [b2] ∧ own_Fi Z h b2 k2 cs cs.length
set_option maxRecDepth 65536 in
set_option maxHeartbeats 40000000 in
theorem rm14 (l : Launch) (Z : State) (a0 : Array Value) (hw : ∀ d ∈ tables_1, d.before a0 Z = true) (ws : List Jvm.Cond) (b1 : Addr) (b2 : Addr) (p5 : Int32) (k1 : ClassId) (k2 : ClassId) (cs : List Int32) (h0 : Heap) (n0 : Nat) (Z0 : n0 ≤ h0.size) (C1 : own_Ch Z h0 b1 k1 cs) (A2 : own_Fi Z h0 b2 k2 cs 0) (e5 : p5 = Int32.ofNat cs.length) (g_b2 : n0 ≤ b2) (ne12 : b1 ≠ b2) :
    MetFree l (⟨"java/lang/StringUTF16", "compress", "([CI[BII)I"⟩ : MethodName) (head1 (Jvm.Cond.code (⟨"java/lang/StringUTF16", "compress", "([CI[BII)I"⟩ : MethodName) jdk_52_method_21_code 7 (some .int) :: ws) ({ frames := 0, cells := 0, slots := 0, locals := 0 } : Room)) (fun a U => a = #[(.ref b1), (.int (0 : Int32)), (.ref b2), (.int (0 : Int32)), (.int p5)] ∧ Z.Warmed39 U.vm ∧ U.heap = h0) (fun _ _ _ _ _ => True) (fun _ U o U' => ∃ v L, o = .returned v ∧ Q14 Z b1 b2 p5 k1 k2 cs h0 n0 v U'.heap L ∧ FrameEnd U o U' L ({ frames := 0, cells := 0, slots := 0, locals := 0 } : Room).cells ({ frames := 0, cells := 0, slots := 0, locals := 0 } : Room).slots) := by
  refine MetFree.of_bodySF (plainFor_of_name pn_14) hisR ?_
  intro p e s m args below meth c s₁ Bd hml0 hP hK
  obtain ⟨rfl, hZ, hh⟩ := hP
  have hx := Bd.exec
  have hby := Bd.bytes
  have hml : c.maxLocals = 7 := hml0
  have hown : s.vm.findClass "java/lang/StringUTF16" = some m.cls := findClass_of_methodNamed Bd.named
  have hnm := (name_of_methodNamed Bd.named Bd.method).1
  have hlk := BodyLoose.notSynchronized Bd
  have hrt := Bd.returns
  have X0 : Stand p l e ({ frames := 0, cells := 0, slots := 0, locals := 0 } : Room) s m #[(.ref b1), (.int (0 : Int32)), (.ref b2), (.int (0 : Int32)), (.int p5)] below meth c s₁ [] 0 0 := Stand.of_body Bd
  have e0 : s₁.heap = h0 := by rw [← hh, Bd.state]; rfl
  have N0 := Fr.nil n0
  show OEnds p e below s (Q14 Z b1 b2 p5 k1 k2 cs h0 n0) ({ frames := 0, cells := 0, slots := 0, locals := 0 } : Room).cells ({ frames := 0, cells := 0, slots := 0, locals := 0 } : Room).slots (s₁.setTop (entryFrame m #[(.ref b1), (.int (0 : Int32)), (.ref b2), (.int (0 : Int32)), (.int p5)] 7))
  refine OEnds.go (t' := s₁.setTop (mkF m 0 #[.val (.ref b1), .val (.int (0 : Int32)), .val (.ref b2), .val (.int (0 : Int32)), .val (.int p5), .unset, .unset] [])) (fun t k => castTop (ef_rm14 m b1 b2 p5) k) ?_
  refine OEnds.cut (fun En => ∀ (d i : Nat) (Tj : State) (lj : List Loc) (hj : Heap) (s6 : Slot), Stand p l e ({ frames := 0, cells := 0, slots := 0, locals := 0 } : Room) s m #[(.ref b1), (.int (0 : Int32)), (.ref b2), (.int (0 : Int32)), (.int p5)] below meth c Tj lj 0 0 → Tj.heap = hj → Fr n0 lj → n0 ≤ hj.size → Keep h0 hj [b2] → own_Ch Z hj b1 k1 cs → own_Fi Z hj b2 k2 cs i → i + d = cs.length → (s6 = .unset ∨ ∃ w : Int32, s6 = .val (.int w)) → En (Tj.setTop (mkF m 3 #[.val (.ref b1), .val (.int (Int32.ofNat i)), .val (.ref b2), .val (.int (Int32.ofNat i)), .val (.int p5), .val (.int (Int32.ofNat i)), s6] []))) ?_ (fun K3 => ?_)
  · intro d
    induction d with
    | zero => 
      intro i Tj lj hj s6 Xj ej Nj Zj Kj C1 A2 hi hs6
      refine OEnds.go (t' := Tj.setTop (mkF m 7 #[.val (.ref b1), .val (.int (Int32.ofNat i)), .val (.ref b2), .val (.int (Int32.ofNat i)), .val (.int p5), .val (.int (Int32.ofNat i)), s6] [(.int p5), (.int (Int32.ofNat i))])) (fun _ k => ?_) ?_
      · show Steps p.tables e below (Tj.setTop (mkF m 3 #[.val (.ref b1), .val (.int (Int32.ofNat i)), .val (.ref b2), .val (.int (Int32.ofNat i)), .val (.int p5), .val (.int (Int32.ofNat i)), s6] [])) _
        refine XS.iload Xj.here hx rfl (hb hby d14_3) rfl ?_
        show Steps p.tables e below (Tj.setTop (mkF m 5 #[.val (.ref b1), .val (.int (Int32.ofNat i)), .val (.ref b2), .val (.int (Int32.ofNat i)), .val (.int p5), .val (.int (Int32.ofNat i)), s6] [(.int (Int32.ofNat i))])) _
        refine XS.iload Xj.here hx rfl (hb hby d14_5) rfl ?_
        show Steps p.tables e below (Tj.setTop (mkF m 7 #[.val (.ref b1), .val (.int (Int32.ofNat i)), .val (.ref b2), .val (.int (Int32.ofNat i)), .val (.int p5), .val (.int (Int32.ofNat i)), s6] [(.int p5), (.int (Int32.ofNat i))])) _
        exact k
      refine OEnds.go (t' := Tj.setTop (mkF m 44 #[.val (.ref b1), .val (.int (Int32.ofNat i)), .val (.ref b2), .val (.int (Int32.ofNat i)), .val (.int p5), .val (.int (Int32.ofNat i)), s6] [])) (fun _ k => XS.icmpYes Xj.here hx rfl (pc0 := 7) (pc' := 44) rfl (hb hby d14_7) rfl (flt (fun q => absurd ((own_ofNat_lt (by have := C1.2.1; omega) C1.2.1).mp (e5 ▸ q)) (by omega))).2.1 (by decide) (by decide) k) ?_
      refine OEnds.go (t' := Tj.setTop (mkF m 46 #[.val (.ref b1), .val (.int (Int32.ofNat i)), .val (.ref b2), .val (.int (Int32.ofNat i)), .val (.int p5), .val (.int (Int32.ofNat i)), s6] [(.int p5)])) (fun _ k => ?_) ?_
      · show Steps p.tables e below (Tj.setTop (mkF m 44 #[.val (.ref b1), .val (.int (Int32.ofNat i)), .val (.ref b2), .val (.int (Int32.ofNat i)), .val (.int p5), .val (.int (Int32.ofNat i)), s6] [])) _
        refine XS.iload Xj.here hx rfl (hb hby d14_44) rfl ?_
        show Steps p.tables e below (Tj.setTop (mkF m 46 #[.val (.ref b1), .val (.int (Int32.ofNat i)), .val (.ref b2), .val (.int (Int32.ofNat i)), .val (.int p5), .val (.int (Int32.ofNat i)), s6] [(.int p5)])) _
        exact k
      obtain rfl : i = cs.length := by omega
      refine OEnds.back Xj hlk (v := (some (.int p5))) (fun h => by rw [hrt] at h; cases h) (fun fs hr => ?_) ?_ (by decide) (by decide)
      · exact retI Xj hx hrt (hb hby d14_46) hr
      · show Q14 Z b1 b2 p5 k1 k2 cs h0 n0 _ Tj.heap _
        rw [ej]
        exact ⟨rfl, Nj, Kj, A2⟩
    | succ d ih => 
      intro i Tj lj hj s6 Xj ej Nj Zj Kj C1 A2 hi hs6
      refine OEnds.go (t' := Tj.setTop (mkF m 7 #[.val (.ref b1), .val (.int (Int32.ofNat i)), .val (.ref b2), .val (.int (Int32.ofNat i)), .val (.int p5), .val (.int (Int32.ofNat i)), s6] [(.int p5), (.int (Int32.ofNat i))])) (fun _ k => ?_) ?_
      · show Steps p.tables e below (Tj.setTop (mkF m 3 #[.val (.ref b1), .val (.int (Int32.ofNat i)), .val (.ref b2), .val (.int (Int32.ofNat i)), .val (.int p5), .val (.int (Int32.ofNat i)), s6] [])) _
        refine XS.iload Xj.here hx rfl (hb hby d14_3) rfl ?_
        show Steps p.tables e below (Tj.setTop (mkF m 5 #[.val (.ref b1), .val (.int (Int32.ofNat i)), .val (.ref b2), .val (.int (Int32.ofNat i)), .val (.int p5), .val (.int (Int32.ofNat i)), s6] [(.int (Int32.ofNat i))])) _
        refine XS.iload Xj.here hx rfl (hb hby d14_5) rfl ?_
        show Steps p.tables e below (Tj.setTop (mkF m 7 #[.val (.ref b1), .val (.int (Int32.ofNat i)), .val (.ref b2), .val (.int (Int32.ofNat i)), .val (.int p5), .val (.int (Int32.ofNat i)), s6] [(.int p5), (.int (Int32.ofNat i))])) _
        exact k
      refine OEnds.go (t' := Tj.setTop (mkF m 10 #[.val (.ref b1), .val (.int (Int32.ofNat i)), .val (.ref b2), .val (.int (Int32.ofNat i)), .val (.int p5), .val (.int (Int32.ofNat i)), s6] [])) (fun _ k => XS.icmpNo Xj.here hx rfl (hb hby d14_7) rfl (tlt (e5.symm ▸ (own_ofNat_lt (by have := C1.2.1; omega) C1.2.1).mpr (by omega))).2.1 k) ?_
      refine OEnds.go (t' := Tj.setTop (mkF m 12 #[.val (.ref b1), .val (.int (Int32.ofNat i)), .val (.ref b2), .val (.int (Int32.ofNat i)), .val (.int p5), .val (.int (Int32.ofNat i)), s6] [(.int (Int32.ofNat i)), (.ref b1)])) (fun _ k => ?_) ?_
      · show Steps p.tables e below (Tj.setTop (mkF m 10 #[.val (.ref b1), .val (.int (Int32.ofNat i)), .val (.ref b2), .val (.int (Int32.ofNat i)), .val (.int p5), .val (.int (Int32.ofNat i)), s6] [])) _
        refine XS.aloadN Xj.here hx rfl (hb hby d14_10) rfl rfl ?_
        show Steps p.tables e below (Tj.setTop (mkF m 11 #[.val (.ref b1), .val (.int (Int32.ofNat i)), .val (.ref b2), .val (.int (Int32.ofNat i)), .val (.int p5), .val (.int (Int32.ofNat i)), s6] [(.ref b1)])) _
        refine XS.iloadN Xj.here hx rfl (hb hby d14_11) rfl ?_
        show Steps p.tables e below (Tj.setTop (mkF m 12 #[.val (.ref b1), .val (.int (Int32.ofNat i)), .val (.ref b2), .val (.int (Int32.ofNat i)), .val (.int p5), .val (.int (Int32.ofNat i)), s6] [(.int (Int32.ofNat i)), (.ref b1)])) _
        exact k
      obtain ⟨cl1, Ar1, hin1, hat1⟩ := own_cread C1 (i := i) (by omega)
      refine OEnds.go (t' := Tj.setTop (mkF m 13 #[.val (.ref b1), .val (.int (Int32.ofNat i)), .val (.ref b2), .val (.int (Int32.ofNat i)), .val (.int p5), .val (.int (Int32.ofNat i)), s6] [(.int (cs.getD i 0))])) (fun _ k => Xj.caload hx (j := (Int32.ofNat i)) (v := (.int (cs.getD i 0))) (by rw [ej]; exact Ar1.1) (State.isArrayOf_alike hZ.alike Ar1.2.1) Ar1.2.2 hin1 hat1 (g := (mkF m 12 #[.val (.ref b1), .val (.int (Int32.ofNat i)), .val (.ref b2), .val (.int (Int32.ofNat i)), .val (.int p5), .val (.int (Int32.ofNat i)), s6] [(.int (Int32.ofNat i)), (.ref b1)])) rfl rfl (hb hby d14_12) _ k) ?_
      refine OEnds.go (t' := Tj.setTop (mkF m 20 #[.val (.ref b1), .val (.int (Int32.ofNat i)), .val (.ref b2), .val (.int (Int32.ofNat i)), .val (.int p5), .val (.int (Int32.ofNat i)), .val (.int (cs.getD i 0))] [(.int (255 : Int32)), (.int (cs.getD i 0))])) (fun _ k => ?_) ?_
      · show Steps p.tables e below (Tj.setTop (mkF m 13 #[.val (.ref b1), .val (.int (Int32.ofNat i)), .val (.ref b2), .val (.int (Int32.ofNat i)), .val (.int p5), .val (.int (Int32.ofNat i)), s6] [(.int (cs.getD i 0))])) _
        refine XS.istore Xj.here hx rfl (hb hby d14_13) rfl (l' := #[.val (.ref b1), .val (.int (Int32.ofNat i)), .val (.ref b2), .val (.int (Int32.ofNat i)), .val (.int p5), .val (.int (Int32.ofNat i)), .val (.int (cs.getD i 0))]) (own_s6 hs6 ⟨_, rfl⟩ ⟨_, rfl⟩ ⟨_, rfl⟩ ⟨_, rfl⟩ ⟨_, rfl⟩ ⟨_, rfl⟩) ?_
        show Steps p.tables e below (Tj.setTop (mkF m 15 #[.val (.ref b1), .val (.int (Int32.ofNat i)), .val (.ref b2), .val (.int (Int32.ofNat i)), .val (.int p5), .val (.int (Int32.ofNat i)), .val (.int (cs.getD i 0))] [])) _
        refine XS.iload Xj.here hx rfl (hb hby d14_15) rfl ?_
        show Steps p.tables e below (Tj.setTop (mkF m 17 #[.val (.ref b1), .val (.int (Int32.ofNat i)), .val (.ref b2), .val (.int (Int32.ofNat i)), .val (.int p5), .val (.int (Int32.ofNat i)), .val (.int (cs.getD i 0))] [(.int (cs.getD i 0))])) _
        refine XS.sipush Xj.here hx rfl (hb hby d14_17) ?_
        show Steps p.tables e below (Tj.setTop (mkF m 20 #[.val (.ref b1), .val (.int (Int32.ofNat i)), .val (.ref b2), .val (.int (Int32.ofNat i)), .val (.int p5), .val (.int (Int32.ofNat i)), .val (.int (cs.getD i 0))] [(.int (255 : Int32)), (.int (cs.getD i 0))])) _
        exact k
      refine OEnds.go (t' := Tj.setTop (mkF m 26 #[.val (.ref b1), .val (.int (Int32.ofNat i)), .val (.ref b2), .val (.int (Int32.ofNat i)), .val (.int p5), .val (.int (Int32.ofNat i)), .val (.int (cs.getD i 0))] [])) (fun _ k => XS.icmpYes Xj.here hx rfl (pc0 := 20) (pc' := 26) rfl (hb hby d14_20) rfl (flt (own_cle C1 (by omega))).2.2.2 (by decide) (by decide) k) ?_
      refine OEnds.go (t' := Tj.setTop (mkF m 31 #[.val (.ref b1), .val (.int (Int32.ofNat i)), .val (.ref b2), .val (.int (Int32.ofNat i)), .val (.int p5), .val (.int (Int32.ofNat i)), .val (.int (cs.getD i 0))] [(.int ((cs.getD i 0).toInt8.toInt32)), (.int (Int32.ofNat i)), (.ref b2)])) (fun _ k => ?_) ?_
      · show Steps p.tables e below (Tj.setTop (mkF m 26 #[.val (.ref b1), .val (.int (Int32.ofNat i)), .val (.ref b2), .val (.int (Int32.ofNat i)), .val (.int p5), .val (.int (Int32.ofNat i)), .val (.int (cs.getD i 0))] [])) _
        refine XS.aloadN Xj.here hx rfl (hb hby d14_26) rfl rfl ?_
        show Steps p.tables e below (Tj.setTop (mkF m 27 #[.val (.ref b1), .val (.int (Int32.ofNat i)), .val (.ref b2), .val (.int (Int32.ofNat i)), .val (.int p5), .val (.int (Int32.ofNat i)), .val (.int (cs.getD i 0))] [(.ref b2)])) _
        refine XS.iloadN Xj.here hx rfl (hb hby d14_27) rfl ?_
        show Steps p.tables e below (Tj.setTop (mkF m 28 #[.val (.ref b1), .val (.int (Int32.ofNat i)), .val (.ref b2), .val (.int (Int32.ofNat i)), .val (.int p5), .val (.int (Int32.ofNat i)), .val (.int (cs.getD i 0))] [(.int (Int32.ofNat i)), (.ref b2)])) _
        refine XS.iload Xj.here hx rfl (hb hby d14_28) rfl ?_
        show Steps p.tables e below (Tj.setTop (mkF m 30 #[.val (.ref b1), .val (.int (Int32.ofNat i)), .val (.ref b2), .val (.int (Int32.ofNat i)), .val (.int p5), .val (.int (Int32.ofNat i)), .val (.int (cs.getD i 0))] [(.int (cs.getD i 0)), (.int (Int32.ofNat i)), (.ref b2)])) _
        refine XS.i2b Xj.here hx rfl (hb hby d14_30) rfl ?_
        show Steps p.tables e below (Tj.setTop (mkF m 31 #[.val (.ref b1), .val (.int (Int32.ofNat i)), .val (.ref b2), .val (.int (Int32.ofNat i)), .val (.int p5), .val (.int (Int32.ofNat i)), .val (.int (cs.getD i 0))] [(.int ((cs.getD i 0).toInt8.toInt32)), (.int (Int32.ofNat i)), (.ref b2)])) _
        exact k
      obtain ⟨cl2, Ar2, hin2, -⟩ := own_Fi.at A2 (by omega)
      obtain ⟨T2, h2, X2, e2, W2, st2⟩ := stB Xj hx hZ ej Ar2 (j := (Int32.ofNat i)) hin2 (g := (mkF m 31 #[.val (.ref b1), .val (.int (Int32.ofNat i)), .val (.ref b2), .val (.int (Int32.ofNat i)), .val (.int p5), .val (.int (Int32.ofNat i)), .val (.int (cs.getD i 0))] [(.int ((cs.getD i 0).toInt8.toInt32)), (.int (Int32.ofNat i)), (.ref b2)])) rfl rfl (hb hby d14_31)
      have N2 := Fr.snoc X2 Nj g_b2
      have C1 := C1.other W2 ne12
      have Z2 : n0 ≤ h2.size := Nat.le_trans Zj (Keep.of_wr W2).1
      have K2 := Kj.wr W2 (Or.inl (List.mem_of_getElem? (i := 0) rfl))
      have A2 := A2.put (by omega) W2
      refine OEnds.go (t' := T2.setTop (mkF m 32 #[.val (.ref b1), .val (.int (Int32.ofNat i)), .val (.ref b2), .val (.int (Int32.ofNat i)), .val (.int p5), .val (.int (Int32.ofNat i)), .val (.int (cs.getD i 0))] [])) (fun _ k => st2 _ k) ?_
      refine OEnds.go (t' := T2.setTop (mkF m 3 #[.val (.ref b1), .val (.int ((Int32.ofNat i) + (1 : Int32))), .val (.ref b2), .val (.int ((Int32.ofNat i) + (1 : Int32))), .val (.int p5), .val (.int ((Int32.ofNat i) + (1 : Int32))), .val (.int (cs.getD i 0))] [])) (fun _ k => ?_) ?_
      · show Steps p.tables e below (T2.setTop (mkF m 32 #[.val (.ref b1), .val (.int (Int32.ofNat i)), .val (.ref b2), .val (.int (Int32.ofNat i)), .val (.int p5), .val (.int (Int32.ofNat i)), .val (.int (cs.getD i 0))] [])) _
        refine XS.iinc X2.here hx rfl (hb hby d14_32) rfl (l' := #[.val (.ref b1), .val (.int ((Int32.ofNat i) + (1 : Int32))), .val (.ref b2), .val (.int (Int32.ofNat i)), .val (.int p5), .val (.int (Int32.ofNat i)), .val (.int (cs.getD i 0))]) rfl ?_
        show Steps p.tables e below (T2.setTop (mkF m 35 #[.val (.ref b1), .val (.int ((Int32.ofNat i) + (1 : Int32))), .val (.ref b2), .val (.int (Int32.ofNat i)), .val (.int p5), .val (.int (Int32.ofNat i)), .val (.int (cs.getD i 0))] [])) _
        refine XS.iinc X2.here hx rfl (hb hby d14_35) rfl (l' := #[.val (.ref b1), .val (.int ((Int32.ofNat i) + (1 : Int32))), .val (.ref b2), .val (.int ((Int32.ofNat i) + (1 : Int32))), .val (.int p5), .val (.int (Int32.ofNat i)), .val (.int (cs.getD i 0))]) rfl ?_
        show Steps p.tables e below (T2.setTop (mkF m 38 #[.val (.ref b1), .val (.int ((Int32.ofNat i) + (1 : Int32))), .val (.ref b2), .val (.int ((Int32.ofNat i) + (1 : Int32))), .val (.int p5), .val (.int (Int32.ofNat i)), .val (.int (cs.getD i 0))] [])) _
        refine XS.iinc X2.here hx rfl (hb hby d14_38) rfl (l' := #[.val (.ref b1), .val (.int ((Int32.ofNat i) + (1 : Int32))), .val (.ref b2), .val (.int ((Int32.ofNat i) + (1 : Int32))), .val (.int p5), .val (.int ((Int32.ofNat i) + (1 : Int32))), .val (.int (cs.getD i 0))]) rfl ?_
        show Steps p.tables e below (T2.setTop (mkF m 41 #[.val (.ref b1), .val (.int ((Int32.ofNat i) + (1 : Int32))), .val (.ref b2), .val (.int ((Int32.ofNat i) + (1 : Int32))), .val (.int p5), .val (.int ((Int32.ofNat i) + (1 : Int32))), .val (.int (cs.getD i 0))] [])) _
        refine XS.goto X2.here hx rfl (pc0 := 41) (pc' := 3) rfl (hb hby d14_41) (by decide) (by decide) ?_
        show Steps p.tables e below (T2.setTop (mkF m 3 #[.val (.ref b1), .val (.int ((Int32.ofNat i) + (1 : Int32))), .val (.ref b2), .val (.int ((Int32.ofNat i) + (1 : Int32))), .val (.int p5), .val (.int ((Int32.ofNat i) + (1 : Int32))), .val (.int (cs.getD i 0))] [])) _
        exact k
      simp only [own_succ]
      exact ih (i + 1) _ _ _ _ X2 e2 N2 Z2 K2 C1 A2 (by omega) (Or.inr ⟨_, rfl⟩)
  refine OEnds.go (t' := s₁.setTop (mkF m 3 #[.val (.ref b1), .val (.int (0 : Int32)), .val (.ref b2), .val (.int (0 : Int32)), .val (.int p5), .val (.int (0 : Int32)), .unset] [])) (fun _ k => ?_) ?_
  · show Steps p.tables e below (s₁.setTop (mkF m 0 #[.val (.ref b1), .val (.int (0 : Int32)), .val (.ref b2), .val (.int (0 : Int32)), .val (.int p5), .unset, .unset] [])) _
    refine XS.iconst X0.here hx rfl (hb hby d14_0) ?_
    show Steps p.tables e below (s₁.setTop (mkF m 1 #[.val (.ref b1), .val (.int (0 : Int32)), .val (.ref b2), .val (.int (0 : Int32)), .val (.int p5), .unset, .unset] [(.int (0 : Int32))])) _
    refine XS.istore X0.here hx rfl (hb hby d14_1) rfl (l' := #[.val (.ref b1), .val (.int (0 : Int32)), .val (.ref b2), .val (.int (0 : Int32)), .val (.int p5), .val (.int (0 : Int32)), .unset]) rfl ?_
    show Steps p.tables e below (s₁.setTop (mkF m 3 #[.val (.ref b1), .val (.int (0 : Int32)), .val (.ref b2), .val (.int (0 : Int32)), .val (.int p5), .val (.int (0 : Int32)), .unset] [])) _
    exact k
  exact K3 cs.length 0 _ _ _ .unset X0 e0 N0 Z0 (Keep.refl h0 [b2]) C1 A2 (by omega) (Or.inl rfl)
theorem d13_0 : decode jdk_52_method_16_code 0 = .ok (.iload_n 2, 1) := by decide +kernel
theorem d13_1 : decode jdk_52_method_16_code 1 = .ok (.newarray .byte, 2) := by decide +kernel
theorem d13_3 : decode jdk_52_method_16_code 3 = .ok (.astore_n 3, 1) := by decide +kernel
theorem d13_4 : decode jdk_52_method_16_code 4 = .ok (.aload_n 0, 1) := by decide +kernel
theorem d13_5 : decode jdk_52_method_16_code 5 = .ok (.iload_n 1, 1) := by decide +kernel
theorem d13_6 : decode jdk_52_method_16_code 6 = .ok (.aload_n 3, 1) := by decide +kernel
theorem d13_7 : decode jdk_52_method_16_code 7 = .ok (.iconst 0, 1) := by decide +kernel
theorem d13_8 : decode jdk_52_method_16_code 8 = .ok (.iload_n 2, 1) := by decide +kernel
theorem d13_9 : decode jdk_52_method_16_code 9 = .ok (.invokestatic 115, 3) := by decide +kernel
theorem d13_12 : decode jdk_52_method_16_code 12 = .ok (.istore 4, 2) := by decide +kernel
theorem d13_14 : decode jdk_52_method_16_code 14 = .ok (.iload 4, 2) := by decide +kernel
theorem d13_16 : decode jdk_52_method_16_code 16 = .ok (.iload_n 2, 1) := by decide +kernel
theorem d13_17 : decode jdk_52_method_16_code 17 = .ok (.if_icmp .eq 40, 3) := by decide +kernel
theorem d13_57 : decode jdk_52_method_16_code 57 = .ok (.aload_n 3, 1) := by decide +kernel
theorem d13_58 : decode jdk_52_method_16_code 58 = .ok (.areturn, 1) := by decide +kernel
theorem pn_13 : plainName "java/lang/StringUTF16" = true := by first | (simp [plainName, overriddenIn]; done) | decide +kernel
theorem pd_rm13_0 : parseMethodDescriptor "([CI[BII)I" = some ⟨[(.array .char), .int, (.array .byte), .int, .int], some .int⟩ := by decide +kernel
theorem ef_rm13 (m : MethodId) (b1 : Addr) (p3 : Int32) : entryFrame m #[(.ref b1), (.int (0 : Int32)), (.int p3)] 6 = mkF m 0 #[.val (.ref b1), .val (.int (0 : Int32)), .val (.int p3), .unset, .unset, .unset] [] := by first | (simp [entryFrame, mkF, argsToLocals, Value.category]; done) | rfl
def Q13 (Z : State) (b1 : Addr) (p3 : Int32) (k1 : ClassId) (cs : List Int32) (h0 : Heap) (n0 : Nat) (v : Option Value) (h : Heap) (L : List Loc) : Prop := ∃ (b : Addr) (k : ClassId), v = some (.ref b) ∧ Fr n0 L ∧ Keep h0 h [] ∧ own_By Z h b k (cs.map own_b) ∧ h0.size ≤ b ∧ n0 ≤ b
set_option maxRecDepth 65536 in
set_option maxHeartbeats 40000000 in
theorem rm13 (l : Launch) (Z : State) (a0 : Array Value) (hw : ∀ d ∈ tables_1, d.before a0 Z = true) (ws : List Jvm.Cond) (b1 : Addr) (p3 : Int32) (k1 : ClassId) (cs : List Int32) (h0 : Heap) (n0 : Nat) (Z0 : n0 ≤ h0.size) (C1 : own_Ch Z h0 b1 k1 cs) (e3 : p3 = Int32.ofNat cs.length) (h8 : cs.length ≤ 8) :
    MetFree l (⟨"java/lang/StringUTF16", "compress", "([CII)[B"⟩ : MethodName) (head1 (Jvm.Cond.code (⟨"java/lang/StringUTF16", "compress", "([CII)[B"⟩ : MethodName) jdk_52_method_16_code 6 (some (.array .byte)) :: ws) ({ frames := 1, cells := 1, slots := 8, locals := 18 } : Room)) (fun a U => a = #[(.ref b1), (.int (0 : Int32)), (.int p3)] ∧ Z.Warmed39 U.vm ∧ U.heap = h0) (fun _ _ _ _ _ => True) (fun _ U o U' => ∃ v L, o = .returned v ∧ Q13 Z b1 p3 k1 cs h0 n0 v U'.heap L ∧ FrameEnd U o U' L ({ frames := 1, cells := 1, slots := 8, locals := 18 } : Room).cells ({ frames := 1, cells := 1, slots := 8, locals := 18 } : Room).slots) := by
  refine MetFree.of_bodySF (plainFor_of_name pn_13) hisR ?_
  intro p e s m args below meth c s₁ Bd hml0 hP hK
  obtain ⟨rfl, hZ, hh⟩ := hP
  have hx := Bd.exec
  have hby := Bd.bytes
  have hml : c.maxLocals = 6 := hml0
  have hown : s.vm.findClass "java/lang/StringUTF16" = some m.cls := findClass_of_methodNamed Bd.named
  have hnm := (name_of_methodNamed Bd.named Bd.method).1
  have hlk := BodyLoose.notSynchronized Bd
  have hrt := Bd.returns
  have X0 : Stand p l e ({ frames := 1, cells := 1, slots := 8, locals := 18 } : Room) s m #[(.ref b1), (.int (0 : Int32)), (.int p3)] below meth c s₁ [] 0 0 := Stand.of_body Bd
  have e0 : s₁.heap = h0 := by rw [← hh, Bd.state]; rfl
  have N0 := Fr.nil n0
  show OEnds p e below s (Q13 Z b1 p3 k1 cs h0 n0) ({ frames := 1, cells := 1, slots := 8, locals := 18 } : Room).cells ({ frames := 1, cells := 1, slots := 8, locals := 18 } : Room).slots (s₁.setTop (entryFrame m #[(.ref b1), (.int (0 : Int32)), (.int p3)] 6))
  refine OEnds.go (t' := s₁.setTop (mkF m 0 #[.val (.ref b1), .val (.int (0 : Int32)), .val (.int p3), .unset, .unset, .unset] [])) (fun t k => castTop (ef_rm13 m b1 p3) k) ?_
  refine OEnds.go (t' := s₁.setTop (mkF m 1 #[.val (.ref b1), .val (.int (0 : Int32)), .val (.int p3), .unset, .unset, .unset] [(.int p3)])) (fun _ k => ?_) ?_
  · show Steps p.tables e below (s₁.setTop (mkF m 0 #[.val (.ref b1), .val (.int (0 : Int32)), .val (.int p3), .unset, .unset, .unset] [])) _
    refine XS.iloadN X0.here hx rfl (hb hby d13_0) rfl ?_
    show Steps p.tables e below (s₁.setTop (mkF m 1 #[.val (.ref b1), .val (.int (0 : Int32)), .val (.int p3), .unset, .unset, .unset] [(.int p3)])) _
    exact k
  obtain ⟨T1, h1, ka1, X1, e1, E1, A1, st1⟩ := newP X0 hx hZ (hw _ (List.mem_of_getElem? (i := 3) rfl)) e0 (g := (mkF m 1 #[.val (.ref b1), .val (.int (0 : Int32)), .val (.int p3), .unset, .unset, .unset] [(.int p3)])) rfl (hb hby d13_1) rfl (e3.symm ▸ own_ofNat_nn (by omega)) (cap := 8) (by rw [e3, own_ofNat_clamp (by omega)]; exact h8) (by decide) (by decide) (by decide)
  obtain ⟨d1, gz1⟩ : ∃ z, z = h0.size := ⟨_, rfl⟩
  rw [← gz1] at A1 st1
  have ne_b1_d1 : b1 ≠ d1 := Nat.ne_of_lt (Nat.lt_of_lt_of_le C1.lt (Nat.le_of_eq gz1.symm))
  have g_d1 : n0 ≤ d1 := Nat.le_trans Z0 (Nat.le_of_eq gz1.symm)
  have sz_d1 : h0.size ≤ d1 := Nat.le_trans (Keep.refl h0 []).1 (Nat.le_of_eq gz1.symm)
  have C1 := C1.ext E1
  have Z1 : n0 ≤ h1.size := Nat.le_trans Z0 E1.1
  have K1 := (Keep.refl h0 []).ext E1
  have V_d1 : Arv Z h1 d1 ka1 .byte p3 [] (.int (0 : Int32)) := Arv.new A1 (e3.symm ▸ own_ofNat_nn (by omega))
  refine OEnds.go (t' := T1.setTop (mkF m 3 #[.val (.ref b1), .val (.int (0 : Int32)), .val (.int p3), .unset, .unset, .unset] [(.ref d1)])) (fun _ k => st1 _ k) ?_
  rw [e3] at V_d1
  have A_d1 := own_Fi.first V_d1 C1.2.1
  refine OEnds.go (t' := T1.setTop (mkF m 9 #[.val (.ref b1), .val (.int (0 : Int32)), .val (.int p3), .val (.ref d1), .unset, .unset] [(.int p3), (.int (0 : Int32)), (.ref d1), (.int (0 : Int32)), (.ref b1)])) (fun _ k => ?_) ?_
  · show Steps p.tables e below (T1.setTop (mkF m 3 #[.val (.ref b1), .val (.int (0 : Int32)), .val (.int p3), .unset, .unset, .unset] [(.ref d1)])) _
    refine XS.astoreN X1.here hx rfl (hb hby d13_3) rfl rfl (l' := #[.val (.ref b1), .val (.int (0 : Int32)), .val (.int p3), .val (.ref d1), .unset, .unset]) rfl ?_
    show Steps p.tables e below (T1.setTop (mkF m 4 #[.val (.ref b1), .val (.int (0 : Int32)), .val (.int p3), .val (.ref d1), .unset, .unset] [])) _
    refine XS.aloadN X1.here hx rfl (hb hby d13_4) rfl rfl ?_
    show Steps p.tables e below (T1.setTop (mkF m 5 #[.val (.ref b1), .val (.int (0 : Int32)), .val (.int p3), .val (.ref d1), .unset, .unset] [(.ref b1)])) _
    refine XS.iloadN X1.here hx rfl (hb hby d13_5) rfl ?_
    show Steps p.tables e below (T1.setTop (mkF m 6 #[.val (.ref b1), .val (.int (0 : Int32)), .val (.int p3), .val (.ref d1), .unset, .unset] [(.int (0 : Int32)), (.ref b1)])) _
    refine XS.aloadN X1.here hx rfl (hb hby d13_6) rfl rfl ?_
    show Steps p.tables e below (T1.setTop (mkF m 7 #[.val (.ref b1), .val (.int (0 : Int32)), .val (.int p3), .val (.ref d1), .unset, .unset] [(.ref d1), (.int (0 : Int32)), (.ref b1)])) _
    refine XS.iconst X1.here hx rfl (hb hby d13_7) ?_
    show Steps p.tables e below (T1.setTop (mkF m 8 #[.val (.ref b1), .val (.int (0 : Int32)), .val (.int p3), .val (.ref d1), .unset, .unset] [(.int (0 : Int32)), (.ref d1), (.int (0 : Int32)), (.ref b1)])) _
    refine XS.iloadN X1.here hx rfl (hb hby d13_8) rfl ?_
    show Steps p.tables e below (T1.setTop (mkF m 9 #[.val (.ref b1), .val (.int (0 : Int32)), .val (.int p3), .val (.ref d1), .unset, .unset] [(.int p3), (.int (0 : Int32)), (.ref d1), (.int (0 : Int32)), (.ref b1)])) _
    exact k
  obtain ⟨_, _, ⟨T2, L2, k2, n2⟩, -, X2, ⟨Lc2, hQ2, l2, y2, z2⟩, st2⟩ := Jvm.LawKit.callS X1 hx (y := (⟨"java/lang/StringUTF16", "compress", "([CI[BII)I"⟩ : MethodName)) hown (mvT hZ (hw _ (List.mem_of_getElem? (i := 66) rfl))) (mvT hZ (hw _ (List.mem_of_getElem? (i := 67) rfl))) (mvT hZ (hw _ (List.mem_of_getElem? (i := 64) rfl))) (mvT hZ (hw _ (List.mem_of_getElem? (i := 68) rfl))) (by decide) (backOf (W := 0) (rm14 l Z a0 hw [] b1 d1 p3 k1 ka1 cs h1 n0 Z1 C1 A_d1 e3 g_d1 ne_b1_d1) hZ (hw _ (List.mem_of_getElem? (i := 68) rfl)) (hw _ (List.mem_of_getElem? (i := 64) rfl)) (by decide) (by decide)) (g := (mkF m 9 #[.val (.ref b1), .val (.int (0 : Int32)), .val (.int p3), .val (.ref d1), .unset, .unset] [(.int p3), (.int (0 : Int32)), (.ref d1), (.int (0 : Int32)), (.ref b1)])) rfl (by rw [hml]; rfl) (argsL := [(.ref b1), (.int (0 : Int32)), (.ref d1), (.int (0 : Int32)), (.int p3)]) (rest := []) (lenOf pd_rm13_0 rfl) rfl (by show 2 * 0 + _ ≤ _; exact Nat.le_of_eq rfl) (hb hby d13_9) (fun _ _ => ⟨rfl, e1, (by decide : 1 + 0 ≤ _), (by decide : 8 + 0 ≤ _)⟩)
  dsimp only [Pt.U, Pt.locs, Pt.cells, Pt.slots] at X2 l2 y2 z2 st2 hQ2
  subst l2 y2 z2
  obtain ⟨rfl, N2q, Kc2, Ad2⟩ := hQ2
  have N2 := Fr.app N0 N2q
  have C1 := C1.keep Kc2 (ninS ne_b1_d1 nin0)
  have Z2 : n0 ≤ T2.heap.size := Nat.le_trans Z1 Kc2.1
  have K2 := K1.trans Kc2 (allS (Or.inr sz_d1) all0)
  refine OEnds.go (t' := T2.setTop (mkF m 12 #[.val (.ref b1), .val (.int (0 : Int32)), .val (.int p3), .val (.ref d1), .unset, .unset] [(.int p3)])) (fun _ k => st2 _ k) ?_
  refine OEnds.go (t' := T2.setTop (mkF m 17 #[.val (.ref b1), .val (.int (0 : Int32)), .val (.int p3), .val (.ref d1), .val (.int p3), .unset] [(.int p3), (.int p3)])) (fun _ k => ?_) ?_
  · show Steps p.tables e below (T2.setTop (mkF m 12 #[.val (.ref b1), .val (.int (0 : Int32)), .val (.int p3), .val (.ref d1), .unset, .unset] [(.int p3)])) _
    refine XS.istore X2.here hx rfl (hb hby d13_12) rfl (l' := #[.val (.ref b1), .val (.int (0 : Int32)), .val (.int p3), .val (.ref d1), .val (.int p3), .unset]) rfl ?_
    show Steps p.tables e below (T2.setTop (mkF m 14 #[.val (.ref b1), .val (.int (0 : Int32)), .val (.int p3), .val (.ref d1), .val (.int p3), .unset] [])) _
    refine XS.iload X2.here hx rfl (hb hby d13_14) rfl ?_
    show Steps p.tables e below (T2.setTop (mkF m 16 #[.val (.ref b1), .val (.int (0 : Int32)), .val (.int p3), .val (.ref d1), .val (.int p3), .unset] [(.int p3)])) _
    refine XS.iloadN X2.here hx rfl (hb hby d13_16) rfl ?_
    show Steps p.tables e below (T2.setTop (mkF m 17 #[.val (.ref b1), .val (.int (0 : Int32)), .val (.int p3), .val (.ref d1), .val (.int p3), .unset] [(.int p3), (.int p3)])) _
    exact k
  refine OEnds.go (t' := T2.setTop (mkF m 57 #[.val (.ref b1), .val (.int (0 : Int32)), .val (.int p3), .val (.ref d1), .val (.int p3), .unset] [])) (fun _ k => XS.icmpYes X2.here hx rfl (pc0 := 17) (pc' := 57) rfl (hb hby d13_17) rfl (teq rfl).1 (by decide) (by decide) k) ?_
  refine OEnds.go (t' := T2.setTop (mkF m 58 #[.val (.ref b1), .val (.int (0 : Int32)), .val (.int p3), .val (.ref d1), .val (.int p3), .unset] [(.ref d1)])) (fun _ k => ?_) ?_
  · show Steps p.tables e below (T2.setTop (mkF m 57 #[.val (.ref b1), .val (.int (0 : Int32)), .val (.int p3), .val (.ref d1), .val (.int p3), .unset] [])) _
    refine XS.aloadN X2.here hx rfl (hb hby d13_57) rfl rfl ?_
    show Steps p.tables e below (T2.setTop (mkF m 58 #[.val (.ref b1), .val (.int (0 : Int32)), .val (.int p3), .val (.ref d1), .val (.int p3), .unset] [(.ref d1)])) _
    exact k
  refine OEnds.back X2 hlk (v := (some (.ref d1))) (fun h => by rw [hrt] at h; cases h) (fun fs hr => ?_) ?_ (by decide) (by decide)
  · exact retA X2 hx hrt rfl rfl rfl (hb hby d13_58) hr
  · show Q13 Z b1 p3 k1 cs h0 n0 _ T2.heap _
    exact ⟨_, _, rfl, N2, K2, Ad2.done, sz_d1, g_d1⟩
theorem d15_0 : decode jdk_52_method_15_code 0 = .ok (.iload_n 1, 1) := by decide +kernel
theorem d15_1 : decode jdk_52_method_15_code 1 = .ok (.aload_n 0, 1) := by decide +kernel
theorem d15_2 : decode jdk_52_method_15_code 2 = .ok (.arraylength, 1) := by decide +kernel
theorem d15_3 : decode jdk_52_method_15_code 3 = .ok (.isub, 1) := by decide +kernel
theorem d15_4 : decode jdk_52_method_15_code 4 = .ok (.bipush 31, 2) := by decide +kernel
theorem d15_6 : decode jdk_52_method_15_code 6 = .ok (.iushr, 1) := by decide +kernel
theorem d15_7 : decode jdk_52_method_15_code 7 = .ok (.i2b, 1) := by decide +kernel
theorem d15_8 : decode jdk_52_method_15_code 8 = .ok (.ireturn, 1) := by decide +kernel
theorem pn_15 : plainName "java/lang/StringUTF16" = true := by first | (simp [plainName, overriddenIn]; done) | decide +kernel
theorem ef_rm15 (m : MethodId) (b1 : Addr) (p2 : Int32) : entryFrame m #[(.ref b1), (.int p2)] 2 = mkF m 0 #[.val (.ref b1), .val (.int p2)] [] := by first | (simp [entryFrame, mkF, argsToLocals, Value.category]; done) | rfl
def Q15 (Z : State) (b1 : Addr) (p2 : Int32) (k1 : ClassId) (xs : List Int32) (h0 : Heap) (n0 : Nat) (v : Option Value) (h : Heap) (L : List Loc) : Prop := v = some (.int 0) ∧ Fr n0 L ∧ h = h0
set_option maxRecDepth 65536 in
set_option maxHeartbeats 40000000 in
theorem rm15 (l : Launch) (Z : State) (a0 : Array Value) (hw : ∀ d ∈ tables_1, d.before a0 Z = true) (ws : List Jvm.Cond) (b1 : Addr) (p2 : Int32) (k1 : ClassId) (xs : List Int32) (h0 : Heap) (n0 : Nat) (Z0 : n0 ≤ h0.size) (V1 : own_By Z h0 b1 k1 xs) (e2 : p2 = Int32.ofNat xs.length) :
    MetFree l (⟨"java/lang/StringUTF16", "coderFromArrayLen", "([BI)B"⟩ : MethodName) (head1 (Jvm.Cond.code (⟨"java/lang/StringUTF16", "coderFromArrayLen", "([BI)B"⟩ : MethodName) jdk_52_method_15_code 2 (some .byte) :: ws) ({ frames := 0, cells := 0, slots := 0, locals := 0 } : Room)) (fun a U => a = #[(.ref b1), (.int p2)] ∧ Z.Warmed39 U.vm ∧ U.heap = h0) (fun _ _ _ _ _ => True) (fun _ U o U' => ∃ v L, o = .returned v ∧ Q15 Z b1 p2 k1 xs h0 n0 v U'.heap L ∧ FrameEnd U o U' L ({ frames := 0, cells := 0, slots := 0, locals := 0 } : Room).cells ({ frames := 0, cells := 0, slots := 0, locals := 0 } : Room).slots) := by
  refine MetFree.of_bodySF (plainFor_of_name pn_15) hisR ?_
  intro p e s m args below meth c s₁ Bd hml0 hP hK
  obtain ⟨rfl, hZ, hh⟩ := hP
  have hx := Bd.exec
  have hby := Bd.bytes
  have hml : c.maxLocals = 2 := hml0
  have hown : s.vm.findClass "java/lang/StringUTF16" = some m.cls := findClass_of_methodNamed Bd.named
  have hnm := (name_of_methodNamed Bd.named Bd.method).1
  have hlk := BodyLoose.notSynchronized Bd
  have hrt := Bd.returns
  have X0 : Stand p l e ({ frames := 0, cells := 0, slots := 0, locals := 0 } : Room) s m #[(.ref b1), (.int p2)] below meth c s₁ [] 0 0 := Stand.of_body Bd
  have e0 : s₁.heap = h0 := by rw [← hh, Bd.state]; rfl
  have N0 := Fr.nil n0
  show OEnds p e below s (Q15 Z b1 p2 k1 xs h0 n0) ({ frames := 0, cells := 0, slots := 0, locals := 0 } : Room).cells ({ frames := 0, cells := 0, slots := 0, locals := 0 } : Room).slots (s₁.setTop (entryFrame m #[(.ref b1), (.int p2)] 2))
  refine OEnds.go (t' := s₁.setTop (mkF m 0 #[.val (.ref b1), .val (.int p2)] [])) (fun t k => castTop (ef_rm15 m b1 p2) k) ?_
  refine OEnds.go (t' := s₁.setTop (mkF m 2 #[.val (.ref b1), .val (.int p2)] [(.ref b1), (.int p2)])) (fun _ k => ?_) ?_
  · show Steps p.tables e below (s₁.setTop (mkF m 0 #[.val (.ref b1), .val (.int p2)] [])) _
    refine XS.iloadN X0.here hx rfl (hb hby d15_0) rfl ?_
    show Steps p.tables e below (s₁.setTop (mkF m 1 #[.val (.ref b1), .val (.int p2)] [(.int p2)])) _
    refine XS.aloadN X0.here hx rfl (hb hby d15_1) rfl rfl ?_
    show Steps p.tables e below (s₁.setTop (mkF m 2 #[.val (.ref b1), .val (.int p2)] [(.ref b1), (.int p2)])) _
    exact k
  obtain ⟨cl1, Ar1, hl1⟩ := own_blen V1
  refine OEnds.go (t' := s₁.setTop (mkF m 3 #[.val (.ref b1), .val (.int p2)] [(.int cl1.slots.size.toInt32), (.int p2)])) (fun _ k => X0.arraylength hx (by rw [e0]; exact Ar1.1) (State.isArrayOf_alike hZ.alike Ar1.2.1) (g := (mkF m 2 #[.val (.ref b1), .val (.int p2)] [(.ref b1), (.int p2)])) rfl rfl (hb hby d15_2) _ k) ?_
  rw [hl1]
  rw [← e2]
  refine OEnds.go (t' := s₁.setTop (mkF m 8 #[.val (.ref b1), .val (.int p2)] [(.int ((((p2 - p2).toUInt32 >>> ((31 : Int32) &&& 31).toUInt32).toInt32).toInt8.toInt32))])) (fun _ k => ?_) ?_
  · show Steps p.tables e below (s₁.setTop (mkF m 3 #[.val (.ref b1), .val (.int p2)] [(.int p2), (.int p2)])) _
    refine XS.isub X0.here hx rfl (hb hby d15_3) rfl ?_
    show Steps p.tables e below (s₁.setTop (mkF m 4 #[.val (.ref b1), .val (.int p2)] [(.int (p2 - p2))])) _
    refine XS.bipush X0.here hx rfl (hb hby d15_4) ?_
    show Steps p.tables e below (s₁.setTop (mkF m 6 #[.val (.ref b1), .val (.int p2)] [(.int (31 : Int32)), (.int (p2 - p2))])) _
    refine XS.iushr X0.here hx rfl (hb hby d15_6) rfl ?_
    show Steps p.tables e below (s₁.setTop (mkF m 7 #[.val (.ref b1), .val (.int p2)] [(.int (((p2 - p2).toUInt32 >>> ((31 : Int32) &&& 31).toUInt32).toInt32))])) _
    refine XS.i2b X0.here hx rfl (hb hby d15_7) rfl ?_
    show Steps p.tables e below (s₁.setTop (mkF m 8 #[.val (.ref b1), .val (.int p2)] [(.int ((((p2 - p2).toUInt32 >>> ((31 : Int32) &&& 31).toUInt32).toInt32).toInt8.toInt32))])) _
    exact k
  rw [own_cfa]
  refine OEnds.back X0 hlk (v := (some (.int (0 : Int32)))) (fun h => by rw [hrt] at h; cases h) (fun fs hr => ?_) ?_ (by decide) (by decide)
  · exact retN X0 hx (t := .byte) hrt (by simp) (hb hby d15_8) hr
  · show Q15 Z b1 p2 k1 xs h0 n0 _ s₁.heap _
    rw [e0]
    exact ⟨rfl, N0, rfl⟩
theorem d11_0 : decode jdk_42_method_149_code 0 = .ok (.aload_n 0, 1) := by decide +kernel
theorem d11_1 : decode jdk_42_method_149_code 1 = .ok (.invokespecial 1, 3) := by decide +kernel
theorem d11_4 : decode jdk_42_method_149_code 4 = .ok (.iload_n 3, 1) := by decide +kernel
theorem d11_5 : decode jdk_42_method_149_code 5 = .ok (.ifCond .ne 22, 3) := by decide +kernel
theorem d11_27 : decode jdk_42_method_149_code 27 = .ok (.getstatic 38, 3) := by decide +kernel
theorem d11_30 : decode jdk_42_method_149_code 30 = .ok (.ifCond .eq 28, 3) := by decide +kernel
theorem d11_33 : decode jdk_42_method_149_code 33 = .ok (.aload_n 1, 1) := by decide +kernel
theorem d11_34 : decode jdk_42_method_149_code 34 = .ok (.iload_n 2, 1) := by decide +kernel
theorem d11_35 : decode jdk_42_method_149_code 35 = .ok (.iload_n 3, 1) := by decide +kernel
theorem d11_36 : decode jdk_42_method_149_code 36 = .ok (.invokestatic 177, 3) := by decide +kernel
theorem d11_39 : decode jdk_42_method_149_code 39 = .ok (.astore 5, 2) := by decide +kernel
theorem d11_41 : decode jdk_42_method_149_code 41 = .ok (.aload_n 0, 1) := by decide +kernel
theorem d11_42 : decode jdk_42_method_149_code 42 = .ok (.aload 5, 2) := by decide +kernel
theorem d11_44 : decode jdk_42_method_149_code 44 = .ok (.iload_n 3, 1) := by decide +kernel
theorem d11_45 : decode jdk_42_method_149_code 45 = .ok (.invokestatic 47, 3) := by decide +kernel
theorem d11_48 : decode jdk_42_method_149_code 48 = .ok (.putfield 15, 3) := by decide +kernel
theorem d11_51 : decode jdk_42_method_149_code 51 = .ok (.aload_n 0, 1) := by decide +kernel
theorem d11_52 : decode jdk_42_method_149_code 52 = .ok (.aload 5, 2) := by decide +kernel
theorem d11_54 : decode jdk_42_method_149_code 54 = .ok (.putfield 9, 3) := by decide +kernel
theorem d11_57 : decode jdk_42_method_149_code 57 = .ok (.return_, 1) := by decide +kernel
theorem pn_11 : plainName "java/lang/String" = true := by first | (simp [plainName, overriddenIn]; done) | decide +kernel
theorem pd_rm11_0 : parseMethodDescriptor "([CII)[B" = some ⟨[(.array .char), .int, .int], some (.array .byte)⟩ := by decide +kernel
theorem pd_rm11_1 : parseMethodDescriptor "([BI)B" = some ⟨[(.array .byte), .int], some .byte⟩ := by decide +kernel
theorem ef_rm11 (m : MethodId) (a1 : Addr) (b1 : Addr) (p3 : Int32) : entryFrame m #[(.ref a1), (.ref b1), (.int (0 : Int32)), (.int p3), .null] 6 = mkF m 0 #[.val (.ref a1), .val (.ref b1), .val (.int (0 : Int32)), .val (.int p3), .val .null, .unset] [] := by first | (simp [entryFrame, mkF, argsToLocals, Value.category]; done) | rfl
def Q11 (Z : State) (a1 : Addr) (b1 : Addr) (p3 : Int32) (w1 : Int32) (k1 : ClassId) (cs : List Int32) (h0 : Heap) (n0 : Nat) (v : Option Value) (h : Heap) (L : List Loc) : Prop := v = none ∧ Fr n0 L ∧ Keep h0 h [a1] ∧ ∃ (b : Addr) (k : ClassId), own_S Z h a1 b k (cs.map own_b)
set_option maxRecDepth 65536 in
set_option maxHeartbeats 40000000 in
theorem rm11 (l : Launch) (Z : State) (a0 : Array Value) (hw : ∀ d ∈ tables_1, d.before a0 Z = true) (ws : List Jvm.Cond) (a1 : Addr) (b1 : Addr) (p3 : Int32) (w1 : Int32) (k1 : ClassId) (cs : List Int32) (h0 : Heap) (n0 : Nat) (Z0 : n0 ≤ h0.size) (S_C : Sta Z h0 "java/lang/String" "COMPACT_STRINGS" "Z" (.int w1)) (c0 : ¬ w1 = 0) (F_value_a1 : Fld Z h0 a1 "java/lang/String" "value" "[B" .null) (F_coder_a1 : Fld Z h0 a1 "java/lang/String" "coder" "B" (.int (0 : Int32))) (E_a1 : Exa Z h0 a1 "java/lang/String") (g_a1 : n0 ≤ a1) (C1 : own_Ch Z h0 b1 k1 cs) (e3 : p3 = Int32.ofNat cs.length) (h8 : cs.length ≤ 8) (hp : ¬ p3 = 0) :
    MetFree l (⟨"java/lang/String", "<init>", "([CIILjava/lang/Void;)V"⟩ : MethodName) (head1 (Jvm.Cond.code (⟨"java/lang/String", "<init>", "([CIILjava/lang/Void;)V"⟩ : MethodName) jdk_42_method_149_code 6 none :: ws) ({ frames := 2, cells := 1, slots := 8, locals := 35 } : Room)) (fun a U => a = #[(.ref a1), (.ref b1), (.int (0 : Int32)), (.int p3), .null] ∧ Z.Warmed39 U.vm ∧ U.heap = h0) (fun _ _ _ _ _ => True) (fun _ U o U' => ∃ v L, o = .returned v ∧ Q11 Z a1 b1 p3 w1 k1 cs h0 n0 v U'.heap L ∧ FrameEnd U o U' L ({ frames := 2, cells := 1, slots := 8, locals := 35 } : Room).cells ({ frames := 2, cells := 1, slots := 8, locals := 35 } : Room).slots) := by
  refine MetFree.of_bodySF (plainFor_of_name pn_11) hisR ?_
  intro p e s m args below meth c s₁ Bd hml0 hP hK
  obtain ⟨rfl, hZ, hh⟩ := hP
  have hx := Bd.exec
  have hby := Bd.bytes
  have hml : c.maxLocals = 6 := hml0
  have hown : s.vm.findClass "java/lang/String" = some m.cls := findClass_of_methodNamed Bd.named
  have hnm := (name_of_methodNamed Bd.named Bd.method).1
  have hlk := BodyLoose.notSynchronized Bd
  have hrt := Bd.returns
  have X0 : Stand p l e ({ frames := 2, cells := 1, slots := 8, locals := 35 } : Room) s m #[(.ref a1), (.ref b1), (.int (0 : Int32)), (.int p3), .null] below meth c s₁ [] 0 0 := Stand.of_body Bd
  have e0 : s₁.heap = h0 := by rw [← hh, Bd.state]; rfl
  have N0 := Fr.nil n0
  show OEnds p e below s (Q11 Z a1 b1 p3 w1 k1 cs h0 n0) ({ frames := 2, cells := 1, slots := 8, locals := 35 } : Room).cells ({ frames := 2, cells := 1, slots := 8, locals := 35 } : Room).slots (s₁.setTop (entryFrame m #[(.ref a1), (.ref b1), (.int (0 : Int32)), (.int p3), .null] 6))
  refine OEnds.go (t' := s₁.setTop (mkF m 0 #[.val (.ref a1), .val (.ref b1), .val (.int (0 : Int32)), .val (.int p3), .val .null, .unset] [])) (fun t k => castTop (ef_rm11 m a1 b1 p3) k) ?_
  have lt_a1 := E_a1.lt
  refine OEnds.go (t' := s₁.setTop (mkF m 1 #[.val (.ref a1), .val (.ref b1), .val (.int (0 : Int32)), .val (.int p3), .val .null, .unset] [(.ref a1)])) (fun _ k => ?_) ?_
  · show Steps p.tables e below (s₁.setTop (mkF m 0 #[.val (.ref a1), .val (.ref b1), .val (.int (0 : Int32)), .val (.int p3), .val .null, .unset] [])) _
    refine XS.aloadN X0.here hx rfl (hb hby d11_0) rfl rfl ?_
    show Steps p.tables e below (s₁.setTop (mkF m 1 #[.val (.ref a1), .val (.ref b1), .val (.int (0 : Int32)), .val (.int p3), .val .null, .unset] [(.ref a1)])) _
    exact k
  obtain ⟨T1, X1, e1, st1⟩ := initO X0 hx hZ hown (hw _ (List.mem_of_getElem? (i := 59) rfl)) (hw _ (List.mem_of_getElem? (i := 60) rfl)) (hw _ (List.mem_of_getElem? (i := 61) rfl)) e0 (g := (mkF m 1 #[.val (.ref a1), .val (.ref b1), .val (.int (0 : Int32)), .val (.int p3), .val .null, .unset] [(.ref a1)])) rfl (by rw [hml]; rfl) rfl (hb hby d11_1) (by decide) (W := 0) (by show 2 * 0 + _ ≤ _; exact Nat.le_of_eq rfl) (by decide)
  refine OEnds.go (t' := T1.setTop (mkF m 4 #[.val (.ref a1), .val (.ref b1), .val (.int (0 : Int32)), .val (.int p3), .val .null, .unset] [])) (fun _ k => st1 _ k) ?_
  refine OEnds.go (t' := T1.setTop (mkF m 5 #[.val (.ref a1), .val (.ref b1), .val (.int (0 : Int32)), .val (.int p3), .val .null, .unset] [(.int p3)])) (fun _ k => ?_) ?_
  · show Steps p.tables e below (T1.setTop (mkF m 4 #[.val (.ref a1), .val (.ref b1), .val (.int (0 : Int32)), .val (.int p3), .val .null, .unset] [])) _
    refine XS.iloadN X1.here hx rfl (hb hby d11_4) rfl ?_
    show Steps p.tables e below (T1.setTop (mkF m 5 #[.val (.ref a1), .val (.ref b1), .val (.int (0 : Int32)), .val (.int p3), .val .null, .unset] [(.int p3)])) _
    exact k
  refine OEnds.go (t' := T1.setTop (mkF m 27 #[.val (.ref a1), .val (.ref b1), .val (.int (0 : Int32)), .val (.int p3), .val .null, .unset] [])) (fun _ k => XS.ifYes X1.here hx rfl (pc0 := 5) (pc' := 27) rfl (hb hby d11_5) rfl ((if0 _ _).trans (feq hp).2) (by decide) (by decide) k) ?_
  obtain ⟨T2, X2, e2, st2⟩ := getS2 X1 hx hZ hown (host := "") (Or.inl (hw _ (List.mem_of_getElem? (i := 19) rfl))) Via.refl e1 S_C (g := (mkF m 27 #[.val (.ref a1), .val (.ref b1), .val (.int (0 : Int32)), .val (.int p3), .val .null, .unset] [])) rfl (hb hby d11_27)
  refine OEnds.go (t' := T2.setTop (mkF m 30 #[.val (.ref a1), .val (.ref b1), .val (.int (0 : Int32)), .val (.int p3), .val .null, .unset] [(.int w1)])) (fun _ k => st2 _ k) ?_
  refine OEnds.go (t' := T2.setTop (mkF m 33 #[.val (.ref a1), .val (.ref b1), .val (.int (0 : Int32)), .val (.int p3), .val .null, .unset] [])) (fun _ k => XS.ifNo X2.here hx rfl (hb hby d11_30) rfl ((if0 _ _).trans (feq c0).1) k) ?_
  refine OEnds.go (t' := T2.setTop (mkF m 36 #[.val (.ref a1), .val (.ref b1), .val (.int (0 : Int32)), .val (.int p3), .val .null, .unset] [(.int p3), (.int (0 : Int32)), (.ref b1)])) (fun _ k => ?_) ?_
  · show Steps p.tables e below (T2.setTop (mkF m 33 #[.val (.ref a1), .val (.ref b1), .val (.int (0 : Int32)), .val (.int p3), .val .null, .unset] [])) _
    refine XS.aloadN X2.here hx rfl (hb hby d11_33) rfl rfl ?_
    show Steps p.tables e below (T2.setTop (mkF m 34 #[.val (.ref a1), .val (.ref b1), .val (.int (0 : Int32)), .val (.int p3), .val .null, .unset] [(.ref b1)])) _
    refine XS.iloadN X2.here hx rfl (hb hby d11_34) rfl ?_
    show Steps p.tables e below (T2.setTop (mkF m 35 #[.val (.ref a1), .val (.ref b1), .val (.int (0 : Int32)), .val (.int p3), .val .null, .unset] [(.int (0 : Int32)), (.ref b1)])) _
    refine XS.iloadN X2.here hx rfl (hb hby d11_35) rfl ?_
    show Steps p.tables e below (T2.setTop (mkF m 36 #[.val (.ref a1), .val (.ref b1), .val (.int (0 : Int32)), .val (.int p3), .val .null, .unset] [(.int p3), (.int (0 : Int32)), (.ref b1)])) _
    exact k
  obtain ⟨_, _, ⟨T3, L3, k3, n3⟩, -, X3, ⟨Lc3, hQ3, l3, y3, z3⟩, st3⟩ := Jvm.LawKit.callS X2 hx (y := (⟨"java/lang/StringUTF16", "compress", "([CII)[B"⟩ : MethodName)) hown (mvT hZ (hw _ (List.mem_of_getElem? (i := 62) rfl))) (mvT hZ (hw _ (List.mem_of_getElem? (i := 63) rfl))) (mvT hZ (hw _ (List.mem_of_getElem? (i := 64) rfl))) (mvT hZ (hw _ (List.mem_of_getElem? (i := 65) rfl))) (by decide) (backOf (W := 0) (rm13 l Z a0 hw [] b1 p3 k1 cs h0 n0 Z0 C1 e3 h8) hZ (hw _ (List.mem_of_getElem? (i := 65) rfl)) (hw _ (List.mem_of_getElem? (i := 64) rfl)) (by decide) (by decide)) (g := (mkF m 36 #[.val (.ref a1), .val (.ref b1), .val (.int (0 : Int32)), .val (.int p3), .val .null, .unset] [(.int p3), (.int (0 : Int32)), (.ref b1)])) rfl (by rw [hml]; rfl) (argsL := [(.ref b1), (.int (0 : Int32)), (.int p3)]) (rest := []) (lenOf pd_rm11_0 rfl) rfl (by show 2 * 0 + _ ≤ _; exact Nat.le_of_eq rfl) (hb hby d11_36) (fun _ _ => ⟨rfl, e2, (by decide : 0 + 1 ≤ _), (by decide : 0 + 8 ≤ _)⟩)
  dsimp only [Pt.U, Pt.locs, Pt.cells, Pt.slots] at X3 l3 y3 z3 st3 hQ3
  subst l3 y3 z3
  obtain ⟨d3, kd3, rfl, N3q, Kc3, V3, sz3, g3⟩ := hQ3
  have N3 := Fr.app N0 N3q
  have E_a1 := E_a1.keep Kc3
  have F_value_a1 := F_value_a1.keep Kc3 nin0
  have F_coder_a1 := F_coder_a1.keep Kc3 nin0
  have Z3 : n0 ≤ T3.heap.size := Nat.le_trans Z0 Kc3.1
  have K3 := (Keep.refl h0 [a1]).trans Kc3 all0
  refine OEnds.go (t' := T3.setTop (mkF m 39 #[.val (.ref a1), .val (.ref b1), .val (.int (0 : Int32)), .val (.int p3), .val .null, .unset] [(.ref d3)])) (fun _ k => st3 _ k) ?_
  have ne_a1_d : a1 ≠ d3 := Nat.ne_of_lt (Nat.lt_of_lt_of_le lt_a1 sz3)
  refine OEnds.go (t' := T3.setTop (mkF m 45 #[.val (.ref a1), .val (.ref b1), .val (.int (0 : Int32)), .val (.int p3), .val .null, .val (.ref d3)] [(.int p3), (.ref d3), (.ref a1)])) (fun _ k => ?_) ?_
  · show Steps p.tables e below (T3.setTop (mkF m 39 #[.val (.ref a1), .val (.ref b1), .val (.int (0 : Int32)), .val (.int p3), .val .null, .unset] [(.ref d3)])) _
    refine XS.astore X3.here hx rfl (hb hby d11_39) rfl rfl (l' := #[.val (.ref a1), .val (.ref b1), .val (.int (0 : Int32)), .val (.int p3), .val .null, .val (.ref d3)]) rfl ?_
    show Steps p.tables e below (T3.setTop (mkF m 41 #[.val (.ref a1), .val (.ref b1), .val (.int (0 : Int32)), .val (.int p3), .val .null, .val (.ref d3)] [])) _
    refine XS.aloadN X3.here hx rfl (hb hby d11_41) rfl rfl ?_
    show Steps p.tables e below (T3.setTop (mkF m 42 #[.val (.ref a1), .val (.ref b1), .val (.int (0 : Int32)), .val (.int p3), .val .null, .val (.ref d3)] [(.ref a1)])) _
    refine XS.aload X3.here hx rfl (hb hby d11_42) rfl rfl ?_
    show Steps p.tables e below (T3.setTop (mkF m 44 #[.val (.ref a1), .val (.ref b1), .val (.int (0 : Int32)), .val (.int p3), .val .null, .val (.ref d3)] [(.ref d3), (.ref a1)])) _
    refine XS.iloadN X3.here hx rfl (hb hby d11_44) rfl ?_
    show Steps p.tables e below (T3.setTop (mkF m 45 #[.val (.ref a1), .val (.ref b1), .val (.int (0 : Int32)), .val (.int p3), .val .null, .val (.ref d3)] [(.int p3), (.ref d3), (.ref a1)])) _
    exact k
  obtain ⟨_, _, ⟨T4, L4, k4, n4⟩, -, X4, ⟨Lc4, hQ4, l4, y4, z4⟩, st4⟩ := Jvm.LawKit.callS X3 hx (y := (⟨"java/lang/StringUTF16", "coderFromArrayLen", "([BI)B"⟩ : MethodName)) hown (mvT hZ (hw _ (List.mem_of_getElem? (i := 69) rfl))) (mvT hZ (hw _ (List.mem_of_getElem? (i := 70) rfl))) (mvT hZ (hw _ (List.mem_of_getElem? (i := 64) rfl))) (mvT hZ (hw _ (List.mem_of_getElem? (i := 71) rfl))) (by decide) (backOf (W := 1) (rm15 l Z a0 hw [] d3 p3 kd3 (cs.map own_b) T3.heap n0 Z3 V3 (by rw [List.length_map]; exact e3)) hZ (hw _ (List.mem_of_getElem? (i := 71) rfl)) (hw _ (List.mem_of_getElem? (i := 64) rfl)) (by decide) (by decide)) (g := (mkF m 45 #[.val (.ref a1), .val (.ref b1), .val (.int (0 : Int32)), .val (.int p3), .val .null, .val (.ref d3)] [(.int p3), (.ref d3), (.ref a1)])) rfl (by rw [hml]; rfl) (argsL := [(.ref d3), (.int p3)]) (rest := [(.ref a1)]) (lenOf pd_rm11_1 rfl) rfl (by show 2 * 0 + _ ≤ _; exact Nat.le_of_eq rfl) (hb hby d11_45) (fun _ _ => ⟨rfl, rfl, (by decide : 1 + 0 ≤ _), (by decide : 8 + 0 ≤ _)⟩)
  dsimp only [Pt.U, Pt.locs, Pt.cells, Pt.slots] at X4 l4 y4 z4 st4 hQ4
  subst l4 y4 z4
  obtain ⟨rfl, N4q, eh⟩ := hQ4
  have N4 := Fr.app N3 N4q
  have eh4 := eh
  refine OEnds.go (t' := T4.setTop (mkF m 48 #[.val (.ref a1), .val (.ref b1), .val (.int (0 : Int32)), .val (.int p3), .val .null, .val (.ref d3)] [(.int (0 : Int32)), (.ref a1)])) (fun _ k => st4 _ k) ?_
  obtain ⟨T5, h5, X5, e5, W5, st5⟩ := putFN X4 hx hZ hown (hw _ (List.mem_of_getElem? (i := 20) rfl)) Via.refl eh4 F_coder_a1 E_a1 (Or.inr ⟨(hw _ (List.mem_of_getElem? (i := 5) rfl)), rfl, hnm⟩) (hw _ (List.mem_of_getElem? (i := 2) rfl)) (ty := .byte) (v' := (.int (0 : Int32))) (by decide) rfl rfl (g := (mkF m 48 #[.val (.ref a1), .val (.ref b1), .val (.int (0 : Int32)), .val (.int p3), .val .null, .val (.ref d3)] [(.int (0 : Int32)), (.ref a1)])) rfl rfl (hb hby d11_48)
  have N5 := Fr.snoc X5 N4 g_a1
  have E_a1 := E_a1.wr W5
  have F_value_a1 := F_value_a1.other W5 (Or.inr (slot_ne (Or.inr (hw _ (List.mem_of_getElem? (i := 4) rfl))) (Or.inr (hw _ (List.mem_of_getElem? (i := 5) rfl))) (by decide) (t := (.array .byte)) (t' := .byte) (by decide) (by decide)))
  have F_coder_a1 := F_coder_a1.same W5
  have V3 := V3.other W5 (Ne.symm ne_a1_d)
  have Z5 : n0 ≤ h5.size := Nat.le_trans Z3 (Keep.of_wr W5).1
  have K5 := K3.wr W5 (Or.inl (List.mem_of_getElem? (i := 0) rfl))
  refine OEnds.go (t' := T5.setTop (mkF m 51 #[.val (.ref a1), .val (.ref b1), .val (.int (0 : Int32)), .val (.int p3), .val .null, .val (.ref d3)] [])) (fun _ k => st5 _ k) ?_
  refine OEnds.go (t' := T5.setTop (mkF m 54 #[.val (.ref a1), .val (.ref b1), .val (.int (0 : Int32)), .val (.int p3), .val .null, .val (.ref d3)] [(.ref d3), (.ref a1)])) (fun _ k => ?_) ?_
  · show Steps p.tables e below (T5.setTop (mkF m 51 #[.val (.ref a1), .val (.ref b1), .val (.int (0 : Int32)), .val (.int p3), .val .null, .val (.ref d3)] [])) _
    refine XS.aloadN X5.here hx rfl (hb hby d11_51) rfl rfl ?_
    show Steps p.tables e below (T5.setTop (mkF m 52 #[.val (.ref a1), .val (.ref b1), .val (.int (0 : Int32)), .val (.int p3), .val .null, .val (.ref d3)] [(.ref a1)])) _
    refine XS.aload X5.here hx rfl (hb hby d11_52) rfl rfl ?_
    show Steps p.tables e below (T5.setTop (mkF m 54 #[.val (.ref a1), .val (.ref b1), .val (.int (0 : Int32)), .val (.int p3), .val .null, .val (.ref d3)] [(.ref d3), (.ref a1)])) _
    exact k
  obtain ⟨T6, h6, X6, e6, W6, st6⟩ := putF X5 hx hZ hown (host := "") (Or.inl (hw _ (List.mem_of_getElem? (i := 13) rfl))) Via.refl e5 F_value_a1 E_a1 (Or.inr ⟨(hw _ (List.mem_of_getElem? (i := 4) rfl)), rfl, hnm⟩) (hw _ (List.mem_of_getElem? (i := 2) rfl)) (ty := (.array .byte)) (by decide) rfl rfl (g := (mkF m 54 #[.val (.ref a1), .val (.ref b1), .val (.int (0 : Int32)), .val (.int p3), .val .null, .val (.ref d3)] [(.ref d3), (.ref a1)])) rfl rfl (hb hby d11_54)
  have N6 := Fr.snoc X6 N5 g_a1
  have E_a1 := E_a1.wr W6
  have F_value_a1 := F_value_a1.same W6
  have F_coder_a1 := F_coder_a1.other W6 (Or.inr (slot_ne (Or.inr (hw _ (List.mem_of_getElem? (i := 5) rfl))) (Or.inr (hw _ (List.mem_of_getElem? (i := 4) rfl))) (by decide) (t := .byte) (t' := (.array .byte)) (by decide) (by decide)))
  have V3 := V3.other W6 (Ne.symm ne_a1_d)
  have Z6 : n0 ≤ h6.size := Nat.le_trans Z5 (Keep.of_wr W6).1
  have K6 := K5.wr W6 (Or.inl (List.mem_of_getElem? (i := 0) rfl))
  refine OEnds.go (t' := T6.setTop (mkF m 57 #[.val (.ref a1), .val (.ref b1), .val (.int (0 : Int32)), .val (.int p3), .val .null, .val (.ref d3)] [])) (fun _ k => st6 _ k) ?_
  refine OEnds.back X6 hlk (v := none) (fun _ => rfl) (fun fs hr => ?_) ?_ (by decide) (by decide)
  · exact X6.returnOut hx hrt (hb hby d11_57) hr
  · show Q11 Z a1 b1 p3 w1 k1 cs h0 n0 _ T6.heap _
    rw [e6]
    exact ⟨rfl, N6, K6, _, _, E_a1, F_coder_a1, F_value_a1, V3⟩
theorem d10_0 : decode jdk_42_method_3_code 0 = .ok (.aload_n 0, 1) := by decide +kernel
theorem d10_1 : decode jdk_42_method_3_code 1 = .ok (.aload_n 1, 1) := by decide +kernel
theorem d10_2 : decode jdk_42_method_3_code 2 = .ok (.iconst 0, 1) := by decide +kernel
theorem d10_3 : decode jdk_42_method_3_code 3 = .ok (.aload_n 1, 1) := by decide +kernel
theorem d10_4 : decode jdk_42_method_3_code 4 = .ok (.arraylength, 1) := by decide +kernel
theorem d10_5 : decode jdk_42_method_3_code 5 = .ok (.aconst_null, 1) := by decide +kernel
theorem d10_6 : decode jdk_42_method_3_code 6 = .ok (.invokespecial 27, 3) := by decide +kernel
theorem d10_9 : decode jdk_42_method_3_code 9 = .ok (.return_, 1) := by decide +kernel
theorem pn_10 : plainName "java/lang/String" = true := by first | (simp [plainName, overriddenIn]; done) | decide +kernel
theorem pd_rm10_0 : parseMethodDescriptor "([CIILjava/lang/Void;)V" = some ⟨[(.array .char), .int, .int, (.object "java/lang/Void")], none⟩ := by decide +kernel
theorem ef_rm10 (m : MethodId) (a1 : Addr) (b1 : Addr) : entryFrame m #[(.ref a1), (.ref b1)] 2 = mkF m 0 #[.val (.ref a1), .val (.ref b1)] [] := by first | (simp [entryFrame, mkF, argsToLocals, Value.category]; done) | rfl
def Q10 (Z : State) (a1 : Addr) (b1 : Addr) (w1 : Int32) (k1 : ClassId) (cs : List Int32) (h0 : Heap) (n0 : Nat) (v : Option Value) (h : Heap) (L : List Loc) : Prop := v = none ∧ Fr n0 L ∧ Keep h0 h [a1] ∧ ∃ (b : Addr) (k : ClassId), own_S Z h a1 b k (cs.map own_b)
set_option maxRecDepth 65536 in
set_option maxHeartbeats 40000000 in
theorem rm10 (l : Launch) (Z : State) (a0 : Array Value) (hw : ∀ d ∈ tables_1, d.before a0 Z = true) (ws : List Jvm.Cond) (a1 : Addr) (b1 : Addr) (w1 : Int32) (k1 : ClassId) (cs : List Int32) (h0 : Heap) (n0 : Nat) (Z0 : n0 ≤ h0.size) (S_C : Sta Z h0 "java/lang/String" "COMPACT_STRINGS" "Z" (.int w1)) (c0 : ¬ w1 = 0) (F_value_a1 : Fld Z h0 a1 "java/lang/String" "value" "[B" .null) (F_coder_a1 : Fld Z h0 a1 "java/lang/String" "coder" "B" (.int (0 : Int32))) (E_a1 : Exa Z h0 a1 "java/lang/String") (g_a1 : n0 ≤ a1) (C1 : own_Ch Z h0 b1 k1 cs) (h8 : cs.length ≤ 8) (hp : 0 < cs.length) :
    MetFree l (⟨"java/lang/String", "<init>", "([C)V"⟩ : MethodName) (head1 (Jvm.Cond.code (⟨"java/lang/String", "<init>", "([C)V"⟩ : MethodName) jdk_42_method_3_code 2 none :: ws) ({ frames := 3, cells := 1, slots := 8, locals := 52 } : Room)) (fun a U => a = #[(.ref a1), (.ref b1)] ∧ Z.Warmed39 U.vm ∧ U.heap = h0) (fun _ _ _ _ _ => True) (fun _ U o U' => ∃ v L, o = .returned v ∧ Q10 Z a1 b1 w1 k1 cs h0 n0 v U'.heap L ∧ FrameEnd U o U' L ({ frames := 3, cells := 1, slots := 8, locals := 52 } : Room).cells ({ frames := 3, cells := 1, slots := 8, locals := 52 } : Room).slots) := by
  refine MetFree.of_bodySF (plainFor_of_name pn_10) hisR ?_
  intro p e s m args below meth c s₁ Bd hml0 hP hK
  obtain ⟨rfl, hZ, hh⟩ := hP
  have hx := Bd.exec
  have hby := Bd.bytes
  have hml : c.maxLocals = 2 := hml0
  have hown : s.vm.findClass "java/lang/String" = some m.cls := findClass_of_methodNamed Bd.named
  have hnm := (name_of_methodNamed Bd.named Bd.method).1
  have hlk := BodyLoose.notSynchronized Bd
  have hrt := Bd.returns
  have X0 : Stand p l e ({ frames := 3, cells := 1, slots := 8, locals := 52 } : Room) s m #[(.ref a1), (.ref b1)] below meth c s₁ [] 0 0 := Stand.of_body Bd
  have e0 : s₁.heap = h0 := by rw [← hh, Bd.state]; rfl
  have N0 := Fr.nil n0
  show OEnds p e below s (Q10 Z a1 b1 w1 k1 cs h0 n0) ({ frames := 3, cells := 1, slots := 8, locals := 52 } : Room).cells ({ frames := 3, cells := 1, slots := 8, locals := 52 } : Room).slots (s₁.setTop (entryFrame m #[(.ref a1), (.ref b1)] 2))
  refine OEnds.go (t' := s₁.setTop (mkF m 0 #[.val (.ref a1), .val (.ref b1)] [])) (fun t k => castTop (ef_rm10 m a1 b1) k) ?_
  refine OEnds.go (t' := s₁.setTop (mkF m 4 #[.val (.ref a1), .val (.ref b1)] [(.ref b1), (.int (0 : Int32)), (.ref b1), (.ref a1)])) (fun _ k => ?_) ?_
  · show Steps p.tables e below (s₁.setTop (mkF m 0 #[.val (.ref a1), .val (.ref b1)] [])) _
    refine XS.aloadN X0.here hx rfl (hb hby d10_0) rfl rfl ?_
    show Steps p.tables e below (s₁.setTop (mkF m 1 #[.val (.ref a1), .val (.ref b1)] [(.ref a1)])) _
    refine XS.aloadN X0.here hx rfl (hb hby d10_1) rfl rfl ?_
    show Steps p.tables e below (s₁.setTop (mkF m 2 #[.val (.ref a1), .val (.ref b1)] [(.ref b1), (.ref a1)])) _
    refine XS.iconst X0.here hx rfl (hb hby d10_2) ?_
    show Steps p.tables e below (s₁.setTop (mkF m 3 #[.val (.ref a1), .val (.ref b1)] [(.int (0 : Int32)), (.ref b1), (.ref a1)])) _
    refine XS.aloadN X0.here hx rfl (hb hby d10_3) rfl rfl ?_
    show Steps p.tables e below (s₁.setTop (mkF m 4 #[.val (.ref a1), .val (.ref b1)] [(.ref b1), (.int (0 : Int32)), (.ref b1), (.ref a1)])) _
    exact k
  obtain ⟨cl1, Ar1, hl1⟩ := own_clen C1
  refine OEnds.go (t' := s₁.setTop (mkF m 5 #[.val (.ref a1), .val (.ref b1)] [(.int cl1.slots.size.toInt32), (.int (0 : Int32)), (.ref b1), (.ref a1)])) (fun _ k => X0.arraylength hx (by rw [e0]; exact Ar1.1) (State.isArrayOf_alike hZ.alike Ar1.2.1) (g := (mkF m 4 #[.val (.ref a1), .val (.ref b1)] [(.ref b1), (.int (0 : Int32)), (.ref b1), (.ref a1)])) rfl rfl (hb hby d10_4) _ k) ?_
  rw [hl1]
  refine OEnds.go (t' := s₁.setTop (mkF m 6 #[.val (.ref a1), .val (.ref b1)] [.null, (.int (Int32.ofNat cs.length)), (.int (0 : Int32)), (.ref b1), (.ref a1)])) (fun _ k => ?_) ?_
  · show Steps p.tables e below (s₁.setTop (mkF m 5 #[.val (.ref a1), .val (.ref b1)] [(.int (Int32.ofNat cs.length)), (.int (0 : Int32)), (.ref b1), (.ref a1)])) _
    refine XS.aconstNull X0.here hx rfl (hb hby d10_5) ?_
    show Steps p.tables e below (s₁.setTop (mkF m 6 #[.val (.ref a1), .val (.ref b1)] [.null, (.int (Int32.ofNat cs.length)), (.int (0 : Int32)), (.ref b1), (.ref a1)])) _
    exact k
  obtain ⟨_, _, ⟨T2, L2, k2, n2⟩, -, X2, ⟨Lc2, hQ2, l2, y2, z2⟩, st2⟩ := X0.specialBack hx (y := (⟨"java/lang/String", "<init>", "([CIILjava/lang/Void;)V"⟩ : MethodName)) rfl hown (mvT hZ (hw _ (List.mem_of_getElem? (i := 55) rfl))) (mvT hZ (hw _ (List.mem_of_getElem? (i := 56) rfl))) (mvT hZ (hw _ (List.mem_of_getElem? (i := 58) rfl))) (by decide) (backOf (W := 0) (rm11 l Z a0 hw [] a1 b1 (Int32.ofNat cs.length) w1 k1 cs h0 n0 Z0 S_C c0 F_value_a1 F_coder_a1 E_a1 g_a1 C1 rfl h8 (fun q => absurd (own_ofNat_inj (i := cs.length) (j := 0) (by omega) (by decide) q) (by omega))) hZ (hw _ (List.mem_of_getElem? (i := 58) rfl)) (hw _ (List.mem_of_getElem? (i := 1) rfl)) (by decide) (by decide)) (g := (mkF m 6 #[.val (.ref a1), .val (.ref b1)] [.null, (.int (Int32.ofNat cs.length)), (.int (0 : Int32)), (.ref b1), (.ref a1)])) rfl (by rw [hml]; rfl) (Steps.refl _) (a := a1) (argsL := [(.ref b1), (.int (0 : Int32)), (.int (Int32.ofNat cs.length)), .null]) (rest := []) (lenOf pd_rm10_0 rfl) rfl (by show 2 * 0 + _ ≤ _; exact Nat.le_of_eq rfl) (hb hby d10_6) (fun _ _ => ⟨rfl, e0, (by decide : 0 + 1 ≤ _), (by decide : 0 + 8 ≤ _)⟩)
  dsimp only [Pt.U, Pt.locs, Pt.cells, Pt.slots] at X2 l2 y2 z2 st2 hQ2
  subst l2 y2 z2
  obtain ⟨rfl, N2q, Kc2, hs2⟩ := hQ2
  have N2 := Fr.app N0 N2q
  have Z2 : n0 ≤ T2.heap.size := Nat.le_trans Z0 Kc2.1
  refine OEnds.go (t' := T2.setTop (mkF m 9 #[.val (.ref a1), .val (.ref b1)] [])) (fun _ k => st2.trans k) ?_
  refine OEnds.back X2 hlk (v := none) (fun _ => rfl) (fun fs hr => ?_) ?_ (by decide) (by decide)
  · exact X2.returnOut hx hrt (hb hby d10_9) hr
  · show Q10 Z a1 b1 w1 k1 cs h0 n0 _ T2.heap _
    exact ⟨rfl, N2, Kc2, hs2⟩
theorem d11_8 : decode jdk_42_method_149_code 8 = .ok (.aload_n 0, 1) := by decide +kernel
theorem d11_9 : decode jdk_42_method_149_code 9 = .ok (.ldc 7, 2) := by decide +kernel
theorem d11_11 : decode jdk_42_method_149_code 11 = .ok (.getfield 9, 3) := by decide +kernel
theorem d11_14 : decode jdk_42_method_149_code 14 = .ok (.putfield 9, 3) := by decide +kernel
theorem d11_17 : decode jdk_42_method_149_code 17 = .ok (.aload_n 0, 1) := by decide +kernel
theorem d11_18 : decode jdk_42_method_149_code 18 = .ok (.ldc 7, 2) := by decide +kernel
theorem d11_20 : decode jdk_42_method_149_code 20 = .ok (.getfield 15, 3) := by decide +kernel
theorem d11_23 : decode jdk_42_method_149_code 23 = .ok (.putfield 15, 3) := by decide +kernel
theorem d11_26 : decode jdk_42_method_149_code 26 = .ok (.return_, 1) := by decide +kernel
theorem ef_rmE4 (m : MethodId) (a1 : Addr) (b1 : Addr) : entryFrame m #[(.ref a1), (.ref b1), (.int (0 : Int32)), (.int (0 : Int32)), .null] 6 = mkF m 0 #[.val (.ref a1), .val (.ref b1), .val (.int (0 : Int32)), .val (.int (0 : Int32)), .val .null, .unset] [] := by first | (simp [entryFrame, mkF, argsToLocals, Value.category]; done) | rfl
def QE4 (Z : State) (a1 : Addr) (b1 : Addr)  (h0 : Heap) (n0 : Nat) (v : Option Value) (h : Heap) (vm : Vm) (L : List Loc) : Prop := v = none ∧ Fr n0 L ∧ Keep h0 h [a1] ∧ (∃ (b : Addr) (k : ClassId), own_S Z h a1 b k []) ∧ own_All own_lits Z vm h
set_option maxRecDepth 65536 in
set_option maxHeartbeats 40000000 in
theorem rmE4 (l : Launch) (Z : State) (a0 : Array Value) (hw : ∀ d ∈ tables_1, d.before a0 Z = true) (ws : List Jvm.Cond) (a1 : Addr) (b1 : Addr)  (h0 : Heap) (n0 : Nat) (Z0 : n0 ≤ h0.size) (hzo : Old Z n0 h0) (hcw : Jvm.Lit.compactW.before a0 Z = true) (hH : ∀ q ∈ own_lits, Jvm.Lit.constHeld Z q.1 q.2.1) (F_value_a1 : Fld Z h0 a1 "java/lang/String" "value" "[B" .null) (F_coder_a1 : Fld Z h0 a1 "java/lang/String" "coder" "B" (.int (0 : Int32))) (E_a1 : Exa Z h0 a1 "java/lang/String") (g_a1 : n0 ≤ a1) :
    MetFree l (⟨"java/lang/String", "<init>", "([CIILjava/lang/Void;)V"⟩ : MethodName) (head1 (Jvm.Cond.code (⟨"java/lang/String", "<init>", "([CIILjava/lang/Void;)V"⟩ : MethodName) jdk_42_method_149_code 6 none :: ws) ({ frames := 1, cells := 2, slots := 4, locals := 12 } : Room)) (fun a U => a = #[(.ref a1), (.ref b1), (.int (0 : Int32)), (.int (0 : Int32)), .null] ∧ Z.Warmed39 U.vm ∧ U.heap = h0 ∧ own_All own_lits Z U.vm h0) (fun _ _ _ _ _ => True) (fun _ U o U' => ∃ v L, o = .returned v ∧ QE4 Z a1 b1  h0 n0 v U'.heap U'.vm L ∧ ReturnedEndW U o U' L ({ frames := 1, cells := 2, slots := 4, locals := 12 } : Room).cells ({ frames := 1, cells := 2, slots := 4, locals := 12 } : Room).slots) := by
  refine MetFree.of_bodySF (plainFor_of_name pn_11) hisR ?_
  intro p e s m args below meth c s₁ Bd hml0 hP hK
  obtain ⟨rfl, hZ, hh, hpv⟩ := hP
  have hx := Bd.exec
  have hby := Bd.bytes
  have hml : c.maxLocals = 6 := hml0
  have hown : s.vm.findClass "java/lang/String" = some m.cls := findClass_of_methodNamed Bd.named
  have hnm := (name_of_methodNamed Bd.named Bd.method).1
  have hlk := BodyLoose.notSynchronized Bd
  have hrt := Bd.returns
  have X0 : Stand p l e ({ frames := 1, cells := 2, slots := 4, locals := 12 } : Room) s m #[(.ref a1), (.ref b1), (.int (0 : Int32)), (.int (0 : Int32)), .null] below meth c s₁ [] 0 0 := Stand.of_body Bd
  have e0 : s₁.heap = h0 := by rw [← hh, Bd.state]; rfl
  have N0 := Fr.nil n0
  have hS0 : s.Since s.vm 0 := (State.WarmedH.refl s).since 0
  have IB0 := hpv
  have hkp : ∀ (b : Addr) (cl : Cell), Z.heap[b]? = some cl → s.heap[b]? = some cl := fun b cl q => by rw [hh]; exact hzo.2.2 b cl q
  show OEndsW p e below s (QE4 Z a1 b1  h0 n0) ({ frames := 1, cells := 2, slots := 4, locals := 12 } : Room).cells ({ frames := 1, cells := 2, slots := 4, locals := 12 } : Room).slots (s₁.setTop (entryFrame m #[(.ref a1), (.ref b1), (.int (0 : Int32)), (.int (0 : Int32)), .null] 6))
  refine OEndsW.go (t' := s₁.setTop (mkF m 0 #[.val (.ref a1), .val (.ref b1), .val (.int (0 : Int32)), .val (.int (0 : Int32)), .val .null, .unset] [])) (fun t k => castTop (ef_rmE4 m a1 b1) k) ?_
  have hAll := hpv
  refine OEndsW.go (t' := s₁.setTop (mkF m 1 #[.val (.ref a1), .val (.ref b1), .val (.int (0 : Int32)), .val (.int (0 : Int32)), .val .null, .unset] [(.ref a1)])) (fun _ k => ?_) ?_
  · show Steps p.tables e below (s₁.setTop (mkF m 0 #[.val (.ref a1), .val (.ref b1), .val (.int (0 : Int32)), .val (.int (0 : Int32)), .val .null, .unset] [])) _
    refine XS.aloadN X0.here hx rfl (hb hby d11_0) rfl rfl ?_
    show Steps p.tables e below (s₁.setTop (mkF m 1 #[.val (.ref a1), .val (.ref b1), .val (.int (0 : Int32)), .val (.int (0 : Int32)), .val .null, .unset] [(.ref a1)])) _
    exact k
  obtain ⟨T1, X1, e1, st1⟩ := initO X0 hx hZ hown (hw _ (List.mem_of_getElem? (i := 59) rfl)) (hw _ (List.mem_of_getElem? (i := 60) rfl)) (hw _ (List.mem_of_getElem? (i := 61) rfl)) e0 (g := (mkF m 1 #[.val (.ref a1), .val (.ref b1), .val (.int (0 : Int32)), .val (.int (0 : Int32)), .val .null, .unset] [(.ref a1)])) rfl (by rw [hml]; rfl) rfl (hb hby d11_1) (by decide) (W := 0) (by show 2 * 0 + _ ≤ _; exact Nat.le_of_eq rfl) (by decide)
  refine OEndsW.go (t' := T1.setTop (mkF m 4 #[.val (.ref a1), .val (.ref b1), .val (.int (0 : Int32)), .val (.int (0 : Int32)), .val .null, .unset] [])) (fun _ k => st1 _ k) ?_
  refine OEndsW.go (t' := T1.setTop (mkF m 5 #[.val (.ref a1), .val (.ref b1), .val (.int (0 : Int32)), .val (.int (0 : Int32)), .val .null, .unset] [(.int (0 : Int32))])) (fun _ k => ?_) ?_
  · show Steps p.tables e below (T1.setTop (mkF m 4 #[.val (.ref a1), .val (.ref b1), .val (.int (0 : Int32)), .val (.int (0 : Int32)), .val .null, .unset] [])) _
    refine XS.iloadN X1.here hx rfl (hb hby d11_4) rfl ?_
    show Steps p.tables e below (T1.setTop (mkF m 5 #[.val (.ref a1), .val (.ref b1), .val (.int (0 : Int32)), .val (.int (0 : Int32)), .val .null, .unset] [(.int (0 : Int32))])) _
    exact k
  refine OEndsW.go (t' := T1.setTop (mkF m 8 #[.val (.ref a1), .val (.ref b1), .val (.int (0 : Int32)), .val (.int (0 : Int32)), .val .null, .unset] [])) (fun _ k => XS.ifNo X1.here hx rfl (hb hby d11_5) rfl ((if0 _ _).trans (teq rfl).2) k) ?_
  refine OEndsW.go (t' := T1.setTop (mkF m 9 #[.val (.ref a1), .val (.ref b1), .val (.int (0 : Int32)), .val (.int (0 : Int32)), .val .null, .unset] [(.ref a1)])) (fun _ k => ?_) ?_
  · show Steps p.tables e below (T1.setTop (mkF m 8 #[.val (.ref a1), .val (.ref b1), .val (.int (0 : Int32)), .val (.int (0 : Int32)), .val .null, .unset] [])) _
    refine XS.aloadN X1.here hx rfl (hb hby d11_8) rfl rfl ?_
    show Steps p.tables e below (T1.setTop (mkF m 9 #[.val (.ref a1), .val (.ref b1), .val (.int (0 : Int32)), .val (.int (0 : Int32)), .val .null, .unset] [(.ref a1)])) _
    exact k
  have wS2 : ∀ a ∈ Bundle.stringAtoms, a.before a0 Z = true := by
    intro d hd
    simp only [Bundle.stringAtoms, List.mem_cons, List.not_mem_nil, or_false] at hd
    rcases hd with rfl | rfl | rfl | rfl | rfl | rfl | rfl
    · exact hw _ (List.mem_of_getElem? (i := 1) rfl)
    · exact hw _ (List.mem_of_getElem? (i := 2) rfl)
    · exact hw _ (List.mem_of_getElem? (i := 3) rfl)
    · exact hw _ (List.mem_of_getElem? (i := 4) rfl)
    · exact hw _ (List.mem_of_getElem? (i := 5) rfl)
    · exact hw _ (List.mem_of_getElem? (i := 6) rfl)
    · exact hw _ (List.mem_of_getElem? (i := 7) rfl)
  obtain ⟨lit, T2, h2, kz2, lit_b, lit_k, vm2, X2, e2, E2, hS2, hk2, hZ, hown, lit_S, hAll, LT2, st2⟩ := own_ldc (s := s) (vm0 := s.vm) (D := own_lits) (xs := []) X1 hx hZ hown (hw _ (List.mem_of_getElem? (i := 113) rfl)) wS2 e1 hS0 (Nat.zero_le _) (Fr.nil _) hkp hAll (List.mem_of_getElem? (i := 4) rfl) own_lits_4 (hH _ (List.mem_of_getElem? (i := 4) rfl)) hcw (by decide) (by decide) (g := (mkF m 9 #[.val (.ref a1), .val (.ref b1), .val (.int (0 : Int32)), .val (.int (0 : Int32)), .val .null, .unset] [(.ref a1)])) rfl (hb hby d11_9) (n := 0) (by decide) (by decide) (by decide) (by decide)
  have E_a1 := E_a1.ext E2
  have F_value_a1 := F_value_a1.ext E2
  have F_coder_a1 := F_coder_a1.ext E2
  have Z2 : n0 ≤ h2.size := Nat.le_trans Z0 E2.1
  have K2 := (Keep.refl h0 [a1]).ext E2
  refine OEndsW.go (t' := T2.setTop (mkF m 11 #[.val (.ref a1), .val (.ref b1), .val (.int (0 : Int32)), .val (.int (0 : Int32)), .val .null, .unset] [(.ref lit), (.ref a1)])) (fun _ k => st2 _ k) ?_
  have hne : ∀ (lit lb : Addr) (lk : ClassId) (xs : List Int32), own_S Z h2 lit lb lk xs → lit ≠ a1 ∧ lb ≠ a1 := fun lit lb lk xs S => ⟨Ne.symm (Fld.ne F_value_a1 S.2.2.1 nofun), Ne.symm (Exa.neArv E_a1 S.2.2.2.1 (hw _ (List.mem_of_getElem? (i := 2) rfl)))⟩
  have lit_S0 := lit_S
  obtain ⟨T3, X3, e3, st3⟩ := getF X2 hx hZ hown (host := "") (Or.inl (hw _ (List.mem_of_getElem? (i := 13) rfl))) Via.refl e2 lit_S.2.2.1 (g := (mkF m 11 #[.val (.ref a1), .val (.ref b1), .val (.int (0 : Int32)), .val (.int (0 : Int32)), .val .null, .unset] [(.ref lit), (.ref a1)])) rfl rfl (hb hby d11_11)
  refine OEndsW.go (t' := T3.setTop (mkF m 14 #[.val (.ref a1), .val (.ref b1), .val (.int (0 : Int32)), .val (.int (0 : Int32)), .val .null, .unset] [(.ref lit_b), (.ref a1)])) (fun _ k => st3 _ k) ?_
  obtain ⟨T4, h4, X4, e4, W4, st4⟩ := putF X3 hx hZ hown (host := "") (Or.inl (hw _ (List.mem_of_getElem? (i := 13) rfl))) Via.refl e3 F_value_a1 E_a1 (Or.inr ⟨(hw _ (List.mem_of_getElem? (i := 4) rfl)), rfl, hnm⟩) (hw _ (List.mem_of_getElem? (i := 2) rfl)) (ty := (.array .byte)) (by decide) rfl rfl (g := (mkF m 14 #[.val (.ref a1), .val (.ref b1), .val (.int (0 : Int32)), .val (.int (0 : Int32)), .val .null, .unset] [(.ref lit_b), (.ref a1)])) rfl rfl (hb hby d11_14)
  have N4 := Fr.snoc X4 N0 g_a1
  have E_a1 := E_a1.wr W4
  have F_value_a1 := F_value_a1.same W4
  have F_coder_a1 := F_coder_a1.other W4 (Or.inr (slot_ne (Or.inr (hw _ (List.mem_of_getElem? (i := 5) rfl))) (Or.inr (hw _ (List.mem_of_getElem? (i := 4) rfl))) (by decide) (t := .byte) (t' := (.array .byte)) (by decide) (by decide)))
  have lit_S := lit_S.other W4 (hne _ _ _ _ lit_S0).1 (hne _ _ _ _ lit_S0).2
  have Z4 : n0 ≤ h4.size := Nat.le_trans Z2 (Keep.of_wr W4).1
  have hk4 := Nat.le_trans hk2 (Keep.of_wr W4).1
  have K4 := (Keep.refl h2 [a1]).wr W4 (Or.inl (List.mem_of_getElem? (i := 0) rfl))
  refine OEndsW.go (t' := T4.setTop (mkF m 17 #[.val (.ref a1), .val (.ref b1), .val (.int (0 : Int32)), .val (.int (0 : Int32)), .val .null, .unset] [])) (fun _ k => st4 _ k) ?_
  refine OEndsW.go (t' := T4.setTop (mkF m 18 #[.val (.ref a1), .val (.ref b1), .val (.int (0 : Int32)), .val (.int (0 : Int32)), .val .null, .unset] [(.ref a1)])) (fun _ k => ?_) ?_
  · show Steps p.tables e below (T4.setTop (mkF m 17 #[.val (.ref a1), .val (.ref b1), .val (.int (0 : Int32)), .val (.int (0 : Int32)), .val .null, .unset] [])) _
    refine XS.aloadN X4.here hx rfl (hb hby d11_17) rfl rfl ?_
    show Steps p.tables e below (T4.setTop (mkF m 18 #[.val (.ref a1), .val (.ref b1), .val (.int (0 : Int32)), .val (.int (0 : Int32)), .val .null, .unset] [(.ref a1)])) _
    exact k
  refine OEndsW.go (t' := T4.setTop (mkF m 20 #[.val (.ref a1), .val (.ref b1), .val (.int (0 : Int32)), .val (.int (0 : Int32)), .val .null, .unset] [(.ref lit), (.ref a1)])) (fun _ k => ldcAgain (s := s) (vm0 := vm2) X4 hx hZ hown (hw _ (List.mem_of_getElem? (i := 113) rfl)) LT2 (g := (mkF m 18 #[.val (.ref a1), .val (.ref b1), .val (.int (0 : Int32)), .val (.int (0 : Int32)), .val .null, .unset] [(.ref a1)])) rfl (hb hby d11_18) _ k) ?_
  obtain ⟨T5, X5, e5, st5⟩ := getF X4 hx hZ hown (host := "") (Or.inl (hw _ (List.mem_of_getElem? (i := 20) rfl))) Via.refl e4 lit_S.2.1 (g := (mkF m 20 #[.val (.ref a1), .val (.ref b1), .val (.int (0 : Int32)), .val (.int (0 : Int32)), .val .null, .unset] [(.ref lit), (.ref a1)])) rfl rfl (hb hby d11_20)
  refine OEndsW.go (t' := T5.setTop (mkF m 23 #[.val (.ref a1), .val (.ref b1), .val (.int (0 : Int32)), .val (.int (0 : Int32)), .val .null, .unset] [(.int (0 : Int32)), (.ref a1)])) (fun _ k => st5 _ k) ?_
  obtain ⟨T6, h6, X6, e6, W6, st6⟩ := putFN X5 hx hZ hown (hw _ (List.mem_of_getElem? (i := 20) rfl)) Via.refl e5 F_coder_a1 E_a1 (Or.inr ⟨(hw _ (List.mem_of_getElem? (i := 5) rfl)), rfl, hnm⟩) (hw _ (List.mem_of_getElem? (i := 2) rfl)) (ty := .byte) (v' := (.int (0 : Int32))) (by decide) rfl rfl (g := (mkF m 23 #[.val (.ref a1), .val (.ref b1), .val (.int (0 : Int32)), .val (.int (0 : Int32)), .val .null, .unset] [(.int (0 : Int32)), (.ref a1)])) rfl rfl (hb hby d11_23)
  have N6 := Fr.snoc X6 N4 g_a1
  have E_a1 := E_a1.wr W6
  have F_value_a1 := F_value_a1.other W6 (Or.inr (slot_ne (Or.inr (hw _ (List.mem_of_getElem? (i := 4) rfl))) (Or.inr (hw _ (List.mem_of_getElem? (i := 5) rfl))) (by decide) (t := (.array .byte)) (t' := .byte) (by decide) (by decide)))
  have F_coder_a1 := F_coder_a1.same W6
  have lit_S := lit_S.other W6 (hne _ _ _ _ lit_S0).1 (hne _ _ _ _ lit_S0).2
  have Z6 : n0 ≤ h6.size := Nat.le_trans Z4 (Keep.of_wr W6).1
  have hk6 := Nat.le_trans hk4 (Keep.of_wr W6).1
  have K6 := K4.wr W6 (Or.inl (List.mem_of_getElem? (i := 0) rfl))
  refine OEndsW.go (t' := T6.setTop (mkF m 26 #[.val (.ref a1), .val (.ref b1), .val (.int (0 : Int32)), .val (.int (0 : Int32)), .val .null, .unset] [])) (fun _ k => st6 _ k) ?_
  refine OEndsW.back X6 hS2 (by rw [e6]; exact hk6) hlk (v := none) (fun _ => rfl) (fun fs hr => ?_) ?_ (by decide) (by decide)
  · exact X6.returnOut hx hrt (hb hby d11_26) hr
  · show QE4 Z a1 b1  h0 n0 _ T6.heap T6.vm _
    rw [e6]
    exact ⟨rfl, N6, K2.trans K6 (allS (Or.inl (List.mem_of_getElem? (i := 0) rfl)) all0), ⟨_, _, E_a1, F_coder_a1, F_value_a1, lit_S.2.2.2⟩, (hAll.keep1 K6 hne).stays (s := (s.setVm vm2)) X6.warmed⟩
theorem pd_rmE1_0 : parseMethodDescriptor "([CIILjava/lang/Void;)V" = some ⟨[(.array .char), .int, .int, (.object "java/lang/Void")], none⟩ := by decide +kernel
theorem ef_rmE1 (m : MethodId) (a1 : Addr) (b1 : Addr) : entryFrame m #[(.ref a1), (.ref b1)] 2 = mkF m 0 #[.val (.ref a1), .val (.ref b1)] [] := by first | (simp [entryFrame, mkF, argsToLocals, Value.category]; done) | rfl
def QE1 (Z : State) (a1 : Addr) (b1 : Addr) (k1 : ClassId) (h0 : Heap) (n0 : Nat) (v : Option Value) (h : Heap) (vm : Vm) (L : List Loc) : Prop := v = none ∧ Fr n0 L ∧ Keep h0 h [a1] ∧ (∃ (b : Addr) (k : ClassId), own_S Z h a1 b k []) ∧ own_All own_lits Z vm h
set_option maxRecDepth 65536 in
set_option maxHeartbeats 40000000 in
theorem rmE1 (l : Launch) (Z : State) (a0 : Array Value) (hw : ∀ d ∈ tables_1, d.before a0 Z = true) (ws : List Jvm.Cond) (a1 : Addr) (b1 : Addr) (k1 : ClassId) (h0 : Heap) (n0 : Nat) (Z0 : n0 ≤ h0.size) (hzo : Old Z n0 h0) (hcw : Jvm.Lit.compactW.before a0 Z = true) (hH : ∀ q ∈ own_lits, Jvm.Lit.constHeld Z q.1 q.2.1) (F_value_a1 : Fld Z h0 a1 "java/lang/String" "value" "[B" .null) (F_coder_a1 : Fld Z h0 a1 "java/lang/String" "coder" "B" (.int (0 : Int32))) (E_a1 : Exa Z h0 a1 "java/lang/String") (g_a1 : n0 ≤ a1) (C1 : own_Ch Z h0 b1 k1 []) :
    MetFree l (⟨"java/lang/String", "<init>", "([C)V"⟩ : MethodName) (head1 (Jvm.Cond.code (⟨"java/lang/String", "<init>", "([C)V"⟩ : MethodName) jdk_42_method_3_code 2 none :: ws) ({ frames := 2, cells := 2, slots := 4, locals := 29 } : Room)) (fun a U => a = #[(.ref a1), (.ref b1)] ∧ Z.Warmed39 U.vm ∧ U.heap = h0 ∧ own_All own_lits Z U.vm h0) (fun _ _ _ _ _ => True) (fun _ U o U' => ∃ v L, o = .returned v ∧ QE1 Z a1 b1 k1 h0 n0 v U'.heap U'.vm L ∧ ReturnedEndW U o U' L ({ frames := 2, cells := 2, slots := 4, locals := 29 } : Room).cells ({ frames := 2, cells := 2, slots := 4, locals := 29 } : Room).slots) := by
  refine MetFree.of_bodySF (plainFor_of_name pn_10) hisR ?_
  intro p e s m args below meth c s₁ Bd hml0 hP hK
  obtain ⟨rfl, hZ, hh, hpv⟩ := hP
  have hx := Bd.exec
  have hby := Bd.bytes
  have hml : c.maxLocals = 2 := hml0
  have hown : s.vm.findClass "java/lang/String" = some m.cls := findClass_of_methodNamed Bd.named
  have hnm := (name_of_methodNamed Bd.named Bd.method).1
  have hlk := BodyLoose.notSynchronized Bd
  have hrt := Bd.returns
  have X0 : Stand p l e ({ frames := 2, cells := 2, slots := 4, locals := 29 } : Room) s m #[(.ref a1), (.ref b1)] below meth c s₁ [] 0 0 := Stand.of_body Bd
  have e0 : s₁.heap = h0 := by rw [← hh, Bd.state]; rfl
  have N0 := Fr.nil n0
  have hS0 : s.Since s.vm 0 := (State.WarmedH.refl s).since 0
  have IB0 := hpv
  have hkp : ∀ (b : Addr) (cl : Cell), Z.heap[b]? = some cl → s.heap[b]? = some cl := fun b cl q => by rw [hh]; exact hzo.2.2 b cl q
  show OEndsW p e below s (QE1 Z a1 b1 k1 h0 n0) ({ frames := 2, cells := 2, slots := 4, locals := 29 } : Room).cells ({ frames := 2, cells := 2, slots := 4, locals := 29 } : Room).slots (s₁.setTop (entryFrame m #[(.ref a1), (.ref b1)] 2))
  refine OEndsW.go (t' := s₁.setTop (mkF m 0 #[.val (.ref a1), .val (.ref b1)] [])) (fun t k => castTop (ef_rmE1 m a1 b1) k) ?_
  refine OEndsW.go (t' := s₁.setTop (mkF m 4 #[.val (.ref a1), .val (.ref b1)] [(.ref b1), (.int (0 : Int32)), (.ref b1), (.ref a1)])) (fun _ k => ?_) ?_
  · show Steps p.tables e below (s₁.setTop (mkF m 0 #[.val (.ref a1), .val (.ref b1)] [])) _
    refine XS.aloadN X0.here hx rfl (hb hby d10_0) rfl rfl ?_
    show Steps p.tables e below (s₁.setTop (mkF m 1 #[.val (.ref a1), .val (.ref b1)] [(.ref a1)])) _
    refine XS.aloadN X0.here hx rfl (hb hby d10_1) rfl rfl ?_
    show Steps p.tables e below (s₁.setTop (mkF m 2 #[.val (.ref a1), .val (.ref b1)] [(.ref b1), (.ref a1)])) _
    refine XS.iconst X0.here hx rfl (hb hby d10_2) ?_
    show Steps p.tables e below (s₁.setTop (mkF m 3 #[.val (.ref a1), .val (.ref b1)] [(.int (0 : Int32)), (.ref b1), (.ref a1)])) _
    refine XS.aloadN X0.here hx rfl (hb hby d10_3) rfl rfl ?_
    show Steps p.tables e below (s₁.setTop (mkF m 4 #[.val (.ref a1), .val (.ref b1)] [(.ref b1), (.int (0 : Int32)), (.ref b1), (.ref a1)])) _
    exact k
  obtain ⟨cl1, Ar1, hl1⟩ := (show ∃ c : Cell, Arr Z h0 b1 c .char ∧ c.slots.size.toInt32 = (0 : Int32) from own_clen C1)
  refine OEndsW.go (t' := s₁.setTop (mkF m 5 #[.val (.ref a1), .val (.ref b1)] [(.int cl1.slots.size.toInt32), (.int (0 : Int32)), (.ref b1), (.ref a1)])) (fun _ k => X0.arraylength hx (by rw [e0]; exact Ar1.1) (State.isArrayOf_alike hZ.alike Ar1.2.1) (g := (mkF m 4 #[.val (.ref a1), .val (.ref b1)] [(.ref b1), (.int (0 : Int32)), (.ref b1), (.ref a1)])) rfl rfl (hb hby d10_4) _ k) ?_
  rw [hl1]
  refine OEndsW.go (t' := s₁.setTop (mkF m 6 #[.val (.ref a1), .val (.ref b1)] [.null, (.int (0 : Int32)), (.int (0 : Int32)), (.ref b1), (.ref a1)])) (fun _ k => ?_) ?_
  · show Steps p.tables e below (s₁.setTop (mkF m 5 #[.val (.ref a1), .val (.ref b1)] [(.int (0 : Int32)), (.int (0 : Int32)), (.ref b1), (.ref a1)])) _
    refine XS.aconstNull X0.here hx rfl (hb hby d10_5) ?_
    show Steps p.tables e below (s₁.setTop (mkF m 6 #[.val (.ref a1), .val (.ref b1)] [.null, (.int (0 : Int32)), (.int (0 : Int32)), (.ref b1), (.ref a1)])) _
    exact k
  obtain ⟨_, _, ⟨T2, L2, k2, n2⟩, -, X2, hSq2, hgq2, ⟨Lc2, hQ2, l2, y2, z2⟩, st2⟩ := X0.specialBackS hx (y := (⟨"java/lang/String", "<init>", "([CIILjava/lang/Void;)V"⟩ : MethodName)) rfl hown (mvT hZ (hw _ (List.mem_of_getElem? (i := 55) rfl))) (mvT hZ (hw _ (List.mem_of_getElem? (i := 56) rfl))) (mvT hZ (hw _ (List.mem_of_getElem? (i := 58) rfl))) (by decide) (own_backI (W := 0) (rmE4 l Z a0 hw [] a1 b1 h0 n0 Z0 hzo hcw hH F_value_a1 F_coder_a1 E_a1 g_a1) hZ (fun vm hW => own_All.stays hpv hW) (hw _ (List.mem_of_getElem? (i := 58) rfl)) (hw _ (List.mem_of_getElem? (i := 1) rfl)) (by decide) (by decide)) (g := (mkF m 6 #[.val (.ref a1), .val (.ref b1)] [.null, (.int (0 : Int32)), (.int (0 : Int32)), (.ref b1), (.ref a1)])) rfl (by rw [hml]; rfl) (Steps.refl _) (a := a1) (argsL := [(.ref b1), (.int (0 : Int32)), (.int (0 : Int32)), .null]) (rest := []) (lenOf pd_rmE1_0 rfl) rfl (by show 2 * 0 + _ ≤ _; exact Nat.le_of_eq rfl) (hb hby d10_6) (fun _ _ => ⟨rfl, e0, (by decide : 0 + 2 ≤ _), (by decide : 0 + 4 ≤ _)⟩)
  dsimp only [Pt.U, Pt.locs, Pt.cells, Pt.slots] at X2 l2 y2 z2 st2 hQ2 hSq2 hgq2
  subst l2 y2 z2
  obtain ⟨X2, hS2, hZ, hown⟩ := rebS (s := s) (vm0 := s.vm) (vm1 := T2.vm) hS0 (Nat.zero_le _) X2 hSq2 hgq2 hZ hown
  obtain ⟨rfl, N2q, Kc2, hs2, hv2⟩ := hQ2
  have N2 := Fr.app N0 N2q
  have Z2 : n0 ≤ T2.heap.size := Nat.le_trans Z0 Kc2.1
  have hk2 : T2.heap.size ≤ T2.heap.size := Nat.le_refl _
  refine OEndsW.go (t' := T2.setTop (mkF m 9 #[.val (.ref a1), .val (.ref b1)] [])) (fun _ k => st2.trans k) ?_
  refine OEndsW.back X2 hS2 hk2 hlk (v := none) (fun _ => rfl) (fun fs hr => ?_) ?_ (by decide) (by decide)
  · exact X2.returnOut hx hrt (hb hby d10_9) hr
  · show QE1 Z a1 b1 k1 h0 n0 _ T2.heap T2.vm _
    exact ⟨rfl, N2, Kc2, hs2, hv2⟩
theorem d9_0 : decode method_4_code 0 = .ok (.iload_n 0, 1) := by decide +kernel
theorem d9_1 : decode method_4_code 1 = .ok (.ifCond .gt 14, 3) := by decide +kernel
theorem d9_4 : decode method_4_code 4 = .ok (.new 16, 3) := by decide +kernel
theorem d9_7 : decode method_4_code 7 = .ok (.dup, 1) := by decide +kernel
theorem d9_8 : decode method_4_code 8 = .ok (.iconst 0, 1) := by decide +kernel
theorem d9_9 : decode method_4_code 9 = .ok (.newarray .char, 2) := by decide +kernel
theorem d9_11 : decode method_4_code 11 = .ok (.invokespecial 61, 3) := by decide +kernel
theorem d9_14 : decode method_4_code 14 = .ok (.areturn, 1) := by decide +kernel
theorem d9_15 : decode method_4_code 15 = .ok (.iload_n 0, 1) := by decide +kernel
theorem d9_16 : decode method_4_code 16 = .ok (.iconst 1, 1) := by decide +kernel
theorem d9_17 : decode method_4_code 17 = .ok (.if_icmp .ne 20, 3) := by decide +kernel
theorem d9_20 : decode method_4_code 20 = .ok (.new 16, 3) := by decide +kernel
theorem d9_23 : decode method_4_code 23 = .ok (.dup, 1) := by decide +kernel
theorem d9_24 : decode method_4_code 24 = .ok (.iconst 1, 1) := by decide +kernel
theorem d9_25 : decode method_4_code 25 = .ok (.newarray .char, 2) := by decide +kernel
theorem d9_27 : decode method_4_code 27 = .ok (.dup, 1) := by decide +kernel
theorem d9_28 : decode method_4_code 28 = .ok (.iconst 0, 1) := by decide +kernel
theorem d9_29 : decode method_4_code 29 = .ok (.aload_n 1, 1) := by decide +kernel
theorem d9_30 : decode method_4_code 30 = .ok (.iconst 0, 1) := by decide +kernel
theorem d9_31 : decode method_4_code 31 = .ok (.caload, 1) := by decide +kernel
theorem d9_32 : decode method_4_code 32 = .ok (.castore, 1) := by decide +kernel
theorem d9_33 : decode method_4_code 33 = .ok (.invokespecial 61, 3) := by decide +kernel
theorem d9_36 : decode method_4_code 36 = .ok (.areturn, 1) := by decide +kernel
theorem d9_37 : decode method_4_code 37 = .ok (.iload_n 0, 1) := by decide +kernel
theorem d9_38 : decode method_4_code 38 = .ok (.iconst 2, 1) := by decide +kernel
theorem d9_39 : decode method_4_code 39 = .ok (.if_icmp .ne 26, 3) := by decide +kernel
theorem d9_42 : decode method_4_code 42 = .ok (.new 16, 3) := by decide +kernel
theorem d9_45 : decode method_4_code 45 = .ok (.dup, 1) := by decide +kernel
theorem d9_46 : decode method_4_code 46 = .ok (.iconst 2, 1) := by decide +kernel
theorem d9_47 : decode method_4_code 47 = .ok (.newarray .char, 2) := by decide +kernel
theorem d9_49 : decode method_4_code 49 = .ok (.dup, 1) := by decide +kernel
theorem d9_50 : decode method_4_code 50 = .ok (.iconst 0, 1) := by decide +kernel
theorem d9_51 : decode method_4_code 51 = .ok (.aload_n 1, 1) := by decide +kernel
theorem d9_52 : decode method_4_code 52 = .ok (.iconst 0, 1) := by decide +kernel
theorem d9_53 : decode method_4_code 53 = .ok (.caload, 1) := by decide +kernel
theorem d9_54 : decode method_4_code 54 = .ok (.castore, 1) := by decide +kernel
theorem d9_55 : decode method_4_code 55 = .ok (.dup, 1) := by decide +kernel
theorem d9_56 : decode method_4_code 56 = .ok (.iconst 1, 1) := by decide +kernel
theorem d9_57 : decode method_4_code 57 = .ok (.aload_n 1, 1) := by decide +kernel
theorem d9_58 : decode method_4_code 58 = .ok (.iconst 1, 1) := by decide +kernel
theorem d9_59 : decode method_4_code 59 = .ok (.caload, 1) := by decide +kernel
theorem d9_60 : decode method_4_code 60 = .ok (.castore, 1) := by decide +kernel
theorem d9_61 : decode method_4_code 61 = .ok (.invokespecial 61, 3) := by decide +kernel
theorem d9_64 : decode method_4_code 64 = .ok (.areturn, 1) := by decide +kernel
theorem d9_65 : decode method_4_code 65 = .ok (.iload_n 0, 1) := by decide +kernel
theorem d9_66 : decode method_4_code 66 = .ok (.iconst 3, 1) := by decide +kernel
theorem d9_67 : decode method_4_code 67 = .ok (.if_icmp .ne 32, 3) := by decide +kernel
theorem d9_70 : decode method_4_code 70 = .ok (.new 16, 3) := by decide +kernel
theorem d9_73 : decode method_4_code 73 = .ok (.dup, 1) := by decide +kernel
theorem d9_74 : decode method_4_code 74 = .ok (.iconst 3, 1) := by decide +kernel
theorem d9_75 : decode method_4_code 75 = .ok (.newarray .char, 2) := by decide +kernel
theorem d9_77 : decode method_4_code 77 = .ok (.dup, 1) := by decide +kernel
theorem d9_78 : decode method_4_code 78 = .ok (.iconst 0, 1) := by decide +kernel
theorem d9_79 : decode method_4_code 79 = .ok (.aload_n 1, 1) := by decide +kernel
theorem d9_80 : decode method_4_code 80 = .ok (.iconst 0, 1) := by decide +kernel
theorem d9_81 : decode method_4_code 81 = .ok (.caload, 1) := by decide +kernel
theorem d9_82 : decode method_4_code 82 = .ok (.castore, 1) := by decide +kernel
theorem d9_83 : decode method_4_code 83 = .ok (.dup, 1) := by decide +kernel
theorem d9_84 : decode method_4_code 84 = .ok (.iconst 1, 1) := by decide +kernel
theorem d9_85 : decode method_4_code 85 = .ok (.aload_n 1, 1) := by decide +kernel
theorem d9_86 : decode method_4_code 86 = .ok (.iconst 1, 1) := by decide +kernel
theorem d9_87 : decode method_4_code 87 = .ok (.caload, 1) := by decide +kernel
theorem d9_88 : decode method_4_code 88 = .ok (.castore, 1) := by decide +kernel
theorem d9_89 : decode method_4_code 89 = .ok (.dup, 1) := by decide +kernel
theorem d9_90 : decode method_4_code 90 = .ok (.iconst 2, 1) := by decide +kernel
theorem d9_91 : decode method_4_code 91 = .ok (.aload_n 1, 1) := by decide +kernel
theorem d9_92 : decode method_4_code 92 = .ok (.iconst 2, 1) := by decide +kernel
theorem d9_93 : decode method_4_code 93 = .ok (.caload, 1) := by decide +kernel
theorem d9_94 : decode method_4_code 94 = .ok (.castore, 1) := by decide +kernel
theorem d9_95 : decode method_4_code 95 = .ok (.invokespecial 61, 3) := by decide +kernel
theorem d9_98 : decode method_4_code 98 = .ok (.areturn, 1) := by decide +kernel
theorem d9_99 : decode method_4_code 99 = .ok (.iload_n 0, 1) := by decide +kernel
theorem d9_100 : decode method_4_code 100 = .ok (.iconst 4, 1) := by decide +kernel
theorem d9_101 : decode method_4_code 101 = .ok (.if_icmp .ne 38, 3) := by decide +kernel
theorem d9_104 : decode method_4_code 104 = .ok (.new 16, 3) := by decide +kernel
theorem d9_107 : decode method_4_code 107 = .ok (.dup, 1) := by decide +kernel
theorem d9_108 : decode method_4_code 108 = .ok (.iconst 4, 1) := by decide +kernel
theorem d9_109 : decode method_4_code 109 = .ok (.newarray .char, 2) := by decide +kernel
theorem d9_111 : decode method_4_code 111 = .ok (.dup, 1) := by decide +kernel
theorem d9_112 : decode method_4_code 112 = .ok (.iconst 0, 1) := by decide +kernel
theorem d9_113 : decode method_4_code 113 = .ok (.aload_n 1, 1) := by decide +kernel
theorem d9_114 : decode method_4_code 114 = .ok (.iconst 0, 1) := by decide +kernel
theorem d9_115 : decode method_4_code 115 = .ok (.caload, 1) := by decide +kernel
theorem d9_116 : decode method_4_code 116 = .ok (.castore, 1) := by decide +kernel
theorem d9_117 : decode method_4_code 117 = .ok (.dup, 1) := by decide +kernel
theorem d9_118 : decode method_4_code 118 = .ok (.iconst 1, 1) := by decide +kernel
theorem d9_119 : decode method_4_code 119 = .ok (.aload_n 1, 1) := by decide +kernel
theorem d9_120 : decode method_4_code 120 = .ok (.iconst 1, 1) := by decide +kernel
theorem d9_121 : decode method_4_code 121 = .ok (.caload, 1) := by decide +kernel
theorem d9_122 : decode method_4_code 122 = .ok (.castore, 1) := by decide +kernel
theorem d9_123 : decode method_4_code 123 = .ok (.dup, 1) := by decide +kernel
theorem d9_124 : decode method_4_code 124 = .ok (.iconst 2, 1) := by decide +kernel
theorem d9_125 : decode method_4_code 125 = .ok (.aload_n 1, 1) := by decide +kernel
theorem d9_126 : decode method_4_code 126 = .ok (.iconst 2, 1) := by decide +kernel
theorem d9_127 : decode method_4_code 127 = .ok (.caload, 1) := by decide +kernel
theorem d9_128 : decode method_4_code 128 = .ok (.castore, 1) := by decide +kernel
theorem d9_129 : decode method_4_code 129 = .ok (.dup, 1) := by decide +kernel
theorem d9_130 : decode method_4_code 130 = .ok (.iconst 3, 1) := by decide +kernel
theorem d9_131 : decode method_4_code 131 = .ok (.aload_n 1, 1) := by decide +kernel
theorem d9_132 : decode method_4_code 132 = .ok (.iconst 3, 1) := by decide +kernel
theorem d9_133 : decode method_4_code 133 = .ok (.caload, 1) := by decide +kernel
theorem d9_134 : decode method_4_code 134 = .ok (.castore, 1) := by decide +kernel
theorem d9_135 : decode method_4_code 135 = .ok (.invokespecial 61, 3) := by decide +kernel
theorem d9_138 : decode method_4_code 138 = .ok (.areturn, 1) := by decide +kernel
theorem d9_139 : decode method_4_code 139 = .ok (.iload_n 0, 1) := by decide +kernel
theorem d9_140 : decode method_4_code 140 = .ok (.iconst 5, 1) := by decide +kernel
theorem d9_141 : decode method_4_code 141 = .ok (.if_icmp .ne 44, 3) := by decide +kernel
theorem d9_144 : decode method_4_code 144 = .ok (.new 16, 3) := by decide +kernel
theorem d9_147 : decode method_4_code 147 = .ok (.dup, 1) := by decide +kernel
theorem d9_148 : decode method_4_code 148 = .ok (.iconst 5, 1) := by decide +kernel
theorem d9_149 : decode method_4_code 149 = .ok (.newarray .char, 2) := by decide +kernel
theorem d9_151 : decode method_4_code 151 = .ok (.dup, 1) := by decide +kernel
theorem d9_152 : decode method_4_code 152 = .ok (.iconst 0, 1) := by decide +kernel
theorem d9_153 : decode method_4_code 153 = .ok (.aload_n 1, 1) := by decide +kernel
theorem d9_154 : decode method_4_code 154 = .ok (.iconst 0, 1) := by decide +kernel
theorem d9_155 : decode method_4_code 155 = .ok (.caload, 1) := by decide +kernel
theorem d9_156 : decode method_4_code 156 = .ok (.castore, 1) := by decide +kernel
theorem d9_157 : decode method_4_code 157 = .ok (.dup, 1) := by decide +kernel
theorem d9_158 : decode method_4_code 158 = .ok (.iconst 1, 1) := by decide +kernel
theorem d9_159 : decode method_4_code 159 = .ok (.aload_n 1, 1) := by decide +kernel
theorem d9_160 : decode method_4_code 160 = .ok (.iconst 1, 1) := by decide +kernel
theorem d9_161 : decode method_4_code 161 = .ok (.caload, 1) := by decide +kernel
theorem d9_162 : decode method_4_code 162 = .ok (.castore, 1) := by decide +kernel
theorem d9_163 : decode method_4_code 163 = .ok (.dup, 1) := by decide +kernel
theorem d9_164 : decode method_4_code 164 = .ok (.iconst 2, 1) := by decide +kernel
theorem d9_165 : decode method_4_code 165 = .ok (.aload_n 1, 1) := by decide +kernel
theorem d9_166 : decode method_4_code 166 = .ok (.iconst 2, 1) := by decide +kernel
theorem d9_167 : decode method_4_code 167 = .ok (.caload, 1) := by decide +kernel
theorem d9_168 : decode method_4_code 168 = .ok (.castore, 1) := by decide +kernel
theorem d9_169 : decode method_4_code 169 = .ok (.dup, 1) := by decide +kernel
theorem d9_170 : decode method_4_code 170 = .ok (.iconst 3, 1) := by decide +kernel
theorem d9_171 : decode method_4_code 171 = .ok (.aload_n 1, 1) := by decide +kernel
theorem d9_172 : decode method_4_code 172 = .ok (.iconst 3, 1) := by decide +kernel
theorem d9_173 : decode method_4_code 173 = .ok (.caload, 1) := by decide +kernel
theorem d9_174 : decode method_4_code 174 = .ok (.castore, 1) := by decide +kernel
theorem d9_175 : decode method_4_code 175 = .ok (.dup, 1) := by decide +kernel
theorem d9_176 : decode method_4_code 176 = .ok (.iconst 4, 1) := by decide +kernel
theorem d9_177 : decode method_4_code 177 = .ok (.aload_n 1, 1) := by decide +kernel
theorem d9_178 : decode method_4_code 178 = .ok (.iconst 4, 1) := by decide +kernel
theorem d9_179 : decode method_4_code 179 = .ok (.caload, 1) := by decide +kernel
theorem d9_180 : decode method_4_code 180 = .ok (.castore, 1) := by decide +kernel
theorem d9_181 : decode method_4_code 181 = .ok (.invokespecial 61, 3) := by decide +kernel
theorem d9_184 : decode method_4_code 184 = .ok (.areturn, 1) := by decide +kernel
theorem d9_185 : decode method_4_code 185 = .ok (.iload_n 0, 1) := by decide +kernel
theorem d9_186 : decode method_4_code 186 = .ok (.bipush 6, 2) := by decide +kernel
theorem d9_188 : decode method_4_code 188 = .ok (.if_icmp .ne 51, 3) := by decide +kernel
theorem d9_191 : decode method_4_code 191 = .ok (.new 16, 3) := by decide +kernel
theorem d9_194 : decode method_4_code 194 = .ok (.dup, 1) := by decide +kernel
theorem d9_195 : decode method_4_code 195 = .ok (.bipush 6, 2) := by decide +kernel
theorem d9_197 : decode method_4_code 197 = .ok (.newarray .char, 2) := by decide +kernel
theorem d9_199 : decode method_4_code 199 = .ok (.dup, 1) := by decide +kernel
theorem d9_200 : decode method_4_code 200 = .ok (.iconst 0, 1) := by decide +kernel
theorem d9_201 : decode method_4_code 201 = .ok (.aload_n 1, 1) := by decide +kernel
theorem d9_202 : decode method_4_code 202 = .ok (.iconst 0, 1) := by decide +kernel
theorem d9_203 : decode method_4_code 203 = .ok (.caload, 1) := by decide +kernel
theorem d9_204 : decode method_4_code 204 = .ok (.castore, 1) := by decide +kernel
theorem d9_205 : decode method_4_code 205 = .ok (.dup, 1) := by decide +kernel
theorem d9_206 : decode method_4_code 206 = .ok (.iconst 1, 1) := by decide +kernel
theorem d9_207 : decode method_4_code 207 = .ok (.aload_n 1, 1) := by decide +kernel
theorem d9_208 : decode method_4_code 208 = .ok (.iconst 1, 1) := by decide +kernel
theorem d9_209 : decode method_4_code 209 = .ok (.caload, 1) := by decide +kernel
theorem d9_210 : decode method_4_code 210 = .ok (.castore, 1) := by decide +kernel
theorem d9_211 : decode method_4_code 211 = .ok (.dup, 1) := by decide +kernel
theorem d9_212 : decode method_4_code 212 = .ok (.iconst 2, 1) := by decide +kernel
theorem d9_213 : decode method_4_code 213 = .ok (.aload_n 1, 1) := by decide +kernel
theorem d9_214 : decode method_4_code 214 = .ok (.iconst 2, 1) := by decide +kernel
theorem d9_215 : decode method_4_code 215 = .ok (.caload, 1) := by decide +kernel
theorem d9_216 : decode method_4_code 216 = .ok (.castore, 1) := by decide +kernel
theorem d9_217 : decode method_4_code 217 = .ok (.dup, 1) := by decide +kernel
theorem d9_218 : decode method_4_code 218 = .ok (.iconst 3, 1) := by decide +kernel
theorem d9_219 : decode method_4_code 219 = .ok (.aload_n 1, 1) := by decide +kernel
theorem d9_220 : decode method_4_code 220 = .ok (.iconst 3, 1) := by decide +kernel
theorem d9_221 : decode method_4_code 221 = .ok (.caload, 1) := by decide +kernel
theorem d9_222 : decode method_4_code 222 = .ok (.castore, 1) := by decide +kernel
theorem d9_223 : decode method_4_code 223 = .ok (.dup, 1) := by decide +kernel
theorem d9_224 : decode method_4_code 224 = .ok (.iconst 4, 1) := by decide +kernel
theorem d9_225 : decode method_4_code 225 = .ok (.aload_n 1, 1) := by decide +kernel
theorem d9_226 : decode method_4_code 226 = .ok (.iconst 4, 1) := by decide +kernel
theorem d9_227 : decode method_4_code 227 = .ok (.caload, 1) := by decide +kernel
theorem d9_228 : decode method_4_code 228 = .ok (.castore, 1) := by decide +kernel
theorem d9_229 : decode method_4_code 229 = .ok (.dup, 1) := by decide +kernel
theorem d9_230 : decode method_4_code 230 = .ok (.iconst 5, 1) := by decide +kernel
theorem d9_231 : decode method_4_code 231 = .ok (.aload_n 1, 1) := by decide +kernel
theorem d9_232 : decode method_4_code 232 = .ok (.iconst 5, 1) := by decide +kernel
theorem d9_233 : decode method_4_code 233 = .ok (.caload, 1) := by decide +kernel
theorem d9_234 : decode method_4_code 234 = .ok (.castore, 1) := by decide +kernel
theorem d9_235 : decode method_4_code 235 = .ok (.invokespecial 61, 3) := by decide +kernel
theorem d9_238 : decode method_4_code 238 = .ok (.areturn, 1) := by decide +kernel
theorem d9_239 : decode method_4_code 239 = .ok (.iload_n 0, 1) := by decide +kernel
theorem d9_240 : decode method_4_code 240 = .ok (.bipush 7, 2) := by decide +kernel
theorem d9_242 : decode method_4_code 242 = .ok (.if_icmp .ne 59, 3) := by decide +kernel
theorem d9_245 : decode method_4_code 245 = .ok (.new 16, 3) := by decide +kernel
theorem d9_248 : decode method_4_code 248 = .ok (.dup, 1) := by decide +kernel
theorem d9_249 : decode method_4_code 249 = .ok (.bipush 7, 2) := by decide +kernel
theorem d9_251 : decode method_4_code 251 = .ok (.newarray .char, 2) := by decide +kernel
theorem d9_253 : decode method_4_code 253 = .ok (.dup, 1) := by decide +kernel
theorem d9_254 : decode method_4_code 254 = .ok (.iconst 0, 1) := by decide +kernel
theorem d9_255 : decode method_4_code 255 = .ok (.aload_n 1, 1) := by decide +kernel
theorem d9_256 : decode method_4_code 256 = .ok (.iconst 0, 1) := by decide +kernel
theorem d9_257 : decode method_4_code 257 = .ok (.caload, 1) := by decide +kernel
theorem d9_258 : decode method_4_code 258 = .ok (.castore, 1) := by decide +kernel
theorem d9_259 : decode method_4_code 259 = .ok (.dup, 1) := by decide +kernel
theorem d9_260 : decode method_4_code 260 = .ok (.iconst 1, 1) := by decide +kernel
theorem d9_261 : decode method_4_code 261 = .ok (.aload_n 1, 1) := by decide +kernel
theorem d9_262 : decode method_4_code 262 = .ok (.iconst 1, 1) := by decide +kernel
theorem d9_263 : decode method_4_code 263 = .ok (.caload, 1) := by decide +kernel
theorem d9_264 : decode method_4_code 264 = .ok (.castore, 1) := by decide +kernel
theorem d9_265 : decode method_4_code 265 = .ok (.dup, 1) := by decide +kernel
theorem d9_266 : decode method_4_code 266 = .ok (.iconst 2, 1) := by decide +kernel
theorem d9_267 : decode method_4_code 267 = .ok (.aload_n 1, 1) := by decide +kernel
theorem d9_268 : decode method_4_code 268 = .ok (.iconst 2, 1) := by decide +kernel
theorem d9_269 : decode method_4_code 269 = .ok (.caload, 1) := by decide +kernel
theorem d9_270 : decode method_4_code 270 = .ok (.castore, 1) := by decide +kernel
theorem d9_271 : decode method_4_code 271 = .ok (.dup, 1) := by decide +kernel
theorem d9_272 : decode method_4_code 272 = .ok (.iconst 3, 1) := by decide +kernel
theorem d9_273 : decode method_4_code 273 = .ok (.aload_n 1, 1) := by decide +kernel
theorem d9_274 : decode method_4_code 274 = .ok (.iconst 3, 1) := by decide +kernel
theorem d9_275 : decode method_4_code 275 = .ok (.caload, 1) := by decide +kernel
theorem d9_276 : decode method_4_code 276 = .ok (.castore, 1) := by decide +kernel
theorem d9_277 : decode method_4_code 277 = .ok (.dup, 1) := by decide +kernel
theorem d9_278 : decode method_4_code 278 = .ok (.iconst 4, 1) := by decide +kernel
theorem d9_279 : decode method_4_code 279 = .ok (.aload_n 1, 1) := by decide +kernel
theorem d9_280 : decode method_4_code 280 = .ok (.iconst 4, 1) := by decide +kernel
theorem d9_281 : decode method_4_code 281 = .ok (.caload, 1) := by decide +kernel
theorem d9_282 : decode method_4_code 282 = .ok (.castore, 1) := by decide +kernel
theorem d9_283 : decode method_4_code 283 = .ok (.dup, 1) := by decide +kernel
theorem d9_284 : decode method_4_code 284 = .ok (.iconst 5, 1) := by decide +kernel
theorem d9_285 : decode method_4_code 285 = .ok (.aload_n 1, 1) := by decide +kernel
theorem d9_286 : decode method_4_code 286 = .ok (.iconst 5, 1) := by decide +kernel
theorem d9_287 : decode method_4_code 287 = .ok (.caload, 1) := by decide +kernel
theorem d9_288 : decode method_4_code 288 = .ok (.castore, 1) := by decide +kernel
theorem d9_289 : decode method_4_code 289 = .ok (.dup, 1) := by decide +kernel
theorem d9_290 : decode method_4_code 290 = .ok (.bipush 6, 2) := by decide +kernel
theorem d9_292 : decode method_4_code 292 = .ok (.aload_n 1, 1) := by decide +kernel
theorem d9_293 : decode method_4_code 293 = .ok (.bipush 6, 2) := by decide +kernel
theorem d9_295 : decode method_4_code 295 = .ok (.caload, 1) := by decide +kernel
theorem d9_296 : decode method_4_code 296 = .ok (.castore, 1) := by decide +kernel
theorem d9_297 : decode method_4_code 297 = .ok (.invokespecial 61, 3) := by decide +kernel
theorem d9_300 : decode method_4_code 300 = .ok (.areturn, 1) := by decide +kernel
theorem d9_301 : decode method_4_code 301 = .ok (.new 16, 3) := by decide +kernel
theorem d9_304 : decode method_4_code 304 = .ok (.dup, 1) := by decide +kernel
theorem d9_305 : decode method_4_code 305 = .ok (.bipush 8, 2) := by decide +kernel
theorem d9_307 : decode method_4_code 307 = .ok (.newarray .char, 2) := by decide +kernel
theorem d9_309 : decode method_4_code 309 = .ok (.dup, 1) := by decide +kernel
theorem d9_310 : decode method_4_code 310 = .ok (.iconst 0, 1) := by decide +kernel
theorem d9_311 : decode method_4_code 311 = .ok (.aload_n 1, 1) := by decide +kernel
theorem d9_312 : decode method_4_code 312 = .ok (.iconst 0, 1) := by decide +kernel
theorem d9_313 : decode method_4_code 313 = .ok (.caload, 1) := by decide +kernel
theorem d9_314 : decode method_4_code 314 = .ok (.castore, 1) := by decide +kernel
theorem d9_315 : decode method_4_code 315 = .ok (.dup, 1) := by decide +kernel
theorem d9_316 : decode method_4_code 316 = .ok (.iconst 1, 1) := by decide +kernel
theorem d9_317 : decode method_4_code 317 = .ok (.aload_n 1, 1) := by decide +kernel
theorem d9_318 : decode method_4_code 318 = .ok (.iconst 1, 1) := by decide +kernel
theorem d9_319 : decode method_4_code 319 = .ok (.caload, 1) := by decide +kernel
theorem d9_320 : decode method_4_code 320 = .ok (.castore, 1) := by decide +kernel
theorem d9_321 : decode method_4_code 321 = .ok (.dup, 1) := by decide +kernel
theorem d9_322 : decode method_4_code 322 = .ok (.iconst 2, 1) := by decide +kernel
theorem d9_323 : decode method_4_code 323 = .ok (.aload_n 1, 1) := by decide +kernel
theorem d9_324 : decode method_4_code 324 = .ok (.iconst 2, 1) := by decide +kernel
theorem d9_325 : decode method_4_code 325 = .ok (.caload, 1) := by decide +kernel
theorem d9_326 : decode method_4_code 326 = .ok (.castore, 1) := by decide +kernel
theorem d9_327 : decode method_4_code 327 = .ok (.dup, 1) := by decide +kernel
theorem d9_328 : decode method_4_code 328 = .ok (.iconst 3, 1) := by decide +kernel
theorem d9_329 : decode method_4_code 329 = .ok (.aload_n 1, 1) := by decide +kernel
theorem d9_330 : decode method_4_code 330 = .ok (.iconst 3, 1) := by decide +kernel
theorem d9_331 : decode method_4_code 331 = .ok (.caload, 1) := by decide +kernel
theorem d9_332 : decode method_4_code 332 = .ok (.castore, 1) := by decide +kernel
theorem d9_333 : decode method_4_code 333 = .ok (.dup, 1) := by decide +kernel
theorem d9_334 : decode method_4_code 334 = .ok (.iconst 4, 1) := by decide +kernel
theorem d9_335 : decode method_4_code 335 = .ok (.aload_n 1, 1) := by decide +kernel
theorem d9_336 : decode method_4_code 336 = .ok (.iconst 4, 1) := by decide +kernel
theorem d9_337 : decode method_4_code 337 = .ok (.caload, 1) := by decide +kernel
theorem d9_338 : decode method_4_code 338 = .ok (.castore, 1) := by decide +kernel
theorem d9_339 : decode method_4_code 339 = .ok (.dup, 1) := by decide +kernel
theorem d9_340 : decode method_4_code 340 = .ok (.iconst 5, 1) := by decide +kernel
theorem d9_341 : decode method_4_code 341 = .ok (.aload_n 1, 1) := by decide +kernel
theorem d9_342 : decode method_4_code 342 = .ok (.iconst 5, 1) := by decide +kernel
theorem d9_343 : decode method_4_code 343 = .ok (.caload, 1) := by decide +kernel
theorem d9_344 : decode method_4_code 344 = .ok (.castore, 1) := by decide +kernel
theorem d9_345 : decode method_4_code 345 = .ok (.dup, 1) := by decide +kernel
theorem d9_346 : decode method_4_code 346 = .ok (.bipush 6, 2) := by decide +kernel
theorem d9_348 : decode method_4_code 348 = .ok (.aload_n 1, 1) := by decide +kernel
theorem d9_349 : decode method_4_code 349 = .ok (.bipush 6, 2) := by decide +kernel
theorem d9_351 : decode method_4_code 351 = .ok (.caload, 1) := by decide +kernel
theorem d9_352 : decode method_4_code 352 = .ok (.castore, 1) := by decide +kernel
theorem d9_353 : decode method_4_code 353 = .ok (.dup, 1) := by decide +kernel
theorem d9_354 : decode method_4_code 354 = .ok (.bipush 7, 2) := by decide +kernel
theorem d9_356 : decode method_4_code 356 = .ok (.aload_n 1, 1) := by decide +kernel
theorem d9_357 : decode method_4_code 357 = .ok (.bipush 7, 2) := by decide +kernel
theorem d9_359 : decode method_4_code 359 = .ok (.caload, 1) := by decide +kernel
theorem d9_360 : decode method_4_code 360 = .ok (.castore, 1) := by decide +kernel
theorem d9_361 : decode method_4_code 361 = .ok (.invokespecial 61, 3) := by decide +kernel
theorem d9_364 : decode method_4_code 364 = .ok (.areturn, 1) := by decide +kernel
theorem pn_9 : plainName "com/example/pnorm/pnorm/model/WeightingNamedPinLaw" = true := by first | (simp [plainName, overriddenIn]; done) | decide +kernel
theorem pd_rm9_0 : parseMethodDescriptor "([C)V" = some ⟨[(.array .char)], none⟩ := by decide +kernel
theorem ef_rm9 (m : MethodId) (p1 : Int32) (a2 : Addr) : entryFrame m #[(.int p1), (.ref a2)] 2 = mkF m 0 #[.val (.int p1), .val (.ref a2)] [] := by first | (simp [entryFrame, mkF, argsToLocals, Value.category]; done) | rfl
def Q9 (Z : State) (p1 : Int32) (a2 : Addr) (w1 : Int32) (h0 : Heap) (n0 : Nat) (v : Option Value) (h : Heap) (vm : Vm) (L : List Loc) : Prop := ∃ (a : Addr) (b : Addr) (k : ClassId) (xs : List Int32), v = some (.ref a) ∧ Fr n0 L ∧ Keep h0 h [] ∧ own_S Z h a b k xs ∧ own_All own_lits Z vm h
set_option maxRecDepth 65536 in
set_option maxHeartbeats 40000000 in
theorem rm9 (l : Launch) (Z : State) (a0 : Array Value) (hw : ∀ d ∈ tables_1, d.before a0 Z = true) (ws : List Jvm.Cond) (p1 : Int32) (a2 : Addr) (w1 : Int32) (h0 : Heap) (n0 : Nat) (Z0 : n0 ≤ h0.size) (S_C : Sta Z Z.heap "java/lang/String" "COMPACT_STRINGS" "Z" (.int w1)) (c0 : ¬ w1 = 0) (hzo : Old Z n0 h0) (hcw : Jvm.Lit.compactW.before a0 Z = true) (hH : ∀ q ∈ own_lits, Jvm.Lit.constHeld Z q.1 q.2.1) (V_a2 : own_C8 Z h0 a2) :
    MetFree l (⟨"com/example/pnorm/pnorm/model/WeightingNamedPinLaw", "mk", "(I[C)Ljava/lang/String;"⟩ : MethodName) (head1 (Jvm.Cond.code (⟨"com/example/pnorm/pnorm/model/WeightingNamedPinLaw", "mk", "(I[C)Ljava/lang/String;"⟩ : MethodName) method_4_code 2 (some (.object "java/lang/String")) :: ws) ({ frames := 4, cells := 4, slots := 20, locals := 66 } : Room)) (fun a U => a = #[(.int p1), (.ref a2)] ∧ Z.Warmed39 U.vm ∧ U.heap = h0 ∧ own_All own_lits Z U.vm h0) (fun _ _ _ _ _ => True) (fun _ U o U' => ∃ v L, o = .returned v ∧ Q9 Z p1 a2 w1 h0 n0 v U'.heap U'.vm L ∧ ReturnedEndW U o U' L ({ frames := 4, cells := 4, slots := 20, locals := 66 } : Room).cells ({ frames := 4, cells := 4, slots := 20, locals := 66 } : Room).slots) := by
  refine MetFree.of_bodySF (plainFor_of_name pn_9) hisR ?_
  intro p e s m args below meth c s₁ Bd hml0 hP hK
  obtain ⟨rfl, hZ, hh, hpv⟩ := hP
  have hx := Bd.exec
  have hby := Bd.bytes
  have hml : c.maxLocals = 2 := hml0
  have hown : s.vm.findClass "com/example/pnorm/pnorm/model/WeightingNamedPinLaw" = some m.cls := findClass_of_methodNamed Bd.named
  have hnm := (name_of_methodNamed Bd.named Bd.method).1
  have hlk := BodyLoose.notSynchronized Bd
  have hrt := Bd.returns
  have X0 : Stand p l e ({ frames := 4, cells := 4, slots := 20, locals := 66 } : Room) s m #[(.int p1), (.ref a2)] below meth c s₁ [] 0 0 := Stand.of_body Bd
  have e0 : s₁.heap = h0 := by rw [← hh, Bd.state]; rfl
  have N0 := Fr.nil n0
  have hS0 : s.Since s.vm 0 := (State.WarmedH.refl s).since 0
  have IB0 := hpv
  have hkp : ∀ (b : Addr) (cl : Cell), Z.heap[b]? = some cl → s.heap[b]? = some cl := fun b cl q => by rw [hh]; exact hzo.2.2 b cl q
  show OEndsW p e below s (Q9 Z p1 a2 w1 h0 n0) ({ frames := 4, cells := 4, slots := 20, locals := 66 } : Room).cells ({ frames := 4, cells := 4, slots := 20, locals := 66 } : Room).slots (s₁.setTop (entryFrame m #[(.int p1), (.ref a2)] 2))
  refine OEndsW.go (t' := s₁.setTop (mkF m 0 #[.val (.int p1), .val (.ref a2)] [])) (fun t k => castTop (ef_rm9 m p1 a2) k) ?_
  have hzt := hzo
  refine OEndsW.go (t' := s₁.setTop (mkF m 1 #[.val (.int p1), .val (.ref a2)] [(.int p1)])) (fun _ k => ?_) ?_
  · show Steps p.tables e below (s₁.setTop (mkF m 0 #[.val (.int p1), .val (.ref a2)] [])) _
    refine XS.iloadN X0.here hx rfl (hb hby d9_0) rfl ?_
    show Steps p.tables e below (s₁.setTop (mkF m 1 #[.val (.int p1), .val (.ref a2)] [(.int p1)])) _
    exact k
  by_cases q0 : (0 : Int32) < p1
  · refine OEndsW.go (t' := s₁.setTop (mkF m 15 #[.val (.int p1), .val (.ref a2)] [])) (fun _ k => XS.ifYes X0.here hx rfl (pc0 := 1) (pc' := 15) rfl (hb hby d9_1) rfl ((if0 _ _).trans (tlt q0).2.2.1) (by decide) (by decide) k) ?_
    refine OEndsW.go (t' := s₁.setTop (mkF m 17 #[.val (.int p1), .val (.ref a2)] [(.int (1 : Int32)), (.int p1)])) (fun _ k => ?_) ?_
    · show Steps p.tables e below (s₁.setTop (mkF m 15 #[.val (.int p1), .val (.ref a2)] [])) _
      refine XS.iloadN X0.here hx rfl (hb hby d9_15) rfl ?_
      show Steps p.tables e below (s₁.setTop (mkF m 16 #[.val (.int p1), .val (.ref a2)] [(.int p1)])) _
      refine XS.iconst X0.here hx rfl (hb hby d9_16) ?_
      show Steps p.tables e below (s₁.setTop (mkF m 17 #[.val (.int p1), .val (.ref a2)] [(.int (1 : Int32)), (.int p1)])) _
      exact k
    by_cases q1 : p1 = (1 : Int32)
    · refine OEndsW.go (t' := s₁.setTop (mkF m 20 #[.val (.int p1), .val (.ref a2)] [])) (fun _ k => XS.icmpNo X0.here hx rfl (hb hby d9_17) rfl (teq q1).2 k) ?_
      obtain ⟨T1, h1, X1, e1, E1, A1, D1, -, st1⟩ := newO X0 hx hZ hown (hw _ (List.mem_of_getElem? (i := 51) rfl)) (hw _ (List.mem_of_getElem? (i := 2) rfl)) (hw _ (List.mem_of_getElem? (i := 1) rfl)) e0 (g := (mkF m 20 #[.val (.int p1), .val (.ref a2)] [])) rfl (hb hby d9_20) (by decide) (by decide)
      obtain ⟨b1, gz1⟩ : ∃ z, z = h0.size := ⟨_, rfl⟩
      rw [← gz1] at A1 D1 st1
      have ne_a2_b1 : a2 ≠ b1 := Nat.ne_of_lt (Nat.lt_of_lt_of_le V_a2.lt (Nat.le_of_eq gz1.symm))
      have g_b1 : n0 ≤ b1 := Nat.le_trans Z0 (Nat.le_of_eq gz1.symm)
      have sz_b1 : h0.size ≤ b1 := Nat.le_trans (Keep.refl h0 []).1 (Nat.le_of_eq gz1.symm)
      have hzt := hzt.ext E1
      have V_a2 := V_a2.ext E1
      have Z1 : n0 ≤ h1.size := Nat.le_trans Z0 E1.1
      have K1 := (Keep.refl h0 []).ext E1
      have E_b1 := A1
      have F_value_b1 : Fld Z h1 b1 "java/lang/String" "value" "[B" .null := D1 (Or.inr (hw _ (List.mem_of_getElem? (i := 4) rfl))) (ty := (.array .byte)) (by decide)
      have F_coder_b1 : Fld Z h1 b1 "java/lang/String" "coder" "B" (.int (0 : Int32)) := D1 (Or.inr (hw _ (List.mem_of_getElem? (i := 5) rfl))) (ty := .byte) (by decide)
      refine OEndsW.go (t' := T1.setTop (mkF m 23 #[.val (.int p1), .val (.ref a2)] [(.ref b1)])) (fun _ k => st1 _ k) ?_
      refine OEndsW.go (t' := T1.setTop (mkF m 25 #[.val (.int p1), .val (.ref a2)] [(.int (1 : Int32)), (.ref b1), (.ref b1)])) (fun _ k => ?_) ?_
      · show Steps p.tables e below (T1.setTop (mkF m 23 #[.val (.int p1), .val (.ref a2)] [(.ref b1)])) _
        refine XS.dup X1.here hx rfl (hb hby d9_23) rfl rfl ?_
        show Steps p.tables e below (T1.setTop (mkF m 24 #[.val (.int p1), .val (.ref a2)] [(.ref b1), (.ref b1)])) _
        refine XS.iconst X1.here hx rfl (hb hby d9_24) ?_
        show Steps p.tables e below (T1.setTop (mkF m 25 #[.val (.int p1), .val (.ref a2)] [(.int (1 : Int32)), (.ref b1), (.ref b1)])) _
        exact k
      obtain ⟨T2, h2, ka2, X2, e2, E2, A2, st2⟩ := newP X1 hx hZ (hw _ (List.mem_of_getElem? (i := 21) rfl)) e1 (g := (mkF m 25 #[.val (.int p1), .val (.ref a2)] [(.int (1 : Int32)), (.ref b1), (.ref b1)])) rfl (hb hby d9_25) rfl (by decide) (cap := 1) (by decide) (by decide) (by decide) (by decide)
      obtain ⟨ar, gz2⟩ : ∃ z, z = h1.size := ⟨_, rfl⟩
      rw [← gz2] at A2 st2
      have ne_a2_ar : a2 ≠ ar := Nat.ne_of_lt (Nat.lt_of_lt_of_le V_a2.lt (Nat.le_of_eq gz2.symm))
      have ne_b1_ar : b1 ≠ ar := Nat.ne_of_lt (Nat.lt_of_lt_of_le E_b1.lt (Nat.le_of_eq gz2.symm))
      have g_ar : n0 ≤ ar := Nat.le_trans Z1 (Nat.le_of_eq gz2.symm)
      have sz_ar : h0.size ≤ ar := Nat.le_trans K1.1 (Nat.le_of_eq gz2.symm)
      have hzt := hzt.ext E2
      have V_a2 := V_a2.ext E2
      have E_b1 := E_b1.ext E2
      have F_value_b1 := F_value_b1.ext E2
      have F_coder_b1 := F_coder_b1.ext E2
      have Z2 : n0 ≤ h2.size := Nat.le_trans Z1 E2.1
      have K2 := K1.ext E2
      have V_ar : Arv Z h2 ar ka2 .char (1 : Int32) [(.int (0 : Int32))] (.int (0 : Int32)) := (Arv.new A2 (by decide)).pad (pad_rep [] (.int (0 : Int32)) 1)
      refine OEndsW.go (t' := T2.setTop (mkF m 27 #[.val (.int p1), .val (.ref a2)] [(.ref ar), (.ref b1), (.ref b1)])) (fun _ k => st2 _ k) ?_
      refine OEndsW.go (t' := T2.setTop (mkF m 31 #[.val (.int p1), .val (.ref a2)] [(.int (0 : Int32)), (.ref a2), (.int (0 : Int32)), (.ref ar), (.ref ar), (.ref b1), (.ref b1)])) (fun _ k => ?_) ?_
      · show Steps p.tables e below (T2.setTop (mkF m 27 #[.val (.int p1), .val (.ref a2)] [(.ref ar), (.ref b1), (.ref b1)])) _
        refine XS.dup X2.here hx rfl (hb hby d9_27) rfl rfl ?_
        show Steps p.tables e below (T2.setTop (mkF m 28 #[.val (.int p1), .val (.ref a2)] [(.ref ar), (.ref ar), (.ref b1), (.ref b1)])) _
        refine XS.iconst X2.here hx rfl (hb hby d9_28) ?_
        show Steps p.tables e below (T2.setTop (mkF m 29 #[.val (.int p1), .val (.ref a2)] [(.int (0 : Int32)), (.ref ar), (.ref ar), (.ref b1), (.ref b1)])) _
        refine XS.aloadN X2.here hx rfl (hb hby d9_29) rfl rfl ?_
        show Steps p.tables e below (T2.setTop (mkF m 30 #[.val (.int p1), .val (.ref a2)] [(.ref a2), (.int (0 : Int32)), (.ref ar), (.ref ar), (.ref b1), (.ref b1)])) _
        refine XS.iconst X2.here hx rfl (hb hby d9_30) ?_
        show Steps p.tables e below (T2.setTop (mkF m 31 #[.val (.int p1), .val (.ref a2)] [(.int (0 : Int32)), (.ref a2), (.int (0 : Int32)), (.ref ar), (.ref ar), (.ref b1), (.ref b1)])) _
        exact k
      obtain ⟨z0, hz0, hy0⟩ := V_a2.rd (j := 0) ⟨by decide, by decide⟩
      obtain ⟨cl3, Ar3, hin3, hat3⟩ := hy0
      refine OEndsW.go (t' := T2.setTop (mkF m 32 #[.val (.int p1), .val (.ref a2)] [(.int z0), (.int (0 : Int32)), (.ref ar), (.ref ar), (.ref b1), (.ref b1)])) (fun _ k => X2.caload hx (j := (0 : Int32)) (v := (.int z0)) (by rw [e2]; exact Ar3.1) (State.isArrayOf_alike hZ.alike Ar3.2.1) Ar3.2.2 hin3 hat3 (g := (mkF m 31 #[.val (.int p1), .val (.ref a2)] [(.int (0 : Int32)), (.ref a2), (.int (0 : Int32)), (.ref ar), (.ref ar), (.ref b1), (.ref b1)])) rfl rfl (hb hby d9_31) _ k) ?_
      obtain ⟨cl4, Ar4, cq4, cS4, cN4, cH4, cG4⟩ := V_ar
      have hin4 : ¬ ((0 : Int32) < 0 ∨ cl4.slots.size ≤ ((0 : Int32)).toNatClampNeg) := inb_of cS4 ⟨by decide, by decide⟩
      obtain ⟨T4, h4, X4, e4, W4, st4⟩ := stC X2 hx hZ e2 Ar4 (j := (0 : Int32)) hin4 (g := (mkF m 32 #[.val (.int p1), .val (.ref a2)] [(.int z0), (.int (0 : Int32)), (.ref ar), (.ref ar), (.ref b1), (.ref b1)])) rfl rfl (hb hby d9_32)
      have N4 := Fr.snoc X4 N0 g_ar
      have hzt := hzt.wr W4 g_ar
      have V_a2 := V_a2.other W4 ne_a2_ar
      have E_b1 := E_b1.wr W4
      have F_value_b1 := F_value_b1.other W4 (Or.inl ne_b1_ar)
      have F_coder_b1 := F_coder_b1.other W4 (Or.inl ne_b1_ar)
      have Z4 : n0 ≤ h4.size := Nat.le_trans Z2 (Keep.of_wr W4).1
      have K4 := K2.wr W4 (Or.inr sz_ar)
      have V_ar := Arv.set Ar4 cq4 cS4 cN4 cH4 cG4 (fits_nar_char _) W4 0 rfl (Nat.le_of_ble_eq_true rfl)
      refine OEndsW.go (t' := T4.setTop (mkF m 33 #[.val (.int p1), .val (.ref a2)] [(.ref ar), (.ref b1), (.ref b1)])) (fun _ k => st4 _ k) ?_
      have C_ar : own_Ch Z h4 ar ka2 [z0] := by
        refine ⟨?_, Nat.le_of_ble_eq_true rfl, ?_⟩
        · have q := V_ar
          rw [own_nar hz0] at q
          exact q
        · intro z hz; simp only [List.mem_cons, List.not_mem_nil, or_false] at hz
          rcases hz with rfl <;> assumption
      obtain ⟨_, _, ⟨T5, L5, k5, n5⟩, -, X5, ⟨Lc5, hQ5, l5, y5, z5⟩, st5⟩ := X4.specialBack hx (y := (⟨"java/lang/String", "<init>", "([C)V"⟩ : MethodName)) rfl hown (mvT hZ (hw _ (List.mem_of_getElem? (i := 52) rfl))) (mvT hZ (hw _ (List.mem_of_getElem? (i := 53) rfl))) (mvT hZ (hw _ (List.mem_of_getElem? (i := 54) rfl))) (by decide) (backOf (W := 1) (rm10 l Z a0 hw [] b1 ar w1 _ [z0] h4 n0 Z4 (S_C.ext hzt.2) c0 F_value_b1 F_coder_b1 E_b1 g_b1 C_ar (Nat.le_of_ble_eq_true rfl) (Nat.le_of_ble_eq_true rfl)) hZ (hw _ (List.mem_of_getElem? (i := 54) rfl)) (hw _ (List.mem_of_getElem? (i := 1) rfl)) (by decide) (by decide)) (g := (mkF m 33 #[.val (.int p1), .val (.ref a2)] [(.ref ar), (.ref b1), (.ref b1)])) rfl (by rw [hml]; rfl) (Steps.refl _) (a := b1) (argsL := [(.ref ar)]) (rest := [(.ref b1)]) (lenOf pd_rm9_0 rfl) rfl (by show 2 * 0 + _ ≤ _; exact Nat.le_of_eq rfl) (hb hby d9_33) (fun _ _ => ⟨rfl, e4, (by decide : 2 + 1 ≤ _), (by decide : 5 + 8 ≤ _)⟩)
      dsimp only [Pt.U, Pt.locs, Pt.cells, Pt.slots] at X5 l5 y5 z5 st5 hQ5
      subst l5 y5 z5
      obtain ⟨rfl, N5q, Kc5, bb5, kk5, hs5⟩ := hQ5
      have N5 := Fr.app N4 N5q
      have hzt := hzt.keep Kc5 (allS g_b1 all0)
      have V_a2 := V_a2.keep Kc5 (ninS ne_a2_b1 nin0)
      have E_b1 := E_b1.keep Kc5
      have C_ar := C_ar.keep Kc5 (ninS (Ne.symm ne_b1_ar) nin0)
      have Z5 : n0 ≤ T5.heap.size := Nat.le_trans Z4 Kc5.1
      have K5 := K4.trans Kc5 (allS (Or.inr sz_b1) all0)
      refine OEndsW.go (t' := T5.setTop (mkF m 36 #[.val (.int p1), .val (.ref a2)] [(.ref b1)])) (fun _ k => st5.trans k) ?_
      refine OEndsW.back (vm₁ := s.vm) X5 hS0 (Nat.zero_le _) hlk (v := (some (.ref b1))) (fun h => by rw [hrt] at h; cases h) (fun fs hr => ?_) ?_ (by decide) (by decide)
      · exact retA X5 hx hrt rfl rfl rfl (hb hby d9_36) hr
      · show Q9 Z p1 a2 w1 h0 n0 _ T5.heap T5.vm _
        exact ⟨_, _, _, _, rfl, N5, K5, hs5, (hpv.keep0 K5).stays X5.warmed⟩
    · refine OEndsW.go (t' := s₁.setTop (mkF m 37 #[.val (.int p1), .val (.ref a2)] [])) (fun _ k => XS.icmpYes X0.here hx rfl (pc0 := 17) (pc' := 37) rfl (hb hby d9_17) rfl (feq q1).2 (by decide) (by decide) k) ?_
      refine OEndsW.go (t' := s₁.setTop (mkF m 39 #[.val (.int p1), .val (.ref a2)] [(.int (2 : Int32)), (.int p1)])) (fun _ k => ?_) ?_
      · show Steps p.tables e below (s₁.setTop (mkF m 37 #[.val (.int p1), .val (.ref a2)] [])) _
        refine XS.iloadN X0.here hx rfl (hb hby d9_37) rfl ?_
        show Steps p.tables e below (s₁.setTop (mkF m 38 #[.val (.int p1), .val (.ref a2)] [(.int p1)])) _
        refine XS.iconst X0.here hx rfl (hb hby d9_38) ?_
        show Steps p.tables e below (s₁.setTop (mkF m 39 #[.val (.int p1), .val (.ref a2)] [(.int (2 : Int32)), (.int p1)])) _
        exact k
      by_cases q2 : p1 = (2 : Int32)
      · refine OEndsW.go (t' := s₁.setTop (mkF m 42 #[.val (.int p1), .val (.ref a2)] [])) (fun _ k => XS.icmpNo X0.here hx rfl (hb hby d9_39) rfl (teq q2).2 k) ?_
        obtain ⟨T6, h6, X6, e6, E6, A6, D6, -, st6⟩ := newO X0 hx hZ hown (hw _ (List.mem_of_getElem? (i := 51) rfl)) (hw _ (List.mem_of_getElem? (i := 2) rfl)) (hw _ (List.mem_of_getElem? (i := 1) rfl)) e0 (g := (mkF m 42 #[.val (.int p1), .val (.ref a2)] [])) rfl (hb hby d9_42) (by decide) (by decide)
        obtain ⟨b1, gz6⟩ : ∃ z, z = h0.size := ⟨_, rfl⟩
        rw [← gz6] at A6 D6 st6
        have ne_a2_b1 : a2 ≠ b1 := Nat.ne_of_lt (Nat.lt_of_lt_of_le V_a2.lt (Nat.le_of_eq gz6.symm))
        have g_b1 : n0 ≤ b1 := Nat.le_trans Z0 (Nat.le_of_eq gz6.symm)
        have sz_b1 : h0.size ≤ b1 := Nat.le_trans (Keep.refl h0 []).1 (Nat.le_of_eq gz6.symm)
        have hzt := hzt.ext E6
        have V_a2 := V_a2.ext E6
        have Z6 : n0 ≤ h6.size := Nat.le_trans Z0 E6.1
        have K6 := (Keep.refl h0 []).ext E6
        have E_b1 := A6
        have F_value_b1 : Fld Z h6 b1 "java/lang/String" "value" "[B" .null := D6 (Or.inr (hw _ (List.mem_of_getElem? (i := 4) rfl))) (ty := (.array .byte)) (by decide)
        have F_coder_b1 : Fld Z h6 b1 "java/lang/String" "coder" "B" (.int (0 : Int32)) := D6 (Or.inr (hw _ (List.mem_of_getElem? (i := 5) rfl))) (ty := .byte) (by decide)
        refine OEndsW.go (t' := T6.setTop (mkF m 45 #[.val (.int p1), .val (.ref a2)] [(.ref b1)])) (fun _ k => st6 _ k) ?_
        refine OEndsW.go (t' := T6.setTop (mkF m 47 #[.val (.int p1), .val (.ref a2)] [(.int (2 : Int32)), (.ref b1), (.ref b1)])) (fun _ k => ?_) ?_
        · show Steps p.tables e below (T6.setTop (mkF m 45 #[.val (.int p1), .val (.ref a2)] [(.ref b1)])) _
          refine XS.dup X6.here hx rfl (hb hby d9_45) rfl rfl ?_
          show Steps p.tables e below (T6.setTop (mkF m 46 #[.val (.int p1), .val (.ref a2)] [(.ref b1), (.ref b1)])) _
          refine XS.iconst X6.here hx rfl (hb hby d9_46) ?_
          show Steps p.tables e below (T6.setTop (mkF m 47 #[.val (.int p1), .val (.ref a2)] [(.int (2 : Int32)), (.ref b1), (.ref b1)])) _
          exact k
        obtain ⟨T7, h7, ka7, X7, e7, E7, A7, st7⟩ := newP X6 hx hZ (hw _ (List.mem_of_getElem? (i := 21) rfl)) e6 (g := (mkF m 47 #[.val (.int p1), .val (.ref a2)] [(.int (2 : Int32)), (.ref b1), (.ref b1)])) rfl (hb hby d9_47) rfl (by decide) (cap := 2) (by decide) (by decide) (by decide) (by decide)
        obtain ⟨ar, gz7⟩ : ∃ z, z = h6.size := ⟨_, rfl⟩
        rw [← gz7] at A7 st7
        have ne_a2_ar : a2 ≠ ar := Nat.ne_of_lt (Nat.lt_of_lt_of_le V_a2.lt (Nat.le_of_eq gz7.symm))
        have ne_b1_ar : b1 ≠ ar := Nat.ne_of_lt (Nat.lt_of_lt_of_le E_b1.lt (Nat.le_of_eq gz7.symm))
        have g_ar : n0 ≤ ar := Nat.le_trans Z6 (Nat.le_of_eq gz7.symm)
        have sz_ar : h0.size ≤ ar := Nat.le_trans K6.1 (Nat.le_of_eq gz7.symm)
        have hzt := hzt.ext E7
        have V_a2 := V_a2.ext E7
        have E_b1 := E_b1.ext E7
        have F_value_b1 := F_value_b1.ext E7
        have F_coder_b1 := F_coder_b1.ext E7
        have Z7 : n0 ≤ h7.size := Nat.le_trans Z6 E7.1
        have K7 := K6.ext E7
        have V_ar : Arv Z h7 ar ka7 .char (2 : Int32) [(.int (0 : Int32)), (.int (0 : Int32))] (.int (0 : Int32)) := (Arv.new A7 (by decide)).pad (pad_rep [] (.int (0 : Int32)) 2)
        refine OEndsW.go (t' := T7.setTop (mkF m 49 #[.val (.int p1), .val (.ref a2)] [(.ref ar), (.ref b1), (.ref b1)])) (fun _ k => st7 _ k) ?_
        refine OEndsW.go (t' := T7.setTop (mkF m 53 #[.val (.int p1), .val (.ref a2)] [(.int (0 : Int32)), (.ref a2), (.int (0 : Int32)), (.ref ar), (.ref ar), (.ref b1), (.ref b1)])) (fun _ k => ?_) ?_
        · show Steps p.tables e below (T7.setTop (mkF m 49 #[.val (.int p1), .val (.ref a2)] [(.ref ar), (.ref b1), (.ref b1)])) _
          refine XS.dup X7.here hx rfl (hb hby d9_49) rfl rfl ?_
          show Steps p.tables e below (T7.setTop (mkF m 50 #[.val (.int p1), .val (.ref a2)] [(.ref ar), (.ref ar), (.ref b1), (.ref b1)])) _
          refine XS.iconst X7.here hx rfl (hb hby d9_50) ?_
          show Steps p.tables e below (T7.setTop (mkF m 51 #[.val (.int p1), .val (.ref a2)] [(.int (0 : Int32)), (.ref ar), (.ref ar), (.ref b1), (.ref b1)])) _
          refine XS.aloadN X7.here hx rfl (hb hby d9_51) rfl rfl ?_
          show Steps p.tables e below (T7.setTop (mkF m 52 #[.val (.int p1), .val (.ref a2)] [(.ref a2), (.int (0 : Int32)), (.ref ar), (.ref ar), (.ref b1), (.ref b1)])) _
          refine XS.iconst X7.here hx rfl (hb hby d9_52) ?_
          show Steps p.tables e below (T7.setTop (mkF m 53 #[.val (.int p1), .val (.ref a2)] [(.int (0 : Int32)), (.ref a2), (.int (0 : Int32)), (.ref ar), (.ref ar), (.ref b1), (.ref b1)])) _
          exact k
        obtain ⟨z0, hz0, hy0⟩ := V_a2.rd (j := 0) ⟨by decide, by decide⟩
        obtain ⟨cl8, Ar8, hin8, hat8⟩ := hy0
        refine OEndsW.go (t' := T7.setTop (mkF m 54 #[.val (.int p1), .val (.ref a2)] [(.int z0), (.int (0 : Int32)), (.ref ar), (.ref ar), (.ref b1), (.ref b1)])) (fun _ k => X7.caload hx (j := (0 : Int32)) (v := (.int z0)) (by rw [e7]; exact Ar8.1) (State.isArrayOf_alike hZ.alike Ar8.2.1) Ar8.2.2 hin8 hat8 (g := (mkF m 53 #[.val (.int p1), .val (.ref a2)] [(.int (0 : Int32)), (.ref a2), (.int (0 : Int32)), (.ref ar), (.ref ar), (.ref b1), (.ref b1)])) rfl rfl (hb hby d9_53) _ k) ?_
        obtain ⟨cl9, Ar9, cq9, cS9, cN9, cH9, cG9⟩ := V_ar
        have hin9 : ¬ ((0 : Int32) < 0 ∨ cl9.slots.size ≤ ((0 : Int32)).toNatClampNeg) := inb_of cS9 ⟨by decide, by decide⟩
        obtain ⟨T9, h9, X9, e9, W9, st9⟩ := stC X7 hx hZ e7 Ar9 (j := (0 : Int32)) hin9 (g := (mkF m 54 #[.val (.int p1), .val (.ref a2)] [(.int z0), (.int (0 : Int32)), (.ref ar), (.ref ar), (.ref b1), (.ref b1)])) rfl rfl (hb hby d9_54)
        have N9 := Fr.snoc X9 N0 g_ar
        have hzt := hzt.wr W9 g_ar
        have V_a2 := V_a2.other W9 ne_a2_ar
        have E_b1 := E_b1.wr W9
        have F_value_b1 := F_value_b1.other W9 (Or.inl ne_b1_ar)
        have F_coder_b1 := F_coder_b1.other W9 (Or.inl ne_b1_ar)
        have Z9 : n0 ≤ h9.size := Nat.le_trans Z7 (Keep.of_wr W9).1
        have K9 := K7.wr W9 (Or.inr sz_ar)
        have V_ar := Arv.set Ar9 cq9 cS9 cN9 cH9 cG9 (fits_nar_char _) W9 0 rfl (Nat.le_of_ble_eq_true rfl)
        refine OEndsW.go (t' := T9.setTop (mkF m 55 #[.val (.int p1), .val (.ref a2)] [(.ref ar), (.ref b1), (.ref b1)])) (fun _ k => st9 _ k) ?_
        refine OEndsW.go (t' := T9.setTop (mkF m 59 #[.val (.int p1), .val (.ref a2)] [(.int (1 : Int32)), (.ref a2), (.int (1 : Int32)), (.ref ar), (.ref ar), (.ref b1), (.ref b1)])) (fun _ k => ?_) ?_
        · show Steps p.tables e below (T9.setTop (mkF m 55 #[.val (.int p1), .val (.ref a2)] [(.ref ar), (.ref b1), (.ref b1)])) _
          refine XS.dup X9.here hx rfl (hb hby d9_55) rfl rfl ?_
          show Steps p.tables e below (T9.setTop (mkF m 56 #[.val (.int p1), .val (.ref a2)] [(.ref ar), (.ref ar), (.ref b1), (.ref b1)])) _
          refine XS.iconst X9.here hx rfl (hb hby d9_56) ?_
          show Steps p.tables e below (T9.setTop (mkF m 57 #[.val (.int p1), .val (.ref a2)] [(.int (1 : Int32)), (.ref ar), (.ref ar), (.ref b1), (.ref b1)])) _
          refine XS.aloadN X9.here hx rfl (hb hby d9_57) rfl rfl ?_
          show Steps p.tables e below (T9.setTop (mkF m 58 #[.val (.int p1), .val (.ref a2)] [(.ref a2), (.int (1 : Int32)), (.ref ar), (.ref ar), (.ref b1), (.ref b1)])) _
          refine XS.iconst X9.here hx rfl (hb hby d9_58) ?_
          show Steps p.tables e below (T9.setTop (mkF m 59 #[.val (.int p1), .val (.ref a2)] [(.int (1 : Int32)), (.ref a2), (.int (1 : Int32)), (.ref ar), (.ref ar), (.ref b1), (.ref b1)])) _
          exact k
        obtain ⟨z1, hz1, hy1⟩ := V_a2.rd (j := 1) ⟨by decide, by decide⟩
        obtain ⟨cl10, Ar10, hin10, hat10⟩ := hy1
        refine OEndsW.go (t' := T9.setTop (mkF m 60 #[.val (.int p1), .val (.ref a2)] [(.int z1), (.int (1 : Int32)), (.ref ar), (.ref ar), (.ref b1), (.ref b1)])) (fun _ k => X9.caload hx (j := (1 : Int32)) (v := (.int z1)) (by rw [e9]; exact Ar10.1) (State.isArrayOf_alike hZ.alike Ar10.2.1) Ar10.2.2 hin10 hat10 (g := (mkF m 59 #[.val (.int p1), .val (.ref a2)] [(.int (1 : Int32)), (.ref a2), (.int (1 : Int32)), (.ref ar), (.ref ar), (.ref b1), (.ref b1)])) rfl rfl (hb hby d9_59) _ k) ?_
        obtain ⟨cl11, Ar11, cq11, cS11, cN11, cH11, cG11⟩ := V_ar
        have hin11 : ¬ ((1 : Int32) < 0 ∨ cl11.slots.size ≤ ((1 : Int32)).toNatClampNeg) := inb_of cS11 ⟨by decide, by decide⟩
        obtain ⟨T11, h11, X11, e11, W11, st11⟩ := stC X9 hx hZ e9 Ar11 (j := (1 : Int32)) hin11 (g := (mkF m 60 #[.val (.int p1), .val (.ref a2)] [(.int z1), (.int (1 : Int32)), (.ref ar), (.ref ar), (.ref b1), (.ref b1)])) rfl rfl (hb hby d9_60)
        have N11 := Fr.snoc X11 N9 g_ar
        have hzt := hzt.wr W11 g_ar
        have V_a2 := V_a2.other W11 ne_a2_ar
        have E_b1 := E_b1.wr W11
        have F_value_b1 := F_value_b1.other W11 (Or.inl ne_b1_ar)
        have F_coder_b1 := F_coder_b1.other W11 (Or.inl ne_b1_ar)
        have Z11 : n0 ≤ h11.size := Nat.le_trans Z9 (Keep.of_wr W11).1
        have K11 := K9.wr W11 (Or.inr sz_ar)
        have V_ar := Arv.set Ar11 cq11 cS11 cN11 cH11 cG11 (fits_nar_char _) W11 1 rfl (Nat.le_of_ble_eq_true rfl)
        refine OEndsW.go (t' := T11.setTop (mkF m 61 #[.val (.int p1), .val (.ref a2)] [(.ref ar), (.ref b1), (.ref b1)])) (fun _ k => st11 _ k) ?_
        have C_ar : own_Ch Z h11 ar ka7 [z0, z1] := by
          refine ⟨?_, Nat.le_of_ble_eq_true rfl, ?_⟩
          · have q := V_ar
            rw [own_nar hz0, own_nar hz1] at q
            exact q
          · intro z hz; simp only [List.mem_cons, List.not_mem_nil, or_false] at hz
            rcases hz with rfl | rfl <;> assumption
        obtain ⟨_, _, ⟨T12, L12, k12, n12⟩, -, X12, ⟨Lc12, hQ12, l12, y12, z12⟩, st12⟩ := X11.specialBack hx (y := (⟨"java/lang/String", "<init>", "([C)V"⟩ : MethodName)) rfl hown (mvT hZ (hw _ (List.mem_of_getElem? (i := 52) rfl))) (mvT hZ (hw _ (List.mem_of_getElem? (i := 53) rfl))) (mvT hZ (hw _ (List.mem_of_getElem? (i := 54) rfl))) (by decide) (backOf (W := 1) (rm10 l Z a0 hw [] b1 ar w1 _ [z0, z1] h11 n0 Z11 (S_C.ext hzt.2) c0 F_value_b1 F_coder_b1 E_b1 g_b1 C_ar (Nat.le_of_ble_eq_true rfl) (Nat.le_of_ble_eq_true rfl)) hZ (hw _ (List.mem_of_getElem? (i := 54) rfl)) (hw _ (List.mem_of_getElem? (i := 1) rfl)) (by decide) (by decide)) (g := (mkF m 61 #[.val (.int p1), .val (.ref a2)] [(.ref ar), (.ref b1), (.ref b1)])) rfl (by rw [hml]; rfl) (Steps.refl _) (a := b1) (argsL := [(.ref ar)]) (rest := [(.ref b1)]) (lenOf pd_rm9_0 rfl) rfl (by show 2 * 0 + _ ≤ _; exact Nat.le_of_eq rfl) (hb hby d9_61) (fun _ _ => ⟨rfl, e11, (by decide : 2 + 1 ≤ _), (by decide : 6 + 8 ≤ _)⟩)
        dsimp only [Pt.U, Pt.locs, Pt.cells, Pt.slots] at X12 l12 y12 z12 st12 hQ12
        subst l12 y12 z12
        obtain ⟨rfl, N12q, Kc12, bb12, kk12, hs12⟩ := hQ12
        have N12 := Fr.app N11 N12q
        have hzt := hzt.keep Kc12 (allS g_b1 all0)
        have V_a2 := V_a2.keep Kc12 (ninS ne_a2_b1 nin0)
        have E_b1 := E_b1.keep Kc12
        have C_ar := C_ar.keep Kc12 (ninS (Ne.symm ne_b1_ar) nin0)
        have Z12 : n0 ≤ T12.heap.size := Nat.le_trans Z11 Kc12.1
        have K12 := K11.trans Kc12 (allS (Or.inr sz_b1) all0)
        refine OEndsW.go (t' := T12.setTop (mkF m 64 #[.val (.int p1), .val (.ref a2)] [(.ref b1)])) (fun _ k => st12.trans k) ?_
        refine OEndsW.back (vm₁ := s.vm) X12 hS0 (Nat.zero_le _) hlk (v := (some (.ref b1))) (fun h => by rw [hrt] at h; cases h) (fun fs hr => ?_) ?_ (by decide) (by decide)
        · exact retA X12 hx hrt rfl rfl rfl (hb hby d9_64) hr
        · show Q9 Z p1 a2 w1 h0 n0 _ T12.heap T12.vm _
          exact ⟨_, _, _, _, rfl, N12, K12, hs12, (hpv.keep0 K12).stays X12.warmed⟩
      · refine OEndsW.go (t' := s₁.setTop (mkF m 65 #[.val (.int p1), .val (.ref a2)] [])) (fun _ k => XS.icmpYes X0.here hx rfl (pc0 := 39) (pc' := 65) rfl (hb hby d9_39) rfl (feq q2).2 (by decide) (by decide) k) ?_
        refine OEndsW.go (t' := s₁.setTop (mkF m 67 #[.val (.int p1), .val (.ref a2)] [(.int (3 : Int32)), (.int p1)])) (fun _ k => ?_) ?_
        · show Steps p.tables e below (s₁.setTop (mkF m 65 #[.val (.int p1), .val (.ref a2)] [])) _
          refine XS.iloadN X0.here hx rfl (hb hby d9_65) rfl ?_
          show Steps p.tables e below (s₁.setTop (mkF m 66 #[.val (.int p1), .val (.ref a2)] [(.int p1)])) _
          refine XS.iconst X0.here hx rfl (hb hby d9_66) ?_
          show Steps p.tables e below (s₁.setTop (mkF m 67 #[.val (.int p1), .val (.ref a2)] [(.int (3 : Int32)), (.int p1)])) _
          exact k
        by_cases q3 : p1 = (3 : Int32)
        · refine OEndsW.go (t' := s₁.setTop (mkF m 70 #[.val (.int p1), .val (.ref a2)] [])) (fun _ k => XS.icmpNo X0.here hx rfl (hb hby d9_67) rfl (teq q3).2 k) ?_
          obtain ⟨T13, h13, X13, e13, E13, A13, D13, -, st13⟩ := newO X0 hx hZ hown (hw _ (List.mem_of_getElem? (i := 51) rfl)) (hw _ (List.mem_of_getElem? (i := 2) rfl)) (hw _ (List.mem_of_getElem? (i := 1) rfl)) e0 (g := (mkF m 70 #[.val (.int p1), .val (.ref a2)] [])) rfl (hb hby d9_70) (by decide) (by decide)
          obtain ⟨b1, gz13⟩ : ∃ z, z = h0.size := ⟨_, rfl⟩
          rw [← gz13] at A13 D13 st13
          have ne_a2_b1 : a2 ≠ b1 := Nat.ne_of_lt (Nat.lt_of_lt_of_le V_a2.lt (Nat.le_of_eq gz13.symm))
          have g_b1 : n0 ≤ b1 := Nat.le_trans Z0 (Nat.le_of_eq gz13.symm)
          have sz_b1 : h0.size ≤ b1 := Nat.le_trans (Keep.refl h0 []).1 (Nat.le_of_eq gz13.symm)
          have hzt := hzt.ext E13
          have V_a2 := V_a2.ext E13
          have Z13 : n0 ≤ h13.size := Nat.le_trans Z0 E13.1
          have K13 := (Keep.refl h0 []).ext E13
          have E_b1 := A13
          have F_value_b1 : Fld Z h13 b1 "java/lang/String" "value" "[B" .null := D13 (Or.inr (hw _ (List.mem_of_getElem? (i := 4) rfl))) (ty := (.array .byte)) (by decide)
          have F_coder_b1 : Fld Z h13 b1 "java/lang/String" "coder" "B" (.int (0 : Int32)) := D13 (Or.inr (hw _ (List.mem_of_getElem? (i := 5) rfl))) (ty := .byte) (by decide)
          refine OEndsW.go (t' := T13.setTop (mkF m 73 #[.val (.int p1), .val (.ref a2)] [(.ref b1)])) (fun _ k => st13 _ k) ?_
          refine OEndsW.go (t' := T13.setTop (mkF m 75 #[.val (.int p1), .val (.ref a2)] [(.int (3 : Int32)), (.ref b1), (.ref b1)])) (fun _ k => ?_) ?_
          · show Steps p.tables e below (T13.setTop (mkF m 73 #[.val (.int p1), .val (.ref a2)] [(.ref b1)])) _
            refine XS.dup X13.here hx rfl (hb hby d9_73) rfl rfl ?_
            show Steps p.tables e below (T13.setTop (mkF m 74 #[.val (.int p1), .val (.ref a2)] [(.ref b1), (.ref b1)])) _
            refine XS.iconst X13.here hx rfl (hb hby d9_74) ?_
            show Steps p.tables e below (T13.setTop (mkF m 75 #[.val (.int p1), .val (.ref a2)] [(.int (3 : Int32)), (.ref b1), (.ref b1)])) _
            exact k
          obtain ⟨T14, h14, ka14, X14, e14, E14, A14, st14⟩ := newP X13 hx hZ (hw _ (List.mem_of_getElem? (i := 21) rfl)) e13 (g := (mkF m 75 #[.val (.int p1), .val (.ref a2)] [(.int (3 : Int32)), (.ref b1), (.ref b1)])) rfl (hb hby d9_75) rfl (by decide) (cap := 3) (by decide) (by decide) (by decide) (by decide)
          obtain ⟨ar, gz14⟩ : ∃ z, z = h13.size := ⟨_, rfl⟩
          rw [← gz14] at A14 st14
          have ne_a2_ar : a2 ≠ ar := Nat.ne_of_lt (Nat.lt_of_lt_of_le V_a2.lt (Nat.le_of_eq gz14.symm))
          have ne_b1_ar : b1 ≠ ar := Nat.ne_of_lt (Nat.lt_of_lt_of_le E_b1.lt (Nat.le_of_eq gz14.symm))
          have g_ar : n0 ≤ ar := Nat.le_trans Z13 (Nat.le_of_eq gz14.symm)
          have sz_ar : h0.size ≤ ar := Nat.le_trans K13.1 (Nat.le_of_eq gz14.symm)
          have hzt := hzt.ext E14
          have V_a2 := V_a2.ext E14
          have E_b1 := E_b1.ext E14
          have F_value_b1 := F_value_b1.ext E14
          have F_coder_b1 := F_coder_b1.ext E14
          have Z14 : n0 ≤ h14.size := Nat.le_trans Z13 E14.1
          have K14 := K13.ext E14
          have V_ar : Arv Z h14 ar ka14 .char (3 : Int32) [(.int (0 : Int32)), (.int (0 : Int32)), (.int (0 : Int32))] (.int (0 : Int32)) := (Arv.new A14 (by decide)).pad (pad_rep [] (.int (0 : Int32)) 3)
          refine OEndsW.go (t' := T14.setTop (mkF m 77 #[.val (.int p1), .val (.ref a2)] [(.ref ar), (.ref b1), (.ref b1)])) (fun _ k => st14 _ k) ?_
          refine OEndsW.go (t' := T14.setTop (mkF m 81 #[.val (.int p1), .val (.ref a2)] [(.int (0 : Int32)), (.ref a2), (.int (0 : Int32)), (.ref ar), (.ref ar), (.ref b1), (.ref b1)])) (fun _ k => ?_) ?_
          · show Steps p.tables e below (T14.setTop (mkF m 77 #[.val (.int p1), .val (.ref a2)] [(.ref ar), (.ref b1), (.ref b1)])) _
            refine XS.dup X14.here hx rfl (hb hby d9_77) rfl rfl ?_
            show Steps p.tables e below (T14.setTop (mkF m 78 #[.val (.int p1), .val (.ref a2)] [(.ref ar), (.ref ar), (.ref b1), (.ref b1)])) _
            refine XS.iconst X14.here hx rfl (hb hby d9_78) ?_
            show Steps p.tables e below (T14.setTop (mkF m 79 #[.val (.int p1), .val (.ref a2)] [(.int (0 : Int32)), (.ref ar), (.ref ar), (.ref b1), (.ref b1)])) _
            refine XS.aloadN X14.here hx rfl (hb hby d9_79) rfl rfl ?_
            show Steps p.tables e below (T14.setTop (mkF m 80 #[.val (.int p1), .val (.ref a2)] [(.ref a2), (.int (0 : Int32)), (.ref ar), (.ref ar), (.ref b1), (.ref b1)])) _
            refine XS.iconst X14.here hx rfl (hb hby d9_80) ?_
            show Steps p.tables e below (T14.setTop (mkF m 81 #[.val (.int p1), .val (.ref a2)] [(.int (0 : Int32)), (.ref a2), (.int (0 : Int32)), (.ref ar), (.ref ar), (.ref b1), (.ref b1)])) _
            exact k
          obtain ⟨z0, hz0, hy0⟩ := V_a2.rd (j := 0) ⟨by decide, by decide⟩
          obtain ⟨cl15, Ar15, hin15, hat15⟩ := hy0
          refine OEndsW.go (t' := T14.setTop (mkF m 82 #[.val (.int p1), .val (.ref a2)] [(.int z0), (.int (0 : Int32)), (.ref ar), (.ref ar), (.ref b1), (.ref b1)])) (fun _ k => X14.caload hx (j := (0 : Int32)) (v := (.int z0)) (by rw [e14]; exact Ar15.1) (State.isArrayOf_alike hZ.alike Ar15.2.1) Ar15.2.2 hin15 hat15 (g := (mkF m 81 #[.val (.int p1), .val (.ref a2)] [(.int (0 : Int32)), (.ref a2), (.int (0 : Int32)), (.ref ar), (.ref ar), (.ref b1), (.ref b1)])) rfl rfl (hb hby d9_81) _ k) ?_
          obtain ⟨cl16, Ar16, cq16, cS16, cN16, cH16, cG16⟩ := V_ar
          have hin16 : ¬ ((0 : Int32) < 0 ∨ cl16.slots.size ≤ ((0 : Int32)).toNatClampNeg) := inb_of cS16 ⟨by decide, by decide⟩
          obtain ⟨T16, h16, X16, e16, W16, st16⟩ := stC X14 hx hZ e14 Ar16 (j := (0 : Int32)) hin16 (g := (mkF m 82 #[.val (.int p1), .val (.ref a2)] [(.int z0), (.int (0 : Int32)), (.ref ar), (.ref ar), (.ref b1), (.ref b1)])) rfl rfl (hb hby d9_82)
          have N16 := Fr.snoc X16 N0 g_ar
          have hzt := hzt.wr W16 g_ar
          have V_a2 := V_a2.other W16 ne_a2_ar
          have E_b1 := E_b1.wr W16
          have F_value_b1 := F_value_b1.other W16 (Or.inl ne_b1_ar)
          have F_coder_b1 := F_coder_b1.other W16 (Or.inl ne_b1_ar)
          have Z16 : n0 ≤ h16.size := Nat.le_trans Z14 (Keep.of_wr W16).1
          have K16 := K14.wr W16 (Or.inr sz_ar)
          have V_ar := Arv.set Ar16 cq16 cS16 cN16 cH16 cG16 (fits_nar_char _) W16 0 rfl (Nat.le_of_ble_eq_true rfl)
          refine OEndsW.go (t' := T16.setTop (mkF m 83 #[.val (.int p1), .val (.ref a2)] [(.ref ar), (.ref b1), (.ref b1)])) (fun _ k => st16 _ k) ?_
          refine OEndsW.go (t' := T16.setTop (mkF m 87 #[.val (.int p1), .val (.ref a2)] [(.int (1 : Int32)), (.ref a2), (.int (1 : Int32)), (.ref ar), (.ref ar), (.ref b1), (.ref b1)])) (fun _ k => ?_) ?_
          · show Steps p.tables e below (T16.setTop (mkF m 83 #[.val (.int p1), .val (.ref a2)] [(.ref ar), (.ref b1), (.ref b1)])) _
            refine XS.dup X16.here hx rfl (hb hby d9_83) rfl rfl ?_
            show Steps p.tables e below (T16.setTop (mkF m 84 #[.val (.int p1), .val (.ref a2)] [(.ref ar), (.ref ar), (.ref b1), (.ref b1)])) _
            refine XS.iconst X16.here hx rfl (hb hby d9_84) ?_
            show Steps p.tables e below (T16.setTop (mkF m 85 #[.val (.int p1), .val (.ref a2)] [(.int (1 : Int32)), (.ref ar), (.ref ar), (.ref b1), (.ref b1)])) _
            refine XS.aloadN X16.here hx rfl (hb hby d9_85) rfl rfl ?_
            show Steps p.tables e below (T16.setTop (mkF m 86 #[.val (.int p1), .val (.ref a2)] [(.ref a2), (.int (1 : Int32)), (.ref ar), (.ref ar), (.ref b1), (.ref b1)])) _
            refine XS.iconst X16.here hx rfl (hb hby d9_86) ?_
            show Steps p.tables e below (T16.setTop (mkF m 87 #[.val (.int p1), .val (.ref a2)] [(.int (1 : Int32)), (.ref a2), (.int (1 : Int32)), (.ref ar), (.ref ar), (.ref b1), (.ref b1)])) _
            exact k
          obtain ⟨z1, hz1, hy1⟩ := V_a2.rd (j := 1) ⟨by decide, by decide⟩
          obtain ⟨cl17, Ar17, hin17, hat17⟩ := hy1
          refine OEndsW.go (t' := T16.setTop (mkF m 88 #[.val (.int p1), .val (.ref a2)] [(.int z1), (.int (1 : Int32)), (.ref ar), (.ref ar), (.ref b1), (.ref b1)])) (fun _ k => X16.caload hx (j := (1 : Int32)) (v := (.int z1)) (by rw [e16]; exact Ar17.1) (State.isArrayOf_alike hZ.alike Ar17.2.1) Ar17.2.2 hin17 hat17 (g := (mkF m 87 #[.val (.int p1), .val (.ref a2)] [(.int (1 : Int32)), (.ref a2), (.int (1 : Int32)), (.ref ar), (.ref ar), (.ref b1), (.ref b1)])) rfl rfl (hb hby d9_87) _ k) ?_
          obtain ⟨cl18, Ar18, cq18, cS18, cN18, cH18, cG18⟩ := V_ar
          have hin18 : ¬ ((1 : Int32) < 0 ∨ cl18.slots.size ≤ ((1 : Int32)).toNatClampNeg) := inb_of cS18 ⟨by decide, by decide⟩
          obtain ⟨T18, h18, X18, e18, W18, st18⟩ := stC X16 hx hZ e16 Ar18 (j := (1 : Int32)) hin18 (g := (mkF m 88 #[.val (.int p1), .val (.ref a2)] [(.int z1), (.int (1 : Int32)), (.ref ar), (.ref ar), (.ref b1), (.ref b1)])) rfl rfl (hb hby d9_88)
          have N18 := Fr.snoc X18 N16 g_ar
          have hzt := hzt.wr W18 g_ar
          have V_a2 := V_a2.other W18 ne_a2_ar
          have E_b1 := E_b1.wr W18
          have F_value_b1 := F_value_b1.other W18 (Or.inl ne_b1_ar)
          have F_coder_b1 := F_coder_b1.other W18 (Or.inl ne_b1_ar)
          have Z18 : n0 ≤ h18.size := Nat.le_trans Z16 (Keep.of_wr W18).1
          have K18 := K16.wr W18 (Or.inr sz_ar)
          have V_ar := Arv.set Ar18 cq18 cS18 cN18 cH18 cG18 (fits_nar_char _) W18 1 rfl (Nat.le_of_ble_eq_true rfl)
          refine OEndsW.go (t' := T18.setTop (mkF m 89 #[.val (.int p1), .val (.ref a2)] [(.ref ar), (.ref b1), (.ref b1)])) (fun _ k => st18 _ k) ?_
          refine OEndsW.go (t' := T18.setTop (mkF m 93 #[.val (.int p1), .val (.ref a2)] [(.int (2 : Int32)), (.ref a2), (.int (2 : Int32)), (.ref ar), (.ref ar), (.ref b1), (.ref b1)])) (fun _ k => ?_) ?_
          · show Steps p.tables e below (T18.setTop (mkF m 89 #[.val (.int p1), .val (.ref a2)] [(.ref ar), (.ref b1), (.ref b1)])) _
            refine XS.dup X18.here hx rfl (hb hby d9_89) rfl rfl ?_
            show Steps p.tables e below (T18.setTop (mkF m 90 #[.val (.int p1), .val (.ref a2)] [(.ref ar), (.ref ar), (.ref b1), (.ref b1)])) _
            refine XS.iconst X18.here hx rfl (hb hby d9_90) ?_
            show Steps p.tables e below (T18.setTop (mkF m 91 #[.val (.int p1), .val (.ref a2)] [(.int (2 : Int32)), (.ref ar), (.ref ar), (.ref b1), (.ref b1)])) _
            refine XS.aloadN X18.here hx rfl (hb hby d9_91) rfl rfl ?_
            show Steps p.tables e below (T18.setTop (mkF m 92 #[.val (.int p1), .val (.ref a2)] [(.ref a2), (.int (2 : Int32)), (.ref ar), (.ref ar), (.ref b1), (.ref b1)])) _
            refine XS.iconst X18.here hx rfl (hb hby d9_92) ?_
            show Steps p.tables e below (T18.setTop (mkF m 93 #[.val (.int p1), .val (.ref a2)] [(.int (2 : Int32)), (.ref a2), (.int (2 : Int32)), (.ref ar), (.ref ar), (.ref b1), (.ref b1)])) _
            exact k
          obtain ⟨z2, hz2, hy2⟩ := V_a2.rd (j := 2) ⟨by decide, by decide⟩
          obtain ⟨cl19, Ar19, hin19, hat19⟩ := hy2
          refine OEndsW.go (t' := T18.setTop (mkF m 94 #[.val (.int p1), .val (.ref a2)] [(.int z2), (.int (2 : Int32)), (.ref ar), (.ref ar), (.ref b1), (.ref b1)])) (fun _ k => X18.caload hx (j := (2 : Int32)) (v := (.int z2)) (by rw [e18]; exact Ar19.1) (State.isArrayOf_alike hZ.alike Ar19.2.1) Ar19.2.2 hin19 hat19 (g := (mkF m 93 #[.val (.int p1), .val (.ref a2)] [(.int (2 : Int32)), (.ref a2), (.int (2 : Int32)), (.ref ar), (.ref ar), (.ref b1), (.ref b1)])) rfl rfl (hb hby d9_93) _ k) ?_
          obtain ⟨cl20, Ar20, cq20, cS20, cN20, cH20, cG20⟩ := V_ar
          have hin20 : ¬ ((2 : Int32) < 0 ∨ cl20.slots.size ≤ ((2 : Int32)).toNatClampNeg) := inb_of cS20 ⟨by decide, by decide⟩
          obtain ⟨T20, h20, X20, e20, W20, st20⟩ := stC X18 hx hZ e18 Ar20 (j := (2 : Int32)) hin20 (g := (mkF m 94 #[.val (.int p1), .val (.ref a2)] [(.int z2), (.int (2 : Int32)), (.ref ar), (.ref ar), (.ref b1), (.ref b1)])) rfl rfl (hb hby d9_94)
          have N20 := Fr.snoc X20 N18 g_ar
          have hzt := hzt.wr W20 g_ar
          have V_a2 := V_a2.other W20 ne_a2_ar
          have E_b1 := E_b1.wr W20
          have F_value_b1 := F_value_b1.other W20 (Or.inl ne_b1_ar)
          have F_coder_b1 := F_coder_b1.other W20 (Or.inl ne_b1_ar)
          have Z20 : n0 ≤ h20.size := Nat.le_trans Z18 (Keep.of_wr W20).1
          have K20 := K18.wr W20 (Or.inr sz_ar)
          have V_ar := Arv.set Ar20 cq20 cS20 cN20 cH20 cG20 (fits_nar_char _) W20 2 rfl (Nat.le_of_ble_eq_true rfl)
          refine OEndsW.go (t' := T20.setTop (mkF m 95 #[.val (.int p1), .val (.ref a2)] [(.ref ar), (.ref b1), (.ref b1)])) (fun _ k => st20 _ k) ?_
          have C_ar : own_Ch Z h20 ar ka14 [z0, z1, z2] := by
            refine ⟨?_, Nat.le_of_ble_eq_true rfl, ?_⟩
            · have q := V_ar
              rw [own_nar hz0, own_nar hz1, own_nar hz2] at q
              exact q
            · intro z hz; simp only [List.mem_cons, List.not_mem_nil, or_false] at hz
              rcases hz with rfl | rfl | rfl <;> assumption
          obtain ⟨_, _, ⟨T21, L21, k21, n21⟩, -, X21, ⟨Lc21, hQ21, l21, y21, z21⟩, st21⟩ := X20.specialBack hx (y := (⟨"java/lang/String", "<init>", "([C)V"⟩ : MethodName)) rfl hown (mvT hZ (hw _ (List.mem_of_getElem? (i := 52) rfl))) (mvT hZ (hw _ (List.mem_of_getElem? (i := 53) rfl))) (mvT hZ (hw _ (List.mem_of_getElem? (i := 54) rfl))) (by decide) (backOf (W := 1) (rm10 l Z a0 hw [] b1 ar w1 _ [z0, z1, z2] h20 n0 Z20 (S_C.ext hzt.2) c0 F_value_b1 F_coder_b1 E_b1 g_b1 C_ar (Nat.le_of_ble_eq_true rfl) (Nat.le_of_ble_eq_true rfl)) hZ (hw _ (List.mem_of_getElem? (i := 54) rfl)) (hw _ (List.mem_of_getElem? (i := 1) rfl)) (by decide) (by decide)) (g := (mkF m 95 #[.val (.int p1), .val (.ref a2)] [(.ref ar), (.ref b1), (.ref b1)])) rfl (by rw [hml]; rfl) (Steps.refl _) (a := b1) (argsL := [(.ref ar)]) (rest := [(.ref b1)]) (lenOf pd_rm9_0 rfl) rfl (by show 2 * 0 + _ ≤ _; exact Nat.le_of_eq rfl) (hb hby d9_95) (fun _ _ => ⟨rfl, e20, (by decide : 2 + 1 ≤ _), (by decide : 7 + 8 ≤ _)⟩)
          dsimp only [Pt.U, Pt.locs, Pt.cells, Pt.slots] at X21 l21 y21 z21 st21 hQ21
          subst l21 y21 z21
          obtain ⟨rfl, N21q, Kc21, bb21, kk21, hs21⟩ := hQ21
          have N21 := Fr.app N20 N21q
          have hzt := hzt.keep Kc21 (allS g_b1 all0)
          have V_a2 := V_a2.keep Kc21 (ninS ne_a2_b1 nin0)
          have E_b1 := E_b1.keep Kc21
          have C_ar := C_ar.keep Kc21 (ninS (Ne.symm ne_b1_ar) nin0)
          have Z21 : n0 ≤ T21.heap.size := Nat.le_trans Z20 Kc21.1
          have K21 := K20.trans Kc21 (allS (Or.inr sz_b1) all0)
          refine OEndsW.go (t' := T21.setTop (mkF m 98 #[.val (.int p1), .val (.ref a2)] [(.ref b1)])) (fun _ k => st21.trans k) ?_
          refine OEndsW.back (vm₁ := s.vm) X21 hS0 (Nat.zero_le _) hlk (v := (some (.ref b1))) (fun h => by rw [hrt] at h; cases h) (fun fs hr => ?_) ?_ (by decide) (by decide)
          · exact retA X21 hx hrt rfl rfl rfl (hb hby d9_98) hr
          · show Q9 Z p1 a2 w1 h0 n0 _ T21.heap T21.vm _
            exact ⟨_, _, _, _, rfl, N21, K21, hs21, (hpv.keep0 K21).stays X21.warmed⟩
        · refine OEndsW.go (t' := s₁.setTop (mkF m 99 #[.val (.int p1), .val (.ref a2)] [])) (fun _ k => XS.icmpYes X0.here hx rfl (pc0 := 67) (pc' := 99) rfl (hb hby d9_67) rfl (feq q3).2 (by decide) (by decide) k) ?_
          refine OEndsW.go (t' := s₁.setTop (mkF m 101 #[.val (.int p1), .val (.ref a2)] [(.int (4 : Int32)), (.int p1)])) (fun _ k => ?_) ?_
          · show Steps p.tables e below (s₁.setTop (mkF m 99 #[.val (.int p1), .val (.ref a2)] [])) _
            refine XS.iloadN X0.here hx rfl (hb hby d9_99) rfl ?_
            show Steps p.tables e below (s₁.setTop (mkF m 100 #[.val (.int p1), .val (.ref a2)] [(.int p1)])) _
            refine XS.iconst X0.here hx rfl (hb hby d9_100) ?_
            show Steps p.tables e below (s₁.setTop (mkF m 101 #[.val (.int p1), .val (.ref a2)] [(.int (4 : Int32)), (.int p1)])) _
            exact k
          by_cases q4 : p1 = (4 : Int32)
          · refine OEndsW.go (t' := s₁.setTop (mkF m 104 #[.val (.int p1), .val (.ref a2)] [])) (fun _ k => XS.icmpNo X0.here hx rfl (hb hby d9_101) rfl (teq q4).2 k) ?_
            obtain ⟨T22, h22, X22, e22, E22, A22, D22, -, st22⟩ := newO X0 hx hZ hown (hw _ (List.mem_of_getElem? (i := 51) rfl)) (hw _ (List.mem_of_getElem? (i := 2) rfl)) (hw _ (List.mem_of_getElem? (i := 1) rfl)) e0 (g := (mkF m 104 #[.val (.int p1), .val (.ref a2)] [])) rfl (hb hby d9_104) (by decide) (by decide)
            obtain ⟨b1, gz22⟩ : ∃ z, z = h0.size := ⟨_, rfl⟩
            rw [← gz22] at A22 D22 st22
            have ne_a2_b1 : a2 ≠ b1 := Nat.ne_of_lt (Nat.lt_of_lt_of_le V_a2.lt (Nat.le_of_eq gz22.symm))
            have g_b1 : n0 ≤ b1 := Nat.le_trans Z0 (Nat.le_of_eq gz22.symm)
            have sz_b1 : h0.size ≤ b1 := Nat.le_trans (Keep.refl h0 []).1 (Nat.le_of_eq gz22.symm)
            have hzt := hzt.ext E22
            have V_a2 := V_a2.ext E22
            have Z22 : n0 ≤ h22.size := Nat.le_trans Z0 E22.1
            have K22 := (Keep.refl h0 []).ext E22
            have E_b1 := A22
            have F_value_b1 : Fld Z h22 b1 "java/lang/String" "value" "[B" .null := D22 (Or.inr (hw _ (List.mem_of_getElem? (i := 4) rfl))) (ty := (.array .byte)) (by decide)
            have F_coder_b1 : Fld Z h22 b1 "java/lang/String" "coder" "B" (.int (0 : Int32)) := D22 (Or.inr (hw _ (List.mem_of_getElem? (i := 5) rfl))) (ty := .byte) (by decide)
            refine OEndsW.go (t' := T22.setTop (mkF m 107 #[.val (.int p1), .val (.ref a2)] [(.ref b1)])) (fun _ k => st22 _ k) ?_
            refine OEndsW.go (t' := T22.setTop (mkF m 109 #[.val (.int p1), .val (.ref a2)] [(.int (4 : Int32)), (.ref b1), (.ref b1)])) (fun _ k => ?_) ?_
            · show Steps p.tables e below (T22.setTop (mkF m 107 #[.val (.int p1), .val (.ref a2)] [(.ref b1)])) _
              refine XS.dup X22.here hx rfl (hb hby d9_107) rfl rfl ?_
              show Steps p.tables e below (T22.setTop (mkF m 108 #[.val (.int p1), .val (.ref a2)] [(.ref b1), (.ref b1)])) _
              refine XS.iconst X22.here hx rfl (hb hby d9_108) ?_
              show Steps p.tables e below (T22.setTop (mkF m 109 #[.val (.int p1), .val (.ref a2)] [(.int (4 : Int32)), (.ref b1), (.ref b1)])) _
              exact k
            obtain ⟨T23, h23, ka23, X23, e23, E23, A23, st23⟩ := newP X22 hx hZ (hw _ (List.mem_of_getElem? (i := 21) rfl)) e22 (g := (mkF m 109 #[.val (.int p1), .val (.ref a2)] [(.int (4 : Int32)), (.ref b1), (.ref b1)])) rfl (hb hby d9_109) rfl (by decide) (cap := 4) (by decide) (by decide) (by decide) (by decide)
            obtain ⟨ar, gz23⟩ : ∃ z, z = h22.size := ⟨_, rfl⟩
            rw [← gz23] at A23 st23
            have ne_a2_ar : a2 ≠ ar := Nat.ne_of_lt (Nat.lt_of_lt_of_le V_a2.lt (Nat.le_of_eq gz23.symm))
            have ne_b1_ar : b1 ≠ ar := Nat.ne_of_lt (Nat.lt_of_lt_of_le E_b1.lt (Nat.le_of_eq gz23.symm))
            have g_ar : n0 ≤ ar := Nat.le_trans Z22 (Nat.le_of_eq gz23.symm)
            have sz_ar : h0.size ≤ ar := Nat.le_trans K22.1 (Nat.le_of_eq gz23.symm)
            have hzt := hzt.ext E23
            have V_a2 := V_a2.ext E23
            have E_b1 := E_b1.ext E23
            have F_value_b1 := F_value_b1.ext E23
            have F_coder_b1 := F_coder_b1.ext E23
            have Z23 : n0 ≤ h23.size := Nat.le_trans Z22 E23.1
            have K23 := K22.ext E23
            have V_ar : Arv Z h23 ar ka23 .char (4 : Int32) [(.int (0 : Int32)), (.int (0 : Int32)), (.int (0 : Int32)), (.int (0 : Int32))] (.int (0 : Int32)) := (Arv.new A23 (by decide)).pad (pad_rep [] (.int (0 : Int32)) 4)
            refine OEndsW.go (t' := T23.setTop (mkF m 111 #[.val (.int p1), .val (.ref a2)] [(.ref ar), (.ref b1), (.ref b1)])) (fun _ k => st23 _ k) ?_
            refine OEndsW.go (t' := T23.setTop (mkF m 115 #[.val (.int p1), .val (.ref a2)] [(.int (0 : Int32)), (.ref a2), (.int (0 : Int32)), (.ref ar), (.ref ar), (.ref b1), (.ref b1)])) (fun _ k => ?_) ?_
            · show Steps p.tables e below (T23.setTop (mkF m 111 #[.val (.int p1), .val (.ref a2)] [(.ref ar), (.ref b1), (.ref b1)])) _
              refine XS.dup X23.here hx rfl (hb hby d9_111) rfl rfl ?_
              show Steps p.tables e below (T23.setTop (mkF m 112 #[.val (.int p1), .val (.ref a2)] [(.ref ar), (.ref ar), (.ref b1), (.ref b1)])) _
              refine XS.iconst X23.here hx rfl (hb hby d9_112) ?_
              show Steps p.tables e below (T23.setTop (mkF m 113 #[.val (.int p1), .val (.ref a2)] [(.int (0 : Int32)), (.ref ar), (.ref ar), (.ref b1), (.ref b1)])) _
              refine XS.aloadN X23.here hx rfl (hb hby d9_113) rfl rfl ?_
              show Steps p.tables e below (T23.setTop (mkF m 114 #[.val (.int p1), .val (.ref a2)] [(.ref a2), (.int (0 : Int32)), (.ref ar), (.ref ar), (.ref b1), (.ref b1)])) _
              refine XS.iconst X23.here hx rfl (hb hby d9_114) ?_
              show Steps p.tables e below (T23.setTop (mkF m 115 #[.val (.int p1), .val (.ref a2)] [(.int (0 : Int32)), (.ref a2), (.int (0 : Int32)), (.ref ar), (.ref ar), (.ref b1), (.ref b1)])) _
              exact k
            obtain ⟨z0, hz0, hy0⟩ := V_a2.rd (j := 0) ⟨by decide, by decide⟩
            obtain ⟨cl24, Ar24, hin24, hat24⟩ := hy0
            refine OEndsW.go (t' := T23.setTop (mkF m 116 #[.val (.int p1), .val (.ref a2)] [(.int z0), (.int (0 : Int32)), (.ref ar), (.ref ar), (.ref b1), (.ref b1)])) (fun _ k => X23.caload hx (j := (0 : Int32)) (v := (.int z0)) (by rw [e23]; exact Ar24.1) (State.isArrayOf_alike hZ.alike Ar24.2.1) Ar24.2.2 hin24 hat24 (g := (mkF m 115 #[.val (.int p1), .val (.ref a2)] [(.int (0 : Int32)), (.ref a2), (.int (0 : Int32)), (.ref ar), (.ref ar), (.ref b1), (.ref b1)])) rfl rfl (hb hby d9_115) _ k) ?_
            obtain ⟨cl25, Ar25, cq25, cS25, cN25, cH25, cG25⟩ := V_ar
            have hin25 : ¬ ((0 : Int32) < 0 ∨ cl25.slots.size ≤ ((0 : Int32)).toNatClampNeg) := inb_of cS25 ⟨by decide, by decide⟩
            obtain ⟨T25, h25, X25, e25, W25, st25⟩ := stC X23 hx hZ e23 Ar25 (j := (0 : Int32)) hin25 (g := (mkF m 116 #[.val (.int p1), .val (.ref a2)] [(.int z0), (.int (0 : Int32)), (.ref ar), (.ref ar), (.ref b1), (.ref b1)])) rfl rfl (hb hby d9_116)
            have N25 := Fr.snoc X25 N0 g_ar
            have hzt := hzt.wr W25 g_ar
            have V_a2 := V_a2.other W25 ne_a2_ar
            have E_b1 := E_b1.wr W25
            have F_value_b1 := F_value_b1.other W25 (Or.inl ne_b1_ar)
            have F_coder_b1 := F_coder_b1.other W25 (Or.inl ne_b1_ar)
            have Z25 : n0 ≤ h25.size := Nat.le_trans Z23 (Keep.of_wr W25).1
            have K25 := K23.wr W25 (Or.inr sz_ar)
            have V_ar := Arv.set Ar25 cq25 cS25 cN25 cH25 cG25 (fits_nar_char _) W25 0 rfl (Nat.le_of_ble_eq_true rfl)
            refine OEndsW.go (t' := T25.setTop (mkF m 117 #[.val (.int p1), .val (.ref a2)] [(.ref ar), (.ref b1), (.ref b1)])) (fun _ k => st25 _ k) ?_
            refine OEndsW.go (t' := T25.setTop (mkF m 121 #[.val (.int p1), .val (.ref a2)] [(.int (1 : Int32)), (.ref a2), (.int (1 : Int32)), (.ref ar), (.ref ar), (.ref b1), (.ref b1)])) (fun _ k => ?_) ?_
            · show Steps p.tables e below (T25.setTop (mkF m 117 #[.val (.int p1), .val (.ref a2)] [(.ref ar), (.ref b1), (.ref b1)])) _
              refine XS.dup X25.here hx rfl (hb hby d9_117) rfl rfl ?_
              show Steps p.tables e below (T25.setTop (mkF m 118 #[.val (.int p1), .val (.ref a2)] [(.ref ar), (.ref ar), (.ref b1), (.ref b1)])) _
              refine XS.iconst X25.here hx rfl (hb hby d9_118) ?_
              show Steps p.tables e below (T25.setTop (mkF m 119 #[.val (.int p1), .val (.ref a2)] [(.int (1 : Int32)), (.ref ar), (.ref ar), (.ref b1), (.ref b1)])) _
              refine XS.aloadN X25.here hx rfl (hb hby d9_119) rfl rfl ?_
              show Steps p.tables e below (T25.setTop (mkF m 120 #[.val (.int p1), .val (.ref a2)] [(.ref a2), (.int (1 : Int32)), (.ref ar), (.ref ar), (.ref b1), (.ref b1)])) _
              refine XS.iconst X25.here hx rfl (hb hby d9_120) ?_
              show Steps p.tables e below (T25.setTop (mkF m 121 #[.val (.int p1), .val (.ref a2)] [(.int (1 : Int32)), (.ref a2), (.int (1 : Int32)), (.ref ar), (.ref ar), (.ref b1), (.ref b1)])) _
              exact k
            obtain ⟨z1, hz1, hy1⟩ := V_a2.rd (j := 1) ⟨by decide, by decide⟩
            obtain ⟨cl26, Ar26, hin26, hat26⟩ := hy1
            refine OEndsW.go (t' := T25.setTop (mkF m 122 #[.val (.int p1), .val (.ref a2)] [(.int z1), (.int (1 : Int32)), (.ref ar), (.ref ar), (.ref b1), (.ref b1)])) (fun _ k => X25.caload hx (j := (1 : Int32)) (v := (.int z1)) (by rw [e25]; exact Ar26.1) (State.isArrayOf_alike hZ.alike Ar26.2.1) Ar26.2.2 hin26 hat26 (g := (mkF m 121 #[.val (.int p1), .val (.ref a2)] [(.int (1 : Int32)), (.ref a2), (.int (1 : Int32)), (.ref ar), (.ref ar), (.ref b1), (.ref b1)])) rfl rfl (hb hby d9_121) _ k) ?_
            obtain ⟨cl27, Ar27, cq27, cS27, cN27, cH27, cG27⟩ := V_ar
            have hin27 : ¬ ((1 : Int32) < 0 ∨ cl27.slots.size ≤ ((1 : Int32)).toNatClampNeg) := inb_of cS27 ⟨by decide, by decide⟩
            obtain ⟨T27, h27, X27, e27, W27, st27⟩ := stC X25 hx hZ e25 Ar27 (j := (1 : Int32)) hin27 (g := (mkF m 122 #[.val (.int p1), .val (.ref a2)] [(.int z1), (.int (1 : Int32)), (.ref ar), (.ref ar), (.ref b1), (.ref b1)])) rfl rfl (hb hby d9_122)
            have N27 := Fr.snoc X27 N25 g_ar
            have hzt := hzt.wr W27 g_ar
            have V_a2 := V_a2.other W27 ne_a2_ar
            have E_b1 := E_b1.wr W27
            have F_value_b1 := F_value_b1.other W27 (Or.inl ne_b1_ar)
            have F_coder_b1 := F_coder_b1.other W27 (Or.inl ne_b1_ar)
            have Z27 : n0 ≤ h27.size := Nat.le_trans Z25 (Keep.of_wr W27).1
            have K27 := K25.wr W27 (Or.inr sz_ar)
            have V_ar := Arv.set Ar27 cq27 cS27 cN27 cH27 cG27 (fits_nar_char _) W27 1 rfl (Nat.le_of_ble_eq_true rfl)
            refine OEndsW.go (t' := T27.setTop (mkF m 123 #[.val (.int p1), .val (.ref a2)] [(.ref ar), (.ref b1), (.ref b1)])) (fun _ k => st27 _ k) ?_
            refine OEndsW.go (t' := T27.setTop (mkF m 127 #[.val (.int p1), .val (.ref a2)] [(.int (2 : Int32)), (.ref a2), (.int (2 : Int32)), (.ref ar), (.ref ar), (.ref b1), (.ref b1)])) (fun _ k => ?_) ?_
            · show Steps p.tables e below (T27.setTop (mkF m 123 #[.val (.int p1), .val (.ref a2)] [(.ref ar), (.ref b1), (.ref b1)])) _
              refine XS.dup X27.here hx rfl (hb hby d9_123) rfl rfl ?_
              show Steps p.tables e below (T27.setTop (mkF m 124 #[.val (.int p1), .val (.ref a2)] [(.ref ar), (.ref ar), (.ref b1), (.ref b1)])) _
              refine XS.iconst X27.here hx rfl (hb hby d9_124) ?_
              show Steps p.tables e below (T27.setTop (mkF m 125 #[.val (.int p1), .val (.ref a2)] [(.int (2 : Int32)), (.ref ar), (.ref ar), (.ref b1), (.ref b1)])) _
              refine XS.aloadN X27.here hx rfl (hb hby d9_125) rfl rfl ?_
              show Steps p.tables e below (T27.setTop (mkF m 126 #[.val (.int p1), .val (.ref a2)] [(.ref a2), (.int (2 : Int32)), (.ref ar), (.ref ar), (.ref b1), (.ref b1)])) _
              refine XS.iconst X27.here hx rfl (hb hby d9_126) ?_
              show Steps p.tables e below (T27.setTop (mkF m 127 #[.val (.int p1), .val (.ref a2)] [(.int (2 : Int32)), (.ref a2), (.int (2 : Int32)), (.ref ar), (.ref ar), (.ref b1), (.ref b1)])) _
              exact k
            obtain ⟨z2, hz2, hy2⟩ := V_a2.rd (j := 2) ⟨by decide, by decide⟩
            obtain ⟨cl28, Ar28, hin28, hat28⟩ := hy2
            refine OEndsW.go (t' := T27.setTop (mkF m 128 #[.val (.int p1), .val (.ref a2)] [(.int z2), (.int (2 : Int32)), (.ref ar), (.ref ar), (.ref b1), (.ref b1)])) (fun _ k => X27.caload hx (j := (2 : Int32)) (v := (.int z2)) (by rw [e27]; exact Ar28.1) (State.isArrayOf_alike hZ.alike Ar28.2.1) Ar28.2.2 hin28 hat28 (g := (mkF m 127 #[.val (.int p1), .val (.ref a2)] [(.int (2 : Int32)), (.ref a2), (.int (2 : Int32)), (.ref ar), (.ref ar), (.ref b1), (.ref b1)])) rfl rfl (hb hby d9_127) _ k) ?_
            obtain ⟨cl29, Ar29, cq29, cS29, cN29, cH29, cG29⟩ := V_ar
            have hin29 : ¬ ((2 : Int32) < 0 ∨ cl29.slots.size ≤ ((2 : Int32)).toNatClampNeg) := inb_of cS29 ⟨by decide, by decide⟩
            obtain ⟨T29, h29, X29, e29, W29, st29⟩ := stC X27 hx hZ e27 Ar29 (j := (2 : Int32)) hin29 (g := (mkF m 128 #[.val (.int p1), .val (.ref a2)] [(.int z2), (.int (2 : Int32)), (.ref ar), (.ref ar), (.ref b1), (.ref b1)])) rfl rfl (hb hby d9_128)
            have N29 := Fr.snoc X29 N27 g_ar
            have hzt := hzt.wr W29 g_ar
            have V_a2 := V_a2.other W29 ne_a2_ar
            have E_b1 := E_b1.wr W29
            have F_value_b1 := F_value_b1.other W29 (Or.inl ne_b1_ar)
            have F_coder_b1 := F_coder_b1.other W29 (Or.inl ne_b1_ar)
            have Z29 : n0 ≤ h29.size := Nat.le_trans Z27 (Keep.of_wr W29).1
            have K29 := K27.wr W29 (Or.inr sz_ar)
            have V_ar := Arv.set Ar29 cq29 cS29 cN29 cH29 cG29 (fits_nar_char _) W29 2 rfl (Nat.le_of_ble_eq_true rfl)
            refine OEndsW.go (t' := T29.setTop (mkF m 129 #[.val (.int p1), .val (.ref a2)] [(.ref ar), (.ref b1), (.ref b1)])) (fun _ k => st29 _ k) ?_
            refine OEndsW.go (t' := T29.setTop (mkF m 133 #[.val (.int p1), .val (.ref a2)] [(.int (3 : Int32)), (.ref a2), (.int (3 : Int32)), (.ref ar), (.ref ar), (.ref b1), (.ref b1)])) (fun _ k => ?_) ?_
            · show Steps p.tables e below (T29.setTop (mkF m 129 #[.val (.int p1), .val (.ref a2)] [(.ref ar), (.ref b1), (.ref b1)])) _
              refine XS.dup X29.here hx rfl (hb hby d9_129) rfl rfl ?_
              show Steps p.tables e below (T29.setTop (mkF m 130 #[.val (.int p1), .val (.ref a2)] [(.ref ar), (.ref ar), (.ref b1), (.ref b1)])) _
              refine XS.iconst X29.here hx rfl (hb hby d9_130) ?_
              show Steps p.tables e below (T29.setTop (mkF m 131 #[.val (.int p1), .val (.ref a2)] [(.int (3 : Int32)), (.ref ar), (.ref ar), (.ref b1), (.ref b1)])) _
              refine XS.aloadN X29.here hx rfl (hb hby d9_131) rfl rfl ?_
              show Steps p.tables e below (T29.setTop (mkF m 132 #[.val (.int p1), .val (.ref a2)] [(.ref a2), (.int (3 : Int32)), (.ref ar), (.ref ar), (.ref b1), (.ref b1)])) _
              refine XS.iconst X29.here hx rfl (hb hby d9_132) ?_
              show Steps p.tables e below (T29.setTop (mkF m 133 #[.val (.int p1), .val (.ref a2)] [(.int (3 : Int32)), (.ref a2), (.int (3 : Int32)), (.ref ar), (.ref ar), (.ref b1), (.ref b1)])) _
              exact k
            obtain ⟨z3, hz3, hy3⟩ := V_a2.rd (j := 3) ⟨by decide, by decide⟩
            obtain ⟨cl30, Ar30, hin30, hat30⟩ := hy3
            refine OEndsW.go (t' := T29.setTop (mkF m 134 #[.val (.int p1), .val (.ref a2)] [(.int z3), (.int (3 : Int32)), (.ref ar), (.ref ar), (.ref b1), (.ref b1)])) (fun _ k => X29.caload hx (j := (3 : Int32)) (v := (.int z3)) (by rw [e29]; exact Ar30.1) (State.isArrayOf_alike hZ.alike Ar30.2.1) Ar30.2.2 hin30 hat30 (g := (mkF m 133 #[.val (.int p1), .val (.ref a2)] [(.int (3 : Int32)), (.ref a2), (.int (3 : Int32)), (.ref ar), (.ref ar), (.ref b1), (.ref b1)])) rfl rfl (hb hby d9_133) _ k) ?_
            obtain ⟨cl31, Ar31, cq31, cS31, cN31, cH31, cG31⟩ := V_ar
            have hin31 : ¬ ((3 : Int32) < 0 ∨ cl31.slots.size ≤ ((3 : Int32)).toNatClampNeg) := inb_of cS31 ⟨by decide, by decide⟩
            obtain ⟨T31, h31, X31, e31, W31, st31⟩ := stC X29 hx hZ e29 Ar31 (j := (3 : Int32)) hin31 (g := (mkF m 134 #[.val (.int p1), .val (.ref a2)] [(.int z3), (.int (3 : Int32)), (.ref ar), (.ref ar), (.ref b1), (.ref b1)])) rfl rfl (hb hby d9_134)
            have N31 := Fr.snoc X31 N29 g_ar
            have hzt := hzt.wr W31 g_ar
            have V_a2 := V_a2.other W31 ne_a2_ar
            have E_b1 := E_b1.wr W31
            have F_value_b1 := F_value_b1.other W31 (Or.inl ne_b1_ar)
            have F_coder_b1 := F_coder_b1.other W31 (Or.inl ne_b1_ar)
            have Z31 : n0 ≤ h31.size := Nat.le_trans Z29 (Keep.of_wr W31).1
            have K31 := K29.wr W31 (Or.inr sz_ar)
            have V_ar := Arv.set Ar31 cq31 cS31 cN31 cH31 cG31 (fits_nar_char _) W31 3 rfl (Nat.le_of_ble_eq_true rfl)
            refine OEndsW.go (t' := T31.setTop (mkF m 135 #[.val (.int p1), .val (.ref a2)] [(.ref ar), (.ref b1), (.ref b1)])) (fun _ k => st31 _ k) ?_
            have C_ar : own_Ch Z h31 ar ka23 [z0, z1, z2, z3] := by
              refine ⟨?_, Nat.le_of_ble_eq_true rfl, ?_⟩
              · have q := V_ar
                rw [own_nar hz0, own_nar hz1, own_nar hz2, own_nar hz3] at q
                exact q
              · intro z hz; simp only [List.mem_cons, List.not_mem_nil, or_false] at hz
                rcases hz with rfl | rfl | rfl | rfl <;> assumption
            obtain ⟨_, _, ⟨T32, L32, k32, n32⟩, -, X32, ⟨Lc32, hQ32, l32, y32, z32⟩, st32⟩ := X31.specialBack hx (y := (⟨"java/lang/String", "<init>", "([C)V"⟩ : MethodName)) rfl hown (mvT hZ (hw _ (List.mem_of_getElem? (i := 52) rfl))) (mvT hZ (hw _ (List.mem_of_getElem? (i := 53) rfl))) (mvT hZ (hw _ (List.mem_of_getElem? (i := 54) rfl))) (by decide) (backOf (W := 1) (rm10 l Z a0 hw [] b1 ar w1 _ [z0, z1, z2, z3] h31 n0 Z31 (S_C.ext hzt.2) c0 F_value_b1 F_coder_b1 E_b1 g_b1 C_ar (Nat.le_of_ble_eq_true rfl) (Nat.le_of_ble_eq_true rfl)) hZ (hw _ (List.mem_of_getElem? (i := 54) rfl)) (hw _ (List.mem_of_getElem? (i := 1) rfl)) (by decide) (by decide)) (g := (mkF m 135 #[.val (.int p1), .val (.ref a2)] [(.ref ar), (.ref b1), (.ref b1)])) rfl (by rw [hml]; rfl) (Steps.refl _) (a := b1) (argsL := [(.ref ar)]) (rest := [(.ref b1)]) (lenOf pd_rm9_0 rfl) rfl (by show 2 * 0 + _ ≤ _; exact Nat.le_of_eq rfl) (hb hby d9_135) (fun _ _ => ⟨rfl, e31, (by decide : 2 + 1 ≤ _), (by decide : 8 + 8 ≤ _)⟩)
            dsimp only [Pt.U, Pt.locs, Pt.cells, Pt.slots] at X32 l32 y32 z32 st32 hQ32
            subst l32 y32 z32
            obtain ⟨rfl, N32q, Kc32, bb32, kk32, hs32⟩ := hQ32
            have N32 := Fr.app N31 N32q
            have hzt := hzt.keep Kc32 (allS g_b1 all0)
            have V_a2 := V_a2.keep Kc32 (ninS ne_a2_b1 nin0)
            have E_b1 := E_b1.keep Kc32
            have C_ar := C_ar.keep Kc32 (ninS (Ne.symm ne_b1_ar) nin0)
            have Z32 : n0 ≤ T32.heap.size := Nat.le_trans Z31 Kc32.1
            have K32 := K31.trans Kc32 (allS (Or.inr sz_b1) all0)
            refine OEndsW.go (t' := T32.setTop (mkF m 138 #[.val (.int p1), .val (.ref a2)] [(.ref b1)])) (fun _ k => st32.trans k) ?_
            refine OEndsW.back (vm₁ := s.vm) X32 hS0 (Nat.zero_le _) hlk (v := (some (.ref b1))) (fun h => by rw [hrt] at h; cases h) (fun fs hr => ?_) ?_ (by decide) (by decide)
            · exact retA X32 hx hrt rfl rfl rfl (hb hby d9_138) hr
            · show Q9 Z p1 a2 w1 h0 n0 _ T32.heap T32.vm _
              exact ⟨_, _, _, _, rfl, N32, K32, hs32, (hpv.keep0 K32).stays X32.warmed⟩
          · refine OEndsW.go (t' := s₁.setTop (mkF m 139 #[.val (.int p1), .val (.ref a2)] [])) (fun _ k => XS.icmpYes X0.here hx rfl (pc0 := 101) (pc' := 139) rfl (hb hby d9_101) rfl (feq q4).2 (by decide) (by decide) k) ?_
            refine OEndsW.go (t' := s₁.setTop (mkF m 141 #[.val (.int p1), .val (.ref a2)] [(.int (5 : Int32)), (.int p1)])) (fun _ k => ?_) ?_
            · show Steps p.tables e below (s₁.setTop (mkF m 139 #[.val (.int p1), .val (.ref a2)] [])) _
              refine XS.iloadN X0.here hx rfl (hb hby d9_139) rfl ?_
              show Steps p.tables e below (s₁.setTop (mkF m 140 #[.val (.int p1), .val (.ref a2)] [(.int p1)])) _
              refine XS.iconst X0.here hx rfl (hb hby d9_140) ?_
              show Steps p.tables e below (s₁.setTop (mkF m 141 #[.val (.int p1), .val (.ref a2)] [(.int (5 : Int32)), (.int p1)])) _
              exact k
            by_cases q5 : p1 = (5 : Int32)
            · refine OEndsW.go (t' := s₁.setTop (mkF m 144 #[.val (.int p1), .val (.ref a2)] [])) (fun _ k => XS.icmpNo X0.here hx rfl (hb hby d9_141) rfl (teq q5).2 k) ?_
              obtain ⟨T33, h33, X33, e33, E33, A33, D33, -, st33⟩ := newO X0 hx hZ hown (hw _ (List.mem_of_getElem? (i := 51) rfl)) (hw _ (List.mem_of_getElem? (i := 2) rfl)) (hw _ (List.mem_of_getElem? (i := 1) rfl)) e0 (g := (mkF m 144 #[.val (.int p1), .val (.ref a2)] [])) rfl (hb hby d9_144) (by decide) (by decide)
              obtain ⟨b1, gz33⟩ : ∃ z, z = h0.size := ⟨_, rfl⟩
              rw [← gz33] at A33 D33 st33
              have ne_a2_b1 : a2 ≠ b1 := Nat.ne_of_lt (Nat.lt_of_lt_of_le V_a2.lt (Nat.le_of_eq gz33.symm))
              have g_b1 : n0 ≤ b1 := Nat.le_trans Z0 (Nat.le_of_eq gz33.symm)
              have sz_b1 : h0.size ≤ b1 := Nat.le_trans (Keep.refl h0 []).1 (Nat.le_of_eq gz33.symm)
              have hzt := hzt.ext E33
              have V_a2 := V_a2.ext E33
              have Z33 : n0 ≤ h33.size := Nat.le_trans Z0 E33.1
              have K33 := (Keep.refl h0 []).ext E33
              have E_b1 := A33
              have F_value_b1 : Fld Z h33 b1 "java/lang/String" "value" "[B" .null := D33 (Or.inr (hw _ (List.mem_of_getElem? (i := 4) rfl))) (ty := (.array .byte)) (by decide)
              have F_coder_b1 : Fld Z h33 b1 "java/lang/String" "coder" "B" (.int (0 : Int32)) := D33 (Or.inr (hw _ (List.mem_of_getElem? (i := 5) rfl))) (ty := .byte) (by decide)
              refine OEndsW.go (t' := T33.setTop (mkF m 147 #[.val (.int p1), .val (.ref a2)] [(.ref b1)])) (fun _ k => st33 _ k) ?_
              refine OEndsW.go (t' := T33.setTop (mkF m 149 #[.val (.int p1), .val (.ref a2)] [(.int (5 : Int32)), (.ref b1), (.ref b1)])) (fun _ k => ?_) ?_
              · show Steps p.tables e below (T33.setTop (mkF m 147 #[.val (.int p1), .val (.ref a2)] [(.ref b1)])) _
                refine XS.dup X33.here hx rfl (hb hby d9_147) rfl rfl ?_
                show Steps p.tables e below (T33.setTop (mkF m 148 #[.val (.int p1), .val (.ref a2)] [(.ref b1), (.ref b1)])) _
                refine XS.iconst X33.here hx rfl (hb hby d9_148) ?_
                show Steps p.tables e below (T33.setTop (mkF m 149 #[.val (.int p1), .val (.ref a2)] [(.int (5 : Int32)), (.ref b1), (.ref b1)])) _
                exact k
              obtain ⟨T34, h34, ka34, X34, e34, E34, A34, st34⟩ := newP X33 hx hZ (hw _ (List.mem_of_getElem? (i := 21) rfl)) e33 (g := (mkF m 149 #[.val (.int p1), .val (.ref a2)] [(.int (5 : Int32)), (.ref b1), (.ref b1)])) rfl (hb hby d9_149) rfl (by decide) (cap := 5) (by decide) (by decide) (by decide) (by decide)
              obtain ⟨ar, gz34⟩ : ∃ z, z = h33.size := ⟨_, rfl⟩
              rw [← gz34] at A34 st34
              have ne_a2_ar : a2 ≠ ar := Nat.ne_of_lt (Nat.lt_of_lt_of_le V_a2.lt (Nat.le_of_eq gz34.symm))
              have ne_b1_ar : b1 ≠ ar := Nat.ne_of_lt (Nat.lt_of_lt_of_le E_b1.lt (Nat.le_of_eq gz34.symm))
              have g_ar : n0 ≤ ar := Nat.le_trans Z33 (Nat.le_of_eq gz34.symm)
              have sz_ar : h0.size ≤ ar := Nat.le_trans K33.1 (Nat.le_of_eq gz34.symm)
              have hzt := hzt.ext E34
              have V_a2 := V_a2.ext E34
              have E_b1 := E_b1.ext E34
              have F_value_b1 := F_value_b1.ext E34
              have F_coder_b1 := F_coder_b1.ext E34
              have Z34 : n0 ≤ h34.size := Nat.le_trans Z33 E34.1
              have K34 := K33.ext E34
              have V_ar : Arv Z h34 ar ka34 .char (5 : Int32) [(.int (0 : Int32)), (.int (0 : Int32)), (.int (0 : Int32)), (.int (0 : Int32)), (.int (0 : Int32))] (.int (0 : Int32)) := (Arv.new A34 (by decide)).pad (pad_rep [] (.int (0 : Int32)) 5)
              refine OEndsW.go (t' := T34.setTop (mkF m 151 #[.val (.int p1), .val (.ref a2)] [(.ref ar), (.ref b1), (.ref b1)])) (fun _ k => st34 _ k) ?_
              refine OEndsW.go (t' := T34.setTop (mkF m 155 #[.val (.int p1), .val (.ref a2)] [(.int (0 : Int32)), (.ref a2), (.int (0 : Int32)), (.ref ar), (.ref ar), (.ref b1), (.ref b1)])) (fun _ k => ?_) ?_
              · show Steps p.tables e below (T34.setTop (mkF m 151 #[.val (.int p1), .val (.ref a2)] [(.ref ar), (.ref b1), (.ref b1)])) _
                refine XS.dup X34.here hx rfl (hb hby d9_151) rfl rfl ?_
                show Steps p.tables e below (T34.setTop (mkF m 152 #[.val (.int p1), .val (.ref a2)] [(.ref ar), (.ref ar), (.ref b1), (.ref b1)])) _
                refine XS.iconst X34.here hx rfl (hb hby d9_152) ?_
                show Steps p.tables e below (T34.setTop (mkF m 153 #[.val (.int p1), .val (.ref a2)] [(.int (0 : Int32)), (.ref ar), (.ref ar), (.ref b1), (.ref b1)])) _
                refine XS.aloadN X34.here hx rfl (hb hby d9_153) rfl rfl ?_
                show Steps p.tables e below (T34.setTop (mkF m 154 #[.val (.int p1), .val (.ref a2)] [(.ref a2), (.int (0 : Int32)), (.ref ar), (.ref ar), (.ref b1), (.ref b1)])) _
                refine XS.iconst X34.here hx rfl (hb hby d9_154) ?_
                show Steps p.tables e below (T34.setTop (mkF m 155 #[.val (.int p1), .val (.ref a2)] [(.int (0 : Int32)), (.ref a2), (.int (0 : Int32)), (.ref ar), (.ref ar), (.ref b1), (.ref b1)])) _
                exact k
              obtain ⟨z0, hz0, hy0⟩ := V_a2.rd (j := 0) ⟨by decide, by decide⟩
              obtain ⟨cl35, Ar35, hin35, hat35⟩ := hy0
              refine OEndsW.go (t' := T34.setTop (mkF m 156 #[.val (.int p1), .val (.ref a2)] [(.int z0), (.int (0 : Int32)), (.ref ar), (.ref ar), (.ref b1), (.ref b1)])) (fun _ k => X34.caload hx (j := (0 : Int32)) (v := (.int z0)) (by rw [e34]; exact Ar35.1) (State.isArrayOf_alike hZ.alike Ar35.2.1) Ar35.2.2 hin35 hat35 (g := (mkF m 155 #[.val (.int p1), .val (.ref a2)] [(.int (0 : Int32)), (.ref a2), (.int (0 : Int32)), (.ref ar), (.ref ar), (.ref b1), (.ref b1)])) rfl rfl (hb hby d9_155) _ k) ?_
              obtain ⟨cl36, Ar36, cq36, cS36, cN36, cH36, cG36⟩ := V_ar
              have hin36 : ¬ ((0 : Int32) < 0 ∨ cl36.slots.size ≤ ((0 : Int32)).toNatClampNeg) := inb_of cS36 ⟨by decide, by decide⟩
              obtain ⟨T36, h36, X36, e36, W36, st36⟩ := stC X34 hx hZ e34 Ar36 (j := (0 : Int32)) hin36 (g := (mkF m 156 #[.val (.int p1), .val (.ref a2)] [(.int z0), (.int (0 : Int32)), (.ref ar), (.ref ar), (.ref b1), (.ref b1)])) rfl rfl (hb hby d9_156)
              have N36 := Fr.snoc X36 N0 g_ar
              have hzt := hzt.wr W36 g_ar
              have V_a2 := V_a2.other W36 ne_a2_ar
              have E_b1 := E_b1.wr W36
              have F_value_b1 := F_value_b1.other W36 (Or.inl ne_b1_ar)
              have F_coder_b1 := F_coder_b1.other W36 (Or.inl ne_b1_ar)
              have Z36 : n0 ≤ h36.size := Nat.le_trans Z34 (Keep.of_wr W36).1
              have K36 := K34.wr W36 (Or.inr sz_ar)
              have V_ar := Arv.set Ar36 cq36 cS36 cN36 cH36 cG36 (fits_nar_char _) W36 0 rfl (Nat.le_of_ble_eq_true rfl)
              refine OEndsW.go (t' := T36.setTop (mkF m 157 #[.val (.int p1), .val (.ref a2)] [(.ref ar), (.ref b1), (.ref b1)])) (fun _ k => st36 _ k) ?_
              refine OEndsW.go (t' := T36.setTop (mkF m 161 #[.val (.int p1), .val (.ref a2)] [(.int (1 : Int32)), (.ref a2), (.int (1 : Int32)), (.ref ar), (.ref ar), (.ref b1), (.ref b1)])) (fun _ k => ?_) ?_
              · show Steps p.tables e below (T36.setTop (mkF m 157 #[.val (.int p1), .val (.ref a2)] [(.ref ar), (.ref b1), (.ref b1)])) _
                refine XS.dup X36.here hx rfl (hb hby d9_157) rfl rfl ?_
                show Steps p.tables e below (T36.setTop (mkF m 158 #[.val (.int p1), .val (.ref a2)] [(.ref ar), (.ref ar), (.ref b1), (.ref b1)])) _
                refine XS.iconst X36.here hx rfl (hb hby d9_158) ?_
                show Steps p.tables e below (T36.setTop (mkF m 159 #[.val (.int p1), .val (.ref a2)] [(.int (1 : Int32)), (.ref ar), (.ref ar), (.ref b1), (.ref b1)])) _
                refine XS.aloadN X36.here hx rfl (hb hby d9_159) rfl rfl ?_
                show Steps p.tables e below (T36.setTop (mkF m 160 #[.val (.int p1), .val (.ref a2)] [(.ref a2), (.int (1 : Int32)), (.ref ar), (.ref ar), (.ref b1), (.ref b1)])) _
                refine XS.iconst X36.here hx rfl (hb hby d9_160) ?_
                show Steps p.tables e below (T36.setTop (mkF m 161 #[.val (.int p1), .val (.ref a2)] [(.int (1 : Int32)), (.ref a2), (.int (1 : Int32)), (.ref ar), (.ref ar), (.ref b1), (.ref b1)])) _
                exact k
              obtain ⟨z1, hz1, hy1⟩ := V_a2.rd (j := 1) ⟨by decide, by decide⟩
              obtain ⟨cl37, Ar37, hin37, hat37⟩ := hy1
              refine OEndsW.go (t' := T36.setTop (mkF m 162 #[.val (.int p1), .val (.ref a2)] [(.int z1), (.int (1 : Int32)), (.ref ar), (.ref ar), (.ref b1), (.ref b1)])) (fun _ k => X36.caload hx (j := (1 : Int32)) (v := (.int z1)) (by rw [e36]; exact Ar37.1) (State.isArrayOf_alike hZ.alike Ar37.2.1) Ar37.2.2 hin37 hat37 (g := (mkF m 161 #[.val (.int p1), .val (.ref a2)] [(.int (1 : Int32)), (.ref a2), (.int (1 : Int32)), (.ref ar), (.ref ar), (.ref b1), (.ref b1)])) rfl rfl (hb hby d9_161) _ k) ?_
              obtain ⟨cl38, Ar38, cq38, cS38, cN38, cH38, cG38⟩ := V_ar
              have hin38 : ¬ ((1 : Int32) < 0 ∨ cl38.slots.size ≤ ((1 : Int32)).toNatClampNeg) := inb_of cS38 ⟨by decide, by decide⟩
              obtain ⟨T38, h38, X38, e38, W38, st38⟩ := stC X36 hx hZ e36 Ar38 (j := (1 : Int32)) hin38 (g := (mkF m 162 #[.val (.int p1), .val (.ref a2)] [(.int z1), (.int (1 : Int32)), (.ref ar), (.ref ar), (.ref b1), (.ref b1)])) rfl rfl (hb hby d9_162)
              have N38 := Fr.snoc X38 N36 g_ar
              have hzt := hzt.wr W38 g_ar
              have V_a2 := V_a2.other W38 ne_a2_ar
              have E_b1 := E_b1.wr W38
              have F_value_b1 := F_value_b1.other W38 (Or.inl ne_b1_ar)
              have F_coder_b1 := F_coder_b1.other W38 (Or.inl ne_b1_ar)
              have Z38 : n0 ≤ h38.size := Nat.le_trans Z36 (Keep.of_wr W38).1
              have K38 := K36.wr W38 (Or.inr sz_ar)
              have V_ar := Arv.set Ar38 cq38 cS38 cN38 cH38 cG38 (fits_nar_char _) W38 1 rfl (Nat.le_of_ble_eq_true rfl)
              refine OEndsW.go (t' := T38.setTop (mkF m 163 #[.val (.int p1), .val (.ref a2)] [(.ref ar), (.ref b1), (.ref b1)])) (fun _ k => st38 _ k) ?_
              refine OEndsW.go (t' := T38.setTop (mkF m 167 #[.val (.int p1), .val (.ref a2)] [(.int (2 : Int32)), (.ref a2), (.int (2 : Int32)), (.ref ar), (.ref ar), (.ref b1), (.ref b1)])) (fun _ k => ?_) ?_
              · show Steps p.tables e below (T38.setTop (mkF m 163 #[.val (.int p1), .val (.ref a2)] [(.ref ar), (.ref b1), (.ref b1)])) _
                refine XS.dup X38.here hx rfl (hb hby d9_163) rfl rfl ?_
                show Steps p.tables e below (T38.setTop (mkF m 164 #[.val (.int p1), .val (.ref a2)] [(.ref ar), (.ref ar), (.ref b1), (.ref b1)])) _
                refine XS.iconst X38.here hx rfl (hb hby d9_164) ?_
                show Steps p.tables e below (T38.setTop (mkF m 165 #[.val (.int p1), .val (.ref a2)] [(.int (2 : Int32)), (.ref ar), (.ref ar), (.ref b1), (.ref b1)])) _
                refine XS.aloadN X38.here hx rfl (hb hby d9_165) rfl rfl ?_
                show Steps p.tables e below (T38.setTop (mkF m 166 #[.val (.int p1), .val (.ref a2)] [(.ref a2), (.int (2 : Int32)), (.ref ar), (.ref ar), (.ref b1), (.ref b1)])) _
                refine XS.iconst X38.here hx rfl (hb hby d9_166) ?_
                show Steps p.tables e below (T38.setTop (mkF m 167 #[.val (.int p1), .val (.ref a2)] [(.int (2 : Int32)), (.ref a2), (.int (2 : Int32)), (.ref ar), (.ref ar), (.ref b1), (.ref b1)])) _
                exact k
              obtain ⟨z2, hz2, hy2⟩ := V_a2.rd (j := 2) ⟨by decide, by decide⟩
              obtain ⟨cl39, Ar39, hin39, hat39⟩ := hy2
              refine OEndsW.go (t' := T38.setTop (mkF m 168 #[.val (.int p1), .val (.ref a2)] [(.int z2), (.int (2 : Int32)), (.ref ar), (.ref ar), (.ref b1), (.ref b1)])) (fun _ k => X38.caload hx (j := (2 : Int32)) (v := (.int z2)) (by rw [e38]; exact Ar39.1) (State.isArrayOf_alike hZ.alike Ar39.2.1) Ar39.2.2 hin39 hat39 (g := (mkF m 167 #[.val (.int p1), .val (.ref a2)] [(.int (2 : Int32)), (.ref a2), (.int (2 : Int32)), (.ref ar), (.ref ar), (.ref b1), (.ref b1)])) rfl rfl (hb hby d9_167) _ k) ?_
              obtain ⟨cl40, Ar40, cq40, cS40, cN40, cH40, cG40⟩ := V_ar
              have hin40 : ¬ ((2 : Int32) < 0 ∨ cl40.slots.size ≤ ((2 : Int32)).toNatClampNeg) := inb_of cS40 ⟨by decide, by decide⟩
              obtain ⟨T40, h40, X40, e40, W40, st40⟩ := stC X38 hx hZ e38 Ar40 (j := (2 : Int32)) hin40 (g := (mkF m 168 #[.val (.int p1), .val (.ref a2)] [(.int z2), (.int (2 : Int32)), (.ref ar), (.ref ar), (.ref b1), (.ref b1)])) rfl rfl (hb hby d9_168)
              have N40 := Fr.snoc X40 N38 g_ar
              have hzt := hzt.wr W40 g_ar
              have V_a2 := V_a2.other W40 ne_a2_ar
              have E_b1 := E_b1.wr W40
              have F_value_b1 := F_value_b1.other W40 (Or.inl ne_b1_ar)
              have F_coder_b1 := F_coder_b1.other W40 (Or.inl ne_b1_ar)
              have Z40 : n0 ≤ h40.size := Nat.le_trans Z38 (Keep.of_wr W40).1
              have K40 := K38.wr W40 (Or.inr sz_ar)
              have V_ar := Arv.set Ar40 cq40 cS40 cN40 cH40 cG40 (fits_nar_char _) W40 2 rfl (Nat.le_of_ble_eq_true rfl)
              refine OEndsW.go (t' := T40.setTop (mkF m 169 #[.val (.int p1), .val (.ref a2)] [(.ref ar), (.ref b1), (.ref b1)])) (fun _ k => st40 _ k) ?_
              refine OEndsW.go (t' := T40.setTop (mkF m 173 #[.val (.int p1), .val (.ref a2)] [(.int (3 : Int32)), (.ref a2), (.int (3 : Int32)), (.ref ar), (.ref ar), (.ref b1), (.ref b1)])) (fun _ k => ?_) ?_
              · show Steps p.tables e below (T40.setTop (mkF m 169 #[.val (.int p1), .val (.ref a2)] [(.ref ar), (.ref b1), (.ref b1)])) _
                refine XS.dup X40.here hx rfl (hb hby d9_169) rfl rfl ?_
                show Steps p.tables e below (T40.setTop (mkF m 170 #[.val (.int p1), .val (.ref a2)] [(.ref ar), (.ref ar), (.ref b1), (.ref b1)])) _
                refine XS.iconst X40.here hx rfl (hb hby d9_170) ?_
                show Steps p.tables e below (T40.setTop (mkF m 171 #[.val (.int p1), .val (.ref a2)] [(.int (3 : Int32)), (.ref ar), (.ref ar), (.ref b1), (.ref b1)])) _
                refine XS.aloadN X40.here hx rfl (hb hby d9_171) rfl rfl ?_
                show Steps p.tables e below (T40.setTop (mkF m 172 #[.val (.int p1), .val (.ref a2)] [(.ref a2), (.int (3 : Int32)), (.ref ar), (.ref ar), (.ref b1), (.ref b1)])) _
                refine XS.iconst X40.here hx rfl (hb hby d9_172) ?_
                show Steps p.tables e below (T40.setTop (mkF m 173 #[.val (.int p1), .val (.ref a2)] [(.int (3 : Int32)), (.ref a2), (.int (3 : Int32)), (.ref ar), (.ref ar), (.ref b1), (.ref b1)])) _
                exact k
              obtain ⟨z3, hz3, hy3⟩ := V_a2.rd (j := 3) ⟨by decide, by decide⟩
              obtain ⟨cl41, Ar41, hin41, hat41⟩ := hy3
              refine OEndsW.go (t' := T40.setTop (mkF m 174 #[.val (.int p1), .val (.ref a2)] [(.int z3), (.int (3 : Int32)), (.ref ar), (.ref ar), (.ref b1), (.ref b1)])) (fun _ k => X40.caload hx (j := (3 : Int32)) (v := (.int z3)) (by rw [e40]; exact Ar41.1) (State.isArrayOf_alike hZ.alike Ar41.2.1) Ar41.2.2 hin41 hat41 (g := (mkF m 173 #[.val (.int p1), .val (.ref a2)] [(.int (3 : Int32)), (.ref a2), (.int (3 : Int32)), (.ref ar), (.ref ar), (.ref b1), (.ref b1)])) rfl rfl (hb hby d9_173) _ k) ?_
              obtain ⟨cl42, Ar42, cq42, cS42, cN42, cH42, cG42⟩ := V_ar
              have hin42 : ¬ ((3 : Int32) < 0 ∨ cl42.slots.size ≤ ((3 : Int32)).toNatClampNeg) := inb_of cS42 ⟨by decide, by decide⟩
              obtain ⟨T42, h42, X42, e42, W42, st42⟩ := stC X40 hx hZ e40 Ar42 (j := (3 : Int32)) hin42 (g := (mkF m 174 #[.val (.int p1), .val (.ref a2)] [(.int z3), (.int (3 : Int32)), (.ref ar), (.ref ar), (.ref b1), (.ref b1)])) rfl rfl (hb hby d9_174)
              have N42 := Fr.snoc X42 N40 g_ar
              have hzt := hzt.wr W42 g_ar
              have V_a2 := V_a2.other W42 ne_a2_ar
              have E_b1 := E_b1.wr W42
              have F_value_b1 := F_value_b1.other W42 (Or.inl ne_b1_ar)
              have F_coder_b1 := F_coder_b1.other W42 (Or.inl ne_b1_ar)
              have Z42 : n0 ≤ h42.size := Nat.le_trans Z40 (Keep.of_wr W42).1
              have K42 := K40.wr W42 (Or.inr sz_ar)
              have V_ar := Arv.set Ar42 cq42 cS42 cN42 cH42 cG42 (fits_nar_char _) W42 3 rfl (Nat.le_of_ble_eq_true rfl)
              refine OEndsW.go (t' := T42.setTop (mkF m 175 #[.val (.int p1), .val (.ref a2)] [(.ref ar), (.ref b1), (.ref b1)])) (fun _ k => st42 _ k) ?_
              refine OEndsW.go (t' := T42.setTop (mkF m 179 #[.val (.int p1), .val (.ref a2)] [(.int (4 : Int32)), (.ref a2), (.int (4 : Int32)), (.ref ar), (.ref ar), (.ref b1), (.ref b1)])) (fun _ k => ?_) ?_
              · show Steps p.tables e below (T42.setTop (mkF m 175 #[.val (.int p1), .val (.ref a2)] [(.ref ar), (.ref b1), (.ref b1)])) _
                refine XS.dup X42.here hx rfl (hb hby d9_175) rfl rfl ?_
                show Steps p.tables e below (T42.setTop (mkF m 176 #[.val (.int p1), .val (.ref a2)] [(.ref ar), (.ref ar), (.ref b1), (.ref b1)])) _
                refine XS.iconst X42.here hx rfl (hb hby d9_176) ?_
                show Steps p.tables e below (T42.setTop (mkF m 177 #[.val (.int p1), .val (.ref a2)] [(.int (4 : Int32)), (.ref ar), (.ref ar), (.ref b1), (.ref b1)])) _
                refine XS.aloadN X42.here hx rfl (hb hby d9_177) rfl rfl ?_
                show Steps p.tables e below (T42.setTop (mkF m 178 #[.val (.int p1), .val (.ref a2)] [(.ref a2), (.int (4 : Int32)), (.ref ar), (.ref ar), (.ref b1), (.ref b1)])) _
                refine XS.iconst X42.here hx rfl (hb hby d9_178) ?_
                show Steps p.tables e below (T42.setTop (mkF m 179 #[.val (.int p1), .val (.ref a2)] [(.int (4 : Int32)), (.ref a2), (.int (4 : Int32)), (.ref ar), (.ref ar), (.ref b1), (.ref b1)])) _
                exact k
              obtain ⟨z4, hz4, hy4⟩ := V_a2.rd (j := 4) ⟨by decide, by decide⟩
              obtain ⟨cl43, Ar43, hin43, hat43⟩ := hy4
              refine OEndsW.go (t' := T42.setTop (mkF m 180 #[.val (.int p1), .val (.ref a2)] [(.int z4), (.int (4 : Int32)), (.ref ar), (.ref ar), (.ref b1), (.ref b1)])) (fun _ k => X42.caload hx (j := (4 : Int32)) (v := (.int z4)) (by rw [e42]; exact Ar43.1) (State.isArrayOf_alike hZ.alike Ar43.2.1) Ar43.2.2 hin43 hat43 (g := (mkF m 179 #[.val (.int p1), .val (.ref a2)] [(.int (4 : Int32)), (.ref a2), (.int (4 : Int32)), (.ref ar), (.ref ar), (.ref b1), (.ref b1)])) rfl rfl (hb hby d9_179) _ k) ?_
              obtain ⟨cl44, Ar44, cq44, cS44, cN44, cH44, cG44⟩ := V_ar
              have hin44 : ¬ ((4 : Int32) < 0 ∨ cl44.slots.size ≤ ((4 : Int32)).toNatClampNeg) := inb_of cS44 ⟨by decide, by decide⟩
              obtain ⟨T44, h44, X44, e44, W44, st44⟩ := stC X42 hx hZ e42 Ar44 (j := (4 : Int32)) hin44 (g := (mkF m 180 #[.val (.int p1), .val (.ref a2)] [(.int z4), (.int (4 : Int32)), (.ref ar), (.ref ar), (.ref b1), (.ref b1)])) rfl rfl (hb hby d9_180)
              have N44 := Fr.snoc X44 N42 g_ar
              have hzt := hzt.wr W44 g_ar
              have V_a2 := V_a2.other W44 ne_a2_ar
              have E_b1 := E_b1.wr W44
              have F_value_b1 := F_value_b1.other W44 (Or.inl ne_b1_ar)
              have F_coder_b1 := F_coder_b1.other W44 (Or.inl ne_b1_ar)
              have Z44 : n0 ≤ h44.size := Nat.le_trans Z42 (Keep.of_wr W44).1
              have K44 := K42.wr W44 (Or.inr sz_ar)
              have V_ar := Arv.set Ar44 cq44 cS44 cN44 cH44 cG44 (fits_nar_char _) W44 4 rfl (Nat.le_of_ble_eq_true rfl)
              refine OEndsW.go (t' := T44.setTop (mkF m 181 #[.val (.int p1), .val (.ref a2)] [(.ref ar), (.ref b1), (.ref b1)])) (fun _ k => st44 _ k) ?_
              have C_ar : own_Ch Z h44 ar ka34 [z0, z1, z2, z3, z4] := by
                refine ⟨?_, Nat.le_of_ble_eq_true rfl, ?_⟩
                · have q := V_ar
                  rw [own_nar hz0, own_nar hz1, own_nar hz2, own_nar hz3, own_nar hz4] at q
                  exact q
                · intro z hz; simp only [List.mem_cons, List.not_mem_nil, or_false] at hz
                  rcases hz with rfl | rfl | rfl | rfl | rfl <;> assumption
              obtain ⟨_, _, ⟨T45, L45, k45, n45⟩, -, X45, ⟨Lc45, hQ45, l45, y45, z45⟩, st45⟩ := X44.specialBack hx (y := (⟨"java/lang/String", "<init>", "([C)V"⟩ : MethodName)) rfl hown (mvT hZ (hw _ (List.mem_of_getElem? (i := 52) rfl))) (mvT hZ (hw _ (List.mem_of_getElem? (i := 53) rfl))) (mvT hZ (hw _ (List.mem_of_getElem? (i := 54) rfl))) (by decide) (backOf (W := 1) (rm10 l Z a0 hw [] b1 ar w1 _ [z0, z1, z2, z3, z4] h44 n0 Z44 (S_C.ext hzt.2) c0 F_value_b1 F_coder_b1 E_b1 g_b1 C_ar (Nat.le_of_ble_eq_true rfl) (Nat.le_of_ble_eq_true rfl)) hZ (hw _ (List.mem_of_getElem? (i := 54) rfl)) (hw _ (List.mem_of_getElem? (i := 1) rfl)) (by decide) (by decide)) (g := (mkF m 181 #[.val (.int p1), .val (.ref a2)] [(.ref ar), (.ref b1), (.ref b1)])) rfl (by rw [hml]; rfl) (Steps.refl _) (a := b1) (argsL := [(.ref ar)]) (rest := [(.ref b1)]) (lenOf pd_rm9_0 rfl) rfl (by show 2 * 0 + _ ≤ _; exact Nat.le_of_eq rfl) (hb hby d9_181) (fun _ _ => ⟨rfl, e44, (by decide : 2 + 1 ≤ _), (by decide : 9 + 8 ≤ _)⟩)
              dsimp only [Pt.U, Pt.locs, Pt.cells, Pt.slots] at X45 l45 y45 z45 st45 hQ45
              subst l45 y45 z45
              obtain ⟨rfl, N45q, Kc45, bb45, kk45, hs45⟩ := hQ45
              have N45 := Fr.app N44 N45q
              have hzt := hzt.keep Kc45 (allS g_b1 all0)
              have V_a2 := V_a2.keep Kc45 (ninS ne_a2_b1 nin0)
              have E_b1 := E_b1.keep Kc45
              have C_ar := C_ar.keep Kc45 (ninS (Ne.symm ne_b1_ar) nin0)
              have Z45 : n0 ≤ T45.heap.size := Nat.le_trans Z44 Kc45.1
              have K45 := K44.trans Kc45 (allS (Or.inr sz_b1) all0)
              refine OEndsW.go (t' := T45.setTop (mkF m 184 #[.val (.int p1), .val (.ref a2)] [(.ref b1)])) (fun _ k => st45.trans k) ?_
              refine OEndsW.back (vm₁ := s.vm) X45 hS0 (Nat.zero_le _) hlk (v := (some (.ref b1))) (fun h => by rw [hrt] at h; cases h) (fun fs hr => ?_) ?_ (by decide) (by decide)
              · exact retA X45 hx hrt rfl rfl rfl (hb hby d9_184) hr
              · show Q9 Z p1 a2 w1 h0 n0 _ T45.heap T45.vm _
                exact ⟨_, _, _, _, rfl, N45, K45, hs45, (hpv.keep0 K45).stays X45.warmed⟩
            · refine OEndsW.go (t' := s₁.setTop (mkF m 185 #[.val (.int p1), .val (.ref a2)] [])) (fun _ k => XS.icmpYes X0.here hx rfl (pc0 := 141) (pc' := 185) rfl (hb hby d9_141) rfl (feq q5).2 (by decide) (by decide) k) ?_
              refine OEndsW.go (t' := s₁.setTop (mkF m 188 #[.val (.int p1), .val (.ref a2)] [(.int (6 : Int32)), (.int p1)])) (fun _ k => ?_) ?_
              · show Steps p.tables e below (s₁.setTop (mkF m 185 #[.val (.int p1), .val (.ref a2)] [])) _
                refine XS.iloadN X0.here hx rfl (hb hby d9_185) rfl ?_
                show Steps p.tables e below (s₁.setTop (mkF m 186 #[.val (.int p1), .val (.ref a2)] [(.int p1)])) _
                refine XS.bipush X0.here hx rfl (hb hby d9_186) ?_
                show Steps p.tables e below (s₁.setTop (mkF m 188 #[.val (.int p1), .val (.ref a2)] [(.int (6 : Int32)), (.int p1)])) _
                exact k
              by_cases q6 : p1 = (6 : Int32)
              · refine OEndsW.go (t' := s₁.setTop (mkF m 191 #[.val (.int p1), .val (.ref a2)] [])) (fun _ k => XS.icmpNo X0.here hx rfl (hb hby d9_188) rfl (teq q6).2 k) ?_
                obtain ⟨T46, h46, X46, e46, E46, A46, D46, -, st46⟩ := newO X0 hx hZ hown (hw _ (List.mem_of_getElem? (i := 51) rfl)) (hw _ (List.mem_of_getElem? (i := 2) rfl)) (hw _ (List.mem_of_getElem? (i := 1) rfl)) e0 (g := (mkF m 191 #[.val (.int p1), .val (.ref a2)] [])) rfl (hb hby d9_191) (by decide) (by decide)
                obtain ⟨b1, gz46⟩ : ∃ z, z = h0.size := ⟨_, rfl⟩
                rw [← gz46] at A46 D46 st46
                have ne_a2_b1 : a2 ≠ b1 := Nat.ne_of_lt (Nat.lt_of_lt_of_le V_a2.lt (Nat.le_of_eq gz46.symm))
                have g_b1 : n0 ≤ b1 := Nat.le_trans Z0 (Nat.le_of_eq gz46.symm)
                have sz_b1 : h0.size ≤ b1 := Nat.le_trans (Keep.refl h0 []).1 (Nat.le_of_eq gz46.symm)
                have hzt := hzt.ext E46
                have V_a2 := V_a2.ext E46
                have Z46 : n0 ≤ h46.size := Nat.le_trans Z0 E46.1
                have K46 := (Keep.refl h0 []).ext E46
                have E_b1 := A46
                have F_value_b1 : Fld Z h46 b1 "java/lang/String" "value" "[B" .null := D46 (Or.inr (hw _ (List.mem_of_getElem? (i := 4) rfl))) (ty := (.array .byte)) (by decide)
                have F_coder_b1 : Fld Z h46 b1 "java/lang/String" "coder" "B" (.int (0 : Int32)) := D46 (Or.inr (hw _ (List.mem_of_getElem? (i := 5) rfl))) (ty := .byte) (by decide)
                refine OEndsW.go (t' := T46.setTop (mkF m 194 #[.val (.int p1), .val (.ref a2)] [(.ref b1)])) (fun _ k => st46 _ k) ?_
                refine OEndsW.go (t' := T46.setTop (mkF m 197 #[.val (.int p1), .val (.ref a2)] [(.int (6 : Int32)), (.ref b1), (.ref b1)])) (fun _ k => ?_) ?_
                · show Steps p.tables e below (T46.setTop (mkF m 194 #[.val (.int p1), .val (.ref a2)] [(.ref b1)])) _
                  refine XS.dup X46.here hx rfl (hb hby d9_194) rfl rfl ?_
                  show Steps p.tables e below (T46.setTop (mkF m 195 #[.val (.int p1), .val (.ref a2)] [(.ref b1), (.ref b1)])) _
                  refine XS.bipush X46.here hx rfl (hb hby d9_195) ?_
                  show Steps p.tables e below (T46.setTop (mkF m 197 #[.val (.int p1), .val (.ref a2)] [(.int (6 : Int32)), (.ref b1), (.ref b1)])) _
                  exact k
                obtain ⟨T47, h47, ka47, X47, e47, E47, A47, st47⟩ := newP X46 hx hZ (hw _ (List.mem_of_getElem? (i := 21) rfl)) e46 (g := (mkF m 197 #[.val (.int p1), .val (.ref a2)] [(.int (6 : Int32)), (.ref b1), (.ref b1)])) rfl (hb hby d9_197) rfl (by decide) (cap := 6) (by decide) (by decide) (by decide) (by decide)
                obtain ⟨ar, gz47⟩ : ∃ z, z = h46.size := ⟨_, rfl⟩
                rw [← gz47] at A47 st47
                have ne_a2_ar : a2 ≠ ar := Nat.ne_of_lt (Nat.lt_of_lt_of_le V_a2.lt (Nat.le_of_eq gz47.symm))
                have ne_b1_ar : b1 ≠ ar := Nat.ne_of_lt (Nat.lt_of_lt_of_le E_b1.lt (Nat.le_of_eq gz47.symm))
                have g_ar : n0 ≤ ar := Nat.le_trans Z46 (Nat.le_of_eq gz47.symm)
                have sz_ar : h0.size ≤ ar := Nat.le_trans K46.1 (Nat.le_of_eq gz47.symm)
                have hzt := hzt.ext E47
                have V_a2 := V_a2.ext E47
                have E_b1 := E_b1.ext E47
                have F_value_b1 := F_value_b1.ext E47
                have F_coder_b1 := F_coder_b1.ext E47
                have Z47 : n0 ≤ h47.size := Nat.le_trans Z46 E47.1
                have K47 := K46.ext E47
                have V_ar : Arv Z h47 ar ka47 .char (6 : Int32) [(.int (0 : Int32)), (.int (0 : Int32)), (.int (0 : Int32)), (.int (0 : Int32)), (.int (0 : Int32)), (.int (0 : Int32))] (.int (0 : Int32)) := (Arv.new A47 (by decide)).pad (pad_rep [] (.int (0 : Int32)) 6)
                refine OEndsW.go (t' := T47.setTop (mkF m 199 #[.val (.int p1), .val (.ref a2)] [(.ref ar), (.ref b1), (.ref b1)])) (fun _ k => st47 _ k) ?_
                refine OEndsW.go (t' := T47.setTop (mkF m 203 #[.val (.int p1), .val (.ref a2)] [(.int (0 : Int32)), (.ref a2), (.int (0 : Int32)), (.ref ar), (.ref ar), (.ref b1), (.ref b1)])) (fun _ k => ?_) ?_
                · show Steps p.tables e below (T47.setTop (mkF m 199 #[.val (.int p1), .val (.ref a2)] [(.ref ar), (.ref b1), (.ref b1)])) _
                  refine XS.dup X47.here hx rfl (hb hby d9_199) rfl rfl ?_
                  show Steps p.tables e below (T47.setTop (mkF m 200 #[.val (.int p1), .val (.ref a2)] [(.ref ar), (.ref ar), (.ref b1), (.ref b1)])) _
                  refine XS.iconst X47.here hx rfl (hb hby d9_200) ?_
                  show Steps p.tables e below (T47.setTop (mkF m 201 #[.val (.int p1), .val (.ref a2)] [(.int (0 : Int32)), (.ref ar), (.ref ar), (.ref b1), (.ref b1)])) _
                  refine XS.aloadN X47.here hx rfl (hb hby d9_201) rfl rfl ?_
                  show Steps p.tables e below (T47.setTop (mkF m 202 #[.val (.int p1), .val (.ref a2)] [(.ref a2), (.int (0 : Int32)), (.ref ar), (.ref ar), (.ref b1), (.ref b1)])) _
                  refine XS.iconst X47.here hx rfl (hb hby d9_202) ?_
                  show Steps p.tables e below (T47.setTop (mkF m 203 #[.val (.int p1), .val (.ref a2)] [(.int (0 : Int32)), (.ref a2), (.int (0 : Int32)), (.ref ar), (.ref ar), (.ref b1), (.ref b1)])) _
                  exact k
                obtain ⟨z0, hz0, hy0⟩ := V_a2.rd (j := 0) ⟨by decide, by decide⟩
                obtain ⟨cl48, Ar48, hin48, hat48⟩ := hy0
                refine OEndsW.go (t' := T47.setTop (mkF m 204 #[.val (.int p1), .val (.ref a2)] [(.int z0), (.int (0 : Int32)), (.ref ar), (.ref ar), (.ref b1), (.ref b1)])) (fun _ k => X47.caload hx (j := (0 : Int32)) (v := (.int z0)) (by rw [e47]; exact Ar48.1) (State.isArrayOf_alike hZ.alike Ar48.2.1) Ar48.2.2 hin48 hat48 (g := (mkF m 203 #[.val (.int p1), .val (.ref a2)] [(.int (0 : Int32)), (.ref a2), (.int (0 : Int32)), (.ref ar), (.ref ar), (.ref b1), (.ref b1)])) rfl rfl (hb hby d9_203) _ k) ?_
                obtain ⟨cl49, Ar49, cq49, cS49, cN49, cH49, cG49⟩ := V_ar
                have hin49 : ¬ ((0 : Int32) < 0 ∨ cl49.slots.size ≤ ((0 : Int32)).toNatClampNeg) := inb_of cS49 ⟨by decide, by decide⟩
                obtain ⟨T49, h49, X49, e49, W49, st49⟩ := stC X47 hx hZ e47 Ar49 (j := (0 : Int32)) hin49 (g := (mkF m 204 #[.val (.int p1), .val (.ref a2)] [(.int z0), (.int (0 : Int32)), (.ref ar), (.ref ar), (.ref b1), (.ref b1)])) rfl rfl (hb hby d9_204)
                have N49 := Fr.snoc X49 N0 g_ar
                have hzt := hzt.wr W49 g_ar
                have V_a2 := V_a2.other W49 ne_a2_ar
                have E_b1 := E_b1.wr W49
                have F_value_b1 := F_value_b1.other W49 (Or.inl ne_b1_ar)
                have F_coder_b1 := F_coder_b1.other W49 (Or.inl ne_b1_ar)
                have Z49 : n0 ≤ h49.size := Nat.le_trans Z47 (Keep.of_wr W49).1
                have K49 := K47.wr W49 (Or.inr sz_ar)
                have V_ar := Arv.set Ar49 cq49 cS49 cN49 cH49 cG49 (fits_nar_char _) W49 0 rfl (Nat.le_of_ble_eq_true rfl)
                refine OEndsW.go (t' := T49.setTop (mkF m 205 #[.val (.int p1), .val (.ref a2)] [(.ref ar), (.ref b1), (.ref b1)])) (fun _ k => st49 _ k) ?_
                refine OEndsW.go (t' := T49.setTop (mkF m 209 #[.val (.int p1), .val (.ref a2)] [(.int (1 : Int32)), (.ref a2), (.int (1 : Int32)), (.ref ar), (.ref ar), (.ref b1), (.ref b1)])) (fun _ k => ?_) ?_
                · show Steps p.tables e below (T49.setTop (mkF m 205 #[.val (.int p1), .val (.ref a2)] [(.ref ar), (.ref b1), (.ref b1)])) _
                  refine XS.dup X49.here hx rfl (hb hby d9_205) rfl rfl ?_
                  show Steps p.tables e below (T49.setTop (mkF m 206 #[.val (.int p1), .val (.ref a2)] [(.ref ar), (.ref ar), (.ref b1), (.ref b1)])) _
                  refine XS.iconst X49.here hx rfl (hb hby d9_206) ?_
                  show Steps p.tables e below (T49.setTop (mkF m 207 #[.val (.int p1), .val (.ref a2)] [(.int (1 : Int32)), (.ref ar), (.ref ar), (.ref b1), (.ref b1)])) _
                  refine XS.aloadN X49.here hx rfl (hb hby d9_207) rfl rfl ?_
                  show Steps p.tables e below (T49.setTop (mkF m 208 #[.val (.int p1), .val (.ref a2)] [(.ref a2), (.int (1 : Int32)), (.ref ar), (.ref ar), (.ref b1), (.ref b1)])) _
                  refine XS.iconst X49.here hx rfl (hb hby d9_208) ?_
                  show Steps p.tables e below (T49.setTop (mkF m 209 #[.val (.int p1), .val (.ref a2)] [(.int (1 : Int32)), (.ref a2), (.int (1 : Int32)), (.ref ar), (.ref ar), (.ref b1), (.ref b1)])) _
                  exact k
                obtain ⟨z1, hz1, hy1⟩ := V_a2.rd (j := 1) ⟨by decide, by decide⟩
                obtain ⟨cl50, Ar50, hin50, hat50⟩ := hy1
                refine OEndsW.go (t' := T49.setTop (mkF m 210 #[.val (.int p1), .val (.ref a2)] [(.int z1), (.int (1 : Int32)), (.ref ar), (.ref ar), (.ref b1), (.ref b1)])) (fun _ k => X49.caload hx (j := (1 : Int32)) (v := (.int z1)) (by rw [e49]; exact Ar50.1) (State.isArrayOf_alike hZ.alike Ar50.2.1) Ar50.2.2 hin50 hat50 (g := (mkF m 209 #[.val (.int p1), .val (.ref a2)] [(.int (1 : Int32)), (.ref a2), (.int (1 : Int32)), (.ref ar), (.ref ar), (.ref b1), (.ref b1)])) rfl rfl (hb hby d9_209) _ k) ?_
                obtain ⟨cl51, Ar51, cq51, cS51, cN51, cH51, cG51⟩ := V_ar
                have hin51 : ¬ ((1 : Int32) < 0 ∨ cl51.slots.size ≤ ((1 : Int32)).toNatClampNeg) := inb_of cS51 ⟨by decide, by decide⟩
                obtain ⟨T51, h51, X51, e51, W51, st51⟩ := stC X49 hx hZ e49 Ar51 (j := (1 : Int32)) hin51 (g := (mkF m 210 #[.val (.int p1), .val (.ref a2)] [(.int z1), (.int (1 : Int32)), (.ref ar), (.ref ar), (.ref b1), (.ref b1)])) rfl rfl (hb hby d9_210)
                have N51 := Fr.snoc X51 N49 g_ar
                have hzt := hzt.wr W51 g_ar
                have V_a2 := V_a2.other W51 ne_a2_ar
                have E_b1 := E_b1.wr W51
                have F_value_b1 := F_value_b1.other W51 (Or.inl ne_b1_ar)
                have F_coder_b1 := F_coder_b1.other W51 (Or.inl ne_b1_ar)
                have Z51 : n0 ≤ h51.size := Nat.le_trans Z49 (Keep.of_wr W51).1
                have K51 := K49.wr W51 (Or.inr sz_ar)
                have V_ar := Arv.set Ar51 cq51 cS51 cN51 cH51 cG51 (fits_nar_char _) W51 1 rfl (Nat.le_of_ble_eq_true rfl)
                refine OEndsW.go (t' := T51.setTop (mkF m 211 #[.val (.int p1), .val (.ref a2)] [(.ref ar), (.ref b1), (.ref b1)])) (fun _ k => st51 _ k) ?_
                refine OEndsW.go (t' := T51.setTop (mkF m 215 #[.val (.int p1), .val (.ref a2)] [(.int (2 : Int32)), (.ref a2), (.int (2 : Int32)), (.ref ar), (.ref ar), (.ref b1), (.ref b1)])) (fun _ k => ?_) ?_
                · show Steps p.tables e below (T51.setTop (mkF m 211 #[.val (.int p1), .val (.ref a2)] [(.ref ar), (.ref b1), (.ref b1)])) _
                  refine XS.dup X51.here hx rfl (hb hby d9_211) rfl rfl ?_
                  show Steps p.tables e below (T51.setTop (mkF m 212 #[.val (.int p1), .val (.ref a2)] [(.ref ar), (.ref ar), (.ref b1), (.ref b1)])) _
                  refine XS.iconst X51.here hx rfl (hb hby d9_212) ?_
                  show Steps p.tables e below (T51.setTop (mkF m 213 #[.val (.int p1), .val (.ref a2)] [(.int (2 : Int32)), (.ref ar), (.ref ar), (.ref b1), (.ref b1)])) _
                  refine XS.aloadN X51.here hx rfl (hb hby d9_213) rfl rfl ?_
                  show Steps p.tables e below (T51.setTop (mkF m 214 #[.val (.int p1), .val (.ref a2)] [(.ref a2), (.int (2 : Int32)), (.ref ar), (.ref ar), (.ref b1), (.ref b1)])) _
                  refine XS.iconst X51.here hx rfl (hb hby d9_214) ?_
                  show Steps p.tables e below (T51.setTop (mkF m 215 #[.val (.int p1), .val (.ref a2)] [(.int (2 : Int32)), (.ref a2), (.int (2 : Int32)), (.ref ar), (.ref ar), (.ref b1), (.ref b1)])) _
                  exact k
                obtain ⟨z2, hz2, hy2⟩ := V_a2.rd (j := 2) ⟨by decide, by decide⟩
                obtain ⟨cl52, Ar52, hin52, hat52⟩ := hy2
                refine OEndsW.go (t' := T51.setTop (mkF m 216 #[.val (.int p1), .val (.ref a2)] [(.int z2), (.int (2 : Int32)), (.ref ar), (.ref ar), (.ref b1), (.ref b1)])) (fun _ k => X51.caload hx (j := (2 : Int32)) (v := (.int z2)) (by rw [e51]; exact Ar52.1) (State.isArrayOf_alike hZ.alike Ar52.2.1) Ar52.2.2 hin52 hat52 (g := (mkF m 215 #[.val (.int p1), .val (.ref a2)] [(.int (2 : Int32)), (.ref a2), (.int (2 : Int32)), (.ref ar), (.ref ar), (.ref b1), (.ref b1)])) rfl rfl (hb hby d9_215) _ k) ?_
                obtain ⟨cl53, Ar53, cq53, cS53, cN53, cH53, cG53⟩ := V_ar
                have hin53 : ¬ ((2 : Int32) < 0 ∨ cl53.slots.size ≤ ((2 : Int32)).toNatClampNeg) := inb_of cS53 ⟨by decide, by decide⟩
                obtain ⟨T53, h53, X53, e53, W53, st53⟩ := stC X51 hx hZ e51 Ar53 (j := (2 : Int32)) hin53 (g := (mkF m 216 #[.val (.int p1), .val (.ref a2)] [(.int z2), (.int (2 : Int32)), (.ref ar), (.ref ar), (.ref b1), (.ref b1)])) rfl rfl (hb hby d9_216)
                have N53 := Fr.snoc X53 N51 g_ar
                have hzt := hzt.wr W53 g_ar
                have V_a2 := V_a2.other W53 ne_a2_ar
                have E_b1 := E_b1.wr W53
                have F_value_b1 := F_value_b1.other W53 (Or.inl ne_b1_ar)
                have F_coder_b1 := F_coder_b1.other W53 (Or.inl ne_b1_ar)
                have Z53 : n0 ≤ h53.size := Nat.le_trans Z51 (Keep.of_wr W53).1
                have K53 := K51.wr W53 (Or.inr sz_ar)
                have V_ar := Arv.set Ar53 cq53 cS53 cN53 cH53 cG53 (fits_nar_char _) W53 2 rfl (Nat.le_of_ble_eq_true rfl)
                refine OEndsW.go (t' := T53.setTop (mkF m 217 #[.val (.int p1), .val (.ref a2)] [(.ref ar), (.ref b1), (.ref b1)])) (fun _ k => st53 _ k) ?_
                refine OEndsW.go (t' := T53.setTop (mkF m 221 #[.val (.int p1), .val (.ref a2)] [(.int (3 : Int32)), (.ref a2), (.int (3 : Int32)), (.ref ar), (.ref ar), (.ref b1), (.ref b1)])) (fun _ k => ?_) ?_
                · show Steps p.tables e below (T53.setTop (mkF m 217 #[.val (.int p1), .val (.ref a2)] [(.ref ar), (.ref b1), (.ref b1)])) _
                  refine XS.dup X53.here hx rfl (hb hby d9_217) rfl rfl ?_
                  show Steps p.tables e below (T53.setTop (mkF m 218 #[.val (.int p1), .val (.ref a2)] [(.ref ar), (.ref ar), (.ref b1), (.ref b1)])) _
                  refine XS.iconst X53.here hx rfl (hb hby d9_218) ?_
                  show Steps p.tables e below (T53.setTop (mkF m 219 #[.val (.int p1), .val (.ref a2)] [(.int (3 : Int32)), (.ref ar), (.ref ar), (.ref b1), (.ref b1)])) _
                  refine XS.aloadN X53.here hx rfl (hb hby d9_219) rfl rfl ?_
                  show Steps p.tables e below (T53.setTop (mkF m 220 #[.val (.int p1), .val (.ref a2)] [(.ref a2), (.int (3 : Int32)), (.ref ar), (.ref ar), (.ref b1), (.ref b1)])) _
                  refine XS.iconst X53.here hx rfl (hb hby d9_220) ?_
                  show Steps p.tables e below (T53.setTop (mkF m 221 #[.val (.int p1), .val (.ref a2)] [(.int (3 : Int32)), (.ref a2), (.int (3 : Int32)), (.ref ar), (.ref ar), (.ref b1), (.ref b1)])) _
                  exact k
                obtain ⟨z3, hz3, hy3⟩ := V_a2.rd (j := 3) ⟨by decide, by decide⟩
                obtain ⟨cl54, Ar54, hin54, hat54⟩ := hy3
                refine OEndsW.go (t' := T53.setTop (mkF m 222 #[.val (.int p1), .val (.ref a2)] [(.int z3), (.int (3 : Int32)), (.ref ar), (.ref ar), (.ref b1), (.ref b1)])) (fun _ k => X53.caload hx (j := (3 : Int32)) (v := (.int z3)) (by rw [e53]; exact Ar54.1) (State.isArrayOf_alike hZ.alike Ar54.2.1) Ar54.2.2 hin54 hat54 (g := (mkF m 221 #[.val (.int p1), .val (.ref a2)] [(.int (3 : Int32)), (.ref a2), (.int (3 : Int32)), (.ref ar), (.ref ar), (.ref b1), (.ref b1)])) rfl rfl (hb hby d9_221) _ k) ?_
                obtain ⟨cl55, Ar55, cq55, cS55, cN55, cH55, cG55⟩ := V_ar
                have hin55 : ¬ ((3 : Int32) < 0 ∨ cl55.slots.size ≤ ((3 : Int32)).toNatClampNeg) := inb_of cS55 ⟨by decide, by decide⟩
                obtain ⟨T55, h55, X55, e55, W55, st55⟩ := stC X53 hx hZ e53 Ar55 (j := (3 : Int32)) hin55 (g := (mkF m 222 #[.val (.int p1), .val (.ref a2)] [(.int z3), (.int (3 : Int32)), (.ref ar), (.ref ar), (.ref b1), (.ref b1)])) rfl rfl (hb hby d9_222)
                have N55 := Fr.snoc X55 N53 g_ar
                have hzt := hzt.wr W55 g_ar
                have V_a2 := V_a2.other W55 ne_a2_ar
                have E_b1 := E_b1.wr W55
                have F_value_b1 := F_value_b1.other W55 (Or.inl ne_b1_ar)
                have F_coder_b1 := F_coder_b1.other W55 (Or.inl ne_b1_ar)
                have Z55 : n0 ≤ h55.size := Nat.le_trans Z53 (Keep.of_wr W55).1
                have K55 := K53.wr W55 (Or.inr sz_ar)
                have V_ar := Arv.set Ar55 cq55 cS55 cN55 cH55 cG55 (fits_nar_char _) W55 3 rfl (Nat.le_of_ble_eq_true rfl)
                refine OEndsW.go (t' := T55.setTop (mkF m 223 #[.val (.int p1), .val (.ref a2)] [(.ref ar), (.ref b1), (.ref b1)])) (fun _ k => st55 _ k) ?_
                refine OEndsW.go (t' := T55.setTop (mkF m 227 #[.val (.int p1), .val (.ref a2)] [(.int (4 : Int32)), (.ref a2), (.int (4 : Int32)), (.ref ar), (.ref ar), (.ref b1), (.ref b1)])) (fun _ k => ?_) ?_
                · show Steps p.tables e below (T55.setTop (mkF m 223 #[.val (.int p1), .val (.ref a2)] [(.ref ar), (.ref b1), (.ref b1)])) _
                  refine XS.dup X55.here hx rfl (hb hby d9_223) rfl rfl ?_
                  show Steps p.tables e below (T55.setTop (mkF m 224 #[.val (.int p1), .val (.ref a2)] [(.ref ar), (.ref ar), (.ref b1), (.ref b1)])) _
                  refine XS.iconst X55.here hx rfl (hb hby d9_224) ?_
                  show Steps p.tables e below (T55.setTop (mkF m 225 #[.val (.int p1), .val (.ref a2)] [(.int (4 : Int32)), (.ref ar), (.ref ar), (.ref b1), (.ref b1)])) _
                  refine XS.aloadN X55.here hx rfl (hb hby d9_225) rfl rfl ?_
                  show Steps p.tables e below (T55.setTop (mkF m 226 #[.val (.int p1), .val (.ref a2)] [(.ref a2), (.int (4 : Int32)), (.ref ar), (.ref ar), (.ref b1), (.ref b1)])) _
                  refine XS.iconst X55.here hx rfl (hb hby d9_226) ?_
                  show Steps p.tables e below (T55.setTop (mkF m 227 #[.val (.int p1), .val (.ref a2)] [(.int (4 : Int32)), (.ref a2), (.int (4 : Int32)), (.ref ar), (.ref ar), (.ref b1), (.ref b1)])) _
                  exact k
                obtain ⟨z4, hz4, hy4⟩ := V_a2.rd (j := 4) ⟨by decide, by decide⟩
                obtain ⟨cl56, Ar56, hin56, hat56⟩ := hy4
                refine OEndsW.go (t' := T55.setTop (mkF m 228 #[.val (.int p1), .val (.ref a2)] [(.int z4), (.int (4 : Int32)), (.ref ar), (.ref ar), (.ref b1), (.ref b1)])) (fun _ k => X55.caload hx (j := (4 : Int32)) (v := (.int z4)) (by rw [e55]; exact Ar56.1) (State.isArrayOf_alike hZ.alike Ar56.2.1) Ar56.2.2 hin56 hat56 (g := (mkF m 227 #[.val (.int p1), .val (.ref a2)] [(.int (4 : Int32)), (.ref a2), (.int (4 : Int32)), (.ref ar), (.ref ar), (.ref b1), (.ref b1)])) rfl rfl (hb hby d9_227) _ k) ?_
                obtain ⟨cl57, Ar57, cq57, cS57, cN57, cH57, cG57⟩ := V_ar
                have hin57 : ¬ ((4 : Int32) < 0 ∨ cl57.slots.size ≤ ((4 : Int32)).toNatClampNeg) := inb_of cS57 ⟨by decide, by decide⟩
                obtain ⟨T57, h57, X57, e57, W57, st57⟩ := stC X55 hx hZ e55 Ar57 (j := (4 : Int32)) hin57 (g := (mkF m 228 #[.val (.int p1), .val (.ref a2)] [(.int z4), (.int (4 : Int32)), (.ref ar), (.ref ar), (.ref b1), (.ref b1)])) rfl rfl (hb hby d9_228)
                have N57 := Fr.snoc X57 N55 g_ar
                have hzt := hzt.wr W57 g_ar
                have V_a2 := V_a2.other W57 ne_a2_ar
                have E_b1 := E_b1.wr W57
                have F_value_b1 := F_value_b1.other W57 (Or.inl ne_b1_ar)
                have F_coder_b1 := F_coder_b1.other W57 (Or.inl ne_b1_ar)
                have Z57 : n0 ≤ h57.size := Nat.le_trans Z55 (Keep.of_wr W57).1
                have K57 := K55.wr W57 (Or.inr sz_ar)
                have V_ar := Arv.set Ar57 cq57 cS57 cN57 cH57 cG57 (fits_nar_char _) W57 4 rfl (Nat.le_of_ble_eq_true rfl)
                refine OEndsW.go (t' := T57.setTop (mkF m 229 #[.val (.int p1), .val (.ref a2)] [(.ref ar), (.ref b1), (.ref b1)])) (fun _ k => st57 _ k) ?_
                refine OEndsW.go (t' := T57.setTop (mkF m 233 #[.val (.int p1), .val (.ref a2)] [(.int (5 : Int32)), (.ref a2), (.int (5 : Int32)), (.ref ar), (.ref ar), (.ref b1), (.ref b1)])) (fun _ k => ?_) ?_
                · show Steps p.tables e below (T57.setTop (mkF m 229 #[.val (.int p1), .val (.ref a2)] [(.ref ar), (.ref b1), (.ref b1)])) _
                  refine XS.dup X57.here hx rfl (hb hby d9_229) rfl rfl ?_
                  show Steps p.tables e below (T57.setTop (mkF m 230 #[.val (.int p1), .val (.ref a2)] [(.ref ar), (.ref ar), (.ref b1), (.ref b1)])) _
                  refine XS.iconst X57.here hx rfl (hb hby d9_230) ?_
                  show Steps p.tables e below (T57.setTop (mkF m 231 #[.val (.int p1), .val (.ref a2)] [(.int (5 : Int32)), (.ref ar), (.ref ar), (.ref b1), (.ref b1)])) _
                  refine XS.aloadN X57.here hx rfl (hb hby d9_231) rfl rfl ?_
                  show Steps p.tables e below (T57.setTop (mkF m 232 #[.val (.int p1), .val (.ref a2)] [(.ref a2), (.int (5 : Int32)), (.ref ar), (.ref ar), (.ref b1), (.ref b1)])) _
                  refine XS.iconst X57.here hx rfl (hb hby d9_232) ?_
                  show Steps p.tables e below (T57.setTop (mkF m 233 #[.val (.int p1), .val (.ref a2)] [(.int (5 : Int32)), (.ref a2), (.int (5 : Int32)), (.ref ar), (.ref ar), (.ref b1), (.ref b1)])) _
                  exact k
                obtain ⟨z5, hz5, hy5⟩ := V_a2.rd (j := 5) ⟨by decide, by decide⟩
                obtain ⟨cl58, Ar58, hin58, hat58⟩ := hy5
                refine OEndsW.go (t' := T57.setTop (mkF m 234 #[.val (.int p1), .val (.ref a2)] [(.int z5), (.int (5 : Int32)), (.ref ar), (.ref ar), (.ref b1), (.ref b1)])) (fun _ k => X57.caload hx (j := (5 : Int32)) (v := (.int z5)) (by rw [e57]; exact Ar58.1) (State.isArrayOf_alike hZ.alike Ar58.2.1) Ar58.2.2 hin58 hat58 (g := (mkF m 233 #[.val (.int p1), .val (.ref a2)] [(.int (5 : Int32)), (.ref a2), (.int (5 : Int32)), (.ref ar), (.ref ar), (.ref b1), (.ref b1)])) rfl rfl (hb hby d9_233) _ k) ?_
                obtain ⟨cl59, Ar59, cq59, cS59, cN59, cH59, cG59⟩ := V_ar
                have hin59 : ¬ ((5 : Int32) < 0 ∨ cl59.slots.size ≤ ((5 : Int32)).toNatClampNeg) := inb_of cS59 ⟨by decide, by decide⟩
                obtain ⟨T59, h59, X59, e59, W59, st59⟩ := stC X57 hx hZ e57 Ar59 (j := (5 : Int32)) hin59 (g := (mkF m 234 #[.val (.int p1), .val (.ref a2)] [(.int z5), (.int (5 : Int32)), (.ref ar), (.ref ar), (.ref b1), (.ref b1)])) rfl rfl (hb hby d9_234)
                have N59 := Fr.snoc X59 N57 g_ar
                have hzt := hzt.wr W59 g_ar
                have V_a2 := V_a2.other W59 ne_a2_ar
                have E_b1 := E_b1.wr W59
                have F_value_b1 := F_value_b1.other W59 (Or.inl ne_b1_ar)
                have F_coder_b1 := F_coder_b1.other W59 (Or.inl ne_b1_ar)
                have Z59 : n0 ≤ h59.size := Nat.le_trans Z57 (Keep.of_wr W59).1
                have K59 := K57.wr W59 (Or.inr sz_ar)
                have V_ar := Arv.set Ar59 cq59 cS59 cN59 cH59 cG59 (fits_nar_char _) W59 5 rfl (Nat.le_of_ble_eq_true rfl)
                refine OEndsW.go (t' := T59.setTop (mkF m 235 #[.val (.int p1), .val (.ref a2)] [(.ref ar), (.ref b1), (.ref b1)])) (fun _ k => st59 _ k) ?_
                have C_ar : own_Ch Z h59 ar ka47 [z0, z1, z2, z3, z4, z5] := by
                  refine ⟨?_, Nat.le_of_ble_eq_true rfl, ?_⟩
                  · have q := V_ar
                    rw [own_nar hz0, own_nar hz1, own_nar hz2, own_nar hz3, own_nar hz4, own_nar hz5] at q
                    exact q
                  · intro z hz; simp only [List.mem_cons, List.not_mem_nil, or_false] at hz
                    rcases hz with rfl | rfl | rfl | rfl | rfl | rfl <;> assumption
                obtain ⟨_, _, ⟨T60, L60, k60, n60⟩, -, X60, ⟨Lc60, hQ60, l60, y60, z60⟩, st60⟩ := X59.specialBack hx (y := (⟨"java/lang/String", "<init>", "([C)V"⟩ : MethodName)) rfl hown (mvT hZ (hw _ (List.mem_of_getElem? (i := 52) rfl))) (mvT hZ (hw _ (List.mem_of_getElem? (i := 53) rfl))) (mvT hZ (hw _ (List.mem_of_getElem? (i := 54) rfl))) (by decide) (backOf (W := 1) (rm10 l Z a0 hw [] b1 ar w1 _ [z0, z1, z2, z3, z4, z5] h59 n0 Z59 (S_C.ext hzt.2) c0 F_value_b1 F_coder_b1 E_b1 g_b1 C_ar (Nat.le_of_ble_eq_true rfl) (Nat.le_of_ble_eq_true rfl)) hZ (hw _ (List.mem_of_getElem? (i := 54) rfl)) (hw _ (List.mem_of_getElem? (i := 1) rfl)) (by decide) (by decide)) (g := (mkF m 235 #[.val (.int p1), .val (.ref a2)] [(.ref ar), (.ref b1), (.ref b1)])) rfl (by rw [hml]; rfl) (Steps.refl _) (a := b1) (argsL := [(.ref ar)]) (rest := [(.ref b1)]) (lenOf pd_rm9_0 rfl) rfl (by show 2 * 0 + _ ≤ _; exact Nat.le_of_eq rfl) (hb hby d9_235) (fun _ _ => ⟨rfl, e59, (by decide : 2 + 1 ≤ _), (by decide : 10 + 8 ≤ _)⟩)
                dsimp only [Pt.U, Pt.locs, Pt.cells, Pt.slots] at X60 l60 y60 z60 st60 hQ60
                subst l60 y60 z60
                obtain ⟨rfl, N60q, Kc60, bb60, kk60, hs60⟩ := hQ60
                have N60 := Fr.app N59 N60q
                have hzt := hzt.keep Kc60 (allS g_b1 all0)
                have V_a2 := V_a2.keep Kc60 (ninS ne_a2_b1 nin0)
                have E_b1 := E_b1.keep Kc60
                have C_ar := C_ar.keep Kc60 (ninS (Ne.symm ne_b1_ar) nin0)
                have Z60 : n0 ≤ T60.heap.size := Nat.le_trans Z59 Kc60.1
                have K60 := K59.trans Kc60 (allS (Or.inr sz_b1) all0)
                refine OEndsW.go (t' := T60.setTop (mkF m 238 #[.val (.int p1), .val (.ref a2)] [(.ref b1)])) (fun _ k => st60.trans k) ?_
                refine OEndsW.back (vm₁ := s.vm) X60 hS0 (Nat.zero_le _) hlk (v := (some (.ref b1))) (fun h => by rw [hrt] at h; cases h) (fun fs hr => ?_) ?_ (by decide) (by decide)
                · exact retA X60 hx hrt rfl rfl rfl (hb hby d9_238) hr
                · show Q9 Z p1 a2 w1 h0 n0 _ T60.heap T60.vm _
                  exact ⟨_, _, _, _, rfl, N60, K60, hs60, (hpv.keep0 K60).stays X60.warmed⟩
              · refine OEndsW.go (t' := s₁.setTop (mkF m 239 #[.val (.int p1), .val (.ref a2)] [])) (fun _ k => XS.icmpYes X0.here hx rfl (pc0 := 188) (pc' := 239) rfl (hb hby d9_188) rfl (feq q6).2 (by decide) (by decide) k) ?_
                refine OEndsW.go (t' := s₁.setTop (mkF m 242 #[.val (.int p1), .val (.ref a2)] [(.int (7 : Int32)), (.int p1)])) (fun _ k => ?_) ?_
                · show Steps p.tables e below (s₁.setTop (mkF m 239 #[.val (.int p1), .val (.ref a2)] [])) _
                  refine XS.iloadN X0.here hx rfl (hb hby d9_239) rfl ?_
                  show Steps p.tables e below (s₁.setTop (mkF m 240 #[.val (.int p1), .val (.ref a2)] [(.int p1)])) _
                  refine XS.bipush X0.here hx rfl (hb hby d9_240) ?_
                  show Steps p.tables e below (s₁.setTop (mkF m 242 #[.val (.int p1), .val (.ref a2)] [(.int (7 : Int32)), (.int p1)])) _
                  exact k
                by_cases q7 : p1 = (7 : Int32)
                · refine OEndsW.go (t' := s₁.setTop (mkF m 245 #[.val (.int p1), .val (.ref a2)] [])) (fun _ k => XS.icmpNo X0.here hx rfl (hb hby d9_242) rfl (teq q7).2 k) ?_
                  obtain ⟨T61, h61, X61, e61, E61, A61, D61, -, st61⟩ := newO X0 hx hZ hown (hw _ (List.mem_of_getElem? (i := 51) rfl)) (hw _ (List.mem_of_getElem? (i := 2) rfl)) (hw _ (List.mem_of_getElem? (i := 1) rfl)) e0 (g := (mkF m 245 #[.val (.int p1), .val (.ref a2)] [])) rfl (hb hby d9_245) (by decide) (by decide)
                  obtain ⟨b1, gz61⟩ : ∃ z, z = h0.size := ⟨_, rfl⟩
                  rw [← gz61] at A61 D61 st61
                  have ne_a2_b1 : a2 ≠ b1 := Nat.ne_of_lt (Nat.lt_of_lt_of_le V_a2.lt (Nat.le_of_eq gz61.symm))
                  have g_b1 : n0 ≤ b1 := Nat.le_trans Z0 (Nat.le_of_eq gz61.symm)
                  have sz_b1 : h0.size ≤ b1 := Nat.le_trans (Keep.refl h0 []).1 (Nat.le_of_eq gz61.symm)
                  have hzt := hzt.ext E61
                  have V_a2 := V_a2.ext E61
                  have Z61 : n0 ≤ h61.size := Nat.le_trans Z0 E61.1
                  have K61 := (Keep.refl h0 []).ext E61
                  have E_b1 := A61
                  have F_value_b1 : Fld Z h61 b1 "java/lang/String" "value" "[B" .null := D61 (Or.inr (hw _ (List.mem_of_getElem? (i := 4) rfl))) (ty := (.array .byte)) (by decide)
                  have F_coder_b1 : Fld Z h61 b1 "java/lang/String" "coder" "B" (.int (0 : Int32)) := D61 (Or.inr (hw _ (List.mem_of_getElem? (i := 5) rfl))) (ty := .byte) (by decide)
                  refine OEndsW.go (t' := T61.setTop (mkF m 248 #[.val (.int p1), .val (.ref a2)] [(.ref b1)])) (fun _ k => st61 _ k) ?_
                  refine OEndsW.go (t' := T61.setTop (mkF m 251 #[.val (.int p1), .val (.ref a2)] [(.int (7 : Int32)), (.ref b1), (.ref b1)])) (fun _ k => ?_) ?_
                  · show Steps p.tables e below (T61.setTop (mkF m 248 #[.val (.int p1), .val (.ref a2)] [(.ref b1)])) _
                    refine XS.dup X61.here hx rfl (hb hby d9_248) rfl rfl ?_
                    show Steps p.tables e below (T61.setTop (mkF m 249 #[.val (.int p1), .val (.ref a2)] [(.ref b1), (.ref b1)])) _
                    refine XS.bipush X61.here hx rfl (hb hby d9_249) ?_
                    show Steps p.tables e below (T61.setTop (mkF m 251 #[.val (.int p1), .val (.ref a2)] [(.int (7 : Int32)), (.ref b1), (.ref b1)])) _
                    exact k
                  obtain ⟨T62, h62, ka62, X62, e62, E62, A62, st62⟩ := newP X61 hx hZ (hw _ (List.mem_of_getElem? (i := 21) rfl)) e61 (g := (mkF m 251 #[.val (.int p1), .val (.ref a2)] [(.int (7 : Int32)), (.ref b1), (.ref b1)])) rfl (hb hby d9_251) rfl (by decide) (cap := 7) (by decide) (by decide) (by decide) (by decide)
                  obtain ⟨ar, gz62⟩ : ∃ z, z = h61.size := ⟨_, rfl⟩
                  rw [← gz62] at A62 st62
                  have ne_a2_ar : a2 ≠ ar := Nat.ne_of_lt (Nat.lt_of_lt_of_le V_a2.lt (Nat.le_of_eq gz62.symm))
                  have ne_b1_ar : b1 ≠ ar := Nat.ne_of_lt (Nat.lt_of_lt_of_le E_b1.lt (Nat.le_of_eq gz62.symm))
                  have g_ar : n0 ≤ ar := Nat.le_trans Z61 (Nat.le_of_eq gz62.symm)
                  have sz_ar : h0.size ≤ ar := Nat.le_trans K61.1 (Nat.le_of_eq gz62.symm)
                  have hzt := hzt.ext E62
                  have V_a2 := V_a2.ext E62
                  have E_b1 := E_b1.ext E62
                  have F_value_b1 := F_value_b1.ext E62
                  have F_coder_b1 := F_coder_b1.ext E62
                  have Z62 : n0 ≤ h62.size := Nat.le_trans Z61 E62.1
                  have K62 := K61.ext E62
                  have V_ar : Arv Z h62 ar ka62 .char (7 : Int32) [(.int (0 : Int32)), (.int (0 : Int32)), (.int (0 : Int32)), (.int (0 : Int32)), (.int (0 : Int32)), (.int (0 : Int32)), (.int (0 : Int32))] (.int (0 : Int32)) := (Arv.new A62 (by decide)).pad (pad_rep [] (.int (0 : Int32)) 7)
                  refine OEndsW.go (t' := T62.setTop (mkF m 253 #[.val (.int p1), .val (.ref a2)] [(.ref ar), (.ref b1), (.ref b1)])) (fun _ k => st62 _ k) ?_
                  refine OEndsW.go (t' := T62.setTop (mkF m 257 #[.val (.int p1), .val (.ref a2)] [(.int (0 : Int32)), (.ref a2), (.int (0 : Int32)), (.ref ar), (.ref ar), (.ref b1), (.ref b1)])) (fun _ k => ?_) ?_
                  · show Steps p.tables e below (T62.setTop (mkF m 253 #[.val (.int p1), .val (.ref a2)] [(.ref ar), (.ref b1), (.ref b1)])) _
                    refine XS.dup X62.here hx rfl (hb hby d9_253) rfl rfl ?_
                    show Steps p.tables e below (T62.setTop (mkF m 254 #[.val (.int p1), .val (.ref a2)] [(.ref ar), (.ref ar), (.ref b1), (.ref b1)])) _
                    refine XS.iconst X62.here hx rfl (hb hby d9_254) ?_
                    show Steps p.tables e below (T62.setTop (mkF m 255 #[.val (.int p1), .val (.ref a2)] [(.int (0 : Int32)), (.ref ar), (.ref ar), (.ref b1), (.ref b1)])) _
                    refine XS.aloadN X62.here hx rfl (hb hby d9_255) rfl rfl ?_
                    show Steps p.tables e below (T62.setTop (mkF m 256 #[.val (.int p1), .val (.ref a2)] [(.ref a2), (.int (0 : Int32)), (.ref ar), (.ref ar), (.ref b1), (.ref b1)])) _
                    refine XS.iconst X62.here hx rfl (hb hby d9_256) ?_
                    show Steps p.tables e below (T62.setTop (mkF m 257 #[.val (.int p1), .val (.ref a2)] [(.int (0 : Int32)), (.ref a2), (.int (0 : Int32)), (.ref ar), (.ref ar), (.ref b1), (.ref b1)])) _
                    exact k
                  obtain ⟨z0, hz0, hy0⟩ := V_a2.rd (j := 0) ⟨by decide, by decide⟩
                  obtain ⟨cl63, Ar63, hin63, hat63⟩ := hy0
                  refine OEndsW.go (t' := T62.setTop (mkF m 258 #[.val (.int p1), .val (.ref a2)] [(.int z0), (.int (0 : Int32)), (.ref ar), (.ref ar), (.ref b1), (.ref b1)])) (fun _ k => X62.caload hx (j := (0 : Int32)) (v := (.int z0)) (by rw [e62]; exact Ar63.1) (State.isArrayOf_alike hZ.alike Ar63.2.1) Ar63.2.2 hin63 hat63 (g := (mkF m 257 #[.val (.int p1), .val (.ref a2)] [(.int (0 : Int32)), (.ref a2), (.int (0 : Int32)), (.ref ar), (.ref ar), (.ref b1), (.ref b1)])) rfl rfl (hb hby d9_257) _ k) ?_
                  obtain ⟨cl64, Ar64, cq64, cS64, cN64, cH64, cG64⟩ := V_ar
                  have hin64 : ¬ ((0 : Int32) < 0 ∨ cl64.slots.size ≤ ((0 : Int32)).toNatClampNeg) := inb_of cS64 ⟨by decide, by decide⟩
                  obtain ⟨T64, h64, X64, e64, W64, st64⟩ := stC X62 hx hZ e62 Ar64 (j := (0 : Int32)) hin64 (g := (mkF m 258 #[.val (.int p1), .val (.ref a2)] [(.int z0), (.int (0 : Int32)), (.ref ar), (.ref ar), (.ref b1), (.ref b1)])) rfl rfl (hb hby d9_258)
                  have N64 := Fr.snoc X64 N0 g_ar
                  have hzt := hzt.wr W64 g_ar
                  have V_a2 := V_a2.other W64 ne_a2_ar
                  have E_b1 := E_b1.wr W64
                  have F_value_b1 := F_value_b1.other W64 (Or.inl ne_b1_ar)
                  have F_coder_b1 := F_coder_b1.other W64 (Or.inl ne_b1_ar)
                  have Z64 : n0 ≤ h64.size := Nat.le_trans Z62 (Keep.of_wr W64).1
                  have K64 := K62.wr W64 (Or.inr sz_ar)
                  have V_ar := Arv.set Ar64 cq64 cS64 cN64 cH64 cG64 (fits_nar_char _) W64 0 rfl (Nat.le_of_ble_eq_true rfl)
                  refine OEndsW.go (t' := T64.setTop (mkF m 259 #[.val (.int p1), .val (.ref a2)] [(.ref ar), (.ref b1), (.ref b1)])) (fun _ k => st64 _ k) ?_
                  refine OEndsW.go (t' := T64.setTop (mkF m 263 #[.val (.int p1), .val (.ref a2)] [(.int (1 : Int32)), (.ref a2), (.int (1 : Int32)), (.ref ar), (.ref ar), (.ref b1), (.ref b1)])) (fun _ k => ?_) ?_
                  · show Steps p.tables e below (T64.setTop (mkF m 259 #[.val (.int p1), .val (.ref a2)] [(.ref ar), (.ref b1), (.ref b1)])) _
                    refine XS.dup X64.here hx rfl (hb hby d9_259) rfl rfl ?_
                    show Steps p.tables e below (T64.setTop (mkF m 260 #[.val (.int p1), .val (.ref a2)] [(.ref ar), (.ref ar), (.ref b1), (.ref b1)])) _
                    refine XS.iconst X64.here hx rfl (hb hby d9_260) ?_
                    show Steps p.tables e below (T64.setTop (mkF m 261 #[.val (.int p1), .val (.ref a2)] [(.int (1 : Int32)), (.ref ar), (.ref ar), (.ref b1), (.ref b1)])) _
                    refine XS.aloadN X64.here hx rfl (hb hby d9_261) rfl rfl ?_
                    show Steps p.tables e below (T64.setTop (mkF m 262 #[.val (.int p1), .val (.ref a2)] [(.ref a2), (.int (1 : Int32)), (.ref ar), (.ref ar), (.ref b1), (.ref b1)])) _
                    refine XS.iconst X64.here hx rfl (hb hby d9_262) ?_
                    show Steps p.tables e below (T64.setTop (mkF m 263 #[.val (.int p1), .val (.ref a2)] [(.int (1 : Int32)), (.ref a2), (.int (1 : Int32)), (.ref ar), (.ref ar), (.ref b1), (.ref b1)])) _
                    exact k
                  obtain ⟨z1, hz1, hy1⟩ := V_a2.rd (j := 1) ⟨by decide, by decide⟩
                  obtain ⟨cl65, Ar65, hin65, hat65⟩ := hy1
                  refine OEndsW.go (t' := T64.setTop (mkF m 264 #[.val (.int p1), .val (.ref a2)] [(.int z1), (.int (1 : Int32)), (.ref ar), (.ref ar), (.ref b1), (.ref b1)])) (fun _ k => X64.caload hx (j := (1 : Int32)) (v := (.int z1)) (by rw [e64]; exact Ar65.1) (State.isArrayOf_alike hZ.alike Ar65.2.1) Ar65.2.2 hin65 hat65 (g := (mkF m 263 #[.val (.int p1), .val (.ref a2)] [(.int (1 : Int32)), (.ref a2), (.int (1 : Int32)), (.ref ar), (.ref ar), (.ref b1), (.ref b1)])) rfl rfl (hb hby d9_263) _ k) ?_
                  obtain ⟨cl66, Ar66, cq66, cS66, cN66, cH66, cG66⟩ := V_ar
                  have hin66 : ¬ ((1 : Int32) < 0 ∨ cl66.slots.size ≤ ((1 : Int32)).toNatClampNeg) := inb_of cS66 ⟨by decide, by decide⟩
                  obtain ⟨T66, h66, X66, e66, W66, st66⟩ := stC X64 hx hZ e64 Ar66 (j := (1 : Int32)) hin66 (g := (mkF m 264 #[.val (.int p1), .val (.ref a2)] [(.int z1), (.int (1 : Int32)), (.ref ar), (.ref ar), (.ref b1), (.ref b1)])) rfl rfl (hb hby d9_264)
                  have N66 := Fr.snoc X66 N64 g_ar
                  have hzt := hzt.wr W66 g_ar
                  have V_a2 := V_a2.other W66 ne_a2_ar
                  have E_b1 := E_b1.wr W66
                  have F_value_b1 := F_value_b1.other W66 (Or.inl ne_b1_ar)
                  have F_coder_b1 := F_coder_b1.other W66 (Or.inl ne_b1_ar)
                  have Z66 : n0 ≤ h66.size := Nat.le_trans Z64 (Keep.of_wr W66).1
                  have K66 := K64.wr W66 (Or.inr sz_ar)
                  have V_ar := Arv.set Ar66 cq66 cS66 cN66 cH66 cG66 (fits_nar_char _) W66 1 rfl (Nat.le_of_ble_eq_true rfl)
                  refine OEndsW.go (t' := T66.setTop (mkF m 265 #[.val (.int p1), .val (.ref a2)] [(.ref ar), (.ref b1), (.ref b1)])) (fun _ k => st66 _ k) ?_
                  refine OEndsW.go (t' := T66.setTop (mkF m 269 #[.val (.int p1), .val (.ref a2)] [(.int (2 : Int32)), (.ref a2), (.int (2 : Int32)), (.ref ar), (.ref ar), (.ref b1), (.ref b1)])) (fun _ k => ?_) ?_
                  · show Steps p.tables e below (T66.setTop (mkF m 265 #[.val (.int p1), .val (.ref a2)] [(.ref ar), (.ref b1), (.ref b1)])) _
                    refine XS.dup X66.here hx rfl (hb hby d9_265) rfl rfl ?_
                    show Steps p.tables e below (T66.setTop (mkF m 266 #[.val (.int p1), .val (.ref a2)] [(.ref ar), (.ref ar), (.ref b1), (.ref b1)])) _
                    refine XS.iconst X66.here hx rfl (hb hby d9_266) ?_
                    show Steps p.tables e below (T66.setTop (mkF m 267 #[.val (.int p1), .val (.ref a2)] [(.int (2 : Int32)), (.ref ar), (.ref ar), (.ref b1), (.ref b1)])) _
                    refine XS.aloadN X66.here hx rfl (hb hby d9_267) rfl rfl ?_
                    show Steps p.tables e below (T66.setTop (mkF m 268 #[.val (.int p1), .val (.ref a2)] [(.ref a2), (.int (2 : Int32)), (.ref ar), (.ref ar), (.ref b1), (.ref b1)])) _
                    refine XS.iconst X66.here hx rfl (hb hby d9_268) ?_
                    show Steps p.tables e below (T66.setTop (mkF m 269 #[.val (.int p1), .val (.ref a2)] [(.int (2 : Int32)), (.ref a2), (.int (2 : Int32)), (.ref ar), (.ref ar), (.ref b1), (.ref b1)])) _
                    exact k
                  obtain ⟨z2, hz2, hy2⟩ := V_a2.rd (j := 2) ⟨by decide, by decide⟩
                  obtain ⟨cl67, Ar67, hin67, hat67⟩ := hy2
                  refine OEndsW.go (t' := T66.setTop (mkF m 270 #[.val (.int p1), .val (.ref a2)] [(.int z2), (.int (2 : Int32)), (.ref ar), (.ref ar), (.ref b1), (.ref b1)])) (fun _ k => X66.caload hx (j := (2 : Int32)) (v := (.int z2)) (by rw [e66]; exact Ar67.1) (State.isArrayOf_alike hZ.alike Ar67.2.1) Ar67.2.2 hin67 hat67 (g := (mkF m 269 #[.val (.int p1), .val (.ref a2)] [(.int (2 : Int32)), (.ref a2), (.int (2 : Int32)), (.ref ar), (.ref ar), (.ref b1), (.ref b1)])) rfl rfl (hb hby d9_269) _ k) ?_
                  obtain ⟨cl68, Ar68, cq68, cS68, cN68, cH68, cG68⟩ := V_ar
                  have hin68 : ¬ ((2 : Int32) < 0 ∨ cl68.slots.size ≤ ((2 : Int32)).toNatClampNeg) := inb_of cS68 ⟨by decide, by decide⟩
                  obtain ⟨T68, h68, X68, e68, W68, st68⟩ := stC X66 hx hZ e66 Ar68 (j := (2 : Int32)) hin68 (g := (mkF m 270 #[.val (.int p1), .val (.ref a2)] [(.int z2), (.int (2 : Int32)), (.ref ar), (.ref ar), (.ref b1), (.ref b1)])) rfl rfl (hb hby d9_270)
                  have N68 := Fr.snoc X68 N66 g_ar
                  have hzt := hzt.wr W68 g_ar
                  have V_a2 := V_a2.other W68 ne_a2_ar
                  have E_b1 := E_b1.wr W68
                  have F_value_b1 := F_value_b1.other W68 (Or.inl ne_b1_ar)
                  have F_coder_b1 := F_coder_b1.other W68 (Or.inl ne_b1_ar)
                  have Z68 : n0 ≤ h68.size := Nat.le_trans Z66 (Keep.of_wr W68).1
                  have K68 := K66.wr W68 (Or.inr sz_ar)
                  have V_ar := Arv.set Ar68 cq68 cS68 cN68 cH68 cG68 (fits_nar_char _) W68 2 rfl (Nat.le_of_ble_eq_true rfl)
                  refine OEndsW.go (t' := T68.setTop (mkF m 271 #[.val (.int p1), .val (.ref a2)] [(.ref ar), (.ref b1), (.ref b1)])) (fun _ k => st68 _ k) ?_
                  refine OEndsW.go (t' := T68.setTop (mkF m 275 #[.val (.int p1), .val (.ref a2)] [(.int (3 : Int32)), (.ref a2), (.int (3 : Int32)), (.ref ar), (.ref ar), (.ref b1), (.ref b1)])) (fun _ k => ?_) ?_
                  · show Steps p.tables e below (T68.setTop (mkF m 271 #[.val (.int p1), .val (.ref a2)] [(.ref ar), (.ref b1), (.ref b1)])) _
                    refine XS.dup X68.here hx rfl (hb hby d9_271) rfl rfl ?_
                    show Steps p.tables e below (T68.setTop (mkF m 272 #[.val (.int p1), .val (.ref a2)] [(.ref ar), (.ref ar), (.ref b1), (.ref b1)])) _
                    refine XS.iconst X68.here hx rfl (hb hby d9_272) ?_
                    show Steps p.tables e below (T68.setTop (mkF m 273 #[.val (.int p1), .val (.ref a2)] [(.int (3 : Int32)), (.ref ar), (.ref ar), (.ref b1), (.ref b1)])) _
                    refine XS.aloadN X68.here hx rfl (hb hby d9_273) rfl rfl ?_
                    show Steps p.tables e below (T68.setTop (mkF m 274 #[.val (.int p1), .val (.ref a2)] [(.ref a2), (.int (3 : Int32)), (.ref ar), (.ref ar), (.ref b1), (.ref b1)])) _
                    refine XS.iconst X68.here hx rfl (hb hby d9_274) ?_
                    show Steps p.tables e below (T68.setTop (mkF m 275 #[.val (.int p1), .val (.ref a2)] [(.int (3 : Int32)), (.ref a2), (.int (3 : Int32)), (.ref ar), (.ref ar), (.ref b1), (.ref b1)])) _
                    exact k
                  obtain ⟨z3, hz3, hy3⟩ := V_a2.rd (j := 3) ⟨by decide, by decide⟩
                  obtain ⟨cl69, Ar69, hin69, hat69⟩ := hy3
                  refine OEndsW.go (t' := T68.setTop (mkF m 276 #[.val (.int p1), .val (.ref a2)] [(.int z3), (.int (3 : Int32)), (.ref ar), (.ref ar), (.ref b1), (.ref b1)])) (fun _ k => X68.caload hx (j := (3 : Int32)) (v := (.int z3)) (by rw [e68]; exact Ar69.1) (State.isArrayOf_alike hZ.alike Ar69.2.1) Ar69.2.2 hin69 hat69 (g := (mkF m 275 #[.val (.int p1), .val (.ref a2)] [(.int (3 : Int32)), (.ref a2), (.int (3 : Int32)), (.ref ar), (.ref ar), (.ref b1), (.ref b1)])) rfl rfl (hb hby d9_275) _ k) ?_
                  obtain ⟨cl70, Ar70, cq70, cS70, cN70, cH70, cG70⟩ := V_ar
                  have hin70 : ¬ ((3 : Int32) < 0 ∨ cl70.slots.size ≤ ((3 : Int32)).toNatClampNeg) := inb_of cS70 ⟨by decide, by decide⟩
                  obtain ⟨T70, h70, X70, e70, W70, st70⟩ := stC X68 hx hZ e68 Ar70 (j := (3 : Int32)) hin70 (g := (mkF m 276 #[.val (.int p1), .val (.ref a2)] [(.int z3), (.int (3 : Int32)), (.ref ar), (.ref ar), (.ref b1), (.ref b1)])) rfl rfl (hb hby d9_276)
                  have N70 := Fr.snoc X70 N68 g_ar
                  have hzt := hzt.wr W70 g_ar
                  have V_a2 := V_a2.other W70 ne_a2_ar
                  have E_b1 := E_b1.wr W70
                  have F_value_b1 := F_value_b1.other W70 (Or.inl ne_b1_ar)
                  have F_coder_b1 := F_coder_b1.other W70 (Or.inl ne_b1_ar)
                  have Z70 : n0 ≤ h70.size := Nat.le_trans Z68 (Keep.of_wr W70).1
                  have K70 := K68.wr W70 (Or.inr sz_ar)
                  have V_ar := Arv.set Ar70 cq70 cS70 cN70 cH70 cG70 (fits_nar_char _) W70 3 rfl (Nat.le_of_ble_eq_true rfl)
                  refine OEndsW.go (t' := T70.setTop (mkF m 277 #[.val (.int p1), .val (.ref a2)] [(.ref ar), (.ref b1), (.ref b1)])) (fun _ k => st70 _ k) ?_
                  refine OEndsW.go (t' := T70.setTop (mkF m 281 #[.val (.int p1), .val (.ref a2)] [(.int (4 : Int32)), (.ref a2), (.int (4 : Int32)), (.ref ar), (.ref ar), (.ref b1), (.ref b1)])) (fun _ k => ?_) ?_
                  · show Steps p.tables e below (T70.setTop (mkF m 277 #[.val (.int p1), .val (.ref a2)] [(.ref ar), (.ref b1), (.ref b1)])) _
                    refine XS.dup X70.here hx rfl (hb hby d9_277) rfl rfl ?_
                    show Steps p.tables e below (T70.setTop (mkF m 278 #[.val (.int p1), .val (.ref a2)] [(.ref ar), (.ref ar), (.ref b1), (.ref b1)])) _
                    refine XS.iconst X70.here hx rfl (hb hby d9_278) ?_
                    show Steps p.tables e below (T70.setTop (mkF m 279 #[.val (.int p1), .val (.ref a2)] [(.int (4 : Int32)), (.ref ar), (.ref ar), (.ref b1), (.ref b1)])) _
                    refine XS.aloadN X70.here hx rfl (hb hby d9_279) rfl rfl ?_
                    show Steps p.tables e below (T70.setTop (mkF m 280 #[.val (.int p1), .val (.ref a2)] [(.ref a2), (.int (4 : Int32)), (.ref ar), (.ref ar), (.ref b1), (.ref b1)])) _
                    refine XS.iconst X70.here hx rfl (hb hby d9_280) ?_
                    show Steps p.tables e below (T70.setTop (mkF m 281 #[.val (.int p1), .val (.ref a2)] [(.int (4 : Int32)), (.ref a2), (.int (4 : Int32)), (.ref ar), (.ref ar), (.ref b1), (.ref b1)])) _
                    exact k
                  obtain ⟨z4, hz4, hy4⟩ := V_a2.rd (j := 4) ⟨by decide, by decide⟩
                  obtain ⟨cl71, Ar71, hin71, hat71⟩ := hy4
                  refine OEndsW.go (t' := T70.setTop (mkF m 282 #[.val (.int p1), .val (.ref a2)] [(.int z4), (.int (4 : Int32)), (.ref ar), (.ref ar), (.ref b1), (.ref b1)])) (fun _ k => X70.caload hx (j := (4 : Int32)) (v := (.int z4)) (by rw [e70]; exact Ar71.1) (State.isArrayOf_alike hZ.alike Ar71.2.1) Ar71.2.2 hin71 hat71 (g := (mkF m 281 #[.val (.int p1), .val (.ref a2)] [(.int (4 : Int32)), (.ref a2), (.int (4 : Int32)), (.ref ar), (.ref ar), (.ref b1), (.ref b1)])) rfl rfl (hb hby d9_281) _ k) ?_
                  obtain ⟨cl72, Ar72, cq72, cS72, cN72, cH72, cG72⟩ := V_ar
                  have hin72 : ¬ ((4 : Int32) < 0 ∨ cl72.slots.size ≤ ((4 : Int32)).toNatClampNeg) := inb_of cS72 ⟨by decide, by decide⟩
                  obtain ⟨T72, h72, X72, e72, W72, st72⟩ := stC X70 hx hZ e70 Ar72 (j := (4 : Int32)) hin72 (g := (mkF m 282 #[.val (.int p1), .val (.ref a2)] [(.int z4), (.int (4 : Int32)), (.ref ar), (.ref ar), (.ref b1), (.ref b1)])) rfl rfl (hb hby d9_282)
                  have N72 := Fr.snoc X72 N70 g_ar
                  have hzt := hzt.wr W72 g_ar
                  have V_a2 := V_a2.other W72 ne_a2_ar
                  have E_b1 := E_b1.wr W72
                  have F_value_b1 := F_value_b1.other W72 (Or.inl ne_b1_ar)
                  have F_coder_b1 := F_coder_b1.other W72 (Or.inl ne_b1_ar)
                  have Z72 : n0 ≤ h72.size := Nat.le_trans Z70 (Keep.of_wr W72).1
                  have K72 := K70.wr W72 (Or.inr sz_ar)
                  have V_ar := Arv.set Ar72 cq72 cS72 cN72 cH72 cG72 (fits_nar_char _) W72 4 rfl (Nat.le_of_ble_eq_true rfl)
                  refine OEndsW.go (t' := T72.setTop (mkF m 283 #[.val (.int p1), .val (.ref a2)] [(.ref ar), (.ref b1), (.ref b1)])) (fun _ k => st72 _ k) ?_
                  refine OEndsW.go (t' := T72.setTop (mkF m 287 #[.val (.int p1), .val (.ref a2)] [(.int (5 : Int32)), (.ref a2), (.int (5 : Int32)), (.ref ar), (.ref ar), (.ref b1), (.ref b1)])) (fun _ k => ?_) ?_
                  · show Steps p.tables e below (T72.setTop (mkF m 283 #[.val (.int p1), .val (.ref a2)] [(.ref ar), (.ref b1), (.ref b1)])) _
                    refine XS.dup X72.here hx rfl (hb hby d9_283) rfl rfl ?_
                    show Steps p.tables e below (T72.setTop (mkF m 284 #[.val (.int p1), .val (.ref a2)] [(.ref ar), (.ref ar), (.ref b1), (.ref b1)])) _
                    refine XS.iconst X72.here hx rfl (hb hby d9_284) ?_
                    show Steps p.tables e below (T72.setTop (mkF m 285 #[.val (.int p1), .val (.ref a2)] [(.int (5 : Int32)), (.ref ar), (.ref ar), (.ref b1), (.ref b1)])) _
                    refine XS.aloadN X72.here hx rfl (hb hby d9_285) rfl rfl ?_
                    show Steps p.tables e below (T72.setTop (mkF m 286 #[.val (.int p1), .val (.ref a2)] [(.ref a2), (.int (5 : Int32)), (.ref ar), (.ref ar), (.ref b1), (.ref b1)])) _
                    refine XS.iconst X72.here hx rfl (hb hby d9_286) ?_
                    show Steps p.tables e below (T72.setTop (mkF m 287 #[.val (.int p1), .val (.ref a2)] [(.int (5 : Int32)), (.ref a2), (.int (5 : Int32)), (.ref ar), (.ref ar), (.ref b1), (.ref b1)])) _
                    exact k
                  obtain ⟨z5, hz5, hy5⟩ := V_a2.rd (j := 5) ⟨by decide, by decide⟩
                  obtain ⟨cl73, Ar73, hin73, hat73⟩ := hy5
                  refine OEndsW.go (t' := T72.setTop (mkF m 288 #[.val (.int p1), .val (.ref a2)] [(.int z5), (.int (5 : Int32)), (.ref ar), (.ref ar), (.ref b1), (.ref b1)])) (fun _ k => X72.caload hx (j := (5 : Int32)) (v := (.int z5)) (by rw [e72]; exact Ar73.1) (State.isArrayOf_alike hZ.alike Ar73.2.1) Ar73.2.2 hin73 hat73 (g := (mkF m 287 #[.val (.int p1), .val (.ref a2)] [(.int (5 : Int32)), (.ref a2), (.int (5 : Int32)), (.ref ar), (.ref ar), (.ref b1), (.ref b1)])) rfl rfl (hb hby d9_287) _ k) ?_
                  obtain ⟨cl74, Ar74, cq74, cS74, cN74, cH74, cG74⟩ := V_ar
                  have hin74 : ¬ ((5 : Int32) < 0 ∨ cl74.slots.size ≤ ((5 : Int32)).toNatClampNeg) := inb_of cS74 ⟨by decide, by decide⟩
                  obtain ⟨T74, h74, X74, e74, W74, st74⟩ := stC X72 hx hZ e72 Ar74 (j := (5 : Int32)) hin74 (g := (mkF m 288 #[.val (.int p1), .val (.ref a2)] [(.int z5), (.int (5 : Int32)), (.ref ar), (.ref ar), (.ref b1), (.ref b1)])) rfl rfl (hb hby d9_288)
                  have N74 := Fr.snoc X74 N72 g_ar
                  have hzt := hzt.wr W74 g_ar
                  have V_a2 := V_a2.other W74 ne_a2_ar
                  have E_b1 := E_b1.wr W74
                  have F_value_b1 := F_value_b1.other W74 (Or.inl ne_b1_ar)
                  have F_coder_b1 := F_coder_b1.other W74 (Or.inl ne_b1_ar)
                  have Z74 : n0 ≤ h74.size := Nat.le_trans Z72 (Keep.of_wr W74).1
                  have K74 := K72.wr W74 (Or.inr sz_ar)
                  have V_ar := Arv.set Ar74 cq74 cS74 cN74 cH74 cG74 (fits_nar_char _) W74 5 rfl (Nat.le_of_ble_eq_true rfl)
                  refine OEndsW.go (t' := T74.setTop (mkF m 289 #[.val (.int p1), .val (.ref a2)] [(.ref ar), (.ref b1), (.ref b1)])) (fun _ k => st74 _ k) ?_
                  refine OEndsW.go (t' := T74.setTop (mkF m 295 #[.val (.int p1), .val (.ref a2)] [(.int (6 : Int32)), (.ref a2), (.int (6 : Int32)), (.ref ar), (.ref ar), (.ref b1), (.ref b1)])) (fun _ k => ?_) ?_
                  · show Steps p.tables e below (T74.setTop (mkF m 289 #[.val (.int p1), .val (.ref a2)] [(.ref ar), (.ref b1), (.ref b1)])) _
                    refine XS.dup X74.here hx rfl (hb hby d9_289) rfl rfl ?_
                    show Steps p.tables e below (T74.setTop (mkF m 290 #[.val (.int p1), .val (.ref a2)] [(.ref ar), (.ref ar), (.ref b1), (.ref b1)])) _
                    refine XS.bipush X74.here hx rfl (hb hby d9_290) ?_
                    show Steps p.tables e below (T74.setTop (mkF m 292 #[.val (.int p1), .val (.ref a2)] [(.int (6 : Int32)), (.ref ar), (.ref ar), (.ref b1), (.ref b1)])) _
                    refine XS.aloadN X74.here hx rfl (hb hby d9_292) rfl rfl ?_
                    show Steps p.tables e below (T74.setTop (mkF m 293 #[.val (.int p1), .val (.ref a2)] [(.ref a2), (.int (6 : Int32)), (.ref ar), (.ref ar), (.ref b1), (.ref b1)])) _
                    refine XS.bipush X74.here hx rfl (hb hby d9_293) ?_
                    show Steps p.tables e below (T74.setTop (mkF m 295 #[.val (.int p1), .val (.ref a2)] [(.int (6 : Int32)), (.ref a2), (.int (6 : Int32)), (.ref ar), (.ref ar), (.ref b1), (.ref b1)])) _
                    exact k
                  obtain ⟨z6, hz6, hy6⟩ := V_a2.rd (j := 6) ⟨by decide, by decide⟩
                  obtain ⟨cl75, Ar75, hin75, hat75⟩ := hy6
                  refine OEndsW.go (t' := T74.setTop (mkF m 296 #[.val (.int p1), .val (.ref a2)] [(.int z6), (.int (6 : Int32)), (.ref ar), (.ref ar), (.ref b1), (.ref b1)])) (fun _ k => X74.caload hx (j := (6 : Int32)) (v := (.int z6)) (by rw [e74]; exact Ar75.1) (State.isArrayOf_alike hZ.alike Ar75.2.1) Ar75.2.2 hin75 hat75 (g := (mkF m 295 #[.val (.int p1), .val (.ref a2)] [(.int (6 : Int32)), (.ref a2), (.int (6 : Int32)), (.ref ar), (.ref ar), (.ref b1), (.ref b1)])) rfl rfl (hb hby d9_295) _ k) ?_
                  obtain ⟨cl76, Ar76, cq76, cS76, cN76, cH76, cG76⟩ := V_ar
                  have hin76 : ¬ ((6 : Int32) < 0 ∨ cl76.slots.size ≤ ((6 : Int32)).toNatClampNeg) := inb_of cS76 ⟨by decide, by decide⟩
                  obtain ⟨T76, h76, X76, e76, W76, st76⟩ := stC X74 hx hZ e74 Ar76 (j := (6 : Int32)) hin76 (g := (mkF m 296 #[.val (.int p1), .val (.ref a2)] [(.int z6), (.int (6 : Int32)), (.ref ar), (.ref ar), (.ref b1), (.ref b1)])) rfl rfl (hb hby d9_296)
                  have N76 := Fr.snoc X76 N74 g_ar
                  have hzt := hzt.wr W76 g_ar
                  have V_a2 := V_a2.other W76 ne_a2_ar
                  have E_b1 := E_b1.wr W76
                  have F_value_b1 := F_value_b1.other W76 (Or.inl ne_b1_ar)
                  have F_coder_b1 := F_coder_b1.other W76 (Or.inl ne_b1_ar)
                  have Z76 : n0 ≤ h76.size := Nat.le_trans Z74 (Keep.of_wr W76).1
                  have K76 := K74.wr W76 (Or.inr sz_ar)
                  have V_ar := Arv.set Ar76 cq76 cS76 cN76 cH76 cG76 (fits_nar_char _) W76 6 rfl (Nat.le_of_ble_eq_true rfl)
                  refine OEndsW.go (t' := T76.setTop (mkF m 297 #[.val (.int p1), .val (.ref a2)] [(.ref ar), (.ref b1), (.ref b1)])) (fun _ k => st76 _ k) ?_
                  have C_ar : own_Ch Z h76 ar ka62 [z0, z1, z2, z3, z4, z5, z6] := by
                    refine ⟨?_, Nat.le_of_ble_eq_true rfl, ?_⟩
                    · have q := V_ar
                      rw [own_nar hz0, own_nar hz1, own_nar hz2, own_nar hz3, own_nar hz4, own_nar hz5, own_nar hz6] at q
                      exact q
                    · intro z hz; simp only [List.mem_cons, List.not_mem_nil, or_false] at hz
                      rcases hz with rfl | rfl | rfl | rfl | rfl | rfl | rfl <;> assumption
                  obtain ⟨_, _, ⟨T77, L77, k77, n77⟩, -, X77, ⟨Lc77, hQ77, l77, y77, z77⟩, st77⟩ := X76.specialBack hx (y := (⟨"java/lang/String", "<init>", "([C)V"⟩ : MethodName)) rfl hown (mvT hZ (hw _ (List.mem_of_getElem? (i := 52) rfl))) (mvT hZ (hw _ (List.mem_of_getElem? (i := 53) rfl))) (mvT hZ (hw _ (List.mem_of_getElem? (i := 54) rfl))) (by decide) (backOf (W := 1) (rm10 l Z a0 hw [] b1 ar w1 _ [z0, z1, z2, z3, z4, z5, z6] h76 n0 Z76 (S_C.ext hzt.2) c0 F_value_b1 F_coder_b1 E_b1 g_b1 C_ar (Nat.le_of_ble_eq_true rfl) (Nat.le_of_ble_eq_true rfl)) hZ (hw _ (List.mem_of_getElem? (i := 54) rfl)) (hw _ (List.mem_of_getElem? (i := 1) rfl)) (by decide) (by decide)) (g := (mkF m 297 #[.val (.int p1), .val (.ref a2)] [(.ref ar), (.ref b1), (.ref b1)])) rfl (by rw [hml]; rfl) (Steps.refl _) (a := b1) (argsL := [(.ref ar)]) (rest := [(.ref b1)]) (lenOf pd_rm9_0 rfl) rfl (by show 2 * 0 + _ ≤ _; exact Nat.le_of_eq rfl) (hb hby d9_297) (fun _ _ => ⟨rfl, e76, (by decide : 2 + 1 ≤ _), (by decide : 11 + 8 ≤ _)⟩)
                  dsimp only [Pt.U, Pt.locs, Pt.cells, Pt.slots] at X77 l77 y77 z77 st77 hQ77
                  subst l77 y77 z77
                  obtain ⟨rfl, N77q, Kc77, bb77, kk77, hs77⟩ := hQ77
                  have N77 := Fr.app N76 N77q
                  have hzt := hzt.keep Kc77 (allS g_b1 all0)
                  have V_a2 := V_a2.keep Kc77 (ninS ne_a2_b1 nin0)
                  have E_b1 := E_b1.keep Kc77
                  have C_ar := C_ar.keep Kc77 (ninS (Ne.symm ne_b1_ar) nin0)
                  have Z77 : n0 ≤ T77.heap.size := Nat.le_trans Z76 Kc77.1
                  have K77 := K76.trans Kc77 (allS (Or.inr sz_b1) all0)
                  refine OEndsW.go (t' := T77.setTop (mkF m 300 #[.val (.int p1), .val (.ref a2)] [(.ref b1)])) (fun _ k => st77.trans k) ?_
                  refine OEndsW.back (vm₁ := s.vm) X77 hS0 (Nat.zero_le _) hlk (v := (some (.ref b1))) (fun h => by rw [hrt] at h; cases h) (fun fs hr => ?_) ?_ (by decide) (by decide)
                  · exact retA X77 hx hrt rfl rfl rfl (hb hby d9_300) hr
                  · show Q9 Z p1 a2 w1 h0 n0 _ T77.heap T77.vm _
                    exact ⟨_, _, _, _, rfl, N77, K77, hs77, (hpv.keep0 K77).stays X77.warmed⟩
                · refine OEndsW.go (t' := s₁.setTop (mkF m 301 #[.val (.int p1), .val (.ref a2)] [])) (fun _ k => XS.icmpYes X0.here hx rfl (pc0 := 242) (pc' := 301) rfl (hb hby d9_242) rfl (feq q7).2 (by decide) (by decide) k) ?_
                  obtain ⟨T78, h78, X78, e78, E78, A78, D78, -, st78⟩ := newO X0 hx hZ hown (hw _ (List.mem_of_getElem? (i := 51) rfl)) (hw _ (List.mem_of_getElem? (i := 2) rfl)) (hw _ (List.mem_of_getElem? (i := 1) rfl)) e0 (g := (mkF m 301 #[.val (.int p1), .val (.ref a2)] [])) rfl (hb hby d9_301) (by decide) (by decide)
                  obtain ⟨b1, gz78⟩ : ∃ z, z = h0.size := ⟨_, rfl⟩
                  rw [← gz78] at A78 D78 st78
                  have ne_a2_b1 : a2 ≠ b1 := Nat.ne_of_lt (Nat.lt_of_lt_of_le V_a2.lt (Nat.le_of_eq gz78.symm))
                  have g_b1 : n0 ≤ b1 := Nat.le_trans Z0 (Nat.le_of_eq gz78.symm)
                  have sz_b1 : h0.size ≤ b1 := Nat.le_trans (Keep.refl h0 []).1 (Nat.le_of_eq gz78.symm)
                  have hzt := hzt.ext E78
                  have V_a2 := V_a2.ext E78
                  have Z78 : n0 ≤ h78.size := Nat.le_trans Z0 E78.1
                  have K78 := (Keep.refl h0 []).ext E78
                  have E_b1 := A78
                  have F_value_b1 : Fld Z h78 b1 "java/lang/String" "value" "[B" .null := D78 (Or.inr (hw _ (List.mem_of_getElem? (i := 4) rfl))) (ty := (.array .byte)) (by decide)
                  have F_coder_b1 : Fld Z h78 b1 "java/lang/String" "coder" "B" (.int (0 : Int32)) := D78 (Or.inr (hw _ (List.mem_of_getElem? (i := 5) rfl))) (ty := .byte) (by decide)
                  refine OEndsW.go (t' := T78.setTop (mkF m 304 #[.val (.int p1), .val (.ref a2)] [(.ref b1)])) (fun _ k => st78 _ k) ?_
                  refine OEndsW.go (t' := T78.setTop (mkF m 307 #[.val (.int p1), .val (.ref a2)] [(.int (8 : Int32)), (.ref b1), (.ref b1)])) (fun _ k => ?_) ?_
                  · show Steps p.tables e below (T78.setTop (mkF m 304 #[.val (.int p1), .val (.ref a2)] [(.ref b1)])) _
                    refine XS.dup X78.here hx rfl (hb hby d9_304) rfl rfl ?_
                    show Steps p.tables e below (T78.setTop (mkF m 305 #[.val (.int p1), .val (.ref a2)] [(.ref b1), (.ref b1)])) _
                    refine XS.bipush X78.here hx rfl (hb hby d9_305) ?_
                    show Steps p.tables e below (T78.setTop (mkF m 307 #[.val (.int p1), .val (.ref a2)] [(.int (8 : Int32)), (.ref b1), (.ref b1)])) _
                    exact k
                  obtain ⟨T79, h79, ka79, X79, e79, E79, A79, st79⟩ := newP X78 hx hZ (hw _ (List.mem_of_getElem? (i := 21) rfl)) e78 (g := (mkF m 307 #[.val (.int p1), .val (.ref a2)] [(.int (8 : Int32)), (.ref b1), (.ref b1)])) rfl (hb hby d9_307) rfl (by decide) (cap := 8) (by decide) (by decide) (by decide) (by decide)
                  obtain ⟨ar, gz79⟩ : ∃ z, z = h78.size := ⟨_, rfl⟩
                  rw [← gz79] at A79 st79
                  have ne_a2_ar : a2 ≠ ar := Nat.ne_of_lt (Nat.lt_of_lt_of_le V_a2.lt (Nat.le_of_eq gz79.symm))
                  have ne_b1_ar : b1 ≠ ar := Nat.ne_of_lt (Nat.lt_of_lt_of_le E_b1.lt (Nat.le_of_eq gz79.symm))
                  have g_ar : n0 ≤ ar := Nat.le_trans Z78 (Nat.le_of_eq gz79.symm)
                  have sz_ar : h0.size ≤ ar := Nat.le_trans K78.1 (Nat.le_of_eq gz79.symm)
                  have hzt := hzt.ext E79
                  have V_a2 := V_a2.ext E79
                  have E_b1 := E_b1.ext E79
                  have F_value_b1 := F_value_b1.ext E79
                  have F_coder_b1 := F_coder_b1.ext E79
                  have Z79 : n0 ≤ h79.size := Nat.le_trans Z78 E79.1
                  have K79 := K78.ext E79
                  have V_ar : Arv Z h79 ar ka79 .char (8 : Int32) [(.int (0 : Int32)), (.int (0 : Int32)), (.int (0 : Int32)), (.int (0 : Int32)), (.int (0 : Int32)), (.int (0 : Int32)), (.int (0 : Int32)), (.int (0 : Int32))] (.int (0 : Int32)) := (Arv.new A79 (by decide)).pad (pad_rep [] (.int (0 : Int32)) 8)
                  refine OEndsW.go (t' := T79.setTop (mkF m 309 #[.val (.int p1), .val (.ref a2)] [(.ref ar), (.ref b1), (.ref b1)])) (fun _ k => st79 _ k) ?_
                  refine OEndsW.go (t' := T79.setTop (mkF m 313 #[.val (.int p1), .val (.ref a2)] [(.int (0 : Int32)), (.ref a2), (.int (0 : Int32)), (.ref ar), (.ref ar), (.ref b1), (.ref b1)])) (fun _ k => ?_) ?_
                  · show Steps p.tables e below (T79.setTop (mkF m 309 #[.val (.int p1), .val (.ref a2)] [(.ref ar), (.ref b1), (.ref b1)])) _
                    refine XS.dup X79.here hx rfl (hb hby d9_309) rfl rfl ?_
                    show Steps p.tables e below (T79.setTop (mkF m 310 #[.val (.int p1), .val (.ref a2)] [(.ref ar), (.ref ar), (.ref b1), (.ref b1)])) _
                    refine XS.iconst X79.here hx rfl (hb hby d9_310) ?_
                    show Steps p.tables e below (T79.setTop (mkF m 311 #[.val (.int p1), .val (.ref a2)] [(.int (0 : Int32)), (.ref ar), (.ref ar), (.ref b1), (.ref b1)])) _
                    refine XS.aloadN X79.here hx rfl (hb hby d9_311) rfl rfl ?_
                    show Steps p.tables e below (T79.setTop (mkF m 312 #[.val (.int p1), .val (.ref a2)] [(.ref a2), (.int (0 : Int32)), (.ref ar), (.ref ar), (.ref b1), (.ref b1)])) _
                    refine XS.iconst X79.here hx rfl (hb hby d9_312) ?_
                    show Steps p.tables e below (T79.setTop (mkF m 313 #[.val (.int p1), .val (.ref a2)] [(.int (0 : Int32)), (.ref a2), (.int (0 : Int32)), (.ref ar), (.ref ar), (.ref b1), (.ref b1)])) _
                    exact k
                  obtain ⟨z0, hz0, hy0⟩ := V_a2.rd (j := 0) ⟨by decide, by decide⟩
                  obtain ⟨cl80, Ar80, hin80, hat80⟩ := hy0
                  refine OEndsW.go (t' := T79.setTop (mkF m 314 #[.val (.int p1), .val (.ref a2)] [(.int z0), (.int (0 : Int32)), (.ref ar), (.ref ar), (.ref b1), (.ref b1)])) (fun _ k => X79.caload hx (j := (0 : Int32)) (v := (.int z0)) (by rw [e79]; exact Ar80.1) (State.isArrayOf_alike hZ.alike Ar80.2.1) Ar80.2.2 hin80 hat80 (g := (mkF m 313 #[.val (.int p1), .val (.ref a2)] [(.int (0 : Int32)), (.ref a2), (.int (0 : Int32)), (.ref ar), (.ref ar), (.ref b1), (.ref b1)])) rfl rfl (hb hby d9_313) _ k) ?_
                  obtain ⟨cl81, Ar81, cq81, cS81, cN81, cH81, cG81⟩ := V_ar
                  have hin81 : ¬ ((0 : Int32) < 0 ∨ cl81.slots.size ≤ ((0 : Int32)).toNatClampNeg) := inb_of cS81 ⟨by decide, by decide⟩
                  obtain ⟨T81, h81, X81, e81, W81, st81⟩ := stC X79 hx hZ e79 Ar81 (j := (0 : Int32)) hin81 (g := (mkF m 314 #[.val (.int p1), .val (.ref a2)] [(.int z0), (.int (0 : Int32)), (.ref ar), (.ref ar), (.ref b1), (.ref b1)])) rfl rfl (hb hby d9_314)
                  have N81 := Fr.snoc X81 N0 g_ar
                  have hzt := hzt.wr W81 g_ar
                  have V_a2 := V_a2.other W81 ne_a2_ar
                  have E_b1 := E_b1.wr W81
                  have F_value_b1 := F_value_b1.other W81 (Or.inl ne_b1_ar)
                  have F_coder_b1 := F_coder_b1.other W81 (Or.inl ne_b1_ar)
                  have Z81 : n0 ≤ h81.size := Nat.le_trans Z79 (Keep.of_wr W81).1
                  have K81 := K79.wr W81 (Or.inr sz_ar)
                  have V_ar := Arv.set Ar81 cq81 cS81 cN81 cH81 cG81 (fits_nar_char _) W81 0 rfl (Nat.le_of_ble_eq_true rfl)
                  refine OEndsW.go (t' := T81.setTop (mkF m 315 #[.val (.int p1), .val (.ref a2)] [(.ref ar), (.ref b1), (.ref b1)])) (fun _ k => st81 _ k) ?_
                  refine OEndsW.go (t' := T81.setTop (mkF m 319 #[.val (.int p1), .val (.ref a2)] [(.int (1 : Int32)), (.ref a2), (.int (1 : Int32)), (.ref ar), (.ref ar), (.ref b1), (.ref b1)])) (fun _ k => ?_) ?_
                  · show Steps p.tables e below (T81.setTop (mkF m 315 #[.val (.int p1), .val (.ref a2)] [(.ref ar), (.ref b1), (.ref b1)])) _
                    refine XS.dup X81.here hx rfl (hb hby d9_315) rfl rfl ?_
                    show Steps p.tables e below (T81.setTop (mkF m 316 #[.val (.int p1), .val (.ref a2)] [(.ref ar), (.ref ar), (.ref b1), (.ref b1)])) _
                    refine XS.iconst X81.here hx rfl (hb hby d9_316) ?_
                    show Steps p.tables e below (T81.setTop (mkF m 317 #[.val (.int p1), .val (.ref a2)] [(.int (1 : Int32)), (.ref ar), (.ref ar), (.ref b1), (.ref b1)])) _
                    refine XS.aloadN X81.here hx rfl (hb hby d9_317) rfl rfl ?_
                    show Steps p.tables e below (T81.setTop (mkF m 318 #[.val (.int p1), .val (.ref a2)] [(.ref a2), (.int (1 : Int32)), (.ref ar), (.ref ar), (.ref b1), (.ref b1)])) _
                    refine XS.iconst X81.here hx rfl (hb hby d9_318) ?_
                    show Steps p.tables e below (T81.setTop (mkF m 319 #[.val (.int p1), .val (.ref a2)] [(.int (1 : Int32)), (.ref a2), (.int (1 : Int32)), (.ref ar), (.ref ar), (.ref b1), (.ref b1)])) _
                    exact k
                  obtain ⟨z1, hz1, hy1⟩ := V_a2.rd (j := 1) ⟨by decide, by decide⟩
                  obtain ⟨cl82, Ar82, hin82, hat82⟩ := hy1
                  refine OEndsW.go (t' := T81.setTop (mkF m 320 #[.val (.int p1), .val (.ref a2)] [(.int z1), (.int (1 : Int32)), (.ref ar), (.ref ar), (.ref b1), (.ref b1)])) (fun _ k => X81.caload hx (j := (1 : Int32)) (v := (.int z1)) (by rw [e81]; exact Ar82.1) (State.isArrayOf_alike hZ.alike Ar82.2.1) Ar82.2.2 hin82 hat82 (g := (mkF m 319 #[.val (.int p1), .val (.ref a2)] [(.int (1 : Int32)), (.ref a2), (.int (1 : Int32)), (.ref ar), (.ref ar), (.ref b1), (.ref b1)])) rfl rfl (hb hby d9_319) _ k) ?_
                  obtain ⟨cl83, Ar83, cq83, cS83, cN83, cH83, cG83⟩ := V_ar
                  have hin83 : ¬ ((1 : Int32) < 0 ∨ cl83.slots.size ≤ ((1 : Int32)).toNatClampNeg) := inb_of cS83 ⟨by decide, by decide⟩
                  obtain ⟨T83, h83, X83, e83, W83, st83⟩ := stC X81 hx hZ e81 Ar83 (j := (1 : Int32)) hin83 (g := (mkF m 320 #[.val (.int p1), .val (.ref a2)] [(.int z1), (.int (1 : Int32)), (.ref ar), (.ref ar), (.ref b1), (.ref b1)])) rfl rfl (hb hby d9_320)
                  have N83 := Fr.snoc X83 N81 g_ar
                  have hzt := hzt.wr W83 g_ar
                  have V_a2 := V_a2.other W83 ne_a2_ar
                  have E_b1 := E_b1.wr W83
                  have F_value_b1 := F_value_b1.other W83 (Or.inl ne_b1_ar)
                  have F_coder_b1 := F_coder_b1.other W83 (Or.inl ne_b1_ar)
                  have Z83 : n0 ≤ h83.size := Nat.le_trans Z81 (Keep.of_wr W83).1
                  have K83 := K81.wr W83 (Or.inr sz_ar)
                  have V_ar := Arv.set Ar83 cq83 cS83 cN83 cH83 cG83 (fits_nar_char _) W83 1 rfl (Nat.le_of_ble_eq_true rfl)
                  refine OEndsW.go (t' := T83.setTop (mkF m 321 #[.val (.int p1), .val (.ref a2)] [(.ref ar), (.ref b1), (.ref b1)])) (fun _ k => st83 _ k) ?_
                  refine OEndsW.go (t' := T83.setTop (mkF m 325 #[.val (.int p1), .val (.ref a2)] [(.int (2 : Int32)), (.ref a2), (.int (2 : Int32)), (.ref ar), (.ref ar), (.ref b1), (.ref b1)])) (fun _ k => ?_) ?_
                  · show Steps p.tables e below (T83.setTop (mkF m 321 #[.val (.int p1), .val (.ref a2)] [(.ref ar), (.ref b1), (.ref b1)])) _
                    refine XS.dup X83.here hx rfl (hb hby d9_321) rfl rfl ?_
                    show Steps p.tables e below (T83.setTop (mkF m 322 #[.val (.int p1), .val (.ref a2)] [(.ref ar), (.ref ar), (.ref b1), (.ref b1)])) _
                    refine XS.iconst X83.here hx rfl (hb hby d9_322) ?_
                    show Steps p.tables e below (T83.setTop (mkF m 323 #[.val (.int p1), .val (.ref a2)] [(.int (2 : Int32)), (.ref ar), (.ref ar), (.ref b1), (.ref b1)])) _
                    refine XS.aloadN X83.here hx rfl (hb hby d9_323) rfl rfl ?_
                    show Steps p.tables e below (T83.setTop (mkF m 324 #[.val (.int p1), .val (.ref a2)] [(.ref a2), (.int (2 : Int32)), (.ref ar), (.ref ar), (.ref b1), (.ref b1)])) _
                    refine XS.iconst X83.here hx rfl (hb hby d9_324) ?_
                    show Steps p.tables e below (T83.setTop (mkF m 325 #[.val (.int p1), .val (.ref a2)] [(.int (2 : Int32)), (.ref a2), (.int (2 : Int32)), (.ref ar), (.ref ar), (.ref b1), (.ref b1)])) _
                    exact k
                  obtain ⟨z2, hz2, hy2⟩ := V_a2.rd (j := 2) ⟨by decide, by decide⟩
                  obtain ⟨cl84, Ar84, hin84, hat84⟩ := hy2
                  refine OEndsW.go (t' := T83.setTop (mkF m 326 #[.val (.int p1), .val (.ref a2)] [(.int z2), (.int (2 : Int32)), (.ref ar), (.ref ar), (.ref b1), (.ref b1)])) (fun _ k => X83.caload hx (j := (2 : Int32)) (v := (.int z2)) (by rw [e83]; exact Ar84.1) (State.isArrayOf_alike hZ.alike Ar84.2.1) Ar84.2.2 hin84 hat84 (g := (mkF m 325 #[.val (.int p1), .val (.ref a2)] [(.int (2 : Int32)), (.ref a2), (.int (2 : Int32)), (.ref ar), (.ref ar), (.ref b1), (.ref b1)])) rfl rfl (hb hby d9_325) _ k) ?_
                  obtain ⟨cl85, Ar85, cq85, cS85, cN85, cH85, cG85⟩ := V_ar
                  have hin85 : ¬ ((2 : Int32) < 0 ∨ cl85.slots.size ≤ ((2 : Int32)).toNatClampNeg) := inb_of cS85 ⟨by decide, by decide⟩
                  obtain ⟨T85, h85, X85, e85, W85, st85⟩ := stC X83 hx hZ e83 Ar85 (j := (2 : Int32)) hin85 (g := (mkF m 326 #[.val (.int p1), .val (.ref a2)] [(.int z2), (.int (2 : Int32)), (.ref ar), (.ref ar), (.ref b1), (.ref b1)])) rfl rfl (hb hby d9_326)
                  have N85 := Fr.snoc X85 N83 g_ar
                  have hzt := hzt.wr W85 g_ar
                  have V_a2 := V_a2.other W85 ne_a2_ar
                  have E_b1 := E_b1.wr W85
                  have F_value_b1 := F_value_b1.other W85 (Or.inl ne_b1_ar)
                  have F_coder_b1 := F_coder_b1.other W85 (Or.inl ne_b1_ar)
                  have Z85 : n0 ≤ h85.size := Nat.le_trans Z83 (Keep.of_wr W85).1
                  have K85 := K83.wr W85 (Or.inr sz_ar)
                  have V_ar := Arv.set Ar85 cq85 cS85 cN85 cH85 cG85 (fits_nar_char _) W85 2 rfl (Nat.le_of_ble_eq_true rfl)
                  refine OEndsW.go (t' := T85.setTop (mkF m 327 #[.val (.int p1), .val (.ref a2)] [(.ref ar), (.ref b1), (.ref b1)])) (fun _ k => st85 _ k) ?_
                  refine OEndsW.go (t' := T85.setTop (mkF m 331 #[.val (.int p1), .val (.ref a2)] [(.int (3 : Int32)), (.ref a2), (.int (3 : Int32)), (.ref ar), (.ref ar), (.ref b1), (.ref b1)])) (fun _ k => ?_) ?_
                  · show Steps p.tables e below (T85.setTop (mkF m 327 #[.val (.int p1), .val (.ref a2)] [(.ref ar), (.ref b1), (.ref b1)])) _
                    refine XS.dup X85.here hx rfl (hb hby d9_327) rfl rfl ?_
                    show Steps p.tables e below (T85.setTop (mkF m 328 #[.val (.int p1), .val (.ref a2)] [(.ref ar), (.ref ar), (.ref b1), (.ref b1)])) _
                    refine XS.iconst X85.here hx rfl (hb hby d9_328) ?_
                    show Steps p.tables e below (T85.setTop (mkF m 329 #[.val (.int p1), .val (.ref a2)] [(.int (3 : Int32)), (.ref ar), (.ref ar), (.ref b1), (.ref b1)])) _
                    refine XS.aloadN X85.here hx rfl (hb hby d9_329) rfl rfl ?_
                    show Steps p.tables e below (T85.setTop (mkF m 330 #[.val (.int p1), .val (.ref a2)] [(.ref a2), (.int (3 : Int32)), (.ref ar), (.ref ar), (.ref b1), (.ref b1)])) _
                    refine XS.iconst X85.here hx rfl (hb hby d9_330) ?_
                    show Steps p.tables e below (T85.setTop (mkF m 331 #[.val (.int p1), .val (.ref a2)] [(.int (3 : Int32)), (.ref a2), (.int (3 : Int32)), (.ref ar), (.ref ar), (.ref b1), (.ref b1)])) _
                    exact k
                  obtain ⟨z3, hz3, hy3⟩ := V_a2.rd (j := 3) ⟨by decide, by decide⟩
                  obtain ⟨cl86, Ar86, hin86, hat86⟩ := hy3
                  refine OEndsW.go (t' := T85.setTop (mkF m 332 #[.val (.int p1), .val (.ref a2)] [(.int z3), (.int (3 : Int32)), (.ref ar), (.ref ar), (.ref b1), (.ref b1)])) (fun _ k => X85.caload hx (j := (3 : Int32)) (v := (.int z3)) (by rw [e85]; exact Ar86.1) (State.isArrayOf_alike hZ.alike Ar86.2.1) Ar86.2.2 hin86 hat86 (g := (mkF m 331 #[.val (.int p1), .val (.ref a2)] [(.int (3 : Int32)), (.ref a2), (.int (3 : Int32)), (.ref ar), (.ref ar), (.ref b1), (.ref b1)])) rfl rfl (hb hby d9_331) _ k) ?_
                  obtain ⟨cl87, Ar87, cq87, cS87, cN87, cH87, cG87⟩ := V_ar
                  have hin87 : ¬ ((3 : Int32) < 0 ∨ cl87.slots.size ≤ ((3 : Int32)).toNatClampNeg) := inb_of cS87 ⟨by decide, by decide⟩
                  obtain ⟨T87, h87, X87, e87, W87, st87⟩ := stC X85 hx hZ e85 Ar87 (j := (3 : Int32)) hin87 (g := (mkF m 332 #[.val (.int p1), .val (.ref a2)] [(.int z3), (.int (3 : Int32)), (.ref ar), (.ref ar), (.ref b1), (.ref b1)])) rfl rfl (hb hby d9_332)
                  have N87 := Fr.snoc X87 N85 g_ar
                  have hzt := hzt.wr W87 g_ar
                  have V_a2 := V_a2.other W87 ne_a2_ar
                  have E_b1 := E_b1.wr W87
                  have F_value_b1 := F_value_b1.other W87 (Or.inl ne_b1_ar)
                  have F_coder_b1 := F_coder_b1.other W87 (Or.inl ne_b1_ar)
                  have Z87 : n0 ≤ h87.size := Nat.le_trans Z85 (Keep.of_wr W87).1
                  have K87 := K85.wr W87 (Or.inr sz_ar)
                  have V_ar := Arv.set Ar87 cq87 cS87 cN87 cH87 cG87 (fits_nar_char _) W87 3 rfl (Nat.le_of_ble_eq_true rfl)
                  refine OEndsW.go (t' := T87.setTop (mkF m 333 #[.val (.int p1), .val (.ref a2)] [(.ref ar), (.ref b1), (.ref b1)])) (fun _ k => st87 _ k) ?_
                  refine OEndsW.go (t' := T87.setTop (mkF m 337 #[.val (.int p1), .val (.ref a2)] [(.int (4 : Int32)), (.ref a2), (.int (4 : Int32)), (.ref ar), (.ref ar), (.ref b1), (.ref b1)])) (fun _ k => ?_) ?_
                  · show Steps p.tables e below (T87.setTop (mkF m 333 #[.val (.int p1), .val (.ref a2)] [(.ref ar), (.ref b1), (.ref b1)])) _
                    refine XS.dup X87.here hx rfl (hb hby d9_333) rfl rfl ?_
                    show Steps p.tables e below (T87.setTop (mkF m 334 #[.val (.int p1), .val (.ref a2)] [(.ref ar), (.ref ar), (.ref b1), (.ref b1)])) _
                    refine XS.iconst X87.here hx rfl (hb hby d9_334) ?_
                    show Steps p.tables e below (T87.setTop (mkF m 335 #[.val (.int p1), .val (.ref a2)] [(.int (4 : Int32)), (.ref ar), (.ref ar), (.ref b1), (.ref b1)])) _
                    refine XS.aloadN X87.here hx rfl (hb hby d9_335) rfl rfl ?_
                    show Steps p.tables e below (T87.setTop (mkF m 336 #[.val (.int p1), .val (.ref a2)] [(.ref a2), (.int (4 : Int32)), (.ref ar), (.ref ar), (.ref b1), (.ref b1)])) _
                    refine XS.iconst X87.here hx rfl (hb hby d9_336) ?_
                    show Steps p.tables e below (T87.setTop (mkF m 337 #[.val (.int p1), .val (.ref a2)] [(.int (4 : Int32)), (.ref a2), (.int (4 : Int32)), (.ref ar), (.ref ar), (.ref b1), (.ref b1)])) _
                    exact k
                  obtain ⟨z4, hz4, hy4⟩ := V_a2.rd (j := 4) ⟨by decide, by decide⟩
                  obtain ⟨cl88, Ar88, hin88, hat88⟩ := hy4
                  refine OEndsW.go (t' := T87.setTop (mkF m 338 #[.val (.int p1), .val (.ref a2)] [(.int z4), (.int (4 : Int32)), (.ref ar), (.ref ar), (.ref b1), (.ref b1)])) (fun _ k => X87.caload hx (j := (4 : Int32)) (v := (.int z4)) (by rw [e87]; exact Ar88.1) (State.isArrayOf_alike hZ.alike Ar88.2.1) Ar88.2.2 hin88 hat88 (g := (mkF m 337 #[.val (.int p1), .val (.ref a2)] [(.int (4 : Int32)), (.ref a2), (.int (4 : Int32)), (.ref ar), (.ref ar), (.ref b1), (.ref b1)])) rfl rfl (hb hby d9_337) _ k) ?_
                  obtain ⟨cl89, Ar89, cq89, cS89, cN89, cH89, cG89⟩ := V_ar
                  have hin89 : ¬ ((4 : Int32) < 0 ∨ cl89.slots.size ≤ ((4 : Int32)).toNatClampNeg) := inb_of cS89 ⟨by decide, by decide⟩
                  obtain ⟨T89, h89, X89, e89, W89, st89⟩ := stC X87 hx hZ e87 Ar89 (j := (4 : Int32)) hin89 (g := (mkF m 338 #[.val (.int p1), .val (.ref a2)] [(.int z4), (.int (4 : Int32)), (.ref ar), (.ref ar), (.ref b1), (.ref b1)])) rfl rfl (hb hby d9_338)
                  have N89 := Fr.snoc X89 N87 g_ar
                  have hzt := hzt.wr W89 g_ar
                  have V_a2 := V_a2.other W89 ne_a2_ar
                  have E_b1 := E_b1.wr W89
                  have F_value_b1 := F_value_b1.other W89 (Or.inl ne_b1_ar)
                  have F_coder_b1 := F_coder_b1.other W89 (Or.inl ne_b1_ar)
                  have Z89 : n0 ≤ h89.size := Nat.le_trans Z87 (Keep.of_wr W89).1
                  have K89 := K87.wr W89 (Or.inr sz_ar)
                  have V_ar := Arv.set Ar89 cq89 cS89 cN89 cH89 cG89 (fits_nar_char _) W89 4 rfl (Nat.le_of_ble_eq_true rfl)
                  refine OEndsW.go (t' := T89.setTop (mkF m 339 #[.val (.int p1), .val (.ref a2)] [(.ref ar), (.ref b1), (.ref b1)])) (fun _ k => st89 _ k) ?_
                  refine OEndsW.go (t' := T89.setTop (mkF m 343 #[.val (.int p1), .val (.ref a2)] [(.int (5 : Int32)), (.ref a2), (.int (5 : Int32)), (.ref ar), (.ref ar), (.ref b1), (.ref b1)])) (fun _ k => ?_) ?_
                  · show Steps p.tables e below (T89.setTop (mkF m 339 #[.val (.int p1), .val (.ref a2)] [(.ref ar), (.ref b1), (.ref b1)])) _
                    refine XS.dup X89.here hx rfl (hb hby d9_339) rfl rfl ?_
                    show Steps p.tables e below (T89.setTop (mkF m 340 #[.val (.int p1), .val (.ref a2)] [(.ref ar), (.ref ar), (.ref b1), (.ref b1)])) _
                    refine XS.iconst X89.here hx rfl (hb hby d9_340) ?_
                    show Steps p.tables e below (T89.setTop (mkF m 341 #[.val (.int p1), .val (.ref a2)] [(.int (5 : Int32)), (.ref ar), (.ref ar), (.ref b1), (.ref b1)])) _
                    refine XS.aloadN X89.here hx rfl (hb hby d9_341) rfl rfl ?_
                    show Steps p.tables e below (T89.setTop (mkF m 342 #[.val (.int p1), .val (.ref a2)] [(.ref a2), (.int (5 : Int32)), (.ref ar), (.ref ar), (.ref b1), (.ref b1)])) _
                    refine XS.iconst X89.here hx rfl (hb hby d9_342) ?_
                    show Steps p.tables e below (T89.setTop (mkF m 343 #[.val (.int p1), .val (.ref a2)] [(.int (5 : Int32)), (.ref a2), (.int (5 : Int32)), (.ref ar), (.ref ar), (.ref b1), (.ref b1)])) _
                    exact k
                  obtain ⟨z5, hz5, hy5⟩ := V_a2.rd (j := 5) ⟨by decide, by decide⟩
                  obtain ⟨cl90, Ar90, hin90, hat90⟩ := hy5
                  refine OEndsW.go (t' := T89.setTop (mkF m 344 #[.val (.int p1), .val (.ref a2)] [(.int z5), (.int (5 : Int32)), (.ref ar), (.ref ar), (.ref b1), (.ref b1)])) (fun _ k => X89.caload hx (j := (5 : Int32)) (v := (.int z5)) (by rw [e89]; exact Ar90.1) (State.isArrayOf_alike hZ.alike Ar90.2.1) Ar90.2.2 hin90 hat90 (g := (mkF m 343 #[.val (.int p1), .val (.ref a2)] [(.int (5 : Int32)), (.ref a2), (.int (5 : Int32)), (.ref ar), (.ref ar), (.ref b1), (.ref b1)])) rfl rfl (hb hby d9_343) _ k) ?_
                  obtain ⟨cl91, Ar91, cq91, cS91, cN91, cH91, cG91⟩ := V_ar
                  have hin91 : ¬ ((5 : Int32) < 0 ∨ cl91.slots.size ≤ ((5 : Int32)).toNatClampNeg) := inb_of cS91 ⟨by decide, by decide⟩
                  obtain ⟨T91, h91, X91, e91, W91, st91⟩ := stC X89 hx hZ e89 Ar91 (j := (5 : Int32)) hin91 (g := (mkF m 344 #[.val (.int p1), .val (.ref a2)] [(.int z5), (.int (5 : Int32)), (.ref ar), (.ref ar), (.ref b1), (.ref b1)])) rfl rfl (hb hby d9_344)
                  have N91 := Fr.snoc X91 N89 g_ar
                  have hzt := hzt.wr W91 g_ar
                  have V_a2 := V_a2.other W91 ne_a2_ar
                  have E_b1 := E_b1.wr W91
                  have F_value_b1 := F_value_b1.other W91 (Or.inl ne_b1_ar)
                  have F_coder_b1 := F_coder_b1.other W91 (Or.inl ne_b1_ar)
                  have Z91 : n0 ≤ h91.size := Nat.le_trans Z89 (Keep.of_wr W91).1
                  have K91 := K89.wr W91 (Or.inr sz_ar)
                  have V_ar := Arv.set Ar91 cq91 cS91 cN91 cH91 cG91 (fits_nar_char _) W91 5 rfl (Nat.le_of_ble_eq_true rfl)
                  refine OEndsW.go (t' := T91.setTop (mkF m 345 #[.val (.int p1), .val (.ref a2)] [(.ref ar), (.ref b1), (.ref b1)])) (fun _ k => st91 _ k) ?_
                  refine OEndsW.go (t' := T91.setTop (mkF m 351 #[.val (.int p1), .val (.ref a2)] [(.int (6 : Int32)), (.ref a2), (.int (6 : Int32)), (.ref ar), (.ref ar), (.ref b1), (.ref b1)])) (fun _ k => ?_) ?_
                  · show Steps p.tables e below (T91.setTop (mkF m 345 #[.val (.int p1), .val (.ref a2)] [(.ref ar), (.ref b1), (.ref b1)])) _
                    refine XS.dup X91.here hx rfl (hb hby d9_345) rfl rfl ?_
                    show Steps p.tables e below (T91.setTop (mkF m 346 #[.val (.int p1), .val (.ref a2)] [(.ref ar), (.ref ar), (.ref b1), (.ref b1)])) _
                    refine XS.bipush X91.here hx rfl (hb hby d9_346) ?_
                    show Steps p.tables e below (T91.setTop (mkF m 348 #[.val (.int p1), .val (.ref a2)] [(.int (6 : Int32)), (.ref ar), (.ref ar), (.ref b1), (.ref b1)])) _
                    refine XS.aloadN X91.here hx rfl (hb hby d9_348) rfl rfl ?_
                    show Steps p.tables e below (T91.setTop (mkF m 349 #[.val (.int p1), .val (.ref a2)] [(.ref a2), (.int (6 : Int32)), (.ref ar), (.ref ar), (.ref b1), (.ref b1)])) _
                    refine XS.bipush X91.here hx rfl (hb hby d9_349) ?_
                    show Steps p.tables e below (T91.setTop (mkF m 351 #[.val (.int p1), .val (.ref a2)] [(.int (6 : Int32)), (.ref a2), (.int (6 : Int32)), (.ref ar), (.ref ar), (.ref b1), (.ref b1)])) _
                    exact k
                  obtain ⟨z6, hz6, hy6⟩ := V_a2.rd (j := 6) ⟨by decide, by decide⟩
                  obtain ⟨cl92, Ar92, hin92, hat92⟩ := hy6
                  refine OEndsW.go (t' := T91.setTop (mkF m 352 #[.val (.int p1), .val (.ref a2)] [(.int z6), (.int (6 : Int32)), (.ref ar), (.ref ar), (.ref b1), (.ref b1)])) (fun _ k => X91.caload hx (j := (6 : Int32)) (v := (.int z6)) (by rw [e91]; exact Ar92.1) (State.isArrayOf_alike hZ.alike Ar92.2.1) Ar92.2.2 hin92 hat92 (g := (mkF m 351 #[.val (.int p1), .val (.ref a2)] [(.int (6 : Int32)), (.ref a2), (.int (6 : Int32)), (.ref ar), (.ref ar), (.ref b1), (.ref b1)])) rfl rfl (hb hby d9_351) _ k) ?_
                  obtain ⟨cl93, Ar93, cq93, cS93, cN93, cH93, cG93⟩ := V_ar
                  have hin93 : ¬ ((6 : Int32) < 0 ∨ cl93.slots.size ≤ ((6 : Int32)).toNatClampNeg) := inb_of cS93 ⟨by decide, by decide⟩
                  obtain ⟨T93, h93, X93, e93, W93, st93⟩ := stC X91 hx hZ e91 Ar93 (j := (6 : Int32)) hin93 (g := (mkF m 352 #[.val (.int p1), .val (.ref a2)] [(.int z6), (.int (6 : Int32)), (.ref ar), (.ref ar), (.ref b1), (.ref b1)])) rfl rfl (hb hby d9_352)
                  have N93 := Fr.snoc X93 N91 g_ar
                  have hzt := hzt.wr W93 g_ar
                  have V_a2 := V_a2.other W93 ne_a2_ar
                  have E_b1 := E_b1.wr W93
                  have F_value_b1 := F_value_b1.other W93 (Or.inl ne_b1_ar)
                  have F_coder_b1 := F_coder_b1.other W93 (Or.inl ne_b1_ar)
                  have Z93 : n0 ≤ h93.size := Nat.le_trans Z91 (Keep.of_wr W93).1
                  have K93 := K91.wr W93 (Or.inr sz_ar)
                  have V_ar := Arv.set Ar93 cq93 cS93 cN93 cH93 cG93 (fits_nar_char _) W93 6 rfl (Nat.le_of_ble_eq_true rfl)
                  refine OEndsW.go (t' := T93.setTop (mkF m 353 #[.val (.int p1), .val (.ref a2)] [(.ref ar), (.ref b1), (.ref b1)])) (fun _ k => st93 _ k) ?_
                  refine OEndsW.go (t' := T93.setTop (mkF m 359 #[.val (.int p1), .val (.ref a2)] [(.int (7 : Int32)), (.ref a2), (.int (7 : Int32)), (.ref ar), (.ref ar), (.ref b1), (.ref b1)])) (fun _ k => ?_) ?_
                  · show Steps p.tables e below (T93.setTop (mkF m 353 #[.val (.int p1), .val (.ref a2)] [(.ref ar), (.ref b1), (.ref b1)])) _
                    refine XS.dup X93.here hx rfl (hb hby d9_353) rfl rfl ?_
                    show Steps p.tables e below (T93.setTop (mkF m 354 #[.val (.int p1), .val (.ref a2)] [(.ref ar), (.ref ar), (.ref b1), (.ref b1)])) _
                    refine XS.bipush X93.here hx rfl (hb hby d9_354) ?_
                    show Steps p.tables e below (T93.setTop (mkF m 356 #[.val (.int p1), .val (.ref a2)] [(.int (7 : Int32)), (.ref ar), (.ref ar), (.ref b1), (.ref b1)])) _
                    refine XS.aloadN X93.here hx rfl (hb hby d9_356) rfl rfl ?_
                    show Steps p.tables e below (T93.setTop (mkF m 357 #[.val (.int p1), .val (.ref a2)] [(.ref a2), (.int (7 : Int32)), (.ref ar), (.ref ar), (.ref b1), (.ref b1)])) _
                    refine XS.bipush X93.here hx rfl (hb hby d9_357) ?_
                    show Steps p.tables e below (T93.setTop (mkF m 359 #[.val (.int p1), .val (.ref a2)] [(.int (7 : Int32)), (.ref a2), (.int (7 : Int32)), (.ref ar), (.ref ar), (.ref b1), (.ref b1)])) _
                    exact k
                  obtain ⟨z7, hz7, hy7⟩ := V_a2.rd (j := 7) ⟨by decide, by decide⟩
                  obtain ⟨cl94, Ar94, hin94, hat94⟩ := hy7
                  refine OEndsW.go (t' := T93.setTop (mkF m 360 #[.val (.int p1), .val (.ref a2)] [(.int z7), (.int (7 : Int32)), (.ref ar), (.ref ar), (.ref b1), (.ref b1)])) (fun _ k => X93.caload hx (j := (7 : Int32)) (v := (.int z7)) (by rw [e93]; exact Ar94.1) (State.isArrayOf_alike hZ.alike Ar94.2.1) Ar94.2.2 hin94 hat94 (g := (mkF m 359 #[.val (.int p1), .val (.ref a2)] [(.int (7 : Int32)), (.ref a2), (.int (7 : Int32)), (.ref ar), (.ref ar), (.ref b1), (.ref b1)])) rfl rfl (hb hby d9_359) _ k) ?_
                  obtain ⟨cl95, Ar95, cq95, cS95, cN95, cH95, cG95⟩ := V_ar
                  have hin95 : ¬ ((7 : Int32) < 0 ∨ cl95.slots.size ≤ ((7 : Int32)).toNatClampNeg) := inb_of cS95 ⟨by decide, by decide⟩
                  obtain ⟨T95, h95, X95, e95, W95, st95⟩ := stC X93 hx hZ e93 Ar95 (j := (7 : Int32)) hin95 (g := (mkF m 360 #[.val (.int p1), .val (.ref a2)] [(.int z7), (.int (7 : Int32)), (.ref ar), (.ref ar), (.ref b1), (.ref b1)])) rfl rfl (hb hby d9_360)
                  have N95 := Fr.snoc X95 N93 g_ar
                  have hzt := hzt.wr W95 g_ar
                  have V_a2 := V_a2.other W95 ne_a2_ar
                  have E_b1 := E_b1.wr W95
                  have F_value_b1 := F_value_b1.other W95 (Or.inl ne_b1_ar)
                  have F_coder_b1 := F_coder_b1.other W95 (Or.inl ne_b1_ar)
                  have Z95 : n0 ≤ h95.size := Nat.le_trans Z93 (Keep.of_wr W95).1
                  have K95 := K93.wr W95 (Or.inr sz_ar)
                  have V_ar := Arv.set Ar95 cq95 cS95 cN95 cH95 cG95 (fits_nar_char _) W95 7 rfl (Nat.le_of_ble_eq_true rfl)
                  refine OEndsW.go (t' := T95.setTop (mkF m 361 #[.val (.int p1), .val (.ref a2)] [(.ref ar), (.ref b1), (.ref b1)])) (fun _ k => st95 _ k) ?_
                  have C_ar : own_Ch Z h95 ar ka79 [z0, z1, z2, z3, z4, z5, z6, z7] := by
                    refine ⟨?_, Nat.le_of_ble_eq_true rfl, ?_⟩
                    · have q := V_ar
                      rw [own_nar hz0, own_nar hz1, own_nar hz2, own_nar hz3, own_nar hz4, own_nar hz5, own_nar hz6, own_nar hz7] at q
                      exact q
                    · intro z hz; simp only [List.mem_cons, List.not_mem_nil, or_false] at hz
                      rcases hz with rfl | rfl | rfl | rfl | rfl | rfl | rfl | rfl <;> assumption
                  obtain ⟨_, _, ⟨T96, L96, k96, n96⟩, -, X96, ⟨Lc96, hQ96, l96, y96, z96⟩, st96⟩ := X95.specialBack hx (y := (⟨"java/lang/String", "<init>", "([C)V"⟩ : MethodName)) rfl hown (mvT hZ (hw _ (List.mem_of_getElem? (i := 52) rfl))) (mvT hZ (hw _ (List.mem_of_getElem? (i := 53) rfl))) (mvT hZ (hw _ (List.mem_of_getElem? (i := 54) rfl))) (by decide) (backOf (W := 1) (rm10 l Z a0 hw [] b1 ar w1 _ [z0, z1, z2, z3, z4, z5, z6, z7] h95 n0 Z95 (S_C.ext hzt.2) c0 F_value_b1 F_coder_b1 E_b1 g_b1 C_ar (Nat.le_of_ble_eq_true rfl) (Nat.le_of_ble_eq_true rfl)) hZ (hw _ (List.mem_of_getElem? (i := 54) rfl)) (hw _ (List.mem_of_getElem? (i := 1) rfl)) (by decide) (by decide)) (g := (mkF m 361 #[.val (.int p1), .val (.ref a2)] [(.ref ar), (.ref b1), (.ref b1)])) rfl (by rw [hml]; rfl) (Steps.refl _) (a := b1) (argsL := [(.ref ar)]) (rest := [(.ref b1)]) (lenOf pd_rm9_0 rfl) rfl (by show 2 * 0 + _ ≤ _; exact Nat.le_of_eq rfl) (hb hby d9_361) (fun _ _ => ⟨rfl, e95, (by decide : 2 + 1 ≤ _), (by decide : 12 + 8 ≤ _)⟩)
                  dsimp only [Pt.U, Pt.locs, Pt.cells, Pt.slots] at X96 l96 y96 z96 st96 hQ96
                  subst l96 y96 z96
                  obtain ⟨rfl, N96q, Kc96, bb96, kk96, hs96⟩ := hQ96
                  have N96 := Fr.app N95 N96q
                  have hzt := hzt.keep Kc96 (allS g_b1 all0)
                  have V_a2 := V_a2.keep Kc96 (ninS ne_a2_b1 nin0)
                  have E_b1 := E_b1.keep Kc96
                  have C_ar := C_ar.keep Kc96 (ninS (Ne.symm ne_b1_ar) nin0)
                  have Z96 : n0 ≤ T96.heap.size := Nat.le_trans Z95 Kc96.1
                  have K96 := K95.trans Kc96 (allS (Or.inr sz_b1) all0)
                  refine OEndsW.go (t' := T96.setTop (mkF m 364 #[.val (.int p1), .val (.ref a2)] [(.ref b1)])) (fun _ k => st96.trans k) ?_
                  refine OEndsW.back (vm₁ := s.vm) X96 hS0 (Nat.zero_le _) hlk (v := (some (.ref b1))) (fun h => by rw [hrt] at h; cases h) (fun fs hr => ?_) ?_ (by decide) (by decide)
                  · exact retA X96 hx hrt rfl rfl rfl (hb hby d9_364) hr
                  · show Q9 Z p1 a2 w1 h0 n0 _ T96.heap T96.vm _
                    exact ⟨_, _, _, _, rfl, N96, K96, hs96, (hpv.keep0 K96).stays X96.warmed⟩
  · refine OEndsW.go (t' := s₁.setTop (mkF m 4 #[.val (.int p1), .val (.ref a2)] [])) (fun _ k => XS.ifNo X0.here hx rfl (hb hby d9_1) rfl ((if0 _ _).trans (flt q0).2.2.1) k) ?_
    obtain ⟨T97, h97, X97, e97, E97, A97, D97, -, st97⟩ := newO X0 hx hZ hown (hw _ (List.mem_of_getElem? (i := 51) rfl)) (hw _ (List.mem_of_getElem? (i := 2) rfl)) (hw _ (List.mem_of_getElem? (i := 1) rfl)) e0 (g := (mkF m 4 #[.val (.int p1), .val (.ref a2)] [])) rfl (hb hby d9_4) (by decide) (by decide)
    obtain ⟨b1, gz97⟩ : ∃ z, z = h0.size := ⟨_, rfl⟩
    rw [← gz97] at A97 D97 st97
    have ne_a2_b1 : a2 ≠ b1 := Nat.ne_of_lt (Nat.lt_of_lt_of_le V_a2.lt (Nat.le_of_eq gz97.symm))
    have g_b1 : n0 ≤ b1 := Nat.le_trans Z0 (Nat.le_of_eq gz97.symm)
    have sz_b1 : h0.size ≤ b1 := Nat.le_trans (Keep.refl h0 []).1 (Nat.le_of_eq gz97.symm)
    have hzt := hzt.ext E97
    have V_a2 := V_a2.ext E97
    have Z97 : n0 ≤ h97.size := Nat.le_trans Z0 E97.1
    have K97 := (Keep.refl h0 []).ext E97
    have E_b1 := A97
    have F_value_b1 : Fld Z h97 b1 "java/lang/String" "value" "[B" .null := D97 (Or.inr (hw _ (List.mem_of_getElem? (i := 4) rfl))) (ty := (.array .byte)) (by decide)
    have F_coder_b1 : Fld Z h97 b1 "java/lang/String" "coder" "B" (.int (0 : Int32)) := D97 (Or.inr (hw _ (List.mem_of_getElem? (i := 5) rfl))) (ty := .byte) (by decide)
    refine OEndsW.go (t' := T97.setTop (mkF m 7 #[.val (.int p1), .val (.ref a2)] [(.ref b1)])) (fun _ k => st97 _ k) ?_
    refine OEndsW.go (t' := T97.setTop (mkF m 9 #[.val (.int p1), .val (.ref a2)] [(.int (0 : Int32)), (.ref b1), (.ref b1)])) (fun _ k => ?_) ?_
    · show Steps p.tables e below (T97.setTop (mkF m 7 #[.val (.int p1), .val (.ref a2)] [(.ref b1)])) _
      refine XS.dup X97.here hx rfl (hb hby d9_7) rfl rfl ?_
      show Steps p.tables e below (T97.setTop (mkF m 8 #[.val (.int p1), .val (.ref a2)] [(.ref b1), (.ref b1)])) _
      refine XS.iconst X97.here hx rfl (hb hby d9_8) ?_
      show Steps p.tables e below (T97.setTop (mkF m 9 #[.val (.int p1), .val (.ref a2)] [(.int (0 : Int32)), (.ref b1), (.ref b1)])) _
      exact k
    obtain ⟨T98, h98, ka98, X98, e98, E98, A98, st98⟩ := newP X97 hx hZ (hw _ (List.mem_of_getElem? (i := 21) rfl)) e97 (g := (mkF m 9 #[.val (.int p1), .val (.ref a2)] [(.int (0 : Int32)), (.ref b1), (.ref b1)])) rfl (hb hby d9_9) rfl (by decide) (cap := 0) (by decide) (by decide) (by decide) (by decide)
    obtain ⟨ar, gz98⟩ : ∃ z, z = h97.size := ⟨_, rfl⟩
    rw [← gz98] at A98 st98
    have ne_a2_ar : a2 ≠ ar := Nat.ne_of_lt (Nat.lt_of_lt_of_le V_a2.lt (Nat.le_of_eq gz98.symm))
    have ne_b1_ar : b1 ≠ ar := Nat.ne_of_lt (Nat.lt_of_lt_of_le E_b1.lt (Nat.le_of_eq gz98.symm))
    have g_ar : n0 ≤ ar := Nat.le_trans Z97 (Nat.le_of_eq gz98.symm)
    have sz_ar : h0.size ≤ ar := Nat.le_trans K97.1 (Nat.le_of_eq gz98.symm)
    have hzt := hzt.ext E98
    have V_a2 := V_a2.ext E98
    have E_b1 := E_b1.ext E98
    have F_value_b1 := F_value_b1.ext E98
    have F_coder_b1 := F_coder_b1.ext E98
    have Z98 : n0 ≤ h98.size := Nat.le_trans Z97 E98.1
    have K98 := K97.ext E98
    have V_ar : Arv Z h98 ar ka98 .char (0 : Int32) [] (.int (0 : Int32)) := Arv.new A98 (by decide)
    refine OEndsW.go (t' := T98.setTop (mkF m 11 #[.val (.int p1), .val (.ref a2)] [(.ref ar), (.ref b1), (.ref b1)])) (fun _ k => st98 _ k) ?_
    have C_ar : own_Ch Z h98 ar ka98 [] := ⟨V_ar, by decide, by simp⟩
    obtain ⟨_, _, ⟨T99, L99, k99, n99⟩, -, X99, hSq99, hgq99, ⟨Lc99, hQ99, l99, y99, z99⟩, st99⟩ := X98.specialBackS hx (y := (⟨"java/lang/String", "<init>", "([C)V"⟩ : MethodName)) rfl hown (mvT hZ (hw _ (List.mem_of_getElem? (i := 52) rfl))) (mvT hZ (hw _ (List.mem_of_getElem? (i := 53) rfl))) (mvT hZ (hw _ (List.mem_of_getElem? (i := 54) rfl))) (by decide) (own_backI (W := 1) (rmE1 l Z a0 hw [] b1 ar _ h98 n0 Z98 hzt hcw hH F_value_b1 F_coder_b1 E_b1 g_b1 C_ar) hZ (fun vm hW => (hpv.keep0 K98).stays hW) (hw _ (List.mem_of_getElem? (i := 54) rfl)) (hw _ (List.mem_of_getElem? (i := 1) rfl)) (by decide) (by decide)) (g := (mkF m 11 #[.val (.int p1), .val (.ref a2)] [(.ref ar), (.ref b1), (.ref b1)])) rfl (by rw [hml]; rfl) (Steps.refl _) (a := b1) (argsL := [(.ref ar)]) (rest := [(.ref b1)]) (lenOf pd_rm9_0 rfl) rfl (by show 2 * 0 + _ ≤ _; exact Nat.le_of_eq rfl) (hb hby d9_11) (fun _ _ => ⟨rfl, e98, (by decide : 2 + 2 ≤ _), (by decide : 4 + 4 ≤ _)⟩)
    dsimp only [Pt.U, Pt.locs, Pt.cells, Pt.slots] at X99 l99 y99 z99 st99 hQ99 hSq99 hgq99
    subst l99 y99 z99
    obtain ⟨X99, hS99, hZ, hown⟩ := rebS (s := s) (vm0 := s.vm) (vm1 := T99.vm) hS0 (Nat.zero_le _) X99 hSq99 hgq99 hZ hown
    obtain ⟨rfl, N99q, Kc99, ⟨bb99, kk99, hs99⟩, hv99⟩ := hQ99
    have N99 := Fr.app N0 N99q
    have hzt := hzt.keep Kc99 (allS g_b1 all0)
    have V_a2 := V_a2.keep Kc99 (ninS ne_a2_b1 nin0)
    have E_b1 := E_b1.keep Kc99
    have C_ar := C_ar.keep Kc99 (ninS (Ne.symm ne_b1_ar) nin0)
    have Z99 : n0 ≤ T99.heap.size := Nat.le_trans Z98 Kc99.1
    have K99 := K98.trans Kc99 (allS (Or.inr sz_b1) all0)
    have hk99 : T99.heap.size ≤ T99.heap.size := Nat.le_refl _
    refine OEndsW.go (t' := T99.setTop (mkF m 14 #[.val (.int p1), .val (.ref a2)] [(.ref b1)])) (fun _ k => st99.trans k) ?_
    refine OEndsW.back X99 hS99 hk99 hlk (v := (some (.ref b1))) (fun h => by rw [hrt] at h; cases h) (fun fs hr => ?_) ?_ (by decide) (by decide)
    · exact retA X99 hx hrt rfl rfl rfl (hb hby d9_14) hr
    · show Q9 Z p1 a2 w1 h0 n0 _ T99.heap T99.vm _
      exact ⟨_, _, _, _, rfl, N99, K99, hs99, hv99⟩
theorem d2_0 : decode jdk_42_method_152_code 0 = .ok (.getstatic 38, 3) := by decide +kernel
theorem d2_3 : decode jdk_42_method_152_code 3 = .ok (.ifCond .eq 10, 3) := by decide +kernel
theorem d2_6 : decode jdk_42_method_152_code 6 = .ok (.aload_n 0, 1) := by decide +kernel
theorem d2_7 : decode jdk_42_method_152_code 7 = .ok (.getfield 15, 3) := by decide +kernel
theorem d2_10 : decode jdk_42_method_152_code 10 = .ok (.goto 4, 3) := by decide +kernel
theorem d2_14 : decode jdk_42_method_152_code 14 = .ok (.ireturn, 1) := by decide +kernel
theorem pn_2 : plainName "java/lang/String" = true := by first | (simp [plainName, overriddenIn]; done) | decide +kernel
theorem ef_rm2 (m : MethodId) (a1 : Addr) : entryFrame m #[(.ref a1)] 1 = mkF m 0 #[.val (.ref a1)] [] := by first | (simp [entryFrame, mkF, argsToLocals, Value.category]; done) | rfl
def Q2 (Z : State) (a1 : Addr) (w1 : Int32) (h0 : Heap) (n0 : Nat) (v : Option Value) (h : Heap) (L : List Loc) : Prop := v = some (.int 0) ∧ Fr n0 L ∧ h = h0
set_option maxRecDepth 65536 in
set_option maxHeartbeats 40000000 in
theorem rm2 (l : Launch) (Z : State) (a0 : Array Value) (hw : ∀ d ∈ tables_1, d.before a0 Z = true) (ws : List Jvm.Cond) (a1 : Addr) (w1 : Int32) (h0 : Heap) (n0 : Nat) (Z0 : n0 ≤ h0.size) (S_C : Sta Z h0 "java/lang/String" "COMPACT_STRINGS" "Z" (.int w1)) (c0 : ¬ w1 = 0) (F1 : Fld Z h0 a1 "java/lang/String" "coder" "B" (.int 0)) :
    MetFree l (⟨"java/lang/String", "coder", "()B"⟩ : MethodName) (head1 (Jvm.Cond.code (⟨"java/lang/String", "coder", "()B"⟩ : MethodName) jdk_42_method_152_code 1 (some .byte) :: ws) ({ frames := 0, cells := 0, slots := 0, locals := 0 } : Room)) (fun a U => a = #[(.ref a1)] ∧ Z.Warmed39 U.vm ∧ U.heap = h0) (fun _ _ _ _ _ => True) (fun _ U o U' => ∃ v L, o = .returned v ∧ Q2 Z a1 w1 h0 n0 v U'.heap L ∧ FrameEnd U o U' L ({ frames := 0, cells := 0, slots := 0, locals := 0 } : Room).cells ({ frames := 0, cells := 0, slots := 0, locals := 0 } : Room).slots) := by
  refine MetFree.of_bodySF (plainFor_of_name pn_2) hisR ?_
  intro p e s m args below meth c s₁ Bd hml0 hP hK
  obtain ⟨rfl, hZ, hh⟩ := hP
  have hx := Bd.exec
  have hby := Bd.bytes
  have hml : c.maxLocals = 1 := hml0
  have hown : s.vm.findClass "java/lang/String" = some m.cls := findClass_of_methodNamed Bd.named
  have hnm := (name_of_methodNamed Bd.named Bd.method).1
  have hlk := BodyLoose.notSynchronized Bd
  have hrt := Bd.returns
  have X0 : Stand p l e ({ frames := 0, cells := 0, slots := 0, locals := 0 } : Room) s m #[(.ref a1)] below meth c s₁ [] 0 0 := Stand.of_body Bd
  have e0 : s₁.heap = h0 := by rw [← hh, Bd.state]; rfl
  have N0 := Fr.nil n0
  show OEnds p e below s (Q2 Z a1 w1 h0 n0) ({ frames := 0, cells := 0, slots := 0, locals := 0 } : Room).cells ({ frames := 0, cells := 0, slots := 0, locals := 0 } : Room).slots (s₁.setTop (entryFrame m #[(.ref a1)] 1))
  refine OEnds.go (t' := s₁.setTop (mkF m 0 #[.val (.ref a1)] [])) (fun t k => castTop (ef_rm2 m a1) k) ?_
  obtain ⟨T1, X1, e1, st1⟩ := getS2 X0 hx hZ hown (host := "") (Or.inl (hw _ (List.mem_of_getElem? (i := 19) rfl))) Via.refl e0 S_C (g := (mkF m 0 #[.val (.ref a1)] [])) rfl (hb hby d2_0)
  refine OEnds.go (t' := T1.setTop (mkF m 3 #[.val (.ref a1)] [(.int w1)])) (fun _ k => st1 _ k) ?_
  refine OEnds.go (t' := T1.setTop (mkF m 6 #[.val (.ref a1)] [])) (fun _ k => XS.ifNo X1.here hx rfl (hb hby d2_3) rfl ((if0 _ _).trans (feq c0).1) k) ?_
  refine OEnds.go (t' := T1.setTop (mkF m 7 #[.val (.ref a1)] [(.ref a1)])) (fun _ k => ?_) ?_
  · show Steps p.tables e below (T1.setTop (mkF m 6 #[.val (.ref a1)] [])) _
    refine XS.aloadN X1.here hx rfl (hb hby d2_6) rfl rfl ?_
    show Steps p.tables e below (T1.setTop (mkF m 7 #[.val (.ref a1)] [(.ref a1)])) _
    exact k
  obtain ⟨T2, X2, e2, st2⟩ := getF X1 hx hZ hown (host := "") (Or.inl (hw _ (List.mem_of_getElem? (i := 20) rfl))) Via.refl e1 F1 (g := (mkF m 7 #[.val (.ref a1)] [(.ref a1)])) rfl rfl (hb hby d2_7)
  refine OEnds.go (t' := T2.setTop (mkF m 10 #[.val (.ref a1)] [(.int (0 : Int32))])) (fun _ k => st2 _ k) ?_
  refine OEnds.go (t' := T2.setTop (mkF m 14 #[.val (.ref a1)] [(.int (0 : Int32))])) (fun _ k => ?_) ?_
  · show Steps p.tables e below (T2.setTop (mkF m 10 #[.val (.ref a1)] [(.int (0 : Int32))])) _
    refine XS.goto X2.here hx rfl (pc0 := 10) (pc' := 14) rfl (hb hby d2_10) (by decide) (by decide) ?_
    show Steps p.tables e below (T2.setTop (mkF m 14 #[.val (.ref a1)] [(.int (0 : Int32))])) _
    exact k
  refine OEnds.back X2 hlk (v := (some (.int (0 : Int32)))) (fun h => by rw [hrt] at h; cases h) (fun fs hr => ?_) ?_ (by decide) (by decide)
  · exact retN X2 hx (t := .byte) hrt (by simp) (hb hby d2_14) hr
  · show Q2 Z a1 w1 h0 n0 _ T2.heap _
    rw [e2]
    exact ⟨rfl, N0, rfl⟩
theorem d5_0 : decode jdk_42_method_154_code 0 = .ok (.getstatic 38, 3) := by decide +kernel
theorem d5_3 : decode jdk_42_method_154_code 3 = .ok (.ifCond .eq 14, 3) := by decide +kernel
theorem d5_6 : decode jdk_42_method_154_code 6 = .ok (.aload_n 0, 1) := by decide +kernel
theorem d5_7 : decode jdk_42_method_154_code 7 = .ok (.getfield 15, 3) := by decide +kernel
theorem d5_10 : decode jdk_42_method_154_code 10 = .ok (.ifCond .ne 7, 3) := by decide +kernel
theorem d5_13 : decode jdk_42_method_154_code 13 = .ok (.iconst 1, 1) := by decide +kernel
theorem d5_14 : decode jdk_42_method_154_code 14 = .ok (.goto 4, 3) := by decide +kernel
theorem d5_18 : decode jdk_42_method_154_code 18 = .ok (.ireturn, 1) := by decide +kernel
theorem pn_5 : plainName "java/lang/String" = true := by first | (simp [plainName, overriddenIn]; done) | decide +kernel
theorem ef_rm5 (m : MethodId) (a1 : Addr) : entryFrame m #[(.ref a1)] 1 = mkF m 0 #[.val (.ref a1)] [] := by first | (simp [entryFrame, mkF, argsToLocals, Value.category]; done) | rfl
def Q5 (Z : State) (a1 : Addr) (w1 : Int32) (h0 : Heap) (n0 : Nat) (v : Option Value) (h : Heap) (L : List Loc) : Prop := v = some (.int 1) ∧ Fr n0 L ∧ h = h0
set_option maxRecDepth 65536 in
set_option maxHeartbeats 40000000 in
theorem rm5 (l : Launch) (Z : State) (a0 : Array Value) (hw : ∀ d ∈ tables_1, d.before a0 Z = true) (ws : List Jvm.Cond) (a1 : Addr) (w1 : Int32) (h0 : Heap) (n0 : Nat) (Z0 : n0 ≤ h0.size) (S_C : Sta Z h0 "java/lang/String" "COMPACT_STRINGS" "Z" (.int w1)) (c0 : ¬ w1 = 0) (F1 : Fld Z h0 a1 "java/lang/String" "coder" "B" (.int 0)) :
    MetFree l (⟨"java/lang/String", "isLatin1", "()Z"⟩ : MethodName) (head1 (Jvm.Cond.code (⟨"java/lang/String", "isLatin1", "()Z"⟩ : MethodName) jdk_42_method_154_code 1 (some .boolean) :: ws) ({ frames := 0, cells := 0, slots := 0, locals := 0 } : Room)) (fun a U => a = #[(.ref a1)] ∧ Z.Warmed39 U.vm ∧ U.heap = h0) (fun _ _ _ _ _ => True) (fun _ U o U' => ∃ v L, o = .returned v ∧ Q5 Z a1 w1 h0 n0 v U'.heap L ∧ FrameEnd U o U' L ({ frames := 0, cells := 0, slots := 0, locals := 0 } : Room).cells ({ frames := 0, cells := 0, slots := 0, locals := 0 } : Room).slots) := by
  refine MetFree.of_bodySF (plainFor_of_name pn_5) hisR ?_
  intro p e s m args below meth c s₁ Bd hml0 hP hK
  obtain ⟨rfl, hZ, hh⟩ := hP
  have hx := Bd.exec
  have hby := Bd.bytes
  have hml : c.maxLocals = 1 := hml0
  have hown : s.vm.findClass "java/lang/String" = some m.cls := findClass_of_methodNamed Bd.named
  have hnm := (name_of_methodNamed Bd.named Bd.method).1
  have hlk := BodyLoose.notSynchronized Bd
  have hrt := Bd.returns
  have X0 : Stand p l e ({ frames := 0, cells := 0, slots := 0, locals := 0 } : Room) s m #[(.ref a1)] below meth c s₁ [] 0 0 := Stand.of_body Bd
  have e0 : s₁.heap = h0 := by rw [← hh, Bd.state]; rfl
  have N0 := Fr.nil n0
  show OEnds p e below s (Q5 Z a1 w1 h0 n0) ({ frames := 0, cells := 0, slots := 0, locals := 0 } : Room).cells ({ frames := 0, cells := 0, slots := 0, locals := 0 } : Room).slots (s₁.setTop (entryFrame m #[(.ref a1)] 1))
  refine OEnds.go (t' := s₁.setTop (mkF m 0 #[.val (.ref a1)] [])) (fun t k => castTop (ef_rm5 m a1) k) ?_
  obtain ⟨T1, X1, e1, st1⟩ := getS2 X0 hx hZ hown (host := "") (Or.inl (hw _ (List.mem_of_getElem? (i := 19) rfl))) Via.refl e0 S_C (g := (mkF m 0 #[.val (.ref a1)] [])) rfl (hb hby d5_0)
  refine OEnds.go (t' := T1.setTop (mkF m 3 #[.val (.ref a1)] [(.int w1)])) (fun _ k => st1 _ k) ?_
  refine OEnds.go (t' := T1.setTop (mkF m 6 #[.val (.ref a1)] [])) (fun _ k => XS.ifNo X1.here hx rfl (hb hby d5_3) rfl ((if0 _ _).trans (feq c0).1) k) ?_
  refine OEnds.go (t' := T1.setTop (mkF m 7 #[.val (.ref a1)] [(.ref a1)])) (fun _ k => ?_) ?_
  · show Steps p.tables e below (T1.setTop (mkF m 6 #[.val (.ref a1)] [])) _
    refine XS.aloadN X1.here hx rfl (hb hby d5_6) rfl rfl ?_
    show Steps p.tables e below (T1.setTop (mkF m 7 #[.val (.ref a1)] [(.ref a1)])) _
    exact k
  obtain ⟨T2, X2, e2, st2⟩ := getF X1 hx hZ hown (host := "") (Or.inl (hw _ (List.mem_of_getElem? (i := 20) rfl))) Via.refl e1 F1 (g := (mkF m 7 #[.val (.ref a1)] [(.ref a1)])) rfl rfl (hb hby d5_7)
  refine OEnds.go (t' := T2.setTop (mkF m 10 #[.val (.ref a1)] [(.int (0 : Int32))])) (fun _ k => st2 _ k) ?_
  refine OEnds.go (t' := T2.setTop (mkF m 13 #[.val (.ref a1)] [])) (fun _ k => XS.ifNo X2.here hx rfl (hb hby d5_10) rfl ((if0 _ _).trans (teq rfl).2) k) ?_
  refine OEnds.go (t' := T2.setTop (mkF m 18 #[.val (.ref a1)] [(.int (1 : Int32))])) (fun _ k => ?_) ?_
  · show Steps p.tables e below (T2.setTop (mkF m 13 #[.val (.ref a1)] [])) _
    refine XS.iconst X2.here hx rfl (hb hby d5_13) ?_
    show Steps p.tables e below (T2.setTop (mkF m 14 #[.val (.ref a1)] [(.int (1 : Int32))])) _
    refine XS.goto X2.here hx rfl (pc0 := 14) (pc' := 18) rfl (hb hby d5_14) (by decide) (by decide) ?_
    show Steps p.tables e below (T2.setTop (mkF m 18 #[.val (.ref a1)] [(.int (1 : Int32))])) _
    exact k
  refine OEnds.back X2 hlk (v := (some (.int (1 : Int32)))) (fun h => by rw [hrt] at h; cases h) (fun fs hr => ?_) ?_ (by decide) (by decide)
  · exact retN X2 hx (t := .boolean) hrt (by simp) (hb hby d5_18) hr
  · show Q5 Z a1 w1 h0 n0 _ T2.heap _
    rw [e2]
    exact ⟨rfl, N0, rfl⟩
theorem d1_0 : decode jdk_42_method_54_code 0 = .ok (.aload_n 0, 1) := by decide +kernel
theorem d1_1 : decode jdk_42_method_54_code 1 = .ok (.getfield 9, 3) := by decide +kernel
theorem d1_4 : decode jdk_42_method_54_code 4 = .ok (.arraylength, 1) := by decide +kernel
theorem d1_5 : decode jdk_42_method_54_code 5 = .ok (.aload_n 0, 1) := by decide +kernel
theorem d1_6 : decode jdk_42_method_54_code 6 = .ok (.invokevirtual 335, 3) := by decide +kernel
theorem d1_9 : decode jdk_42_method_54_code 9 = .ok (.ishr, 1) := by decide +kernel
theorem d1_10 : decode jdk_42_method_54_code 10 = .ok (.ireturn, 1) := by decide +kernel
theorem pn_1 : plainName "java/lang/String" = true := by first | (simp [plainName, overriddenIn]; done) | decide +kernel
theorem pd_rm1_0 : parseMethodDescriptor "()B" = some ⟨[], some .byte⟩ := by decide +kernel
theorem ef_rm1 (m : MethodId) (a1 : Addr) : entryFrame m #[(.ref a1)] 1 = mkF m 0 #[.val (.ref a1)] [] := by first | (simp [entryFrame, mkF, argsToLocals, Value.category]; done) | rfl
def Q1 (Z : State) (a1 : Addr) (w1 : Int32) (b1 : Addr) (k1 : ClassId) (xs : List Int32) (h0 : Heap) (n0 : Nat) (v : Option Value) (h : Heap) (L : List Loc) : Prop := v = some (.int (Int32.ofNat xs.length)) ∧ Fr n0 L ∧ h = h0
set_option maxRecDepth 65536 in
set_option maxHeartbeats 40000000 in
theorem rm1 (l : Launch) (Z : State) (a0 : Array Value) (hw : ∀ d ∈ tables_1, d.before a0 Z = true) (ws : List Jvm.Cond) (a1 : Addr) (w1 : Int32) (b1 : Addr) (k1 : ClassId) (xs : List Int32) (h0 : Heap) (n0 : Nat) (Z0 : n0 ≤ h0.size) (S_C : Sta Z h0 "java/lang/String" "COMPACT_STRINGS" "Z" (.int w1)) (c0 : ¬ w1 = 0) (S1 : own_S Z h0 a1 b1 k1 xs) :
    MetFree l (⟨"java/lang/String", "length", "()I"⟩ : MethodName) (head1 (Jvm.Cond.code (⟨"java/lang/String", "length", "()I"⟩ : MethodName) jdk_42_method_54_code 1 (some .int) :: ws) ({ frames := 1, cells := 0, slots := 0, locals := 13 } : Room)) (fun a U => a = #[(.ref a1)] ∧ Z.Warmed39 U.vm ∧ U.heap = h0) (fun _ _ _ _ _ => True) (fun _ U o U' => ∃ v L, o = .returned v ∧ Q1 Z a1 w1 b1 k1 xs h0 n0 v U'.heap L ∧ FrameEnd U o U' L ({ frames := 1, cells := 0, slots := 0, locals := 13 } : Room).cells ({ frames := 1, cells := 0, slots := 0, locals := 13 } : Room).slots) := by
  refine MetFree.of_bodySF (plainFor_of_name pn_1) hisR ?_
  intro p e s m args below meth c s₁ Bd hml0 hP hK
  obtain ⟨rfl, hZ, hh⟩ := hP
  have hx := Bd.exec
  have hby := Bd.bytes
  have hml : c.maxLocals = 1 := hml0
  have hown : s.vm.findClass "java/lang/String" = some m.cls := findClass_of_methodNamed Bd.named
  have hnm := (name_of_methodNamed Bd.named Bd.method).1
  have hlk := BodyLoose.notSynchronized Bd
  have hrt := Bd.returns
  have X0 : Stand p l e ({ frames := 1, cells := 0, slots := 0, locals := 13 } : Room) s m #[(.ref a1)] below meth c s₁ [] 0 0 := Stand.of_body Bd
  have e0 : s₁.heap = h0 := by rw [← hh, Bd.state]; rfl
  have N0 := Fr.nil n0
  show OEnds p e below s (Q1 Z a1 w1 b1 k1 xs h0 n0) ({ frames := 1, cells := 0, slots := 0, locals := 13 } : Room).cells ({ frames := 1, cells := 0, slots := 0, locals := 13 } : Room).slots (s₁.setTop (entryFrame m #[(.ref a1)] 1))
  refine OEnds.go (t' := s₁.setTop (mkF m 0 #[.val (.ref a1)] [])) (fun t k => castTop (ef_rm1 m a1) k) ?_
  refine OEnds.go (t' := s₁.setTop (mkF m 1 #[.val (.ref a1)] [(.ref a1)])) (fun _ k => ?_) ?_
  · show Steps p.tables e below (s₁.setTop (mkF m 0 #[.val (.ref a1)] [])) _
    refine XS.aloadN X0.here hx rfl (hb hby d1_0) rfl rfl ?_
    show Steps p.tables e below (s₁.setTop (mkF m 1 #[.val (.ref a1)] [(.ref a1)])) _
    exact k
  obtain ⟨T1, X1, e1, st1⟩ := getF X0 hx hZ hown (host := "") (Or.inl (hw _ (List.mem_of_getElem? (i := 13) rfl))) Via.refl e0 S1.2.2.1 (g := (mkF m 1 #[.val (.ref a1)] [(.ref a1)])) rfl rfl (hb hby d1_1)
  refine OEnds.go (t' := T1.setTop (mkF m 4 #[.val (.ref a1)] [(.ref b1)])) (fun _ k => st1 _ k) ?_
  obtain ⟨cl2, Ar2, hl2⟩ := own_blen S1.2.2.2
  refine OEnds.go (t' := T1.setTop (mkF m 5 #[.val (.ref a1)] [(.int cl2.slots.size.toInt32)])) (fun _ k => X1.arraylength hx (by rw [e1]; exact Ar2.1) (State.isArrayOf_alike hZ.alike Ar2.2.1) (g := (mkF m 4 #[.val (.ref a1)] [(.ref b1)])) rfl rfl (hb hby d1_4) _ k) ?_
  rw [hl2]
  refine OEnds.go (t' := T1.setTop (mkF m 6 #[.val (.ref a1)] [(.ref a1), (.int (Int32.ofNat xs.length))])) (fun _ k => ?_) ?_
  · show Steps p.tables e below (T1.setTop (mkF m 5 #[.val (.ref a1)] [(.int (Int32.ofNat xs.length))])) _
    refine XS.aloadN X1.here hx rfl (hb hby d1_5) rfl rfl ?_
    show Steps p.tables e below (T1.setTop (mkF m 6 #[.val (.ref a1)] [(.ref a1), (.int (Int32.ofNat xs.length))])) _
    exact k
  obtain ⟨cq3, kq3, q3a, q3b, q3c⟩ := isOf hZ e1 S1.1
  obtain ⟨_, _, ⟨T3, L3, k3, n3⟩, -, X3, ⟨Lc3, hQ3, l3, y3, z3⟩, st3⟩ := X1.virtualBack hx (y := (⟨"java/lang/String", "coder", "()B"⟩ : MethodName)) (z := (⟨"java/lang/String", "coder", "()B"⟩ : MethodName)) hown (mvT hZ (hw _ (List.mem_of_getElem? (i := 14) rfl))) (mvT hZ (hw _ (List.mem_of_getElem? (i := 15) rfl))) (notFace_of_selects (args := #[]) (mvT hZ (hw _ (List.mem_of_getElem? (i := 17) rfl)))) (mvT hZ (hw _ (List.mem_of_getElem? (i := 17) rfl))) (mvT hZ (hw _ (List.mem_of_getElem? (i := 16) rfl))) (by decide) (backOf (W := 1) (rm2 l Z a0 hw [] a1 w1 h0 n0 Z0 S_C c0 S1.2.1) hZ (hw _ (List.mem_of_getElem? (i := 18) rfl)) (hw _ (List.mem_of_getElem? (i := 1) rfl)) (by decide) (by decide)) q3a q3c (g := (mkF m 6 #[.val (.ref a1)] [(.ref a1), (.int (Int32.ofNat xs.length))])) rfl (by rw [hml]; rfl) (Steps.refl _) (argsL := []) (rest := [(.int (Int32.ofNat xs.length))]) (lenOf pd_rm1_0 rfl) rfl (by show 2 * 0 + _ ≤ _; exact Nat.le_of_eq rfl) (hb hby d1_6) (fun _ _ => ⟨rfl, e1, (by decide : 0 + 0 ≤ _), (by decide : 0 + 0 ≤ _)⟩)
  dsimp only [Pt.U, Pt.locs, Pt.cells, Pt.slots] at X3 l3 y3 z3 st3 hQ3
  subst l3 y3 z3
  obtain ⟨rfl, N3q, eh⟩ := hQ3
  have N3 := Fr.app N0 N3q
  have eh3 := eh
  refine OEnds.go (t' := T3.setTop (mkF m 9 #[.val (.ref a1)] [(.int (0 : Int32)), (.int (Int32.ofNat xs.length))])) (fun _ k => st3.trans k) ?_
  refine OEnds.go (t' := T3.setTop (mkF m 10 #[.val (.ref a1)] [(.int ((Int32.ofNat xs.length) >>> ((0 : Int32) &&& 31)))])) (fun _ k => ?_) ?_
  · show Steps p.tables e below (T3.setTop (mkF m 9 #[.val (.ref a1)] [(.int (0 : Int32)), (.int (Int32.ofNat xs.length))])) _
    refine XS.ishr X3.here hx rfl (hb hby d1_9) rfl ?_
    show Steps p.tables e below (T3.setTop (mkF m 10 #[.val (.ref a1)] [(.int ((Int32.ofNat xs.length) >>> ((0 : Int32) &&& 31)))])) _
    exact k
  refine OEnds.back X3 hlk (v := (some (.int ((Int32.ofNat xs.length) >>> ((0 : Int32) &&& 31))))) (fun h => by rw [hrt] at h; cases h) (fun fs hr => ?_) ?_ (by decide) (by decide)
  · exact retI X3 hx hrt (hb hby d1_10) hr
  · show Q1 Z a1 w1 b1 k1 xs h0 n0 _ T3.heap _
    rw [eh3]
    exact ⟨by rw [own_shr0], N3, rfl⟩
theorem d17_0 : decode jdk_43_method_13_code 0 = .ok (.aload_n 0, 1) := by decide +kernel
theorem d17_1 : decode jdk_43_method_13_code 1 = .ok (.arraylength, 1) := by decide +kernel
theorem d17_2 : decode jdk_43_method_13_code 2 = .ok (.aload_n 1, 1) := by decide +kernel
theorem d17_3 : decode jdk_43_method_13_code 3 = .ok (.arraylength, 1) := by decide +kernel
theorem d17_4 : decode jdk_43_method_13_code 4 = .ok (.if_icmp .ne 30, 3) := by decide +kernel
theorem d17_7 : decode jdk_43_method_13_code 7 = .ok (.iconst 0, 1) := by decide +kernel
theorem d17_8 : decode jdk_43_method_13_code 8 = .ok (.istore_n 2, 1) := by decide +kernel
theorem d17_9 : decode jdk_43_method_13_code 9 = .ok (.iload_n 2, 1) := by decide +kernel
theorem d17_10 : decode jdk_43_method_13_code 10 = .ok (.aload_n 0, 1) := by decide +kernel
theorem d17_11 : decode jdk_43_method_13_code 11 = .ok (.arraylength, 1) := by decide +kernel
theorem d17_12 : decode jdk_43_method_13_code 12 = .ok (.if_icmp .ge 20, 3) := by decide +kernel
theorem d17_15 : decode jdk_43_method_13_code 15 = .ok (.aload_n 0, 1) := by decide +kernel
theorem d17_16 : decode jdk_43_method_13_code 16 = .ok (.iload_n 2, 1) := by decide +kernel
theorem d17_17 : decode jdk_43_method_13_code 17 = .ok (.baload, 1) := by decide +kernel
theorem d17_18 : decode jdk_43_method_13_code 18 = .ok (.aload_n 1, 1) := by decide +kernel
theorem d17_19 : decode jdk_43_method_13_code 19 = .ok (.iload_n 2, 1) := by decide +kernel
theorem d17_20 : decode jdk_43_method_13_code 20 = .ok (.baload, 1) := by decide +kernel
theorem d17_21 : decode jdk_43_method_13_code 21 = .ok (.if_icmp .eq 5, 3) := by decide +kernel
theorem d17_24 : decode jdk_43_method_13_code 24 = .ok (.iconst 0, 1) := by decide +kernel
theorem d17_25 : decode jdk_43_method_13_code 25 = .ok (.ireturn, 1) := by decide +kernel
theorem d17_26 : decode jdk_43_method_13_code 26 = .ok (.iinc 2 1, 3) := by decide +kernel
theorem d17_29 : decode jdk_43_method_13_code 29 = .ok (.goto (-20), 3) := by decide +kernel
theorem d17_32 : decode jdk_43_method_13_code 32 = .ok (.iconst 1, 1) := by decide +kernel
theorem d17_33 : decode jdk_43_method_13_code 33 = .ok (.ireturn, 1) := by decide +kernel
theorem d17_34 : decode jdk_43_method_13_code 34 = .ok (.iconst 0, 1) := by decide +kernel
theorem d17_35 : decode jdk_43_method_13_code 35 = .ok (.ireturn, 1) := by decide +kernel
theorem pn_17 : plainName "java/lang/StringLatin1" = true := by first | (simp [plainName, overriddenIn]; done) | decide +kernel
theorem ef_rm17 (m : MethodId) (b1 : Addr) (b2 : Addr) : entryFrame m #[(.ref b1), (.ref b2)] 3 = mkF m 0 #[.val (.ref b1), .val (.ref b2), .unset] [] := by first | (simp [entryFrame, mkF, argsToLocals, Value.category]; done) | rfl
def Q17 (Z : State) (b1 : Addr) (b2 : Addr) (k1 : ClassId) (k2 : ClassId) (xs : List Int32) (ys : List Int32) (h0 : Heap) (n0 : Nat) (v : Option Value) (h : Heap) (L : List Loc) : Prop := v = some (.int (own_eqL xs ys)) ∧ Fr n0 L ∧ h = h0
set_option maxRecDepth 65536 in
set_option maxHeartbeats 40000000 in
theorem rm17 (l : Launch) (Z : State) (a0 : Array Value) (hw : ∀ d ∈ tables_1, d.before a0 Z = true) (ws : List Jvm.Cond) (b1 : Addr) (b2 : Addr) (k1 : ClassId) (k2 : ClassId) (xs : List Int32) (ys : List Int32) (h0 : Heap) (n0 : Nat) (Z0 : n0 ≤ h0.size) (V1 : own_By Z h0 b1 k1 xs) (V2 : own_By Z h0 b2 k2 ys) :
    MetFree l (⟨"java/lang/StringLatin1", "equals", "([B[B)Z"⟩ : MethodName) (head1 (Jvm.Cond.code (⟨"java/lang/StringLatin1", "equals", "([B[B)Z"⟩ : MethodName) jdk_43_method_13_code 3 (some .boolean) :: ws) ({ frames := 0, cells := 0, slots := 0, locals := 0 } : Room)) (fun a U => a = #[(.ref b1), (.ref b2)] ∧ Z.Warmed39 U.vm ∧ U.heap = h0) (fun _ _ _ _ _ => True) (fun _ U o U' => ∃ v L, o = .returned v ∧ Q17 Z b1 b2 k1 k2 xs ys h0 n0 v U'.heap L ∧ FrameEnd U o U' L ({ frames := 0, cells := 0, slots := 0, locals := 0 } : Room).cells ({ frames := 0, cells := 0, slots := 0, locals := 0 } : Room).slots) := by
  refine MetFree.of_bodySF (plainFor_of_name pn_17) hisR ?_
  intro p e s m args below meth c s₁ Bd hml0 hP hK
  obtain ⟨rfl, hZ, hh⟩ := hP
  have hx := Bd.exec
  have hby := Bd.bytes
  have hml : c.maxLocals = 3 := hml0
  have hown : s.vm.findClass "java/lang/StringLatin1" = some m.cls := findClass_of_methodNamed Bd.named
  have hnm := (name_of_methodNamed Bd.named Bd.method).1
  have hlk := BodyLoose.notSynchronized Bd
  have hrt := Bd.returns
  have X0 : Stand p l e ({ frames := 0, cells := 0, slots := 0, locals := 0 } : Room) s m #[(.ref b1), (.ref b2)] below meth c s₁ [] 0 0 := Stand.of_body Bd
  have e0 : s₁.heap = h0 := by rw [← hh, Bd.state]; rfl
  have N0 := Fr.nil n0
  show OEnds p e below s (Q17 Z b1 b2 k1 k2 xs ys h0 n0) ({ frames := 0, cells := 0, slots := 0, locals := 0 } : Room).cells ({ frames := 0, cells := 0, slots := 0, locals := 0 } : Room).slots (s₁.setTop (entryFrame m #[(.ref b1), (.ref b2)] 3))
  refine OEnds.go (t' := s₁.setTop (mkF m 0 #[.val (.ref b1), .val (.ref b2), .unset] [])) (fun t k => castTop (ef_rm17 m b1 b2) k) ?_
  refine OEnds.go (t' := s₁.setTop (mkF m 1 #[.val (.ref b1), .val (.ref b2), .unset] [(.ref b1)])) (fun _ k => ?_) ?_
  · show Steps p.tables e below (s₁.setTop (mkF m 0 #[.val (.ref b1), .val (.ref b2), .unset] [])) _
    refine XS.aloadN X0.here hx rfl (hb hby d17_0) rfl rfl ?_
    show Steps p.tables e below (s₁.setTop (mkF m 1 #[.val (.ref b1), .val (.ref b2), .unset] [(.ref b1)])) _
    exact k
  obtain ⟨cl1, Ar1, hl1⟩ := own_blen V1
  refine OEnds.go (t' := s₁.setTop (mkF m 2 #[.val (.ref b1), .val (.ref b2), .unset] [(.int cl1.slots.size.toInt32)])) (fun _ k => X0.arraylength hx (by rw [e0]; exact Ar1.1) (State.isArrayOf_alike hZ.alike Ar1.2.1) (g := (mkF m 1 #[.val (.ref b1), .val (.ref b2), .unset] [(.ref b1)])) rfl rfl (hb hby d17_1) _ k) ?_
  rw [hl1]
  refine OEnds.go (t' := s₁.setTop (mkF m 3 #[.val (.ref b1), .val (.ref b2), .unset] [(.ref b2), (.int (Int32.ofNat xs.length))])) (fun _ k => ?_) ?_
  · show Steps p.tables e below (s₁.setTop (mkF m 2 #[.val (.ref b1), .val (.ref b2), .unset] [(.int (Int32.ofNat xs.length))])) _
    refine XS.aloadN X0.here hx rfl (hb hby d17_2) rfl rfl ?_
    show Steps p.tables e below (s₁.setTop (mkF m 3 #[.val (.ref b1), .val (.ref b2), .unset] [(.ref b2), (.int (Int32.ofNat xs.length))])) _
    exact k
  obtain ⟨cl2, Ar2, hl2⟩ := own_blen V2
  refine OEnds.go (t' := s₁.setTop (mkF m 4 #[.val (.ref b1), .val (.ref b2), .unset] [(.int cl2.slots.size.toInt32), (.int (Int32.ofNat xs.length))])) (fun _ k => X0.arraylength hx (by rw [e0]; exact Ar2.1) (State.isArrayOf_alike hZ.alike Ar2.2.1) (g := (mkF m 3 #[.val (.ref b1), .val (.ref b2), .unset] [(.ref b2), (.int (Int32.ofNat xs.length))])) rfl rfl (hb hby d17_3) _ k) ?_
  rw [hl2]
  by_cases h4 : (Int32.ofNat xs.length) = (Int32.ofNat ys.length)
  · refine OEnds.go (t' := s₁.setTop (mkF m 7 #[.val (.ref b1), .val (.ref b2), .unset] [])) (fun _ k => XS.icmpNo X0.here hx rfl (hb hby d17_4) rfl (teq h4).2 k) ?_
    have hlen : xs.length = ys.length := own_ofNat_inj V1.2 V2.2 h4
    refine OEnds.cut (fun En => ∀ (d i : Nat), i + d = xs.length → (∀ j, j < i → xs.getD j 0 = ys.getD j 0) → En (s₁.setTop (mkF m 9 #[.val (.ref b1), .val (.ref b2), .val (.int (Int32.ofNat i))] []))) ?_ (fun K9 => ?_)
    · intro d
      induction d with
      | zero => 
        intro i hi ht
        refine OEnds.go (t' := s₁.setTop (mkF m 11 #[.val (.ref b1), .val (.ref b2), .val (.int (Int32.ofNat i))] [(.ref b1), (.int (Int32.ofNat i))])) (fun _ k => ?_) ?_
        · show Steps p.tables e below (s₁.setTop (mkF m 9 #[.val (.ref b1), .val (.ref b2), .val (.int (Int32.ofNat i))] [])) _
          refine XS.iloadN X0.here hx rfl (hb hby d17_9) rfl ?_
          show Steps p.tables e below (s₁.setTop (mkF m 10 #[.val (.ref b1), .val (.ref b2), .val (.int (Int32.ofNat i))] [(.int (Int32.ofNat i))])) _
          refine XS.aloadN X0.here hx rfl (hb hby d17_10) rfl rfl ?_
          show Steps p.tables e below (s₁.setTop (mkF m 11 #[.val (.ref b1), .val (.ref b2), .val (.int (Int32.ofNat i))] [(.ref b1), (.int (Int32.ofNat i))])) _
          exact k
        obtain ⟨cl3, Ar3, hl3⟩ := own_blen V1
        refine OEnds.go (t' := s₁.setTop (mkF m 12 #[.val (.ref b1), .val (.ref b2), .val (.int (Int32.ofNat i))] [(.int cl3.slots.size.toInt32), (.int (Int32.ofNat i))])) (fun _ k => X0.arraylength hx (by rw [e0]; exact Ar3.1) (State.isArrayOf_alike hZ.alike Ar3.2.1) (g := (mkF m 11 #[.val (.ref b1), .val (.ref b2), .val (.int (Int32.ofNat i))] [(.ref b1), (.int (Int32.ofNat i))])) rfl rfl (hb hby d17_11) _ k) ?_
        rw [hl3]
        refine OEnds.go (t' := s₁.setTop (mkF m 32 #[.val (.ref b1), .val (.ref b2), .val (.int (Int32.ofNat i))] [])) (fun _ k => XS.icmpYes X0.here hx rfl (pc0 := 12) (pc' := 32) rfl (hb hby d17_12) rfl (flt (fun q => absurd ((own_ofNat_lt (by have := V1.2; omega) V1.2).mp q) (by omega))).2.1 (by decide) (by decide) k) ?_
        refine OEnds.go (t' := s₁.setTop (mkF m 33 #[.val (.ref b1), .val (.ref b2), .val (.int (Int32.ofNat i))] [(.int (1 : Int32))])) (fun _ k => ?_) ?_
        · show Steps p.tables e below (s₁.setTop (mkF m 32 #[.val (.ref b1), .val (.ref b2), .val (.int (Int32.ofNat i))] [])) _
          refine XS.iconst X0.here hx rfl (hb hby d17_32) ?_
          show Steps p.tables e below (s₁.setTop (mkF m 33 #[.val (.ref b1), .val (.ref b2), .val (.int (Int32.ofNat i))] [(.int (1 : Int32))])) _
          exact k
        refine OEnds.back X0 hlk (v := (some (.int (1 : Int32)))) (fun h => by rw [hrt] at h; cases h) (fun fs hr => ?_) ?_ (by decide) (by decide)
        · exact retN X0 hx (t := .boolean) hrt (by simp) (hb hby d17_33) hr
        · show Q17 Z b1 b2 k1 k2 xs ys h0 n0 _ s₁.heap _
          rw [e0]
          exact ⟨by rw [own_eqL, if_pos (own_list_ext hlen (fun j hj => ht j (by omega)))], N0, rfl⟩
      | succ d ih => 
        intro i hi ht
        refine OEnds.go (t' := s₁.setTop (mkF m 11 #[.val (.ref b1), .val (.ref b2), .val (.int (Int32.ofNat i))] [(.ref b1), (.int (Int32.ofNat i))])) (fun _ k => ?_) ?_
        · show Steps p.tables e below (s₁.setTop (mkF m 9 #[.val (.ref b1), .val (.ref b2), .val (.int (Int32.ofNat i))] [])) _
          refine XS.iloadN X0.here hx rfl (hb hby d17_9) rfl ?_
          show Steps p.tables e below (s₁.setTop (mkF m 10 #[.val (.ref b1), .val (.ref b2), .val (.int (Int32.ofNat i))] [(.int (Int32.ofNat i))])) _
          refine XS.aloadN X0.here hx rfl (hb hby d17_10) rfl rfl ?_
          show Steps p.tables e below (s₁.setTop (mkF m 11 #[.val (.ref b1), .val (.ref b2), .val (.int (Int32.ofNat i))] [(.ref b1), (.int (Int32.ofNat i))])) _
          exact k
        obtain ⟨cl4, Ar4, hl4⟩ := own_blen V1
        refine OEnds.go (t' := s₁.setTop (mkF m 12 #[.val (.ref b1), .val (.ref b2), .val (.int (Int32.ofNat i))] [(.int cl4.slots.size.toInt32), (.int (Int32.ofNat i))])) (fun _ k => X0.arraylength hx (by rw [e0]; exact Ar4.1) (State.isArrayOf_alike hZ.alike Ar4.2.1) (g := (mkF m 11 #[.val (.ref b1), .val (.ref b2), .val (.int (Int32.ofNat i))] [(.ref b1), (.int (Int32.ofNat i))])) rfl rfl (hb hby d17_11) _ k) ?_
        rw [hl4]
        refine OEnds.go (t' := s₁.setTop (mkF m 15 #[.val (.ref b1), .val (.ref b2), .val (.int (Int32.ofNat i))] [])) (fun _ k => XS.icmpNo X0.here hx rfl (hb hby d17_12) rfl (tlt ((own_ofNat_lt (by have := V1.2; omega) V1.2).mpr (by omega))).2.1 k) ?_
        refine OEnds.go (t' := s₁.setTop (mkF m 17 #[.val (.ref b1), .val (.ref b2), .val (.int (Int32.ofNat i))] [(.int (Int32.ofNat i)), (.ref b1)])) (fun _ k => ?_) ?_
        · show Steps p.tables e below (s₁.setTop (mkF m 15 #[.val (.ref b1), .val (.ref b2), .val (.int (Int32.ofNat i))] [])) _
          refine XS.aloadN X0.here hx rfl (hb hby d17_15) rfl rfl ?_
          show Steps p.tables e below (s₁.setTop (mkF m 16 #[.val (.ref b1), .val (.ref b2), .val (.int (Int32.ofNat i))] [(.ref b1)])) _
          refine XS.iloadN X0.here hx rfl (hb hby d17_16) rfl ?_
          show Steps p.tables e below (s₁.setTop (mkF m 17 #[.val (.ref b1), .val (.ref b2), .val (.int (Int32.ofNat i))] [(.int (Int32.ofNat i)), (.ref b1)])) _
          exact k
        obtain ⟨cl5, Ar5, hin5, hat5⟩ := own_byte V1 (i := i) (by omega)
        refine OEnds.go (t' := s₁.setTop (mkF m 18 #[.val (.ref b1), .val (.ref b2), .val (.int (Int32.ofNat i))] [(.int (xs.getD i 0))])) (fun _ k => X0.baloadBytes hx (j := (Int32.ofNat i)) (v := (.int (xs.getD i 0))) (by rw [e0]; exact Ar5.1) (State.isArrayOf_alike hZ.alike Ar5.2.1) Ar5.2.2 hin5 hat5 (g := (mkF m 17 #[.val (.ref b1), .val (.ref b2), .val (.int (Int32.ofNat i))] [(.int (Int32.ofNat i)), (.ref b1)])) rfl rfl (hb hby d17_17) _ k) ?_
        refine OEnds.go (t' := s₁.setTop (mkF m 20 #[.val (.ref b1), .val (.ref b2), .val (.int (Int32.ofNat i))] [(.int (Int32.ofNat i)), (.ref b2), (.int (xs.getD i 0))])) (fun _ k => ?_) ?_
        · show Steps p.tables e below (s₁.setTop (mkF m 18 #[.val (.ref b1), .val (.ref b2), .val (.int (Int32.ofNat i))] [(.int (xs.getD i 0))])) _
          refine XS.aloadN X0.here hx rfl (hb hby d17_18) rfl rfl ?_
          show Steps p.tables e below (s₁.setTop (mkF m 19 #[.val (.ref b1), .val (.ref b2), .val (.int (Int32.ofNat i))] [(.ref b2), (.int (xs.getD i 0))])) _
          refine XS.iloadN X0.here hx rfl (hb hby d17_19) rfl ?_
          show Steps p.tables e below (s₁.setTop (mkF m 20 #[.val (.ref b1), .val (.ref b2), .val (.int (Int32.ofNat i))] [(.int (Int32.ofNat i)), (.ref b2), (.int (xs.getD i 0))])) _
          exact k
        obtain ⟨cl6, Ar6, hin6, hat6⟩ := own_byte V2 (i := i) (by omega)
        refine OEnds.go (t' := s₁.setTop (mkF m 21 #[.val (.ref b1), .val (.ref b2), .val (.int (Int32.ofNat i))] [(.int (ys.getD i 0)), (.int (xs.getD i 0))])) (fun _ k => X0.baloadBytes hx (j := (Int32.ofNat i)) (v := (.int (ys.getD i 0))) (by rw [e0]; exact Ar6.1) (State.isArrayOf_alike hZ.alike Ar6.2.1) Ar6.2.2 hin6 hat6 (g := (mkF m 20 #[.val (.ref b1), .val (.ref b2), .val (.int (Int32.ofNat i))] [(.int (Int32.ofNat i)), (.ref b2), (.int (xs.getD i 0))])) rfl rfl (hb hby d17_20) _ k) ?_
        by_cases h21 : (xs.getD i 0) = (ys.getD i 0)
        · refine OEnds.go (t' := s₁.setTop (mkF m 26 #[.val (.ref b1), .val (.ref b2), .val (.int (Int32.ofNat i))] [])) (fun _ k => XS.icmpYes X0.here hx rfl (pc0 := 21) (pc' := 26) rfl (hb hby d17_21) rfl (teq h21).1 (by decide) (by decide) k) ?_
          refine OEnds.go (t' := s₁.setTop (mkF m 9 #[.val (.ref b1), .val (.ref b2), .val (.int ((Int32.ofNat i) + (1 : Int32)))] [])) (fun _ k => ?_) ?_
          · show Steps p.tables e below (s₁.setTop (mkF m 26 #[.val (.ref b1), .val (.ref b2), .val (.int (Int32.ofNat i))] [])) _
            refine XS.iinc X0.here hx rfl (hb hby d17_26) rfl (l' := #[.val (.ref b1), .val (.ref b2), .val (.int ((Int32.ofNat i) + (1 : Int32)))]) rfl ?_
            show Steps p.tables e below (s₁.setTop (mkF m 29 #[.val (.ref b1), .val (.ref b2), .val (.int ((Int32.ofNat i) + (1 : Int32)))] [])) _
            refine XS.goto X0.here hx rfl (pc0 := 29) (pc' := 9) rfl (hb hby d17_29) (by decide) (by decide) ?_
            show Steps p.tables e below (s₁.setTop (mkF m 9 #[.val (.ref b1), .val (.ref b2), .val (.int ((Int32.ofNat i) + (1 : Int32)))] [])) _
            exact k
          rw [own_succ]
          exact ih (i + 1) (by omega) (fun j hj => by
            by_cases e : j = i
            · rw [e]; exact h21
            · exact ht j (by omega))
        · refine OEnds.go (t' := s₁.setTop (mkF m 24 #[.val (.ref b1), .val (.ref b2), .val (.int (Int32.ofNat i))] [])) (fun _ k => XS.icmpNo X0.here hx rfl (hb hby d17_21) rfl (feq h21).1 k) ?_
          refine OEnds.go (t' := s₁.setTop (mkF m 25 #[.val (.ref b1), .val (.ref b2), .val (.int (Int32.ofNat i))] [(.int (0 : Int32))])) (fun _ k => ?_) ?_
          · show Steps p.tables e below (s₁.setTop (mkF m 24 #[.val (.ref b1), .val (.ref b2), .val (.int (Int32.ofNat i))] [])) _
            refine XS.iconst X0.here hx rfl (hb hby d17_24) ?_
            show Steps p.tables e below (s₁.setTop (mkF m 25 #[.val (.ref b1), .val (.ref b2), .val (.int (Int32.ofNat i))] [(.int (0 : Int32))])) _
            exact k
          refine OEnds.back X0 hlk (v := (some (.int (0 : Int32)))) (fun h => by rw [hrt] at h; cases h) (fun fs hr => ?_) ?_ (by decide) (by decide)
          · exact retN X0 hx (t := .boolean) hrt (by simp) (hb hby d17_25) hr
          · show Q17 Z b1 b2 k1 k2 xs ys h0 n0 _ s₁.heap _
            rw [e0]
            exact ⟨by rw [own_eqL, if_neg (fun q => h21 (by rw [q]))], N0, rfl⟩
    refine OEnds.go (t' := s₁.setTop (mkF m 9 #[.val (.ref b1), .val (.ref b2), .val (.int (0 : Int32))] [])) (fun _ k => ?_) ?_
    · show Steps p.tables e below (s₁.setTop (mkF m 7 #[.val (.ref b1), .val (.ref b2), .unset] [])) _
      refine XS.iconst X0.here hx rfl (hb hby d17_7) ?_
      show Steps p.tables e below (s₁.setTop (mkF m 8 #[.val (.ref b1), .val (.ref b2), .unset] [(.int (0 : Int32))])) _
      refine XS.istoreN X0.here hx rfl (hb hby d17_8) rfl (l' := #[.val (.ref b1), .val (.ref b2), .val (.int (0 : Int32))]) rfl ?_
      show Steps p.tables e below (s₁.setTop (mkF m 9 #[.val (.ref b1), .val (.ref b2), .val (.int (0 : Int32))] [])) _
      exact k
    exact K9 xs.length 0 (by omega) (fun j hj => absurd hj (Nat.not_lt_zero j))
  · refine OEnds.go (t' := s₁.setTop (mkF m 34 #[.val (.ref b1), .val (.ref b2), .unset] [])) (fun _ k => XS.icmpYes X0.here hx rfl (pc0 := 4) (pc' := 34) rfl (hb hby d17_4) rfl (feq h4).2 (by decide) (by decide) k) ?_
    refine OEnds.go (t' := s₁.setTop (mkF m 35 #[.val (.ref b1), .val (.ref b2), .unset] [(.int (0 : Int32))])) (fun _ k => ?_) ?_
    · show Steps p.tables e below (s₁.setTop (mkF m 34 #[.val (.ref b1), .val (.ref b2), .unset] [])) _
      refine XS.iconst X0.here hx rfl (hb hby d17_34) ?_
      show Steps p.tables e below (s₁.setTop (mkF m 35 #[.val (.ref b1), .val (.ref b2), .unset] [(.int (0 : Int32))])) _
      exact k
    refine OEnds.back X0 hlk (v := (some (.int (0 : Int32)))) (fun h => by rw [hrt] at h; cases h) (fun fs hr => ?_) ?_ (by decide) (by decide)
    · exact retN X0 hx (t := .boolean) hrt (by simp) (hb hby d17_35) hr
    · show Q17 Z b1 b2 k1 k2 xs ys h0 n0 _ s₁.heap _
      rw [e0]
      exact ⟨by rw [own_eqL, if_neg (fun q => h4 (by rw [q]))], N0, rfl⟩
theorem d16_0 : decode jdk_42_method_66_code 0 = .ok (.aload_n 0, 1) := by decide +kernel
theorem d16_1 : decode jdk_42_method_66_code 1 = .ok (.aload_n 1, 1) := by decide +kernel
theorem d16_2 : decode jdk_42_method_66_code 2 = .ok (.if_acmp .ne 5, 3) := by decide +kernel
theorem d16_5 : decode jdk_42_method_66_code 5 = .ok (.iconst 1, 1) := by decide +kernel
theorem d16_6 : decode jdk_42_method_66_code 6 = .ok (.ireturn, 1) := by decide +kernel
theorem d16_7 : decode jdk_42_method_66_code 7 = .ok (.aload_n 1, 1) := by decide +kernel
theorem d16_8 : decode jdk_42_method_66_code 8 = .ok (.instanceof 10, 3) := by decide +kernel
theorem d16_11 : decode jdk_42_method_66_code 11 = .ok (.ifCond .eq 43, 3) := by decide +kernel
theorem d16_14 : decode jdk_42_method_66_code 14 = .ok (.aload_n 1, 1) := by decide +kernel
theorem d16_15 : decode jdk_42_method_66_code 15 = .ok (.checkcast 10, 3) := by decide +kernel
theorem d16_18 : decode jdk_42_method_66_code 18 = .ok (.astore_n 2, 1) := by decide +kernel
theorem d16_19 : decode jdk_42_method_66_code 19 = .ok (.getstatic 38, 3) := by decide +kernel
theorem d16_22 : decode jdk_42_method_66_code 22 = .ok (.ifCond .eq 14, 3) := by decide +kernel
theorem d16_25 : decode jdk_42_method_66_code 25 = .ok (.aload_n 0, 1) := by decide +kernel
theorem d16_26 : decode jdk_42_method_66_code 26 = .ok (.getfield 15, 3) := by decide +kernel
theorem d16_29 : decode jdk_42_method_66_code 29 = .ok (.aload_n 2, 1) := by decide +kernel
theorem d16_30 : decode jdk_42_method_66_code 30 = .ok (.getfield 15, 3) := by decide +kernel
theorem d16_33 : decode jdk_42_method_66_code 33 = .ok (.if_icmp .ne 21, 3) := by decide +kernel
theorem d16_36 : decode jdk_42_method_66_code 36 = .ok (.aload_n 0, 1) := by decide +kernel
theorem d16_37 : decode jdk_42_method_66_code 37 = .ok (.getfield 9, 3) := by decide +kernel
theorem d16_40 : decode jdk_42_method_66_code 40 = .ok (.aload_n 2, 1) := by decide +kernel
theorem d16_41 : decode jdk_42_method_66_code 41 = .ok (.getfield 9, 3) := by decide +kernel
theorem d16_44 : decode jdk_42_method_66_code 44 = .ok (.invokestatic 541, 3) := by decide +kernel
theorem d16_47 : decode jdk_42_method_66_code 47 = .ok (.ifCond .eq 7, 3) := by decide +kernel
theorem d16_50 : decode jdk_42_method_66_code 50 = .ok (.iconst 1, 1) := by decide +kernel
theorem d16_51 : decode jdk_42_method_66_code 51 = .ok (.goto 4, 3) := by decide +kernel
theorem d16_54 : decode jdk_42_method_66_code 54 = .ok (.iconst 0, 1) := by decide +kernel
theorem d16_55 : decode jdk_42_method_66_code 55 = .ok (.ireturn, 1) := by decide +kernel
theorem pn_16 : plainName "java/lang/String" = true := by first | (simp [plainName, overriddenIn]; done) | decide +kernel
theorem pd_rm16_0 : parseMethodDescriptor "([B[B)Z" = some ⟨[(.array .byte), (.array .byte)], some .boolean⟩ := by decide +kernel
theorem ef_rm16 (m : MethodId) (a1 : Addr) (a2 : Addr) : entryFrame m #[(.ref a1), (.ref a2)] 3 = mkF m 0 #[.val (.ref a1), .val (.ref a2), .unset] [] := by first | (simp [entryFrame, mkF, argsToLocals, Value.category]; done) | rfl
def Q16 (Z : State) (a1 : Addr) (a2 : Addr) (w1 : Int32) (b1 : Addr) (b2 : Addr) (k1 : ClassId) (k2 : ClassId) (xs : List Int32) (ys : List Int32) (h0 : Heap) (n0 : Nat) (v : Option Value) (h : Heap) (L : List Loc) : Prop := v = some (.int (own_eqL xs ys)) ∧ Fr n0 L ∧ h = h0
set_option maxRecDepth 65536 in
set_option maxHeartbeats 40000000 in
theorem rm16 (l : Launch) (Z : State) (a0 : Array Value) (hw : ∀ d ∈ tables_1, d.before a0 Z = true) (ws : List Jvm.Cond) (a1 : Addr) (a2 : Addr) (w1 : Int32) (b1 : Addr) (b2 : Addr) (k1 : ClassId) (k2 : ClassId) (xs : List Int32) (ys : List Int32) (h0 : Heap) (n0 : Nat) (Z0 : n0 ≤ h0.size) (S_C : Sta Z h0 "java/lang/String" "COMPACT_STRINGS" "Z" (.int w1)) (c0 : ¬ w1 = 0) (S1 : own_S Z h0 a1 b1 k1 xs) (S2 : own_S Z h0 a2 b2 k2 ys) :
    MetFree l (⟨"java/lang/String", "equals", "(Ljava/lang/Object;)Z"⟩ : MethodName) (head1 (Jvm.Cond.code (⟨"java/lang/String", "equals", "(Ljava/lang/Object;)Z"⟩ : MethodName) jdk_42_method_66_code 3 (some .boolean) :: ws) ({ frames := 1, cells := 0, slots := 0, locals := 14 } : Room)) (fun a U => a = #[(.ref a1), (.ref a2)] ∧ Z.Warmed39 U.vm ∧ U.heap = h0) (fun _ _ _ _ _ => True) (fun _ U o U' => ∃ v L, o = .returned v ∧ Q16 Z a1 a2 w1 b1 b2 k1 k2 xs ys h0 n0 v U'.heap L ∧ FrameEnd U o U' L ({ frames := 1, cells := 0, slots := 0, locals := 14 } : Room).cells ({ frames := 1, cells := 0, slots := 0, locals := 14 } : Room).slots) := by
  refine MetFree.of_bodySF (plainFor_of_name pn_16) hisR ?_
  intro p e s m args below meth c s₁ Bd hml0 hP hK
  obtain ⟨rfl, hZ, hh⟩ := hP
  have hx := Bd.exec
  have hby := Bd.bytes
  have hml : c.maxLocals = 3 := hml0
  have hown : s.vm.findClass "java/lang/String" = some m.cls := findClass_of_methodNamed Bd.named
  have hnm := (name_of_methodNamed Bd.named Bd.method).1
  have hlk := BodyLoose.notSynchronized Bd
  have hrt := Bd.returns
  have X0 : Stand p l e ({ frames := 1, cells := 0, slots := 0, locals := 14 } : Room) s m #[(.ref a1), (.ref a2)] below meth c s₁ [] 0 0 := Stand.of_body Bd
  have e0 : s₁.heap = h0 := by rw [← hh, Bd.state]; rfl
  have N0 := Fr.nil n0
  show OEnds p e below s (Q16 Z a1 a2 w1 b1 b2 k1 k2 xs ys h0 n0) ({ frames := 1, cells := 0, slots := 0, locals := 14 } : Room).cells ({ frames := 1, cells := 0, slots := 0, locals := 14 } : Room).slots (s₁.setTop (entryFrame m #[(.ref a1), (.ref a2)] 3))
  refine OEnds.go (t' := s₁.setTop (mkF m 0 #[.val (.ref a1), .val (.ref a2), .unset] [])) (fun t k => castTop (ef_rm16 m a1 a2) k) ?_
  refine OEnds.go (t' := s₁.setTop (mkF m 2 #[.val (.ref a1), .val (.ref a2), .unset] [(.ref a2), (.ref a1)])) (fun _ k => ?_) ?_
  · show Steps p.tables e below (s₁.setTop (mkF m 0 #[.val (.ref a1), .val (.ref a2), .unset] [])) _
    refine XS.aloadN X0.here hx rfl (hb hby d16_0) rfl rfl ?_
    show Steps p.tables e below (s₁.setTop (mkF m 1 #[.val (.ref a1), .val (.ref a2), .unset] [(.ref a1)])) _
    refine XS.aloadN X0.here hx rfl (hb hby d16_1) rfl rfl ?_
    show Steps p.tables e below (s₁.setTop (mkF m 2 #[.val (.ref a1), .val (.ref a2), .unset] [(.ref a2), (.ref a1)])) _
    exact k
  by_cases h2 : a1 = a2
  · refine OEnds.go (t' := s₁.setTop (mkF m 5 #[.val (.ref a1), .val (.ref a2), .unset] [])) (fun _ k => Jvm.RoadKit.acmp (g := (mkF m 2 #[.val (.ref a1), .val (.ref a2), .unset] [(.ref a2), (.ref a1)])) X0 hx rfl rfl rfl (pc0 := 2) (pc' := 5) (same := true) rfl (hb hby d16_2) rfl (decide_eq_true (congrArg Value.ref h2)) (by decide) (by decide) k) ?_
    refine OEnds.go (t' := s₁.setTop (mkF m 6 #[.val (.ref a1), .val (.ref a2), .unset] [(.int (1 : Int32))])) (fun _ k => ?_) ?_
    · show Steps p.tables e below (s₁.setTop (mkF m 5 #[.val (.ref a1), .val (.ref a2), .unset] [])) _
      refine XS.iconst X0.here hx rfl (hb hby d16_5) ?_
      show Steps p.tables e below (s₁.setTop (mkF m 6 #[.val (.ref a1), .val (.ref a2), .unset] [(.int (1 : Int32))])) _
      exact k
    refine OEnds.back X0 hlk (v := (some (.int (1 : Int32)))) (fun h => by rw [hrt] at h; cases h) (fun fs hr => ?_) ?_ (by decide) (by decide)
    · exact retN X0 hx (t := .boolean) hrt (by simp) (hb hby d16_6) hr
    · show Q16 Z a1 a2 w1 b1 b2 k1 k2 xs ys h0 n0 _ s₁.heap _
      rw [e0]
      exact ⟨by subst h2; rw [own_eqL, if_pos (S1.same S2)], N0, rfl⟩
  · refine OEnds.go (t' := s₁.setTop (mkF m 7 #[.val (.ref a1), .val (.ref a2), .unset] [])) (fun _ k => Jvm.RoadKit.acmp (g := (mkF m 2 #[.val (.ref a1), .val (.ref a2), .unset] [(.ref a2), (.ref a1)])) X0 hx rfl rfl rfl (pc0 := 2) (pc' := 7) (same := false) rfl (hb hby d16_2) rfl (decide_eq_false fun q => h2 (Value.ref.inj q)) (by decide) (by decide) k) ?_
    refine OEnds.go (t' := s₁.setTop (mkF m 8 #[.val (.ref a1), .val (.ref a2), .unset] [(.ref a2)])) (fun _ k => ?_) ?_
    · show Steps p.tables e below (s₁.setTop (mkF m 7 #[.val (.ref a1), .val (.ref a2), .unset] [])) _
      refine XS.aloadN X0.here hx rfl (hb hby d16_7) rfl rfl ?_
      show Steps p.tables e below (s₁.setTop (mkF m 8 #[.val (.ref a1), .val (.ref a2), .unset] [(.ref a2)])) _
      exact k
    obtain ⟨T1, X1, e1, st1⟩ := instY X0 hx hZ hown (hw _ (List.mem_of_getElem? (i := 77) rfl)) e0 (Ins.self S2.1) (g := (mkF m 8 #[.val (.ref a1), .val (.ref a2), .unset] [(.ref a2)])) rfl rfl (hb hby d16_8)
    refine OEnds.go (t' := T1.setTop (mkF m 11 #[.val (.ref a1), .val (.ref a2), .unset] [(.int (1 : Int32))])) (fun _ k => st1 _ k) ?_
    refine OEnds.go (t' := T1.setTop (mkF m 14 #[.val (.ref a1), .val (.ref a2), .unset] [])) (fun _ k => XS.ifNo X1.here hx rfl (hb hby d16_11) rfl ((if0 _ _).trans (feq (by decide)).1) k) ?_
    refine OEnds.go (t' := T1.setTop (mkF m 15 #[.val (.ref a1), .val (.ref a2), .unset] [(.ref a2)])) (fun _ k => ?_) ?_
    · show Steps p.tables e below (T1.setTop (mkF m 14 #[.val (.ref a1), .val (.ref a2), .unset] [])) _
      refine XS.aloadN X1.here hx rfl (hb hby d16_14) rfl rfl ?_
      show Steps p.tables e below (T1.setTop (mkF m 15 #[.val (.ref a1), .val (.ref a2), .unset] [(.ref a2)])) _
      exact k
    obtain ⟨T2, X2, e2, st2⟩ := castY X1 hx hZ hown (hw _ (List.mem_of_getElem? (i := 77) rfl)) e1 (Ins.self S2.1) (g := (mkF m 15 #[.val (.ref a1), .val (.ref a2), .unset] [(.ref a2)])) rfl rfl (hb hby d16_15)
    refine OEnds.go (t' := T2.setTop (mkF m 18 #[.val (.ref a1), .val (.ref a2), .unset] [(.ref a2)])) (fun _ k => st2 _ k) ?_
    refine OEnds.go (t' := T2.setTop (mkF m 19 #[.val (.ref a1), .val (.ref a2), .val (.ref a2)] [])) (fun _ k => ?_) ?_
    · show Steps p.tables e below (T2.setTop (mkF m 18 #[.val (.ref a1), .val (.ref a2), .unset] [(.ref a2)])) _
      refine XS.astoreN X2.here hx rfl (hb hby d16_18) rfl rfl (l' := #[.val (.ref a1), .val (.ref a2), .val (.ref a2)]) rfl ?_
      show Steps p.tables e below (T2.setTop (mkF m 19 #[.val (.ref a1), .val (.ref a2), .val (.ref a2)] [])) _
      exact k
    obtain ⟨T3, X3, e3, st3⟩ := getS2 X2 hx hZ hown (host := "") (Or.inl (hw _ (List.mem_of_getElem? (i := 19) rfl))) Via.refl e2 S_C (g := (mkF m 19 #[.val (.ref a1), .val (.ref a2), .val (.ref a2)] [])) rfl (hb hby d16_19)
    refine OEnds.go (t' := T3.setTop (mkF m 22 #[.val (.ref a1), .val (.ref a2), .val (.ref a2)] [(.int w1)])) (fun _ k => st3 _ k) ?_
    refine OEnds.go (t' := T3.setTop (mkF m 25 #[.val (.ref a1), .val (.ref a2), .val (.ref a2)] [])) (fun _ k => XS.ifNo X3.here hx rfl (hb hby d16_22) rfl ((if0 _ _).trans (feq c0).1) k) ?_
    refine OEnds.go (t' := T3.setTop (mkF m 26 #[.val (.ref a1), .val (.ref a2), .val (.ref a2)] [(.ref a1)])) (fun _ k => ?_) ?_
    · show Steps p.tables e below (T3.setTop (mkF m 25 #[.val (.ref a1), .val (.ref a2), .val (.ref a2)] [])) _
      refine XS.aloadN X3.here hx rfl (hb hby d16_25) rfl rfl ?_
      show Steps p.tables e below (T3.setTop (mkF m 26 #[.val (.ref a1), .val (.ref a2), .val (.ref a2)] [(.ref a1)])) _
      exact k
    obtain ⟨T4, X4, e4, st4⟩ := getF X3 hx hZ hown (host := "") (Or.inl (hw _ (List.mem_of_getElem? (i := 20) rfl))) Via.refl e3 S1.2.1 (g := (mkF m 26 #[.val (.ref a1), .val (.ref a2), .val (.ref a2)] [(.ref a1)])) rfl rfl (hb hby d16_26)
    refine OEnds.go (t' := T4.setTop (mkF m 29 #[.val (.ref a1), .val (.ref a2), .val (.ref a2)] [(.int (0 : Int32))])) (fun _ k => st4 _ k) ?_
    refine OEnds.go (t' := T4.setTop (mkF m 30 #[.val (.ref a1), .val (.ref a2), .val (.ref a2)] [(.ref a2), (.int (0 : Int32))])) (fun _ k => ?_) ?_
    · show Steps p.tables e below (T4.setTop (mkF m 29 #[.val (.ref a1), .val (.ref a2), .val (.ref a2)] [(.int (0 : Int32))])) _
      refine XS.aloadN X4.here hx rfl (hb hby d16_29) rfl rfl ?_
      show Steps p.tables e below (T4.setTop (mkF m 30 #[.val (.ref a1), .val (.ref a2), .val (.ref a2)] [(.ref a2), (.int (0 : Int32))])) _
      exact k
    obtain ⟨T5, X5, e5, st5⟩ := getF X4 hx hZ hown (host := "") (Or.inl (hw _ (List.mem_of_getElem? (i := 20) rfl))) Via.refl e4 S2.2.1 (g := (mkF m 30 #[.val (.ref a1), .val (.ref a2), .val (.ref a2)] [(.ref a2), (.int (0 : Int32))])) rfl rfl (hb hby d16_30)
    refine OEnds.go (t' := T5.setTop (mkF m 33 #[.val (.ref a1), .val (.ref a2), .val (.ref a2)] [(.int (0 : Int32)), (.int (0 : Int32))])) (fun _ k => st5 _ k) ?_
    refine OEnds.go (t' := T5.setTop (mkF m 36 #[.val (.ref a1), .val (.ref a2), .val (.ref a2)] [])) (fun _ k => XS.icmpNo X5.here hx rfl (hb hby d16_33) rfl (teq rfl).2 k) ?_
    refine OEnds.go (t' := T5.setTop (mkF m 37 #[.val (.ref a1), .val (.ref a2), .val (.ref a2)] [(.ref a1)])) (fun _ k => ?_) ?_
    · show Steps p.tables e below (T5.setTop (mkF m 36 #[.val (.ref a1), .val (.ref a2), .val (.ref a2)] [])) _
      refine XS.aloadN X5.here hx rfl (hb hby d16_36) rfl rfl ?_
      show Steps p.tables e below (T5.setTop (mkF m 37 #[.val (.ref a1), .val (.ref a2), .val (.ref a2)] [(.ref a1)])) _
      exact k
    obtain ⟨T6, X6, e6, st6⟩ := getF X5 hx hZ hown (host := "") (Or.inl (hw _ (List.mem_of_getElem? (i := 13) rfl))) Via.refl e5 S1.2.2.1 (g := (mkF m 37 #[.val (.ref a1), .val (.ref a2), .val (.ref a2)] [(.ref a1)])) rfl rfl (hb hby d16_37)
    refine OEnds.go (t' := T6.setTop (mkF m 40 #[.val (.ref a1), .val (.ref a2), .val (.ref a2)] [(.ref b1)])) (fun _ k => st6 _ k) ?_
    refine OEnds.go (t' := T6.setTop (mkF m 41 #[.val (.ref a1), .val (.ref a2), .val (.ref a2)] [(.ref a2), (.ref b1)])) (fun _ k => ?_) ?_
    · show Steps p.tables e below (T6.setTop (mkF m 40 #[.val (.ref a1), .val (.ref a2), .val (.ref a2)] [(.ref b1)])) _
      refine XS.aloadN X6.here hx rfl (hb hby d16_40) rfl rfl ?_
      show Steps p.tables e below (T6.setTop (mkF m 41 #[.val (.ref a1), .val (.ref a2), .val (.ref a2)] [(.ref a2), (.ref b1)])) _
      exact k
    obtain ⟨T7, X7, e7, st7⟩ := getF X6 hx hZ hown (host := "") (Or.inl (hw _ (List.mem_of_getElem? (i := 13) rfl))) Via.refl e6 S2.2.2.1 (g := (mkF m 41 #[.val (.ref a1), .val (.ref a2), .val (.ref a2)] [(.ref a2), (.ref b1)])) rfl rfl (hb hby d16_41)
    refine OEnds.go (t' := T7.setTop (mkF m 44 #[.val (.ref a1), .val (.ref a2), .val (.ref a2)] [(.ref b2), (.ref b1)])) (fun _ k => st7 _ k) ?_
    obtain ⟨_, _, ⟨T8, L8, k8, n8⟩, -, X8, ⟨Lc8, hQ8, l8, y8, z8⟩, st8⟩ := Jvm.LawKit.callS X7 hx (y := (⟨"java/lang/StringLatin1", "equals", "([B[B)Z"⟩ : MethodName)) hown (mvT hZ (hw _ (List.mem_of_getElem? (i := 78) rfl))) (mvT hZ (hw _ (List.mem_of_getElem? (i := 79) rfl))) (mvT hZ (hw _ (List.mem_of_getElem? (i := 38) rfl))) (mvT hZ (hw _ (List.mem_of_getElem? (i := 80) rfl))) (by decide) (backOf (W := 0) (rm17 l Z a0 hw [] b1 b2 k1 k2 xs ys h0 n0 Z0 S1.2.2.2 S2.2.2.2) hZ (hw _ (List.mem_of_getElem? (i := 80) rfl)) (hw _ (List.mem_of_getElem? (i := 38) rfl)) (by decide) (by decide)) (g := (mkF m 44 #[.val (.ref a1), .val (.ref a2), .val (.ref a2)] [(.ref b2), (.ref b1)])) rfl (by rw [hml]; rfl) (argsL := [(.ref b1), (.ref b2)]) (rest := []) (lenOf pd_rm16_0 rfl) rfl (by show 2 * 0 + _ ≤ _; exact Nat.le_of_eq rfl) (hb hby d16_44) (fun _ _ => ⟨rfl, e7, (by decide : 0 + 0 ≤ _), (by decide : 0 + 0 ≤ _)⟩)
    dsimp only [Pt.U, Pt.locs, Pt.cells, Pt.slots] at X8 l8 y8 z8 st8 hQ8
    subst l8 y8 z8
    obtain ⟨rfl, N8q, eh⟩ := hQ8
    have N8 := Fr.app N0 N8q
    have eh8 := eh
    refine OEnds.go (t' := T8.setTop (mkF m 47 #[.val (.ref a1), .val (.ref a2), .val (.ref a2)] [(.int (own_eqL xs ys))])) (fun _ k => st8 _ k) ?_
    by_cases h47 : (own_eqL xs ys) = (0 : Int32)
    · refine OEnds.go (t' := T8.setTop (mkF m 54 #[.val (.ref a1), .val (.ref a2), .val (.ref a2)] [])) (fun _ k => XS.ifYes X8.here hx rfl (pc0 := 47) (pc' := 54) rfl (hb hby d16_47) rfl ((if0 _ _).trans (teq h47).1) (by decide) (by decide) k) ?_
      refine OEnds.go (t' := T8.setTop (mkF m 55 #[.val (.ref a1), .val (.ref a2), .val (.ref a2)] [(.int (0 : Int32))])) (fun _ k => ?_) ?_
      · show Steps p.tables e below (T8.setTop (mkF m 54 #[.val (.ref a1), .val (.ref a2), .val (.ref a2)] [])) _
        refine XS.iconst X8.here hx rfl (hb hby d16_54) ?_
        show Steps p.tables e below (T8.setTop (mkF m 55 #[.val (.ref a1), .val (.ref a2), .val (.ref a2)] [(.int (0 : Int32))])) _
        exact k
      refine OEnds.back X8 hlk (v := (some (.int (0 : Int32)))) (fun h => by rw [hrt] at h; cases h) (fun fs hr => ?_) ?_ (by decide) (by decide)
      · exact retN X8 hx (t := .boolean) hrt (by simp) (hb hby d16_55) hr
      · show Q16 Z a1 a2 w1 b1 b2 k1 k2 xs ys h0 n0 _ T8.heap _
        rw [eh8]
        exact ⟨by rw [h47], N8, rfl⟩
    · refine OEnds.go (t' := T8.setTop (mkF m 50 #[.val (.ref a1), .val (.ref a2), .val (.ref a2)] [])) (fun _ k => XS.ifNo X8.here hx rfl (hb hby d16_47) rfl ((if0 _ _).trans (feq h47).1) k) ?_
      refine OEnds.go (t' := T8.setTop (mkF m 55 #[.val (.ref a1), .val (.ref a2), .val (.ref a2)] [(.int (1 : Int32))])) (fun _ k => ?_) ?_
      · show Steps p.tables e below (T8.setTop (mkF m 50 #[.val (.ref a1), .val (.ref a2), .val (.ref a2)] [])) _
        refine XS.iconst X8.here hx rfl (hb hby d16_50) ?_
        show Steps p.tables e below (T8.setTop (mkF m 51 #[.val (.ref a1), .val (.ref a2), .val (.ref a2)] [(.int (1 : Int32))])) _
        refine XS.goto X8.here hx rfl (pc0 := 51) (pc' := 55) rfl (hb hby d16_51) (by decide) (by decide) ?_
        show Steps p.tables e below (T8.setTop (mkF m 55 #[.val (.ref a1), .val (.ref a2), .val (.ref a2)] [(.int (1 : Int32))])) _
        exact k
      refine OEnds.back X8 hlk (v := (some (.int (1 : Int32)))) (fun h => by rw [hrt] at h; cases h) (fun fs hr => ?_) ?_ (by decide) (by decide)
      · exact retN X8 hx (t := .boolean) hrt (by simp) (hb hby d16_55) hr
      · show Q16 Z a1 a2 w1 b1 b2 k1 k2 xs ys h0 n0 _ T8.heap _
        rw [eh8]
        exact ⟨by rw [own_eqL1 h47], N8, rfl⟩
theorem d8_0 : decode jdk_41_method_11_code 0 = .ok (.iload_n 0, 1) := by decide +kernel
theorem d8_1 : decode jdk_41_method_11_code 1 = .ok (.ifCond .lt 8, 3) := by decide +kernel
theorem d8_4 : decode jdk_41_method_11_code 4 = .ok (.iload_n 0, 1) := by decide +kernel
theorem d8_5 : decode jdk_41_method_11_code 5 = .ok (.iload_n 1, 1) := by decide +kernel
theorem d8_6 : decode jdk_41_method_11_code 6 = .ok (.if_icmp .lt 10, 3) := by decide +kernel
theorem d8_16 : decode jdk_41_method_11_code 16 = .ok (.iload_n 0, 1) := by decide +kernel
theorem d8_17 : decode jdk_41_method_11_code 17 = .ok (.ireturn, 1) := by decide +kernel
theorem pn_8 : plainName "jdk/internal/util/Preconditions" = true := by first | (simp [plainName, overriddenIn]; done) | decide +kernel
theorem ef_rmPc0 (m : MethodId) (p1 : Int32) (p2 : Int32) (a3 : Addr) : entryFrame m #[(.int p1), (.int p2), (.ref a3)] 3 = mkF m 0 #[.val (.int p1), .val (.int p2), .val (.ref a3)] [] := by first | (simp [entryFrame, mkF, argsToLocals, Value.category]; done) | rfl
def QPc0 (Z : State) (p1 : Int32) (p2 : Int32) (a3 : Addr)  (h0 : Heap) (n0 : Nat) (v : Option Value) (h : Heap) (L : List Loc) : Prop := v = some (.int p1) ∧ Fr n0 L ∧ h = h0
set_option maxRecDepth 65536 in
set_option maxHeartbeats 40000000 in
theorem rmPc0 (l : Launch) (Z : State) (a0 : Array Value) (hw : ∀ d ∈ tables_1, d.before a0 Z = true) (ws : List Jvm.Cond) (p1 : Int32) (p2 : Int32) (a3 : Addr)  (h0 : Heap) (n0 : Nat) (Z0 : n0 ≤ h0.size) (c1 : ¬ p1 < 0) (c2 : p1 < p2) :
    MetFree l (⟨"jdk/internal/util/Preconditions", "checkIndex", "(IILjava/util/function/BiFunction;)I"⟩ : MethodName) (head1 (Jvm.Cond.code (⟨"jdk/internal/util/Preconditions", "checkIndex", "(IILjava/util/function/BiFunction;)I"⟩ : MethodName) jdk_41_method_11_code 3 (some .int) :: ws) ({ frames := 0, cells := 0, slots := 0, locals := 0 } : Room)) (fun a U => a = #[(.int p1), (.int p2), (.ref a3)] ∧ Z.Warmed39 U.vm ∧ U.heap = h0) (fun _ _ _ _ _ => True) (fun _ U o U' => ∃ v L, o = .returned v ∧ QPc0 Z p1 p2 a3  h0 n0 v U'.heap L ∧ FrameEnd U o U' L ({ frames := 0, cells := 0, slots := 0, locals := 0 } : Room).cells ({ frames := 0, cells := 0, slots := 0, locals := 0 } : Room).slots) := by
  refine MetFree.of_bodySF (plainFor_of_name pn_8) hisR ?_
  intro p e s m args below meth c s₁ Bd hml0 hP hK
  obtain ⟨rfl, hZ, hh⟩ := hP
  have hx := Bd.exec
  have hby := Bd.bytes
  have hml : c.maxLocals = 3 := hml0
  have hown : s.vm.findClass "jdk/internal/util/Preconditions" = some m.cls := findClass_of_methodNamed Bd.named
  have hnm := (name_of_methodNamed Bd.named Bd.method).1
  have hlk := BodyLoose.notSynchronized Bd
  have hrt := Bd.returns
  have X0 : Stand p l e ({ frames := 0, cells := 0, slots := 0, locals := 0 } : Room) s m #[(.int p1), (.int p2), (.ref a3)] below meth c s₁ [] 0 0 := Stand.of_body Bd
  have e0 : s₁.heap = h0 := by rw [← hh, Bd.state]; rfl
  have N0 := Fr.nil n0
  show OEnds p e below s (QPc0 Z p1 p2 a3  h0 n0) ({ frames := 0, cells := 0, slots := 0, locals := 0 } : Room).cells ({ frames := 0, cells := 0, slots := 0, locals := 0 } : Room).slots (s₁.setTop (entryFrame m #[(.int p1), (.int p2), (.ref a3)] 3))
  refine OEnds.go (t' := s₁.setTop (mkF m 0 #[.val (.int p1), .val (.int p2), .val (.ref a3)] [])) (fun t k => castTop (ef_rmPc0 m p1 p2 a3) k) ?_
  refine OEnds.go (t' := s₁.setTop (mkF m 1 #[.val (.int p1), .val (.int p2), .val (.ref a3)] [(.int p1)])) (fun _ k => ?_) ?_
  · show Steps p.tables e below (s₁.setTop (mkF m 0 #[.val (.int p1), .val (.int p2), .val (.ref a3)] [])) _
    refine XS.iloadN X0.here hx rfl (hb hby d8_0) rfl ?_
    show Steps p.tables e below (s₁.setTop (mkF m 1 #[.val (.int p1), .val (.int p2), .val (.ref a3)] [(.int p1)])) _
    exact k
  refine OEnds.go (t' := s₁.setTop (mkF m 4 #[.val (.int p1), .val (.int p2), .val (.ref a3)] [])) (fun _ k => XS.ifNo X0.here hx rfl (hb hby d8_1) rfl ((if0 _ _).trans (flt c1).1) k) ?_
  refine OEnds.go (t' := s₁.setTop (mkF m 6 #[.val (.int p1), .val (.int p2), .val (.ref a3)] [(.int p2), (.int p1)])) (fun _ k => ?_) ?_
  · show Steps p.tables e below (s₁.setTop (mkF m 4 #[.val (.int p1), .val (.int p2), .val (.ref a3)] [])) _
    refine XS.iloadN X0.here hx rfl (hb hby d8_4) rfl ?_
    show Steps p.tables e below (s₁.setTop (mkF m 5 #[.val (.int p1), .val (.int p2), .val (.ref a3)] [(.int p1)])) _
    refine XS.iloadN X0.here hx rfl (hb hby d8_5) rfl ?_
    show Steps p.tables e below (s₁.setTop (mkF m 6 #[.val (.int p1), .val (.int p2), .val (.ref a3)] [(.int p2), (.int p1)])) _
    exact k
  refine OEnds.go (t' := s₁.setTop (mkF m 16 #[.val (.int p1), .val (.int p2), .val (.ref a3)] [])) (fun _ k => XS.icmpYes X0.here hx rfl (pc0 := 6) (pc' := 16) rfl (hb hby d8_6) rfl (tlt c2).1 (by decide) (by decide) k) ?_
  refine OEnds.go (t' := s₁.setTop (mkF m 17 #[.val (.int p1), .val (.int p2), .val (.ref a3)] [(.int p1)])) (fun _ k => ?_) ?_
  · show Steps p.tables e below (s₁.setTop (mkF m 16 #[.val (.int p1), .val (.int p2), .val (.ref a3)] [])) _
    refine XS.iloadN X0.here hx rfl (hb hby d8_16) rfl ?_
    show Steps p.tables e below (s₁.setTop (mkF m 17 #[.val (.int p1), .val (.int p2), .val (.ref a3)] [(.int p1)])) _
    exact k
  refine OEnds.back X0 hlk (v := (some (.int p1))) (fun h => by rw [hrt] at h; cases h) (fun fs hr => ?_) ?_ (by decide) (by decide)
  · exact retI X0 hx hrt (hb hby d8_17) hr
  · show QPc0 Z p1 p2 a3  h0 n0 _ s₁.heap _
    rw [e0]
    exact ⟨rfl, N0, rfl⟩
theorem ef_rmPc1 (m : MethodId) (p1 : Int32) (p2 : Int32) : entryFrame m #[(.int p1), (.int p2), .null] 3 = mkF m 0 #[.val (.int p1), .val (.int p2), .val .null] [] := by first | (simp [entryFrame, mkF, argsToLocals, Value.category]; done) | rfl
def QPc1 (Z : State) (p1 : Int32) (p2 : Int32)  (h0 : Heap) (n0 : Nat) (v : Option Value) (h : Heap) (L : List Loc) : Prop := v = some (.int p1) ∧ Fr n0 L ∧ h = h0
set_option maxRecDepth 65536 in
set_option maxHeartbeats 40000000 in
theorem rmPc1 (l : Launch) (Z : State) (a0 : Array Value) (hw : ∀ d ∈ tables_1, d.before a0 Z = true) (ws : List Jvm.Cond) (p1 : Int32) (p2 : Int32)  (h0 : Heap) (n0 : Nat) (Z0 : n0 ≤ h0.size) (c1 : ¬ p1 < 0) (c2 : p1 < p2) :
    MetFree l (⟨"jdk/internal/util/Preconditions", "checkIndex", "(IILjava/util/function/BiFunction;)I"⟩ : MethodName) (head1 (Jvm.Cond.code (⟨"jdk/internal/util/Preconditions", "checkIndex", "(IILjava/util/function/BiFunction;)I"⟩ : MethodName) jdk_41_method_11_code 3 (some .int) :: ws) ({ frames := 0, cells := 0, slots := 0, locals := 0 } : Room)) (fun a U => a = #[(.int p1), (.int p2), .null] ∧ Z.Warmed39 U.vm ∧ U.heap = h0) (fun _ _ _ _ _ => True) (fun _ U o U' => ∃ v L, o = .returned v ∧ QPc1 Z p1 p2  h0 n0 v U'.heap L ∧ FrameEnd U o U' L ({ frames := 0, cells := 0, slots := 0, locals := 0 } : Room).cells ({ frames := 0, cells := 0, slots := 0, locals := 0 } : Room).slots) := by
  refine MetFree.of_bodySF (plainFor_of_name pn_8) hisR ?_
  intro p e s m args below meth c s₁ Bd hml0 hP hK
  obtain ⟨rfl, hZ, hh⟩ := hP
  have hx := Bd.exec
  have hby := Bd.bytes
  have hml : c.maxLocals = 3 := hml0
  have hown : s.vm.findClass "jdk/internal/util/Preconditions" = some m.cls := findClass_of_methodNamed Bd.named
  have hnm := (name_of_methodNamed Bd.named Bd.method).1
  have hlk := BodyLoose.notSynchronized Bd
  have hrt := Bd.returns
  have X0 : Stand p l e ({ frames := 0, cells := 0, slots := 0, locals := 0 } : Room) s m #[(.int p1), (.int p2), .null] below meth c s₁ [] 0 0 := Stand.of_body Bd
  have e0 : s₁.heap = h0 := by rw [← hh, Bd.state]; rfl
  have N0 := Fr.nil n0
  show OEnds p e below s (QPc1 Z p1 p2  h0 n0) ({ frames := 0, cells := 0, slots := 0, locals := 0 } : Room).cells ({ frames := 0, cells := 0, slots := 0, locals := 0 } : Room).slots (s₁.setTop (entryFrame m #[(.int p1), (.int p2), .null] 3))
  refine OEnds.go (t' := s₁.setTop (mkF m 0 #[.val (.int p1), .val (.int p2), .val .null] [])) (fun t k => castTop (ef_rmPc1 m p1 p2) k) ?_
  refine OEnds.go (t' := s₁.setTop (mkF m 1 #[.val (.int p1), .val (.int p2), .val .null] [(.int p1)])) (fun _ k => ?_) ?_
  · show Steps p.tables e below (s₁.setTop (mkF m 0 #[.val (.int p1), .val (.int p2), .val .null] [])) _
    refine XS.iloadN X0.here hx rfl (hb hby d8_0) rfl ?_
    show Steps p.tables e below (s₁.setTop (mkF m 1 #[.val (.int p1), .val (.int p2), .val .null] [(.int p1)])) _
    exact k
  refine OEnds.go (t' := s₁.setTop (mkF m 4 #[.val (.int p1), .val (.int p2), .val .null] [])) (fun _ k => XS.ifNo X0.here hx rfl (hb hby d8_1) rfl ((if0 _ _).trans (flt c1).1) k) ?_
  refine OEnds.go (t' := s₁.setTop (mkF m 6 #[.val (.int p1), .val (.int p2), .val .null] [(.int p2), (.int p1)])) (fun _ k => ?_) ?_
  · show Steps p.tables e below (s₁.setTop (mkF m 4 #[.val (.int p1), .val (.int p2), .val .null] [])) _
    refine XS.iloadN X0.here hx rfl (hb hby d8_4) rfl ?_
    show Steps p.tables e below (s₁.setTop (mkF m 5 #[.val (.int p1), .val (.int p2), .val .null] [(.int p1)])) _
    refine XS.iloadN X0.here hx rfl (hb hby d8_5) rfl ?_
    show Steps p.tables e below (s₁.setTop (mkF m 6 #[.val (.int p1), .val (.int p2), .val .null] [(.int p2), (.int p1)])) _
    exact k
  refine OEnds.go (t' := s₁.setTop (mkF m 16 #[.val (.int p1), .val (.int p2), .val .null] [])) (fun _ k => XS.icmpYes X0.here hx rfl (pc0 := 6) (pc' := 16) rfl (hb hby d8_6) rfl (tlt c2).1 (by decide) (by decide) k) ?_
  refine OEnds.go (t' := s₁.setTop (mkF m 17 #[.val (.int p1), .val (.int p2), .val .null] [(.int p1)])) (fun _ k => ?_) ?_
  · show Steps p.tables e below (s₁.setTop (mkF m 16 #[.val (.int p1), .val (.int p2), .val .null] [])) _
    refine XS.iloadN X0.here hx rfl (hb hby d8_16) rfl ?_
    show Steps p.tables e below (s₁.setTop (mkF m 17 #[.val (.int p1), .val (.int p2), .val .null] [(.int p1)])) _
    exact k
  refine OEnds.back X0 hlk (v := (some (.int p1))) (fun h => by rw [hrt] at h; cases h) (fun fs hr => ?_) ?_ (by decide) (by decide)
  · exact retI X0 hx hrt (hb hby d8_17) hr
  · show QPc1 Z p1 p2  h0 n0 _ s₁.heap _
    rw [e0]
    exact ⟨rfl, N0, rfl⟩
theorem d7_0 : decode jdk_42_method_155_code 0 = .ok (.iload_n 0, 1) := by decide +kernel
theorem d7_1 : decode jdk_42_method_155_code 1 = .ok (.iload_n 1, 1) := by decide +kernel
theorem d7_2 : decode jdk_42_method_155_code 2 = .ok (.getstatic 1053, 3) := by decide +kernel
theorem d7_5 : decode jdk_42_method_155_code 5 = .ok (.invokestatic 1059, 3) := by decide +kernel
theorem d7_8 : decode jdk_42_method_155_code 8 = .ok (.pop, 1) := by decide +kernel
theorem d7_9 : decode jdk_42_method_155_code 9 = .ok (.return_, 1) := by decide +kernel
theorem pn_7 : plainName "java/lang/String" = true := by first | (simp [plainName, overriddenIn]; done) | decide +kernel
theorem pd_rm7_0 : parseMethodDescriptor "(IILjava/util/function/BiFunction;)I" = some ⟨[.int, .int, (.object "java/util/function/BiFunction")], some .int⟩ := by decide +kernel
theorem ef_rm7 (m : MethodId) (p1 : Int32) (p2 : Int32) : entryFrame m #[(.int p1), (.int p2)] 2 = mkF m 0 #[.val (.int p1), .val (.int p2)] [] := by first | (simp [entryFrame, mkF, argsToLocals, Value.category]; done) | rfl
def Q7 (Z : State) (p1 : Int32) (p2 : Int32) (fv : Value) (h0 : Heap) (n0 : Nat) (v : Option Value) (h : Heap) (L : List Loc) : Prop := v = none ∧ Fr n0 L ∧ h = h0
set_option maxRecDepth 65536 in
set_option maxHeartbeats 40000000 in
theorem rm7 (l : Launch) (Z : State) (a0 : Array Value) (hw : ∀ d ∈ tables_1, d.before a0 Z = true) (ws : List Jvm.Cond) (p1 : Int32) (p2 : Int32) (fv : Value) (h0 : Heap) (n0 : Nat) (Z0 : n0 ≤ h0.size) (S_F : Sta Z h0 "jdk/internal/util/Preconditions" "SIOOBE_FORMATTER" "Ljava/util/function/BiFunction;" fv) (hF : fv = .null ∨ ∃ a, fv = .ref a) (c1 : ¬ p1 < 0) (c2 : p1 < p2) :
    MetFree l (⟨"java/lang/String", "checkIndex", "(II)V"⟩ : MethodName) (head1 (Jvm.Cond.code (⟨"java/lang/String", "checkIndex", "(II)V"⟩ : MethodName) jdk_42_method_155_code 2 none :: ws) ({ frames := 1, cells := 0, slots := 0, locals := 14 } : Room)) (fun a U => a = #[(.int p1), (.int p2)] ∧ Z.Warmed39 U.vm ∧ U.heap = h0) (fun _ _ _ _ _ => True) (fun _ U o U' => ∃ v L, o = .returned v ∧ Q7 Z p1 p2 fv h0 n0 v U'.heap L ∧ FrameEnd U o U' L ({ frames := 1, cells := 0, slots := 0, locals := 14 } : Room).cells ({ frames := 1, cells := 0, slots := 0, locals := 14 } : Room).slots) := by
  refine MetFree.of_bodySF (plainFor_of_name pn_7) hisR ?_
  intro p e s m args below meth c s₁ Bd hml0 hP hK
  obtain ⟨rfl, hZ, hh⟩ := hP
  have hx := Bd.exec
  have hby := Bd.bytes
  have hml : c.maxLocals = 2 := hml0
  have hown : s.vm.findClass "java/lang/String" = some m.cls := findClass_of_methodNamed Bd.named
  have hnm := (name_of_methodNamed Bd.named Bd.method).1
  have hlk := BodyLoose.notSynchronized Bd
  have hrt := Bd.returns
  have X0 : Stand p l e ({ frames := 1, cells := 0, slots := 0, locals := 14 } : Room) s m #[(.int p1), (.int p2)] below meth c s₁ [] 0 0 := Stand.of_body Bd
  have e0 : s₁.heap = h0 := by rw [← hh, Bd.state]; rfl
  have N0 := Fr.nil n0
  show OEnds p e below s (Q7 Z p1 p2 fv h0 n0) ({ frames := 1, cells := 0, slots := 0, locals := 14 } : Room).cells ({ frames := 1, cells := 0, slots := 0, locals := 14 } : Room).slots (s₁.setTop (entryFrame m #[(.int p1), (.int p2)] 2))
  refine OEnds.go (t' := s₁.setTop (mkF m 0 #[.val (.int p1), .val (.int p2)] [])) (fun t k => castTop (ef_rm7 m p1 p2) k) ?_
  rcases hF with rfl | ⟨af, rfl⟩
  · refine OEnds.go (t' := s₁.setTop (mkF m 2 #[.val (.int p1), .val (.int p2)] [(.int p2), (.int p1)])) (fun _ k => ?_) ?_
    · show Steps p.tables e below (s₁.setTop (mkF m 0 #[.val (.int p1), .val (.int p2)] [])) _
      refine XS.iloadN X0.here hx rfl (hb hby d7_0) rfl ?_
      show Steps p.tables e below (s₁.setTop (mkF m 1 #[.val (.int p1), .val (.int p2)] [(.int p1)])) _
      refine XS.iloadN X0.here hx rfl (hb hby d7_1) rfl ?_
      show Steps p.tables e below (s₁.setTop (mkF m 2 #[.val (.int p1), .val (.int p2)] [(.int p2), (.int p1)])) _
      exact k
    obtain ⟨T1, X1, e1, st1⟩ := getS2 X0 hx hZ hown (host := "") (Or.inl (hw _ (List.mem_of_getElem? (i := 43) rfl))) Via.refl e0 S_F (g := (mkF m 2 #[.val (.int p1), .val (.int p2)] [(.int p2), (.int p1)])) rfl (hb hby d7_2)
    refine OEnds.go (t' := T1.setTop (mkF m 5 #[.val (.int p1), .val (.int p2)] [.null, (.int p2), (.int p1)])) (fun _ k => st1 _ k) ?_
    obtain ⟨_, _, ⟨T2, L2, k2, n2⟩, -, X2, ⟨Lc2, hQ2, l2, y2, z2⟩, st2⟩ := Jvm.LawKit.callS X1 hx (y := (⟨"jdk/internal/util/Preconditions", "checkIndex", "(IILjava/util/function/BiFunction;)I"⟩ : MethodName)) hown (mvT hZ (hw _ (List.mem_of_getElem? (i := 45) rfl))) (mvT hZ (hw _ (List.mem_of_getElem? (i := 46) rfl))) (mvT hZ (hw _ (List.mem_of_getElem? (i := 44) rfl))) (mvT hZ (hw _ (List.mem_of_getElem? (i := 47) rfl))) (by decide) (backOf (W := 0) (rmPc1 l Z a0 hw [] p1 p2 h0 n0 Z0 c1 c2) hZ (hw _ (List.mem_of_getElem? (i := 47) rfl)) (hw _ (List.mem_of_getElem? (i := 44) rfl)) (by decide) (by decide)) (g := (mkF m 5 #[.val (.int p1), .val (.int p2)] [.null, (.int p2), (.int p1)])) rfl (by rw [hml]; rfl) (argsL := [(.int p1), (.int p2), .null]) (rest := []) (lenOf pd_rm7_0 rfl) rfl (by show 2 * 0 + _ ≤ _; exact Nat.le_of_eq rfl) (hb hby d7_5) (fun _ _ => ⟨rfl, e1, (by decide : 0 + 0 ≤ _), (by decide : 0 + 0 ≤ _)⟩)
    dsimp only [Pt.U, Pt.locs, Pt.cells, Pt.slots] at X2 l2 y2 z2 st2 hQ2
    subst l2 y2 z2
    obtain ⟨rfl, N2q, eh⟩ := hQ2
    have N2 := Fr.app N0 N2q
    have eh2 := eh
    refine OEnds.go (t' := T2.setTop (mkF m 8 #[.val (.int p1), .val (.int p2)] [(.int p1)])) (fun _ k => st2 _ k) ?_
    refine OEnds.go (t' := T2.setTop (mkF m 9 #[.val (.int p1), .val (.int p2)] [])) (fun _ k => ?_) ?_
    · show Steps p.tables e below (T2.setTop (mkF m 8 #[.val (.int p1), .val (.int p2)] [(.int p1)])) _
      refine XS.pop X2.here hx rfl (hb hby d7_8) rfl rfl ?_
      show Steps p.tables e below (T2.setTop (mkF m 9 #[.val (.int p1), .val (.int p2)] [])) _
      exact k
    refine OEnds.back X2 hlk (v := none) (fun _ => rfl) (fun fs hr => ?_) ?_ (by decide) (by decide)
    · exact X2.returnOut hx hrt (hb hby d7_9) hr
    · show Q7 Z p1 p2 .null h0 n0 _ T2.heap _
      rw [eh2]
      exact ⟨rfl, N2, rfl⟩
  · refine OEnds.go (t' := s₁.setTop (mkF m 2 #[.val (.int p1), .val (.int p2)] [(.int p2), (.int p1)])) (fun _ k => ?_) ?_
    · show Steps p.tables e below (s₁.setTop (mkF m 0 #[.val (.int p1), .val (.int p2)] [])) _
      refine XS.iloadN X0.here hx rfl (hb hby d7_0) rfl ?_
      show Steps p.tables e below (s₁.setTop (mkF m 1 #[.val (.int p1), .val (.int p2)] [(.int p1)])) _
      refine XS.iloadN X0.here hx rfl (hb hby d7_1) rfl ?_
      show Steps p.tables e below (s₁.setTop (mkF m 2 #[.val (.int p1), .val (.int p2)] [(.int p2), (.int p1)])) _
      exact k
    obtain ⟨T3, X3, e3, st3⟩ := getS2 X0 hx hZ hown (host := "") (Or.inl (hw _ (List.mem_of_getElem? (i := 43) rfl))) Via.refl e0 S_F (g := (mkF m 2 #[.val (.int p1), .val (.int p2)] [(.int p2), (.int p1)])) rfl (hb hby d7_2)
    refine OEnds.go (t' := T3.setTop (mkF m 5 #[.val (.int p1), .val (.int p2)] [(.ref af), (.int p2), (.int p1)])) (fun _ k => st3 _ k) ?_
    obtain ⟨_, _, ⟨T4, L4, k4, n4⟩, -, X4, ⟨Lc4, hQ4, l4, y4, z4⟩, st4⟩ := Jvm.LawKit.callS X3 hx (y := (⟨"jdk/internal/util/Preconditions", "checkIndex", "(IILjava/util/function/BiFunction;)I"⟩ : MethodName)) hown (mvT hZ (hw _ (List.mem_of_getElem? (i := 45) rfl))) (mvT hZ (hw _ (List.mem_of_getElem? (i := 46) rfl))) (mvT hZ (hw _ (List.mem_of_getElem? (i := 44) rfl))) (mvT hZ (hw _ (List.mem_of_getElem? (i := 47) rfl))) (by decide) (backOf (W := 0) (rmPc0 l Z a0 hw [] p1 p2 af h0 n0 Z0 c1 c2) hZ (hw _ (List.mem_of_getElem? (i := 47) rfl)) (hw _ (List.mem_of_getElem? (i := 44) rfl)) (by decide) (by decide)) (g := (mkF m 5 #[.val (.int p1), .val (.int p2)] [(.ref af), (.int p2), (.int p1)])) rfl (by rw [hml]; rfl) (argsL := [(.int p1), (.int p2), (.ref af)]) (rest := []) (lenOf pd_rm7_0 rfl) rfl (by show 2 * 0 + _ ≤ _; exact Nat.le_of_eq rfl) (hb hby d7_5) (fun _ _ => ⟨rfl, e3, (by decide : 0 + 0 ≤ _), (by decide : 0 + 0 ≤ _)⟩)
    dsimp only [Pt.U, Pt.locs, Pt.cells, Pt.slots] at X4 l4 y4 z4 st4 hQ4
    subst l4 y4 z4
    obtain ⟨rfl, N4q, eh⟩ := hQ4
    have N4 := Fr.app N0 N4q
    have eh4 := eh
    refine OEnds.go (t' := T4.setTop (mkF m 8 #[.val (.int p1), .val (.int p2)] [(.int p1)])) (fun _ k => st4 _ k) ?_
    refine OEnds.go (t' := T4.setTop (mkF m 9 #[.val (.int p1), .val (.int p2)] [])) (fun _ k => ?_) ?_
    · show Steps p.tables e below (T4.setTop (mkF m 8 #[.val (.int p1), .val (.int p2)] [(.int p1)])) _
      refine XS.pop X4.here hx rfl (hb hby d7_8) rfl rfl ?_
      show Steps p.tables e below (T4.setTop (mkF m 9 #[.val (.int p1), .val (.int p2)] [])) _
      exact k
    refine OEnds.back X4 hlk (v := none) (fun _ => rfl) (fun fs hr => ?_) ?_ (by decide) (by decide)
    · exact X4.returnOut hx hrt (hb hby d7_9) hr
    · show Q7 Z p1 p2 (.ref af) h0 n0 _ T4.heap _
      rw [eh4]
      exact ⟨rfl, N4, rfl⟩
theorem d6_0 : decode jdk_43_method_2_code 0 = .ok (.iload_n 1, 1) := by decide +kernel
theorem d6_1 : decode jdk_43_method_2_code 1 = .ok (.aload_n 0, 1) := by decide +kernel
theorem d6_2 : decode jdk_43_method_2_code 2 = .ok (.arraylength, 1) := by decide +kernel
theorem d6_3 : decode jdk_43_method_2_code 3 = .ok (.invokestatic 9, 3) := by decide +kernel
theorem d6_6 : decode jdk_43_method_2_code 6 = .ok (.aload_n 0, 1) := by decide +kernel
theorem d6_7 : decode jdk_43_method_2_code 7 = .ok (.iload_n 1, 1) := by decide +kernel
theorem d6_8 : decode jdk_43_method_2_code 8 = .ok (.baload, 1) := by decide +kernel
theorem d6_9 : decode jdk_43_method_2_code 9 = .ok (.sipush 255, 3) := by decide +kernel
theorem d6_12 : decode jdk_43_method_2_code 12 = .ok (.iand, 1) := by decide +kernel
theorem d6_13 : decode jdk_43_method_2_code 13 = .ok (.i2c, 1) := by decide +kernel
theorem d6_14 : decode jdk_43_method_2_code 14 = .ok (.ireturn, 1) := by decide +kernel
theorem pn_6 : plainName "java/lang/StringLatin1" = true := by first | (simp [plainName, overriddenIn]; done) | decide +kernel
theorem pd_rm6_0 : parseMethodDescriptor "(II)V" = some ⟨[.int, .int], none⟩ := by decide +kernel
theorem ef_rm6 (m : MethodId) (b1 : Addr) (p2 : Int32) : entryFrame m #[(.ref b1), (.int p2)] 2 = mkF m 0 #[.val (.ref b1), .val (.int p2)] [] := by first | (simp [entryFrame, mkF, argsToLocals, Value.category]; done) | rfl
def Q6 (Z : State) (b1 : Addr) (p2 : Int32) (k1 : ClassId) (xs : List Int32) (fv : Value) (h0 : Heap) (n0 : Nat) (v : Option Value) (h : Heap) (L : List Loc) : Prop := ∃ r : Int32, v = some (.int r) ∧ own_B r ∧ Fr n0 L ∧ h = h0
set_option maxRecDepth 65536 in
set_option maxHeartbeats 40000000 in
theorem rm6 (l : Launch) (Z : State) (a0 : Array Value) (hw : ∀ d ∈ tables_1, d.before a0 Z = true) (ws : List Jvm.Cond) (b1 : Addr) (p2 : Int32) (k1 : ClassId) (xs : List Int32) (fv : Value) (h0 : Heap) (n0 : Nat) (Z0 : n0 ≤ h0.size) (S_F : Sta Z h0 "jdk/internal/util/Preconditions" "SIOOBE_FORMATTER" "Ljava/util/function/BiFunction;" fv) (hF : fv = .null ∨ ∃ a, fv = .ref a) (V1 : own_By Z h0 b1 k1 xs) (c1 : ¬ p2 < 0) (c2 : p2 < Int32.ofNat xs.length) :
    MetFree l (⟨"java/lang/StringLatin1", "charAt", "([BI)C"⟩ : MethodName) (head1 (Jvm.Cond.code (⟨"java/lang/StringLatin1", "charAt", "([BI)C"⟩ : MethodName) jdk_43_method_2_code 2 (some .char) :: ws) ({ frames := 2, cells := 0, slots := 0, locals := 27 } : Room)) (fun a U => a = #[(.ref b1), (.int p2)] ∧ Z.Warmed39 U.vm ∧ U.heap = h0) (fun _ _ _ _ _ => True) (fun _ U o U' => ∃ v L, o = .returned v ∧ Q6 Z b1 p2 k1 xs fv h0 n0 v U'.heap L ∧ FrameEnd U o U' L ({ frames := 2, cells := 0, slots := 0, locals := 27 } : Room).cells ({ frames := 2, cells := 0, slots := 0, locals := 27 } : Room).slots) := by
  refine MetFree.of_bodySF (plainFor_of_name pn_6) hisR ?_
  intro p e s m args below meth c s₁ Bd hml0 hP hK
  obtain ⟨rfl, hZ, hh⟩ := hP
  have hx := Bd.exec
  have hby := Bd.bytes
  have hml : c.maxLocals = 2 := hml0
  have hown : s.vm.findClass "java/lang/StringLatin1" = some m.cls := findClass_of_methodNamed Bd.named
  have hnm := (name_of_methodNamed Bd.named Bd.method).1
  have hlk := BodyLoose.notSynchronized Bd
  have hrt := Bd.returns
  have X0 : Stand p l e ({ frames := 2, cells := 0, slots := 0, locals := 27 } : Room) s m #[(.ref b1), (.int p2)] below meth c s₁ [] 0 0 := Stand.of_body Bd
  have e0 : s₁.heap = h0 := by rw [← hh, Bd.state]; rfl
  have N0 := Fr.nil n0
  show OEnds p e below s (Q6 Z b1 p2 k1 xs fv h0 n0) ({ frames := 2, cells := 0, slots := 0, locals := 27 } : Room).cells ({ frames := 2, cells := 0, slots := 0, locals := 27 } : Room).slots (s₁.setTop (entryFrame m #[(.ref b1), (.int p2)] 2))
  refine OEnds.go (t' := s₁.setTop (mkF m 0 #[.val (.ref b1), .val (.int p2)] [])) (fun t k => castTop (ef_rm6 m b1 p2) k) ?_
  refine OEnds.go (t' := s₁.setTop (mkF m 2 #[.val (.ref b1), .val (.int p2)] [(.ref b1), (.int p2)])) (fun _ k => ?_) ?_
  · show Steps p.tables e below (s₁.setTop (mkF m 0 #[.val (.ref b1), .val (.int p2)] [])) _
    refine XS.iloadN X0.here hx rfl (hb hby d6_0) rfl ?_
    show Steps p.tables e below (s₁.setTop (mkF m 1 #[.val (.ref b1), .val (.int p2)] [(.int p2)])) _
    refine XS.aloadN X0.here hx rfl (hb hby d6_1) rfl rfl ?_
    show Steps p.tables e below (s₁.setTop (mkF m 2 #[.val (.ref b1), .val (.int p2)] [(.ref b1), (.int p2)])) _
    exact k
  obtain ⟨cl1, Ar1, hl1⟩ := own_blen V1
  refine OEnds.go (t' := s₁.setTop (mkF m 3 #[.val (.ref b1), .val (.int p2)] [(.int cl1.slots.size.toInt32), (.int p2)])) (fun _ k => X0.arraylength hx (by rw [e0]; exact Ar1.1) (State.isArrayOf_alike hZ.alike Ar1.2.1) (g := (mkF m 2 #[.val (.ref b1), .val (.int p2)] [(.ref b1), (.int p2)])) rfl rfl (hb hby d6_2) _ k) ?_
  rw [hl1]
  obtain ⟨_, _, ⟨T2, L2, k2, n2⟩, -, X2, ⟨Lc2, hQ2, l2, y2, z2⟩, st2⟩ := Jvm.LawKit.callS X0 hx (y := (⟨"java/lang/String", "checkIndex", "(II)V"⟩ : MethodName)) hown (mvT hZ (hw _ (List.mem_of_getElem? (i := 40) rfl))) (mvT hZ (hw _ (List.mem_of_getElem? (i := 41) rfl))) (mvT hZ (hw _ (List.mem_of_getElem? (i := 1) rfl))) (mvT hZ (hw _ (List.mem_of_getElem? (i := 42) rfl))) (by decide) (backOf (W := 0) (rm7 l Z a0 hw [] p2 (Int32.ofNat xs.length) fv h0 n0 Z0 S_F hF c1 c2) hZ (hw _ (List.mem_of_getElem? (i := 42) rfl)) (hw _ (List.mem_of_getElem? (i := 1) rfl)) (by decide) (by decide)) (g := (mkF m 3 #[.val (.ref b1), .val (.int p2)] [(.int (Int32.ofNat xs.length)), (.int p2)])) rfl (by rw [hml]; rfl) (argsL := [(.int p2), (.int (Int32.ofNat xs.length))]) (rest := []) (lenOf pd_rm6_0 rfl) rfl (by show 2 * 0 + _ ≤ _; exact Nat.le_of_eq rfl) (hb hby d6_3) (fun _ _ => ⟨rfl, e0, (by decide : 0 + 0 ≤ _), (by decide : 0 + 0 ≤ _)⟩)
  dsimp only [Pt.U, Pt.locs, Pt.cells, Pt.slots] at X2 l2 y2 z2 st2 hQ2
  subst l2 y2 z2
  obtain ⟨rfl, N2q, eh⟩ := hQ2
  have N2 := Fr.app N0 N2q
  have eh2 := eh
  refine OEnds.go (t' := T2.setTop (mkF m 6 #[.val (.ref b1), .val (.int p2)] [])) (fun _ k => st2 _ k) ?_
  refine OEnds.go (t' := T2.setTop (mkF m 8 #[.val (.ref b1), .val (.int p2)] [(.int p2), (.ref b1)])) (fun _ k => ?_) ?_
  · show Steps p.tables e below (T2.setTop (mkF m 6 #[.val (.ref b1), .val (.int p2)] [])) _
    refine XS.aloadN X2.here hx rfl (hb hby d6_6) rfl rfl ?_
    show Steps p.tables e below (T2.setTop (mkF m 7 #[.val (.ref b1), .val (.int p2)] [(.ref b1)])) _
    refine XS.iloadN X2.here hx rfl (hb hby d6_7) rfl ?_
    show Steps p.tables e below (T2.setTop (mkF m 8 #[.val (.ref b1), .val (.int p2)] [(.int p2), (.ref b1)])) _
    exact k
  obtain ⟨y1, hy1⟩ := own_byteJ V1 ⟨c1, c2⟩
  obtain ⟨cl3, Ar3, hin3, hat3⟩ := hy1
  refine OEnds.go (t' := T2.setTop (mkF m 9 #[.val (.ref b1), .val (.int p2)] [(.int y1)])) (fun _ k => X2.baloadBytes hx (j := p2) (v := (.int y1)) (by rw [eh2]; exact Ar3.1) (State.isArrayOf_alike hZ.alike Ar3.2.1) Ar3.2.2 hin3 hat3 (g := (mkF m 8 #[.val (.ref b1), .val (.int p2)] [(.int p2), (.ref b1)])) rfl rfl (hb hby d6_8) _ k) ?_
  refine OEnds.go (t' := T2.setTop (mkF m 14 #[.val (.ref b1), .val (.int p2)] [(.int ((y1 &&& (255 : Int32)).toUInt32.toUInt16.toUInt32.toInt32))])) (fun _ k => ?_) ?_
  · show Steps p.tables e below (T2.setTop (mkF m 9 #[.val (.ref b1), .val (.int p2)] [(.int y1)])) _
    refine XS.sipush X2.here hx rfl (hb hby d6_9) ?_
    show Steps p.tables e below (T2.setTop (mkF m 12 #[.val (.ref b1), .val (.int p2)] [(.int (255 : Int32)), (.int y1)])) _
    refine XS.iand X2.here hx rfl (hb hby d6_12) rfl ?_
    show Steps p.tables e below (T2.setTop (mkF m 13 #[.val (.ref b1), .val (.int p2)] [(.int (y1 &&& (255 : Int32)))])) _
    refine XS.i2c X2.here hx rfl (hb hby d6_13) rfl ?_
    show Steps p.tables e below (T2.setTop (mkF m 14 #[.val (.ref b1), .val (.int p2)] [(.int ((y1 &&& (255 : Int32)).toUInt32.toUInt16.toUInt32.toInt32))])) _
    exact k
  rw [i2c_mask]
  refine OEnds.back X2 hlk (v := (some (.int (nar .char (y1 &&& (255 : Int32)))))) (fun h => by rw [hrt] at h; cases h) (fun fs hr => ?_) ?_ (by decide) (by decide)
  · exact retN X2 hx (t := .char) hrt (by simp) (hb hby d6_14) hr
  · show Q6 Z b1 p2 k1 xs fv h0 n0 _ T2.heap _
    rw [eh2]
    exact ⟨_, rfl, own_narB (own_Bm _), N2, rfl⟩
theorem d4_0 : decode jdk_42_method_56_code 0 = .ok (.aload_n 0, 1) := by decide +kernel
theorem d4_1 : decode jdk_42_method_56_code 1 = .ok (.invokevirtual 492, 3) := by decide +kernel
theorem d4_4 : decode jdk_42_method_56_code 4 = .ok (.ifCond .eq 12, 3) := by decide +kernel
theorem d4_7 : decode jdk_42_method_56_code 7 = .ok (.aload_n 0, 1) := by decide +kernel
theorem d4_8 : decode jdk_42_method_56_code 8 = .ok (.getfield 9, 3) := by decide +kernel
theorem d4_11 : decode jdk_42_method_56_code 11 = .ok (.iload_n 1, 1) := by decide +kernel
theorem d4_12 : decode jdk_42_method_56_code 12 = .ok (.invokestatic 495, 3) := by decide +kernel
theorem d4_15 : decode jdk_42_method_56_code 15 = .ok (.ireturn, 1) := by decide +kernel
theorem pn_4 : plainName "java/lang/String" = true := by first | (simp [plainName, overriddenIn]; done) | decide +kernel
theorem pd_rm4_0 : parseMethodDescriptor "()Z" = some ⟨[], some .boolean⟩ := by decide +kernel
theorem pd_rm4_1 : parseMethodDescriptor "([BI)C" = some ⟨[(.array .byte), .int], some .char⟩ := by decide +kernel
theorem ef_rm4 (m : MethodId) (a1 : Addr) (p2 : Int32) : entryFrame m #[(.ref a1), (.int p2)] 2 = mkF m 0 #[.val (.ref a1), .val (.int p2)] [] := by first | (simp [entryFrame, mkF, argsToLocals, Value.category]; done) | rfl
def Q4 (Z : State) (a1 : Addr) (p2 : Int32) (w1 : Int32) (b1 : Addr) (k1 : ClassId) (xs : List Int32) (fv : Value) (h0 : Heap) (n0 : Nat) (v : Option Value) (h : Heap) (L : List Loc) : Prop := ∃ r : Int32, v = some (.int r) ∧ own_B r ∧ Fr n0 L ∧ h = h0
set_option maxRecDepth 65536 in
set_option maxHeartbeats 40000000 in
theorem rm4 (l : Launch) (Z : State) (a0 : Array Value) (hw : ∀ d ∈ tables_1, d.before a0 Z = true) (ws : List Jvm.Cond) (a1 : Addr) (p2 : Int32) (w1 : Int32) (b1 : Addr) (k1 : ClassId) (xs : List Int32) (fv : Value) (h0 : Heap) (n0 : Nat) (Z0 : n0 ≤ h0.size) (S_C : Sta Z h0 "java/lang/String" "COMPACT_STRINGS" "Z" (.int w1)) (c0 : ¬ w1 = 0) (S_F : Sta Z h0 "jdk/internal/util/Preconditions" "SIOOBE_FORMATTER" "Ljava/util/function/BiFunction;" fv) (hF : fv = .null ∨ ∃ a, fv = .ref a) (S1 : own_S Z h0 a1 b1 k1 xs) (c1 : ¬ p2 < 0) (c2 : p2 < Int32.ofNat xs.length) :
    MetFree l (⟨"java/lang/String", "charAt", "(I)C"⟩ : MethodName) (head1 (Jvm.Cond.code (⟨"java/lang/String", "charAt", "(I)C"⟩ : MethodName) jdk_42_method_56_code 2 (some .char) :: ws) ({ frames := 3, cells := 0, slots := 0, locals := 40 } : Room)) (fun a U => a = #[(.ref a1), (.int p2)] ∧ Z.Warmed39 U.vm ∧ U.heap = h0) (fun _ _ _ _ _ => True) (fun _ U o U' => ∃ v L, o = .returned v ∧ Q4 Z a1 p2 w1 b1 k1 xs fv h0 n0 v U'.heap L ∧ FrameEnd U o U' L ({ frames := 3, cells := 0, slots := 0, locals := 40 } : Room).cells ({ frames := 3, cells := 0, slots := 0, locals := 40 } : Room).slots) := by
  refine MetFree.of_bodySF (plainFor_of_name pn_4) hisR ?_
  intro p e s m args below meth c s₁ Bd hml0 hP hK
  obtain ⟨rfl, hZ, hh⟩ := hP
  have hx := Bd.exec
  have hby := Bd.bytes
  have hml : c.maxLocals = 2 := hml0
  have hown : s.vm.findClass "java/lang/String" = some m.cls := findClass_of_methodNamed Bd.named
  have hnm := (name_of_methodNamed Bd.named Bd.method).1
  have hlk := BodyLoose.notSynchronized Bd
  have hrt := Bd.returns
  have X0 : Stand p l e ({ frames := 3, cells := 0, slots := 0, locals := 40 } : Room) s m #[(.ref a1), (.int p2)] below meth c s₁ [] 0 0 := Stand.of_body Bd
  have e0 : s₁.heap = h0 := by rw [← hh, Bd.state]; rfl
  have N0 := Fr.nil n0
  show OEnds p e below s (Q4 Z a1 p2 w1 b1 k1 xs fv h0 n0) ({ frames := 3, cells := 0, slots := 0, locals := 40 } : Room).cells ({ frames := 3, cells := 0, slots := 0, locals := 40 } : Room).slots (s₁.setTop (entryFrame m #[(.ref a1), (.int p2)] 2))
  refine OEnds.go (t' := s₁.setTop (mkF m 0 #[.val (.ref a1), .val (.int p2)] [])) (fun t k => castTop (ef_rm4 m a1 p2) k) ?_
  refine OEnds.go (t' := s₁.setTop (mkF m 1 #[.val (.ref a1), .val (.int p2)] [(.ref a1)])) (fun _ k => ?_) ?_
  · show Steps p.tables e below (s₁.setTop (mkF m 0 #[.val (.ref a1), .val (.int p2)] [])) _
    refine XS.aloadN X0.here hx rfl (hb hby d4_0) rfl rfl ?_
    show Steps p.tables e below (s₁.setTop (mkF m 1 #[.val (.ref a1), .val (.int p2)] [(.ref a1)])) _
    exact k
  obtain ⟨cq1, kq1, q1a, q1b, q1c⟩ := isOf hZ e0 S1.1
  obtain ⟨_, _, ⟨T1, L1, k1, n1⟩, -, X1, ⟨Lc1, hQ1, l1, y1, z1⟩, st1⟩ := X0.virtualBack hx (y := (⟨"java/lang/String", "isLatin1", "()Z"⟩ : MethodName)) (z := (⟨"java/lang/String", "isLatin1", "()Z"⟩ : MethodName)) hown (mvT hZ (hw _ (List.mem_of_getElem? (i := 31) rfl))) (mvT hZ (hw _ (List.mem_of_getElem? (i := 32) rfl))) (notFace_of_selects (args := #[]) (mvT hZ (hw _ (List.mem_of_getElem? (i := 34) rfl)))) (mvT hZ (hw _ (List.mem_of_getElem? (i := 34) rfl))) (mvT hZ (hw _ (List.mem_of_getElem? (i := 33) rfl))) (by decide) (backOf (W := 0) (rm5 l Z a0 hw [] a1 w1 h0 n0 Z0 S_C c0 S1.2.1) hZ (hw _ (List.mem_of_getElem? (i := 35) rfl)) (hw _ (List.mem_of_getElem? (i := 1) rfl)) (by decide) (by decide)) q1a q1c (g := (mkF m 1 #[.val (.ref a1), .val (.int p2)] [(.ref a1)])) rfl (by rw [hml]; rfl) (Steps.refl _) (argsL := []) (rest := []) (lenOf pd_rm4_0 rfl) rfl (by show 2 * 0 + _ ≤ _; exact Nat.le_of_eq rfl) (hb hby d4_1) (fun _ _ => ⟨rfl, e0, (by decide : 0 + 0 ≤ _), (by decide : 0 + 0 ≤ _)⟩)
  dsimp only [Pt.U, Pt.locs, Pt.cells, Pt.slots] at X1 l1 y1 z1 st1 hQ1
  subst l1 y1 z1
  obtain ⟨rfl, N1q, eh⟩ := hQ1
  have N1 := Fr.app N0 N1q
  have eh1 := eh
  refine OEnds.go (t' := T1.setTop (mkF m 4 #[.val (.ref a1), .val (.int p2)] [(.int (1 : Int32))])) (fun _ k => st1.trans k) ?_
  refine OEnds.go (t' := T1.setTop (mkF m 7 #[.val (.ref a1), .val (.int p2)] [])) (fun _ k => XS.ifNo X1.here hx rfl (hb hby d4_4) rfl ((if0 _ _).trans (feq (by decide)).1) k) ?_
  refine OEnds.go (t' := T1.setTop (mkF m 8 #[.val (.ref a1), .val (.int p2)] [(.ref a1)])) (fun _ k => ?_) ?_
  · show Steps p.tables e below (T1.setTop (mkF m 7 #[.val (.ref a1), .val (.int p2)] [])) _
    refine XS.aloadN X1.here hx rfl (hb hby d4_7) rfl rfl ?_
    show Steps p.tables e below (T1.setTop (mkF m 8 #[.val (.ref a1), .val (.int p2)] [(.ref a1)])) _
    exact k
  obtain ⟨T2, X2, e2, st2⟩ := getF X1 hx hZ hown (host := "") (Or.inl (hw _ (List.mem_of_getElem? (i := 13) rfl))) Via.refl eh1 S1.2.2.1 (g := (mkF m 8 #[.val (.ref a1), .val (.int p2)] [(.ref a1)])) rfl rfl (hb hby d4_8)
  refine OEnds.go (t' := T2.setTop (mkF m 11 #[.val (.ref a1), .val (.int p2)] [(.ref b1)])) (fun _ k => st2 _ k) ?_
  refine OEnds.go (t' := T2.setTop (mkF m 12 #[.val (.ref a1), .val (.int p2)] [(.int p2), (.ref b1)])) (fun _ k => ?_) ?_
  · show Steps p.tables e below (T2.setTop (mkF m 11 #[.val (.ref a1), .val (.int p2)] [(.ref b1)])) _
    refine XS.iloadN X2.here hx rfl (hb hby d4_11) rfl ?_
    show Steps p.tables e below (T2.setTop (mkF m 12 #[.val (.ref a1), .val (.int p2)] [(.int p2), (.ref b1)])) _
    exact k
  obtain ⟨_, _, ⟨T3, L3, k3, n3⟩, -, X3, ⟨Lc3, hQ3, l3, y3, z3⟩, st3⟩ := Jvm.LawKit.callS X2 hx (y := (⟨"java/lang/StringLatin1", "charAt", "([BI)C"⟩ : MethodName)) hown (mvT hZ (hw _ (List.mem_of_getElem? (i := 36) rfl))) (mvT hZ (hw _ (List.mem_of_getElem? (i := 37) rfl))) (mvT hZ (hw _ (List.mem_of_getElem? (i := 38) rfl))) (mvT hZ (hw _ (List.mem_of_getElem? (i := 39) rfl))) (by decide) (backOf (W := 0) (rm6 l Z a0 hw [] b1 p2 k1 xs fv h0 n0 Z0 S_F hF S1.2.2.2 c1 c2) hZ (hw _ (List.mem_of_getElem? (i := 39) rfl)) (hw _ (List.mem_of_getElem? (i := 38) rfl)) (by decide) (by decide)) (g := (mkF m 12 #[.val (.ref a1), .val (.int p2)] [(.int p2), (.ref b1)])) rfl (by rw [hml]; rfl) (argsL := [(.ref b1), (.int p2)]) (rest := []) (lenOf pd_rm4_1 rfl) rfl (by show 2 * 0 + _ ≤ _; exact Nat.le_of_eq rfl) (hb hby d4_12) (fun _ _ => ⟨rfl, e2, (by decide : 0 + 0 ≤ _), (by decide : 0 + 0 ≤ _)⟩)
  dsimp only [Pt.U, Pt.locs, Pt.cells, Pt.slots] at X3 l3 y3 z3 st3 hQ3
  subst l3 y3 z3
  obtain ⟨r3, rfl, bd3, N3q, eh3⟩ := hQ3
  have N3 := Fr.app N1 N3q
  refine OEnds.go (t' := T3.setTop (mkF m 15 #[.val (.ref a1), .val (.int p2)] [(.int r3)])) (fun _ k => st3 _ k) ?_
  refine OEnds.back X3 hlk (v := (some (.int (nar .char r3)))) (fun h => by rw [hrt] at h; cases h) (fun fs hr => ?_) ?_ (by decide) (by decide)
  · exact retN X3 hx (t := .char) hrt (by simp) (hb hby d4_15) hr
  · show Q4 Z a1 p2 w1 b1 k1 xs fv h0 n0 _ T3.heap _
    rw [eh3]
    exact ⟨_, rfl, own_narB bd3, N3, rfl⟩
theorem d3_0 : decode method_3_code 0 = .ok (.iload_n 1, 1) := by decide +kernel
theorem d3_1 : decode method_3_code 1 = .ok (.aload_n 0, 1) := by decide +kernel
theorem d3_2 : decode method_3_code 2 = .ok (.invokevirtual 15, 3) := by decide +kernel
theorem d3_5 : decode method_3_code 5 = .ok (.if_icmp .ge 11, 3) := by decide +kernel
theorem d3_8 : decode method_3_code 8 = .ok (.aload_n 0, 1) := by decide +kernel
theorem d3_9 : decode method_3_code 9 = .ok (.iload_n 1, 1) := by decide +kernel
theorem d3_10 : decode method_3_code 10 = .ok (.invokevirtual 57, 3) := by decide +kernel
theorem d3_13 : decode method_3_code 13 = .ok (.goto 4, 3) := by decide +kernel
theorem d3_16 : decode method_3_code 16 = .ok (.iconst 0, 1) := by decide +kernel
theorem d3_17 : decode method_3_code 17 = .ok (.ireturn, 1) := by decide +kernel
theorem pn_3 : plainName "com/example/pnorm/pnorm/model/WeightingNamedPinLaw" = true := by first | (simp [plainName, overriddenIn]; done) | decide +kernel
theorem pd_rm3_0 : parseMethodDescriptor "()I" = some ⟨[], some .int⟩ := by decide +kernel
theorem pd_rm3_1 : parseMethodDescriptor "(I)C" = some ⟨[.int], some .char⟩ := by decide +kernel
theorem ef_rm3 (m : MethodId) (a1 : Addr) (p2 : Int32) : entryFrame m #[(.ref a1), (.int p2)] 2 = mkF m 0 #[.val (.ref a1), .val (.int p2)] [] := by first | (simp [entryFrame, mkF, argsToLocals, Value.category]; done) | rfl
def Q3 (Z : State) (a1 : Addr) (p2 : Int32) (w1 : Int32) (b1 : Addr) (k1 : ClassId) (xs : List Int32) (fv : Value) (h0 : Heap) (n0 : Nat) (v : Option Value) (h : Heap) (L : List Loc) : Prop := ∃ r : Int32, v = some (.int r) ∧ own_B r ∧ Fr n0 L ∧ h = h0
set_option maxRecDepth 65536 in
set_option maxHeartbeats 40000000 in
theorem rm3 (l : Launch) (Z : State) (a0 : Array Value) (hw : ∀ d ∈ tables_1, d.before a0 Z = true) (ws : List Jvm.Cond) (a1 : Addr) (p2 : Int32) (w1 : Int32) (b1 : Addr) (k1 : ClassId) (xs : List Int32) (fv : Value) (h0 : Heap) (n0 : Nat) (Z0 : n0 ≤ h0.size) (S_C : Sta Z h0 "java/lang/String" "COMPACT_STRINGS" "Z" (.int w1)) (c0 : ¬ w1 = 0) (S_F : Sta Z h0 "jdk/internal/util/Preconditions" "SIOOBE_FORMATTER" "Ljava/util/function/BiFunction;" fv) (hF : fv = .null ∨ ∃ a, fv = .ref a) (S1 : own_S Z h0 a1 b1 k1 xs) (c1 : ¬ p2 < 0) :
    MetFree l (⟨"com/example/pnorm/pnorm/model/WeightingNamedPinLaw", "at", "(Ljava/lang/String;I)C"⟩ : MethodName) (head1 (Jvm.Cond.code (⟨"com/example/pnorm/pnorm/model/WeightingNamedPinLaw", "at", "(Ljava/lang/String;I)C"⟩ : MethodName) method_3_code 2 (some .char) :: ws) ({ frames := 4, cells := 0, slots := 0, locals := 53 } : Room)) (fun a U => a = #[(.ref a1), (.int p2)] ∧ Z.Warmed39 U.vm ∧ U.heap = h0) (fun _ _ _ _ _ => True) (fun _ U o U' => ∃ v L, o = .returned v ∧ Q3 Z a1 p2 w1 b1 k1 xs fv h0 n0 v U'.heap L ∧ FrameEnd U o U' L ({ frames := 4, cells := 0, slots := 0, locals := 53 } : Room).cells ({ frames := 4, cells := 0, slots := 0, locals := 53 } : Room).slots) := by
  refine MetFree.of_bodySF (plainFor_of_name pn_3) hisR ?_
  intro p e s m args below meth c s₁ Bd hml0 hP hK
  obtain ⟨rfl, hZ, hh⟩ := hP
  have hx := Bd.exec
  have hby := Bd.bytes
  have hml : c.maxLocals = 2 := hml0
  have hown : s.vm.findClass "com/example/pnorm/pnorm/model/WeightingNamedPinLaw" = some m.cls := findClass_of_methodNamed Bd.named
  have hnm := (name_of_methodNamed Bd.named Bd.method).1
  have hlk := BodyLoose.notSynchronized Bd
  have hrt := Bd.returns
  have X0 : Stand p l e ({ frames := 4, cells := 0, slots := 0, locals := 53 } : Room) s m #[(.ref a1), (.int p2)] below meth c s₁ [] 0 0 := Stand.of_body Bd
  have e0 : s₁.heap = h0 := by rw [← hh, Bd.state]; rfl
  have N0 := Fr.nil n0
  show OEnds p e below s (Q3 Z a1 p2 w1 b1 k1 xs fv h0 n0) ({ frames := 4, cells := 0, slots := 0, locals := 53 } : Room).cells ({ frames := 4, cells := 0, slots := 0, locals := 53 } : Room).slots (s₁.setTop (entryFrame m #[(.ref a1), (.int p2)] 2))
  refine OEnds.go (t' := s₁.setTop (mkF m 0 #[.val (.ref a1), .val (.int p2)] [])) (fun t k => castTop (ef_rm3 m a1 p2) k) ?_
  refine OEnds.go (t' := s₁.setTop (mkF m 2 #[.val (.ref a1), .val (.int p2)] [(.ref a1), (.int p2)])) (fun _ k => ?_) ?_
  · show Steps p.tables e below (s₁.setTop (mkF m 0 #[.val (.ref a1), .val (.int p2)] [])) _
    refine XS.iloadN X0.here hx rfl (hb hby d3_0) rfl ?_
    show Steps p.tables e below (s₁.setTop (mkF m 1 #[.val (.ref a1), .val (.int p2)] [(.int p2)])) _
    refine XS.aloadN X0.here hx rfl (hb hby d3_1) rfl rfl ?_
    show Steps p.tables e below (s₁.setTop (mkF m 2 #[.val (.ref a1), .val (.int p2)] [(.ref a1), (.int p2)])) _
    exact k
  obtain ⟨cq1, kq1, q1a, q1b, q1c⟩ := isOf hZ e0 S1.1
  obtain ⟨_, _, ⟨T1, L1, k1, n1⟩, -, X1, ⟨Lc1, hQ1, l1, y1, z1⟩, st1⟩ := X0.virtualBack hx (y := (⟨"java/lang/String", "length", "()I"⟩ : MethodName)) (z := (⟨"java/lang/String", "length", "()I"⟩ : MethodName)) hown (mvT hZ (hw _ (List.mem_of_getElem? (i := 8) rfl))) (mvT hZ (hw _ (List.mem_of_getElem? (i := 9) rfl))) (notFace_of_selects (args := #[]) (mvT hZ (hw _ (List.mem_of_getElem? (i := 11) rfl)))) (mvT hZ (hw _ (List.mem_of_getElem? (i := 11) rfl))) (mvT hZ (hw _ (List.mem_of_getElem? (i := 10) rfl))) (by decide) (backOf (W := 1) (rm1 l Z a0 hw [] a1 w1 b1 k1 xs h0 n0 Z0 S_C c0 S1) hZ (hw _ (List.mem_of_getElem? (i := 12) rfl)) (hw _ (List.mem_of_getElem? (i := 1) rfl)) (by decide) (by decide)) q1a q1c (g := (mkF m 2 #[.val (.ref a1), .val (.int p2)] [(.ref a1), (.int p2)])) rfl (by rw [hml]; rfl) (Steps.refl _) (argsL := []) (rest := [(.int p2)]) (lenOf pd_rm3_0 rfl) rfl (by show 2 * 0 + _ ≤ _; exact Nat.le_of_eq rfl) (hb hby d3_2) (fun _ _ => ⟨rfl, e0, (by decide : 0 + 0 ≤ _), (by decide : 0 + 0 ≤ _)⟩)
  dsimp only [Pt.U, Pt.locs, Pt.cells, Pt.slots] at X1 l1 y1 z1 st1 hQ1
  subst l1 y1 z1
  obtain ⟨rfl, N1q, eh⟩ := hQ1
  have N1 := Fr.app N0 N1q
  have eh1 := eh
  refine OEnds.go (t' := T1.setTop (mkF m 5 #[.val (.ref a1), .val (.int p2)] [(.int (Int32.ofNat xs.length)), (.int p2)])) (fun _ k => st1.trans k) ?_
  by_cases h5 : p2 < (Int32.ofNat xs.length)
  · refine OEnds.go (t' := T1.setTop (mkF m 8 #[.val (.ref a1), .val (.int p2)] [])) (fun _ k => XS.icmpNo X1.here hx rfl (hb hby d3_5) rfl (tlt h5).2.1 k) ?_
    refine OEnds.go (t' := T1.setTop (mkF m 10 #[.val (.ref a1), .val (.int p2)] [(.int p2), (.ref a1)])) (fun _ k => ?_) ?_
    · show Steps p.tables e below (T1.setTop (mkF m 8 #[.val (.ref a1), .val (.int p2)] [])) _
      refine XS.aloadN X1.here hx rfl (hb hby d3_8) rfl rfl ?_
      show Steps p.tables e below (T1.setTop (mkF m 9 #[.val (.ref a1), .val (.int p2)] [(.ref a1)])) _
      refine XS.iloadN X1.here hx rfl (hb hby d3_9) rfl ?_
      show Steps p.tables e below (T1.setTop (mkF m 10 #[.val (.ref a1), .val (.int p2)] [(.int p2), (.ref a1)])) _
      exact k
    obtain ⟨cq2, kq2, q2a, q2b, q2c⟩ := isOf hZ eh1 S1.1
    obtain ⟨_, _, ⟨T2, L2, k2, n2⟩, -, X2, ⟨Lc2, hQ2, l2, y2, z2⟩, st2⟩ := X1.virtualBack hx (y := (⟨"java/lang/String", "charAt", "(I)C"⟩ : MethodName)) (z := (⟨"java/lang/String", "charAt", "(I)C"⟩ : MethodName)) hown (mvT hZ (hw _ (List.mem_of_getElem? (i := 26) rfl))) (mvT hZ (hw _ (List.mem_of_getElem? (i := 27) rfl))) (notFace_of_selects (args := #[]) (mvT hZ (hw _ (List.mem_of_getElem? (i := 29) rfl)))) (mvT hZ (hw _ (List.mem_of_getElem? (i := 29) rfl))) (mvT hZ (hw _ (List.mem_of_getElem? (i := 28) rfl))) (by decide) (backOf (W := 0) (rm4 l Z a0 hw [] a1 p2 w1 b1 k1 xs fv h0 n0 Z0 S_C c0 S_F hF S1 c1 h5) hZ (hw _ (List.mem_of_getElem? (i := 30) rfl)) (hw _ (List.mem_of_getElem? (i := 1) rfl)) (by decide) (by decide)) q2a q2c (g := (mkF m 10 #[.val (.ref a1), .val (.int p2)] [(.int p2), (.ref a1)])) rfl (by rw [hml]; rfl) (Steps.refl _) (argsL := [(.int p2)]) (rest := []) (lenOf pd_rm3_1 rfl) rfl (by show 2 * 0 + _ ≤ _; exact Nat.le_of_eq rfl) (hb hby d3_10) (fun _ _ => ⟨rfl, eh1, (by decide : 0 + 0 ≤ _), (by decide : 0 + 0 ≤ _)⟩)
    dsimp only [Pt.U, Pt.locs, Pt.cells, Pt.slots] at X2 l2 y2 z2 st2 hQ2
    subst l2 y2 z2
    obtain ⟨r2, rfl, bd2, N2q, eh2⟩ := hQ2
    have N2 := Fr.app N1 N2q
    refine OEnds.go (t' := T2.setTop (mkF m 13 #[.val (.ref a1), .val (.int p2)] [(.int r2)])) (fun _ k => st2.trans k) ?_
    refine OEnds.go (t' := T2.setTop (mkF m 17 #[.val (.ref a1), .val (.int p2)] [(.int r2)])) (fun _ k => ?_) ?_
    · show Steps p.tables e below (T2.setTop (mkF m 13 #[.val (.ref a1), .val (.int p2)] [(.int r2)])) _
      refine XS.goto X2.here hx rfl (pc0 := 13) (pc' := 17) rfl (hb hby d3_13) (by decide) (by decide) ?_
      show Steps p.tables e below (T2.setTop (mkF m 17 #[.val (.ref a1), .val (.int p2)] [(.int r2)])) _
      exact k
    refine OEnds.back X2 hlk (v := (some (.int (nar .char r2)))) (fun h => by rw [hrt] at h; cases h) (fun fs hr => ?_) ?_ (by decide) (by decide)
    · exact retN X2 hx (t := .char) hrt (by simp) (hb hby d3_17) hr
    · show Q3 Z a1 p2 w1 b1 k1 xs fv h0 n0 _ T2.heap _
      rw [eh2]
      exact ⟨_, rfl, own_narB bd2, N2, rfl⟩
  · refine OEnds.go (t' := T1.setTop (mkF m 16 #[.val (.ref a1), .val (.int p2)] [])) (fun _ k => XS.icmpYes X1.here hx rfl (pc0 := 5) (pc' := 16) rfl (hb hby d3_5) rfl (flt h5).2.1 (by decide) (by decide) k) ?_
    refine OEnds.go (t' := T1.setTop (mkF m 17 #[.val (.ref a1), .val (.int p2)] [(.int (0 : Int32))])) (fun _ k => ?_) ?_
    · show Steps p.tables e below (T1.setTop (mkF m 16 #[.val (.ref a1), .val (.int p2)] [])) _
      refine XS.iconst X1.here hx rfl (hb hby d3_16) ?_
      show Steps p.tables e below (T1.setTop (mkF m 17 #[.val (.ref a1), .val (.int p2)] [(.int (0 : Int32))])) _
      exact k
    refine OEnds.back X1 hlk (v := (some (.int (nar .char (0 : Int32))))) (fun h => by rw [hrt] at h; cases h) (fun fs hr => ?_) ?_ (by decide) (by decide)
    · exact retN X1 hx (t := .char) hrt (by simp) (hb hby d3_17) hr
    · show Q3 Z a1 p2 w1 b1 k1 xs fv h0 n0 _ T1.heap _
      rw [eh1]
      exact ⟨_, rfl, own_narB (by decide), N1, rfl⟩
theorem d19_0 : decode prog_36_method_1_code 0 = .ok (.getstatic 16, 3) := by decide +kernel
theorem d19_3 : decode prog_36_method_1_code 3 = .ok (.invokevirtual 20, 3) := by decide +kernel
theorem d19_6 : decode prog_36_method_1_code 6 = .ok (.checkcast 21, 3) := by decide +kernel
theorem d19_9 : decode prog_36_method_1_code 9 = .ok (.areturn, 1) := by decide +kernel
theorem pn_19 : plainName "com/example/pnorm/pnorm/model/Weighting" = true := by first | (simp [plainName, overriddenIn]; done) | decide +kernel
theorem ef_rm19 (m : MethodId)  : entryFrame m #[] 0 = mkF m 0 #[] [] := by first | (simp [entryFrame, mkF, argsToLocals, Value.category]; done) | rfl
def Q19 (Z : State)  (x0 : Addr) (x1 : Addr) (x2 : Addr) (x3 : Addr) (va : Addr) (h0 : Heap) (n0 : Nat) (v : Option Value) (h : Heap) (L : List Loc) : Prop := ∃ r : Addr, v = some (.ref r) ∧ Fr n0 L ∧ Keep h0 h [] ∧ own_Vs Z h r x0 x1 x2 x3
set_option maxRecDepth 65536 in
set_option maxHeartbeats 40000000 in
theorem rm19 (l : Launch) (Z : State) (a0 : Array Value) (hw : ∀ d ∈ tables_1, d.before a0 Z = true) (ws : List Jvm.Cond)  (x0 : Addr) (x1 : Addr) (x2 : Addr) (x3 : Addr) (va : Addr) (h0 : Heap) (n0 : Nat) (Z0 : n0 ≤ h0.size) (S_V : Sta Z Z.heap "com/example/pnorm/pnorm/model/Weighting" "$VALUES" "[Lcom/example/pnorm/pnorm/model/Weighting;" (.ref va)) (VV : own_Vs Z Z.heap va x0 x1 x2 x3) (EV : Exa Z Z.heap va "[Lcom/example/pnorm/pnorm/model/Weighting;") (hzo : Old Z n0 h0) :
    MetFree l (⟨"com/example/pnorm/pnorm/model/Weighting", "values", "()[Lcom/example/pnorm/pnorm/model/Weighting;"⟩ : MethodName) (head1 (Jvm.Cond.code (⟨"com/example/pnorm/pnorm/model/Weighting", "values", "()[Lcom/example/pnorm/pnorm/model/Weighting;"⟩ : MethodName) prog_36_method_1_code 0 (some (.array (.object "com/example/pnorm/pnorm/model/Weighting"))) :: ws) ({ frames := 1, cells := 1, slots := 4, locals := 14 } : Room)) (fun a U => a = #[] ∧ Z.Warmed39 U.vm ∧ U.heap = h0) (fun _ _ _ _ _ => True) (fun _ U o U' => ∃ v L, o = .returned v ∧ Q19 Z  x0 x1 x2 x3 va h0 n0 v U'.heap L ∧ FrameEnd U o U' L ({ frames := 1, cells := 1, slots := 4, locals := 14 } : Room).cells ({ frames := 1, cells := 1, slots := 4, locals := 14 } : Room).slots) := by
  refine MetFree.of_bodySF (plainFor_of_name pn_19) hisR ?_
  intro p e s m args below meth c s₁ Bd hml0 hP hK
  obtain ⟨rfl, hZ, hh⟩ := hP
  have hx := Bd.exec
  have hby := Bd.bytes
  have hml : c.maxLocals = 0 := hml0
  have hown : s.vm.findClass "com/example/pnorm/pnorm/model/Weighting" = some m.cls := findClass_of_methodNamed Bd.named
  have hnm := (name_of_methodNamed Bd.named Bd.method).1
  have hlk := BodyLoose.notSynchronized Bd
  have hrt := Bd.returns
  have X0 : Stand p l e ({ frames := 1, cells := 1, slots := 4, locals := 14 } : Room) s m #[] below meth c s₁ [] 0 0 := Stand.of_body Bd
  have e0 : s₁.heap = h0 := by rw [← hh, Bd.state]; rfl
  have N0 := Fr.nil n0
  show OEnds p e below s (Q19 Z  x0 x1 x2 x3 va h0 n0) ({ frames := 1, cells := 1, slots := 4, locals := 14 } : Room).cells ({ frames := 1, cells := 1, slots := 4, locals := 14 } : Room).slots (s₁.setTop (entryFrame m #[] 0))
  refine OEnds.go (t' := s₁.setTop (mkF m 0 #[] [])) (fun t k => castTop (ef_rm19 m ) k) ?_
  have hzt := hzo
  obtain ⟨T1, X1, e1, st1⟩ := getS2 X0 hx hZ hown (host := "") (Or.inl (hw _ (List.mem_of_getElem? (i := 90) rfl))) Via.refl e0 (S_V.ext hzt.2) (g := (mkF m 0 #[] [])) rfl (hb hby d19_0)
  refine OEnds.go (t' := T1.setTop (mkF m 3 #[] [(.ref va)])) (fun _ k => st1 _ k) ?_
  obtain ⟨cl2, Ar2, Fc2, Sz2, Sl2⟩ := (VV.ext hzt.2)
  obtain ⟨T2, h2, X2, e2, E2, A2, B2, st2⟩ := cloneA X1 hx hZ (ad := "[Lcom/example/pnorm/pnorm/model/Weighting;") hown (hw _ (List.mem_of_getElem? (i := 92) rfl)) (hw _ (List.mem_of_getElem? (i := 93) rfl)) (hw _ (List.mem_of_getElem? (i := 97) rfl)) (hw _ (List.mem_of_getElem? (i := 95) rfl)) (hw _ (List.mem_of_getElem? (i := 96) rfl)) (hw _ (List.mem_of_getElem? (i := 98) rfl)) e1 Ar2 (EV.ext hzt.2) Fc2 (g := (mkF m 3 #[] [(.ref va)])) rfl (by rw [hml]; rfl) rfl (hb hby d19_3) (by decide) (W := 0) (by show 2 * 0 + _ ≤ _; exact Nat.le_of_eq rfl) (by decide) (cap := 4) (Nat.le_of_eq Sz2) (by decide) (by decide)
  obtain ⟨va2, gz2⟩ : ∃ z, z = h0.size := ⟨_, rfl⟩
  rw [← gz2] at A2 B2 st2
  have g_va2 : n0 ≤ va2 := Nat.le_trans Z0 (Nat.le_of_eq gz2.symm)
  have sz_va2 : h0.size ≤ va2 := Nat.le_trans (Keep.refl h0 []).1 (Nat.le_of_eq gz2.symm)
  have hzt := hzt.ext E2
  have Z2 : n0 ≤ h2.size := Nat.le_trans Z0 E2.1
  have K2 := (Keep.refl h0 []).ext E2
  have V_va2 : own_Vs Z h2 va2 x0 x1 x2 x3 := ⟨_, A2, Fc2, Sz2, Sl2⟩
  have E_va2 := B2
  refine OEnds.go (t' := T2.setTop (mkF m 6 #[] [(.ref va2)])) (fun _ k => st2 _ k) ?_
  obtain ⟨T3, X3, e3, st3⟩ := castY X2 hx hZ hown (hw _ (List.mem_of_getElem? (i := 103) rfl)) e2 (Ins.self E_va2) (g := (mkF m 6 #[] [(.ref va2)])) rfl rfl (hb hby d19_6)
  refine OEnds.go (t' := T3.setTop (mkF m 9 #[] [(.ref va2)])) (fun _ k => st3 _ k) ?_
  refine OEnds.back X3 hlk (v := (some (.ref va2))) (fun h => by rw [hrt] at h; cases h) (fun fs hr => ?_) ?_ (by decide) (by decide)
  · exact retA X3 hx hrt rfl rfl rfl (hb hby d19_9) hr
  · show Q19 Z  x0 x1 x2 x3 va h0 n0 _ T3.heap _
    rw [e3]
    exact ⟨_, rfl, N0, K2, V_va2⟩
theorem d18_0 : decode prog_36_method_5_code 0 = .ok (.aconst_null, 1) := by decide +kernel
theorem d18_1 : decode prog_36_method_5_code 1 = .ok (.astore_n 1, 1) := by decide +kernel
theorem d18_2 : decode prog_36_method_5_code 2 = .ok (.invokestatic 39, 3) := by decide +kernel
theorem d18_5 : decode prog_36_method_5_code 5 = .ok (.astore_n 2, 1) := by decide +kernel
theorem d18_6 : decode prog_36_method_5_code 6 = .ok (.aload_n 2, 1) := by decide +kernel
theorem d18_7 : decode prog_36_method_5_code 7 = .ok (.arraylength, 1) := by decide +kernel
theorem d18_8 : decode prog_36_method_5_code 8 = .ok (.istore_n 3, 1) := by decide +kernel
theorem d18_9 : decode prog_36_method_5_code 9 = .ok (.iconst 0, 1) := by decide +kernel
theorem d18_10 : decode prog_36_method_5_code 10 = .ok (.istore 4, 2) := by decide +kernel
theorem d18_12 : decode prog_36_method_5_code 12 = .ok (.iload 4, 2) := by decide +kernel
theorem d18_14 : decode prog_36_method_5_code 14 = .ok (.iload_n 3, 1) := by decide +kernel
theorem d18_15 : decode prog_36_method_5_code 15 = .ok (.if_icmp .ge 33, 3) := by decide +kernel
theorem d18_18 : decode prog_36_method_5_code 18 = .ok (.aload_n 2, 1) := by decide +kernel
theorem d18_19 : decode prog_36_method_5_code 19 = .ok (.iload 4, 2) := by decide +kernel
theorem d18_21 : decode prog_36_method_5_code 21 = .ok (.aaload, 1) := by decide +kernel
theorem d18_22 : decode prog_36_method_5_code 22 = .ok (.astore 5, 2) := by decide +kernel
theorem d18_24 : decode prog_36_method_5_code 24 = .ok (.aload 5, 2) := by decide +kernel
theorem d18_26 : decode prog_36_method_5_code 26 = .ok (.getfield 35, 3) := by decide +kernel
theorem d18_29 : decode prog_36_method_5_code 29 = .ok (.aload_n 0, 1) := by decide +kernel
theorem d18_30 : decode prog_36_method_5_code 30 = .ok (.invokevirtual 43, 3) := by decide +kernel
theorem d18_33 : decode prog_36_method_5_code 33 = .ok (.ifCond .eq 9, 3) := by decide +kernel
theorem d18_36 : decode prog_36_method_5_code 36 = .ok (.aload 5, 2) := by decide +kernel
theorem d18_38 : decode prog_36_method_5_code 38 = .ok (.astore_n 1, 1) := by decide +kernel
theorem d18_39 : decode prog_36_method_5_code 39 = .ok (.goto 9, 3) := by decide +kernel
theorem d18_42 : decode prog_36_method_5_code 42 = .ok (.iinc 4 1, 3) := by decide +kernel
theorem d18_45 : decode prog_36_method_5_code 45 = .ok (.goto (-33), 3) := by decide +kernel
theorem d18_48 : decode prog_36_method_5_code 48 = .ok (.aload_n 1, 1) := by decide +kernel
theorem d18_49 : decode prog_36_method_5_code 49 = .ok (.areturn, 1) := by decide +kernel
theorem pn_18 : plainName "com/example/pnorm/pnorm/model/Weighting" = true := by first | (simp [plainName, overriddenIn]; done) | decide +kernel
theorem pd_rm18_0 : parseMethodDescriptor "()[Lcom/example/pnorm/pnorm/model/Weighting;" = some ⟨[], some (.array (.object "com/example/pnorm/pnorm/model/Weighting"))⟩ := by decide +kernel
theorem pd_rm18_1 : parseMethodDescriptor "(Ljava/lang/Object;)Z" = some ⟨[(.object "java/lang/Object")], some .boolean⟩ := by decide +kernel
theorem ef_rm18 (m : MethodId) (a1 : Addr) : entryFrame m #[(.ref a1)] 6 = mkF m 0 #[.val (.ref a1), .unset, .unset, .unset, .unset, .unset] [] := by first | (simp [entryFrame, mkF, argsToLocals, Value.category]; done) | rfl
def Q18 (Z : State) (a1 : Addr) (x0 : Addr) (x1 : Addr) (x2 : Addr) (x3 : Addr) (va : Addr) (s_EB : Addr) (b_EB : Addr) (k_EB : ClassId) (s_TFC_TFC : Addr) (b_TFC_TFC : Addr) (k_TFC_TFC : ClassId) (s_LXC_LTC : Addr) (b_LXC_LTC : Addr) (k_LXC_LTC : ClassId) (s_LNU_LTU : Addr) (b_LNU_LTU : Addr) (k_LNU_LTU : ClassId) (w1 : Int32) (b1 : Addr) (k1 : ClassId) (xs : List Int32) (h0 : Heap) (n0 : Nat) (v : Option Value) (h : Heap) (L : List Loc) : Prop := v = some (own_pick x0 x1 x2 x3 xs) ∧ Fr n0 L ∧ Keep h0 h []
set_option maxRecDepth 65536 in
set_option maxHeartbeats 40000000 in
theorem rm18 (l : Launch) (Z : State) (a0 : Array Value) (hw : ∀ d ∈ tables_1, d.before a0 Z = true) (ws : List Jvm.Cond) (a1 : Addr) (x0 : Addr) (x1 : Addr) (x2 : Addr) (x3 : Addr) (va : Addr) (s_EB : Addr) (b_EB : Addr) (k_EB : ClassId) (s_TFC_TFC : Addr) (b_TFC_TFC : Addr) (k_TFC_TFC : ClassId) (s_LXC_LTC : Addr) (b_LXC_LTC : Addr) (k_LXC_LTC : ClassId) (s_LNU_LTU : Addr) (b_LNU_LTU : Addr) (k_LNU_LTU : ClassId) (w1 : Int32) (b1 : Addr) (k1 : ClassId) (xs : List Int32) (h0 : Heap) (n0 : Nat) (Z0 : n0 ≤ h0.size) (S_V : Sta Z Z.heap "com/example/pnorm/pnorm/model/Weighting" "$VALUES" "[Lcom/example/pnorm/pnorm/model/Weighting;" (.ref va)) (VV : own_Vs Z Z.heap va x0 x1 x2 x3) (EV : Exa Z Z.heap va "[Lcom/example/pnorm/pnorm/model/Weighting;") (hzo : Old Z n0 h0) (Ft_EB : Fld Z Z.heap x0 "com/example/pnorm/pnorm/model/Weighting" "name" "Ljava/lang/String;" (.ref s_EB)) (SS_EB : own_S Z Z.heap s_EB b_EB k_EB [101, 98]) (Ft_TFC_TFC : Fld Z Z.heap x1 "com/example/pnorm/pnorm/model/Weighting" "name" "Ljava/lang/String;" (.ref s_TFC_TFC)) (SS_TFC_TFC : own_S Z Z.heap s_TFC_TFC b_TFC_TFC k_TFC_TFC [116, 102, 99, 46, 116, 102, 99]) (Ft_LXC_LTC : Fld Z Z.heap x2 "com/example/pnorm/pnorm/model/Weighting" "name" "Ljava/lang/String;" (.ref s_LXC_LTC)) (SS_LXC_LTC : own_S Z Z.heap s_LXC_LTC b_LXC_LTC k_LXC_LTC [108, 120, 99, 46, 108, 116, 99]) (Ft_LNU_LTU : Fld Z Z.heap x3 "com/example/pnorm/pnorm/model/Weighting" "name" "Ljava/lang/String;" (.ref s_LNU_LTU)) (SS_LNU_LTU : own_S Z Z.heap s_LNU_LTU b_LNU_LTU k_LNU_LTU [76, 110, 117, 46, 108, 116, 117]) (S_C : Sta Z Z.heap "java/lang/String" "COMPACT_STRINGS" "Z" (.int w1)) (c0 : ¬ w1 = 0) (S1 : own_S Z h0 a1 b1 k1 xs) :
    MetFree l (⟨"com/example/pnorm/pnorm/model/Weighting", "named", "(Ljava/lang/String;)Lcom/example/pnorm/pnorm/model/Weighting;"⟩ : MethodName) (head1 (Jvm.Cond.code (⟨"com/example/pnorm/pnorm/model/Weighting", "named", "(Ljava/lang/String;)Lcom/example/pnorm/pnorm/model/Weighting;"⟩ : MethodName) prog_36_method_5_code 6 (some (.object "com/example/pnorm/pnorm/model/Weighting")) :: ws) ({ frames := 2, cells := 1, slots := 4, locals := 28 } : Room)) (fun a U => a = #[(.ref a1)] ∧ Z.Warmed39 U.vm ∧ U.heap = h0) (fun _ _ _ _ _ => True) (fun _ U o U' => ∃ v L, o = .returned v ∧ Q18 Z a1 x0 x1 x2 x3 va s_EB b_EB k_EB s_TFC_TFC b_TFC_TFC k_TFC_TFC s_LXC_LTC b_LXC_LTC k_LXC_LTC s_LNU_LTU b_LNU_LTU k_LNU_LTU w1 b1 k1 xs h0 n0 v U'.heap L ∧ FrameEnd U o U' L ({ frames := 2, cells := 1, slots := 4, locals := 28 } : Room).cells ({ frames := 2, cells := 1, slots := 4, locals := 28 } : Room).slots) := by
  refine MetFree.of_bodySF (plainFor_of_name pn_18) hisR ?_
  intro p e s m args below meth c s₁ Bd hml0 hP hK
  obtain ⟨rfl, hZ, hh⟩ := hP
  have hx := Bd.exec
  have hby := Bd.bytes
  have hml : c.maxLocals = 6 := hml0
  have hown : s.vm.findClass "com/example/pnorm/pnorm/model/Weighting" = some m.cls := findClass_of_methodNamed Bd.named
  have hnm := (name_of_methodNamed Bd.named Bd.method).1
  have hlk := BodyLoose.notSynchronized Bd
  have hrt := Bd.returns
  have X0 : Stand p l e ({ frames := 2, cells := 1, slots := 4, locals := 28 } : Room) s m #[(.ref a1)] below meth c s₁ [] 0 0 := Stand.of_body Bd
  have e0 : s₁.heap = h0 := by rw [← hh, Bd.state]; rfl
  have N0 := Fr.nil n0
  show OEnds p e below s (Q18 Z a1 x0 x1 x2 x3 va s_EB b_EB k_EB s_TFC_TFC b_TFC_TFC k_TFC_TFC s_LXC_LTC b_LXC_LTC k_LXC_LTC s_LNU_LTU b_LNU_LTU k_LNU_LTU w1 b1 k1 xs h0 n0) ({ frames := 2, cells := 1, slots := 4, locals := 28 } : Room).cells ({ frames := 2, cells := 1, slots := 4, locals := 28 } : Room).slots (s₁.setTop (entryFrame m #[(.ref a1)] 6))
  refine OEnds.go (t' := s₁.setTop (mkF m 0 #[.val (.ref a1), .unset, .unset, .unset, .unset, .unset] [])) (fun t k => castTop (ef_rm18 m a1) k) ?_
  have hzt := hzo
  refine OEnds.go (t' := s₁.setTop (mkF m 2 #[.val (.ref a1), .val .null, .unset, .unset, .unset, .unset] [])) (fun _ k => ?_) ?_
  · show Steps p.tables e below (s₁.setTop (mkF m 0 #[.val (.ref a1), .unset, .unset, .unset, .unset, .unset] [])) _
    refine XS.aconstNull X0.here hx rfl (hb hby d18_0) ?_
    show Steps p.tables e below (s₁.setTop (mkF m 1 #[.val (.ref a1), .unset, .unset, .unset, .unset, .unset] [.null])) _
    refine XS.astoreN X0.here hx rfl (hb hby d18_1) rfl rfl (l' := #[.val (.ref a1), .val .null, .unset, .unset, .unset, .unset]) rfl ?_
    show Steps p.tables e below (s₁.setTop (mkF m 2 #[.val (.ref a1), .val .null, .unset, .unset, .unset, .unset] [])) _
    exact k
  obtain ⟨_, _, ⟨T1, L1, k1, n1⟩, -, X1, ⟨Lc1, hQ1, l1, y1, z1⟩, st1⟩ := Jvm.LawKit.callS X0 hx (y := (⟨"com/example/pnorm/pnorm/model/Weighting", "values", "()[Lcom/example/pnorm/pnorm/model/Weighting;"⟩ : MethodName)) hown (mvT hZ (hw _ (List.mem_of_getElem? (i := 87) rfl))) (mvT hZ (hw _ (List.mem_of_getElem? (i := 88) rfl))) (mvT hZ (hw _ (List.mem_of_getElem? (i := 82) rfl))) (mvT hZ (hw _ (List.mem_of_getElem? (i := 89) rfl))) (by decide) (backOf (W := 0) (rm19 l Z a0 hw [] x0 x1 x2 x3 va h0 n0 Z0 S_V VV EV hzt) hZ (hw _ (List.mem_of_getElem? (i := 89) rfl)) (hw _ (List.mem_of_getElem? (i := 82) rfl)) (by decide) (by decide)) (g := (mkF m 2 #[.val (.ref a1), .val .null, .unset, .unset, .unset, .unset] [])) rfl (by rw [hml]; rfl) (argsL := []) (rest := []) (lenOf pd_rm18_0 rfl) rfl (by show 2 * 0 + _ ≤ _; exact Nat.le_of_eq rfl) (hb hby d18_2) (fun _ _ => ⟨rfl, e0, (by decide : 0 + 1 ≤ _), (by decide : 0 + 4 ≤ _)⟩)
  dsimp only [Pt.U, Pt.locs, Pt.cells, Pt.slots] at X1 l1 y1 z1 st1 hQ1
  subst l1 y1 z1
  obtain ⟨vr, rfl, N1q, Kc1, V_vr⟩ := hQ1
  have N1 := Fr.app N0 N1q
  have hzt := hzt.keep Kc1 all0
  have S1 := S1.keep Kc1 nin0 nin0
  have Z1 : n0 ≤ T1.heap.size := Nat.le_trans Z0 Kc1.1
  have K1 := (Keep.refl h0 []).trans Kc1 all0
  refine OEnds.go (t' := T1.setTop (mkF m 5 #[.val (.ref a1), .val .null, .unset, .unset, .unset, .unset] [(.ref vr)])) (fun _ k => st1 _ k) ?_
  refine OEnds.go (t' := T1.setTop (mkF m 7 #[.val (.ref a1), .val .null, .val (.ref vr), .unset, .unset, .unset] [(.ref vr)])) (fun _ k => ?_) ?_
  · show Steps p.tables e below (T1.setTop (mkF m 5 #[.val (.ref a1), .val .null, .unset, .unset, .unset, .unset] [(.ref vr)])) _
    refine XS.astoreN X1.here hx rfl (hb hby d18_5) rfl rfl (l' := #[.val (.ref a1), .val .null, .val (.ref vr), .unset, .unset, .unset]) rfl ?_
    show Steps p.tables e below (T1.setTop (mkF m 6 #[.val (.ref a1), .val .null, .val (.ref vr), .unset, .unset, .unset] [])) _
    refine XS.aloadN X1.here hx rfl (hb hby d18_6) rfl rfl ?_
    show Steps p.tables e below (T1.setTop (mkF m 7 #[.val (.ref a1), .val .null, .val (.ref vr), .unset, .unset, .unset] [(.ref vr)])) _
    exact k
  obtain ⟨cl2, Ar2, hl2⟩ := V_vr.len
  refine OEnds.go (t' := T1.setTop (mkF m 8 #[.val (.ref a1), .val .null, .val (.ref vr), .unset, .unset, .unset] [(.int cl2.slots.size.toInt32)])) (fun _ k => X1.arraylength hx Ar2.1 (State.isArrayOf_alike hZ.alike Ar2.2.1) (g := (mkF m 7 #[.val (.ref a1), .val .null, .val (.ref vr), .unset, .unset, .unset] [(.ref vr)])) rfl rfl (hb hby d18_7) _ k) ?_
  rw [hl2]
  refine OEnds.go (t' := T1.setTop (mkF m 15 #[.val (.ref a1), .val .null, .val (.ref vr), .val (.int (4 : Int32)), .val (.int (0 : Int32)), .unset] [(.int (4 : Int32)), (.int (0 : Int32))])) (fun _ k => ?_) ?_
  · show Steps p.tables e below (T1.setTop (mkF m 8 #[.val (.ref a1), .val .null, .val (.ref vr), .unset, .unset, .unset] [(.int (4 : Int32))])) _
    refine XS.istoreN X1.here hx rfl (hb hby d18_8) rfl (l' := #[.val (.ref a1), .val .null, .val (.ref vr), .val (.int (4 : Int32)), .unset, .unset]) rfl ?_
    show Steps p.tables e below (T1.setTop (mkF m 9 #[.val (.ref a1), .val .null, .val (.ref vr), .val (.int (4 : Int32)), .unset, .unset] [])) _
    refine XS.iconst X1.here hx rfl (hb hby d18_9) ?_
    show Steps p.tables e below (T1.setTop (mkF m 10 #[.val (.ref a1), .val .null, .val (.ref vr), .val (.int (4 : Int32)), .unset, .unset] [(.int (0 : Int32))])) _
    refine XS.istore X1.here hx rfl (hb hby d18_10) rfl (l' := #[.val (.ref a1), .val .null, .val (.ref vr), .val (.int (4 : Int32)), .val (.int (0 : Int32)), .unset]) rfl ?_
    show Steps p.tables e below (T1.setTop (mkF m 12 #[.val (.ref a1), .val .null, .val (.ref vr), .val (.int (4 : Int32)), .val (.int (0 : Int32)), .unset] [])) _
    refine XS.iload X1.here hx rfl (hb hby d18_12) rfl ?_
    show Steps p.tables e below (T1.setTop (mkF m 14 #[.val (.ref a1), .val .null, .val (.ref vr), .val (.int (4 : Int32)), .val (.int (0 : Int32)), .unset] [(.int (0 : Int32))])) _
    refine XS.iloadN X1.here hx rfl (hb hby d18_14) rfl ?_
    show Steps p.tables e below (T1.setTop (mkF m 15 #[.val (.ref a1), .val .null, .val (.ref vr), .val (.int (4 : Int32)), .val (.int (0 : Int32)), .unset] [(.int (4 : Int32)), (.int (0 : Int32))])) _
    exact k
  refine OEnds.go (t' := T1.setTop (mkF m 18 #[.val (.ref a1), .val .null, .val (.ref vr), .val (.int (4 : Int32)), .val (.int (0 : Int32)), .unset] [])) (fun _ k => XS.icmpNo X1.here hx rfl (hb hby d18_15) rfl (tlt (by decide)).2.1 k) ?_
  refine OEnds.go (t' := T1.setTop (mkF m 21 #[.val (.ref a1), .val .null, .val (.ref vr), .val (.int (4 : Int32)), .val (.int (0 : Int32)), .unset] [(.int (0 : Int32)), (.ref vr)])) (fun _ k => ?_) ?_
  · show Steps p.tables e below (T1.setTop (mkF m 18 #[.val (.ref a1), .val .null, .val (.ref vr), .val (.int (4 : Int32)), .val (.int (0 : Int32)), .unset] [])) _
    refine XS.aloadN X1.here hx rfl (hb hby d18_18) rfl rfl ?_
    show Steps p.tables e below (T1.setTop (mkF m 19 #[.val (.ref a1), .val .null, .val (.ref vr), .val (.int (4 : Int32)), .val (.int (0 : Int32)), .unset] [(.ref vr)])) _
    refine XS.iload X1.here hx rfl (hb hby d18_19) rfl ?_
    show Steps p.tables e below (T1.setTop (mkF m 21 #[.val (.ref a1), .val .null, .val (.ref vr), .val (.int (4 : Int32)), .val (.int (0 : Int32)), .unset] [(.int (0 : Int32)), (.ref vr)])) _
    exact k
  obtain ⟨cl3, Ar3, hin3, hat3⟩ := V_vr.rd (j := 0) ⟨by decide, by decide⟩ rfl
  refine OEnds.go (t' := T1.setTop (mkF m 22 #[.val (.ref a1), .val .null, .val (.ref vr), .val (.int (4 : Int32)), .val (.int (0 : Int32)), .unset] [(.ref x0)])) (fun _ k => X1.aaload hx (j := (0 : Int32)) (v := (.ref x0)) Ar3.1 (State.isArrayOf_alike hZ.alike Ar3.2.1) rfl Ar3.2.2 hin3 hat3 (g := (mkF m 21 #[.val (.ref a1), .val .null, .val (.ref vr), .val (.int (4 : Int32)), .val (.int (0 : Int32)), .unset] [(.int (0 : Int32)), (.ref vr)])) rfl rfl (hb hby d18_21) _ k) ?_
  refine OEnds.go (t' := T1.setTop (mkF m 26 #[.val (.ref a1), .val .null, .val (.ref vr), .val (.int (4 : Int32)), .val (.int (0 : Int32)), .val (.ref x0)] [(.ref x0)])) (fun _ k => ?_) ?_
  · show Steps p.tables e below (T1.setTop (mkF m 22 #[.val (.ref a1), .val .null, .val (.ref vr), .val (.int (4 : Int32)), .val (.int (0 : Int32)), .unset] [(.ref x0)])) _
    refine XS.astore X1.here hx rfl (hb hby d18_22) rfl rfl (l' := #[.val (.ref a1), .val .null, .val (.ref vr), .val (.int (4 : Int32)), .val (.int (0 : Int32)), .val (.ref x0)]) rfl ?_
    show Steps p.tables e below (T1.setTop (mkF m 24 #[.val (.ref a1), .val .null, .val (.ref vr), .val (.int (4 : Int32)), .val (.int (0 : Int32)), .val (.ref x0)] [])) _
    refine XS.aload X1.here hx rfl (hb hby d18_24) rfl rfl ?_
    show Steps p.tables e below (T1.setTop (mkF m 26 #[.val (.ref a1), .val .null, .val (.ref vr), .val (.int (4 : Int32)), .val (.int (0 : Int32)), .val (.ref x0)] [(.ref x0)])) _
    exact k
  obtain ⟨T4, X4, e4, st4⟩ := getF X1 hx hZ hown (host := "") (Or.inl (hw _ (List.mem_of_getElem? (i := 105) rfl))) Via.refl rfl (Ft_EB.ext hzt.2) (g := (mkF m 26 #[.val (.ref a1), .val .null, .val (.ref vr), .val (.int (4 : Int32)), .val (.int (0 : Int32)), .val (.ref x0)] [(.ref x0)])) rfl rfl (hb hby d18_26)
  refine OEnds.go (t' := T4.setTop (mkF m 29 #[.val (.ref a1), .val .null, .val (.ref vr), .val (.int (4 : Int32)), .val (.int (0 : Int32)), .val (.ref x0)] [(.ref s_EB)])) (fun _ k => st4 _ k) ?_
  refine OEnds.go (t' := T4.setTop (mkF m 30 #[.val (.ref a1), .val .null, .val (.ref vr), .val (.int (4 : Int32)), .val (.int (0 : Int32)), .val (.ref x0)] [(.ref a1), (.ref s_EB)])) (fun _ k => ?_) ?_
  · show Steps p.tables e below (T4.setTop (mkF m 29 #[.val (.ref a1), .val .null, .val (.ref vr), .val (.int (4 : Int32)), .val (.int (0 : Int32)), .val (.ref x0)] [(.ref s_EB)])) _
    refine XS.aloadN X4.here hx rfl (hb hby d18_29) rfl rfl ?_
    show Steps p.tables e below (T4.setTop (mkF m 30 #[.val (.ref a1), .val .null, .val (.ref vr), .val (.int (4 : Int32)), .val (.int (0 : Int32)), .val (.ref x0)] [(.ref a1), (.ref s_EB)])) _
    exact k
  obtain ⟨cq5, kq5, q5a, q5b, q5c⟩ := isOf hZ e4 (SS_EB.1.ext hzt.2)
  obtain ⟨_, _, ⟨T5, L5, k5, n5⟩, -, X5, ⟨Lc5, hQ5, l5, y5, z5⟩, st5⟩ := X4.virtualBack hx (y := (⟨"java/lang/String", "equals", "(Ljava/lang/Object;)Z"⟩ : MethodName)) (z := (⟨"java/lang/String", "equals", "(Ljava/lang/Object;)Z"⟩ : MethodName)) hown (mvT hZ (hw _ (List.mem_of_getElem? (i := 107) rfl))) (mvT hZ (hw _ (List.mem_of_getElem? (i := 73) rfl))) (notFace_of_selects (args := #[]) (mvT hZ (hw _ (List.mem_of_getElem? (i := 75) rfl)))) (mvT hZ (hw _ (List.mem_of_getElem? (i := 75) rfl))) (mvT hZ (hw _ (List.mem_of_getElem? (i := 74) rfl))) (by decide) (backOf (W := 0) (rm16 l Z a0 hw [] s_EB a1 w1 b_EB b1 k_EB k1 [101, 98] xs T1.heap n0 Z1 (S_C.ext hzt.2) c0 (SS_EB.ext hzt.2) S1) hZ (hw _ (List.mem_of_getElem? (i := 76) rfl)) (hw _ (List.mem_of_getElem? (i := 1) rfl)) (by decide) (by decide)) q5a q5c (g := (mkF m 30 #[.val (.ref a1), .val .null, .val (.ref vr), .val (.int (4 : Int32)), .val (.int (0 : Int32)), .val (.ref x0)] [(.ref a1), (.ref s_EB)])) rfl (by rw [hml]; rfl) (Steps.refl _) (argsL := [(.ref a1)]) (rest := []) (lenOf pd_rm18_1 rfl) rfl (by show 2 * 0 + _ ≤ _; exact Nat.le_of_eq rfl) (hb hby d18_30) (fun _ _ => ⟨rfl, e4, (by decide : 1 + 0 ≤ _), (by decide : 4 + 0 ≤ _)⟩)
  dsimp only [Pt.U, Pt.locs, Pt.cells, Pt.slots] at X5 l5 y5 z5 st5 hQ5
  subst l5 y5 z5
  obtain ⟨rfl, N5q, eh⟩ := hQ5
  have N5 := Fr.app N1 N5q
  have eh5 := eh
  refine OEnds.go (t' := T5.setTop (mkF m 33 #[.val (.ref a1), .val .null, .val (.ref vr), .val (.int (4 : Int32)), .val (.int (0 : Int32)), .val (.ref x0)] [(.int (own_eqL [101, 98] xs))])) (fun _ k => st5.trans k) ?_
  by_cases g0 : (own_eqL [101, 98] xs) = (0 : Int32)
  · refine OEnds.go (t' := T5.setTop (mkF m 42 #[.val (.ref a1), .val .null, .val (.ref vr), .val (.int (4 : Int32)), .val (.int (0 : Int32)), .val (.ref x0)] [])) (fun _ k => XS.ifYes X5.here hx rfl (pc0 := 33) (pc' := 42) rfl (hb hby d18_33) rfl ((if0 _ _).trans (teq g0).1) (by decide) (by decide) k) ?_
    refine OEnds.go (t' := T5.setTop (mkF m 12 #[.val (.ref a1), .val .null, .val (.ref vr), .val (.int (4 : Int32)), .val (.int ((0 : Int32) + (1 : Int32))), .val (.ref x0)] [])) (fun _ k => ?_) ?_
    · show Steps p.tables e below (T5.setTop (mkF m 42 #[.val (.ref a1), .val .null, .val (.ref vr), .val (.int (4 : Int32)), .val (.int (0 : Int32)), .val (.ref x0)] [])) _
      refine XS.iinc X5.here hx rfl (hb hby d18_42) rfl (l' := #[.val (.ref a1), .val .null, .val (.ref vr), .val (.int (4 : Int32)), .val (.int ((0 : Int32) + (1 : Int32))), .val (.ref x0)]) rfl ?_
      show Steps p.tables e below (T5.setTop (mkF m 45 #[.val (.ref a1), .val .null, .val (.ref vr), .val (.int (4 : Int32)), .val (.int ((0 : Int32) + (1 : Int32))), .val (.ref x0)] [])) _
      refine XS.goto X5.here hx rfl (pc0 := 45) (pc' := 12) rfl (hb hby d18_45) (by decide) (by decide) ?_
      show Steps p.tables e below (T5.setTop (mkF m 12 #[.val (.ref a1), .val .null, .val (.ref vr), .val (.int (4 : Int32)), .val (.int ((0 : Int32) + (1 : Int32))), .val (.ref x0)] [])) _
      exact k
    rw [show ((0 : Int32) + (1 : Int32)) = (1 : Int32) from by decide]
    refine OEnds.go (t' := T5.setTop (mkF m 15 #[.val (.ref a1), .val .null, .val (.ref vr), .val (.int (4 : Int32)), .val (.int (1 : Int32)), .val (.ref x0)] [(.int (4 : Int32)), (.int (1 : Int32))])) (fun _ k => ?_) ?_
    · show Steps p.tables e below (T5.setTop (mkF m 12 #[.val (.ref a1), .val .null, .val (.ref vr), .val (.int (4 : Int32)), .val (.int (1 : Int32)), .val (.ref x0)] [])) _
      refine XS.iload X5.here hx rfl (hb hby d18_12) rfl ?_
      show Steps p.tables e below (T5.setTop (mkF m 14 #[.val (.ref a1), .val .null, .val (.ref vr), .val (.int (4 : Int32)), .val (.int (1 : Int32)), .val (.ref x0)] [(.int (1 : Int32))])) _
      refine XS.iloadN X5.here hx rfl (hb hby d18_14) rfl ?_
      show Steps p.tables e below (T5.setTop (mkF m 15 #[.val (.ref a1), .val .null, .val (.ref vr), .val (.int (4 : Int32)), .val (.int (1 : Int32)), .val (.ref x0)] [(.int (4 : Int32)), (.int (1 : Int32))])) _
      exact k
    refine OEnds.go (t' := T5.setTop (mkF m 18 #[.val (.ref a1), .val .null, .val (.ref vr), .val (.int (4 : Int32)), .val (.int (1 : Int32)), .val (.ref x0)] [])) (fun _ k => XS.icmpNo X5.here hx rfl (hb hby d18_15) rfl (tlt (by decide)).2.1 k) ?_
    refine OEnds.go (t' := T5.setTop (mkF m 21 #[.val (.ref a1), .val .null, .val (.ref vr), .val (.int (4 : Int32)), .val (.int (1 : Int32)), .val (.ref x0)] [(.int (1 : Int32)), (.ref vr)])) (fun _ k => ?_) ?_
    · show Steps p.tables e below (T5.setTop (mkF m 18 #[.val (.ref a1), .val .null, .val (.ref vr), .val (.int (4 : Int32)), .val (.int (1 : Int32)), .val (.ref x0)] [])) _
      refine XS.aloadN X5.here hx rfl (hb hby d18_18) rfl rfl ?_
      show Steps p.tables e below (T5.setTop (mkF m 19 #[.val (.ref a1), .val .null, .val (.ref vr), .val (.int (4 : Int32)), .val (.int (1 : Int32)), .val (.ref x0)] [(.ref vr)])) _
      refine XS.iload X5.here hx rfl (hb hby d18_19) rfl ?_
      show Steps p.tables e below (T5.setTop (mkF m 21 #[.val (.ref a1), .val .null, .val (.ref vr), .val (.int (4 : Int32)), .val (.int (1 : Int32)), .val (.ref x0)] [(.int (1 : Int32)), (.ref vr)])) _
      exact k
    obtain ⟨cl6, Ar6, hin6, hat6⟩ := V_vr.rd (j := 1) ⟨by decide, by decide⟩ rfl
    refine OEnds.go (t' := T5.setTop (mkF m 22 #[.val (.ref a1), .val .null, .val (.ref vr), .val (.int (4 : Int32)), .val (.int (1 : Int32)), .val (.ref x0)] [(.ref x1)])) (fun _ k => X5.aaload hx (j := (1 : Int32)) (v := (.ref x1)) (by rw [eh5]; exact Ar6.1) (State.isArrayOf_alike hZ.alike Ar6.2.1) rfl Ar6.2.2 hin6 hat6 (g := (mkF m 21 #[.val (.ref a1), .val .null, .val (.ref vr), .val (.int (4 : Int32)), .val (.int (1 : Int32)), .val (.ref x0)] [(.int (1 : Int32)), (.ref vr)])) rfl rfl (hb hby d18_21) _ k) ?_
    refine OEnds.go (t' := T5.setTop (mkF m 26 #[.val (.ref a1), .val .null, .val (.ref vr), .val (.int (4 : Int32)), .val (.int (1 : Int32)), .val (.ref x1)] [(.ref x1)])) (fun _ k => ?_) ?_
    · show Steps p.tables e below (T5.setTop (mkF m 22 #[.val (.ref a1), .val .null, .val (.ref vr), .val (.int (4 : Int32)), .val (.int (1 : Int32)), .val (.ref x0)] [(.ref x1)])) _
      refine XS.astore X5.here hx rfl (hb hby d18_22) rfl rfl (l' := #[.val (.ref a1), .val .null, .val (.ref vr), .val (.int (4 : Int32)), .val (.int (1 : Int32)), .val (.ref x1)]) rfl ?_
      show Steps p.tables e below (T5.setTop (mkF m 24 #[.val (.ref a1), .val .null, .val (.ref vr), .val (.int (4 : Int32)), .val (.int (1 : Int32)), .val (.ref x1)] [])) _
      refine XS.aload X5.here hx rfl (hb hby d18_24) rfl rfl ?_
      show Steps p.tables e below (T5.setTop (mkF m 26 #[.val (.ref a1), .val .null, .val (.ref vr), .val (.int (4 : Int32)), .val (.int (1 : Int32)), .val (.ref x1)] [(.ref x1)])) _
      exact k
    obtain ⟨T7, X7, e7, st7⟩ := getF X5 hx hZ hown (host := "") (Or.inl (hw _ (List.mem_of_getElem? (i := 105) rfl))) Via.refl eh5 (Ft_TFC_TFC.ext hzt.2) (g := (mkF m 26 #[.val (.ref a1), .val .null, .val (.ref vr), .val (.int (4 : Int32)), .val (.int (1 : Int32)), .val (.ref x1)] [(.ref x1)])) rfl rfl (hb hby d18_26)
    refine OEnds.go (t' := T7.setTop (mkF m 29 #[.val (.ref a1), .val .null, .val (.ref vr), .val (.int (4 : Int32)), .val (.int (1 : Int32)), .val (.ref x1)] [(.ref s_TFC_TFC)])) (fun _ k => st7 _ k) ?_
    refine OEnds.go (t' := T7.setTop (mkF m 30 #[.val (.ref a1), .val .null, .val (.ref vr), .val (.int (4 : Int32)), .val (.int (1 : Int32)), .val (.ref x1)] [(.ref a1), (.ref s_TFC_TFC)])) (fun _ k => ?_) ?_
    · show Steps p.tables e below (T7.setTop (mkF m 29 #[.val (.ref a1), .val .null, .val (.ref vr), .val (.int (4 : Int32)), .val (.int (1 : Int32)), .val (.ref x1)] [(.ref s_TFC_TFC)])) _
      refine XS.aloadN X7.here hx rfl (hb hby d18_29) rfl rfl ?_
      show Steps p.tables e below (T7.setTop (mkF m 30 #[.val (.ref a1), .val .null, .val (.ref vr), .val (.int (4 : Int32)), .val (.int (1 : Int32)), .val (.ref x1)] [(.ref a1), (.ref s_TFC_TFC)])) _
      exact k
    obtain ⟨cq8, kq8, q8a, q8b, q8c⟩ := isOf hZ e7 (SS_TFC_TFC.1.ext hzt.2)
    obtain ⟨_, _, ⟨T8, L8, k8, n8⟩, -, X8, ⟨Lc8, hQ8, l8, y8, z8⟩, st8⟩ := X7.virtualBack hx (y := (⟨"java/lang/String", "equals", "(Ljava/lang/Object;)Z"⟩ : MethodName)) (z := (⟨"java/lang/String", "equals", "(Ljava/lang/Object;)Z"⟩ : MethodName)) hown (mvT hZ (hw _ (List.mem_of_getElem? (i := 107) rfl))) (mvT hZ (hw _ (List.mem_of_getElem? (i := 73) rfl))) (notFace_of_selects (args := #[]) (mvT hZ (hw _ (List.mem_of_getElem? (i := 75) rfl)))) (mvT hZ (hw _ (List.mem_of_getElem? (i := 75) rfl))) (mvT hZ (hw _ (List.mem_of_getElem? (i := 74) rfl))) (by decide) (backOf (W := 0) (rm16 l Z a0 hw [] s_TFC_TFC a1 w1 b_TFC_TFC b1 k_TFC_TFC k1 [116, 102, 99, 46, 116, 102, 99] xs T1.heap n0 Z1 (S_C.ext hzt.2) c0 (SS_TFC_TFC.ext hzt.2) S1) hZ (hw _ (List.mem_of_getElem? (i := 76) rfl)) (hw _ (List.mem_of_getElem? (i := 1) rfl)) (by decide) (by decide)) q8a q8c (g := (mkF m 30 #[.val (.ref a1), .val .null, .val (.ref vr), .val (.int (4 : Int32)), .val (.int (1 : Int32)), .val (.ref x1)] [(.ref a1), (.ref s_TFC_TFC)])) rfl (by rw [hml]; rfl) (Steps.refl _) (argsL := [(.ref a1)]) (rest := []) (lenOf pd_rm18_1 rfl) rfl (by show 2 * 0 + _ ≤ _; exact Nat.le_of_eq rfl) (hb hby d18_30) (fun _ _ => ⟨rfl, e7, (by decide : 1 + 0 ≤ _), (by decide : 4 + 0 ≤ _)⟩)
    dsimp only [Pt.U, Pt.locs, Pt.cells, Pt.slots] at X8 l8 y8 z8 st8 hQ8
    subst l8 y8 z8
    obtain ⟨rfl, N8q, eh⟩ := hQ8
    have N8 := Fr.app N5 N8q
    have eh8 := eh
    refine OEnds.go (t' := T8.setTop (mkF m 33 #[.val (.ref a1), .val .null, .val (.ref vr), .val (.int (4 : Int32)), .val (.int (1 : Int32)), .val (.ref x1)] [(.int (own_eqL [116, 102, 99, 46, 116, 102, 99] xs))])) (fun _ k => st8.trans k) ?_
    by_cases g1 : (own_eqL [116, 102, 99, 46, 116, 102, 99] xs) = (0 : Int32)
    · refine OEnds.go (t' := T8.setTop (mkF m 42 #[.val (.ref a1), .val .null, .val (.ref vr), .val (.int (4 : Int32)), .val (.int (1 : Int32)), .val (.ref x1)] [])) (fun _ k => XS.ifYes X8.here hx rfl (pc0 := 33) (pc' := 42) rfl (hb hby d18_33) rfl ((if0 _ _).trans (teq g1).1) (by decide) (by decide) k) ?_
      refine OEnds.go (t' := T8.setTop (mkF m 12 #[.val (.ref a1), .val .null, .val (.ref vr), .val (.int (4 : Int32)), .val (.int ((1 : Int32) + (1 : Int32))), .val (.ref x1)] [])) (fun _ k => ?_) ?_
      · show Steps p.tables e below (T8.setTop (mkF m 42 #[.val (.ref a1), .val .null, .val (.ref vr), .val (.int (4 : Int32)), .val (.int (1 : Int32)), .val (.ref x1)] [])) _
        refine XS.iinc X8.here hx rfl (hb hby d18_42) rfl (l' := #[.val (.ref a1), .val .null, .val (.ref vr), .val (.int (4 : Int32)), .val (.int ((1 : Int32) + (1 : Int32))), .val (.ref x1)]) rfl ?_
        show Steps p.tables e below (T8.setTop (mkF m 45 #[.val (.ref a1), .val .null, .val (.ref vr), .val (.int (4 : Int32)), .val (.int ((1 : Int32) + (1 : Int32))), .val (.ref x1)] [])) _
        refine XS.goto X8.here hx rfl (pc0 := 45) (pc' := 12) rfl (hb hby d18_45) (by decide) (by decide) ?_
        show Steps p.tables e below (T8.setTop (mkF m 12 #[.val (.ref a1), .val .null, .val (.ref vr), .val (.int (4 : Int32)), .val (.int ((1 : Int32) + (1 : Int32))), .val (.ref x1)] [])) _
        exact k
      rw [show ((1 : Int32) + (1 : Int32)) = (2 : Int32) from by decide]
      refine OEnds.go (t' := T8.setTop (mkF m 15 #[.val (.ref a1), .val .null, .val (.ref vr), .val (.int (4 : Int32)), .val (.int (2 : Int32)), .val (.ref x1)] [(.int (4 : Int32)), (.int (2 : Int32))])) (fun _ k => ?_) ?_
      · show Steps p.tables e below (T8.setTop (mkF m 12 #[.val (.ref a1), .val .null, .val (.ref vr), .val (.int (4 : Int32)), .val (.int (2 : Int32)), .val (.ref x1)] [])) _
        refine XS.iload X8.here hx rfl (hb hby d18_12) rfl ?_
        show Steps p.tables e below (T8.setTop (mkF m 14 #[.val (.ref a1), .val .null, .val (.ref vr), .val (.int (4 : Int32)), .val (.int (2 : Int32)), .val (.ref x1)] [(.int (2 : Int32))])) _
        refine XS.iloadN X8.here hx rfl (hb hby d18_14) rfl ?_
        show Steps p.tables e below (T8.setTop (mkF m 15 #[.val (.ref a1), .val .null, .val (.ref vr), .val (.int (4 : Int32)), .val (.int (2 : Int32)), .val (.ref x1)] [(.int (4 : Int32)), (.int (2 : Int32))])) _
        exact k
      refine OEnds.go (t' := T8.setTop (mkF m 18 #[.val (.ref a1), .val .null, .val (.ref vr), .val (.int (4 : Int32)), .val (.int (2 : Int32)), .val (.ref x1)] [])) (fun _ k => XS.icmpNo X8.here hx rfl (hb hby d18_15) rfl (tlt (by decide)).2.1 k) ?_
      refine OEnds.go (t' := T8.setTop (mkF m 21 #[.val (.ref a1), .val .null, .val (.ref vr), .val (.int (4 : Int32)), .val (.int (2 : Int32)), .val (.ref x1)] [(.int (2 : Int32)), (.ref vr)])) (fun _ k => ?_) ?_
      · show Steps p.tables e below (T8.setTop (mkF m 18 #[.val (.ref a1), .val .null, .val (.ref vr), .val (.int (4 : Int32)), .val (.int (2 : Int32)), .val (.ref x1)] [])) _
        refine XS.aloadN X8.here hx rfl (hb hby d18_18) rfl rfl ?_
        show Steps p.tables e below (T8.setTop (mkF m 19 #[.val (.ref a1), .val .null, .val (.ref vr), .val (.int (4 : Int32)), .val (.int (2 : Int32)), .val (.ref x1)] [(.ref vr)])) _
        refine XS.iload X8.here hx rfl (hb hby d18_19) rfl ?_
        show Steps p.tables e below (T8.setTop (mkF m 21 #[.val (.ref a1), .val .null, .val (.ref vr), .val (.int (4 : Int32)), .val (.int (2 : Int32)), .val (.ref x1)] [(.int (2 : Int32)), (.ref vr)])) _
        exact k
      obtain ⟨cl9, Ar9, hin9, hat9⟩ := V_vr.rd (j := 2) ⟨by decide, by decide⟩ rfl
      refine OEnds.go (t' := T8.setTop (mkF m 22 #[.val (.ref a1), .val .null, .val (.ref vr), .val (.int (4 : Int32)), .val (.int (2 : Int32)), .val (.ref x1)] [(.ref x2)])) (fun _ k => X8.aaload hx (j := (2 : Int32)) (v := (.ref x2)) (by rw [eh8]; exact Ar9.1) (State.isArrayOf_alike hZ.alike Ar9.2.1) rfl Ar9.2.2 hin9 hat9 (g := (mkF m 21 #[.val (.ref a1), .val .null, .val (.ref vr), .val (.int (4 : Int32)), .val (.int (2 : Int32)), .val (.ref x1)] [(.int (2 : Int32)), (.ref vr)])) rfl rfl (hb hby d18_21) _ k) ?_
      refine OEnds.go (t' := T8.setTop (mkF m 26 #[.val (.ref a1), .val .null, .val (.ref vr), .val (.int (4 : Int32)), .val (.int (2 : Int32)), .val (.ref x2)] [(.ref x2)])) (fun _ k => ?_) ?_
      · show Steps p.tables e below (T8.setTop (mkF m 22 #[.val (.ref a1), .val .null, .val (.ref vr), .val (.int (4 : Int32)), .val (.int (2 : Int32)), .val (.ref x1)] [(.ref x2)])) _
        refine XS.astore X8.here hx rfl (hb hby d18_22) rfl rfl (l' := #[.val (.ref a1), .val .null, .val (.ref vr), .val (.int (4 : Int32)), .val (.int (2 : Int32)), .val (.ref x2)]) rfl ?_
        show Steps p.tables e below (T8.setTop (mkF m 24 #[.val (.ref a1), .val .null, .val (.ref vr), .val (.int (4 : Int32)), .val (.int (2 : Int32)), .val (.ref x2)] [])) _
        refine XS.aload X8.here hx rfl (hb hby d18_24) rfl rfl ?_
        show Steps p.tables e below (T8.setTop (mkF m 26 #[.val (.ref a1), .val .null, .val (.ref vr), .val (.int (4 : Int32)), .val (.int (2 : Int32)), .val (.ref x2)] [(.ref x2)])) _
        exact k
      obtain ⟨T10, X10, e10, st10⟩ := getF X8 hx hZ hown (host := "") (Or.inl (hw _ (List.mem_of_getElem? (i := 105) rfl))) Via.refl eh8 (Ft_LXC_LTC.ext hzt.2) (g := (mkF m 26 #[.val (.ref a1), .val .null, .val (.ref vr), .val (.int (4 : Int32)), .val (.int (2 : Int32)), .val (.ref x2)] [(.ref x2)])) rfl rfl (hb hby d18_26)
      refine OEnds.go (t' := T10.setTop (mkF m 29 #[.val (.ref a1), .val .null, .val (.ref vr), .val (.int (4 : Int32)), .val (.int (2 : Int32)), .val (.ref x2)] [(.ref s_LXC_LTC)])) (fun _ k => st10 _ k) ?_
      refine OEnds.go (t' := T10.setTop (mkF m 30 #[.val (.ref a1), .val .null, .val (.ref vr), .val (.int (4 : Int32)), .val (.int (2 : Int32)), .val (.ref x2)] [(.ref a1), (.ref s_LXC_LTC)])) (fun _ k => ?_) ?_
      · show Steps p.tables e below (T10.setTop (mkF m 29 #[.val (.ref a1), .val .null, .val (.ref vr), .val (.int (4 : Int32)), .val (.int (2 : Int32)), .val (.ref x2)] [(.ref s_LXC_LTC)])) _
        refine XS.aloadN X10.here hx rfl (hb hby d18_29) rfl rfl ?_
        show Steps p.tables e below (T10.setTop (mkF m 30 #[.val (.ref a1), .val .null, .val (.ref vr), .val (.int (4 : Int32)), .val (.int (2 : Int32)), .val (.ref x2)] [(.ref a1), (.ref s_LXC_LTC)])) _
        exact k
      obtain ⟨cq11, kq11, q11a, q11b, q11c⟩ := isOf hZ e10 (SS_LXC_LTC.1.ext hzt.2)
      obtain ⟨_, _, ⟨T11, L11, k11, n11⟩, -, X11, ⟨Lc11, hQ11, l11, y11, z11⟩, st11⟩ := X10.virtualBack hx (y := (⟨"java/lang/String", "equals", "(Ljava/lang/Object;)Z"⟩ : MethodName)) (z := (⟨"java/lang/String", "equals", "(Ljava/lang/Object;)Z"⟩ : MethodName)) hown (mvT hZ (hw _ (List.mem_of_getElem? (i := 107) rfl))) (mvT hZ (hw _ (List.mem_of_getElem? (i := 73) rfl))) (notFace_of_selects (args := #[]) (mvT hZ (hw _ (List.mem_of_getElem? (i := 75) rfl)))) (mvT hZ (hw _ (List.mem_of_getElem? (i := 75) rfl))) (mvT hZ (hw _ (List.mem_of_getElem? (i := 74) rfl))) (by decide) (backOf (W := 0) (rm16 l Z a0 hw [] s_LXC_LTC a1 w1 b_LXC_LTC b1 k_LXC_LTC k1 [108, 120, 99, 46, 108, 116, 99] xs T1.heap n0 Z1 (S_C.ext hzt.2) c0 (SS_LXC_LTC.ext hzt.2) S1) hZ (hw _ (List.mem_of_getElem? (i := 76) rfl)) (hw _ (List.mem_of_getElem? (i := 1) rfl)) (by decide) (by decide)) q11a q11c (g := (mkF m 30 #[.val (.ref a1), .val .null, .val (.ref vr), .val (.int (4 : Int32)), .val (.int (2 : Int32)), .val (.ref x2)] [(.ref a1), (.ref s_LXC_LTC)])) rfl (by rw [hml]; rfl) (Steps.refl _) (argsL := [(.ref a1)]) (rest := []) (lenOf pd_rm18_1 rfl) rfl (by show 2 * 0 + _ ≤ _; exact Nat.le_of_eq rfl) (hb hby d18_30) (fun _ _ => ⟨rfl, e10, (by decide : 1 + 0 ≤ _), (by decide : 4 + 0 ≤ _)⟩)
      dsimp only [Pt.U, Pt.locs, Pt.cells, Pt.slots] at X11 l11 y11 z11 st11 hQ11
      subst l11 y11 z11
      obtain ⟨rfl, N11q, eh⟩ := hQ11
      have N11 := Fr.app N8 N11q
      have eh11 := eh
      refine OEnds.go (t' := T11.setTop (mkF m 33 #[.val (.ref a1), .val .null, .val (.ref vr), .val (.int (4 : Int32)), .val (.int (2 : Int32)), .val (.ref x2)] [(.int (own_eqL [108, 120, 99, 46, 108, 116, 99] xs))])) (fun _ k => st11.trans k) ?_
      by_cases g2 : (own_eqL [108, 120, 99, 46, 108, 116, 99] xs) = (0 : Int32)
      · refine OEnds.go (t' := T11.setTop (mkF m 42 #[.val (.ref a1), .val .null, .val (.ref vr), .val (.int (4 : Int32)), .val (.int (2 : Int32)), .val (.ref x2)] [])) (fun _ k => XS.ifYes X11.here hx rfl (pc0 := 33) (pc' := 42) rfl (hb hby d18_33) rfl ((if0 _ _).trans (teq g2).1) (by decide) (by decide) k) ?_
        refine OEnds.go (t' := T11.setTop (mkF m 12 #[.val (.ref a1), .val .null, .val (.ref vr), .val (.int (4 : Int32)), .val (.int ((2 : Int32) + (1 : Int32))), .val (.ref x2)] [])) (fun _ k => ?_) ?_
        · show Steps p.tables e below (T11.setTop (mkF m 42 #[.val (.ref a1), .val .null, .val (.ref vr), .val (.int (4 : Int32)), .val (.int (2 : Int32)), .val (.ref x2)] [])) _
          refine XS.iinc X11.here hx rfl (hb hby d18_42) rfl (l' := #[.val (.ref a1), .val .null, .val (.ref vr), .val (.int (4 : Int32)), .val (.int ((2 : Int32) + (1 : Int32))), .val (.ref x2)]) rfl ?_
          show Steps p.tables e below (T11.setTop (mkF m 45 #[.val (.ref a1), .val .null, .val (.ref vr), .val (.int (4 : Int32)), .val (.int ((2 : Int32) + (1 : Int32))), .val (.ref x2)] [])) _
          refine XS.goto X11.here hx rfl (pc0 := 45) (pc' := 12) rfl (hb hby d18_45) (by decide) (by decide) ?_
          show Steps p.tables e below (T11.setTop (mkF m 12 #[.val (.ref a1), .val .null, .val (.ref vr), .val (.int (4 : Int32)), .val (.int ((2 : Int32) + (1 : Int32))), .val (.ref x2)] [])) _
          exact k
        rw [show ((2 : Int32) + (1 : Int32)) = (3 : Int32) from by decide]
        refine OEnds.go (t' := T11.setTop (mkF m 15 #[.val (.ref a1), .val .null, .val (.ref vr), .val (.int (4 : Int32)), .val (.int (3 : Int32)), .val (.ref x2)] [(.int (4 : Int32)), (.int (3 : Int32))])) (fun _ k => ?_) ?_
        · show Steps p.tables e below (T11.setTop (mkF m 12 #[.val (.ref a1), .val .null, .val (.ref vr), .val (.int (4 : Int32)), .val (.int (3 : Int32)), .val (.ref x2)] [])) _
          refine XS.iload X11.here hx rfl (hb hby d18_12) rfl ?_
          show Steps p.tables e below (T11.setTop (mkF m 14 #[.val (.ref a1), .val .null, .val (.ref vr), .val (.int (4 : Int32)), .val (.int (3 : Int32)), .val (.ref x2)] [(.int (3 : Int32))])) _
          refine XS.iloadN X11.here hx rfl (hb hby d18_14) rfl ?_
          show Steps p.tables e below (T11.setTop (mkF m 15 #[.val (.ref a1), .val .null, .val (.ref vr), .val (.int (4 : Int32)), .val (.int (3 : Int32)), .val (.ref x2)] [(.int (4 : Int32)), (.int (3 : Int32))])) _
          exact k
        refine OEnds.go (t' := T11.setTop (mkF m 18 #[.val (.ref a1), .val .null, .val (.ref vr), .val (.int (4 : Int32)), .val (.int (3 : Int32)), .val (.ref x2)] [])) (fun _ k => XS.icmpNo X11.here hx rfl (hb hby d18_15) rfl (tlt (by decide)).2.1 k) ?_
        refine OEnds.go (t' := T11.setTop (mkF m 21 #[.val (.ref a1), .val .null, .val (.ref vr), .val (.int (4 : Int32)), .val (.int (3 : Int32)), .val (.ref x2)] [(.int (3 : Int32)), (.ref vr)])) (fun _ k => ?_) ?_
        · show Steps p.tables e below (T11.setTop (mkF m 18 #[.val (.ref a1), .val .null, .val (.ref vr), .val (.int (4 : Int32)), .val (.int (3 : Int32)), .val (.ref x2)] [])) _
          refine XS.aloadN X11.here hx rfl (hb hby d18_18) rfl rfl ?_
          show Steps p.tables e below (T11.setTop (mkF m 19 #[.val (.ref a1), .val .null, .val (.ref vr), .val (.int (4 : Int32)), .val (.int (3 : Int32)), .val (.ref x2)] [(.ref vr)])) _
          refine XS.iload X11.here hx rfl (hb hby d18_19) rfl ?_
          show Steps p.tables e below (T11.setTop (mkF m 21 #[.val (.ref a1), .val .null, .val (.ref vr), .val (.int (4 : Int32)), .val (.int (3 : Int32)), .val (.ref x2)] [(.int (3 : Int32)), (.ref vr)])) _
          exact k
        obtain ⟨cl12, Ar12, hin12, hat12⟩ := V_vr.rd (j := 3) ⟨by decide, by decide⟩ rfl
        refine OEnds.go (t' := T11.setTop (mkF m 22 #[.val (.ref a1), .val .null, .val (.ref vr), .val (.int (4 : Int32)), .val (.int (3 : Int32)), .val (.ref x2)] [(.ref x3)])) (fun _ k => X11.aaload hx (j := (3 : Int32)) (v := (.ref x3)) (by rw [eh11]; exact Ar12.1) (State.isArrayOf_alike hZ.alike Ar12.2.1) rfl Ar12.2.2 hin12 hat12 (g := (mkF m 21 #[.val (.ref a1), .val .null, .val (.ref vr), .val (.int (4 : Int32)), .val (.int (3 : Int32)), .val (.ref x2)] [(.int (3 : Int32)), (.ref vr)])) rfl rfl (hb hby d18_21) _ k) ?_
        refine OEnds.go (t' := T11.setTop (mkF m 26 #[.val (.ref a1), .val .null, .val (.ref vr), .val (.int (4 : Int32)), .val (.int (3 : Int32)), .val (.ref x3)] [(.ref x3)])) (fun _ k => ?_) ?_
        · show Steps p.tables e below (T11.setTop (mkF m 22 #[.val (.ref a1), .val .null, .val (.ref vr), .val (.int (4 : Int32)), .val (.int (3 : Int32)), .val (.ref x2)] [(.ref x3)])) _
          refine XS.astore X11.here hx rfl (hb hby d18_22) rfl rfl (l' := #[.val (.ref a1), .val .null, .val (.ref vr), .val (.int (4 : Int32)), .val (.int (3 : Int32)), .val (.ref x3)]) rfl ?_
          show Steps p.tables e below (T11.setTop (mkF m 24 #[.val (.ref a1), .val .null, .val (.ref vr), .val (.int (4 : Int32)), .val (.int (3 : Int32)), .val (.ref x3)] [])) _
          refine XS.aload X11.here hx rfl (hb hby d18_24) rfl rfl ?_
          show Steps p.tables e below (T11.setTop (mkF m 26 #[.val (.ref a1), .val .null, .val (.ref vr), .val (.int (4 : Int32)), .val (.int (3 : Int32)), .val (.ref x3)] [(.ref x3)])) _
          exact k
        obtain ⟨T13, X13, e13, st13⟩ := getF X11 hx hZ hown (host := "") (Or.inl (hw _ (List.mem_of_getElem? (i := 105) rfl))) Via.refl eh11 (Ft_LNU_LTU.ext hzt.2) (g := (mkF m 26 #[.val (.ref a1), .val .null, .val (.ref vr), .val (.int (4 : Int32)), .val (.int (3 : Int32)), .val (.ref x3)] [(.ref x3)])) rfl rfl (hb hby d18_26)
        refine OEnds.go (t' := T13.setTop (mkF m 29 #[.val (.ref a1), .val .null, .val (.ref vr), .val (.int (4 : Int32)), .val (.int (3 : Int32)), .val (.ref x3)] [(.ref s_LNU_LTU)])) (fun _ k => st13 _ k) ?_
        refine OEnds.go (t' := T13.setTop (mkF m 30 #[.val (.ref a1), .val .null, .val (.ref vr), .val (.int (4 : Int32)), .val (.int (3 : Int32)), .val (.ref x3)] [(.ref a1), (.ref s_LNU_LTU)])) (fun _ k => ?_) ?_
        · show Steps p.tables e below (T13.setTop (mkF m 29 #[.val (.ref a1), .val .null, .val (.ref vr), .val (.int (4 : Int32)), .val (.int (3 : Int32)), .val (.ref x3)] [(.ref s_LNU_LTU)])) _
          refine XS.aloadN X13.here hx rfl (hb hby d18_29) rfl rfl ?_
          show Steps p.tables e below (T13.setTop (mkF m 30 #[.val (.ref a1), .val .null, .val (.ref vr), .val (.int (4 : Int32)), .val (.int (3 : Int32)), .val (.ref x3)] [(.ref a1), (.ref s_LNU_LTU)])) _
          exact k
        obtain ⟨cq14, kq14, q14a, q14b, q14c⟩ := isOf hZ e13 (SS_LNU_LTU.1.ext hzt.2)
        obtain ⟨_, _, ⟨T14, L14, k14, n14⟩, -, X14, ⟨Lc14, hQ14, l14, y14, z14⟩, st14⟩ := X13.virtualBack hx (y := (⟨"java/lang/String", "equals", "(Ljava/lang/Object;)Z"⟩ : MethodName)) (z := (⟨"java/lang/String", "equals", "(Ljava/lang/Object;)Z"⟩ : MethodName)) hown (mvT hZ (hw _ (List.mem_of_getElem? (i := 107) rfl))) (mvT hZ (hw _ (List.mem_of_getElem? (i := 73) rfl))) (notFace_of_selects (args := #[]) (mvT hZ (hw _ (List.mem_of_getElem? (i := 75) rfl)))) (mvT hZ (hw _ (List.mem_of_getElem? (i := 75) rfl))) (mvT hZ (hw _ (List.mem_of_getElem? (i := 74) rfl))) (by decide) (backOf (W := 0) (rm16 l Z a0 hw [] s_LNU_LTU a1 w1 b_LNU_LTU b1 k_LNU_LTU k1 [76, 110, 117, 46, 108, 116, 117] xs T1.heap n0 Z1 (S_C.ext hzt.2) c0 (SS_LNU_LTU.ext hzt.2) S1) hZ (hw _ (List.mem_of_getElem? (i := 76) rfl)) (hw _ (List.mem_of_getElem? (i := 1) rfl)) (by decide) (by decide)) q14a q14c (g := (mkF m 30 #[.val (.ref a1), .val .null, .val (.ref vr), .val (.int (4 : Int32)), .val (.int (3 : Int32)), .val (.ref x3)] [(.ref a1), (.ref s_LNU_LTU)])) rfl (by rw [hml]; rfl) (Steps.refl _) (argsL := [(.ref a1)]) (rest := []) (lenOf pd_rm18_1 rfl) rfl (by show 2 * 0 + _ ≤ _; exact Nat.le_of_eq rfl) (hb hby d18_30) (fun _ _ => ⟨rfl, e13, (by decide : 1 + 0 ≤ _), (by decide : 4 + 0 ≤ _)⟩)
        dsimp only [Pt.U, Pt.locs, Pt.cells, Pt.slots] at X14 l14 y14 z14 st14 hQ14
        subst l14 y14 z14
        obtain ⟨rfl, N14q, eh⟩ := hQ14
        have N14 := Fr.app N11 N14q
        have eh14 := eh
        refine OEnds.go (t' := T14.setTop (mkF m 33 #[.val (.ref a1), .val .null, .val (.ref vr), .val (.int (4 : Int32)), .val (.int (3 : Int32)), .val (.ref x3)] [(.int (own_eqL [76, 110, 117, 46, 108, 116, 117] xs))])) (fun _ k => st14.trans k) ?_
        by_cases g3 : (own_eqL [76, 110, 117, 46, 108, 116, 117] xs) = (0 : Int32)
        · refine OEnds.go (t' := T14.setTop (mkF m 42 #[.val (.ref a1), .val .null, .val (.ref vr), .val (.int (4 : Int32)), .val (.int (3 : Int32)), .val (.ref x3)] [])) (fun _ k => XS.ifYes X14.here hx rfl (pc0 := 33) (pc' := 42) rfl (hb hby d18_33) rfl ((if0 _ _).trans (teq g3).1) (by decide) (by decide) k) ?_
          refine OEnds.go (t' := T14.setTop (mkF m 12 #[.val (.ref a1), .val .null, .val (.ref vr), .val (.int (4 : Int32)), .val (.int ((3 : Int32) + (1 : Int32))), .val (.ref x3)] [])) (fun _ k => ?_) ?_
          · show Steps p.tables e below (T14.setTop (mkF m 42 #[.val (.ref a1), .val .null, .val (.ref vr), .val (.int (4 : Int32)), .val (.int (3 : Int32)), .val (.ref x3)] [])) _
            refine XS.iinc X14.here hx rfl (hb hby d18_42) rfl (l' := #[.val (.ref a1), .val .null, .val (.ref vr), .val (.int (4 : Int32)), .val (.int ((3 : Int32) + (1 : Int32))), .val (.ref x3)]) rfl ?_
            show Steps p.tables e below (T14.setTop (mkF m 45 #[.val (.ref a1), .val .null, .val (.ref vr), .val (.int (4 : Int32)), .val (.int ((3 : Int32) + (1 : Int32))), .val (.ref x3)] [])) _
            refine XS.goto X14.here hx rfl (pc0 := 45) (pc' := 12) rfl (hb hby d18_45) (by decide) (by decide) ?_
            show Steps p.tables e below (T14.setTop (mkF m 12 #[.val (.ref a1), .val .null, .val (.ref vr), .val (.int (4 : Int32)), .val (.int ((3 : Int32) + (1 : Int32))), .val (.ref x3)] [])) _
            exact k
          rw [show ((3 : Int32) + (1 : Int32)) = (4 : Int32) from by decide]
          refine OEnds.go (t' := T14.setTop (mkF m 15 #[.val (.ref a1), .val .null, .val (.ref vr), .val (.int (4 : Int32)), .val (.int (4 : Int32)), .val (.ref x3)] [(.int (4 : Int32)), (.int (4 : Int32))])) (fun _ k => ?_) ?_
          · show Steps p.tables e below (T14.setTop (mkF m 12 #[.val (.ref a1), .val .null, .val (.ref vr), .val (.int (4 : Int32)), .val (.int (4 : Int32)), .val (.ref x3)] [])) _
            refine XS.iload X14.here hx rfl (hb hby d18_12) rfl ?_
            show Steps p.tables e below (T14.setTop (mkF m 14 #[.val (.ref a1), .val .null, .val (.ref vr), .val (.int (4 : Int32)), .val (.int (4 : Int32)), .val (.ref x3)] [(.int (4 : Int32))])) _
            refine XS.iloadN X14.here hx rfl (hb hby d18_14) rfl ?_
            show Steps p.tables e below (T14.setTop (mkF m 15 #[.val (.ref a1), .val .null, .val (.ref vr), .val (.int (4 : Int32)), .val (.int (4 : Int32)), .val (.ref x3)] [(.int (4 : Int32)), (.int (4 : Int32))])) _
            exact k
          refine OEnds.go (t' := T14.setTop (mkF m 48 #[.val (.ref a1), .val .null, .val (.ref vr), .val (.int (4 : Int32)), .val (.int (4 : Int32)), .val (.ref x3)] [])) (fun _ k => XS.icmpYes X14.here hx rfl (pc0 := 15) (pc' := 48) rfl (hb hby d18_15) rfl (flt (by decide)).2.1 (by decide) (by decide) k) ?_
          refine OEnds.go (t' := T14.setTop (mkF m 49 #[.val (.ref a1), .val .null, .val (.ref vr), .val (.int (4 : Int32)), .val (.int (4 : Int32)), .val (.ref x3)] [.null])) (fun _ k => ?_) ?_
          · show Steps p.tables e below (T14.setTop (mkF m 48 #[.val (.ref a1), .val .null, .val (.ref vr), .val (.int (4 : Int32)), .val (.int (4 : Int32)), .val (.ref x3)] [])) _
            refine XS.aloadN X14.here hx rfl (hb hby d18_48) rfl rfl ?_
            show Steps p.tables e below (T14.setTop (mkF m 49 #[.val (.ref a1), .val .null, .val (.ref vr), .val (.int (4 : Int32)), .val (.int (4 : Int32)), .val (.ref x3)] [.null])) _
            exact k
          refine OEnds.back X14 hlk (v := (some .null)) (fun h => by rw [hrt] at h; cases h) (fun fs hr => ?_) ?_ (by decide) (by decide)
          · exact retA X14 hx hrt rfl rfl rfl (hb hby d18_49) hr
          · show Q18 Z a1 x0 x1 x2 x3 va s_EB b_EB k_EB s_TFC_TFC b_TFC_TFC k_TFC_TFC s_LXC_LTC b_LXC_LTC k_LXC_LTC s_LNU_LTU b_LNU_LTU k_LNU_LTU w1 b1 k1 xs h0 n0 _ T14.heap _
            rw [eh14]
            exact ⟨by rw [own_pick, if_neg (own_eqL0 g0), if_neg (own_eqL0 g1), if_neg (own_eqL0 g2), if_neg (own_eqL0 g3)], N14, K1⟩
        · refine OEnds.go (t' := T14.setTop (mkF m 36 #[.val (.ref a1), .val .null, .val (.ref vr), .val (.int (4 : Int32)), .val (.int (3 : Int32)), .val (.ref x3)] [])) (fun _ k => XS.ifNo X14.here hx rfl (hb hby d18_33) rfl ((if0 _ _).trans (feq g3).1) k) ?_
          refine OEnds.go (t' := T14.setTop (mkF m 49 #[.val (.ref a1), .val (.ref x3), .val (.ref vr), .val (.int (4 : Int32)), .val (.int (3 : Int32)), .val (.ref x3)] [(.ref x3)])) (fun _ k => ?_) ?_
          · show Steps p.tables e below (T14.setTop (mkF m 36 #[.val (.ref a1), .val .null, .val (.ref vr), .val (.int (4 : Int32)), .val (.int (3 : Int32)), .val (.ref x3)] [])) _
            refine XS.aload X14.here hx rfl (hb hby d18_36) rfl rfl ?_
            show Steps p.tables e below (T14.setTop (mkF m 38 #[.val (.ref a1), .val .null, .val (.ref vr), .val (.int (4 : Int32)), .val (.int (3 : Int32)), .val (.ref x3)] [(.ref x3)])) _
            refine XS.astoreN X14.here hx rfl (hb hby d18_38) rfl rfl (l' := #[.val (.ref a1), .val (.ref x3), .val (.ref vr), .val (.int (4 : Int32)), .val (.int (3 : Int32)), .val (.ref x3)]) rfl ?_
            show Steps p.tables e below (T14.setTop (mkF m 39 #[.val (.ref a1), .val (.ref x3), .val (.ref vr), .val (.int (4 : Int32)), .val (.int (3 : Int32)), .val (.ref x3)] [])) _
            refine XS.goto X14.here hx rfl (pc0 := 39) (pc' := 48) rfl (hb hby d18_39) (by decide) (by decide) ?_
            show Steps p.tables e below (T14.setTop (mkF m 48 #[.val (.ref a1), .val (.ref x3), .val (.ref vr), .val (.int (4 : Int32)), .val (.int (3 : Int32)), .val (.ref x3)] [])) _
            refine XS.aloadN X14.here hx rfl (hb hby d18_48) rfl rfl ?_
            show Steps p.tables e below (T14.setTop (mkF m 49 #[.val (.ref a1), .val (.ref x3), .val (.ref vr), .val (.int (4 : Int32)), .val (.int (3 : Int32)), .val (.ref x3)] [(.ref x3)])) _
            exact k
          refine OEnds.back X14 hlk (v := (some (.ref x3))) (fun h => by rw [hrt] at h; cases h) (fun fs hr => ?_) ?_ (by decide) (by decide)
          · exact retA X14 hx hrt rfl rfl rfl (hb hby d18_49) hr
          · show Q18 Z a1 x0 x1 x2 x3 va s_EB b_EB k_EB s_TFC_TFC b_TFC_TFC k_TFC_TFC s_LXC_LTC b_LXC_LTC k_LXC_LTC s_LNU_LTU b_LNU_LTU k_LNU_LTU w1 b1 k1 xs h0 n0 _ T14.heap _
            rw [eh14]
            exact ⟨by rw [own_pick, if_neg (own_eqL0 g0), if_neg (own_eqL0 g1), if_neg (own_eqL0 g2), if_pos (own_eqLt g3)], N14, K1⟩
      · refine OEnds.go (t' := T11.setTop (mkF m 36 #[.val (.ref a1), .val .null, .val (.ref vr), .val (.int (4 : Int32)), .val (.int (2 : Int32)), .val (.ref x2)] [])) (fun _ k => XS.ifNo X11.here hx rfl (hb hby d18_33) rfl ((if0 _ _).trans (feq g2).1) k) ?_
        refine OEnds.go (t' := T11.setTop (mkF m 49 #[.val (.ref a1), .val (.ref x2), .val (.ref vr), .val (.int (4 : Int32)), .val (.int (2 : Int32)), .val (.ref x2)] [(.ref x2)])) (fun _ k => ?_) ?_
        · show Steps p.tables e below (T11.setTop (mkF m 36 #[.val (.ref a1), .val .null, .val (.ref vr), .val (.int (4 : Int32)), .val (.int (2 : Int32)), .val (.ref x2)] [])) _
          refine XS.aload X11.here hx rfl (hb hby d18_36) rfl rfl ?_
          show Steps p.tables e below (T11.setTop (mkF m 38 #[.val (.ref a1), .val .null, .val (.ref vr), .val (.int (4 : Int32)), .val (.int (2 : Int32)), .val (.ref x2)] [(.ref x2)])) _
          refine XS.astoreN X11.here hx rfl (hb hby d18_38) rfl rfl (l' := #[.val (.ref a1), .val (.ref x2), .val (.ref vr), .val (.int (4 : Int32)), .val (.int (2 : Int32)), .val (.ref x2)]) rfl ?_
          show Steps p.tables e below (T11.setTop (mkF m 39 #[.val (.ref a1), .val (.ref x2), .val (.ref vr), .val (.int (4 : Int32)), .val (.int (2 : Int32)), .val (.ref x2)] [])) _
          refine XS.goto X11.here hx rfl (pc0 := 39) (pc' := 48) rfl (hb hby d18_39) (by decide) (by decide) ?_
          show Steps p.tables e below (T11.setTop (mkF m 48 #[.val (.ref a1), .val (.ref x2), .val (.ref vr), .val (.int (4 : Int32)), .val (.int (2 : Int32)), .val (.ref x2)] [])) _
          refine XS.aloadN X11.here hx rfl (hb hby d18_48) rfl rfl ?_
          show Steps p.tables e below (T11.setTop (mkF m 49 #[.val (.ref a1), .val (.ref x2), .val (.ref vr), .val (.int (4 : Int32)), .val (.int (2 : Int32)), .val (.ref x2)] [(.ref x2)])) _
          exact k
        refine OEnds.back X11 hlk (v := (some (.ref x2))) (fun h => by rw [hrt] at h; cases h) (fun fs hr => ?_) ?_ (by decide) (by decide)
        · exact retA X11 hx hrt rfl rfl rfl (hb hby d18_49) hr
        · show Q18 Z a1 x0 x1 x2 x3 va s_EB b_EB k_EB s_TFC_TFC b_TFC_TFC k_TFC_TFC s_LXC_LTC b_LXC_LTC k_LXC_LTC s_LNU_LTU b_LNU_LTU k_LNU_LTU w1 b1 k1 xs h0 n0 _ T11.heap _
          rw [eh11]
          exact ⟨by rw [own_pick, if_neg (own_eqL0 g0), if_neg (own_eqL0 g1), if_pos (own_eqLt g2)], N11, K1⟩
    · refine OEnds.go (t' := T8.setTop (mkF m 36 #[.val (.ref a1), .val .null, .val (.ref vr), .val (.int (4 : Int32)), .val (.int (1 : Int32)), .val (.ref x1)] [])) (fun _ k => XS.ifNo X8.here hx rfl (hb hby d18_33) rfl ((if0 _ _).trans (feq g1).1) k) ?_
      refine OEnds.go (t' := T8.setTop (mkF m 49 #[.val (.ref a1), .val (.ref x1), .val (.ref vr), .val (.int (4 : Int32)), .val (.int (1 : Int32)), .val (.ref x1)] [(.ref x1)])) (fun _ k => ?_) ?_
      · show Steps p.tables e below (T8.setTop (mkF m 36 #[.val (.ref a1), .val .null, .val (.ref vr), .val (.int (4 : Int32)), .val (.int (1 : Int32)), .val (.ref x1)] [])) _
        refine XS.aload X8.here hx rfl (hb hby d18_36) rfl rfl ?_
        show Steps p.tables e below (T8.setTop (mkF m 38 #[.val (.ref a1), .val .null, .val (.ref vr), .val (.int (4 : Int32)), .val (.int (1 : Int32)), .val (.ref x1)] [(.ref x1)])) _
        refine XS.astoreN X8.here hx rfl (hb hby d18_38) rfl rfl (l' := #[.val (.ref a1), .val (.ref x1), .val (.ref vr), .val (.int (4 : Int32)), .val (.int (1 : Int32)), .val (.ref x1)]) rfl ?_
        show Steps p.tables e below (T8.setTop (mkF m 39 #[.val (.ref a1), .val (.ref x1), .val (.ref vr), .val (.int (4 : Int32)), .val (.int (1 : Int32)), .val (.ref x1)] [])) _
        refine XS.goto X8.here hx rfl (pc0 := 39) (pc' := 48) rfl (hb hby d18_39) (by decide) (by decide) ?_
        show Steps p.tables e below (T8.setTop (mkF m 48 #[.val (.ref a1), .val (.ref x1), .val (.ref vr), .val (.int (4 : Int32)), .val (.int (1 : Int32)), .val (.ref x1)] [])) _
        refine XS.aloadN X8.here hx rfl (hb hby d18_48) rfl rfl ?_
        show Steps p.tables e below (T8.setTop (mkF m 49 #[.val (.ref a1), .val (.ref x1), .val (.ref vr), .val (.int (4 : Int32)), .val (.int (1 : Int32)), .val (.ref x1)] [(.ref x1)])) _
        exact k
      refine OEnds.back X8 hlk (v := (some (.ref x1))) (fun h => by rw [hrt] at h; cases h) (fun fs hr => ?_) ?_ (by decide) (by decide)
      · exact retA X8 hx hrt rfl rfl rfl (hb hby d18_49) hr
      · show Q18 Z a1 x0 x1 x2 x3 va s_EB b_EB k_EB s_TFC_TFC b_TFC_TFC k_TFC_TFC s_LXC_LTC b_LXC_LTC k_LXC_LTC s_LNU_LTU b_LNU_LTU k_LNU_LTU w1 b1 k1 xs h0 n0 _ T8.heap _
        rw [eh8]
        exact ⟨by rw [own_pick, if_neg (own_eqL0 g0), if_pos (own_eqLt g1)], N8, K1⟩
  · refine OEnds.go (t' := T5.setTop (mkF m 36 #[.val (.ref a1), .val .null, .val (.ref vr), .val (.int (4 : Int32)), .val (.int (0 : Int32)), .val (.ref x0)] [])) (fun _ k => XS.ifNo X5.here hx rfl (hb hby d18_33) rfl ((if0 _ _).trans (feq g0).1) k) ?_
    refine OEnds.go (t' := T5.setTop (mkF m 49 #[.val (.ref a1), .val (.ref x0), .val (.ref vr), .val (.int (4 : Int32)), .val (.int (0 : Int32)), .val (.ref x0)] [(.ref x0)])) (fun _ k => ?_) ?_
    · show Steps p.tables e below (T5.setTop (mkF m 36 #[.val (.ref a1), .val .null, .val (.ref vr), .val (.int (4 : Int32)), .val (.int (0 : Int32)), .val (.ref x0)] [])) _
      refine XS.aload X5.here hx rfl (hb hby d18_36) rfl rfl ?_
      show Steps p.tables e below (T5.setTop (mkF m 38 #[.val (.ref a1), .val .null, .val (.ref vr), .val (.int (4 : Int32)), .val (.int (0 : Int32)), .val (.ref x0)] [(.ref x0)])) _
      refine XS.astoreN X5.here hx rfl (hb hby d18_38) rfl rfl (l' := #[.val (.ref a1), .val (.ref x0), .val (.ref vr), .val (.int (4 : Int32)), .val (.int (0 : Int32)), .val (.ref x0)]) rfl ?_
      show Steps p.tables e below (T5.setTop (mkF m 39 #[.val (.ref a1), .val (.ref x0), .val (.ref vr), .val (.int (4 : Int32)), .val (.int (0 : Int32)), .val (.ref x0)] [])) _
      refine XS.goto X5.here hx rfl (pc0 := 39) (pc' := 48) rfl (hb hby d18_39) (by decide) (by decide) ?_
      show Steps p.tables e below (T5.setTop (mkF m 48 #[.val (.ref a1), .val (.ref x0), .val (.ref vr), .val (.int (4 : Int32)), .val (.int (0 : Int32)), .val (.ref x0)] [])) _
      refine XS.aloadN X5.here hx rfl (hb hby d18_48) rfl rfl ?_
      show Steps p.tables e below (T5.setTop (mkF m 49 #[.val (.ref a1), .val (.ref x0), .val (.ref vr), .val (.int (4 : Int32)), .val (.int (0 : Int32)), .val (.ref x0)] [(.ref x0)])) _
      exact k
    refine OEnds.back X5 hlk (v := (some (.ref x0))) (fun h => by rw [hrt] at h; cases h) (fun fs hr => ?_) ?_ (by decide) (by decide)
    · exact retA X5 hx hrt rfl rfl rfl (hb hby d18_49) hr
    · show Q18 Z a1 x0 x1 x2 x3 va s_EB b_EB k_EB s_TFC_TFC b_TFC_TFC k_TFC_TFC s_LXC_LTC b_LXC_LTC k_LXC_LTC s_LNU_LTU b_LNU_LTU k_LNU_LTU w1 b1 k1 xs h0 n0 _ T5.heap _
      rw [eh5]
      exact ⟨by rw [own_pick, if_pos (own_eqLt g0)], N5, K1⟩
theorem pn_0 : plainName "com/example/pnorm/pnorm/model/WeightingNamedPinLaw" = true := by first | (simp [plainName, overriddenIn]; done) | decide +kernel
theorem pd_rm0_0 : parseMethodDescriptor "()I" = some ⟨[], some .int⟩ := by decide +kernel
theorem pd_rm0_1 : parseMethodDescriptor "(Ljava/lang/String;I)C" = some ⟨[(.object "java/lang/String"), .int], some .char⟩ := by decide +kernel
theorem pd_rm0_2 : parseMethodDescriptor "(I[C)Ljava/lang/String;" = some ⟨[.int, (.array .char)], some (.object "java/lang/String")⟩ := by decide +kernel
theorem pd_rm0_3 : parseMethodDescriptor "(Ljava/lang/Object;)Z" = some ⟨[(.object "java/lang/Object")], some .boolean⟩ := by decide +kernel
theorem pd_rm0_4 : parseMethodDescriptor "(Ljava/lang/String;)Lcom/example/pnorm/pnorm/model/Weighting;" = some ⟨[(.object "java/lang/String")], some (.object "com/example/pnorm/pnorm/model/Weighting")⟩ := by decide +kernel
theorem ef_rm0 (m : MethodId) (p1 : Int32) (p2 : Int32) (p3 : Int32) (p4 : Int32) (p5 : Int64) : entryFrame m #[(.int p1), (.int p2), (.int p3), (.int p4), (.long p5)] maxLocals = mkF m 0 #[.val (.int p1), .val (.int p2), .val (.int p3), .val (.int p4), .val (.long p5), .second, .unset, .unset, .unset, .unset, .unset, .unset, .unset, .unset] [] := by first | (simp [entryFrame, mkF, argsToLocals, Value.category, maxLocals]; done) | rfl
def Q0 (Z : State) (p1 : Int32) (p2 : Int32) (p3 : Int32) (p4 : Int32) (p5 : Int64) (x0 : Addr) (x1 : Addr) (x2 : Addr) (x3 : Addr) (va : Addr) (s_EB : Addr) (b_EB : Addr) (k_EB : ClassId) (s_TFC_TFC : Addr) (b_TFC_TFC : Addr) (k_TFC_TFC : ClassId) (s_LXC_LTC : Addr) (b_LXC_LTC : Addr) (k_LXC_LTC : ClassId) (s_LNU_LTU : Addr) (b_LNU_LTU : Addr) (k_LNU_LTU : ClassId) (w1 : Int32) (fv : Value) (h0 : Heap) (n0 : Nat) (v : Option Value) (h : Heap) (vm : Vm) (L : List Loc) : Prop := v = some (.int 1) ∧ Fr n0 L
set_option maxRecDepth 65536 in
set_option maxHeartbeats 40000000 in
theorem rm0 (l : Launch) (Z : State) (a0 : Array Value) (hw : ∀ d ∈ tables_1, d.before a0 Z = true) (ws : List Jvm.Cond) (p1 : Int32) (p2 : Int32) (p3 : Int32) (p4 : Int32) (p5 : Int64) (x0 : Addr) (x1 : Addr) (x2 : Addr) (x3 : Addr) (va : Addr) (s_EB : Addr) (b_EB : Addr) (k_EB : ClassId) (s_TFC_TFC : Addr) (b_TFC_TFC : Addr) (k_TFC_TFC : ClassId) (s_LXC_LTC : Addr) (b_LXC_LTC : Addr) (k_LXC_LTC : ClassId) (s_LNU_LTU : Addr) (b_LNU_LTU : Addr) (k_LNU_LTU : ClassId) (w1 : Int32) (fv : Value) (h0 : Heap) (n0 : Nat) (Z0 : n0 ≤ h0.size) (S_EB : Sta Z Z.heap "com/example/pnorm/pnorm/model/Weighting" "EB" "Lcom/example/pnorm/pnorm/model/Weighting;" (.ref x0)) (S_TFC_TFC : Sta Z Z.heap "com/example/pnorm/pnorm/model/Weighting" "TFC_TFC" "Lcom/example/pnorm/pnorm/model/Weighting;" (.ref x1)) (S_LXC_LTC : Sta Z Z.heap "com/example/pnorm/pnorm/model/Weighting" "LXC_LTC" "Lcom/example/pnorm/pnorm/model/Weighting;" (.ref x2)) (S_LNU_LTU : Sta Z Z.heap "com/example/pnorm/pnorm/model/Weighting" "LNU_LTU" "Lcom/example/pnorm/pnorm/model/Weighting;" (.ref x3)) (S_V : Sta Z Z.heap "com/example/pnorm/pnorm/model/Weighting" "$VALUES" "[Lcom/example/pnorm/pnorm/model/Weighting;" (.ref va)) (VV : own_Vs Z Z.heap va x0 x1 x2 x3) (EV : Exa Z Z.heap va "[Lcom/example/pnorm/pnorm/model/Weighting;") (hzo : Old Z n0 h0) (Ft_EB : Fld Z Z.heap x0 "com/example/pnorm/pnorm/model/Weighting" "name" "Ljava/lang/String;" (.ref s_EB)) (SS_EB : own_S Z Z.heap s_EB b_EB k_EB [101, 98]) (Ft_TFC_TFC : Fld Z Z.heap x1 "com/example/pnorm/pnorm/model/Weighting" "name" "Ljava/lang/String;" (.ref s_TFC_TFC)) (SS_TFC_TFC : own_S Z Z.heap s_TFC_TFC b_TFC_TFC k_TFC_TFC [116, 102, 99, 46, 116, 102, 99]) (Ft_LXC_LTC : Fld Z Z.heap x2 "com/example/pnorm/pnorm/model/Weighting" "name" "Ljava/lang/String;" (.ref s_LXC_LTC)) (SS_LXC_LTC : own_S Z Z.heap s_LXC_LTC b_LXC_LTC k_LXC_LTC [108, 120, 99, 46, 108, 116, 99]) (Ft_LNU_LTU : Fld Z Z.heap x3 "com/example/pnorm/pnorm/model/Weighting" "name" "Ljava/lang/String;" (.ref s_LNU_LTU)) (SS_LNU_LTU : own_S Z Z.heap s_LNU_LTU b_LNU_LTU k_LNU_LTU [76, 110, 117, 46, 108, 116, 117]) (S_C : Sta Z Z.heap "java/lang/String" "COMPACT_STRINGS" "Z" (.int w1)) (c0 : ¬ w1 = 0) (S_F : Sta Z Z.heap "jdk/internal/util/Preconditions" "SIOOBE_FORMATTER" "Ljava/util/function/BiFunction;" fv) (hF : fv = .null ∨ ∃ a, fv = .ref a) (hn0 : n0 = h0.size) (hcw : Jvm.Lit.compactW.before a0 Z = true) (hH : ∀ q ∈ own_lits, Jvm.Lit.constHeld Z q.1 q.2.1) :
    MetFree l x (head1 (Jvm.Cond.code x code maxLocals ret :: ws) room_1) (fun a U => a = #[(.int p1), (.int p2), (.int p3), (.int p4), (.long p5)] ∧ Z.Warmed39 U.vm ∧ U.heap = h0 ∧ IB Z U.vm []) (fun _ _ _ _ _ => True) (fun _ U o U' => ∃ v L, o = .returned v ∧ Q0 Z p1 p2 p3 p4 p5 x0 x1 x2 x3 va s_EB b_EB k_EB s_TFC_TFC b_TFC_TFC k_TFC_TFC s_LXC_LTC b_LXC_LTC k_LXC_LTC s_LNU_LTU b_LNU_LTU k_LNU_LTU w1 fv h0 n0 v U'.heap U'.vm L ∧ ReturnedEndW U o U' L room_1.cells room_1.slots) := by
  refine MetFree.of_bodySF (plainFor_of_name pn_0) hisR ?_
  intro p e s m args below meth c s₁ Bd hml0 hP hK
  obtain ⟨rfl, hZ, hh, hpv⟩ := hP
  have hx := Bd.exec
  have hby := Bd.bytes
  have hml : c.maxLocals = 14 := hml0
  have hown : s.vm.findClass "com/example/pnorm/pnorm/model/WeightingNamedPinLaw" = some m.cls := findClass_of_methodNamed Bd.named
  have hnm := (name_of_methodNamed Bd.named Bd.method).1
  have hlk := BodyLoose.notSynchronized Bd
  have hrt := Bd.returns
  have X0 : Stand p l e room_1 s m #[(.int p1), (.int p2), (.int p3), (.int p4), (.long p5)] below meth c s₁ [] 0 0 := Stand.of_body Bd
  have e0 : s₁.heap = h0 := by rw [← hh, Bd.state]; rfl
  have N0 := Fr.nil n0
  have hS0 : s.Since s.vm 0 := (State.WarmedH.refl s).since 0
  have IB0 := hpv
  have hkp : ∀ (b : Addr) (cl : Cell), Z.heap[b]? = some cl → s.heap[b]? = some cl := fun b cl q => by rw [hh]; exact hzo.2.2 b cl q
  show OEndsW p e below s (Q0 Z p1 p2 p3 p4 p5 x0 x1 x2 x3 va s_EB b_EB k_EB s_TFC_TFC b_TFC_TFC k_TFC_TFC s_LXC_LTC b_LXC_LTC k_LXC_LTC s_LNU_LTU b_LNU_LTU k_LNU_LTU w1 fv h0 n0) room_1.cells room_1.slots (s₁.setTop (entryFrame m #[(.int p1), (.int p2), (.int p3), (.int p4), (.long p5)] maxLocals))
  refine OEndsW.go (t' := s₁.setTop (mkF m 0 #[.val (.int p1), .val (.int p2), .val (.int p3), .val (.int p4), .val (.long p5), .second, .unset, .unset, .unset, .unset, .unset, .unset, .unset, .unset] [])) (fun t k => castTop (ef_rm0 m p1 p2 p3 p4 p5) k) ?_
  have hAll : own_All own_lits Z s.vm h0 := own_All.start hpv
  have hzt := hzo
  refine OEndsW.go (t' := s₁.setTop (mkF m 12 #[.val (.int p1), .val (.int p2), .val (.int p3), .val (.int p4), .val (.long p5), .second, .val (.int (p1 &&& (3 : Int32))), .val (.int (((p1.toUInt32 >>> ((2 : Int32) &&& 31).toUInt32).toInt32) &&& (3 : Int32))), .unset, .unset, .unset, .unset, .unset, .unset] [])) (fun _ k => ?_) ?_
  · show Steps p.tables e below (s₁.setTop (mkF m 0 #[.val (.int p1), .val (.int p2), .val (.int p3), .val (.int p4), .val (.long p5), .second, .unset, .unset, .unset, .unset, .unset, .unset, .unset, .unset] [])) _
    refine XS.iloadN X0.here hx rfl (hb hby at_0) rfl ?_
    show Steps p.tables e below (s₁.setTop (mkF m 1 #[.val (.int p1), .val (.int p2), .val (.int p3), .val (.int p4), .val (.long p5), .second, .unset, .unset, .unset, .unset, .unset, .unset, .unset, .unset] [(.int p1)])) _
    refine XS.iconst X0.here hx rfl (hb hby at_1) ?_
    show Steps p.tables e below (s₁.setTop (mkF m 2 #[.val (.int p1), .val (.int p2), .val (.int p3), .val (.int p4), .val (.long p5), .second, .unset, .unset, .unset, .unset, .unset, .unset, .unset, .unset] [(.int (3 : Int32)), (.int p1)])) _
    refine XS.iand X0.here hx rfl (hb hby at_2) rfl ?_
    show Steps p.tables e below (s₁.setTop (mkF m 3 #[.val (.int p1), .val (.int p2), .val (.int p3), .val (.int p4), .val (.long p5), .second, .unset, .unset, .unset, .unset, .unset, .unset, .unset, .unset] [(.int (p1 &&& (3 : Int32)))])) _
    refine XS.istore X0.here hx rfl (hb hby at_3) rfl (l' := #[.val (.int p1), .val (.int p2), .val (.int p3), .val (.int p4), .val (.long p5), .second, .val (.int (p1 &&& (3 : Int32))), .unset, .unset, .unset, .unset, .unset, .unset, .unset]) rfl ?_
    show Steps p.tables e below (s₁.setTop (mkF m 5 #[.val (.int p1), .val (.int p2), .val (.int p3), .val (.int p4), .val (.long p5), .second, .val (.int (p1 &&& (3 : Int32))), .unset, .unset, .unset, .unset, .unset, .unset, .unset] [])) _
    refine XS.iloadN X0.here hx rfl (hb hby at_5) rfl ?_
    show Steps p.tables e below (s₁.setTop (mkF m 6 #[.val (.int p1), .val (.int p2), .val (.int p3), .val (.int p4), .val (.long p5), .second, .val (.int (p1 &&& (3 : Int32))), .unset, .unset, .unset, .unset, .unset, .unset, .unset] [(.int p1)])) _
    refine XS.iconst X0.here hx rfl (hb hby at_6) ?_
    show Steps p.tables e below (s₁.setTop (mkF m 7 #[.val (.int p1), .val (.int p2), .val (.int p3), .val (.int p4), .val (.long p5), .second, .val (.int (p1 &&& (3 : Int32))), .unset, .unset, .unset, .unset, .unset, .unset, .unset] [(.int (2 : Int32)), (.int p1)])) _
    refine XS.iushr X0.here hx rfl (hb hby at_7) rfl ?_
    show Steps p.tables e below (s₁.setTop (mkF m 8 #[.val (.int p1), .val (.int p2), .val (.int p3), .val (.int p4), .val (.long p5), .second, .val (.int (p1 &&& (3 : Int32))), .unset, .unset, .unset, .unset, .unset, .unset, .unset] [(.int ((p1.toUInt32 >>> ((2 : Int32) &&& 31).toUInt32).toInt32))])) _
    refine XS.iconst X0.here hx rfl (hb hby at_8) ?_
    show Steps p.tables e below (s₁.setTop (mkF m 9 #[.val (.int p1), .val (.int p2), .val (.int p3), .val (.int p4), .val (.long p5), .second, .val (.int (p1 &&& (3 : Int32))), .unset, .unset, .unset, .unset, .unset, .unset, .unset] [(.int (3 : Int32)), (.int ((p1.toUInt32 >>> ((2 : Int32) &&& 31).toUInt32).toInt32))])) _
    refine XS.iand X0.here hx rfl (hb hby at_9) rfl ?_
    show Steps p.tables e below (s₁.setTop (mkF m 10 #[.val (.int p1), .val (.int p2), .val (.int p3), .val (.int p4), .val (.long p5), .second, .val (.int (p1 &&& (3 : Int32))), .unset, .unset, .unset, .unset, .unset, .unset, .unset] [(.int (((p1.toUInt32 >>> ((2 : Int32) &&& 31).toUInt32).toInt32) &&& (3 : Int32)))])) _
    refine XS.istore X0.here hx rfl (hb hby at_10) rfl (l' := #[.val (.int p1), .val (.int p2), .val (.int p3), .val (.int p4), .val (.long p5), .second, .val (.int (p1 &&& (3 : Int32))), .val (.int (((p1.toUInt32 >>> ((2 : Int32) &&& 31).toUInt32).toInt32) &&& (3 : Int32))), .unset, .unset, .unset, .unset, .unset, .unset]) rfl ?_
    show Steps p.tables e below (s₁.setTop (mkF m 12 #[.val (.int p1), .val (.int p2), .val (.int p3), .val (.int p4), .val (.long p5), .second, .val (.int (p1 &&& (3 : Int32))), .val (.int (((p1.toUInt32 >>> ((2 : Int32) &&& 31).toUInt32).toInt32) &&& (3 : Int32))), .unset, .unset, .unset, .unset, .unset, .unset] [])) _
    exact k
  refine OEndsW.cut (fun En => ∀ (Tb : State) (Tb_l : List Loc) (hTb : Heap) (vmTb : Vm) (kTb : Nat), Stand p l e room_1 (s.setVm vmTb) m #[(.int p1), (.int p2), (.int p3), (.int p4), (.long p5)] below meth c Tb Tb_l 2 32 → Tb.heap = hTb → Fr n0 Tb_l → n0 ≤ hTb.size → s.Since vmTb kTb → kTb ≤ hTb.size → Z.Warmed39 vmTb → vmTb.findClass "com/example/pnorm/pnorm/model/WeightingNamedPinLaw" = some m.cls → ∀ (bs : Addr) (bs_b : Addr) (bs_k : ClassId) (xs0 : List Int32), Old Z n0 hTb → own_All own_lits Z vmTb hTb → own_S Z hTb bs bs_b bs_k xs0 → (xs0.length = 2 ∨ xs0.length = 7) → En (Tb.setTop (mkF m 46 #[.val (.int p1), .val (.int p2), .val (.int p3), .val (.int p4), .val (.long p5), .second, .val (.int (p1 &&& (3 : Int32))), .val (.int (((p1.toUInt32 >>> ((2 : Int32) &&& 31).toUInt32).toInt32) &&& (3 : Int32))), .unset, .unset, .unset, .unset, .unset, .unset] [(.ref bs)]))) ?_ (fun K46 => ?_)
  · intro Tb Tb_l hTb vmTb kTb XTb eTb NTb ZTb hSTb hkTb hZ hown bs bs_b bs_k xs0 hzt hAll bs_S hlen
    replace hZ : Z.Warmed39 (s.setVm vmTb).vm := hZ
    replace hown : (s.setVm vmTb).vm.findClass "com/example/pnorm/pnorm/model/WeightingNamedPinLaw" = some m.cls := hown
    refine OEndsW.go (t' := Tb.setTop (mkF m 50 #[.val (.int p1), .val (.int p2), .val (.int p3), .val (.int p4), .val (.long p5), .second, .val (.int (p1 &&& (3 : Int32))), .val (.int (((p1.toUInt32 >>> ((2 : Int32) &&& 31).toUInt32).toInt32) &&& (3 : Int32))), .val (.ref bs), .unset, .unset, .unset, .unset, .unset] [(.ref bs)])) (fun _ k => ?_) ?_
    · show Steps p.tables e below (Tb.setTop (mkF m 46 #[.val (.int p1), .val (.int p2), .val (.int p3), .val (.int p4), .val (.long p5), .second, .val (.int (p1 &&& (3 : Int32))), .val (.int (((p1.toUInt32 >>> ((2 : Int32) &&& 31).toUInt32).toInt32) &&& (3 : Int32))), .unset, .unset, .unset, .unset, .unset, .unset] [(.ref bs)])) _
      refine XS.astore XTb.here hx rfl (hb hby at_46) rfl rfl (l' := #[.val (.int p1), .val (.int p2), .val (.int p3), .val (.int p4), .val (.long p5), .second, .val (.int (p1 &&& (3 : Int32))), .val (.int (((p1.toUInt32 >>> ((2 : Int32) &&& 31).toUInt32).toInt32) &&& (3 : Int32))), .val (.ref bs), .unset, .unset, .unset, .unset, .unset]) rfl ?_
      show Steps p.tables e below (Tb.setTop (mkF m 48 #[.val (.int p1), .val (.int p2), .val (.int p3), .val (.int p4), .val (.long p5), .second, .val (.int (p1 &&& (3 : Int32))), .val (.int (((p1.toUInt32 >>> ((2 : Int32) &&& 31).toUInt32).toInt32) &&& (3 : Int32))), .val (.ref bs), .unset, .unset, .unset, .unset, .unset] [])) _
      refine XS.aload XTb.here hx rfl (hb hby at_48) rfl rfl ?_
      show Steps p.tables e below (Tb.setTop (mkF m 50 #[.val (.int p1), .val (.int p2), .val (.int p3), .val (.int p4), .val (.long p5), .second, .val (.int (p1 &&& (3 : Int32))), .val (.int (((p1.toUInt32 >>> ((2 : Int32) &&& 31).toUInt32).toInt32) &&& (3 : Int32))), .val (.ref bs), .unset, .unset, .unset, .unset, .unset] [(.ref bs)])) _
      exact k
    obtain ⟨cq1, kq1, q1a, q1b, q1c⟩ := isOf hZ eTb bs_S.1
    obtain ⟨_, _, ⟨T1, L1, k1, n1⟩, -, X1, ⟨Lc1, hQ1, l1, y1, z1⟩, st1⟩ := XTb.virtualBack hx (y := (⟨"java/lang/String", "length", "()I"⟩ : MethodName)) (z := (⟨"java/lang/String", "length", "()I"⟩ : MethodName)) hown (mvT hZ (hw _ (List.mem_of_getElem? (i := 8) rfl))) (mvT hZ (hw _ (List.mem_of_getElem? (i := 9) rfl))) (notFace_of_selects (args := #[]) (mvT hZ (hw _ (List.mem_of_getElem? (i := 11) rfl)))) (mvT hZ (hw _ (List.mem_of_getElem? (i := 11) rfl))) (mvT hZ (hw _ (List.mem_of_getElem? (i := 10) rfl))) (by decide) (backOf (W := 0) (rm1 l Z a0 hw [] bs w1 bs_b bs_k xs0 hTb n0 ZTb (S_C.ext hzt.2) c0 bs_S) hZ (hw _ (List.mem_of_getElem? (i := 12) rfl)) (hw _ (List.mem_of_getElem? (i := 1) rfl)) (by decide) (by decide)) q1a q1c (g := (mkF m 50 #[.val (.int p1), .val (.int p2), .val (.int p3), .val (.int p4), .val (.long p5), .second, .val (.int (p1 &&& (3 : Int32))), .val (.int (((p1.toUInt32 >>> ((2 : Int32) &&& 31).toUInt32).toInt32) &&& (3 : Int32))), .val (.ref bs), .unset, .unset, .unset, .unset, .unset] [(.ref bs)])) rfl (by rw [hml]; rfl) (Steps.refl _) (argsL := []) (rest := []) (lenOf pd_rm0_0 rfl) rfl (by show 2 * 0 + _ ≤ _; exact Nat.le_of_eq rfl) (hb hby at_50) (fun _ _ => ⟨rfl, eTb, (by decide : 2 + 0 ≤ _), (by decide : 32 + 0 ≤ _)⟩)
    dsimp only [Pt.U, Pt.locs, Pt.cells, Pt.slots] at X1 l1 y1 z1 st1 hQ1
    subst l1 y1 z1
    obtain ⟨rfl, N1q, eh⟩ := hQ1
    have N1 := Fr.app NTb N1q
    have eh1 := eh
    refine OEndsW.go (t' := T1.setTop (mkF m 53 #[.val (.int p1), .val (.int p2), .val (.int p3), .val (.int p4), .val (.long p5), .second, .val (.int (p1 &&& (3 : Int32))), .val (.int (((p1.toUInt32 >>> ((2 : Int32) &&& 31).toUInt32).toInt32) &&& (3 : Int32))), .val (.ref bs), .unset, .unset, .unset, .unset, .unset] [(.int (Int32.ofNat xs0.length))])) (fun _ k => st1.trans k) ?_
    generalize hnn : (Int32.ofNat xs0.length) = nn
    have hn2 : nn = 2 ∨ nn = 7 := by
      rw [← hnn]
      rcases hlen with q | q <;> rw [q]
      · exact Or.inl rfl
      · exact Or.inr rfl
    refine OEndsW.go (t' := T1.setTop (mkF m 57 #[.val (.int p1), .val (.int p2), .val (.int p3), .val (.int p4), .val (.long p5), .second, .val (.int (p1 &&& (3 : Int32))), .val (.int (((p1.toUInt32 >>> ((2 : Int32) &&& 31).toUInt32).toInt32) &&& (3 : Int32))), .val (.ref bs), .val (.int nn), .unset, .unset, .unset, .unset] [(.int (8 : Int32))])) (fun _ k => ?_) ?_
    · show Steps p.tables e below (T1.setTop (mkF m 53 #[.val (.int p1), .val (.int p2), .val (.int p3), .val (.int p4), .val (.long p5), .second, .val (.int (p1 &&& (3 : Int32))), .val (.int (((p1.toUInt32 >>> ((2 : Int32) &&& 31).toUInt32).toInt32) &&& (3 : Int32))), .val (.ref bs), .unset, .unset, .unset, .unset, .unset] [(.int nn)])) _
      refine XS.istore X1.here hx rfl (hb hby at_53) rfl (l' := #[.val (.int p1), .val (.int p2), .val (.int p3), .val (.int p4), .val (.long p5), .second, .val (.int (p1 &&& (3 : Int32))), .val (.int (((p1.toUInt32 >>> ((2 : Int32) &&& 31).toUInt32).toInt32) &&& (3 : Int32))), .val (.ref bs), .val (.int nn), .unset, .unset, .unset, .unset]) rfl ?_
      show Steps p.tables e below (T1.setTop (mkF m 55 #[.val (.int p1), .val (.int p2), .val (.int p3), .val (.int p4), .val (.long p5), .second, .val (.int (p1 &&& (3 : Int32))), .val (.int (((p1.toUInt32 >>> ((2 : Int32) &&& 31).toUInt32).toInt32) &&& (3 : Int32))), .val (.ref bs), .val (.int nn), .unset, .unset, .unset, .unset] [])) _
      refine XS.bipush X1.here hx rfl (hb hby at_55) ?_
      show Steps p.tables e below (T1.setTop (mkF m 57 #[.val (.int p1), .val (.int p2), .val (.int p3), .val (.int p4), .val (.long p5), .second, .val (.int (p1 &&& (3 : Int32))), .val (.int (((p1.toUInt32 >>> ((2 : Int32) &&& 31).toUInt32).toInt32) &&& (3 : Int32))), .val (.ref bs), .val (.int nn), .unset, .unset, .unset, .unset] [(.int (8 : Int32))])) _
      exact k
    obtain ⟨T2, h2, ka2, X2, e2, E2, A2, st2⟩ := newP X1 hx hZ (hw _ (List.mem_of_getElem? (i := 21) rfl)) eh1 (g := (mkF m 57 #[.val (.int p1), .val (.int p2), .val (.int p3), .val (.int p4), .val (.long p5), .second, .val (.int (p1 &&& (3 : Int32))), .val (.int (((p1.toUInt32 >>> ((2 : Int32) &&& 31).toUInt32).toInt32) &&& (3 : Int32))), .val (.ref bs), .val (.int nn), .unset, .unset, .unset, .unset] [(.int (8 : Int32))])) rfl (hb hby at_57) rfl (by decide) (cap := 8) (by decide) (by decide) (by decide) (by decide)
    obtain ⟨ar, gz2⟩ : ∃ z, z = hTb.size := ⟨_, rfl⟩
    rw [← gz2] at A2 st2
    have ne_bs_ar : bs ≠ ar := Nat.ne_of_lt (Nat.lt_of_lt_of_le bs_S.lt (Nat.le_of_eq gz2.symm))
    have ne_bs_b_ar : bs_b ≠ ar := Nat.ne_of_lt (Nat.lt_of_lt_of_le bs_S.2.2.2.lt (Nat.le_of_eq gz2.symm))
    have g_ar : n0 ≤ ar := Nat.le_trans ZTb (Nat.le_of_eq gz2.symm)
    have sz_ar : hTb.size ≤ ar := Nat.le_trans (Keep.refl hTb []).1 (Nat.le_of_eq gz2.symm)
    have hzt := hzt.ext E2
    have bs_S := bs_S.ext E2
    have Z2 : n0 ≤ h2.size := Nat.le_trans ZTb E2.1
    have hk2 := Nat.le_trans hkTb E2.1
    have K2 := (Keep.refl hTb []).ext E2
    have V_ar := own_C8.new A2
    refine OEndsW.go (t' := T2.setTop (mkF m 59 #[.val (.int p1), .val (.int p2), .val (.int p3), .val (.int p4), .val (.long p5), .second, .val (.int (p1 &&& (3 : Int32))), .val (.int (((p1.toUInt32 >>> ((2 : Int32) &&& 31).toUInt32).toInt32) &&& (3 : Int32))), .val (.ref bs), .val (.int nn), .unset, .unset, .unset, .unset] [(.ref ar)])) (fun _ k => st2 _ k) ?_
    refine OEndsW.go (t' := T2.setTop (mkF m 67 #[.val (.int p1), .val (.int p2), .val (.int p3), .val (.int p4), .val (.long p5), .second, .val (.int (p1 &&& (3 : Int32))), .val (.int (((p1.toUInt32 >>> ((2 : Int32) &&& 31).toUInt32).toInt32) &&& (3 : Int32))), .val (.ref bs), .val (.int nn), .val (.ref ar), .unset, .unset, .unset] [(.int (0 : Int32)), (.ref bs), (.int (0 : Int32)), (.ref ar)])) (fun _ k => ?_) ?_
    · show Steps p.tables e below (T2.setTop (mkF m 59 #[.val (.int p1), .val (.int p2), .val (.int p3), .val (.int p4), .val (.long p5), .second, .val (.int (p1 &&& (3 : Int32))), .val (.int (((p1.toUInt32 >>> ((2 : Int32) &&& 31).toUInt32).toInt32) &&& (3 : Int32))), .val (.ref bs), .val (.int nn), .unset, .unset, .unset, .unset] [(.ref ar)])) _
      refine XS.astore X2.here hx rfl (hb hby at_59) rfl rfl (l' := #[.val (.int p1), .val (.int p2), .val (.int p3), .val (.int p4), .val (.long p5), .second, .val (.int (p1 &&& (3 : Int32))), .val (.int (((p1.toUInt32 >>> ((2 : Int32) &&& 31).toUInt32).toInt32) &&& (3 : Int32))), .val (.ref bs), .val (.int nn), .val (.ref ar), .unset, .unset, .unset]) rfl ?_
      show Steps p.tables e below (T2.setTop (mkF m 61 #[.val (.int p1), .val (.int p2), .val (.int p3), .val (.int p4), .val (.long p5), .second, .val (.int (p1 &&& (3 : Int32))), .val (.int (((p1.toUInt32 >>> ((2 : Int32) &&& 31).toUInt32).toInt32) &&& (3 : Int32))), .val (.ref bs), .val (.int nn), .val (.ref ar), .unset, .unset, .unset] [])) _
      refine XS.aload X2.here hx rfl (hb hby at_61) rfl rfl ?_
      show Steps p.tables e below (T2.setTop (mkF m 63 #[.val (.int p1), .val (.int p2), .val (.int p3), .val (.int p4), .val (.long p5), .second, .val (.int (p1 &&& (3 : Int32))), .val (.int (((p1.toUInt32 >>> ((2 : Int32) &&& 31).toUInt32).toInt32) &&& (3 : Int32))), .val (.ref bs), .val (.int nn), .val (.ref ar), .unset, .unset, .unset] [(.ref ar)])) _
      refine XS.iconst X2.here hx rfl (hb hby at_63) ?_
      show Steps p.tables e below (T2.setTop (mkF m 64 #[.val (.int p1), .val (.int p2), .val (.int p3), .val (.int p4), .val (.long p5), .second, .val (.int (p1 &&& (3 : Int32))), .val (.int (((p1.toUInt32 >>> ((2 : Int32) &&& 31).toUInt32).toInt32) &&& (3 : Int32))), .val (.ref bs), .val (.int nn), .val (.ref ar), .unset, .unset, .unset] [(.int (0 : Int32)), (.ref ar)])) _
      refine XS.aload X2.here hx rfl (hb hby at_64) rfl rfl ?_
      show Steps p.tables e below (T2.setTop (mkF m 66 #[.val (.int p1), .val (.int p2), .val (.int p3), .val (.int p4), .val (.long p5), .second, .val (.int (p1 &&& (3 : Int32))), .val (.int (((p1.toUInt32 >>> ((2 : Int32) &&& 31).toUInt32).toInt32) &&& (3 : Int32))), .val (.ref bs), .val (.int nn), .val (.ref ar), .unset, .unset, .unset] [(.ref bs), (.int (0 : Int32)), (.ref ar)])) _
      refine XS.iconst X2.here hx rfl (hb hby at_66) ?_
      show Steps p.tables e below (T2.setTop (mkF m 67 #[.val (.int p1), .val (.int p2), .val (.int p3), .val (.int p4), .val (.long p5), .second, .val (.int (p1 &&& (3 : Int32))), .val (.int (((p1.toUInt32 >>> ((2 : Int32) &&& 31).toUInt32).toInt32) &&& (3 : Int32))), .val (.ref bs), .val (.int nn), .val (.ref ar), .unset, .unset, .unset] [(.int (0 : Int32)), (.ref bs), (.int (0 : Int32)), (.ref ar)])) _
      exact k
    obtain ⟨_, _, ⟨T3, L3, k3, n3⟩, -, X3, ⟨Lc3, hQ3, l3, y3, z3⟩, st3⟩ := Jvm.LawKit.callS X2 hx (y := (⟨"com/example/pnorm/pnorm/model/WeightingNamedPinLaw", "at", "(Ljava/lang/String;I)C"⟩ : MethodName)) hown (mvT hZ (hw _ (List.mem_of_getElem? (i := 22) rfl))) (mvT hZ (hw _ (List.mem_of_getElem? (i := 23) rfl))) (mvT hZ (hw _ (List.mem_of_getElem? (i := 24) rfl))) (mvT hZ (hw _ (List.mem_of_getElem? (i := 25) rfl))) (by decide) (backOf (W := 2) (rm3 l Z a0 hw [] bs (0 : Int32) w1 bs_b bs_k xs0 fv h2 n0 Z2 (S_C.ext hzt.2) c0 (S_F.ext hzt.2) hF bs_S (by decide)) hZ (hw _ (List.mem_of_getElem? (i := 25) rfl)) (hw _ (List.mem_of_getElem? (i := 24) rfl)) (by decide) (by decide)) (g := (mkF m 67 #[.val (.int p1), .val (.int p2), .val (.int p3), .val (.int p4), .val (.long p5), .second, .val (.int (p1 &&& (3 : Int32))), .val (.int (((p1.toUInt32 >>> ((2 : Int32) &&& 31).toUInt32).toInt32) &&& (3 : Int32))), .val (.ref bs), .val (.int nn), .val (.ref ar), .unset, .unset, .unset] [(.int (0 : Int32)), (.ref bs), (.int (0 : Int32)), (.ref ar)])) rfl (by rw [hml]; rfl) (argsL := [(.ref bs), (.int (0 : Int32))]) (rest := [(.int (0 : Int32)), (.ref ar)]) (lenOf pd_rm0_1 rfl) rfl (by show 2 * 0 + _ ≤ _; exact Nat.le_of_eq rfl) (hb hby at_67) (fun _ _ => ⟨rfl, e2, (by decide : 3 + 0 ≤ _), (by decide : 40 + 0 ≤ _)⟩)
    dsimp only [Pt.U, Pt.locs, Pt.cells, Pt.slots] at X3 l3 y3 z3 st3 hQ3
    subst l3 y3 z3
    obtain ⟨r3, rfl, bd3, N3q, eh3⟩ := hQ3
    have N3 := Fr.app N1 N3q
    refine OEndsW.go (t' := T3.setTop (mkF m 70 #[.val (.int p1), .val (.int p2), .val (.int p3), .val (.int p4), .val (.long p5), .second, .val (.int (p1 &&& (3 : Int32))), .val (.int (((p1.toUInt32 >>> ((2 : Int32) &&& 31).toUInt32).toInt32) &&& (3 : Int32))), .val (.ref bs), .val (.int nn), .val (.ref ar), .unset, .unset, .unset] [(.int r3), (.int (0 : Int32)), (.ref ar)])) (fun _ k => st3 _ k) ?_
    obtain ⟨cl4, Ar4, hin4, -⟩ := V_ar.inb (j := 0) ⟨by decide, by decide⟩
    obtain ⟨T4, h4, X4, e4, W4, st4⟩ := stC X3 hx hZ eh3 Ar4 (j := (0 : Int32)) hin4 (g := (mkF m 70 #[.val (.int p1), .val (.int p2), .val (.int p3), .val (.int p4), .val (.long p5), .second, .val (.int (p1 &&& (3 : Int32))), .val (.int (((p1.toUInt32 >>> ((2 : Int32) &&& 31).toUInt32).toInt32) &&& (3 : Int32))), .val (.ref bs), .val (.int nn), .val (.ref ar), .unset, .unset, .unset] [(.int r3), (.int (0 : Int32)), (.ref ar)])) rfl rfl (hb hby at_70)
    have N4 := Fr.snoc X4 N3 g_ar
    have hzt := hzt.wr W4 g_ar
    have bs_S := bs_S.other W4 ne_bs_ar ne_bs_b_ar
    have Z4 : n0 ≤ h4.size := Nat.le_trans Z2 (Keep.of_wr W4).1
    have hk4 := Nat.le_trans hk2 (Keep.of_wr W4).1
    have K4 := K2.wr W4 (Or.inr sz_ar)
    have V_ar := V_ar.put W4 (own_narB bd3)
    refine OEndsW.go (t' := T4.setTop (mkF m 71 #[.val (.int p1), .val (.int p2), .val (.int p3), .val (.int p4), .val (.long p5), .second, .val (.int (p1 &&& (3 : Int32))), .val (.int (((p1.toUInt32 >>> ((2 : Int32) &&& 31).toUInt32).toInt32) &&& (3 : Int32))), .val (.ref bs), .val (.int nn), .val (.ref ar), .unset, .unset, .unset] [])) (fun _ k => st4 _ k) ?_
    refine OEndsW.go (t' := T4.setTop (mkF m 77 #[.val (.int p1), .val (.int p2), .val (.int p3), .val (.int p4), .val (.long p5), .second, .val (.int (p1 &&& (3 : Int32))), .val (.int (((p1.toUInt32 >>> ((2 : Int32) &&& 31).toUInt32).toInt32) &&& (3 : Int32))), .val (.ref bs), .val (.int nn), .val (.ref ar), .unset, .unset, .unset] [(.int (1 : Int32)), (.ref bs), (.int (1 : Int32)), (.ref ar)])) (fun _ k => ?_) ?_
    · show Steps p.tables e below (T4.setTop (mkF m 71 #[.val (.int p1), .val (.int p2), .val (.int p3), .val (.int p4), .val (.long p5), .second, .val (.int (p1 &&& (3 : Int32))), .val (.int (((p1.toUInt32 >>> ((2 : Int32) &&& 31).toUInt32).toInt32) &&& (3 : Int32))), .val (.ref bs), .val (.int nn), .val (.ref ar), .unset, .unset, .unset] [])) _
      refine XS.aload X4.here hx rfl (hb hby at_71) rfl rfl ?_
      show Steps p.tables e below (T4.setTop (mkF m 73 #[.val (.int p1), .val (.int p2), .val (.int p3), .val (.int p4), .val (.long p5), .second, .val (.int (p1 &&& (3 : Int32))), .val (.int (((p1.toUInt32 >>> ((2 : Int32) &&& 31).toUInt32).toInt32) &&& (3 : Int32))), .val (.ref bs), .val (.int nn), .val (.ref ar), .unset, .unset, .unset] [(.ref ar)])) _
      refine XS.iconst X4.here hx rfl (hb hby at_73) ?_
      show Steps p.tables e below (T4.setTop (mkF m 74 #[.val (.int p1), .val (.int p2), .val (.int p3), .val (.int p4), .val (.long p5), .second, .val (.int (p1 &&& (3 : Int32))), .val (.int (((p1.toUInt32 >>> ((2 : Int32) &&& 31).toUInt32).toInt32) &&& (3 : Int32))), .val (.ref bs), .val (.int nn), .val (.ref ar), .unset, .unset, .unset] [(.int (1 : Int32)), (.ref ar)])) _
      refine XS.aload X4.here hx rfl (hb hby at_74) rfl rfl ?_
      show Steps p.tables e below (T4.setTop (mkF m 76 #[.val (.int p1), .val (.int p2), .val (.int p3), .val (.int p4), .val (.long p5), .second, .val (.int (p1 &&& (3 : Int32))), .val (.int (((p1.toUInt32 >>> ((2 : Int32) &&& 31).toUInt32).toInt32) &&& (3 : Int32))), .val (.ref bs), .val (.int nn), .val (.ref ar), .unset, .unset, .unset] [(.ref bs), (.int (1 : Int32)), (.ref ar)])) _
      refine XS.iconst X4.here hx rfl (hb hby at_76) ?_
      show Steps p.tables e below (T4.setTop (mkF m 77 #[.val (.int p1), .val (.int p2), .val (.int p3), .val (.int p4), .val (.long p5), .second, .val (.int (p1 &&& (3 : Int32))), .val (.int (((p1.toUInt32 >>> ((2 : Int32) &&& 31).toUInt32).toInt32) &&& (3 : Int32))), .val (.ref bs), .val (.int nn), .val (.ref ar), .unset, .unset, .unset] [(.int (1 : Int32)), (.ref bs), (.int (1 : Int32)), (.ref ar)])) _
      exact k
    obtain ⟨_, _, ⟨T5, L5, k5, n5⟩, -, X5, ⟨Lc5, hQ5, l5, y5, z5⟩, st5⟩ := Jvm.LawKit.callS X4 hx (y := (⟨"com/example/pnorm/pnorm/model/WeightingNamedPinLaw", "at", "(Ljava/lang/String;I)C"⟩ : MethodName)) hown (mvT hZ (hw _ (List.mem_of_getElem? (i := 22) rfl))) (mvT hZ (hw _ (List.mem_of_getElem? (i := 23) rfl))) (mvT hZ (hw _ (List.mem_of_getElem? (i := 24) rfl))) (mvT hZ (hw _ (List.mem_of_getElem? (i := 25) rfl))) (by decide) (backOf (W := 2) (rm3 l Z a0 hw [] bs (1 : Int32) w1 bs_b bs_k xs0 fv h4 n0 Z4 (S_C.ext hzt.2) c0 (S_F.ext hzt.2) hF bs_S (by decide)) hZ (hw _ (List.mem_of_getElem? (i := 25) rfl)) (hw _ (List.mem_of_getElem? (i := 24) rfl)) (by decide) (by decide)) (g := (mkF m 77 #[.val (.int p1), .val (.int p2), .val (.int p3), .val (.int p4), .val (.long p5), .second, .val (.int (p1 &&& (3 : Int32))), .val (.int (((p1.toUInt32 >>> ((2 : Int32) &&& 31).toUInt32).toInt32) &&& (3 : Int32))), .val (.ref bs), .val (.int nn), .val (.ref ar), .unset, .unset, .unset] [(.int (1 : Int32)), (.ref bs), (.int (1 : Int32)), (.ref ar)])) rfl (by rw [hml]; rfl) (argsL := [(.ref bs), (.int (1 : Int32))]) (rest := [(.int (1 : Int32)), (.ref ar)]) (lenOf pd_rm0_1 rfl) rfl (by show 2 * 0 + _ ≤ _; exact Nat.le_of_eq rfl) (hb hby at_77) (fun _ _ => ⟨rfl, e4, (by decide : 3 + 0 ≤ _), (by decide : 40 + 0 ≤ _)⟩)
    dsimp only [Pt.U, Pt.locs, Pt.cells, Pt.slots] at X5 l5 y5 z5 st5 hQ5
    subst l5 y5 z5
    obtain ⟨r5, rfl, bd5, N5q, eh5⟩ := hQ5
    have N5 := Fr.app N4 N5q
    refine OEndsW.go (t' := T5.setTop (mkF m 80 #[.val (.int p1), .val (.int p2), .val (.int p3), .val (.int p4), .val (.long p5), .second, .val (.int (p1 &&& (3 : Int32))), .val (.int (((p1.toUInt32 >>> ((2 : Int32) &&& 31).toUInt32).toInt32) &&& (3 : Int32))), .val (.ref bs), .val (.int nn), .val (.ref ar), .unset, .unset, .unset] [(.int r5), (.int (1 : Int32)), (.ref ar)])) (fun _ k => st5 _ k) ?_
    obtain ⟨cl6, Ar6, hin6, -⟩ := V_ar.inb (j := 1) ⟨by decide, by decide⟩
    obtain ⟨T6, h6, X6, e6, W6, st6⟩ := stC X5 hx hZ eh5 Ar6 (j := (1 : Int32)) hin6 (g := (mkF m 80 #[.val (.int p1), .val (.int p2), .val (.int p3), .val (.int p4), .val (.long p5), .second, .val (.int (p1 &&& (3 : Int32))), .val (.int (((p1.toUInt32 >>> ((2 : Int32) &&& 31).toUInt32).toInt32) &&& (3 : Int32))), .val (.ref bs), .val (.int nn), .val (.ref ar), .unset, .unset, .unset] [(.int r5), (.int (1 : Int32)), (.ref ar)])) rfl rfl (hb hby at_80)
    have N6 := Fr.snoc X6 N5 g_ar
    have hzt := hzt.wr W6 g_ar
    have bs_S := bs_S.other W6 ne_bs_ar ne_bs_b_ar
    have Z6 : n0 ≤ h6.size := Nat.le_trans Z4 (Keep.of_wr W6).1
    have hk6 := Nat.le_trans hk4 (Keep.of_wr W6).1
    have K6 := K4.wr W6 (Or.inr sz_ar)
    have V_ar := V_ar.put W6 (own_narB bd5)
    refine OEndsW.go (t' := T6.setTop (mkF m 81 #[.val (.int p1), .val (.int p2), .val (.int p3), .val (.int p4), .val (.long p5), .second, .val (.int (p1 &&& (3 : Int32))), .val (.int (((p1.toUInt32 >>> ((2 : Int32) &&& 31).toUInt32).toInt32) &&& (3 : Int32))), .val (.ref bs), .val (.int nn), .val (.ref ar), .unset, .unset, .unset] [])) (fun _ k => st6 _ k) ?_
    refine OEndsW.go (t' := T6.setTop (mkF m 87 #[.val (.int p1), .val (.int p2), .val (.int p3), .val (.int p4), .val (.long p5), .second, .val (.int (p1 &&& (3 : Int32))), .val (.int (((p1.toUInt32 >>> ((2 : Int32) &&& 31).toUInt32).toInt32) &&& (3 : Int32))), .val (.ref bs), .val (.int nn), .val (.ref ar), .unset, .unset, .unset] [(.int (2 : Int32)), (.ref bs), (.int (2 : Int32)), (.ref ar)])) (fun _ k => ?_) ?_
    · show Steps p.tables e below (T6.setTop (mkF m 81 #[.val (.int p1), .val (.int p2), .val (.int p3), .val (.int p4), .val (.long p5), .second, .val (.int (p1 &&& (3 : Int32))), .val (.int (((p1.toUInt32 >>> ((2 : Int32) &&& 31).toUInt32).toInt32) &&& (3 : Int32))), .val (.ref bs), .val (.int nn), .val (.ref ar), .unset, .unset, .unset] [])) _
      refine XS.aload X6.here hx rfl (hb hby at_81) rfl rfl ?_
      show Steps p.tables e below (T6.setTop (mkF m 83 #[.val (.int p1), .val (.int p2), .val (.int p3), .val (.int p4), .val (.long p5), .second, .val (.int (p1 &&& (3 : Int32))), .val (.int (((p1.toUInt32 >>> ((2 : Int32) &&& 31).toUInt32).toInt32) &&& (3 : Int32))), .val (.ref bs), .val (.int nn), .val (.ref ar), .unset, .unset, .unset] [(.ref ar)])) _
      refine XS.iconst X6.here hx rfl (hb hby at_83) ?_
      show Steps p.tables e below (T6.setTop (mkF m 84 #[.val (.int p1), .val (.int p2), .val (.int p3), .val (.int p4), .val (.long p5), .second, .val (.int (p1 &&& (3 : Int32))), .val (.int (((p1.toUInt32 >>> ((2 : Int32) &&& 31).toUInt32).toInt32) &&& (3 : Int32))), .val (.ref bs), .val (.int nn), .val (.ref ar), .unset, .unset, .unset] [(.int (2 : Int32)), (.ref ar)])) _
      refine XS.aload X6.here hx rfl (hb hby at_84) rfl rfl ?_
      show Steps p.tables e below (T6.setTop (mkF m 86 #[.val (.int p1), .val (.int p2), .val (.int p3), .val (.int p4), .val (.long p5), .second, .val (.int (p1 &&& (3 : Int32))), .val (.int (((p1.toUInt32 >>> ((2 : Int32) &&& 31).toUInt32).toInt32) &&& (3 : Int32))), .val (.ref bs), .val (.int nn), .val (.ref ar), .unset, .unset, .unset] [(.ref bs), (.int (2 : Int32)), (.ref ar)])) _
      refine XS.iconst X6.here hx rfl (hb hby at_86) ?_
      show Steps p.tables e below (T6.setTop (mkF m 87 #[.val (.int p1), .val (.int p2), .val (.int p3), .val (.int p4), .val (.long p5), .second, .val (.int (p1 &&& (3 : Int32))), .val (.int (((p1.toUInt32 >>> ((2 : Int32) &&& 31).toUInt32).toInt32) &&& (3 : Int32))), .val (.ref bs), .val (.int nn), .val (.ref ar), .unset, .unset, .unset] [(.int (2 : Int32)), (.ref bs), (.int (2 : Int32)), (.ref ar)])) _
      exact k
    obtain ⟨_, _, ⟨T7, L7, k7, n7⟩, -, X7, ⟨Lc7, hQ7, l7, y7, z7⟩, st7⟩ := Jvm.LawKit.callS X6 hx (y := (⟨"com/example/pnorm/pnorm/model/WeightingNamedPinLaw", "at", "(Ljava/lang/String;I)C"⟩ : MethodName)) hown (mvT hZ (hw _ (List.mem_of_getElem? (i := 22) rfl))) (mvT hZ (hw _ (List.mem_of_getElem? (i := 23) rfl))) (mvT hZ (hw _ (List.mem_of_getElem? (i := 24) rfl))) (mvT hZ (hw _ (List.mem_of_getElem? (i := 25) rfl))) (by decide) (backOf (W := 2) (rm3 l Z a0 hw [] bs (2 : Int32) w1 bs_b bs_k xs0 fv h6 n0 Z6 (S_C.ext hzt.2) c0 (S_F.ext hzt.2) hF bs_S (by decide)) hZ (hw _ (List.mem_of_getElem? (i := 25) rfl)) (hw _ (List.mem_of_getElem? (i := 24) rfl)) (by decide) (by decide)) (g := (mkF m 87 #[.val (.int p1), .val (.int p2), .val (.int p3), .val (.int p4), .val (.long p5), .second, .val (.int (p1 &&& (3 : Int32))), .val (.int (((p1.toUInt32 >>> ((2 : Int32) &&& 31).toUInt32).toInt32) &&& (3 : Int32))), .val (.ref bs), .val (.int nn), .val (.ref ar), .unset, .unset, .unset] [(.int (2 : Int32)), (.ref bs), (.int (2 : Int32)), (.ref ar)])) rfl (by rw [hml]; rfl) (argsL := [(.ref bs), (.int (2 : Int32))]) (rest := [(.int (2 : Int32)), (.ref ar)]) (lenOf pd_rm0_1 rfl) rfl (by show 2 * 0 + _ ≤ _; exact Nat.le_of_eq rfl) (hb hby at_87) (fun _ _ => ⟨rfl, e6, (by decide : 3 + 0 ≤ _), (by decide : 40 + 0 ≤ _)⟩)
    dsimp only [Pt.U, Pt.locs, Pt.cells, Pt.slots] at X7 l7 y7 z7 st7 hQ7
    subst l7 y7 z7
    obtain ⟨r7, rfl, bd7, N7q, eh7⟩ := hQ7
    have N7 := Fr.app N6 N7q
    refine OEndsW.go (t' := T7.setTop (mkF m 90 #[.val (.int p1), .val (.int p2), .val (.int p3), .val (.int p4), .val (.long p5), .second, .val (.int (p1 &&& (3 : Int32))), .val (.int (((p1.toUInt32 >>> ((2 : Int32) &&& 31).toUInt32).toInt32) &&& (3 : Int32))), .val (.ref bs), .val (.int nn), .val (.ref ar), .unset, .unset, .unset] [(.int r7), (.int (2 : Int32)), (.ref ar)])) (fun _ k => st7 _ k) ?_
    obtain ⟨cl8, Ar8, hin8, -⟩ := V_ar.inb (j := 2) ⟨by decide, by decide⟩
    obtain ⟨T8, h8, X8, e8, W8, st8⟩ := stC X7 hx hZ eh7 Ar8 (j := (2 : Int32)) hin8 (g := (mkF m 90 #[.val (.int p1), .val (.int p2), .val (.int p3), .val (.int p4), .val (.long p5), .second, .val (.int (p1 &&& (3 : Int32))), .val (.int (((p1.toUInt32 >>> ((2 : Int32) &&& 31).toUInt32).toInt32) &&& (3 : Int32))), .val (.ref bs), .val (.int nn), .val (.ref ar), .unset, .unset, .unset] [(.int r7), (.int (2 : Int32)), (.ref ar)])) rfl rfl (hb hby at_90)
    have N8 := Fr.snoc X8 N7 g_ar
    have hzt := hzt.wr W8 g_ar
    have bs_S := bs_S.other W8 ne_bs_ar ne_bs_b_ar
    have Z8 : n0 ≤ h8.size := Nat.le_trans Z6 (Keep.of_wr W8).1
    have hk8 := Nat.le_trans hk6 (Keep.of_wr W8).1
    have K8 := K6.wr W8 (Or.inr sz_ar)
    have V_ar := V_ar.put W8 (own_narB bd7)
    refine OEndsW.go (t' := T8.setTop (mkF m 91 #[.val (.int p1), .val (.int p2), .val (.int p3), .val (.int p4), .val (.long p5), .second, .val (.int (p1 &&& (3 : Int32))), .val (.int (((p1.toUInt32 >>> ((2 : Int32) &&& 31).toUInt32).toInt32) &&& (3 : Int32))), .val (.ref bs), .val (.int nn), .val (.ref ar), .unset, .unset, .unset] [])) (fun _ k => st8 _ k) ?_
    refine OEndsW.go (t' := T8.setTop (mkF m 97 #[.val (.int p1), .val (.int p2), .val (.int p3), .val (.int p4), .val (.long p5), .second, .val (.int (p1 &&& (3 : Int32))), .val (.int (((p1.toUInt32 >>> ((2 : Int32) &&& 31).toUInt32).toInt32) &&& (3 : Int32))), .val (.ref bs), .val (.int nn), .val (.ref ar), .unset, .unset, .unset] [(.int (3 : Int32)), (.ref bs), (.int (3 : Int32)), (.ref ar)])) (fun _ k => ?_) ?_
    · show Steps p.tables e below (T8.setTop (mkF m 91 #[.val (.int p1), .val (.int p2), .val (.int p3), .val (.int p4), .val (.long p5), .second, .val (.int (p1 &&& (3 : Int32))), .val (.int (((p1.toUInt32 >>> ((2 : Int32) &&& 31).toUInt32).toInt32) &&& (3 : Int32))), .val (.ref bs), .val (.int nn), .val (.ref ar), .unset, .unset, .unset] [])) _
      refine XS.aload X8.here hx rfl (hb hby at_91) rfl rfl ?_
      show Steps p.tables e below (T8.setTop (mkF m 93 #[.val (.int p1), .val (.int p2), .val (.int p3), .val (.int p4), .val (.long p5), .second, .val (.int (p1 &&& (3 : Int32))), .val (.int (((p1.toUInt32 >>> ((2 : Int32) &&& 31).toUInt32).toInt32) &&& (3 : Int32))), .val (.ref bs), .val (.int nn), .val (.ref ar), .unset, .unset, .unset] [(.ref ar)])) _
      refine XS.iconst X8.here hx rfl (hb hby at_93) ?_
      show Steps p.tables e below (T8.setTop (mkF m 94 #[.val (.int p1), .val (.int p2), .val (.int p3), .val (.int p4), .val (.long p5), .second, .val (.int (p1 &&& (3 : Int32))), .val (.int (((p1.toUInt32 >>> ((2 : Int32) &&& 31).toUInt32).toInt32) &&& (3 : Int32))), .val (.ref bs), .val (.int nn), .val (.ref ar), .unset, .unset, .unset] [(.int (3 : Int32)), (.ref ar)])) _
      refine XS.aload X8.here hx rfl (hb hby at_94) rfl rfl ?_
      show Steps p.tables e below (T8.setTop (mkF m 96 #[.val (.int p1), .val (.int p2), .val (.int p3), .val (.int p4), .val (.long p5), .second, .val (.int (p1 &&& (3 : Int32))), .val (.int (((p1.toUInt32 >>> ((2 : Int32) &&& 31).toUInt32).toInt32) &&& (3 : Int32))), .val (.ref bs), .val (.int nn), .val (.ref ar), .unset, .unset, .unset] [(.ref bs), (.int (3 : Int32)), (.ref ar)])) _
      refine XS.iconst X8.here hx rfl (hb hby at_96) ?_
      show Steps p.tables e below (T8.setTop (mkF m 97 #[.val (.int p1), .val (.int p2), .val (.int p3), .val (.int p4), .val (.long p5), .second, .val (.int (p1 &&& (3 : Int32))), .val (.int (((p1.toUInt32 >>> ((2 : Int32) &&& 31).toUInt32).toInt32) &&& (3 : Int32))), .val (.ref bs), .val (.int nn), .val (.ref ar), .unset, .unset, .unset] [(.int (3 : Int32)), (.ref bs), (.int (3 : Int32)), (.ref ar)])) _
      exact k
    obtain ⟨_, _, ⟨T9, L9, k9, n9⟩, -, X9, ⟨Lc9, hQ9, l9, y9, z9⟩, st9⟩ := Jvm.LawKit.callS X8 hx (y := (⟨"com/example/pnorm/pnorm/model/WeightingNamedPinLaw", "at", "(Ljava/lang/String;I)C"⟩ : MethodName)) hown (mvT hZ (hw _ (List.mem_of_getElem? (i := 22) rfl))) (mvT hZ (hw _ (List.mem_of_getElem? (i := 23) rfl))) (mvT hZ (hw _ (List.mem_of_getElem? (i := 24) rfl))) (mvT hZ (hw _ (List.mem_of_getElem? (i := 25) rfl))) (by decide) (backOf (W := 2) (rm3 l Z a0 hw [] bs (3 : Int32) w1 bs_b bs_k xs0 fv h8 n0 Z8 (S_C.ext hzt.2) c0 (S_F.ext hzt.2) hF bs_S (by decide)) hZ (hw _ (List.mem_of_getElem? (i := 25) rfl)) (hw _ (List.mem_of_getElem? (i := 24) rfl)) (by decide) (by decide)) (g := (mkF m 97 #[.val (.int p1), .val (.int p2), .val (.int p3), .val (.int p4), .val (.long p5), .second, .val (.int (p1 &&& (3 : Int32))), .val (.int (((p1.toUInt32 >>> ((2 : Int32) &&& 31).toUInt32).toInt32) &&& (3 : Int32))), .val (.ref bs), .val (.int nn), .val (.ref ar), .unset, .unset, .unset] [(.int (3 : Int32)), (.ref bs), (.int (3 : Int32)), (.ref ar)])) rfl (by rw [hml]; rfl) (argsL := [(.ref bs), (.int (3 : Int32))]) (rest := [(.int (3 : Int32)), (.ref ar)]) (lenOf pd_rm0_1 rfl) rfl (by show 2 * 0 + _ ≤ _; exact Nat.le_of_eq rfl) (hb hby at_97) (fun _ _ => ⟨rfl, e8, (by decide : 3 + 0 ≤ _), (by decide : 40 + 0 ≤ _)⟩)
    dsimp only [Pt.U, Pt.locs, Pt.cells, Pt.slots] at X9 l9 y9 z9 st9 hQ9
    subst l9 y9 z9
    obtain ⟨r9, rfl, bd9, N9q, eh9⟩ := hQ9
    have N9 := Fr.app N8 N9q
    refine OEndsW.go (t' := T9.setTop (mkF m 100 #[.val (.int p1), .val (.int p2), .val (.int p3), .val (.int p4), .val (.long p5), .second, .val (.int (p1 &&& (3 : Int32))), .val (.int (((p1.toUInt32 >>> ((2 : Int32) &&& 31).toUInt32).toInt32) &&& (3 : Int32))), .val (.ref bs), .val (.int nn), .val (.ref ar), .unset, .unset, .unset] [(.int r9), (.int (3 : Int32)), (.ref ar)])) (fun _ k => st9 _ k) ?_
    obtain ⟨cl10, Ar10, hin10, -⟩ := V_ar.inb (j := 3) ⟨by decide, by decide⟩
    obtain ⟨T10, h10, X10, e10, W10, st10⟩ := stC X9 hx hZ eh9 Ar10 (j := (3 : Int32)) hin10 (g := (mkF m 100 #[.val (.int p1), .val (.int p2), .val (.int p3), .val (.int p4), .val (.long p5), .second, .val (.int (p1 &&& (3 : Int32))), .val (.int (((p1.toUInt32 >>> ((2 : Int32) &&& 31).toUInt32).toInt32) &&& (3 : Int32))), .val (.ref bs), .val (.int nn), .val (.ref ar), .unset, .unset, .unset] [(.int r9), (.int (3 : Int32)), (.ref ar)])) rfl rfl (hb hby at_100)
    have N10 := Fr.snoc X10 N9 g_ar
    have hzt := hzt.wr W10 g_ar
    have bs_S := bs_S.other W10 ne_bs_ar ne_bs_b_ar
    have Z10 : n0 ≤ h10.size := Nat.le_trans Z8 (Keep.of_wr W10).1
    have hk10 := Nat.le_trans hk8 (Keep.of_wr W10).1
    have K10 := K8.wr W10 (Or.inr sz_ar)
    have V_ar := V_ar.put W10 (own_narB bd9)
    refine OEndsW.go (t' := T10.setTop (mkF m 101 #[.val (.int p1), .val (.int p2), .val (.int p3), .val (.int p4), .val (.long p5), .second, .val (.int (p1 &&& (3 : Int32))), .val (.int (((p1.toUInt32 >>> ((2 : Int32) &&& 31).toUInt32).toInt32) &&& (3 : Int32))), .val (.ref bs), .val (.int nn), .val (.ref ar), .unset, .unset, .unset] [])) (fun _ k => st10 _ k) ?_
    refine OEndsW.go (t' := T10.setTop (mkF m 107 #[.val (.int p1), .val (.int p2), .val (.int p3), .val (.int p4), .val (.long p5), .second, .val (.int (p1 &&& (3 : Int32))), .val (.int (((p1.toUInt32 >>> ((2 : Int32) &&& 31).toUInt32).toInt32) &&& (3 : Int32))), .val (.ref bs), .val (.int nn), .val (.ref ar), .unset, .unset, .unset] [(.int (4 : Int32)), (.ref bs), (.int (4 : Int32)), (.ref ar)])) (fun _ k => ?_) ?_
    · show Steps p.tables e below (T10.setTop (mkF m 101 #[.val (.int p1), .val (.int p2), .val (.int p3), .val (.int p4), .val (.long p5), .second, .val (.int (p1 &&& (3 : Int32))), .val (.int (((p1.toUInt32 >>> ((2 : Int32) &&& 31).toUInt32).toInt32) &&& (3 : Int32))), .val (.ref bs), .val (.int nn), .val (.ref ar), .unset, .unset, .unset] [])) _
      refine XS.aload X10.here hx rfl (hb hby at_101) rfl rfl ?_
      show Steps p.tables e below (T10.setTop (mkF m 103 #[.val (.int p1), .val (.int p2), .val (.int p3), .val (.int p4), .val (.long p5), .second, .val (.int (p1 &&& (3 : Int32))), .val (.int (((p1.toUInt32 >>> ((2 : Int32) &&& 31).toUInt32).toInt32) &&& (3 : Int32))), .val (.ref bs), .val (.int nn), .val (.ref ar), .unset, .unset, .unset] [(.ref ar)])) _
      refine XS.iconst X10.here hx rfl (hb hby at_103) ?_
      show Steps p.tables e below (T10.setTop (mkF m 104 #[.val (.int p1), .val (.int p2), .val (.int p3), .val (.int p4), .val (.long p5), .second, .val (.int (p1 &&& (3 : Int32))), .val (.int (((p1.toUInt32 >>> ((2 : Int32) &&& 31).toUInt32).toInt32) &&& (3 : Int32))), .val (.ref bs), .val (.int nn), .val (.ref ar), .unset, .unset, .unset] [(.int (4 : Int32)), (.ref ar)])) _
      refine XS.aload X10.here hx rfl (hb hby at_104) rfl rfl ?_
      show Steps p.tables e below (T10.setTop (mkF m 106 #[.val (.int p1), .val (.int p2), .val (.int p3), .val (.int p4), .val (.long p5), .second, .val (.int (p1 &&& (3 : Int32))), .val (.int (((p1.toUInt32 >>> ((2 : Int32) &&& 31).toUInt32).toInt32) &&& (3 : Int32))), .val (.ref bs), .val (.int nn), .val (.ref ar), .unset, .unset, .unset] [(.ref bs), (.int (4 : Int32)), (.ref ar)])) _
      refine XS.iconst X10.here hx rfl (hb hby at_106) ?_
      show Steps p.tables e below (T10.setTop (mkF m 107 #[.val (.int p1), .val (.int p2), .val (.int p3), .val (.int p4), .val (.long p5), .second, .val (.int (p1 &&& (3 : Int32))), .val (.int (((p1.toUInt32 >>> ((2 : Int32) &&& 31).toUInt32).toInt32) &&& (3 : Int32))), .val (.ref bs), .val (.int nn), .val (.ref ar), .unset, .unset, .unset] [(.int (4 : Int32)), (.ref bs), (.int (4 : Int32)), (.ref ar)])) _
      exact k
    obtain ⟨_, _, ⟨T11, L11, k11, n11⟩, -, X11, ⟨Lc11, hQ11, l11, y11, z11⟩, st11⟩ := Jvm.LawKit.callS X10 hx (y := (⟨"com/example/pnorm/pnorm/model/WeightingNamedPinLaw", "at", "(Ljava/lang/String;I)C"⟩ : MethodName)) hown (mvT hZ (hw _ (List.mem_of_getElem? (i := 22) rfl))) (mvT hZ (hw _ (List.mem_of_getElem? (i := 23) rfl))) (mvT hZ (hw _ (List.mem_of_getElem? (i := 24) rfl))) (mvT hZ (hw _ (List.mem_of_getElem? (i := 25) rfl))) (by decide) (backOf (W := 2) (rm3 l Z a0 hw [] bs (4 : Int32) w1 bs_b bs_k xs0 fv h10 n0 Z10 (S_C.ext hzt.2) c0 (S_F.ext hzt.2) hF bs_S (by decide)) hZ (hw _ (List.mem_of_getElem? (i := 25) rfl)) (hw _ (List.mem_of_getElem? (i := 24) rfl)) (by decide) (by decide)) (g := (mkF m 107 #[.val (.int p1), .val (.int p2), .val (.int p3), .val (.int p4), .val (.long p5), .second, .val (.int (p1 &&& (3 : Int32))), .val (.int (((p1.toUInt32 >>> ((2 : Int32) &&& 31).toUInt32).toInt32) &&& (3 : Int32))), .val (.ref bs), .val (.int nn), .val (.ref ar), .unset, .unset, .unset] [(.int (4 : Int32)), (.ref bs), (.int (4 : Int32)), (.ref ar)])) rfl (by rw [hml]; rfl) (argsL := [(.ref bs), (.int (4 : Int32))]) (rest := [(.int (4 : Int32)), (.ref ar)]) (lenOf pd_rm0_1 rfl) rfl (by show 2 * 0 + _ ≤ _; exact Nat.le_of_eq rfl) (hb hby at_107) (fun _ _ => ⟨rfl, e10, (by decide : 3 + 0 ≤ _), (by decide : 40 + 0 ≤ _)⟩)
    dsimp only [Pt.U, Pt.locs, Pt.cells, Pt.slots] at X11 l11 y11 z11 st11 hQ11
    subst l11 y11 z11
    obtain ⟨r11, rfl, bd11, N11q, eh11⟩ := hQ11
    have N11 := Fr.app N10 N11q
    refine OEndsW.go (t' := T11.setTop (mkF m 110 #[.val (.int p1), .val (.int p2), .val (.int p3), .val (.int p4), .val (.long p5), .second, .val (.int (p1 &&& (3 : Int32))), .val (.int (((p1.toUInt32 >>> ((2 : Int32) &&& 31).toUInt32).toInt32) &&& (3 : Int32))), .val (.ref bs), .val (.int nn), .val (.ref ar), .unset, .unset, .unset] [(.int r11), (.int (4 : Int32)), (.ref ar)])) (fun _ k => st11 _ k) ?_
    obtain ⟨cl12, Ar12, hin12, -⟩ := V_ar.inb (j := 4) ⟨by decide, by decide⟩
    obtain ⟨T12, h12, X12, e12, W12, st12⟩ := stC X11 hx hZ eh11 Ar12 (j := (4 : Int32)) hin12 (g := (mkF m 110 #[.val (.int p1), .val (.int p2), .val (.int p3), .val (.int p4), .val (.long p5), .second, .val (.int (p1 &&& (3 : Int32))), .val (.int (((p1.toUInt32 >>> ((2 : Int32) &&& 31).toUInt32).toInt32) &&& (3 : Int32))), .val (.ref bs), .val (.int nn), .val (.ref ar), .unset, .unset, .unset] [(.int r11), (.int (4 : Int32)), (.ref ar)])) rfl rfl (hb hby at_110)
    have N12 := Fr.snoc X12 N11 g_ar
    have hzt := hzt.wr W12 g_ar
    have bs_S := bs_S.other W12 ne_bs_ar ne_bs_b_ar
    have Z12 : n0 ≤ h12.size := Nat.le_trans Z10 (Keep.of_wr W12).1
    have hk12 := Nat.le_trans hk10 (Keep.of_wr W12).1
    have K12 := K10.wr W12 (Or.inr sz_ar)
    have V_ar := V_ar.put W12 (own_narB bd11)
    refine OEndsW.go (t' := T12.setTop (mkF m 111 #[.val (.int p1), .val (.int p2), .val (.int p3), .val (.int p4), .val (.long p5), .second, .val (.int (p1 &&& (3 : Int32))), .val (.int (((p1.toUInt32 >>> ((2 : Int32) &&& 31).toUInt32).toInt32) &&& (3 : Int32))), .val (.ref bs), .val (.int nn), .val (.ref ar), .unset, .unset, .unset] [])) (fun _ k => st12 _ k) ?_
    refine OEndsW.go (t' := T12.setTop (mkF m 117 #[.val (.int p1), .val (.int p2), .val (.int p3), .val (.int p4), .val (.long p5), .second, .val (.int (p1 &&& (3 : Int32))), .val (.int (((p1.toUInt32 >>> ((2 : Int32) &&& 31).toUInt32).toInt32) &&& (3 : Int32))), .val (.ref bs), .val (.int nn), .val (.ref ar), .unset, .unset, .unset] [(.int (5 : Int32)), (.ref bs), (.int (5 : Int32)), (.ref ar)])) (fun _ k => ?_) ?_
    · show Steps p.tables e below (T12.setTop (mkF m 111 #[.val (.int p1), .val (.int p2), .val (.int p3), .val (.int p4), .val (.long p5), .second, .val (.int (p1 &&& (3 : Int32))), .val (.int (((p1.toUInt32 >>> ((2 : Int32) &&& 31).toUInt32).toInt32) &&& (3 : Int32))), .val (.ref bs), .val (.int nn), .val (.ref ar), .unset, .unset, .unset] [])) _
      refine XS.aload X12.here hx rfl (hb hby at_111) rfl rfl ?_
      show Steps p.tables e below (T12.setTop (mkF m 113 #[.val (.int p1), .val (.int p2), .val (.int p3), .val (.int p4), .val (.long p5), .second, .val (.int (p1 &&& (3 : Int32))), .val (.int (((p1.toUInt32 >>> ((2 : Int32) &&& 31).toUInt32).toInt32) &&& (3 : Int32))), .val (.ref bs), .val (.int nn), .val (.ref ar), .unset, .unset, .unset] [(.ref ar)])) _
      refine XS.iconst X12.here hx rfl (hb hby at_113) ?_
      show Steps p.tables e below (T12.setTop (mkF m 114 #[.val (.int p1), .val (.int p2), .val (.int p3), .val (.int p4), .val (.long p5), .second, .val (.int (p1 &&& (3 : Int32))), .val (.int (((p1.toUInt32 >>> ((2 : Int32) &&& 31).toUInt32).toInt32) &&& (3 : Int32))), .val (.ref bs), .val (.int nn), .val (.ref ar), .unset, .unset, .unset] [(.int (5 : Int32)), (.ref ar)])) _
      refine XS.aload X12.here hx rfl (hb hby at_114) rfl rfl ?_
      show Steps p.tables e below (T12.setTop (mkF m 116 #[.val (.int p1), .val (.int p2), .val (.int p3), .val (.int p4), .val (.long p5), .second, .val (.int (p1 &&& (3 : Int32))), .val (.int (((p1.toUInt32 >>> ((2 : Int32) &&& 31).toUInt32).toInt32) &&& (3 : Int32))), .val (.ref bs), .val (.int nn), .val (.ref ar), .unset, .unset, .unset] [(.ref bs), (.int (5 : Int32)), (.ref ar)])) _
      refine XS.iconst X12.here hx rfl (hb hby at_116) ?_
      show Steps p.tables e below (T12.setTop (mkF m 117 #[.val (.int p1), .val (.int p2), .val (.int p3), .val (.int p4), .val (.long p5), .second, .val (.int (p1 &&& (3 : Int32))), .val (.int (((p1.toUInt32 >>> ((2 : Int32) &&& 31).toUInt32).toInt32) &&& (3 : Int32))), .val (.ref bs), .val (.int nn), .val (.ref ar), .unset, .unset, .unset] [(.int (5 : Int32)), (.ref bs), (.int (5 : Int32)), (.ref ar)])) _
      exact k
    obtain ⟨_, _, ⟨T13, L13, k13, n13⟩, -, X13, ⟨Lc13, hQ13, l13, y13, z13⟩, st13⟩ := Jvm.LawKit.callS X12 hx (y := (⟨"com/example/pnorm/pnorm/model/WeightingNamedPinLaw", "at", "(Ljava/lang/String;I)C"⟩ : MethodName)) hown (mvT hZ (hw _ (List.mem_of_getElem? (i := 22) rfl))) (mvT hZ (hw _ (List.mem_of_getElem? (i := 23) rfl))) (mvT hZ (hw _ (List.mem_of_getElem? (i := 24) rfl))) (mvT hZ (hw _ (List.mem_of_getElem? (i := 25) rfl))) (by decide) (backOf (W := 2) (rm3 l Z a0 hw [] bs (5 : Int32) w1 bs_b bs_k xs0 fv h12 n0 Z12 (S_C.ext hzt.2) c0 (S_F.ext hzt.2) hF bs_S (by decide)) hZ (hw _ (List.mem_of_getElem? (i := 25) rfl)) (hw _ (List.mem_of_getElem? (i := 24) rfl)) (by decide) (by decide)) (g := (mkF m 117 #[.val (.int p1), .val (.int p2), .val (.int p3), .val (.int p4), .val (.long p5), .second, .val (.int (p1 &&& (3 : Int32))), .val (.int (((p1.toUInt32 >>> ((2 : Int32) &&& 31).toUInt32).toInt32) &&& (3 : Int32))), .val (.ref bs), .val (.int nn), .val (.ref ar), .unset, .unset, .unset] [(.int (5 : Int32)), (.ref bs), (.int (5 : Int32)), (.ref ar)])) rfl (by rw [hml]; rfl) (argsL := [(.ref bs), (.int (5 : Int32))]) (rest := [(.int (5 : Int32)), (.ref ar)]) (lenOf pd_rm0_1 rfl) rfl (by show 2 * 0 + _ ≤ _; exact Nat.le_of_eq rfl) (hb hby at_117) (fun _ _ => ⟨rfl, e12, (by decide : 3 + 0 ≤ _), (by decide : 40 + 0 ≤ _)⟩)
    dsimp only [Pt.U, Pt.locs, Pt.cells, Pt.slots] at X13 l13 y13 z13 st13 hQ13
    subst l13 y13 z13
    obtain ⟨r13, rfl, bd13, N13q, eh13⟩ := hQ13
    have N13 := Fr.app N12 N13q
    refine OEndsW.go (t' := T13.setTop (mkF m 120 #[.val (.int p1), .val (.int p2), .val (.int p3), .val (.int p4), .val (.long p5), .second, .val (.int (p1 &&& (3 : Int32))), .val (.int (((p1.toUInt32 >>> ((2 : Int32) &&& 31).toUInt32).toInt32) &&& (3 : Int32))), .val (.ref bs), .val (.int nn), .val (.ref ar), .unset, .unset, .unset] [(.int r13), (.int (5 : Int32)), (.ref ar)])) (fun _ k => st13 _ k) ?_
    obtain ⟨cl14, Ar14, hin14, -⟩ := V_ar.inb (j := 5) ⟨by decide, by decide⟩
    obtain ⟨T14, h14, X14, e14, W14, st14⟩ := stC X13 hx hZ eh13 Ar14 (j := (5 : Int32)) hin14 (g := (mkF m 120 #[.val (.int p1), .val (.int p2), .val (.int p3), .val (.int p4), .val (.long p5), .second, .val (.int (p1 &&& (3 : Int32))), .val (.int (((p1.toUInt32 >>> ((2 : Int32) &&& 31).toUInt32).toInt32) &&& (3 : Int32))), .val (.ref bs), .val (.int nn), .val (.ref ar), .unset, .unset, .unset] [(.int r13), (.int (5 : Int32)), (.ref ar)])) rfl rfl (hb hby at_120)
    have N14 := Fr.snoc X14 N13 g_ar
    have hzt := hzt.wr W14 g_ar
    have bs_S := bs_S.other W14 ne_bs_ar ne_bs_b_ar
    have Z14 : n0 ≤ h14.size := Nat.le_trans Z12 (Keep.of_wr W14).1
    have hk14 := Nat.le_trans hk12 (Keep.of_wr W14).1
    have K14 := K12.wr W14 (Or.inr sz_ar)
    have V_ar := V_ar.put W14 (own_narB bd13)
    refine OEndsW.go (t' := T14.setTop (mkF m 121 #[.val (.int p1), .val (.int p2), .val (.int p3), .val (.int p4), .val (.long p5), .second, .val (.int (p1 &&& (3 : Int32))), .val (.int (((p1.toUInt32 >>> ((2 : Int32) &&& 31).toUInt32).toInt32) &&& (3 : Int32))), .val (.ref bs), .val (.int nn), .val (.ref ar), .unset, .unset, .unset] [])) (fun _ k => st14 _ k) ?_
    refine OEndsW.go (t' := T14.setTop (mkF m 129 #[.val (.int p1), .val (.int p2), .val (.int p3), .val (.int p4), .val (.long p5), .second, .val (.int (p1 &&& (3 : Int32))), .val (.int (((p1.toUInt32 >>> ((2 : Int32) &&& 31).toUInt32).toInt32) &&& (3 : Int32))), .val (.ref bs), .val (.int nn), .val (.ref ar), .unset, .unset, .unset] [(.int (6 : Int32)), (.ref bs), (.int (6 : Int32)), (.ref ar)])) (fun _ k => ?_) ?_
    · show Steps p.tables e below (T14.setTop (mkF m 121 #[.val (.int p1), .val (.int p2), .val (.int p3), .val (.int p4), .val (.long p5), .second, .val (.int (p1 &&& (3 : Int32))), .val (.int (((p1.toUInt32 >>> ((2 : Int32) &&& 31).toUInt32).toInt32) &&& (3 : Int32))), .val (.ref bs), .val (.int nn), .val (.ref ar), .unset, .unset, .unset] [])) _
      refine XS.aload X14.here hx rfl (hb hby at_121) rfl rfl ?_
      show Steps p.tables e below (T14.setTop (mkF m 123 #[.val (.int p1), .val (.int p2), .val (.int p3), .val (.int p4), .val (.long p5), .second, .val (.int (p1 &&& (3 : Int32))), .val (.int (((p1.toUInt32 >>> ((2 : Int32) &&& 31).toUInt32).toInt32) &&& (3 : Int32))), .val (.ref bs), .val (.int nn), .val (.ref ar), .unset, .unset, .unset] [(.ref ar)])) _
      refine XS.bipush X14.here hx rfl (hb hby at_123) ?_
      show Steps p.tables e below (T14.setTop (mkF m 125 #[.val (.int p1), .val (.int p2), .val (.int p3), .val (.int p4), .val (.long p5), .second, .val (.int (p1 &&& (3 : Int32))), .val (.int (((p1.toUInt32 >>> ((2 : Int32) &&& 31).toUInt32).toInt32) &&& (3 : Int32))), .val (.ref bs), .val (.int nn), .val (.ref ar), .unset, .unset, .unset] [(.int (6 : Int32)), (.ref ar)])) _
      refine XS.aload X14.here hx rfl (hb hby at_125) rfl rfl ?_
      show Steps p.tables e below (T14.setTop (mkF m 127 #[.val (.int p1), .val (.int p2), .val (.int p3), .val (.int p4), .val (.long p5), .second, .val (.int (p1 &&& (3 : Int32))), .val (.int (((p1.toUInt32 >>> ((2 : Int32) &&& 31).toUInt32).toInt32) &&& (3 : Int32))), .val (.ref bs), .val (.int nn), .val (.ref ar), .unset, .unset, .unset] [(.ref bs), (.int (6 : Int32)), (.ref ar)])) _
      refine XS.bipush X14.here hx rfl (hb hby at_127) ?_
      show Steps p.tables e below (T14.setTop (mkF m 129 #[.val (.int p1), .val (.int p2), .val (.int p3), .val (.int p4), .val (.long p5), .second, .val (.int (p1 &&& (3 : Int32))), .val (.int (((p1.toUInt32 >>> ((2 : Int32) &&& 31).toUInt32).toInt32) &&& (3 : Int32))), .val (.ref bs), .val (.int nn), .val (.ref ar), .unset, .unset, .unset] [(.int (6 : Int32)), (.ref bs), (.int (6 : Int32)), (.ref ar)])) _
      exact k
    obtain ⟨_, _, ⟨T15, L15, k15, n15⟩, -, X15, ⟨Lc15, hQ15, l15, y15, z15⟩, st15⟩ := Jvm.LawKit.callS X14 hx (y := (⟨"com/example/pnorm/pnorm/model/WeightingNamedPinLaw", "at", "(Ljava/lang/String;I)C"⟩ : MethodName)) hown (mvT hZ (hw _ (List.mem_of_getElem? (i := 22) rfl))) (mvT hZ (hw _ (List.mem_of_getElem? (i := 23) rfl))) (mvT hZ (hw _ (List.mem_of_getElem? (i := 24) rfl))) (mvT hZ (hw _ (List.mem_of_getElem? (i := 25) rfl))) (by decide) (backOf (W := 2) (rm3 l Z a0 hw [] bs (6 : Int32) w1 bs_b bs_k xs0 fv h14 n0 Z14 (S_C.ext hzt.2) c0 (S_F.ext hzt.2) hF bs_S (by decide)) hZ (hw _ (List.mem_of_getElem? (i := 25) rfl)) (hw _ (List.mem_of_getElem? (i := 24) rfl)) (by decide) (by decide)) (g := (mkF m 129 #[.val (.int p1), .val (.int p2), .val (.int p3), .val (.int p4), .val (.long p5), .second, .val (.int (p1 &&& (3 : Int32))), .val (.int (((p1.toUInt32 >>> ((2 : Int32) &&& 31).toUInt32).toInt32) &&& (3 : Int32))), .val (.ref bs), .val (.int nn), .val (.ref ar), .unset, .unset, .unset] [(.int (6 : Int32)), (.ref bs), (.int (6 : Int32)), (.ref ar)])) rfl (by rw [hml]; rfl) (argsL := [(.ref bs), (.int (6 : Int32))]) (rest := [(.int (6 : Int32)), (.ref ar)]) (lenOf pd_rm0_1 rfl) rfl (by show 2 * 0 + _ ≤ _; exact Nat.le_of_eq rfl) (hb hby at_129) (fun _ _ => ⟨rfl, e14, (by decide : 3 + 0 ≤ _), (by decide : 40 + 0 ≤ _)⟩)
    dsimp only [Pt.U, Pt.locs, Pt.cells, Pt.slots] at X15 l15 y15 z15 st15 hQ15
    subst l15 y15 z15
    obtain ⟨r15, rfl, bd15, N15q, eh15⟩ := hQ15
    have N15 := Fr.app N14 N15q
    refine OEndsW.go (t' := T15.setTop (mkF m 132 #[.val (.int p1), .val (.int p2), .val (.int p3), .val (.int p4), .val (.long p5), .second, .val (.int (p1 &&& (3 : Int32))), .val (.int (((p1.toUInt32 >>> ((2 : Int32) &&& 31).toUInt32).toInt32) &&& (3 : Int32))), .val (.ref bs), .val (.int nn), .val (.ref ar), .unset, .unset, .unset] [(.int r15), (.int (6 : Int32)), (.ref ar)])) (fun _ k => st15 _ k) ?_
    obtain ⟨cl16, Ar16, hin16, -⟩ := V_ar.inb (j := 6) ⟨by decide, by decide⟩
    obtain ⟨T16, h16, X16, e16, W16, st16⟩ := stC X15 hx hZ eh15 Ar16 (j := (6 : Int32)) hin16 (g := (mkF m 132 #[.val (.int p1), .val (.int p2), .val (.int p3), .val (.int p4), .val (.long p5), .second, .val (.int (p1 &&& (3 : Int32))), .val (.int (((p1.toUInt32 >>> ((2 : Int32) &&& 31).toUInt32).toInt32) &&& (3 : Int32))), .val (.ref bs), .val (.int nn), .val (.ref ar), .unset, .unset, .unset] [(.int r15), (.int (6 : Int32)), (.ref ar)])) rfl rfl (hb hby at_132)
    have N16 := Fr.snoc X16 N15 g_ar
    have hzt := hzt.wr W16 g_ar
    have bs_S := bs_S.other W16 ne_bs_ar ne_bs_b_ar
    have Z16 : n0 ≤ h16.size := Nat.le_trans Z14 (Keep.of_wr W16).1
    have hk16 := Nat.le_trans hk14 (Keep.of_wr W16).1
    have K16 := K14.wr W16 (Or.inr sz_ar)
    have V_ar := V_ar.put W16 (own_narB bd15)
    refine OEndsW.go (t' := T16.setTop (mkF m 133 #[.val (.int p1), .val (.int p2), .val (.int p3), .val (.int p4), .val (.long p5), .second, .val (.int (p1 &&& (3 : Int32))), .val (.int (((p1.toUInt32 >>> ((2 : Int32) &&& 31).toUInt32).toInt32) &&& (3 : Int32))), .val (.ref bs), .val (.int nn), .val (.ref ar), .unset, .unset, .unset] [])) (fun _ k => st16 _ k) ?_
    refine OEndsW.go (t' := T16.setTop (mkF m 141 #[.val (.int p1), .val (.int p2), .val (.int p3), .val (.int p4), .val (.long p5), .second, .val (.int (p1 &&& (3 : Int32))), .val (.int (((p1.toUInt32 >>> ((2 : Int32) &&& 31).toUInt32).toInt32) &&& (3 : Int32))), .val (.ref bs), .val (.int nn), .val (.ref ar), .unset, .unset, .unset] [(.int (7 : Int32)), (.ref bs), (.int (7 : Int32)), (.ref ar)])) (fun _ k => ?_) ?_
    · show Steps p.tables e below (T16.setTop (mkF m 133 #[.val (.int p1), .val (.int p2), .val (.int p3), .val (.int p4), .val (.long p5), .second, .val (.int (p1 &&& (3 : Int32))), .val (.int (((p1.toUInt32 >>> ((2 : Int32) &&& 31).toUInt32).toInt32) &&& (3 : Int32))), .val (.ref bs), .val (.int nn), .val (.ref ar), .unset, .unset, .unset] [])) _
      refine XS.aload X16.here hx rfl (hb hby at_133) rfl rfl ?_
      show Steps p.tables e below (T16.setTop (mkF m 135 #[.val (.int p1), .val (.int p2), .val (.int p3), .val (.int p4), .val (.long p5), .second, .val (.int (p1 &&& (3 : Int32))), .val (.int (((p1.toUInt32 >>> ((2 : Int32) &&& 31).toUInt32).toInt32) &&& (3 : Int32))), .val (.ref bs), .val (.int nn), .val (.ref ar), .unset, .unset, .unset] [(.ref ar)])) _
      refine XS.bipush X16.here hx rfl (hb hby at_135) ?_
      show Steps p.tables e below (T16.setTop (mkF m 137 #[.val (.int p1), .val (.int p2), .val (.int p3), .val (.int p4), .val (.long p5), .second, .val (.int (p1 &&& (3 : Int32))), .val (.int (((p1.toUInt32 >>> ((2 : Int32) &&& 31).toUInt32).toInt32) &&& (3 : Int32))), .val (.ref bs), .val (.int nn), .val (.ref ar), .unset, .unset, .unset] [(.int (7 : Int32)), (.ref ar)])) _
      refine XS.aload X16.here hx rfl (hb hby at_137) rfl rfl ?_
      show Steps p.tables e below (T16.setTop (mkF m 139 #[.val (.int p1), .val (.int p2), .val (.int p3), .val (.int p4), .val (.long p5), .second, .val (.int (p1 &&& (3 : Int32))), .val (.int (((p1.toUInt32 >>> ((2 : Int32) &&& 31).toUInt32).toInt32) &&& (3 : Int32))), .val (.ref bs), .val (.int nn), .val (.ref ar), .unset, .unset, .unset] [(.ref bs), (.int (7 : Int32)), (.ref ar)])) _
      refine XS.bipush X16.here hx rfl (hb hby at_139) ?_
      show Steps p.tables e below (T16.setTop (mkF m 141 #[.val (.int p1), .val (.int p2), .val (.int p3), .val (.int p4), .val (.long p5), .second, .val (.int (p1 &&& (3 : Int32))), .val (.int (((p1.toUInt32 >>> ((2 : Int32) &&& 31).toUInt32).toInt32) &&& (3 : Int32))), .val (.ref bs), .val (.int nn), .val (.ref ar), .unset, .unset, .unset] [(.int (7 : Int32)), (.ref bs), (.int (7 : Int32)), (.ref ar)])) _
      exact k
    obtain ⟨_, _, ⟨T17, L17, k17, n17⟩, -, X17, ⟨Lc17, hQ17, l17, y17, z17⟩, st17⟩ := Jvm.LawKit.callS X16 hx (y := (⟨"com/example/pnorm/pnorm/model/WeightingNamedPinLaw", "at", "(Ljava/lang/String;I)C"⟩ : MethodName)) hown (mvT hZ (hw _ (List.mem_of_getElem? (i := 22) rfl))) (mvT hZ (hw _ (List.mem_of_getElem? (i := 23) rfl))) (mvT hZ (hw _ (List.mem_of_getElem? (i := 24) rfl))) (mvT hZ (hw _ (List.mem_of_getElem? (i := 25) rfl))) (by decide) (backOf (W := 2) (rm3 l Z a0 hw [] bs (7 : Int32) w1 bs_b bs_k xs0 fv h16 n0 Z16 (S_C.ext hzt.2) c0 (S_F.ext hzt.2) hF bs_S (by decide)) hZ (hw _ (List.mem_of_getElem? (i := 25) rfl)) (hw _ (List.mem_of_getElem? (i := 24) rfl)) (by decide) (by decide)) (g := (mkF m 141 #[.val (.int p1), .val (.int p2), .val (.int p3), .val (.int p4), .val (.long p5), .second, .val (.int (p1 &&& (3 : Int32))), .val (.int (((p1.toUInt32 >>> ((2 : Int32) &&& 31).toUInt32).toInt32) &&& (3 : Int32))), .val (.ref bs), .val (.int nn), .val (.ref ar), .unset, .unset, .unset] [(.int (7 : Int32)), (.ref bs), (.int (7 : Int32)), (.ref ar)])) rfl (by rw [hml]; rfl) (argsL := [(.ref bs), (.int (7 : Int32))]) (rest := [(.int (7 : Int32)), (.ref ar)]) (lenOf pd_rm0_1 rfl) rfl (by show 2 * 0 + _ ≤ _; exact Nat.le_of_eq rfl) (hb hby at_141) (fun _ _ => ⟨rfl, e16, (by decide : 3 + 0 ≤ _), (by decide : 40 + 0 ≤ _)⟩)
    dsimp only [Pt.U, Pt.locs, Pt.cells, Pt.slots] at X17 l17 y17 z17 st17 hQ17
    subst l17 y17 z17
    obtain ⟨r17, rfl, bd17, N17q, eh17⟩ := hQ17
    have N17 := Fr.app N16 N17q
    refine OEndsW.go (t' := T17.setTop (mkF m 144 #[.val (.int p1), .val (.int p2), .val (.int p3), .val (.int p4), .val (.long p5), .second, .val (.int (p1 &&& (3 : Int32))), .val (.int (((p1.toUInt32 >>> ((2 : Int32) &&& 31).toUInt32).toInt32) &&& (3 : Int32))), .val (.ref bs), .val (.int nn), .val (.ref ar), .unset, .unset, .unset] [(.int r17), (.int (7 : Int32)), (.ref ar)])) (fun _ k => st17 _ k) ?_
    obtain ⟨cl18, Ar18, hin18, -⟩ := V_ar.inb (j := 7) ⟨by decide, by decide⟩
    obtain ⟨T18, h18, X18, e18, W18, st18⟩ := stC X17 hx hZ eh17 Ar18 (j := (7 : Int32)) hin18 (g := (mkF m 144 #[.val (.int p1), .val (.int p2), .val (.int p3), .val (.int p4), .val (.long p5), .second, .val (.int (p1 &&& (3 : Int32))), .val (.int (((p1.toUInt32 >>> ((2 : Int32) &&& 31).toUInt32).toInt32) &&& (3 : Int32))), .val (.ref bs), .val (.int nn), .val (.ref ar), .unset, .unset, .unset] [(.int r17), (.int (7 : Int32)), (.ref ar)])) rfl rfl (hb hby at_144)
    have N18 := Fr.snoc X18 N17 g_ar
    have hzt := hzt.wr W18 g_ar
    have bs_S := bs_S.other W18 ne_bs_ar ne_bs_b_ar
    have Z18 : n0 ≤ h18.size := Nat.le_trans Z16 (Keep.of_wr W18).1
    have hk18 := Nat.le_trans hk16 (Keep.of_wr W18).1
    have K18 := K16.wr W18 (Or.inr sz_ar)
    have V_ar := V_ar.put W18 (own_narB bd17)
    refine OEndsW.go (t' := T18.setTop (mkF m 145 #[.val (.int p1), .val (.int p2), .val (.int p3), .val (.int p4), .val (.long p5), .second, .val (.int (p1 &&& (3 : Int32))), .val (.int (((p1.toUInt32 >>> ((2 : Int32) &&& 31).toUInt32).toInt32) &&& (3 : Int32))), .val (.ref bs), .val (.int nn), .val (.ref ar), .unset, .unset, .unset] [])) (fun _ k => st18 _ k) ?_
    refine OEndsW.go (t' := T18.setTop (mkF m 153 #[.val (.int p1), .val (.int p2), .val (.int p3), .val (.int p4), .val (.long p5), .second, .val (.int (p1 &&& (3 : Int32))), .val (.int (((p1.toUInt32 >>> ((2 : Int32) &&& 31).toUInt32).toInt32) &&& (3 : Int32))), .val (.ref bs), .val (.int nn), .val (.ref ar), .val (.int ((p3 &&& (255 : Int32)).toUInt32.toUInt16.toUInt32.toInt32)), .unset, .unset] [])) (fun _ k => ?_) ?_
    · show Steps p.tables e below (T18.setTop (mkF m 145 #[.val (.int p1), .val (.int p2), .val (.int p3), .val (.int p4), .val (.long p5), .second, .val (.int (p1 &&& (3 : Int32))), .val (.int (((p1.toUInt32 >>> ((2 : Int32) &&& 31).toUInt32).toInt32) &&& (3 : Int32))), .val (.ref bs), .val (.int nn), .val (.ref ar), .unset, .unset, .unset] [])) _
      refine XS.iloadN X18.here hx rfl (hb hby at_145) rfl ?_
      show Steps p.tables e below (T18.setTop (mkF m 146 #[.val (.int p1), .val (.int p2), .val (.int p3), .val (.int p4), .val (.long p5), .second, .val (.int (p1 &&& (3 : Int32))), .val (.int (((p1.toUInt32 >>> ((2 : Int32) &&& 31).toUInt32).toInt32) &&& (3 : Int32))), .val (.ref bs), .val (.int nn), .val (.ref ar), .unset, .unset, .unset] [(.int p3)])) _
      refine XS.sipush X18.here hx rfl (hb hby at_146) ?_
      show Steps p.tables e below (T18.setTop (mkF m 149 #[.val (.int p1), .val (.int p2), .val (.int p3), .val (.int p4), .val (.long p5), .second, .val (.int (p1 &&& (3 : Int32))), .val (.int (((p1.toUInt32 >>> ((2 : Int32) &&& 31).toUInt32).toInt32) &&& (3 : Int32))), .val (.ref bs), .val (.int nn), .val (.ref ar), .unset, .unset, .unset] [(.int (255 : Int32)), (.int p3)])) _
      refine XS.iand X18.here hx rfl (hb hby at_149) rfl ?_
      show Steps p.tables e below (T18.setTop (mkF m 150 #[.val (.int p1), .val (.int p2), .val (.int p3), .val (.int p4), .val (.long p5), .second, .val (.int (p1 &&& (3 : Int32))), .val (.int (((p1.toUInt32 >>> ((2 : Int32) &&& 31).toUInt32).toInt32) &&& (3 : Int32))), .val (.ref bs), .val (.int nn), .val (.ref ar), .unset, .unset, .unset] [(.int (p3 &&& (255 : Int32)))])) _
      refine XS.i2c X18.here hx rfl (hb hby at_150) rfl ?_
      show Steps p.tables e below (T18.setTop (mkF m 151 #[.val (.int p1), .val (.int p2), .val (.int p3), .val (.int p4), .val (.long p5), .second, .val (.int (p1 &&& (3 : Int32))), .val (.int (((p1.toUInt32 >>> ((2 : Int32) &&& 31).toUInt32).toInt32) &&& (3 : Int32))), .val (.ref bs), .val (.int nn), .val (.ref ar), .unset, .unset, .unset] [(.int ((p3 &&& (255 : Int32)).toUInt32.toUInt16.toUInt32.toInt32))])) _
      refine XS.istore X18.here hx rfl (hb hby at_151) rfl (l' := #[.val (.int p1), .val (.int p2), .val (.int p3), .val (.int p4), .val (.long p5), .second, .val (.int (p1 &&& (3 : Int32))), .val (.int (((p1.toUInt32 >>> ((2 : Int32) &&& 31).toUInt32).toInt32) &&& (3 : Int32))), .val (.ref bs), .val (.int nn), .val (.ref ar), .val (.int ((p3 &&& (255 : Int32)).toUInt32.toUInt16.toUInt32.toInt32)), .unset, .unset]) rfl ?_
      show Steps p.tables e below (T18.setTop (mkF m 153 #[.val (.int p1), .val (.int p2), .val (.int p3), .val (.int p4), .val (.long p5), .second, .val (.int (p1 &&& (3 : Int32))), .val (.int (((p1.toUInt32 >>> ((2 : Int32) &&& 31).toUInt32).toInt32) &&& (3 : Int32))), .val (.ref bs), .val (.int nn), .val (.ref ar), .val (.int ((p3 &&& (255 : Int32)).toUInt32.toUInt16.toUInt32.toInt32)), .unset, .unset] [])) _
      exact k
    generalize hdc : ((p3 &&& (255 : Int32)).toUInt32.toUInt16.toUInt32.toInt32) = dc
    have hdb : own_B dc := by rw [← hdc, i2c_mask]; exact own_Bm _
    refine OEndsW.cut (fun En => ∀ (Tq : State) (Tq_l : List Loc) (hq : Heap), Stand p l e room_1 (s.setVm vmTb) m #[(.int p1), (.int p2), (.int p3), (.int p4), (.long p5)] below meth c Tq Tq_l 3 40 → Tq.heap = hq → Fr n0 Tq_l → n0 ≤ hq.size → ∀ (n3 : Int32) (s12 : Slot), Old Z n0 hq → own_C8 Z hq ar → Keep hTb hq [] → (s12 = .unset ∨ ∃ w : Int32, s12 = .val (.int w)) → En (Tq.setTop (mkF m 351 #[.val (.int p1), .val (.int p2), .val (.int p3), .val (.int p4), .val (.long p5), .second, .val (.int (p1 &&& (3 : Int32))), .val (.int (((p1.toUInt32 >>> ((2 : Int32) &&& 31).toUInt32).toInt32) &&& (3 : Int32))), .val (.ref bs), .val (.int n3), .val (.ref ar), .val (.int dc), s12, .unset] []))) ?_ (fun K351 => ?_)
    · intro Tq Tq_l hq XTq eTq NTq ZTq n3 s12 hzt V_ar hKq hs12
      have hkq := Nat.le_trans hkTb hKq.1
      have hAll := hAll.keep0 hKq
      refine OEndsW.go (t' := Tq.setTop (mkF m 355 #[.val (.int p1), .val (.int p2), .val (.int p3), .val (.int p4), .val (.long p5), .second, .val (.int (p1 &&& (3 : Int32))), .val (.int (((p1.toUInt32 >>> ((2 : Int32) &&& 31).toUInt32).toInt32) &&& (3 : Int32))), .val (.ref bs), .val (.int n3), .val (.ref ar), .val (.int dc), s12, .unset] [(.ref ar), (.int n3)])) (fun _ k => ?_) ?_
      · show Steps p.tables e below (Tq.setTop (mkF m 351 #[.val (.int p1), .val (.int p2), .val (.int p3), .val (.int p4), .val (.long p5), .second, .val (.int (p1 &&& (3 : Int32))), .val (.int (((p1.toUInt32 >>> ((2 : Int32) &&& 31).toUInt32).toInt32) &&& (3 : Int32))), .val (.ref bs), .val (.int n3), .val (.ref ar), .val (.int dc), s12, .unset] [])) _
        refine XS.iload XTq.here hx rfl (hb hby at_351) rfl ?_
        show Steps p.tables e below (Tq.setTop (mkF m 353 #[.val (.int p1), .val (.int p2), .val (.int p3), .val (.int p4), .val (.long p5), .second, .val (.int (p1 &&& (3 : Int32))), .val (.int (((p1.toUInt32 >>> ((2 : Int32) &&& 31).toUInt32).toInt32) &&& (3 : Int32))), .val (.ref bs), .val (.int n3), .val (.ref ar), .val (.int dc), s12, .unset] [(.int n3)])) _
        refine XS.aload XTq.here hx rfl (hb hby at_353) rfl rfl ?_
        show Steps p.tables e below (Tq.setTop (mkF m 355 #[.val (.int p1), .val (.int p2), .val (.int p3), .val (.int p4), .val (.long p5), .second, .val (.int (p1 &&& (3 : Int32))), .val (.int (((p1.toUInt32 >>> ((2 : Int32) &&& 31).toUInt32).toInt32) &&& (3 : Int32))), .val (.ref bs), .val (.int n3), .val (.ref ar), .val (.int dc), s12, .unset] [(.ref ar), (.int n3)])) _
        exact k
      obtain ⟨_, _, ⟨T19, L19, k19, n19⟩, -, X19, hSq19, hgq19, ⟨Lc19, hQ19, l19, y19, z19⟩, st19⟩ := callSS XTq hx (y := (⟨"com/example/pnorm/pnorm/model/WeightingNamedPinLaw", "mk", "(I[C)Ljava/lang/String;"⟩ : MethodName)) hown (mvT hZ (hw _ (List.mem_of_getElem? (i := 48) rfl))) (mvT hZ (hw _ (List.mem_of_getElem? (i := 49) rfl))) (mvT hZ (hw _ (List.mem_of_getElem? (i := 24) rfl))) (mvT hZ (hw _ (List.mem_of_getElem? (i := 50) rfl))) (by decide) (own_backI (W := 0) (rm9 l Z a0 hw [] n3 ar w1 hq n0 ZTq S_C c0 hzt hcw hH V_ar) hZ (fun vm hW => hAll.stays hW) (hw _ (List.mem_of_getElem? (i := 50) rfl)) (hw _ (List.mem_of_getElem? (i := 24) rfl)) (by decide) (by decide)) (g := (mkF m 355 #[.val (.int p1), .val (.int p2), .val (.int p3), .val (.int p4), .val (.long p5), .second, .val (.int (p1 &&& (3 : Int32))), .val (.int (((p1.toUInt32 >>> ((2 : Int32) &&& 31).toUInt32).toInt32) &&& (3 : Int32))), .val (.ref bs), .val (.int n3), .val (.ref ar), .val (.int dc), s12, .unset] [(.ref ar), (.int n3)])) rfl (by rw [hml]; rfl) (argsL := [(.int n3), (.ref ar)]) (rest := []) (lenOf pd_rm0_2 rfl) rfl (by show 2 * 0 + _ ≤ _; exact Nat.le_of_eq rfl) (hb hby at_355) (fun _ _ => ⟨rfl, eTq, (by decide : 3 + 4 ≤ _), (by decide : 40 + 20 ≤ _)⟩)
      dsimp only [Pt.U, Pt.locs, Pt.cells, Pt.slots] at X19 l19 y19 z19 st19 hQ19 hSq19 hgq19
      subst l19 y19 z19
      obtain ⟨X19, hS19, hZ, hown⟩ := rebS (s := s) (vm0 := vmTb) (vm1 := T19.vm) hSTb (by rw [eTq]; exact hkq) X19 hSq19 hgq19 hZ hown
      obtain ⟨sx, sx_b, sx_k, xs, rfl, N19q, Kc19, sx_S, hAll⟩ := hQ19
      have N19 := Fr.app NTq N19q
      have hzt := hzt.keep Kc19 all0
      have V_ar := V_ar.keep Kc19 nin0
      have Z19 : n0 ≤ T19.heap.size := Nat.le_trans ZTq Kc19.1
      have K19 := hKq.trans Kc19 all0
      have hk19 : T19.heap.size ≤ T19.heap.size := Nat.le_refl _
      refine OEndsW.go (t' := T19.setTop (mkF m 358 #[.val (.int p1), .val (.int p2), .val (.int p3), .val (.int p4), .val (.long p5), .second, .val (.int (p1 &&& (3 : Int32))), .val (.int (((p1.toUInt32 >>> ((2 : Int32) &&& 31).toUInt32).toInt32) &&& (3 : Int32))), .val (.ref bs), .val (.int n3), .val (.ref ar), .val (.int dc), s12, .unset] [(.ref sx)])) (fun _ k => st19.trans k) ?_
      refine OEndsW.go (t' := T19.setTop (mkF m 362 #[.val (.int p1), .val (.int p2), .val (.int p3), .val (.int p4), .val (.long p5), .second, .val (.int (p1 &&& (3 : Int32))), .val (.int (((p1.toUInt32 >>> ((2 : Int32) &&& 31).toUInt32).toInt32) &&& (3 : Int32))), .val (.ref bs), .val (.int n3), .val (.ref ar), .val (.int dc), .val (.ref sx), .unset] [(.ref sx)])) (fun _ k => ?_) ?_
      · show Steps p.tables e below (T19.setTop (mkF m 358 #[.val (.int p1), .val (.int p2), .val (.int p3), .val (.int p4), .val (.long p5), .second, .val (.int (p1 &&& (3 : Int32))), .val (.int (((p1.toUInt32 >>> ((2 : Int32) &&& 31).toUInt32).toInt32) &&& (3 : Int32))), .val (.ref bs), .val (.int n3), .val (.ref ar), .val (.int dc), s12, .unset] [(.ref sx)])) _
        refine XS.astore X19.here hx rfl (hb hby at_358) rfl rfl (l' := #[.val (.int p1), .val (.int p2), .val (.int p3), .val (.int p4), .val (.long p5), .second, .val (.int (p1 &&& (3 : Int32))), .val (.int (((p1.toUInt32 >>> ((2 : Int32) &&& 31).toUInt32).toInt32) &&& (3 : Int32))), .val (.ref bs), .val (.int n3), .val (.ref ar), .val (.int dc), .val (.ref sx), .unset]) (own_s12 ⟨_, rfl⟩ ⟨_, rfl⟩ ⟨_, rfl⟩ ⟨_, rfl⟩ hs12) ?_
        show Steps p.tables e below (T19.setTop (mkF m 360 #[.val (.int p1), .val (.int p2), .val (.int p3), .val (.int p4), .val (.long p5), .second, .val (.int (p1 &&& (3 : Int32))), .val (.int (((p1.toUInt32 >>> ((2 : Int32) &&& 31).toUInt32).toInt32) &&& (3 : Int32))), .val (.ref bs), .val (.int n3), .val (.ref ar), .val (.int dc), .val (.ref sx), .unset] [])) _
        refine XS.aload X19.here hx rfl (hb hby at_360) rfl rfl ?_
        show Steps p.tables e below (T19.setTop (mkF m 362 #[.val (.int p1), .val (.int p2), .val (.int p3), .val (.int p4), .val (.long p5), .second, .val (.int (p1 &&& (3 : Int32))), .val (.int (((p1.toUInt32 >>> ((2 : Int32) &&& 31).toUInt32).toInt32) &&& (3 : Int32))), .val (.ref bs), .val (.int n3), .val (.ref ar), .val (.int dc), .val (.ref sx), .unset] [(.ref sx)])) _
        exact k
      have wS20 : ∀ a ∈ Bundle.stringAtoms, a.before a0 Z = true := by
        intro d hd
        simp only [Bundle.stringAtoms, List.mem_cons, List.not_mem_nil, or_false] at hd
        rcases hd with rfl | rfl | rfl | rfl | rfl | rfl | rfl
        · exact hw _ (List.mem_of_getElem? (i := 1) rfl)
        · exact hw _ (List.mem_of_getElem? (i := 2) rfl)
        · exact hw _ (List.mem_of_getElem? (i := 3) rfl)
        · exact hw _ (List.mem_of_getElem? (i := 4) rfl)
        · exact hw _ (List.mem_of_getElem? (i := 5) rfl)
        · exact hw _ (List.mem_of_getElem? (i := 6) rfl)
        · exact hw _ (List.mem_of_getElem? (i := 7) rfl)
      obtain ⟨t0, T20, h20, kz20, t0_b, t0_k, vm20, X20, e20, E20, hS20, hk20, hZ, hown, t0_S, hAll, LT20, st20⟩ := own_ldc (s := s) (vm0 := T19.vm) (D := own_lits) (xs := [101, 98]) X19 hx hZ hown (hw _ (List.mem_of_getElem? (i := 0) rfl)) wS20 rfl hS19 hk19 (by rw [hh, ← hn0]; exact N19) hkp hAll (List.mem_of_getElem? (i := 0) rfl) own_lits_0 (hH _ (List.mem_of_getElem? (i := 0) rfl)) hcw (by decide) (by decide) (g := (mkF m 362 #[.val (.int p1), .val (.int p2), .val (.int p3), .val (.int p4), .val (.long p5), .second, .val (.int (p1 &&& (3 : Int32))), .val (.int (((p1.toUInt32 >>> ((2 : Int32) &&& 31).toUInt32).toInt32) &&& (3 : Int32))), .val (.ref bs), .val (.int n3), .val (.ref ar), .val (.int dc), .val (.ref sx), .unset] [(.ref sx)])) rfl (hb hby at_362) (n := 8) (by decide) (by decide) (by decide) (by decide)
      have hzt := hzt.ext E20
      have sx_S := sx_S.ext E20
      have Z20 : n0 ≤ h20.size := Nat.le_trans Z19 E20.1
      refine OEndsW.go (t' := T20.setTop (mkF m 364 #[.val (.int p1), .val (.int p2), .val (.int p3), .val (.int p4), .val (.long p5), .second, .val (.int (p1 &&& (3 : Int32))), .val (.int (((p1.toUInt32 >>> ((2 : Int32) &&& 31).toUInt32).toInt32) &&& (3 : Int32))), .val (.ref bs), .val (.int n3), .val (.ref ar), .val (.int dc), .val (.ref sx), .unset] [(.ref t0), (.ref sx)])) (fun _ k => st20 _ k) ?_
      obtain ⟨cq21, kq21, q21a, q21b, q21c⟩ := isOf hZ e20 sx_S.1
      obtain ⟨_, _, ⟨T21, L21, k21, n21⟩, -, X21, ⟨Lc21, hQ21, l21, y21, z21⟩, st21⟩ := X20.virtualBack hx (y := (⟨"java/lang/String", "equals", "(Ljava/lang/Object;)Z"⟩ : MethodName)) (z := (⟨"java/lang/String", "equals", "(Ljava/lang/Object;)Z"⟩ : MethodName)) hown (mvT hZ (hw _ (List.mem_of_getElem? (i := 72) rfl))) (mvT hZ (hw _ (List.mem_of_getElem? (i := 73) rfl))) (notFace_of_selects (args := #[]) (mvT hZ (hw _ (List.mem_of_getElem? (i := 75) rfl)))) (mvT hZ (hw _ (List.mem_of_getElem? (i := 75) rfl))) (mvT hZ (hw _ (List.mem_of_getElem? (i := 74) rfl))) (by decide) (backOf (W := 0) (rm16 l Z a0 hw [] sx t0 w1 sx_b t0_b sx_k t0_k xs [101, 98] h20 n0 Z20 (S_C.ext hzt.2) c0 sx_S t0_S) hZ (hw _ (List.mem_of_getElem? (i := 76) rfl)) (hw _ (List.mem_of_getElem? (i := 1) rfl)) (by decide) (by decide)) q21a q21c (g := (mkF m 364 #[.val (.int p1), .val (.int p2), .val (.int p3), .val (.int p4), .val (.long p5), .second, .val (.int (p1 &&& (3 : Int32))), .val (.int (((p1.toUInt32 >>> ((2 : Int32) &&& 31).toUInt32).toInt32) &&& (3 : Int32))), .val (.ref bs), .val (.int n3), .val (.ref ar), .val (.int dc), .val (.ref sx), .unset] [(.ref t0), (.ref sx)])) rfl (by rw [hml]; rfl) (Steps.refl _) (argsL := [(.ref t0)]) (rest := []) (lenOf pd_rm0_3 rfl) rfl (by show 2 * 0 + _ ≤ _; exact Nat.le_of_eq rfl) (hb hby at_364) (fun _ _ => ⟨rfl, e20, (by decide : 9 + 0 ≤ _), (by decide : 72 + 0 ≤ _)⟩)
      dsimp only [Pt.U, Pt.locs, Pt.cells, Pt.slots] at X21 l21 y21 z21 st21 hQ21
      subst l21 y21 z21
      obtain ⟨rfl, N21q, eh⟩ := hQ21
      have N21 := Fr.app N19 N21q
      have eh21 := eh
      refine OEndsW.go (t' := T21.setTop (mkF m 367 #[.val (.int p1), .val (.int p2), .val (.int p3), .val (.int p4), .val (.long p5), .second, .val (.int (p1 &&& (3 : Int32))), .val (.int (((p1.toUInt32 >>> ((2 : Int32) &&& 31).toUInt32).toInt32) &&& (3 : Int32))), .val (.ref bs), .val (.int n3), .val (.ref ar), .val (.int dc), .val (.ref sx), .unset] [(.int (own_eqL xs [101, 98]))])) (fun _ k => st21.trans k) ?_
      by_cases g0 : (own_eqL xs [101, 98]) = (0 : Int32)
      · refine OEndsW.go (t' := T21.setTop (mkF m 376 #[.val (.int p1), .val (.int p2), .val (.int p3), .val (.int p4), .val (.long p5), .second, .val (.int (p1 &&& (3 : Int32))), .val (.int (((p1.toUInt32 >>> ((2 : Int32) &&& 31).toUInt32).toInt32) &&& (3 : Int32))), .val (.ref bs), .val (.int n3), .val (.ref ar), .val (.int dc), .val (.ref sx), .unset] [])) (fun _ k => XS.ifYes X21.here hx rfl (pc0 := 367) (pc' := 376) rfl (hb hby at_367) rfl ((if0 _ _).trans (teq g0).1) (by decide) (by decide) k) ?_
        refine OEndsW.go (t' := T21.setTop (mkF m 378 #[.val (.int p1), .val (.int p2), .val (.int p3), .val (.int p4), .val (.long p5), .second, .val (.int (p1 &&& (3 : Int32))), .val (.int (((p1.toUInt32 >>> ((2 : Int32) &&& 31).toUInt32).toInt32) &&& (3 : Int32))), .val (.ref bs), .val (.int n3), .val (.ref ar), .val (.int dc), .val (.ref sx), .unset] [(.ref sx)])) (fun _ k => ?_) ?_
        · show Steps p.tables e below (T21.setTop (mkF m 376 #[.val (.int p1), .val (.int p2), .val (.int p3), .val (.int p4), .val (.long p5), .second, .val (.int (p1 &&& (3 : Int32))), .val (.int (((p1.toUInt32 >>> ((2 : Int32) &&& 31).toUInt32).toInt32) &&& (3 : Int32))), .val (.ref bs), .val (.int n3), .val (.ref ar), .val (.int dc), .val (.ref sx), .unset] [])) _
          refine XS.aload X21.here hx rfl (hb hby at_376) rfl rfl ?_
          show Steps p.tables e below (T21.setTop (mkF m 378 #[.val (.int p1), .val (.int p2), .val (.int p3), .val (.int p4), .val (.long p5), .second, .val (.int (p1 &&& (3 : Int32))), .val (.int (((p1.toUInt32 >>> ((2 : Int32) &&& 31).toUInt32).toInt32) &&& (3 : Int32))), .val (.ref bs), .val (.int n3), .val (.ref ar), .val (.int dc), .val (.ref sx), .unset] [(.ref sx)])) _
          exact k
        have wS22 : ∀ a ∈ Bundle.stringAtoms, a.before a0 Z = true := by
          intro d hd
          simp only [Bundle.stringAtoms, List.mem_cons, List.not_mem_nil, or_false] at hd
          rcases hd with rfl | rfl | rfl | rfl | rfl | rfl | rfl
          · exact hw _ (List.mem_of_getElem? (i := 1) rfl)
          · exact hw _ (List.mem_of_getElem? (i := 2) rfl)
          · exact hw _ (List.mem_of_getElem? (i := 3) rfl)
          · exact hw _ (List.mem_of_getElem? (i := 4) rfl)
          · exact hw _ (List.mem_of_getElem? (i := 5) rfl)
          · exact hw _ (List.mem_of_getElem? (i := 6) rfl)
          · exact hw _ (List.mem_of_getElem? (i := 7) rfl)
        obtain ⟨t1, T22, h22, kz22, t1_b, t1_k, vm22, X22, e22, E22, hS22, hk22, hZ, hown, t1_S, hAll, LT22, st22⟩ := own_ldc (s := s) (vm0 := vm20) (D := own_lits) (xs := [116, 102, 99, 46, 116, 102, 99]) X21 hx hZ hown (hw _ (List.mem_of_getElem? (i := 111) rfl)) wS22 eh21 hS20 hk20 (by rw [hh, ← hn0]; exact N21) hkp hAll (List.mem_of_getElem? (i := 1) rfl) own_lits_1 (hH _ (List.mem_of_getElem? (i := 1) rfl)) hcw (by decide) (by decide) (g := (mkF m 378 #[.val (.int p1), .val (.int p2), .val (.int p3), .val (.int p4), .val (.long p5), .second, .val (.int (p1 &&& (3 : Int32))), .val (.int (((p1.toUInt32 >>> ((2 : Int32) &&& 31).toUInt32).toInt32) &&& (3 : Int32))), .val (.ref bs), .val (.int n3), .val (.ref ar), .val (.int dc), .val (.ref sx), .unset] [(.ref sx)])) rfl (hb hby at_378) (n := 28) (by decide) (by decide) (by decide) (by decide)
        have hzt := hzt.ext E22
        have sx_S := sx_S.ext E22
        have Z22 : n0 ≤ h22.size := Nat.le_trans Z20 E22.1
        refine OEndsW.go (t' := T22.setTop (mkF m 380 #[.val (.int p1), .val (.int p2), .val (.int p3), .val (.int p4), .val (.long p5), .second, .val (.int (p1 &&& (3 : Int32))), .val (.int (((p1.toUInt32 >>> ((2 : Int32) &&& 31).toUInt32).toInt32) &&& (3 : Int32))), .val (.ref bs), .val (.int n3), .val (.ref ar), .val (.int dc), .val (.ref sx), .unset] [(.ref t1), (.ref sx)])) (fun _ k => st22 _ k) ?_
        obtain ⟨cq23, kq23, q23a, q23b, q23c⟩ := isOf hZ e22 sx_S.1
        obtain ⟨_, _, ⟨T23, L23, k23, n23⟩, -, X23, ⟨Lc23, hQ23, l23, y23, z23⟩, st23⟩ := X22.virtualBack hx (y := (⟨"java/lang/String", "equals", "(Ljava/lang/Object;)Z"⟩ : MethodName)) (z := (⟨"java/lang/String", "equals", "(Ljava/lang/Object;)Z"⟩ : MethodName)) hown (mvT hZ (hw _ (List.mem_of_getElem? (i := 72) rfl))) (mvT hZ (hw _ (List.mem_of_getElem? (i := 73) rfl))) (notFace_of_selects (args := #[]) (mvT hZ (hw _ (List.mem_of_getElem? (i := 75) rfl)))) (mvT hZ (hw _ (List.mem_of_getElem? (i := 75) rfl))) (mvT hZ (hw _ (List.mem_of_getElem? (i := 74) rfl))) (by decide) (backOf (W := 0) (rm16 l Z a0 hw [] sx t1 w1 sx_b t1_b sx_k t1_k xs [116, 102, 99, 46, 116, 102, 99] h22 n0 Z22 (S_C.ext hzt.2) c0 sx_S t1_S) hZ (hw _ (List.mem_of_getElem? (i := 76) rfl)) (hw _ (List.mem_of_getElem? (i := 1) rfl)) (by decide) (by decide)) q23a q23c (g := (mkF m 380 #[.val (.int p1), .val (.int p2), .val (.int p3), .val (.int p4), .val (.long p5), .second, .val (.int (p1 &&& (3 : Int32))), .val (.int (((p1.toUInt32 >>> ((2 : Int32) &&& 31).toUInt32).toInt32) &&& (3 : Int32))), .val (.ref bs), .val (.int n3), .val (.ref ar), .val (.int dc), .val (.ref sx), .unset] [(.ref t1), (.ref sx)])) rfl (by rw [hml]; rfl) (Steps.refl _) (argsL := [(.ref t1)]) (rest := []) (lenOf pd_rm0_3 rfl) rfl (by show 2 * 0 + _ ≤ _; exact Nat.le_of_eq rfl) (hb hby at_380) (fun _ _ => ⟨rfl, e22, (by decide : 11 + 0 ≤ _), (by decide : 104 + 0 ≤ _)⟩)
        dsimp only [Pt.U, Pt.locs, Pt.cells, Pt.slots] at X23 l23 y23 z23 st23 hQ23
        subst l23 y23 z23
        obtain ⟨rfl, N23q, eh⟩ := hQ23
        have N23 := Fr.app N21 N23q
        have eh23 := eh
        refine OEndsW.go (t' := T23.setTop (mkF m 383 #[.val (.int p1), .val (.int p2), .val (.int p3), .val (.int p4), .val (.long p5), .second, .val (.int (p1 &&& (3 : Int32))), .val (.int (((p1.toUInt32 >>> ((2 : Int32) &&& 31).toUInt32).toInt32) &&& (3 : Int32))), .val (.ref bs), .val (.int n3), .val (.ref ar), .val (.int dc), .val (.ref sx), .unset] [(.int (own_eqL xs [116, 102, 99, 46, 116, 102, 99]))])) (fun _ k => st23.trans k) ?_
        by_cases g1 : (own_eqL xs [116, 102, 99, 46, 116, 102, 99]) = (0 : Int32)
        · refine OEndsW.go (t' := T23.setTop (mkF m 392 #[.val (.int p1), .val (.int p2), .val (.int p3), .val (.int p4), .val (.long p5), .second, .val (.int (p1 &&& (3 : Int32))), .val (.int (((p1.toUInt32 >>> ((2 : Int32) &&& 31).toUInt32).toInt32) &&& (3 : Int32))), .val (.ref bs), .val (.int n3), .val (.ref ar), .val (.int dc), .val (.ref sx), .unset] [])) (fun _ k => XS.ifYes X23.here hx rfl (pc0 := 383) (pc' := 392) rfl (hb hby at_383) rfl ((if0 _ _).trans (teq g1).1) (by decide) (by decide) k) ?_
          refine OEndsW.go (t' := T23.setTop (mkF m 394 #[.val (.int p1), .val (.int p2), .val (.int p3), .val (.int p4), .val (.long p5), .second, .val (.int (p1 &&& (3 : Int32))), .val (.int (((p1.toUInt32 >>> ((2 : Int32) &&& 31).toUInt32).toInt32) &&& (3 : Int32))), .val (.ref bs), .val (.int n3), .val (.ref ar), .val (.int dc), .val (.ref sx), .unset] [(.ref sx)])) (fun _ k => ?_) ?_
          · show Steps p.tables e below (T23.setTop (mkF m 392 #[.val (.int p1), .val (.int p2), .val (.int p3), .val (.int p4), .val (.long p5), .second, .val (.int (p1 &&& (3 : Int32))), .val (.int (((p1.toUInt32 >>> ((2 : Int32) &&& 31).toUInt32).toInt32) &&& (3 : Int32))), .val (.ref bs), .val (.int n3), .val (.ref ar), .val (.int dc), .val (.ref sx), .unset] [])) _
            refine XS.aload X23.here hx rfl (hb hby at_392) rfl rfl ?_
            show Steps p.tables e below (T23.setTop (mkF m 394 #[.val (.int p1), .val (.int p2), .val (.int p3), .val (.int p4), .val (.long p5), .second, .val (.int (p1 &&& (3 : Int32))), .val (.int (((p1.toUInt32 >>> ((2 : Int32) &&& 31).toUInt32).toInt32) &&& (3 : Int32))), .val (.ref bs), .val (.int n3), .val (.ref ar), .val (.int dc), .val (.ref sx), .unset] [(.ref sx)])) _
            exact k
          have wS24 : ∀ a ∈ Bundle.stringAtoms, a.before a0 Z = true := by
            intro d hd
            simp only [Bundle.stringAtoms, List.mem_cons, List.not_mem_nil, or_false] at hd
            rcases hd with rfl | rfl | rfl | rfl | rfl | rfl | rfl
            · exact hw _ (List.mem_of_getElem? (i := 1) rfl)
            · exact hw _ (List.mem_of_getElem? (i := 2) rfl)
            · exact hw _ (List.mem_of_getElem? (i := 3) rfl)
            · exact hw _ (List.mem_of_getElem? (i := 4) rfl)
            · exact hw _ (List.mem_of_getElem? (i := 5) rfl)
            · exact hw _ (List.mem_of_getElem? (i := 6) rfl)
            · exact hw _ (List.mem_of_getElem? (i := 7) rfl)
          obtain ⟨t2, T24, h24, kz24, t2_b, t2_k, vm24, X24, e24, E24, hS24, hk24, hZ, hown, t2_S, hAll, LT24, st24⟩ := own_ldc (s := s) (vm0 := vm22) (D := own_lits) (xs := [108, 120, 99, 46, 108, 116, 99]) X23 hx hZ hown (hw _ (List.mem_of_getElem? (i := 108) rfl)) wS24 eh23 hS22 hk22 (by rw [hh, ← hn0]; exact N23) hkp hAll (List.mem_of_getElem? (i := 2) rfl) own_lits_2 (hH _ (List.mem_of_getElem? (i := 2) rfl)) hcw (by decide) (by decide) (g := (mkF m 394 #[.val (.int p1), .val (.int p2), .val (.int p3), .val (.int p4), .val (.long p5), .second, .val (.int (p1 &&& (3 : Int32))), .val (.int (((p1.toUInt32 >>> ((2 : Int32) &&& 31).toUInt32).toInt32) &&& (3 : Int32))), .val (.ref bs), .val (.int n3), .val (.ref ar), .val (.int dc), .val (.ref sx), .unset] [(.ref sx)])) rfl (hb hby at_394) (n := 28) (by decide) (by decide) (by decide) (by decide)
          have hzt := hzt.ext E24
          have sx_S := sx_S.ext E24
          have Z24 : n0 ≤ h24.size := Nat.le_trans Z22 E24.1
          refine OEndsW.go (t' := T24.setTop (mkF m 396 #[.val (.int p1), .val (.int p2), .val (.int p3), .val (.int p4), .val (.long p5), .second, .val (.int (p1 &&& (3 : Int32))), .val (.int (((p1.toUInt32 >>> ((2 : Int32) &&& 31).toUInt32).toInt32) &&& (3 : Int32))), .val (.ref bs), .val (.int n3), .val (.ref ar), .val (.int dc), .val (.ref sx), .unset] [(.ref t2), (.ref sx)])) (fun _ k => st24 _ k) ?_
          obtain ⟨cq25, kq25, q25a, q25b, q25c⟩ := isOf hZ e24 sx_S.1
          obtain ⟨_, _, ⟨T25, L25, k25, n25⟩, -, X25, ⟨Lc25, hQ25, l25, y25, z25⟩, st25⟩ := X24.virtualBack hx (y := (⟨"java/lang/String", "equals", "(Ljava/lang/Object;)Z"⟩ : MethodName)) (z := (⟨"java/lang/String", "equals", "(Ljava/lang/Object;)Z"⟩ : MethodName)) hown (mvT hZ (hw _ (List.mem_of_getElem? (i := 72) rfl))) (mvT hZ (hw _ (List.mem_of_getElem? (i := 73) rfl))) (notFace_of_selects (args := #[]) (mvT hZ (hw _ (List.mem_of_getElem? (i := 75) rfl)))) (mvT hZ (hw _ (List.mem_of_getElem? (i := 75) rfl))) (mvT hZ (hw _ (List.mem_of_getElem? (i := 74) rfl))) (by decide) (backOf (W := 0) (rm16 l Z a0 hw [] sx t2 w1 sx_b t2_b sx_k t2_k xs [108, 120, 99, 46, 108, 116, 99] h24 n0 Z24 (S_C.ext hzt.2) c0 sx_S t2_S) hZ (hw _ (List.mem_of_getElem? (i := 76) rfl)) (hw _ (List.mem_of_getElem? (i := 1) rfl)) (by decide) (by decide)) q25a q25c (g := (mkF m 396 #[.val (.int p1), .val (.int p2), .val (.int p3), .val (.int p4), .val (.long p5), .second, .val (.int (p1 &&& (3 : Int32))), .val (.int (((p1.toUInt32 >>> ((2 : Int32) &&& 31).toUInt32).toInt32) &&& (3 : Int32))), .val (.ref bs), .val (.int n3), .val (.ref ar), .val (.int dc), .val (.ref sx), .unset] [(.ref t2), (.ref sx)])) rfl (by rw [hml]; rfl) (Steps.refl _) (argsL := [(.ref t2)]) (rest := []) (lenOf pd_rm0_3 rfl) rfl (by show 2 * 0 + _ ≤ _; exact Nat.le_of_eq rfl) (hb hby at_396) (fun _ _ => ⟨rfl, e24, (by decide : 13 + 0 ≤ _), (by decide : 136 + 0 ≤ _)⟩)
          dsimp only [Pt.U, Pt.locs, Pt.cells, Pt.slots] at X25 l25 y25 z25 st25 hQ25
          subst l25 y25 z25
          obtain ⟨rfl, N25q, eh⟩ := hQ25
          have N25 := Fr.app N23 N25q
          have eh25 := eh
          refine OEndsW.go (t' := T25.setTop (mkF m 399 #[.val (.int p1), .val (.int p2), .val (.int p3), .val (.int p4), .val (.long p5), .second, .val (.int (p1 &&& (3 : Int32))), .val (.int (((p1.toUInt32 >>> ((2 : Int32) &&& 31).toUInt32).toInt32) &&& (3 : Int32))), .val (.ref bs), .val (.int n3), .val (.ref ar), .val (.int dc), .val (.ref sx), .unset] [(.int (own_eqL xs [108, 120, 99, 46, 108, 116, 99]))])) (fun _ k => st25.trans k) ?_
          by_cases g2 : (own_eqL xs [108, 120, 99, 46, 108, 116, 99]) = (0 : Int32)
          · refine OEndsW.go (t' := T25.setTop (mkF m 408 #[.val (.int p1), .val (.int p2), .val (.int p3), .val (.int p4), .val (.long p5), .second, .val (.int (p1 &&& (3 : Int32))), .val (.int (((p1.toUInt32 >>> ((2 : Int32) &&& 31).toUInt32).toInt32) &&& (3 : Int32))), .val (.ref bs), .val (.int n3), .val (.ref ar), .val (.int dc), .val (.ref sx), .unset] [])) (fun _ k => XS.ifYes X25.here hx rfl (pc0 := 399) (pc' := 408) rfl (hb hby at_399) rfl ((if0 _ _).trans (teq g2).1) (by decide) (by decide) k) ?_
            refine OEndsW.go (t' := T25.setTop (mkF m 410 #[.val (.int p1), .val (.int p2), .val (.int p3), .val (.int p4), .val (.long p5), .second, .val (.int (p1 &&& (3 : Int32))), .val (.int (((p1.toUInt32 >>> ((2 : Int32) &&& 31).toUInt32).toInt32) &&& (3 : Int32))), .val (.ref bs), .val (.int n3), .val (.ref ar), .val (.int dc), .val (.ref sx), .unset] [(.ref sx)])) (fun _ k => ?_) ?_
            · show Steps p.tables e below (T25.setTop (mkF m 408 #[.val (.int p1), .val (.int p2), .val (.int p3), .val (.int p4), .val (.long p5), .second, .val (.int (p1 &&& (3 : Int32))), .val (.int (((p1.toUInt32 >>> ((2 : Int32) &&& 31).toUInt32).toInt32) &&& (3 : Int32))), .val (.ref bs), .val (.int n3), .val (.ref ar), .val (.int dc), .val (.ref sx), .unset] [])) _
              refine XS.aload X25.here hx rfl (hb hby at_408) rfl rfl ?_
              show Steps p.tables e below (T25.setTop (mkF m 410 #[.val (.int p1), .val (.int p2), .val (.int p3), .val (.int p4), .val (.long p5), .second, .val (.int (p1 &&& (3 : Int32))), .val (.int (((p1.toUInt32 >>> ((2 : Int32) &&& 31).toUInt32).toInt32) &&& (3 : Int32))), .val (.ref bs), .val (.int n3), .val (.ref ar), .val (.int dc), .val (.ref sx), .unset] [(.ref sx)])) _
              exact k
            have wS26 : ∀ a ∈ Bundle.stringAtoms, a.before a0 Z = true := by
              intro d hd
              simp only [Bundle.stringAtoms, List.mem_cons, List.not_mem_nil, or_false] at hd
              rcases hd with rfl | rfl | rfl | rfl | rfl | rfl | rfl
              · exact hw _ (List.mem_of_getElem? (i := 1) rfl)
              · exact hw _ (List.mem_of_getElem? (i := 2) rfl)
              · exact hw _ (List.mem_of_getElem? (i := 3) rfl)
              · exact hw _ (List.mem_of_getElem? (i := 4) rfl)
              · exact hw _ (List.mem_of_getElem? (i := 5) rfl)
              · exact hw _ (List.mem_of_getElem? (i := 6) rfl)
              · exact hw _ (List.mem_of_getElem? (i := 7) rfl)
            obtain ⟨t3, T26, h26, kz26, t3_b, t3_k, vm26, X26, e26, E26, hS26, hk26, hZ, hown, t3_S, hAll, LT26, st26⟩ := own_ldc (s := s) (vm0 := vm24) (D := own_lits) (xs := [76, 110, 117, 46, 108, 116, 117]) X25 hx hZ hown (hw _ (List.mem_of_getElem? (i := 112) rfl)) wS26 eh25 hS24 hk24 (by rw [hh, ← hn0]; exact N25) hkp hAll (List.mem_of_getElem? (i := 3) rfl) own_lits_3 (hH _ (List.mem_of_getElem? (i := 3) rfl)) hcw (by decide) (by decide) (g := (mkF m 410 #[.val (.int p1), .val (.int p2), .val (.int p3), .val (.int p4), .val (.long p5), .second, .val (.int (p1 &&& (3 : Int32))), .val (.int (((p1.toUInt32 >>> ((2 : Int32) &&& 31).toUInt32).toInt32) &&& (3 : Int32))), .val (.ref bs), .val (.int n3), .val (.ref ar), .val (.int dc), .val (.ref sx), .unset] [(.ref sx)])) rfl (hb hby at_410) (n := 28) (by decide) (by decide) (by decide) (by decide)
            have hzt := hzt.ext E26
            have sx_S := sx_S.ext E26
            have Z26 : n0 ≤ h26.size := Nat.le_trans Z24 E26.1
            refine OEndsW.go (t' := T26.setTop (mkF m 412 #[.val (.int p1), .val (.int p2), .val (.int p3), .val (.int p4), .val (.long p5), .second, .val (.int (p1 &&& (3 : Int32))), .val (.int (((p1.toUInt32 >>> ((2 : Int32) &&& 31).toUInt32).toInt32) &&& (3 : Int32))), .val (.ref bs), .val (.int n3), .val (.ref ar), .val (.int dc), .val (.ref sx), .unset] [(.ref t3), (.ref sx)])) (fun _ k => st26 _ k) ?_
            obtain ⟨cq27, kq27, q27a, q27b, q27c⟩ := isOf hZ e26 sx_S.1
            obtain ⟨_, _, ⟨T27, L27, k27, n27⟩, -, X27, ⟨Lc27, hQ27, l27, y27, z27⟩, st27⟩ := X26.virtualBack hx (y := (⟨"java/lang/String", "equals", "(Ljava/lang/Object;)Z"⟩ : MethodName)) (z := (⟨"java/lang/String", "equals", "(Ljava/lang/Object;)Z"⟩ : MethodName)) hown (mvT hZ (hw _ (List.mem_of_getElem? (i := 72) rfl))) (mvT hZ (hw _ (List.mem_of_getElem? (i := 73) rfl))) (notFace_of_selects (args := #[]) (mvT hZ (hw _ (List.mem_of_getElem? (i := 75) rfl)))) (mvT hZ (hw _ (List.mem_of_getElem? (i := 75) rfl))) (mvT hZ (hw _ (List.mem_of_getElem? (i := 74) rfl))) (by decide) (backOf (W := 0) (rm16 l Z a0 hw [] sx t3 w1 sx_b t3_b sx_k t3_k xs [76, 110, 117, 46, 108, 116, 117] h26 n0 Z26 (S_C.ext hzt.2) c0 sx_S t3_S) hZ (hw _ (List.mem_of_getElem? (i := 76) rfl)) (hw _ (List.mem_of_getElem? (i := 1) rfl)) (by decide) (by decide)) q27a q27c (g := (mkF m 412 #[.val (.int p1), .val (.int p2), .val (.int p3), .val (.int p4), .val (.long p5), .second, .val (.int (p1 &&& (3 : Int32))), .val (.int (((p1.toUInt32 >>> ((2 : Int32) &&& 31).toUInt32).toInt32) &&& (3 : Int32))), .val (.ref bs), .val (.int n3), .val (.ref ar), .val (.int dc), .val (.ref sx), .unset] [(.ref t3), (.ref sx)])) rfl (by rw [hml]; rfl) (Steps.refl _) (argsL := [(.ref t3)]) (rest := []) (lenOf pd_rm0_3 rfl) rfl (by show 2 * 0 + _ ≤ _; exact Nat.le_of_eq rfl) (hb hby at_412) (fun _ _ => ⟨rfl, e26, (by decide : 15 + 0 ≤ _), (by decide : 168 + 0 ≤ _)⟩)
            dsimp only [Pt.U, Pt.locs, Pt.cells, Pt.slots] at X27 l27 y27 z27 st27 hQ27
            subst l27 y27 z27
            obtain ⟨rfl, N27q, eh⟩ := hQ27
            have N27 := Fr.app N25 N27q
            have eh27 := eh
            refine OEndsW.go (t' := T27.setTop (mkF m 415 #[.val (.int p1), .val (.int p2), .val (.int p3), .val (.int p4), .val (.long p5), .second, .val (.int (p1 &&& (3 : Int32))), .val (.int (((p1.toUInt32 >>> ((2 : Int32) &&& 31).toUInt32).toInt32) &&& (3 : Int32))), .val (.ref bs), .val (.int n3), .val (.ref ar), .val (.int dc), .val (.ref sx), .unset] [(.int (own_eqL xs [76, 110, 117, 46, 108, 116, 117]))])) (fun _ k => st27.trans k) ?_
            by_cases g3 : (own_eqL xs [76, 110, 117, 46, 108, 116, 117]) = (0 : Int32)
            · refine OEndsW.go (t' := T27.setTop (mkF m 424 #[.val (.int p1), .val (.int p2), .val (.int p3), .val (.int p4), .val (.long p5), .second, .val (.int (p1 &&& (3 : Int32))), .val (.int (((p1.toUInt32 >>> ((2 : Int32) &&& 31).toUInt32).toInt32) &&& (3 : Int32))), .val (.ref bs), .val (.int n3), .val (.ref ar), .val (.int dc), .val (.ref sx), .unset] [])) (fun _ k => XS.ifYes X27.here hx rfl (pc0 := 415) (pc' := 424) rfl (hb hby at_415) rfl ((if0 _ _).trans (teq g3).1) (by decide) (by decide) k) ?_
              refine OEndsW.go (t' := T27.setTop (mkF m 429 #[.val (.int p1), .val (.int p2), .val (.int p3), .val (.int p4), .val (.long p5), .second, .val (.int (p1 &&& (3 : Int32))), .val (.int (((p1.toUInt32 >>> ((2 : Int32) &&& 31).toUInt32).toInt32) &&& (3 : Int32))), .val (.ref bs), .val (.int n3), .val (.ref ar), .val (.int dc), .val (.ref sx), .val .null] [(.ref sx)])) (fun _ k => ?_) ?_
              · show Steps p.tables e below (T27.setTop (mkF m 424 #[.val (.int p1), .val (.int p2), .val (.int p3), .val (.int p4), .val (.long p5), .second, .val (.int (p1 &&& (3 : Int32))), .val (.int (((p1.toUInt32 >>> ((2 : Int32) &&& 31).toUInt32).toInt32) &&& (3 : Int32))), .val (.ref bs), .val (.int n3), .val (.ref ar), .val (.int dc), .val (.ref sx), .unset] [])) _
                refine XS.aconstNull X27.here hx rfl (hb hby at_424) ?_
                show Steps p.tables e below (T27.setTop (mkF m 425 #[.val (.int p1), .val (.int p2), .val (.int p3), .val (.int p4), .val (.long p5), .second, .val (.int (p1 &&& (3 : Int32))), .val (.int (((p1.toUInt32 >>> ((2 : Int32) &&& 31).toUInt32).toInt32) &&& (3 : Int32))), .val (.ref bs), .val (.int n3), .val (.ref ar), .val (.int dc), .val (.ref sx), .unset] [.null])) _
                refine XS.astore X27.here hx rfl (hb hby at_425) rfl rfl (l' := #[.val (.int p1), .val (.int p2), .val (.int p3), .val (.int p4), .val (.long p5), .second, .val (.int (p1 &&& (3 : Int32))), .val (.int (((p1.toUInt32 >>> ((2 : Int32) &&& 31).toUInt32).toInt32) &&& (3 : Int32))), .val (.ref bs), .val (.int n3), .val (.ref ar), .val (.int dc), .val (.ref sx), .val .null]) rfl ?_
                show Steps p.tables e below (T27.setTop (mkF m 427 #[.val (.int p1), .val (.int p2), .val (.int p3), .val (.int p4), .val (.long p5), .second, .val (.int (p1 &&& (3 : Int32))), .val (.int (((p1.toUInt32 >>> ((2 : Int32) &&& 31).toUInt32).toInt32) &&& (3 : Int32))), .val (.ref bs), .val (.int n3), .val (.ref ar), .val (.int dc), .val (.ref sx), .val .null] [])) _
                refine XS.aload X27.here hx rfl (hb hby at_427) rfl rfl ?_
                show Steps p.tables e below (T27.setTop (mkF m 429 #[.val (.int p1), .val (.int p2), .val (.int p3), .val (.int p4), .val (.long p5), .second, .val (.int (p1 &&& (3 : Int32))), .val (.int (((p1.toUInt32 >>> ((2 : Int32) &&& 31).toUInt32).toInt32) &&& (3 : Int32))), .val (.ref bs), .val (.int n3), .val (.ref ar), .val (.int dc), .val (.ref sx), .val .null] [(.ref sx)])) _
                exact k
              obtain ⟨_, _, ⟨T28, L28, k28, n28⟩, -, X28, ⟨Lc28, hQ28, l28, y28, z28⟩, st28⟩ := Jvm.LawKit.callS X27 hx (y := (⟨"com/example/pnorm/pnorm/model/Weighting", "named", "(Ljava/lang/String;)Lcom/example/pnorm/pnorm/model/Weighting;"⟩ : MethodName)) hown (mvT hZ (hw _ (List.mem_of_getElem? (i := 84) rfl))) (mvT hZ (hw _ (List.mem_of_getElem? (i := 85) rfl))) (mvT hZ (hw _ (List.mem_of_getElem? (i := 82) rfl))) (mvT hZ (hw _ (List.mem_of_getElem? (i := 86) rfl))) (by decide) (backOf (W := 0) (rm18 l Z a0 hw [] sx x0 x1 x2 x3 va s_EB b_EB k_EB s_TFC_TFC b_TFC_TFC k_TFC_TFC s_LXC_LTC b_LXC_LTC k_LXC_LTC s_LNU_LTU b_LNU_LTU k_LNU_LTU w1 sx_b sx_k xs h26 n0 Z26 S_V VV EV hzt Ft_EB SS_EB Ft_TFC_TFC SS_TFC_TFC Ft_LXC_LTC SS_LXC_LTC Ft_LNU_LTU SS_LNU_LTU S_C c0 sx_S) hZ (hw _ (List.mem_of_getElem? (i := 86) rfl)) (hw _ (List.mem_of_getElem? (i := 82) rfl)) (by decide) (by decide)) (g := (mkF m 429 #[.val (.int p1), .val (.int p2), .val (.int p3), .val (.int p4), .val (.long p5), .second, .val (.int (p1 &&& (3 : Int32))), .val (.int (((p1.toUInt32 >>> ((2 : Int32) &&& 31).toUInt32).toInt32) &&& (3 : Int32))), .val (.ref bs), .val (.int n3), .val (.ref ar), .val (.int dc), .val (.ref sx), .val .null] [(.ref sx)])) rfl (by rw [hml]; rfl) (argsL := [(.ref sx)]) (rest := []) (lenOf pd_rm0_4 rfl) rfl (by show 2 * 0 + _ ≤ _; exact Nat.le_of_eq rfl) (hb hby at_429) (fun _ _ => ⟨rfl, eh27, (by decide : 15 + 1 ≤ _), (by decide : 168 + 4 ≤ _)⟩)
              dsimp only [Pt.U, Pt.locs, Pt.cells, Pt.slots] at X28 l28 y28 z28 st28 hQ28
              subst l28 y28 z28
              obtain ⟨rfl, N28q, Kc28⟩ := hQ28
              have N28 := Fr.app N27 N28q
              have hzt := hzt.keep Kc28 all0
              have sx_S := sx_S.keep Kc28 nin0 nin0
              have Z28 : n0 ≤ T28.heap.size := Nat.le_trans Z26 Kc28.1
              have hk28 := Nat.le_trans hk26 Kc28.1
              refine OEndsW.go (t' := T28.setTop (mkF m 432 #[.val (.int p1), .val (.int p2), .val (.int p3), .val (.int p4), .val (.long p5), .second, .val (.int (p1 &&& (3 : Int32))), .val (.int (((p1.toUInt32 >>> ((2 : Int32) &&& 31).toUInt32).toInt32) &&& (3 : Int32))), .val (.ref bs), .val (.int n3), .val (.ref ar), .val (.int dc), .val (.ref sx), .val .null] [(own_pick x0 x1 x2 x3 xs)])) (fun _ k => st28 _ k) ?_
              rw [show own_pick x0 x1 x2 x3 xs = .null from by rw [own_pick, if_neg (fun q => own_eqL0 g0 q.symm), if_neg (fun q => own_eqL0 g1 q.symm), if_neg (fun q => own_eqL0 g2 q.symm), if_neg (fun q => own_eqL0 g3 q.symm)]]
              refine OEndsW.go (t' := T28.setTop (mkF m 434 #[.val (.int p1), .val (.int p2), .val (.int p3), .val (.int p4), .val (.long p5), .second, .val (.int (p1 &&& (3 : Int32))), .val (.int (((p1.toUInt32 >>> ((2 : Int32) &&& 31).toUInt32).toInt32) &&& (3 : Int32))), .val (.ref bs), .val (.int n3), .val (.ref ar), .val (.int dc), .val (.ref sx), .val .null] [.null, .null])) (fun _ k => ?_) ?_
              · show Steps p.tables e below (T28.setTop (mkF m 432 #[.val (.int p1), .val (.int p2), .val (.int p3), .val (.int p4), .val (.long p5), .second, .val (.int (p1 &&& (3 : Int32))), .val (.int (((p1.toUInt32 >>> ((2 : Int32) &&& 31).toUInt32).toInt32) &&& (3 : Int32))), .val (.ref bs), .val (.int n3), .val (.ref ar), .val (.int dc), .val (.ref sx), .val .null] [.null])) _
                refine XS.aload X28.here hx rfl (hb hby at_432) rfl rfl ?_
                show Steps p.tables e below (T28.setTop (mkF m 434 #[.val (.int p1), .val (.int p2), .val (.int p3), .val (.int p4), .val (.long p5), .second, .val (.int (p1 &&& (3 : Int32))), .val (.int (((p1.toUInt32 >>> ((2 : Int32) &&& 31).toUInt32).toInt32) &&& (3 : Int32))), .val (.ref bs), .val (.int n3), .val (.ref ar), .val (.int dc), .val (.ref sx), .val .null] [.null, .null])) _
                exact k
              refine OEndsW.go (t' := T28.setTop (mkF m 437 #[.val (.int p1), .val (.int p2), .val (.int p3), .val (.int p4), .val (.long p5), .second, .val (.int (p1 &&& (3 : Int32))), .val (.int (((p1.toUInt32 >>> ((2 : Int32) &&& 31).toUInt32).toInt32) &&& (3 : Int32))), .val (.ref bs), .val (.int n3), .val (.ref ar), .val (.int dc), .val (.ref sx), .val .null] [])) (fun _ k => Jvm.RoadKit.acmp (g := (mkF m 434 #[.val (.int p1), .val (.int p2), .val (.int p3), .val (.int p4), .val (.long p5), .second, .val (.int (p1 &&& (3 : Int32))), .val (.int (((p1.toUInt32 >>> ((2 : Int32) &&& 31).toUInt32).toInt32) &&& (3 : Int32))), .val (.ref bs), .val (.int n3), .val (.ref ar), .val (.int dc), .val (.ref sx), .val .null] [.null, .null])) X28 hx rfl rfl rfl (pc0 := 434) (pc' := 437) (same := true) rfl (hb hby at_434) rfl (decide_eq_true rfl) (by decide) (by decide) k) ?_
              refine OEndsW.go (t' := T28.setTop (mkF m 442 #[.val (.int p1), .val (.int p2), .val (.int p3), .val (.int p4), .val (.long p5), .second, .val (.int (p1 &&& (3 : Int32))), .val (.int (((p1.toUInt32 >>> ((2 : Int32) &&& 31).toUInt32).toInt32) &&& (3 : Int32))), .val (.ref bs), .val (.int n3), .val (.ref ar), .val (.int dc), .val (.ref sx), .val .null] [(.int (1 : Int32))])) (fun _ k => ?_) ?_
              · show Steps p.tables e below (T28.setTop (mkF m 437 #[.val (.int p1), .val (.int p2), .val (.int p3), .val (.int p4), .val (.long p5), .second, .val (.int (p1 &&& (3 : Int32))), .val (.int (((p1.toUInt32 >>> ((2 : Int32) &&& 31).toUInt32).toInt32) &&& (3 : Int32))), .val (.ref bs), .val (.int n3), .val (.ref ar), .val (.int dc), .val (.ref sx), .val .null] [])) _
                refine XS.iconst X28.here hx rfl (hb hby at_437) ?_
                show Steps p.tables e below (T28.setTop (mkF m 438 #[.val (.int p1), .val (.int p2), .val (.int p3), .val (.int p4), .val (.long p5), .second, .val (.int (p1 &&& (3 : Int32))), .val (.int (((p1.toUInt32 >>> ((2 : Int32) &&& 31).toUInt32).toInt32) &&& (3 : Int32))), .val (.ref bs), .val (.int n3), .val (.ref ar), .val (.int dc), .val (.ref sx), .val .null] [(.int (1 : Int32))])) _
                refine XS.goto X28.here hx rfl (pc0 := 438) (pc' := 442) rfl (hb hby at_438) (by decide) (by decide) ?_
                show Steps p.tables e below (T28.setTop (mkF m 442 #[.val (.int p1), .val (.int p2), .val (.int p3), .val (.int p4), .val (.long p5), .second, .val (.int (p1 &&& (3 : Int32))), .val (.int (((p1.toUInt32 >>> ((2 : Int32) &&& 31).toUInt32).toInt32) &&& (3 : Int32))), .val (.ref bs), .val (.int n3), .val (.ref ar), .val (.int dc), .val (.ref sx), .val .null] [(.int (1 : Int32))])) _
                exact k
              refine OEndsW.back X28 hS26 hk28 hlk (v := (some (.int (1 : Int32)))) (fun h => by rw [hrt] at h; cases h) (fun fs hr => ?_) ?_ (by decide) (by decide)
              · exact retN X28 hx (t := .boolean) hrt (by simp) (hb hby at_442) hr
              · show Q0 Z p1 p2 p3 p4 p5 x0 x1 x2 x3 va s_EB b_EB k_EB s_TFC_TFC b_TFC_TFC k_TFC_TFC s_LXC_LTC b_LXC_LTC k_LXC_LTC s_LNU_LTU b_LNU_LTU k_LNU_LTU w1 fv h0 n0 _ T28.heap T28.vm _
                exact ⟨rfl, N28⟩
            · refine OEndsW.go (t' := T27.setTop (mkF m 418 #[.val (.int p1), .val (.int p2), .val (.int p3), .val (.int p4), .val (.long p5), .second, .val (.int (p1 &&& (3 : Int32))), .val (.int (((p1.toUInt32 >>> ((2 : Int32) &&& 31).toUInt32).toInt32) &&& (3 : Int32))), .val (.ref bs), .val (.int n3), .val (.ref ar), .val (.int dc), .val (.ref sx), .unset] [])) (fun _ k => XS.ifNo X27.here hx rfl (hb hby at_415) rfl ((if0 _ _).trans (feq g3).1) k) ?_
              obtain ⟨T29, X29, e29, st29⟩ := getS2 X27 hx hZ hown (host := "") (Or.inl (hw _ (List.mem_of_getElem? (i := 115) rfl))) Via.refl eh27 (S_LNU_LTU.ext hzt.2) (g := (mkF m 418 #[.val (.int p1), .val (.int p2), .val (.int p3), .val (.int p4), .val (.long p5), .second, .val (.int (p1 &&& (3 : Int32))), .val (.int (((p1.toUInt32 >>> ((2 : Int32) &&& 31).toUInt32).toInt32) &&& (3 : Int32))), .val (.ref bs), .val (.int n3), .val (.ref ar), .val (.int dc), .val (.ref sx), .unset] [])) rfl (hb hby at_418)
              refine OEndsW.go (t' := T29.setTop (mkF m 421 #[.val (.int p1), .val (.int p2), .val (.int p3), .val (.int p4), .val (.long p5), .second, .val (.int (p1 &&& (3 : Int32))), .val (.int (((p1.toUInt32 >>> ((2 : Int32) &&& 31).toUInt32).toInt32) &&& (3 : Int32))), .val (.ref bs), .val (.int n3), .val (.ref ar), .val (.int dc), .val (.ref sx), .unset] [(.ref x3)])) (fun _ k => st29 _ k) ?_
              refine OEndsW.go (t' := T29.setTop (mkF m 429 #[.val (.int p1), .val (.int p2), .val (.int p3), .val (.int p4), .val (.long p5), .second, .val (.int (p1 &&& (3 : Int32))), .val (.int (((p1.toUInt32 >>> ((2 : Int32) &&& 31).toUInt32).toInt32) &&& (3 : Int32))), .val (.ref bs), .val (.int n3), .val (.ref ar), .val (.int dc), .val (.ref sx), .val (.ref x3)] [(.ref sx)])) (fun _ k => ?_) ?_
              · show Steps p.tables e below (T29.setTop (mkF m 421 #[.val (.int p1), .val (.int p2), .val (.int p3), .val (.int p4), .val (.long p5), .second, .val (.int (p1 &&& (3 : Int32))), .val (.int (((p1.toUInt32 >>> ((2 : Int32) &&& 31).toUInt32).toInt32) &&& (3 : Int32))), .val (.ref bs), .val (.int n3), .val (.ref ar), .val (.int dc), .val (.ref sx), .unset] [(.ref x3)])) _
                refine XS.goto X29.here hx rfl (pc0 := 421) (pc' := 425) rfl (hb hby at_421) (by decide) (by decide) ?_
                show Steps p.tables e below (T29.setTop (mkF m 425 #[.val (.int p1), .val (.int p2), .val (.int p3), .val (.int p4), .val (.long p5), .second, .val (.int (p1 &&& (3 : Int32))), .val (.int (((p1.toUInt32 >>> ((2 : Int32) &&& 31).toUInt32).toInt32) &&& (3 : Int32))), .val (.ref bs), .val (.int n3), .val (.ref ar), .val (.int dc), .val (.ref sx), .unset] [(.ref x3)])) _
                refine XS.astore X29.here hx rfl (hb hby at_425) rfl rfl (l' := #[.val (.int p1), .val (.int p2), .val (.int p3), .val (.int p4), .val (.long p5), .second, .val (.int (p1 &&& (3 : Int32))), .val (.int (((p1.toUInt32 >>> ((2 : Int32) &&& 31).toUInt32).toInt32) &&& (3 : Int32))), .val (.ref bs), .val (.int n3), .val (.ref ar), .val (.int dc), .val (.ref sx), .val (.ref x3)]) rfl ?_
                show Steps p.tables e below (T29.setTop (mkF m 427 #[.val (.int p1), .val (.int p2), .val (.int p3), .val (.int p4), .val (.long p5), .second, .val (.int (p1 &&& (3 : Int32))), .val (.int (((p1.toUInt32 >>> ((2 : Int32) &&& 31).toUInt32).toInt32) &&& (3 : Int32))), .val (.ref bs), .val (.int n3), .val (.ref ar), .val (.int dc), .val (.ref sx), .val (.ref x3)] [])) _
                refine XS.aload X29.here hx rfl (hb hby at_427) rfl rfl ?_
                show Steps p.tables e below (T29.setTop (mkF m 429 #[.val (.int p1), .val (.int p2), .val (.int p3), .val (.int p4), .val (.long p5), .second, .val (.int (p1 &&& (3 : Int32))), .val (.int (((p1.toUInt32 >>> ((2 : Int32) &&& 31).toUInt32).toInt32) &&& (3 : Int32))), .val (.ref bs), .val (.int n3), .val (.ref ar), .val (.int dc), .val (.ref sx), .val (.ref x3)] [(.ref sx)])) _
                exact k
              obtain ⟨_, _, ⟨T30, L30, k30, n30⟩, -, X30, ⟨Lc30, hQ30, l30, y30, z30⟩, st30⟩ := Jvm.LawKit.callS X29 hx (y := (⟨"com/example/pnorm/pnorm/model/Weighting", "named", "(Ljava/lang/String;)Lcom/example/pnorm/pnorm/model/Weighting;"⟩ : MethodName)) hown (mvT hZ (hw _ (List.mem_of_getElem? (i := 84) rfl))) (mvT hZ (hw _ (List.mem_of_getElem? (i := 85) rfl))) (mvT hZ (hw _ (List.mem_of_getElem? (i := 82) rfl))) (mvT hZ (hw _ (List.mem_of_getElem? (i := 86) rfl))) (by decide) (backOf (W := 0) (rm18 l Z a0 hw [] sx x0 x1 x2 x3 va s_EB b_EB k_EB s_TFC_TFC b_TFC_TFC k_TFC_TFC s_LXC_LTC b_LXC_LTC k_LXC_LTC s_LNU_LTU b_LNU_LTU k_LNU_LTU w1 sx_b sx_k xs h26 n0 Z26 S_V VV EV hzt Ft_EB SS_EB Ft_TFC_TFC SS_TFC_TFC Ft_LXC_LTC SS_LXC_LTC Ft_LNU_LTU SS_LNU_LTU S_C c0 sx_S) hZ (hw _ (List.mem_of_getElem? (i := 86) rfl)) (hw _ (List.mem_of_getElem? (i := 82) rfl)) (by decide) (by decide)) (g := (mkF m 429 #[.val (.int p1), .val (.int p2), .val (.int p3), .val (.int p4), .val (.long p5), .second, .val (.int (p1 &&& (3 : Int32))), .val (.int (((p1.toUInt32 >>> ((2 : Int32) &&& 31).toUInt32).toInt32) &&& (3 : Int32))), .val (.ref bs), .val (.int n3), .val (.ref ar), .val (.int dc), .val (.ref sx), .val (.ref x3)] [(.ref sx)])) rfl (by rw [hml]; rfl) (argsL := [(.ref sx)]) (rest := []) (lenOf pd_rm0_4 rfl) rfl (by show 2 * 0 + _ ≤ _; exact Nat.le_of_eq rfl) (hb hby at_429) (fun _ _ => ⟨rfl, e29, (by decide : 15 + 1 ≤ _), (by decide : 168 + 4 ≤ _)⟩)
              dsimp only [Pt.U, Pt.locs, Pt.cells, Pt.slots] at X30 l30 y30 z30 st30 hQ30
              subst l30 y30 z30
              obtain ⟨rfl, N30q, Kc30⟩ := hQ30
              have N30 := Fr.app N27 N30q
              have hzt := hzt.keep Kc30 all0
              have sx_S := sx_S.keep Kc30 nin0 nin0
              have Z30 : n0 ≤ T30.heap.size := Nat.le_trans Z26 Kc30.1
              have hk30 := Nat.le_trans hk26 Kc30.1
              refine OEndsW.go (t' := T30.setTop (mkF m 432 #[.val (.int p1), .val (.int p2), .val (.int p3), .val (.int p4), .val (.long p5), .second, .val (.int (p1 &&& (3 : Int32))), .val (.int (((p1.toUInt32 >>> ((2 : Int32) &&& 31).toUInt32).toInt32) &&& (3 : Int32))), .val (.ref bs), .val (.int n3), .val (.ref ar), .val (.int dc), .val (.ref sx), .val (.ref x3)] [(own_pick x0 x1 x2 x3 xs)])) (fun _ k => st30 _ k) ?_
              rw [show own_pick x0 x1 x2 x3 xs = .ref x3 from by rw [own_pick, if_neg (fun q => own_eqL0 g0 q.symm), if_neg (fun q => own_eqL0 g1 q.symm), if_neg (fun q => own_eqL0 g2 q.symm), if_pos (own_eqLt g3).symm]]
              refine OEndsW.go (t' := T30.setTop (mkF m 434 #[.val (.int p1), .val (.int p2), .val (.int p3), .val (.int p4), .val (.long p5), .second, .val (.int (p1 &&& (3 : Int32))), .val (.int (((p1.toUInt32 >>> ((2 : Int32) &&& 31).toUInt32).toInt32) &&& (3 : Int32))), .val (.ref bs), .val (.int n3), .val (.ref ar), .val (.int dc), .val (.ref sx), .val (.ref x3)] [(.ref x3), (.ref x3)])) (fun _ k => ?_) ?_
              · show Steps p.tables e below (T30.setTop (mkF m 432 #[.val (.int p1), .val (.int p2), .val (.int p3), .val (.int p4), .val (.long p5), .second, .val (.int (p1 &&& (3 : Int32))), .val (.int (((p1.toUInt32 >>> ((2 : Int32) &&& 31).toUInt32).toInt32) &&& (3 : Int32))), .val (.ref bs), .val (.int n3), .val (.ref ar), .val (.int dc), .val (.ref sx), .val (.ref x3)] [(.ref x3)])) _
                refine XS.aload X30.here hx rfl (hb hby at_432) rfl rfl ?_
                show Steps p.tables e below (T30.setTop (mkF m 434 #[.val (.int p1), .val (.int p2), .val (.int p3), .val (.int p4), .val (.long p5), .second, .val (.int (p1 &&& (3 : Int32))), .val (.int (((p1.toUInt32 >>> ((2 : Int32) &&& 31).toUInt32).toInt32) &&& (3 : Int32))), .val (.ref bs), .val (.int n3), .val (.ref ar), .val (.int dc), .val (.ref sx), .val (.ref x3)] [(.ref x3), (.ref x3)])) _
                exact k
              refine OEndsW.go (t' := T30.setTop (mkF m 437 #[.val (.int p1), .val (.int p2), .val (.int p3), .val (.int p4), .val (.long p5), .second, .val (.int (p1 &&& (3 : Int32))), .val (.int (((p1.toUInt32 >>> ((2 : Int32) &&& 31).toUInt32).toInt32) &&& (3 : Int32))), .val (.ref bs), .val (.int n3), .val (.ref ar), .val (.int dc), .val (.ref sx), .val (.ref x3)] [])) (fun _ k => Jvm.RoadKit.acmp (g := (mkF m 434 #[.val (.int p1), .val (.int p2), .val (.int p3), .val (.int p4), .val (.long p5), .second, .val (.int (p1 &&& (3 : Int32))), .val (.int (((p1.toUInt32 >>> ((2 : Int32) &&& 31).toUInt32).toInt32) &&& (3 : Int32))), .val (.ref bs), .val (.int n3), .val (.ref ar), .val (.int dc), .val (.ref sx), .val (.ref x3)] [(.ref x3), (.ref x3)])) X30 hx rfl rfl rfl (pc0 := 434) (pc' := 437) (same := true) rfl (hb hby at_434) rfl (decide_eq_true rfl) (by decide) (by decide) k) ?_
              refine OEndsW.go (t' := T30.setTop (mkF m 442 #[.val (.int p1), .val (.int p2), .val (.int p3), .val (.int p4), .val (.long p5), .second, .val (.int (p1 &&& (3 : Int32))), .val (.int (((p1.toUInt32 >>> ((2 : Int32) &&& 31).toUInt32).toInt32) &&& (3 : Int32))), .val (.ref bs), .val (.int n3), .val (.ref ar), .val (.int dc), .val (.ref sx), .val (.ref x3)] [(.int (1 : Int32))])) (fun _ k => ?_) ?_
              · show Steps p.tables e below (T30.setTop (mkF m 437 #[.val (.int p1), .val (.int p2), .val (.int p3), .val (.int p4), .val (.long p5), .second, .val (.int (p1 &&& (3 : Int32))), .val (.int (((p1.toUInt32 >>> ((2 : Int32) &&& 31).toUInt32).toInt32) &&& (3 : Int32))), .val (.ref bs), .val (.int n3), .val (.ref ar), .val (.int dc), .val (.ref sx), .val (.ref x3)] [])) _
                refine XS.iconst X30.here hx rfl (hb hby at_437) ?_
                show Steps p.tables e below (T30.setTop (mkF m 438 #[.val (.int p1), .val (.int p2), .val (.int p3), .val (.int p4), .val (.long p5), .second, .val (.int (p1 &&& (3 : Int32))), .val (.int (((p1.toUInt32 >>> ((2 : Int32) &&& 31).toUInt32).toInt32) &&& (3 : Int32))), .val (.ref bs), .val (.int n3), .val (.ref ar), .val (.int dc), .val (.ref sx), .val (.ref x3)] [(.int (1 : Int32))])) _
                refine XS.goto X30.here hx rfl (pc0 := 438) (pc' := 442) rfl (hb hby at_438) (by decide) (by decide) ?_
                show Steps p.tables e below (T30.setTop (mkF m 442 #[.val (.int p1), .val (.int p2), .val (.int p3), .val (.int p4), .val (.long p5), .second, .val (.int (p1 &&& (3 : Int32))), .val (.int (((p1.toUInt32 >>> ((2 : Int32) &&& 31).toUInt32).toInt32) &&& (3 : Int32))), .val (.ref bs), .val (.int n3), .val (.ref ar), .val (.int dc), .val (.ref sx), .val (.ref x3)] [(.int (1 : Int32))])) _
                exact k
              refine OEndsW.back X30 hS26 hk30 hlk (v := (some (.int (1 : Int32)))) (fun h => by rw [hrt] at h; cases h) (fun fs hr => ?_) ?_ (by decide) (by decide)
              · exact retN X30 hx (t := .boolean) hrt (by simp) (hb hby at_442) hr
              · show Q0 Z p1 p2 p3 p4 p5 x0 x1 x2 x3 va s_EB b_EB k_EB s_TFC_TFC b_TFC_TFC k_TFC_TFC s_LXC_LTC b_LXC_LTC k_LXC_LTC s_LNU_LTU b_LNU_LTU k_LNU_LTU w1 fv h0 n0 _ T30.heap T30.vm _
                exact ⟨rfl, N30⟩
          · refine OEndsW.go (t' := T25.setTop (mkF m 402 #[.val (.int p1), .val (.int p2), .val (.int p3), .val (.int p4), .val (.long p5), .second, .val (.int (p1 &&& (3 : Int32))), .val (.int (((p1.toUInt32 >>> ((2 : Int32) &&& 31).toUInt32).toInt32) &&& (3 : Int32))), .val (.ref bs), .val (.int n3), .val (.ref ar), .val (.int dc), .val (.ref sx), .unset] [])) (fun _ k => XS.ifNo X25.here hx rfl (hb hby at_399) rfl ((if0 _ _).trans (feq g2).1) k) ?_
            obtain ⟨T31, X31, e31, st31⟩ := getS2 X25 hx hZ hown (host := "") (Or.inl (hw _ (List.mem_of_getElem? (i := 116) rfl))) Via.refl eh25 (S_LXC_LTC.ext hzt.2) (g := (mkF m 402 #[.val (.int p1), .val (.int p2), .val (.int p3), .val (.int p4), .val (.long p5), .second, .val (.int (p1 &&& (3 : Int32))), .val (.int (((p1.toUInt32 >>> ((2 : Int32) &&& 31).toUInt32).toInt32) &&& (3 : Int32))), .val (.ref bs), .val (.int n3), .val (.ref ar), .val (.int dc), .val (.ref sx), .unset] [])) rfl (hb hby at_402)
            refine OEndsW.go (t' := T31.setTop (mkF m 405 #[.val (.int p1), .val (.int p2), .val (.int p3), .val (.int p4), .val (.long p5), .second, .val (.int (p1 &&& (3 : Int32))), .val (.int (((p1.toUInt32 >>> ((2 : Int32) &&& 31).toUInt32).toInt32) &&& (3 : Int32))), .val (.ref bs), .val (.int n3), .val (.ref ar), .val (.int dc), .val (.ref sx), .unset] [(.ref x2)])) (fun _ k => st31 _ k) ?_
            refine OEndsW.go (t' := T31.setTop (mkF m 429 #[.val (.int p1), .val (.int p2), .val (.int p3), .val (.int p4), .val (.long p5), .second, .val (.int (p1 &&& (3 : Int32))), .val (.int (((p1.toUInt32 >>> ((2 : Int32) &&& 31).toUInt32).toInt32) &&& (3 : Int32))), .val (.ref bs), .val (.int n3), .val (.ref ar), .val (.int dc), .val (.ref sx), .val (.ref x2)] [(.ref sx)])) (fun _ k => ?_) ?_
            · show Steps p.tables e below (T31.setTop (mkF m 405 #[.val (.int p1), .val (.int p2), .val (.int p3), .val (.int p4), .val (.long p5), .second, .val (.int (p1 &&& (3 : Int32))), .val (.int (((p1.toUInt32 >>> ((2 : Int32) &&& 31).toUInt32).toInt32) &&& (3 : Int32))), .val (.ref bs), .val (.int n3), .val (.ref ar), .val (.int dc), .val (.ref sx), .unset] [(.ref x2)])) _
              refine XS.goto X31.here hx rfl (pc0 := 405) (pc' := 425) rfl (hb hby at_405) (by decide) (by decide) ?_
              show Steps p.tables e below (T31.setTop (mkF m 425 #[.val (.int p1), .val (.int p2), .val (.int p3), .val (.int p4), .val (.long p5), .second, .val (.int (p1 &&& (3 : Int32))), .val (.int (((p1.toUInt32 >>> ((2 : Int32) &&& 31).toUInt32).toInt32) &&& (3 : Int32))), .val (.ref bs), .val (.int n3), .val (.ref ar), .val (.int dc), .val (.ref sx), .unset] [(.ref x2)])) _
              refine XS.astore X31.here hx rfl (hb hby at_425) rfl rfl (l' := #[.val (.int p1), .val (.int p2), .val (.int p3), .val (.int p4), .val (.long p5), .second, .val (.int (p1 &&& (3 : Int32))), .val (.int (((p1.toUInt32 >>> ((2 : Int32) &&& 31).toUInt32).toInt32) &&& (3 : Int32))), .val (.ref bs), .val (.int n3), .val (.ref ar), .val (.int dc), .val (.ref sx), .val (.ref x2)]) rfl ?_
              show Steps p.tables e below (T31.setTop (mkF m 427 #[.val (.int p1), .val (.int p2), .val (.int p3), .val (.int p4), .val (.long p5), .second, .val (.int (p1 &&& (3 : Int32))), .val (.int (((p1.toUInt32 >>> ((2 : Int32) &&& 31).toUInt32).toInt32) &&& (3 : Int32))), .val (.ref bs), .val (.int n3), .val (.ref ar), .val (.int dc), .val (.ref sx), .val (.ref x2)] [])) _
              refine XS.aload X31.here hx rfl (hb hby at_427) rfl rfl ?_
              show Steps p.tables e below (T31.setTop (mkF m 429 #[.val (.int p1), .val (.int p2), .val (.int p3), .val (.int p4), .val (.long p5), .second, .val (.int (p1 &&& (3 : Int32))), .val (.int (((p1.toUInt32 >>> ((2 : Int32) &&& 31).toUInt32).toInt32) &&& (3 : Int32))), .val (.ref bs), .val (.int n3), .val (.ref ar), .val (.int dc), .val (.ref sx), .val (.ref x2)] [(.ref sx)])) _
              exact k
            obtain ⟨_, _, ⟨T32, L32, k32, n32⟩, -, X32, ⟨Lc32, hQ32, l32, y32, z32⟩, st32⟩ := Jvm.LawKit.callS X31 hx (y := (⟨"com/example/pnorm/pnorm/model/Weighting", "named", "(Ljava/lang/String;)Lcom/example/pnorm/pnorm/model/Weighting;"⟩ : MethodName)) hown (mvT hZ (hw _ (List.mem_of_getElem? (i := 84) rfl))) (mvT hZ (hw _ (List.mem_of_getElem? (i := 85) rfl))) (mvT hZ (hw _ (List.mem_of_getElem? (i := 82) rfl))) (mvT hZ (hw _ (List.mem_of_getElem? (i := 86) rfl))) (by decide) (backOf (W := 0) (rm18 l Z a0 hw [] sx x0 x1 x2 x3 va s_EB b_EB k_EB s_TFC_TFC b_TFC_TFC k_TFC_TFC s_LXC_LTC b_LXC_LTC k_LXC_LTC s_LNU_LTU b_LNU_LTU k_LNU_LTU w1 sx_b sx_k xs h24 n0 Z24 S_V VV EV hzt Ft_EB SS_EB Ft_TFC_TFC SS_TFC_TFC Ft_LXC_LTC SS_LXC_LTC Ft_LNU_LTU SS_LNU_LTU S_C c0 sx_S) hZ (hw _ (List.mem_of_getElem? (i := 86) rfl)) (hw _ (List.mem_of_getElem? (i := 82) rfl)) (by decide) (by decide)) (g := (mkF m 429 #[.val (.int p1), .val (.int p2), .val (.int p3), .val (.int p4), .val (.long p5), .second, .val (.int (p1 &&& (3 : Int32))), .val (.int (((p1.toUInt32 >>> ((2 : Int32) &&& 31).toUInt32).toInt32) &&& (3 : Int32))), .val (.ref bs), .val (.int n3), .val (.ref ar), .val (.int dc), .val (.ref sx), .val (.ref x2)] [(.ref sx)])) rfl (by rw [hml]; rfl) (argsL := [(.ref sx)]) (rest := []) (lenOf pd_rm0_4 rfl) rfl (by show 2 * 0 + _ ≤ _; exact Nat.le_of_eq rfl) (hb hby at_429) (fun _ _ => ⟨rfl, e31, (by decide : 13 + 1 ≤ _), (by decide : 136 + 4 ≤ _)⟩)
            dsimp only [Pt.U, Pt.locs, Pt.cells, Pt.slots] at X32 l32 y32 z32 st32 hQ32
            subst l32 y32 z32
            obtain ⟨rfl, N32q, Kc32⟩ := hQ32
            have N32 := Fr.app N25 N32q
            have hzt := hzt.keep Kc32 all0
            have sx_S := sx_S.keep Kc32 nin0 nin0
            have Z32 : n0 ≤ T32.heap.size := Nat.le_trans Z24 Kc32.1
            have hk32 := Nat.le_trans hk24 Kc32.1
            refine OEndsW.go (t' := T32.setTop (mkF m 432 #[.val (.int p1), .val (.int p2), .val (.int p3), .val (.int p4), .val (.long p5), .second, .val (.int (p1 &&& (3 : Int32))), .val (.int (((p1.toUInt32 >>> ((2 : Int32) &&& 31).toUInt32).toInt32) &&& (3 : Int32))), .val (.ref bs), .val (.int n3), .val (.ref ar), .val (.int dc), .val (.ref sx), .val (.ref x2)] [(own_pick x0 x1 x2 x3 xs)])) (fun _ k => st32 _ k) ?_
            rw [show own_pick x0 x1 x2 x3 xs = .ref x2 from by rw [own_pick, if_neg (fun q => own_eqL0 g0 q.symm), if_neg (fun q => own_eqL0 g1 q.symm), if_pos (own_eqLt g2).symm]]
            refine OEndsW.go (t' := T32.setTop (mkF m 434 #[.val (.int p1), .val (.int p2), .val (.int p3), .val (.int p4), .val (.long p5), .second, .val (.int (p1 &&& (3 : Int32))), .val (.int (((p1.toUInt32 >>> ((2 : Int32) &&& 31).toUInt32).toInt32) &&& (3 : Int32))), .val (.ref bs), .val (.int n3), .val (.ref ar), .val (.int dc), .val (.ref sx), .val (.ref x2)] [(.ref x2), (.ref x2)])) (fun _ k => ?_) ?_
            · show Steps p.tables e below (T32.setTop (mkF m 432 #[.val (.int p1), .val (.int p2), .val (.int p3), .val (.int p4), .val (.long p5), .second, .val (.int (p1 &&& (3 : Int32))), .val (.int (((p1.toUInt32 >>> ((2 : Int32) &&& 31).toUInt32).toInt32) &&& (3 : Int32))), .val (.ref bs), .val (.int n3), .val (.ref ar), .val (.int dc), .val (.ref sx), .val (.ref x2)] [(.ref x2)])) _
              refine XS.aload X32.here hx rfl (hb hby at_432) rfl rfl ?_
              show Steps p.tables e below (T32.setTop (mkF m 434 #[.val (.int p1), .val (.int p2), .val (.int p3), .val (.int p4), .val (.long p5), .second, .val (.int (p1 &&& (3 : Int32))), .val (.int (((p1.toUInt32 >>> ((2 : Int32) &&& 31).toUInt32).toInt32) &&& (3 : Int32))), .val (.ref bs), .val (.int n3), .val (.ref ar), .val (.int dc), .val (.ref sx), .val (.ref x2)] [(.ref x2), (.ref x2)])) _
              exact k
            refine OEndsW.go (t' := T32.setTop (mkF m 437 #[.val (.int p1), .val (.int p2), .val (.int p3), .val (.int p4), .val (.long p5), .second, .val (.int (p1 &&& (3 : Int32))), .val (.int (((p1.toUInt32 >>> ((2 : Int32) &&& 31).toUInt32).toInt32) &&& (3 : Int32))), .val (.ref bs), .val (.int n3), .val (.ref ar), .val (.int dc), .val (.ref sx), .val (.ref x2)] [])) (fun _ k => Jvm.RoadKit.acmp (g := (mkF m 434 #[.val (.int p1), .val (.int p2), .val (.int p3), .val (.int p4), .val (.long p5), .second, .val (.int (p1 &&& (3 : Int32))), .val (.int (((p1.toUInt32 >>> ((2 : Int32) &&& 31).toUInt32).toInt32) &&& (3 : Int32))), .val (.ref bs), .val (.int n3), .val (.ref ar), .val (.int dc), .val (.ref sx), .val (.ref x2)] [(.ref x2), (.ref x2)])) X32 hx rfl rfl rfl (pc0 := 434) (pc' := 437) (same := true) rfl (hb hby at_434) rfl (decide_eq_true rfl) (by decide) (by decide) k) ?_
            refine OEndsW.go (t' := T32.setTop (mkF m 442 #[.val (.int p1), .val (.int p2), .val (.int p3), .val (.int p4), .val (.long p5), .second, .val (.int (p1 &&& (3 : Int32))), .val (.int (((p1.toUInt32 >>> ((2 : Int32) &&& 31).toUInt32).toInt32) &&& (3 : Int32))), .val (.ref bs), .val (.int n3), .val (.ref ar), .val (.int dc), .val (.ref sx), .val (.ref x2)] [(.int (1 : Int32))])) (fun _ k => ?_) ?_
            · show Steps p.tables e below (T32.setTop (mkF m 437 #[.val (.int p1), .val (.int p2), .val (.int p3), .val (.int p4), .val (.long p5), .second, .val (.int (p1 &&& (3 : Int32))), .val (.int (((p1.toUInt32 >>> ((2 : Int32) &&& 31).toUInt32).toInt32) &&& (3 : Int32))), .val (.ref bs), .val (.int n3), .val (.ref ar), .val (.int dc), .val (.ref sx), .val (.ref x2)] [])) _
              refine XS.iconst X32.here hx rfl (hb hby at_437) ?_
              show Steps p.tables e below (T32.setTop (mkF m 438 #[.val (.int p1), .val (.int p2), .val (.int p3), .val (.int p4), .val (.long p5), .second, .val (.int (p1 &&& (3 : Int32))), .val (.int (((p1.toUInt32 >>> ((2 : Int32) &&& 31).toUInt32).toInt32) &&& (3 : Int32))), .val (.ref bs), .val (.int n3), .val (.ref ar), .val (.int dc), .val (.ref sx), .val (.ref x2)] [(.int (1 : Int32))])) _
              refine XS.goto X32.here hx rfl (pc0 := 438) (pc' := 442) rfl (hb hby at_438) (by decide) (by decide) ?_
              show Steps p.tables e below (T32.setTop (mkF m 442 #[.val (.int p1), .val (.int p2), .val (.int p3), .val (.int p4), .val (.long p5), .second, .val (.int (p1 &&& (3 : Int32))), .val (.int (((p1.toUInt32 >>> ((2 : Int32) &&& 31).toUInt32).toInt32) &&& (3 : Int32))), .val (.ref bs), .val (.int n3), .val (.ref ar), .val (.int dc), .val (.ref sx), .val (.ref x2)] [(.int (1 : Int32))])) _
              exact k
            refine OEndsW.back X32 hS24 hk32 hlk (v := (some (.int (1 : Int32)))) (fun h => by rw [hrt] at h; cases h) (fun fs hr => ?_) ?_ (by decide) (by decide)
            · exact retN X32 hx (t := .boolean) hrt (by simp) (hb hby at_442) hr
            · show Q0 Z p1 p2 p3 p4 p5 x0 x1 x2 x3 va s_EB b_EB k_EB s_TFC_TFC b_TFC_TFC k_TFC_TFC s_LXC_LTC b_LXC_LTC k_LXC_LTC s_LNU_LTU b_LNU_LTU k_LNU_LTU w1 fv h0 n0 _ T32.heap T32.vm _
              exact ⟨rfl, N32⟩
        · refine OEndsW.go (t' := T23.setTop (mkF m 386 #[.val (.int p1), .val (.int p2), .val (.int p3), .val (.int p4), .val (.long p5), .second, .val (.int (p1 &&& (3 : Int32))), .val (.int (((p1.toUInt32 >>> ((2 : Int32) &&& 31).toUInt32).toInt32) &&& (3 : Int32))), .val (.ref bs), .val (.int n3), .val (.ref ar), .val (.int dc), .val (.ref sx), .unset] [])) (fun _ k => XS.ifNo X23.here hx rfl (hb hby at_383) rfl ((if0 _ _).trans (feq g1).1) k) ?_
          obtain ⟨T33, X33, e33, st33⟩ := getS2 X23 hx hZ hown (host := "") (Or.inl (hw _ (List.mem_of_getElem? (i := 114) rfl))) Via.refl eh23 (S_TFC_TFC.ext hzt.2) (g := (mkF m 386 #[.val (.int p1), .val (.int p2), .val (.int p3), .val (.int p4), .val (.long p5), .second, .val (.int (p1 &&& (3 : Int32))), .val (.int (((p1.toUInt32 >>> ((2 : Int32) &&& 31).toUInt32).toInt32) &&& (3 : Int32))), .val (.ref bs), .val (.int n3), .val (.ref ar), .val (.int dc), .val (.ref sx), .unset] [])) rfl (hb hby at_386)
          refine OEndsW.go (t' := T33.setTop (mkF m 389 #[.val (.int p1), .val (.int p2), .val (.int p3), .val (.int p4), .val (.long p5), .second, .val (.int (p1 &&& (3 : Int32))), .val (.int (((p1.toUInt32 >>> ((2 : Int32) &&& 31).toUInt32).toInt32) &&& (3 : Int32))), .val (.ref bs), .val (.int n3), .val (.ref ar), .val (.int dc), .val (.ref sx), .unset] [(.ref x1)])) (fun _ k => st33 _ k) ?_
          refine OEndsW.go (t' := T33.setTop (mkF m 429 #[.val (.int p1), .val (.int p2), .val (.int p3), .val (.int p4), .val (.long p5), .second, .val (.int (p1 &&& (3 : Int32))), .val (.int (((p1.toUInt32 >>> ((2 : Int32) &&& 31).toUInt32).toInt32) &&& (3 : Int32))), .val (.ref bs), .val (.int n3), .val (.ref ar), .val (.int dc), .val (.ref sx), .val (.ref x1)] [(.ref sx)])) (fun _ k => ?_) ?_
          · show Steps p.tables e below (T33.setTop (mkF m 389 #[.val (.int p1), .val (.int p2), .val (.int p3), .val (.int p4), .val (.long p5), .second, .val (.int (p1 &&& (3 : Int32))), .val (.int (((p1.toUInt32 >>> ((2 : Int32) &&& 31).toUInt32).toInt32) &&& (3 : Int32))), .val (.ref bs), .val (.int n3), .val (.ref ar), .val (.int dc), .val (.ref sx), .unset] [(.ref x1)])) _
            refine XS.goto X33.here hx rfl (pc0 := 389) (pc' := 425) rfl (hb hby at_389) (by decide) (by decide) ?_
            show Steps p.tables e below (T33.setTop (mkF m 425 #[.val (.int p1), .val (.int p2), .val (.int p3), .val (.int p4), .val (.long p5), .second, .val (.int (p1 &&& (3 : Int32))), .val (.int (((p1.toUInt32 >>> ((2 : Int32) &&& 31).toUInt32).toInt32) &&& (3 : Int32))), .val (.ref bs), .val (.int n3), .val (.ref ar), .val (.int dc), .val (.ref sx), .unset] [(.ref x1)])) _
            refine XS.astore X33.here hx rfl (hb hby at_425) rfl rfl (l' := #[.val (.int p1), .val (.int p2), .val (.int p3), .val (.int p4), .val (.long p5), .second, .val (.int (p1 &&& (3 : Int32))), .val (.int (((p1.toUInt32 >>> ((2 : Int32) &&& 31).toUInt32).toInt32) &&& (3 : Int32))), .val (.ref bs), .val (.int n3), .val (.ref ar), .val (.int dc), .val (.ref sx), .val (.ref x1)]) rfl ?_
            show Steps p.tables e below (T33.setTop (mkF m 427 #[.val (.int p1), .val (.int p2), .val (.int p3), .val (.int p4), .val (.long p5), .second, .val (.int (p1 &&& (3 : Int32))), .val (.int (((p1.toUInt32 >>> ((2 : Int32) &&& 31).toUInt32).toInt32) &&& (3 : Int32))), .val (.ref bs), .val (.int n3), .val (.ref ar), .val (.int dc), .val (.ref sx), .val (.ref x1)] [])) _
            refine XS.aload X33.here hx rfl (hb hby at_427) rfl rfl ?_
            show Steps p.tables e below (T33.setTop (mkF m 429 #[.val (.int p1), .val (.int p2), .val (.int p3), .val (.int p4), .val (.long p5), .second, .val (.int (p1 &&& (3 : Int32))), .val (.int (((p1.toUInt32 >>> ((2 : Int32) &&& 31).toUInt32).toInt32) &&& (3 : Int32))), .val (.ref bs), .val (.int n3), .val (.ref ar), .val (.int dc), .val (.ref sx), .val (.ref x1)] [(.ref sx)])) _
            exact k
          obtain ⟨_, _, ⟨T34, L34, k34, n34⟩, -, X34, ⟨Lc34, hQ34, l34, y34, z34⟩, st34⟩ := Jvm.LawKit.callS X33 hx (y := (⟨"com/example/pnorm/pnorm/model/Weighting", "named", "(Ljava/lang/String;)Lcom/example/pnorm/pnorm/model/Weighting;"⟩ : MethodName)) hown (mvT hZ (hw _ (List.mem_of_getElem? (i := 84) rfl))) (mvT hZ (hw _ (List.mem_of_getElem? (i := 85) rfl))) (mvT hZ (hw _ (List.mem_of_getElem? (i := 82) rfl))) (mvT hZ (hw _ (List.mem_of_getElem? (i := 86) rfl))) (by decide) (backOf (W := 0) (rm18 l Z a0 hw [] sx x0 x1 x2 x3 va s_EB b_EB k_EB s_TFC_TFC b_TFC_TFC k_TFC_TFC s_LXC_LTC b_LXC_LTC k_LXC_LTC s_LNU_LTU b_LNU_LTU k_LNU_LTU w1 sx_b sx_k xs h22 n0 Z22 S_V VV EV hzt Ft_EB SS_EB Ft_TFC_TFC SS_TFC_TFC Ft_LXC_LTC SS_LXC_LTC Ft_LNU_LTU SS_LNU_LTU S_C c0 sx_S) hZ (hw _ (List.mem_of_getElem? (i := 86) rfl)) (hw _ (List.mem_of_getElem? (i := 82) rfl)) (by decide) (by decide)) (g := (mkF m 429 #[.val (.int p1), .val (.int p2), .val (.int p3), .val (.int p4), .val (.long p5), .second, .val (.int (p1 &&& (3 : Int32))), .val (.int (((p1.toUInt32 >>> ((2 : Int32) &&& 31).toUInt32).toInt32) &&& (3 : Int32))), .val (.ref bs), .val (.int n3), .val (.ref ar), .val (.int dc), .val (.ref sx), .val (.ref x1)] [(.ref sx)])) rfl (by rw [hml]; rfl) (argsL := [(.ref sx)]) (rest := []) (lenOf pd_rm0_4 rfl) rfl (by show 2 * 0 + _ ≤ _; exact Nat.le_of_eq rfl) (hb hby at_429) (fun _ _ => ⟨rfl, e33, (by decide : 11 + 1 ≤ _), (by decide : 104 + 4 ≤ _)⟩)
          dsimp only [Pt.U, Pt.locs, Pt.cells, Pt.slots] at X34 l34 y34 z34 st34 hQ34
          subst l34 y34 z34
          obtain ⟨rfl, N34q, Kc34⟩ := hQ34
          have N34 := Fr.app N23 N34q
          have hzt := hzt.keep Kc34 all0
          have sx_S := sx_S.keep Kc34 nin0 nin0
          have Z34 : n0 ≤ T34.heap.size := Nat.le_trans Z22 Kc34.1
          have hk34 := Nat.le_trans hk22 Kc34.1
          refine OEndsW.go (t' := T34.setTop (mkF m 432 #[.val (.int p1), .val (.int p2), .val (.int p3), .val (.int p4), .val (.long p5), .second, .val (.int (p1 &&& (3 : Int32))), .val (.int (((p1.toUInt32 >>> ((2 : Int32) &&& 31).toUInt32).toInt32) &&& (3 : Int32))), .val (.ref bs), .val (.int n3), .val (.ref ar), .val (.int dc), .val (.ref sx), .val (.ref x1)] [(own_pick x0 x1 x2 x3 xs)])) (fun _ k => st34 _ k) ?_
          rw [show own_pick x0 x1 x2 x3 xs = .ref x1 from by rw [own_pick, if_neg (fun q => own_eqL0 g0 q.symm), if_pos (own_eqLt g1).symm]]
          refine OEndsW.go (t' := T34.setTop (mkF m 434 #[.val (.int p1), .val (.int p2), .val (.int p3), .val (.int p4), .val (.long p5), .second, .val (.int (p1 &&& (3 : Int32))), .val (.int (((p1.toUInt32 >>> ((2 : Int32) &&& 31).toUInt32).toInt32) &&& (3 : Int32))), .val (.ref bs), .val (.int n3), .val (.ref ar), .val (.int dc), .val (.ref sx), .val (.ref x1)] [(.ref x1), (.ref x1)])) (fun _ k => ?_) ?_
          · show Steps p.tables e below (T34.setTop (mkF m 432 #[.val (.int p1), .val (.int p2), .val (.int p3), .val (.int p4), .val (.long p5), .second, .val (.int (p1 &&& (3 : Int32))), .val (.int (((p1.toUInt32 >>> ((2 : Int32) &&& 31).toUInt32).toInt32) &&& (3 : Int32))), .val (.ref bs), .val (.int n3), .val (.ref ar), .val (.int dc), .val (.ref sx), .val (.ref x1)] [(.ref x1)])) _
            refine XS.aload X34.here hx rfl (hb hby at_432) rfl rfl ?_
            show Steps p.tables e below (T34.setTop (mkF m 434 #[.val (.int p1), .val (.int p2), .val (.int p3), .val (.int p4), .val (.long p5), .second, .val (.int (p1 &&& (3 : Int32))), .val (.int (((p1.toUInt32 >>> ((2 : Int32) &&& 31).toUInt32).toInt32) &&& (3 : Int32))), .val (.ref bs), .val (.int n3), .val (.ref ar), .val (.int dc), .val (.ref sx), .val (.ref x1)] [(.ref x1), (.ref x1)])) _
            exact k
          refine OEndsW.go (t' := T34.setTop (mkF m 437 #[.val (.int p1), .val (.int p2), .val (.int p3), .val (.int p4), .val (.long p5), .second, .val (.int (p1 &&& (3 : Int32))), .val (.int (((p1.toUInt32 >>> ((2 : Int32) &&& 31).toUInt32).toInt32) &&& (3 : Int32))), .val (.ref bs), .val (.int n3), .val (.ref ar), .val (.int dc), .val (.ref sx), .val (.ref x1)] [])) (fun _ k => Jvm.RoadKit.acmp (g := (mkF m 434 #[.val (.int p1), .val (.int p2), .val (.int p3), .val (.int p4), .val (.long p5), .second, .val (.int (p1 &&& (3 : Int32))), .val (.int (((p1.toUInt32 >>> ((2 : Int32) &&& 31).toUInt32).toInt32) &&& (3 : Int32))), .val (.ref bs), .val (.int n3), .val (.ref ar), .val (.int dc), .val (.ref sx), .val (.ref x1)] [(.ref x1), (.ref x1)])) X34 hx rfl rfl rfl (pc0 := 434) (pc' := 437) (same := true) rfl (hb hby at_434) rfl (decide_eq_true rfl) (by decide) (by decide) k) ?_
          refine OEndsW.go (t' := T34.setTop (mkF m 442 #[.val (.int p1), .val (.int p2), .val (.int p3), .val (.int p4), .val (.long p5), .second, .val (.int (p1 &&& (3 : Int32))), .val (.int (((p1.toUInt32 >>> ((2 : Int32) &&& 31).toUInt32).toInt32) &&& (3 : Int32))), .val (.ref bs), .val (.int n3), .val (.ref ar), .val (.int dc), .val (.ref sx), .val (.ref x1)] [(.int (1 : Int32))])) (fun _ k => ?_) ?_
          · show Steps p.tables e below (T34.setTop (mkF m 437 #[.val (.int p1), .val (.int p2), .val (.int p3), .val (.int p4), .val (.long p5), .second, .val (.int (p1 &&& (3 : Int32))), .val (.int (((p1.toUInt32 >>> ((2 : Int32) &&& 31).toUInt32).toInt32) &&& (3 : Int32))), .val (.ref bs), .val (.int n3), .val (.ref ar), .val (.int dc), .val (.ref sx), .val (.ref x1)] [])) _
            refine XS.iconst X34.here hx rfl (hb hby at_437) ?_
            show Steps p.tables e below (T34.setTop (mkF m 438 #[.val (.int p1), .val (.int p2), .val (.int p3), .val (.int p4), .val (.long p5), .second, .val (.int (p1 &&& (3 : Int32))), .val (.int (((p1.toUInt32 >>> ((2 : Int32) &&& 31).toUInt32).toInt32) &&& (3 : Int32))), .val (.ref bs), .val (.int n3), .val (.ref ar), .val (.int dc), .val (.ref sx), .val (.ref x1)] [(.int (1 : Int32))])) _
            refine XS.goto X34.here hx rfl (pc0 := 438) (pc' := 442) rfl (hb hby at_438) (by decide) (by decide) ?_
            show Steps p.tables e below (T34.setTop (mkF m 442 #[.val (.int p1), .val (.int p2), .val (.int p3), .val (.int p4), .val (.long p5), .second, .val (.int (p1 &&& (3 : Int32))), .val (.int (((p1.toUInt32 >>> ((2 : Int32) &&& 31).toUInt32).toInt32) &&& (3 : Int32))), .val (.ref bs), .val (.int n3), .val (.ref ar), .val (.int dc), .val (.ref sx), .val (.ref x1)] [(.int (1 : Int32))])) _
            exact k
          refine OEndsW.back X34 hS22 hk34 hlk (v := (some (.int (1 : Int32)))) (fun h => by rw [hrt] at h; cases h) (fun fs hr => ?_) ?_ (by decide) (by decide)
          · exact retN X34 hx (t := .boolean) hrt (by simp) (hb hby at_442) hr
          · show Q0 Z p1 p2 p3 p4 p5 x0 x1 x2 x3 va s_EB b_EB k_EB s_TFC_TFC b_TFC_TFC k_TFC_TFC s_LXC_LTC b_LXC_LTC k_LXC_LTC s_LNU_LTU b_LNU_LTU k_LNU_LTU w1 fv h0 n0 _ T34.heap T34.vm _
            exact ⟨rfl, N34⟩
      · refine OEndsW.go (t' := T21.setTop (mkF m 370 #[.val (.int p1), .val (.int p2), .val (.int p3), .val (.int p4), .val (.long p5), .second, .val (.int (p1 &&& (3 : Int32))), .val (.int (((p1.toUInt32 >>> ((2 : Int32) &&& 31).toUInt32).toInt32) &&& (3 : Int32))), .val (.ref bs), .val (.int n3), .val (.ref ar), .val (.int dc), .val (.ref sx), .unset] [])) (fun _ k => XS.ifNo X21.here hx rfl (hb hby at_367) rfl ((if0 _ _).trans (feq g0).1) k) ?_
        obtain ⟨T35, X35, e35, st35⟩ := getS2 X21 hx hZ hown (host := "") (Or.inl (hw _ (List.mem_of_getElem? (i := 81) rfl))) Via.refl eh21 (S_EB.ext hzt.2) (g := (mkF m 370 #[.val (.int p1), .val (.int p2), .val (.int p3), .val (.int p4), .val (.long p5), .second, .val (.int (p1 &&& (3 : Int32))), .val (.int (((p1.toUInt32 >>> ((2 : Int32) &&& 31).toUInt32).toInt32) &&& (3 : Int32))), .val (.ref bs), .val (.int n3), .val (.ref ar), .val (.int dc), .val (.ref sx), .unset] [])) rfl (hb hby at_370)
        refine OEndsW.go (t' := T35.setTop (mkF m 373 #[.val (.int p1), .val (.int p2), .val (.int p3), .val (.int p4), .val (.long p5), .second, .val (.int (p1 &&& (3 : Int32))), .val (.int (((p1.toUInt32 >>> ((2 : Int32) &&& 31).toUInt32).toInt32) &&& (3 : Int32))), .val (.ref bs), .val (.int n3), .val (.ref ar), .val (.int dc), .val (.ref sx), .unset] [(.ref x0)])) (fun _ k => st35 _ k) ?_
        refine OEndsW.go (t' := T35.setTop (mkF m 429 #[.val (.int p1), .val (.int p2), .val (.int p3), .val (.int p4), .val (.long p5), .second, .val (.int (p1 &&& (3 : Int32))), .val (.int (((p1.toUInt32 >>> ((2 : Int32) &&& 31).toUInt32).toInt32) &&& (3 : Int32))), .val (.ref bs), .val (.int n3), .val (.ref ar), .val (.int dc), .val (.ref sx), .val (.ref x0)] [(.ref sx)])) (fun _ k => ?_) ?_
        · show Steps p.tables e below (T35.setTop (mkF m 373 #[.val (.int p1), .val (.int p2), .val (.int p3), .val (.int p4), .val (.long p5), .second, .val (.int (p1 &&& (3 : Int32))), .val (.int (((p1.toUInt32 >>> ((2 : Int32) &&& 31).toUInt32).toInt32) &&& (3 : Int32))), .val (.ref bs), .val (.int n3), .val (.ref ar), .val (.int dc), .val (.ref sx), .unset] [(.ref x0)])) _
          refine XS.goto X35.here hx rfl (pc0 := 373) (pc' := 425) rfl (hb hby at_373) (by decide) (by decide) ?_
          show Steps p.tables e below (T35.setTop (mkF m 425 #[.val (.int p1), .val (.int p2), .val (.int p3), .val (.int p4), .val (.long p5), .second, .val (.int (p1 &&& (3 : Int32))), .val (.int (((p1.toUInt32 >>> ((2 : Int32) &&& 31).toUInt32).toInt32) &&& (3 : Int32))), .val (.ref bs), .val (.int n3), .val (.ref ar), .val (.int dc), .val (.ref sx), .unset] [(.ref x0)])) _
          refine XS.astore X35.here hx rfl (hb hby at_425) rfl rfl (l' := #[.val (.int p1), .val (.int p2), .val (.int p3), .val (.int p4), .val (.long p5), .second, .val (.int (p1 &&& (3 : Int32))), .val (.int (((p1.toUInt32 >>> ((2 : Int32) &&& 31).toUInt32).toInt32) &&& (3 : Int32))), .val (.ref bs), .val (.int n3), .val (.ref ar), .val (.int dc), .val (.ref sx), .val (.ref x0)]) rfl ?_
          show Steps p.tables e below (T35.setTop (mkF m 427 #[.val (.int p1), .val (.int p2), .val (.int p3), .val (.int p4), .val (.long p5), .second, .val (.int (p1 &&& (3 : Int32))), .val (.int (((p1.toUInt32 >>> ((2 : Int32) &&& 31).toUInt32).toInt32) &&& (3 : Int32))), .val (.ref bs), .val (.int n3), .val (.ref ar), .val (.int dc), .val (.ref sx), .val (.ref x0)] [])) _
          refine XS.aload X35.here hx rfl (hb hby at_427) rfl rfl ?_
          show Steps p.tables e below (T35.setTop (mkF m 429 #[.val (.int p1), .val (.int p2), .val (.int p3), .val (.int p4), .val (.long p5), .second, .val (.int (p1 &&& (3 : Int32))), .val (.int (((p1.toUInt32 >>> ((2 : Int32) &&& 31).toUInt32).toInt32) &&& (3 : Int32))), .val (.ref bs), .val (.int n3), .val (.ref ar), .val (.int dc), .val (.ref sx), .val (.ref x0)] [(.ref sx)])) _
          exact k
        obtain ⟨_, _, ⟨T36, L36, k36, n36⟩, -, X36, ⟨Lc36, hQ36, l36, y36, z36⟩, st36⟩ := Jvm.LawKit.callS X35 hx (y := (⟨"com/example/pnorm/pnorm/model/Weighting", "named", "(Ljava/lang/String;)Lcom/example/pnorm/pnorm/model/Weighting;"⟩ : MethodName)) hown (mvT hZ (hw _ (List.mem_of_getElem? (i := 84) rfl))) (mvT hZ (hw _ (List.mem_of_getElem? (i := 85) rfl))) (mvT hZ (hw _ (List.mem_of_getElem? (i := 82) rfl))) (mvT hZ (hw _ (List.mem_of_getElem? (i := 86) rfl))) (by decide) (backOf (W := 0) (rm18 l Z a0 hw [] sx x0 x1 x2 x3 va s_EB b_EB k_EB s_TFC_TFC b_TFC_TFC k_TFC_TFC s_LXC_LTC b_LXC_LTC k_LXC_LTC s_LNU_LTU b_LNU_LTU k_LNU_LTU w1 sx_b sx_k xs h20 n0 Z20 S_V VV EV hzt Ft_EB SS_EB Ft_TFC_TFC SS_TFC_TFC Ft_LXC_LTC SS_LXC_LTC Ft_LNU_LTU SS_LNU_LTU S_C c0 sx_S) hZ (hw _ (List.mem_of_getElem? (i := 86) rfl)) (hw _ (List.mem_of_getElem? (i := 82) rfl)) (by decide) (by decide)) (g := (mkF m 429 #[.val (.int p1), .val (.int p2), .val (.int p3), .val (.int p4), .val (.long p5), .second, .val (.int (p1 &&& (3 : Int32))), .val (.int (((p1.toUInt32 >>> ((2 : Int32) &&& 31).toUInt32).toInt32) &&& (3 : Int32))), .val (.ref bs), .val (.int n3), .val (.ref ar), .val (.int dc), .val (.ref sx), .val (.ref x0)] [(.ref sx)])) rfl (by rw [hml]; rfl) (argsL := [(.ref sx)]) (rest := []) (lenOf pd_rm0_4 rfl) rfl (by show 2 * 0 + _ ≤ _; exact Nat.le_of_eq rfl) (hb hby at_429) (fun _ _ => ⟨rfl, e35, (by decide : 9 + 1 ≤ _), (by decide : 72 + 4 ≤ _)⟩)
        dsimp only [Pt.U, Pt.locs, Pt.cells, Pt.slots] at X36 l36 y36 z36 st36 hQ36
        subst l36 y36 z36
        obtain ⟨rfl, N36q, Kc36⟩ := hQ36
        have N36 := Fr.app N21 N36q
        have hzt := hzt.keep Kc36 all0
        have sx_S := sx_S.keep Kc36 nin0 nin0
        have Z36 : n0 ≤ T36.heap.size := Nat.le_trans Z20 Kc36.1
        have hk36 := Nat.le_trans hk20 Kc36.1
        refine OEndsW.go (t' := T36.setTop (mkF m 432 #[.val (.int p1), .val (.int p2), .val (.int p3), .val (.int p4), .val (.long p5), .second, .val (.int (p1 &&& (3 : Int32))), .val (.int (((p1.toUInt32 >>> ((2 : Int32) &&& 31).toUInt32).toInt32) &&& (3 : Int32))), .val (.ref bs), .val (.int n3), .val (.ref ar), .val (.int dc), .val (.ref sx), .val (.ref x0)] [(own_pick x0 x1 x2 x3 xs)])) (fun _ k => st36 _ k) ?_
        rw [show own_pick x0 x1 x2 x3 xs = .ref x0 from by rw [own_pick, if_pos (own_eqLt g0).symm]]
        refine OEndsW.go (t' := T36.setTop (mkF m 434 #[.val (.int p1), .val (.int p2), .val (.int p3), .val (.int p4), .val (.long p5), .second, .val (.int (p1 &&& (3 : Int32))), .val (.int (((p1.toUInt32 >>> ((2 : Int32) &&& 31).toUInt32).toInt32) &&& (3 : Int32))), .val (.ref bs), .val (.int n3), .val (.ref ar), .val (.int dc), .val (.ref sx), .val (.ref x0)] [(.ref x0), (.ref x0)])) (fun _ k => ?_) ?_
        · show Steps p.tables e below (T36.setTop (mkF m 432 #[.val (.int p1), .val (.int p2), .val (.int p3), .val (.int p4), .val (.long p5), .second, .val (.int (p1 &&& (3 : Int32))), .val (.int (((p1.toUInt32 >>> ((2 : Int32) &&& 31).toUInt32).toInt32) &&& (3 : Int32))), .val (.ref bs), .val (.int n3), .val (.ref ar), .val (.int dc), .val (.ref sx), .val (.ref x0)] [(.ref x0)])) _
          refine XS.aload X36.here hx rfl (hb hby at_432) rfl rfl ?_
          show Steps p.tables e below (T36.setTop (mkF m 434 #[.val (.int p1), .val (.int p2), .val (.int p3), .val (.int p4), .val (.long p5), .second, .val (.int (p1 &&& (3 : Int32))), .val (.int (((p1.toUInt32 >>> ((2 : Int32) &&& 31).toUInt32).toInt32) &&& (3 : Int32))), .val (.ref bs), .val (.int n3), .val (.ref ar), .val (.int dc), .val (.ref sx), .val (.ref x0)] [(.ref x0), (.ref x0)])) _
          exact k
        refine OEndsW.go (t' := T36.setTop (mkF m 437 #[.val (.int p1), .val (.int p2), .val (.int p3), .val (.int p4), .val (.long p5), .second, .val (.int (p1 &&& (3 : Int32))), .val (.int (((p1.toUInt32 >>> ((2 : Int32) &&& 31).toUInt32).toInt32) &&& (3 : Int32))), .val (.ref bs), .val (.int n3), .val (.ref ar), .val (.int dc), .val (.ref sx), .val (.ref x0)] [])) (fun _ k => Jvm.RoadKit.acmp (g := (mkF m 434 #[.val (.int p1), .val (.int p2), .val (.int p3), .val (.int p4), .val (.long p5), .second, .val (.int (p1 &&& (3 : Int32))), .val (.int (((p1.toUInt32 >>> ((2 : Int32) &&& 31).toUInt32).toInt32) &&& (3 : Int32))), .val (.ref bs), .val (.int n3), .val (.ref ar), .val (.int dc), .val (.ref sx), .val (.ref x0)] [(.ref x0), (.ref x0)])) X36 hx rfl rfl rfl (pc0 := 434) (pc' := 437) (same := true) rfl (hb hby at_434) rfl (decide_eq_true rfl) (by decide) (by decide) k) ?_
        refine OEndsW.go (t' := T36.setTop (mkF m 442 #[.val (.int p1), .val (.int p2), .val (.int p3), .val (.int p4), .val (.long p5), .second, .val (.int (p1 &&& (3 : Int32))), .val (.int (((p1.toUInt32 >>> ((2 : Int32) &&& 31).toUInt32).toInt32) &&& (3 : Int32))), .val (.ref bs), .val (.int n3), .val (.ref ar), .val (.int dc), .val (.ref sx), .val (.ref x0)] [(.int (1 : Int32))])) (fun _ k => ?_) ?_
        · show Steps p.tables e below (T36.setTop (mkF m 437 #[.val (.int p1), .val (.int p2), .val (.int p3), .val (.int p4), .val (.long p5), .second, .val (.int (p1 &&& (3 : Int32))), .val (.int (((p1.toUInt32 >>> ((2 : Int32) &&& 31).toUInt32).toInt32) &&& (3 : Int32))), .val (.ref bs), .val (.int n3), .val (.ref ar), .val (.int dc), .val (.ref sx), .val (.ref x0)] [])) _
          refine XS.iconst X36.here hx rfl (hb hby at_437) ?_
          show Steps p.tables e below (T36.setTop (mkF m 438 #[.val (.int p1), .val (.int p2), .val (.int p3), .val (.int p4), .val (.long p5), .second, .val (.int (p1 &&& (3 : Int32))), .val (.int (((p1.toUInt32 >>> ((2 : Int32) &&& 31).toUInt32).toInt32) &&& (3 : Int32))), .val (.ref bs), .val (.int n3), .val (.ref ar), .val (.int dc), .val (.ref sx), .val (.ref x0)] [(.int (1 : Int32))])) _
          refine XS.goto X36.here hx rfl (pc0 := 438) (pc' := 442) rfl (hb hby at_438) (by decide) (by decide) ?_
          show Steps p.tables e below (T36.setTop (mkF m 442 #[.val (.int p1), .val (.int p2), .val (.int p3), .val (.int p4), .val (.long p5), .second, .val (.int (p1 &&& (3 : Int32))), .val (.int (((p1.toUInt32 >>> ((2 : Int32) &&& 31).toUInt32).toInt32) &&& (3 : Int32))), .val (.ref bs), .val (.int n3), .val (.ref ar), .val (.int dc), .val (.ref sx), .val (.ref x0)] [(.int (1 : Int32))])) _
          exact k
        refine OEndsW.back X36 hS20 hk36 hlk (v := (some (.int (1 : Int32)))) (fun h => by rw [hrt] at h; cases h) (fun fs hr => ?_) ?_ (by decide) (by decide)
        · exact retN X36 hx (t := .boolean) hrt (by simp) (hb hby at_442) hr
        · show Q0 Z p1 p2 p3 p4 p5 x0 x1 x2 x3 va s_EB b_EB k_EB s_TFC_TFC b_TFC_TFC k_TFC_TFC s_LXC_LTC b_LXC_LTC k_LXC_LTC s_LNU_LTU b_LNU_LTU k_LNU_LTU w1 fv h0 n0 _ T36.heap T36.vm _
          exact ⟨rfl, N36⟩
    have hnz : nn ≠ 0 := by rcases hn2 with q | q <;> rw [q] <;> decide
    refine OEndsW.go (t' := T18.setTop (mkF m 156 #[.val (.int p1), .val (.int p2), .val (.int p3), .val (.int p4), .val (.long p5), .second, .val (.int (p1 &&& (3 : Int32))), .val (.int (((p1.toUInt32 >>> ((2 : Int32) &&& 31).toUInt32).toInt32) &&& (3 : Int32))), .val (.ref bs), .val (.int nn), .val (.ref ar), .val (.int dc), .unset, .unset] [(.int (1 : Int32)), (.int (((p1.toUInt32 >>> ((2 : Int32) &&& 31).toUInt32).toInt32) &&& (3 : Int32)))])) (fun _ k => ?_) ?_
    · show Steps p.tables e below (T18.setTop (mkF m 153 #[.val (.int p1), .val (.int p2), .val (.int p3), .val (.int p4), .val (.long p5), .second, .val (.int (p1 &&& (3 : Int32))), .val (.int (((p1.toUInt32 >>> ((2 : Int32) &&& 31).toUInt32).toInt32) &&& (3 : Int32))), .val (.ref bs), .val (.int nn), .val (.ref ar), .val (.int dc), .unset, .unset] [])) _
      refine XS.iload X18.here hx rfl (hb hby at_153) rfl ?_
      show Steps p.tables e below (T18.setTop (mkF m 155 #[.val (.int p1), .val (.int p2), .val (.int p3), .val (.int p4), .val (.long p5), .second, .val (.int (p1 &&& (3 : Int32))), .val (.int (((p1.toUInt32 >>> ((2 : Int32) &&& 31).toUInt32).toInt32) &&& (3 : Int32))), .val (.ref bs), .val (.int nn), .val (.ref ar), .val (.int dc), .unset, .unset] [(.int (((p1.toUInt32 >>> ((2 : Int32) &&& 31).toUInt32).toInt32) &&& (3 : Int32)))])) _
      refine XS.iconst X18.here hx rfl (hb hby at_155) ?_
      show Steps p.tables e below (T18.setTop (mkF m 156 #[.val (.int p1), .val (.int p2), .val (.int p3), .val (.int p4), .val (.long p5), .second, .val (.int (p1 &&& (3 : Int32))), .val (.int (((p1.toUInt32 >>> ((2 : Int32) &&& 31).toUInt32).toInt32) &&& (3 : Int32))), .val (.ref bs), .val (.int nn), .val (.ref ar), .val (.int dc), .unset, .unset] [(.int (1 : Int32)), (.int (((p1.toUInt32 >>> ((2 : Int32) &&& 31).toUInt32).toInt32) &&& (3 : Int32)))])) _
      exact k
    by_cases m1 : (((p1.toUInt32 >>> ((2 : Int32) &&& 31).toUInt32).toInt32) &&& (3 : Int32)) = (1 : Int32)
    · refine OEndsW.go (t' := T18.setTop (mkF m 159 #[.val (.int p1), .val (.int p2), .val (.int p3), .val (.int p4), .val (.long p5), .second, .val (.int (p1 &&& (3 : Int32))), .val (.int (((p1.toUInt32 >>> ((2 : Int32) &&& 31).toUInt32).toInt32) &&& (3 : Int32))), .val (.ref bs), .val (.int nn), .val (.ref ar), .val (.int dc), .unset, .unset] [])) (fun _ k => XS.icmpNo X18.here hx rfl (hb hby at_156) rfl (teq m1).2 k) ?_
      have hpm := own_mod p2 nn (by rcases hn2 with q | q <;> rw [q] <;> decide)
      have hp8 : nn.toInt ≤ 7 := by rcases hn2 with q | q <;> rw [q] <;> decide
      refine OEndsW.go (t' := T18.setTop (mkF m 174 #[.val (.int p1), .val (.int p2), .val (.int p3), .val (.int p4), .val (.long p5), .second, .val (.int (p1 &&& (3 : Int32))), .val (.int (((p1.toUInt32 >>> ((2 : Int32) &&& 31).toUInt32).toInt32) &&& (3 : Int32))), .val (.ref bs), .val (.int nn), .val (.ref ar), .val (.int dc), .val (.int ((p2 &&& (2147483647 : Int32)) % nn)), .unset] [(.int dc), (.int ((p2 &&& (2147483647 : Int32)) % nn)), (.ref ar)])) (fun _ k => ?_) ?_
      · show Steps p.tables e below (T18.setTop (mkF m 159 #[.val (.int p1), .val (.int p2), .val (.int p3), .val (.int p4), .val (.long p5), .second, .val (.int (p1 &&& (3 : Int32))), .val (.int (((p1.toUInt32 >>> ((2 : Int32) &&& 31).toUInt32).toInt32) &&& (3 : Int32))), .val (.ref bs), .val (.int nn), .val (.ref ar), .val (.int dc), .unset, .unset] [])) _
        refine XS.iloadN X18.here hx rfl (hb hby at_159) rfl ?_
        show Steps p.tables e below (T18.setTop (mkF m 160 #[.val (.int p1), .val (.int p2), .val (.int p3), .val (.int p4), .val (.long p5), .second, .val (.int (p1 &&& (3 : Int32))), .val (.int (((p1.toUInt32 >>> ((2 : Int32) &&& 31).toUInt32).toInt32) &&& (3 : Int32))), .val (.ref bs), .val (.int nn), .val (.ref ar), .val (.int dc), .unset, .unset] [(.int p2)])) _
        refine X18.ldcInt hx hown (mvT hZ (hw _ (List.mem_of_getElem? (i := 109) rfl))) (g := (mkF m 160 #[.val (.int p1), .val (.int p2), .val (.int p3), .val (.int p4), .val (.long p5), .second, .val (.int (p1 &&& (3 : Int32))), .val (.int (((p1.toUInt32 >>> ((2 : Int32) &&& 31).toUInt32).toInt32) &&& (3 : Int32))), .val (.ref bs), .val (.int nn), .val (.ref ar), .val (.int dc), .unset, .unset] [(.int p2)])) rfl (hb hby at_160) _ ?_
        show Steps p.tables e below (T18.setTop (mkF m 162 #[.val (.int p1), .val (.int p2), .val (.int p3), .val (.int p4), .val (.long p5), .second, .val (.int (p1 &&& (3 : Int32))), .val (.int (((p1.toUInt32 >>> ((2 : Int32) &&& 31).toUInt32).toInt32) &&& (3 : Int32))), .val (.ref bs), .val (.int nn), .val (.ref ar), .val (.int dc), .unset, .unset] [(.int (2147483647 : Int32)), (.int p2)])) _
        refine XS.iand X18.here hx rfl (hb hby at_162) rfl ?_
        show Steps p.tables e below (T18.setTop (mkF m 163 #[.val (.int p1), .val (.int p2), .val (.int p3), .val (.int p4), .val (.long p5), .second, .val (.int (p1 &&& (3 : Int32))), .val (.int (((p1.toUInt32 >>> ((2 : Int32) &&& 31).toUInt32).toInt32) &&& (3 : Int32))), .val (.ref bs), .val (.int nn), .val (.ref ar), .val (.int dc), .unset, .unset] [(.int (p2 &&& (2147483647 : Int32)))])) _
        refine XS.iload X18.here hx rfl (hb hby at_163) rfl ?_
        show Steps p.tables e below (T18.setTop (mkF m 165 #[.val (.int p1), .val (.int p2), .val (.int p3), .val (.int p4), .val (.long p5), .second, .val (.int (p1 &&& (3 : Int32))), .val (.int (((p1.toUInt32 >>> ((2 : Int32) &&& 31).toUInt32).toInt32) &&& (3 : Int32))), .val (.ref bs), .val (.int nn), .val (.ref ar), .val (.int dc), .unset, .unset] [(.int nn), (.int (p2 &&& (2147483647 : Int32)))])) _
        refine iremM X18 hx rfl (hb hby at_165) rfl hnz ?_
        show Steps p.tables e below (T18.setTop (mkF m 166 #[.val (.int p1), .val (.int p2), .val (.int p3), .val (.int p4), .val (.long p5), .second, .val (.int (p1 &&& (3 : Int32))), .val (.int (((p1.toUInt32 >>> ((2 : Int32) &&& 31).toUInt32).toInt32) &&& (3 : Int32))), .val (.ref bs), .val (.int nn), .val (.ref ar), .val (.int dc), .unset, .unset] [(.int ((p2 &&& (2147483647 : Int32)) % nn))])) _
        refine XS.istore X18.here hx rfl (hb hby at_166) rfl (l' := #[.val (.int p1), .val (.int p2), .val (.int p3), .val (.int p4), .val (.long p5), .second, .val (.int (p1 &&& (3 : Int32))), .val (.int (((p1.toUInt32 >>> ((2 : Int32) &&& 31).toUInt32).toInt32) &&& (3 : Int32))), .val (.ref bs), .val (.int nn), .val (.ref ar), .val (.int dc), .val (.int ((p2 &&& (2147483647 : Int32)) % nn)), .unset]) rfl ?_
        show Steps p.tables e below (T18.setTop (mkF m 168 #[.val (.int p1), .val (.int p2), .val (.int p3), .val (.int p4), .val (.long p5), .second, .val (.int (p1 &&& (3 : Int32))), .val (.int (((p1.toUInt32 >>> ((2 : Int32) &&& 31).toUInt32).toInt32) &&& (3 : Int32))), .val (.ref bs), .val (.int nn), .val (.ref ar), .val (.int dc), .val (.int ((p2 &&& (2147483647 : Int32)) % nn)), .unset] [])) _
        refine XS.aload X18.here hx rfl (hb hby at_168) rfl rfl ?_
        show Steps p.tables e below (T18.setTop (mkF m 170 #[.val (.int p1), .val (.int p2), .val (.int p3), .val (.int p4), .val (.long p5), .second, .val (.int (p1 &&& (3 : Int32))), .val (.int (((p1.toUInt32 >>> ((2 : Int32) &&& 31).toUInt32).toInt32) &&& (3 : Int32))), .val (.ref bs), .val (.int nn), .val (.ref ar), .val (.int dc), .val (.int ((p2 &&& (2147483647 : Int32)) % nn)), .unset] [(.ref ar)])) _
        refine XS.iload X18.here hx rfl (hb hby at_170) rfl ?_
        show Steps p.tables e below (T18.setTop (mkF m 172 #[.val (.int p1), .val (.int p2), .val (.int p3), .val (.int p4), .val (.long p5), .second, .val (.int (p1 &&& (3 : Int32))), .val (.int (((p1.toUInt32 >>> ((2 : Int32) &&& 31).toUInt32).toInt32) &&& (3 : Int32))), .val (.ref bs), .val (.int nn), .val (.ref ar), .val (.int dc), .val (.int ((p2 &&& (2147483647 : Int32)) % nn)), .unset] [(.int ((p2 &&& (2147483647 : Int32)) % nn)), (.ref ar)])) _
        refine XS.iload X18.here hx rfl (hb hby at_172) rfl ?_
        show Steps p.tables e below (T18.setTop (mkF m 174 #[.val (.int p1), .val (.int p2), .val (.int p3), .val (.int p4), .val (.long p5), .second, .val (.int (p1 &&& (3 : Int32))), .val (.int (((p1.toUInt32 >>> ((2 : Int32) &&& 31).toUInt32).toInt32) &&& (3 : Int32))), .val (.ref bs), .val (.int nn), .val (.ref ar), .val (.int dc), .val (.int ((p2 &&& (2147483647 : Int32)) % nn)), .unset] [(.int dc), (.int ((p2 &&& (2147483647 : Int32)) % nn)), (.ref ar)])) _
        exact k
      obtain ⟨cl37, Ar37, hin37, -⟩ := V_ar.inb (j := ((p2 &&& (2147483647 : Int32)) % nn)) ⟨own_nlt hpm.1, own_lt8 (by omega)⟩
      obtain ⟨T37, h37, X37, e37, W37, st37⟩ := stC X18 hx hZ e18 Ar37 (j := ((p2 &&& (2147483647 : Int32)) % nn)) hin37 (g := (mkF m 174 #[.val (.int p1), .val (.int p2), .val (.int p3), .val (.int p4), .val (.long p5), .second, .val (.int (p1 &&& (3 : Int32))), .val (.int (((p1.toUInt32 >>> ((2 : Int32) &&& 31).toUInt32).toInt32) &&& (3 : Int32))), .val (.ref bs), .val (.int nn), .val (.ref ar), .val (.int dc), .val (.int ((p2 &&& (2147483647 : Int32)) % nn)), .unset] [(.int dc), (.int ((p2 &&& (2147483647 : Int32)) % nn)), (.ref ar)])) rfl rfl (hb hby at_174)
      have N37 := Fr.snoc X37 N18 g_ar
      have hzt := hzt.wr W37 g_ar
      have Z37 : n0 ≤ h37.size := Nat.le_trans Z18 (Keep.of_wr W37).1
      have hk37 := Nat.le_trans hk18 (Keep.of_wr W37).1
      have K37 := K18.wr W37 (Or.inr sz_ar)
      have V_ar := V_ar.put W37 (own_narB hdb)
      refine OEndsW.go (t' := T37.setTop (mkF m 175 #[.val (.int p1), .val (.int p2), .val (.int p3), .val (.int p4), .val (.long p5), .second, .val (.int (p1 &&& (3 : Int32))), .val (.int (((p1.toUInt32 >>> ((2 : Int32) &&& 31).toUInt32).toInt32) &&& (3 : Int32))), .val (.ref bs), .val (.int nn), .val (.ref ar), .val (.int dc), .val (.int ((p2 &&& (2147483647 : Int32)) % nn)), .unset] [])) (fun _ k => st37 _ k) ?_
      refine OEndsW.go (t' := T37.setTop (mkF m 351 #[.val (.int p1), .val (.int p2), .val (.int p3), .val (.int p4), .val (.long p5), .second, .val (.int (p1 &&& (3 : Int32))), .val (.int (((p1.toUInt32 >>> ((2 : Int32) &&& 31).toUInt32).toInt32) &&& (3 : Int32))), .val (.ref bs), .val (.int nn), .val (.ref ar), .val (.int dc), .val (.int ((p2 &&& (2147483647 : Int32)) % nn)), .unset] [])) (fun _ k => ?_) ?_
      · show Steps p.tables e below (T37.setTop (mkF m 175 #[.val (.int p1), .val (.int p2), .val (.int p3), .val (.int p4), .val (.long p5), .second, .val (.int (p1 &&& (3 : Int32))), .val (.int (((p1.toUInt32 >>> ((2 : Int32) &&& 31).toUInt32).toInt32) &&& (3 : Int32))), .val (.ref bs), .val (.int nn), .val (.ref ar), .val (.int dc), .val (.int ((p2 &&& (2147483647 : Int32)) % nn)), .unset] [])) _
        refine XS.goto X37.here hx rfl (pc0 := 175) (pc' := 351) rfl (hb hby at_175) (by decide) (by decide) ?_
        show Steps p.tables e below (T37.setTop (mkF m 351 #[.val (.int p1), .val (.int p2), .val (.int p3), .val (.int p4), .val (.long p5), .second, .val (.int (p1 &&& (3 : Int32))), .val (.int (((p1.toUInt32 >>> ((2 : Int32) &&& 31).toUInt32).toInt32) &&& (3 : Int32))), .val (.ref bs), .val (.int nn), .val (.ref ar), .val (.int dc), .val (.int ((p2 &&& (2147483647 : Int32)) % nn)), .unset] [])) _
        exact k
      exact K351 _ _ _ X37 e37 N37 Z37 _ _ hzt V_ar K37 (Or.inr ⟨_, rfl⟩)
    · refine OEndsW.go (t' := T18.setTop (mkF m 178 #[.val (.int p1), .val (.int p2), .val (.int p3), .val (.int p4), .val (.long p5), .second, .val (.int (p1 &&& (3 : Int32))), .val (.int (((p1.toUInt32 >>> ((2 : Int32) &&& 31).toUInt32).toInt32) &&& (3 : Int32))), .val (.ref bs), .val (.int nn), .val (.ref ar), .val (.int dc), .unset, .unset] [])) (fun _ k => XS.icmpYes X18.here hx rfl (pc0 := 156) (pc' := 178) rfl (hb hby at_156) rfl (feq m1).2 (by decide) (by decide) k) ?_
      refine OEndsW.go (t' := T18.setTop (mkF m 181 #[.val (.int p1), .val (.int p2), .val (.int p3), .val (.int p4), .val (.long p5), .second, .val (.int (p1 &&& (3 : Int32))), .val (.int (((p1.toUInt32 >>> ((2 : Int32) &&& 31).toUInt32).toInt32) &&& (3 : Int32))), .val (.ref bs), .val (.int nn), .val (.ref ar), .val (.int dc), .unset, .unset] [(.int (2 : Int32)), (.int (((p1.toUInt32 >>> ((2 : Int32) &&& 31).toUInt32).toInt32) &&& (3 : Int32)))])) (fun _ k => ?_) ?_
      · show Steps p.tables e below (T18.setTop (mkF m 178 #[.val (.int p1), .val (.int p2), .val (.int p3), .val (.int p4), .val (.long p5), .second, .val (.int (p1 &&& (3 : Int32))), .val (.int (((p1.toUInt32 >>> ((2 : Int32) &&& 31).toUInt32).toInt32) &&& (3 : Int32))), .val (.ref bs), .val (.int nn), .val (.ref ar), .val (.int dc), .unset, .unset] [])) _
        refine XS.iload X18.here hx rfl (hb hby at_178) rfl ?_
        show Steps p.tables e below (T18.setTop (mkF m 180 #[.val (.int p1), .val (.int p2), .val (.int p3), .val (.int p4), .val (.long p5), .second, .val (.int (p1 &&& (3 : Int32))), .val (.int (((p1.toUInt32 >>> ((2 : Int32) &&& 31).toUInt32).toInt32) &&& (3 : Int32))), .val (.ref bs), .val (.int nn), .val (.ref ar), .val (.int dc), .unset, .unset] [(.int (((p1.toUInt32 >>> ((2 : Int32) &&& 31).toUInt32).toInt32) &&& (3 : Int32)))])) _
        refine XS.iconst X18.here hx rfl (hb hby at_180) ?_
        show Steps p.tables e below (T18.setTop (mkF m 181 #[.val (.int p1), .val (.int p2), .val (.int p3), .val (.int p4), .val (.long p5), .second, .val (.int (p1 &&& (3 : Int32))), .val (.int (((p1.toUInt32 >>> ((2 : Int32) &&& 31).toUInt32).toInt32) &&& (3 : Int32))), .val (.ref bs), .val (.int nn), .val (.ref ar), .val (.int dc), .unset, .unset] [(.int (2 : Int32)), (.int (((p1.toUInt32 >>> ((2 : Int32) &&& 31).toUInt32).toInt32) &&& (3 : Int32)))])) _
        exact k
      by_cases m2 : (((p1.toUInt32 >>> ((2 : Int32) &&& 31).toUInt32).toInt32) &&& (3 : Int32)) = (2 : Int32)
      · refine OEndsW.go (t' := T18.setTop (mkF m 184 #[.val (.int p1), .val (.int p2), .val (.int p3), .val (.int p4), .val (.long p5), .second, .val (.int (p1 &&& (3 : Int32))), .val (.int (((p1.toUInt32 >>> ((2 : Int32) &&& 31).toUInt32).toInt32) &&& (3 : Int32))), .val (.ref bs), .val (.int nn), .val (.ref ar), .val (.int dc), .unset, .unset] [])) (fun _ k => XS.icmpNo X18.here hx rfl (hb hby at_181) rfl (teq m2).2 k) ?_
        refine OEndsW.go (t' := T18.setTop (mkF m 204 #[.val (.int p1), .val (.int p2), .val (.int p3), .val (.int p4), .val (.long p5), .second, .val (.int (p1 &&& (3 : Int32))), .val (.int (((p1.toUInt32 >>> ((2 : Int32) &&& 31).toUInt32).toInt32) &&& (3 : Int32))), .val (.ref bs), .val (.int ((p4 &&& (2147483647 : Int32)) % (9 : Int32))), .val (.ref ar), .val (.int dc), .unset, .unset] [(.int (((p5 &&& (255 : Int64)).toInt32).toUInt32.toUInt16.toUInt32.toInt32)), (.int (0 : Int32)), (.ref ar)])) (fun _ k => ?_) ?_
        · show Steps p.tables e below (T18.setTop (mkF m 184 #[.val (.int p1), .val (.int p2), .val (.int p3), .val (.int p4), .val (.long p5), .second, .val (.int (p1 &&& (3 : Int32))), .val (.int (((p1.toUInt32 >>> ((2 : Int32) &&& 31).toUInt32).toInt32) &&& (3 : Int32))), .val (.ref bs), .val (.int nn), .val (.ref ar), .val (.int dc), .unset, .unset] [])) _
          refine XS.iloadN X18.here hx rfl (hb hby at_184) rfl ?_
          show Steps p.tables e below (T18.setTop (mkF m 185 #[.val (.int p1), .val (.int p2), .val (.int p3), .val (.int p4), .val (.long p5), .second, .val (.int (p1 &&& (3 : Int32))), .val (.int (((p1.toUInt32 >>> ((2 : Int32) &&& 31).toUInt32).toInt32) &&& (3 : Int32))), .val (.ref bs), .val (.int nn), .val (.ref ar), .val (.int dc), .unset, .unset] [(.int p4)])) _
          refine X18.ldcInt hx hown (mvT hZ (hw _ (List.mem_of_getElem? (i := 109) rfl))) (g := (mkF m 185 #[.val (.int p1), .val (.int p2), .val (.int p3), .val (.int p4), .val (.long p5), .second, .val (.int (p1 &&& (3 : Int32))), .val (.int (((p1.toUInt32 >>> ((2 : Int32) &&& 31).toUInt32).toInt32) &&& (3 : Int32))), .val (.ref bs), .val (.int nn), .val (.ref ar), .val (.int dc), .unset, .unset] [(.int p4)])) rfl (hb hby at_185) _ ?_
          show Steps p.tables e below (T18.setTop (mkF m 187 #[.val (.int p1), .val (.int p2), .val (.int p3), .val (.int p4), .val (.long p5), .second, .val (.int (p1 &&& (3 : Int32))), .val (.int (((p1.toUInt32 >>> ((2 : Int32) &&& 31).toUInt32).toInt32) &&& (3 : Int32))), .val (.ref bs), .val (.int nn), .val (.ref ar), .val (.int dc), .unset, .unset] [(.int (2147483647 : Int32)), (.int p4)])) _
          refine XS.iand X18.here hx rfl (hb hby at_187) rfl ?_
          show Steps p.tables e below (T18.setTop (mkF m 188 #[.val (.int p1), .val (.int p2), .val (.int p3), .val (.int p4), .val (.long p5), .second, .val (.int (p1 &&& (3 : Int32))), .val (.int (((p1.toUInt32 >>> ((2 : Int32) &&& 31).toUInt32).toInt32) &&& (3 : Int32))), .val (.ref bs), .val (.int nn), .val (.ref ar), .val (.int dc), .unset, .unset] [(.int (p4 &&& (2147483647 : Int32)))])) _
          refine XS.bipush X18.here hx rfl (hb hby at_188) ?_
          show Steps p.tables e below (T18.setTop (mkF m 190 #[.val (.int p1), .val (.int p2), .val (.int p3), .val (.int p4), .val (.long p5), .second, .val (.int (p1 &&& (3 : Int32))), .val (.int (((p1.toUInt32 >>> ((2 : Int32) &&& 31).toUInt32).toInt32) &&& (3 : Int32))), .val (.ref bs), .val (.int nn), .val (.ref ar), .val (.int dc), .unset, .unset] [(.int (9 : Int32)), (.int (p4 &&& (2147483647 : Int32)))])) _
          refine iremM X18 hx rfl (hb hby at_190) rfl (by decide) ?_
          show Steps p.tables e below (T18.setTop (mkF m 191 #[.val (.int p1), .val (.int p2), .val (.int p3), .val (.int p4), .val (.long p5), .second, .val (.int (p1 &&& (3 : Int32))), .val (.int (((p1.toUInt32 >>> ((2 : Int32) &&& 31).toUInt32).toInt32) &&& (3 : Int32))), .val (.ref bs), .val (.int nn), .val (.ref ar), .val (.int dc), .unset, .unset] [(.int ((p4 &&& (2147483647 : Int32)) % (9 : Int32)))])) _
          refine XS.istore X18.here hx rfl (hb hby at_191) rfl (l' := #[.val (.int p1), .val (.int p2), .val (.int p3), .val (.int p4), .val (.long p5), .second, .val (.int (p1 &&& (3 : Int32))), .val (.int (((p1.toUInt32 >>> ((2 : Int32) &&& 31).toUInt32).toInt32) &&& (3 : Int32))), .val (.ref bs), .val (.int ((p4 &&& (2147483647 : Int32)) % (9 : Int32))), .val (.ref ar), .val (.int dc), .unset, .unset]) rfl ?_
          show Steps p.tables e below (T18.setTop (mkF m 193 #[.val (.int p1), .val (.int p2), .val (.int p3), .val (.int p4), .val (.long p5), .second, .val (.int (p1 &&& (3 : Int32))), .val (.int (((p1.toUInt32 >>> ((2 : Int32) &&& 31).toUInt32).toInt32) &&& (3 : Int32))), .val (.ref bs), .val (.int ((p4 &&& (2147483647 : Int32)) % (9 : Int32))), .val (.ref ar), .val (.int dc), .unset, .unset] [])) _
          refine XS.aload X18.here hx rfl (hb hby at_193) rfl rfl ?_
          show Steps p.tables e below (T18.setTop (mkF m 195 #[.val (.int p1), .val (.int p2), .val (.int p3), .val (.int p4), .val (.long p5), .second, .val (.int (p1 &&& (3 : Int32))), .val (.int (((p1.toUInt32 >>> ((2 : Int32) &&& 31).toUInt32).toInt32) &&& (3 : Int32))), .val (.ref bs), .val (.int ((p4 &&& (2147483647 : Int32)) % (9 : Int32))), .val (.ref ar), .val (.int dc), .unset, .unset] [(.ref ar)])) _
          refine XS.iconst X18.here hx rfl (hb hby at_195) ?_
          show Steps p.tables e below (T18.setTop (mkF m 196 #[.val (.int p1), .val (.int p2), .val (.int p3), .val (.int p4), .val (.long p5), .second, .val (.int (p1 &&& (3 : Int32))), .val (.int (((p1.toUInt32 >>> ((2 : Int32) &&& 31).toUInt32).toInt32) &&& (3 : Int32))), .val (.ref bs), .val (.int ((p4 &&& (2147483647 : Int32)) % (9 : Int32))), .val (.ref ar), .val (.int dc), .unset, .unset] [(.int (0 : Int32)), (.ref ar)])) _
          refine XS.lload X18.here hx rfl (hb hby at_196) rfl ?_
          show Steps p.tables e below (T18.setTop (mkF m 198 #[.val (.int p1), .val (.int p2), .val (.int p3), .val (.int p4), .val (.long p5), .second, .val (.int (p1 &&& (3 : Int32))), .val (.int (((p1.toUInt32 >>> ((2 : Int32) &&& 31).toUInt32).toInt32) &&& (3 : Int32))), .val (.ref bs), .val (.int ((p4 &&& (2147483647 : Int32)) % (9 : Int32))), .val (.ref ar), .val (.int dc), .unset, .unset] [(.long p5), (.int (0 : Int32)), (.ref ar)])) _
          refine X18.ldc2Long hx hown (mvT hZ (hw _ (List.mem_of_getElem? (i := 110) rfl))) (g := (mkF m 198 #[.val (.int p1), .val (.int p2), .val (.int p3), .val (.int p4), .val (.long p5), .second, .val (.int (p1 &&& (3 : Int32))), .val (.int (((p1.toUInt32 >>> ((2 : Int32) &&& 31).toUInt32).toInt32) &&& (3 : Int32))), .val (.ref bs), .val (.int ((p4 &&& (2147483647 : Int32)) % (9 : Int32))), .val (.ref ar), .val (.int dc), .unset, .unset] [(.long p5), (.int (0 : Int32)), (.ref ar)])) rfl (hb hby at_198) _ ?_
          show Steps p.tables e below (T18.setTop (mkF m 201 #[.val (.int p1), .val (.int p2), .val (.int p3), .val (.int p4), .val (.long p5), .second, .val (.int (p1 &&& (3 : Int32))), .val (.int (((p1.toUInt32 >>> ((2 : Int32) &&& 31).toUInt32).toInt32) &&& (3 : Int32))), .val (.ref bs), .val (.int ((p4 &&& (2147483647 : Int32)) % (9 : Int32))), .val (.ref ar), .val (.int dc), .unset, .unset] [(.long (255 : Int64)), (.long p5), (.int (0 : Int32)), (.ref ar)])) _
          refine XS.land X18.here hx rfl (hb hby at_201) rfl ?_
          show Steps p.tables e below (T18.setTop (mkF m 202 #[.val (.int p1), .val (.int p2), .val (.int p3), .val (.int p4), .val (.long p5), .second, .val (.int (p1 &&& (3 : Int32))), .val (.int (((p1.toUInt32 >>> ((2 : Int32) &&& 31).toUInt32).toInt32) &&& (3 : Int32))), .val (.ref bs), .val (.int ((p4 &&& (2147483647 : Int32)) % (9 : Int32))), .val (.ref ar), .val (.int dc), .unset, .unset] [(.long (p5 &&& (255 : Int64))), (.int (0 : Int32)), (.ref ar)])) _
          refine XS.l2i X18.here hx rfl (hb hby at_202) rfl ?_
          show Steps p.tables e below (T18.setTop (mkF m 203 #[.val (.int p1), .val (.int p2), .val (.int p3), .val (.int p4), .val (.long p5), .second, .val (.int (p1 &&& (3 : Int32))), .val (.int (((p1.toUInt32 >>> ((2 : Int32) &&& 31).toUInt32).toInt32) &&& (3 : Int32))), .val (.ref bs), .val (.int ((p4 &&& (2147483647 : Int32)) % (9 : Int32))), .val (.ref ar), .val (.int dc), .unset, .unset] [(.int ((p5 &&& (255 : Int64)).toInt32)), (.int (0 : Int32)), (.ref ar)])) _
          refine XS.i2c X18.here hx rfl (hb hby at_203) rfl ?_
          show Steps p.tables e below (T18.setTop (mkF m 204 #[.val (.int p1), .val (.int p2), .val (.int p3), .val (.int p4), .val (.long p5), .second, .val (.int (p1 &&& (3 : Int32))), .val (.int (((p1.toUInt32 >>> ((2 : Int32) &&& 31).toUInt32).toInt32) &&& (3 : Int32))), .val (.ref bs), .val (.int ((p4 &&& (2147483647 : Int32)) % (9 : Int32))), .val (.ref ar), .val (.int dc), .unset, .unset] [(.int (((p5 &&& (255 : Int64)).toInt32).toUInt32.toUInt16.toUInt32.toInt32)), (.int (0 : Int32)), (.ref ar)])) _
          exact k
        obtain ⟨cl38, Ar38, hin38, -⟩ := V_ar.inb (j := 0) ⟨by decide, by decide⟩
        obtain ⟨T38, h38, X38, e38, W38, st38⟩ := stC X18 hx hZ e18 Ar38 (j := (0 : Int32)) hin38 (g := (mkF m 204 #[.val (.int p1), .val (.int p2), .val (.int p3), .val (.int p4), .val (.long p5), .second, .val (.int (p1 &&& (3 : Int32))), .val (.int (((p1.toUInt32 >>> ((2 : Int32) &&& 31).toUInt32).toInt32) &&& (3 : Int32))), .val (.ref bs), .val (.int ((p4 &&& (2147483647 : Int32)) % (9 : Int32))), .val (.ref ar), .val (.int dc), .unset, .unset] [(.int (((p5 &&& (255 : Int64)).toInt32).toUInt32.toUInt16.toUInt32.toInt32)), (.int (0 : Int32)), (.ref ar)])) rfl rfl (hb hby at_204)
        have N38 := Fr.snoc X38 N18 g_ar
        have hzt := hzt.wr W38 g_ar
        have Z38 : n0 ≤ h38.size := Nat.le_trans Z18 (Keep.of_wr W38).1
        have hk38 := Nat.le_trans hk18 (Keep.of_wr W38).1
        have K38 := K18.wr W38 (Or.inr sz_ar)
        have V_ar := V_ar.put W38 (own_Bl _)
        refine OEndsW.go (t' := T38.setTop (mkF m 205 #[.val (.int p1), .val (.int p2), .val (.int p3), .val (.int p4), .val (.long p5), .second, .val (.int (p1 &&& (3 : Int32))), .val (.int (((p1.toUInt32 >>> ((2 : Int32) &&& 31).toUInt32).toInt32) &&& (3 : Int32))), .val (.ref bs), .val (.int ((p4 &&& (2147483647 : Int32)) % (9 : Int32))), .val (.ref ar), .val (.int dc), .unset, .unset] [])) (fun _ k => st38 _ k) ?_
        refine OEndsW.go (t' := T38.setTop (mkF m 219 #[.val (.int p1), .val (.int p2), .val (.int p3), .val (.int p4), .val (.long p5), .second, .val (.int (p1 &&& (3 : Int32))), .val (.int (((p1.toUInt32 >>> ((2 : Int32) &&& 31).toUInt32).toInt32) &&& (3 : Int32))), .val (.ref bs), .val (.int ((p4 &&& (2147483647 : Int32)) % (9 : Int32))), .val (.ref ar), .val (.int dc), .unset, .unset] [(.int (((((p5.toUInt64 >>> ((8 : Int32) &&& 0x3f).toInt64.toUInt64).toInt64) &&& (255 : Int64)).toInt32).toUInt32.toUInt16.toUInt32.toInt32)), (.int (1 : Int32)), (.ref ar)])) (fun _ k => ?_) ?_
        · show Steps p.tables e below (T38.setTop (mkF m 205 #[.val (.int p1), .val (.int p2), .val (.int p3), .val (.int p4), .val (.long p5), .second, .val (.int (p1 &&& (3 : Int32))), .val (.int (((p1.toUInt32 >>> ((2 : Int32) &&& 31).toUInt32).toInt32) &&& (3 : Int32))), .val (.ref bs), .val (.int ((p4 &&& (2147483647 : Int32)) % (9 : Int32))), .val (.ref ar), .val (.int dc), .unset, .unset] [])) _
          refine XS.aload X38.here hx rfl (hb hby at_205) rfl rfl ?_
          show Steps p.tables e below (T38.setTop (mkF m 207 #[.val (.int p1), .val (.int p2), .val (.int p3), .val (.int p4), .val (.long p5), .second, .val (.int (p1 &&& (3 : Int32))), .val (.int (((p1.toUInt32 >>> ((2 : Int32) &&& 31).toUInt32).toInt32) &&& (3 : Int32))), .val (.ref bs), .val (.int ((p4 &&& (2147483647 : Int32)) % (9 : Int32))), .val (.ref ar), .val (.int dc), .unset, .unset] [(.ref ar)])) _
          refine XS.iconst X38.here hx rfl (hb hby at_207) ?_
          show Steps p.tables e below (T38.setTop (mkF m 208 #[.val (.int p1), .val (.int p2), .val (.int p3), .val (.int p4), .val (.long p5), .second, .val (.int (p1 &&& (3 : Int32))), .val (.int (((p1.toUInt32 >>> ((2 : Int32) &&& 31).toUInt32).toInt32) &&& (3 : Int32))), .val (.ref bs), .val (.int ((p4 &&& (2147483647 : Int32)) % (9 : Int32))), .val (.ref ar), .val (.int dc), .unset, .unset] [(.int (1 : Int32)), (.ref ar)])) _
          refine XS.lload X38.here hx rfl (hb hby at_208) rfl ?_
          show Steps p.tables e below (T38.setTop (mkF m 210 #[.val (.int p1), .val (.int p2), .val (.int p3), .val (.int p4), .val (.long p5), .second, .val (.int (p1 &&& (3 : Int32))), .val (.int (((p1.toUInt32 >>> ((2 : Int32) &&& 31).toUInt32).toInt32) &&& (3 : Int32))), .val (.ref bs), .val (.int ((p4 &&& (2147483647 : Int32)) % (9 : Int32))), .val (.ref ar), .val (.int dc), .unset, .unset] [(.long p5), (.int (1 : Int32)), (.ref ar)])) _
          refine XS.bipush X38.here hx rfl (hb hby at_210) ?_
          show Steps p.tables e below (T38.setTop (mkF m 212 #[.val (.int p1), .val (.int p2), .val (.int p3), .val (.int p4), .val (.long p5), .second, .val (.int (p1 &&& (3 : Int32))), .val (.int (((p1.toUInt32 >>> ((2 : Int32) &&& 31).toUInt32).toInt32) &&& (3 : Int32))), .val (.ref bs), .val (.int ((p4 &&& (2147483647 : Int32)) % (9 : Int32))), .val (.ref ar), .val (.int dc), .unset, .unset] [(.int (8 : Int32)), (.long p5), (.int (1 : Int32)), (.ref ar)])) _
          refine XS.lushr X38.here hx rfl (hb hby at_212) rfl ?_
          show Steps p.tables e below (T38.setTop (mkF m 213 #[.val (.int p1), .val (.int p2), .val (.int p3), .val (.int p4), .val (.long p5), .second, .val (.int (p1 &&& (3 : Int32))), .val (.int (((p1.toUInt32 >>> ((2 : Int32) &&& 31).toUInt32).toInt32) &&& (3 : Int32))), .val (.ref bs), .val (.int ((p4 &&& (2147483647 : Int32)) % (9 : Int32))), .val (.ref ar), .val (.int dc), .unset, .unset] [(.long ((p5.toUInt64 >>> ((8 : Int32) &&& 0x3f).toInt64.toUInt64).toInt64)), (.int (1 : Int32)), (.ref ar)])) _
          refine X38.ldc2Long hx hown (mvT hZ (hw _ (List.mem_of_getElem? (i := 110) rfl))) (g := (mkF m 213 #[.val (.int p1), .val (.int p2), .val (.int p3), .val (.int p4), .val (.long p5), .second, .val (.int (p1 &&& (3 : Int32))), .val (.int (((p1.toUInt32 >>> ((2 : Int32) &&& 31).toUInt32).toInt32) &&& (3 : Int32))), .val (.ref bs), .val (.int ((p4 &&& (2147483647 : Int32)) % (9 : Int32))), .val (.ref ar), .val (.int dc), .unset, .unset] [(.long ((p5.toUInt64 >>> ((8 : Int32) &&& 0x3f).toInt64.toUInt64).toInt64)), (.int (1 : Int32)), (.ref ar)])) rfl (hb hby at_213) _ ?_
          show Steps p.tables e below (T38.setTop (mkF m 216 #[.val (.int p1), .val (.int p2), .val (.int p3), .val (.int p4), .val (.long p5), .second, .val (.int (p1 &&& (3 : Int32))), .val (.int (((p1.toUInt32 >>> ((2 : Int32) &&& 31).toUInt32).toInt32) &&& (3 : Int32))), .val (.ref bs), .val (.int ((p4 &&& (2147483647 : Int32)) % (9 : Int32))), .val (.ref ar), .val (.int dc), .unset, .unset] [(.long (255 : Int64)), (.long ((p5.toUInt64 >>> ((8 : Int32) &&& 0x3f).toInt64.toUInt64).toInt64)), (.int (1 : Int32)), (.ref ar)])) _
          refine XS.land X38.here hx rfl (hb hby at_216) rfl ?_
          show Steps p.tables e below (T38.setTop (mkF m 217 #[.val (.int p1), .val (.int p2), .val (.int p3), .val (.int p4), .val (.long p5), .second, .val (.int (p1 &&& (3 : Int32))), .val (.int (((p1.toUInt32 >>> ((2 : Int32) &&& 31).toUInt32).toInt32) &&& (3 : Int32))), .val (.ref bs), .val (.int ((p4 &&& (2147483647 : Int32)) % (9 : Int32))), .val (.ref ar), .val (.int dc), .unset, .unset] [(.long (((p5.toUInt64 >>> ((8 : Int32) &&& 0x3f).toInt64.toUInt64).toInt64) &&& (255 : Int64))), (.int (1 : Int32)), (.ref ar)])) _
          refine XS.l2i X38.here hx rfl (hb hby at_217) rfl ?_
          show Steps p.tables e below (T38.setTop (mkF m 218 #[.val (.int p1), .val (.int p2), .val (.int p3), .val (.int p4), .val (.long p5), .second, .val (.int (p1 &&& (3 : Int32))), .val (.int (((p1.toUInt32 >>> ((2 : Int32) &&& 31).toUInt32).toInt32) &&& (3 : Int32))), .val (.ref bs), .val (.int ((p4 &&& (2147483647 : Int32)) % (9 : Int32))), .val (.ref ar), .val (.int dc), .unset, .unset] [(.int ((((p5.toUInt64 >>> ((8 : Int32) &&& 0x3f).toInt64.toUInt64).toInt64) &&& (255 : Int64)).toInt32)), (.int (1 : Int32)), (.ref ar)])) _
          refine XS.i2c X38.here hx rfl (hb hby at_218) rfl ?_
          show Steps p.tables e below (T38.setTop (mkF m 219 #[.val (.int p1), .val (.int p2), .val (.int p3), .val (.int p4), .val (.long p5), .second, .val (.int (p1 &&& (3 : Int32))), .val (.int (((p1.toUInt32 >>> ((2 : Int32) &&& 31).toUInt32).toInt32) &&& (3 : Int32))), .val (.ref bs), .val (.int ((p4 &&& (2147483647 : Int32)) % (9 : Int32))), .val (.ref ar), .val (.int dc), .unset, .unset] [(.int (((((p5.toUInt64 >>> ((8 : Int32) &&& 0x3f).toInt64.toUInt64).toInt64) &&& (255 : Int64)).toInt32).toUInt32.toUInt16.toUInt32.toInt32)), (.int (1 : Int32)), (.ref ar)])) _
          exact k
        obtain ⟨cl39, Ar39, hin39, -⟩ := V_ar.inb (j := 1) ⟨by decide, by decide⟩
        obtain ⟨T39, h39, X39, e39, W39, st39⟩ := stC X38 hx hZ e38 Ar39 (j := (1 : Int32)) hin39 (g := (mkF m 219 #[.val (.int p1), .val (.int p2), .val (.int p3), .val (.int p4), .val (.long p5), .second, .val (.int (p1 &&& (3 : Int32))), .val (.int (((p1.toUInt32 >>> ((2 : Int32) &&& 31).toUInt32).toInt32) &&& (3 : Int32))), .val (.ref bs), .val (.int ((p4 &&& (2147483647 : Int32)) % (9 : Int32))), .val (.ref ar), .val (.int dc), .unset, .unset] [(.int (((((p5.toUInt64 >>> ((8 : Int32) &&& 0x3f).toInt64.toUInt64).toInt64) &&& (255 : Int64)).toInt32).toUInt32.toUInt16.toUInt32.toInt32)), (.int (1 : Int32)), (.ref ar)])) rfl rfl (hb hby at_219)
        have N39 := Fr.snoc X39 N38 g_ar
        have hzt := hzt.wr W39 g_ar
        have Z39 : n0 ≤ h39.size := Nat.le_trans Z38 (Keep.of_wr W39).1
        have hk39 := Nat.le_trans hk38 (Keep.of_wr W39).1
        have K39 := K38.wr W39 (Or.inr sz_ar)
        have V_ar := V_ar.put W39 (own_Bl _)
        refine OEndsW.go (t' := T39.setTop (mkF m 220 #[.val (.int p1), .val (.int p2), .val (.int p3), .val (.int p4), .val (.long p5), .second, .val (.int (p1 &&& (3 : Int32))), .val (.int (((p1.toUInt32 >>> ((2 : Int32) &&& 31).toUInt32).toInt32) &&& (3 : Int32))), .val (.ref bs), .val (.int ((p4 &&& (2147483647 : Int32)) % (9 : Int32))), .val (.ref ar), .val (.int dc), .unset, .unset] [])) (fun _ k => st39 _ k) ?_
        refine OEndsW.go (t' := T39.setTop (mkF m 234 #[.val (.int p1), .val (.int p2), .val (.int p3), .val (.int p4), .val (.long p5), .second, .val (.int (p1 &&& (3 : Int32))), .val (.int (((p1.toUInt32 >>> ((2 : Int32) &&& 31).toUInt32).toInt32) &&& (3 : Int32))), .val (.ref bs), .val (.int ((p4 &&& (2147483647 : Int32)) % (9 : Int32))), .val (.ref ar), .val (.int dc), .unset, .unset] [(.int (((((p5.toUInt64 >>> ((16 : Int32) &&& 0x3f).toInt64.toUInt64).toInt64) &&& (255 : Int64)).toInt32).toUInt32.toUInt16.toUInt32.toInt32)), (.int (2 : Int32)), (.ref ar)])) (fun _ k => ?_) ?_
        · show Steps p.tables e below (T39.setTop (mkF m 220 #[.val (.int p1), .val (.int p2), .val (.int p3), .val (.int p4), .val (.long p5), .second, .val (.int (p1 &&& (3 : Int32))), .val (.int (((p1.toUInt32 >>> ((2 : Int32) &&& 31).toUInt32).toInt32) &&& (3 : Int32))), .val (.ref bs), .val (.int ((p4 &&& (2147483647 : Int32)) % (9 : Int32))), .val (.ref ar), .val (.int dc), .unset, .unset] [])) _
          refine XS.aload X39.here hx rfl (hb hby at_220) rfl rfl ?_
          show Steps p.tables e below (T39.setTop (mkF m 222 #[.val (.int p1), .val (.int p2), .val (.int p3), .val (.int p4), .val (.long p5), .second, .val (.int (p1 &&& (3 : Int32))), .val (.int (((p1.toUInt32 >>> ((2 : Int32) &&& 31).toUInt32).toInt32) &&& (3 : Int32))), .val (.ref bs), .val (.int ((p4 &&& (2147483647 : Int32)) % (9 : Int32))), .val (.ref ar), .val (.int dc), .unset, .unset] [(.ref ar)])) _
          refine XS.iconst X39.here hx rfl (hb hby at_222) ?_
          show Steps p.tables e below (T39.setTop (mkF m 223 #[.val (.int p1), .val (.int p2), .val (.int p3), .val (.int p4), .val (.long p5), .second, .val (.int (p1 &&& (3 : Int32))), .val (.int (((p1.toUInt32 >>> ((2 : Int32) &&& 31).toUInt32).toInt32) &&& (3 : Int32))), .val (.ref bs), .val (.int ((p4 &&& (2147483647 : Int32)) % (9 : Int32))), .val (.ref ar), .val (.int dc), .unset, .unset] [(.int (2 : Int32)), (.ref ar)])) _
          refine XS.lload X39.here hx rfl (hb hby at_223) rfl ?_
          show Steps p.tables e below (T39.setTop (mkF m 225 #[.val (.int p1), .val (.int p2), .val (.int p3), .val (.int p4), .val (.long p5), .second, .val (.int (p1 &&& (3 : Int32))), .val (.int (((p1.toUInt32 >>> ((2 : Int32) &&& 31).toUInt32).toInt32) &&& (3 : Int32))), .val (.ref bs), .val (.int ((p4 &&& (2147483647 : Int32)) % (9 : Int32))), .val (.ref ar), .val (.int dc), .unset, .unset] [(.long p5), (.int (2 : Int32)), (.ref ar)])) _
          refine XS.bipush X39.here hx rfl (hb hby at_225) ?_
          show Steps p.tables e below (T39.setTop (mkF m 227 #[.val (.int p1), .val (.int p2), .val (.int p3), .val (.int p4), .val (.long p5), .second, .val (.int (p1 &&& (3 : Int32))), .val (.int (((p1.toUInt32 >>> ((2 : Int32) &&& 31).toUInt32).toInt32) &&& (3 : Int32))), .val (.ref bs), .val (.int ((p4 &&& (2147483647 : Int32)) % (9 : Int32))), .val (.ref ar), .val (.int dc), .unset, .unset] [(.int (16 : Int32)), (.long p5), (.int (2 : Int32)), (.ref ar)])) _
          refine XS.lushr X39.here hx rfl (hb hby at_227) rfl ?_
          show Steps p.tables e below (T39.setTop (mkF m 228 #[.val (.int p1), .val (.int p2), .val (.int p3), .val (.int p4), .val (.long p5), .second, .val (.int (p1 &&& (3 : Int32))), .val (.int (((p1.toUInt32 >>> ((2 : Int32) &&& 31).toUInt32).toInt32) &&& (3 : Int32))), .val (.ref bs), .val (.int ((p4 &&& (2147483647 : Int32)) % (9 : Int32))), .val (.ref ar), .val (.int dc), .unset, .unset] [(.long ((p5.toUInt64 >>> ((16 : Int32) &&& 0x3f).toInt64.toUInt64).toInt64)), (.int (2 : Int32)), (.ref ar)])) _
          refine X39.ldc2Long hx hown (mvT hZ (hw _ (List.mem_of_getElem? (i := 110) rfl))) (g := (mkF m 228 #[.val (.int p1), .val (.int p2), .val (.int p3), .val (.int p4), .val (.long p5), .second, .val (.int (p1 &&& (3 : Int32))), .val (.int (((p1.toUInt32 >>> ((2 : Int32) &&& 31).toUInt32).toInt32) &&& (3 : Int32))), .val (.ref bs), .val (.int ((p4 &&& (2147483647 : Int32)) % (9 : Int32))), .val (.ref ar), .val (.int dc), .unset, .unset] [(.long ((p5.toUInt64 >>> ((16 : Int32) &&& 0x3f).toInt64.toUInt64).toInt64)), (.int (2 : Int32)), (.ref ar)])) rfl (hb hby at_228) _ ?_
          show Steps p.tables e below (T39.setTop (mkF m 231 #[.val (.int p1), .val (.int p2), .val (.int p3), .val (.int p4), .val (.long p5), .second, .val (.int (p1 &&& (3 : Int32))), .val (.int (((p1.toUInt32 >>> ((2 : Int32) &&& 31).toUInt32).toInt32) &&& (3 : Int32))), .val (.ref bs), .val (.int ((p4 &&& (2147483647 : Int32)) % (9 : Int32))), .val (.ref ar), .val (.int dc), .unset, .unset] [(.long (255 : Int64)), (.long ((p5.toUInt64 >>> ((16 : Int32) &&& 0x3f).toInt64.toUInt64).toInt64)), (.int (2 : Int32)), (.ref ar)])) _
          refine XS.land X39.here hx rfl (hb hby at_231) rfl ?_
          show Steps p.tables e below (T39.setTop (mkF m 232 #[.val (.int p1), .val (.int p2), .val (.int p3), .val (.int p4), .val (.long p5), .second, .val (.int (p1 &&& (3 : Int32))), .val (.int (((p1.toUInt32 >>> ((2 : Int32) &&& 31).toUInt32).toInt32) &&& (3 : Int32))), .val (.ref bs), .val (.int ((p4 &&& (2147483647 : Int32)) % (9 : Int32))), .val (.ref ar), .val (.int dc), .unset, .unset] [(.long (((p5.toUInt64 >>> ((16 : Int32) &&& 0x3f).toInt64.toUInt64).toInt64) &&& (255 : Int64))), (.int (2 : Int32)), (.ref ar)])) _
          refine XS.l2i X39.here hx rfl (hb hby at_232) rfl ?_
          show Steps p.tables e below (T39.setTop (mkF m 233 #[.val (.int p1), .val (.int p2), .val (.int p3), .val (.int p4), .val (.long p5), .second, .val (.int (p1 &&& (3 : Int32))), .val (.int (((p1.toUInt32 >>> ((2 : Int32) &&& 31).toUInt32).toInt32) &&& (3 : Int32))), .val (.ref bs), .val (.int ((p4 &&& (2147483647 : Int32)) % (9 : Int32))), .val (.ref ar), .val (.int dc), .unset, .unset] [(.int ((((p5.toUInt64 >>> ((16 : Int32) &&& 0x3f).toInt64.toUInt64).toInt64) &&& (255 : Int64)).toInt32)), (.int (2 : Int32)), (.ref ar)])) _
          refine XS.i2c X39.here hx rfl (hb hby at_233) rfl ?_
          show Steps p.tables e below (T39.setTop (mkF m 234 #[.val (.int p1), .val (.int p2), .val (.int p3), .val (.int p4), .val (.long p5), .second, .val (.int (p1 &&& (3 : Int32))), .val (.int (((p1.toUInt32 >>> ((2 : Int32) &&& 31).toUInt32).toInt32) &&& (3 : Int32))), .val (.ref bs), .val (.int ((p4 &&& (2147483647 : Int32)) % (9 : Int32))), .val (.ref ar), .val (.int dc), .unset, .unset] [(.int (((((p5.toUInt64 >>> ((16 : Int32) &&& 0x3f).toInt64.toUInt64).toInt64) &&& (255 : Int64)).toInt32).toUInt32.toUInt16.toUInt32.toInt32)), (.int (2 : Int32)), (.ref ar)])) _
          exact k
        obtain ⟨cl40, Ar40, hin40, -⟩ := V_ar.inb (j := 2) ⟨by decide, by decide⟩
        obtain ⟨T40, h40, X40, e40, W40, st40⟩ := stC X39 hx hZ e39 Ar40 (j := (2 : Int32)) hin40 (g := (mkF m 234 #[.val (.int p1), .val (.int p2), .val (.int p3), .val (.int p4), .val (.long p5), .second, .val (.int (p1 &&& (3 : Int32))), .val (.int (((p1.toUInt32 >>> ((2 : Int32) &&& 31).toUInt32).toInt32) &&& (3 : Int32))), .val (.ref bs), .val (.int ((p4 &&& (2147483647 : Int32)) % (9 : Int32))), .val (.ref ar), .val (.int dc), .unset, .unset] [(.int (((((p5.toUInt64 >>> ((16 : Int32) &&& 0x3f).toInt64.toUInt64).toInt64) &&& (255 : Int64)).toInt32).toUInt32.toUInt16.toUInt32.toInt32)), (.int (2 : Int32)), (.ref ar)])) rfl rfl (hb hby at_234)
        have N40 := Fr.snoc X40 N39 g_ar
        have hzt := hzt.wr W40 g_ar
        have Z40 : n0 ≤ h40.size := Nat.le_trans Z39 (Keep.of_wr W40).1
        have hk40 := Nat.le_trans hk39 (Keep.of_wr W40).1
        have K40 := K39.wr W40 (Or.inr sz_ar)
        have V_ar := V_ar.put W40 (own_Bl _)
        refine OEndsW.go (t' := T40.setTop (mkF m 235 #[.val (.int p1), .val (.int p2), .val (.int p3), .val (.int p4), .val (.long p5), .second, .val (.int (p1 &&& (3 : Int32))), .val (.int (((p1.toUInt32 >>> ((2 : Int32) &&& 31).toUInt32).toInt32) &&& (3 : Int32))), .val (.ref bs), .val (.int ((p4 &&& (2147483647 : Int32)) % (9 : Int32))), .val (.ref ar), .val (.int dc), .unset, .unset] [])) (fun _ k => st40 _ k) ?_
        refine OEndsW.go (t' := T40.setTop (mkF m 249 #[.val (.int p1), .val (.int p2), .val (.int p3), .val (.int p4), .val (.long p5), .second, .val (.int (p1 &&& (3 : Int32))), .val (.int (((p1.toUInt32 >>> ((2 : Int32) &&& 31).toUInt32).toInt32) &&& (3 : Int32))), .val (.ref bs), .val (.int ((p4 &&& (2147483647 : Int32)) % (9 : Int32))), .val (.ref ar), .val (.int dc), .unset, .unset] [(.int (((((p5.toUInt64 >>> ((24 : Int32) &&& 0x3f).toInt64.toUInt64).toInt64) &&& (255 : Int64)).toInt32).toUInt32.toUInt16.toUInt32.toInt32)), (.int (3 : Int32)), (.ref ar)])) (fun _ k => ?_) ?_
        · show Steps p.tables e below (T40.setTop (mkF m 235 #[.val (.int p1), .val (.int p2), .val (.int p3), .val (.int p4), .val (.long p5), .second, .val (.int (p1 &&& (3 : Int32))), .val (.int (((p1.toUInt32 >>> ((2 : Int32) &&& 31).toUInt32).toInt32) &&& (3 : Int32))), .val (.ref bs), .val (.int ((p4 &&& (2147483647 : Int32)) % (9 : Int32))), .val (.ref ar), .val (.int dc), .unset, .unset] [])) _
          refine XS.aload X40.here hx rfl (hb hby at_235) rfl rfl ?_
          show Steps p.tables e below (T40.setTop (mkF m 237 #[.val (.int p1), .val (.int p2), .val (.int p3), .val (.int p4), .val (.long p5), .second, .val (.int (p1 &&& (3 : Int32))), .val (.int (((p1.toUInt32 >>> ((2 : Int32) &&& 31).toUInt32).toInt32) &&& (3 : Int32))), .val (.ref bs), .val (.int ((p4 &&& (2147483647 : Int32)) % (9 : Int32))), .val (.ref ar), .val (.int dc), .unset, .unset] [(.ref ar)])) _
          refine XS.iconst X40.here hx rfl (hb hby at_237) ?_
          show Steps p.tables e below (T40.setTop (mkF m 238 #[.val (.int p1), .val (.int p2), .val (.int p3), .val (.int p4), .val (.long p5), .second, .val (.int (p1 &&& (3 : Int32))), .val (.int (((p1.toUInt32 >>> ((2 : Int32) &&& 31).toUInt32).toInt32) &&& (3 : Int32))), .val (.ref bs), .val (.int ((p4 &&& (2147483647 : Int32)) % (9 : Int32))), .val (.ref ar), .val (.int dc), .unset, .unset] [(.int (3 : Int32)), (.ref ar)])) _
          refine XS.lload X40.here hx rfl (hb hby at_238) rfl ?_
          show Steps p.tables e below (T40.setTop (mkF m 240 #[.val (.int p1), .val (.int p2), .val (.int p3), .val (.int p4), .val (.long p5), .second, .val (.int (p1 &&& (3 : Int32))), .val (.int (((p1.toUInt32 >>> ((2 : Int32) &&& 31).toUInt32).toInt32) &&& (3 : Int32))), .val (.ref bs), .val (.int ((p4 &&& (2147483647 : Int32)) % (9 : Int32))), .val (.ref ar), .val (.int dc), .unset, .unset] [(.long p5), (.int (3 : Int32)), (.ref ar)])) _
          refine XS.bipush X40.here hx rfl (hb hby at_240) ?_
          show Steps p.tables e below (T40.setTop (mkF m 242 #[.val (.int p1), .val (.int p2), .val (.int p3), .val (.int p4), .val (.long p5), .second, .val (.int (p1 &&& (3 : Int32))), .val (.int (((p1.toUInt32 >>> ((2 : Int32) &&& 31).toUInt32).toInt32) &&& (3 : Int32))), .val (.ref bs), .val (.int ((p4 &&& (2147483647 : Int32)) % (9 : Int32))), .val (.ref ar), .val (.int dc), .unset, .unset] [(.int (24 : Int32)), (.long p5), (.int (3 : Int32)), (.ref ar)])) _
          refine XS.lushr X40.here hx rfl (hb hby at_242) rfl ?_
          show Steps p.tables e below (T40.setTop (mkF m 243 #[.val (.int p1), .val (.int p2), .val (.int p3), .val (.int p4), .val (.long p5), .second, .val (.int (p1 &&& (3 : Int32))), .val (.int (((p1.toUInt32 >>> ((2 : Int32) &&& 31).toUInt32).toInt32) &&& (3 : Int32))), .val (.ref bs), .val (.int ((p4 &&& (2147483647 : Int32)) % (9 : Int32))), .val (.ref ar), .val (.int dc), .unset, .unset] [(.long ((p5.toUInt64 >>> ((24 : Int32) &&& 0x3f).toInt64.toUInt64).toInt64)), (.int (3 : Int32)), (.ref ar)])) _
          refine X40.ldc2Long hx hown (mvT hZ (hw _ (List.mem_of_getElem? (i := 110) rfl))) (g := (mkF m 243 #[.val (.int p1), .val (.int p2), .val (.int p3), .val (.int p4), .val (.long p5), .second, .val (.int (p1 &&& (3 : Int32))), .val (.int (((p1.toUInt32 >>> ((2 : Int32) &&& 31).toUInt32).toInt32) &&& (3 : Int32))), .val (.ref bs), .val (.int ((p4 &&& (2147483647 : Int32)) % (9 : Int32))), .val (.ref ar), .val (.int dc), .unset, .unset] [(.long ((p5.toUInt64 >>> ((24 : Int32) &&& 0x3f).toInt64.toUInt64).toInt64)), (.int (3 : Int32)), (.ref ar)])) rfl (hb hby at_243) _ ?_
          show Steps p.tables e below (T40.setTop (mkF m 246 #[.val (.int p1), .val (.int p2), .val (.int p3), .val (.int p4), .val (.long p5), .second, .val (.int (p1 &&& (3 : Int32))), .val (.int (((p1.toUInt32 >>> ((2 : Int32) &&& 31).toUInt32).toInt32) &&& (3 : Int32))), .val (.ref bs), .val (.int ((p4 &&& (2147483647 : Int32)) % (9 : Int32))), .val (.ref ar), .val (.int dc), .unset, .unset] [(.long (255 : Int64)), (.long ((p5.toUInt64 >>> ((24 : Int32) &&& 0x3f).toInt64.toUInt64).toInt64)), (.int (3 : Int32)), (.ref ar)])) _
          refine XS.land X40.here hx rfl (hb hby at_246) rfl ?_
          show Steps p.tables e below (T40.setTop (mkF m 247 #[.val (.int p1), .val (.int p2), .val (.int p3), .val (.int p4), .val (.long p5), .second, .val (.int (p1 &&& (3 : Int32))), .val (.int (((p1.toUInt32 >>> ((2 : Int32) &&& 31).toUInt32).toInt32) &&& (3 : Int32))), .val (.ref bs), .val (.int ((p4 &&& (2147483647 : Int32)) % (9 : Int32))), .val (.ref ar), .val (.int dc), .unset, .unset] [(.long (((p5.toUInt64 >>> ((24 : Int32) &&& 0x3f).toInt64.toUInt64).toInt64) &&& (255 : Int64))), (.int (3 : Int32)), (.ref ar)])) _
          refine XS.l2i X40.here hx rfl (hb hby at_247) rfl ?_
          show Steps p.tables e below (T40.setTop (mkF m 248 #[.val (.int p1), .val (.int p2), .val (.int p3), .val (.int p4), .val (.long p5), .second, .val (.int (p1 &&& (3 : Int32))), .val (.int (((p1.toUInt32 >>> ((2 : Int32) &&& 31).toUInt32).toInt32) &&& (3 : Int32))), .val (.ref bs), .val (.int ((p4 &&& (2147483647 : Int32)) % (9 : Int32))), .val (.ref ar), .val (.int dc), .unset, .unset] [(.int ((((p5.toUInt64 >>> ((24 : Int32) &&& 0x3f).toInt64.toUInt64).toInt64) &&& (255 : Int64)).toInt32)), (.int (3 : Int32)), (.ref ar)])) _
          refine XS.i2c X40.here hx rfl (hb hby at_248) rfl ?_
          show Steps p.tables e below (T40.setTop (mkF m 249 #[.val (.int p1), .val (.int p2), .val (.int p3), .val (.int p4), .val (.long p5), .second, .val (.int (p1 &&& (3 : Int32))), .val (.int (((p1.toUInt32 >>> ((2 : Int32) &&& 31).toUInt32).toInt32) &&& (3 : Int32))), .val (.ref bs), .val (.int ((p4 &&& (2147483647 : Int32)) % (9 : Int32))), .val (.ref ar), .val (.int dc), .unset, .unset] [(.int (((((p5.toUInt64 >>> ((24 : Int32) &&& 0x3f).toInt64.toUInt64).toInt64) &&& (255 : Int64)).toInt32).toUInt32.toUInt16.toUInt32.toInt32)), (.int (3 : Int32)), (.ref ar)])) _
          exact k
        obtain ⟨cl41, Ar41, hin41, -⟩ := V_ar.inb (j := 3) ⟨by decide, by decide⟩
        obtain ⟨T41, h41, X41, e41, W41, st41⟩ := stC X40 hx hZ e40 Ar41 (j := (3 : Int32)) hin41 (g := (mkF m 249 #[.val (.int p1), .val (.int p2), .val (.int p3), .val (.int p4), .val (.long p5), .second, .val (.int (p1 &&& (3 : Int32))), .val (.int (((p1.toUInt32 >>> ((2 : Int32) &&& 31).toUInt32).toInt32) &&& (3 : Int32))), .val (.ref bs), .val (.int ((p4 &&& (2147483647 : Int32)) % (9 : Int32))), .val (.ref ar), .val (.int dc), .unset, .unset] [(.int (((((p5.toUInt64 >>> ((24 : Int32) &&& 0x3f).toInt64.toUInt64).toInt64) &&& (255 : Int64)).toInt32).toUInt32.toUInt16.toUInt32.toInt32)), (.int (3 : Int32)), (.ref ar)])) rfl rfl (hb hby at_249)
        have N41 := Fr.snoc X41 N40 g_ar
        have hzt := hzt.wr W41 g_ar
        have Z41 : n0 ≤ h41.size := Nat.le_trans Z40 (Keep.of_wr W41).1
        have hk41 := Nat.le_trans hk40 (Keep.of_wr W41).1
        have K41 := K40.wr W41 (Or.inr sz_ar)
        have V_ar := V_ar.put W41 (own_Bl _)
        refine OEndsW.go (t' := T41.setTop (mkF m 250 #[.val (.int p1), .val (.int p2), .val (.int p3), .val (.int p4), .val (.long p5), .second, .val (.int (p1 &&& (3 : Int32))), .val (.int (((p1.toUInt32 >>> ((2 : Int32) &&& 31).toUInt32).toInt32) &&& (3 : Int32))), .val (.ref bs), .val (.int ((p4 &&& (2147483647 : Int32)) % (9 : Int32))), .val (.ref ar), .val (.int dc), .unset, .unset] [])) (fun _ k => st41 _ k) ?_
        refine OEndsW.go (t' := T41.setTop (mkF m 264 #[.val (.int p1), .val (.int p2), .val (.int p3), .val (.int p4), .val (.long p5), .second, .val (.int (p1 &&& (3 : Int32))), .val (.int (((p1.toUInt32 >>> ((2 : Int32) &&& 31).toUInt32).toInt32) &&& (3 : Int32))), .val (.ref bs), .val (.int ((p4 &&& (2147483647 : Int32)) % (9 : Int32))), .val (.ref ar), .val (.int dc), .unset, .unset] [(.int (((((p5.toUInt64 >>> ((32 : Int32) &&& 0x3f).toInt64.toUInt64).toInt64) &&& (255 : Int64)).toInt32).toUInt32.toUInt16.toUInt32.toInt32)), (.int (4 : Int32)), (.ref ar)])) (fun _ k => ?_) ?_
        · show Steps p.tables e below (T41.setTop (mkF m 250 #[.val (.int p1), .val (.int p2), .val (.int p3), .val (.int p4), .val (.long p5), .second, .val (.int (p1 &&& (3 : Int32))), .val (.int (((p1.toUInt32 >>> ((2 : Int32) &&& 31).toUInt32).toInt32) &&& (3 : Int32))), .val (.ref bs), .val (.int ((p4 &&& (2147483647 : Int32)) % (9 : Int32))), .val (.ref ar), .val (.int dc), .unset, .unset] [])) _
          refine XS.aload X41.here hx rfl (hb hby at_250) rfl rfl ?_
          show Steps p.tables e below (T41.setTop (mkF m 252 #[.val (.int p1), .val (.int p2), .val (.int p3), .val (.int p4), .val (.long p5), .second, .val (.int (p1 &&& (3 : Int32))), .val (.int (((p1.toUInt32 >>> ((2 : Int32) &&& 31).toUInt32).toInt32) &&& (3 : Int32))), .val (.ref bs), .val (.int ((p4 &&& (2147483647 : Int32)) % (9 : Int32))), .val (.ref ar), .val (.int dc), .unset, .unset] [(.ref ar)])) _
          refine XS.iconst X41.here hx rfl (hb hby at_252) ?_
          show Steps p.tables e below (T41.setTop (mkF m 253 #[.val (.int p1), .val (.int p2), .val (.int p3), .val (.int p4), .val (.long p5), .second, .val (.int (p1 &&& (3 : Int32))), .val (.int (((p1.toUInt32 >>> ((2 : Int32) &&& 31).toUInt32).toInt32) &&& (3 : Int32))), .val (.ref bs), .val (.int ((p4 &&& (2147483647 : Int32)) % (9 : Int32))), .val (.ref ar), .val (.int dc), .unset, .unset] [(.int (4 : Int32)), (.ref ar)])) _
          refine XS.lload X41.here hx rfl (hb hby at_253) rfl ?_
          show Steps p.tables e below (T41.setTop (mkF m 255 #[.val (.int p1), .val (.int p2), .val (.int p3), .val (.int p4), .val (.long p5), .second, .val (.int (p1 &&& (3 : Int32))), .val (.int (((p1.toUInt32 >>> ((2 : Int32) &&& 31).toUInt32).toInt32) &&& (3 : Int32))), .val (.ref bs), .val (.int ((p4 &&& (2147483647 : Int32)) % (9 : Int32))), .val (.ref ar), .val (.int dc), .unset, .unset] [(.long p5), (.int (4 : Int32)), (.ref ar)])) _
          refine XS.bipush X41.here hx rfl (hb hby at_255) ?_
          show Steps p.tables e below (T41.setTop (mkF m 257 #[.val (.int p1), .val (.int p2), .val (.int p3), .val (.int p4), .val (.long p5), .second, .val (.int (p1 &&& (3 : Int32))), .val (.int (((p1.toUInt32 >>> ((2 : Int32) &&& 31).toUInt32).toInt32) &&& (3 : Int32))), .val (.ref bs), .val (.int ((p4 &&& (2147483647 : Int32)) % (9 : Int32))), .val (.ref ar), .val (.int dc), .unset, .unset] [(.int (32 : Int32)), (.long p5), (.int (4 : Int32)), (.ref ar)])) _
          refine XS.lushr X41.here hx rfl (hb hby at_257) rfl ?_
          show Steps p.tables e below (T41.setTop (mkF m 258 #[.val (.int p1), .val (.int p2), .val (.int p3), .val (.int p4), .val (.long p5), .second, .val (.int (p1 &&& (3 : Int32))), .val (.int (((p1.toUInt32 >>> ((2 : Int32) &&& 31).toUInt32).toInt32) &&& (3 : Int32))), .val (.ref bs), .val (.int ((p4 &&& (2147483647 : Int32)) % (9 : Int32))), .val (.ref ar), .val (.int dc), .unset, .unset] [(.long ((p5.toUInt64 >>> ((32 : Int32) &&& 0x3f).toInt64.toUInt64).toInt64)), (.int (4 : Int32)), (.ref ar)])) _
          refine X41.ldc2Long hx hown (mvT hZ (hw _ (List.mem_of_getElem? (i := 110) rfl))) (g := (mkF m 258 #[.val (.int p1), .val (.int p2), .val (.int p3), .val (.int p4), .val (.long p5), .second, .val (.int (p1 &&& (3 : Int32))), .val (.int (((p1.toUInt32 >>> ((2 : Int32) &&& 31).toUInt32).toInt32) &&& (3 : Int32))), .val (.ref bs), .val (.int ((p4 &&& (2147483647 : Int32)) % (9 : Int32))), .val (.ref ar), .val (.int dc), .unset, .unset] [(.long ((p5.toUInt64 >>> ((32 : Int32) &&& 0x3f).toInt64.toUInt64).toInt64)), (.int (4 : Int32)), (.ref ar)])) rfl (hb hby at_258) _ ?_
          show Steps p.tables e below (T41.setTop (mkF m 261 #[.val (.int p1), .val (.int p2), .val (.int p3), .val (.int p4), .val (.long p5), .second, .val (.int (p1 &&& (3 : Int32))), .val (.int (((p1.toUInt32 >>> ((2 : Int32) &&& 31).toUInt32).toInt32) &&& (3 : Int32))), .val (.ref bs), .val (.int ((p4 &&& (2147483647 : Int32)) % (9 : Int32))), .val (.ref ar), .val (.int dc), .unset, .unset] [(.long (255 : Int64)), (.long ((p5.toUInt64 >>> ((32 : Int32) &&& 0x3f).toInt64.toUInt64).toInt64)), (.int (4 : Int32)), (.ref ar)])) _
          refine XS.land X41.here hx rfl (hb hby at_261) rfl ?_
          show Steps p.tables e below (T41.setTop (mkF m 262 #[.val (.int p1), .val (.int p2), .val (.int p3), .val (.int p4), .val (.long p5), .second, .val (.int (p1 &&& (3 : Int32))), .val (.int (((p1.toUInt32 >>> ((2 : Int32) &&& 31).toUInt32).toInt32) &&& (3 : Int32))), .val (.ref bs), .val (.int ((p4 &&& (2147483647 : Int32)) % (9 : Int32))), .val (.ref ar), .val (.int dc), .unset, .unset] [(.long (((p5.toUInt64 >>> ((32 : Int32) &&& 0x3f).toInt64.toUInt64).toInt64) &&& (255 : Int64))), (.int (4 : Int32)), (.ref ar)])) _
          refine XS.l2i X41.here hx rfl (hb hby at_262) rfl ?_
          show Steps p.tables e below (T41.setTop (mkF m 263 #[.val (.int p1), .val (.int p2), .val (.int p3), .val (.int p4), .val (.long p5), .second, .val (.int (p1 &&& (3 : Int32))), .val (.int (((p1.toUInt32 >>> ((2 : Int32) &&& 31).toUInt32).toInt32) &&& (3 : Int32))), .val (.ref bs), .val (.int ((p4 &&& (2147483647 : Int32)) % (9 : Int32))), .val (.ref ar), .val (.int dc), .unset, .unset] [(.int ((((p5.toUInt64 >>> ((32 : Int32) &&& 0x3f).toInt64.toUInt64).toInt64) &&& (255 : Int64)).toInt32)), (.int (4 : Int32)), (.ref ar)])) _
          refine XS.i2c X41.here hx rfl (hb hby at_263) rfl ?_
          show Steps p.tables e below (T41.setTop (mkF m 264 #[.val (.int p1), .val (.int p2), .val (.int p3), .val (.int p4), .val (.long p5), .second, .val (.int (p1 &&& (3 : Int32))), .val (.int (((p1.toUInt32 >>> ((2 : Int32) &&& 31).toUInt32).toInt32) &&& (3 : Int32))), .val (.ref bs), .val (.int ((p4 &&& (2147483647 : Int32)) % (9 : Int32))), .val (.ref ar), .val (.int dc), .unset, .unset] [(.int (((((p5.toUInt64 >>> ((32 : Int32) &&& 0x3f).toInt64.toUInt64).toInt64) &&& (255 : Int64)).toInt32).toUInt32.toUInt16.toUInt32.toInt32)), (.int (4 : Int32)), (.ref ar)])) _
          exact k
        obtain ⟨cl42, Ar42, hin42, -⟩ := V_ar.inb (j := 4) ⟨by decide, by decide⟩
        obtain ⟨T42, h42, X42, e42, W42, st42⟩ := stC X41 hx hZ e41 Ar42 (j := (4 : Int32)) hin42 (g := (mkF m 264 #[.val (.int p1), .val (.int p2), .val (.int p3), .val (.int p4), .val (.long p5), .second, .val (.int (p1 &&& (3 : Int32))), .val (.int (((p1.toUInt32 >>> ((2 : Int32) &&& 31).toUInt32).toInt32) &&& (3 : Int32))), .val (.ref bs), .val (.int ((p4 &&& (2147483647 : Int32)) % (9 : Int32))), .val (.ref ar), .val (.int dc), .unset, .unset] [(.int (((((p5.toUInt64 >>> ((32 : Int32) &&& 0x3f).toInt64.toUInt64).toInt64) &&& (255 : Int64)).toInt32).toUInt32.toUInt16.toUInt32.toInt32)), (.int (4 : Int32)), (.ref ar)])) rfl rfl (hb hby at_264)
        have N42 := Fr.snoc X42 N41 g_ar
        have hzt := hzt.wr W42 g_ar
        have Z42 : n0 ≤ h42.size := Nat.le_trans Z41 (Keep.of_wr W42).1
        have hk42 := Nat.le_trans hk41 (Keep.of_wr W42).1
        have K42 := K41.wr W42 (Or.inr sz_ar)
        have V_ar := V_ar.put W42 (own_Bl _)
        refine OEndsW.go (t' := T42.setTop (mkF m 265 #[.val (.int p1), .val (.int p2), .val (.int p3), .val (.int p4), .val (.long p5), .second, .val (.int (p1 &&& (3 : Int32))), .val (.int (((p1.toUInt32 >>> ((2 : Int32) &&& 31).toUInt32).toInt32) &&& (3 : Int32))), .val (.ref bs), .val (.int ((p4 &&& (2147483647 : Int32)) % (9 : Int32))), .val (.ref ar), .val (.int dc), .unset, .unset] [])) (fun _ k => st42 _ k) ?_
        refine OEndsW.go (t' := T42.setTop (mkF m 279 #[.val (.int p1), .val (.int p2), .val (.int p3), .val (.int p4), .val (.long p5), .second, .val (.int (p1 &&& (3 : Int32))), .val (.int (((p1.toUInt32 >>> ((2 : Int32) &&& 31).toUInt32).toInt32) &&& (3 : Int32))), .val (.ref bs), .val (.int ((p4 &&& (2147483647 : Int32)) % (9 : Int32))), .val (.ref ar), .val (.int dc), .unset, .unset] [(.int (((((p5.toUInt64 >>> ((40 : Int32) &&& 0x3f).toInt64.toUInt64).toInt64) &&& (255 : Int64)).toInt32).toUInt32.toUInt16.toUInt32.toInt32)), (.int (5 : Int32)), (.ref ar)])) (fun _ k => ?_) ?_
        · show Steps p.tables e below (T42.setTop (mkF m 265 #[.val (.int p1), .val (.int p2), .val (.int p3), .val (.int p4), .val (.long p5), .second, .val (.int (p1 &&& (3 : Int32))), .val (.int (((p1.toUInt32 >>> ((2 : Int32) &&& 31).toUInt32).toInt32) &&& (3 : Int32))), .val (.ref bs), .val (.int ((p4 &&& (2147483647 : Int32)) % (9 : Int32))), .val (.ref ar), .val (.int dc), .unset, .unset] [])) _
          refine XS.aload X42.here hx rfl (hb hby at_265) rfl rfl ?_
          show Steps p.tables e below (T42.setTop (mkF m 267 #[.val (.int p1), .val (.int p2), .val (.int p3), .val (.int p4), .val (.long p5), .second, .val (.int (p1 &&& (3 : Int32))), .val (.int (((p1.toUInt32 >>> ((2 : Int32) &&& 31).toUInt32).toInt32) &&& (3 : Int32))), .val (.ref bs), .val (.int ((p4 &&& (2147483647 : Int32)) % (9 : Int32))), .val (.ref ar), .val (.int dc), .unset, .unset] [(.ref ar)])) _
          refine XS.iconst X42.here hx rfl (hb hby at_267) ?_
          show Steps p.tables e below (T42.setTop (mkF m 268 #[.val (.int p1), .val (.int p2), .val (.int p3), .val (.int p4), .val (.long p5), .second, .val (.int (p1 &&& (3 : Int32))), .val (.int (((p1.toUInt32 >>> ((2 : Int32) &&& 31).toUInt32).toInt32) &&& (3 : Int32))), .val (.ref bs), .val (.int ((p4 &&& (2147483647 : Int32)) % (9 : Int32))), .val (.ref ar), .val (.int dc), .unset, .unset] [(.int (5 : Int32)), (.ref ar)])) _
          refine XS.lload X42.here hx rfl (hb hby at_268) rfl ?_
          show Steps p.tables e below (T42.setTop (mkF m 270 #[.val (.int p1), .val (.int p2), .val (.int p3), .val (.int p4), .val (.long p5), .second, .val (.int (p1 &&& (3 : Int32))), .val (.int (((p1.toUInt32 >>> ((2 : Int32) &&& 31).toUInt32).toInt32) &&& (3 : Int32))), .val (.ref bs), .val (.int ((p4 &&& (2147483647 : Int32)) % (9 : Int32))), .val (.ref ar), .val (.int dc), .unset, .unset] [(.long p5), (.int (5 : Int32)), (.ref ar)])) _
          refine XS.bipush X42.here hx rfl (hb hby at_270) ?_
          show Steps p.tables e below (T42.setTop (mkF m 272 #[.val (.int p1), .val (.int p2), .val (.int p3), .val (.int p4), .val (.long p5), .second, .val (.int (p1 &&& (3 : Int32))), .val (.int (((p1.toUInt32 >>> ((2 : Int32) &&& 31).toUInt32).toInt32) &&& (3 : Int32))), .val (.ref bs), .val (.int ((p4 &&& (2147483647 : Int32)) % (9 : Int32))), .val (.ref ar), .val (.int dc), .unset, .unset] [(.int (40 : Int32)), (.long p5), (.int (5 : Int32)), (.ref ar)])) _
          refine XS.lushr X42.here hx rfl (hb hby at_272) rfl ?_
          show Steps p.tables e below (T42.setTop (mkF m 273 #[.val (.int p1), .val (.int p2), .val (.int p3), .val (.int p4), .val (.long p5), .second, .val (.int (p1 &&& (3 : Int32))), .val (.int (((p1.toUInt32 >>> ((2 : Int32) &&& 31).toUInt32).toInt32) &&& (3 : Int32))), .val (.ref bs), .val (.int ((p4 &&& (2147483647 : Int32)) % (9 : Int32))), .val (.ref ar), .val (.int dc), .unset, .unset] [(.long ((p5.toUInt64 >>> ((40 : Int32) &&& 0x3f).toInt64.toUInt64).toInt64)), (.int (5 : Int32)), (.ref ar)])) _
          refine X42.ldc2Long hx hown (mvT hZ (hw _ (List.mem_of_getElem? (i := 110) rfl))) (g := (mkF m 273 #[.val (.int p1), .val (.int p2), .val (.int p3), .val (.int p4), .val (.long p5), .second, .val (.int (p1 &&& (3 : Int32))), .val (.int (((p1.toUInt32 >>> ((2 : Int32) &&& 31).toUInt32).toInt32) &&& (3 : Int32))), .val (.ref bs), .val (.int ((p4 &&& (2147483647 : Int32)) % (9 : Int32))), .val (.ref ar), .val (.int dc), .unset, .unset] [(.long ((p5.toUInt64 >>> ((40 : Int32) &&& 0x3f).toInt64.toUInt64).toInt64)), (.int (5 : Int32)), (.ref ar)])) rfl (hb hby at_273) _ ?_
          show Steps p.tables e below (T42.setTop (mkF m 276 #[.val (.int p1), .val (.int p2), .val (.int p3), .val (.int p4), .val (.long p5), .second, .val (.int (p1 &&& (3 : Int32))), .val (.int (((p1.toUInt32 >>> ((2 : Int32) &&& 31).toUInt32).toInt32) &&& (3 : Int32))), .val (.ref bs), .val (.int ((p4 &&& (2147483647 : Int32)) % (9 : Int32))), .val (.ref ar), .val (.int dc), .unset, .unset] [(.long (255 : Int64)), (.long ((p5.toUInt64 >>> ((40 : Int32) &&& 0x3f).toInt64.toUInt64).toInt64)), (.int (5 : Int32)), (.ref ar)])) _
          refine XS.land X42.here hx rfl (hb hby at_276) rfl ?_
          show Steps p.tables e below (T42.setTop (mkF m 277 #[.val (.int p1), .val (.int p2), .val (.int p3), .val (.int p4), .val (.long p5), .second, .val (.int (p1 &&& (3 : Int32))), .val (.int (((p1.toUInt32 >>> ((2 : Int32) &&& 31).toUInt32).toInt32) &&& (3 : Int32))), .val (.ref bs), .val (.int ((p4 &&& (2147483647 : Int32)) % (9 : Int32))), .val (.ref ar), .val (.int dc), .unset, .unset] [(.long (((p5.toUInt64 >>> ((40 : Int32) &&& 0x3f).toInt64.toUInt64).toInt64) &&& (255 : Int64))), (.int (5 : Int32)), (.ref ar)])) _
          refine XS.l2i X42.here hx rfl (hb hby at_277) rfl ?_
          show Steps p.tables e below (T42.setTop (mkF m 278 #[.val (.int p1), .val (.int p2), .val (.int p3), .val (.int p4), .val (.long p5), .second, .val (.int (p1 &&& (3 : Int32))), .val (.int (((p1.toUInt32 >>> ((2 : Int32) &&& 31).toUInt32).toInt32) &&& (3 : Int32))), .val (.ref bs), .val (.int ((p4 &&& (2147483647 : Int32)) % (9 : Int32))), .val (.ref ar), .val (.int dc), .unset, .unset] [(.int ((((p5.toUInt64 >>> ((40 : Int32) &&& 0x3f).toInt64.toUInt64).toInt64) &&& (255 : Int64)).toInt32)), (.int (5 : Int32)), (.ref ar)])) _
          refine XS.i2c X42.here hx rfl (hb hby at_278) rfl ?_
          show Steps p.tables e below (T42.setTop (mkF m 279 #[.val (.int p1), .val (.int p2), .val (.int p3), .val (.int p4), .val (.long p5), .second, .val (.int (p1 &&& (3 : Int32))), .val (.int (((p1.toUInt32 >>> ((2 : Int32) &&& 31).toUInt32).toInt32) &&& (3 : Int32))), .val (.ref bs), .val (.int ((p4 &&& (2147483647 : Int32)) % (9 : Int32))), .val (.ref ar), .val (.int dc), .unset, .unset] [(.int (((((p5.toUInt64 >>> ((40 : Int32) &&& 0x3f).toInt64.toUInt64).toInt64) &&& (255 : Int64)).toInt32).toUInt32.toUInt16.toUInt32.toInt32)), (.int (5 : Int32)), (.ref ar)])) _
          exact k
        obtain ⟨cl43, Ar43, hin43, -⟩ := V_ar.inb (j := 5) ⟨by decide, by decide⟩
        obtain ⟨T43, h43, X43, e43, W43, st43⟩ := stC X42 hx hZ e42 Ar43 (j := (5 : Int32)) hin43 (g := (mkF m 279 #[.val (.int p1), .val (.int p2), .val (.int p3), .val (.int p4), .val (.long p5), .second, .val (.int (p1 &&& (3 : Int32))), .val (.int (((p1.toUInt32 >>> ((2 : Int32) &&& 31).toUInt32).toInt32) &&& (3 : Int32))), .val (.ref bs), .val (.int ((p4 &&& (2147483647 : Int32)) % (9 : Int32))), .val (.ref ar), .val (.int dc), .unset, .unset] [(.int (((((p5.toUInt64 >>> ((40 : Int32) &&& 0x3f).toInt64.toUInt64).toInt64) &&& (255 : Int64)).toInt32).toUInt32.toUInt16.toUInt32.toInt32)), (.int (5 : Int32)), (.ref ar)])) rfl rfl (hb hby at_279)
        have N43 := Fr.snoc X43 N42 g_ar
        have hzt := hzt.wr W43 g_ar
        have Z43 : n0 ≤ h43.size := Nat.le_trans Z42 (Keep.of_wr W43).1
        have hk43 := Nat.le_trans hk42 (Keep.of_wr W43).1
        have K43 := K42.wr W43 (Or.inr sz_ar)
        have V_ar := V_ar.put W43 (own_Bl _)
        refine OEndsW.go (t' := T43.setTop (mkF m 280 #[.val (.int p1), .val (.int p2), .val (.int p3), .val (.int p4), .val (.long p5), .second, .val (.int (p1 &&& (3 : Int32))), .val (.int (((p1.toUInt32 >>> ((2 : Int32) &&& 31).toUInt32).toInt32) &&& (3 : Int32))), .val (.ref bs), .val (.int ((p4 &&& (2147483647 : Int32)) % (9 : Int32))), .val (.ref ar), .val (.int dc), .unset, .unset] [])) (fun _ k => st43 _ k) ?_
        refine OEndsW.go (t' := T43.setTop (mkF m 295 #[.val (.int p1), .val (.int p2), .val (.int p3), .val (.int p4), .val (.long p5), .second, .val (.int (p1 &&& (3 : Int32))), .val (.int (((p1.toUInt32 >>> ((2 : Int32) &&& 31).toUInt32).toInt32) &&& (3 : Int32))), .val (.ref bs), .val (.int ((p4 &&& (2147483647 : Int32)) % (9 : Int32))), .val (.ref ar), .val (.int dc), .unset, .unset] [(.int (((((p5.toUInt64 >>> ((48 : Int32) &&& 0x3f).toInt64.toUInt64).toInt64) &&& (255 : Int64)).toInt32).toUInt32.toUInt16.toUInt32.toInt32)), (.int (6 : Int32)), (.ref ar)])) (fun _ k => ?_) ?_
        · show Steps p.tables e below (T43.setTop (mkF m 280 #[.val (.int p1), .val (.int p2), .val (.int p3), .val (.int p4), .val (.long p5), .second, .val (.int (p1 &&& (3 : Int32))), .val (.int (((p1.toUInt32 >>> ((2 : Int32) &&& 31).toUInt32).toInt32) &&& (3 : Int32))), .val (.ref bs), .val (.int ((p4 &&& (2147483647 : Int32)) % (9 : Int32))), .val (.ref ar), .val (.int dc), .unset, .unset] [])) _
          refine XS.aload X43.here hx rfl (hb hby at_280) rfl rfl ?_
          show Steps p.tables e below (T43.setTop (mkF m 282 #[.val (.int p1), .val (.int p2), .val (.int p3), .val (.int p4), .val (.long p5), .second, .val (.int (p1 &&& (3 : Int32))), .val (.int (((p1.toUInt32 >>> ((2 : Int32) &&& 31).toUInt32).toInt32) &&& (3 : Int32))), .val (.ref bs), .val (.int ((p4 &&& (2147483647 : Int32)) % (9 : Int32))), .val (.ref ar), .val (.int dc), .unset, .unset] [(.ref ar)])) _
          refine XS.bipush X43.here hx rfl (hb hby at_282) ?_
          show Steps p.tables e below (T43.setTop (mkF m 284 #[.val (.int p1), .val (.int p2), .val (.int p3), .val (.int p4), .val (.long p5), .second, .val (.int (p1 &&& (3 : Int32))), .val (.int (((p1.toUInt32 >>> ((2 : Int32) &&& 31).toUInt32).toInt32) &&& (3 : Int32))), .val (.ref bs), .val (.int ((p4 &&& (2147483647 : Int32)) % (9 : Int32))), .val (.ref ar), .val (.int dc), .unset, .unset] [(.int (6 : Int32)), (.ref ar)])) _
          refine XS.lload X43.here hx rfl (hb hby at_284) rfl ?_
          show Steps p.tables e below (T43.setTop (mkF m 286 #[.val (.int p1), .val (.int p2), .val (.int p3), .val (.int p4), .val (.long p5), .second, .val (.int (p1 &&& (3 : Int32))), .val (.int (((p1.toUInt32 >>> ((2 : Int32) &&& 31).toUInt32).toInt32) &&& (3 : Int32))), .val (.ref bs), .val (.int ((p4 &&& (2147483647 : Int32)) % (9 : Int32))), .val (.ref ar), .val (.int dc), .unset, .unset] [(.long p5), (.int (6 : Int32)), (.ref ar)])) _
          refine XS.bipush X43.here hx rfl (hb hby at_286) ?_
          show Steps p.tables e below (T43.setTop (mkF m 288 #[.val (.int p1), .val (.int p2), .val (.int p3), .val (.int p4), .val (.long p5), .second, .val (.int (p1 &&& (3 : Int32))), .val (.int (((p1.toUInt32 >>> ((2 : Int32) &&& 31).toUInt32).toInt32) &&& (3 : Int32))), .val (.ref bs), .val (.int ((p4 &&& (2147483647 : Int32)) % (9 : Int32))), .val (.ref ar), .val (.int dc), .unset, .unset] [(.int (48 : Int32)), (.long p5), (.int (6 : Int32)), (.ref ar)])) _
          refine XS.lushr X43.here hx rfl (hb hby at_288) rfl ?_
          show Steps p.tables e below (T43.setTop (mkF m 289 #[.val (.int p1), .val (.int p2), .val (.int p3), .val (.int p4), .val (.long p5), .second, .val (.int (p1 &&& (3 : Int32))), .val (.int (((p1.toUInt32 >>> ((2 : Int32) &&& 31).toUInt32).toInt32) &&& (3 : Int32))), .val (.ref bs), .val (.int ((p4 &&& (2147483647 : Int32)) % (9 : Int32))), .val (.ref ar), .val (.int dc), .unset, .unset] [(.long ((p5.toUInt64 >>> ((48 : Int32) &&& 0x3f).toInt64.toUInt64).toInt64)), (.int (6 : Int32)), (.ref ar)])) _
          refine X43.ldc2Long hx hown (mvT hZ (hw _ (List.mem_of_getElem? (i := 110) rfl))) (g := (mkF m 289 #[.val (.int p1), .val (.int p2), .val (.int p3), .val (.int p4), .val (.long p5), .second, .val (.int (p1 &&& (3 : Int32))), .val (.int (((p1.toUInt32 >>> ((2 : Int32) &&& 31).toUInt32).toInt32) &&& (3 : Int32))), .val (.ref bs), .val (.int ((p4 &&& (2147483647 : Int32)) % (9 : Int32))), .val (.ref ar), .val (.int dc), .unset, .unset] [(.long ((p5.toUInt64 >>> ((48 : Int32) &&& 0x3f).toInt64.toUInt64).toInt64)), (.int (6 : Int32)), (.ref ar)])) rfl (hb hby at_289) _ ?_
          show Steps p.tables e below (T43.setTop (mkF m 292 #[.val (.int p1), .val (.int p2), .val (.int p3), .val (.int p4), .val (.long p5), .second, .val (.int (p1 &&& (3 : Int32))), .val (.int (((p1.toUInt32 >>> ((2 : Int32) &&& 31).toUInt32).toInt32) &&& (3 : Int32))), .val (.ref bs), .val (.int ((p4 &&& (2147483647 : Int32)) % (9 : Int32))), .val (.ref ar), .val (.int dc), .unset, .unset] [(.long (255 : Int64)), (.long ((p5.toUInt64 >>> ((48 : Int32) &&& 0x3f).toInt64.toUInt64).toInt64)), (.int (6 : Int32)), (.ref ar)])) _
          refine XS.land X43.here hx rfl (hb hby at_292) rfl ?_
          show Steps p.tables e below (T43.setTop (mkF m 293 #[.val (.int p1), .val (.int p2), .val (.int p3), .val (.int p4), .val (.long p5), .second, .val (.int (p1 &&& (3 : Int32))), .val (.int (((p1.toUInt32 >>> ((2 : Int32) &&& 31).toUInt32).toInt32) &&& (3 : Int32))), .val (.ref bs), .val (.int ((p4 &&& (2147483647 : Int32)) % (9 : Int32))), .val (.ref ar), .val (.int dc), .unset, .unset] [(.long (((p5.toUInt64 >>> ((48 : Int32) &&& 0x3f).toInt64.toUInt64).toInt64) &&& (255 : Int64))), (.int (6 : Int32)), (.ref ar)])) _
          refine XS.l2i X43.here hx rfl (hb hby at_293) rfl ?_
          show Steps p.tables e below (T43.setTop (mkF m 294 #[.val (.int p1), .val (.int p2), .val (.int p3), .val (.int p4), .val (.long p5), .second, .val (.int (p1 &&& (3 : Int32))), .val (.int (((p1.toUInt32 >>> ((2 : Int32) &&& 31).toUInt32).toInt32) &&& (3 : Int32))), .val (.ref bs), .val (.int ((p4 &&& (2147483647 : Int32)) % (9 : Int32))), .val (.ref ar), .val (.int dc), .unset, .unset] [(.int ((((p5.toUInt64 >>> ((48 : Int32) &&& 0x3f).toInt64.toUInt64).toInt64) &&& (255 : Int64)).toInt32)), (.int (6 : Int32)), (.ref ar)])) _
          refine XS.i2c X43.here hx rfl (hb hby at_294) rfl ?_
          show Steps p.tables e below (T43.setTop (mkF m 295 #[.val (.int p1), .val (.int p2), .val (.int p3), .val (.int p4), .val (.long p5), .second, .val (.int (p1 &&& (3 : Int32))), .val (.int (((p1.toUInt32 >>> ((2 : Int32) &&& 31).toUInt32).toInt32) &&& (3 : Int32))), .val (.ref bs), .val (.int ((p4 &&& (2147483647 : Int32)) % (9 : Int32))), .val (.ref ar), .val (.int dc), .unset, .unset] [(.int (((((p5.toUInt64 >>> ((48 : Int32) &&& 0x3f).toInt64.toUInt64).toInt64) &&& (255 : Int64)).toInt32).toUInt32.toUInt16.toUInt32.toInt32)), (.int (6 : Int32)), (.ref ar)])) _
          exact k
        obtain ⟨cl44, Ar44, hin44, -⟩ := V_ar.inb (j := 6) ⟨by decide, by decide⟩
        obtain ⟨T44, h44, X44, e44, W44, st44⟩ := stC X43 hx hZ e43 Ar44 (j := (6 : Int32)) hin44 (g := (mkF m 295 #[.val (.int p1), .val (.int p2), .val (.int p3), .val (.int p4), .val (.long p5), .second, .val (.int (p1 &&& (3 : Int32))), .val (.int (((p1.toUInt32 >>> ((2 : Int32) &&& 31).toUInt32).toInt32) &&& (3 : Int32))), .val (.ref bs), .val (.int ((p4 &&& (2147483647 : Int32)) % (9 : Int32))), .val (.ref ar), .val (.int dc), .unset, .unset] [(.int (((((p5.toUInt64 >>> ((48 : Int32) &&& 0x3f).toInt64.toUInt64).toInt64) &&& (255 : Int64)).toInt32).toUInt32.toUInt16.toUInt32.toInt32)), (.int (6 : Int32)), (.ref ar)])) rfl rfl (hb hby at_295)
        have N44 := Fr.snoc X44 N43 g_ar
        have hzt := hzt.wr W44 g_ar
        have Z44 : n0 ≤ h44.size := Nat.le_trans Z43 (Keep.of_wr W44).1
        have hk44 := Nat.le_trans hk43 (Keep.of_wr W44).1
        have K44 := K43.wr W44 (Or.inr sz_ar)
        have V_ar := V_ar.put W44 (own_Bl _)
        refine OEndsW.go (t' := T44.setTop (mkF m 296 #[.val (.int p1), .val (.int p2), .val (.int p3), .val (.int p4), .val (.long p5), .second, .val (.int (p1 &&& (3 : Int32))), .val (.int (((p1.toUInt32 >>> ((2 : Int32) &&& 31).toUInt32).toInt32) &&& (3 : Int32))), .val (.ref bs), .val (.int ((p4 &&& (2147483647 : Int32)) % (9 : Int32))), .val (.ref ar), .val (.int dc), .unset, .unset] [])) (fun _ k => st44 _ k) ?_
        refine OEndsW.go (t' := T44.setTop (mkF m 311 #[.val (.int p1), .val (.int p2), .val (.int p3), .val (.int p4), .val (.long p5), .second, .val (.int (p1 &&& (3 : Int32))), .val (.int (((p1.toUInt32 >>> ((2 : Int32) &&& 31).toUInt32).toInt32) &&& (3 : Int32))), .val (.ref bs), .val (.int ((p4 &&& (2147483647 : Int32)) % (9 : Int32))), .val (.ref ar), .val (.int dc), .unset, .unset] [(.int (((((p5.toUInt64 >>> ((56 : Int32) &&& 0x3f).toInt64.toUInt64).toInt64) &&& (255 : Int64)).toInt32).toUInt32.toUInt16.toUInt32.toInt32)), (.int (7 : Int32)), (.ref ar)])) (fun _ k => ?_) ?_
        · show Steps p.tables e below (T44.setTop (mkF m 296 #[.val (.int p1), .val (.int p2), .val (.int p3), .val (.int p4), .val (.long p5), .second, .val (.int (p1 &&& (3 : Int32))), .val (.int (((p1.toUInt32 >>> ((2 : Int32) &&& 31).toUInt32).toInt32) &&& (3 : Int32))), .val (.ref bs), .val (.int ((p4 &&& (2147483647 : Int32)) % (9 : Int32))), .val (.ref ar), .val (.int dc), .unset, .unset] [])) _
          refine XS.aload X44.here hx rfl (hb hby at_296) rfl rfl ?_
          show Steps p.tables e below (T44.setTop (mkF m 298 #[.val (.int p1), .val (.int p2), .val (.int p3), .val (.int p4), .val (.long p5), .second, .val (.int (p1 &&& (3 : Int32))), .val (.int (((p1.toUInt32 >>> ((2 : Int32) &&& 31).toUInt32).toInt32) &&& (3 : Int32))), .val (.ref bs), .val (.int ((p4 &&& (2147483647 : Int32)) % (9 : Int32))), .val (.ref ar), .val (.int dc), .unset, .unset] [(.ref ar)])) _
          refine XS.bipush X44.here hx rfl (hb hby at_298) ?_
          show Steps p.tables e below (T44.setTop (mkF m 300 #[.val (.int p1), .val (.int p2), .val (.int p3), .val (.int p4), .val (.long p5), .second, .val (.int (p1 &&& (3 : Int32))), .val (.int (((p1.toUInt32 >>> ((2 : Int32) &&& 31).toUInt32).toInt32) &&& (3 : Int32))), .val (.ref bs), .val (.int ((p4 &&& (2147483647 : Int32)) % (9 : Int32))), .val (.ref ar), .val (.int dc), .unset, .unset] [(.int (7 : Int32)), (.ref ar)])) _
          refine XS.lload X44.here hx rfl (hb hby at_300) rfl ?_
          show Steps p.tables e below (T44.setTop (mkF m 302 #[.val (.int p1), .val (.int p2), .val (.int p3), .val (.int p4), .val (.long p5), .second, .val (.int (p1 &&& (3 : Int32))), .val (.int (((p1.toUInt32 >>> ((2 : Int32) &&& 31).toUInt32).toInt32) &&& (3 : Int32))), .val (.ref bs), .val (.int ((p4 &&& (2147483647 : Int32)) % (9 : Int32))), .val (.ref ar), .val (.int dc), .unset, .unset] [(.long p5), (.int (7 : Int32)), (.ref ar)])) _
          refine XS.bipush X44.here hx rfl (hb hby at_302) ?_
          show Steps p.tables e below (T44.setTop (mkF m 304 #[.val (.int p1), .val (.int p2), .val (.int p3), .val (.int p4), .val (.long p5), .second, .val (.int (p1 &&& (3 : Int32))), .val (.int (((p1.toUInt32 >>> ((2 : Int32) &&& 31).toUInt32).toInt32) &&& (3 : Int32))), .val (.ref bs), .val (.int ((p4 &&& (2147483647 : Int32)) % (9 : Int32))), .val (.ref ar), .val (.int dc), .unset, .unset] [(.int (56 : Int32)), (.long p5), (.int (7 : Int32)), (.ref ar)])) _
          refine XS.lushr X44.here hx rfl (hb hby at_304) rfl ?_
          show Steps p.tables e below (T44.setTop (mkF m 305 #[.val (.int p1), .val (.int p2), .val (.int p3), .val (.int p4), .val (.long p5), .second, .val (.int (p1 &&& (3 : Int32))), .val (.int (((p1.toUInt32 >>> ((2 : Int32) &&& 31).toUInt32).toInt32) &&& (3 : Int32))), .val (.ref bs), .val (.int ((p4 &&& (2147483647 : Int32)) % (9 : Int32))), .val (.ref ar), .val (.int dc), .unset, .unset] [(.long ((p5.toUInt64 >>> ((56 : Int32) &&& 0x3f).toInt64.toUInt64).toInt64)), (.int (7 : Int32)), (.ref ar)])) _
          refine X44.ldc2Long hx hown (mvT hZ (hw _ (List.mem_of_getElem? (i := 110) rfl))) (g := (mkF m 305 #[.val (.int p1), .val (.int p2), .val (.int p3), .val (.int p4), .val (.long p5), .second, .val (.int (p1 &&& (3 : Int32))), .val (.int (((p1.toUInt32 >>> ((2 : Int32) &&& 31).toUInt32).toInt32) &&& (3 : Int32))), .val (.ref bs), .val (.int ((p4 &&& (2147483647 : Int32)) % (9 : Int32))), .val (.ref ar), .val (.int dc), .unset, .unset] [(.long ((p5.toUInt64 >>> ((56 : Int32) &&& 0x3f).toInt64.toUInt64).toInt64)), (.int (7 : Int32)), (.ref ar)])) rfl (hb hby at_305) _ ?_
          show Steps p.tables e below (T44.setTop (mkF m 308 #[.val (.int p1), .val (.int p2), .val (.int p3), .val (.int p4), .val (.long p5), .second, .val (.int (p1 &&& (3 : Int32))), .val (.int (((p1.toUInt32 >>> ((2 : Int32) &&& 31).toUInt32).toInt32) &&& (3 : Int32))), .val (.ref bs), .val (.int ((p4 &&& (2147483647 : Int32)) % (9 : Int32))), .val (.ref ar), .val (.int dc), .unset, .unset] [(.long (255 : Int64)), (.long ((p5.toUInt64 >>> ((56 : Int32) &&& 0x3f).toInt64.toUInt64).toInt64)), (.int (7 : Int32)), (.ref ar)])) _
          refine XS.land X44.here hx rfl (hb hby at_308) rfl ?_
          show Steps p.tables e below (T44.setTop (mkF m 309 #[.val (.int p1), .val (.int p2), .val (.int p3), .val (.int p4), .val (.long p5), .second, .val (.int (p1 &&& (3 : Int32))), .val (.int (((p1.toUInt32 >>> ((2 : Int32) &&& 31).toUInt32).toInt32) &&& (3 : Int32))), .val (.ref bs), .val (.int ((p4 &&& (2147483647 : Int32)) % (9 : Int32))), .val (.ref ar), .val (.int dc), .unset, .unset] [(.long (((p5.toUInt64 >>> ((56 : Int32) &&& 0x3f).toInt64.toUInt64).toInt64) &&& (255 : Int64))), (.int (7 : Int32)), (.ref ar)])) _
          refine XS.l2i X44.here hx rfl (hb hby at_309) rfl ?_
          show Steps p.tables e below (T44.setTop (mkF m 310 #[.val (.int p1), .val (.int p2), .val (.int p3), .val (.int p4), .val (.long p5), .second, .val (.int (p1 &&& (3 : Int32))), .val (.int (((p1.toUInt32 >>> ((2 : Int32) &&& 31).toUInt32).toInt32) &&& (3 : Int32))), .val (.ref bs), .val (.int ((p4 &&& (2147483647 : Int32)) % (9 : Int32))), .val (.ref ar), .val (.int dc), .unset, .unset] [(.int ((((p5.toUInt64 >>> ((56 : Int32) &&& 0x3f).toInt64.toUInt64).toInt64) &&& (255 : Int64)).toInt32)), (.int (7 : Int32)), (.ref ar)])) _
          refine XS.i2c X44.here hx rfl (hb hby at_310) rfl ?_
          show Steps p.tables e below (T44.setTop (mkF m 311 #[.val (.int p1), .val (.int p2), .val (.int p3), .val (.int p4), .val (.long p5), .second, .val (.int (p1 &&& (3 : Int32))), .val (.int (((p1.toUInt32 >>> ((2 : Int32) &&& 31).toUInt32).toInt32) &&& (3 : Int32))), .val (.ref bs), .val (.int ((p4 &&& (2147483647 : Int32)) % (9 : Int32))), .val (.ref ar), .val (.int dc), .unset, .unset] [(.int (((((p5.toUInt64 >>> ((56 : Int32) &&& 0x3f).toInt64.toUInt64).toInt64) &&& (255 : Int64)).toInt32).toUInt32.toUInt16.toUInt32.toInt32)), (.int (7 : Int32)), (.ref ar)])) _
          exact k
        obtain ⟨cl45, Ar45, hin45, -⟩ := V_ar.inb (j := 7) ⟨by decide, by decide⟩
        obtain ⟨T45, h45, X45, e45, W45, st45⟩ := stC X44 hx hZ e44 Ar45 (j := (7 : Int32)) hin45 (g := (mkF m 311 #[.val (.int p1), .val (.int p2), .val (.int p3), .val (.int p4), .val (.long p5), .second, .val (.int (p1 &&& (3 : Int32))), .val (.int (((p1.toUInt32 >>> ((2 : Int32) &&& 31).toUInt32).toInt32) &&& (3 : Int32))), .val (.ref bs), .val (.int ((p4 &&& (2147483647 : Int32)) % (9 : Int32))), .val (.ref ar), .val (.int dc), .unset, .unset] [(.int (((((p5.toUInt64 >>> ((56 : Int32) &&& 0x3f).toInt64.toUInt64).toInt64) &&& (255 : Int64)).toInt32).toUInt32.toUInt16.toUInt32.toInt32)), (.int (7 : Int32)), (.ref ar)])) rfl rfl (hb hby at_311)
        have N45 := Fr.snoc X45 N44 g_ar
        have hzt := hzt.wr W45 g_ar
        have Z45 : n0 ≤ h45.size := Nat.le_trans Z44 (Keep.of_wr W45).1
        have hk45 := Nat.le_trans hk44 (Keep.of_wr W45).1
        have K45 := K44.wr W45 (Or.inr sz_ar)
        have V_ar := V_ar.put W45 (own_Bl _)
        refine OEndsW.go (t' := T45.setTop (mkF m 312 #[.val (.int p1), .val (.int p2), .val (.int p3), .val (.int p4), .val (.long p5), .second, .val (.int (p1 &&& (3 : Int32))), .val (.int (((p1.toUInt32 >>> ((2 : Int32) &&& 31).toUInt32).toInt32) &&& (3 : Int32))), .val (.ref bs), .val (.int ((p4 &&& (2147483647 : Int32)) % (9 : Int32))), .val (.ref ar), .val (.int dc), .unset, .unset] [])) (fun _ k => st45 _ k) ?_
        refine OEndsW.go (t' := T45.setTop (mkF m 351 #[.val (.int p1), .val (.int p2), .val (.int p3), .val (.int p4), .val (.long p5), .second, .val (.int (p1 &&& (3 : Int32))), .val (.int (((p1.toUInt32 >>> ((2 : Int32) &&& 31).toUInt32).toInt32) &&& (3 : Int32))), .val (.ref bs), .val (.int ((p4 &&& (2147483647 : Int32)) % (9 : Int32))), .val (.ref ar), .val (.int dc), .unset, .unset] [])) (fun _ k => ?_) ?_
        · show Steps p.tables e below (T45.setTop (mkF m 312 #[.val (.int p1), .val (.int p2), .val (.int p3), .val (.int p4), .val (.long p5), .second, .val (.int (p1 &&& (3 : Int32))), .val (.int (((p1.toUInt32 >>> ((2 : Int32) &&& 31).toUInt32).toInt32) &&& (3 : Int32))), .val (.ref bs), .val (.int ((p4 &&& (2147483647 : Int32)) % (9 : Int32))), .val (.ref ar), .val (.int dc), .unset, .unset] [])) _
          refine XS.goto X45.here hx rfl (pc0 := 312) (pc' := 351) rfl (hb hby at_312) (by decide) (by decide) ?_
          show Steps p.tables e below (T45.setTop (mkF m 351 #[.val (.int p1), .val (.int p2), .val (.int p3), .val (.int p4), .val (.long p5), .second, .val (.int (p1 &&& (3 : Int32))), .val (.int (((p1.toUInt32 >>> ((2 : Int32) &&& 31).toUInt32).toInt32) &&& (3 : Int32))), .val (.ref bs), .val (.int ((p4 &&& (2147483647 : Int32)) % (9 : Int32))), .val (.ref ar), .val (.int dc), .unset, .unset] [])) _
          exact k
        exact K351 _ _ _ X45 e45 N45 Z45 _ .unset hzt V_ar K45 (Or.inl rfl)
      · refine OEndsW.go (t' := T18.setTop (mkF m 315 #[.val (.int p1), .val (.int p2), .val (.int p3), .val (.int p4), .val (.long p5), .second, .val (.int (p1 &&& (3 : Int32))), .val (.int (((p1.toUInt32 >>> ((2 : Int32) &&& 31).toUInt32).toInt32) &&& (3 : Int32))), .val (.ref bs), .val (.int nn), .val (.ref ar), .val (.int dc), .unset, .unset] [])) (fun _ k => XS.icmpYes X18.here hx rfl (pc0 := 181) (pc' := 315) rfl (hb hby at_181) rfl (feq m2).2 (by decide) (by decide) k) ?_
        refine OEndsW.go (t' := T18.setTop (mkF m 318 #[.val (.int p1), .val (.int p2), .val (.int p3), .val (.int p4), .val (.long p5), .second, .val (.int (p1 &&& (3 : Int32))), .val (.int (((p1.toUInt32 >>> ((2 : Int32) &&& 31).toUInt32).toInt32) &&& (3 : Int32))), .val (.ref bs), .val (.int nn), .val (.ref ar), .val (.int dc), .unset, .unset] [(.int (3 : Int32)), (.int (((p1.toUInt32 >>> ((2 : Int32) &&& 31).toUInt32).toInt32) &&& (3 : Int32)))])) (fun _ k => ?_) ?_
        · show Steps p.tables e below (T18.setTop (mkF m 315 #[.val (.int p1), .val (.int p2), .val (.int p3), .val (.int p4), .val (.long p5), .second, .val (.int (p1 &&& (3 : Int32))), .val (.int (((p1.toUInt32 >>> ((2 : Int32) &&& 31).toUInt32).toInt32) &&& (3 : Int32))), .val (.ref bs), .val (.int nn), .val (.ref ar), .val (.int dc), .unset, .unset] [])) _
          refine XS.iload X18.here hx rfl (hb hby at_315) rfl ?_
          show Steps p.tables e below (T18.setTop (mkF m 317 #[.val (.int p1), .val (.int p2), .val (.int p3), .val (.int p4), .val (.long p5), .second, .val (.int (p1 &&& (3 : Int32))), .val (.int (((p1.toUInt32 >>> ((2 : Int32) &&& 31).toUInt32).toInt32) &&& (3 : Int32))), .val (.ref bs), .val (.int nn), .val (.ref ar), .val (.int dc), .unset, .unset] [(.int (((p1.toUInt32 >>> ((2 : Int32) &&& 31).toUInt32).toInt32) &&& (3 : Int32)))])) _
          refine XS.iconst X18.here hx rfl (hb hby at_317) ?_
          show Steps p.tables e below (T18.setTop (mkF m 318 #[.val (.int p1), .val (.int p2), .val (.int p3), .val (.int p4), .val (.long p5), .second, .val (.int (p1 &&& (3 : Int32))), .val (.int (((p1.toUInt32 >>> ((2 : Int32) &&& 31).toUInt32).toInt32) &&& (3 : Int32))), .val (.ref bs), .val (.int nn), .val (.ref ar), .val (.int dc), .unset, .unset] [(.int (3 : Int32)), (.int (((p1.toUInt32 >>> ((2 : Int32) &&& 31).toUInt32).toInt32) &&& (3 : Int32)))])) _
          exact k
        by_cases m3 : (((p1.toUInt32 >>> ((2 : Int32) &&& 31).toUInt32).toInt32) &&& (3 : Int32)) = (3 : Int32)
        · refine OEndsW.go (t' := T18.setTop (mkF m 321 #[.val (.int p1), .val (.int p2), .val (.int p3), .val (.int p4), .val (.long p5), .second, .val (.int (p1 &&& (3 : Int32))), .val (.int (((p1.toUInt32 >>> ((2 : Int32) &&& 31).toUInt32).toInt32) &&& (3 : Int32))), .val (.ref bs), .val (.int nn), .val (.ref ar), .val (.int dc), .unset, .unset] [])) (fun _ k => XS.icmpNo X18.here hx rfl (hb hby at_318) rfl (teq m3).2 k) ?_
          refine OEndsW.go (t' := T18.setTop (mkF m 326 #[.val (.int p1), .val (.int p2), .val (.int p3), .val (.int p4), .val (.long p5), .second, .val (.int (p1 &&& (3 : Int32))), .val (.int (((p1.toUInt32 >>> ((2 : Int32) &&& 31).toUInt32).toInt32) &&& (3 : Int32))), .val (.ref bs), .val (.int nn), .val (.ref ar), .val (.int dc), .unset, .unset] [(.int (p3 &&& (256 : Int32)))])) (fun _ k => ?_) ?_
          · show Steps p.tables e below (T18.setTop (mkF m 321 #[.val (.int p1), .val (.int p2), .val (.int p3), .val (.int p4), .val (.long p5), .second, .val (.int (p1 &&& (3 : Int32))), .val (.int (((p1.toUInt32 >>> ((2 : Int32) &&& 31).toUInt32).toInt32) &&& (3 : Int32))), .val (.ref bs), .val (.int nn), .val (.ref ar), .val (.int dc), .unset, .unset] [])) _
            refine XS.iloadN X18.here hx rfl (hb hby at_321) rfl ?_
            show Steps p.tables e below (T18.setTop (mkF m 322 #[.val (.int p1), .val (.int p2), .val (.int p3), .val (.int p4), .val (.long p5), .second, .val (.int (p1 &&& (3 : Int32))), .val (.int (((p1.toUInt32 >>> ((2 : Int32) &&& 31).toUInt32).toInt32) &&& (3 : Int32))), .val (.ref bs), .val (.int nn), .val (.ref ar), .val (.int dc), .unset, .unset] [(.int p3)])) _
            refine XS.sipush X18.here hx rfl (hb hby at_322) ?_
            show Steps p.tables e below (T18.setTop (mkF m 325 #[.val (.int p1), .val (.int p2), .val (.int p3), .val (.int p4), .val (.long p5), .second, .val (.int (p1 &&& (3 : Int32))), .val (.int (((p1.toUInt32 >>> ((2 : Int32) &&& 31).toUInt32).toInt32) &&& (3 : Int32))), .val (.ref bs), .val (.int nn), .val (.ref ar), .val (.int dc), .unset, .unset] [(.int (256 : Int32)), (.int p3)])) _
            refine XS.iand X18.here hx rfl (hb hby at_325) rfl ?_
            show Steps p.tables e below (T18.setTop (mkF m 326 #[.val (.int p1), .val (.int p2), .val (.int p3), .val (.int p4), .val (.long p5), .second, .val (.int (p1 &&& (3 : Int32))), .val (.int (((p1.toUInt32 >>> ((2 : Int32) &&& 31).toUInt32).toInt32) &&& (3 : Int32))), .val (.ref bs), .val (.int nn), .val (.ref ar), .val (.int dc), .unset, .unset] [(.int (p3 &&& (256 : Int32)))])) _
            exact k
          by_cases h326 : (p3 &&& (256 : Int32)) = (0 : Int32)
          · refine OEndsW.go (t' := T18.setTop (mkF m 338 #[.val (.int p1), .val (.int p2), .val (.int p3), .val (.int p4), .val (.long p5), .second, .val (.int (p1 &&& (3 : Int32))), .val (.int (((p1.toUInt32 >>> ((2 : Int32) &&& 31).toUInt32).toInt32) &&& (3 : Int32))), .val (.ref bs), .val (.int nn), .val (.ref ar), .val (.int dc), .unset, .unset] [])) (fun _ k => XS.ifYes X18.here hx rfl (pc0 := 326) (pc' := 338) rfl (hb hby at_326) rfl ((if0 _ _).trans (teq h326).1) (by decide) (by decide) k) ?_
            refine OEndsW.go (t' := T18.setTop (mkF m 344 #[.val (.int p1), .val (.int p2), .val (.int p3), .val (.int p4), .val (.long p5), .second, .val (.int (p1 &&& (3 : Int32))), .val (.int (((p1.toUInt32 >>> ((2 : Int32) &&& 31).toUInt32).toInt32) &&& (3 : Int32))), .val (.ref bs), .val (.int nn), .val (.ref ar), .val (.int dc), .unset, .unset] [(.int dc), (.int nn), (.ref ar)])) (fun _ k => ?_) ?_
            · show Steps p.tables e below (T18.setTop (mkF m 338 #[.val (.int p1), .val (.int p2), .val (.int p3), .val (.int p4), .val (.long p5), .second, .val (.int (p1 &&& (3 : Int32))), .val (.int (((p1.toUInt32 >>> ((2 : Int32) &&& 31).toUInt32).toInt32) &&& (3 : Int32))), .val (.ref bs), .val (.int nn), .val (.ref ar), .val (.int dc), .unset, .unset] [])) _
              refine XS.aload X18.here hx rfl (hb hby at_338) rfl rfl ?_
              show Steps p.tables e below (T18.setTop (mkF m 340 #[.val (.int p1), .val (.int p2), .val (.int p3), .val (.int p4), .val (.long p5), .second, .val (.int (p1 &&& (3 : Int32))), .val (.int (((p1.toUInt32 >>> ((2 : Int32) &&& 31).toUInt32).toInt32) &&& (3 : Int32))), .val (.ref bs), .val (.int nn), .val (.ref ar), .val (.int dc), .unset, .unset] [(.ref ar)])) _
              refine XS.iload X18.here hx rfl (hb hby at_340) rfl ?_
              show Steps p.tables e below (T18.setTop (mkF m 342 #[.val (.int p1), .val (.int p2), .val (.int p3), .val (.int p4), .val (.long p5), .second, .val (.int (p1 &&& (3 : Int32))), .val (.int (((p1.toUInt32 >>> ((2 : Int32) &&& 31).toUInt32).toInt32) &&& (3 : Int32))), .val (.ref bs), .val (.int nn), .val (.ref ar), .val (.int dc), .unset, .unset] [(.int nn), (.ref ar)])) _
              refine XS.iload X18.here hx rfl (hb hby at_342) rfl ?_
              show Steps p.tables e below (T18.setTop (mkF m 344 #[.val (.int p1), .val (.int p2), .val (.int p3), .val (.int p4), .val (.long p5), .second, .val (.int (p1 &&& (3 : Int32))), .val (.int (((p1.toUInt32 >>> ((2 : Int32) &&& 31).toUInt32).toInt32) &&& (3 : Int32))), .val (.ref bs), .val (.int nn), .val (.ref ar), .val (.int dc), .unset, .unset] [(.int dc), (.int nn), (.ref ar)])) _
              exact k
            obtain ⟨cl46, Ar46, hin46, -⟩ := V_ar.inb (j := nn) (by rcases hn2 with q | q <;> rw [q] <;> decide)
            obtain ⟨T46, h46, X46, e46, W46, st46⟩ := stC X18 hx hZ e18 Ar46 (j := nn) hin46 (g := (mkF m 344 #[.val (.int p1), .val (.int p2), .val (.int p3), .val (.int p4), .val (.long p5), .second, .val (.int (p1 &&& (3 : Int32))), .val (.int (((p1.toUInt32 >>> ((2 : Int32) &&& 31).toUInt32).toInt32) &&& (3 : Int32))), .val (.ref bs), .val (.int nn), .val (.ref ar), .val (.int dc), .unset, .unset] [(.int dc), (.int nn), (.ref ar)])) rfl rfl (hb hby at_344)
            have N46 := Fr.snoc X46 N18 g_ar
            have hzt := hzt.wr W46 g_ar
            have Z46 : n0 ≤ h46.size := Nat.le_trans Z18 (Keep.of_wr W46).1
            have hk46 := Nat.le_trans hk18 (Keep.of_wr W46).1
            have K46 := K18.wr W46 (Or.inr sz_ar)
            have V_ar := V_ar.put W46 (own_narB hdb)
            refine OEndsW.go (t' := T46.setTop (mkF m 345 #[.val (.int p1), .val (.int p2), .val (.int p3), .val (.int p4), .val (.long p5), .second, .val (.int (p1 &&& (3 : Int32))), .val (.int (((p1.toUInt32 >>> ((2 : Int32) &&& 31).toUInt32).toInt32) &&& (3 : Int32))), .val (.ref bs), .val (.int nn), .val (.ref ar), .val (.int dc), .unset, .unset] [])) (fun _ k => st46 _ k) ?_
            refine OEndsW.go (t' := T46.setTop (mkF m 351 #[.val (.int p1), .val (.int p2), .val (.int p3), .val (.int p4), .val (.long p5), .second, .val (.int (p1 &&& (3 : Int32))), .val (.int (((p1.toUInt32 >>> ((2 : Int32) &&& 31).toUInt32).toInt32) &&& (3 : Int32))), .val (.ref bs), .val (.int (nn + (1 : Int32))), .val (.ref ar), .val (.int dc), .unset, .unset] [])) (fun _ k => ?_) ?_
            · show Steps p.tables e below (T46.setTop (mkF m 345 #[.val (.int p1), .val (.int p2), .val (.int p3), .val (.int p4), .val (.long p5), .second, .val (.int (p1 &&& (3 : Int32))), .val (.int (((p1.toUInt32 >>> ((2 : Int32) &&& 31).toUInt32).toInt32) &&& (3 : Int32))), .val (.ref bs), .val (.int nn), .val (.ref ar), .val (.int dc), .unset, .unset] [])) _
              refine XS.iload X46.here hx rfl (hb hby at_345) rfl ?_
              show Steps p.tables e below (T46.setTop (mkF m 347 #[.val (.int p1), .val (.int p2), .val (.int p3), .val (.int p4), .val (.long p5), .second, .val (.int (p1 &&& (3 : Int32))), .val (.int (((p1.toUInt32 >>> ((2 : Int32) &&& 31).toUInt32).toInt32) &&& (3 : Int32))), .val (.ref bs), .val (.int nn), .val (.ref ar), .val (.int dc), .unset, .unset] [(.int nn)])) _
              refine XS.iconst X46.here hx rfl (hb hby at_347) ?_
              show Steps p.tables e below (T46.setTop (mkF m 348 #[.val (.int p1), .val (.int p2), .val (.int p3), .val (.int p4), .val (.long p5), .second, .val (.int (p1 &&& (3 : Int32))), .val (.int (((p1.toUInt32 >>> ((2 : Int32) &&& 31).toUInt32).toInt32) &&& (3 : Int32))), .val (.ref bs), .val (.int nn), .val (.ref ar), .val (.int dc), .unset, .unset] [(.int (1 : Int32)), (.int nn)])) _
              refine XS.iadd X46.here hx rfl (hb hby at_348) rfl ?_
              show Steps p.tables e below (T46.setTop (mkF m 349 #[.val (.int p1), .val (.int p2), .val (.int p3), .val (.int p4), .val (.long p5), .second, .val (.int (p1 &&& (3 : Int32))), .val (.int (((p1.toUInt32 >>> ((2 : Int32) &&& 31).toUInt32).toInt32) &&& (3 : Int32))), .val (.ref bs), .val (.int nn), .val (.ref ar), .val (.int dc), .unset, .unset] [(.int (nn + (1 : Int32)))])) _
              refine XS.istore X46.here hx rfl (hb hby at_349) rfl (l' := #[.val (.int p1), .val (.int p2), .val (.int p3), .val (.int p4), .val (.long p5), .second, .val (.int (p1 &&& (3 : Int32))), .val (.int (((p1.toUInt32 >>> ((2 : Int32) &&& 31).toUInt32).toInt32) &&& (3 : Int32))), .val (.ref bs), .val (.int (nn + (1 : Int32))), .val (.ref ar), .val (.int dc), .unset, .unset]) rfl ?_
              show Steps p.tables e below (T46.setTop (mkF m 351 #[.val (.int p1), .val (.int p2), .val (.int p3), .val (.int p4), .val (.long p5), .second, .val (.int (p1 &&& (3 : Int32))), .val (.int (((p1.toUInt32 >>> ((2 : Int32) &&& 31).toUInt32).toInt32) &&& (3 : Int32))), .val (.ref bs), .val (.int (nn + (1 : Int32))), .val (.ref ar), .val (.int dc), .unset, .unset] [])) _
              exact k
            exact K351 _ _ _ X46 e46 N46 Z46 _ .unset hzt V_ar K46 (Or.inl rfl)
          · refine OEndsW.go (t' := T18.setTop (mkF m 329 #[.val (.int p1), .val (.int p2), .val (.int p3), .val (.int p4), .val (.long p5), .second, .val (.int (p1 &&& (3 : Int32))), .val (.int (((p1.toUInt32 >>> ((2 : Int32) &&& 31).toUInt32).toInt32) &&& (3 : Int32))), .val (.ref bs), .val (.int nn), .val (.ref ar), .val (.int dc), .unset, .unset] [])) (fun _ k => XS.ifNo X18.here hx rfl (hb hby at_326) rfl ((if0 _ _).trans (feq h326).1) k) ?_
            refine OEndsW.go (t' := T18.setTop (mkF m 351 #[.val (.int p1), .val (.int p2), .val (.int p3), .val (.int p4), .val (.long p5), .second, .val (.int (p1 &&& (3 : Int32))), .val (.int (((p1.toUInt32 >>> ((2 : Int32) &&& 31).toUInt32).toInt32) &&& (3 : Int32))), .val (.ref bs), .val (.int (nn - (1 : Int32))), .val (.ref ar), .val (.int dc), .unset, .unset] [])) (fun _ k => ?_) ?_
            · show Steps p.tables e below (T18.setTop (mkF m 329 #[.val (.int p1), .val (.int p2), .val (.int p3), .val (.int p4), .val (.long p5), .second, .val (.int (p1 &&& (3 : Int32))), .val (.int (((p1.toUInt32 >>> ((2 : Int32) &&& 31).toUInt32).toInt32) &&& (3 : Int32))), .val (.ref bs), .val (.int nn), .val (.ref ar), .val (.int dc), .unset, .unset] [])) _
              refine XS.iload X18.here hx rfl (hb hby at_329) rfl ?_
              show Steps p.tables e below (T18.setTop (mkF m 331 #[.val (.int p1), .val (.int p2), .val (.int p3), .val (.int p4), .val (.long p5), .second, .val (.int (p1 &&& (3 : Int32))), .val (.int (((p1.toUInt32 >>> ((2 : Int32) &&& 31).toUInt32).toInt32) &&& (3 : Int32))), .val (.ref bs), .val (.int nn), .val (.ref ar), .val (.int dc), .unset, .unset] [(.int nn)])) _
              refine XS.iconst X18.here hx rfl (hb hby at_331) ?_
              show Steps p.tables e below (T18.setTop (mkF m 332 #[.val (.int p1), .val (.int p2), .val (.int p3), .val (.int p4), .val (.long p5), .second, .val (.int (p1 &&& (3 : Int32))), .val (.int (((p1.toUInt32 >>> ((2 : Int32) &&& 31).toUInt32).toInt32) &&& (3 : Int32))), .val (.ref bs), .val (.int nn), .val (.ref ar), .val (.int dc), .unset, .unset] [(.int (1 : Int32)), (.int nn)])) _
              refine XS.isub X18.here hx rfl (hb hby at_332) rfl ?_
              show Steps p.tables e below (T18.setTop (mkF m 333 #[.val (.int p1), .val (.int p2), .val (.int p3), .val (.int p4), .val (.long p5), .second, .val (.int (p1 &&& (3 : Int32))), .val (.int (((p1.toUInt32 >>> ((2 : Int32) &&& 31).toUInt32).toInt32) &&& (3 : Int32))), .val (.ref bs), .val (.int nn), .val (.ref ar), .val (.int dc), .unset, .unset] [(.int (nn - (1 : Int32)))])) _
              refine XS.istore X18.here hx rfl (hb hby at_333) rfl (l' := #[.val (.int p1), .val (.int p2), .val (.int p3), .val (.int p4), .val (.long p5), .second, .val (.int (p1 &&& (3 : Int32))), .val (.int (((p1.toUInt32 >>> ((2 : Int32) &&& 31).toUInt32).toInt32) &&& (3 : Int32))), .val (.ref bs), .val (.int (nn - (1 : Int32))), .val (.ref ar), .val (.int dc), .unset, .unset]) rfl ?_
              show Steps p.tables e below (T18.setTop (mkF m 335 #[.val (.int p1), .val (.int p2), .val (.int p3), .val (.int p4), .val (.long p5), .second, .val (.int (p1 &&& (3 : Int32))), .val (.int (((p1.toUInt32 >>> ((2 : Int32) &&& 31).toUInt32).toInt32) &&& (3 : Int32))), .val (.ref bs), .val (.int (nn - (1 : Int32))), .val (.ref ar), .val (.int dc), .unset, .unset] [])) _
              refine XS.goto X18.here hx rfl (pc0 := 335) (pc' := 351) rfl (hb hby at_335) (by decide) (by decide) ?_
              show Steps p.tables e below (T18.setTop (mkF m 351 #[.val (.int p1), .val (.int p2), .val (.int p3), .val (.int p4), .val (.long p5), .second, .val (.int (p1 &&& (3 : Int32))), .val (.int (((p1.toUInt32 >>> ((2 : Int32) &&& 31).toUInt32).toInt32) &&& (3 : Int32))), .val (.ref bs), .val (.int (nn - (1 : Int32))), .val (.ref ar), .val (.int dc), .unset, .unset] [])) _
              exact k
            exact K351 _ _ _ X18 e18 N18 Z18 _ .unset hzt V_ar K18 (Or.inl rfl)
        · refine OEndsW.go (t' := T18.setTop (mkF m 351 #[.val (.int p1), .val (.int p2), .val (.int p3), .val (.int p4), .val (.long p5), .second, .val (.int (p1 &&& (3 : Int32))), .val (.int (((p1.toUInt32 >>> ((2 : Int32) &&& 31).toUInt32).toInt32) &&& (3 : Int32))), .val (.ref bs), .val (.int nn), .val (.ref ar), .val (.int dc), .unset, .unset] [])) (fun _ k => XS.icmpYes X18.here hx rfl (pc0 := 318) (pc' := 351) rfl (hb hby at_318) rfl (feq m3).2 (by decide) (by decide) k) ?_
          exact K351 _ _ _ X18 e18 N18 Z18 _ .unset hzt V_ar K18 (Or.inl rfl)
  refine OEndsW.go (t' := s₁.setTop (mkF m 14 #[.val (.int p1), .val (.int p2), .val (.int p3), .val (.int p4), .val (.long p5), .second, .val (.int (p1 &&& (3 : Int32))), .val (.int (((p1.toUInt32 >>> ((2 : Int32) &&& 31).toUInt32).toInt32) &&& (3 : Int32))), .unset, .unset, .unset, .unset, .unset, .unset] [(.int (p1 &&& (3 : Int32)))])) (fun _ k => ?_) ?_
  · show Steps p.tables e below (s₁.setTop (mkF m 12 #[.val (.int p1), .val (.int p2), .val (.int p3), .val (.int p4), .val (.long p5), .second, .val (.int (p1 &&& (3 : Int32))), .val (.int (((p1.toUInt32 >>> ((2 : Int32) &&& 31).toUInt32).toInt32) &&& (3 : Int32))), .unset, .unset, .unset, .unset, .unset, .unset] [])) _
    refine XS.iload X0.here hx rfl (hb hby at_12) rfl ?_
    show Steps p.tables e below (s₁.setTop (mkF m 14 #[.val (.int p1), .val (.int p2), .val (.int p3), .val (.int p4), .val (.long p5), .second, .val (.int (p1 &&& (3 : Int32))), .val (.int (((p1.toUInt32 >>> ((2 : Int32) &&& 31).toUInt32).toInt32) &&& (3 : Int32))), .unset, .unset, .unset, .unset, .unset, .unset] [(.int (p1 &&& (3 : Int32)))])) _
    exact k
  by_cases k0 : (p1 &&& (3 : Int32)) = (0 : Int32)
  · refine OEndsW.go (t' := s₁.setTop (mkF m 17 #[.val (.int p1), .val (.int p2), .val (.int p3), .val (.int p4), .val (.long p5), .second, .val (.int (p1 &&& (3 : Int32))), .val (.int (((p1.toUInt32 >>> ((2 : Int32) &&& 31).toUInt32).toInt32) &&& (3 : Int32))), .unset, .unset, .unset, .unset, .unset, .unset] [])) (fun _ k => XS.ifNo X0.here hx rfl (hb hby at_14) rfl ((if0 _ _).trans (teq k0).2) k) ?_
    have wS47 : ∀ a ∈ Bundle.stringAtoms, a.before a0 Z = true := by
      intro d hd
      simp only [Bundle.stringAtoms, List.mem_cons, List.not_mem_nil, or_false] at hd
      rcases hd with rfl | rfl | rfl | rfl | rfl | rfl | rfl
      · exact hw _ (List.mem_of_getElem? (i := 1) rfl)
      · exact hw _ (List.mem_of_getElem? (i := 2) rfl)
      · exact hw _ (List.mem_of_getElem? (i := 3) rfl)
      · exact hw _ (List.mem_of_getElem? (i := 4) rfl)
      · exact hw _ (List.mem_of_getElem? (i := 5) rfl)
      · exact hw _ (List.mem_of_getElem? (i := 6) rfl)
      · exact hw _ (List.mem_of_getElem? (i := 7) rfl)
    obtain ⟨t0, T47, h47, kz47, t0_b, t0_k, vm47, X47, e47, E47, hS47, hk47, hZ, hown, t0_S, hAll, LT47, st47⟩ := own_ldc (s := s) (vm0 := s.vm) (D := own_lits) (xs := [101, 98]) X0 hx hZ hown (hw _ (List.mem_of_getElem? (i := 0) rfl)) wS47 e0 hS0 (Nat.zero_le _) (by rw [hh, ← hn0]; exact N0) hkp hAll (List.mem_of_getElem? (i := 0) rfl) own_lits_0 (hH _ (List.mem_of_getElem? (i := 0) rfl)) hcw (by decide) (by decide) (g := (mkF m 17 #[.val (.int p1), .val (.int p2), .val (.int p3), .val (.int p4), .val (.long p5), .second, .val (.int (p1 &&& (3 : Int32))), .val (.int (((p1.toUInt32 >>> ((2 : Int32) &&& 31).toUInt32).toInt32) &&& (3 : Int32))), .unset, .unset, .unset, .unset, .unset, .unset] [])) rfl (hb hby at_17) (n := 8) (by decide) (by decide) (by decide) (by decide)
    have hzt := hzt.ext E47
    have Z47 : n0 ≤ h47.size := Nat.le_trans Z0 E47.1
    refine OEndsW.go (t' := T47.setTop (mkF m 19 #[.val (.int p1), .val (.int p2), .val (.int p3), .val (.int p4), .val (.long p5), .second, .val (.int (p1 &&& (3 : Int32))), .val (.int (((p1.toUInt32 >>> ((2 : Int32) &&& 31).toUInt32).toInt32) &&& (3 : Int32))), .unset, .unset, .unset, .unset, .unset, .unset] [(.ref t0)])) (fun _ k => st47 _ k) ?_
    refine OEndsW.go (t' := T47.setTop (mkF m 46 #[.val (.int p1), .val (.int p2), .val (.int p3), .val (.int p4), .val (.long p5), .second, .val (.int (p1 &&& (3 : Int32))), .val (.int (((p1.toUInt32 >>> ((2 : Int32) &&& 31).toUInt32).toInt32) &&& (3 : Int32))), .unset, .unset, .unset, .unset, .unset, .unset] [(.ref t0)])) (fun _ k => ?_) ?_
    · show Steps p.tables e below (T47.setTop (mkF m 19 #[.val (.int p1), .val (.int p2), .val (.int p3), .val (.int p4), .val (.long p5), .second, .val (.int (p1 &&& (3 : Int32))), .val (.int (((p1.toUInt32 >>> ((2 : Int32) &&& 31).toUInt32).toInt32) &&& (3 : Int32))), .unset, .unset, .unset, .unset, .unset, .unset] [(.ref t0)])) _
      refine XS.goto X47.here hx rfl (pc0 := 19) (pc' := 46) rfl (hb hby at_19) (by decide) (by decide) ?_
      show Steps p.tables e below (T47.setTop (mkF m 46 #[.val (.int p1), .val (.int p2), .val (.int p3), .val (.int p4), .val (.long p5), .second, .val (.int (p1 &&& (3 : Int32))), .val (.int (((p1.toUInt32 >>> ((2 : Int32) &&& 31).toUInt32).toInt32) &&& (3 : Int32))), .unset, .unset, .unset, .unset, .unset, .unset] [(.ref t0)])) _
      exact k
    exact K46 _ _ _ vm47 _ (X47.mono (by decide) (by decide)) e47 N0 Z47 hS47 hk47 hZ hown _ _ _ _ hzt hAll t0_S (by decide)
  · refine OEndsW.go (t' := s₁.setTop (mkF m 22 #[.val (.int p1), .val (.int p2), .val (.int p3), .val (.int p4), .val (.long p5), .second, .val (.int (p1 &&& (3 : Int32))), .val (.int (((p1.toUInt32 >>> ((2 : Int32) &&& 31).toUInt32).toInt32) &&& (3 : Int32))), .unset, .unset, .unset, .unset, .unset, .unset] [])) (fun _ k => XS.ifYes X0.here hx rfl (pc0 := 14) (pc' := 22) rfl (hb hby at_14) rfl ((if0 _ _).trans (feq k0).2) (by decide) (by decide) k) ?_
    refine OEndsW.go (t' := s₁.setTop (mkF m 25 #[.val (.int p1), .val (.int p2), .val (.int p3), .val (.int p4), .val (.long p5), .second, .val (.int (p1 &&& (3 : Int32))), .val (.int (((p1.toUInt32 >>> ((2 : Int32) &&& 31).toUInt32).toInt32) &&& (3 : Int32))), .unset, .unset, .unset, .unset, .unset, .unset] [(.int (1 : Int32)), (.int (p1 &&& (3 : Int32)))])) (fun _ k => ?_) ?_
    · show Steps p.tables e below (s₁.setTop (mkF m 22 #[.val (.int p1), .val (.int p2), .val (.int p3), .val (.int p4), .val (.long p5), .second, .val (.int (p1 &&& (3 : Int32))), .val (.int (((p1.toUInt32 >>> ((2 : Int32) &&& 31).toUInt32).toInt32) &&& (3 : Int32))), .unset, .unset, .unset, .unset, .unset, .unset] [])) _
      refine XS.iload X0.here hx rfl (hb hby at_22) rfl ?_
      show Steps p.tables e below (s₁.setTop (mkF m 24 #[.val (.int p1), .val (.int p2), .val (.int p3), .val (.int p4), .val (.long p5), .second, .val (.int (p1 &&& (3 : Int32))), .val (.int (((p1.toUInt32 >>> ((2 : Int32) &&& 31).toUInt32).toInt32) &&& (3 : Int32))), .unset, .unset, .unset, .unset, .unset, .unset] [(.int (p1 &&& (3 : Int32)))])) _
      refine XS.iconst X0.here hx rfl (hb hby at_24) ?_
      show Steps p.tables e below (s₁.setTop (mkF m 25 #[.val (.int p1), .val (.int p2), .val (.int p3), .val (.int p4), .val (.long p5), .second, .val (.int (p1 &&& (3 : Int32))), .val (.int (((p1.toUInt32 >>> ((2 : Int32) &&& 31).toUInt32).toInt32) &&& (3 : Int32))), .unset, .unset, .unset, .unset, .unset, .unset] [(.int (1 : Int32)), (.int (p1 &&& (3 : Int32)))])) _
      exact k
    by_cases k1 : (p1 &&& (3 : Int32)) = (1 : Int32)
    · refine OEndsW.go (t' := s₁.setTop (mkF m 28 #[.val (.int p1), .val (.int p2), .val (.int p3), .val (.int p4), .val (.long p5), .second, .val (.int (p1 &&& (3 : Int32))), .val (.int (((p1.toUInt32 >>> ((2 : Int32) &&& 31).toUInt32).toInt32) &&& (3 : Int32))), .unset, .unset, .unset, .unset, .unset, .unset] [])) (fun _ k => XS.icmpNo X0.here hx rfl (hb hby at_25) rfl (teq k1).2 k) ?_
      have wS48 : ∀ a ∈ Bundle.stringAtoms, a.before a0 Z = true := by
        intro d hd
        simp only [Bundle.stringAtoms, List.mem_cons, List.not_mem_nil, or_false] at hd
        rcases hd with rfl | rfl | rfl | rfl | rfl | rfl | rfl
        · exact hw _ (List.mem_of_getElem? (i := 1) rfl)
        · exact hw _ (List.mem_of_getElem? (i := 2) rfl)
        · exact hw _ (List.mem_of_getElem? (i := 3) rfl)
        · exact hw _ (List.mem_of_getElem? (i := 4) rfl)
        · exact hw _ (List.mem_of_getElem? (i := 5) rfl)
        · exact hw _ (List.mem_of_getElem? (i := 6) rfl)
        · exact hw _ (List.mem_of_getElem? (i := 7) rfl)
      obtain ⟨t1, T48, h48, kz48, t1_b, t1_k, vm48, X48, e48, E48, hS48, hk48, hZ, hown, t1_S, hAll, LT48, st48⟩ := own_ldc (s := s) (vm0 := s.vm) (D := own_lits) (xs := [116, 102, 99, 46, 116, 102, 99]) X0 hx hZ hown (hw _ (List.mem_of_getElem? (i := 111) rfl)) wS48 e0 hS0 (Nat.zero_le _) (by rw [hh, ← hn0]; exact N0) hkp hAll (List.mem_of_getElem? (i := 1) rfl) own_lits_1 (hH _ (List.mem_of_getElem? (i := 1) rfl)) hcw (by decide) (by decide) (g := (mkF m 28 #[.val (.int p1), .val (.int p2), .val (.int p3), .val (.int p4), .val (.long p5), .second, .val (.int (p1 &&& (3 : Int32))), .val (.int (((p1.toUInt32 >>> ((2 : Int32) &&& 31).toUInt32).toInt32) &&& (3 : Int32))), .unset, .unset, .unset, .unset, .unset, .unset] [])) rfl (hb hby at_28) (n := 28) (by decide) (by decide) (by decide) (by decide)
      have hzt := hzt.ext E48
      have Z48 : n0 ≤ h48.size := Nat.le_trans Z0 E48.1
      refine OEndsW.go (t' := T48.setTop (mkF m 30 #[.val (.int p1), .val (.int p2), .val (.int p3), .val (.int p4), .val (.long p5), .second, .val (.int (p1 &&& (3 : Int32))), .val (.int (((p1.toUInt32 >>> ((2 : Int32) &&& 31).toUInt32).toInt32) &&& (3 : Int32))), .unset, .unset, .unset, .unset, .unset, .unset] [(.ref t1)])) (fun _ k => st48 _ k) ?_
      refine OEndsW.go (t' := T48.setTop (mkF m 46 #[.val (.int p1), .val (.int p2), .val (.int p3), .val (.int p4), .val (.long p5), .second, .val (.int (p1 &&& (3 : Int32))), .val (.int (((p1.toUInt32 >>> ((2 : Int32) &&& 31).toUInt32).toInt32) &&& (3 : Int32))), .unset, .unset, .unset, .unset, .unset, .unset] [(.ref t1)])) (fun _ k => ?_) ?_
      · show Steps p.tables e below (T48.setTop (mkF m 30 #[.val (.int p1), .val (.int p2), .val (.int p3), .val (.int p4), .val (.long p5), .second, .val (.int (p1 &&& (3 : Int32))), .val (.int (((p1.toUInt32 >>> ((2 : Int32) &&& 31).toUInt32).toInt32) &&& (3 : Int32))), .unset, .unset, .unset, .unset, .unset, .unset] [(.ref t1)])) _
        refine XS.goto X48.here hx rfl (pc0 := 30) (pc' := 46) rfl (hb hby at_30) (by decide) (by decide) ?_
        show Steps p.tables e below (T48.setTop (mkF m 46 #[.val (.int p1), .val (.int p2), .val (.int p3), .val (.int p4), .val (.long p5), .second, .val (.int (p1 &&& (3 : Int32))), .val (.int (((p1.toUInt32 >>> ((2 : Int32) &&& 31).toUInt32).toInt32) &&& (3 : Int32))), .unset, .unset, .unset, .unset, .unset, .unset] [(.ref t1)])) _
        exact k
      exact K46 _ _ _ vm48 _ (X48.mono (by decide) (by decide)) e48 N0 Z48 hS48 hk48 hZ hown _ _ _ _ hzt hAll t1_S (by decide)
    · refine OEndsW.go (t' := s₁.setTop (mkF m 33 #[.val (.int p1), .val (.int p2), .val (.int p3), .val (.int p4), .val (.long p5), .second, .val (.int (p1 &&& (3 : Int32))), .val (.int (((p1.toUInt32 >>> ((2 : Int32) &&& 31).toUInt32).toInt32) &&& (3 : Int32))), .unset, .unset, .unset, .unset, .unset, .unset] [])) (fun _ k => XS.icmpYes X0.here hx rfl (pc0 := 25) (pc' := 33) rfl (hb hby at_25) rfl (feq k1).2 (by decide) (by decide) k) ?_
      refine OEndsW.go (t' := s₁.setTop (mkF m 36 #[.val (.int p1), .val (.int p2), .val (.int p3), .val (.int p4), .val (.long p5), .second, .val (.int (p1 &&& (3 : Int32))), .val (.int (((p1.toUInt32 >>> ((2 : Int32) &&& 31).toUInt32).toInt32) &&& (3 : Int32))), .unset, .unset, .unset, .unset, .unset, .unset] [(.int (2 : Int32)), (.int (p1 &&& (3 : Int32)))])) (fun _ k => ?_) ?_
      · show Steps p.tables e below (s₁.setTop (mkF m 33 #[.val (.int p1), .val (.int p2), .val (.int p3), .val (.int p4), .val (.long p5), .second, .val (.int (p1 &&& (3 : Int32))), .val (.int (((p1.toUInt32 >>> ((2 : Int32) &&& 31).toUInt32).toInt32) &&& (3 : Int32))), .unset, .unset, .unset, .unset, .unset, .unset] [])) _
        refine XS.iload X0.here hx rfl (hb hby at_33) rfl ?_
        show Steps p.tables e below (s₁.setTop (mkF m 35 #[.val (.int p1), .val (.int p2), .val (.int p3), .val (.int p4), .val (.long p5), .second, .val (.int (p1 &&& (3 : Int32))), .val (.int (((p1.toUInt32 >>> ((2 : Int32) &&& 31).toUInt32).toInt32) &&& (3 : Int32))), .unset, .unset, .unset, .unset, .unset, .unset] [(.int (p1 &&& (3 : Int32)))])) _
        refine XS.iconst X0.here hx rfl (hb hby at_35) ?_
        show Steps p.tables e below (s₁.setTop (mkF m 36 #[.val (.int p1), .val (.int p2), .val (.int p3), .val (.int p4), .val (.long p5), .second, .val (.int (p1 &&& (3 : Int32))), .val (.int (((p1.toUInt32 >>> ((2 : Int32) &&& 31).toUInt32).toInt32) &&& (3 : Int32))), .unset, .unset, .unset, .unset, .unset, .unset] [(.int (2 : Int32)), (.int (p1 &&& (3 : Int32)))])) _
        exact k
      by_cases k2 : (p1 &&& (3 : Int32)) = (2 : Int32)
      · refine OEndsW.go (t' := s₁.setTop (mkF m 39 #[.val (.int p1), .val (.int p2), .val (.int p3), .val (.int p4), .val (.long p5), .second, .val (.int (p1 &&& (3 : Int32))), .val (.int (((p1.toUInt32 >>> ((2 : Int32) &&& 31).toUInt32).toInt32) &&& (3 : Int32))), .unset, .unset, .unset, .unset, .unset, .unset] [])) (fun _ k => XS.icmpNo X0.here hx rfl (hb hby at_36) rfl (teq k2).2 k) ?_
        have wS49 : ∀ a ∈ Bundle.stringAtoms, a.before a0 Z = true := by
          intro d hd
          simp only [Bundle.stringAtoms, List.mem_cons, List.not_mem_nil, or_false] at hd
          rcases hd with rfl | rfl | rfl | rfl | rfl | rfl | rfl
          · exact hw _ (List.mem_of_getElem? (i := 1) rfl)
          · exact hw _ (List.mem_of_getElem? (i := 2) rfl)
          · exact hw _ (List.mem_of_getElem? (i := 3) rfl)
          · exact hw _ (List.mem_of_getElem? (i := 4) rfl)
          · exact hw _ (List.mem_of_getElem? (i := 5) rfl)
          · exact hw _ (List.mem_of_getElem? (i := 6) rfl)
          · exact hw _ (List.mem_of_getElem? (i := 7) rfl)
        obtain ⟨t2, T49, h49, kz49, t2_b, t2_k, vm49, X49, e49, E49, hS49, hk49, hZ, hown, t2_S, hAll, LT49, st49⟩ := own_ldc (s := s) (vm0 := s.vm) (D := own_lits) (xs := [108, 120, 99, 46, 108, 116, 99]) X0 hx hZ hown (hw _ (List.mem_of_getElem? (i := 108) rfl)) wS49 e0 hS0 (Nat.zero_le _) (by rw [hh, ← hn0]; exact N0) hkp hAll (List.mem_of_getElem? (i := 2) rfl) own_lits_2 (hH _ (List.mem_of_getElem? (i := 2) rfl)) hcw (by decide) (by decide) (g := (mkF m 39 #[.val (.int p1), .val (.int p2), .val (.int p3), .val (.int p4), .val (.long p5), .second, .val (.int (p1 &&& (3 : Int32))), .val (.int (((p1.toUInt32 >>> ((2 : Int32) &&& 31).toUInt32).toInt32) &&& (3 : Int32))), .unset, .unset, .unset, .unset, .unset, .unset] [])) rfl (hb hby at_39) (n := 28) (by decide) (by decide) (by decide) (by decide)
        have hzt := hzt.ext E49
        have Z49 : n0 ≤ h49.size := Nat.le_trans Z0 E49.1
        refine OEndsW.go (t' := T49.setTop (mkF m 41 #[.val (.int p1), .val (.int p2), .val (.int p3), .val (.int p4), .val (.long p5), .second, .val (.int (p1 &&& (3 : Int32))), .val (.int (((p1.toUInt32 >>> ((2 : Int32) &&& 31).toUInt32).toInt32) &&& (3 : Int32))), .unset, .unset, .unset, .unset, .unset, .unset] [(.ref t2)])) (fun _ k => st49 _ k) ?_
        refine OEndsW.go (t' := T49.setTop (mkF m 46 #[.val (.int p1), .val (.int p2), .val (.int p3), .val (.int p4), .val (.long p5), .second, .val (.int (p1 &&& (3 : Int32))), .val (.int (((p1.toUInt32 >>> ((2 : Int32) &&& 31).toUInt32).toInt32) &&& (3 : Int32))), .unset, .unset, .unset, .unset, .unset, .unset] [(.ref t2)])) (fun _ k => ?_) ?_
        · show Steps p.tables e below (T49.setTop (mkF m 41 #[.val (.int p1), .val (.int p2), .val (.int p3), .val (.int p4), .val (.long p5), .second, .val (.int (p1 &&& (3 : Int32))), .val (.int (((p1.toUInt32 >>> ((2 : Int32) &&& 31).toUInt32).toInt32) &&& (3 : Int32))), .unset, .unset, .unset, .unset, .unset, .unset] [(.ref t2)])) _
          refine XS.goto X49.here hx rfl (pc0 := 41) (pc' := 46) rfl (hb hby at_41) (by decide) (by decide) ?_
          show Steps p.tables e below (T49.setTop (mkF m 46 #[.val (.int p1), .val (.int p2), .val (.int p3), .val (.int p4), .val (.long p5), .second, .val (.int (p1 &&& (3 : Int32))), .val (.int (((p1.toUInt32 >>> ((2 : Int32) &&& 31).toUInt32).toInt32) &&& (3 : Int32))), .unset, .unset, .unset, .unset, .unset, .unset] [(.ref t2)])) _
          exact k
        exact K46 _ _ _ vm49 _ (X49.mono (by decide) (by decide)) e49 N0 Z49 hS49 hk49 hZ hown _ _ _ _ hzt hAll t2_S (by decide)
      · refine OEndsW.go (t' := s₁.setTop (mkF m 44 #[.val (.int p1), .val (.int p2), .val (.int p3), .val (.int p4), .val (.long p5), .second, .val (.int (p1 &&& (3 : Int32))), .val (.int (((p1.toUInt32 >>> ((2 : Int32) &&& 31).toUInt32).toInt32) &&& (3 : Int32))), .unset, .unset, .unset, .unset, .unset, .unset] [])) (fun _ k => XS.icmpYes X0.here hx rfl (pc0 := 36) (pc' := 44) rfl (hb hby at_36) rfl (feq k2).2 (by decide) (by decide) k) ?_
        have wS50 : ∀ a ∈ Bundle.stringAtoms, a.before a0 Z = true := by
          intro d hd
          simp only [Bundle.stringAtoms, List.mem_cons, List.not_mem_nil, or_false] at hd
          rcases hd with rfl | rfl | rfl | rfl | rfl | rfl | rfl
          · exact hw _ (List.mem_of_getElem? (i := 1) rfl)
          · exact hw _ (List.mem_of_getElem? (i := 2) rfl)
          · exact hw _ (List.mem_of_getElem? (i := 3) rfl)
          · exact hw _ (List.mem_of_getElem? (i := 4) rfl)
          · exact hw _ (List.mem_of_getElem? (i := 5) rfl)
          · exact hw _ (List.mem_of_getElem? (i := 6) rfl)
          · exact hw _ (List.mem_of_getElem? (i := 7) rfl)
        obtain ⟨t3, T50, h50, kz50, t3_b, t3_k, vm50, X50, e50, E50, hS50, hk50, hZ, hown, t3_S, hAll, LT50, st50⟩ := own_ldc (s := s) (vm0 := s.vm) (D := own_lits) (xs := [76, 110, 117, 46, 108, 116, 117]) X0 hx hZ hown (hw _ (List.mem_of_getElem? (i := 112) rfl)) wS50 e0 hS0 (Nat.zero_le _) (by rw [hh, ← hn0]; exact N0) hkp hAll (List.mem_of_getElem? (i := 3) rfl) own_lits_3 (hH _ (List.mem_of_getElem? (i := 3) rfl)) hcw (by decide) (by decide) (g := (mkF m 44 #[.val (.int p1), .val (.int p2), .val (.int p3), .val (.int p4), .val (.long p5), .second, .val (.int (p1 &&& (3 : Int32))), .val (.int (((p1.toUInt32 >>> ((2 : Int32) &&& 31).toUInt32).toInt32) &&& (3 : Int32))), .unset, .unset, .unset, .unset, .unset, .unset] [])) rfl (hb hby at_44) (n := 28) (by decide) (by decide) (by decide) (by decide)
        have hzt := hzt.ext E50
        have Z50 : n0 ≤ h50.size := Nat.le_trans Z0 E50.1
        refine OEndsW.go (t' := T50.setTop (mkF m 46 #[.val (.int p1), .val (.int p2), .val (.int p3), .val (.int p4), .val (.long p5), .second, .val (.int (p1 &&& (3 : Int32))), .val (.int (((p1.toUInt32 >>> ((2 : Int32) &&& 31).toUInt32).toInt32) &&& (3 : Int32))), .unset, .unset, .unset, .unset, .unset, .unset] [(.ref t3)])) (fun _ k => st50 _ k) ?_
        exact K46 _ _ _ vm50 _ (X50.mono (by decide) (by decide)) e50 N0 Z50 hS50 hk50 hZ hown _ _ _ _ hzt hAll t3_S (by decide)
set_option maxRecDepth 65536 in
set_option maxHeartbeats 40000000 in
theorem comes_1 {Post : Tables → Env → Array Value → State → Outcome → State → Prop} (hpost : ∀ tb e args s v u, (limb_1_1.after args s (.returned v) u = true ∧ limb_1_2.after args s (.returned v) u = true ∧ True) → ReturnedEndW s (.returned v) u (Jvm.fieldLocs frame_1_writes args s ++ Jvm.arrayLocs frame_1_arrays args s ++ Jvm.staticLocs frame_1_statics s) 32 5312 → Post tb e args s (.returned v) u) :
    ArmFor flags0 classFile x code maxLocals ret World_1 tables_1 room_1 Calls_1 rest_1 Pre_1 Post := by
  intro l hfl _ _ p e ha hc hk s m args below hf hA hF happ hP
  obtain ⟨hcalls, hrest, hpre⟩ := hP
  obtain ⟨-, -, -, hnamed, -, -, -, hat⟩ := (Spec.applies_iff hf).mp happ
  obtain ⟨hg, hn⟩ := and_e (Cond.before_iff.mp (show (Jvm.Cond.and given_1 narrow_1).before args s = true from hpre))
  obtain ⟨gc, g0⟩ := and_e hg
  obtain ⟨ga0, g1⟩ := and_e g0
  obtain ⟨ga1, g2⟩ := and_e g1
  obtain ⟨ga2, g3⟩ := and_e g2
  obtain ⟨ga3, g4⟩ := and_e g3
  obtain ⟨w0, w1, w2, w3, w4, rfl⟩ : ∃ w0 w1 w2 w3 w4 : Value, args = #[w0, w1, w2, w3, w4] := by
    have hs : args.size = 5 := by simpa [Cond.value, given_1] using gc
    obtain ⟨L⟩ := args
    match L, hs with
    | [w0, w1, w2, w3, w4], _ => exact ⟨w0, w1, w2, w3, w4, rfl⟩
  have hw := fun d (hd : d ∈ tables_1) => atoms_spec (ws := Jvm.Cond.code x code maxLocals ret :: tables_1) hat d (List.mem_cons_of_mem _ hd)
  have hfit : Fit s := fun {y c} hc i hi => by
    obtain ⟨ha, rfl⟩ := Array.getElem?_eq_some_iff.mp hc
    have q := List.all_eq_true.mp ((Array.all_eq_true_iff_forall_mem.mp hF) _ (Array.getElem_mem ha)) i (List.mem_range.mpr hi)
    simpa [Array.getElem?_eq_getElem hi] using q
  obtain ⟨hsets, hown0⟩ := atoms_of _ (rest_1_c_eq ▸ (show rest_1_c.before _ s = true from hrest))
  obtain ⟨i0, ei0⟩ := is_v ga0
  obtain rfl : w0 = (.int i0) := Option.some.inj ei0
  obtain ⟨i1, ei1⟩ := is_v ga1
  obtain rfl : w1 = (.int i1) := Option.some.inj ei1
  obtain ⟨i2, ei2⟩ := is_v ga2
  obtain rfl : w2 = (.int i2) := Option.some.inj ei2
  obtain ⟨i3, ei3⟩ := is_v ga3
  obtain rfl : w3 = (.int i3) := Option.some.inj ei3
  obtain ⟨i4, ei4⟩ := isL_v g4
  obtain rfl : w4 = (.long i4) := Option.some.inj ei4
  obtain ⟨n0, hn0⟩ := and_e hn
  obtain ⟨n1, hn1⟩ := and_e hn0
  obtain ⟨n2, hn2⟩ := and_e hn1
  obtain ⟨n3, hn3⟩ := and_e hn2
  obtain ⟨n4, hn4⟩ := and_e hn3
  obtain ⟨n5, hn5⟩ := and_e hn4
  obtain ⟨n6, hn6⟩ := and_e hn5
  obtain ⟨n7, hn7⟩ := and_e hn6
  obtain ⟨n8, hn8⟩ := and_e hn7
  obtain ⟨n9, hn9⟩ := and_e hn8
  obtain ⟨n10, hn10⟩ := and_e hn9
  obtain ⟨n11, hn11⟩ := and_e hn10
  obtain ⟨n12, hn12⟩ := and_e hn11
  obtain ⟨n13, hn13⟩ := and_e hn12
  obtain ⟨n14, hn14⟩ := and_e hn13
  obtain ⟨n15, hn15⟩ := and_e hn14
  obtain ⟨n16, hn16⟩ := and_e hn15
  obtain ⟨n17, hn17⟩ := and_e hn16
  obtain ⟨n18, hn18⟩ := and_e hn17
  obtain ⟨n19, hn19⟩ := and_e hn18
  obtain ⟨n20, hn20⟩ := and_e hn19
  obtain ⟨n21, hn21⟩ := and_e hn20
  obtain ⟨n22, hn22⟩ := and_e hn21
  obtain ⟨n23, hn23⟩ := and_e hn22
  obtain ⟨n24, hn24⟩ := and_e hn23
  obtain ⟨n25, hn25⟩ := and_e hn24
  obtain ⟨n26, hn26⟩ := and_e hn25
  obtain ⟨n27, hn27⟩ := and_e hn26
  obtain ⟨n28, hn28⟩ := and_e hn27
  obtain ⟨n29, hn29⟩ := and_e hn28
  obtain ⟨n30, hn30⟩ := and_e hn29
  obtain ⟨n31, hn31⟩ := and_e hn30
  obtain ⟨n32, hn32⟩ := and_e hn31
  obtain ⟨n33, hn33⟩ := and_e hn32
  obtain ⟨n34, hn34⟩ := and_e hn33
  obtain ⟨n35, hn35⟩ := and_e hn34
  obtain ⟨n36, hn36⟩ := and_e hn35
  obtain ⟨n37, hn37⟩ := and_e hn36
  obtain ⟨n38, hn38⟩ := and_e hn37
  obtain ⟨n39, hn39⟩ := and_e hn38
  obtain ⟨n40, hn40⟩ := and_e hn39
  obtain ⟨n41, hn41⟩ := and_e hn40
  obtain ⟨n42, hn42⟩ := and_e hn41
  obtain ⟨n43, hn43⟩ := and_e hn42
  obtain ⟨n44, hn44⟩ := and_e hn43
  obtain ⟨n45, hn45⟩ := and_e hn44
  obtain ⟨n46, hn46⟩ := and_e hn45
  obtain ⟨n47, hn47⟩ := and_e hn46
  obtain ⟨n48, hn48⟩ := and_e hn47
  have n49 := hn48
  obtain ⟨a_EB, v_EB⟩ := exa_v n0
  have E_EB := Exa.start v_EB n0
  have S_EB := Sta.start v_EB (Or.inr ⟨(hw _ (List.mem_of_getElem? (i := 82) rfl)), (hw _ (List.mem_of_getElem? (i := 83) rfl))⟩)
  obtain ⟨a_VALUES, v_VALUES⟩ := exa_v n2
  have E_VALUES := Exa.start v_VALUES n2
  have S_VALUES := Sta.start v_VALUES (Or.inr ⟨(hw _ (List.mem_of_getElem? (i := 82) rfl)), (hw _ (List.mem_of_getElem? (i := 91) rfl))⟩)
  obtain ⟨a_TFC_TFC, v_TFC_TFC⟩ := exa_v n5
  have E_TFC_TFC := Exa.start v_TFC_TFC n5
  have S_TFC_TFC := Sta.start v_TFC_TFC (Or.inr ⟨(hw _ (List.mem_of_getElem? (i := 82) rfl)), (hw _ (List.mem_of_getElem? (i := 99) rfl))⟩)
  obtain ⟨a_LXC_LTC, v_LXC_LTC⟩ := exa_v n7
  have E_LXC_LTC := Exa.start v_LXC_LTC n7
  have S_LXC_LTC := Sta.start v_LXC_LTC (Or.inr ⟨(hw _ (List.mem_of_getElem? (i := 82) rfl)), (hw _ (List.mem_of_getElem? (i := 100) rfl))⟩)
  obtain ⟨a_LNU_LTU, v_LNU_LTU⟩ := exa_v n9
  have E_LNU_LTU := Exa.start v_LNU_LTU n9
  have S_LNU_LTU := Sta.start v_LNU_LTU (Or.inr ⟨(hw _ (List.mem_of_getElem? (i := 82) rfl)), (hw _ (List.mem_of_getElem? (i := 101) rfl))⟩)
  obtain ⟨sa_EB, vs_EB⟩ := exa_v n11
  have Ft_EB : Fld s s.heap a_EB "com/example/pnorm/pnorm/model/Weighting" "name" "Ljava/lang/String;" (.ref sa_EB) := Fld.start (by rw [← fld_at v_EB]; exact vs_EB)
  have Es_EB := Exa.start vs_EB n11
  have Cs_EB := Fld.start (own_fldi vs_EB n12)
  obtain ⟨sb_EB, vb_EB⟩ := arr_v n13
  have Vs_EB : Fld s s.heap sa_EB "java/lang/String" "value" "[B" (.ref sb_EB) := Fld.start (by rw [← fld_at vs_EB]; exact vb_EB)
  obtain ⟨cl_EB, Ar_EB⟩ := Arr.start vb_EB n13
  obtain ⟨hz_EB, hl_EB⟩ := own_len vb_EB Ar_EB n14
  have SS_EB : own_S s s.heap sa_EB sb_EB cl_EB.cls [101, 98] := ⟨Es_EB, Cs_EB, Vs_EB, Arv.start hfit Ar_EB hz_EB hl_EB (by decide) (by decide) ⟨own_el vb_EB Ar_EB n15, own_el vb_EB Ar_EB n16, trivial⟩, by decide⟩
  obtain ⟨sa_TFC_TFC, vs_TFC_TFC⟩ := exa_v n17
  have Ft_TFC_TFC : Fld s s.heap a_TFC_TFC "com/example/pnorm/pnorm/model/Weighting" "name" "Ljava/lang/String;" (.ref sa_TFC_TFC) := Fld.start (by rw [← fld_at v_TFC_TFC]; exact vs_TFC_TFC)
  have Es_TFC_TFC := Exa.start vs_TFC_TFC n17
  have Cs_TFC_TFC := Fld.start (own_fldi vs_TFC_TFC n18)
  obtain ⟨sb_TFC_TFC, vb_TFC_TFC⟩ := arr_v n19
  have Vs_TFC_TFC : Fld s s.heap sa_TFC_TFC "java/lang/String" "value" "[B" (.ref sb_TFC_TFC) := Fld.start (by rw [← fld_at vs_TFC_TFC]; exact vb_TFC_TFC)
  obtain ⟨cl_TFC_TFC, Ar_TFC_TFC⟩ := Arr.start vb_TFC_TFC n19
  obtain ⟨hz_TFC_TFC, hl_TFC_TFC⟩ := own_len vb_TFC_TFC Ar_TFC_TFC n20
  have SS_TFC_TFC : own_S s s.heap sa_TFC_TFC sb_TFC_TFC cl_TFC_TFC.cls [116, 102, 99, 46, 116, 102, 99] := ⟨Es_TFC_TFC, Cs_TFC_TFC, Vs_TFC_TFC, Arv.start hfit Ar_TFC_TFC hz_TFC_TFC hl_TFC_TFC (by decide) (by decide) ⟨own_el vb_TFC_TFC Ar_TFC_TFC n29, own_el vb_TFC_TFC Ar_TFC_TFC n30, own_el vb_TFC_TFC Ar_TFC_TFC n31, own_el vb_TFC_TFC Ar_TFC_TFC n32, own_el vb_TFC_TFC Ar_TFC_TFC n33, own_el vb_TFC_TFC Ar_TFC_TFC n34, own_el vb_TFC_TFC Ar_TFC_TFC n35, trivial⟩, by decide⟩
  obtain ⟨sa_LXC_LTC, vs_LXC_LTC⟩ := exa_v n21
  have Ft_LXC_LTC : Fld s s.heap a_LXC_LTC "com/example/pnorm/pnorm/model/Weighting" "name" "Ljava/lang/String;" (.ref sa_LXC_LTC) := Fld.start (by rw [← fld_at v_LXC_LTC]; exact vs_LXC_LTC)
  have Es_LXC_LTC := Exa.start vs_LXC_LTC n21
  have Cs_LXC_LTC := Fld.start (own_fldi vs_LXC_LTC n22)
  obtain ⟨sb_LXC_LTC, vb_LXC_LTC⟩ := arr_v n23
  have Vs_LXC_LTC : Fld s s.heap sa_LXC_LTC "java/lang/String" "value" "[B" (.ref sb_LXC_LTC) := Fld.start (by rw [← fld_at vs_LXC_LTC]; exact vb_LXC_LTC)
  obtain ⟨cl_LXC_LTC, Ar_LXC_LTC⟩ := Arr.start vb_LXC_LTC n23
  obtain ⟨hz_LXC_LTC, hl_LXC_LTC⟩ := own_len vb_LXC_LTC Ar_LXC_LTC n24
  have SS_LXC_LTC : own_S s s.heap sa_LXC_LTC sb_LXC_LTC cl_LXC_LTC.cls [108, 120, 99, 46, 108, 116, 99] := ⟨Es_LXC_LTC, Cs_LXC_LTC, Vs_LXC_LTC, Arv.start hfit Ar_LXC_LTC hz_LXC_LTC hl_LXC_LTC (by decide) (by decide) ⟨own_el vb_LXC_LTC Ar_LXC_LTC n36, own_el vb_LXC_LTC Ar_LXC_LTC n37, own_el vb_LXC_LTC Ar_LXC_LTC n38, own_el vb_LXC_LTC Ar_LXC_LTC n39, own_el vb_LXC_LTC Ar_LXC_LTC n40, own_el vb_LXC_LTC Ar_LXC_LTC n41, own_el vb_LXC_LTC Ar_LXC_LTC n42, trivial⟩, by decide⟩
  obtain ⟨sa_LNU_LTU, vs_LNU_LTU⟩ := exa_v n25
  have Ft_LNU_LTU : Fld s s.heap a_LNU_LTU "com/example/pnorm/pnorm/model/Weighting" "name" "Ljava/lang/String;" (.ref sa_LNU_LTU) := Fld.start (by rw [← fld_at v_LNU_LTU]; exact vs_LNU_LTU)
  have Es_LNU_LTU := Exa.start vs_LNU_LTU n25
  have Cs_LNU_LTU := Fld.start (own_fldi vs_LNU_LTU n26)
  obtain ⟨sb_LNU_LTU, vb_LNU_LTU⟩ := arr_v n27
  have Vs_LNU_LTU : Fld s s.heap sa_LNU_LTU "java/lang/String" "value" "[B" (.ref sb_LNU_LTU) := Fld.start (by rw [← fld_at vs_LNU_LTU]; exact vb_LNU_LTU)
  obtain ⟨cl_LNU_LTU, Ar_LNU_LTU⟩ := Arr.start vb_LNU_LTU n27
  obtain ⟨hz_LNU_LTU, hl_LNU_LTU⟩ := own_len vb_LNU_LTU Ar_LNU_LTU n28
  have SS_LNU_LTU : own_S s s.heap sa_LNU_LTU sb_LNU_LTU cl_LNU_LTU.cls [76, 110, 117, 46, 108, 116, 117] := ⟨Es_LNU_LTU, Cs_LNU_LTU, Vs_LNU_LTU, Arv.start hfit Ar_LNU_LTU hz_LNU_LTU hl_LNU_LTU (by decide) (by decide) ⟨own_el vb_LNU_LTU Ar_LNU_LTU n43, own_el vb_LNU_LTU Ar_LNU_LTU n44, own_el vb_LNU_LTU Ar_LNU_LTU n45, own_el vb_LNU_LTU Ar_LNU_LTU n46, own_el vb_LNU_LTU Ar_LNU_LTU n47, own_el vb_LNU_LTU Ar_LNU_LTU n48, own_el vb_LNU_LTU Ar_LNU_LTU n49, trivial⟩, by decide⟩
  have hC := hsets _ (List.mem_of_getElem? (i := 0) rfl)
  obtain ⟨w1, ew1⟩ := is_v (Cond.before_iff.mp (hsets _ (List.mem_of_getElem? (i := 1) rfl)))
  have S_C := Sta.start ew1 (Or.inl hC)
  have c0 : ¬ w1 = 0 := own_nei ew1 (Cond.before_iff.mp (hsets _ (List.mem_of_getElem? (i := 2) rfl)))
  have hcw := hsets _ (List.mem_of_getElem? (i := 2) rfl)
  obtain ⟨fv, efv, hfv⟩ := isR_v (Cond.before_iff.mp (hsets _ (List.mem_of_getElem? (i := 8) rfl)))
  have S_F := Sta.start efv (Or.inl (hsets _ (List.mem_of_getElem? (i := 7) rfl)))
  obtain ⟨cl_V, Ar_V⟩ := Arr.start v_VALUES n1
  obtain ⟨hz_V, hl_V⟩ := own_len v_VALUES Ar_V n3
  have sz_V : cl_V.slots.size = 4 := own_sz4 hz_V hl_V
  have el_0 : cl_V.slots[0]? = some (.ref a_EB) := (elem_in (own_eqr v_EB n4) v_VALUES (Term.int_eval 0) Ar_V.1).2
  have el_1 : cl_V.slots[1]? = some (.ref a_TFC_TFC) := (elem_in (own_eqr v_TFC_TFC n6) v_VALUES (Term.int_eval 1) Ar_V.1).2
  have el_2 : cl_V.slots[2]? = some (.ref a_LXC_LTC) := (elem_in (own_eqr v_LXC_LTC n8) v_VALUES (Term.int_eval 2) Ar_V.1).2
  have el_3 : cl_V.slots[3]? = some (.ref a_LNU_LTU) := (elem_in (own_eqr v_LNU_LTU n10) v_VALUES (Term.int_eval 3) Ar_V.1).2
  have VV : own_Vs s s.heap a_VALUES a_EB a_TFC_TFC a_LXC_LTC a_LNU_LTU := ⟨cl_V, Ar_V, FitC.start hfit Ar_V, sz_V, fun i hi => by
    match i, hi with
    | 0, _ => exact el_0
    | 1, _ => exact el_1
    | 2, _ => exact el_2
    | 3, _ => exact el_3⟩
  have hH : ∀ q ∈ own_lits, Jvm.Lit.constHeld s q.1 q.2.1 := by
    intro q hq
    simp only [own_lits, List.mem_cons, List.not_mem_nil, or_false] at hq
    rcases hq with rfl | rfl | rfl | rfl | rfl
    · exact hcalls.1 ("com/example/pnorm/pnorm/model/WeightingNamedPinLaw", 7) (List.mem_of_getElem? (i := 0) rfl)
    · exact hcalls.1 ("com/example/pnorm/pnorm/model/WeightingNamedPinLaw", 9) (List.mem_of_getElem? (i := 1) rfl)
    · exact hcalls.1 ("com/example/pnorm/pnorm/model/WeightingNamedPinLaw", 11) (List.mem_of_getElem? (i := 2) rfl)
    · exact hcalls.1 ("com/example/pnorm/pnorm/model/WeightingNamedPinLaw", 13) (List.mem_of_getElem? (i := 3) rfl)
    · exact hcalls.1 ("java/lang/String", 7) (List.mem_of_getElem? (i := 4) rfl)
  obtain ⟨n, o, h1, h2, h3, _, L, rfl, ⟨rfl, N⟩, hq⟩ := rm0 l s _ hw tables_1 i0 i1 i2 i3 i4 a_EB a_TFC_TFC a_LXC_LTC a_LNU_LTU a_VALUES sa_EB sb_EB cl_EB.cls sa_TFC_TFC sb_TFC_TFC cl_TFC_TFC.cls sa_LXC_LTC sb_LXC_LTC cl_LXC_LTC.cls sa_LNU_LTU sb_LNU_LTU cl_LNU_LTU.cls w1 fv s.heap s.heap.size (Nat.le_refl _) S_EB S_TFC_TFC S_LXC_LTC S_LNU_LTU S_VALUES VV E_VALUES (Old.start s) Ft_EB SS_EB Ft_TFC_TFC SS_TFC_TFC Ft_LXC_LTC SS_LXC_LTC Ft_LNU_LTU SS_LNU_LTU S_C c0 S_F (own_isRef hfv) rfl hcw hH p e ha hc hk s m _ below hf ((Spec.applies_iff_loose hf).mp happ).1 ⟨rfl, State.Warmed39.refl s, rfl, IB.start⟩ trivial
  refine ⟨n, _, h1, h2, h3, hpost _ _ _ _ _ _ ⟨Cond.after_iff.mpr rfl, Cond.after_iff.mpr (eq_i res_at (Term.int_eval (1)) rfl), trivial⟩ ⟨hq.1, hq.2.1, hq.2.2.1, (hq.2.2.2.sift fun y hy => Or.inr (N y hy)).mono (by decide) (by decide)⟩⟩
theorem main_1_1 : Claimed_1_1 := comes_1 fun _ _ _ _ _ _ h hF => ⟨h.1, hF⟩
theorem main_1_2 : Claimed_1_2 := comes_1 fun _ _ _ _ _ _ h hF => ⟨h.2.1, hF⟩
end Jvm.Pilot.@@N@@
namespace Jvm.Pilot.@@N@@
open Jvm Jvm.ClassFile Sem Op Lib Jvm.Free Jvm.Stand Jvm.Pilot.@@N@@.Jvm.D
/-! MADE BY PROGRAM (witnessworld.py) out of the Statement's table words and the real class files: 22 classes; the members and pool entries that the words name. The judged class is class 1, her method 1. -/
namespace start1
open Jvm.ClassFile
def u (s : String) : CpInfo := .utf8 (stringToUtf16 s)
/-- a pool by its gaps: so many unusable entries, then the entry; so many at the end -/
def gap : Nat → List CpInfo → List CpInfo
  | 0, r => r
  | n + 1, r => .unusable :: gap n r
def poolList (es : List (Nat × CpInfo)) (last : Nat) : List CpInfo := es.foldr (fun e r => gap e.1 (e.2 :: r)) (gap last [])
def pool (es : List (Nat × CpInfo)) (last : Nat) : Array CpInfo := ⟨poolList es last⟩
def fileOf (pool : Array CpInfo) (this : Nat) (attrs : Array Attribute := #[]) (ms : Array MethodInfo := #[]) (fl : Nat := 33) (sup : Nat := 0) (ifs : Array Nat := #[]) (fds : Array FieldInfo := #[]) : ClassFile where
  minorVersion := 0
  majorVersion := 65
  constantPool := pool
  accessFlags := fl
  thisClass := this
  superClass := sup
  interfaces := ifs
  fields := fds
  methods := ms
  attributes := attrs
def plain (name : String) (sup : Option ClassId) : Class where
  name := name
  kind := .ordinary
  loader := none
  accessFlags := 33
  super := sup
  interfaces := #[]
  cf := none
  fields := #[]
  methods := #[]
  instanceTypes := #[]
  staticTypes := #[]
  resolved := #[]
  callSites := []
  init := .initialized
  statics := none
  mirror := none

def pool0 : Array CpInfo := pool [(5, u "<init>"), (0, u "()V"), (1, .class_ 10), (1, u "java/lang/Object"), (85, u "clone"), (0, u "()Ljava/lang/Object;")] 26

def k0c0 : Code := { maxStack := 0, maxLocals := 1, code := object_method_1_code, exceptionTable := #[], attributes := #[] }
def k0m0 : Method := { name := "<init>", desc := "()V", sig := { parameters := [], returnType := none }, accessFlags := 1, code := some k0c0 }
def k0m1 : Method := { name := "clone", desc := "()Ljava/lang/Object;", sig := { parameters := [], returnType := some (.object "java/lang/Object") }, accessFlags := 260, code := none }
/-- java/lang/Object -/
def k0 : Class := { plain "java/lang/Object" none with
  accessFlags := 33
  interfaces := #[]
  cf := some (fileOf pool0 8 #[] #[{ accessFlags := 1, nameIndex := 5, descriptorIndex := 6, attributes := #[] }, { accessFlags := 260, nameIndex := 96, descriptorIndex := 97, attributes := #[] }] 33 0 #[] #[])
  fields := #[]
  methods := #[k0m0, k0m1]
  instanceTypes := #[]
  staticTypes := #[]
  resolved := Array.replicate 124 none
  statics := none }

def pool1 : Array CpInfo := pool [(2, .class_ 4), (1, u "java/lang/Object"), (0, u "<init>"), (0, u "()V"), (0, .string 8), (0, u "eb"), (0, .string 10), (0, u "tfc.tfc"), (0, .string 12), (0, u "lxc.ltc"), (0, .string 14), (0, u "Lnu.ltu"), (0, .methodref 16 17), (0, .class_ 18), (0, .nameAndType 19 20), (0, u "java/lang/String"), (0, u "length"), (0, u "()I"), (0, .methodref 22 23), (0, .class_ 24), (0, .nameAndType 25 26), (0, u "com/example/pnorm/pnorm/model/WeightingNamedPinLaw"), (0, u "at"), (0, u "(Ljava/lang/String;I)C"), (0, .integer 2147483647), (0, .long 255), (1, .methodref 22 31), (0, .nameAndType 32 33), (0, u "mk"), (0, u "(I[C)Ljava/lang/String;"), (0, .methodref 16 35), (0, .nameAndType 36 37), (0, u "equals"), (0, u "(Ljava/lang/Object;)Z"), (0, .fieldref 39 40), (0, .class_ 41), (0, .nameAndType 42 43), (0, u "com/example/pnorm/pnorm/model/Weighting"), (0, u "EB"), (0, u "Lcom/example/pnorm/pnorm/model/Weighting;"), (0, .fieldref 39 45), (0, .nameAndType 46 43), (0, u "TFC_TFC"), (0, .fieldref 39 48), (0, .nameAndType 49 43), (0, u "LXC_LTC"), (0, .fieldref 39 51), (0, .nameAndType 52 43), (0, u "LNU_LTU"), (0, .methodref 39 54), (0, .nameAndType 55 56), (0, u "named"), (0, u "(Ljava/lang/String;)Lcom/example/pnorm/pnorm/model/Weighting;"), (0, .methodref 16 58), (0, .nameAndType 59 60), (0, u "charAt"), (0, u "(I)C"), (0, .methodref 16 62), (0, .nameAndType 5 63), (0, u "([C)V"), (2, u "law"), (0, u "(IIIIJ)Z")] 5

def k1m0 : Method := { name := "<init>", desc := "()V", sig := { parameters := [], returnType := none }, accessFlags := 1, code := none }
def k1c1 : Code := { maxStack := 6, maxLocals := 14, code := code, exceptionTable := #[], attributes := #[] }
def k1m1 : Method := { name := "law", desc := "(IIIIJ)Z", sig := { parameters := [.int, .int, .int, .int, .long], returnType := some .boolean }, accessFlags := 9, code := some k1c1 }
def k1c2 : Code := { maxStack := 2, maxLocals := 2, code := method_3_code, exceptionTable := #[], attributes := #[] }
def k1m2 : Method := { name := "at", desc := "(Ljava/lang/String;I)C", sig := { parameters := [(.object "java/lang/String"), .int], returnType := some .char }, accessFlags := 10, code := some k1c2 }
def k1c3 : Code := { maxStack := 7, maxLocals := 2, code := method_4_code, exceptionTable := #[], attributes := #[] }
def k1m3 : Method := { name := "mk", desc := "(I[C)Ljava/lang/String;", sig := { parameters := [.int, (.array .char)], returnType := some (.object "java/lang/String") }, accessFlags := 10, code := some k1c3 }
/-- com/example/pnorm/pnorm/model/WeightingNamedPinLaw -/
def k1 : Class := { plain "com/example/pnorm/pnorm/model/WeightingNamedPinLaw" (some 0) with
  accessFlags := 49
  interfaces := #[]
  cf := some (fileOf pool1 22 #[] #[{ accessFlags := 1, nameIndex := 5, descriptorIndex := 6, attributes := #[] }, { accessFlags := 9, nameIndex := 66, descriptorIndex := 67, attributes := #[] }, { accessFlags := 10, nameIndex := 25, descriptorIndex := 26, attributes := #[] }, { accessFlags := 10, nameIndex := 32, descriptorIndex := 33, attributes := #[] }] 49 2 #[] #[])
  fields := #[]
  methods := #[k1m0, k1m1, k1m2, k1m3]
  instanceTypes := #[]
  staticTypes := #[]
  resolved := Array.replicate 73 none
  statics := none }

def pool2 : Array CpInfo := pool [(1, .class_ 2), (0, u "java/io/Serializable"), (0, .class_ 4), (0, u "java/lang/Object")] 2

/-- java/io/Serializable -/
def k2 : Class := { plain "java/io/Serializable" (some 0) with
  accessFlags := 1537
  interfaces := #[]
  cf := some (fileOf pool2 1 #[] #[] 1537 3 #[] #[])
  fields := #[]
  methods := #[]
  instanceTypes := #[]
  staticTypes := #[]
  resolved := Array.replicate 7 none
  statics := none }

def pool3 : Array CpInfo := pool [(1, .class_ 2), (0, u "java/lang/Comparable"), (0, .class_ 4), (0, u "java/lang/Object")] 7

/-- java/lang/Comparable -/
def k3 : Class := { plain "java/lang/Comparable" (some 0) with
  accessFlags := 1537
  interfaces := #[]
  cf := some (fileOf pool3 1 #[] #[] 1537 3 #[] #[])
  fields := #[]
  methods := #[]
  instanceTypes := #[]
  staticTypes := #[]
  resolved := Array.replicate 12 none
  statics := none }

def pool4 : Array CpInfo := pool [(2, .class_ 4), (1, u "java/lang/CharSequence"), (42, .class_ 48), (0, u "java/lang/CharSequence$1CodePointIterator"), (10, .class_ 60), (0, u "java/lang/CharSequence$1CharIterator"), (5, .class_ 67), (0, u "java/lang/Object")] 63

/-- java/lang/CharSequence -/
def k4 : Class := { plain "java/lang/CharSequence" (some 0) with
  accessFlags := 1537
  interfaces := #[]
  cf := some (fileOf pool4 2 #[.nestMembers #[47, 59]] #[] 1537 66 #[] #[])
  fields := #[]
  methods := #[]
  instanceTypes := #[]
  staticTypes := #[]
  resolved := Array.replicate 131 none
  statics := none }

def pool5 : Array CpInfo := pool [(1, .class_ 2), (0, u "java/lang/constant/Constable"), (0, .class_ 4), (0, u "java/lang/Object")] 6

/-- java/lang/constant/Constable -/
def k5 : Class := { plain "java/lang/constant/Constable" (some 0) with
  accessFlags := 1537
  interfaces := #[]
  cf := some (fileOf pool5 1 #[] #[] 1537 3 #[] #[])
  fields := #[]
  methods := #[]
  instanceTypes := #[]
  staticTypes := #[]
  resolved := Array.replicate 11 none
  statics := none }

def pool6 : Array CpInfo := pool [(1, .class_ 2), (0, u "java/lang/constant/ConstantDesc"), (0, .class_ 4), (0, u "java/lang/Object")] 32

/-- java/lang/constant/ConstantDesc -/
def k6 : Class := { plain "java/lang/constant/ConstantDesc" (some 0) with
  accessFlags := 1537
  interfaces := #[]
  cf := some (fileOf pool6 1 #[] #[] 1537 3 #[] #[])
  fields := #[]
  methods := #[]
  instanceTypes := #[]
  staticTypes := #[]
  resolved := Array.replicate 37 none
  statics := none }

def pool7 : Array CpInfo := pool [(1, .methodref 2 3), (0, .class_ 4), (0, .nameAndType 5 6), (0, u "java/lang/Object"), (0, u "<init>"), (0, u "()V"), (0, .string 8), (0, u ""), (0, .fieldref 10 11), (0, .class_ 12), (0, .nameAndType 13 14), (0, u "java/lang/String"), (0, u "value"), (0, u "[B"), (0, .fieldref 10 16), (0, .nameAndType 17 18), (0, u "coder"), (0, u "B"), (2, u "hash"), (0, u "I"), (2, u "hashIsZero"), (0, u "Z"), (0, .methodref 10 28), (0, .nameAndType 5 29), (0, u "([CIILjava/lang/Void;)V"), (8, .fieldref 10 39), (0, .nameAndType 40 26), (0, u "COMPACT_STRINGS"), (1, .class_ 44), (1, u "java/lang/StringUTF16"), (0, u "compress"), (1, .methodref 42 48), (0, .nameAndType 49 50), (0, u "coderFromArrayLen"), (0, u "([BI)B"), (56, .class_ 109), (1, u "java/lang/StringLatin1"), (32, u "()Z"), (34, .methodref 42 178), (0, .nameAndType 45 179), (0, u "([CII)[B"), (154, u "()I"), (0, .methodref 10 336), (0, .nameAndType 17 337), (0, u "()B"), (25, u "([BI)C"), (27, u "(II)V"), (35, u "(I)C"), (64, .methodref 10 493), (0, .nameAndType 494 142), (0, u "isLatin1"), (0, .methodref 107 496), (0, .nameAndType 497 363), (0, u "charAt"), (3, u "checkIndex"), (5, u "length"), (33, .methodref 107 542), (0, .nameAndType 543 544), (0, u "equals"), (0, u "([B[B)Z"), (28, u "(Ljava/lang/Object;)Z"), (1, .class_ 576), (0, u "java/lang/CharSequence"), (22, u "CASE_INSENSITIVE_ORDER"), (0, u "Ljava/util/Comparator;"), (409, u "([C)V"), (42, .fieldref 1054 1055), (0, .class_ 1056), (0, .nameAndType 1057 1058), (0, u "jdk/internal/util/Preconditions"), (0, u "SIOOBE_FORMATTER"), (0, u "Ljava/util/function/BiFunction;"), (0, .methodref 1054 1060), (0, .nameAndType 501 1061), (0, u "(IILjava/util/function/BiFunction;)I"), (39, u "serialPersistentFields"), (0, u "[Ljava/io/ObjectStreamField;"), (0, .class_ 1104), (0, u "java/lang/String$CaseInsensitiveComparator"), (1, .class_ 1107), (0, u "java/io/Serializable"), (0, .class_ 1109), (0, u "java/lang/Comparable"), (0, .class_ 1111), (0, u "java/lang/constant/Constable"), (0, .class_ 1113), (0, u "java/lang/constant/ConstantDesc"), (2, u "serialVersionUID"), (0, u "J"), (3, u "REPL"), (0, u "C"), (2, u "LATIN1"), (1, u "UTF16")] 323

def k7m0 : Method := { name := "<init>", desc := "()V", sig := { parameters := [], returnType := none }, accessFlags := 1, code := none }
def k7c1 : Code := { maxStack := 5, maxLocals := 2, code := jdk_42_method_3_code, exceptionTable := #[], attributes := #[] }
def k7m1 : Method := { name := "<init>", desc := "([C)V", sig := { parameters := [(.array .char)], returnType := none }, accessFlags := 1, code := some k7c1 }
def k7c2 : Code := { maxStack := 2, maxLocals := 1, code := jdk_42_method_54_code, exceptionTable := #[], attributes := #[] }
def k7m2 : Method := { name := "length", desc := "()I", sig := { parameters := [], returnType := some .int }, accessFlags := 1, code := some k7c2 }
def k7c3 : Code := { maxStack := 2, maxLocals := 2, code := jdk_42_method_56_code, exceptionTable := #[], attributes := #[] }
def k7m3 : Method := { name := "charAt", desc := "(I)C", sig := { parameters := [.int], returnType := some .char }, accessFlags := 1, code := some k7c3 }
def k7c4 : Code := { maxStack := 2, maxLocals := 3, code := jdk_42_method_66_code, exceptionTable := #[], attributes := #[] }
def k7m4 : Method := { name := "equals", desc := "(Ljava/lang/Object;)Z", sig := { parameters := [(.object "java/lang/Object")], returnType := some .boolean }, accessFlags := 1, code := some k7c4 }
def k7c5 : Code := { maxStack := 4, maxLocals := 6, code := jdk_42_method_149_code, exceptionTable := #[], attributes := #[] }
def k7m5 : Method := { name := "<init>", desc := "([CIILjava/lang/Void;)V", sig := { parameters := [(.array .char), .int, .int, (.object "java/lang/Void")], returnType := none }, accessFlags := 2, code := some k7c5 }
def k7c6 : Code := { maxStack := 1, maxLocals := 1, code := jdk_42_method_152_code, exceptionTable := #[], attributes := #[] }
def k7m6 : Method := { name := "coder", desc := "()B", sig := { parameters := [], returnType := some .byte }, accessFlags := 0, code := some k7c6 }
def k7c7 : Code := { maxStack := 1, maxLocals := 1, code := jdk_42_method_154_code, exceptionTable := #[], attributes := #[] }
def k7m7 : Method := { name := "isLatin1", desc := "()Z", sig := { parameters := [], returnType := some .boolean }, accessFlags := 0, code := some k7c7 }
def k7c8 : Code := { maxStack := 3, maxLocals := 2, code := jdk_42_method_155_code, exceptionTable := #[], attributes := #[] }
def k7m8 : Method := { name := "checkIndex", desc := "(II)V", sig := { parameters := [.int, .int], returnType := none }, accessFlags := 8, code := some k7c8 }
/-- java/lang/String -/
def k7 : Class := { plain "java/lang/String" (some 0) with
  accessFlags := 49
  interfaces := #[2, 3, 4, 5, 6]
  cf := some (fileOf pool7 10 #[.nestMembers #[1103]] #[{ accessFlags := 1, nameIndex := 5, descriptorIndex := 6, attributes := #[] }, { accessFlags := 1, nameIndex := 5, descriptorIndex := 1010, attributes := #[] }, { accessFlags := 1, nameIndex := 507, descriptorIndex := 334, attributes := #[] }, { accessFlags := 1, nameIndex := 497, descriptorIndex := 427, attributes := #[] }, { accessFlags := 1, nameIndex := 543, descriptorIndex := 573, attributes := #[] }, { accessFlags := 2, nameIndex := 5, descriptorIndex := 29, attributes := #[] }, { accessFlags := 0, nameIndex := 17, descriptorIndex := 337, attributes := #[] }, { accessFlags := 0, nameIndex := 494, descriptorIndex := 142, attributes := #[] }, { accessFlags := 8, nameIndex := 501, descriptorIndex := 391, attributes := #[] }] 49 2 #[1106, 1108, 575, 1110, 1112] #[{ accessFlags := 18, nameIndex := 13, descriptorIndex := 14, attributes := #[] }, { accessFlags := 18, nameIndex := 17, descriptorIndex := 18, attributes := #[] }, { accessFlags := 2, nameIndex := 21, descriptorIndex := 22, attributes := #[] }, { accessFlags := 2, nameIndex := 25, descriptorIndex := 26, attributes := #[] }, { accessFlags := 26, nameIndex := 1116, descriptorIndex := 1117, attributes := #[] }, { accessFlags := 24, nameIndex := 40, descriptorIndex := 26, attributes := #[] }, { accessFlags := 26, nameIndex := 1101, descriptorIndex := 1102, attributes := #[] }, { accessFlags := 26, nameIndex := 1121, descriptorIndex := 1122, attributes := #[] }, { accessFlags := 25, nameIndex := 599, descriptorIndex := 600, attributes := #[] }, { accessFlags := 24, nameIndex := 1125, descriptorIndex := 18, attributes := #[] }, { accessFlags := 24, nameIndex := 1127, descriptorIndex := 18, attributes := #[] }])
  fields := #[{ name := "value", type := (.array .byte), accessFlags := 18, slot := 0, constantValue := 0 }, { name := "coder", type := .byte, accessFlags := 18, slot := 1, constantValue := 0 }, { name := "hash", type := .int, accessFlags := 2, slot := 2, constantValue := 0 }, { name := "hashIsZero", type := .boolean, accessFlags := 2, slot := 3, constantValue := 0 }, { name := "serialVersionUID", type := .long, accessFlags := 26, slot := 0, constantValue := 0 }, { name := "COMPACT_STRINGS", type := .boolean, accessFlags := 24, slot := 1, constantValue := 0 }, { name := "serialPersistentFields", type := (.array (.object "java/io/ObjectStreamField")), accessFlags := 26, slot := 2, constantValue := 0 }, { name := "REPL", type := .char, accessFlags := 26, slot := 3, constantValue := 0 }, { name := "CASE_INSENSITIVE_ORDER", type := (.object "java/util/Comparator"), accessFlags := 25, slot := 4, constantValue := 0 }, { name := "LATIN1", type := .byte, accessFlags := 24, slot := 5, constantValue := 0 }, { name := "UTF16", type := .byte, accessFlags := 24, slot := 6, constantValue := 0 }]
  methods := #[k7m0, k7m1, k7m2, k7m3, k7m4, k7m5, k7m6, k7m7, k7m8]
  instanceTypes := #[(.array .byte), .byte, .int, .boolean]
  staticTypes := #[.long, .boolean, (.array (.object "java/io/ObjectStreamField")), .char, (.object "java/util/Comparator"), .byte, .byte]
  resolved := Array.replicate 1451 none
  statics := some 0 }

def pool8 : Array CpInfo := pool [(1, .class_ 2), (0, u "java/lang/String"), (1, .class_ 6), (1, u "java/lang/Object"), (0, u "<init>"), (0, u "()V"), (0, .methodref 1 10), (0, .nameAndType 11 12), (0, u "checkIndex"), (0, u "(II)V"), (1, .class_ 16), (1, u "java/lang/StringLatin1"), (36, u "([BI)C"), (67, u "$assertionsDisabled"), (0, u "Z"), (98, .class_ 223), (1, u "java/lang/StringLatin1$LinesSpliterator"), (28, u "charAt"), (28, u "equals"), (0, u "([B[B)Z"), (107, .class_ 391), (0, u "java/lang/StringLatin1$CharsSpliterator")] 3

def k8m0 : Method := { name := "<init>", desc := "()V", sig := { parameters := [], returnType := none }, accessFlags := 0, code := none }
def k8c1 : Code := { maxStack := 2, maxLocals := 2, code := jdk_43_method_2_code, exceptionTable := #[], attributes := #[] }
def k8m1 : Method := { name := "charAt", desc := "([BI)C", sig := { parameters := [(.array .byte), .int], returnType := some .char }, accessFlags := 9, code := some k8c1 }
def k8c2 : Code := { maxStack := 3, maxLocals := 3, code := jdk_43_method_13_code, exceptionTable := #[], attributes := #[] }
def k8m2 : Method := { name := "equals", desc := "([B[B)Z", sig := { parameters := [(.array .byte), (.array .byte)], returnType := some .boolean }, accessFlags := 9, code := some k8c2 }
/-- java/lang/StringLatin1 -/
def k8 : Class := { plain "java/lang/StringLatin1" (some 0) with
  accessFlags := 48
  interfaces := #[]
  cf := some (fileOf pool8 14 #[.nestMembers #[390, 221]] #[{ accessFlags := 0, nameIndex := 7, descriptorIndex := 8, attributes := #[] }, { accessFlags := 9, nameIndex := 252, descriptorIndex := 53, attributes := #[] }, { accessFlags := 9, nameIndex := 281, descriptorIndex := 282, attributes := #[] }] 48 4 #[] #[{ accessFlags := 4120, nameIndex := 121, descriptorIndex := 122, attributes := #[] }])
  fields := #[{ name := "$assertionsDisabled", type := .boolean, accessFlags := 4120, slot := 0, constantValue := 0 }]
  methods := #[k8m0, k8m1, k8m2]
  instanceTypes := #[]
  staticTypes := #[.boolean]
  resolved := Array.replicate 395 none
  statics := none }

def pool9 : Array CpInfo := pool [(2, .class_ 4), (1, u "java/lang/Object"), (0, u "<init>"), (0, u "()V"), (17, .class_ 26), (1, u "jdk/internal/util/Preconditions"), (6, u "checkIndex"), (21, .class_ 56), (0, u "jdk/internal/util/Preconditions$4"), (57, .class_ 115), (0, u "jdk/internal/util/Preconditions$1"), (7, u "SIOOBE_FORMATTER"), (0, u "Ljava/util/function/BiFunction;"), (0, .class_ 126), (0, u "jdk/internal/util/Preconditions$2"), (3, u "AIOOBE_FORMATTER"), (0, .class_ 132), (0, u "jdk/internal/util/Preconditions$3"), (3, u "IOOBE_FORMATTER"), (41, u "(IILjava/util/function/BiFunction;)I")] 15

def k9m0 : Method := { name := "<init>", desc := "()V", sig := { parameters := [], returnType := none }, accessFlags := 1, code := none }
def k9c1 : Code := { maxStack := 3, maxLocals := 3, code := jdk_41_method_11_code, exceptionTable := #[], attributes := #[] }
def k9m1 : Method := { name := "checkIndex", desc := "(IILjava/util/function/BiFunction;)I", sig := { parameters := [.int, .int, (.object "java/util/function/BiFunction")], returnType := some .int }, accessFlags := 9, code := some k9c1 }
/-- jdk/internal/util/Preconditions -/
def k9 : Class := { plain "jdk/internal/util/Preconditions" (some 0) with
  accessFlags := 33
  interfaces := #[]
  cf := some (fileOf pool9 24 #[.nestMembers #[55, 131, 125, 114]] #[{ accessFlags := 1, nameIndex := 5, descriptorIndex := 6, attributes := #[] }, { accessFlags := 9, nameIndex := 33, descriptorIndex := 178, attributes := #[] }] 33 2 #[] #[{ accessFlags := 25, nameIndex := 123, descriptorIndex := 124, attributes := #[] }, { accessFlags := 25, nameIndex := 130, descriptorIndex := 124, attributes := #[] }, { accessFlags := 25, nameIndex := 136, descriptorIndex := 124, attributes := #[] }])
  fields := #[{ name := "SIOOBE_FORMATTER", type := (.object "java/util/function/BiFunction"), accessFlags := 25, slot := 0, constantValue := 0 }, { name := "AIOOBE_FORMATTER", type := (.object "java/util/function/BiFunction"), accessFlags := 25, slot := 1, constantValue := 0 }, { name := "IOOBE_FORMATTER", type := (.object "java/util/function/BiFunction"), accessFlags := 25, slot := 2, constantValue := 0 }]
  methods := #[k9m0, k9m1]
  instanceTypes := #[]
  staticTypes := #[(.object "java/util/function/BiFunction"), (.object "java/util/function/BiFunction"), (.object "java/util/function/BiFunction")]
  resolved := Array.replicate 194 none
  statics := some 1 }

def pool10 : Array CpInfo := pool [(6, .class_ 8), (1, u "java/lang/Object"), (0, u "<init>"), (0, u "()V"), (1, .class_ 14), (1, u "java/lang/StringUTF16"), (31, u "$assertionsDisabled"), (0, u "Z"), (13, u "HI_BYTE_SHIFT"), (0, u "I"), (2, u "LO_BYTE_SHIFT"), (49, .methodref 12 116), (0, .nameAndType 117 118), (0, u "compress"), (0, u "([CI[BII)I"), (3, u "([CII)[B"), (138, u "coderFromArrayLen"), (0, u "([BI)B"), (106, .class_ 371), (1, u "java/lang/StringUTF16$LinesSpliterator"), (58, u "MAX_LENGTH"), (196, .class_ 628), (0, u "java/lang/StringUTF16$CodePointsSpliterator"), (0, .class_ 630), (0, u "java/lang/StringUTF16$CharsSpliterator")] 4

def k10m0 : Method := { name := "<init>", desc := "()V", sig := { parameters := [], returnType := none }, accessFlags := 0, code := none }
def k10c1 : Code := { maxStack := 2, maxLocals := 2, code := jdk_52_method_15_code, exceptionTable := #[], attributes := #[] }
def k10m1 : Method := { name := "coderFromArrayLen", desc := "([BI)B", sig := { parameters := [(.array .byte), .int], returnType := some .byte }, accessFlags := 8, code := some k10c1 }
def k10c2 : Code := { maxStack := 5, maxLocals := 6, code := jdk_52_method_16_code, exceptionTable := #[], attributes := #[] }
def k10m2 : Method := { name := "compress", desc := "([CII)[B", sig := { parameters := [(.array .char), .int, .int], returnType := some (.array .byte) }, accessFlags := 9, code := some k10c2 }
def k10c3 : Code := { maxStack := 3, maxLocals := 7, code := jdk_52_method_21_code, exceptionTable := #[], attributes := #[] }
def k10m3 : Method := { name := "compress", desc := "([CI[BII)I", sig := { parameters := [(.array .char), .int, (.array .byte), .int, .int], returnType := some .int }, accessFlags := 9, code := some k10c3 }
/-- java/lang/StringUTF16 -/
def k10 : Class := { plain "java/lang/StringUTF16" (some 0) with
  accessFlags := 48
  interfaces := #[]
  cf := some (fileOf pool10 12 #[.nestMembers #[627, 629, 369]] #[{ accessFlags := 0, nameIndex := 9, descriptorIndex := 10, attributes := #[] }, { accessFlags := 8, nameIndex := 261, descriptorIndex := 262, attributes := #[] }, { accessFlags := 9, nameIndex := 117, descriptorIndex := 122, attributes := #[] }, { accessFlags := 9, nameIndex := 117, descriptorIndex := 118, attributes := #[] }] 48 6 #[] #[{ accessFlags := 26, nameIndex := 61, descriptorIndex := 62, attributes := #[] }, { accessFlags := 26, nameIndex := 65, descriptorIndex := 62, attributes := #[] }, { accessFlags := 24, nameIndex := 430, descriptorIndex := 62, attributes := #[] }, { accessFlags := 4120, nameIndex := 46, descriptorIndex := 47, attributes := #[] }])
  fields := #[{ name := "HI_BYTE_SHIFT", type := .int, accessFlags := 26, slot := 0, constantValue := 0 }, { name := "LO_BYTE_SHIFT", type := .int, accessFlags := 26, slot := 1, constantValue := 0 }, { name := "MAX_LENGTH", type := .int, accessFlags := 24, slot := 2, constantValue := 0 }, { name := "$assertionsDisabled", type := .boolean, accessFlags := 4120, slot := 3, constantValue := 0 }]
  methods := #[k10m0, k10m1, k10m2, k10m3]
  instanceTypes := #[]
  staticTypes := #[.int, .int, .int, .boolean]
  resolved := Array.replicate 635 none
  statics := none }

def pool11 : Array CpInfo := pool [(2, .class_ 4), (1, u "java/lang/Enum"), (0, u "name"), (0, u "Ljava/lang/String;"), (2, u "ordinal"), (0, u "I"), (1, .class_ 14), (1, u "java/lang/Object"), (4, u "hash"), (86, .class_ 108), (1, u "java/lang/Enum$EnumDesc"), (2, .class_ 112), (0, u "java/lang/constant/Constable"), (0, .class_ 114), (0, u "java/lang/Comparable"), (0, .class_ 116), (0, u "java/io/Serializable")] 87

/-- java/lang/Enum -/
def k11 : Class := { plain "java/lang/Enum" (some 0) with
  accessFlags := 1057
  interfaces := #[5, 3, 2]
  cf := some (fileOf pool11 2 #[.nestMembers #[106]] #[] 1057 12 #[111, 113, 115] #[{ accessFlags := 18, nameIndex := 5, descriptorIndex := 6, attributes := #[] }, { accessFlags := 18, nameIndex := 9, descriptorIndex := 10, attributes := #[] }, { accessFlags := 2, nameIndex := 19, descriptorIndex := 10, attributes := #[] }])
  fields := #[{ name := "name", type := (.object "java/lang/String"), accessFlags := 18, slot := 0, constantValue := 0 }, { name := "ordinal", type := .int, accessFlags := 18, slot := 1, constantValue := 0 }, { name := "hash", type := .int, accessFlags := 2, slot := 2, constantValue := 0 }]
  methods := #[]
  instanceTypes := #[(.object "java/lang/String"), .int, .int]
  staticTypes := #[]
  resolved := Array.replicate 204 none
  statics := none }

def pool12 : Array CpInfo := pool [(1, .class_ 2), (0, u "com/example/pnorm/pnorm/model/Weighting"), (2, u "EB"), (0, u "Lcom/example/pnorm/pnorm/model/Weighting;"), (2, u "TFC_TFC"), (2, u "LXC_LTC"), (2, u "LNU_LTU"), (0, .fieldref 1 17), (0, .nameAndType 18 19), (0, u "$VALUES"), (0, u "[Lcom/example/pnorm/pnorm/model/Weighting;"), (0, .methodref 21 22), (0, .class_ 19), (0, .nameAndType 23 24), (0, u "clone"), (0, u "()Ljava/lang/Object;"), (1, .class_ 28), (1, u "java/lang/Enum"), (6, .fieldref 1 36), (0, .nameAndType 37 38), (0, u "name"), (0, u "Ljava/lang/String;"), (0, .methodref 1 40), (0, .nameAndType 41 42), (0, u "values"), (0, u "()[Lcom/example/pnorm/pnorm/model/Weighting;"), (0, .methodref 44 45), (0, .class_ 46), (0, .nameAndType 47 48), (0, u "java/lang/String"), (0, u "equals"), (0, u "(Ljava/lang/Object;)Z"), (59, u "SLOPE"), (0, u "D"), (3, u "(Ljava/lang/String;)Lcom/example/pnorm/pnorm/model/Weighting;"), (5, u "named")] 18

def k12c0 : Code := { maxStack := 1, maxLocals := 0, code := prog_36_method_1_code, exceptionTable := #[], attributes := #[] }
def k12m0 : Method := { name := "values", desc := "()[Lcom/example/pnorm/pnorm/model/Weighting;", sig := { parameters := [], returnType := some (.array (.object "com/example/pnorm/pnorm/model/Weighting")) }, accessFlags := 9, code := some k12c0 }
def k12c1 : Code := { maxStack := 2, maxLocals := 6, code := prog_36_method_5_code, exceptionTable := #[], attributes := #[] }
def k12m1 : Method := { name := "named", desc := "(Ljava/lang/String;)Lcom/example/pnorm/pnorm/model/Weighting;", sig := { parameters := [(.object "java/lang/String")], returnType := some (.object "com/example/pnorm/pnorm/model/Weighting") }, accessFlags := 9, code := some k12c1 }
/-- com/example/pnorm/pnorm/model/Weighting -/
def k12 : Class := { plain "com/example/pnorm/pnorm/model/Weighting" (some 11) with
  accessFlags := 16433
  interfaces := #[]
  cf := some (fileOf pool12 1 #[] #[{ accessFlags := 9, nameIndex := 41, descriptorIndex := 42, attributes := #[] }, { accessFlags := 9, nameIndex := 119, descriptorIndex := 113, attributes := #[] }] 16433 26 #[] #[{ accessFlags := 16409, nameIndex := 5, descriptorIndex := 6, attributes := #[] }, { accessFlags := 16409, nameIndex := 9, descriptorIndex := 6, attributes := #[] }, { accessFlags := 16409, nameIndex := 12, descriptorIndex := 6, attributes := #[] }, { accessFlags := 16409, nameIndex := 15, descriptorIndex := 6, attributes := #[] }, { accessFlags := 25, nameIndex := 108, descriptorIndex := 109, attributes := #[] }, { accessFlags := 18, nameIndex := 37, descriptorIndex := 38, attributes := #[] }, { accessFlags := 4122, nameIndex := 18, descriptorIndex := 19, attributes := #[] }])
  fields := #[{ name := "EB", type := (.object "com/example/pnorm/pnorm/model/Weighting"), accessFlags := 16409, slot := 0, constantValue := 0 }, { name := "TFC_TFC", type := (.object "com/example/pnorm/pnorm/model/Weighting"), accessFlags := 16409, slot := 1, constantValue := 0 }, { name := "LXC_LTC", type := (.object "com/example/pnorm/pnorm/model/Weighting"), accessFlags := 16409, slot := 2, constantValue := 0 }, { name := "LNU_LTU", type := (.object "com/example/pnorm/pnorm/model/Weighting"), accessFlags := 16409, slot := 3, constantValue := 0 }, { name := "SLOPE", type := .double, accessFlags := 25, slot := 4, constantValue := 0 }, { name := "name", type := (.object "java/lang/String"), accessFlags := 18, slot := 3, constantValue := 0 }, { name := "$VALUES", type := (.array (.object "com/example/pnorm/pnorm/model/Weighting")), accessFlags := 4122, slot := 5, constantValue := 0 }]
  methods := #[k12m0, k12m1]
  instanceTypes := #[(.object "java/lang/String"), .int, .int, (.object "java/lang/String")]
  staticTypes := #[(.object "com/example/pnorm/pnorm/model/Weighting"), (.object "com/example/pnorm/pnorm/model/Weighting"), (.object "com/example/pnorm/pnorm/model/Weighting"), (.object "com/example/pnorm/pnorm/model/Weighting"), .double, (.array (.object "com/example/pnorm/pnorm/model/Weighting"))]
  resolved := Array.replicate 138 none
  statics := some 2 }

def pool13 : Array CpInfo := pool [(1, .class_ 2), (0, u "java/lang/Cloneable"), (0, .class_ 4), (0, u "java/lang/Object")] 2

/-- java/lang/Cloneable -/
def k13 : Class := { plain "java/lang/Cloneable" (some 0) with
  accessFlags := 1537
  interfaces := #[]
  cf := some (fileOf pool13 1 #[] #[] 1537 3 #[] #[])
  fields := #[]
  methods := #[]
  instanceTypes := #[]
  staticTypes := #[]
  resolved := Array.replicate 7 none
  statics := none }

def pool14 : Array CpInfo := pool [(9, u "<init>"), (6, .class_ 18), (1, u "java/lang/Object"), (0, u "()V"), (1, .class_ 23), (1, u "jdk/internal/util/ArraysSupport"), (0, u "LOG2_ARRAY_LONG_INDEX_SCALE"), (0, u "I"), (2, u "U"), (0, u "Ljdk/internal/misc/Unsafe;"), (8, u "BIG_ENDIAN"), (0, u "Z"), (8, u "LOG2_BYTE_BIT_SIZE"), (4, u "LOG2_ARRAY_INT_INDEX_SCALE"), (54, u "JLA"), (0, u "Ljdk/internal/access/JavaLangAccess;"), (11, u "LOG2_ARRAY_BOOLEAN_INDEX_SCALE"), (9, u "LOG2_ARRAY_BYTE_INDEX_SCALE"), (5, u "LOG2_ARRAY_CHAR_INDEX_SCALE"), (5, u "LOG2_ARRAY_SHORT_INDEX_SCALE"), (18, u "LOG2_ARRAY_FLOAT_INDEX_SCALE"), (24, u "LOG2_ARRAY_DOUBLE_INDEX_SCALE"), (89, u "T_BOOLEAN"), (2, u "T_CHAR"), (1, u "T_FLOAT"), (1, u "T_DOUBLE"), (1, u "T_BYTE"), (1, u "T_SHORT"), (1, u "T_INT"), (1, u "T_LONG"), (1, u "SOFT_MAX_ARRAY_LENGTH")] 83

def k14m0 : Method := { name := "<init>", desc := "()V", sig := { parameters := [], returnType := none }, accessFlags := 2, code := none }
/-- jdk/internal/util/ArraysSupport -/
def k14 : Class := { plain "jdk/internal/util/ArraysSupport" (some 0) with
  accessFlags := 33
  interfaces := #[]
  cf := some (fileOf pool14 21 #[] #[{ accessFlags := 2, nameIndex := 9, descriptorIndex := 19, attributes := #[] }] 33 16 #[] #[{ accessFlags := 24, nameIndex := 28, descriptorIndex := 29, attributes := #[] }, { accessFlags := 26, nameIndex := 38, descriptorIndex := 39, attributes := #[] }, { accessFlags := 25, nameIndex := 121, descriptorIndex := 25, attributes := #[] }, { accessFlags := 25, nameIndex := 131, descriptorIndex := 25, attributes := #[] }, { accessFlags := 25, nameIndex := 137, descriptorIndex := 25, attributes := #[] }, { accessFlags := 25, nameIndex := 143, descriptorIndex := 25, attributes := #[] }, { accessFlags := 25, nameIndex := 53, descriptorIndex := 25, attributes := #[] }, { accessFlags := 25, nameIndex := 24, descriptorIndex := 25, attributes := #[] }, { accessFlags := 25, nameIndex := 162, descriptorIndex := 25, attributes := #[] }, { accessFlags := 25, nameIndex := 187, descriptorIndex := 25, attributes := #[] }, { accessFlags := 26, nameIndex := 48, descriptorIndex := 25, attributes := #[] }, { accessFlags := 25, nameIndex := 277, descriptorIndex := 25, attributes := #[] }, { accessFlags := 25, nameIndex := 280, descriptorIndex := 25, attributes := #[] }, { accessFlags := 25, nameIndex := 282, descriptorIndex := 25, attributes := #[] }, { accessFlags := 25, nameIndex := 284, descriptorIndex := 25, attributes := #[] }, { accessFlags := 25, nameIndex := 286, descriptorIndex := 25, attributes := #[] }, { accessFlags := 25, nameIndex := 288, descriptorIndex := 25, attributes := #[] }, { accessFlags := 25, nameIndex := 290, descriptorIndex := 25, attributes := #[] }, { accessFlags := 25, nameIndex := 292, descriptorIndex := 25, attributes := #[] }, { accessFlags := 26, nameIndex := 108, descriptorIndex := 109, attributes := #[] }, { accessFlags := 25, nameIndex := 294, descriptorIndex := 25, attributes := #[] }])
  fields := #[{ name := "U", type := (.object "jdk/internal/misc/Unsafe"), accessFlags := 24, slot := 0, constantValue := 0 }, { name := "BIG_ENDIAN", type := .boolean, accessFlags := 26, slot := 1, constantValue := 0 }, { name := "LOG2_ARRAY_BOOLEAN_INDEX_SCALE", type := .int, accessFlags := 25, slot := 2, constantValue := 0 }, { name := "LOG2_ARRAY_BYTE_INDEX_SCALE", type := .int, accessFlags := 25, slot := 3, constantValue := 0 }, { name := "LOG2_ARRAY_CHAR_INDEX_SCALE", type := .int, accessFlags := 25, slot := 4, constantValue := 0 }, { name := "LOG2_ARRAY_SHORT_INDEX_SCALE", type := .int, accessFlags := 25, slot := 5, constantValue := 0 }, { name := "LOG2_ARRAY_INT_INDEX_SCALE", type := .int, accessFlags := 25, slot := 6, constantValue := 0 }, { name := "LOG2_ARRAY_LONG_INDEX_SCALE", type := .int, accessFlags := 25, slot := 7, constantValue := 0 }, { name := "LOG2_ARRAY_FLOAT_INDEX_SCALE", type := .int, accessFlags := 25, slot := 8, constantValue := 0 }, { name := "LOG2_ARRAY_DOUBLE_INDEX_SCALE", type := .int, accessFlags := 25, slot := 9, constantValue := 0 }, { name := "LOG2_BYTE_BIT_SIZE", type := .int, accessFlags := 26, slot := 10, constantValue := 0 }, { name := "T_BOOLEAN", type := .int, accessFlags := 25, slot := 11, constantValue := 0 }, { name := "T_CHAR", type := .int, accessFlags := 25, slot := 12, constantValue := 0 }, { name := "T_FLOAT", type := .int, accessFlags := 25, slot := 13, constantValue := 0 }, { name := "T_DOUBLE", type := .int, accessFlags := 25, slot := 14, constantValue := 0 }, { name := "T_BYTE", type := .int, accessFlags := 25, slot := 15, constantValue := 0 }, { name := "T_SHORT", type := .int, accessFlags := 25, slot := 16, constantValue := 0 }, { name := "T_INT", type := .int, accessFlags := 25, slot := 17, constantValue := 0 }, { name := "T_LONG", type := .int, accessFlags := 25, slot := 18, constantValue := 0 }, { name := "JLA", type := (.object "jdk/internal/access/JavaLangAccess"), accessFlags := 26, slot := 19, constantValue := 0 }, { name := "SOFT_MAX_ARRAY_LENGTH", type := .int, accessFlags := 25, slot := 20, constantValue := 0 }]
  methods := #[k14m0]
  instanceTypes := #[]
  staticTypes := #[(.object "jdk/internal/misc/Unsafe"), .boolean, .int, .int, .int, .int, .int, .int, .int, .int, .int, .int, .int, .int, .int, .int, .int, .int, .int, (.object "jdk/internal/access/JavaLangAccess"), .int]
  resolved := Array.replicate 378 none
  statics := none }

/-- the primitive byte -/
def k15 : Class := { plain "byte" none with kind := .primitive 'B', accessFlags := 0x411 }
/-- [B -/
def k16 : Class := { plain "[B" (some 0) with kind := .array 15 .byte, interfaces := #[13, 2], accessFlags := 1041 }

/-- the primitive char -/
def k17 : Class := { plain "char" none with kind := .primitive 'C', accessFlags := 0x411 }
/-- [C -/
def k18 : Class := { plain "[C" (some 0) with kind := .array 17 .char, interfaces := #[13, 2], accessFlags := 1041 }

/-- the primitive int -/
def k19 : Class := { plain "int" none with kind := .primitive 'I', accessFlags := 0x411 }
/-- [I -/
def k20 : Class := { plain "[I" (some 0) with kind := .array 19 .int, interfaces := #[13, 2], accessFlags := 1041 }

/-- [Lcom/example/pnorm/pnorm/model/Weighting; -/
def k21 : Class := { plain "[Lcom/example/pnorm/pnorm/model/Weighting;" (some 0) with kind := .array 12 (.object "com/example/pnorm/pnorm/model/Weighting"), interfaces := #[13, 2], accessFlags := 1041 }

def heap : Heap := #[{ cls := 7, slots := #[.long 0, .int 1, .null, .int 0, .null, .int 0, .int 0], vm := .statics 7 },
  { cls := 9, slots := #[.null, .null, .null], vm := .statics 9 },
  { cls := 12, slots := #[.ref 4, .ref 5, .ref 6, .ref 7, .double 0, .ref 3], vm := .statics 12 },
  { cls := 21, slots := #[.ref 4, .ref 5, .ref 6, .ref 7], vm := .none },
  { cls := 12, slots := #[.null, .int 0, .int 0, .ref 8], vm := .none },
  { cls := 12, slots := #[.null, .int 1, .int 0, .ref 9], vm := .none },
  { cls := 12, slots := #[.null, .int 2, .int 0, .ref 10], vm := .none },
  { cls := 12, slots := #[.null, .int 3, .int 0, .ref 11], vm := .none },
  { cls := 7, slots := #[.ref 12, .int 0, .int 0, .int 0], vm := .none },
  { cls := 7, slots := #[.ref 13, .int 0, .int 0, .int 0], vm := .none },
  { cls := 7, slots := #[.ref 14, .int 0, .int 0, .int 0], vm := .none },
  { cls := 7, slots := #[.ref 15, .int 0, .int 0, .int 0], vm := .none },
  { cls := 16, slots := #[.int 101, .int 98], vm := .none },
  { cls := 16, slots := #[.int 116, .int 102, .int 99, .int 46, .int 116, .int 102, .int 99], vm := .none },
  { cls := 16, slots := #[.int 108, .int 120, .int 99, .int 46, .int 108, .int 116, .int 99], vm := .none },
  { cls := 16, slots := #[.int 76, .int 110, .int 117, .int 46, .int 108, .int 116, .int 117], vm := .none }]
def classes : Array Class := #[k0, k1, k2, k3, k4, k5, k6, k7, k8, k9, k10, k11, k12, k13, k14, k15, k16, k17, k18, k19, k20, k21]
def interned : List (Array UInt16 × Addr) := []
def slotsUsed : Nat := 75
def theMethod : MethodId := ⟨1, 1⟩
def args0 : Array Value := #[.int 1, .int 2, .int 3, .int 4, .long 5]
def aboutOver (below : List Frame) : State where
  vm := { classes := classes, interned := interned.toArray }
  heap := heap
  slotsUsed := slotsUsed
  threads := #[{ frames := .invoking theMethod args0 :: below }]
def below0 : List Frame := [.native { method := ⟨0, 0⟩, args := #[] }]
def about1 : State := aboutOver below0
def p0 : Program := .bare "" "" ""
def e0 : Env := launch0.env 0 0 0
theorem w_frames : about1.frames = Frame.invoking theMethod args0 :: below0 := rfl
set_option maxRecDepth 65536 in
theorem w_args : argsFit about1.vm theMethod args0 = true := by decide +kernel
set_option maxRecDepth 65536 in
theorem w_heap : heapFits about1 = true := by decide +kernel
set_option maxRecDepth 65536 in
theorem w_runnable : about1.curStatus? = some .runnable := by decide +kernel
set_option maxRecDepth 65536 in
theorem w_alone : about1.alone = true := by decide +kernel
set_option maxRecDepth 65536 in
theorem w_named : about1.methodNamed? x = some theMethod := by decide +kernel
set_option maxRecDepth 65536 in
theorem w_hears : about1.hears theMethod below0 = true := by decide +kernel
set_option maxRecDepth 65536 in
theorem w_ripe : about1.ripe theMethod args0 below0 = true := by decide +kernel
theorem w_running : about1.status = .running := rfl
set_option maxRecDepth 65536 in
theorem w_room : about1.hasRoom e0.platform room_1 = true :=
  launch0.hasRoom_least _ room_1 (by decide +kernel) (by decide +kernel) (by decide +kernel) (by decide +kernel) (by decide +kernel) (by decide +kernel)
theorem allAtoms_all (ts : List Jvm.Cond) (a : Array Jvm.Value) (st : Jvm.State) : (allAtoms ts).before a st = ts.all (fun c => c.before a st) := by
  induction ts with
  | nil => rfl
  | cons c t ih =>
    show (Jvm.Cond.and c (allAtoms t)).before a st = _
    rw [Jvm.Cond.before_and, ih, List.all_cons]
def words1 : List Jvm.Cond := Jvm.Cond.code x code maxLocals ret :: tables_1
/-- a 'code' word, met by the world's own term for the bytes: nothing is compared byte by byte -/
theorem code_word {y : MethodName} {bytes : ByteArray} {mx : Nat} {rt : Option FieldType} {a : Array Value} {s : State} {m : MethodId} {meth : Method} {c : Code} (h1 : s.methodNamed? y = some m) (h2 : s.vm.method? m = some meth) (h3 : meth.code = some c) (h4 : c.code = bytes)
    (h5 : (c.maxLocals == mx && c.exceptionTable.isEmpty && decide (c.maxStack ≤ mostOperands) && decide (meth.sig.returnType = rt) && !meth.locks && decide (parseMethodDescriptor y.desc = some meth.sig)) = true) : (Jvm.Cond.code y bytes mx rt).before a s = true := by
  simp only [Bool.and_eq_true, beq_iff_eq, Bool.not_eq_true', decide_eq_true_eq] at h5
  obtain ⟨⟨⟨⟨⟨g1, g2⟩, g3⟩, g4⟩, g5⟩, g6⟩ := h5
  simp [Cond.before, Cond.holds, Cond.value, h1, h2, h3, h4, g1, g2, g3, g4, g5, g6]
def isCode : Jvm.Cond → Bool
  | .code _ _ _ _ => true
  | _ => false
theorem all_split {L : List Jvm.Cond} {P : Jvm.Cond → Bool} (h1 : L.all (fun c => isCode c || P c) = true) (h2 : ∀ c ∈ L.filter isCode, P c = true) : L.all P = true := by
  refine List.all_eq_true.mpr fun c hc => ?_
  have h := List.all_eq_true.mp h1 c hc
  rcases Bool.eq_false_or_eq_true (isCode c) with hi | hi
  · exact h2 c (List.mem_filter.mpr ⟨hc, hi⟩)
  · simpa [hi] using h
set_option maxRecDepth 65536 in
theorem w_c0 : (Jvm.Cond.code x code maxLocals ret).before args0 about1 = true := code_word (m := ⟨1, 1⟩) (meth := k1m1) (c := k1c1) (by decide +kernel) rfl rfl rfl (by decide +kernel)
set_option maxRecDepth 65536 in
theorem w_c1 : (Jvm.Cond.code ({ cls := "java/lang/String", name := "length", desc := "()I" } : Jvm.MethodName) jdk_42_method_54_code (1 : Nat) (Option.some Jvm.ClassFile.FieldType.int)).before args0 about1 = true := code_word (m := ⟨7, 2⟩) (meth := k7m2) (c := k7c2) (by decide +kernel) rfl rfl rfl (by decide +kernel)
set_option maxRecDepth 65536 in
theorem w_c2 : (Jvm.Cond.code ({ cls := "java/lang/String", name := "coder", desc := "()B" } : Jvm.MethodName) jdk_42_method_152_code (1 : Nat) (Option.some Jvm.ClassFile.FieldType.byte)).before args0 about1 = true := code_word (m := ⟨7, 6⟩) (meth := k7m6) (c := k7c6) (by decide +kernel) rfl rfl rfl (by decide +kernel)
set_option maxRecDepth 65536 in
theorem w_c3 : (Jvm.Cond.code ({ cls := "com/example/pnorm/pnorm/model/WeightingNamedPinLaw", name := "at", desc := "(Ljava/lang/String;I)C" } : Jvm.MethodName) method_3_code (2 : Nat) (Option.some Jvm.ClassFile.FieldType.char)).before args0 about1 = true := code_word (m := ⟨1, 2⟩) (meth := k1m2) (c := k1c2) (by decide +kernel) rfl rfl rfl (by decide +kernel)
set_option maxRecDepth 65536 in
theorem w_c4 : (Jvm.Cond.code ({ cls := "java/lang/String", name := "charAt", desc := "(I)C" } : Jvm.MethodName) jdk_42_method_56_code (2 : Nat) (Option.some Jvm.ClassFile.FieldType.char)).before args0 about1 = true := code_word (m := ⟨7, 3⟩) (meth := k7m3) (c := k7c3) (by decide +kernel) rfl rfl rfl (by decide +kernel)
set_option maxRecDepth 65536 in
theorem w_c5 : (Jvm.Cond.code ({ cls := "java/lang/String", name := "isLatin1", desc := "()Z" } : Jvm.MethodName) jdk_42_method_154_code (1 : Nat) (Option.some Jvm.ClassFile.FieldType.boolean)).before args0 about1 = true := code_word (m := ⟨7, 7⟩) (meth := k7m7) (c := k7c7) (by decide +kernel) rfl rfl rfl (by decide +kernel)
set_option maxRecDepth 65536 in
theorem w_c6 : (Jvm.Cond.code ({ cls := "java/lang/StringLatin1", name := "charAt", desc := "([BI)C" } : Jvm.MethodName) jdk_43_method_2_code (2 : Nat) (Option.some Jvm.ClassFile.FieldType.char)).before args0 about1 = true := code_word (m := ⟨8, 1⟩) (meth := k8m1) (c := k8c1) (by decide +kernel) rfl rfl rfl (by decide +kernel)
set_option maxRecDepth 65536 in
theorem w_c7 : (Jvm.Cond.code ({ cls := "java/lang/String", name := "checkIndex", desc := "(II)V" } : Jvm.MethodName) jdk_42_method_155_code (2 : Nat) (Option.none : Option Jvm.ClassFile.FieldType)).before args0 about1 = true := code_word (m := ⟨7, 8⟩) (meth := k7m8) (c := k7c8) (by decide +kernel) rfl rfl rfl (by decide +kernel)
set_option maxRecDepth 65536 in
theorem w_c8 : (Jvm.Cond.code ({ cls := "jdk/internal/util/Preconditions", name := "checkIndex", desc := "(IILjava/util/function/BiFunction;)I" } : Jvm.MethodName) jdk_41_method_11_code (3 : Nat) (Option.some Jvm.ClassFile.FieldType.int)).before args0 about1 = true := code_word (m := ⟨9, 1⟩) (meth := k9m1) (c := k9c1) (by decide +kernel) rfl rfl rfl (by decide +kernel)
set_option maxRecDepth 65536 in
theorem w_c9 : (Jvm.Cond.code ({ cls := "com/example/pnorm/pnorm/model/WeightingNamedPinLaw", name := "mk", desc := "(I[C)Ljava/lang/String;" } : Jvm.MethodName) method_4_code (2 : Nat) (Option.some (Jvm.ClassFile.FieldType.object "java/lang/String"))).before args0 about1 = true := code_word (m := ⟨1, 3⟩) (meth := k1m3) (c := k1c3) (by decide +kernel) rfl rfl rfl (by decide +kernel)
set_option maxRecDepth 65536 in
theorem w_c10 : (Jvm.Cond.code ({ cls := "java/lang/String", name := "<init>", desc := "([C)V" } : Jvm.MethodName) jdk_42_method_3_code (2 : Nat) (Option.none : Option Jvm.ClassFile.FieldType)).before args0 about1 = true := code_word (m := ⟨7, 1⟩) (meth := k7m1) (c := k7c1) (by decide +kernel) rfl rfl rfl (by decide +kernel)
set_option maxRecDepth 65536 in
theorem w_c11 : (Jvm.Cond.code ({ cls := "java/lang/String", name := "<init>", desc := "([CIILjava/lang/Void;)V" } : Jvm.MethodName) jdk_42_method_149_code (6 : Nat) (Option.none : Option Jvm.ClassFile.FieldType)).before args0 about1 = true := code_word (m := ⟨7, 5⟩) (meth := k7m5) (c := k7c5) (by decide +kernel) rfl rfl rfl (by decide +kernel)
set_option maxRecDepth 65536 in
theorem w_c12 : (Jvm.Cond.code ({ cls := "java/lang/Object", name := "<init>", desc := "()V" } : Jvm.MethodName) object_method_1_code (1 : Nat) (Option.none : Option Jvm.ClassFile.FieldType)).before args0 about1 = true := code_word (m := ⟨0, 0⟩) (meth := k0m0) (c := k0c0) (by decide +kernel) rfl rfl rfl (by decide +kernel)
set_option maxRecDepth 65536 in
theorem w_c13 : (Jvm.Cond.code ({ cls := "java/lang/StringUTF16", name := "compress", desc := "([CII)[B" } : Jvm.MethodName) jdk_52_method_16_code (6 : Nat) (Option.some (Jvm.ClassFile.FieldType.array Jvm.ClassFile.FieldType.byte))).before args0 about1 = true := code_word (m := ⟨10, 2⟩) (meth := k10m2) (c := k10c2) (by decide +kernel) rfl rfl rfl (by decide +kernel)
set_option maxRecDepth 65536 in
theorem w_c14 : (Jvm.Cond.code ({ cls := "java/lang/StringUTF16", name := "compress", desc := "([CI[BII)I" } : Jvm.MethodName) jdk_52_method_21_code (7 : Nat) (Option.some Jvm.ClassFile.FieldType.int)).before args0 about1 = true := code_word (m := ⟨10, 3⟩) (meth := k10m3) (c := k10c3) (by decide +kernel) rfl rfl rfl (by decide +kernel)
set_option maxRecDepth 65536 in
theorem w_c15 : (Jvm.Cond.code ({ cls := "java/lang/StringUTF16", name := "coderFromArrayLen", desc := "([BI)B" } : Jvm.MethodName) jdk_52_method_15_code (2 : Nat) (Option.some Jvm.ClassFile.FieldType.byte)).before args0 about1 = true := code_word (m := ⟨10, 1⟩) (meth := k10m1) (c := k10c1) (by decide +kernel) rfl rfl rfl (by decide +kernel)
set_option maxRecDepth 65536 in
theorem w_c16 : (Jvm.Cond.code ({ cls := "java/lang/String", name := "equals", desc := "(Ljava/lang/Object;)Z" } : Jvm.MethodName) jdk_42_method_66_code (3 : Nat) (Option.some Jvm.ClassFile.FieldType.boolean)).before args0 about1 = true := code_word (m := ⟨7, 4⟩) (meth := k7m4) (c := k7c4) (by decide +kernel) rfl rfl rfl (by decide +kernel)
set_option maxRecDepth 65536 in
theorem w_c17 : (Jvm.Cond.code ({ cls := "java/lang/StringLatin1", name := "equals", desc := "([B[B)Z" } : Jvm.MethodName) jdk_43_method_13_code (3 : Nat) (Option.some Jvm.ClassFile.FieldType.boolean)).before args0 about1 = true := code_word (m := ⟨8, 2⟩) (meth := k8m2) (c := k8c2) (by decide +kernel) rfl rfl rfl (by decide +kernel)
set_option maxRecDepth 65536 in
theorem w_c18 : (Jvm.Cond.code ({ cls := "com/example/pnorm/pnorm/model/Weighting", name := "named", desc := "(Ljava/lang/String;)Lcom/example/pnorm/pnorm/model/Weighting;" } : Jvm.MethodName) prog_36_method_5_code (6 : Nat) (Option.some (Jvm.ClassFile.FieldType.object "com/example/pnorm/pnorm/model/Weighting"))).before args0 about1 = true := code_word (m := ⟨12, 1⟩) (meth := k12m1) (c := k12c1) (by decide +kernel) rfl rfl rfl (by decide +kernel)
set_option maxRecDepth 65536 in
theorem w_c19 : (Jvm.Cond.code ({ cls := "com/example/pnorm/pnorm/model/Weighting", name := "values", desc := "()[Lcom/example/pnorm/pnorm/model/Weighting;" } : Jvm.MethodName) prog_36_method_1_code (0 : Nat) (Option.some (Jvm.ClassFile.FieldType.array (Jvm.ClassFile.FieldType.object "com/example/pnorm/pnorm/model/Weighting")))).before args0 about1 = true := code_word (m := ⟨12, 0⟩) (meth := k12m0) (c := k12c0) (by decide +kernel) rfl rfl rfl (by decide +kernel)
def codes1 : List Jvm.Cond := [Jvm.Cond.code x code maxLocals ret, Jvm.Cond.code ({ cls := "java/lang/String", name := "length", desc := "()I" } : Jvm.MethodName) jdk_42_method_54_code (1 : Nat) (Option.some Jvm.ClassFile.FieldType.int), Jvm.Cond.code ({ cls := "java/lang/String", name := "coder", desc := "()B" } : Jvm.MethodName) jdk_42_method_152_code (1 : Nat) (Option.some Jvm.ClassFile.FieldType.byte), Jvm.Cond.code ({ cls := "com/example/pnorm/pnorm/model/WeightingNamedPinLaw", name := "at", desc := "(Ljava/lang/String;I)C" } : Jvm.MethodName) method_3_code (2 : Nat) (Option.some Jvm.ClassFile.FieldType.char), Jvm.Cond.code ({ cls := "java/lang/String", name := "charAt", desc := "(I)C" } : Jvm.MethodName) jdk_42_method_56_code (2 : Nat) (Option.some Jvm.ClassFile.FieldType.char), Jvm.Cond.code ({ cls := "java/lang/String", name := "isLatin1", desc := "()Z" } : Jvm.MethodName) jdk_42_method_154_code (1 : Nat) (Option.some Jvm.ClassFile.FieldType.boolean), Jvm.Cond.code ({ cls := "java/lang/StringLatin1", name := "charAt", desc := "([BI)C" } : Jvm.MethodName) jdk_43_method_2_code (2 : Nat) (Option.some Jvm.ClassFile.FieldType.char), Jvm.Cond.code ({ cls := "java/lang/String", name := "checkIndex", desc := "(II)V" } : Jvm.MethodName) jdk_42_method_155_code (2 : Nat) (Option.none : Option Jvm.ClassFile.FieldType), Jvm.Cond.code ({ cls := "jdk/internal/util/Preconditions", name := "checkIndex", desc := "(IILjava/util/function/BiFunction;)I" } : Jvm.MethodName) jdk_41_method_11_code (3 : Nat) (Option.some Jvm.ClassFile.FieldType.int), Jvm.Cond.code ({ cls := "com/example/pnorm/pnorm/model/WeightingNamedPinLaw", name := "mk", desc := "(I[C)Ljava/lang/String;" } : Jvm.MethodName) method_4_code (2 : Nat) (Option.some (Jvm.ClassFile.FieldType.object "java/lang/String")), Jvm.Cond.code ({ cls := "java/lang/String", name := "<init>", desc := "([C)V" } : Jvm.MethodName) jdk_42_method_3_code (2 : Nat) (Option.none : Option Jvm.ClassFile.FieldType), Jvm.Cond.code ({ cls := "java/lang/String", name := "<init>", desc := "([CIILjava/lang/Void;)V" } : Jvm.MethodName) jdk_42_method_149_code (6 : Nat) (Option.none : Option Jvm.ClassFile.FieldType), Jvm.Cond.code ({ cls := "java/lang/Object", name := "<init>", desc := "()V" } : Jvm.MethodName) object_method_1_code (1 : Nat) (Option.none : Option Jvm.ClassFile.FieldType), Jvm.Cond.code ({ cls := "java/lang/StringUTF16", name := "compress", desc := "([CII)[B" } : Jvm.MethodName) jdk_52_method_16_code (6 : Nat) (Option.some (Jvm.ClassFile.FieldType.array Jvm.ClassFile.FieldType.byte)), Jvm.Cond.code ({ cls := "java/lang/StringUTF16", name := "compress", desc := "([CI[BII)I" } : Jvm.MethodName) jdk_52_method_21_code (7 : Nat) (Option.some Jvm.ClassFile.FieldType.int), Jvm.Cond.code ({ cls := "java/lang/StringUTF16", name := "coderFromArrayLen", desc := "([BI)B" } : Jvm.MethodName) jdk_52_method_15_code (2 : Nat) (Option.some Jvm.ClassFile.FieldType.byte), Jvm.Cond.code ({ cls := "java/lang/String", name := "equals", desc := "(Ljava/lang/Object;)Z" } : Jvm.MethodName) jdk_42_method_66_code (3 : Nat) (Option.some Jvm.ClassFile.FieldType.boolean), Jvm.Cond.code ({ cls := "java/lang/StringLatin1", name := "equals", desc := "([B[B)Z" } : Jvm.MethodName) jdk_43_method_13_code (3 : Nat) (Option.some Jvm.ClassFile.FieldType.boolean), Jvm.Cond.code ({ cls := "com/example/pnorm/pnorm/model/Weighting", name := "named", desc := "(Ljava/lang/String;)Lcom/example/pnorm/pnorm/model/Weighting;" } : Jvm.MethodName) prog_36_method_5_code (6 : Nat) (Option.some (Jvm.ClassFile.FieldType.object "com/example/pnorm/pnorm/model/Weighting")), Jvm.Cond.code ({ cls := "com/example/pnorm/pnorm/model/Weighting", name := "values", desc := "()[Lcom/example/pnorm/pnorm/model/Weighting;" } : Jvm.MethodName) prog_36_method_1_code (0 : Nat) (Option.some (Jvm.ClassFile.FieldType.array (Jvm.ClassFile.FieldType.object "com/example/pnorm/pnorm/model/Weighting")))]
set_option maxRecDepth 65536 in
theorem codes_eq : words1.filter isCode = codes1 := rfl
theorem w_codes : ∀ c ∈ words1.filter isCode, c.before args0 about1 = true := by
  rw [codes_eq]
  intro c hc
  simp only [codes1, List.mem_cons, List.not_mem_nil, or_false] at hc
  rcases hc with rfl | rfl | rfl | rfl | rfl | rfl | rfl | rfl | rfl | rfl | rfl | rfl | rfl | rfl | rfl | rfl | rfl | rfl | rfl | rfl
  · exact w_c0
  · exact w_c1
  · exact w_c2
  · exact w_c3
  · exact w_c4
  · exact w_c5
  · exact w_c6
  · exact w_c7
  · exact w_c8
  · exact w_c9
  · exact w_c10
  · exact w_c11
  · exact w_c12
  · exact w_c13
  · exact w_c14
  · exact w_c15
  · exact w_c16
  · exact w_c17
  · exact w_c18
  · exact w_c19
set_option maxRecDepth 65536 in
theorem w_t1 : (words1.take 24).all (fun c => isCode c || c.before args0 about1) = true := by decide +kernel
set_option maxRecDepth 65536 in
theorem w_t2 : ((words1.drop 24).take 24).all (fun c => isCode c || c.before args0 about1) = true := by decide +kernel
set_option maxRecDepth 65536 in
theorem w_t3 : (((words1.drop 24).drop 24).take 24).all (fun c => isCode c || c.before args0 about1) = true := by decide +kernel
set_option maxRecDepth 65536 in
theorem w_t4 : ((((words1.drop 24).drop 24).drop 24).take 24).all (fun c => isCode c || c.before args0 about1) = true := by decide +kernel
set_option maxRecDepth 65536 in
theorem w_t5 : ((((words1.drop 24).drop 24).drop 24).drop 24).all (fun c => isCode c || c.before args0 about1) = true := by decide +kernel
theorem w_tables : (allAtoms (Jvm.Cond.code x code maxLocals ret :: tables_1)).before args0 about1 = true := by
  rw [allAtoms_all]
  show words1.all (fun c => c.before args0 about1) = true
  refine all_split ?_ w_codes
  rw [← List.take_append_drop 24 words1, List.all_append, w_t1, ← List.take_append_drop 24 (words1.drop 24), List.all_append, w_t2, ← List.take_append_drop 24 ((words1.drop 24).drop 24), List.all_append, w_t3, ← List.take_append_drop 24 (((words1.drop 24).drop 24).drop 24), List.all_append, w_t4, w_t5]
  rfl
set_option maxRecDepth 65536 in
theorem w_rest : rest_1_c.before args0 about1 = true := by decide +kernel
set_option maxRecDepth 65536 in
theorem w_case : (Jvm.Cond.and given_1 narrow_1).before args0 about1 = true := by decide +kernel
set_option maxRecDepth 65536 in
theorem w_consts : constsHeld consts_1 about1 := Jvm.Lit.constsHeldB_iff.mp (by decide +kernel)
theorem w_applies : (headSpec (Jvm.Cond.code x code maxLocals ret :: tables_1) room_1).applies x e0.platform about1 = true :=
  (Spec.applies_iff w_frames).mpr ⟨w_running, w_runnable, w_alone, w_named, w_hears, w_ripe, w_room, w_tables⟩
theorem atStart : AtStart classFile x code maxLocals ret World_1 tables_1 room_1 Calls_1 rest_1 Pre_1 launch0 p0 e0 about1 theMethod args0 below0 :=
  ⟨lists_1, trivial, launch0.admits_env _ _ _, launch0.least_env, fairChoices_fair.cas, fairChoices_fair.clock, w_frames, w_args, w_heap, w_applies, ⟨w_consts, trivial⟩, w_rest, w_case⟩
end start1
theorem witness_1 : WitnessClaimed_1 := ⟨start1.p0, start1.e0, start1.about1, start1.theMethod, start1.args0, start1.below0, start1.atStart⟩
end Jvm.Pilot.@@N@@
