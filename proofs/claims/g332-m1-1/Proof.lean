import JvmDerived
import JvmDerived.Pilot.@@N@@Statement
import JvmDerived.Pilot.@@N@@Code
set_option linter.unusedVariables false
set_option linter.unusedSimpArgs false
@@BLOCK:NumsL.lean.txt@@
namespace Jvm.RoadKit
open Sem ClassFile Op Lib Jvm.Stand Jvm.Free Jvm.LawKit
section New
variable {p : Program} {l : Launch} {e : Env} {R : Room} {s : State} {m : MethodId} {args : Array Value} {below : List Frame} {meth : Method} {c : Code} {T : State} {locs : List Loc} {cells slots : Nat}
theorem retI (X : Stand p l e R s m args below meth c T locs cells slots) (hx : p.tables.exec = Jvm.exec) {pc : Nat} {Ls : Array Slot} {z : Int32} {rest : List Value} (hret : meth.sig.returnType = some .int) (hd : decode c.code pc = .ok (.ireturn, 1)) {fs : List Frame}
    (hl : ∀ (f : JFrame) (acts : List Action), f.method = m → f.locked = none → f.entered = [] → (doReturn e (T.setTop f) acts (some (.int z))).1 = T.setFrames fs) : Steps p.tables e below (T.setTop (mkF m pc Ls (.int z :: rest))) (T.setFrames fs) :=
  retOut X hx hret rfl (Or.inl ⟨rfl, Or.inl rfl, z, rfl⟩) hd hl
theorem retJ (X : Stand p l e R s m args below meth c T locs cells slots) (hx : p.tables.exec = Jvm.exec) {pc : Nat} {Ls : Array Slot} {z : Int64} {rest : List Value} (hret : meth.sig.returnType = some .long) (hd : decode c.code pc = .ok (.lreturn, 1)) {fs : List Frame}
    (hl : ∀ (f : JFrame) (acts : List Action), f.method = m → f.locked = none → f.entered = [] → (doReturn e (T.setTop f) acts (some (.long z))).1 = T.setFrames fs) : Steps p.tables e below (T.setTop (mkF m pc Ls (.long z :: rest))) (T.setFrames fs) :=
  retOut X hx hret rfl (Or.inr (Or.inl ⟨rfl, rfl, z, rfl⟩)) hd hl
theorem retA (X : Stand p l e R s m args below meth c T locs cells slots) (hx : p.tables.exec = Jvm.exec) {pc : Nat} {Ls : Array Slot} {w : Value} {t : FieldType} {rest : List Value} (hret : meth.sig.returnType = some t) (ht : t.isReference = true) (hw : w.isRef = true) (hn : narrow t w = w) (hd : decode c.code pc = .ok (.areturn, 1)) {fs : List Frame}
    (hl : ∀ (f : JFrame) (acts : List Action), f.method = m → f.locked = none → f.entered = [] → (doReturn e (T.setTop f) acts (some w)).1 = T.setFrames fs) : Steps p.tables e below (T.setTop (mkF m pc Ls (w :: rest))) (T.setFrames fs) :=
  retOut X hx hret hn (Or.inr (Or.inr (Or.inr (Or.inr ⟨rfl, ht, hw⟩)))) hd hl
end New
end Jvm.RoadKit
namespace Jvm.Pilot.@@N@@
open Jvm Jvm.ClassFile Sem Op Lib Jvm.Free Jvm.Stand Jvm.LawKit Jvm.RoadKit Bundle Jvm.Pilot.@@N@@.Jvm.D
/-- the run from t ends by returning, as Q and the frame say -/
def OEnds (p : Program) (e : Env) (below : List Frame) (s : State) (Q : Option Value → Heap → List Loc → Prop) (C S : Nat) (t : State) : Prop :=
  ∃ s₂ o, Steps p.tables e below t s₂ ∧ s₂.status = .running ∧ Ended s₂ below o ∧ ∃ v L, o = .returned v ∧ Q v s₂.heap L ∧ FrameEnd s o s₂ L C S
theorem OEnds.go {p : Program} {e : Env} {below : List Frame} {s : State} {Q : Option Value → Heap → List Loc → Prop} {C S : Nat} {t t' : State} (h : ∀ u, Steps p.tables e below t' u → Steps p.tables e below t u) (k : OEnds p e below s Q C S t') : OEnds p e below s Q C S t := by
  obtain ⟨s₂, o, h1, h2⟩ := k
  exact ⟨s₂, o, h _ h1, h2⟩
theorem OEnds.cut {p : Program} {e : Env} {below : List Frame} {s : State} {Q : Option Value → Heap → List Loc → Prop} {C S : Nat} {t : State} (P : (State → Prop) → Prop) (k2 : P (OEnds p e below s Q C S)) (k1 : P (OEnds p e below s Q C S) → OEnds p e below s Q C S t) : OEnds p e below s Q C S t := k1 k2
theorem OEnds.back {p : Program} {l : Launch} {e : Env} {R : Room} {s : State} {m : MethodId} {args : Array Value} {below : List Frame} {meth : Method} {c : Code} {T : State} {locs : List Loc} {cells slots : Nat} (X : Stand p l e R s m args below meth c T locs cells slots) (hlk : meth.locks = false) {v : Option Value} (hv : meth.sig.returnType = none → v = none) {t : State} {Q : Option Value → Heap → List Loc → Prop} {C S : Nat}
    (st : ∀ fs, (∀ (f : JFrame) (acts : List Action), f.method = m → f.locked = none → f.entered = [] → (doReturn e (T.setTop f) acts v).1 = T.setFrames fs) → Steps p.tables e below t (T.setFrames fs)) (q : Q v T.heap locs) (hc : cells ≤ C) (hs : slots ≤ S) : OEnds p e below s Q C S t := by
  obtain ⟨fs, hr, hrun, hended, hW, hsame⟩ := X.leave hv hlk
  exact ⟨_, _, st fs hr, hrun, hended, _, _, rfl, q, ⟨_, rfl⟩, hW, hsame.mono hc hs⟩
/-- the same for a body that resolves a String constant: the wide frame -/
def OEndsW (p : Program) (e : Env) (below : List Frame) (s : State) (Q : Option Value → Heap → Vm → List Loc → Prop) (C S : Nat) (t : State) : Prop :=
  ∃ s₂ o, Steps p.tables e below t s₂ ∧ s₂.status = .running ∧ Ended s₂ below o ∧ ∃ v L, o = .returned v ∧ Q v s₂.heap s₂.vm L ∧ ReturnedEndW s o s₂ L C S
theorem OEndsW.go {p : Program} {e : Env} {below : List Frame} {s : State} {Q : Option Value → Heap → Vm → List Loc → Prop} {C S : Nat} {t t' : State} (h : ∀ u, Steps p.tables e below t' u → Steps p.tables e below t u) (k : OEndsW p e below s Q C S t') : OEndsW p e below s Q C S t := by
  obtain ⟨s₂, o, h1, h2⟩ := k
  exact ⟨s₂, o, h _ h1, h2⟩
theorem OEndsW.cut {p : Program} {e : Env} {below : List Frame} {s : State} {Q : Option Value → Heap → Vm → List Loc → Prop} {C S : Nat} {t : State} (P : (State → Prop) → Prop) (k2 : P (OEndsW p e below s Q C S)) (k1 : P (OEndsW p e below s Q C S) → OEndsW p e below s Q C S t) : OEndsW p e below s Q C S t := k1 k2
theorem OEndsW.back {p : Program} {l : Launch} {e : Env} {R : Room} {s : State} {vm₁ : Vm} {m : MethodId} {args : Array Value} {below : List Frame} {meth : Method} {c : Code} {T : State} {locs : List Loc} {cells slots : Nat} (X : Stand p l e R (s.setVm vm₁) m args below meth c T locs cells slots) {n : Nat} (hS : s.Since vm₁ n) (hn : n ≤ T.heap.size) (hlk : meth.locks = false) {v : Option Value} (hv : meth.sig.returnType = none → v = none) {t : State} {Q : Option Value → Heap → Vm → List Loc → Prop} {C S : Nat}
    (st : ∀ fs, (∀ (f : JFrame) (acts : List Action), f.method = m → f.locked = none → f.entered = [] → (doReturn e (T.setTop f) acts v).1 = T.setFrames fs) → Steps p.tables e below t (T.setFrames fs)) (q : Q v T.heap T.vm locs) (hc : cells ≤ C) (hs : slots ≤ S) : OEndsW p e below s Q C S t := by
  obtain ⟨fs, hr, hrun, hended, h1, h2, h3, h4⟩ := X.leaveW hS hn hv hlk
  exact ⟨_, _, st fs hr, hrun, hended, _, _, rfl, q, h1, h2, h3, h4.mono hc hs⟩
/-- who pays a call of a body that may resolve a String constant, by its contract; Pv: what it asks of the tables -/
theorem own_backI {p : Program} {l : Launch} {e : Env} {R : Room} {s Z : State} {args : Array Value} {below : List Frame} {a0 : Array Value} {h : Heap} {y : MethodName} {bytes : ByteArray} {maxL : Nat} {ret : Option FieldType} {rm : Room} {len W : Nat} {as' : Array Value} {Pv : Vm → Prop} {Q : Option Value → Heap → Vm → List Loc → Prop}
    (hM : MetFree l y (head1 [Jvm.Cond.code y bytes maxL ret] rm) (fun a U => a = as' ∧ Z.Warmed39 U.vm ∧ U.heap = h ∧ Pv U.vm) (fun _ _ _ _ _ => True) (fun _ U o U' => ∃ v L, o = .returned v ∧ Q v U'.heap U'.vm L ∧ ReturnedEndW U o U' L rm.cells rm.slots))
    (hZ : Z.Warmed39 s.vm) (hPv : ∀ vm, s.WarmedH vm → Pv vm) (wc : (Jvm.Cond.code y bytes maxL ret).before a0 Z = true) (wz : (Jvm.Cond.initialized y.cls).before a0 Z = true) (hf : rm.frames + 1 ≤ R.frames) (hl : W + (maxL + 11) + rm.locals ≤ R.locals) :
    BackS l R p e below s args y len W (fun A a => a = as' ∧ A.U.heap = h ∧ A.cells + rm.cells ≤ R.cells ∧ A.slots + rm.slots ≤ R.slots)
      (fun A _ v B => ∃ L, Q v B.U.heap B.U.vm L ∧ B.locs = A.locs ++ L ∧ B.cells = A.cells + rm.cells ∧ B.slots = A.slots + rm.slots) := by
  refine BackS.of_freeW (bytes := bytes) (maxL := maxL) (ret := ret) (E := fun _ _ o t L k n => (k = rm.cells ∧ n = rm.slots) ∧ ∃ v, o = .returned v ∧ Q v t.heap t.vm L) hM hf hl ?_ ?_ (fun _ _ _ _ _ _ _ _ _ => trivial) ?_ ?_
  · intro m meth c A a Y hp
    have hU : Z.Warmed39 A.U.vm := wtrans hZ Y.warmed
    refine ⟨?_, mv hU wc, mv hU wz, hp.2.2.1, hp.2.2.2⟩
    show (Jvm.Cond.and _ .tt).before a A.U = true
    rw [Cond.before_and, mv hU wc]
    rfl
  · intro m meth c A a g mk Y hp
    exact ⟨hp.1, wtrans hZ Y.warmed, hp.2.1, hPv _ Y.warmed⟩
  · rintro a first o t ⟨v, L, h1, h2, h3⟩
    exact ⟨L, _, _, h3, ⟨rfl, rfl⟩, v, h1, h2⟩
  · rintro m meth c A a g mk v t L k n Y hp hq hr ⟨⟨rfl, rfl⟩, v', h1, h2⟩
    cases h1
    exact ⟨L, h2, rfl, rfl, rfl⟩
theorem own_IBstays {Z s : State} {vm : Vm} {Ts : List String} (I : IB Z s.vm Ts) (hW : s.WarmedH vm) : IB Z vm Ts := by
  obtain ⟨more, e, q⟩ := I
  exact ⟨more, ((hW.since 0).same_table (Nat.zero_le _)).trans e, q⟩

theorem own_lt (x y : Int64) : lcmpW x y < 0 ↔ x < y := by rw [lcW, lc_lt]
theorem own_gt (x y : Int64) : 0 < lcmpW x y ↔ y < x := by rw [lcW, lc_gt]
theorem own_eq (x y : Int64) : lcmpW x y = 0 ↔ x = y := by rw [lcW, lc_eq]
/-- a term that equals a number, as the sheet says it -/
theorem own_eqi {args : Array Value} {s : State} {t : Term} {k : Int32} (h : (Jvm.Cond.eq t (Term.int k)).value args s none s [] = some true) : t.eval args s none [] s = some (.int k) := by
  obtain ⟨x, y, hx, hy, h1, h2⟩ := cmp_v (Or.inl h)
  have hy' : y = .int k := Option.some.inj (hy.symm.trans (Term.int_eval k))
  subst hy'
  obtain ⟨z, rfl⟩ : ∃ z, x = .int z := h2
  simp [Cond.value, hx, hy] at h
  rw [hx, h]
theorem own_fldi {args : Array Value} {s : State} {t : Term} {C n d : String} {a : Addr} {k : Int32} (ht : t.eval args s none [] s = some (.ref a)) (h : (Jvm.Cond.eq (Term.field t C n d) (Term.int k)).value args s none s [] = some true) : s.fieldOf? a C n d = some (.int k) := by
  rw [← fld_at ht]; exact own_eqi h
theorem own_ne {s : State} {C n d : String} {a b : Addr} {j k : Int32} (h1 : s.fieldOf? a C n d = some (.int j)) (h2 : s.fieldOf? b C n d = some (.int k)) (hk : j ≠ k) : a ≠ b := by
  intro e; subst e
  exact hk (Value.int.inj (Option.some.inj (h1.symm.trans h2)))

theorem own_mod (x m : Int32) (hm : 0 < m.toInt) : 0 ≤ ((x &&& 2147483647) % m).toInt ∧ ((x &&& 2147483647) % m).toInt < m.toInt := by
  have h : 0 ≤ (x &&& 2147483647).toInt := by
    rw [Jvm.Kit.i32_mask x 2147483647 (k := 31) (by decide) (by decide)]; omega
  rw [Jvm.Kit.i32_rem_nonneg h]
  exact ⟨Int.emod_nonneg _ (by omega), Int.emod_lt_of_pos _ hm⟩
theorem own_range {r : Int32} {n : Nat} (h0 : 0 ≤ r.toInt) (h1 : r.toInt < n) (hn : n ≤ 2 ^ 31) : ∃ k : Nat, k < n ∧ r = Int32.ofNat k := by
  refine ⟨r.toInt.toNat, by omega, ?_⟩
  rw [← Int32.toInt_inj, Int32.toInt_ofNat_small (by omega)]; omega


section OwnS
variable {Z : State} {h h' : Heap} {a b : Addr} {k : ClassId} {xs ys : List Int32} {ws : List Addr}
def own_eqL (xs ys : List Int32) : Int32 := if xs = ys then 1 else 0
/-- the bytes at b -/
def own_By (Z : State) (h : Heap) (b : Addr) (k : ClassId) (xs : List Int32) : Prop := Arv Z h b k .byte (Int32.ofNat xs.length) (xs.map Value.int) (.int 0) ∧ xs.length < 2 ^ 31
/-- a String of Latin-1 bytes -/
def own_S (Z : State) (h : Heap) (a : Addr) (b : Addr) (k : ClassId) (xs : List Int32) : Prop := Exa Z h a "java/lang/String" ∧ Fld Z h a "java/lang/String" "coder" "B" (.int 0) ∧ Fld Z h a "java/lang/String" "value" "[B" (.ref b) ∧ own_By Z h b k xs
theorem own_By.ext (F : own_By Z h b k xs) (E : Ext h h') : own_By Z h' b k xs := ⟨F.1.ext E, F.2⟩
theorem own_By.keep (F : own_By Z h b k xs) (K : Keep h h' ws) (q : b ∉ ws) : own_By Z h' b k xs := ⟨F.1.keep K q, F.2⟩
theorem own_By.other {sl : Nat} {w : Value} (F : own_By Z h b k xs) (W : Wr h h' a sl w) (q : b ≠ a) : own_By Z h' b k xs := ⟨F.1.other W q, F.2⟩
theorem own_By.lt (F : own_By Z h b k xs) : b < h.size := F.1.lt
theorem own_S.ext (F : own_S Z h a b k xs) (E : Ext h h') : own_S Z h' a b k xs := ⟨F.1.ext E, F.2.1.ext E, F.2.2.1.ext E, F.2.2.2.ext E⟩
theorem own_S.keep (F : own_S Z h a b k xs) (K : Keep h h' ws) (q : a ∉ ws) (r : b ∉ ws) : own_S Z h' a b k xs := ⟨F.1.keep K, F.2.1.keep K q, F.2.2.1.keep K q, F.2.2.2.keep K r⟩
theorem own_S.lt (F : own_S Z h a b k xs) : a < h.size := F.1.lt
theorem own_ofNat_inj {i j : Nat} (hi : i < 2 ^ 31) (hj : j < 2 ^ 31) (e : Int32.ofNat i = Int32.ofNat j) : i = j := by
  have q := congrArg Int32.toInt e
  rw [Int32.toInt_ofNat_small hi, Int32.toInt_ofNat_small hj] at q
  omega
theorem own_ofNat_lt {i j : Nat} (hi : i < 2 ^ 31) (hj : j < 2 ^ 31) : Int32.ofNat i < Int32.ofNat j ↔ i < j := by
  rw [Int32.lt_iff_toInt_lt, Int32.toInt_ofNat_small hi, Int32.toInt_ofNat_small hj]; omega
theorem own_ofNat_clamp {i : Nat} (hi : i < 2 ^ 31) : (Int32.ofNat i).toNatClampNeg = i := by
  show (Int32.ofNat i).toInt.toNat = i
  rw [Int32.toInt_ofNat_small hi]; omega
theorem own_succ (i : Nat) : Int32.ofNat i + (1 : Int32) = Int32.ofNat (i + 1) := (Int32.ofNat_succ i).symm ▸ rfl
theorem own_getD_map (xs : List Int32) (i : Nat) : (xs.map Value.int).getD i (.int 0) = .int (xs.getD i 0) := by
  rw [List.getD_eq_getElem?_getD, List.getD_eq_getElem?_getD, List.getElem?_map]
  cases xs[i]? <;> rfl
theorem own_byte (F : own_By Z h b k xs) {i : Nat} (hi : i < xs.length) : ∃ c : Cell, Arr Z h b c .byte ∧ ¬ (Int32.ofNat i < 0 ∨ c.slots.size ≤ (Int32.ofNat i).toNatClampNeg) ∧ c.slots[(Int32.ofNat i).toNatClampNeg]? = some (.int (xs.getD i 0)) := by
  obtain ⟨⟨c, A, q, S, N, H, G⟩, hl⟩ := F
  have h0 : ¬ Int32.ofNat i < 0 := by
    rw [Int32.lt_iff_toInt_lt, Int32.toInt_ofNat_small (by omega)]
    have e : (0 : Int32).toInt = 0 := rfl
    omega
  have hin : ¬ (Int32.ofNat i < 0 ∨ c.slots.size ≤ (Int32.ofNat i).toNatClampNeg) := inb_of S ⟨h0, (own_ofNat_lt (by omega) hl).mpr hi⟩
  refine ⟨c, A, hin, H.at hin ?_⟩
  rw [own_ofNat_clamp (by omega)]
  exact own_getD_map xs i
theorem own_blen (F : own_By Z h b k xs) : ∃ c : Cell, Arr Z h b c .byte ∧ c.slots.size.toInt32 = Int32.ofNat xs.length := by
  obtain ⟨⟨c, A, q, S, N, H, G⟩, hl⟩ := F
  exact ⟨c, A, len_of S N⟩
theorem own_list_ext (hl : xs.length = ys.length) (hj : ∀ j, j < xs.length → xs.getD j 0 = ys.getD j 0) : xs = ys := by
  refine List.ext_getElem hl fun j h1 h2 => ?_
  have q := hj j h1
  rw [List.getD_eq_getElem?_getD, List.getD_eq_getElem?_getD, List.getElem?_eq_getElem h1, List.getElem?_eq_getElem h2] at q
  exact q
/-- one array bears one text -/
theorem own_By.same {k' : ClassId} (F : own_By Z h b k xs) (G : own_By Z h b k' ys) : xs = ys := by
  obtain ⟨⟨c, A, q, S, N, H, -⟩, hl⟩ := F
  obtain ⟨⟨c', A', q', S', N', H', -⟩, hl'⟩ := G
  cases A.1.symm.trans A'.1
  rw [own_ofNat_clamp hl] at S
  rw [own_ofNat_clamp hl'] at S'
  refine own_list_ext (S.symm.trans S') fun j hj => ?_
  have e1 := H j (by omega)
  have e2 := H' j (by omega)
  rw [own_getD_map] at e1 e2
  exact Value.int.inj (Option.some.inj (e1.symm.trans e2))
theorem own_S.same {b' : Addr} {k' : ClassId} (F : own_S Z h a b k xs) (G : own_S Z h a b' k' ys) : xs = ys := by
  have hb : b = b' := by
    by_cases e : b = b'
    · exact e
    · exact absurd rfl (Fld.ne F.2.2.1 G.2.2.1 (fun q => e (Value.ref.inj q)))
  subst hb
  exact F.2.2.2.same G.2.2.2
theorem own_eqL1 (h : ¬ own_eqL xs ys = 0) : own_eqL xs ys = 1 := by
  unfold own_eqL at h ⊢
  split
  · rfl
  · rename_i q; exact absurd (if_neg q) h
end OwnS


theorem own_len {args : Array Value} {s : State} {t : Term} {a : Addr} {cl : Cell} {ty : FieldType} {z : Int32} (ht : t.eval args s none [] s = some (.ref a)) (A : Arr s s.heap a cl ty) (h : (Jvm.Cond.eq (Term.length t) (Term.int z)).value args s none s [] = some true) : cl.slots.size < 2 ^ 31 ∧ cl.slots.size.toInt32 = z := by
  have h' := own_eqi h
  have ha : s.arrayAt? a = some cl := A.fin (State.Warmed39.refl s).alike
  by_cases hl : cl.slots.size < 2 ^ 31
  · rw [len_f ht ha hl] at h'
    exact ⟨hl, Value.int.inj (Option.some.inj h')⟩
  · exfalso
    simp [Term.eval, ht, ha, hl] at h'
theorem own_el {args : Array Value} {s : State} {t : Term} {a : Addr} {cl : Cell} {ty : FieldType} {j k : Int32} (ht : t.eval args s none [] s = some (.ref a)) (A : Arr s s.heap a cl ty) (h : (Jvm.Cond.eq (Term.elem t (Term.int j)) (Term.int k)).value args s none s [] = some true) : cl.slots[j.toNatClampNeg]? = some (.int k) := (elem_in (own_eqi h) ht (Term.int_eval j) A.1).2
theorem own_nei {args : Array Value} {s : State} {t : Term} {w : Int32} (ht : t.eval args s none [] s = some (.int w)) (h : (Jvm.Cond.not (Jvm.Cond.eq t (Term.int 0))).value args s none s [] = some true) : ¬ w = 0 := by
  intro e; subst e
  have h' := not_v h
  have : (Jvm.Cond.eq t (Term.int 0)).value args s none s [] = some true := eq_i ht (Term.int_eval 0) rfl
  rw [this] at h'; cases h'


def own_is (a b : Addr) : Int32 := if a = b then 1 else 0
def own_is0 (z : Int32) : Int32 := if z = 0 then 1 else 0
theorem own_four (k : Int32) : (k &&& 3) = 0 ∨ (k &&& 3) = 1 ∨ (k &&& 3) = 2 ∨ (k &&& 3) = 3 := by
  have h : (k &&& 3).toInt = k.toInt % 2 ^ 2 := Jvm.Kit.i32_mask k 3 (k := 2) (by decide) (by decide)
  obtain ⟨j, hj, e⟩ := own_range (r := k &&& 3) (n := 4) (by omega) (by omega) (by decide)
  rw [e]
  match j, hj with
  | 0, _ => exact Or.inl rfl
  | 1, _ => exact Or.inr (Or.inl rfl)
  | 2, _ => exact Or.inr (Or.inr (Or.inl rfl))
  | 3, _ => exact Or.inr (Or.inr (Or.inr rfl))
theorem own_at {Z : State} {h : Heap} {a : Addr} {k : ClassId} {ty : FieldType} {z : Int32} {vs : List Value} {dv w : Value} (F : Arv Z h a k ty z vs dv) {j : Int32} (q : ¬ j < 0 ∧ j < z) (u : vs.getD j.toNatClampNeg dv = w) : ∃ c : Cell, Arr Z h a c ty ∧ ¬ (j < 0 ∨ c.slots.size ≤ j.toNatClampNeg) ∧ c.slots[j.toNatClampNeg]? = some w := by
  obtain ⟨c, A, e, S, N, H, G⟩ := F
  exact ⟨c, A, inb_of S q, H.at (inb_of S q) u⟩

theorem d4_0 : decode jdk_43_method_13_code 0 = .ok (.aload_n 0, 1) := by decide +kernel
theorem d4_1 : decode jdk_43_method_13_code 1 = .ok (.arraylength, 1) := by decide +kernel
theorem d4_2 : decode jdk_43_method_13_code 2 = .ok (.aload_n 1, 1) := by decide +kernel
theorem d4_3 : decode jdk_43_method_13_code 3 = .ok (.arraylength, 1) := by decide +kernel
theorem d4_4 : decode jdk_43_method_13_code 4 = .ok (.if_icmp .ne 30, 3) := by decide +kernel
theorem d4_7 : decode jdk_43_method_13_code 7 = .ok (.iconst 0, 1) := by decide +kernel
theorem d4_8 : decode jdk_43_method_13_code 8 = .ok (.istore_n 2, 1) := by decide +kernel
theorem d4_9 : decode jdk_43_method_13_code 9 = .ok (.iload_n 2, 1) := by decide +kernel
theorem d4_10 : decode jdk_43_method_13_code 10 = .ok (.aload_n 0, 1) := by decide +kernel
theorem d4_11 : decode jdk_43_method_13_code 11 = .ok (.arraylength, 1) := by decide +kernel
theorem d4_12 : decode jdk_43_method_13_code 12 = .ok (.if_icmp .ge 20, 3) := by decide +kernel
theorem d4_15 : decode jdk_43_method_13_code 15 = .ok (.aload_n 0, 1) := by decide +kernel
theorem d4_16 : decode jdk_43_method_13_code 16 = .ok (.iload_n 2, 1) := by decide +kernel
theorem d4_17 : decode jdk_43_method_13_code 17 = .ok (.baload, 1) := by decide +kernel
theorem d4_18 : decode jdk_43_method_13_code 18 = .ok (.aload_n 1, 1) := by decide +kernel
theorem d4_19 : decode jdk_43_method_13_code 19 = .ok (.iload_n 2, 1) := by decide +kernel
theorem d4_20 : decode jdk_43_method_13_code 20 = .ok (.baload, 1) := by decide +kernel
theorem d4_21 : decode jdk_43_method_13_code 21 = .ok (.if_icmp .eq 5, 3) := by decide +kernel
theorem d4_24 : decode jdk_43_method_13_code 24 = .ok (.iconst 0, 1) := by decide +kernel
theorem d4_25 : decode jdk_43_method_13_code 25 = .ok (.ireturn, 1) := by decide +kernel
theorem d4_26 : decode jdk_43_method_13_code 26 = .ok (.iinc 2 1, 3) := by decide +kernel
theorem d4_29 : decode jdk_43_method_13_code 29 = .ok (.goto (-20), 3) := by decide +kernel
theorem d4_32 : decode jdk_43_method_13_code 32 = .ok (.iconst 1, 1) := by decide +kernel
theorem d4_33 : decode jdk_43_method_13_code 33 = .ok (.ireturn, 1) := by decide +kernel
theorem d4_34 : decode jdk_43_method_13_code 34 = .ok (.iconst 0, 1) := by decide +kernel
theorem d4_35 : decode jdk_43_method_13_code 35 = .ok (.ireturn, 1) := by decide +kernel
theorem pn_4 : plainName "java/lang/StringLatin1" = true := by first | (simp [plainName, overriddenIn]; done) | decide +kernel
theorem ef_rm4 (m : MethodId) (b1 : Addr) (b2 : Addr) : entryFrame m #[(.ref b1), (.ref b2)] 3 = mkF m 0 #[.val (.ref b1), .val (.ref b2), .unset] [] := by first | (simp [entryFrame, mkF, argsToLocals, Value.category]; done) | rfl
def Q4 (Z : State) (b1 : Addr) (b2 : Addr) (k1 : ClassId) (k2 : ClassId) (xs : List Int32) (ys : List Int32) (h0 : Heap) (n0 : Nat) (v : Option Value) (h : Heap) (L : List Loc) : Prop := v = some (.int (own_eqL xs ys)) ∧ Fr n0 L ∧ h = h0
set_option maxRecDepth 65536 in
set_option maxHeartbeats 40000000 in
theorem rm4 (l : Launch) (Z : State) (a0 : Array Value) (hw : ∀ d ∈ tables_1, d.before a0 Z = true) (ws : List Jvm.Cond) (b1 : Addr) (b2 : Addr) (k1 : ClassId) (k2 : ClassId) (xs : List Int32) (ys : List Int32) (h0 : Heap) (n0 : Nat) (Z0 : n0 ≤ h0.size) (V1 : own_By Z h0 b1 k1 xs) (V2 : own_By Z h0 b2 k2 ys) :
    MetFree l (⟨"java/lang/StringLatin1", "equals", "([B[B)Z"⟩ : MethodName) (head1 (Jvm.Cond.code (⟨"java/lang/StringLatin1", "equals", "([B[B)Z"⟩ : MethodName) jdk_43_method_13_code 3 (some .boolean) :: ws) ({ frames := 0, cells := 0, slots := 0, locals := 0 } : Room)) (fun a U => a = #[(.ref b1), (.ref b2)] ∧ Z.Warmed39 U.vm ∧ U.heap = h0) (fun _ _ _ _ _ => True) (fun _ U o U' => ∃ v L, o = .returned v ∧ Q4 Z b1 b2 k1 k2 xs ys h0 n0 v U'.heap L ∧ FrameEnd U o U' L ({ frames := 0, cells := 0, slots := 0, locals := 0 } : Room).cells ({ frames := 0, cells := 0, slots := 0, locals := 0 } : Room).slots) := by
  refine MetFree.of_bodySF (plainFor_of_name pn_4) hisR ?_
  intro p e s m args below meth c s₁ Bd hml0 hP hK
  obtain ⟨rfl, hZ, hh⟩ := hP
  have hx := Bd.exec
  have hby := Bd.bytes
  have hml : c.maxLocals = 3 := hml0
  have hown : s.vm.findClass "java/lang/StringLatin1" = some m.cls := findClass_of_methodNamed Bd.named
  have hnm := (name_of_methodNamed Bd.named Bd.method).1
  have hlk := BodyLoose.notSynchronized Bd
  have hrt := Bd.returns
  have X0 : Stand p l e ({ frames := 0, cells := 0, slots := 0, locals := 0 } : Room) s m #[(.ref b1), (.ref b2)] below meth c s₁ [] 0 0 := Stand.of_body Bd
  have e0 : s₁.heap = h0 := by rw [← hh, Bd.state]; rfl
  have N0 := Fr.nil n0
  show OEnds p e below s (Q4 Z b1 b2 k1 k2 xs ys h0 n0) ({ frames := 0, cells := 0, slots := 0, locals := 0 } : Room).cells ({ frames := 0, cells := 0, slots := 0, locals := 0 } : Room).slots (s₁.setTop (entryFrame m #[(.ref b1), (.ref b2)] 3))
  refine OEnds.go (t' := s₁.setTop (mkF m 0 #[.val (.ref b1), .val (.ref b2), .unset] [])) (fun t k => castTop (ef_rm4 m b1 b2) k) ?_
  refine OEnds.go (t' := s₁.setTop (mkF m 1 #[.val (.ref b1), .val (.ref b2), .unset] [(.ref b1)])) (fun _ k => ?_) ?_
  · show Steps p.tables e below (s₁.setTop (mkF m 0 #[.val (.ref b1), .val (.ref b2), .unset] [])) _
    refine XS.aloadN X0.here hx rfl (hb hby d4_0) rfl rfl ?_
    show Steps p.tables e below (s₁.setTop (mkF m 1 #[.val (.ref b1), .val (.ref b2), .unset] [(.ref b1)])) _
    exact k
  obtain ⟨cl1, Ar1, hl1⟩ := own_blen V1
  refine OEnds.go (t' := s₁.setTop (mkF m 2 #[.val (.ref b1), .val (.ref b2), .unset] [(.int cl1.slots.size.toInt32)])) (fun _ k => X0.arraylength hx (by rw [e0]; exact Ar1.1) (State.isArrayOf_alike hZ.alike Ar1.2.1) (g := (mkF m 1 #[.val (.ref b1), .val (.ref b2), .unset] [(.ref b1)])) rfl rfl (hb hby d4_1) _ k) ?_
  rw [hl1]
  refine OEnds.go (t' := s₁.setTop (mkF m 3 #[.val (.ref b1), .val (.ref b2), .unset] [(.ref b2), (.int (Int32.ofNat xs.length))])) (fun _ k => ?_) ?_
  · show Steps p.tables e below (s₁.setTop (mkF m 2 #[.val (.ref b1), .val (.ref b2), .unset] [(.int (Int32.ofNat xs.length))])) _
    refine XS.aloadN X0.here hx rfl (hb hby d4_2) rfl rfl ?_
    show Steps p.tables e below (s₁.setTop (mkF m 3 #[.val (.ref b1), .val (.ref b2), .unset] [(.ref b2), (.int (Int32.ofNat xs.length))])) _
    exact k
  obtain ⟨cl2, Ar2, hl2⟩ := own_blen V2
  refine OEnds.go (t' := s₁.setTop (mkF m 4 #[.val (.ref b1), .val (.ref b2), .unset] [(.int cl2.slots.size.toInt32), (.int (Int32.ofNat xs.length))])) (fun _ k => X0.arraylength hx (by rw [e0]; exact Ar2.1) (State.isArrayOf_alike hZ.alike Ar2.2.1) (g := (mkF m 3 #[.val (.ref b1), .val (.ref b2), .unset] [(.ref b2), (.int (Int32.ofNat xs.length))])) rfl rfl (hb hby d4_3) _ k) ?_
  rw [hl2]
  by_cases h4 : (Int32.ofNat xs.length) = (Int32.ofNat ys.length)
  · refine OEnds.go (t' := s₁.setTop (mkF m 7 #[.val (.ref b1), .val (.ref b2), .unset] [])) (fun _ k => XS.icmpNo X0.here hx rfl (hb hby d4_4) rfl (teq h4).2 k) ?_
    have hlen : xs.length = ys.length := own_ofNat_inj V1.2 V2.2 h4
    refine OEnds.cut (fun En => ∀ (d i : Nat), i + d = xs.length → (∀ j, j < i → xs.getD j 0 = ys.getD j 0) → En (s₁.setTop (mkF m 9 #[.val (.ref b1), .val (.ref b2), .val (.int (Int32.ofNat i))] []))) ?_ (fun K9 => ?_)
    · intro d
      induction d with
      | zero => 
        intro i hi ht
        refine OEnds.go (t' := s₁.setTop (mkF m 11 #[.val (.ref b1), .val (.ref b2), .val (.int (Int32.ofNat i))] [(.ref b1), (.int (Int32.ofNat i))])) (fun _ k => ?_) ?_
        · show Steps p.tables e below (s₁.setTop (mkF m 9 #[.val (.ref b1), .val (.ref b2), .val (.int (Int32.ofNat i))] [])) _
          refine XS.iloadN X0.here hx rfl (hb hby d4_9) rfl ?_
          show Steps p.tables e below (s₁.setTop (mkF m 10 #[.val (.ref b1), .val (.ref b2), .val (.int (Int32.ofNat i))] [(.int (Int32.ofNat i))])) _
          refine XS.aloadN X0.here hx rfl (hb hby d4_10) rfl rfl ?_
          show Steps p.tables e below (s₁.setTop (mkF m 11 #[.val (.ref b1), .val (.ref b2), .val (.int (Int32.ofNat i))] [(.ref b1), (.int (Int32.ofNat i))])) _
          exact k
        obtain ⟨cl3, Ar3, hl3⟩ := own_blen V1
        refine OEnds.go (t' := s₁.setTop (mkF m 12 #[.val (.ref b1), .val (.ref b2), .val (.int (Int32.ofNat i))] [(.int cl3.slots.size.toInt32), (.int (Int32.ofNat i))])) (fun _ k => X0.arraylength hx (by rw [e0]; exact Ar3.1) (State.isArrayOf_alike hZ.alike Ar3.2.1) (g := (mkF m 11 #[.val (.ref b1), .val (.ref b2), .val (.int (Int32.ofNat i))] [(.ref b1), (.int (Int32.ofNat i))])) rfl rfl (hb hby d4_11) _ k) ?_
        rw [hl3]
        refine OEnds.go (t' := s₁.setTop (mkF m 32 #[.val (.ref b1), .val (.ref b2), .val (.int (Int32.ofNat i))] [])) (fun _ k => XS.icmpYes X0.here hx rfl (pc0 := 12) (pc' := 32) rfl (hb hby d4_12) rfl (flt (fun q => absurd ((own_ofNat_lt (by have := V1.2; omega) V1.2).mp q) (by omega))).2.1 (by decide) (by decide) k) ?_
        refine OEnds.go (t' := s₁.setTop (mkF m 33 #[.val (.ref b1), .val (.ref b2), .val (.int (Int32.ofNat i))] [(.int (1 : Int32))])) (fun _ k => ?_) ?_
        · show Steps p.tables e below (s₁.setTop (mkF m 32 #[.val (.ref b1), .val (.ref b2), .val (.int (Int32.ofNat i))] [])) _
          refine XS.iconst X0.here hx rfl (hb hby d4_32) ?_
          show Steps p.tables e below (s₁.setTop (mkF m 33 #[.val (.ref b1), .val (.ref b2), .val (.int (Int32.ofNat i))] [(.int (1 : Int32))])) _
          exact k
        refine OEnds.back X0 hlk (v := (some (.int (1 : Int32)))) (fun h => by rw [hrt] at h; cases h) (fun fs hr => ?_) ?_ (by decide) (by decide)
        · exact retN X0 hx (t := .boolean) hrt (by simp) (hb hby d4_33) hr
        · show Q4 Z b1 b2 k1 k2 xs ys h0 n0 _ s₁.heap _
          rw [e0]
          exact ⟨by rw [own_eqL, if_pos (own_list_ext hlen (fun j hj => ht j (by omega)))], N0, rfl⟩
      | succ d ih => 
        intro i hi ht
        refine OEnds.go (t' := s₁.setTop (mkF m 11 #[.val (.ref b1), .val (.ref b2), .val (.int (Int32.ofNat i))] [(.ref b1), (.int (Int32.ofNat i))])) (fun _ k => ?_) ?_
        · show Steps p.tables e below (s₁.setTop (mkF m 9 #[.val (.ref b1), .val (.ref b2), .val (.int (Int32.ofNat i))] [])) _
          refine XS.iloadN X0.here hx rfl (hb hby d4_9) rfl ?_
          show Steps p.tables e below (s₁.setTop (mkF m 10 #[.val (.ref b1), .val (.ref b2), .val (.int (Int32.ofNat i))] [(.int (Int32.ofNat i))])) _
          refine XS.aloadN X0.here hx rfl (hb hby d4_10) rfl rfl ?_
          show Steps p.tables e below (s₁.setTop (mkF m 11 #[.val (.ref b1), .val (.ref b2), .val (.int (Int32.ofNat i))] [(.ref b1), (.int (Int32.ofNat i))])) _
          exact k
        obtain ⟨cl4, Ar4, hl4⟩ := own_blen V1
        refine OEnds.go (t' := s₁.setTop (mkF m 12 #[.val (.ref b1), .val (.ref b2), .val (.int (Int32.ofNat i))] [(.int cl4.slots.size.toInt32), (.int (Int32.ofNat i))])) (fun _ k => X0.arraylength hx (by rw [e0]; exact Ar4.1) (State.isArrayOf_alike hZ.alike Ar4.2.1) (g := (mkF m 11 #[.val (.ref b1), .val (.ref b2), .val (.int (Int32.ofNat i))] [(.ref b1), (.int (Int32.ofNat i))])) rfl rfl (hb hby d4_11) _ k) ?_
        rw [hl4]
        refine OEnds.go (t' := s₁.setTop (mkF m 15 #[.val (.ref b1), .val (.ref b2), .val (.int (Int32.ofNat i))] [])) (fun _ k => XS.icmpNo X0.here hx rfl (hb hby d4_12) rfl (tlt ((own_ofNat_lt (by have := V1.2; omega) V1.2).mpr (by omega))).2.1 k) ?_
        refine OEnds.go (t' := s₁.setTop (mkF m 17 #[.val (.ref b1), .val (.ref b2), .val (.int (Int32.ofNat i))] [(.int (Int32.ofNat i)), (.ref b1)])) (fun _ k => ?_) ?_
        · show Steps p.tables e below (s₁.setTop (mkF m 15 #[.val (.ref b1), .val (.ref b2), .val (.int (Int32.ofNat i))] [])) _
          refine XS.aloadN X0.here hx rfl (hb hby d4_15) rfl rfl ?_
          show Steps p.tables e below (s₁.setTop (mkF m 16 #[.val (.ref b1), .val (.ref b2), .val (.int (Int32.ofNat i))] [(.ref b1)])) _
          refine XS.iloadN X0.here hx rfl (hb hby d4_16) rfl ?_
          show Steps p.tables e below (s₁.setTop (mkF m 17 #[.val (.ref b1), .val (.ref b2), .val (.int (Int32.ofNat i))] [(.int (Int32.ofNat i)), (.ref b1)])) _
          exact k
        obtain ⟨cl5, Ar5, hin5, hat5⟩ := own_byte V1 (i := i) (by omega)
        refine OEnds.go (t' := s₁.setTop (mkF m 18 #[.val (.ref b1), .val (.ref b2), .val (.int (Int32.ofNat i))] [(.int (xs.getD i 0))])) (fun _ k => X0.baloadBytes hx (j := (Int32.ofNat i)) (v := (.int (xs.getD i 0))) (by rw [e0]; exact Ar5.1) (State.isArrayOf_alike hZ.alike Ar5.2.1) Ar5.2.2 hin5 hat5 (g := (mkF m 17 #[.val (.ref b1), .val (.ref b2), .val (.int (Int32.ofNat i))] [(.int (Int32.ofNat i)), (.ref b1)])) rfl rfl (hb hby d4_17) _ k) ?_
        refine OEnds.go (t' := s₁.setTop (mkF m 20 #[.val (.ref b1), .val (.ref b2), .val (.int (Int32.ofNat i))] [(.int (Int32.ofNat i)), (.ref b2), (.int (xs.getD i 0))])) (fun _ k => ?_) ?_
        · show Steps p.tables e below (s₁.setTop (mkF m 18 #[.val (.ref b1), .val (.ref b2), .val (.int (Int32.ofNat i))] [(.int (xs.getD i 0))])) _
          refine XS.aloadN X0.here hx rfl (hb hby d4_18) rfl rfl ?_
          show Steps p.tables e below (s₁.setTop (mkF m 19 #[.val (.ref b1), .val (.ref b2), .val (.int (Int32.ofNat i))] [(.ref b2), (.int (xs.getD i 0))])) _
          refine XS.iloadN X0.here hx rfl (hb hby d4_19) rfl ?_
          show Steps p.tables e below (s₁.setTop (mkF m 20 #[.val (.ref b1), .val (.ref b2), .val (.int (Int32.ofNat i))] [(.int (Int32.ofNat i)), (.ref b2), (.int (xs.getD i 0))])) _
          exact k
        obtain ⟨cl6, Ar6, hin6, hat6⟩ := own_byte V2 (i := i) (by omega)
        refine OEnds.go (t' := s₁.setTop (mkF m 21 #[.val (.ref b1), .val (.ref b2), .val (.int (Int32.ofNat i))] [(.int (ys.getD i 0)), (.int (xs.getD i 0))])) (fun _ k => X0.baloadBytes hx (j := (Int32.ofNat i)) (v := (.int (ys.getD i 0))) (by rw [e0]; exact Ar6.1) (State.isArrayOf_alike hZ.alike Ar6.2.1) Ar6.2.2 hin6 hat6 (g := (mkF m 20 #[.val (.ref b1), .val (.ref b2), .val (.int (Int32.ofNat i))] [(.int (Int32.ofNat i)), (.ref b2), (.int (xs.getD i 0))])) rfl rfl (hb hby d4_20) _ k) ?_
        by_cases h21 : (xs.getD i 0) = (ys.getD i 0)
        · refine OEnds.go (t' := s₁.setTop (mkF m 26 #[.val (.ref b1), .val (.ref b2), .val (.int (Int32.ofNat i))] [])) (fun _ k => XS.icmpYes X0.here hx rfl (pc0 := 21) (pc' := 26) rfl (hb hby d4_21) rfl (teq h21).1 (by decide) (by decide) k) ?_
          refine OEnds.go (t' := s₁.setTop (mkF m 9 #[.val (.ref b1), .val (.ref b2), .val (.int ((Int32.ofNat i) + (1 : Int32)))] [])) (fun _ k => ?_) ?_
          · show Steps p.tables e below (s₁.setTop (mkF m 26 #[.val (.ref b1), .val (.ref b2), .val (.int (Int32.ofNat i))] [])) _
            refine XS.iinc X0.here hx rfl (hb hby d4_26) rfl (l' := #[.val (.ref b1), .val (.ref b2), .val (.int ((Int32.ofNat i) + (1 : Int32)))]) rfl ?_
            show Steps p.tables e below (s₁.setTop (mkF m 29 #[.val (.ref b1), .val (.ref b2), .val (.int ((Int32.ofNat i) + (1 : Int32)))] [])) _
            refine XS.goto X0.here hx rfl (pc0 := 29) (pc' := 9) rfl (hb hby d4_29) (by decide) (by decide) ?_
            show Steps p.tables e below (s₁.setTop (mkF m 9 #[.val (.ref b1), .val (.ref b2), .val (.int ((Int32.ofNat i) + (1 : Int32)))] [])) _
            exact k
          rw [own_succ]
          exact ih (i + 1) (by omega) (fun j hj => by
            by_cases e : j = i
            · rw [e]; exact h21
            · exact ht j (by omega))
        · refine OEnds.go (t' := s₁.setTop (mkF m 24 #[.val (.ref b1), .val (.ref b2), .val (.int (Int32.ofNat i))] [])) (fun _ k => XS.icmpNo X0.here hx rfl (hb hby d4_21) rfl (feq h21).1 k) ?_
          refine OEnds.go (t' := s₁.setTop (mkF m 25 #[.val (.ref b1), .val (.ref b2), .val (.int (Int32.ofNat i))] [(.int (0 : Int32))])) (fun _ k => ?_) ?_
          · show Steps p.tables e below (s₁.setTop (mkF m 24 #[.val (.ref b1), .val (.ref b2), .val (.int (Int32.ofNat i))] [])) _
            refine XS.iconst X0.here hx rfl (hb hby d4_24) ?_
            show Steps p.tables e below (s₁.setTop (mkF m 25 #[.val (.ref b1), .val (.ref b2), .val (.int (Int32.ofNat i))] [(.int (0 : Int32))])) _
            exact k
          refine OEnds.back X0 hlk (v := (some (.int (0 : Int32)))) (fun h => by rw [hrt] at h; cases h) (fun fs hr => ?_) ?_ (by decide) (by decide)
          · exact retN X0 hx (t := .boolean) hrt (by simp) (hb hby d4_25) hr
          · show Q4 Z b1 b2 k1 k2 xs ys h0 n0 _ s₁.heap _
            rw [e0]
            exact ⟨by rw [own_eqL, if_neg (fun q => h21 (by rw [q]))], N0, rfl⟩
    refine OEnds.go (t' := s₁.setTop (mkF m 9 #[.val (.ref b1), .val (.ref b2), .val (.int (0 : Int32))] [])) (fun _ k => ?_) ?_
    · show Steps p.tables e below (s₁.setTop (mkF m 7 #[.val (.ref b1), .val (.ref b2), .unset] [])) _
      refine XS.iconst X0.here hx rfl (hb hby d4_7) ?_
      show Steps p.tables e below (s₁.setTop (mkF m 8 #[.val (.ref b1), .val (.ref b2), .unset] [(.int (0 : Int32))])) _
      refine XS.istoreN X0.here hx rfl (hb hby d4_8) rfl (l' := #[.val (.ref b1), .val (.ref b2), .val (.int (0 : Int32))]) rfl ?_
      show Steps p.tables e below (s₁.setTop (mkF m 9 #[.val (.ref b1), .val (.ref b2), .val (.int (0 : Int32))] [])) _
      exact k
    exact K9 xs.length 0 (by omega) (fun j hj => absurd hj (Nat.not_lt_zero j))
  · refine OEnds.go (t' := s₁.setTop (mkF m 34 #[.val (.ref b1), .val (.ref b2), .unset] [])) (fun _ k => XS.icmpYes X0.here hx rfl (pc0 := 4) (pc' := 34) rfl (hb hby d4_4) rfl (feq h4).2 (by decide) (by decide) k) ?_
    refine OEnds.go (t' := s₁.setTop (mkF m 35 #[.val (.ref b1), .val (.ref b2), .unset] [(.int (0 : Int32))])) (fun _ k => ?_) ?_
    · show Steps p.tables e below (s₁.setTop (mkF m 34 #[.val (.ref b1), .val (.ref b2), .unset] [])) _
      refine XS.iconst X0.here hx rfl (hb hby d4_34) ?_
      show Steps p.tables e below (s₁.setTop (mkF m 35 #[.val (.ref b1), .val (.ref b2), .unset] [(.int (0 : Int32))])) _
      exact k
    refine OEnds.back X0 hlk (v := (some (.int (0 : Int32)))) (fun h => by rw [hrt] at h; cases h) (fun fs hr => ?_) ?_ (by decide) (by decide)
    · exact retN X0 hx (t := .boolean) hrt (by simp) (hb hby d4_35) hr
    · show Q4 Z b1 b2 k1 k2 xs ys h0 n0 _ s₁.heap _
      rw [e0]
      exact ⟨by rw [own_eqL, if_neg (fun q => h4 (by rw [q]))], N0, rfl⟩
theorem d3_0 : decode jdk_42_method_66_code 0 = .ok (.aload_n 0, 1) := by decide +kernel
theorem d3_1 : decode jdk_42_method_66_code 1 = .ok (.aload_n 1, 1) := by decide +kernel
theorem d3_2 : decode jdk_42_method_66_code 2 = .ok (.if_acmp .ne 5, 3) := by decide +kernel
theorem d3_5 : decode jdk_42_method_66_code 5 = .ok (.iconst 1, 1) := by decide +kernel
theorem d3_6 : decode jdk_42_method_66_code 6 = .ok (.ireturn, 1) := by decide +kernel
theorem d3_7 : decode jdk_42_method_66_code 7 = .ok (.aload_n 1, 1) := by decide +kernel
theorem d3_8 : decode jdk_42_method_66_code 8 = .ok (.instanceof 10, 3) := by decide +kernel
theorem d3_11 : decode jdk_42_method_66_code 11 = .ok (.ifCond .eq 43, 3) := by decide +kernel
theorem d3_14 : decode jdk_42_method_66_code 14 = .ok (.aload_n 1, 1) := by decide +kernel
theorem d3_15 : decode jdk_42_method_66_code 15 = .ok (.checkcast 10, 3) := by decide +kernel
theorem d3_18 : decode jdk_42_method_66_code 18 = .ok (.astore_n 2, 1) := by decide +kernel
theorem d3_19 : decode jdk_42_method_66_code 19 = .ok (.getstatic 38, 3) := by decide +kernel
theorem d3_22 : decode jdk_42_method_66_code 22 = .ok (.ifCond .eq 14, 3) := by decide +kernel
theorem d3_25 : decode jdk_42_method_66_code 25 = .ok (.aload_n 0, 1) := by decide +kernel
theorem d3_26 : decode jdk_42_method_66_code 26 = .ok (.getfield 15, 3) := by decide +kernel
theorem d3_29 : decode jdk_42_method_66_code 29 = .ok (.aload_n 2, 1) := by decide +kernel
theorem d3_30 : decode jdk_42_method_66_code 30 = .ok (.getfield 15, 3) := by decide +kernel
theorem d3_33 : decode jdk_42_method_66_code 33 = .ok (.if_icmp .ne 21, 3) := by decide +kernel
theorem d3_36 : decode jdk_42_method_66_code 36 = .ok (.aload_n 0, 1) := by decide +kernel
theorem d3_37 : decode jdk_42_method_66_code 37 = .ok (.getfield 9, 3) := by decide +kernel
theorem d3_40 : decode jdk_42_method_66_code 40 = .ok (.aload_n 2, 1) := by decide +kernel
theorem d3_41 : decode jdk_42_method_66_code 41 = .ok (.getfield 9, 3) := by decide +kernel
theorem d3_44 : decode jdk_42_method_66_code 44 = .ok (.invokestatic 541, 3) := by decide +kernel
theorem d3_47 : decode jdk_42_method_66_code 47 = .ok (.ifCond .eq 7, 3) := by decide +kernel
theorem d3_50 : decode jdk_42_method_66_code 50 = .ok (.iconst 1, 1) := by decide +kernel
theorem d3_51 : decode jdk_42_method_66_code 51 = .ok (.goto 4, 3) := by decide +kernel
theorem d3_54 : decode jdk_42_method_66_code 54 = .ok (.iconst 0, 1) := by decide +kernel
theorem d3_55 : decode jdk_42_method_66_code 55 = .ok (.ireturn, 1) := by decide +kernel
theorem pn_3 : plainName "java/lang/String" = true := by first | (simp [plainName, overriddenIn]; done) | decide +kernel
theorem pd_rm3_0 : parseMethodDescriptor "([B[B)Z" = some ⟨[(.array .byte), (.array .byte)], some .boolean⟩ := by decide +kernel
theorem ef_rm3 (m : MethodId) (a1 : Addr) (a2 : Addr) : entryFrame m #[(.ref a1), (.ref a2)] 3 = mkF m 0 #[.val (.ref a1), .val (.ref a2), .unset] [] := by first | (simp [entryFrame, mkF, argsToLocals, Value.category]; done) | rfl
def Q3 (Z : State) (a1 : Addr) (a2 : Addr) (w1 : Int32) (b1 : Addr) (b2 : Addr) (k1 : ClassId) (k2 : ClassId) (xs : List Int32) (ys : List Int32) (h0 : Heap) (n0 : Nat) (v : Option Value) (h : Heap) (L : List Loc) : Prop := v = some (.int (own_eqL xs ys)) ∧ Fr n0 L ∧ h = h0
set_option maxRecDepth 65536 in
set_option maxHeartbeats 40000000 in
theorem rm3 (l : Launch) (Z : State) (a0 : Array Value) (hw : ∀ d ∈ tables_1, d.before a0 Z = true) (ws : List Jvm.Cond) (a1 : Addr) (a2 : Addr) (w1 : Int32) (b1 : Addr) (b2 : Addr) (k1 : ClassId) (k2 : ClassId) (xs : List Int32) (ys : List Int32) (h0 : Heap) (n0 : Nat) (Z0 : n0 ≤ h0.size) (S_C : Sta Z h0 "java/lang/String" "COMPACT_STRINGS" "Z" (.int w1)) (c0 : ¬ w1 = 0) (S1 : own_S Z h0 a1 b1 k1 xs) (S2 : own_S Z h0 a2 b2 k2 ys) :
    MetFree l (⟨"java/lang/String", "equals", "(Ljava/lang/Object;)Z"⟩ : MethodName) (head1 (Jvm.Cond.code (⟨"java/lang/String", "equals", "(Ljava/lang/Object;)Z"⟩ : MethodName) jdk_42_method_66_code 3 (some .boolean) :: ws) ({ frames := 1, cells := 0, slots := 0, locals := 14 } : Room)) (fun a U => a = #[(.ref a1), (.ref a2)] ∧ Z.Warmed39 U.vm ∧ U.heap = h0) (fun _ _ _ _ _ => True) (fun _ U o U' => ∃ v L, o = .returned v ∧ Q3 Z a1 a2 w1 b1 b2 k1 k2 xs ys h0 n0 v U'.heap L ∧ FrameEnd U o U' L ({ frames := 1, cells := 0, slots := 0, locals := 14 } : Room).cells ({ frames := 1, cells := 0, slots := 0, locals := 14 } : Room).slots) := by
  refine MetFree.of_bodySF (plainFor_of_name pn_3) hisR ?_
  intro p e s m args below meth c s₁ Bd hml0 hP hK
  obtain ⟨rfl, hZ, hh⟩ := hP
  have hx := Bd.exec
  have hby := Bd.bytes
  have hml : c.maxLocals = 3 := hml0
  have hown : s.vm.findClass "java/lang/String" = some m.cls := findClass_of_methodNamed Bd.named
  have hnm := (name_of_methodNamed Bd.named Bd.method).1
  have hlk := BodyLoose.notSynchronized Bd
  have hrt := Bd.returns
  have X0 : Stand p l e ({ frames := 1, cells := 0, slots := 0, locals := 14 } : Room) s m #[(.ref a1), (.ref a2)] below meth c s₁ [] 0 0 := Stand.of_body Bd
  have e0 : s₁.heap = h0 := by rw [← hh, Bd.state]; rfl
  have N0 := Fr.nil n0
  show OEnds p e below s (Q3 Z a1 a2 w1 b1 b2 k1 k2 xs ys h0 n0) ({ frames := 1, cells := 0, slots := 0, locals := 14 } : Room).cells ({ frames := 1, cells := 0, slots := 0, locals := 14 } : Room).slots (s₁.setTop (entryFrame m #[(.ref a1), (.ref a2)] 3))
  refine OEnds.go (t' := s₁.setTop (mkF m 0 #[.val (.ref a1), .val (.ref a2), .unset] [])) (fun t k => castTop (ef_rm3 m a1 a2) k) ?_
  refine OEnds.go (t' := s₁.setTop (mkF m 2 #[.val (.ref a1), .val (.ref a2), .unset] [(.ref a2), (.ref a1)])) (fun _ k => ?_) ?_
  · show Steps p.tables e below (s₁.setTop (mkF m 0 #[.val (.ref a1), .val (.ref a2), .unset] [])) _
    refine XS.aloadN X0.here hx rfl (hb hby d3_0) rfl rfl ?_
    show Steps p.tables e below (s₁.setTop (mkF m 1 #[.val (.ref a1), .val (.ref a2), .unset] [(.ref a1)])) _
    refine XS.aloadN X0.here hx rfl (hb hby d3_1) rfl rfl ?_
    show Steps p.tables e below (s₁.setTop (mkF m 2 #[.val (.ref a1), .val (.ref a2), .unset] [(.ref a2), (.ref a1)])) _
    exact k
  by_cases h2 : a1 = a2
  · refine OEnds.go (t' := s₁.setTop (mkF m 5 #[.val (.ref a1), .val (.ref a2), .unset] [])) (fun _ k => Jvm.RoadKit.acmp (g := (mkF m 2 #[.val (.ref a1), .val (.ref a2), .unset] [(.ref a2), (.ref a1)])) X0 hx rfl rfl rfl (pc0 := 2) (pc' := 5) (same := true) rfl (hb hby d3_2) rfl (decide_eq_true (congrArg Value.ref h2)) (by decide) (by decide) k) ?_
    refine OEnds.go (t' := s₁.setTop (mkF m 6 #[.val (.ref a1), .val (.ref a2), .unset] [(.int (1 : Int32))])) (fun _ k => ?_) ?_
    · show Steps p.tables e below (s₁.setTop (mkF m 5 #[.val (.ref a1), .val (.ref a2), .unset] [])) _
      refine XS.iconst X0.here hx rfl (hb hby d3_5) ?_
      show Steps p.tables e below (s₁.setTop (mkF m 6 #[.val (.ref a1), .val (.ref a2), .unset] [(.int (1 : Int32))])) _
      exact k
    refine OEnds.back X0 hlk (v := (some (.int (1 : Int32)))) (fun h => by rw [hrt] at h; cases h) (fun fs hr => ?_) ?_ (by decide) (by decide)
    · exact retN X0 hx (t := .boolean) hrt (by simp) (hb hby d3_6) hr
    · show Q3 Z a1 a2 w1 b1 b2 k1 k2 xs ys h0 n0 _ s₁.heap _
      rw [e0]
      exact ⟨by subst h2; rw [own_eqL, if_pos (S1.same S2)], N0, rfl⟩
  · refine OEnds.go (t' := s₁.setTop (mkF m 7 #[.val (.ref a1), .val (.ref a2), .unset] [])) (fun _ k => Jvm.RoadKit.acmp (g := (mkF m 2 #[.val (.ref a1), .val (.ref a2), .unset] [(.ref a2), (.ref a1)])) X0 hx rfl rfl rfl (pc0 := 2) (pc' := 7) (same := false) rfl (hb hby d3_2) rfl (decide_eq_false fun q => h2 (Value.ref.inj q)) (by decide) (by decide) k) ?_
    refine OEnds.go (t' := s₁.setTop (mkF m 8 #[.val (.ref a1), .val (.ref a2), .unset] [(.ref a2)])) (fun _ k => ?_) ?_
    · show Steps p.tables e below (s₁.setTop (mkF m 7 #[.val (.ref a1), .val (.ref a2), .unset] [])) _
      refine XS.aloadN X0.here hx rfl (hb hby d3_7) rfl rfl ?_
      show Steps p.tables e below (s₁.setTop (mkF m 8 #[.val (.ref a1), .val (.ref a2), .unset] [(.ref a2)])) _
      exact k
    obtain ⟨T1, X1, e1, st1⟩ := instY X0 hx hZ hown (hw _ (List.mem_of_getElem? (i := 38) rfl)) e0 (Ins.self S2.1) (g := (mkF m 8 #[.val (.ref a1), .val (.ref a2), .unset] [(.ref a2)])) rfl rfl (hb hby d3_8)
    refine OEnds.go (t' := T1.setTop (mkF m 11 #[.val (.ref a1), .val (.ref a2), .unset] [(.int (1 : Int32))])) (fun _ k => st1 _ k) ?_
    refine OEnds.go (t' := T1.setTop (mkF m 14 #[.val (.ref a1), .val (.ref a2), .unset] [])) (fun _ k => XS.ifNo X1.here hx rfl (hb hby d3_11) rfl ((if0 _ _).trans (feq (by decide)).1) k) ?_
    refine OEnds.go (t' := T1.setTop (mkF m 15 #[.val (.ref a1), .val (.ref a2), .unset] [(.ref a2)])) (fun _ k => ?_) ?_
    · show Steps p.tables e below (T1.setTop (mkF m 14 #[.val (.ref a1), .val (.ref a2), .unset] [])) _
      refine XS.aloadN X1.here hx rfl (hb hby d3_14) rfl rfl ?_
      show Steps p.tables e below (T1.setTop (mkF m 15 #[.val (.ref a1), .val (.ref a2), .unset] [(.ref a2)])) _
      exact k
    obtain ⟨T2, X2, e2, st2⟩ := castY X1 hx hZ hown (hw _ (List.mem_of_getElem? (i := 38) rfl)) e1 (Ins.self S2.1) (g := (mkF m 15 #[.val (.ref a1), .val (.ref a2), .unset] [(.ref a2)])) rfl rfl (hb hby d3_15)
    refine OEnds.go (t' := T2.setTop (mkF m 18 #[.val (.ref a1), .val (.ref a2), .unset] [(.ref a2)])) (fun _ k => st2 _ k) ?_
    refine OEnds.go (t' := T2.setTop (mkF m 19 #[.val (.ref a1), .val (.ref a2), .val (.ref a2)] [])) (fun _ k => ?_) ?_
    · show Steps p.tables e below (T2.setTop (mkF m 18 #[.val (.ref a1), .val (.ref a2), .unset] [(.ref a2)])) _
      refine XS.astoreN X2.here hx rfl (hb hby d3_18) rfl rfl (l' := #[.val (.ref a1), .val (.ref a2), .val (.ref a2)]) rfl ?_
      show Steps p.tables e below (T2.setTop (mkF m 19 #[.val (.ref a1), .val (.ref a2), .val (.ref a2)] [])) _
      exact k
    obtain ⟨T3, X3, e3, st3⟩ := getS2 X2 hx hZ hown (host := "") (Or.inl (hw _ (List.mem_of_getElem? (i := 40) rfl))) Via.refl e2 S_C (g := (mkF m 19 #[.val (.ref a1), .val (.ref a2), .val (.ref a2)] [])) rfl (hb hby d3_19)
    refine OEnds.go (t' := T3.setTop (mkF m 22 #[.val (.ref a1), .val (.ref a2), .val (.ref a2)] [(.int w1)])) (fun _ k => st3 _ k) ?_
    refine OEnds.go (t' := T3.setTop (mkF m 25 #[.val (.ref a1), .val (.ref a2), .val (.ref a2)] [])) (fun _ k => XS.ifNo X3.here hx rfl (hb hby d3_22) rfl ((if0 _ _).trans (feq c0).1) k) ?_
    refine OEnds.go (t' := T3.setTop (mkF m 26 #[.val (.ref a1), .val (.ref a2), .val (.ref a2)] [(.ref a1)])) (fun _ k => ?_) ?_
    · show Steps p.tables e below (T3.setTop (mkF m 25 #[.val (.ref a1), .val (.ref a2), .val (.ref a2)] [])) _
      refine XS.aloadN X3.here hx rfl (hb hby d3_25) rfl rfl ?_
      show Steps p.tables e below (T3.setTop (mkF m 26 #[.val (.ref a1), .val (.ref a2), .val (.ref a2)] [(.ref a1)])) _
      exact k
    obtain ⟨T4, X4, e4, st4⟩ := getF X3 hx hZ hown (host := "") (Or.inl (hw _ (List.mem_of_getElem? (i := 41) rfl))) Via.refl e3 S1.2.1 (g := (mkF m 26 #[.val (.ref a1), .val (.ref a2), .val (.ref a2)] [(.ref a1)])) rfl rfl (hb hby d3_26)
    refine OEnds.go (t' := T4.setTop (mkF m 29 #[.val (.ref a1), .val (.ref a2), .val (.ref a2)] [(.int (0 : Int32))])) (fun _ k => st4 _ k) ?_
    refine OEnds.go (t' := T4.setTop (mkF m 30 #[.val (.ref a1), .val (.ref a2), .val (.ref a2)] [(.ref a2), (.int (0 : Int32))])) (fun _ k => ?_) ?_
    · show Steps p.tables e below (T4.setTop (mkF m 29 #[.val (.ref a1), .val (.ref a2), .val (.ref a2)] [(.int (0 : Int32))])) _
      refine XS.aloadN X4.here hx rfl (hb hby d3_29) rfl rfl ?_
      show Steps p.tables e below (T4.setTop (mkF m 30 #[.val (.ref a1), .val (.ref a2), .val (.ref a2)] [(.ref a2), (.int (0 : Int32))])) _
      exact k
    obtain ⟨T5, X5, e5, st5⟩ := getF X4 hx hZ hown (host := "") (Or.inl (hw _ (List.mem_of_getElem? (i := 41) rfl))) Via.refl e4 S2.2.1 (g := (mkF m 30 #[.val (.ref a1), .val (.ref a2), .val (.ref a2)] [(.ref a2), (.int (0 : Int32))])) rfl rfl (hb hby d3_30)
    refine OEnds.go (t' := T5.setTop (mkF m 33 #[.val (.ref a1), .val (.ref a2), .val (.ref a2)] [(.int (0 : Int32)), (.int (0 : Int32))])) (fun _ k => st5 _ k) ?_
    refine OEnds.go (t' := T5.setTop (mkF m 36 #[.val (.ref a1), .val (.ref a2), .val (.ref a2)] [])) (fun _ k => XS.icmpNo X5.here hx rfl (hb hby d3_33) rfl (teq rfl).2 k) ?_
    refine OEnds.go (t' := T5.setTop (mkF m 37 #[.val (.ref a1), .val (.ref a2), .val (.ref a2)] [(.ref a1)])) (fun _ k => ?_) ?_
    · show Steps p.tables e below (T5.setTop (mkF m 36 #[.val (.ref a1), .val (.ref a2), .val (.ref a2)] [])) _
      refine XS.aloadN X5.here hx rfl (hb hby d3_36) rfl rfl ?_
      show Steps p.tables e below (T5.setTop (mkF m 37 #[.val (.ref a1), .val (.ref a2), .val (.ref a2)] [(.ref a1)])) _
      exact k
    obtain ⟨T6, X6, e6, st6⟩ := getF X5 hx hZ hown (host := "") (Or.inl (hw _ (List.mem_of_getElem? (i := 42) rfl))) Via.refl e5 S1.2.2.1 (g := (mkF m 37 #[.val (.ref a1), .val (.ref a2), .val (.ref a2)] [(.ref a1)])) rfl rfl (hb hby d3_37)
    refine OEnds.go (t' := T6.setTop (mkF m 40 #[.val (.ref a1), .val (.ref a2), .val (.ref a2)] [(.ref b1)])) (fun _ k => st6 _ k) ?_
    refine OEnds.go (t' := T6.setTop (mkF m 41 #[.val (.ref a1), .val (.ref a2), .val (.ref a2)] [(.ref a2), (.ref b1)])) (fun _ k => ?_) ?_
    · show Steps p.tables e below (T6.setTop (mkF m 40 #[.val (.ref a1), .val (.ref a2), .val (.ref a2)] [(.ref b1)])) _
      refine XS.aloadN X6.here hx rfl (hb hby d3_40) rfl rfl ?_
      show Steps p.tables e below (T6.setTop (mkF m 41 #[.val (.ref a1), .val (.ref a2), .val (.ref a2)] [(.ref a2), (.ref b1)])) _
      exact k
    obtain ⟨T7, X7, e7, st7⟩ := getF X6 hx hZ hown (host := "") (Or.inl (hw _ (List.mem_of_getElem? (i := 42) rfl))) Via.refl e6 S2.2.2.1 (g := (mkF m 41 #[.val (.ref a1), .val (.ref a2), .val (.ref a2)] [(.ref a2), (.ref b1)])) rfl rfl (hb hby d3_41)
    refine OEnds.go (t' := T7.setTop (mkF m 44 #[.val (.ref a1), .val (.ref a2), .val (.ref a2)] [(.ref b2), (.ref b1)])) (fun _ k => st7 _ k) ?_
    obtain ⟨_, _, ⟨T8, L8, k8, n8⟩, -, X8, ⟨Lc8, hQ8, l8, y8, z8⟩, st8⟩ := Jvm.LawKit.callS X7 hx (y := (⟨"java/lang/StringLatin1", "equals", "([B[B)Z"⟩ : MethodName)) hown (mvT hZ (hw _ (List.mem_of_getElem? (i := 43) rfl))) (mvT hZ (hw _ (List.mem_of_getElem? (i := 44) rfl))) (mvT hZ (hw _ (List.mem_of_getElem? (i := 45) rfl))) (mvT hZ (hw _ (List.mem_of_getElem? (i := 46) rfl))) (by decide) (backOf (W := 0) (rm4 l Z a0 hw [] b1 b2 k1 k2 xs ys h0 n0 Z0 S1.2.2.2 S2.2.2.2) hZ (hw _ (List.mem_of_getElem? (i := 46) rfl)) (hw _ (List.mem_of_getElem? (i := 45) rfl)) (by decide) (by decide)) (g := (mkF m 44 #[.val (.ref a1), .val (.ref a2), .val (.ref a2)] [(.ref b2), (.ref b1)])) rfl (by rw [hml]; rfl) (argsL := [(.ref b1), (.ref b2)]) (rest := []) (lenOf pd_rm3_0 rfl) rfl (by show 2 * 0 + _ ≤ _; exact Nat.le_of_eq rfl) (hb hby d3_44) (fun _ _ => ⟨rfl, e7, (by decide : 0 + 0 ≤ _), (by decide : 0 + 0 ≤ _)⟩)
    dsimp only [Pt.U, Pt.locs, Pt.cells, Pt.slots] at X8 l8 y8 z8 st8 hQ8
    subst l8 y8 z8
    obtain ⟨rfl, N8q, eh⟩ := hQ8
    have N8 := Fr.app N0 N8q
    have eh8 := eh
    refine OEnds.go (t' := T8.setTop (mkF m 47 #[.val (.ref a1), .val (.ref a2), .val (.ref a2)] [(.int (own_eqL xs ys))])) (fun _ k => st8 _ k) ?_
    by_cases h47 : (own_eqL xs ys) = (0 : Int32)
    · refine OEnds.go (t' := T8.setTop (mkF m 54 #[.val (.ref a1), .val (.ref a2), .val (.ref a2)] [])) (fun _ k => XS.ifYes X8.here hx rfl (pc0 := 47) (pc' := 54) rfl (hb hby d3_47) rfl ((if0 _ _).trans (teq h47).1) (by decide) (by decide) k) ?_
      refine OEnds.go (t' := T8.setTop (mkF m 55 #[.val (.ref a1), .val (.ref a2), .val (.ref a2)] [(.int (0 : Int32))])) (fun _ k => ?_) ?_
      · show Steps p.tables e below (T8.setTop (mkF m 54 #[.val (.ref a1), .val (.ref a2), .val (.ref a2)] [])) _
        refine XS.iconst X8.here hx rfl (hb hby d3_54) ?_
        show Steps p.tables e below (T8.setTop (mkF m 55 #[.val (.ref a1), .val (.ref a2), .val (.ref a2)] [(.int (0 : Int32))])) _
        exact k
      refine OEnds.back X8 hlk (v := (some (.int (0 : Int32)))) (fun h => by rw [hrt] at h; cases h) (fun fs hr => ?_) ?_ (by decide) (by decide)
      · exact retN X8 hx (t := .boolean) hrt (by simp) (hb hby d3_55) hr
      · show Q3 Z a1 a2 w1 b1 b2 k1 k2 xs ys h0 n0 _ T8.heap _
        rw [eh8]
        exact ⟨by rw [h47], N8, rfl⟩
    · refine OEnds.go (t' := T8.setTop (mkF m 50 #[.val (.ref a1), .val (.ref a2), .val (.ref a2)] [])) (fun _ k => XS.ifNo X8.here hx rfl (hb hby d3_47) rfl ((if0 _ _).trans (feq h47).1) k) ?_
      refine OEnds.go (t' := T8.setTop (mkF m 55 #[.val (.ref a1), .val (.ref a2), .val (.ref a2)] [(.int (1 : Int32))])) (fun _ k => ?_) ?_
      · show Steps p.tables e below (T8.setTop (mkF m 50 #[.val (.ref a1), .val (.ref a2), .val (.ref a2)] [])) _
        refine XS.iconst X8.here hx rfl (hb hby d3_50) ?_
        show Steps p.tables e below (T8.setTop (mkF m 51 #[.val (.ref a1), .val (.ref a2), .val (.ref a2)] [(.int (1 : Int32))])) _
        refine XS.goto X8.here hx rfl (pc0 := 51) (pc' := 55) rfl (hb hby d3_51) (by decide) (by decide) ?_
        show Steps p.tables e below (T8.setTop (mkF m 55 #[.val (.ref a1), .val (.ref a2), .val (.ref a2)] [(.int (1 : Int32))])) _
        exact k
      refine OEnds.back X8 hlk (v := (some (.int (1 : Int32)))) (fun h => by rw [hrt] at h; cases h) (fun fs hr => ?_) ?_ (by decide) (by decide)
      · exact retN X8 hx (t := .boolean) hrt (by simp) (hb hby d3_55) hr
      · show Q3 Z a1 a2 w1 b1 b2 k1 k2 xs ys h0 n0 _ T8.heap _
        rw [eh8]
        exact ⟨by rw [own_eqL1 h47], N8, rfl⟩
theorem d1_0 : decode prog_36_method_6_code 0 = .ok (.aload_n 0, 1) := by decide +kernel
theorem d1_1 : decode prog_36_method_6_code 1 = .ok (.getstatic 3, 3) := by decide +kernel
theorem d1_4 : decode prog_36_method_6_code 4 = .ok (.if_acmp .ne 7, 3) := by decide +kernel
theorem d1_7 : decode prog_36_method_6_code 7 = .ok (.iconst 1, 1) := by decide +kernel
theorem d1_8 : decode prog_36_method_6_code 8 = .ok (.goto 4, 3) := by decide +kernel
theorem d1_11 : decode prog_36_method_6_code 11 = .ok (.iconst 0, 1) := by decide +kernel
theorem d1_12 : decode prog_36_method_6_code 12 = .ok (.ireturn, 1) := by decide +kernel
theorem pn_1 : plainName "com/example/pnorm/pnorm/model/Weighting" = true := by first | (simp [plainName, overriddenIn]; done) | decide +kernel
theorem ef_rm1 (m : MethodId) (a1 : Addr) : entryFrame m #[(.ref a1)] 1 = mkF m 0 #[.val (.ref a1)] [] := by first | (simp [entryFrame, mkF, argsToLocals, Value.category]; done) | rfl
def Q1 (Z : State) (a1 : Addr) (x0 : Addr) (h0 : Heap) (n0 : Nat) (v : Option Value) (h : Heap) (L : List Loc) : Prop := v = some (.int (own_is a1 x0)) ∧ Fr n0 L ∧ h = h0
set_option maxRecDepth 65536 in
set_option maxHeartbeats 40000000 in
theorem rm1 (l : Launch) (Z : State) (a0 : Array Value) (hw : ∀ d ∈ tables_1, d.before a0 Z = true) (ws : List Jvm.Cond) (a1 : Addr) (x0 : Addr) (h0 : Heap) (n0 : Nat) (Z0 : n0 ≤ h0.size) (S_EB : Sta Z h0 "com/example/pnorm/pnorm/model/Weighting" "EB" "Lcom/example/pnorm/pnorm/model/Weighting;" (.ref x0)) :
    MetFree l (⟨"com/example/pnorm/pnorm/model/Weighting", "isBinary", "()Z"⟩ : MethodName) (head1 (Jvm.Cond.code (⟨"com/example/pnorm/pnorm/model/Weighting", "isBinary", "()Z"⟩ : MethodName) prog_36_method_6_code 1 (some .boolean) :: ws) ({ frames := 0, cells := 0, slots := 0, locals := 0 } : Room)) (fun a U => a = #[(.ref a1)] ∧ Z.Warmed39 U.vm ∧ U.heap = h0) (fun _ _ _ _ _ => True) (fun _ U o U' => ∃ v L, o = .returned v ∧ Q1 Z a1 x0 h0 n0 v U'.heap L ∧ FrameEnd U o U' L ({ frames := 0, cells := 0, slots := 0, locals := 0 } : Room).cells ({ frames := 0, cells := 0, slots := 0, locals := 0 } : Room).slots) := by
  refine MetFree.of_bodySF (plainFor_of_name pn_1) hisR ?_
  intro p e s m args below meth c s₁ Bd hml0 hP hK
  obtain ⟨rfl, hZ, hh⟩ := hP
  have hx := Bd.exec
  have hby := Bd.bytes
  have hml : c.maxLocals = 1 := hml0
  have hown : s.vm.findClass "com/example/pnorm/pnorm/model/Weighting" = some m.cls := findClass_of_methodNamed Bd.named
  have hnm := (name_of_methodNamed Bd.named Bd.method).1
  have hlk := BodyLoose.notSynchronized Bd
  have hrt := Bd.returns
  have X0 : Stand p l e ({ frames := 0, cells := 0, slots := 0, locals := 0 } : Room) s m #[(.ref a1)] below meth c s₁ [] 0 0 := Stand.of_body Bd
  have e0 : s₁.heap = h0 := by rw [← hh, Bd.state]; rfl
  have N0 := Fr.nil n0
  show OEnds p e below s (Q1 Z a1 x0 h0 n0) ({ frames := 0, cells := 0, slots := 0, locals := 0 } : Room).cells ({ frames := 0, cells := 0, slots := 0, locals := 0 } : Room).slots (s₁.setTop (entryFrame m #[(.ref a1)] 1))
  refine OEnds.go (t' := s₁.setTop (mkF m 0 #[.val (.ref a1)] [])) (fun t k => castTop (ef_rm1 m a1) k) ?_
  refine OEnds.go (t' := s₁.setTop (mkF m 1 #[.val (.ref a1)] [(.ref a1)])) (fun _ k => ?_) ?_
  · show Steps p.tables e below (s₁.setTop (mkF m 0 #[.val (.ref a1)] [])) _
    refine XS.aloadN X0.here hx rfl (hb hby d1_0) rfl rfl ?_
    show Steps p.tables e below (s₁.setTop (mkF m 1 #[.val (.ref a1)] [(.ref a1)])) _
    exact k
  obtain ⟨T1, X1, e1, st1⟩ := getS2 X0 hx hZ hown (host := "") (Or.inl (hw _ (List.mem_of_getElem? (i := 17) rfl))) Via.refl e0 S_EB (g := (mkF m 1 #[.val (.ref a1)] [(.ref a1)])) rfl (hb hby d1_1)
  refine OEnds.go (t' := T1.setTop (mkF m 4 #[.val (.ref a1)] [(.ref x0), (.ref a1)])) (fun _ k => st1 _ k) ?_
  by_cases h4 : a1 = x0
  · refine OEnds.go (t' := T1.setTop (mkF m 7 #[.val (.ref a1)] [])) (fun _ k => Jvm.RoadKit.acmp (g := (mkF m 4 #[.val (.ref a1)] [(.ref x0), (.ref a1)])) X1 hx rfl rfl rfl (pc0 := 4) (pc' := 7) (same := true) rfl (hb hby d1_4) rfl (decide_eq_true (congrArg Value.ref h4)) (by decide) (by decide) k) ?_
    refine OEnds.go (t' := T1.setTop (mkF m 12 #[.val (.ref a1)] [(.int (1 : Int32))])) (fun _ k => ?_) ?_
    · show Steps p.tables e below (T1.setTop (mkF m 7 #[.val (.ref a1)] [])) _
      refine XS.iconst X1.here hx rfl (hb hby d1_7) ?_
      show Steps p.tables e below (T1.setTop (mkF m 8 #[.val (.ref a1)] [(.int (1 : Int32))])) _
      refine XS.goto X1.here hx rfl (pc0 := 8) (pc' := 12) rfl (hb hby d1_8) (by decide) (by decide) ?_
      show Steps p.tables e below (T1.setTop (mkF m 12 #[.val (.ref a1)] [(.int (1 : Int32))])) _
      exact k
    refine OEnds.back X1 hlk (v := (some (.int (1 : Int32)))) (fun h => by rw [hrt] at h; cases h) (fun fs hr => ?_) ?_ (by decide) (by decide)
    · exact retN X1 hx (t := .boolean) hrt (by simp) (hb hby d1_12) hr
    · show Q1 Z a1 x0 h0 n0 _ T1.heap _
      rw [e1]
      exact ⟨by rw [own_is, if_pos h4], N0, rfl⟩
  · refine OEnds.go (t' := T1.setTop (mkF m 11 #[.val (.ref a1)] [])) (fun _ k => Jvm.RoadKit.acmp (g := (mkF m 4 #[.val (.ref a1)] [(.ref x0), (.ref a1)])) X1 hx rfl rfl rfl (pc0 := 4) (pc' := 11) (same := false) rfl (hb hby d1_4) rfl (decide_eq_false fun q => h4 (Value.ref.inj q)) (by decide) (by decide) k) ?_
    refine OEnds.go (t' := T1.setTop (mkF m 12 #[.val (.ref a1)] [(.int (0 : Int32))])) (fun _ k => ?_) ?_
    · show Steps p.tables e below (T1.setTop (mkF m 11 #[.val (.ref a1)] [])) _
      refine XS.iconst X1.here hx rfl (hb hby d1_11) ?_
      show Steps p.tables e below (T1.setTop (mkF m 12 #[.val (.ref a1)] [(.int (0 : Int32))])) _
      exact k
    refine OEnds.back X1 hlk (v := (some (.int (0 : Int32)))) (fun h => by rw [hrt] at h; cases h) (fun fs hr => ?_) ?_ (by decide) (by decide)
    · exact retN X1 hx (t := .boolean) hrt (by simp) (hb hby d1_12) hr
    · show Q1 Z a1 x0 h0 n0 _ T1.heap _
      rw [e1]
      exact ⟨by rw [own_is, if_neg h4], N0, rfl⟩
theorem d2_0 : decode prog_36_method_4_code 0 = .ok (.aload_n 0, 1) := by decide +kernel
theorem d2_1 : decode prog_36_method_4_code 1 = .ok (.getfield 35, 3) := by decide +kernel
theorem d2_4 : decode prog_36_method_4_code 4 = .ok (.areturn, 1) := by decide +kernel
theorem pn_2 : plainName "com/example/pnorm/pnorm/model/Weighting" = true := by first | (simp [plainName, overriddenIn]; done) | decide +kernel
theorem ef_rm2 (m : MethodId) (a1 : Addr) : entryFrame m #[(.ref a1)] 1 = mkF m 0 #[.val (.ref a1)] [] := by first | (simp [entryFrame, mkF, argsToLocals, Value.category]; done) | rfl
def Q2 (Z : State) (a1 : Addr) (a2 : Addr) (h0 : Heap) (n0 : Nat) (v : Option Value) (h : Heap) (L : List Loc) : Prop := v = some (.ref a2) ∧ Fr n0 L ∧ h = h0
set_option maxRecDepth 65536 in
set_option maxHeartbeats 40000000 in
theorem rm2 (l : Launch) (Z : State) (a0 : Array Value) (hw : ∀ d ∈ tables_1, d.before a0 Z = true) (ws : List Jvm.Cond) (a1 : Addr) (a2 : Addr) (h0 : Heap) (n0 : Nat) (Z0 : n0 ≤ h0.size) (F1 : Fld Z h0 a1 "com/example/pnorm/pnorm/model/Weighting" "name" "Ljava/lang/String;" (.ref a2)) :
    MetFree l (⟨"com/example/pnorm/pnorm/model/Weighting", "getName", "()Ljava/lang/String;"⟩ : MethodName) (head1 (Jvm.Cond.code (⟨"com/example/pnorm/pnorm/model/Weighting", "getName", "()Ljava/lang/String;"⟩ : MethodName) prog_36_method_4_code 1 (some (.object "java/lang/String")) :: ws) ({ frames := 0, cells := 0, slots := 0, locals := 0 } : Room)) (fun a U => a = #[(.ref a1)] ∧ Z.Warmed39 U.vm ∧ U.heap = h0) (fun _ _ _ _ _ => True) (fun _ U o U' => ∃ v L, o = .returned v ∧ Q2 Z a1 a2 h0 n0 v U'.heap L ∧ FrameEnd U o U' L ({ frames := 0, cells := 0, slots := 0, locals := 0 } : Room).cells ({ frames := 0, cells := 0, slots := 0, locals := 0 } : Room).slots) := by
  refine MetFree.of_bodySF (plainFor_of_name pn_2) hisR ?_
  intro p e s m args below meth c s₁ Bd hml0 hP hK
  obtain ⟨rfl, hZ, hh⟩ := hP
  have hx := Bd.exec
  have hby := Bd.bytes
  have hml : c.maxLocals = 1 := hml0
  have hown : s.vm.findClass "com/example/pnorm/pnorm/model/Weighting" = some m.cls := findClass_of_methodNamed Bd.named
  have hnm := (name_of_methodNamed Bd.named Bd.method).1
  have hlk := BodyLoose.notSynchronized Bd
  have hrt := Bd.returns
  have X0 : Stand p l e ({ frames := 0, cells := 0, slots := 0, locals := 0 } : Room) s m #[(.ref a1)] below meth c s₁ [] 0 0 := Stand.of_body Bd
  have e0 : s₁.heap = h0 := by rw [← hh, Bd.state]; rfl
  have N0 := Fr.nil n0
  show OEnds p e below s (Q2 Z a1 a2 h0 n0) ({ frames := 0, cells := 0, slots := 0, locals := 0 } : Room).cells ({ frames := 0, cells := 0, slots := 0, locals := 0 } : Room).slots (s₁.setTop (entryFrame m #[(.ref a1)] 1))
  refine OEnds.go (t' := s₁.setTop (mkF m 0 #[.val (.ref a1)] [])) (fun t k => castTop (ef_rm2 m a1) k) ?_
  refine OEnds.go (t' := s₁.setTop (mkF m 1 #[.val (.ref a1)] [(.ref a1)])) (fun _ k => ?_) ?_
  · show Steps p.tables e below (s₁.setTop (mkF m 0 #[.val (.ref a1)] [])) _
    refine XS.aloadN X0.here hx rfl (hb hby d2_0) rfl rfl ?_
    show Steps p.tables e below (s₁.setTop (mkF m 1 #[.val (.ref a1)] [(.ref a1)])) _
    exact k
  obtain ⟨T1, X1, e1, st1⟩ := getF X0 hx hZ hown (host := "") (Or.inl (hw _ (List.mem_of_getElem? (i := 23) rfl))) Via.refl e0 F1 (g := (mkF m 1 #[.val (.ref a1)] [(.ref a1)])) rfl rfl (hb hby d2_1)
  refine OEnds.go (t' := T1.setTop (mkF m 4 #[.val (.ref a1)] [(.ref a2)])) (fun _ k => st1 _ k) ?_
  refine OEnds.back X1 hlk (v := (some (.ref a2))) (fun h => by rw [hrt] at h; cases h) (fun fs hr => ?_) ?_ (by decide) (by decide)
  · exact retA X1 hx hrt rfl rfl rfl (hb hby d2_4) hr
  · show Q2 Z a1 a2 h0 n0 _ T1.heap _
    rw [e1]
    exact ⟨rfl, N0, rfl⟩
theorem pn_0 : plainName "com/example/pnorm/pnorm/model/WeightingIsBinaryPinLaw" = true := by first | (simp [plainName, overriddenIn]; done) | decide +kernel
theorem pd_rm0_0 : parseMethodDescriptor "()Z" = some ⟨[], some .boolean⟩ := by decide +kernel
theorem pd_rm0_1 : parseMethodDescriptor "()Ljava/lang/String;" = some ⟨[], some (.object "java/lang/String")⟩ := by decide +kernel
theorem pd_rm0_2 : parseMethodDescriptor "(Ljava/lang/Object;)Z" = some ⟨[(.object "java/lang/Object")], some .boolean⟩ := by decide +kernel
theorem ef_rm0 (m : MethodId) (p1 : Int32) : entryFrame m #[(.int p1)] maxLocals = mkF m 0 #[.val (.int p1), .unset, .unset, .unset, .unset, .unset, .unset] [] := by first | (simp [entryFrame, mkF, argsToLocals, Value.category, maxLocals]; done) | rfl
def Q0 (Z : State) (p1 : Int32) (x0 : Addr) (x1 : Addr) (x2 : Addr) (x3 : Addr) (s_EB : Addr) (b_EB : Addr) (k_EB : ClassId) (s_TFC_TFC : Addr) (b_TFC_TFC : Addr) (k_TFC_TFC : ClassId) (s_LXC_LTC : Addr) (b_LXC_LTC : Addr) (k_LXC_LTC : ClassId) (s_LNU_LTU : Addr) (b_LNU_LTU : Addr) (k_LNU_LTU : ClassId) (w1 : Int32) (h0 : Heap) (n0 : Nat) (v : Option Value) (h : Heap) (vm : Vm) (L : List Loc) : Prop := v = some (.int 1) ∧ Fr n0 L
set_option maxRecDepth 65536 in
set_option maxHeartbeats 40000000 in
theorem rm0 (l : Launch) (Z : State) (a0 : Array Value) (hw : ∀ d ∈ tables_1, d.before a0 Z = true) (ws : List Jvm.Cond) (p1 : Int32) (x0 : Addr) (x1 : Addr) (x2 : Addr) (x3 : Addr) (s_EB : Addr) (b_EB : Addr) (k_EB : ClassId) (s_TFC_TFC : Addr) (b_TFC_TFC : Addr) (k_TFC_TFC : ClassId) (s_LXC_LTC : Addr) (b_LXC_LTC : Addr) (k_LXC_LTC : ClassId) (s_LNU_LTU : Addr) (b_LNU_LTU : Addr) (k_LNU_LTU : ClassId) (w1 : Int32) (h0 : Heap) (n0 : Nat) (Z0 : n0 ≤ h0.size) (S_EB : Sta Z Z.heap "com/example/pnorm/pnorm/model/Weighting" "EB" "Lcom/example/pnorm/pnorm/model/Weighting;" (.ref x0)) (S_TFC_TFC : Sta Z Z.heap "com/example/pnorm/pnorm/model/Weighting" "TFC_TFC" "Lcom/example/pnorm/pnorm/model/Weighting;" (.ref x1)) (S_LXC_LTC : Sta Z Z.heap "com/example/pnorm/pnorm/model/Weighting" "LXC_LTC" "Lcom/example/pnorm/pnorm/model/Weighting;" (.ref x2)) (S_LNU_LTU : Sta Z Z.heap "com/example/pnorm/pnorm/model/Weighting" "LNU_LTU" "Lcom/example/pnorm/pnorm/model/Weighting;" (.ref x3)) (E_EB : Exa Z Z.heap x0 "com/example/pnorm/pnorm/model/Weighting") (E_TFC_TFC : Exa Z Z.heap x1 "com/example/pnorm/pnorm/model/Weighting") (E_LXC_LTC : Exa Z Z.heap x2 "com/example/pnorm/pnorm/model/Weighting") (E_LNU_LTU : Exa Z Z.heap x3 "com/example/pnorm/pnorm/model/Weighting") (Ft_EB : Fld Z Z.heap x0 "com/example/pnorm/pnorm/model/Weighting" "name" "Ljava/lang/String;" (.ref s_EB)) (SS_EB : own_S Z Z.heap s_EB b_EB k_EB [101, 98]) (Ft_TFC_TFC : Fld Z Z.heap x1 "com/example/pnorm/pnorm/model/Weighting" "name" "Ljava/lang/String;" (.ref s_TFC_TFC)) (SS_TFC_TFC : own_S Z Z.heap s_TFC_TFC b_TFC_TFC k_TFC_TFC [116, 102, 99, 46, 116, 102, 99]) (Ft_LXC_LTC : Fld Z Z.heap x2 "com/example/pnorm/pnorm/model/Weighting" "name" "Ljava/lang/String;" (.ref s_LXC_LTC)) (SS_LXC_LTC : own_S Z Z.heap s_LXC_LTC b_LXC_LTC k_LXC_LTC [108, 120, 99, 46, 108, 116, 99]) (Ft_LNU_LTU : Fld Z Z.heap x3 "com/example/pnorm/pnorm/model/Weighting" "name" "Ljava/lang/String;" (.ref s_LNU_LTU)) (SS_LNU_LTU : own_S Z Z.heap s_LNU_LTU b_LNU_LTU k_LNU_LTU [76, 110, 117, 46, 108, 116, 117]) (hzo : Old Z n0 h0) (hn0 : n0 = h0.size) (S_C : Sta Z Z.heap "java/lang/String" "COMPACT_STRINGS" "Z" (.int w1)) (c0 : ¬ w1 = 0) (hcw : Jvm.Lit.compactW.before a0 Z = true) (hH : Jvm.Lit.constHeld Z "com/example/pnorm/pnorm/model/WeightingIsBinaryPinLaw" 30) (d1 : x1 ≠ x0) (d2 : x2 ≠ x0) (d3 : x3 ≠ x0) :
    MetFree l x (head1 (Jvm.Cond.code x code maxLocals ret :: ws) room_1) (fun a U => a = #[(.int p1)] ∧ Z.Warmed39 U.vm ∧ U.heap = h0 ∧ IB Z U.vm []) (fun _ _ _ _ _ => True) (fun _ U o U' => ∃ v L, o = .returned v ∧ Q0 Z p1 x0 x1 x2 x3 s_EB b_EB k_EB s_TFC_TFC b_TFC_TFC k_TFC_TFC s_LXC_LTC b_LXC_LTC k_LXC_LTC s_LNU_LTU b_LNU_LTU k_LNU_LTU w1 h0 n0 v U'.heap U'.vm L ∧ ReturnedEndW U o U' L room_1.cells room_1.slots) := by
  refine MetFree.of_bodySF (plainFor_of_name pn_0) hisR ?_
  intro p e s m args below meth c s₁ Bd hml0 hP hK
  obtain ⟨rfl, hZ, hh, hpv⟩ := hP
  have hx := Bd.exec
  have hby := Bd.bytes
  have hml : c.maxLocals = 7 := hml0
  have hown : s.vm.findClass "com/example/pnorm/pnorm/model/WeightingIsBinaryPinLaw" = some m.cls := findClass_of_methodNamed Bd.named
  have hnm := (name_of_methodNamed Bd.named Bd.method).1
  have hlk := BodyLoose.notSynchronized Bd
  have hrt := Bd.returns
  have X0 : Stand p l e room_1 s m #[(.int p1)] below meth c s₁ [] 0 0 := Stand.of_body Bd
  have e0 : s₁.heap = h0 := by rw [← hh, Bd.state]; rfl
  have N0 := Fr.nil n0
  have hS0 : s.Since s.vm 0 := (State.WarmedH.refl s).since 0
  have IB0 := hpv
  have hkp : ∀ (b : Addr) (cl : Cell), Z.heap[b]? = some cl → s.heap[b]? = some cl := fun b cl q => by rw [hh]; exact hzo.2.2 b cl q
  show OEndsW p e below s (Q0 Z p1 x0 x1 x2 x3 s_EB b_EB k_EB s_TFC_TFC b_TFC_TFC k_TFC_TFC s_LXC_LTC b_LXC_LTC k_LXC_LTC s_LNU_LTU b_LNU_LTU k_LNU_LTU w1 h0 n0) room_1.cells room_1.slots (s₁.setTop (entryFrame m #[(.int p1)] maxLocals))
  refine OEndsW.go (t' := s₁.setTop (mkF m 0 #[.val (.int p1), .unset, .unset, .unset, .unset, .unset, .unset] [])) (fun t k => castTop (ef_rm0 m p1) k) ?_
  have hzt := hzo
  refine OEndsW.go (t' := s₁.setTop (mkF m 1 #[.val (.int p1), .unset, .unset, .unset, .unset, .unset, .unset] [(.int (4 : Int32))])) (fun _ k => ?_) ?_
  · show Steps p.tables e below (s₁.setTop (mkF m 0 #[.val (.int p1), .unset, .unset, .unset, .unset, .unset, .unset] [])) _
    refine XS.iconst X0.here hx rfl (hb hby at_0) ?_
    show Steps p.tables e below (s₁.setTop (mkF m 1 #[.val (.int p1), .unset, .unset, .unset, .unset, .unset, .unset] [(.int (4 : Int32))])) _
    exact k
  obtain ⟨T1, h1, k1, X1, e1, E1, A1, O1, st1⟩ := newR X0 hx hZ hown (hw _ (List.mem_of_getElem? (i := 0) rfl)) (hw _ (List.mem_of_getElem? (i := 1) rfl)) e0 (g := (mkF m 1 #[.val (.int p1), .unset, .unset, .unset, .unset, .unset, .unset] [(.int (4 : Int32))])) rfl (hb hby at_1) rfl (by decide) (cap := 4) (by decide) (by decide) (by decide) (by decide)
  obtain ⟨ar, gz1⟩ : ∃ z, z = h0.size := ⟨_, rfl⟩
  rw [← gz1] at A1 st1
  have g_ar : n0 ≤ ar := Nat.le_trans Z0 (Nat.le_of_eq gz1.symm)
  have hzt := hzt.ext E1
  have Z1 : n0 ≤ h1.size := Nat.le_trans Z0 E1.1
  have V_ar : Arv Z h1 ar k1 (.object "com/example/pnorm/pnorm/model/Weighting") (4 : Int32) [.null, .null, .null, .null] .null := (Arv.new A1 (by decide)).pad (pad_rep [] .null 4)
  refine OEndsW.go (t' := T1.setTop (mkF m 4 #[.val (.int p1), .unset, .unset, .unset, .unset, .unset, .unset] [(.ref ar)])) (fun _ k => st1 _ k) ?_
  refine OEndsW.go (t' := T1.setTop (mkF m 7 #[.val (.int p1), .val (.ref ar), .unset, .unset, .unset, .unset, .unset] [(.int (0 : Int32)), (.ref ar)])) (fun _ k => ?_) ?_
  · show Steps p.tables e below (T1.setTop (mkF m 4 #[.val (.int p1), .unset, .unset, .unset, .unset, .unset, .unset] [(.ref ar)])) _
    refine XS.astoreN X1.here hx rfl (hb hby at_4) rfl rfl (l' := #[.val (.int p1), .val (.ref ar), .unset, .unset, .unset, .unset, .unset]) rfl ?_
    show Steps p.tables e below (T1.setTop (mkF m 5 #[.val (.int p1), .val (.ref ar), .unset, .unset, .unset, .unset, .unset] [])) _
    refine XS.aloadN X1.here hx rfl (hb hby at_5) rfl rfl ?_
    show Steps p.tables e below (T1.setTop (mkF m 6 #[.val (.int p1), .val (.ref ar), .unset, .unset, .unset, .unset, .unset] [(.ref ar)])) _
    refine XS.iconst X1.here hx rfl (hb hby at_6) ?_
    show Steps p.tables e below (T1.setTop (mkF m 7 #[.val (.int p1), .val (.ref ar), .unset, .unset, .unset, .unset, .unset] [(.int (0 : Int32)), (.ref ar)])) _
    exact k
  obtain ⟨T2, X2, e2, st2⟩ := getS2 X1 hx hZ hown (host := "") (Or.inl (hw _ (List.mem_of_getElem? (i := 2) rfl))) Via.refl e1 (S_EB.ext hzt.2) (g := (mkF m 7 #[.val (.int p1), .val (.ref ar), .unset, .unset, .unset, .unset, .unset] [(.int (0 : Int32)), (.ref ar)])) rfl (hb hby at_7)
  refine OEndsW.go (t' := T2.setTop (mkF m 10 #[.val (.int p1), .val (.ref ar), .unset, .unset, .unset, .unset, .unset] [(.ref x0), (.int (0 : Int32)), (.ref ar)])) (fun _ k => st2 _ k) ?_
  obtain ⟨cl3, Ar3, cq3, cS3, cN3, cH3, cG3⟩ := V_ar
  have hin3 : ¬ ((0 : Int32) < 0 ∨ cl3.slots.size ≤ ((0 : Int32)).toNatClampNeg) := inb_of cS3 ⟨by decide, by decide⟩
  obtain ⟨T3, h3, X3, e3, W3, st3⟩ := stR X2 hx hZ e2 Ar3 (j := (0 : Int32)) hin3 rfl (Sto.ofV Ar3 cq3 O1 (Ins.self (E_EB.ext hzt.2))) (g := (mkF m 10 #[.val (.int p1), .val (.ref ar), .unset, .unset, .unset, .unset, .unset] [(.ref x0), (.int (0 : Int32)), (.ref ar)])) rfl rfl (hb hby at_10)
  have N3 := Fr.snoc X3 N0 g_ar
  have hzt := hzt.wr W3 g_ar
  have Z3 : n0 ≤ h3.size := Nat.le_trans Z1 (Keep.of_wr W3).1
  have V_ar := Arv.set Ar3 cq3 cS3 cN3 cH3 cG3 rfl W3 0 rfl (Nat.le_of_ble_eq_true rfl)
  refine OEndsW.go (t' := T3.setTop (mkF m 11 #[.val (.int p1), .val (.ref ar), .unset, .unset, .unset, .unset, .unset] [])) (fun _ k => st3 _ k) ?_
  refine OEndsW.go (t' := T3.setTop (mkF m 13 #[.val (.int p1), .val (.ref ar), .unset, .unset, .unset, .unset, .unset] [(.int (1 : Int32)), (.ref ar)])) (fun _ k => ?_) ?_
  · show Steps p.tables e below (T3.setTop (mkF m 11 #[.val (.int p1), .val (.ref ar), .unset, .unset, .unset, .unset, .unset] [])) _
    refine XS.aloadN X3.here hx rfl (hb hby at_11) rfl rfl ?_
    show Steps p.tables e below (T3.setTop (mkF m 12 #[.val (.int p1), .val (.ref ar), .unset, .unset, .unset, .unset, .unset] [(.ref ar)])) _
    refine XS.iconst X3.here hx rfl (hb hby at_12) ?_
    show Steps p.tables e below (T3.setTop (mkF m 13 #[.val (.int p1), .val (.ref ar), .unset, .unset, .unset, .unset, .unset] [(.int (1 : Int32)), (.ref ar)])) _
    exact k
  obtain ⟨T4, X4, e4, st4⟩ := getS2 X3 hx hZ hown (host := "") (Or.inl (hw _ (List.mem_of_getElem? (i := 6) rfl))) Via.refl e3 (S_TFC_TFC.ext hzt.2) (g := (mkF m 13 #[.val (.int p1), .val (.ref ar), .unset, .unset, .unset, .unset, .unset] [(.int (1 : Int32)), (.ref ar)])) rfl (hb hby at_13)
  refine OEndsW.go (t' := T4.setTop (mkF m 16 #[.val (.int p1), .val (.ref ar), .unset, .unset, .unset, .unset, .unset] [(.ref x1), (.int (1 : Int32)), (.ref ar)])) (fun _ k => st4 _ k) ?_
  obtain ⟨cl5, Ar5, cq5, cS5, cN5, cH5, cG5⟩ := V_ar
  have hin5 : ¬ ((1 : Int32) < 0 ∨ cl5.slots.size ≤ ((1 : Int32)).toNatClampNeg) := inb_of cS5 ⟨by decide, by decide⟩
  obtain ⟨T5, h5, X5, e5, W5, st5⟩ := stR X4 hx hZ e4 Ar5 (j := (1 : Int32)) hin5 rfl (Sto.ofV Ar5 cq5 O1 (Ins.self (E_TFC_TFC.ext hzt.2))) (g := (mkF m 16 #[.val (.int p1), .val (.ref ar), .unset, .unset, .unset, .unset, .unset] [(.ref x1), (.int (1 : Int32)), (.ref ar)])) rfl rfl (hb hby at_16)
  have N5 := Fr.snoc X5 N3 g_ar
  have hzt := hzt.wr W5 g_ar
  have Z5 : n0 ≤ h5.size := Nat.le_trans Z3 (Keep.of_wr W5).1
  have V_ar := Arv.set Ar5 cq5 cS5 cN5 cH5 cG5 rfl W5 1 rfl (Nat.le_of_ble_eq_true rfl)
  refine OEndsW.go (t' := T5.setTop (mkF m 17 #[.val (.int p1), .val (.ref ar), .unset, .unset, .unset, .unset, .unset] [])) (fun _ k => st5 _ k) ?_
  refine OEndsW.go (t' := T5.setTop (mkF m 19 #[.val (.int p1), .val (.ref ar), .unset, .unset, .unset, .unset, .unset] [(.int (2 : Int32)), (.ref ar)])) (fun _ k => ?_) ?_
  · show Steps p.tables e below (T5.setTop (mkF m 17 #[.val (.int p1), .val (.ref ar), .unset, .unset, .unset, .unset, .unset] [])) _
    refine XS.aloadN X5.here hx rfl (hb hby at_17) rfl rfl ?_
    show Steps p.tables e below (T5.setTop (mkF m 18 #[.val (.int p1), .val (.ref ar), .unset, .unset, .unset, .unset, .unset] [(.ref ar)])) _
    refine XS.iconst X5.here hx rfl (hb hby at_18) ?_
    show Steps p.tables e below (T5.setTop (mkF m 19 #[.val (.int p1), .val (.ref ar), .unset, .unset, .unset, .unset, .unset] [(.int (2 : Int32)), (.ref ar)])) _
    exact k
  obtain ⟨T6, X6, e6, st6⟩ := getS2 X5 hx hZ hown (host := "") (Or.inl (hw _ (List.mem_of_getElem? (i := 8) rfl))) Via.refl e5 (S_LXC_LTC.ext hzt.2) (g := (mkF m 19 #[.val (.int p1), .val (.ref ar), .unset, .unset, .unset, .unset, .unset] [(.int (2 : Int32)), (.ref ar)])) rfl (hb hby at_19)
  refine OEndsW.go (t' := T6.setTop (mkF m 22 #[.val (.int p1), .val (.ref ar), .unset, .unset, .unset, .unset, .unset] [(.ref x2), (.int (2 : Int32)), (.ref ar)])) (fun _ k => st6 _ k) ?_
  obtain ⟨cl7, Ar7, cq7, cS7, cN7, cH7, cG7⟩ := V_ar
  have hin7 : ¬ ((2 : Int32) < 0 ∨ cl7.slots.size ≤ ((2 : Int32)).toNatClampNeg) := inb_of cS7 ⟨by decide, by decide⟩
  obtain ⟨T7, h7, X7, e7, W7, st7⟩ := stR X6 hx hZ e6 Ar7 (j := (2 : Int32)) hin7 rfl (Sto.ofV Ar7 cq7 O1 (Ins.self (E_LXC_LTC.ext hzt.2))) (g := (mkF m 22 #[.val (.int p1), .val (.ref ar), .unset, .unset, .unset, .unset, .unset] [(.ref x2), (.int (2 : Int32)), (.ref ar)])) rfl rfl (hb hby at_22)
  have N7 := Fr.snoc X7 N5 g_ar
  have hzt := hzt.wr W7 g_ar
  have Z7 : n0 ≤ h7.size := Nat.le_trans Z5 (Keep.of_wr W7).1
  have V_ar := Arv.set Ar7 cq7 cS7 cN7 cH7 cG7 rfl W7 2 rfl (Nat.le_of_ble_eq_true rfl)
  refine OEndsW.go (t' := T7.setTop (mkF m 23 #[.val (.int p1), .val (.ref ar), .unset, .unset, .unset, .unset, .unset] [])) (fun _ k => st7 _ k) ?_
  refine OEndsW.go (t' := T7.setTop (mkF m 25 #[.val (.int p1), .val (.ref ar), .unset, .unset, .unset, .unset, .unset] [(.int (3 : Int32)), (.ref ar)])) (fun _ k => ?_) ?_
  · show Steps p.tables e below (T7.setTop (mkF m 23 #[.val (.int p1), .val (.ref ar), .unset, .unset, .unset, .unset, .unset] [])) _
    refine XS.aloadN X7.here hx rfl (hb hby at_23) rfl rfl ?_
    show Steps p.tables e below (T7.setTop (mkF m 24 #[.val (.int p1), .val (.ref ar), .unset, .unset, .unset, .unset, .unset] [(.ref ar)])) _
    refine XS.iconst X7.here hx rfl (hb hby at_24) ?_
    show Steps p.tables e below (T7.setTop (mkF m 25 #[.val (.int p1), .val (.ref ar), .unset, .unset, .unset, .unset, .unset] [(.int (3 : Int32)), (.ref ar)])) _
    exact k
  obtain ⟨T8, X8, e8, st8⟩ := getS2 X7 hx hZ hown (host := "") (Or.inl (hw _ (List.mem_of_getElem? (i := 10) rfl))) Via.refl e7 (S_LNU_LTU.ext hzt.2) (g := (mkF m 25 #[.val (.int p1), .val (.ref ar), .unset, .unset, .unset, .unset, .unset] [(.int (3 : Int32)), (.ref ar)])) rfl (hb hby at_25)
  refine OEndsW.go (t' := T8.setTop (mkF m 28 #[.val (.int p1), .val (.ref ar), .unset, .unset, .unset, .unset, .unset] [(.ref x3), (.int (3 : Int32)), (.ref ar)])) (fun _ k => st8 _ k) ?_
  obtain ⟨cl9, Ar9, cq9, cS9, cN9, cH9, cG9⟩ := V_ar
  have hin9 : ¬ ((3 : Int32) < 0 ∨ cl9.slots.size ≤ ((3 : Int32)).toNatClampNeg) := inb_of cS9 ⟨by decide, by decide⟩
  obtain ⟨T9, h9, X9, e9, W9, st9⟩ := stR X8 hx hZ e8 Ar9 (j := (3 : Int32)) hin9 rfl (Sto.ofV Ar9 cq9 O1 (Ins.self (E_LNU_LTU.ext hzt.2))) (g := (mkF m 28 #[.val (.int p1), .val (.ref ar), .unset, .unset, .unset, .unset, .unset] [(.ref x3), (.int (3 : Int32)), (.ref ar)])) rfl rfl (hb hby at_28)
  have N9 := Fr.snoc X9 N7 g_ar
  have hzt := hzt.wr W9 g_ar
  have Z9 : n0 ≤ h9.size := Nat.le_trans Z7 (Keep.of_wr W9).1
  have V_ar := Arv.set Ar9 cq9 cS9 cN9 cH9 cG9 rfl W9 3 rfl (Nat.le_of_ble_eq_true rfl)
  refine OEndsW.go (t' := T9.setTop (mkF m 29 #[.val (.int p1), .val (.ref ar), .unset, .unset, .unset, .unset, .unset] [])) (fun _ k => st9 _ k) ?_
  refine OEndsW.go (t' := T9.setTop (mkF m 33 #[.val (.int p1), .val (.ref ar), .val (.int (p1 &&& (3 : Int32))), .unset, .unset, .unset, .unset] [])) (fun _ k => ?_) ?_
  · show Steps p.tables e below (T9.setTop (mkF m 29 #[.val (.int p1), .val (.ref ar), .unset, .unset, .unset, .unset, .unset] [])) _
    refine XS.iloadN X9.here hx rfl (hb hby at_29) rfl ?_
    show Steps p.tables e below (T9.setTop (mkF m 30 #[.val (.int p1), .val (.ref ar), .unset, .unset, .unset, .unset, .unset] [(.int p1)])) _
    refine XS.iconst X9.here hx rfl (hb hby at_30) ?_
    show Steps p.tables e below (T9.setTop (mkF m 31 #[.val (.int p1), .val (.ref ar), .unset, .unset, .unset, .unset, .unset] [(.int (3 : Int32)), (.int p1)])) _
    refine XS.iand X9.here hx rfl (hb hby at_31) rfl ?_
    show Steps p.tables e below (T9.setTop (mkF m 32 #[.val (.int p1), .val (.ref ar), .unset, .unset, .unset, .unset, .unset] [(.int (p1 &&& (3 : Int32)))])) _
    refine XS.istoreN X9.here hx rfl (hb hby at_32) rfl (l' := #[.val (.int p1), .val (.ref ar), .val (.int (p1 &&& (3 : Int32))), .unset, .unset, .unset, .unset]) rfl ?_
    show Steps p.tables e below (T9.setTop (mkF m 33 #[.val (.int p1), .val (.ref ar), .val (.int (p1 &&& (3 : Int32))), .unset, .unset, .unset, .unset] [])) _
    exact k
  have hfour := own_four p1
  generalize hi : (p1 &&& (3 : Int32)) = i
  rw [hi] at hfour
  refine OEndsW.go (t' := T9.setTop (mkF m 35 #[.val (.int p1), .val (.ref ar), .val (.int i), .unset, .unset, .unset, .unset] [(.int i), (.ref ar)])) (fun _ k => ?_) ?_
  · show Steps p.tables e below (T9.setTop (mkF m 33 #[.val (.int p1), .val (.ref ar), .val (.int i), .unset, .unset, .unset, .unset] [])) _
    refine XS.aloadN X9.here hx rfl (hb hby at_33) rfl rfl ?_
    show Steps p.tables e below (T9.setTop (mkF m 34 #[.val (.int p1), .val (.ref ar), .val (.int i), .unset, .unset, .unset, .unset] [(.ref ar)])) _
    refine XS.iloadN X9.here hx rfl (hb hby at_34) rfl ?_
    show Steps p.tables e below (T9.setTop (mkF m 35 #[.val (.int p1), .val (.ref ar), .val (.int i), .unset, .unset, .unset, .unset] [(.int i), (.ref ar)])) _
    exact k
  refine OEndsW.cut (fun En => ∀ (q : Addr) (sa : Addr) (sb : Addr) (sk : ClassId) (xs : List Int32), Exa Z Z.heap q "com/example/pnorm/pnorm/model/Weighting" → Fld Z Z.heap q "com/example/pnorm/pnorm/model/Weighting" "name" "Ljava/lang/String;" (.ref sa) → own_S Z Z.heap sa sb sk xs → own_is q x0 = own_is0 i → own_eqL xs [101, 98] = own_is q x0 → En (T9.setTop (mkF m 36 #[.val (.int p1), .val (.ref ar), .val (.int i), .unset, .unset, .unset, .unset] [(.ref q)]))) ?_ (fun K36 => ?_)
  · intro q sa sb sk xs hE hF hSS hx1 hx2
    refine OEndsW.go (t' := T9.setTop (mkF m 38 #[.val (.int p1), .val (.ref ar), .val (.int i), .val (.ref q), .unset, .unset, .unset] [(.int i)])) (fun _ k => ?_) ?_
    · show Steps p.tables e below (T9.setTop (mkF m 36 #[.val (.int p1), .val (.ref ar), .val (.int i), .unset, .unset, .unset, .unset] [(.ref q)])) _
      refine XS.astoreN X9.here hx rfl (hb hby at_36) rfl rfl (l' := #[.val (.int p1), .val (.ref ar), .val (.int i), .val (.ref q), .unset, .unset, .unset]) rfl ?_
      show Steps p.tables e below (T9.setTop (mkF m 37 #[.val (.int p1), .val (.ref ar), .val (.int i), .val (.ref q), .unset, .unset, .unset] [])) _
      refine XS.iloadN X9.here hx rfl (hb hby at_37) rfl ?_
      show Steps p.tables e below (T9.setTop (mkF m 38 #[.val (.int p1), .val (.ref ar), .val (.int i), .val (.ref q), .unset, .unset, .unset] [(.int i)])) _
      exact k
    refine OEndsW.cut (fun En => ∀ (z4 : Int32), z4 = own_is0 i → En (T9.setTop (mkF m 46 #[.val (.int p1), .val (.ref ar), .val (.int i), .val (.ref q), .unset, .unset, .unset] [(.int z4)]))) ?_ (fun K46 => ?_)
    · intro z4 hz4
      refine OEndsW.go (t' := T9.setTop (mkF m 49 #[.val (.int p1), .val (.ref ar), .val (.int i), .val (.ref q), .val (.int z4), .unset, .unset] [(.ref q)])) (fun _ k => ?_) ?_
      · show Steps p.tables e below (T9.setTop (mkF m 46 #[.val (.int p1), .val (.ref ar), .val (.int i), .val (.ref q), .unset, .unset, .unset] [(.int z4)])) _
        refine XS.istore X9.here hx rfl (hb hby at_46) rfl (l' := #[.val (.int p1), .val (.ref ar), .val (.int i), .val (.ref q), .val (.int z4), .unset, .unset]) rfl ?_
        show Steps p.tables e below (T9.setTop (mkF m 48 #[.val (.int p1), .val (.ref ar), .val (.int i), .val (.ref q), .val (.int z4), .unset, .unset] [])) _
        refine XS.aloadN X9.here hx rfl (hb hby at_48) rfl rfl ?_
        show Steps p.tables e below (T9.setTop (mkF m 49 #[.val (.int p1), .val (.ref ar), .val (.int i), .val (.ref q), .val (.int z4), .unset, .unset] [(.ref q)])) _
        exact k
      obtain ⟨cq10, kq10, q10a, q10b, q10c⟩ := isOf hZ e9 (hE.ext hzt.2)
      obtain ⟨_, _, ⟨T10, L10, k10, n10⟩, -, X10, ⟨Lc10, hQ10, l10, y10, z10⟩, st10⟩ := X9.virtualBack hx (y := (⟨"com/example/pnorm/pnorm/model/Weighting", "isBinary", "()Z"⟩ : MethodName)) (z := (⟨"com/example/pnorm/pnorm/model/Weighting", "isBinary", "()Z"⟩ : MethodName)) hown (mvT hZ (hw _ (List.mem_of_getElem? (i := 12) rfl))) (mvT hZ (hw _ (List.mem_of_getElem? (i := 13) rfl))) (notFace_of_selects (args := #[]) (mvT hZ (hw _ (List.mem_of_getElem? (i := 15) rfl)))) (mvT hZ (hw _ (List.mem_of_getElem? (i := 15) rfl))) (mvT hZ (hw _ (List.mem_of_getElem? (i := 14) rfl))) (by decide) (backOf (W := 0) (rm1 l Z a0 hw [] q x0 h9 n0 Z9 (S_EB.ext hzt.2)) hZ (hw _ (List.mem_of_getElem? (i := 16) rfl)) (hw _ (List.mem_of_getElem? (i := 3) rfl)) (by decide) (by decide)) q10a q10c (g := (mkF m 49 #[.val (.int p1), .val (.ref ar), .val (.int i), .val (.ref q), .val (.int z4), .unset, .unset] [(.ref q)])) rfl (by rw [hml]; rfl) (Steps.refl _) (argsL := []) (rest := []) (lenOf pd_rm0_0 rfl) rfl (by show 2 * 0 + _ ≤ _; exact Nat.le_of_eq rfl) (hb hby at_49) (fun _ _ => ⟨rfl, e9, (by decide : 1 + 0 ≤ _), (by decide : 4 + 0 ≤ _)⟩)
      dsimp only [Pt.U, Pt.locs, Pt.cells, Pt.slots] at X10 l10 y10 z10 st10 hQ10
      subst l10 y10 z10
      obtain ⟨rfl, N10q, eh⟩ := hQ10
      have N10 := Fr.app N9 N10q
      have eh10 := eh
      refine OEndsW.go (t' := T10.setTop (mkF m 52 #[.val (.int p1), .val (.ref ar), .val (.int i), .val (.ref q), .val (.int z4), .unset, .unset] [(.int (own_is q x0))])) (fun _ k => st10.trans k) ?_
      refine OEndsW.go (t' := T10.setTop (mkF m 55 #[.val (.int p1), .val (.ref ar), .val (.int i), .val (.ref q), .val (.int z4), .val (.int (own_is q x0)), .unset] [(.ref q)])) (fun _ k => ?_) ?_
      · show Steps p.tables e below (T10.setTop (mkF m 52 #[.val (.int p1), .val (.ref ar), .val (.int i), .val (.ref q), .val (.int z4), .unset, .unset] [(.int (own_is q x0))])) _
        refine XS.istore X10.here hx rfl (hb hby at_52) rfl (l' := #[.val (.int p1), .val (.ref ar), .val (.int i), .val (.ref q), .val (.int z4), .val (.int (own_is q x0)), .unset]) rfl ?_
        show Steps p.tables e below (T10.setTop (mkF m 54 #[.val (.int p1), .val (.ref ar), .val (.int i), .val (.ref q), .val (.int z4), .val (.int (own_is q x0)), .unset] [])) _
        refine XS.aloadN X10.here hx rfl (hb hby at_54) rfl rfl ?_
        show Steps p.tables e below (T10.setTop (mkF m 55 #[.val (.int p1), .val (.ref ar), .val (.int i), .val (.ref q), .val (.int z4), .val (.int (own_is q x0)), .unset] [(.ref q)])) _
        exact k
      obtain ⟨cq11, kq11, q11a, q11b, q11c⟩ := isOf hZ eh10 (hE.ext hzt.2)
      obtain ⟨_, _, ⟨T11, L11, k11, n11⟩, -, X11, ⟨Lc11, hQ11, l11, y11, z11⟩, st11⟩ := X10.virtualBack hx (y := (⟨"com/example/pnorm/pnorm/model/Weighting", "getName", "()Ljava/lang/String;"⟩ : MethodName)) (z := (⟨"com/example/pnorm/pnorm/model/Weighting", "getName", "()Ljava/lang/String;"⟩ : MethodName)) hown (mvT hZ (hw _ (List.mem_of_getElem? (i := 18) rfl))) (mvT hZ (hw _ (List.mem_of_getElem? (i := 19) rfl))) (notFace_of_selects (args := #[]) (mvT hZ (hw _ (List.mem_of_getElem? (i := 21) rfl)))) (mvT hZ (hw _ (List.mem_of_getElem? (i := 21) rfl))) (mvT hZ (hw _ (List.mem_of_getElem? (i := 20) rfl))) (by decide) (backOf (W := 0) (rm2 l Z a0 hw [] q sa h9 n0 Z9 (hF.ext hzt.2)) hZ (hw _ (List.mem_of_getElem? (i := 22) rfl)) (hw _ (List.mem_of_getElem? (i := 3) rfl)) (by decide) (by decide)) q11a q11c (g := (mkF m 55 #[.val (.int p1), .val (.ref ar), .val (.int i), .val (.ref q), .val (.int z4), .val (.int (own_is q x0)), .unset] [(.ref q)])) rfl (by rw [hml]; rfl) (Steps.refl _) (argsL := []) (rest := []) (lenOf pd_rm0_1 rfl) rfl (by show 2 * 0 + _ ≤ _; exact Nat.le_of_eq rfl) (hb hby at_55) (fun _ _ => ⟨rfl, eh10, (by decide : 1 + 0 ≤ _), (by decide : 4 + 0 ≤ _)⟩)
      dsimp only [Pt.U, Pt.locs, Pt.cells, Pt.slots] at X11 l11 y11 z11 st11 hQ11
      subst l11 y11 z11
      obtain ⟨rfl, N11q, eh⟩ := hQ11
      have N11 := Fr.app N10 N11q
      have eh11 := eh
      refine OEndsW.go (t' := T11.setTop (mkF m 58 #[.val (.int p1), .val (.ref ar), .val (.int i), .val (.ref q), .val (.int z4), .val (.int (own_is q x0)), .unset] [(.ref sa)])) (fun _ k => st11.trans k) ?_
      have wS12 : ∀ a ∈ Bundle.stringAtoms, a.before a0 Z = true := by
        intro d hd
        simp only [Bundle.stringAtoms, List.mem_cons, List.not_mem_nil, or_false] at hd
        rcases hd with rfl | rfl | rfl | rfl | rfl | rfl | rfl
        · exact hw _ (List.mem_of_getElem? (i := 26) rfl)
        · exact hw _ (List.mem_of_getElem? (i := 27) rfl)
        · exact hw _ (List.mem_of_getElem? (i := 28) rfl)
        · exact hw _ (List.mem_of_getElem? (i := 29) rfl)
        · exact hw _ (List.mem_of_getElem? (i := 30) rfl)
        · exact hw _ (List.mem_of_getElem? (i := 31) rfl)
        · exact hw _ (List.mem_of_getElem? (i := 32) rfl)
      obtain ⟨lit, T12, h12, kz12, lit_b, lit_k, X12, e12, E12, hS12, hk12, hZ, hown, Ea12, Ca12, Va12, Aa12, -, -, IB12, st12⟩ := ldcSV (s := s) (vm0 := s.vm) (Ts := []) X11 hx hZ hown (hw _ (List.mem_of_getElem? (i := 25) rfl)) wS12 eh11 hS0 (Nat.zero_le _) (by rw [hh, ← hn0]; exact N11) hkp IB0 (by decide) hH hcw (vs := ([101, 98] : List Int32).map Value.int) (z := Int32.ofNat 2) (by decide) (by decide) (by decide) (g := (mkF m 58 #[.val (.int p1), .val (.ref ar), .val (.int i), .val (.ref q), .val (.int z4), .val (.int (own_is q x0)), .unset] [(.ref sa)])) rfl (hb hby at_58) (n := 8) (by decide) (by decide) (by decide) (by decide)
      have hzt := hzt.ext E12
      have Z12 : n0 ≤ h12.size := Nat.le_trans Z9 E12.1
      have lit_S : own_S Z h12 lit lit_b lit_k [101, 98] := ⟨Ea12, Ca12, Va12, Aa12, by decide⟩
      refine OEndsW.go (t' := T12.setTop (mkF m 60 #[.val (.int p1), .val (.ref ar), .val (.int i), .val (.ref q), .val (.int z4), .val (.int (own_is q x0)), .unset] [(.ref lit), (.ref sa)])) (fun _ k => st12 _ k) ?_
      obtain ⟨cq13, kq13, q13a, q13b, q13c⟩ := isOf hZ e12 (hSS.1.ext hzt.2)
      obtain ⟨_, _, ⟨T13, L13, k13, n13⟩, -, X13, ⟨Lc13, hQ13, l13, y13, z13⟩, st13⟩ := X12.virtualBack hx (y := (⟨"java/lang/String", "equals", "(Ljava/lang/Object;)Z"⟩ : MethodName)) (z := (⟨"java/lang/String", "equals", "(Ljava/lang/Object;)Z"⟩ : MethodName)) hown (mvT hZ (hw _ (List.mem_of_getElem? (i := 33) rfl))) (mvT hZ (hw _ (List.mem_of_getElem? (i := 34) rfl))) (notFace_of_selects (args := #[]) (mvT hZ (hw _ (List.mem_of_getElem? (i := 36) rfl)))) (mvT hZ (hw _ (List.mem_of_getElem? (i := 36) rfl))) (mvT hZ (hw _ (List.mem_of_getElem? (i := 35) rfl))) (by decide) (backOf (W := 0) (rm3 l Z a0 hw [] sa lit w1 sb lit_b sk lit_k xs [101, 98] h12 n0 Z12 (S_C.ext hzt.2) c0 (hSS.ext hzt.2) lit_S) hZ (hw _ (List.mem_of_getElem? (i := 37) rfl)) (hw _ (List.mem_of_getElem? (i := 26) rfl)) (by decide) (by decide)) q13a q13c (g := (mkF m 60 #[.val (.int p1), .val (.ref ar), .val (.int i), .val (.ref q), .val (.int z4), .val (.int (own_is q x0)), .unset] [(.ref lit), (.ref sa)])) rfl (by rw [hml]; rfl) (Steps.refl _) (argsL := [(.ref lit)]) (rest := []) (lenOf pd_rm0_2 rfl) rfl (by show 2 * 0 + _ ≤ _; exact Nat.le_of_eq rfl) (hb hby at_60) (fun _ _ => ⟨rfl, e12, (by decide : 3 + 0 ≤ _), (by decide : 16 + 0 ≤ _)⟩)
      dsimp only [Pt.U, Pt.locs, Pt.cells, Pt.slots] at X13 l13 y13 z13 st13 hQ13
      subst l13 y13 z13
      obtain ⟨rfl, N13q, eh⟩ := hQ13
      have N13 := Fr.app N11 N13q
      have eh13 := eh
      refine OEndsW.go (t' := T13.setTop (mkF m 63 #[.val (.int p1), .val (.ref ar), .val (.int i), .val (.ref q), .val (.int z4), .val (.int (own_is q x0)), .unset] [(.int (own_eqL xs [101, 98]))])) (fun _ k => st13.trans k) ?_
      refine OEndsW.go (t' := T13.setTop (mkF m 69 #[.val (.int p1), .val (.ref ar), .val (.int i), .val (.ref q), .val (.int z4), .val (.int (own_is q x0)), .val (.int (own_eqL xs [101, 98]))] [(.int z4), (.int (own_is q x0))])) (fun _ k => ?_) ?_
      · show Steps p.tables e below (T13.setTop (mkF m 63 #[.val (.int p1), .val (.ref ar), .val (.int i), .val (.ref q), .val (.int z4), .val (.int (own_is q x0)), .unset] [(.int (own_eqL xs [101, 98]))])) _
        refine XS.istore X13.here hx rfl (hb hby at_63) rfl (l' := #[.val (.int p1), .val (.ref ar), .val (.int i), .val (.ref q), .val (.int z4), .val (.int (own_is q x0)), .val (.int (own_eqL xs [101, 98]))]) rfl ?_
        show Steps p.tables e below (T13.setTop (mkF m 65 #[.val (.int p1), .val (.ref ar), .val (.int i), .val (.ref q), .val (.int z4), .val (.int (own_is q x0)), .val (.int (own_eqL xs [101, 98]))] [])) _
        refine XS.iload X13.here hx rfl (hb hby at_65) rfl ?_
        show Steps p.tables e below (T13.setTop (mkF m 67 #[.val (.int p1), .val (.ref ar), .val (.int i), .val (.ref q), .val (.int z4), .val (.int (own_is q x0)), .val (.int (own_eqL xs [101, 98]))] [(.int (own_is q x0))])) _
        refine XS.iload X13.here hx rfl (hb hby at_67) rfl ?_
        show Steps p.tables e below (T13.setTop (mkF m 69 #[.val (.int p1), .val (.ref ar), .val (.int i), .val (.ref q), .val (.int z4), .val (.int (own_is q x0)), .val (.int (own_eqL xs [101, 98]))] [(.int z4), (.int (own_is q x0))])) _
        exact k
      refine OEndsW.go (t' := T13.setTop (mkF m 72 #[.val (.int p1), .val (.ref ar), .val (.int i), .val (.ref q), .val (.int z4), .val (.int (own_is q x0)), .val (.int (own_eqL xs [101, 98]))] [])) (fun _ k => XS.icmpNo X13.here hx rfl (hb hby at_69) rfl (teq (hx1.trans hz4.symm)).2 k) ?_
      refine OEndsW.go (t' := T13.setTop (mkF m 76 #[.val (.int p1), .val (.ref ar), .val (.int i), .val (.ref q), .val (.int z4), .val (.int (own_is q x0)), .val (.int (own_eqL xs [101, 98]))] [(.int (own_is q x0)), (.int (own_eqL xs [101, 98]))])) (fun _ k => ?_) ?_
      · show Steps p.tables e below (T13.setTop (mkF m 72 #[.val (.int p1), .val (.ref ar), .val (.int i), .val (.ref q), .val (.int z4), .val (.int (own_is q x0)), .val (.int (own_eqL xs [101, 98]))] [])) _
        refine XS.iload X13.here hx rfl (hb hby at_72) rfl ?_
        show Steps p.tables e below (T13.setTop (mkF m 74 #[.val (.int p1), .val (.ref ar), .val (.int i), .val (.ref q), .val (.int z4), .val (.int (own_is q x0)), .val (.int (own_eqL xs [101, 98]))] [(.int (own_eqL xs [101, 98]))])) _
        refine XS.iload X13.here hx rfl (hb hby at_74) rfl ?_
        show Steps p.tables e below (T13.setTop (mkF m 76 #[.val (.int p1), .val (.ref ar), .val (.int i), .val (.ref q), .val (.int z4), .val (.int (own_is q x0)), .val (.int (own_eqL xs [101, 98]))] [(.int (own_is q x0)), (.int (own_eqL xs [101, 98]))])) _
        exact k
      refine OEndsW.go (t' := T13.setTop (mkF m 79 #[.val (.int p1), .val (.ref ar), .val (.int i), .val (.ref q), .val (.int z4), .val (.int (own_is q x0)), .val (.int (own_eqL xs [101, 98]))] [])) (fun _ k => XS.icmpNo X13.here hx rfl (hb hby at_76) rfl (teq hx2).2 k) ?_
      refine OEndsW.go (t' := T13.setTop (mkF m 84 #[.val (.int p1), .val (.ref ar), .val (.int i), .val (.ref q), .val (.int z4), .val (.int (own_is q x0)), .val (.int (own_eqL xs [101, 98]))] [(.int (1 : Int32))])) (fun _ k => ?_) ?_
      · show Steps p.tables e below (T13.setTop (mkF m 79 #[.val (.int p1), .val (.ref ar), .val (.int i), .val (.ref q), .val (.int z4), .val (.int (own_is q x0)), .val (.int (own_eqL xs [101, 98]))] [])) _
        refine XS.iconst X13.here hx rfl (hb hby at_79) ?_
        show Steps p.tables e below (T13.setTop (mkF m 80 #[.val (.int p1), .val (.ref ar), .val (.int i), .val (.ref q), .val (.int z4), .val (.int (own_is q x0)), .val (.int (own_eqL xs [101, 98]))] [(.int (1 : Int32))])) _
        refine XS.goto X13.here hx rfl (pc0 := 80) (pc' := 84) rfl (hb hby at_80) (by decide) (by decide) ?_
        show Steps p.tables e below (T13.setTop (mkF m 84 #[.val (.int p1), .val (.ref ar), .val (.int i), .val (.ref q), .val (.int z4), .val (.int (own_is q x0)), .val (.int (own_eqL xs [101, 98]))] [(.int (1 : Int32))])) _
        exact k
      refine OEndsW.back X13 hS12 (by rw [eh13]; exact hk12) hlk (v := (some (.int (1 : Int32)))) (fun h => by rw [hrt] at h; cases h) (fun fs hr => ?_) ?_ (by decide) (by decide)
      · exact retN X13 hx (t := .boolean) hrt (by simp) (hb hby at_84) hr
      · show Q0 Z p1 x0 x1 x2 x3 s_EB b_EB k_EB s_TFC_TFC b_TFC_TFC k_TFC_TFC s_LXC_LTC b_LXC_LTC k_LXC_LTC s_LNU_LTU b_LNU_LTU k_LNU_LTU w1 h0 n0 _ T13.heap T13.vm _
        rw [eh13]
        exact ⟨rfl, N13⟩
    by_cases h38 : i = (0 : Int32)
    · refine OEndsW.go (t' := T9.setTop (mkF m 41 #[.val (.int p1), .val (.ref ar), .val (.int i), .val (.ref q), .unset, .unset, .unset] [])) (fun _ k => XS.ifNo X9.here hx rfl (hb hby at_38) rfl ((if0 _ _).trans (teq h38).2) k) ?_
      refine OEndsW.go (t' := T9.setTop (mkF m 46 #[.val (.int p1), .val (.ref ar), .val (.int i), .val (.ref q), .unset, .unset, .unset] [(.int (1 : Int32))])) (fun _ k => ?_) ?_
      · show Steps p.tables e below (T9.setTop (mkF m 41 #[.val (.int p1), .val (.ref ar), .val (.int i), .val (.ref q), .unset, .unset, .unset] [])) _
        refine XS.iconst X9.here hx rfl (hb hby at_41) ?_
        show Steps p.tables e below (T9.setTop (mkF m 42 #[.val (.int p1), .val (.ref ar), .val (.int i), .val (.ref q), .unset, .unset, .unset] [(.int (1 : Int32))])) _
        refine XS.goto X9.here hx rfl (pc0 := 42) (pc' := 46) rfl (hb hby at_42) (by decide) (by decide) ?_
        show Steps p.tables e below (T9.setTop (mkF m 46 #[.val (.int p1), .val (.ref ar), .val (.int i), .val (.ref q), .unset, .unset, .unset] [(.int (1 : Int32))])) _
        exact k
      exact K46 _ (by rw [own_is0, if_pos h38])
    · refine OEndsW.go (t' := T9.setTop (mkF m 45 #[.val (.int p1), .val (.ref ar), .val (.int i), .val (.ref q), .unset, .unset, .unset] [])) (fun _ k => XS.ifYes X9.here hx rfl (pc0 := 38) (pc' := 45) rfl (hb hby at_38) rfl ((if0 _ _).trans (feq h38).2) (by decide) (by decide) k) ?_
      refine OEndsW.go (t' := T9.setTop (mkF m 46 #[.val (.int p1), .val (.ref ar), .val (.int i), .val (.ref q), .unset, .unset, .unset] [(.int (0 : Int32))])) (fun _ k => ?_) ?_
      · show Steps p.tables e below (T9.setTop (mkF m 45 #[.val (.int p1), .val (.ref ar), .val (.int i), .val (.ref q), .unset, .unset, .unset] [])) _
        refine XS.iconst X9.here hx rfl (hb hby at_45) ?_
        show Steps p.tables e below (T9.setTop (mkF m 46 #[.val (.int p1), .val (.ref ar), .val (.int i), .val (.ref q), .unset, .unset, .unset] [(.int (0 : Int32))])) _
        exact k
      exact K46 _ (by rw [own_is0, if_neg h38])
  rcases hfour with rfl | rfl | rfl | rfl
  · obtain ⟨cl14, Ar14, hin14, hat14⟩ := own_at V_ar (j := 0) ⟨by decide, by decide⟩ rfl
    refine OEndsW.go (t' := T9.setTop (mkF m 36 #[.val (.int p1), .val (.ref ar), .val (.int (0 : Int32)), .unset, .unset, .unset, .unset] [(.ref x0)])) (fun _ k => X9.aaload hx (j := (0 : Int32)) (v := (.ref x0)) (by rw [e9]; exact Ar14.1) (State.isArrayOf_alike hZ.alike Ar14.2.1) rfl Ar14.2.2 hin14 hat14 (g := (mkF m 35 #[.val (.int p1), .val (.ref ar), .val (.int (0 : Int32)), .unset, .unset, .unset, .unset] [(.int (0 : Int32)), (.ref ar)])) rfl rfl (hb hby at_35) _ k) ?_
    exact K36 _ _ _ _ _ E_EB Ft_EB SS_EB (by rw [own_is, if_pos rfl]; decide) (by rw [own_is, if_pos rfl]; decide)
  · obtain ⟨cl15, Ar15, hin15, hat15⟩ := own_at V_ar (j := 1) ⟨by decide, by decide⟩ rfl
    refine OEndsW.go (t' := T9.setTop (mkF m 36 #[.val (.int p1), .val (.ref ar), .val (.int (1 : Int32)), .unset, .unset, .unset, .unset] [(.ref x1)])) (fun _ k => X9.aaload hx (j := (1 : Int32)) (v := (.ref x1)) (by rw [e9]; exact Ar15.1) (State.isArrayOf_alike hZ.alike Ar15.2.1) rfl Ar15.2.2 hin15 hat15 (g := (mkF m 35 #[.val (.int p1), .val (.ref ar), .val (.int (1 : Int32)), .unset, .unset, .unset, .unset] [(.int (1 : Int32)), (.ref ar)])) rfl rfl (hb hby at_35) _ k) ?_
    exact K36 _ _ _ _ _ E_TFC_TFC Ft_TFC_TFC SS_TFC_TFC (by rw [own_is, if_neg d1]; decide) (by rw [own_is, if_neg d1]; decide)
  · obtain ⟨cl16, Ar16, hin16, hat16⟩ := own_at V_ar (j := 2) ⟨by decide, by decide⟩ rfl
    refine OEndsW.go (t' := T9.setTop (mkF m 36 #[.val (.int p1), .val (.ref ar), .val (.int (2 : Int32)), .unset, .unset, .unset, .unset] [(.ref x2)])) (fun _ k => X9.aaload hx (j := (2 : Int32)) (v := (.ref x2)) (by rw [e9]; exact Ar16.1) (State.isArrayOf_alike hZ.alike Ar16.2.1) rfl Ar16.2.2 hin16 hat16 (g := (mkF m 35 #[.val (.int p1), .val (.ref ar), .val (.int (2 : Int32)), .unset, .unset, .unset, .unset] [(.int (2 : Int32)), (.ref ar)])) rfl rfl (hb hby at_35) _ k) ?_
    exact K36 _ _ _ _ _ E_LXC_LTC Ft_LXC_LTC SS_LXC_LTC (by rw [own_is, if_neg d2]; decide) (by rw [own_is, if_neg d2]; decide)
  · obtain ⟨cl17, Ar17, hin17, hat17⟩ := own_at V_ar (j := 3) ⟨by decide, by decide⟩ rfl
    refine OEndsW.go (t' := T9.setTop (mkF m 36 #[.val (.int p1), .val (.ref ar), .val (.int (3 : Int32)), .unset, .unset, .unset, .unset] [(.ref x3)])) (fun _ k => X9.aaload hx (j := (3 : Int32)) (v := (.ref x3)) (by rw [e9]; exact Ar17.1) (State.isArrayOf_alike hZ.alike Ar17.2.1) rfl Ar17.2.2 hin17 hat17 (g := (mkF m 35 #[.val (.int p1), .val (.ref ar), .val (.int (3 : Int32)), .unset, .unset, .unset, .unset] [(.int (3 : Int32)), (.ref ar)])) rfl rfl (hb hby at_35) _ k) ?_
    exact K36 _ _ _ _ _ E_LNU_LTU Ft_LNU_LTU SS_LNU_LTU (by rw [own_is, if_neg d3]; decide) (by rw [own_is, if_neg d3]; decide)
set_option maxRecDepth 65536 in
set_option maxHeartbeats 40000000 in
theorem comes_1 {Post : Tables → Env → Array Value → State → Outcome → State → Prop} (hpost : ∀ tb e args s v u, (limb_1_1.after args s (.returned v) u = true ∧ limb_1_2.after args s (.returned v) u = true ∧ True) → ReturnedEndW s (.returned v) u (Jvm.fieldLocs frame_1_writes args s ++ Jvm.arrayLocs frame_1_arrays args s ++ Jvm.staticLocs frame_1_statics s) 16 1152 → Post tb e args s (.returned v) u) :
    ArmFor flags0 classFile x code maxLocals ret World_1 tables_1 room_1 Calls_1 rest_1 Pre_1 Post := by
  intro l hfl _ _ p e ha hc hk s m args below hf hA hF happ hP
  obtain ⟨hcalls, hrest, hpre⟩ := hP
  obtain ⟨-, -, -, hnamed, -, -, -, hat⟩ := (Spec.applies_iff hf).mp happ
  obtain ⟨hg, hn⟩ := and_e (Cond.before_iff.mp (show (Jvm.Cond.and given_1 narrow_1).before args s = true from hpre))
  obtain ⟨gc, g0⟩ := and_e hg
  obtain ⟨w0, rfl⟩ : ∃ w0 : Value, args = #[w0] := by
    have hs : args.size = 1 := by simpa [Cond.value, given_1] using gc
    obtain ⟨L⟩ := args
    match L, hs with
    | [w0], _ => exact ⟨w0, rfl⟩
  have hw := fun d (hd : d ∈ tables_1) => atoms_spec (ws := Jvm.Cond.code x code maxLocals ret :: tables_1) hat d (List.mem_cons_of_mem _ hd)
  have hfit : Fit s := fun {y c} hc i hi => by
    obtain ⟨ha, rfl⟩ := Array.getElem?_eq_some_iff.mp hc
    have q := List.all_eq_true.mp ((Array.all_eq_true_iff_forall_mem.mp hF) _ (Array.getElem_mem ha)) i (List.mem_range.mpr hi)
    simpa [Array.getElem?_eq_getElem hi] using q
  obtain ⟨hsets, hown0⟩ := atoms_of _ (rest_1_c_eq ▸ (show rest_1_c.before _ s = true from hrest))
  obtain ⟨i0, ei0⟩ := is_v g0
  obtain rfl : w0 = (.int i0) := Option.some.inj ei0
  obtain ⟨n0, hn0⟩ := and_e hn
  obtain ⟨n1, hn1⟩ := and_e hn0
  obtain ⟨n2, hn2⟩ := and_e hn1
  obtain ⟨n3, hn3⟩ := and_e hn2
  obtain ⟨n4, hn4⟩ := and_e hn3
  obtain ⟨n5, hn5⟩ := and_e hn4
  obtain ⟨n6, hn6⟩ := and_e hn5
  obtain ⟨n7, hn7⟩ := and_e hn6
  obtain ⟨n8, hn8⟩ := and_e hn7
  obtain ⟨n9, hn9⟩ := and_e hn8
  obtain ⟨n10, hn10⟩ := and_e hn9
  obtain ⟨n11, hn11⟩ := and_e hn10
  obtain ⟨n12, hn12⟩ := and_e hn11
  obtain ⟨n13, hn13⟩ := and_e hn12
  obtain ⟨n14, hn14⟩ := and_e hn13
  obtain ⟨n15, hn15⟩ := and_e hn14
  obtain ⟨n16, hn16⟩ := and_e hn15
  obtain ⟨n17, hn17⟩ := and_e hn16
  obtain ⟨n18, hn18⟩ := and_e hn17
  obtain ⟨n19, hn19⟩ := and_e hn18
  obtain ⟨n20, hn20⟩ := and_e hn19
  obtain ⟨n21, hn21⟩ := and_e hn20
  obtain ⟨n22, hn22⟩ := and_e hn21
  obtain ⟨n23, hn23⟩ := and_e hn22
  obtain ⟨n24, hn24⟩ := and_e hn23
  obtain ⟨n25, hn25⟩ := and_e hn24
  obtain ⟨n26, hn26⟩ := and_e hn25
  obtain ⟨n27, hn27⟩ := and_e hn26
  obtain ⟨n28, hn28⟩ := and_e hn27
  obtain ⟨n29, hn29⟩ := and_e hn28
  obtain ⟨n30, hn30⟩ := and_e hn29
  obtain ⟨n31, hn31⟩ := and_e hn30
  obtain ⟨n32, hn32⟩ := and_e hn31
  obtain ⟨n33, hn33⟩ := and_e hn32
  obtain ⟨n34, hn34⟩ := and_e hn33
  obtain ⟨n35, hn35⟩ := and_e hn34
  obtain ⟨n36, hn36⟩ := and_e hn35
  obtain ⟨n37, hn37⟩ := and_e hn36
  obtain ⟨n38, hn38⟩ := and_e hn37
  obtain ⟨n39, hn39⟩ := and_e hn38
  obtain ⟨n40, hn40⟩ := and_e hn39
  obtain ⟨n41, hn41⟩ := and_e hn40
  obtain ⟨n42, hn42⟩ := and_e hn41
  obtain ⟨n43, hn43⟩ := and_e hn42
  obtain ⟨n44, hn44⟩ := and_e hn43
  obtain ⟨n45, hn45⟩ := and_e hn44
  have n46 := hn45
  obtain ⟨a_EB, v_EB⟩ := exa_v n0
  have E_EB := Exa.start v_EB n0
  have S_EB := Sta.start v_EB (Or.inr ⟨(hw _ (List.mem_of_getElem? (i := 3) rfl)), (hw _ (List.mem_of_getElem? (i := 4) rfl))⟩)
  obtain ⟨a_TFC_TFC, v_TFC_TFC⟩ := exa_v n1
  have E_TFC_TFC := Exa.start v_TFC_TFC n1
  have S_TFC_TFC := Sta.start v_TFC_TFC (Or.inr ⟨(hw _ (List.mem_of_getElem? (i := 3) rfl)), (hw _ (List.mem_of_getElem? (i := 7) rfl))⟩)
  obtain ⟨a_LXC_LTC, v_LXC_LTC⟩ := exa_v n2
  have E_LXC_LTC := Exa.start v_LXC_LTC n2
  have S_LXC_LTC := Sta.start v_LXC_LTC (Or.inr ⟨(hw _ (List.mem_of_getElem? (i := 3) rfl)), (hw _ (List.mem_of_getElem? (i := 9) rfl))⟩)
  obtain ⟨a_LNU_LTU, v_LNU_LTU⟩ := exa_v n3
  have E_LNU_LTU := Exa.start v_LNU_LTU n3
  have S_LNU_LTU := Sta.start v_LNU_LTU (Or.inr ⟨(hw _ (List.mem_of_getElem? (i := 3) rfl)), (hw _ (List.mem_of_getElem? (i := 11) rfl))⟩)
  have o_LNU_LTU_ordinal := own_fldi v_LNU_LTU n10
  have o_EB_ordinal := own_fldi v_EB n11
  have o_LXC_LTC_ordinal := own_fldi v_LXC_LTC n16
  have o_TFC_TFC_ordinal := own_fldi v_TFC_TFC n21
  obtain ⟨sa_EB, vs_EB⟩ := exa_v n4
  have Ft_EB : Fld s s.heap a_EB "com/example/pnorm/pnorm/model/Weighting" "name" "Ljava/lang/String;" (.ref sa_EB) := Fld.start (by rw [← fld_at v_EB]; exact vs_EB)
  have Es_EB := Exa.start vs_EB n4
  have Cs_EB := Fld.start (own_fldi vs_EB n5)
  obtain ⟨sb_EB, vb_EB⟩ := arr_v n6
  have Vs_EB : Fld s s.heap sa_EB "java/lang/String" "value" "[B" (.ref sb_EB) := Fld.start (by rw [← fld_at vs_EB]; exact vb_EB)
  obtain ⟨cl_EB, Ar_EB⟩ := Arr.start vb_EB n6
  obtain ⟨hz_EB, hl_EB⟩ := own_len vb_EB Ar_EB n7
  have SS_EB : own_S s s.heap sa_EB sb_EB cl_EB.cls [101, 98] := ⟨Es_EB, Cs_EB, Vs_EB, Arv.start hfit Ar_EB hz_EB hl_EB (by decide) (by decide) ⟨own_el vb_EB Ar_EB n8, own_el vb_EB Ar_EB n9, trivial⟩, by decide⟩
  obtain ⟨sa_TFC_TFC, vs_TFC_TFC⟩ := exa_v n22
  have Ft_TFC_TFC : Fld s s.heap a_TFC_TFC "com/example/pnorm/pnorm/model/Weighting" "name" "Ljava/lang/String;" (.ref sa_TFC_TFC) := Fld.start (by rw [← fld_at v_TFC_TFC]; exact vs_TFC_TFC)
  have Es_TFC_TFC := Exa.start vs_TFC_TFC n22
  have Cs_TFC_TFC := Fld.start (own_fldi vs_TFC_TFC n23)
  obtain ⟨sb_TFC_TFC, vb_TFC_TFC⟩ := arr_v n24
  have Vs_TFC_TFC : Fld s s.heap sa_TFC_TFC "java/lang/String" "value" "[B" (.ref sb_TFC_TFC) := Fld.start (by rw [← fld_at vs_TFC_TFC]; exact vb_TFC_TFC)
  obtain ⟨cl_TFC_TFC, Ar_TFC_TFC⟩ := Arr.start vb_TFC_TFC n24
  obtain ⟨hz_TFC_TFC, hl_TFC_TFC⟩ := own_len vb_TFC_TFC Ar_TFC_TFC n25
  have SS_TFC_TFC : own_S s s.heap sa_TFC_TFC sb_TFC_TFC cl_TFC_TFC.cls [116, 102, 99, 46, 116, 102, 99] := ⟨Es_TFC_TFC, Cs_TFC_TFC, Vs_TFC_TFC, Arv.start hfit Ar_TFC_TFC hz_TFC_TFC hl_TFC_TFC (by decide) (by decide) ⟨own_el vb_TFC_TFC Ar_TFC_TFC n40, own_el vb_TFC_TFC Ar_TFC_TFC n41, own_el vb_TFC_TFC Ar_TFC_TFC n42, own_el vb_TFC_TFC Ar_TFC_TFC n43, own_el vb_TFC_TFC Ar_TFC_TFC n44, own_el vb_TFC_TFC Ar_TFC_TFC n45, own_el vb_TFC_TFC Ar_TFC_TFC n46, trivial⟩, by decide⟩
  obtain ⟨sa_LXC_LTC, vs_LXC_LTC⟩ := exa_v n17
  have Ft_LXC_LTC : Fld s s.heap a_LXC_LTC "com/example/pnorm/pnorm/model/Weighting" "name" "Ljava/lang/String;" (.ref sa_LXC_LTC) := Fld.start (by rw [← fld_at v_LXC_LTC]; exact vs_LXC_LTC)
  have Es_LXC_LTC := Exa.start vs_LXC_LTC n17
  have Cs_LXC_LTC := Fld.start (own_fldi vs_LXC_LTC n18)
  obtain ⟨sb_LXC_LTC, vb_LXC_LTC⟩ := arr_v n19
  have Vs_LXC_LTC : Fld s s.heap sa_LXC_LTC "java/lang/String" "value" "[B" (.ref sb_LXC_LTC) := Fld.start (by rw [← fld_at vs_LXC_LTC]; exact vb_LXC_LTC)
  obtain ⟨cl_LXC_LTC, Ar_LXC_LTC⟩ := Arr.start vb_LXC_LTC n19
  obtain ⟨hz_LXC_LTC, hl_LXC_LTC⟩ := own_len vb_LXC_LTC Ar_LXC_LTC n20
  have SS_LXC_LTC : own_S s s.heap sa_LXC_LTC sb_LXC_LTC cl_LXC_LTC.cls [108, 120, 99, 46, 108, 116, 99] := ⟨Es_LXC_LTC, Cs_LXC_LTC, Vs_LXC_LTC, Arv.start hfit Ar_LXC_LTC hz_LXC_LTC hl_LXC_LTC (by decide) (by decide) ⟨own_el vb_LXC_LTC Ar_LXC_LTC n33, own_el vb_LXC_LTC Ar_LXC_LTC n34, own_el vb_LXC_LTC Ar_LXC_LTC n35, own_el vb_LXC_LTC Ar_LXC_LTC n36, own_el vb_LXC_LTC Ar_LXC_LTC n37, own_el vb_LXC_LTC Ar_LXC_LTC n38, own_el vb_LXC_LTC Ar_LXC_LTC n39, trivial⟩, by decide⟩
  obtain ⟨sa_LNU_LTU, vs_LNU_LTU⟩ := exa_v n12
  have Ft_LNU_LTU : Fld s s.heap a_LNU_LTU "com/example/pnorm/pnorm/model/Weighting" "name" "Ljava/lang/String;" (.ref sa_LNU_LTU) := Fld.start (by rw [← fld_at v_LNU_LTU]; exact vs_LNU_LTU)
  have Es_LNU_LTU := Exa.start vs_LNU_LTU n12
  have Cs_LNU_LTU := Fld.start (own_fldi vs_LNU_LTU n13)
  obtain ⟨sb_LNU_LTU, vb_LNU_LTU⟩ := arr_v n14
  have Vs_LNU_LTU : Fld s s.heap sa_LNU_LTU "java/lang/String" "value" "[B" (.ref sb_LNU_LTU) := Fld.start (by rw [← fld_at vs_LNU_LTU]; exact vb_LNU_LTU)
  obtain ⟨cl_LNU_LTU, Ar_LNU_LTU⟩ := Arr.start vb_LNU_LTU n14
  obtain ⟨hz_LNU_LTU, hl_LNU_LTU⟩ := own_len vb_LNU_LTU Ar_LNU_LTU n15
  have SS_LNU_LTU : own_S s s.heap sa_LNU_LTU sb_LNU_LTU cl_LNU_LTU.cls [76, 110, 117, 46, 108, 116, 117] := ⟨Es_LNU_LTU, Cs_LNU_LTU, Vs_LNU_LTU, Arv.start hfit Ar_LNU_LTU hz_LNU_LTU hl_LNU_LTU (by decide) (by decide) ⟨own_el vb_LNU_LTU Ar_LNU_LTU n26, own_el vb_LNU_LTU Ar_LNU_LTU n27, own_el vb_LNU_LTU Ar_LNU_LTU n28, own_el vb_LNU_LTU Ar_LNU_LTU n29, own_el vb_LNU_LTU Ar_LNU_LTU n30, own_el vb_LNU_LTU Ar_LNU_LTU n31, own_el vb_LNU_LTU Ar_LNU_LTU n32, trivial⟩, by decide⟩
  have hC := hsets _ (List.mem_of_getElem? (i := 0) rfl)
  obtain ⟨w1, ew1⟩ := is_v (Cond.before_iff.mp (hsets _ (List.mem_of_getElem? (i := 1) rfl)))
  have S_C := Sta.start ew1 (Or.inl hC)
  have c0 : ¬ w1 = 0 := own_nei ew1 (Cond.before_iff.mp (hsets _ (List.mem_of_getElem? (i := 2) rfl)))
  have hcw := hsets _ (List.mem_of_getElem? (i := 2) rfl)
  obtain ⟨n, o, h1, h2, h3, _, L, rfl, ⟨rfl, N⟩, hq⟩ := rm0 l s _ hw tables_1 i0 a_EB a_TFC_TFC a_LXC_LTC a_LNU_LTU sa_EB sb_EB cl_EB.cls sa_TFC_TFC sb_TFC_TFC cl_TFC_TFC.cls sa_LXC_LTC sb_LXC_LTC cl_LXC_LTC.cls sa_LNU_LTU sb_LNU_LTU cl_LNU_LTU.cls w1 s.heap s.heap.size (Nat.le_refl _) S_EB S_TFC_TFC S_LXC_LTC S_LNU_LTU E_EB E_TFC_TFC E_LXC_LTC E_LNU_LTU Ft_EB SS_EB Ft_TFC_TFC SS_TFC_TFC Ft_LXC_LTC SS_LXC_LTC Ft_LNU_LTU SS_LNU_LTU (Old.start s) rfl S_C c0 hcw (hcalls.1 ("com/example/pnorm/pnorm/model/WeightingIsBinaryPinLaw", 30) (List.mem_of_getElem? (i := 0) rfl)) (own_ne o_TFC_TFC_ordinal o_EB_ordinal (by decide)) (own_ne o_LXC_LTC_ordinal o_EB_ordinal (by decide)) (own_ne o_LNU_LTU_ordinal o_EB_ordinal (by decide)) p e ha hc hk s m _ below hf ((Spec.applies_iff_loose hf).mp happ).1 ⟨rfl, State.Warmed39.refl s, rfl, IB.start⟩ trivial
  refine ⟨n, _, h1, h2, h3, hpost _ _ _ _ _ _ ⟨Cond.after_iff.mpr rfl, Cond.after_iff.mpr (eq_i res_at (Term.int_eval (1)) rfl), trivial⟩ ⟨hq.1, hq.2.1, hq.2.2.1, (hq.2.2.2.sift fun y hy => Or.inr (N y hy)).mono (by decide) (by decide)⟩⟩
theorem main_1_1 : Claimed_1_1 := comes_1 fun _ _ _ _ _ _ h hF => ⟨h.1, hF⟩
theorem main_1_2 : Claimed_1_2 := comes_1 fun _ _ _ _ _ _ h hF => ⟨h.2.1, hF⟩
end Jvm.Pilot.@@N@@
namespace Jvm.Pilot.@@N@@
open Jvm Jvm.ClassFile Sem Op Lib Jvm.Free Jvm.Stand Jvm.Pilot.@@N@@.Jvm.D
/-! MADE BY PROGRAM (witnessworld.py) out of the Statement's table words and the real class files: 19 classes; the members and pool entries that the words name. The judged class is class 1, her method 1. -/
namespace start1
open Jvm.ClassFile
def u (s : String) : CpInfo := .utf8 (stringToUtf16 s)
/-- a pool by its gaps: so many unusable entries, then the entry; so many at the end -/
def gap : Nat → List CpInfo → List CpInfo
  | 0, r => r
  | n + 1, r => .unusable :: gap n r
def poolList (es : List (Nat × CpInfo)) (last : Nat) : List CpInfo := es.foldr (fun e r => gap e.1 (e.2 :: r)) (gap last [])
def pool (es : List (Nat × CpInfo)) (last : Nat) : Array CpInfo := ⟨poolList es last⟩
def fileOf (pool : Array CpInfo) (this : Nat) (attrs : Array Attribute := #[]) (ms : Array MethodInfo := #[]) (fl : Nat := 33) (sup : Nat := 0) (ifs : Array Nat := #[]) (fds : Array FieldInfo := #[]) : ClassFile where
  minorVersion := 0
  majorVersion := 65
  constantPool := pool
  accessFlags := fl
  thisClass := this
  superClass := sup
  interfaces := ifs
  fields := fds
  methods := ms
  attributes := attrs
def plain (name : String) (sup : Option ClassId) : Class where
  name := name
  kind := .ordinary
  loader := none
  accessFlags := 33
  super := sup
  interfaces := #[]
  cf := none
  fields := #[]
  methods := #[]
  instanceTypes := #[]
  staticTypes := #[]
  resolved := #[]
  callSites := []
  init := .initialized
  statics := none
  mirror := none

def pool0 : Array CpInfo := pool [(5, u "<init>"), (0, u "()V"), (1, .class_ 10), (1, u "java/lang/Object")] 113

def k0m0 : Method := { name := "<init>", desc := "()V", sig := { parameters := [], returnType := none }, accessFlags := 1, code := none }
/-- java/lang/Object -/
def k0 : Class := { plain "java/lang/Object" none with
  accessFlags := 33
  interfaces := #[]
  cf := some (fileOf pool0 8 #[] #[{ accessFlags := 1, nameIndex := 5, descriptorIndex := 6, attributes := #[] }] 33 0 #[] #[])
  fields := #[]
  methods := #[k0m0]
  instanceTypes := #[]
  staticTypes := #[]
  resolved := Array.replicate 124 none
  statics := none }

def pool1 : Array CpInfo := pool [(2, .class_ 4), (1, u "java/lang/Object"), (0, u "<init>"), (0, u "()V"), (0, .class_ 8), (0, u "com/example/pnorm/pnorm/model/Weighting"), (0, .fieldref 7 10), (0, .nameAndType 11 12), (0, u "EB"), (0, u "Lcom/example/pnorm/pnorm/model/Weighting;"), (0, .fieldref 7 14), (0, .nameAndType 15 12), (0, u "TFC_TFC"), (0, .fieldref 7 17), (0, .nameAndType 18 12), (0, u "LXC_LTC"), (0, .fieldref 7 20), (0, .nameAndType 21 12), (0, u "LNU_LTU"), (0, .methodref 7 23), (0, .nameAndType 24 25), (0, u "isBinary"), (0, u "()Z"), (0, .methodref 7 27), (0, .nameAndType 28 29), (0, u "getName"), (0, u "()Ljava/lang/String;"), (0, .string 31), (0, u "eb"), (0, .methodref 33 34), (0, .class_ 35), (0, .nameAndType 36 37), (0, u "java/lang/String"), (0, u "equals"), (0, u "(Ljava/lang/Object;)Z"), (0, .class_ 39), (0, u "com/example/pnorm/pnorm/model/WeightingIsBinaryPinLaw"), (2, u "law"), (0, u "(I)Z")] 5

def k1m0 : Method := { name := "<init>", desc := "()V", sig := { parameters := [], returnType := none }, accessFlags := 2, code := none }
def k1c1 : Code := { maxStack := 3, maxLocals := 7, code := code, exceptionTable := #[], attributes := #[] }
def k1m1 : Method := { name := "law", desc := "(I)Z", sig := { parameters := [.int], returnType := some .boolean }, accessFlags := 9, code := some k1c1 }
/-- com/example/pnorm/pnorm/model/WeightingIsBinaryPinLaw -/
def k1 : Class := { plain "com/example/pnorm/pnorm/model/WeightingIsBinaryPinLaw" (some 0) with
  accessFlags := 49
  interfaces := #[]
  cf := some (fileOf pool1 38 #[] #[{ accessFlags := 2, nameIndex := 5, descriptorIndex := 6, attributes := #[] }, { accessFlags := 9, nameIndex := 42, descriptorIndex := 43, attributes := #[] }] 49 2 #[] #[])
  fields := #[]
  methods := #[k1m0, k1m1]
  instanceTypes := #[]
  staticTypes := #[]
  resolved := Array.replicate 49 none
  statics := none }

def pool2 : Array CpInfo := pool [(1, .class_ 2), (0, u "java/lang/constant/Constable"), (0, .class_ 4), (0, u "java/lang/Object")] 6

/-- java/lang/constant/Constable -/
def k2 : Class := { plain "java/lang/constant/Constable" (some 0) with
  accessFlags := 1537
  interfaces := #[]
  cf := some (fileOf pool2 1 #[] #[] 1537 3 #[] #[])
  fields := #[]
  methods := #[]
  instanceTypes := #[]
  staticTypes := #[]
  resolved := Array.replicate 11 none
  statics := none }

def pool3 : Array CpInfo := pool [(1, .class_ 2), (0, u "java/lang/Comparable"), (0, .class_ 4), (0, u "java/lang/Object")] 7

/-- java/lang/Comparable -/
def k3 : Class := { plain "java/lang/Comparable" (some 0) with
  accessFlags := 1537
  interfaces := #[]
  cf := some (fileOf pool3 1 #[] #[] 1537 3 #[] #[])
  fields := #[]
  methods := #[]
  instanceTypes := #[]
  staticTypes := #[]
  resolved := Array.replicate 12 none
  statics := none }

def pool4 : Array CpInfo := pool [(1, .class_ 2), (0, u "java/io/Serializable"), (0, .class_ 4), (0, u "java/lang/Object")] 2

/-- java/io/Serializable -/
def k4 : Class := { plain "java/io/Serializable" (some 0) with
  accessFlags := 1537
  interfaces := #[]
  cf := some (fileOf pool4 1 #[] #[] 1537 3 #[] #[])
  fields := #[]
  methods := #[]
  instanceTypes := #[]
  staticTypes := #[]
  resolved := Array.replicate 7 none
  statics := none }

def pool5 : Array CpInfo := pool [(2, .class_ 4), (1, u "java/lang/Enum"), (0, u "name"), (0, u "Ljava/lang/String;"), (2, u "ordinal"), (0, u "I"), (1, .class_ 14), (1, u "java/lang/Object"), (4, u "hash"), (86, .class_ 108), (1, u "java/lang/Enum$EnumDesc"), (2, .class_ 112), (0, u "java/lang/constant/Constable"), (0, .class_ 114), (0, u "java/lang/Comparable"), (0, .class_ 116), (0, u "java/io/Serializable")] 87

/-- java/lang/Enum -/
def k5 : Class := { plain "java/lang/Enum" (some 0) with
  accessFlags := 1057
  interfaces := #[2, 3, 4]
  cf := some (fileOf pool5 2 #[.nestMembers #[106]] #[] 1057 12 #[111, 113, 115] #[{ accessFlags := 18, nameIndex := 5, descriptorIndex := 6, attributes := #[] }, { accessFlags := 18, nameIndex := 9, descriptorIndex := 10, attributes := #[] }, { accessFlags := 2, nameIndex := 19, descriptorIndex := 10, attributes := #[] }])
  fields := #[{ name := "name", type := (.object "java/lang/String"), accessFlags := 18, slot := 0, constantValue := 0 }, { name := "ordinal", type := .int, accessFlags := 18, slot := 1, constantValue := 0 }, { name := "hash", type := .int, accessFlags := 2, slot := 2, constantValue := 0 }]
  methods := #[]
  instanceTypes := #[(.object "java/lang/String"), .int, .int]
  staticTypes := #[]
  resolved := Array.replicate 204 none
  statics := none }

def pool6 : Array CpInfo := pool [(1, .class_ 2), (0, u "com/example/pnorm/pnorm/model/Weighting"), (0, .fieldref 1 4), (0, .nameAndType 5 6), (0, u "EB"), (0, u "Lcom/example/pnorm/pnorm/model/Weighting;"), (2, u "TFC_TFC"), (2, u "LXC_LTC"), (2, u "LNU_LTU"), (2, u "$VALUES"), (0, u "[Lcom/example/pnorm/pnorm/model/Weighting;"), (6, .class_ 28), (1, u "java/lang/Enum"), (6, .fieldref 1 36), (0, .nameAndType 37 38), (0, u "name"), (0, u "Ljava/lang/String;"), (69, u "SLOPE"), (0, u "D"), (7, u "getName"), (0, u "()Ljava/lang/String;"), (2, u "isBinary"), (0, u "()Z")] 15

def k6c0 : Code := { maxStack := 1, maxLocals := 1, code := prog_36_method_4_code, exceptionTable := #[], attributes := #[] }
def k6m0 : Method := { name := "getName", desc := "()Ljava/lang/String;", sig := { parameters := [], returnType := some (.object "java/lang/String") }, accessFlags := 1, code := some k6c0 }
def k6c1 : Code := { maxStack := 2, maxLocals := 1, code := prog_36_method_6_code, exceptionTable := #[], attributes := #[] }
def k6m1 : Method := { name := "isBinary", desc := "()Z", sig := { parameters := [], returnType := some .boolean }, accessFlags := 1, code := some k6c1 }
/-- com/example/pnorm/pnorm/model/Weighting -/
def k6 : Class := { plain "com/example/pnorm/pnorm/model/Weighting" (some 5) with
  accessFlags := 16433
  interfaces := #[]
  cf := some (fileOf pool6 1 #[] #[{ accessFlags := 1, nameIndex := 117, descriptorIndex := 118, attributes := #[] }, { accessFlags := 1, nameIndex := 121, descriptorIndex := 122, attributes := #[] }] 16433 26 #[] #[{ accessFlags := 16409, nameIndex := 5, descriptorIndex := 6, attributes := #[] }, { accessFlags := 16409, nameIndex := 9, descriptorIndex := 6, attributes := #[] }, { accessFlags := 16409, nameIndex := 12, descriptorIndex := 6, attributes := #[] }, { accessFlags := 16409, nameIndex := 15, descriptorIndex := 6, attributes := #[] }, { accessFlags := 25, nameIndex := 108, descriptorIndex := 109, attributes := #[] }, { accessFlags := 18, nameIndex := 37, descriptorIndex := 38, attributes := #[] }, { accessFlags := 4122, nameIndex := 18, descriptorIndex := 19, attributes := #[] }])
  fields := #[{ name := "EB", type := (.object "com/example/pnorm/pnorm/model/Weighting"), accessFlags := 16409, slot := 0, constantValue := 0 }, { name := "TFC_TFC", type := (.object "com/example/pnorm/pnorm/model/Weighting"), accessFlags := 16409, slot := 1, constantValue := 0 }, { name := "LXC_LTC", type := (.object "com/example/pnorm/pnorm/model/Weighting"), accessFlags := 16409, slot := 2, constantValue := 0 }, { name := "LNU_LTU", type := (.object "com/example/pnorm/pnorm/model/Weighting"), accessFlags := 16409, slot := 3, constantValue := 0 }, { name := "SLOPE", type := .double, accessFlags := 25, slot := 4, constantValue := 0 }, { name := "name", type := (.object "java/lang/String"), accessFlags := 18, slot := 3, constantValue := 0 }, { name := "$VALUES", type := (.array (.object "com/example/pnorm/pnorm/model/Weighting")), accessFlags := 4122, slot := 5, constantValue := 0 }]
  methods := #[k6m0, k6m1]
  instanceTypes := #[(.object "java/lang/String"), .int, .int, (.object "java/lang/String")]
  staticTypes := #[(.object "com/example/pnorm/pnorm/model/Weighting"), (.object "com/example/pnorm/pnorm/model/Weighting"), (.object "com/example/pnorm/pnorm/model/Weighting"), (.object "com/example/pnorm/pnorm/model/Weighting"), .double, (.array (.object "com/example/pnorm/pnorm/model/Weighting"))]
  resolved := Array.replicate 138 none
  statics := some 0 }

def pool7 : Array CpInfo := pool [(2, .class_ 4), (1, u "java/lang/CharSequence"), (42, .class_ 48), (0, u "java/lang/CharSequence$1CodePointIterator"), (10, .class_ 60), (0, u "java/lang/CharSequence$1CharIterator"), (5, .class_ 67), (0, u "java/lang/Object")] 63

/-- java/lang/CharSequence -/
def k7 : Class := { plain "java/lang/CharSequence" (some 0) with
  accessFlags := 1537
  interfaces := #[]
  cf := some (fileOf pool7 2 #[.nestMembers #[47, 59]] #[] 1537 66 #[] #[])
  fields := #[]
  methods := #[]
  instanceTypes := #[]
  staticTypes := #[]
  resolved := Array.replicate 131 none
  statics := none }

def pool8 : Array CpInfo := pool [(1, .class_ 2), (0, u "java/lang/constant/ConstantDesc"), (0, .class_ 4), (0, u "java/lang/Object")] 32

/-- java/lang/constant/ConstantDesc -/
def k8 : Class := { plain "java/lang/constant/ConstantDesc" (some 0) with
  accessFlags := 1537
  interfaces := #[]
  cf := some (fileOf pool8 1 #[] #[] 1537 3 #[] #[])
  fields := #[]
  methods := #[]
  instanceTypes := #[]
  staticTypes := #[]
  resolved := Array.replicate 37 none
  statics := none }

def pool9 : Array CpInfo := pool [(2, .class_ 4), (1, u "java/lang/Object"), (0, u "<init>"), (0, u "()V"), (2, .fieldref 10 11), (0, .class_ 12), (0, .nameAndType 13 14), (0, u "java/lang/String"), (0, u "value"), (0, u "[B"), (0, .fieldref 10 16), (0, .nameAndType 17 18), (0, u "coder"), (0, u "B"), (2, u "hash"), (0, u "I"), (2, u "hashIsZero"), (0, u "Z"), (11, .fieldref 10 39), (0, .nameAndType 40 26), (0, u "COMPACT_STRINGS"), (66, .class_ 109), (1, u "java/lang/StringLatin1"), (431, .methodref 107 542), (0, .nameAndType 543 544), (0, u "equals"), (0, u "([B[B)Z"), (28, u "(Ljava/lang/Object;)Z"), (1, .class_ 576), (0, u "java/lang/CharSequence"), (22, u "CASE_INSENSITIVE_ORDER"), (0, u "Ljava/util/Comparator;"), (500, u "serialPersistentFields"), (0, u "[Ljava/io/ObjectStreamField;"), (0, .class_ 1104), (0, u "java/lang/String$CaseInsensitiveComparator"), (1, .class_ 1107), (0, u "java/io/Serializable"), (0, .class_ 1109), (0, u "java/lang/Comparable"), (0, .class_ 1111), (0, u "java/lang/constant/Constable"), (0, .class_ 1113), (0, u "java/lang/constant/ConstantDesc"), (2, u "serialVersionUID"), (0, u "J"), (3, u "REPL"), (0, u "C"), (2, u "LATIN1"), (1, u "UTF16")] 323

def k9m0 : Method := { name := "<init>", desc := "()V", sig := { parameters := [], returnType := none }, accessFlags := 1, code := none }
def k9c1 : Code := { maxStack := 2, maxLocals := 3, code := jdk_42_method_66_code, exceptionTable := #[], attributes := #[] }
def k9m1 : Method := { name := "equals", desc := "(Ljava/lang/Object;)Z", sig := { parameters := [(.object "java/lang/Object")], returnType := some .boolean }, accessFlags := 1, code := some k9c1 }
/-- java/lang/String -/
def k9 : Class := { plain "java/lang/String" (some 0) with
  accessFlags := 49
  interfaces := #[4, 3, 7, 2, 8]
  cf := some (fileOf pool9 10 #[.nestMembers #[1103]] #[{ accessFlags := 1, nameIndex := 5, descriptorIndex := 6, attributes := #[] }, { accessFlags := 1, nameIndex := 543, descriptorIndex := 573, attributes := #[] }] 49 2 #[1106, 1108, 575, 1110, 1112] #[{ accessFlags := 18, nameIndex := 13, descriptorIndex := 14, attributes := #[] }, { accessFlags := 18, nameIndex := 17, descriptorIndex := 18, attributes := #[] }, { accessFlags := 2, nameIndex := 21, descriptorIndex := 22, attributes := #[] }, { accessFlags := 2, nameIndex := 25, descriptorIndex := 26, attributes := #[] }, { accessFlags := 26, nameIndex := 1116, descriptorIndex := 1117, attributes := #[] }, { accessFlags := 24, nameIndex := 40, descriptorIndex := 26, attributes := #[] }, { accessFlags := 26, nameIndex := 1101, descriptorIndex := 1102, attributes := #[] }, { accessFlags := 26, nameIndex := 1121, descriptorIndex := 1122, attributes := #[] }, { accessFlags := 25, nameIndex := 599, descriptorIndex := 600, attributes := #[] }, { accessFlags := 24, nameIndex := 1125, descriptorIndex := 18, attributes := #[] }, { accessFlags := 24, nameIndex := 1127, descriptorIndex := 18, attributes := #[] }])
  fields := #[{ name := "value", type := (.array .byte), accessFlags := 18, slot := 0, constantValue := 0 }, { name := "coder", type := .byte, accessFlags := 18, slot := 1, constantValue := 0 }, { name := "hash", type := .int, accessFlags := 2, slot := 2, constantValue := 0 }, { name := "hashIsZero", type := .boolean, accessFlags := 2, slot := 3, constantValue := 0 }, { name := "serialVersionUID", type := .long, accessFlags := 26, slot := 0, constantValue := 0 }, { name := "COMPACT_STRINGS", type := .boolean, accessFlags := 24, slot := 1, constantValue := 0 }, { name := "serialPersistentFields", type := (.array (.object "java/io/ObjectStreamField")), accessFlags := 26, slot := 2, constantValue := 0 }, { name := "REPL", type := .char, accessFlags := 26, slot := 3, constantValue := 0 }, { name := "CASE_INSENSITIVE_ORDER", type := (.object "java/util/Comparator"), accessFlags := 25, slot := 4, constantValue := 0 }, { name := "LATIN1", type := .byte, accessFlags := 24, slot := 5, constantValue := 0 }, { name := "UTF16", type := .byte, accessFlags := 24, slot := 6, constantValue := 0 }]
  methods := #[k9m0, k9m1]
  instanceTypes := #[(.array .byte), .byte, .int, .boolean]
  staticTypes := #[.long, .boolean, (.array (.object "java/io/ObjectStreamField")), .char, (.object "java/util/Comparator"), .byte, .byte]
  resolved := Array.replicate 1451 none
  statics := some 1 }

def pool10 : Array CpInfo := pool [(4, .class_ 6), (1, u "java/lang/Object"), (0, u "<init>"), (0, u "()V"), (5, .class_ 16), (1, u "java/lang/StringLatin1"), (104, u "$assertionsDisabled"), (0, u "Z"), (98, .class_ 223), (1, u "java/lang/StringLatin1$LinesSpliterator"), (57, u "equals"), (0, u "([B[B)Z"), (107, .class_ 391), (0, u "java/lang/StringLatin1$CharsSpliterator")] 3

def k10m0 : Method := { name := "<init>", desc := "()V", sig := { parameters := [], returnType := none }, accessFlags := 0, code := none }
def k10c1 : Code := { maxStack := 3, maxLocals := 3, code := jdk_43_method_13_code, exceptionTable := #[], attributes := #[] }
def k10m1 : Method := { name := "equals", desc := "([B[B)Z", sig := { parameters := [(.array .byte), (.array .byte)], returnType := some .boolean }, accessFlags := 9, code := some k10c1 }
/-- java/lang/StringLatin1 -/
def k10 : Class := { plain "java/lang/StringLatin1" (some 0) with
  accessFlags := 48
  interfaces := #[]
  cf := some (fileOf pool10 14 #[.nestMembers #[390, 221]] #[{ accessFlags := 0, nameIndex := 7, descriptorIndex := 8, attributes := #[] }, { accessFlags := 9, nameIndex := 281, descriptorIndex := 282, attributes := #[] }] 48 4 #[] #[{ accessFlags := 4120, nameIndex := 121, descriptorIndex := 122, attributes := #[] }])
  fields := #[{ name := "$assertionsDisabled", type := .boolean, accessFlags := 4120, slot := 0, constantValue := 0 }]
  methods := #[k10m0, k10m1]
  instanceTypes := #[]
  staticTypes := #[.boolean]
  resolved := Array.replicate 395 none
  statics := none }

def pool11 : Array CpInfo := pool [(2, .class_ 4), (1, u "java/lang/Object"), (0, u "<init>"), (0, u "()V"), (17, .class_ 26), (1, u "jdk/internal/util/Preconditions"), (28, .class_ 56), (0, u "jdk/internal/util/Preconditions$4"), (57, .class_ 115), (0, u "jdk/internal/util/Preconditions$1"), (7, u "SIOOBE_FORMATTER"), (0, u "Ljava/util/function/BiFunction;"), (0, .class_ 126), (0, u "jdk/internal/util/Preconditions$2"), (3, u "AIOOBE_FORMATTER"), (0, .class_ 132), (0, u "jdk/internal/util/Preconditions$3"), (3, u "IOOBE_FORMATTER")] 57

def k11m0 : Method := { name := "<init>", desc := "()V", sig := { parameters := [], returnType := none }, accessFlags := 1, code := none }
/-- jdk/internal/util/Preconditions -/
def k11 : Class := { plain "jdk/internal/util/Preconditions" (some 0) with
  accessFlags := 33
  interfaces := #[]
  cf := some (fileOf pool11 24 #[.nestMembers #[55, 131, 125, 114]] #[{ accessFlags := 1, nameIndex := 5, descriptorIndex := 6, attributes := #[] }] 33 2 #[] #[{ accessFlags := 25, nameIndex := 123, descriptorIndex := 124, attributes := #[] }, { accessFlags := 25, nameIndex := 130, descriptorIndex := 124, attributes := #[] }, { accessFlags := 25, nameIndex := 136, descriptorIndex := 124, attributes := #[] }])
  fields := #[{ name := "SIOOBE_FORMATTER", type := (.object "java/util/function/BiFunction"), accessFlags := 25, slot := 0, constantValue := 0 }, { name := "AIOOBE_FORMATTER", type := (.object "java/util/function/BiFunction"), accessFlags := 25, slot := 1, constantValue := 0 }, { name := "IOOBE_FORMATTER", type := (.object "java/util/function/BiFunction"), accessFlags := 25, slot := 2, constantValue := 0 }]
  methods := #[k11m0]
  instanceTypes := #[]
  staticTypes := #[(.object "java/util/function/BiFunction"), (.object "java/util/function/BiFunction"), (.object "java/util/function/BiFunction")]
  resolved := Array.replicate 194 none
  statics := some 2 }

def pool12 : Array CpInfo := pool [(9, u "<init>"), (6, .class_ 18), (1, u "java/lang/Object"), (0, u "()V"), (1, .class_ 23), (1, u "jdk/internal/util/ArraysSupport"), (0, u "LOG2_ARRAY_LONG_INDEX_SCALE"), (0, u "I"), (2, u "U"), (0, u "Ljdk/internal/misc/Unsafe;"), (8, u "BIG_ENDIAN"), (0, u "Z"), (8, u "LOG2_BYTE_BIT_SIZE"), (4, u "LOG2_ARRAY_INT_INDEX_SCALE"), (54, u "JLA"), (0, u "Ljdk/internal/access/JavaLangAccess;"), (11, u "LOG2_ARRAY_BOOLEAN_INDEX_SCALE"), (9, u "LOG2_ARRAY_BYTE_INDEX_SCALE"), (5, u "LOG2_ARRAY_CHAR_INDEX_SCALE"), (5, u "LOG2_ARRAY_SHORT_INDEX_SCALE"), (18, u "LOG2_ARRAY_FLOAT_INDEX_SCALE"), (24, u "LOG2_ARRAY_DOUBLE_INDEX_SCALE"), (89, u "T_BOOLEAN"), (2, u "T_CHAR"), (1, u "T_FLOAT"), (1, u "T_DOUBLE"), (1, u "T_BYTE"), (1, u "T_SHORT"), (1, u "T_INT"), (1, u "T_LONG"), (1, u "SOFT_MAX_ARRAY_LENGTH")] 83

def k12m0 : Method := { name := "<init>", desc := "()V", sig := { parameters := [], returnType := none }, accessFlags := 2, code := none }
/-- jdk/internal/util/ArraysSupport -/
def k12 : Class := { plain "jdk/internal/util/ArraysSupport" (some 0) with
  accessFlags := 33
  interfaces := #[]
  cf := some (fileOf pool12 21 #[] #[{ accessFlags := 2, nameIndex := 9, descriptorIndex := 19, attributes := #[] }] 33 16 #[] #[{ accessFlags := 24, nameIndex := 28, descriptorIndex := 29, attributes := #[] }, { accessFlags := 26, nameIndex := 38, descriptorIndex := 39, attributes := #[] }, { accessFlags := 25, nameIndex := 121, descriptorIndex := 25, attributes := #[] }, { accessFlags := 25, nameIndex := 131, descriptorIndex := 25, attributes := #[] }, { accessFlags := 25, nameIndex := 137, descriptorIndex := 25, attributes := #[] }, { accessFlags := 25, nameIndex := 143, descriptorIndex := 25, attributes := #[] }, { accessFlags := 25, nameIndex := 53, descriptorIndex := 25, attributes := #[] }, { accessFlags := 25, nameIndex := 24, descriptorIndex := 25, attributes := #[] }, { accessFlags := 25, nameIndex := 162, descriptorIndex := 25, attributes := #[] }, { accessFlags := 25, nameIndex := 187, descriptorIndex := 25, attributes := #[] }, { accessFlags := 26, nameIndex := 48, descriptorIndex := 25, attributes := #[] }, { accessFlags := 25, nameIndex := 277, descriptorIndex := 25, attributes := #[] }, { accessFlags := 25, nameIndex := 280, descriptorIndex := 25, attributes := #[] }, { accessFlags := 25, nameIndex := 282, descriptorIndex := 25, attributes := #[] }, { accessFlags := 25, nameIndex := 284, descriptorIndex := 25, attributes := #[] }, { accessFlags := 25, nameIndex := 286, descriptorIndex := 25, attributes := #[] }, { accessFlags := 25, nameIndex := 288, descriptorIndex := 25, attributes := #[] }, { accessFlags := 25, nameIndex := 290, descriptorIndex := 25, attributes := #[] }, { accessFlags := 25, nameIndex := 292, descriptorIndex := 25, attributes := #[] }, { accessFlags := 26, nameIndex := 108, descriptorIndex := 109, attributes := #[] }, { accessFlags := 25, nameIndex := 294, descriptorIndex := 25, attributes := #[] }])
  fields := #[{ name := "U", type := (.object "jdk/internal/misc/Unsafe"), accessFlags := 24, slot := 0, constantValue := 0 }, { name := "BIG_ENDIAN", type := .boolean, accessFlags := 26, slot := 1, constantValue := 0 }, { name := "LOG2_ARRAY_BOOLEAN_INDEX_SCALE", type := .int, accessFlags := 25, slot := 2, constantValue := 0 }, { name := "LOG2_ARRAY_BYTE_INDEX_SCALE", type := .int, accessFlags := 25, slot := 3, constantValue := 0 }, { name := "LOG2_ARRAY_CHAR_INDEX_SCALE", type := .int, accessFlags := 25, slot := 4, constantValue := 0 }, { name := "LOG2_ARRAY_SHORT_INDEX_SCALE", type := .int, accessFlags := 25, slot := 5, constantValue := 0 }, { name := "LOG2_ARRAY_INT_INDEX_SCALE", type := .int, accessFlags := 25, slot := 6, constantValue := 0 }, { name := "LOG2_ARRAY_LONG_INDEX_SCALE", type := .int, accessFlags := 25, slot := 7, constantValue := 0 }, { name := "LOG2_ARRAY_FLOAT_INDEX_SCALE", type := .int, accessFlags := 25, slot := 8, constantValue := 0 }, { name := "LOG2_ARRAY_DOUBLE_INDEX_SCALE", type := .int, accessFlags := 25, slot := 9, constantValue := 0 }, { name := "LOG2_BYTE_BIT_SIZE", type := .int, accessFlags := 26, slot := 10, constantValue := 0 }, { name := "T_BOOLEAN", type := .int, accessFlags := 25, slot := 11, constantValue := 0 }, { name := "T_CHAR", type := .int, accessFlags := 25, slot := 12, constantValue := 0 }, { name := "T_FLOAT", type := .int, accessFlags := 25, slot := 13, constantValue := 0 }, { name := "T_DOUBLE", type := .int, accessFlags := 25, slot := 14, constantValue := 0 }, { name := "T_BYTE", type := .int, accessFlags := 25, slot := 15, constantValue := 0 }, { name := "T_SHORT", type := .int, accessFlags := 25, slot := 16, constantValue := 0 }, { name := "T_INT", type := .int, accessFlags := 25, slot := 17, constantValue := 0 }, { name := "T_LONG", type := .int, accessFlags := 25, slot := 18, constantValue := 0 }, { name := "JLA", type := (.object "jdk/internal/access/JavaLangAccess"), accessFlags := 26, slot := 19, constantValue := 0 }, { name := "SOFT_MAX_ARRAY_LENGTH", type := .int, accessFlags := 25, slot := 20, constantValue := 0 }]
  methods := #[k12m0]
  instanceTypes := #[]
  staticTypes := #[(.object "jdk/internal/misc/Unsafe"), .boolean, .int, .int, .int, .int, .int, .int, .int, .int, .int, .int, .int, .int, .int, .int, .int, .int, .int, (.object "jdk/internal/access/JavaLangAccess"), .int]
  resolved := Array.replicate 378 none
  statics := none }

def pool13 : Array CpInfo := pool [(1, u "java/lang/Cloneable"), (0, .class_ 1), (0, u "java/lang/Object"), (0, .class_ 3)] 3

/-- java/lang/Cloneable -/
def k13 : Class := { plain "java/lang/Cloneable" (some 0) with
  accessFlags := 1537
  interfaces := #[]
  cf := some (fileOf pool13 2 #[] #[] 1537 4 #[] #[])
  fields := #[]
  methods := #[]
  instanceTypes := #[]
  staticTypes := #[]
  resolved := Array.replicate 8 none
  statics := none }

/-- the primitive byte -/
def k14 : Class := { plain "byte" none with kind := .primitive 'B', accessFlags := 0x411 }
/-- [B -/
def k15 : Class := { plain "[B" (some 0) with kind := .array 14 .byte, interfaces := #[13, 4], accessFlags := 1041 }

/-- the primitive int -/
def k16 : Class := { plain "int" none with kind := .primitive 'I', accessFlags := 0x411 }
/-- [I -/
def k17 : Class := { plain "[I" (some 0) with kind := .array 16 .int, interfaces := #[13, 4], accessFlags := 1041 }

/-- [Lcom/example/pnorm/pnorm/model/Weighting; -/
def k18 : Class := { plain "[Lcom/example/pnorm/pnorm/model/Weighting;" (some 0) with kind := .array 6 (.object "com/example/pnorm/pnorm/model/Weighting"), interfaces := #[13, 4], accessFlags := 1041 }

def heap : Heap := #[{ cls := 6, slots := #[.ref 3, .ref 4, .ref 5, .ref 6, .double 0, .null], vm := .statics 6 },
  { cls := 9, slots := #[.long 0, .int 1, .null, .int 0, .null, .int 0, .int 0], vm := .statics 9 },
  { cls := 11, slots := #[.null, .null, .null], vm := .statics 11 },
  { cls := 6, slots := #[.null, .int 0, .int 0, .ref 7], vm := .none },
  { cls := 6, slots := #[.null, .int 1, .int 0, .ref 8], vm := .none },
  { cls := 6, slots := #[.null, .int 2, .int 0, .ref 9], vm := .none },
  { cls := 6, slots := #[.null, .int 3, .int 0, .ref 10], vm := .none },
  { cls := 9, slots := #[.ref 11, .int 0, .int 0, .int 0], vm := .none },
  { cls := 9, slots := #[.ref 12, .int 0, .int 0, .int 0], vm := .none },
  { cls := 9, slots := #[.ref 13, .int 0, .int 0, .int 0], vm := .none },
  { cls := 9, slots := #[.ref 14, .int 0, .int 0, .int 0], vm := .none },
  { cls := 15, slots := #[.int 101, .int 98], vm := .none },
  { cls := 15, slots := #[.int 116, .int 102, .int 99, .int 46, .int 116, .int 102, .int 99], vm := .none },
  { cls := 15, slots := #[.int 108, .int 120, .int 99, .int 46, .int 108, .int 116, .int 99], vm := .none },
  { cls := 15, slots := #[.int 76, .int 110, .int 117, .int 46, .int 108, .int 116, .int 117], vm := .none }]
def classes : Array Class := #[k0, k1, k2, k3, k4, k5, k6, k7, k8, k9, k10, k11, k12, k13, k14, k15, k16, k17, k18]
def interned : List (Array UInt16 × Addr) := []
def slotsUsed : Nat := 71
def theMethod : MethodId := ⟨1, 1⟩
def args0 : Array Value := #[.int 4]
def aboutOver (below : List Frame) : State where
  vm := { classes := classes, interned := interned.toArray }
  heap := heap
  slotsUsed := slotsUsed
  threads := #[{ frames := .invoking theMethod args0 :: below }]
def below0 : List Frame := [.native { method := ⟨0, 0⟩, args := #[] }]
def about1 : State := aboutOver below0
def p0 : Program := .bare "" "" ""
def e0 : Env := launch0.env 0 0 0
theorem w_frames : about1.frames = Frame.invoking theMethod args0 :: below0 := rfl
set_option maxRecDepth 65536 in
theorem w_args : argsFit about1.vm theMethod args0 = true := by decide +kernel
set_option maxRecDepth 65536 in
theorem w_heap : heapFits about1 = true := by decide +kernel
set_option maxRecDepth 65536 in
theorem w_runnable : about1.curStatus? = some .runnable := by decide +kernel
set_option maxRecDepth 65536 in
theorem w_alone : about1.alone = true := by decide +kernel
set_option maxRecDepth 65536 in
theorem w_named : about1.methodNamed? x = some theMethod := by decide +kernel
set_option maxRecDepth 65536 in
theorem w_hears : about1.hears theMethod below0 = true := by decide +kernel
set_option maxRecDepth 65536 in
theorem w_ripe : about1.ripe theMethod args0 below0 = true := by decide +kernel
theorem w_running : about1.status = .running := rfl
set_option maxRecDepth 65536 in
theorem w_room : about1.hasRoom e0.platform room_1 = true :=
  launch0.hasRoom_least _ room_1 (by decide +kernel) (by decide +kernel) (by decide +kernel) (by decide +kernel) (by decide +kernel) (by decide +kernel)
theorem allAtoms_all (ts : List Jvm.Cond) (a : Array Jvm.Value) (st : Jvm.State) : (allAtoms ts).before a st = ts.all (fun c => c.before a st) := by
  induction ts with
  | nil => rfl
  | cons c t ih =>
    show (Jvm.Cond.and c (allAtoms t)).before a st = _
    rw [Jvm.Cond.before_and, ih, List.all_cons]
def words1 : List Jvm.Cond := Jvm.Cond.code x code maxLocals ret :: tables_1
/-- a 'code' word, met by the world's own term for the bytes: nothing is compared byte by byte -/
theorem code_word {y : MethodName} {bytes : ByteArray} {mx : Nat} {rt : Option FieldType} {a : Array Value} {s : State} {m : MethodId} {meth : Method} {c : Code} (h1 : s.methodNamed? y = some m) (h2 : s.vm.method? m = some meth) (h3 : meth.code = some c) (h4 : c.code = bytes)
    (h5 : (c.maxLocals == mx && c.exceptionTable.isEmpty && decide (c.maxStack ≤ mostOperands) && decide (meth.sig.returnType = rt) && !meth.locks && decide (parseMethodDescriptor y.desc = some meth.sig)) = true) : (Jvm.Cond.code y bytes mx rt).before a s = true := by
  simp only [Bool.and_eq_true, beq_iff_eq, Bool.not_eq_true', decide_eq_true_eq] at h5
  obtain ⟨⟨⟨⟨⟨g1, g2⟩, g3⟩, g4⟩, g5⟩, g6⟩ := h5
  simp [Cond.before, Cond.holds, Cond.value, h1, h2, h3, h4, g1, g2, g3, g4, g5, g6]
def isCode : Jvm.Cond → Bool
  | .code _ _ _ _ => true
  | _ => false
theorem all_split {L : List Jvm.Cond} {P : Jvm.Cond → Bool} (h1 : L.all (fun c => isCode c || P c) = true) (h2 : ∀ c ∈ L.filter isCode, P c = true) : L.all P = true := by
  refine List.all_eq_true.mpr fun c hc => ?_
  have h := List.all_eq_true.mp h1 c hc
  rcases Bool.eq_false_or_eq_true (isCode c) with hi | hi
  · exact h2 c (List.mem_filter.mpr ⟨hc, hi⟩)
  · simpa [hi] using h
set_option maxRecDepth 65536 in
theorem w_c0 : (Jvm.Cond.code x code maxLocals ret).before args0 about1 = true := code_word (m := ⟨1, 1⟩) (meth := k1m1) (c := k1c1) (by decide +kernel) rfl rfl rfl (by decide +kernel)
set_option maxRecDepth 65536 in
theorem w_c1 : (Jvm.Cond.code ({ cls := "com/example/pnorm/pnorm/model/Weighting", name := "isBinary", desc := "()Z" } : Jvm.MethodName) prog_36_method_6_code (1 : Nat) (Option.some Jvm.ClassFile.FieldType.boolean)).before args0 about1 = true := code_word (m := ⟨6, 1⟩) (meth := k6m1) (c := k6c1) (by decide +kernel) rfl rfl rfl (by decide +kernel)
set_option maxRecDepth 65536 in
theorem w_c2 : (Jvm.Cond.code ({ cls := "com/example/pnorm/pnorm/model/Weighting", name := "getName", desc := "()Ljava/lang/String;" } : Jvm.MethodName) prog_36_method_4_code (1 : Nat) (Option.some (Jvm.ClassFile.FieldType.object "java/lang/String"))).before args0 about1 = true := code_word (m := ⟨6, 0⟩) (meth := k6m0) (c := k6c0) (by decide +kernel) rfl rfl rfl (by decide +kernel)
set_option maxRecDepth 65536 in
theorem w_c3 : (Jvm.Cond.code ({ cls := "java/lang/String", name := "equals", desc := "(Ljava/lang/Object;)Z" } : Jvm.MethodName) jdk_42_method_66_code (3 : Nat) (Option.some Jvm.ClassFile.FieldType.boolean)).before args0 about1 = true := code_word (m := ⟨9, 1⟩) (meth := k9m1) (c := k9c1) (by decide +kernel) rfl rfl rfl (by decide +kernel)
set_option maxRecDepth 65536 in
theorem w_c4 : (Jvm.Cond.code ({ cls := "java/lang/StringLatin1", name := "equals", desc := "([B[B)Z" } : Jvm.MethodName) jdk_43_method_13_code (3 : Nat) (Option.some Jvm.ClassFile.FieldType.boolean)).before args0 about1 = true := code_word (m := ⟨10, 1⟩) (meth := k10m1) (c := k10c1) (by decide +kernel) rfl rfl rfl (by decide +kernel)
def codes1 : List Jvm.Cond := [Jvm.Cond.code x code maxLocals ret, Jvm.Cond.code ({ cls := "com/example/pnorm/pnorm/model/Weighting", name := "isBinary", desc := "()Z" } : Jvm.MethodName) prog_36_method_6_code (1 : Nat) (Option.some Jvm.ClassFile.FieldType.boolean), Jvm.Cond.code ({ cls := "com/example/pnorm/pnorm/model/Weighting", name := "getName", desc := "()Ljava/lang/String;" } : Jvm.MethodName) prog_36_method_4_code (1 : Nat) (Option.some (Jvm.ClassFile.FieldType.object "java/lang/String")), Jvm.Cond.code ({ cls := "java/lang/String", name := "equals", desc := "(Ljava/lang/Object;)Z" } : Jvm.MethodName) jdk_42_method_66_code (3 : Nat) (Option.some Jvm.ClassFile.FieldType.boolean), Jvm.Cond.code ({ cls := "java/lang/StringLatin1", name := "equals", desc := "([B[B)Z" } : Jvm.MethodName) jdk_43_method_13_code (3 : Nat) (Option.some Jvm.ClassFile.FieldType.boolean)]
set_option maxRecDepth 65536 in
theorem codes_eq : words1.filter isCode = codes1 := rfl
theorem w_codes : ∀ c ∈ words1.filter isCode, c.before args0 about1 = true := by
  rw [codes_eq]
  intro c hc
  simp only [codes1, List.mem_cons, List.not_mem_nil, or_false] at hc
  rcases hc with rfl | rfl | rfl | rfl | rfl
  · exact w_c0
  · exact w_c1
  · exact w_c2
  · exact w_c3
  · exact w_c4
set_option maxRecDepth 65536 in
theorem w_t1 : (words1.take 24).all (fun c => isCode c || c.before args0 about1) = true := by decide +kernel
set_option maxRecDepth 65536 in
theorem w_t2 : (words1.drop 24).all (fun c => isCode c || c.before args0 about1) = true := by decide +kernel
theorem w_tables : (allAtoms (Jvm.Cond.code x code maxLocals ret :: tables_1)).before args0 about1 = true := by
  rw [allAtoms_all]
  show words1.all (fun c => c.before args0 about1) = true
  refine all_split ?_ w_codes
  rw [← List.take_append_drop 24 words1, List.all_append, w_t1, w_t2]
  rfl
set_option maxRecDepth 65536 in
theorem w_rest : rest_1_c.before args0 about1 = true := by decide +kernel
set_option maxRecDepth 65536 in
theorem w_case : (Jvm.Cond.and given_1 narrow_1).before args0 about1 = true := by decide +kernel
set_option maxRecDepth 65536 in
theorem w_consts : constsHeld consts_1 about1 := Jvm.Lit.constsHeldB_iff.mp (by decide +kernel)
theorem w_applies : (headSpec (Jvm.Cond.code x code maxLocals ret :: tables_1) room_1).applies x e0.platform about1 = true :=
  (Spec.applies_iff w_frames).mpr ⟨w_running, w_runnable, w_alone, w_named, w_hears, w_ripe, w_room, w_tables⟩
theorem atStart : AtStart classFile x code maxLocals ret World_1 tables_1 room_1 Calls_1 rest_1 Pre_1 launch0 p0 e0 about1 theMethod args0 below0 :=
  ⟨lists_1, trivial, launch0.admits_env _ _ _, launch0.least_env, fairChoices_fair.cas, fairChoices_fair.clock, w_frames, w_args, w_heap, w_applies, ⟨w_consts, trivial⟩, w_rest, w_case⟩
end start1
theorem witness_1 : WitnessClaimed_1 := ⟨start1.p0, start1.e0, start1.about1, start1.theMethod, start1.args0, start1.below0, start1.atStart⟩
end Jvm.Pilot.@@N@@
