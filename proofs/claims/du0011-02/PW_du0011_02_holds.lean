import PyProof.Rows.All
import Wide.All
import OpenK.AllK
import Wide.FinOn
import PyProof.NeKinds
import KE.KLcPair
import KE.KLam
import PyProof.ZipIter
import KE.KMinKey
import PyProof.ListMulRoad
import PyProof.ListIndexNeg
import PyProof.Rows.CatchTuple
import PySem.Challenge.RW_du0011_02
open PySem PySem.W PyProof.Rows
set_option autoImplicit false
set_option Elab.async false
set_option maxRecDepth 100000
set_option linter.unusedVariables false
set_option genSizeOf false
set_option genInjectivity false
section
section
namespace Mine
inductive CmpL (R : Value → Value → Bool → Bool → Prop) : List Value → List Value → Bool → Bool → Prop
  | nil : CmpL R [] [] true false
  | cons {x y : Value} {xs ys : List Value} {e l e' l' : Bool} : R x y e l → CmpL R xs ys e' l' → CmpL R (x :: xs) (y :: ys) (e && e') (if e = true then l' else l)
noncomputable abbrev tupOf (vs : List Value) (n : Nat) : Obj := { cls := .type "tuple", data := .seq vs.toArray n }
noncomputable def Cmp (h : Heap) : Nat → Value → Value → Bool → Bool → Prop
  | 0, v, w, e, l => ∃ x t y u, v = .int x t ∧ w = .int y u ∧ e = decide (x = y) ∧ l = decide (x < y)
  | k + 1, v, w, e, l => Cmp h k v w e l ∨ ∃ a b xs ys n n', v = .ref a ∧ w = .ref b ∧ h.get? a = some (tupOf xs n) ∧ h.get? b = some (tupOf ys n') ∧ CmpL (Cmp h k) xs ys e l
theorem CmpL.len {R : Value → Value → Bool → Bool → Prop} {xs ys : List Value} {e l : Bool} (h : CmpL R xs ys e l) : xs.length = ys.length := by
  induction h with
  | nil => rfl
  | cons _ _ ih => simp [ih]
theorem CmpL.self {R : Value → Value → Bool → Bool → Prop} (hR : ∀ v e l, R v v e l → e = true ∧ l = false) : ∀ {xs : List Value} {e l : Bool}, CmpL R xs xs e l → e = true ∧ l = false := by
  intro xs
  induction xs with
  | nil => intro e l h; cases h; exact ⟨rfl, rfl⟩
  | cons x xs ih =>
    intro e l h
    cases h with
    | cons h1 h2 =>
      obtain ⟨rfl, rfl⟩ := hR _ _ _ h1
      obtain ⟨rfl, rfl⟩ := ih h2
      exact ⟨rfl, rfl⟩
theorem Cmp.self {h : Heap} : ∀ (k : Nat) (v : Value) (e l : Bool), Cmp h k v v e l → e = true ∧ l = false := by
  intro k
  induction k with
  | zero =>
    intro v e l hh
    obtain ⟨x, t, y, u, h1, h2, h3, h4⟩ := hh
    rw [h1] at h2; cases h2
    simp at h3 h4; exact ⟨h3, h4⟩
  | succ k ih =>
    intro v e l hh
    rcases hh with hh | ⟨a, b, xs, ys, n, n', h1, h2, h3, h4, h5⟩
    · exact ih v e l hh
    · rw [h1] at h2; cases h2
      rw [h3] at h4
      have e1 := Option.some.inj h4
      have e2 : Data.seq xs.toArray n = Data.seq ys.toArray n' := congrArg Obj.data e1
      injection e2 with e3 _
      have e4 : xs = ys := by simpa using congrArg Array.toList e3
      subst e4
      exact CmpL.self ih h5
section
variable {prog : Program} {w : World} {E : Value → Shared → Prop} {s : Shared}
theorem tup_lt_eq (a b : Value) : Builtin.«tuple.__lt__» ⟨[a, b], []⟩ = (do
  if !(← isInstance b (.type "tuple")) then return ← ret .notImplemented
  let xs ← Builtin.Tuple.tupleItemsOf a
  let ys ← Builtin.Tuple.tupleItemsOf b
  for (x, y) in xs.toList.zip ys.toList do
    if !(← eqBool x y) then
      rule "tuple.compare.by-the-first-pair-that-differs"
      return ← ret (← richCompare .Lt x y)
  ret (.bool (decide (xs.size < ys.size)))) := rfl
theorem tup_eq_eq (a b : Value) : Builtin.«tuple.__eq__» ⟨[a, b], []⟩ = (do
  if !(← isInstance b (.type "tuple")) then return ← ret .notImplemented
  let xs ← Builtin.Tuple.tupleItemsOf a
  let ys ← Builtin.Tuple.tupleItemsOf b
  for (x, y) in xs.toList.zip ys.toList do
    if !(← eqBool x y) then
      return ← ret (.bool false)
  ret (.bool (xs.size == ys.size))) := rfl
variable {A : Around}
theorem tup_lt_tree {R : Value → Value → Bool → Bool → Prop} {a b : Addr} {xs ys : List Value} {n n' : Nat} {e l : Bool} {P : PySem.Fin → Shared → Prop}
    (ha : s.heap.get? a = some (tupOf xs n)) (hb : s.heap.get? b = some (tupOf ys n')) (hc : CmpL R xs ys e l)
    (hR : ∀ x y e l, R x y e l → (∀ Q : Bool → Shared → Prop, Q e s → wpAny (model prog w) A (eqBool x y) Q E s) ∧ (∀ Q : Value → Shared → Prop, Q (.bool l) s → wpAny (model prog w) A (richCompare .Lt x y) Q E s))
    (h : P (.done (.ret (.bool l))) s) : wpAny (model prog w) A (Builtin.«tuple.__lt__» ⟨[.ref a, .ref b], []⟩) P E s := by
  rw [tup_lt_eq]
  refine wpAny_bind (wpAny_isInstance (T := "tuple") ⟨_, hb, rfl⟩ isSubtype_tuple_tuple ?_)
  simp only [Bool.not_true, Bool.false_eq_true, if_false]
  refine wpAny_bind (wpAny_tupleItemsOf ha rfl ?_)
  refine wpAny_bind (wpAny_tupleItemsOf hb rfl ?_)
  refine wpAny_bind ?_
  refine wpAny_forIn_list _
    (fun rest r s' => r.1 = none ∧ s' = s ∧ ∃ xs' ys' e' l', rest = List.zip xs' ys' ∧ CmpL R xs' ys' e' l' ∧ l' = l)
    _ ?_ ?_ _ _ ⟨rfl, rfl, xs, ys, e, l, rfl, hc, rfl⟩
  · rintro ⟨u, v⟩ rest r s' ⟨hr, rfl, xs', ys', e', l', hz, hc', rfl⟩
    cases hc' with
    | nil => simp at hz
    | @cons x y xs'' ys'' e1 l1 e2 l2 h1 h2 =>
      simp only [List.zip_cons_cons, List.cons.injEq, Prod.mk.injEq] at hz
      obtain ⟨⟨rfl, rfl⟩, rfl⟩ := hz
      refine wpAny_bind ((hR _ _ _ _ h1).1 _ ?_)
      cases e1 with
      | true =>
        simp only [Bool.not_true, Bool.false_eq_true, if_false, if_true] at h ⊢
        exact wpAny_pure ⟨rfl, rfl, xs'', ys'', e2, _, rfl, h2, rfl⟩
      | false =>
        simp only [Bool.not_false, if_true, Bool.false_eq_true, if_false] at h ⊢
        refine wpAny_bind (wpAny_rule (wpAny_bind ((hR _ _ _ _ h1).2 _ ?_)))
        exact wpAny_bind (wpAny_pure (wpAny_pure (wpAny_pure h)))
  · rintro ⟨r1, r2⟩ s' ⟨hr, rfl, xs', ys', e', l', hz, hc', rfl⟩
    simp only at hr
    subst hr
    refine wpAny_pure ?_
    have hl : l' = false := by
      cases hc' with
      | nil => rfl
      | cons _ _ => simp at hz
    have hsz : decide (xs.toArray.size < ys.toArray.size) = false := by
      have := hc.len
      simp [this]
    show P (.done (.ret (.bool (decide (xs.toArray.size < ys.toArray.size))))) s'
    rw [hsz, ← hl]; exact h
theorem tup_eq_tree {R : Value → Value → Bool → Bool → Prop} {a b : Addr} {xs ys : List Value} {n n' : Nat} {e l : Bool} {P : PySem.Fin → Shared → Prop}
    (ha : s.heap.get? a = some (tupOf xs n)) (hb : s.heap.get? b = some (tupOf ys n')) (hc : CmpL R xs ys e l)
    (hR : ∀ x y e l, R x y e l → (∀ Q : Bool → Shared → Prop, Q e s → wpAny (model prog w) A (eqBool x y) Q E s))
    (h : P (.done (.ret (.bool e))) s) : wpAny (model prog w) A (Builtin.«tuple.__eq__» ⟨[.ref a, .ref b], []⟩) P E s := by
  rw [tup_eq_eq]
  refine wpAny_bind (wpAny_isInstance (T := "tuple") ⟨_, hb, rfl⟩ isSubtype_tuple_tuple ?_)
  simp only [Bool.not_true, Bool.false_eq_true, if_false]
  refine wpAny_bind (wpAny_tupleItemsOf ha rfl ?_)
  refine wpAny_bind (wpAny_tupleItemsOf hb rfl ?_)
  refine wpAny_bind ?_
  refine wpAny_forIn_list _
    (fun rest r s' => r.1 = none ∧ s' = s ∧ ∃ xs' ys' e' l', rest = List.zip xs' ys' ∧ CmpL R xs' ys' e' l' ∧ e' = e)
    _ ?_ ?_ _ _ ⟨rfl, rfl, xs, ys, e, l, rfl, hc, rfl⟩
  · rintro ⟨u, v⟩ rest r s' ⟨hr, rfl, xs', ys', e', l', hz, hc', rfl⟩
    cases hc' with
    | nil => simp at hz
    | @cons x y xs'' ys'' e1 l1 e2 l2 h1 h2 =>
      simp only [List.zip_cons_cons, List.cons.injEq, Prod.mk.injEq] at hz
      obtain ⟨⟨rfl, rfl⟩, rfl⟩ := hz
      refine wpAny_bind (hR _ _ _ _ h1 _ ?_)
      cases e1 with
      | true =>
        simp only [Bool.not_true, Bool.false_eq_true, if_false, Bool.true_and] at h ⊢
        exact wpAny_pure ⟨rfl, rfl, xs'', ys'', _, l2, rfl, h2, rfl⟩
      | false =>
        simp only [Bool.not_false, if_true, Bool.false_and] at h ⊢
        exact wpAny_bind (wpAny_pure (wpAny_pure (wpAny_pure h)))
  · rintro ⟨r1, r2⟩ s' ⟨hr, rfl, xs', ys', e', l', hz, hc', rfl⟩
    simp only at hr
    subst hr
    refine wpAny_pure ?_
    have hl : e' = true := by
      cases hc' with
      | nil => rfl
      | cons _ _ => simp at hz
    have hsz : (xs.toArray.size == ys.toArray.size) = true := by
      have := hc.len
      simp [this]
    show P (.done (.ret (.bool (xs.toArray.size == ys.toArray.size)))) s'
    rw [hsz, ← hl]; exact h
theorem cmp_all : ∀ (k : Nat) {A : Around} (_ : A.units + k < cLine) {v w' : Value} {e l : Bool}, Cmp s.heap k v w' e l →
    (∀ Q : Bool → Shared → Prop, Q e s → wpAny (model prog w) A (eqBool v w') Q E s) ∧
    (∀ Q : Value → Shared → Prop, Q (.bool e) s → wpAny (model prog w) A (richCompare .Eq v w') Q E s) ∧
    (∀ Q : Value → Shared → Prop, Q (.bool l) s → wpAny (model prog w) A (richCompare .Lt v w') Q E s) := by
  intro k
  induction k with
  | zero =>
    intro A hu v w' e l hh
    obtain ⟨x, t, y, u, h1, h2, h3, h4⟩ := hh
    subst h1 h2 h3 h4
    have r1 : ∀ Q : Value → Shared → Prop, Q (.bool (decide (x = y))) s → wpAny (model prog w) A (richCompare .Eq (.int x t) (.int y u)) Q E s := fun Q h => by
      have := eq_int (prog := prog) (w := w) (A := A) (E := E) (s := s) (a := x) (b := y) (t := t) (u := u) (Q := Q) (by rw [show (x == y) = decide (x = y) from rfl]; exact h)
      exact this
    refine ⟨fun Q h => ?_, r1, fun Q h => ?_⟩
    · unfold eqBool
      refine wpAny_holding ?_
      show wpAny _ _ (if (Value.int x t == Value.int y u) = true then _ else _) Q E s
      by_cases hab : (Value.int x t == Value.int y u) = true
      · rw [if_pos hab]
        have e := eq_of_beq hab
        injection e with e1 e2
        subst e1
        exact wpAny_bind (wpAny_rule (wpAny_pure (by simpa using h)))
      · rw [if_neg hab]
        exact wpAny_bind (r1 _ (wpAny_truthy_bool h))
    · exact lt_int (prog := prog) (w := w) (A := A) (E := E) (s := s) (a := x) (b := y) (t := t) (u := u) (Q := Q) h
  | succ k ih =>
    intro A hu v w' e l hh
    rcases hh with hh | ⟨a, b, xs, ys, n, n', rfl, rfl, ha, hb, hc⟩
    · exact ih (Nat.lt_of_succ_lt hu) hh
    · have hR : ∀ x y e l, Cmp s.heap k x y e l → _ := fun x y e l h => ih (A := A.in1) (by show A.units + 1 + k < cLine; rw [Nat.succ_add_eq_add_succ]; exact hu) h
      have r1 : ∀ Q : Value → Shared → Prop, Q (.bool e) s → wpAny (model prog w) A (richCompare .Eq (.ref a) (.ref b)) Q E s := fun Q h =>
        wpAny_richCompare_same_room (op := .Eq) (T := "tuple") ⟨_, ha, rfl⟩ ⟨_, hb, rfl⟩ F.slot_tuple_eq
          (wpAny_call_entry F.slot_tuple_eq ⟨_, ha, rfl⟩ F.entry_tuple_eq (tup_eq_tree ha hb hc (fun x y e l h => (hR x y e l h).1) ⟨_, rfl, (fun e => nomatch e), h⟩) (F.args_tuple_eq_2 _ _)) (Nat.lt_of_le_of_lt (Nat.le_add_right _ _) hu)
      refine ⟨fun Q h => ?_, r1, fun Q h => ?_⟩
      · unfold eqBool
        refine wpAny_holding ?_
        show wpAny _ _ (if (Value.ref a == Value.ref b) = true then _ else _) Q E s
        by_cases hab : (Value.ref a == Value.ref b) = true
        · rw [if_pos hab]
          have e' : a = b := by have := eq_of_beq hab; injection this
          subst e'
          have := (Cmp.self (k + 1) (.ref a) e l (.inr ⟨a, a, xs, ys, n, n', rfl, rfl, ha, hb, hc⟩)).1
          subst this
          exact wpAny_bind (wpAny_rule (wpAny_pure h))
        · rw [if_neg hab]
          exact wpAny_bind (r1 _ (wpAny_truthy_bool h))
      · exact wpAny_richCompare_same_room (op := .Lt) (T := "tuple") ⟨_, ha, rfl⟩ ⟨_, hb, rfl⟩ F.slot_tuple_lt
          (wpAny_call_entry F.slot_tuple_lt ⟨_, ha, rfl⟩ F.entry_tuple_lt (tup_lt_tree ha hb hc (fun x y e l h => ⟨(hR x y e l h).1, (hR x y e l h).2.2⟩) ⟨_, rfl, (fun e => nomatch e), h⟩) (F.args_tuple_lt_2 _ _)) (Nat.lt_of_le_of_lt (Nat.le_add_right _ _) hu)
end
end Mine
end
section
namespace Mine
noncomputable abbrev D := List Int
noncomputable def llt : D → D → Bool
  | [], [] => false
  | [], _ :: _ => true
  | _ :: _, [] => false
  | a :: as, b :: bs => if a = b then llt as bs else decide (a < b)
inductive Kd where
  | i | p | pi | kip
noncomputable abbrev Led := List (Addr × Obj)
noncomputable def RelP (nw : Led) (v : Value) (d : D) : Prop := ∃ a n x t y u, v = .ref a ∧ (a, tupOf [.int x t, .int y u] n) ∈ nw ∧ d = [x, y]
noncomputable def RelIn (nw : Led) : Kd → Value → D → Prop
  | .i, v, d => ∃ x t, v = .int x t ∧ d = [x]
  | .p, v, d => RelP nw v d
  | .pi, v, d => ∃ a n v₁ d₁ z u, v = .ref a ∧ (a, tupOf [v₁, .int z u] n) ∈ nw ∧ RelP nw v₁ d₁ ∧ d = d₁ ++ [z]
  | .kip, v, d => ∃ a n x t y u v₁ d₁, v = .ref a ∧ (a, tupOf [.int x t, .int y u, v₁] n) ∈ nw ∧ RelP nw v₁ d₁ ∧ d = x :: y :: d₁
theorem RelP.mono {nw nw' : Led} {v : Value} {d : D} (h : RelP nw v d) (hs : ∀ p ∈ nw, p ∈ nw') : RelP nw' v d := by
  obtain ⟨a, n, x, t, y, u, h1, h2, h3⟩ := h
  exact ⟨a, n, x, t, y, u, h1, hs _ h2, h3⟩
theorem RelIn.mono {nw nw' : Led} {k : Kd} {v : Value} {d : D} (h : RelIn nw k v d) (hs : ∀ p ∈ nw, p ∈ nw') : RelIn nw' k v d := by
  cases k with
  | i => exact h
  | p => exact RelP.mono h hs
  | pi => obtain ⟨a, n, v₁, d₁, z, u, h1, h2, h3, h4⟩ := h; exact ⟨a, n, v₁, d₁, z, u, h1, hs _ h2, h3.mono hs, h4⟩
  | kip => obtain ⟨a, n, x, t, y, u, v₁, d₁, h1, h2, h3, h4⟩ := h; exact ⟨a, n, x, t, y, u, v₁, d₁, h1, hs _ h2, h3.mono hs, h4⟩
theorem cmpI (h : Heap) (k : Nat) (x y : Int) (t u : Tok) : Cmp h k (.int x t) (.int y u) (decide (x = y)) (decide (x < y)) := by
  induction k with
  | zero => exact ⟨x, t, y, u, rfl, rfl, rfl, rfl⟩
  | succ k ih => exact .inl ih
theorem Cmp.cast {h : Heap} {k : Nat} {v w : Value} {e l e' l' : Bool} (c : Cmp h k v w e l) (he : e = e') (hl : l = l') : Cmp h k v w e' l' := by subst he hl; exact c
theorem Cmp.up {h : Heap} {k : Nat} {v w : Value} {e l : Bool} (c : Cmp h k v w e l) : Cmp h (k + 1) v w e l := .inl c
theorem cmpP {h : Heap} {nw : Led} {v w : Value} {d d' : D} (hn : ∀ p ∈ nw, h.get? p.1 = some p.2) (h1 : RelP nw v d) (h2 : RelP nw w d') : Cmp h 1 v w (decide (d = d')) (llt d d') := by
  obtain ⟨a, n, x, t, y, u, rfl, m1, rfl⟩ := h1
  obtain ⟨a', n', x', t', y', u', rfl, m2, rfl⟩ := h2
  have c := CmpL.cons (R := Cmp h 0) (cmpI h 0 x x' t t') (.cons (cmpI h 0 y y' u u') .nil)
  refine Cmp.cast (.inr ⟨a, a', _, _, n, n', rfl, rfl, hn _ m1, hn _ m2, c⟩) ?_ ?_
  · by_cases e1 : x = x' <;> by_cases e2 : y = y' <;> simp [e1, e2]
  · by_cases e1 : x = x' <;> by_cases e2 : y = y' <;> simp [llt, e1, e2]
theorem llt_append_one {d d' : D} (hl : d.length = d'.length) (z z' : Int) : llt (d ++ [z]) (d' ++ [z']) = if d = d' then decide (z < z') else llt d d' := by
  induction d generalizing d' with
  | nil =>
    cases d' with
    | nil => by_cases e : z = z' <;> simp [llt, e]
    | cons _ _ => simp at hl
  | cons a d ih =>
    cases d' with
    | nil => simp at hl
    | cons b d' =>
      simp only [List.length_cons, Nat.add_right_cancel_iff] at hl
      by_cases e : a = b
      · subst e; simp [llt, ih hl]
      · simp [llt, e]
theorem RelP.len {nw : Led} {v : Value} {d : D} (h : RelP nw v d) : d.length = 2 := by
  obtain ⟨a, n, x, t, y, u, rfl, m1, rfl⟩ := h; rfl
theorem cmpK {h : Heap} {nw : Led} {k : Kd} {v w : Value} {d d' : D} (hn : ∀ p ∈ nw, h.get? p.1 = some p.2) (h1 : RelIn nw k v d) (h2 : RelIn nw k w d') : Cmp h 2 v w (decide (d = d')) (llt d d') := by
  cases k with
  | i =>
    obtain ⟨x, t, rfl, rfl⟩ := h1
    obtain ⟨y, u, rfl, rfl⟩ := h2
    refine Cmp.cast (cmpI h 2 x y t u) ?_ ?_
    · by_cases e1 : x = y <;> simp [e1]
    · by_cases e1 : x = y <;> simp [llt, e1]
  | p => exact (cmpP hn h1 h2).up
  | pi =>
    obtain ⟨a, n, v₁, d₁, z, u, rfl, m1, p1, rfl⟩ := h1
    obtain ⟨a', n', v₂, d₂, z', u', rfl, m2, p2, rfl⟩ := h2
    have c := CmpL.cons (R := Cmp h 1) (cmpP hn p1 p2) (.cons (cmpI h 1 z z' u u') .nil)
    have hl : d₁.length = d₂.length := p1.len.trans p2.len.symm
    refine Cmp.cast (.inr ⟨a, a', _, _, n, n', rfl, rfl, hn _ m1, hn _ m2, c⟩) ?_ ?_
    · by_cases e1 : d₁ = d₂ <;> by_cases e2 : z = z' <;> simp [e1, e2]
    · rw [llt_append_one hl]
      by_cases e1 : d₁ = d₂ <;> by_cases e2 : z = z' <;> simp [e1, e2]
  | kip =>
    obtain ⟨a, n, x, t, y, u, v₁, d₁, rfl, m1, p1, rfl⟩ := h1
    obtain ⟨a', n', x', t', y', u', v₂, d₂, rfl, m2, p2, rfl⟩ := h2
    have c := CmpL.cons (R := Cmp h 1) (cmpI h 1 x x' t t') (.cons (cmpI h 1 y y' u u') (.cons (cmpP hn p1 p2) .nil))
    refine Cmp.cast (.inr ⟨a, a', _, _, n, n', rfl, rfl, hn _ m1, hn _ m2, c⟩) ?_ ?_
    · by_cases e1 : x = x' <;> by_cases e2 : y = y' <;> by_cases e3 : d₁ = d₂ <;> simp [e1, e2, e3]
    · by_cases e1 : x = x' <;> by_cases e2 : y = y' <;> by_cases e3 : d₁ = d₂ <;> simp [llt, e1, e2, e3]
      subst e3
      exact (Cmp.self 1 _ _ _ (cmpP hn p1 p1)).2
inductive All2 {α β : Type} (R : α → β → Prop) : List α → List β → Prop
  | nil : All2 R [] []
  | cons {a : α} {b : β} {as : List α} {bs : List β} : R a b → All2 R as bs → All2 R (a :: as) (b :: bs)
namespace All2
variable {α β : Type} {R R' : α → β → Prop}
theorem len {as : List α} {bs : List β} (h : All2 R as bs) : as.length = bs.length := by
  induction h with
  | nil => rfl
  | cons _ _ ih => simp [ih]
theorem mono {as : List α} {bs : List β} (h : All2 R as bs) (hR : ∀ a b, R a b → R' a b) : All2 R' as bs := by
  induction h with
  | nil => exact .nil
  | cons h1 _ ih => exact .cons (hR _ _ h1) ih
theorem get {as : List α} {bs : List β} (h : All2 R as bs) : ∀ {i : Nat} {b : β}, bs[i]? = some b → ∃ a, as[i]? = some a ∧ R a b := by
  induction h with
  | nil => intro i b hb; simp at hb
  | cons h1 _ ih =>
    intro i b hb
    cases i with
    | zero => simp at hb; subst hb; exact ⟨_, rfl, h1⟩
    | succ i => simp at hb; simpa using ih hb
theorem get' {as : List α} {bs : List β} (h : All2 R as bs) : ∀ {i : Nat} {a : α}, as[i]? = some a → ∃ b, bs[i]? = some b ∧ R a b := by
  induction h with
  | nil => intro i b hb; simp at hb
  | cons h1 _ ih =>
    intro i b hb
    cases i with
    | zero => simp at hb; subst hb; exact ⟨_, rfl, h1⟩
    | succ i => simp at hb; simpa using ih hb
theorem set {as : List α} {bs : List β} {a : α} {b : β} (h : All2 R as bs) (hab : R a b) : ∀ i : Nat, All2 R (as.set i a) (bs.set i b) := by
  induction h with
  | nil => intro i; exact .nil
  | cons h1 h2 ih =>
    intro i
    cases i with
    | zero => exact .cons hab h2
    | succ i => exact .cons h1 (ih i)
theorem append {as as' : List α} {bs bs' : List β} (h : All2 R as bs) (h' : All2 R as' bs') : All2 R (as ++ as') (bs ++ bs') := by
  induction h with
  | nil => exact h'
  | cons h1 _ ih => exact .cons h1 ih
theorem take {as : List α} {bs : List β} (h : All2 R as bs) : ∀ n : Nat, All2 R (as.take n) (bs.take n) := by
  induction h with
  | nil => intro n; simp; exact .nil
  | cons h1 _ ih =>
    intro n
    cases n with
    | zero => exact .nil
    | succ n => exact .cons h1 (ih n)
theorem drop {as : List α} {bs : List β} (h : All2 R as bs) : ∀ n : Nat, All2 R (as.drop n) (bs.drop n) := by
  induction h with
  | nil => intro n; simp; exact .nil
  | cons h1 h2 ih =>
    intro n
    cases n with
    | zero => exact .cons h1 h2
    | succ n => exact ih n
theorem reverse {as : List α} {bs : List β} (h : All2 R as bs) : All2 R as.reverse bs.reverse := by
  induction h with
  | nil => exact .nil
  | cons h1 _ ih => simp only [List.reverse_cons]; exact ih.append (.cons h1 .nil)
end All2
noncomputable abbrev Ent := Addr × Kd × List D
noncomputable def IsLs (nw : Led) (k : Kd) (o : Obj) (ds : List D) : Prop := ∃ vs n, o = listOf vs.toArray n ∧ All2 (RelIn nw k) vs ds
noncomputable def Raw (nw : Led) : List (Addr × Obj) → List Ent → Prop := All2 fun r x => r.1 = x.1 ∧ IsLs nw x.2.1 r.2 x.2.2
structure Base where
  hB : Heap
  frs : Led
noncomputable def FUp : Led → Led → Prop := All2 fun r x => r.1 = x.1 ∧ ∃ sl, r.2 = { x.2 with slots := sl }
noncomputable def adr (ls : List Ent) (ob : Led) (B : Base) : List Addr := ls.map (·.1) ++ (ob.map (·.1) ++ B.frs.map (·.1))
structure St (B : Base) (L : Addr) (h : Heap) (m : Str → Option Value) (ls : List Ent) (ob nw : Led) : Prop where
  fr : Fr B.hB L h m
  led : ∃ rs fs, Raw nw rs ls ∧ FUp fs B.frs ∧ News B.hB L h (rs ++ (ob ++ (fs ++ nw)))
  apart : (adr ls ob B).Nodup ∧ ∀ a ∈ adr ls ob B, ∀ p ∈ nw, p.1 ≠ a
inductive At (a : Addr) (k : Kd) (ds : List D) : List Ent → (List D → List Ent) → Prop
  | head {r : List Ent} : At a k ds ((a, k, ds) :: r) (fun d' => (a, k, d') :: r)
  | tail {x : Ent} {r : List Ent} {g : List D → List Ent} : At a k ds r g → At a k ds (x :: r) (fun d' => x :: g d')
theorem Raw.addrs {nw : Led} {rs : List (Addr × Obj)} {ls : List Ent} (h : Raw nw rs ls) : rs.map (·.1) = ls.map (·.1) := by
  unfold Raw at h
  induction h with
  | nil => rfl
  | cons h1 _ ih => simp [h1.1, ih]
theorem At.addrs {a : Addr} {k : Kd} {ds : List D} {ls : List Ent} {g : List D → List Ent} (U : At a k ds ls g) (ds' : List D) : (g ds').map (·.1) = ls.map (·.1) := by
  induction U with
  | head => rfl
  | tail _ ih => simp [ih]
theorem At.mem {a : Addr} {k : Kd} {ds : List D} {ls : List Ent} {g : List D → List Ent} (U : At a k ds ls g) : (a, k, ds) ∈ ls := by
  induction U with
  | head => exact .head _
  | tail _ ih => exact .tail _ ih
theorem At.again {a : Addr} {k : Kd} {ds : List D} {ls : List Ent} {g : List D → List Ent} (U : At a k ds ls g) (ds' : List D) : At a k ds' (g ds') g := by
  induction U with
  | head => exact .head
  | tail _ ih => exact .tail ih
theorem At.open {a : Addr} {k : Kd} {ds : List D} {ls : List Ent} {g : List D → List Ent} {nw : Led} (U : At a k ds ls g) : ∀ {rs : List (Addr × Obj)}, Raw nw rs ls → (ls.map (·.1)).Nodup →
    ∃ vs n pre post, rs = pre ++ (a, listOf vs.toArray n) :: post ∧ All2 (RelIn nw k) vs ds ∧ (∀ p ∈ pre, p.1 ≠ a) ∧ (∀ p ∈ post, p.1 ≠ a) ∧
      ∀ vs' n' ds', All2 (RelIn nw k) vs' ds' → Raw nw (pre ++ (a, listOf vs'.toArray n') :: post) (g ds') := by
  induction U with
  | head =>
    rintro rs (_ | ⟨⟨h1, vs, n, h2, h3⟩, hr⟩) hn
    rename_i r rest
    obtain ⟨ra, ro⟩ := r
    simp only at h1 h2
    subst h1 h2
    refine ⟨vs, n, [], rest, rfl, h3, (fun _ h => nomatch h), fun p hp e => ?_, fun vs' n' ds' h' => .cons ⟨rfl, vs', n', rfl, h'⟩ hr⟩
    simp only [List.map_cons, List.nodup_cons] at hn
    exact hn.1 (Raw.addrs hr ▸ e ▸ List.mem_map_of_mem hp)
  | @tail x r' g' U ih =>
    rintro rs (_ | ⟨hx, hr⟩) hn
    rename_i r rest
    simp only [List.map_cons, List.nodup_cons] at hn
    obtain ⟨vs, n, pre, post, rfl, h3, h4, h5, h6⟩ := ih hr hn.2
    refine ⟨vs, n, r :: pre, post, rfl, h3, fun p hp => ?_, h5, fun vs' n' ds' h' => .cons hx (h6 vs' n' ds' h')⟩
    rcases List.mem_cons.mp hp with rfl | hp
    · intro e
      apply hn.1
      rw [← hx.1, e]
      exact List.mem_map_of_mem (f := (·.1)) U.mem
    · exact h4 p hp
inductive AtO (a : Addr) (o : Obj) : Led → (Obj → Led) → Prop
  | head {r : Led} : AtO a o ((a, o) :: r) (fun o' => (a, o') :: r)
  | tail {x : Addr × Obj} {r : Led} {g : Obj → Led} : AtO a o r g → AtO a o (x :: r) (fun o' => x :: g o')
theorem AtO.mem {a : Addr} {o : Obj} {l : Led} {g : Obj → Led} (U : AtO a o l g) : (a, o) ∈ l := by
  induction U with
  | head => exact .head _
  | tail _ ih => exact .tail _ ih
theorem AtO.addrs {a : Addr} {o : Obj} {l : Led} {g : Obj → Led} (U : AtO a o l g) (o' : Obj) : (g o').map (·.1) = l.map (·.1) := by
  induction U with
  | head => rfl
  | tail _ ih => simp [ih]
theorem AtO.again {a : Addr} {o : Obj} {l : Led} {g : Obj → Led} (U : AtO a o l g) (o' : Obj) : AtO a o' (g o') g := by
  induction U with
  | head => exact .head
  | tail _ ih => exact .tail ih
theorem AtO.open {a : Addr} {o : Obj} {l : Led} {g : Obj → Led} (U : AtO a o l g) (hn : (l.map (·.1)).Nodup) :
    ∃ pre post, l = pre ++ (a, o) :: post ∧ (∀ p ∈ pre, p.1 ≠ a) ∧ (∀ p ∈ post, p.1 ≠ a) ∧ ∀ o', g o' = pre ++ (a, o') :: post := by
  induction U with
  | head =>
    simp only [List.map_cons, List.nodup_cons] at hn
    exact ⟨[], _, rfl, (fun _ h => nomatch h), fun p hp e => hn.1 (e ▸ List.mem_map_of_mem hp), fun _ => rfl⟩
  | @tail x r g U ih =>
    simp only [List.map_cons, List.nodup_cons] at hn
    obtain ⟨pre, post, rfl, h1, h2, h3⟩ := ih hn.2
    refine ⟨x :: pre, post, rfl, fun p hp => ?_, h2, fun o' => congrArg (x :: ·) (h3 o')⟩
    rcases List.mem_cons.mp hp with rfl | hp
    · intro e; apply hn.1; rw [e]; exact List.mem_map_of_mem (f := (·.1)) U.mem
    · exact h1 p hp
theorem FUp.addrs {fs frs : Led} (h : FUp fs frs) : fs.map (·.1) = frs.map (·.1) := by
  unfold FUp at h
  induction h with
  | nil => rfl
  | cons h1 _ ih => simp [h1.1, ih]
theorem St.open {h₀ : Base} {h : Heap} {L : Addr} {m : Str → Option Value} {ls : List Ent} {ob nw : Led} {a : Addr} {k : Kd} {ds : List D} {g : List D → List Ent} (S : St h₀ L h m ls ob nw) (U : At a k ds ls g) :
    ∃ vs n pre post, News h₀.hB L h (pre ++ (a, listOf vs.toArray n) :: post) ∧ All2 (RelIn nw k) vs ds ∧ (∀ p ∈ pre, p.1 ≠ a) ∧ (∀ p ∈ post, p.1 ≠ a) ∧
      ∀ h' m' vs' n' ds', Fr h₀.hB L h' m' → News h₀.hB L h' (pre ++ (a, listOf vs'.toArray n') :: post) → All2 (RelIn nw k) vs' ds' → St h₀ L h' m' (g ds') ob nw := by
  obtain ⟨rs, fs, hr, hf, N⟩ := S.led
  have hn := List.nodup_append.mp S.apart.1
  obtain ⟨vs, n, pre, post, rfl, h3, h4, h5, h6⟩ := U.open hr hn.1
  have ha : a ∈ ls.map (·.1) := List.mem_map_of_mem (f := (·.1)) U.mem
  refine ⟨vs, n, pre, post ++ (ob ++ (fs ++ nw)), ?_, h3, h4, fun p hp => ?_, fun h' m' vs' n' ds' F' N' h' => ⟨F', ⟨_, fs, h6 vs' n' ds' h', hf, by simpa using N'⟩, ?_⟩⟩
  · simpa using N
  · rcases List.mem_append.mp hp with hp | hp
    · exact h5 p hp
    · rcases List.mem_append.mp hp with hp | hp
      · exact fun e => hn.2.2 a ha _ (List.mem_append_left _ (List.mem_map_of_mem (f := (·.1)) hp)) e.symm
      · rcases List.mem_append.mp hp with hp | hp
        · exact fun e => hn.2.2 a ha _ (List.mem_append_right _ (hf.addrs ▸ List.mem_map_of_mem (f := (·.1)) hp)) e.symm
        · exact S.apart.2 a (List.mem_append_left _ ha) p hp
  · have := S.apart
    unfold adr at this ⊢
    rw [U.addrs]; exact this
theorem St.openO {h₀ : Base} {h : Heap} {L : Addr} {m : Str → Option Value} {ls : List Ent} {ob nw : Led} {a : Addr} {o : Obj} {g : Obj → Led} (S : St h₀ L h m ls ob nw) (U : AtO a o ob g) :
    ∃ pre post, News h₀.hB L h (pre ++ (a, o) :: post) ∧ (∀ p ∈ pre, p.1 ≠ a) ∧ (∀ p ∈ post, p.1 ≠ a) ∧
      ∀ h' m' o', Fr h₀.hB L h' m' → News h₀.hB L h' (pre ++ (a, o') :: post) → St h₀ L h' m' ls (g o') nw := by
  obtain ⟨rs, fs, hr, hf, N⟩ := S.led
  have hn := List.nodup_append.mp S.apart.1
  have hn2 := List.nodup_append.mp hn.2.1
  obtain ⟨pre, post, rfl, h1, h2, h3⟩ := U.open hn2.1
  have ha : a ∈ (pre ++ (a, o) :: post).map (·.1) := List.mem_map_of_mem (f := (·.1)) U.mem
  refine ⟨rs ++ pre, post ++ (fs ++ nw), by simpa using N, fun p hp => ?_, fun p hp => ?_, fun h' m' o' F' N' => ⟨F', ⟨rs, fs, hr, hf, by rw [h3]; simpa using N'⟩, ?_⟩⟩
  · rcases List.mem_append.mp hp with hp | hp
    · exact fun e => hn.2.2 p.1 (Raw.addrs hr ▸ List.mem_map_of_mem (f := (·.1)) hp) a (List.mem_append_left _ ha) e
    · exact h1 p hp
  · rcases List.mem_append.mp hp with hp | hp
    · exact h2 p hp
    · rcases List.mem_append.mp hp with hp | hp
      · exact fun e => hn2.2.2 a ha p.1 (hf.addrs ▸ List.mem_map_of_mem (f := (·.1)) hp) e.symm
      · exact S.apart.2 a (List.mem_append_right _ (List.mem_append_left _ ha)) p hp
  · have := S.apart
    unfold adr at this ⊢
    rw [U.addrs]; exact this
theorem St.same {h₀ : Base} {h : Heap} {L : Addr} {m : Str → Option Value} {ls : List Ent} {ob nw : Led} (S : St h₀ L h m ls ob nw) :
    ∃ news, News h₀.hB L h news ∧ ∀ h' m', Fr h₀.hB L h' m' → News h₀.hB L h' news → St h₀ L h' m' ls ob nw := by
  obtain ⟨rs, fs, hr, hf, N⟩ := S.led
  exact ⟨_, N, fun h' m' F' N' => ⟨F', ⟨rs, fs, hr, hf, N'⟩, S.apart⟩⟩
theorem St.news {h₀ : Base} {h : Heap} {L : Addr} {m : Str → Option Value} {ls : List Ent} {ob nw : Led} (S : St h₀ L h m ls ob nw) : News h₀.hB L h nw := by
  obtain ⟨rs, fs, hr, hf, N⟩ := S.led
  exact fun p hp => N p (List.mem_append_right _ (List.mem_append_right _ (List.mem_append_right _ hp)))
theorem St.newsO {h₀ : Base} {h : Heap} {L : Addr} {m : Str → Option Value} {ls : List Ent} {ob nw : Led} (S : St h₀ L h m ls ob nw) : News h₀.hB L h ob := by
  obtain ⟨rs, fs, hr, hf, N⟩ := S.led
  exact fun p hp => N p (List.mem_append_right _ (List.mem_append_left _ hp))
theorem St.gets {h₀ : Base} {h : Heap} {L : Addr} {m : Str → Option Value} {ls : List Ent} {ob nw : Led} (S : St h₀ L h m ls ob nw) : ∀ p ∈ nw, h.get? p.1 = some p.2 := fun p hp => (S.news p hp).1
theorem St.getO {h₀ : Base} {h : Heap} {L : Addr} {m : Str → Option Value} {ls : List Ent} {ob nw : Led} {a : Addr} {o : Obj} {g : Obj → Led} (S : St h₀ L h m ls ob nw) (U : AtO a o ob g) : h.get? a = some o := (S.newsO _ U.mem).1
theorem St.low {h₀ : Base} {h : Heap} {L : Addr} {m : Str → Option Value} {ls : List Ent} {ob nw : Led} (S : St h₀ L h m ls ob nw) : (∀ a ∈ adr ls ob h₀, a < h.objs.size ∧ a ≠ L) ∧ ∀ p ∈ nw, p.1 < h.objs.size := by
  obtain ⟨rs, fs, hr, hf, N⟩ := S.led
  refine ⟨fun a ha => ?_, fun p hp => Heap.lt_size (S.gets p hp)⟩
  rcases List.mem_append.mp ha with ha | ha
  · rw [← Raw.addrs hr] at ha
    obtain ⟨p, hp, rfl⟩ := List.mem_map.mp ha
    have z := N p (List.mem_append_left _ hp)
    exact ⟨Heap.lt_size z.1, z.2.1⟩
  · rcases List.mem_append.mp ha with ha | ha
    · obtain ⟨p, hp, rfl⟩ := List.mem_map.mp ha
      exact ⟨Heap.lt_size (S.newsO p hp).1, (S.newsO p hp).2.1⟩
    · rw [← hf.addrs] at ha
      obtain ⟨p, hp, rfl⟩ := List.mem_map.mp ha
      have z := N p (List.mem_append_right _ (List.mem_append_right _ (List.mem_append_left _ hp)))
      exact ⟨Heap.lt_size z.1, z.2.1⟩
theorem St.grown {h₀ : Base} {h h' : Heap} {L : Addr} {m : Str → Option Value} {ls : List Ent} {ob nw : Led} (S : St h₀ L h m ls ob nw) (hk : ∀ b o, h.get? b = some o → h'.get? b = some o) : St h₀ L h' m ls ob nw := by
  obtain ⟨rs, fs, hr, hf, N⟩ := S.led
  exact ⟨S.fr.kept hk, ⟨rs, fs, hr, hf, fun p hp => ⟨hk _ _ (N p hp).1, (N p hp).2⟩⟩, S.apart⟩
theorem Raw.mono {nw nw' : Led} {rs : List (Addr × Obj)} {ls : List Ent} (h : Raw nw rs ls) (hs : ∀ p ∈ nw, p ∈ nw') : Raw nw' rs ls :=
  All2.mono h fun _ _ ⟨h1, vs, n, h2, h3⟩ => ⟨h1, vs, n, h2, h3.mono fun _ _ r => r.mono hs⟩
theorem St.addO {h₀ : Base} {h h' : Heap} {L : Addr} {m : Str → Option Value} {ls : List Ent} {ob nw : Led} {a : Addr} {o : Obj} (S : St h₀ L h m ls ob nw) (hk : ∀ b o, h.get? b = some o → h'.get? b = some o) (ha : h.objs.size ≤ a) (ho : h'.get? a = some o) : St h₀ L h' m ls ((a, o) :: ob) nw := by
  obtain ⟨rs, fs, hr, hf, N⟩ := (S.grown hk).led
  obtain ⟨l1, l2⟩ := S.low
  have hL : L < h.objs.size := S.fr.ns.lt
  have hLa : L < a := Nat.lt_of_lt_of_le hL ha
  have hna : a ∉ adr ls ob h₀ := fun q => absurd (l1 a q).1 (Nat.not_lt.mpr ha)
  have hp1 : (adr ls ((a, o) :: ob) h₀).Perm (a :: adr ls ob h₀) := by unfold adr; exact List.perm_middle
  refine ⟨S.fr.kept hk, ⟨rs, fs, hr, hf, fun p hp => ?_⟩, hp1.nodup_iff.mpr (List.nodup_cons.mpr ⟨hna, S.apart.1⟩), fun b hb p hp => ?_⟩
  · rcases List.mem_append.mp hp with hp | hp
    · exact N p (List.mem_append_left _ hp)
    · rcases List.mem_cons.mp hp with rfl | hp
      · exact ⟨ho, Nat.ne_of_gt hLa, Heap.get?_none_of_le (Nat.le_trans S.fr.above (Nat.le_of_lt hLa))⟩
      · exact N p (List.mem_append_right _ hp)
  · rcases List.mem_cons.mp (hp1.mem_iff.mp hb) with rfl | hb
    · exact Nat.ne_of_lt (Nat.lt_of_lt_of_le (l2 p hp) ha)
    · exact S.apart.2 b hb p hp
theorem St.addN {h₀ : Base} {h h' : Heap} {L : Addr} {m : Str → Option Value} {ls : List Ent} {ob nw : Led} {a : Addr} {o : Obj} (S : St h₀ L h m ls ob nw) (hk : ∀ b o, h.get? b = some o → h'.get? b = some o) (ha : h.objs.size ≤ a) (ho : h'.get? a = some o) : St h₀ L h' m ls ob ((a, o) :: nw) := by
  obtain ⟨rs, fs, hr, hf, N⟩ := (S.grown hk).led
  obtain ⟨l1, l2⟩ := S.low
  have hL : L < h.objs.size := S.fr.ns.lt
  have hLa : L < a := Nat.lt_of_lt_of_le hL ha
  refine ⟨S.fr.kept hk, ⟨rs, fs, hr.mono fun p hp => .tail _ hp, hf, fun p hp => ?_⟩, S.apart.1, ?_⟩
  · rcases List.mem_append.mp hp with hp | hp
    · exact N p (List.mem_append_left _ hp)
    · rcases List.mem_append.mp hp with hp | hp
      · exact N p (List.mem_append_right _ (List.mem_append_left _ hp))
      · rcases List.mem_append.mp hp with hp | hp
        · exact N p (List.mem_append_right _ (List.mem_append_right _ (List.mem_append_left _ hp)))
        · rcases List.mem_cons.mp hp with rfl | hp
          · exact ⟨ho, Nat.ne_of_gt hLa, Heap.get?_none_of_le (Nat.le_trans S.fr.above (Nat.le_of_lt hLa))⟩
          · exact N p (List.mem_append_right _ (List.mem_append_right _ (List.mem_append_right _ hp)))
  · intro b hb p hp
    rcases List.mem_cons.mp hp with rfl | hp
    · exact Nat.ne_of_gt (Nat.lt_of_lt_of_le (l1 b hb).1 ha)
    · exact S.apart.2 b hb p hp
theorem St.addL {h₀ : Base} {h h' : Heap} {L : Addr} {m : Str → Option Value} {ls : List Ent} {ob nw : Led} {a : Addr} {k : Kd} {vs : List Value} {n : Nat} {ds : List D} (S : St h₀ L h m ls ob nw) (hk : ∀ b o, h.get? b = some o → h'.get? b = some o) (ha : h.objs.size ≤ a) (ho : h'.get? a = some (listOf vs.toArray n)) (hr : All2 (RelIn nw k) vs ds) :
    St h₀ L h' m ((a, k, ds) :: ls) ob nw := by
  obtain ⟨rs, fs, hrs, hf, N⟩ := (S.grown hk).led
  obtain ⟨l1, l2⟩ := S.low
  have hL : L < h.objs.size := S.fr.ns.lt
  have hLa : L < a := Nat.lt_of_lt_of_le hL ha
  refine ⟨S.fr.kept hk, ⟨(a, listOf vs.toArray n) :: rs, fs, .cons ⟨rfl, vs, n, rfl, hr⟩ hrs, hf, fun p hp => ?_⟩, ?_, ?_⟩
  · rcases List.mem_cons.mp hp with rfl | hp
    · exact ⟨ho, Nat.ne_of_gt hLa, Heap.get?_none_of_le (Nat.le_trans S.fr.above (Nat.le_of_lt hLa))⟩
    · exact N p hp
  · show (a :: adr ls ob h₀).Nodup
    exact List.nodup_cons.mpr ⟨fun q => absurd (l1 a q).1 (Nat.not_lt.mpr ha), S.apart.1⟩
  · intro b hb p hp
    rcases List.mem_cons.mp (show b ∈ a :: adr ls ob h₀ from hb) with rfl | hb
    · exact Nat.ne_of_lt (Nat.lt_of_lt_of_le (l2 p hp) ha)
    · exact S.apart.2 b hb p hp
theorem St.dropO {h₀ : Base} {h : Heap} {L : Addr} {m : Str → Option Value} {ls : List Ent} {ob nw : Led} {x : Addr × Obj} (S : St h₀ L h m ls (x :: ob) nw) : St h₀ L h m ls ob nw := by
  obtain ⟨rs, fs, hr, hf, N⟩ := S.led
  have hp1 : (adr ls (x :: ob) h₀).Perm (x.1 :: adr ls ob h₀) := by unfold adr; exact List.perm_middle
  refine ⟨S.fr, ⟨rs, fs, hr, hf, fun p hp => N p ?_⟩, (List.nodup_cons.mp (hp1.nodup_iff.mp S.apart.1)).2, fun a ha p hp => S.apart.2 a (hp1.mem_iff.mpr (.tail _ ha)) p hp⟩
  rcases List.mem_append.mp hp with hp | hp
  · exact List.mem_append_left _ hp
  · exact List.mem_append_right _ (.tail _ hp)
theorem St.dropL {h₀ : Base} {h : Heap} {L : Addr} {m : Str → Option Value} {ls : List Ent} {ob nw : Led} {x : Ent} (S : St h₀ L h m (x :: ls) ob nw) : St h₀ L h m ls ob nw := by
  obtain ⟨rs, fs, hr, hf, N⟩ := S.led
  have hn := List.nodup_cons.mp (show (x.1 :: adr ls ob h₀).Nodup from S.apart.1)
  obtain _ | ⟨h1, hr⟩ := hr
  rename_i r rs
  exact ⟨S.fr, ⟨rs, fs, hr, hf, fun p hp => N p (.tail _ hp)⟩, hn.2, fun a ha p hp => S.apart.2 a (show a ∈ x.1 :: adr ls ob h₀ from .tail _ ha) p hp⟩
noncomputable def upd (m : Str → Option Value) (x : Str) (v : Value) : Str → Option Value := fun y => if y = x then some v else m y
theorem upd_eq {m : Str → Option Value} {x : Str} {v : Value} : upd m x v x = some v := if_pos rfl
theorem upd_ne {m : Str → Option Value} {x y : Str} {v : Value} {r : Option Value} (hn : y ≠ x) (h : m y = r) : upd m x v y = r := (if_neg hn).trans h
noncomputable def mk (s : Shared) (h : Heap) (tk : Nat) : Shared := { s with heap := h, toks := tk }
section
variable {prog : Program} {w : World} {A : Around} {E : Value → Shared → Prop} {s : Shared} {h : Heap} {tk : Nat} {h₀ : Base} {L : Addr} {m : Str → Option Value} {ls : List Ent} {ob nw : Led} {a : Addr} {k : Kd} {ds : List D} {g : List D → List Ent}
section
variable {x y : Int} {t u : Tok} {Q : Value → Shared → Prop} {env : Env}
theorem i_const {c : Nat} {pos : Pos} (q : ∀ t tk, Q (.int x t) (mk s h tk)) : wpAny (model prog w) A (eval (.Constant (.int x) c pos) env) Q E (mk s h tk) := wpAny_Constant_int (q _ _)
theorem i_add (q : ∀ t tk, Q (.int (x + y) t) (mk s h tk)) : wpAny (model prog w) A (binaryOp .Add (.int x t) (.int y u)) Q E (mk s h tk) := add_int (q _ _)
theorem i_sub (q : ∀ t tk, Q (.int (x - y) t) (mk s h tk)) : wpAny (model prog w) A (binaryOp .Sub (.int x t) (.int y u)) Q E (mk s h tk) := sub_int (q _ _)
theorem i_mod (hy : 0 < y) (q : ∀ t tk, Q (.int (x % y) t) (mk s h tk)) : wpAny (model prog w) A (binaryOp .Mod (.int x t) (.int y u)) Q E (mk s h tk) :=
  mod_int (by lia) (by rw [Int.fmod_eq_emod_of_nonneg _ (Int.le_of_lt hy)]; exact q _ _)
theorem i_half {n : Nat} (hx : x = (n : Int)) (q : ∀ t tk, Q (.int ((n / 2 : Nat) : Int) t) (mk s h tk)) : wpAny (model prog w) A (binaryOp .RShift (.int x t) (.int 1 u)) Q E (mk s h tk) := by
  subst hx
  exact wpAny_rshift1_int (by lia) (by rw [show ((n : Int) / 2) = ((n / 2 : Nat) : Int) by lia]; exact q _ _)
theorem i_mul2 {n : Nat} (hy : y = (n : Int)) (q : ∀ t tk, Q (.int ((2 * n : Nat) : Int) t) (mk s h tk)) : wpAny (model prog w) A (binaryOp .Mult (.int 2 t) (.int y u)) Q E (mk s h tk) := by
  subst hy
  exact PySem.P.mul_int (by rw [show (2 * (n : Int)) = ((2 * n : Nat) : Int) by lia]; exact q _ _) (.of_left (by decide))
theorem i_iadd (q : ∀ t tk, Q (.int (x + y) t) (mk s h tk)) : wpAny (model prog w) A (inplaceOp .Add (.int x t) (.int y u)) Q E (mk s h tk) := iadd_int (q _ _)
theorem i_isub (q : ∀ t tk, Q (.int (x - y) t) (mk s h tk)) : wpAny (model prog w) A (inplaceOp .Sub (.int x t) (.int y u)) Q E (mk s h tk) := isub_int (q _ _)
end
theorem r_lt {v v' : Value} {d d' : D} {Q : Value → Shared → Prop} (S : St h₀ L h m ls ob nw) (hu : A.units + 2 < cLine) (h1 : RelIn nw k v d) (h2 : RelIn nw k v' d') (q : Q (.bool (llt d d')) (mk s h tk)) :
    wpAny (model prog w) A (compareOp .Lt v v') Q E (mk s h tk) := (cmp_all 2 hu (cmpK S.gets h1 h2)).2.2 Q q
theorem r_item {i : Int} {n : Nat} {t : Tok} {d : D} {Q : Value → Shared → Prop} (S : St h₀ L h m ls ob nw) (U : At a k ds ls g) (hi : i = (n : Int)) (hd : ds[n]? = some d) (hz : ds.length < 1000) (q : ∀ v, RelIn nw k v d → Q v (mk s h tk)) :
    wpAny (model prog w) A (getItem (.ref a) (.int i t)) Q E (mk s h tk) := by
  obtain ⟨vs, c, pre, post, N, ha, _, _, _⟩ := S.open U
  obtain ⟨v, hv, hr⟩ := ha.get hd
  have hl : (mk s h tk).heap.IsList a vs.toArray := PySem.IsL.isList (n := c) (N (a, _) (List.mem_append_right _ (.head _))).1
  have hn : n < ds.length := by
    have := List.getElem?_eq_some_iff.mp hd
    exact this.1
  subst hi
  exact wpAny_getItem_list hl (by lia) (by lia) (by simpa using hv) (q v hr)
theorem r_sub {value slice : PySem.Expr} {i : Int} {n : Nat} {t : Tok} {d : D} {Q : Value → Shared → Prop} (S : St h₀ L h m ls ob nw) (U : At a k ds ls g) (hi : i = (n : Int)) (hd : ds[n]? = some d) (hz : ds.length < 1000) (q : ∀ v, RelIn nw k v d → Q v (mk s h tk))
    (hs : subscripted slice false (.ref a) (.int i t) = operate [.ref a, .int i t] (getItem (.ref a) (.int i t)) := by with_unfolding_all rfl) :
    wpAny (model prog w) A (subscriptTail value slice (.ref a) (.int i t)) Q E (mk s h tk) := by
  obtain ⟨vs, c, pre, post, N, ha, _, _, _⟩ := S.open U
  have hl : (mk s h tk).heap.IsList a vs.toArray := PySem.IsL.isList (n := c) (N (a, _) (List.mem_append_right _ (.head _))).1
  exact tail_any hl.typeIs slot_list_getitem.lookup (r_item S U hi hd hz q) hs
theorem r_set {i : Int} {n : Nat} {t : Tok} {v : Value} {d : D} {Q : Unit → Shared → Prop} (S : St h₀ L h m ls ob nw) (U : At a k ds ls g) (hi : i = (n : Int)) (hn : n < ds.length) (hz : ds.length < 1000) (hv : RelIn nw k v d)
    (q : ∀ h', St h₀ L h' m (g (ds.set n d)) ob nw → Q () (mk s h' tk)) : wpAny (model prog w) A (setItem (.ref a) (.int i t) v) Q E (mk s h tk) := by
  obtain ⟨vs, c, pre, post, N, ha, h1, h2, hc⟩ := S.open U
  have z := N (a, listOf vs.toArray c) (List.mem_append_right _ (.head _))
  have hl := ha.len
  subst hi
  refine ki_setAt (s := mk s h tk) z.1 (by lia) (by lia) (by simp; lia) (q _ (hc _ _ (vs.set n v) c _ (S.fr.change (Heap.SameBut.update ..) z.2.1 z.2.2) (ki_turn _ N h1 h2 ?_ ?_) (ha.set hv n)))
  · apply Array.toList_inj.mp
    simp
  · simp
theorem r_len {Q : Value → Shared → Prop} (S : St h₀ L h m ls ob nw) (U : At a k ds ls g) (hz : ds.length < 1000) (q : ∀ t tk, Q (.int ds.length t) (mk s h tk)) :
    wpAny (model prog w) A (call (.builtin "len") [.ref a]) Q E (mk s h tk) := by
  obtain ⟨vs, c, pre, post, N, ha, _, _, _⟩ := S.open U
  have hl : (mk s h tk).heap.IsList a vs.toArray := PySem.IsL.isList (n := c) (N (a, _) (List.mem_append_right _ (.head _))).1
  have e := ha.len
  refine Calls.call_len_list hl (by simp; lia) ?_
  rw [List.size_toArray, e]
  exact q _ _
end
end Mine
end
section
namespace Mine
noncomputable def defAt (P : Program) (i : Nat) : Option (Str × Arguments × List Stmt × Scope) := match P.main.body[i]? with
  | some (.FunctionDef n a b _ _ _ sc _ _ _) => some (n, a, b, sc)
  | _ => none
noncomputable def nm (P : Program) (i : Nat) : Str := match defAt P i with | some x => x.1 | none => Str.empty
noncomputable def pr (P : Program) (i : Nat) : Arguments := match defAt P i with | some x => x.2.1 | none => ⟨[], [], none, [], [], none, []⟩
noncomputable def bd (P : Program) (i : Nat) : List Stmt := match defAt P i with | some x => x.2.2.1 | none => []
noncomputable def sc (P : Program) (i : Nat) : Scope := match defAt P i with | some x => x.2.2.2 | none => default
noncomputable def fa (P : Program) (mg : Str → Option Value) (i : Nat) : Addr := match mg (nm P i) with | some (.ref a) => a | _ => 0
structure Gd (P : Program) (js ks : List Nat) (free : List Str) (mg mb : Str → Option Value) (h : Heap) : Prop where
  g : h.Ns mainGlobals mg
  b : h.Ns builtinsNs mb
  nolimit : h.NoLimit
  blt : ∀ x : Str, x ≠ "__name__" → mb x = bootBuiltins x
  free : ∀ x ∈ free, mg x = none
  fn : ∀ i ∈ js, mg (nm P i) = some (.ref (fa P mg i)) ∧ ∃ o pm code doc, h.get? (fa P mg i) = some o ∧ o.data = .func (Calls.docDef (nm P i) (pr P i) (bd P i) (sc P i) pm code doc) ∧ h.CodeRec code (nm P i)
  fd : ∀ i ∈ ks, mg (nm P i) = some (.ref (fa P mg i)) ∧ ∃ o pm code doc dA dO dn, h.get? (fa P mg i) = some o ∧ o.data = .func { Calls.docDef (nm P i) (pr P i) (bd P i) (sc P i) pm code doc with defaults := .ref dA } ∧ h.CodeRec code (nm P i) ∧
    h.get? dA = some dO ∧ dO.data = .seq #[Value.none] dn
theorem Gd.keeps {P : Program} {js ks : List Nat} {fr : List Str} {mg mb : Str → Option Value} {h h' : Heap} (G : Gd P js ks fr mg mb h) (hk : ∀ b o, h.get? b = some o → h'.get? b = some o) : Gd P js ks fr mg mb h' where
  g := G.g.keeps hk
  b := G.b.keeps hk
  nolimit := G.nolimit.keeps hk
  blt := G.blt
  free := G.free
  fn := fun i hi => by obtain ⟨h1, o, pm, code, doc, h2, h3, h4⟩ := G.fn i hi; exact ⟨h1, o, pm, code, doc, hk _ _ h2, h3, h4.keeps hk⟩
  fd := fun i hi => by obtain ⟨h1, o, pm, code, doc, dA, dO, dn, h2, h3, h4, h5, h6⟩ := G.fd i hi; exact ⟨h1, o, pm, code, doc, dA, dO, dn, hk _ _ h2, h3, h4.keeps hk, hk _ _ h5, h6⟩
structure Pg where
  P : Program
  js : List Nat
  ks : List Nat
  free : List Str
noncomputable def OutOk : List Env → Led → Prop := All2 fun env p => env.scope.kind ≠ .module ∧ env.frame = some p.1 ∧ ∃ es n, p.2.data = .dict es n
structure Cx (X : Pg) (mg mb : Str → Option Value) (A : Around) (B : Base) (L : Addr) (k : Nat) : Prop where
  gd : Gd X.P X.js X.ks X.free mg mb B.hB
  below : ∃ env outer, A.frames = some (env :: outer) ∧ env.frame = some L ∧ env.scope.kind = .function ∧ OutOk outer B.frs
  depth : A.depth + k < 900
  units : A.units + 3 * k < 9000
  handled : A.handled = none
noncomputable def Fly (B : Base) (A : Around) (L : Addr) (h : Heap) (m : Str → Option Value) (ls : List Ent) (ob nw : Led) (e : Addr) (cls : String) : Prop :=
  ∃ fr hb a0 rs fs, A.frames = some fr ∧ Raw nw rs ls ∧ FUp fs B.frs ∧ B.hB.StaysIn hb ∧ (∀ p ∈ rs ++ (ob ++ nw), hb.get? p.1 = some p.2 ∧ p.1 ≠ L ∧ B.hB.get? p.1 = none) ∧ Heap.FlyingW hb fr e (.type cls) a0 h ∧ h.Ns L m ∧
    (∀ p ∈ fs, (∃ es n, p.2.data = .dict es n) ∧ h.get? p.1 = some p.2 ∧ p.1 ≠ L ∧ B.hB.get? p.1 = none) ∧ ((adr ls ob B).Nodup ∧ ∀ a ∈ adr ls ob B, ∀ p ∈ nw, p.1 ≠ a) ∧ B.hB.objs.size ≤ L
theorem up_frames {fs frs : Led} (hf : FUp fs frs) {h' : Heap} (hu : ∀ p ∈ fs, ∃ sl, h'.get? p.1 = some { p.2 with slots := sl }) : ∃ fs', FUp fs' frs ∧ fs'.map (·.1) = fs.map (·.1) ∧ (∀ p ∈ fs', h'.get? p.1 = some p.2) ∧ ∀ p ∈ fs', ∃ q ∈ fs, q.1 = p.1 ∧ q.2.data = p.2.data := by
  unfold FUp at hf
  induction hf with
  | nil => exact ⟨[], .nil, rfl, (fun _ h => nomatch h), fun _ h => nomatch h⟩
  | @cons r x rs xs h1 _ ih =>
    obtain ⟨fs', a1, a2, a3, a4⟩ := ih fun p hp => hu p (.tail _ hp)
    obtain ⟨sl, hsl⟩ := hu r (.head _)
    obtain ⟨e1, sl0, e2⟩ := h1
    refine ⟨(r.1, { r.2 with slots := sl }) :: fs', .cons ⟨e1, sl, by rw [e2]⟩ a1, by simp [a2], fun p hp => ?_, fun p hp => ?_⟩
    · rcases List.mem_cons.mp hp with rfl | hp
      · exact hsl
      · exact a3 p hp
    · rcases List.mem_cons.mp hp with rfl | hp
      · exact ⟨r, .head _, rfl, rfl⟩
      · obtain ⟨q, q1, q2⟩ := a4 p hp
        exact ⟨q, .tail _ q1, q2⟩
section
variable {X : Pg} {mg mb : Str → Option Value} {prog : Program} {w : World} {A : Around} {E : Value → Shared → Prop} {s : Shared} {h : Heap} {tk : Nat} {h₀ : Base} {L : Addr} {m : Str → Option Value} {ls : List Ent} {ob nw : Led}
noncomputable def Back (s : Shared) (h₀ : Base) (L : Addr) (m : Str → Option Value) (g : Base) (L' : Addr) (Q : Value → Shared → Prop) (v : Value) (s' : Shared) : Prop :=
  ∃ h' tk m' ls' ob' nw', s' = mk s h' tk ∧ St g L' h' m' ls' ob' nw' ∧ (St h₀ L h' m ls' ob' nw' → Q v (mk s h' tk))
theorem Back.intro {g : Base} {h' : Heap} {L' : Addr} {Q : Value → Shared → Prop} {v : Value} {m' : Str → Option Value} (S : St g L' h' m' ls ob nw) (q : St h₀ L h' m ls ob nw → Q v (mk s h' tk)) : Back s h₀ L m g L' Q v (mk s h' tk) :=
  ⟨h', tk, m', ls, ob, nw, rfl, S, q⟩
noncomputable def RBack (s : Shared) (h₀ : Base) (A : Around) (L : Addr) (m : Str → Option Value) (g : Base) (L' : Addr) (E : Value → Shared → Prop) (e : Value) (s' : Shared) : Prop :=
  ∃ e' cls h₂ h' tk m' ls' ob' nw', e = .ref e' ∧ s' = mk s h' tk ∧ Heap.NewExc h₂ h' e' cls ∧ St g L' h₂ m' ls' ob' nw' ∧ ∀ h3, Fly h₀ A L h3 m ls' ob' nw' e' cls → E (.ref e') (mk s h3 tk)
noncomputable def retOf (fl : Flow) : Value := match fl with | .ret v => v | _ => .none
theorem St.back {oL : Obj} {es : Array DictEntry} {ep : Nat} {L' : Addr} {h' : Heap} {m' : Str → Option Value} (hd : oL.data = .dict es ep) (hsk : StrKeys es) (hm : ∀ x, nsFind es x = m x) (hab : h₀.hB.objs.size ≤ L) (S : St ⟨h₀.hB, (L, oL) :: h₀.frs⟩ L' h' m' ls ob nw) : St h₀ L h' m ls ob nw := by
  obtain ⟨rs, fs, hr, hf, N⟩ := S.led
  obtain _ | ⟨⟨e1, sl, e2⟩, hf⟩ := hf
  rename_i r fs
  obtain ⟨ra, ro⟩ := r
  simp only at e1 e2
  subst e1 e2
  have hp1 : (adr ls ob ⟨h₀.hB, (ra, oL) :: h₀.frs⟩).Perm (ra :: adr ls ob h₀) := by
    unfold adr
    exact (List.Perm.append_left _ List.perm_middle).trans List.perm_middle
  have hn := List.nodup_cons.mp (hp1.nodup_iff.mp S.apart.1)
  have hL := N (ra, { oL with slots := sl }) (List.mem_append_right _ (List.mem_append_right _ (.head _)))
  refine ⟨⟨⟨_, es, ep, hL.1, hd, hsk, hm⟩, S.fr.keep, hab⟩, ⟨rs, fs, hr, hf, fun p hp => ?_⟩, hn.2, fun a ha p hp => S.apart.2 a (hp1.mem_iff.mpr (.tail _ ha)) p hp⟩
  have hp' : p ∈ rs ++ (ob ++ ((ra, { oL with slots := sl }) :: fs ++ nw)) := by
    rcases List.mem_append.mp hp with hp | hp
    · exact List.mem_append_left _ hp
    · rcases List.mem_append.mp hp with hp | hp
      · exact List.mem_append_right _ (List.mem_append_left _ hp)
      · exact List.mem_append_right _ (List.mem_append_right _ (.tail _ hp))
  refine ⟨(N p hp').1, fun q => ?_, (N p hp').2.2⟩
  rcases List.mem_append.mp hp with hp | hp
  · exact hn.1 (q ▸ List.mem_append_left _ (Raw.addrs hr ▸ List.mem_map_of_mem (f := (·.1)) hp))
  · rcases List.mem_append.mp hp with hp | hp
    · exact hn.1 (q ▸ List.mem_append_right _ (List.mem_append_left _ (List.mem_map_of_mem (f := (·.1)) hp)))
    · rcases List.mem_append.mp hp with hp | hp
      · exact hn.1 (q ▸ List.mem_append_right _ (List.mem_append_right _ ((FUp.addrs hf) ▸ List.mem_map_of_mem (f := (·.1)) hp)))
      · exact S.apart.2 ra (hp1.mem_iff.mpr (.head _)) p hp q
theorem outOk_addrs {outer : List Env} {frs : Led} (h : OutOk outer frs) : outer.filterMap (·.frame) = frs.map (·.1) := by
  unfold OutOk at h
  induction h with
  | nil => rfl
  | cons h1 _ ih => simp [h1.2.1, ih]
theorem outOk_frames {outer : List Env} {frs : Led} (h : OutOk outer frs) : ∀ {fs : Led} {h' hb : Heap}, FUp fs frs → (∀ p ∈ fs, h'.get? p.1 = some p.2) → (∀ p ∈ fs, hb.get? p.1 = none) → h'.FunFrames hb outer := by
  unfold OutOk at h
  induction h with
  | nil => intros; trivial
  | @cons env x outer frs h1 _ ih =>
    intro fs h' hb hf h2 h3
    obtain _ | ⟨⟨e1, sl, e2⟩, hf⟩ := hf
    rename_i r fs
    obtain ⟨es, n, hd⟩ := h1.2.2
    refine ⟨h1.1, ⟨x.1, r.2, h1.2.1, e1 ▸ h3 r (.head _), e1 ▸ h2 r (.head _), fun vs q => ?_⟩, ih hf (fun p hp => h2 p (.tail _ hp)) fun p hp => h3 p (.tail _ hp)⟩
    rw [e2] at q
    rw [show ({ x.2 with slots := sl } : Obj).data = x.2.data from rfl, hd] at q
    cases q
theorem fup_dicts {outer : List Env} {frs : Led} (ho : OutOk outer frs) : ∀ {fs : Led}, FUp fs frs → ∀ p ∈ fs, ∃ es n, p.2.data = .dict es n := by
  unfold OutOk at ho
  induction ho with
  | nil => intro fs hf p hp; cases hf; cases hp
  | cons h2 _ ih =>
    intro fs hf p hp
    obtain _ | ⟨⟨e1, sl, e2⟩, hf⟩ := hf
    rcases List.mem_cons.mp hp with rfl | hp
    · obtain ⟨es, n, hd⟩ := h2.2.2
      exact ⟨es, n, by rw [e2]; exact hd⟩
    · exact ih hf p hp
theorem leaves {oL : Obj} {es : Array DictEntry} {ep : Nat} {L' e : Addr} {h₂ h' : Heap} {m' : Str → Option Value} {env env' : Env} {outer : List Env} {cls : String} {M : Model} {E₂ : Value → Shared → Prop} {Q : Unit → Shared → Prop}
    (hA : A.frames = some (env :: outer)) (hfr : env.frame = some L) (hk : env.scope.kind = .function) (ho : OutOk outer h₀.frs) (hk' : env'.scope.kind = .function) (hf' : env'.frame = some L')
    (hd : oL.data = .dict es ep) (hsk : StrKeys es) (hm : ∀ x, nsFind es x = m x) (hab : h₀.hB.objs.size ≤ L) (S : St ⟨h₀.hB, (L, oL) :: h₀.frs⟩ L' h₂ m' ls ob nw) (hx : Heap.NewExc h₂ h' e cls)
    (q : ∀ h3, Fly h₀ A L h3 m ls ob nw e cls → Q () (mk s h3 tk)) : wpAny M (A.deeper env') (leaving env' (.ref e)) Q E₂ (mk s h' tk) := by
  have SB := S.back hd hsk hm hab
  obtain ⟨rs, fs0, hr, hf0, N⟩ := S.led
  obtain _ | ⟨⟨e1, sl, e2⟩, hf⟩ := hf0
  rename_i r fs
  obtain ⟨ra, ro⟩ := r
  simp only at e1 e2
  subst e1 e2
  have hAf : (A.deeper env').frames = some (env' :: env :: outer) := by show Option.map _ A.frames = _; rw [hA]; rfl
  have hfa : (env' :: env :: outer).filterMap (·.frame) = L' :: ra :: h₀.frs.map (·.1) := by
    rw [List.filterMap_cons_some hf', List.filterMap_cons_some hfr, outOk_addrs ho]
  have hOut : OutOk (env :: outer) ((ra, oL) :: h₀.frs) := .cons ⟨by rw [hk]; decide, hfr, es, ep, hd⟩ ho
  have hFU : FUp ((ra, { oL with slots := sl }) :: fs) ((ra, oL) :: h₀.frs) := .cons ⟨rfl, sl, rfl⟩ hf
  have hin : ∀ p ∈ (ra, ({ oL with slots := sl } : Obj)) :: fs, p ∈ rs ++ (ob ++ ((ra, { oL with slots := sl }) :: fs ++ nw)) := fun p hp => List.mem_append_right _ (List.mem_append_right _ (List.mem_append_left _ hp))
  obtain ⟨hb, hbd⟩ : ∃ hb, hb = hideAll h₂ (L' :: ra :: h₀.frs.map (·.1)) := ⟨_, rfl⟩
  have hbs : hb.StaysIn h₂ := fun b o qb => of_hideAll _ (hbd ▸ qb)
  have hnone : ∀ p ∈ (ra, ({ oL with slots := sl } : Obj)) :: fs, hb.get? p.1 = none := fun p hp => by
    rw [hbd]
    refine hideAll_none _ (.tail _ ?_)
    show p.1 ∈ ((ra, oL) :: h₀.frs).map (·.1)
    rw [← FUp.addrs hFU]
    exact List.mem_map_of_mem (f := (·.1)) hp
  have hL'n : hb.get? L' = none := by rw [hbd]; exact hideAll_none _ (.head _)
  have hstay : h₀.hB.StaysIn hb := fun b o qb => by
    rw [hbd]
    refine hideAll_get _ (S.fr.keep b o qb) fun hm => ?_
    rcases List.mem_cons.mp hm with rfl | hm
    · exact absurd (Nat.lt_of_lt_of_le (Heap.lt_size qb) S.fr.above) (Nat.lt_irrefl _)
    · have : b ∈ ((ra, ({ oL with slots := sl } : Obj)) :: fs).map (·.1) := by rw [FUp.addrs hFU]; exact hm
      obtain ⟨p, hp, rfl⟩ := List.mem_map.mp this
      have := (N p (hin p hp)).2.2
      rw [show h₀.hB.get? p.1 = none from this] at qb; cases qb
  have hledger : ∀ p ∈ rs ++ (ob ++ nw), hb.get? p.1 = some p.2 := fun p hp => by
    have hp' : p ∈ rs ++ (ob ++ ((ra, { oL with slots := sl }) :: fs ++ nw)) := by
      rcases List.mem_append.mp hp with hp | hp
      · exact List.mem_append_left _ hp
      · rcases List.mem_append.mp hp with hp | hp
        · exact List.mem_append_right _ (List.mem_append_left _ hp)
        · exact List.mem_append_right _ (List.mem_append_right _ (List.mem_append_right _ hp))
    rw [hbd]
    refine hideAll_get _ (N p hp').1 fun hm => ?_
    rcases List.mem_cons.mp hm with q | hm
    · exact (N p hp').2.1 q
    · have hn := S.apart
      have hnd := List.nodup_append.mp hn.1
      have hnd2 := List.nodup_append.mp hnd.2.1
      have hm' : p.1 ∈ ((ra, oL) :: h₀.frs).map (·.1) := hm
      rcases List.mem_append.mp hp with hp | hp
      · exact hnd.2.2 p.1 (Raw.addrs hr ▸ List.mem_map_of_mem (f := (·.1)) hp) p.1 (List.mem_append_right _ hm') rfl
      · rcases List.mem_append.mp hp with hp | hp
        · exact hnd2.2.2 p.1 (List.mem_map_of_mem (f := (·.1)) hp) p.1 hm' rfl
        · exact hn.2 p.1 (List.mem_append_right _ (List.mem_append_right _ hm')) p hp rfl
  obtain ⟨oL', es', ep', hgL', hdL', _⟩ := S.fr.ns
  have hFF : h'.FunFrames hb (env' :: env :: outer) := by
    refine ⟨by rw [hk']; decide, ⟨L', oL', hf', hL'n, hx.keeps _ _ hgL', fun vs qd => by rw [hdL'] at qd; cases qd⟩, outOk_frames hOut hFU (fun p hp => hx.keeps _ _ (N p (hin p hp)).1) hnone⟩
  obtain ⟨ob', tp, he, hcls, hdat⟩ := hx.there
  have hen : hb.get? e = none := by
    cases qe : hb.get? e with
    | none => rfl
    | some o => have := hbs _ _ qe; rw [hx.new] at this; cases this
  refine wpAny_leaving_firstW (s := mk s h' tk) (base := hb) (a0 := tp) hAf hFF hf' he (fun b o qb => hx.keeps b o (hbs b o qb)) hen hdat rfl rfl fun h3 hLf => ?_
  obtain ⟨k1, ⟨_, _, k2⟩, k3, k4⟩ := hLf
  have k4' : h₂.UpToSlots h3 := (Heap.UpToSlots.of_keeps hx.keeps).trans k4
  have hdicts := fup_dicts ho hf
  obtain ⟨fs', f1, f2, f3, f4⟩ := up_frames hf (h' := h3) fun p hp => by
    have z := N p (hin p (.tail _ hp))
    refine k4' p.1 p.2 z.1 fun vs qd => ?_
    obtain ⟨es2, n2, hd2⟩ := hdicts p hp
    rw [hd2] at qd; cases qd
  refine q h3 ⟨env :: outer, hb, tp, rs, fs', hA, hr, f1, hstay, fun p hp => ⟨hledger p hp, ?_⟩, ⟨k1, hen, k2, by rw [← hcls]; exact k3⟩, ?_, fun p hp => ?_, SB.apart, hab⟩
  · obtain ⟨rs2, fs2, hr2, hf2, N2⟩ := SB.led
    have hp' : p ∈ rs ++ (ob ++ ((ra, { oL with slots := sl }) :: fs ++ nw)) := by
      rcases List.mem_append.mp hp with hp | hp
      · exact List.mem_append_left _ hp
      · rcases List.mem_append.mp hp with hp | hp
        · exact List.mem_append_right _ (List.mem_append_left _ hp)
        · exact List.mem_append_right _ (List.mem_append_right _ (List.mem_append_right _ hp))
    refine ⟨fun qe => ?_, (N p hp').2.2⟩
    have z := hledger p hp
    rw [qe, hnone (ra, _) (.head _)] at z; cases z
  · exact k4'.ns SB.fr.ns
  · obtain ⟨q0, q1, q2, q3⟩ := f4 p hp
    obtain ⟨es, n, hd⟩ := hdicts q0 q1
    have z := N q0 (hin q0 (.tail _ q1))
    refine ⟨⟨es, n, by rw [← q3]; exact hd⟩, f3 p hp, ?_, by rw [← q2]; exact z.2.2⟩
    intro qe
    have : (ra, ({ oL with slots := sl } : Obj)).1 ∉ fs.map (·.1) := by
      have hn := S.apart
      have hnd := (List.nodup_append.mp (List.nodup_append.mp hn.1).2.1).2.1
      rw [← FUp.addrs hFU] at hnd
      exact (List.nodup_cons.mp hnd).1
    exact this (by rw [← qe, ← f2]; exact List.mem_map_of_mem (f := (·.1)) hp)
noncomputable abbrev bindsOf (X : Pg) (i : Nat) (vals : List Value) : List (Str × Value) := ((pr X.P i).args.map (·.arg)).zip vals
theorem call_fnE {k i : Nat} {vals : List Value} {Q : Value → Shared → Prop} (C : Cx X mg mb A h₀ L (k + 1)) (S : St h₀ L h m ls ob nw) (hi : i ∈ X.js)
    (hbind : ∀ pm code doc, bindArgs (Calls.docDef (nm X.P i) (pr X.P i) (bd X.P i) (sc X.P i) pm code doc) ⟨vals, []⟩ = pure (bindsOf X i vals))
    (hloc : ∀ y ∈ bindsOf X i vals, (sc X.P i).names.lookup y.1 = some .local)
    (q : ∀ g L' h₁ tk code, Cx X mg mb (A.deeper (envX (nm X.P i) (sc X.P i) L' (fa X.P mg i) code [])) g L' k → St g L' h₁ (fun y => (bindsOf X i vals).reverse.lookup y) ls ob nw →
      wpAny (model prog w) (A.deeper (envX (nm X.P i) (sc X.P i) L' (fa X.P mg i) code [])) (execs (bd X.P i) (envX (nm X.P i) (sc X.P i) L' (fa X.P mg i) code []))
        (fun fl s' => Back s h₀ L m g L' Q (retOf fl) s') (RBack s h₀ A L m g L' E) (mk s h₁ tk))
    (hco : (sc X.P i).isCoroutine = false := by rfl) (hgen : (sc X.P i).isGenerator = false := by rfl) (hk : (sc X.P i).kind = .function := by rfl)
    (hcell : ∀ x ∈ (sc X.P i).names, x.2 ≠ .cell := by decide) :
    wpAny (model prog w) A (call (.ref (fa X.P mg i)) vals) Q E (mk s h tk) := by
  obtain ⟨env, outer, hA, hf, hke, hout⟩ := C.below
  obtain ⟨_, o, pm, code, doc, h2, h3, h4⟩ := (C.gd.keeps S.fr.keep).fn i hi
  obtain ⟨rs, fs, hr, hfu, N⟩ := S.led
  obtain ⟨oL, es, ep, hgL, hdL, hskL, hmL⟩ := S.fr.ns
  have hd := C.depth
  have hu := C.units
  have hLlt : L < h.objs.size := Heap.lt_size hgL
  refine wpAny_call (codeAny_call_def (s := mk s h tk) (fd := Calls.docDef (nm X.P i) (pr X.P i) (bd X.P i) (sc X.P i) pm code doc) (body := bd X.P i) (binds := bindsOf X i vals) (by show _ < 1000; lia) h2 h3 (C.gd.nolimit.keeps S.fr.keep) h4 rfl (BindsTo.of_eq (hbind pm code doc)) hcell hloc
    (fun h₁ hns hk₁ => ?_) hco hgen hk)
  have hns' : h₁.Ns h.objs.size (fun y => (bindsOf X i vals).reverse.lookup y) := hns
  have hk₁' : ∀ b o, h.get? b = some o → h₁.get? b = some o := hk₁
  have C' : Cx X mg mb (A.deeper (envX (nm X.P i) (sc X.P i) h.objs.size (fa X.P mg i) code [])) ⟨h₀.hB, (L, oL) :: h₀.frs⟩ h.objs.size k :=
    ⟨C.gd, ⟨_, env :: outer, by show Option.map _ A.frames = _; rw [hA]; rfl, rfl, hk, .cons ⟨by rw [hke]; decide, hf, es, ep, hdL⟩ hout⟩, by show A.depth + 1 + k < 900; lia, by show A.units + 3 + 3 * k < 9000; lia, C.handled⟩
  have hp1 : (adr ls ob ⟨h₀.hB, (L, oL) :: h₀.frs⟩).Perm (L :: adr ls ob h₀) := by
    unfold adr
    exact (List.Perm.append_left _ List.perm_middle).trans List.perm_middle
  have S' : St ⟨h₀.hB, (L, oL) :: h₀.frs⟩ h.objs.size h₁ (fun y => (bindsOf X i vals).reverse.lookup y) ls ob nw := by
    refine ⟨⟨hns', fun b o e => hk₁' b o (S.fr.keep b o e), Nat.le_trans S.fr.above (Nat.le_of_lt hLlt)⟩, ⟨rs, (L, oL) :: fs, hr, .cons ⟨rfl, oL.slots, rfl⟩ hfu, fun p hp => ?_⟩, ?_, ?_⟩
    · by_cases hpL : p = (L, oL)
      · subst hpL
        exact ⟨hk₁' _ _ hgL, Nat.ne_of_lt hLlt, Heap.get?_none_of_le S.fr.above⟩
      · have hp' : p ∈ rs ++ (ob ++ (fs ++ nw)) := by
          rcases List.mem_append.mp hp with hp | hp
          · exact List.mem_append_left _ hp
          · rcases List.mem_append.mp hp with hp | hp
            · exact List.mem_append_right _ (List.mem_append_left _ hp)
            · rcases List.mem_cons.mp hp with hp | hp
              · exact absurd hp hpL
              · exact List.mem_append_right _ (List.mem_append_right _ hp)
        exact ⟨hk₁' _ _ (N p hp').1, Nat.ne_of_lt (Heap.lt_size (N p hp').1), (N p hp').2.2⟩
    · exact hp1.nodup_iff.mpr (List.nodup_cons.mpr ⟨fun q => (S.low.1 L q).2 rfl, S.apart.1⟩)
    · intro b hb p hp
      rcases List.mem_cons.mp (hp1.mem_iff.mp hb) with rfl | hb
      · exact (S.news p hp).2.1
      · exact S.apart.2 b hb p hp
  refine wpAny_mono (q ⟨h₀.hB, (L, oL) :: h₀.frs⟩ h.objs.size h₁ _ code C' S') (fun fl s' hb => ?_) fun e s' hr => ?_
  · obtain ⟨h', tk, m', ls', ob', nw', rfl, S'', hq⟩ := hb
    exact hq (S''.back hdL hskL hmL S.fr.above)
  · obtain ⟨e', cls, h₂, h', tk', m', ls', ob', nw', rfl, rfl, hx, S'', hq⟩ := hr
    exact leaves hA hf hke hout hk rfl hdL hskL hmL S.fr.above S'' hx fun h3 fl => hq h3 fl
end
section
variable {prog : Program} {w : World} {A : Around} {s : Shared} {env : Env}
end
end Mine
end
section
namespace Mine
noncomputable abbrev X1 : Pg := ⟨PySem.Challenge.pw_du0011_02, [1,2,3,4,5,6,7,8,9,10,11,12,16,17,18,19,20,21], [13, 14], [Str.ofString "len", Str.ofString "range", Str.ofString "reversed", Str.ofString "list", Str.ofString "max", Str.ofString "min", Str.ofString "sorted", Str.ofString "iter", Str.ofString "object", Str.ofString "zip", Str.ofString "TypeError", Str.ofString "AttributeError"]⟩
end Mine
end
section
namespace Mine
noncomputable def refOf : Value → Option Addr
  | .ref a => some a
  | _ => none
noncomputable def seqOf : Data → Option (List Value)
  | .seq vs _ => some vs.toList
  | _ => none
noncomputable def dfl1 (h : Heap) (n : Str) : Option (List Value) := (h.fnAt mainGlobals n).bind fun t => (refOf t.2.2.defaults).bind fun d => (h.get? d).bind fun o => seqOf o.data
theorem refOf_some {v : Value} {a : Addr} (h : refOf v = some a) : v = .ref a := by
  cases v
  case ref => exact congrArg Value.ref (Option.some.inj h)
  all_goals cases h
theorem seqOf_some {d : Data} {l : List Value} (h : seqOf d = some l) : ∃ n, d = .seq l.toArray n := by
  cases d
  case seq vs n => exact ⟨n, by rw [← Option.some.inj h, Array.toArray_toList]⟩
  all_goals cases h
theorem dfl1_some {h : Heap} {n : Str} {l : List Value} (e : dfl1 h n = some l) : ∃ t d dO dn, h.fnAt mainGlobals n = some t ∧ t.2.2.defaults = .ref d ∧ h.get? d = some dO ∧ dO.data = .seq l.toArray dn := by
  obtain ⟨t, e1, e⟩ := Option.bind_eq_some_iff.mp e
  obtain ⟨d, e2, e⟩ := Option.bind_eq_some_iff.mp e
  obtain ⟨o, e3, e⟩ := Option.bind_eq_some_iff.mp e
  obtain ⟨dn, e⟩ := seqOf_some e
  exact ⟨t, d, o, dn, e1, refOf_some e2, e3, e⟩
noncomputable def rec1 (P : Program) (i : Nat) : DefRec := ⟨nm P i, pr P i, bd P i, sc P i, default⟩
noncomputable def Says1 (P : Program) (ks : List Nat) (h : Heap) : Prop := ∃ m, h.Ns mainGlobals m ∧ ∀ i ∈ ks, ∃ a o pm code doc dA dO dn, m (nm P i) = some (.ref a) ∧ h.get? a = some o ∧ o.data = .func { Calls.docDef (nm P i) (pr P i) (bd P i) (sc P i) pm code doc with defaults := .ref dA } ∧ h.CodeRec code (nm P i) ∧
    h.get? dA = some dO ∧ dO.data = .seq #[Value.none] dn
theorem says1_of {P : Program} {ks : List Nat} {h : Heap} (h1 : h.isNs mainGlobals = true) (h2 : ks.map (fun i => h.shapeAtD (nm P i)) = ks.map fun i => some (rec1 P i).shape) (h3 : ks.map (fun i => dfl1 h (nm P i)) = ks.map fun _ => some [Value.none]) : Says1 P ks h := by
  refine ⟨_, .of_isNs h1, fun i hi => ?_⟩
  obtain ⟨a, o, pm, code, doc, dV, q1, q2, q3, q4⟩ := Heap.hasFn_of_shapeD (d := rec1 P i) (List.map_inj_left.mp h2 i hi)
  obtain ⟨⟨f, o', fd⟩, d, dO, dn, hf, hd, h5, h6⟩ := dfl1_some (List.map_inj_left.mp h3 i hi)
  obtain ⟨r1, r2, r3⟩ := Heap.fnAt_spec hf
  have e : a = f := Value.ref.inj (Option.some.inj ((show h.nsMap mainGlobals (nm P i) = some (.ref a) from q1).symm.trans r1))
  rw [← e, q2] at r2
  rw [← Option.some.inj r2, q3] at r3
  have hd : dV = .ref d := (congrArg FuncData.defaults (Data.func.inj r3)).trans hd
  exact ⟨a, o, pm, code, doc, d, dO, dn, q1, q2, hd ▸ q3, q4, h5, h6⟩
theorem Says1.keeps {P : Program} {ks : List Nat} {h h' : Heap} (S : Says1 P ks h) (k : ∀ b o, h.get? b = some o → h'.get? b = some o) : Says1 P ks h' := S.elim fun m q => ⟨m, q.1.keeps k, fun i hi => by
  obtain ⟨a, o, pm, code, doc, dA, dO, dn, q1, q2, q3, q4, q5, q6⟩ := q.2 i hi
  exact ⟨a, o, pm, code, doc, dA, dO, dn, q1, k _ _ q2, q3, q4.keeps k, k _ _ q5, q6⟩⟩
noncomputable def hk1 (P : Program) (ks : List Nat) : Hook where
  α := Bool × List (Option FnShape) × List (Option (List Value))
  obs := fun s => (s.heap.isNs mainGlobals, ks.map (fun i => s.heap.shapeAtD (nm P i)), ks.map fun i => dfl1 s.heap (nm P i))
  val := fun _ => (true, ks.map (fun i => some (rec1 P i).shape), ks.map fun _ => some [Value.none])
  says := fun _ h => Says1 P ks h
  of := fun w s e => says1_of (congrArg (·.1) e) (congrArg (·.2.1) e) (congrArg (·.2.2) e)
  keeps := fun w h h' S k => S.keeps k
end Mine
end
section
set_option maxRecDepth 1000000
namespace Mine
theorem ws : OpenLaw.wellSaid PySem.Challenge.rw_du0011_02 = true := by kernel_rfl
end Mine
end
section
set_option maxRecDepth 1000000
namespace Mine
noncomputable abbrev vw : Program := view PySem.Challenge.pw_du0011_02 [1,2,3,4,5,6,7,8,9,10,11,12,16,17,18,19,20,21,22]
theorem left1 : LeftO PySem.Challenge.pw_du0011_02 vw [Str.ofString "nsmallest", Str.ofString "nlargest"] (fun s => xlAt vw [] s && recOk [] s) (Hook.obs (hk1 X1.P X1.ks)) (Hook.val (hk1 X1.P X1.ks)) 1638 := fun w => by kernel_rfl
end Mine
end
section
namespace Mine
noncomputable abbrev riObj (x left step : Int) : Obj := { cls := .type "range_iterator", data := .fields #[rawInt x, rawInt left, rawInt step] }
noncomputable def IsLI (o : Obj) (l : Addr) (i : Nat) : Prop := o.cls = .type "list_iterator" ∧ o.data = .fields #[.ref l, .int i 0]
section
variable {prog : Program} {w : World} {A : Around} {s : Shared} {h : Heap} {tk : Nat} {h₀ : Base} {L : Addr} {m : Str → Option Value} {ls : List Ent} {ob nw : Led}
variable {name : Str} {scope : Scope} {f : Addr} {cd : Value} {cl : List (Str × Addr)} {x : Str} {px : Pos} {body : List Stmt} {Q : Flow → Shared → Prop}
theorem St.lost {I : Addr} {o : Obj} {h₁ : Heap} (S' : St h₀ L h m ls ((I, o) :: ob) nw) (he₁ : Heap.ExtBut I h h₁) : St h₀ L h₁ m ls ob nw := by
  obtain ⟨rs, fs, hr, hf, N⟩ := S'.dropO.led
  have hn := S'.apart
  have hLI : I ≠ L := (S'.newsO (I, _) (.head _)).2.1
  have hI0 : h₀.hB.get? I = none := (S'.newsO (I, _) (.head _)).2.2
  obtain ⟨oL, a1, a2, hoL, a3⟩ := S'.fr.ns
  have hp1 : (adr ls ((I, o) :: ob) h₀).Perm (I :: adr ls ob h₀) := by unfold adr; exact List.perm_middle
  have hI := (List.nodup_cons.mp (hp1.nodup_iff.mp hn.1)).1
  refine ⟨⟨⟨oL, a1, a2, he₁ L oL hLI.symm hoL, a3⟩, fun b o e => he₁ b o (fun q => by rw [q, hI0] at e; cases e) (S'.fr.keep b o e), S'.fr.above⟩, ⟨rs, fs, hr, hf, fun p hp => ⟨he₁ p.1 p.2 ?_ (N p hp).1, (N p hp).2⟩⟩, S'.dropO.apart⟩
  intro q
  rcases List.mem_append.mp hp with hp | hp
  · exact hI (q ▸ List.mem_append_left _ (Raw.addrs hr ▸ List.mem_map_of_mem (f := (·.1)) hp))
  · rcases List.mem_append.mp hp with hp | hp
    · exact hI (q ▸ List.mem_append_right _ (List.mem_append_left _ (List.mem_map_of_mem (f := (·.1)) hp)))
    · rcases List.mem_append.mp hp with hp | hp
      · exact hI (q ▸ List.mem_append_right _ (List.mem_append_right _ (FUp.addrs hf ▸ List.mem_map_of_mem (f := (·.1)) hp)))
      · exact hn.2 I (hp1.mem_iff.mpr (.head _)) p hp q
theorem St.turned {I : Addr} {o o' : Obj} {g : Obj → Led} {h₁ : Heap} (S' : St h₀ L h m ls ob nw) (U : AtO I o ob g) (hs : Heap.SameBut I h h₁) (ho : h₁.get? I = some o') : St h₀ L h₁ m ls (g o') nw := by
  obtain ⟨pre, post, N, p1, p2, cl'⟩ := S'.openO U
  have z := N (I, _) (List.mem_append_right _ (.head _))
  exact cl' h₁ m _ (S'.fr.change hs z.2.1 z.2.2) (news_set N p1 p2 hs ho)
noncomputable abbrev rgObj (a b c : Int) (t u v : Tok) : Obj := { cls := .type "range", data := .fields #[.int a t, .int b u, .int c v] }
variable {E : Value → Shared → Prop} {QV : Value → Shared → Prop}
theorem r_range1 {n : Int} {t : Tok} (S : St h₀ L h m ls ob nw) (q : ∀ r h' tk' t1 t2, St h₀ L h' m ls ((r, rgObj 0 n 1 t1 t t2) :: ob) nw → QV (.ref r) (mk s h' tk')) :
    wpAny (model prog w) A (call (.type "range") [.int n t]) QV E (mk s h tk) :=
  call_range_1 (s := mk s h tk) (q _ _ _ _ _ (S.addO (fun _ _ e => Heap.get?_push_of_some _ e) (Nat.le_refl _) (Heap.get?_push_size _ rfl)))
end
end Mine
end
section
namespace Mine
theorem sub_ri_reversed : isSubtype (.type "range_iterator") (.type "reversed") = pure false := by rw [isSubtype_type]; kernel_rfl
section
variable {prog : Program} {w : World} {A : Around} {E : Value → Shared → Prop} {s : Shared}
theorem call_range_reversed {r : Addr} {n : Int} {t u v : Tok} {Q : Value → Shared → Prop} (hr : s.heap.get? r = some (rgObj 0 n 1 t u v)) (h0 : 0 ≤ n) (hn : n < 1000000)
    (h : Q (.ref s.heap.objs.size) { s with heap := s.heap.push (riObj (n - 1) n (-1)) }) : wpAny (model prog w) A (call (.builtin "range.__reversed__") [.ref r]) Q E s := by
  refine wpAny_call_entry F.slot_range_reversed ⟨_, hr, rfl⟩ F.entry_range_reversed ?_ (F.args_range_reversed_1 _)
  unfold Builtin.«range.__reversed__»
  refine wpAny_bind (wpAny_of_eq (a := Value.ref r) rfl ?_)
  have hs : Builtin.Range.rangeSize 0 n 1 = n := by rw [rangeSize_one]; split <;> lia
  refine wpAny_bind (m := Builtin.Range.rangeFields (.ref r)) ?_
  unfold Builtin.Range.rangeFields
  refine wpAny_bind (wpAny_field hr rfl (x := .int 0 t) rfl (wpAny_bind (wpAny_of_eq (a := some 0) rfl ?_)))
  refine wpAny_bind (wpAny_field hr rfl (x := .int n u) rfl (wpAny_bind (wpAny_of_eq (a := some n) rfl ?_)))
  refine wpAny_bind (wpAny_field hr rfl (x := .int 1 v) rfl (wpAny_bind (wpAny_of_eq (a := some 1) rfl ?_)))
  refine wpAny_pure ?_
  dsimp only
  rw [hs]
  have hsm : (Builtin.Range.rangeFitsLong 0 && Builtin.Range.rangeFitsLong n && Builtin.Range.rangeFitsLong 1 && Builtin.Range.rangeFitsLong (-1) && Builtin.Range.rangeFitsLong (0 - 1) && Builtin.Range.rangeFitsLong n) = true := by
    have f : Builtin.Range.rangeFitsLong n = true := by
      simp only [Builtin.Range.rangeFitsLong, Bool.and_eq_true, decide_eq_true_eq]
      exact ⟨Int.le_trans (by decide) h0, Int.lt_trans hn (by decide)⟩
    rw [f]
    decide
  rw [hsm]
  simp only [Bool.not_true, Bool.false_eq_true, if_false, if_true]
  have e1 : (0 : Int) + (n - 1) * 1 = n - 1 := by lia
  rw [e1]
  exact wpAny_bind (wpAny_newObj_type (wpAny_pure ⟨_, rfl, h⟩))
theorem code_reversed_newR {r : Addr} {n : Int} {t u v : Tok} {Q₁ : Value → Shared → Prop} (hr : s.heap.get? r = some (rgObj 0 n 1 t u v)) (h0 : 0 ≤ n) (hn : n < 1000000)
    (h : Q₁ (.ref s.heap.objs.size) { s with heap := s.heap.push (riObj (n - 1) n (-1)) }) :
    codeAny (model prog w) A (.call (.builtin "reversed.__new__") ⟨[.type "reversed", .ref r], []⟩) (wants Q₁ E) s := by
  have hT : s.TypeIs (.ref r) "range" := ⟨_, hr, rfl⟩
  refine codeAny_of_tree ?_
  show wpAny _ A.in1 (do checkBuiltinCall "reversed.__new__" ⟨[.type "reversed", .ref r], []⟩; again (.builtin "reversed.__new__" ⟨[.type "reversed", .ref r], []⟩)) _ _ s
  refine wpAny_bind (wpAny_of_eq (F.newCall_reversed_1 _) (wpAny_pure ⟨plainId_quiet F.plain_reversed_new _, codeAny_builtin F.entry_reversed_new ?_⟩))
  rw [Around.under_plainId F.plain_reversed_new _]
  unfold Builtin.«reversed.__new__»
  refine wpAny_bind (wpAny_of_eq (newClass_reversed _) ?_)
  try dsimp only
  refine wpAny_bind (wpAny_of_eq (a := ()) (by first | rfl | kernel_rfl) ?_)
  refine wpAny_bind (wpAny_of_eq (a := ()) (by first | rfl | kernel_rfl) ?_)
  try dsimp only
  refine wpAny_bind (wpAny_specialOf hT F.slot_range_reversed.lookup ?_)
  try dsimp only
  refine wpAny_bind (wpAny_of_eq (F.slot_range_reversed.bind _) ?_)
  try dsimp only
  first
  | rw [if_neg (show ¬ ((Value.builtin "range.__reversed__" == Value.none) = true) from Bool.false_ne_true)]
  | (show wpAny _ _ (if (Value.builtin "range.__reversed__" == Value.none) = true then _ else _) _ _ _; rw [if_neg (show ¬ ((Value.builtin "range.__reversed__" == Value.none) = true) from Bool.false_ne_true)])
  refine wpAny_bind (wpAny_rule ?_)
  refine wpAny_bind (m := runValue (.call (.builtin "range.__reversed__") ⟨[.ref r], []⟩)) (show wpAny _ _ (call (.builtin "range.__reversed__") [.ref r]) _ _ _ from call_range_reversed hr h0 hn ?_)
  first
  | exact wpAny_pure h
  | exact wpAny_bind (wpAny_pure (wpAny_pure h))
theorem call_reversed_range {r : Addr} {n : Int} {t u v : Tok} {Q : Value → Shared → Prop} (hr : s.heap.get? r = some (rgObj 0 n 1 t u v)) (h0 : 0 ≤ n) (hn : n < 1000000)
    (h : Q (.ref s.heap.objs.size) { s with heap := s.heap.push (riObj (n - 1) n (-1)) }) : wpAny (model prog w) A (call (.type "reversed") [.ref r]) Q E s := by
  refine callType_other (U := "range_iterator") (Q₁ := fun obj s₁ => obj = .ref s.heap.objs.size ∧ s₁ = { s with heap := s.heap.push (riObj (n - 1) n (-1)) }) (by decide +kernel) F.create_reversed ⟨_, _, F.mro_reversed⟩ F.made_reversed sub_ri_reversed (F.typeCall_reversed_1 _) (code_reversed_newR hr h0 hn ⟨rfl, rfl⟩) ?_
  rintro obj s₁ ⟨rfl, rfl⟩
  exact ⟨⟨_, Heap.get?_push_size _ rfl, rfl⟩, h⟩
end
section
variable {prog : Program} {w : World} {A : Around} {E : Value → Shared → Prop} {s : Shared} {h : Heap} {tk : Nat} {h₀ : Base} {L : Addr} {m : Str → Option Value} {ls : List Ent} {ob nw : Led} {QV : Value → Shared → Prop}
theorem i_fdiv {x y : Int} {t u : Tok} (hy : 0 < y ∧ y < 1000) (q : ∀ t tk, QV (.int (x / y) t) (mk s h tk)) : wpAny (model prog w) A (binaryOp .FloorDiv (.int x t) (.int y u)) QV E (mk s h tk) := by
  refine floordiv_int (by lia) ?_ (Or.inl (PyProof.noPylong_small (by lia)))
  rw [Int.fdiv_eq_ediv_of_nonneg _ (by lia)]
  exact q _ _
end
end Mine
end
section
namespace Mine
theorem Upd.mk {a : Addr} {o o' : Obj} : ∀ {pre post : Led}, (∀ p ∈ pre, p.1 ≠ a) → (∀ p ∈ post, p.1 ≠ a) → Upd a o o' (pre ++ (a, o) :: post) (pre ++ (a, o') :: post)
  | [], _, _, h2 => .head h2
  | _ :: _, _, h1, h2 => .tail (h1 _ (.head _)) (Upd.mk (fun p hp => h1 p (.tail _ hp)) h2)
section
variable {prog : Program} {w : World} {A : Around} {E : Value → Shared → Prop} {s : Shared} {h : Heap} {tk : Nat} {h₀ : Base} {L : Addr} {m : Str → Option Value} {ls : List Ent} {ob nw : Led} {a : Addr} {k : Kd} {ds : List D} {g : List D → List Ent} {Q : Value → Shared → Prop}
theorem St.isList (S : St h₀ L h m ls ob nw) (U : At a k ds ls g) : ∃ vs n, h.get? a = some (listOf vs.toArray n) ∧ All2 (RelIn nw k) vs ds := by
  obtain ⟨vs, c, pre, post, N, ha, h1, h2, hc⟩ := S.open U
  exact ⟨vs, c, (N (a, _) (List.mem_append_right _ (.head _))).1, ha⟩
theorem r_append {v : Value} {d : D} (S : St h₀ L h m ls ob nw) (U : At a k ds ls g) (hz : ds.length < 1000) (hv : RelIn nw k v d) (q : ∀ h', St h₀ L h' m (g (ds ++ [d])) ob nw → Q .none (mk s h' tk)) :
    wpAny (model prog w) A (call (.builtin "list.append") [.ref a, v]) Q E (mk s h tk) := by
  obtain ⟨vs, c, pre, post, N, ha, h1, h2, hc⟩ := S.open U
  have hl := ha.len
  refine append_K (s := mk s h tk) S.fr N (Upd.mk h1 h2) (fun h' F' N' => q h' (hc h' m (vs ++ [v]) (c + 1) _ F' ?_ (ha.append (.cons hv .nil)))) (by rw [sizeLine_eq]; simp; lia)
  simpa using N'
theorem r_pop {d : D} {ds' : List D} (S : St h₀ L h m ls ob nw) (U : At a k ds ls g) (he : ds = ds' ++ [d]) (hz : ds.length < 1000) (q : ∀ h' v, RelIn nw k v d → St h₀ L h' m (g ds') ob nw → Q v (mk s h' tk)) :
    wpAny (model prog w) A (call (.builtin "list.pop") [.ref a]) Q E (mk s h tk) := by
  obtain ⟨vs, c, pre, post, N, ha, h1, h2, hc⟩ := S.open U
  have hl := ha.len
  have hne : vs ≠ [] := by intro e; rw [e, he] at hl; simp at hl
  obtain ⟨vs', v, rfl⟩ : ∃ vs' v, vs = vs' ++ [v] := ⟨vs.dropLast, vs.getLast hne, (List.dropLast_concat_getLast hne).symm⟩
  have hlen : vs'.length = ds'.length := by rw [he] at hl; simpa using hl
  have hv : RelIn nw k v d := by
    have := ha.get (i := ds'.length) (b := d) (by rw [he]; simp)
    obtain ⟨v', e1, e2⟩ := this
    rw [← hlen] at e1
    simp at e1
    exact e1 ▸ e2
  have ha' : All2 (RelIn nw k) vs' ds' := by
    have := ha.take ds'.length
    rw [he, List.take_left' rfl, List.take_left' hlen] at this
    exact this
  have hlast : kl_last (vs' ++ [v]).toArray.toList = some (vs', v) := by
    show kl_last (vs' ++ [v]) = _
    clear ha ha' hv hlen hne hl hc h1 h2 N
    induction vs' with
    | nil => rfl
    | cons x r ih => show (match kl_last (r ++ [v]) with | some (p, y) => some (x :: p, y) | none => some ([], x)) = _; rw [ih]
  exact kl_pop (s := mk s h tk) S.fr N hlast (Upd.mk h1 h2) (by rw [sizeLine_eq]; simp at hl hz ⊢; lia) (fun h' F' N' => q h' v hv (hc h' m vs' (c + 1) _ F' N' ha'))
theorem r_truthy {Q : Bool → Shared → Prop} (S : St h₀ L h m ls ob nw) (U : At a k ds ls g) (hz : ds.length < 1000) (q : ∀ tk, Q (decide (0 < ds.length)) (mk s h tk)) : wpAny (model prog w) A (truthy (.ref a)) Q E (mk s h tk) := by
  obtain ⟨vs, c, hl, ha⟩ := S.isList U
  have e := ha.len
  have hL : (mk s h tk).heap.IsList a vs.toArray := PySem.IsL.isList (n := c) hl
  refine wpAny_truthy_list hL (by simp only [List.size_toArray]; lia) ?_
  have e2 : (!vs.toArray.isEmpty) = decide (0 < ds.length) := by
    rw [← e]
    cases vs <;> simp
  rw [e2]
  exact q _
theorem r_method {name : Str} {id : String} {pl : Sem Bool} {Q : Value × List Value → Shared → Prop} (S : St h₀ L h m ls ob nw) (U : At a k ds ls g) (slot : Slot "list" name id) (hty : typeOf (.builtin id) = pure (.type "method_descriptor"))
    (q : Q (.builtin id, [.ref a]) (mk s h tk)) : wpAny (model prog w) A (getMethod (.ref a) name pl) Q E (mk s h tk) := by
  obtain ⟨vs, c, pre, post, N, ha, h1, h2, hc⟩ := S.open U
  exact kl_method (s := mk s h tk) N (List.mem_append_right _ (.head _)) slot hty q
end
end Mine
end
section
namespace Mine
section
variable {M : Model} {A : Around} {E : Value → Shared → Prop} {s : Shared} {env : Env}
theorem a_sub {o i : PySem.Expr} {pos : Pos} {v : Value} {Q : Unit → Shared → Prop}
    (h : wpAny M A (eval o env) (fun ov s₂ => wpAny M A (eval i env) (fun iv s₃ => wpAny M A (setItem ov iv v) (fun _ => Q ()) E s₃) E s₂) E s) : wpAny M A (assign (.Subscript o i pos) env v) Q E s := fun Γ p hΓ => by
  simp only [assign_Subscript, Sem.wp_bind', Sem.wp_holding, Sem.wp_cmd_standAt, Sem.wp_release]
  exact Sem.wp_mono M Γ _ (fun ov p₂ s₂ h₂ => Sem.wp_mono M Γ _ (fun iv _ s₃ h₃ => h₃ Γ _ hΓ)
    (fun _ _ _ h' => h') _ _ (h₂ Γ p₂ hΓ)) (fun _ _ _ h' => h') _ _ (h Γ p hΓ)
end
section
variable {prog : Program} {w : World} {A : Around} {E : Value → Shared → Prop} {s : Shared} {h : Heap} {tk : Nat} {h₀ : Base} {L : Addr} {m : Str → Option Value} {ls : List Ent} {ob nw : Led} {a : Addr} {k : Kd} {ds : List D} {g : List D → List Ent} {Q : Value → Shared → Prop}
theorem r_tupN {vs : List Value} (S : St h₀ L h m ls ob nw) (q : ∀ t h', St h₀ L h' m ls ob ((t, tupOf vs 0) :: nw) → Q (.ref t) (mk s h' tk)) (hz : vs.length ≤ sizeLine := by size_fits) : wpAny (model prog w) A (newTuple vs) Q E (mk s h tk) :=
  wpAny_newObj_type (s := mk s h tk) (q _ _ (S.addN (fun _ _ e => Heap.get?_push_of_some _ e) (Nat.le_refl _) (Heap.get?_push_size _ rfl))) (by show vs.toArray.size ≤ sizeLine; rw [List.size_toArray]; exact hz)
theorem r_newL {vs : List Value} (S : St h₀ L h m ls ob nw) (hr : All2 (RelIn nw k) vs ds) (q : ∀ l h', St h₀ L h' m ((l, k, ds) :: ls) ob nw → Q (.ref l) (mk s h' tk)) (hz : vs.length ≤ sizeLine := by size_fits) : wpAny (model prog w) A (newList vs) Q E (mk s h tk) :=
  wpAny_newObj_type (s := mk s h tk) (q _ _ (S.addL (fun _ _ e => Heap.get?_push_of_some _ e) (Nat.le_refl _) (Heap.get?_push_size _ rfl) hr)) (by show vs.toArray.size ≤ sizeLine; rw [List.size_toArray]; exact hz)
theorem r_newLO {vs : List Value} (S : St h₀ L h m ls ob nw) (q : ∀ l h', St h₀ L h' m ls ((l, listOf vs.toArray 0) :: ob) nw → Q (.ref l) (mk s h' tk)) (hz : vs.length ≤ sizeLine := by size_fits) : wpAny (model prog w) A (newList vs) Q E (mk s h tk) :=
  wpAny_newObj_type (s := mk s h tk) (q _ _ (S.addO (fun _ _ e => Heap.get?_push_of_some _ e) (Nat.le_refl _) (Heap.get?_push_size _ rfl))) (by show vs.toArray.size ≤ sizeLine; rw [List.size_toArray]; exact hz)
theorem r_unpack {env : Env} {elts : List PySem.Expr} {c : Nat} {pos : Pos} {t : Addr} {vs : List Value} {n : Nat} {Q : Unit → Shared → Prop} (S : St h₀ L h m ls ob nw) (hh : A.handled = none) (ht : h.get? t = some (tupOf vs n))
    (hn : (assignEach elts env).length = vs.length) (hstar : (assignEach elts env).findIdx? (·.1) = none)
    (q : ∀ h', St h₀ L h' m ls ob nw → wpAny (model prog w) A (assignInOrder ((assignEach elts env).map (·.2)) vs) Q E (mk s h' tk)) :
    wpAny (model prog w) A (assign (.Tuple elts c pos) env (.ref t)) Q E (mk s h tk) := by
  obtain ⟨news, N, hc⟩ := S.same
  exact unpackN_ (s := mk s h tk) (items := vs.toArray) S.fr N ⟨_, ht, rfl, n, rfl⟩ hh (by simpa using hn) hstar fun h' F' N' => q h' (hc h' m F' N')
end
end Mine
end
section
namespace Mine
section
variable {prog : Program} {w : World} {A : Around} {E : Value → Shared → Prop} {s : Shared}
end
section
variable {X : Pg} {mg mb : Str → Option Value} {prog : Program} {w : World} {A : Around} {E : Value → Shared → Prop} {s : Shared} {h : Heap} {tk : Nat} {h₀ : Base} {L : Addr} {m : Str → Option Value} {ls : List Ent} {ob nw : Led} {a : Addr} {k : Kd} {ds : List D} {g : List D → List Ent}
theorem Fly.move {e : Addr} {cls : String} (F : Fly h₀ A L h m ls ob nw e cls) : ∃ fr hb a0, A.frames = some fr ∧ Heap.FlyingW hb fr e (.type cls) a0 h ∧
    ∀ h₁, hb.StaysIn h₁ → h.UpToSlots h₁ → St h₀ L h₁ m ls ob nw := by
  obtain ⟨fr, hb, a0, rs, fs, h1, h2, h3, h4, h5, h6, h7, h8, h9, h10⟩ := F
  refine ⟨fr, hb, a0, h1, h6, fun h₁ hst hup => ?_⟩
  obtain ⟨fs', f1, f2, f3, f4⟩ := up_frames h3 (h' := h₁) fun p hp => by
    obtain ⟨⟨es, n, hd⟩, z, _⟩ := h8 p hp
    exact hup p.1 p.2 z fun vs qd => by rw [hd] at qd; cases qd
  refine ⟨⟨hup.ns h7, fun b o q => hst b o (h4 b o q), h10⟩, ⟨rs, fs', h2, f1, fun p hp => ?_⟩, h9⟩
  have ex : ∀ p ∈ rs ++ (ob ++ nw), h₁.get? p.1 = some p.2 ∧ p.1 ≠ L ∧ h₀.hB.get? p.1 = none := fun p hp => ⟨hst _ _ (h5 p hp).1, (h5 p hp).2⟩
  rcases List.mem_append.mp hp with hp | hp
  · exact ex p (List.mem_append_left _ hp)
  · rcases List.mem_append.mp hp with hp | hp
    · exact ex p (List.mem_append_right _ (List.mem_append_left _ hp))
    · rcases List.mem_append.mp hp with hp | hp
      · obtain ⟨q, q1, q2, q3⟩ := f4 p hp
        have z := h8 q q1
        exact ⟨f3 p hp, q2 ▸ z.2.2.1, q2 ▸ z.2.2.2⟩
      · exact ex p (List.mem_append_right _ (List.mem_append_right _ hp))
end
end Mine
end
section
namespace Mine
section
open MeetsSeq SeqAt
open AutoSeq1 (wpAny_loadPart')
end
section
variable {prog : Program} {w : World} {A : Around} {E : Value → Shared → Prop} {s : Shared} {h : Heap} {tk : Nat} {h₀ : Base} {L : Addr} {m : Str → Option Value} {ls : List Ent} {ob nw : Led} {a b : Addr} {k : Kd} {ds ds' : List D} {g g' : List D → List Ent} {Q : Value → Shared → Prop}
theorem eqAtK {v v' : Value} {d d' : D} (S : St h₀ L h m ls ob nw) (hu : A.units + 2 < cLine) (h1 : RelIn nw k v d) (h2 : RelIn nw k v' d') : SeqAt.EqAt A (mk s h tk) v v' (decide (d = d')) :=
  fun _ _ _ Q hq => (cmp_all 2 hu (cmpK S.gets h1 h2)).1 Q hq
theorem all_eq {ds ds' : List D} (hl : ds.length = ds'.length) : (List.range ds.length).all (fun j => decide (ds.getD j [] = ds'.getD j [])) = decide (ds = ds') := by
  rw [Bool.eq_iff_iff, List.all_eq_true, decide_eq_true_iff]
  constructor
  · intro hh
    refine List.ext_getElem hl fun i h1 h2 => ?_
    have := hh i (List.mem_range.mpr h1)
    simpa [List.getD, List.getElem?_eq_getElem h1, List.getElem?_eq_getElem h2] using this
  · rintro rfl i hi
    simp
theorem St.eqs (S : St h₀ L h m ls ob nw) (U : At a k ds ls g) (U' : At b k ds' ls g') (hu : A.units + 3 < cLine) : ∃ (vs vs' : List Value) (n n' : Nat), h.get? a = some (listOf vs.toArray n) ∧ h.get? b = some (listOf vs'.toArray n') ∧ vs.length = ds.length ∧ vs'.length = ds'.length ∧
    ∀ (s : Shared) (tk : Nat) j (h1 : j < vs.toArray.size) (h2 : j < vs'.toArray.size), SeqAt.EqAt A.in1 (Mine.mk s h tk) vs.toArray[j] vs'.toArray[j] (decide (ds.getD j [] = ds'.getD j [])) := by
  obtain ⟨vs, n, hl, hr⟩ := S.isList U
  obtain ⟨vs', n', hl', hr'⟩ := S.isList U'
  refine ⟨vs, vs', n, n', hl, hl', hr.len, hr'.len, fun s tk j h1 h2 => ?_⟩
  have h1' : j < vs.length := by simpa using h1
  have h2' : j < vs'.length := by simpa using h2
  obtain ⟨d, e1, r1⟩ := hr.get' (List.getElem?_eq_getElem h1')
  obtain ⟨d', e2, r2⟩ := hr'.get' (List.getElem?_eq_getElem h2')
  rw [show ds.getD j [] = d by simp [List.getD, e1], show ds'.getD j [] = d' by simp [List.getD, e2]]
  simpa using eqAtK (A := A.in1) (s := s) (tk := tk) S (by show A.units + 1 + 2 < cLine; lia) r1 r2
theorem r_eqL (S : St h₀ L h m ls ob nw) (U : At a k ds ls g) (U' : At b k ds' ls g') (hu : A.units + 3 < cLine) (q : Q (.bool (decide (ds = ds'))) (mk s h tk)) : wpAny (model prog w) A (compareOp .Eq (.ref a) (.ref b)) Q E (mk s h tk) := by
  obtain ⟨vs, vs', n, n', hl, hl', e1, e2, he⟩ := S.eqs (A := A) U U' hu
  by_cases hlen : ds.length = ds'.length
  · refine SeqAt.eq_listAt (s := mk s h tk) (e := fun j => decide (ds.getD j [] = ds'.getD j [])) (PySem.IsL.isList (n := n) hl) (PySem.IsL.isList (n := n') hl') (by simp; lia) (by lia) (he s tk) ?_
    rw [show vs.toArray.size = ds.length by simp; lia, all_eq hlen]; exact q
  · refine SeqAt.eq_list_lengthsAt (s := mk s h tk) (PySem.IsL.isList (n := n) hl) (PySem.IsL.isList (n := n') hl') (by simp; lia) (by lia) ?_
    rw [decide_eq_false (by intro e; exact hlen (by rw [e]))] at q; exact q
theorem r_neL (S : St h₀ L h m ls ob nw) (U : At a k ds ls g) (U' : At b k ds' ls g') (hu : A.units + 3 < cLine) (q : Q (.bool (!decide (ds = ds'))) (mk s h tk)) : wpAny (model prog w) A (compareOp .NotEq (.ref a) (.ref b)) Q E (mk s h tk) := by
  obtain ⟨vs, vs', n, n', hl, hl', e1, e2, he⟩ := S.eqs (A := A) U U' hu
  by_cases hlen : ds.length = ds'.length
  · refine SeqAt.RcNeAt.lists (s := mk s h tk) (e := fun j => decide (ds.getD j [] = ds'.getD j [])) (PySem.IsL.isList (n := n) hl) (PySem.IsL.isList (n := n') hl') (by simp; lia) (by lia) (he s tk) prog w E Q ?_
    rw [show vs.toArray.size = ds.length by simp; lia, all_eq hlen]; exact q
  · refine SeqAt.RcNeAt.lists_lengths (s := mk s h tk) (PySem.IsL.isList (n := n) hl) (PySem.IsL.isList (n := n') hl') (by simp; lia) (by lia) prog w E Q ?_
    rw [decide_eq_false (by intro e; exact hlen (by rw [e]))] at q; exact q
end
end Mine
end
section
namespace Mine
inductive AV where
  | unb | none | bool (b : Bool) | int (x : Int) | el (k : Kd) (d : D) | lst (i : Nat) | oth (i : Nat) | fn (i : Nat) | val (v : Value) | lam (ps : Arguments) (b : PySem.Expr) (sc : Scope)
inductive AO where
  | gone | li (i j : Nat) | lo (i j : Nat) | ri (x l c : Int) | rg (a b c : Int) | rl (vs : List AV) | obj | cell (v : AV) | lx
noncomputable abbrev LC := Kd × List D
structure Sg where
  v : List AV
  l : List LC
  o : List AO
structure Gh where
  m : Str → Option Value
  ls : List Ent
  ob : Led
  nw : Led
  la : List Addr
  oa : List Addr
noncomputable abbrev obO : Obj := { cls := .type "object", data := .plain }
noncomputable def LamAt (nw : Led) (ps : Arguments) (b : PySem.Expr) (sc : Scope) (a : Addr) : Prop :=
  ∃ c' oc vs t name qual pm ctv, (a, kla_obj name qual ps b sc [] pm c' ctv) ∈ nw ∧ (c', oc) ∈ nw ∧ oc.data = .fields vs ∧ vs[1]? = some (.str qual t)
theorem LamAt.mono {nw nw' : Led} {ps : Arguments} {b : PySem.Expr} {sc : Scope} {a : Addr} (hs : ∀ p ∈ nw, p ∈ nw') : LamAt nw ps b sc a → LamAt nw' ps b sc a := fun h => by
  obtain ⟨c', oc, vs, t, name, qual, pm, ctv, h1, h2, h3⟩ := h; exact ⟨c', oc, vs, t, name, qual, pm, ctv, hs _ h1, hs _ h2, h3⟩
noncomputable def VRel (X : Pg) (mg : Str → Option Value) (G : Gh) : AV → Value → Prop
  | .unb, _ => False
  | .none, v => v = .none
  | .bool b, v => v = .bool b
  | .int x, v => ∃ t, v = .int x t
  | .el k d, v => RelIn G.nw k v d
  | .lst i, v => ∃ a, G.la[i]? = some a ∧ v = .ref a
  | .oth i, v => ∃ a, G.oa[i]? = some a ∧ v = .ref a
  | .fn i, v => v = .ref (fa X.P mg i)
  | .val c, v => v = c
  | .lam ps b sc, v => ∃ a, v = .ref a ∧ LamAt G.nw ps b sc a
noncomputable def ORel (X : Pg) (mg : Str → Option Value) (G : Gh) : AO → Obj → Prop
  | .gone, _ => True
  | .li i j, o => ∃ a, G.la[i]? = some a ∧ IsLI o a j
  | .lo i j, o => ∃ a, G.oa[i]? = some a ∧ IsLI o a j
  | .ri x l c, o => o = riObj x l c
  | .rg a b c, o => ∃ t u v, o = rgObj a b c t u v
  | .rl vs, o => ∃ us n, o = listOf us.toArray n ∧ All2 (fun u v => VRel X mg G v u) us vs
  | .obj, o => o = obO
  | .cell v, o => ∃ u, o.data = .cell u ∧ (v = .unb ∨ ∃ w, u = some w ∧ VRel X mg G v w)
  | .lx, o => o.cls = .type "list_iterator" ∧ ∃ v, o.data = .fields #[.none, v]
structure Kp (x : List Addr) (G G' : Gh) : Prop where
  la : G.la <+: G'.la
  oa : G.oa <+: G'.oa
  nw : ∀ p ∈ G.nw, p ∈ G'.nw
  ls : ∀ e ∈ G.ls, e.1 ∉ G.la → e.1 ∉ x → e ∈ G'.ls ∧ e.1 ∉ G'.la
  ob : ∀ p ∈ G.ob, p.1 ∉ G.oa → p.1 ∉ x → p ∈ G'.ob ∧ p.1 ∉ G'.oa
theorem Kp.refl {x : List Addr} {G : Gh} : Kp x G G := ⟨List.prefix_refl _, List.prefix_refl _, fun _ h => h, fun _ h h' _ => ⟨h, h'⟩, fun _ h h' _ => ⟨h, h'⟩⟩
theorem Kp.trans {x : List Addr} {G G' G'' : Gh} (a : Kp x G G') (b : Kp x G' G'') : Kp x G G'' :=
  ⟨a.la.trans b.la, a.oa.trans b.oa, fun p h => b.nw p (a.nw p h), fun e h h' h'' => let ⟨q, q'⟩ := a.ls e h h' h''; b.ls e q q' h'', fun e h h' h'' => let ⟨q, q'⟩ := a.ob e h h' h''; b.ob e q q' h''⟩
theorem Kp.wk {x y : List Addr} {G G' : Gh} (a : Kp x G G') (hs : ∀ z ∈ x, z ∈ y) : Kp y G G' :=
  ⟨a.la, a.oa, a.nw, fun e h h' h'' => a.ls e h h' fun q => h'' (hs _ q), fun e h h' h'' => a.ob e h h' fun q => h'' (hs _ q)⟩
theorem pre_get {α : Type} {l l' : List α} (h : l <+: l') {i : Nat} {a : α} (e : l[i]? = some a) : l'[i]? = some a := by
  obtain ⟨t, rfl⟩ := h
  have hi := (List.getElem?_eq_some_iff.mp e).1
  rw [List.getElem?_append_left hi]; exact e
theorem VRel.mono {X : Pg} {mg : Str → Option Value} {G G' : Gh} (h1 : G.la <+: G'.la) (h2 : G.oa <+: G'.oa) (h3 : ∀ p ∈ G.nw, p ∈ G'.nw) : ∀ {a : AV} {u : Value}, VRel X mg G a u → VRel X mg G' a u
  | .unb, _, h => h
  | .none, _, h => h
  | .bool _, _, h => h
  | .int _, _, h => h
  | .el _ _, _, h => RelIn.mono h h3
  | .lst _, _, ⟨a, e, h⟩ => ⟨a, pre_get h1 e, h⟩
  | .oth _, _, ⟨a, e, h⟩ => ⟨a, pre_get h2 e, h⟩
  | .fn _, _, h => h
  | .val _, _, h => h
  | .lam _ _ _, _, ⟨a, e, h⟩ => ⟨a, e, h.mono h3⟩
theorem ORel.mono {X : Pg} {mg : Str → Option Value} {G G' : Gh} (h1 : G.la <+: G'.la) (h2 : G.oa <+: G'.oa) (h3 : ∀ p ∈ G.nw, p ∈ G'.nw) : ∀ {a : AO} {o : Obj}, ORel X mg G a o → ORel X mg G' a o
  | .gone, _, h => h
  | .li _ _, _, ⟨a, e, h⟩ => ⟨a, pre_get h1 e, h⟩
  | .lo _ _, _, ⟨a, e, h⟩ => ⟨a, pre_get h2 e, h⟩
  | .ri _ _ _, _, h => h
  | .rg _ _ _, _, h => h
  | .rl _, _, ⟨us, n, e, h⟩ => ⟨us, n, e, h.mono fun _ _ r => r.mono h1 h2 h3⟩
  | .obj, _, h => h
  | .cell _, _, ⟨u, e, h⟩ => ⟨u, e, h.imp id fun ⟨w, e', r⟩ => ⟨w, e', r.mono h1 h2 h3⟩⟩
  | .lx, _, h => h
theorem Kp.v {x : List Addr} {X : Pg} {mg : Str → Option Value} {G G' : Gh} (k : Kp x G G') {a : AV} {u : Value} (h : VRel X mg G a u) : VRel X mg G' a u := h.mono k.la k.oa k.nw
structure Lr (X : Pg) (mg : Str → Option Value) (G : Gh) (l : List LC) (o : List AO) : Prop where
  l : All2 (fun a c => (a, c) ∈ G.ls) G.la l
  o : All2 (fun a x => ∃ b, (a, b) ∈ G.ob ∧ ORel X mg G x b) G.oa o
  ln : G.la.Nodup
  on : G.oa.Nodup
structure Fi where
  tb : List Str
  cs : List (Str × Nat)
  gl : List Str
  hd : Bool := true
  own : Bool := true
structure EnvF (fi : Fi) (env : Env) : Prop where
  kind : env.scope.kind = .function
  loc : ∀ x ∈ fi.tb, env.kindOf x = some .local
  cel : ∀ p ∈ fi.cs, env.kindOf p.1 = some .cell
  glo : ∀ x ∈ fi.gl, env.kindOf x = some .globalImplicit
  gb : env.globals = mainGlobals
  bb : env.builtins = builtinsNs
  dbg : ∀ x, x ∈ fi.tb ∨ x ∈ fi.cs.map (·.1) ∨ x ∈ fi.gl → (x == ("__debug__" : Str)) = false
  inter : interactive env = false
structure Kx where
  prog : Program
  w : World
  A : Around
  s : Shared
  B : Base
  L : Addr
  env : Env
  mg : Str → Option Value
  mb : Str → Option Value
  mo : Option (Str → Option Value)
noncomputable def Kx.lm (c : Kx) (G : Gh) : Str → Option Value := match c.mo with | some m => m | none => G.m
noncomputable def Kx.ex (c : Kx) : List Addr := match c.mo with | some _ => [c.env.locals] | none => []
structure K where
  X : Pg
  fi : Fi
  q : Nat
structure Rep (κ : K) (c : Kx) (σ : Sg) (h : Heap) (G : Gh) : Prop where
  gd : Gd κ.X.P κ.X.js κ.X.ks κ.X.free c.mg c.mb c.B.hB
  below : ∃ env outer, c.A.frames = some (env :: outer) ∧ env.frame = some c.L ∧ env.scope.kind = .function ∧ OutOk outer c.B.frs
  depth : c.A.depth + κ.q < 900
  units : c.A.units + 3 * κ.q < 9000
  handled : κ.fi.hd = true → c.A.handled = none
  en : EnvF κ.fi c.env
  st : St c.B c.L h (c.lm G) G.ls G.ob G.nw
  lr : Lr κ.X c.mg G σ.l σ.o
  vr : ∀ (i : Nat) x v, κ.fi.tb[i]? = some x → σ.v[i]? = some v → v = .unb ∨ ∃ u, G.m x = some u ∧ VRel κ.X c.mg G v u
  nd : κ.fi.tb.Nodup
  ce : ∀ p ∈ κ.fi.cs, ∃ a, G.oa[p.2]? = some a ∧ c.env.cells.lookup p.1 = some a
  fn : c.mo = none → c.env.locals = c.L
  own : κ.fi.own = true → c.mo = none
  top : κ.fi.own = true → ∃ outer, c.A.frames = some (c.env :: outer) ∧ c.env.frame = some c.L ∧ OutOk outer c.B.frs
  cp : ∀ m, c.mo = some m → ∃ oC, (c.env.locals, oC) ∈ G.ob ∧ LCg.NsObj oC G.m ∧ c.env.locals ∉ G.oa
theorem top_of {A : Around} {env : Env} {L : Addr} {B : Base} (h : ∃ env' outer, (A.deeper env).frames = some (env' :: outer) ∧ env'.frame = some L ∧ env'.scope.kind = .function ∧ OutOk outer B.frs) : ∃ outer, (A.deeper env).frames = some (env :: outer) ∧ env.frame = some L ∧ OutOk outer B.frs := by
  obtain ⟨env', outer, h1, h2, h3, h4⟩ := h
  have h5 : Option.map (env :: ·) A.frames = some (env' :: outer) := h1
  cases e : A.frames with
  | none => rw [e] at h5; cases h5
  | some o =>
    rw [e] at h5
    have h6 : env :: o = env' :: outer := Option.some.inj h5
    injection h6 with a1 a2
    subst a1 a2
    exact ⟨_, h1, h2, h4⟩
inductive Rs (β : Type) where
  | ok (b : β) (σ : Sg) | exc (new : Bool) (c : String) (σ : Sg)
theorem Rep.cx {κ : K} {c : Kx} {σ : Sg} {h : Heap} {G : Gh} (R : Rep κ c σ h G) (hd : κ.fi.hd = true := by rfl) : Cx κ.X c.mg c.mb c.A c.B c.L κ.q := ⟨R.gd, R.below, R.depth, R.units, R.handled hd⟩
theorem Rep.u2 {κ : K} {c : Kx} {σ : Sg} {h : Heap} {G : Gh} (R : Rep κ c σ h G) : c.A.units + 2 < cLine := by
  have := R.units; show _ < 9900; lia
theorem Rep.u4 {κ : K} {c : Kx} {σ : Sg} {h : Heap} {G : Gh} (R : Rep κ c σ h G) : c.A.units + 4 < cLine := by
  have := R.units; show _ < 9900; lia
theorem Rep.u3 {κ : K} {c : Kx} {σ : Sg} {h : Heap} {G : Gh} (R : Rep κ c σ h G) : c.A.units + 3 < cLine := Nat.lt_of_succ_lt R.u4
theorem Rep.ns {κ : K} {c : Kx} {σ : Sg} {h : Heap} {G : Gh} (R : Rep κ c σ h G) : h.Ns c.env.locals G.m := by
  cases e : c.mo with
  | none =>
    have h1 := R.st.fr.ns
    unfold Kx.lm at h1
    rw [e] at h1
    rw [R.fn e]; exact h1
  | some m =>
    obtain ⟨oC, h1, h2, _⟩ := R.cp m e
    exact h2.ns (R.st.newsO _ h1).1
theorem Rep.reX {x : List Addr} {κ : K} {c : Kx} {σ : Sg} {h h' : Heap} {G : Gh} {ls' : List Ent} {ob' nw' : Led} {la' oa' : List Addr} {l' : List LC} {o' : List AO} (R : Rep κ c σ h G) (S : St c.B c.L h' (c.lm G) ls' ob' nw')
    (k : Kp x G ⟨G.m, ls', ob', nw', la', oa'⟩) (hx : ∀ y ∈ c.ex, y ∉ x) (lr : Lr κ.X c.mg ⟨G.m, ls', ob', nw', la', oa'⟩ l' o') : Rep κ c ⟨σ.v, l', o'⟩ h' ⟨G.m, ls', ob', nw', la', oa'⟩ where
  gd := R.gd
  below := R.below
  depth := R.depth
  units := R.units
  handled := R.handled
  en := R.en
  st := S
  lr := lr
  vr := fun i x v h1 h2 => (R.vr i x v h1 h2).imp id fun ⟨u, e, r⟩ => ⟨u, e, k.v r⟩
  nd := R.nd
  ce := fun p hp => let ⟨a, e, r⟩ := R.ce p hp; ⟨a, pre_get k.oa e, r⟩
  fn := R.fn
  own := R.own
  top := R.top
  cp := fun m hm => let ⟨oC, h1, h2, h3⟩ := R.cp m hm; let ⟨q1, q2⟩ := k.ob _ h1 h3 (hx _ (by unfold Kx.ex; rw [hm]; exact .head _)); ⟨oC, q1, h2, q2⟩
theorem Rep.re {κ : K} {c : Kx} {σ : Sg} {h h' : Heap} {G : Gh} {ls' : List Ent} {ob' nw' : Led} {la' oa' : List Addr} {l' : List LC} {o' : List AO} (R : Rep κ c σ h G) (S : St c.B c.L h' (c.lm G) ls' ob' nw')
    (k : Kp [] G ⟨G.m, ls', ob', nw', la', oa'⟩) (lr : Lr κ.X c.mg ⟨G.m, ls', ob', nw', la', oa'⟩ l' o') : Rep κ c ⟨σ.v, l', o'⟩ h' ⟨G.m, ls', ob', nw', la', oa'⟩ := R.reX S k (fun _ _ h => nomatch h) lr
theorem Rep.same {κ : K} {c : Kx} {σ : Sg} {h h' : Heap} {G : Gh} (R : Rep κ c σ h G) (S : St c.B c.L h' (c.lm G) G.ls G.ob G.nw) : Rep κ c σ h' G := R.re S .refl R.lr
theorem At.ofMem {a : Addr} {k : Kd} {ds : List D} : ∀ {ls : List Ent}, (a, k, ds) ∈ ls → ∃ g, At a k ds ls g := by
  intro ls
  induction ls with
  | nil => exact fun h => nomatch h
  | cons e r ih =>
    intro h
    rcases List.mem_cons.mp h with rfl | h
    · exact ⟨_, .head⟩
    · exact (ih h).elim fun _ U => ⟨_, .tail U⟩
theorem AtO.ofMem {a : Addr} {o : Obj} : ∀ {ls : Led}, (a, o) ∈ ls → ∃ g, AtO a o ls g := by
  intro ls
  induction ls with
  | nil => exact fun h => nomatch h
  | cons e r ih =>
    intro h
    rcases List.mem_cons.mp h with rfl | h
    · exact ⟨_, .head⟩
    · exact (ih h).elim fun _ U => ⟨_, .tail U⟩
theorem At.others {a : Addr} {k : Kd} {ds ds' : List D} {ls : List Ent} {g : List D → List Ent} (U : At a k ds ls g) {e : Ent} (h : e ∈ ls) (hn : e.1 ≠ a) : e ∈ g ds' := by
  induction U with
  | head =>
    rcases List.mem_cons.mp h with rfl | h
    · exact absurd rfl hn
    · exact .tail _ h
  | tail _ ih =>
    rcases List.mem_cons.mp h with rfl | h
    · exact .head _
    · exact .tail _ (ih h)
theorem AtO.others {a : Addr} {o o' : Obj} {ls : Led} {g : Obj → Led} (U : AtO a o ls g) {e : Addr × Obj} (h : e ∈ ls) (hn : e.1 ≠ a) : e ∈ g o' := by
  induction U with
  | head =>
    rcases List.mem_cons.mp h with rfl | h
    · exact absurd rfl hn
    · exact .tail _ h
  | tail _ ih =>
    rcases List.mem_cons.mp h with rfl | h
    · exact .head _
    · exact .tail _ (ih h)
theorem All2.setAt {α β : Type} {R R' : α → β → Prop} {as : List α} {bs : List β} {b : β} (h : All2 R as bs) : ∀ {i : Nat} {a : α}, as.Nodup → as[i]? = some a → R' a b → (∀ x y, x ≠ a → R x y → R' x y) → All2 R' as (bs.set i b) := by
  induction h with
  | nil => intro i a _ h; simp at h
  | @cons x y xs ys h1 h2 ih =>
    intro i a hn hi hr hk
    have hn' := List.nodup_cons.mp hn
    cases i with
    | zero =>
      simp at hi
      subst hi
      refine .cons hr ?_
      have : ∀ z ∈ xs, z ≠ x := fun z hz e => hn'.1 (e ▸ hz)
      clear ih hn hn'
      induction h2 with
      | nil => exact .nil
      | @cons u v us vs r1 _ ih2 => exact .cons (hk _ _ (this _ (.head _)) r1) (ih2 fun z hz => this z (.tail _ hz))
    | succ i =>
      simp at hi
      have hxa : x ≠ a := fun e => hn'.1 (e ▸ List.mem_of_getElem? hi)
      exact .cons (hk _ _ hxa h1) (ih hn'.2 hi hr hk)
section
variable {κ : K} {c : Kx} {σ : Sg} {h h' : Heap} {G : Gh}
theorem Rep.at {i : Nat} {k : Kd} {ds : List D} (R : Rep κ c σ h G) (hi : σ.l[i]? = some (k, ds)) : ∃ a g, G.la[i]? = some a ∧ At a k ds G.ls g := by
  obtain ⟨a, h1, h2⟩ := R.lr.l.get hi
  obtain ⟨g, U⟩ := At.ofMem h2
  exact ⟨a, g, h1, U⟩
theorem Rep.atO {i : Nat} {x : AO} (R : Rep κ c σ h G) (hi : σ.o[i]? = some x) : ∃ a b g, G.oa[i]? = some a ∧ AtO a b G.ob g ∧ ORel κ.X c.mg G x b := by
  obtain ⟨a, h1, b, h2, h3⟩ := R.lr.o.get hi
  obtain ⟨g, U⟩ := AtO.ofMem h2
  exact ⟨a, b, g, h1, U, h3⟩
theorem Rep.setL {i : Nat} {a : Addr} {k : Kd} {ds ds' : List D} {g : List D → List Ent} (R : Rep κ c σ h G) (hi : σ.l[i]? = some (k, ds)) (ha : G.la[i]? = some a) (U : At a k ds G.ls g) (S : St c.B c.L h' (c.lm G) (g ds') G.ob G.nw) :
    Rep κ c ⟨σ.v, σ.l.set i (k, ds'), σ.o⟩ h' { G with ls := g ds' } ∧ Kp [] G { G with ls := g ds' } := by
  have kp : Kp [] G { G with ls := g ds' } := by
    refine ⟨List.prefix_refl _, List.prefix_refl _, fun _ h => h, fun e he hn _ => ⟨U.others he fun q => hn (q ▸ List.mem_of_getElem? ha), hn⟩, fun _ h h' _ => ⟨h, h'⟩⟩
  refine ⟨R.re (la' := G.la) (oa' := G.oa) S kp ⟨R.lr.l.setAt R.lr.ln ha (U.again ds').mem fun x y hx hy => U.others hy hx, ?_, R.lr.ln, R.lr.on⟩, kp⟩
  exact R.lr.o.mono fun _ _ ⟨b, h1, h2⟩ => ⟨b, h1, h2.mono kp.la kp.oa kp.nw⟩
theorem Rep.setO {i : Nat} {a : Addr} {x x' : AO} {b b' : Obj} {g : Obj → Led} (R : Rep κ c σ h G) (ha : G.oa[i]? = some a) (U : AtO a b G.ob g) (hr : ORel κ.X c.mg G x' b') (S : St c.B c.L h' (c.lm G) G.ls (g b') G.nw) :
    Rep κ c ⟨σ.v, σ.l, σ.o.set i x'⟩ h' { G with ob := g b' } ∧ Kp [] G { G with ob := g b' } := by
  have kp : Kp [] G { G with ob := g b' } := by
    refine ⟨List.prefix_refl _, List.prefix_refl _, fun _ h => h, fun _ h h' _ => ⟨h, h'⟩, fun e he hn _ => ⟨U.others he fun q => hn (q ▸ List.mem_of_getElem? ha), hn⟩⟩
  refine ⟨R.re (la' := G.la) (oa' := G.oa) S kp ⟨R.lr.l, ?_, R.lr.ln, R.lr.on⟩, kp⟩
  exact R.lr.o.setAt R.lr.on ha ⟨b', (U.again b').mem, hr.mono kp.la kp.oa kp.nw⟩ fun y z hy ⟨b, h1, h2⟩ => ⟨b, U.others h1 hy, h2.mono kp.la kp.oa kp.nw⟩
end
end Mine
end
section
namespace Mine
noncomputable def Raised (κ : K) (c : Kx) (σ : Sg) (h : Heap) (G : Gh) (e : Addr) (cls : String) : Bool → Prop
  | true => ∃ h₂, Heap.NewExc h₂ h e cls ∧ Rep κ c σ h₂ G
  | false => Fly c.B c.A c.L h (c.lm G) G.ls G.ob G.nw e cls ∧ ∀ h₃, St c.B c.L h₃ (c.lm G) G.ls G.ob G.nw → Rep κ c σ h₃ G
noncomputable def Post (κ : K) (c : Kx) (G : Gh) {α β : Type} (rel : Kx → Gh → β → α → Prop) (r : Rs β) (Q : α → Shared → Prop) (E : Value → Shared → Prop) : Prop := match r with
  | .ok b σ => ∀ h tk G' u, Rep κ c σ h G' → Kp c.ex G G' → rel c G' b u → Q u (mk c.s h tk)
  | .exc n cls σ => ∀ h tk G' e, Kp c.ex G G' → Raised κ c σ h G' e cls n → E (.ref e) (mk c.s h tk)
noncomputable def Wd (κ : K) {α β : Type} (σ : Sg) (t : Env → Sem α) (rel : Kx → Gh → β → α → Prop) (r : Rs β) : Prop :=
  ∀ c h tk G, Rep κ c σ h G → ∀ Q E, Post κ c G rel r Q E → wpAny (model c.prog c.w) c.A (t c.env) Q E (mk c.s h tk)
noncomputable abbrev VR (κ : K) : Kx → Gh → AV → Value → Prop := fun c G a u => VRel κ.X c.mg G a u
noncomputable abbrev BR : Kx → Gh → Bool → Bool → Prop := fun _ _ a u => u = a
noncomputable abbrev LR (κ : K) : Kx → Gh → List AV → List Value → Prop := fun c G as us => All2 (fun u a => VRel κ.X c.mg G a u) us as
noncomputable def Ev (κ : K) (σ : Sg) (e : PySem.Expr) (r : Rs AV) : Prop := Wd κ σ (eval e) (VR κ) r
noncomputable def Tt (κ : K) (σ : Sg) (e : PySem.Expr) (r : Rs Bool) : Prop := Wd κ σ (fun env => isTrue e env (eval e env)) BR r
noncomputable def El (κ : K) (σ : Sg) (es : List PySem.Expr) (r : Rs (List AV)) : Prop := ∀ pos, Wd κ σ (fun env => spliced (backTo pos (starEach es env))) (LR κ) r
noncomputable def Op (κ : K) {α β : Type} (σ : Sg) (t : List Value → Sem α) (as : List AV) (rel : Kx → Gh → β → α → Prop) (r : Rs β) : Prop :=
  ∀ c h tk G, Rep κ c σ h G → ∀ us, LR κ c G as us → ∀ Q E, Post κ c G rel r Q E → wpAny (model c.prog c.w) c.A (t us) Q E (mk c.s h tk)
noncomputable abbrev tr1 {α : Type} (t : Value → Sem α) : List Value → Sem α := fun us => t (us.headD .none)
noncomputable abbrev tr2 {α : Type} (t : Value → Value → Sem α) : List Value → Sem α := fun us => t (us.headD .none) (us.tail.headD .none)
noncomputable def O2 (κ : K) (σ : Sg) (t : Value → Value → Sem Value) (a b : AV) (r : Rs AV) : Prop := Op κ σ (tr2 t) [a, b] (VR κ) r
noncomputable def O1b (κ : K) (σ : Sg) (t : Value → Sem Bool) (a : AV) (r : Rs Bool) : Prop := Op κ σ (tr1 t) [a] BR r
section
variable {κ : K} {c : Kx} {σ σ₁ σ₂ σ₃ : Sg} {G G' : Gh} {α β : Type} {rel : Kx → Gh → β → α → Prop} {r : Rs β} {Q : α → Shared → Prop} {E : Value → Shared → Prop}
theorem Kp.any {x : List Addr} (k : Kp [] G G') : Kp x G G' := k.wk fun _ h => nomatch h
theorem Post.move (p : Post κ c G rel r Q E) (k : Kp c.ex G G') : Post κ c G' rel r Q E := match r, p with
  | .ok _ _, p => fun h tk G'' u R k' h' => p h tk G'' u R (k.trans k') h'
  | .exc _ _ _, p => fun h tk G'' e k' h' => p h tk G'' e (k.trans k') h'
theorem Post.here {b : β} {h : Heap} {tk : Nat} {u : α} (p : Post κ c G rel (.ok b σ) Q E) (R : Rep κ c σ h G) (hr : rel c G b u) : Q u (mk c.s h tk) := p h tk G u R .refl hr
theorem Wd.seq {γ δ : Type} {rel' : Kx → Gh → δ → γ → Prop} {t : Env → Sem γ} {b : δ} {h : Heap} {tk : Nat} {QQ : γ → Shared → Prop} (w : Wd κ σ t rel' (.ok b σ₁)) (R : Rep κ c σ h G) (p : Post κ c G rel r Q E)
    (k : ∀ h tk G' u, Rep κ c σ₁ h G' → Kp c.ex G G' → rel' c G' b u → Post κ c G' rel r Q E → QQ u (mk c.s h tk)) : wpAny (model c.prog c.w) c.A (t c.env) QQ E (mk c.s h tk) :=
  w c h tk G R QQ E fun h' tk' G' u R' K' hr => k h' tk' G' u R' K' hr (p.move K')
noncomputable def AV.bd : AV → Bool
  | .unb => false
  | _ => true
theorem ev_name {x : Str} {p : Pos} {n : Nat} {v : AV} (hx : κ.fi.tb[n]? = some x) (hv : σ.v[n]? = some v) (hb : v.bd = true) : Ev κ σ (.Name x p) (.ok v σ) := by
  intro c h tk G R Q E post
  have hm := List.mem_of_getElem? hx
  rcases R.vr n x v hx hv with rfl | ⟨u, e, hr⟩
  · cases hb
  · exact wpAny_Name (wpAny_loadName_local (s := mk c.s h tk) R.en.kind (R.en.loc x hm) R.ns e (post.here R hr)) (R.en.dbg x (.inl hm))
theorem ev_cell {x : Str} {p : Pos} {j : Nat} {v : AV} (hx : (x, j) ∈ κ.fi.cs) (hv : σ.o[j]? = some (.cell v)) (hb : v.bd = true) : Ev κ σ (.Name x p) (.ok v σ) := by
  intro c h tk G R Q E post
  obtain ⟨a, b, g, ha, U, u, hd, hr⟩ := R.atO hv
  obtain ⟨a', ha', hl⟩ := R.ce _ hx
  obtain rfl : a = a' := Option.some.inj (ha.symm.trans ha')
  rcases hr with rfl | ⟨w, rfl, hr⟩
  · cases hb
  · exact wpAny_Name (wpAny_loadName_cell (s := mk c.s h tk) R.en.kind (R.en.cel _ hx) hl ⟨b, R.st.getO U, hd⟩ (post.here R hr)) (R.en.dbg x (.inr (.inl (List.mem_map_of_mem (f := (·.1)) hx))))
theorem ev_fn {x : Str} {p : Pos} {i : Nat} (hg : x ∈ κ.fi.gl) (hi : i ∈ κ.X.js) (hx : nm κ.X.P i = x) : Ev κ σ (.Name x p) (.ok (.fn i) σ) := by
  intro c h tk G R Q E post
  subst hx
  refine Calls.Name_function_global R.en.kind (R.en.glo _ hg) (Calls.loadGlobal_global (s := mk c.s h tk) (by rw [R.en.gb]; exact R.gd.g.keeps R.st.fr.keep) (R.gd.fn i hi).1 (post.here R rfl)) (R.en.dbg _ (.inr (.inr hg)))
theorem ev_fnD {x : Str} {p : Pos} {i : Nat} (hg : x ∈ κ.fi.gl) (hi : i ∈ κ.X.ks) (hx : nm κ.X.P i = x) : Ev κ σ (.Name x p) (.ok (.fn i) σ) := by
  intro c h tk G R Q E post
  subst hx
  refine Calls.Name_function_global R.en.kind (R.en.glo _ hg) (Calls.loadGlobal_global (s := mk c.s h tk) (by rw [R.en.gb]; exact R.gd.g.keeps R.st.fr.keep) (R.gd.fd i hi).1 (post.here R rfl)) (R.en.dbg _ (.inr (.inr hg)))
theorem ev_blt {x : Str} {p : Pos} {v : Value} (hg : x ∈ κ.fi.gl) (hf : x ∈ κ.X.free) (hv : bootBuiltins x = some v) (hn : x ≠ "__name__") : Ev κ σ (.Name x p) (.ok (.val v) σ) := by
  intro c h tk G R Q E post
  exact Calls.Name_function_global R.en.kind (R.en.glo _ hg) (Calls.loadGlobal_builtin (s := mk c.s h tk) (by rw [R.en.gb]; exact R.gd.g.keeps R.st.fr.keep) (R.gd.free x hf) (by rw [R.en.bb]; exact R.gd.b.keeps R.st.fr.keep) ((R.gd.blt x hn).trans hv) (post.here R rfl)) (R.en.dbg _ (.inr (.inr hg)))
theorem ev_int {x : Int} {n : Nat} {p : Pos} : Ev κ σ (.Constant (.int x) n p) (.ok (.int x) σ) := fun _ _ _ _ R _ _ post => i_const fun t _ => post.here R ⟨t, rfl⟩
theorem ev_bool {x : Bool} {n : Nat} {p : Pos} : Ev κ σ (.Constant (.bool x) n p) (.ok (.bool x) σ) := fun _ _ _ _ R _ _ post => PyProof.Rows.Constant_bool (post.here R rfl)
theorem ev_none {n : Nat} {p : Pos} : Ev κ σ (.Constant .none n p) (.ok .none σ) := fun _ _ _ _ R _ _ post => PyProof.Rows.Constant_none (post.here R rfl)
theorem ev_bin {l rr : PySem.Expr} {op : Operator} {p : Pos} {a b : AV} {r : Rs AV} (hl : Ev κ σ l (.ok a σ₁)) (hr : Ev κ σ₁ rr (.ok b σ₂)) (ho : O2 κ σ₂ (binaryOp op) a b r) : Ev κ σ (.BinOp l op rr p) r :=
  fun _ _ _ _ R _ _ post => wpAny_BinOp (hl.seq R post fun _ _ _ _ R₁ _ V₁ post₁ => hr.seq R₁ post₁ fun h₂ tk₂ G₂ u₂ R₂ K₂ V₂ post₂ => ho _ h₂ tk₂ G₂ R₂ [_, _] (.cons (K₂.v V₁) (.cons V₂ .nil)) _ _ post₂)
theorem ev_cmp {l rr : PySem.Expr} {op : CmpOp} {p : Pos} {a b : AV} {r : Rs AV} (hl : Ev κ σ l (.ok a σ₁)) (hr : Ev κ σ₁ rr (.ok b σ₂)) (ho : O2 κ σ₂ (compareOp op) a b r) (hm : behindInMarks op rr = false := by with_unfolding_all rfl) : Ev κ σ (.Compare l [op] [rr] p) r :=
  fun _ _ _ _ R _ _ post => wpAny_Compare1 (hl.seq R post fun _ _ _ _ R₁ _ V₁ post₁ => hr.seq R₁ post₁ fun h₂ tk₂ G₂ u₂ R₂ K₂ V₂ post₂ => ho _ h₂ tk₂ G₂ R₂ [_, _] (.cons (K₂.v V₁) (.cons V₂ .nil)) _ _ post₂) hm
theorem tt_cmp {l rr : PySem.Expr} {op : CmpOp} {p : Pos} {a b : AV} {t : Bool} (hl : Ev κ σ l (.ok a σ₁)) (hr : Ev κ σ₁ rr (.ok b σ₂)) (ho : O2 κ σ₂ (compareOp op) a b (.ok (.bool t) σ₃)) (hm : behindInMarks op rr = false := by with_unfolding_all rfl) : Tt κ σ (.Compare l [op] [rr] p) (.ok t σ₃) :=
  fun _ _ _ _ R _ _ post => wpAny_isTrue_Compare1 (hl.seq R post fun _ _ _ _ R₁ _ V₁ post₁ => hr.seq R₁ post₁ fun h₂ tk₂ G₂ u₂ R₂ K₂ V₂ post₂ => ho _ h₂ tk₂ G₂ R₂ [_, _] (.cons (K₂.v V₁) (.cons V₂ .nil)) _ _
    fun h₃ tk₃ G₃ u₃ R₃ K₃ V₃ => by
      have V₃ : u₃ = .bool t := V₃
      subst V₃
      exact wpAny_truthy_bool (post₂ h₃ tk₃ G₃ t R₃ K₃ rfl)) hm
theorem tt_not {e : PySem.Expr} {p : Pos} {t : Bool} (h : Tt κ σ e (.ok t σ₁)) : Tt κ σ (.UnaryOp .Not e p) (.ok (!t) σ₁) :=
  fun _ _ _ _ R _ _ post => wpAny_isTrue_Not (h.seq R post fun h₁ tk₁ G₁ u₁ R₁ K₁ V₁ post₁ => by subst V₁; exact post₁.here R₁ rfl)
theorem tt_plain {e : PySem.Expr} {a : AV} {t : Bool} (h : Ev κ σ e (.ok a σ₁)) (ho : O1b κ σ₁ truthy a (.ok t σ₂)) (he : ∀ env whole, isTrue e env whole = (do let v ← whole; standAt e.pos; holding [v] (truthy v)) := by intro _ _; rfl) : Tt κ σ e (.ok t σ₂) :=
  fun _ _ _ _ R _ _ post => isTrue_plain (h.seq R post fun h₁ tk₁ G₁ u₁ R₁ K₁ V₁ post₁ => ho _ h₁ tk₁ G₁ R₁ [_] (.cons V₁ .nil) _ _ post₁) (he _ _)
noncomputable def Ta (κ : K) (σ : Sg) (op : BoolOp) (es : List PySem.Expr) (r : Rs Bool) : Prop := ∀ (p : Pos) (whole : Env → Sem Value), Wd κ σ (fun env => isTrue (.BoolOp op es p) env (whole env)) BR r
theorem tt_bool {op : BoolOp} {es : List PySem.Expr} {p : Pos} {r : Rs Bool} (h : Ta κ σ op es r) : Tt κ σ (.BoolOp op es p) r := h p fun env => eval (.BoolOp op es p) env
theorem ta_and_nil : Ta κ σ .And [] (.ok true σ) := fun _ _ _ _ _ _ R _ _ post => isTrue_and_nil (post.here R rfl)
theorem ta_or_nil : Ta κ σ .Or [] (.ok false σ) := fun _ _ _ _ _ _ R _ _ post => isTrue_or_nil (post.here R rfl)
theorem ta_and_f {e : PySem.Expr} {es : List PySem.Expr} {b : Bool} (h : Tt κ σ e (.ok b σ₁)) (hb : b = false) : Ta κ σ .And (e :: es) (.ok false σ₁) :=
  fun _ _ _ _ _ _ R _ _ post => isTrue_and (h.seq R post fun h₁ tk₁ G₁ u₁ R₁ K₁ V₁ post₁ => by subst V₁ hb; exact post₁.here R₁ rfl)
theorem ta_and_t {e : PySem.Expr} {es : List PySem.Expr} {r : Rs Bool} {b : Bool} (h : Tt κ σ e (.ok b σ₁)) (hb : b = true) (h' : Ta κ σ₁ .And es r) : Ta κ σ .And (e :: es) r :=
  fun p wh _ _ _ _ R _ _ post => isTrue_and (h.seq R post fun h₁ tk₁ G₁ u₁ R₁ K₁ V₁ post₁ => by subst V₁ hb; exact h' p wh _ h₁ tk₁ G₁ R₁ _ _ post₁)
theorem ta_or_f {e : PySem.Expr} {es : List PySem.Expr} {r : Rs Bool} {b : Bool} (h : Tt κ σ e (.ok b σ₁)) (hb : b = false) (h' : Ta κ σ₁ .Or es r) : Ta κ σ .Or (e :: es) r :=
  fun p wh _ _ _ _ R _ _ post => isTrue_or (h.seq R post fun h₁ tk₁ G₁ u₁ R₁ K₁ V₁ post₁ => by subst V₁ hb; exact h' p wh _ h₁ tk₁ G₁ R₁ _ _ post₁)
theorem ev_and_one {e : PySem.Expr} {op : BoolOp} {p : Pos} {r : Rs AV} (h : Ev κ σ e r) : Ev κ σ (.BoolOp op [e] p) r := h
theorem ev_and_t {e e' : PySem.Expr} {es : List PySem.Expr} {p : Pos} {r : Rs AV} (h : Ev κ σ e (.ok (.bool true) σ₁)) (h' : Ev κ σ₁ (.BoolOp .And (e' :: es) p) r) : Ev κ σ (.BoolOp .And (e :: e' :: es) p) r :=
  fun _ _ _ _ R _ _ post => PyProof.Rows.BoolOp_and (h.seq R post fun h₁ tk₁ G₁ u₁ R₁ K₁ V₁ post₁ => by
    have V₁ : u₁ = .bool true := V₁
    subst V₁; exact wpAny_truthy_bool (h' _ h₁ tk₁ G₁ R₁ _ _ post₁))
theorem ev_if {t e e' : PySem.Expr} {p : Pos} {b : Bool} {r : Rs AV} (h : Tt κ σ t (.ok b σ₁)) (h' : Ev κ σ₁ (if b then e else e') r) : Ev κ σ (.IfExp t e e' p) r :=
  fun _ _ _ _ R _ _ post => IfExp_ (h.seq R post fun h₁ tk₁ G₁ u₁ R₁ K₁ V₁ post₁ => by
    subst V₁
    cases u₁ with
    | true => exact h' _ h₁ tk₁ G₁ R₁ _ _ post₁
    | false => exact h' _ h₁ tk₁ G₁ R₁ _ _ post₁)
theorem el_nil : El κ σ [] (.ok [] σ) := fun _ _ _ _ _ R _ _ post => args_nil (post.here R .nil)
theorem el_cons {e : PySem.Expr} {es : List PySem.Expr} {a : AV} {as : List AV} (h : Ev κ σ e (.ok a σ₁)) (h' : El κ σ₁ es (.ok as σ₂)) (he : ∀ env, starEach (e :: es) env = (false, eval e env) :: starEach es env := by intro _; rfl) : El κ σ (e :: es) (.ok (a :: as) σ₂) :=
  fun p _ _ _ _ R _ _ post => args_cons (h.seq R post fun _ _ _ _ R₁ _ V₁ post₁ => (h' p).seq R₁ post₁ fun h₂ tk₂ G₂ u₂ R₂ K₂ V₂ post₂ => post₂.here R₂ (.cons (K₂.v V₁) V₂)) (he _)
end
end Mine
end
section
namespace Mine
section
variable {κ : K} {c : Kx} {σ σ₁ σ₂ σ₃ : Sg} {h h' : Heap} {G G' : Gh}
theorem All2.snoc {α β : Type} {R R' : α → β → Prop} {as : List α} {bs : List β} {a : α} {b : β} (h : All2 R as bs) (hm : ∀ x y, R x y → R' x y) (hr : R' a b) : All2 R' (as ++ [a]) (bs ++ [b]) := (h.mono hm).append (.cons hr .nil)
theorem St.newL_ne {B : Base} {L a : Addr} {m : Str → Option Value} {ls : List Ent} {ob nw : Led} {x : Kd × List D} (S : St B L h m ((a, x) :: ls) ob nw) {e : Ent} (he : e ∈ ls) : e.1 ≠ a := fun q =>
  (List.nodup_cons.mp (show (a :: adr ls ob B).Nodup from S.apart.1)).1 (q ▸ List.mem_append_left _ (List.mem_map_of_mem (f := (·.1)) he))
theorem St.newO_ne {B : Base} {L a : Addr} {m : Str → Option Value} {ls : List Ent} {ob nw : Led} {x : Obj} (S : St B L h m ls ((a, x) :: ob) nw) {e : Addr × Obj} (he : e ∈ ob) : e.1 ≠ a := fun q => by
  have hp1 : (adr ls ((a, x) :: ob) B).Perm (a :: adr ls ob B) := by unfold adr; exact List.perm_middle
  exact (List.nodup_cons.mp (hp1.nodup_iff.mp S.apart.1)).1 (q ▸ List.mem_append_right _ (List.mem_append_left _ (List.mem_map_of_mem (f := (·.1)) he)))
theorem nodup_snoc {l : List Addr} {a : Addr} (h : l.Nodup) (ha : a ∉ l) : (l ++ [a]).Nodup := List.nodup_append.mpr ⟨h, by simp, fun x hx y hy e => by simp at hy; exact ha (hy ▸ e ▸ hx)⟩
theorem Rep.newL {a : Addr} {k : Kd} {ds : List D} (R : Rep κ c σ h G) (S : St c.B c.L h' (c.lm G) ((a, k, ds) :: G.ls) G.ob G.nw) :
    ∃ G', Rep κ c ⟨σ.v, σ.l ++ [(k, ds)], σ.o⟩ h' G' ∧ Kp [] G G' ∧ G'.la[σ.l.length]? = some a := by
  have hm : ∀ x ∈ G.la, x ≠ a := fun x hx e => by
    obtain ⟨i, hi, hx⟩ := List.getElem_of_mem hx
    obtain ⟨y, h1, h2⟩ := R.lr.l.get' (List.getElem?_eq_some_iff.mpr ⟨hi, hx⟩)
    exact S.newL_ne h2 e
  have kp : Kp [] G { G with ls := (a, k, ds) :: G.ls, la := G.la ++ [a] } := by
    refine ⟨List.prefix_append _ _, List.prefix_refl _, fun _ h => h, fun e he hn _ => ⟨.tail _ he, fun q => ?_⟩, fun _ h h' _ => ⟨h, h'⟩⟩
    rcases List.mem_append.mp q with q | q
    · exact hn q
    · exact S.newL_ne he (List.mem_singleton.mp q)
  refine ⟨_, R.re (la' := G.la ++ [a]) (oa' := G.oa) S kp ⟨R.lr.l.snoc (fun _ _ h => .tail _ h) (.head _), R.lr.o.mono fun _ _ ⟨b, h1, h2⟩ => ⟨b, h1, h2.mono kp.la kp.oa kp.nw⟩, nodup_snoc R.lr.ln fun q => hm a q rfl, R.lr.on⟩, kp, ?_⟩
  rw [← R.lr.l.len]; simp
theorem Rep.newO {a : Addr} {b : Obj} {x : AO} (R : Rep κ c σ h G) (S : St c.B c.L h' (c.lm G) G.ls ((a, b) :: G.ob) G.nw) (hr : ORel κ.X c.mg G x b) :
    ∃ G', Rep κ c ⟨σ.v, σ.l, σ.o ++ [x]⟩ h' G' ∧ Kp [] G G' ∧ G'.oa[σ.o.length]? = some a := by
  have hm : ∀ x ∈ G.oa, x ≠ a := fun x hx e => by
    obtain ⟨i, hi, hx⟩ := List.getElem_of_mem hx
    obtain ⟨y, h1, b', h2, h3⟩ := R.lr.o.get' (List.getElem?_eq_some_iff.mpr ⟨hi, hx⟩)
    exact S.newO_ne h2 e
  have kp : Kp [] G { G with ob := (a, b) :: G.ob, oa := G.oa ++ [a] } := by
    refine ⟨List.prefix_refl _, List.prefix_append _ _, fun _ h => h, fun _ h h' _ => ⟨h, h'⟩, fun e he hn _ => ⟨.tail _ he, fun q => ?_⟩⟩
    rcases List.mem_append.mp q with q | q
    · exact hn q
    · exact S.newO_ne he (List.mem_singleton.mp q)
  refine ⟨_, R.re (la' := G.la) (oa' := G.oa ++ [a]) S kp ⟨R.lr.l, R.lr.o.snoc (fun _ _ ⟨b, h1, h2⟩ => ⟨b, .tail _ h1, h2.mono kp.la kp.oa kp.nw⟩) ⟨b, .head _, hr.mono kp.la kp.oa kp.nw⟩, R.lr.ln, nodup_snoc R.lr.on fun q => hm a q rfl⟩, kp, ?_⟩
  rw [← R.lr.o.len]; simp
theorem Rep.newN {p : Addr × Obj} (R : Rep κ c σ h G) (S : St c.B c.L h' (c.lm G) G.ls G.ob (p :: G.nw)) : Rep κ c σ h' { G with nw := p :: G.nw } ∧ Kp [] G { G with nw := p :: G.nw } := by
  have kp : Kp [] G { G with nw := p :: G.nw } := ⟨List.prefix_refl _, List.prefix_refl _, fun _ h => .tail _ h, fun _ h h' _ => ⟨h, h'⟩, fun _ h h' _ => ⟨h, h'⟩⟩
  exact ⟨R.re (la' := G.la) (oa' := G.oa) S kp ⟨R.lr.l, R.lr.o.mono fun _ _ ⟨b, h1, h2⟩ => ⟨b, h1, h2.mono kp.la kp.oa kp.nw⟩, R.lr.ln, R.lr.on⟩, kp⟩
theorem O2.of {t : Value → Value → Sem Value} {a b : AV} {r : Rs AV} (w : ∀ c h tk G, Rep κ c σ h G → ∀ u w, VRel κ.X c.mg G a u → VRel κ.X c.mg G b w → ∀ Q E, Post κ c G (VR κ) r Q E → wpAny (model c.prog c.w) c.A (t u w) Q E (mk c.s h tk)) : O2 κ σ t a b r := by
  intro c h tk G R us hus Q E post
  obtain _ | ⟨h1, hus⟩ := hus
  obtain _ | ⟨h2, hus⟩ := hus
  exact w c h tk G R _ _ h1 h2 Q E post
theorem O1b.of {t : Value → Sem Bool} {a : AV} {r : Rs Bool} (w : ∀ c h tk G, Rep κ c σ h G → ∀ u, VRel κ.X c.mg G a u → ∀ Q E, Post κ c G BR r Q E → wpAny (model c.prog c.w) c.A (t u) Q E (mk c.s h tk)) : O1b κ σ t a r := by
  intro c h tk G R us hus Q E post
  obtain _ | ⟨h1, hus⟩ := hus
  exact w c h tk G R _ h1 Q E post
section
variable {x y : Int}
theorem o_add : O2 κ σ (binaryOp .Add) (.int x) (.int y) (.ok (.int (x + y)) σ) := .of fun _ _ _ _ R _ _ ⟨_, h1⟩ ⟨_, h2⟩ _ _ post => by subst h1 h2; exact i_add fun t _ => post.here R ⟨t, rfl⟩
theorem o_sub : O2 κ σ (binaryOp .Sub) (.int x) (.int y) (.ok (.int (x - y)) σ) := .of fun _ _ _ _ R _ _ ⟨_, h1⟩ ⟨_, h2⟩ _ _ post => by subst h1 h2; exact i_sub fun t _ => post.here R ⟨t, rfl⟩
theorem o_mod (hy : 0 < y) : O2 κ σ (binaryOp .Mod) (.int x) (.int y) (.ok (.int (x % y)) σ) := .of fun _ _ _ _ R _ _ ⟨_, h1⟩ ⟨_, h2⟩ _ _ post => by subst h1 h2; exact i_mod hy fun t _ => post.here R ⟨t, rfl⟩
theorem o_fdiv (hy : 0 < y ∧ y < 1000) : O2 κ σ (binaryOp .FloorDiv) (.int x) (.int y) (.ok (.int (x / y)) σ) := .of fun _ _ _ _ R _ _ ⟨_, h1⟩ ⟨_, h2⟩ _ _ post => by subst h1 h2; exact i_fdiv hy fun t _ => post.here R ⟨t, rfl⟩
theorem o_half {n : Nat} (hx : x = (n : Int)) : O2 κ σ (binaryOp .RShift) (.int x) (.int 1) (.ok (.int ((n / 2 : Nat) : Int)) σ) := .of fun _ _ _ _ R _ _ ⟨_, h1⟩ ⟨_, h2⟩ _ _ post => by subst h1 h2; exact i_half hx fun t _ => post.here R ⟨t, rfl⟩
theorem o_mul2 {n : Nat} (hy : y = (n : Int)) : O2 κ σ (binaryOp .Mult) (.int 2) (.int y) (.ok (.int ((2 * n : Nat) : Int)) σ) := .of fun _ _ _ _ R _ _ ⟨_, h1⟩ ⟨_, h2⟩ _ _ post => by subst h1 h2; exact i_mul2 hy fun t _ => post.here R ⟨t, rfl⟩
theorem o_iadd : O2 κ σ (inplaceOp .Add) (.int x) (.int y) (.ok (.int (x + y)) σ) := .of fun _ _ _ _ R _ _ ⟨_, h1⟩ ⟨_, h2⟩ _ _ post => by subst h1 h2; exact i_iadd fun t _ => post.here R ⟨t, rfl⟩
theorem o_isub : O2 κ σ (inplaceOp .Sub) (.int x) (.int y) (.ok (.int (x - y)) σ) := .of fun _ _ _ _ R _ _ ⟨_, h1⟩ ⟨_, h2⟩ _ _ post => by subst h1 h2; exact i_isub fun t _ => post.here R ⟨t, rfl⟩
theorem o_lt : O2 κ σ (compareOp .Lt) (.int x) (.int y) (.ok (.bool (decide (x < y))) σ) := .of fun _ _ _ _ R _ _ ⟨_, h1⟩ ⟨_, h2⟩ _ _ post => by subst h1 h2; exact lt_int (post.here R rfl)
theorem o_gt : O2 κ σ (compareOp .Gt) (.int x) (.int y) (.ok (.bool (decide (x > y))) σ) := .of fun _ _ _ _ R _ _ ⟨_, h1⟩ ⟨_, h2⟩ _ _ post => by subst h1 h2; exact gt_int (post.here R rfl)
theorem o_ge : O2 κ σ (compareOp .GtE) (.int x) (.int y) (.ok (.bool (decide (x ≥ y))) σ) := .of fun _ _ _ _ R _ _ ⟨_, h1⟩ ⟨_, h2⟩ _ _ post => by subst h1 h2; exact ge_int (post.here R rfl)
theorem o_eq : O2 κ σ (compareOp .Eq) (.int x) (.int y) (.ok (.bool (decide (x = y))) σ) := .of fun _ _ _ _ R _ _ ⟨_, h1⟩ ⟨_, h2⟩ _ _ post => by subst h1 h2; exact eq_int (post.here R rfl)
end
section
variable {k : Kd} {d d' : D} {i j : Nat} {ds ds' : List D}
theorem o_ltE : O2 κ σ (compareOp .Lt) (.el k d) (.el k d') (.ok (.bool (llt d d')) σ) := .of fun _ _ _ _ R _ _ h1 h2 _ _ post => r_lt R.st R.u2 h1 h2 (post.here R rfl)
theorem o_eqL (h1 : σ.l[i]? = some (k, ds)) (h2 : σ.l[j]? = some (k, ds')) : O2 κ σ (compareOp .Eq) (.lst i) (.lst j) (.ok (.bool (decide (ds = ds'))) σ) := .of fun c h tk G R _ _ ⟨a, e1, q1⟩ ⟨b, e2, q2⟩ _ _ post => by
  subst q1 q2
  obtain ⟨a', g, e1', U⟩ := R.at h1
  obtain ⟨b', g', e2', U'⟩ := R.at h2
  cases e1.symm.trans e1'
  cases e2.symm.trans e2'
  exact r_eqL R.st U U' R.u3 (post.here R rfl)
theorem o_neL (h1 : σ.l[i]? = some (k, ds)) (h2 : σ.l[j]? = some (k, ds')) : O2 κ σ (compareOp .NotEq) (.lst i) (.lst j) (.ok (.bool (!decide (ds = ds'))) σ) := .of fun c h tk G R _ _ ⟨a, e1, q1⟩ ⟨b, e2, q2⟩ _ _ post => by
  subst q1 q2
  obtain ⟨a', g, e1', U⟩ := R.at h1
  obtain ⟨b', g', e2', U'⟩ := R.at h2
  cases e1.symm.trans e1'
  cases e2.symm.trans e2'
  exact r_neL R.st U U' R.u3 (post.here R rfl)
theorem o_isN : O2 κ σ (compareOp .Is) .none .none (.ok (.bool true) σ) := .of fun _ _ _ _ R _ _ h1 h2 _ _ post => by
  have h1 : _ = Value.none := h1
  have h2 : _ = Value.none := h2
  subst h1 h2; exact is_none_none (post.here R rfl)
theorem o_notN : O2 κ σ (compareOp .IsNot) .none .none (.ok (.bool false) σ) := .of fun _ _ _ _ R _ _ h1 h2 _ _ post => by
  have h1 : _ = Value.none := h1
  have h2 : _ = Value.none := h2
  subst h1 h2; exact isnot_none_none (post.here R rfl)
theorem b_lst (h1 : σ.l[i]? = some (k, ds)) (hz : ds.length < 1000) : O1b κ σ truthy (.lst i) (.ok (decide (0 < ds.length)) σ) := .of fun c h tk G R _ ⟨a, e1, q1⟩ _ _ post => by
  subst q1
  obtain ⟨a', g, e1', U⟩ := R.at h1
  cases e1.symm.trans e1'
  exact r_truthy R.st U hz fun _ => post.here R rfl
theorem b_bool {b : Bool} : O1b κ σ truthy (.bool b) (.ok b σ) := .of fun c h tk G R u q1 _ _ post => by
  have q1 : u = .bool b := q1
  subst q1
  exact wpAny_truthy_bool (post.here R rfl)
theorem ev_item {value slice : PySem.Expr} {p : Pos} {x : Int} {n : Nat} (hl : Ev κ σ value (.ok (.lst i) σ₁)) (hr : Ev κ σ₁ slice (.ok (.int x) σ₂)) (hx : x = (n : Int)) (h1 : σ₂.l[i]? = some (k, ds)) (hd : ds[n]? = some d) (hz : ds.length < 1000)
    (hs : ∀ a t, subscripted slice false (.ref a) (.int x t) = operate [.ref a, .int x t] (getItem (.ref a) (.int x t)) := by intro _ _; with_unfolding_all rfl) : Ev κ σ (.Subscript value slice p) (.ok (.el k d) σ₂) :=
  fun _ _ _ _ R _ _ post => Subscript_ (hl.seq R post fun _ _ _ _ R₁ _ V₁ post₁ => hr.seq R₁ post₁ fun h₂ tk₂ G₂ u₂ R₂ K₂ ⟨t, V₂⟩ post₂ => by
    subst V₂
    obtain ⟨a, e1, rfl⟩ := K₂.v V₁
    obtain ⟨a', g, e1', U⟩ := R₂.at h1
    cases e1.symm.trans e1'
    exact r_sub R₂.st U hx hd hz (fun v hv => post₂.here R₂ hv) (hs _ _))
theorem ev_itemI {value slice : PySem.Expr} {p : Pos} {x y : Int} {n : Nat} (hl : Ev κ σ value (.ok (.lst i) σ₁)) (hr : Ev κ σ₁ slice (.ok (.int x) σ₂)) (hx : x = (n : Int)) (h1 : σ₂.l[i]? = some (.i, ds)) (hd : ds[n]? = some [y]) (hz : ds.length < 1000)
    (hs : ∀ a t, subscripted slice false (.ref a) (.int x t) = operate [.ref a, .int x t] (getItem (.ref a) (.int x t)) := by intro _ _; with_unfolding_all rfl) : Ev κ σ (.Subscript value slice p) (.ok (.int y) σ₂) :=
  fun c h tk G R Q E post => ev_item hl hr hx h1 hd hz hs c h tk G R Q E fun h' tk' G' u R' K' hr' => by
    obtain ⟨z, t, rfl, e⟩ := hr'
    cases e
    exact post h' tk' G' _ R' K' ⟨t, rfl⟩
theorem ev_eqNil {l : PySem.Expr} {p p' : Pos} (hl : Ev κ σ l (.ok (.lst i) σ₁)) (h1 : σ₁.l[i]? = some (k, ds)) : Ev κ σ (.Compare l [.Eq] [.List [] p'] p) (.ok (.bool (decide (ds = []))) σ₁) :=
  fun _ _ _ _ R _ _ post => wpAny_Compare1 (hl.seq R post fun h₁ tk₁ G₁ u₁ R₁ _ V₁ post₁ => by
    obtain ⟨a, e1, rfl⟩ := V₁
    obtain ⟨a', g, e1', U⟩ := R₁.at h1
    cases e1.symm.trans e1'
    refine PyProof.Rows.List_ (args_nil (r_newL (k := k) (ds := []) R₁.st .nil fun l h' S' => ?_))
    exact r_eqL S' (.tail U) .head R₁.u3 (post₁.here (R₁.same S'.dropL) rfl))
theorem tt_neNil {l : PySem.Expr} {p p' : Pos} (hl : Ev κ σ l (.ok (.lst i) σ₁)) (h1 : σ₁.l[i]? = some (k, ds)) : Tt κ σ (.Compare l [.NotEq] [.List [] p'] p) (.ok (!decide (ds = [])) σ₁) :=
  fun _ _ _ _ R _ _ post => wpAny_isTrue_Compare1 (hl.seq R post fun h₁ tk₁ G₁ u₁ R₁ _ V₁ post₁ => by
    obtain ⟨a, e1, rfl⟩ := V₁
    obtain ⟨a', g, e1', U⟩ := R₁.at h1
    cases e1.symm.trans e1'
    refine PyProof.Rows.List_ (args_nil (r_newL (k := k) (ds := []) R₁.st .nil fun l h' S' => ?_))
    exact r_neL S' (.tail U) .head R₁.u3 (wpAny_truthy_bool (post₁.here (R₁.same S'.dropL) rfl)))
end
theorem ev_tupP {es : List PySem.Expr} {n : Nat} {p : Pos} {x y : Int} (h : El κ σ es (.ok [.int x, .int y] σ₁)) : Ev κ σ (.Tuple es n p) (.ok (.el .p [x, y]) σ₁) :=
  fun _ _ _ _ R _ _ post => PyProof.Rows.Tuple_ ((h p).seq R post fun h₁ tk₁ G₁ u₁ R₁ _ V₁ post₁ => by
    obtain _ | ⟨⟨t, rfl⟩, V₁⟩ := V₁
    obtain _ | ⟨⟨u, rfl⟩, V₁⟩ := V₁
    cases V₁
    refine r_tupN R₁.st fun a h' S' => ?_
    have z := R₁.newN S'
    exact post₁ _ _ _ _ z.1 z.2.any ⟨a, 0, x, t, y, u, rfl, .head _, rfl⟩)
theorem ev_tupPI {es : List PySem.Expr} {n : Nat} {p : Pos} {d : D} {z : Int} (h : El κ σ es (.ok [.el .p d, .int z] σ₁)) : Ev κ σ (.Tuple es n p) (.ok (.el .pi (d ++ [z])) σ₁) :=
  fun _ _ _ _ R _ _ post => PyProof.Rows.Tuple_ ((h p).seq R post fun h₁ tk₁ G₁ u₁ R₁ _ V₁ post₁ => by
    obtain _ | ⟨v1, V₁⟩ := V₁
    obtain _ | ⟨⟨u, rfl⟩, V₁⟩ := V₁
    cases V₁
    refine r_tupN R₁.st fun a h' S' => ?_
    have zz := R₁.newN S'
    exact post₁ _ _ _ _ zz.1 zz.2.any ⟨a, 0, _, d, z, u, rfl, .head _, RelP.mono v1 fun _ h => .tail _ h, rfl⟩)
theorem ev_tupK {es : List PySem.Expr} {n : Nat} {p : Pos} {d : D} {x y : Int} (h : El κ σ es (.ok [.int x, .int y, .el .p d] σ₁)) : Ev κ σ (.Tuple es n p) (.ok (.el .kip (x :: y :: d)) σ₁) :=
  fun _ _ _ _ R _ _ post => PyProof.Rows.Tuple_ ((h p).seq R post fun h₁ tk₁ G₁ u₁ R₁ _ V₁ post₁ => by
    obtain _ | ⟨⟨t, rfl⟩, V₁⟩ := V₁
    obtain _ | ⟨⟨u, rfl⟩, V₁⟩ := V₁
    obtain _ | ⟨v1, V₁⟩ := V₁
    cases V₁
    refine r_tupN R₁.st fun a h' S' => ?_
    have zz := R₁.newN S'
    exact post₁ _ _ _ _ zz.1 zz.2.any ⟨a, 0, x, t, y, u, _, d, rfl, .head _, RelP.mono v1 fun _ h => .tail _ h, rfl⟩)
noncomputable def elv : Kd → D → AV
  | .i, [x] => .int x
  | k, d => .el k d
theorem elv_rel {X : Pg} {mg : Str → Option Value} {k : Kd} {d : D} {u : Value} (h : VRel X mg G (elv k d) u) : RelIn G.nw k u d := by
  unfold elv at h
  split at h
  · obtain ⟨t, rfl⟩ := h
    exact ⟨_, t, rfl, rfl⟩
  · exact h
theorem All2.elv {X : Pg} {mg : Str → Option Value} {k : Kd} : ∀ {ds : List D} {us : List Value}, All2 (fun u a => VRel X mg G a u) us (ds.map (elv k)) → All2 (RelIn G.nw k) us ds
  | [], us, h => by cases h; exact .nil
  | d :: ds, us, h => by
    obtain _ | ⟨h1, h⟩ := h
    exact .cons (elv_rel h1) h.elv
theorem ev_list {es : List PySem.Expr} {p : Pos} {k : Kd} {ds : List D} (h : El κ σ es (.ok (ds.map (elv k)) σ₁)) (hz : ds.length < 1000) : Ev κ σ (.List es p) (.ok (.lst σ₁.l.length) ⟨σ₁.v, σ₁.l ++ [(k, ds)], σ₁.o⟩) :=
  fun _ _ _ _ R _ _ post => PyProof.Rows.List_ ((h p).seq R post fun h₁ tk₁ G₁ u₁ R₁ _ V₁ post₁ => by
    have V₂ := V₁.elv
    refine r_newL R₁.st V₂ (fun a h' S' => ?_) (by have := V₂.len; rw [sizeLine_eq]; lia)
    obtain ⟨G', R', K', e⟩ := R₁.newL S'
    exact post₁ _ _ _ _ R' K'.any ⟨a, e, rfl⟩)
theorem ev_listO {es : List PySem.Expr} {p : Pos} {as : List AV} (h : El κ σ es (.ok as σ₁)) (hz : as.length < 1000) : Ev κ σ (.List es p) (.ok (.oth σ₁.o.length) ⟨σ₁.v, σ₁.l, σ₁.o ++ [.rl as]⟩) :=
  fun _ _ _ _ R _ _ post => PyProof.Rows.List_ ((h p).seq R post fun h₁ tk₁ G₁ u₁ R₁ _ V₁ post₁ => by
    refine r_newLO R₁.st (fun a h' S' => ?_) (by have := V₁.len; rw [sizeLine_eq]; lia)
    obtain ⟨G', R', K', e⟩ := R₁.newO (x := .rl as) S' ⟨u₁, 0, rfl, V₁⟩
    exact post₁ _ _ _ _ R' K'.any ⟨a, e, rfl⟩)
noncomputable abbrev Oc (κ : K) (σ : Sg) (f : Value) (as : List AV) (r : Rs AV) : Prop := Op κ σ (fun us => call f us) as (VR κ) r
theorem ev_callB {f e : PySem.Expr} {es : List PySem.Expr} {p : Pos} {id : String} {as : List AV} {r : Rs AV} (hf : Ev κ σ f (.ok (.val (.builtin id)) σ₁)) (ha : El κ σ₁ (e :: es) (.ok as σ₂)) (ho : Oc κ σ₂ (.builtin id) as r)
    (hc : ∀ env, eval (.Call f (e :: es) [] p) env = (do callWith p (← eval f env) [] (backTo p (starEach (e :: es) env)) (backToKw p (keywordEach [] env))) := by intro _; rfl)
    (he : ∀ env, starEach (e :: es) env = (false, eval e env) :: starEach es env := by intro _; rfl) (hp : ∀ env, (backTo p (starEach es env)).any (·.1) = false := by intro _; rfl) : Ev κ σ (.Call f (e :: es) [] p) r :=
  fun _ _ _ _ R _ _ post => Call_ (hf.seq R post fun h₁ tk₁ G₁ u₁ R₁ _ V₁ post₁ => by
    have V₁ : u₁ = .builtin id := V₁
    subst V₁
    exact PyProof.Rows.callWith_builtin1 ((ha p).seq R₁ post₁ fun h₂ tk₂ G₂ us R₂ _ V₂ post₂ => ho _ h₂ tk₂ G₂ R₂ us V₂ _ _ post₂) (he _) (hp _)) (hc _)
theorem ev_callT {f e : PySem.Expr} {es : List PySem.Expr} {p : Pos} {T : String} {as : List AV} {r : Rs AV} (hf : Ev κ σ f (.ok (.val (.type T)) σ₁)) (ha : El κ σ₁ (e :: es) (.ok as σ₂)) (ho : Oc κ σ₂ (.type T) as r)
    (hc : ∀ env, eval (.Call f (e :: es) [] p) env = (do callWith p (← eval f env) [] (backTo p (starEach (e :: es) env)) (backToKw p (keywordEach [] env))) := by intro _; rfl)
    (he : ∀ env, starEach (e :: es) env = (false, eval e env) :: starEach es env := by intro _; rfl) (hp : ∀ env, (backTo p (starEach es env)).any (·.1) = false := by intro _; rfl) : Ev κ σ (.Call f (e :: es) [] p) r :=
  fun _ _ _ _ R _ _ post => Call_ (hf.seq R post fun h₁ tk₁ G₁ u₁ R₁ _ V₁ post₁ => by
    have V₁ : u₁ = .type T := V₁
    subst V₁
    exact Pv.callWith_type1 ((ha p).seq R₁ post₁ fun h₂ tk₂ G₂ us R₂ _ V₂ post₂ => ho _ h₂ tk₂ G₂ R₂ us V₂ _ _ post₂) (he _) (hp _)) (hc _)
theorem ev_callT0 {f : PySem.Expr} {p : Pos} {T : String} {r : Rs AV} (hf : Ev κ σ f (.ok (.val (.type T)) σ₁)) (ho : Oc κ σ₁ (.type T) [] r)
    (hc : ∀ env, eval (.Call f [] [] p) env = (do callWith p (← eval f env) [] (backTo p (starEach [] env)) (backToKw p (keywordEach [] env))) := by intro _; rfl) : Ev κ σ (.Call f [] [] p) r :=
  fun _ _ _ _ R _ _ post => Call_ (hf.seq R post fun h₁ tk₁ G₁ u₁ R₁ _ V₁ post₁ => by
    have V₁ : u₁ = .type T := V₁
    subst V₁
    exact PyProof.Rows.callWith_type rfl (evalArgs_kw2_nil (kws := []) rfl (evalAll_nil (ho _ h₁ tk₁ G₁ R₁ [] .nil _ _ post₁)))) (hc _)
theorem ev_meth {o e : PySem.Expr} {es : List PySem.Expr} {name : Str} {ap p : Pos} {id : String} {pl : Env → Sem Bool} {i : Nat} {x : LC} {as : List AV} {r : Rs AV} (ho : Ev κ σ o (.ok (.lst i) σ₁)) (hi : σ₁.l[i]? = some x) (slot : Slot "list" name id) (hty : typeOf (.builtin id) = pure (.type "method_descriptor")) (ha : El κ σ₁ (e :: es) (.ok as σ₂)) (hop : Oc κ σ₂ (.builtin id) (.lst i :: as) r)
    (hc : ∀ env, eval (.Call (.Attribute o name ap) (e :: es) [] p) env = (do
      let ov ← eval o env
      standAt ap.atName
      let (f, first) ← holding [ov] (getMethod ov name (pl env))
      callWith p f first (backTo p (starEach (e :: es) env)) []) := by intro _; rfl)
    (he : ∀ env, starEach (e :: es) env = (false, eval e env) :: starEach es env := by intro _; rfl) (hp : ∀ env, (backTo p (starEach es env)).any (·.1) = false := by intro _; rfl) : Ev κ σ (.Call (.Attribute o name ap) (e :: es) [] p) r :=
  fun _ _ _ _ R _ _ post => MethodCall_ (pl := pl _) (ho.seq R post fun h₁ tk₁ G₁ u₁ R₁ _ V₁ post₁ => by
    obtain ⟨a, e1, rfl⟩ := V₁
    obtain ⟨a', g, e1', U⟩ := R₁.at (k := x.1) (ds := x.2) hi
    cases e1.symm.trans e1'
    refine r_method R₁.st U slot hty ?_
    exact callWith_method1 ((ha p).seq R₁ post₁ fun h₂ tk₂ G₂ us R₂ K₂ V₂ post₂ => hop _ h₂ tk₂ G₂ R₂ (_ :: us) (.cons ⟨a, pre_get K₂.la e1, rfl⟩ V₂) _ _ post₂) (he _) (hp _)) (hc _)
theorem ev_meth0 {o : PySem.Expr} {name : Str} {ap p : Pos} {id : String} {pl : Env → Sem Bool} {i : Nat} {x : LC} {r : Rs AV} (ho : Ev κ σ o (.ok (.lst i) σ₁)) (hi : σ₁.l[i]? = some x) (slot : Slot "list" name id) (hty : typeOf (.builtin id) = pure (.type "method_descriptor")) (hop : Oc κ σ₁ (.builtin id) [.lst i] r)
    (hc : ∀ env, eval (.Call (.Attribute o name ap) [] [] p) env = (do
      let ov ← eval o env
      standAt ap.atName
      let (f, first) ← holding [ov] (getMethod ov name (pl env))
      callWith p f first (backTo p (starEach [] env)) []) := by intro _; rfl) : Ev κ σ (.Call (.Attribute o name ap) [] [] p) r :=
  fun _ _ _ _ R _ _ post => MethodCall_ (pl := pl _) (ho.seq R post fun h₁ tk₁ G₁ u₁ R₁ _ V₁ post₁ => by
    obtain ⟨a, e1, rfl⟩ := V₁
    obtain ⟨a', g, e1', U⟩ := R₁.at (k := x.1) (ds := x.2) hi
    cases e1.symm.trans e1'
    refine r_method R₁.st U slot hty ?_
    exact callWith_method0 (hop _ h₁ tk₁ G₁ R₁ [_] (.cons ⟨a, e1, rfl⟩ .nil) _ _ post₁)) (hc _)
theorem Oc.l0 {f : Value} {i : Nat} {k : Kd} {ds : List D} {r : Rs AV} (hi : σ.l[i]? = some (k, ds)) (w : ∀ c h tk G a g, Rep κ c σ h G → G.la[i]? = some a → At a k ds G.ls g → ∀ Q E, Post κ c G (VR κ) r Q E → wpAny (model c.prog c.w) c.A (call f [.ref a]) Q E (mk c.s h tk)) : Oc κ σ f [.lst i] r := by
  intro c h tk G R us hus Q E post
  obtain _ | ⟨⟨a, e, q⟩, hus⟩ := hus
  subst q
  cases hus
  obtain ⟨a', g, e1', U⟩ := R.at hi
  cases e.symm.trans e1'
  exact w c h tk G a g R e U Q E post
theorem Oc.l1 {f : Value} {i : Nat} {k : Kd} {ds : List D} {b : AV} {r : Rs AV} (hi : σ.l[i]? = some (k, ds)) (w : ∀ c h tk G a g v, Rep κ c σ h G → G.la[i]? = some a → At a k ds G.ls g → VRel κ.X c.mg G b v → ∀ Q E, Post κ c G (VR κ) r Q E → wpAny (model c.prog c.w) c.A (call f [.ref a, v]) Q E (mk c.s h tk)) : Oc κ σ f [.lst i, b] r := by
  intro c h tk G R us hus Q E post
  obtain _ | ⟨⟨a, e, q⟩, hus⟩ := hus
  obtain _ | ⟨hv, hus⟩ := hus
  subst q
  cases hus
  obtain ⟨a', g, e1', U⟩ := R.at hi
  cases e.symm.trans e1'
  exact w c h tk G a g _ R e U hv Q E post
section
variable {i : Nat} {k : Kd} {ds : List D} {d : D}
theorem m_append (hi : σ.l[i]? = some (k, ds)) (hz : ds.length < 1000) : Oc κ σ (.builtin "list.append") [.lst i, .el k d] (.ok .none ⟨σ.v, σ.l.set i (k, ds ++ [d]), σ.o⟩) :=
  .l1 hi fun c h tk G a g v R e U hv Q E post => r_append R.st U hz hv fun h' S' => let z := R.setL hi e U S'; post _ _ _ _ z.1 z.2.any rfl
theorem m_pop {ds' : List D} (hi : σ.l[i]? = some (k, ds)) (he : ds = ds' ++ [d]) (hz : ds.length < 1000) : Oc κ σ (.builtin "list.pop") [.lst i] (.ok (.el k d) ⟨σ.v, σ.l.set i (k, ds'), σ.o⟩) :=
  .l0 hi fun c h tk G a g R e U Q E post => r_pop R.st U he hz fun h' v hv S' => let z := R.setL hi e U S'; post _ _ _ _ z.1 z.2.any hv
theorem c_len (hi : σ.l[i]? = some (k, ds)) (hz : ds.length < 1000) : Oc κ σ (.builtin "len") [.lst i] (.ok (.int ds.length) σ) :=
  .l0 hi fun c h tk G a g R e U Q E post => r_len R.st U hz fun t _ => post.here R ⟨t, rfl⟩
end
theorem c_range1 {n : Int} : Oc κ σ (.type "range") [.int n] (.ok (.oth σ.o.length) ⟨σ.v, σ.l, σ.o ++ [.rg 0 n 1]⟩) := by
  intro c h tk G R us hus Q E post
  obtain _ | ⟨⟨t, q⟩, hus⟩ := hus
  subst q
  cases hus
  refine r_range1 R.st fun r h' tk' t1 t2 S' => ?_
  obtain ⟨G', R', K', e⟩ := R.newO (x := .rg 0 n 1) S' ⟨_, _, _, rfl⟩
  exact post _ _ _ _ R' K'.any ⟨r, e, rfl⟩
end
end Mine
end
section
namespace Mine
inductive AF where
  | next | brk | cont | ret (v : AV)
noncomputable def FRl (κ : K) (c : Kx) (G : Gh) : AF → Flow → Prop
  | .next, u => u = .next
  | .brk, u => u = .brk
  | .cont, u => u = .cont
  | .ret v, u => ∃ w, u = .ret w ∧ VRel κ.X c.mg G v w
noncomputable def Ex (κ : K) (σ : Sg) (s : Stmt) (r : Rs AF) : Prop := Wd κ σ (exec s) (FRl κ) r
noncomputable def Es (κ : K) (σ : Sg) (ss : List Stmt) (r : Rs AF) : Prop := Wd κ σ (execs ss) (FRl κ) r
noncomputable def As (κ : K) (σ : Sg) (tgt : PySem.Expr) (v : AV) (σ' : Sg) : Prop :=
  ∀ c h tk G, Rep κ c σ h G → ∀ u, VRel κ.X c.mg G v u → ∀ Q E, (∀ h' tk' G', Rep κ c σ' h' G' → Kp c.ex G G' → Q () (mk c.s h' tk')) → wpAny (model c.prog c.w) c.A (assign tgt c.env u) Q E (mk c.s h tk)
section
variable {κ : K} {c : Kx} {σ σ₁ σ₂ σ₃ : Sg} {h h' : Heap} {tk : Nat} {G G' : Gh} {E : Value → Shared → Prop}
theorem nodup_at {l : List Str} (hn : l.Nodup) {i j : Nat} {x : Str} (hi : l[i]? = some x) (hj : l[j]? = some x) : i = j := by
  obtain ⟨h1, e1⟩ := List.getElem?_eq_some_iff.mp hi
  obtain ⟨h2, e2⟩ := List.getElem?_eq_some_iff.mp hj
  rcases Nat.lt_trichotomy i j with q | q | q
  · exact absurd (e1.trans e2.symm) (List.pairwise_iff_getElem.mp hn i j h1 h2 q)
  · exact q
  · exact absurd (e2.trans e1.symm) (List.pairwise_iff_getElem.mp hn j i h2 h1 q)
theorem rep_store {x : Str} {n : Nat} {v : AV} {u : Value} {Q : Unit → Shared → Prop} (R : Rep κ c σ h G) (hx : κ.fi.tb[n]? = some x) (hv : VRel κ.X c.mg G v u)
    (q : ∀ h' tk' G', Rep κ c ⟨σ.v.set n v, σ.l, σ.o⟩ h' G' → Kp c.ex G G' → Q () (mk c.s h' tk')) : wpAny (model c.prog c.w) c.A (storeName c.env x u) Q E (mk c.s h tk) := by
  refine wpAny_storeName_local (s := mk c.s h tk) (R.en.loc x (List.mem_of_getElem? hx)) R.ns (fun h' hn hs => ?_) (by rw [R.en.kind]; rfl)
  have vr : ∀ (G' : Gh), G'.m = upd G.m x u → Kp c.ex G G' → ∀ (i : Nat) y w, κ.fi.tb[i]? = some y → (σ.v.set n v)[i]? = some w → w = .unb ∨ ∃ u, G'.m y = some u ∧ VRel κ.X c.mg G' w u := by
    intro G' hm kp i y w hi hw
    by_cases e : n = i
    · subst e
      obtain rfl : x = y := Option.some.inj (hx.symm.trans hi)
      obtain rfl : v = w := by
        have h1 := (List.getElem?_eq_some_iff.mp hw).1
        rw [List.getElem?_set_self (by simpa using h1)] at hw
        exact Option.some.inj hw
      exact .inr ⟨u, by rw [hm]; exact upd_eq, kp.v hv⟩
    · rw [List.getElem?_set_ne e] at hw
      refine (R.vr i y w hi hw).imp id fun ⟨u', e', r⟩ => ⟨u', ?_, kp.v r⟩
      rw [hm]
      refine upd_ne (fun q => ?_) e'
      subst q
      exact e (nodup_at R.nd hx hi)
  cases e : c.mo with
  | none =>
    have hex : c.ex = [] := by unfold Kx.ex; rw [e]
    have hlm : ∀ G : Gh, c.lm G = G.m := fun G => by unfold Kx.lm; rw [e]
    have kp : Kp c.ex G { G with m := upd G.m x u } := ⟨List.prefix_refl _, List.prefix_refl _, fun _ h => h, fun _ h h' _ => ⟨h, h'⟩, fun _ h h' _ => ⟨h, h'⟩⟩
    obtain ⟨news, N, hc⟩ := R.st.same
    have hL := R.fn e
    rw [hL] at hn hs
    have S' : St c.B c.L h' (c.lm { G with m := upd G.m x u }) G.ls G.ob G.nw := by
      rw [hlm]
      exact hc h' _ (R.st.fr.set hn hs) (N.set hs)
    exact q h' _ { G with m := upd G.m x u } { R with st := S', lr := ⟨R.lr.l, R.lr.o.mono fun _ _ ⟨b, h1, h2⟩ => ⟨b, h1, h2.mono kp.la kp.oa kp.nw⟩, R.lr.ln, R.lr.on⟩, vr := vr _ rfl kp, cp := (fun m hm => by rw [e] at hm; cases hm) } kp
  | some m =>
    have hex : c.ex = [c.env.locals] := by unfold Kx.ex; rw [e]
    have hlm : ∀ G : Gh, c.lm G = m := fun G => by unfold Kx.lm; rw [e]
    obtain ⟨oC, h1, h2, h3⟩ := R.cp m e
    obtain ⟨g, U⟩ := AtO.ofMem h1
    obtain ⟨o', ho', hno⟩ := LCg.ns_obj hn
    have S' := R.st.turned U hs ho'
    have kp : Kp c.ex G { G with m := upd G.m x u, ob := g o' } := by
      refine ⟨List.prefix_refl _, List.prefix_refl _, fun _ h => h, fun _ h h' _ => ⟨h, h'⟩, fun p hp hn hx => ⟨U.others hp fun q => hx ?_, hn⟩⟩
      rw [hex, q]; exact .head _
    have S'' : St c.B c.L h' (c.lm { G with m := upd G.m x u, ob := g o' }) G.ls (g o') G.nw := by
      rw [hlm] at S' ⊢; exact S'
    refine q h' _ { G with m := upd G.m x u, ob := g o' } { R with st := S'', lr := ⟨R.lr.l, ?_, R.lr.ln, R.lr.on⟩, vr := vr _ rfl kp, fn := (fun q => by rw [e] at q; cases q), cp := fun m' hm => ⟨o', (U.again o').mem, hno, h3⟩ } kp
    have := R.lr.on
    refine All2.mono ?_ fun _ _ h => h
    have key : ∀ {as : List Addr} {bs : List AO}, All2 (fun a x => ∃ b, (a, b) ∈ G.ob ∧ ORel κ.X c.mg G x b) as bs → (∀ a ∈ as, a ≠ c.env.locals) → All2 (fun a y => ∃ b, (a, b) ∈ g o' ∧ ORel κ.X c.mg { G with m := upd G.m x u, ob := g o' } y b) as bs := by
      intro as bs hh
      induction hh with
      | nil => intro _; exact .nil
      | cons r1 _ ih =>
        intro hne
        obtain ⟨b, hb, hr⟩ := r1
        exact .cons ⟨b, U.others hb (hne _ (.head _)), hr.mono kp.la kp.oa kp.nw⟩ (ih fun a ha => hne a (.tail _ ha))
    exact key R.lr.o fun a ha q => h3 (q ▸ ha)
theorem rep_storeC {x : Str} {j : Nat} {v v₀ : AV} {u : Value} {Q : Unit → Shared → Prop} (R : Rep κ c σ h G) (hx : (x, j) ∈ κ.fi.cs) (hj : σ.o[j]? = some (.cell v₀)) (hv : VRel κ.X c.mg G v u)
    (q : ∀ h' tk' G', Rep κ c ⟨σ.v, σ.l, σ.o.set j (.cell v)⟩ h' G' → Kp c.ex G G' → Q () (mk c.s h' tk')) : wpAny (model c.prog c.w) c.A (storeName c.env x u) Q E (mk c.s h tk) := by
  obtain ⟨a, b, g, ha, U, w, hd, _⟩ := R.atO hj
  obtain ⟨a', ha', hl⟩ := R.ce _ hx
  obtain rfl : a = a' := Option.some.inj (ha.symm.trans ha')
  refine wpAny_storeName_cell (s := mk c.s h tk) R.en.kind (R.en.cel _ hx) hl ⟨b, R.st.getO U, hd⟩ fun h' ⟨o', ho', hd'⟩ hs => ?_
  obtain ⟨R', K'⟩ := R.setO (x := .cell v₀) (x' := .cell v) ha U ⟨_, hd', .inr ⟨u, rfl, hv⟩⟩ (R.st.turned U hs ho')
  exact q h' _ _ R' K'.any
theorem as_name {x : Str} {p : Pos} {n : Nat} {v : AV} (hx : κ.fi.tb[n]? = some x) : As κ σ (.Name x p) v ⟨σ.v.set n v, σ.l, σ.o⟩ := fun _ _ _ _ R _ hv _ _ q => wpAny_assign_Name (rep_store R hx hv q)
theorem as_cell {x : Str} {p : Pos} {j : Nat} {v v₀ : AV} (hx : (x, j) ∈ κ.fi.cs) (hj : σ.o[j]? = some (.cell v₀)) : As κ σ (.Name x p) v ⟨σ.v, σ.l, σ.o.set j (.cell v)⟩ := fun _ _ _ _ R _ hv _ _ q => wpAny_assign_Name (rep_storeC R hx hj hv q)
theorem es_nil : Es κ σ [] (.ok .next σ) := fun _ _ _ _ R _ _ post => wpAny_execs_nil (post.here R rfl)
theorem es_cons {s : Stmt} {ss : List Stmt} {r : Rs AF} (h : Ex κ σ s (.ok .next σ₁)) (h' : Es κ σ₁ ss r) : Es κ σ (s :: ss) r :=
  fun _ _ _ _ R _ _ post => wpAny_execs_cons (h.seq R post fun h₁ tk₁ G₁ u₁ R₁ _ V₁ post₁ => by
    have V₁ : u₁ = .next := V₁
    subst V₁
    exact h' _ h₁ tk₁ G₁ R₁ _ _ post₁)
noncomputable def AF.stops : AF → Bool
  | .next => false
  | _ => true
theorem es_stop {s : Stmt} {ss : List Stmt} {f : AF} (h : Ex κ σ s (.ok f σ₁)) (hf : f.stops = true) : Es κ σ (s :: ss) (.ok f σ₁) :=
  fun _ _ _ _ R _ _ post => wpAny_execs_cons (h.seq R post fun h₁ tk₁ G₁ u₁ R₁ _ V₁ post₁ => by
    have q := post₁.here (tk := tk₁) R₁ V₁
    cases f with
    | next => cases hf
    | brk => have V₁ : u₁ = .brk := V₁; subst V₁; exact q
    | cont => have V₁ : u₁ = .cont := V₁; subst V₁; exact q
    | ret v => obtain ⟨w, V₁, _⟩ := V₁; subst V₁; exact q)
theorem es_ret {s : Stmt} {ss : List Stmt} {v : AV} (h : Ex κ σ s (.ok (.ret v) σ₁)) : Es κ σ (s :: ss) (.ok (.ret v) σ₁) := es_stop h rfl
theorem ex_asg {x : Str} {e : PySem.Expr} {p p' : Pos} {n : Nat} {v : AV} (h : Ev κ σ e (.ok v σ₁)) (hx : κ.fi.tb[n]? = some x) (hs : ∀ env, swapsWith e (some (.Name x p')) p.line env = pure false := by intro _; rfl) : Ex κ σ (.Assign [.Name x p'] e p) (.ok .next ⟨σ₁.v.set n v, σ₁.l, σ₁.o⟩) :=
  fun _ _ _ _ R _ _ post => wpAny_Assign_Name (h.seq R post fun _ _ _ _ R₁ _ V₁ post₁ => rep_store R₁ hx V₁ fun h' tk' G' R' K' => post₁ h' tk' G' _ R' K' rfl) (hs _)
theorem ex_asgC {x : Str} {e : PySem.Expr} {p p' : Pos} {j : Nat} {v v₀ : AV} (h : Ev κ σ e (.ok v σ₁)) (hx : (x, j) ∈ κ.fi.cs) (hj : σ₁.o[j]? = some (.cell v₀)) (hs : ∀ env, swapsWith e (some (.Name x p')) p.line env = pure false := by intro _; rfl) : Ex κ σ (.Assign [.Name x p'] e p) (.ok .next ⟨σ₁.v, σ₁.l, σ₁.o.set j (.cell v)⟩) :=
  fun _ _ _ _ R _ _ post => wpAny_Assign_Name (h.seq R post fun _ _ _ _ R₁ _ V₁ post₁ => rep_storeC R₁ hx hj V₁ fun h' tk' G' R' K' => post₁ h' tk' G' _ R' K' rfl) (hs _)
theorem ex_aug {x : Str} {e : PySem.Expr} {op : Operator} {p p' : Pos} {n : Nat} {v w y : AV} (hx : κ.fi.tb[n]? = some x) (hv : σ.v[n]? = some v) (hb : v.bd = true) (h : Ev κ σ e (.ok w σ₁)) (ho : O2 κ σ₁ (inplaceOp op) v w (.ok y σ₂)) : Ex κ σ (.AugAssign (.Name x p') op e p) (.ok .next ⟨σ₂.v.set n y, σ₂.l, σ₂.o⟩) :=
  fun _ _ _ _ R _ _ post => wpAny_AugAssign_Name (by
    rcases R.vr n x v hx hv with rfl | ⟨u, e, hr⟩
    · cases hb
    · exact wpAny_loadName_local (s := mk _ _ _) R.en.kind (R.en.loc x (List.mem_of_getElem? hx)) R.ns e (h.seq R post fun h₁ tk₁ G₁ u₁ R₁ K₁ V₁ post₁ => ho _ h₁ tk₁ G₁ R₁ [_, _] (.cons (K₁.v hr) (.cons V₁ .nil)) _ _ fun h₂ tk₂ G₂ u₂ R₂ K₂ V₂ =>
        rep_store R₂ hx V₂ fun h' tk' G' R' K' => post₁ h' tk' G' _ R' (K₂.trans K') rfl))
theorem ex_expr {e : PySem.Expr} {p : Pos} {v : AV} (h : Ev κ σ e (.ok v σ₁)) (hs : ∀ env, swapsWith e none p.line env = pure false := by intro _; rfl) : Ex κ σ (.Expr e p) (.ok .next σ₁) :=
  fun _ _ _ _ R _ _ post => wpAny_Expr_any (h.seq R post fun _ _ _ _ R₁ _ V₁ post₁ => post₁.here R₁ rfl) R.en.inter (hs _)
theorem ex_ret {e : PySem.Expr} {p : Pos} {v : AV} (h : Ev κ σ e (.ok v σ₁)) : Ex κ σ (.Return (some e) p) (.ok (.ret v) σ₁) :=
  fun _ _ _ _ R _ _ post => wpAny_Return_some (h.seq R post fun _ _ _ _ R₁ _ V₁ post₁ => post₁.here R₁ ⟨_, rfl, V₁⟩)
theorem ex_cont {p : Pos} : Ex κ σ (.Continue p) (.ok .cont σ) := fun _ _ _ _ R _ _ post => wpAny_Continue (post.here R rfl)
theorem ex_brk {p : Pos} : Ex κ σ (.Break p) (.ok .brk σ) := fun _ _ _ _ R _ _ post => wpAny_Break (post.here R rfl)
theorem ex_ifT {t : PySem.Expr} {b₁ b₂ : List Stmt} {p : Pos} {b : Bool} {r : Rs AF} (h : Tt κ σ t (.ok b σ₁)) (hb : b = true) (h' : Es κ σ₁ b₁ r) : Ex κ σ (.If t b₁ b₂ p) r :=
  fun _ _ _ _ R _ _ post => wpAny_If (h.seq R post fun h₁ tk₁ G₁ u₁ R₁ _ V₁ post₁ => by
    subst V₁ hb
    exact h' _ h₁ tk₁ G₁ R₁ _ _ post₁)
theorem ex_ifF {t : PySem.Expr} {b₁ b₂ : List Stmt} {p : Pos} {b : Bool} {r : Rs AF} (h : Tt κ σ t (.ok b σ₁)) (hb : b = false) (h' : Es κ σ₁ b₂ r) : Ex κ σ (.If t b₁ b₂ p) r :=
  fun _ _ _ _ R _ _ post => wpAny_If (h.seq R post fun h₁ tk₁ G₁ u₁ R₁ _ V₁ post₁ => by
    subst V₁ hb
    exact h' _ h₁ tk₁ G₁ R₁ _ _ post₁)
theorem ex_setitem {o ix e : PySem.Expr} {p p' : Pos} {i n : Nat} {x : Int} {k : Kd} {ds : List D} {d : D} (he : Ev κ σ e (.ok (.el k d) σ₁)) (ho : Ev κ σ₁ o (.ok (.lst i) σ₂)) (hi : Ev κ σ₂ ix (.ok (.int x) σ₃)) (hx : x = (n : Int)) (hl : σ₃.l[i]? = some (k, ds)) (hn : n < ds.length) (hz : ds.length < 1000)
    (hs : ∀ env, swapsWith e (some (.Subscript o ix p')) p.line env = pure false := by intro _; rfl) : Ex κ σ (.Assign [.Subscript o ix p'] e p) (.ok .next ⟨σ₃.v, σ₃.l.set i (k, ds.set n d), σ₃.o⟩) :=
  fun _ _ _ _ R _ _ post => wpAny_Assign_Subscript (he.seq R post fun _ _ _ _ R₁ _ V₁ post₁ => ho.seq R₁ post₁ fun _ _ _ _ R₂ K₂ V₂ post₂ => hi.seq R₂ post₂ fun h₃ tk₃ G₃ u₃ R₃ K₃ V₃ post₃ => by
    obtain ⟨t, rfl⟩ := V₃
    obtain ⟨a, e1, rfl⟩ := K₃.v V₂
    obtain ⟨a', g, e1', U⟩ := R₃.at hl
    cases e1.symm.trans e1'
    exact r_set R₃.st U hx hn hz (K₃.v (K₂.v V₁)) fun h' S' => let z := R₃.setL hl e1 U S'; post₃ _ _ _ _ z.1 z.2.any rfl) (hs _)
noncomputable def PostC (κ : K) (x : List Addr) (c : Kx) (G : Gh) (r : Rs AF) (Rr : Result → Shared → Prop) : Prop := match r with
  | .ok f σ => ∀ h tk G' u, Rep κ c σ h G' → Kp x G G' → FRl κ c G' f u → Rr (.ok u) (mk c.s h tk)
  | .exc _ _ _ => False
noncomputable def Wl (κ : K) (σ : Sg) (t : PySem.Expr) (b : List Stmt) (r : Rs AF) : Prop := ∀ c h tk G, Rep κ c σ h G → ∀ Rr, PostC κ c.ex c G r Rr → codeAny (model c.prog c.w) c.A (.whileLoop t b [] c.env) Rr (mk c.s h tk)
theorem PostC.move {x : List Addr} {r : Rs AF} {Rr : Result → Shared → Prop} (p : PostC κ x c G r Rr) (k : Kp x G G') : PostC κ x c G' r Rr := match r, p with
  | .ok _ _, p => fun h tk G'' u R k' h' => p h tk G'' u R (k.trans k') h'
  | .exc _ _ _, p => p.elim
theorem while_once {prog : Program} {w : World} {A : Around} {s : Shared} {test : PySem.Expr} {body : List Stmt} {env : Env} {Rr : Result → Shared → Prop}
    (turn : wpAny (model prog w) A (isTrue test env (eval test env)) (fun b s₂ => if b = true then wpAny (model prog w) A (execs body env) (fun f s₃ => match f with
        | .next | .cont => codeAny (model prog w) A (.whileLoop test body [] env) Rr s₃
        | .brk => Rr (.ok .next) s₃
        | .ret v => Rr (.ok (.ret v)) s₃) (notedBy (model prog w) A env fun e s' => Rr (.error e) s') s₂ else Rr (.ok .next) s₂) (notedBy (model prog w) A env fun e s' => Rr (.error e) s') s) : codeAny (model prog w) A (.whileLoop test body [] env) Rr s := by
  refine codeAny_of_tree ?_
  show wpAny _ A ((whileTurn test body [] env).onRaise _) _ _ s
  refine wpAny_noted ?_
  unfold whileTurn
  refine wpAny_bind (wpAny_mono turn (fun b s₂ h₂ => ?_) fun _ _ h' => h')
  cases b with
  | false => exact wpAny_bind (wpAny_execs_nil (wpAny_pure h₂))
  | true =>
    refine wpAny_bind (wpAny_mono h₂ (fun f s₃ h₃ => ?_) fun _ _ h' => h')
    cases f with
    | next => exact wpAny_pure ⟨rfl, h₃⟩
    | cont => exact wpAny_pure ⟨rfl, h₃⟩
    | brk => exact wpAny_pure h₃
    | ret v => exact wpAny_pure h₃
section
variable {t : PySem.Expr} {b : List Stmt} {r : Rs AF} {bb : Bool}
theorem ex_while {p : Pos} {f : AF} (h : Wl κ σ t b (.ok f σ₁)) : Ex κ σ (.While t b [] p) (.ok f σ₁) := fun c h' tk G R Q E post => wpAny_While (h c h' tk G R _ fun h₁ tk₁ G₁ u₁ R₁ K₁ V₁ => post h₁ tk₁ G₁ u₁ R₁ K₁ V₁)
theorem wl_end (h : Tt κ σ t (.ok bb σ₁)) (hb : bb = false) : Wl κ σ t b (.ok .next σ₁) := fun c h' tk G R Rr post => while_once (h c h' tk G R _ _ fun h₁ tk₁ G₁ u₁ R₁ K₁ V₁ => by
  subst V₁ hb
  exact post h₁ tk₁ G₁ _ R₁ K₁ rfl)
theorem wl_step (h : Tt κ σ t (.ok bb σ₁)) (hb : bb = true) (h' : Es κ σ₁ b (.ok .next σ₂)) (k : Wl κ σ₂ t b r) : Wl κ σ t b r := fun c hh tk G R Rr post => while_once (h c hh tk G R _ _ fun h₁ tk₁ G₁ u₁ R₁ K₁ V₁ => by
  subst V₁ hb
  exact h' c h₁ tk₁ G₁ R₁ _ _ fun h₂ tk₂ G₂ u₂ R₂ K₂ V₂ => by
    have V₂ : u₂ = .next := V₂
    subst V₂
    exact k c h₂ tk₂ G₂ R₂ Rr (post.move (K₁.trans K₂)))
theorem wl_cont (h : Tt κ σ t (.ok bb σ₁)) (hb : bb = true) (h' : Es κ σ₁ b (.ok .cont σ₂)) (k : Wl κ σ₂ t b r) : Wl κ σ t b r := fun c hh tk G R Rr post => while_once (h c hh tk G R _ _ fun h₁ tk₁ G₁ u₁ R₁ K₁ V₁ => by
  subst V₁ hb
  exact h' c h₁ tk₁ G₁ R₁ _ _ fun h₂ tk₂ G₂ u₂ R₂ K₂ V₂ => by
    have V₂ : u₂ = .cont := V₂
    subst V₂
    exact k c h₂ tk₂ G₂ R₂ Rr (post.move (K₁.trans K₂)))
theorem wl_brk (h : Tt κ σ t (.ok bb σ₁)) (hb : bb = true) (h' : Es κ σ₁ b (.ok .brk σ₂)) : Wl κ σ t b (.ok .next σ₂) := fun c hh tk G R Rr post => while_once (h c hh tk G R _ _ fun h₁ tk₁ G₁ u₁ R₁ K₁ V₁ => by
  subst V₁ hb
  exact h' c h₁ tk₁ G₁ R₁ _ _ fun h₂ tk₂ G₂ u₂ R₂ K₂ V₂ => by
    have V₂ : u₂ = .brk := V₂
    subst V₂
    exact post h₂ tk₂ G₂ _ R₂ (K₁.trans K₂) rfl)
end
end
end Mine
end
section
namespace Mine
inductive FR where
  | ok (v : AV) (ls : List LC) | exc (cls : String) (ls : List LC)
noncomputable def PostF (X : Pg) (c : Kx) (m : Str → Option Value) (G : Gh) (r : FR) (Q : Value → Shared → Prop) (E : Value → Shared → Prop) : Prop := match r with
  | .ok v ls => ∀ h tk G' u, St c.B c.L h m G'.ls G'.ob G'.nw → Kp [] G G' → All2 (fun a x => (a, x) ∈ G'.ls) G'.la ls → G'.la.Nodup → VRel X c.mg G' v u → Q u (mk c.s h tk)
  | .exc cls ls => ∀ h tk G' e, Fly c.B c.A c.L h m G'.ls G'.ob G'.nw e cls → Kp [] G G' → All2 (fun a x => (a, x) ∈ G'.ls) G'.la ls → G'.la.Nodup → E (.ref e) (mk c.s h tk)
noncomputable def FnIs (X : Pg) (q i : Nat) (args : List AV) (ls : List LC) (os : List AO) (r : FR) : Prop :=
  ∀ (c : Kx) h tk m G, Cx X c.mg c.mb c.A c.B c.L q → St c.B c.L h m G.ls G.ob G.nw → Lr X c.mg G ls os → ∀ us, All2 (fun u a => VRel X c.mg G a u) us args → ∀ Q E, PostF X c m G r Q E → wpAny (model c.prog c.w) c.A (call (.ref (fa X.P c.mg i)) us) Q E (mk c.s h tk)
theorem Cx.le {X : Pg} {mg mb : Str → Option Value} {A : Around} {B : Base} {L : Addr} {k k' : Nat} (C : Cx X mg mb A B L k) (h : k' ≤ k) : Cx X mg mb A B L k' :=
  ⟨C.gd, C.below, Nat.lt_of_le_of_lt (Nat.add_le_add_left h _) C.depth, Nat.lt_of_le_of_lt (Nat.add_le_add_left (Nat.mul_le_mul_left 3 h) _) C.units, C.handled⟩
theorem lookup_mem {α : Type} : ∀ {l : List (Str × α)} {x : Str} {u : α}, (l.map (·.1)).Nodup → (x, u) ∈ l → l.lookup x = some u := by
  intro l x u hn h
  induction l with
  | nil => cases h
  | cons y r ih =>
    have hn' := List.nodup_cons.mp hn
    rw [List.lookup_cons]
    rcases List.mem_cons.mp h with e | h
    · subst e; rw [beq_self_eq_true]
    · have hne : x ≠ y.1 := fun e => by
        have q : x ∈ r.map (·.1) := List.mem_map_of_mem (f := (·.1)) h
        rw [e] at q
        exact hn'.1 q
      rw [beq_eq_false_iff_ne.mpr hne]
      exact ih hn'.2 h
theorem zip_fst : ∀ (ps : List Str) (us : List Value), ((ps.zip us).map (·.1)).Sublist ps
  | [], _ => by simp
  | _ :: _, [] => by simp
  | p :: ps, u :: us => by simpa using (zip_fst ps us).cons_cons p
theorem zip_mem : ∀ {ps : List Str} {us : List Value} {i : Nat} {x : Str} {u : Value}, ps[i]? = some x → us[i]? = some u → (x, u) ∈ ps.zip us :=
  fun {_ _ i x u} h1 h2 => List.mem_of_getElem? (i := i) (List.getElem?_zip_eq_some (z := (x, u)).mpr ⟨h1, h2⟩)
theorem look_zip {ps : List Str} {us : List Value} (hn : ps.Nodup) {i : Nat} {x : Str} {u : Value} (hx : ps[i]? = some x) (hu : us[i]? = some u) : (ps.zip us).reverse.lookup x = some u :=
  lookup_mem (by rw [List.map_reverse]; exact (List.reverse_perm _).nodup_iff.mpr (hn.sublist (zip_fst ps us))) (List.mem_reverse.mpr (zip_mem hx hu))
structure FiOk (X : Pg) (i : Nat) (fi : Fi) (np : Nat) : Prop where
  js : i ∈ X.js
  ps : (pr X.P i).args.map (·.arg) = fi.tb.take np
  nd : fi.tb.Nodup
  loc : ∀ x ∈ fi.tb, (sc X.P i).names.lookup x = some .local
  glo : ∀ x ∈ fi.gl, (sc X.P i).names.lookup x = some .globalImplicit
  dbg : ∀ x ∈ fi.tb ++ fi.gl, (x == ("__debug__" : Str)) = false
  kind : (sc X.P i).kind = .function
  cell : ∀ x ∈ (sc X.P i).names, x.2 ≠ .cell
  co : (sc X.P i).isCoroutine = false
  gen : (sc X.P i).isGenerator = false
  cs : fi.cs = []
  hd : fi.hd = true
noncomputable def AF.val : AF → AV
  | .ret v => v
  | _ => .none
noncomputable def Rs.fr : Rs AF → FR
  | .ok f σ => .ok f.val σ.l
  | .exc _ c σ => .exc c σ.l
noncomputable def Rs.own : Rs AF → Prop
  | .exc n _ _ => n = true
  | _ => True
theorem fn_of {X : Pg} {q i np n : Nat} {fi : Fi} {args vs : List AV} {ls : List LC} {os : List AO} {r : Rs AF} (F : FiOk X i fi np) (hlen : args.length = np) (hvs : vs = args ++ List.replicate n .unb)
    (hbind : ∀ us : List Value, us.length = np → ∀ pm code doc, bindArgs (Calls.docDef (nm X.P i) (pr X.P i) (bd X.P i) (sc X.P i) pm code doc) ⟨us, []⟩ = pure (bindsOf X i us))
    {s : Stmt} {ss : List Stmt} (hbd : bd X.P i = s :: ss) (h : Es ⟨X, fi, q⟩ ⟨vs, ls, os⟩ (s :: ss) r) (hr : r.own) : FnIs X (q + 1) i args ls os r.fr := by
  rw [← hbd] at h
  intro c hp tk m G C S lr us hus Q E post
  have hul : us.length = np := hus.len.trans hlen
  have hbi : bindsOf X i us = (fi.tb.take np).zip us := by unfold bindsOf; rw [F.ps]
  have hpn : (fi.tb.take np).Nodup := F.nd.sublist (List.take_sublist _ _)
  refine call_fnE (i := i) C S F.js (hbind us hul) (fun y hy => ?_) (fun g L' h₁ tk' code C' S' => ?_) F.co F.gen F.kind F.cell
  · rw [hbi] at hy
    exact F.loc _ (List.mem_of_mem_take (List.of_mem_zip hy).1)
  · obtain ⟨c', hc'⟩ : ∃ c' : Kx, c' = ⟨c.prog, c.w, c.A.deeper (envX (nm X.P i) (sc X.P i) L' (fa X.P c.mg i) code []), c.s, g, L', envX (nm X.P i) (sc X.P i) L' (fa X.P c.mg i) code [], c.mg, c.mb, none⟩ := ⟨_, rfl⟩
    have R : Rep ⟨X, fi, q⟩ c' ⟨vs, ls, os⟩ h₁ { G with m := fun y => (bindsOf X i us).reverse.lookup y } := by
      subst hc'
      refine { gd := C'.gd, below := C'.below, depth := C'.depth, units := C'.units, handled := fun _ => C'.handled, en := ⟨F.kind, F.loc, (by rw [F.cs]; intro p hp; cases hp), F.glo, rfl, rfl, ?_, ?_⟩, st := S', lr := ⟨lr.l, lr.o.mono fun _ _ ⟨b, h1, h2⟩ => ⟨b, h1, h2.mono (List.prefix_refl _) (List.prefix_refl _) fun _ h => h⟩, lr.ln, lr.on⟩, vr := ?_, nd := F.nd, ce := (by rw [F.cs]; intro p hp; cases hp), fn := fun _ => rfl, own := fun _ => rfl, top := fun _ => top_of C'.below, cp := fun m hm => nomatch hm }
      · intro x hx
        rcases hx with hx | hx | hx
        · exact F.dbg x (List.mem_append_left _ hx)
        · rw [F.cs] at hx; cases hx
        · exact F.dbg x (List.mem_append_right _ hx)
      · show ((sc X.P i).kind == .module && _) = false
        rw [F.kind]; rfl
      · intro j x v hx hv
        dsimp only at hx hv ⊢
        rw [hvs] at hv
        by_cases hj : j < args.length
        · rw [List.getElem?_append_left hj] at hv
          obtain ⟨u, hu, hr⟩ := hus.get hv
          refine .inr ⟨u, ?_, hr.mono (List.prefix_refl _) (List.prefix_refl _) fun _ h => h⟩
          rw [hbi]
          exact look_zip hpn (by rw [List.getElem?_take]; rw [if_pos (by lia)]; exact hx) hu
        · rw [List.getElem?_append_right (by lia)] at hv
          have := List.mem_of_getElem? hv
          exact .inl (List.eq_of_mem_replicate this)
    have key := h c' h₁ tk' _ R (fun fl s' => Back c.s c.B c.L m g L' Q (retOf fl) s') (RBack c.s c.B c.A c.L m g L' E)
    subst hc'
    refine key ?_
    cases r with
    | ok f σ =>
      intro h' tk₂ G' u R' K' V'
      refine Back.intro R'.st fun S'' => post h' tk₂ G' _ S'' (⟨K'.la, K'.oa, K'.nw, K'.ls, K'.ob⟩ : Kp [] G G') R'.lr.l R'.lr.ln ?_
      cases f with
      | next => have V' : u = .next := V'; subst V'; rfl
      | brk => have V' : u = .brk := V'; subst V'; rfl
      | cont => have V' : u = .cont := V'; subst V'; rfl
      | ret v => obtain ⟨w, V', hw⟩ := V'; subst V'; exact hw
    | exc n cls σ =>
      cases hr
      intro h' tk₂ G' e K' ⟨h₂, hn, R'⟩
      exact ⟨e, cls, h₂, h', tk₂, _, _, _, _, rfl, rfl, hn, R'.st, fun h3 F3 => post h3 tk₂ G' e F3 (⟨K'.la, K'.oa, K'.nw, K'.ls, K'.ob⟩ : Kp [] G G') R'.lr.l R'.lr.ln⟩
theorem fn_ok {X : Pg} {q i np n : Nat} {fi : Fi} {args vs : List AV} {ls ls' : List LC} {os : List AO} {f : AF} {v : AV} {σ' : Sg} {s : Stmt} {ss : List Stmt} (F : FiOk X i fi np) (hlen : args.length = np) (hvs : vs = args ++ List.replicate n .unb)
    (hbind : ∀ us : List Value, us.length = np → ∀ pm code doc, bindArgs (Calls.docDef (nm X.P i) (pr X.P i) (bd X.P i) (sc X.P i) pm code doc) ⟨us, []⟩ = pure (bindsOf X i us)) (hbd : bd X.P i = s :: ss)
    (h : Es ⟨X, fi, q⟩ ⟨vs, ls, os⟩ (s :: ss) (.ok f σ')) (hl : σ'.l = ls') (hv : f.val = v) : FnIs X (q + 1) i args ls os (.ok v ls') := by
  subst hl hv
  exact fn_of F hlen hvs hbind hbd h trivial
theorem us_cons {P : List Value → Prop} {n : Nat} (h : ∀ a us, us.length = n → P (a :: us)) : ∀ us : List Value, us.length = n + 1 → P us := fun us h' => by
  cases us with
  | nil => cases h'
  | cons a us => exact h a us (Nat.succ.inj h')
theorem us0 {P : List Value → Prop} (h : P []) : ∀ us : List Value, us.length = 0 → P us := fun us h' => List.eq_nil_of_length_eq_zero h' ▸ h
theorem us1 {P : List Value → Prop} (h : ∀ a, P [a]) : ∀ us : List Value, us.length = 1 → P us := us_cons fun a => us0 (P := fun us => P (a :: us)) (h a)
theorem us2 {P : List Value → Prop} (h : ∀ a b, P [a, b]) : ∀ us : List Value, us.length = 2 → P us :=
  us_cons fun a => us1 (P := fun us => P (a :: us)) (h a)
theorem us3 {P : List Value → Prop} (h : ∀ a b c, P [a, b, c]) : ∀ us : List Value, us.length = 3 → P us :=
  us_cons fun a => us2 (P := fun us => P (a :: us)) (h a)
end Mine
end
section
namespace Mine
noncomputable def sel (l : List LC) (ids : List Nat) : List LC := ids.map fun i => l.getD i (.i, [])
noncomputable def ren (ids : List Nat) : AV → AV
  | .lst i => .lst (ids.idxOf i)
  | a => a
noncomputable def bck (ids : List Nat) (n : Nat) : AV → AV
  | .lst j => .lst (ids.getD j (n + (j - ids.length)))
  | a => a
noncomputable def wr (l : List LC) : List Nat → List LC → List LC
  | i :: is, x :: xs => wr (l.set i x) is xs
  | _, xs => l ++ xs
noncomputable def AV.plain (ids : List Nat) : AV → Bool
  | .lst i => ids.contains i
  | .oth _ => false
  | _ => true
noncomputable def AV.noOth : AV → Bool
  | .oth _ => false
  | _ => true
theorem All2.refl_map {α β : Type} {R : α → β → Prop} {as : List α} {bs : List β} (h : All2 R as bs) {da : α} {db : β} : ∀ {ids : List Nat}, (∀ i ∈ ids, i < bs.length) → All2 R (ids.map fun i => as.getD i da) (ids.map fun i => bs.getD i db)
  | [], _ => .nil
  | i :: is, hi => by
    refine .cons ?_ (h.refl_map fun j hj => hi j (.tail _ hj))
    have h1 := hi i (.head _)
    obtain ⟨a, e, r⟩ := h.get (List.getElem?_eq_getElem h1)
    simpa [List.getD, e, List.getElem?_eq_getElem h1] using r
theorem wr_all {P : Ent → Prop} {la new : List Addr} (hn : la.Nodup) : ∀ {ids : List Nat} {l : List LC} {xs : List LC} {rem : List Addr}, (∀ i ∈ ids, i < la.length) → rem = (ids.map fun i => la.getD i 0) → All2 (fun a c => a ∉ rem → P (a, c)) la l →
    All2 (fun a x => P (a, x)) (rem ++ new) xs → All2 (fun a c => P (a, c)) (la ++ new) (wr l ids xs)
  | [], l, xs, rem, _, hr, h, hx => by
    have hr : rem = [] := hr
    subst hr
    have e : wr l [] xs = l ++ xs := by cases xs <;> rfl
    rw [e]
    exact (h.mono fun a c r => r (List.not_mem_nil)).append hx
  | i :: is, l, xs, rem, hi, hr, h, hx => by
    have hil := hi i (.head _)
    have ha : la[i]? = some la[i] := List.getElem?_eq_getElem hil
    have hg : la.getD i 0 = la[i] := by simp [List.getD, ha]
    rw [List.map_cons, hg] at hr
    subst hr
    obtain _ | ⟨hx1, hx⟩ := hx
    rename_i x xs
    refine wr_all hn (ids := is) (rem := is.map fun i => la.getD i 0) (fun j hj => hi j (.tail _ hj)) rfl ?_ hx
    refine h.setAt hn ha (fun _ => hx1) fun y c hy r hr => r fun q => ?_
    rcases List.mem_cons.mp q with q | q
    · exact hy q
    · exact hr q
theorem idx_get : ∀ {ids : List Nat} {i : Nat}, i ∈ ids → ids[ids.idxOf i]? = some i
  | x :: r, i, h => by
    rw [List.idxOf_cons]
    by_cases e : x = i
    · simp [e]
    · have : i ∈ r := by
        rcases List.mem_cons.mp h with q | q
        · exact absurd q.symm e
        · exact q
      have e' : (x == i) = false := by simpa using e
      rw [e']
      exact idx_get this
section
variable {κ : K} {c : Kx} {σ σ₁ σ₂ : Sg} {h : Heap} {G : Gh}
theorem Rep.hand {ids : List Nat} (R : Rep κ c σ h G) (hi : ∀ i ∈ ids, i < σ.l.length) (hid : ids.Nodup) :
    ∃ Gc : Gh, Gc.ls = G.ls ∧ Gc.ob = G.ob ∧ Gc.nw = G.nw ∧ Lr κ.X c.mg Gc (sel σ.l ids) [] ∧ (∀ a u, a.plain ids = true → VRel κ.X c.mg G a u → VRel κ.X c.mg Gc (ren ids a) u) ∧
      ∀ G' ls', Kp [] Gc G' → All2 (fun a x => (a, x) ∈ G'.ls) G'.la ls' → G'.la.Nodup → ∃ G'' : Gh, G''.ls = G'.ls ∧ G''.ob = G'.ob ∧ G''.nw = G'.nw ∧ Kp [] G G'' ∧ c.lm G'' = c.lm G ∧
        (∀ v u, v.noOth = true → VRel κ.X c.mg G' v u → VRel κ.X c.mg G'' (bck ids σ.l.length v) u) ∧ ∀ h', St c.B c.L h' (c.lm G) G'.ls G'.ob G'.nw → Rep κ c ⟨σ.v, wr σ.l ids ls', σ.o⟩ h' G'' := by
  have hll := R.lr.l.len
  have hlt : ∀ i ∈ ids, i < G.la.length := fun i h => by rw [hll]; exact hi i h
  have hget : ∀ i ∈ ids, G.la[i]? = some (G.la.getD i 0) := fun i h => by
    have := hlt i h
    simp [List.getD, List.getElem?_eq_getElem this]
  obtain ⟨lc, hlc⟩ : ∃ lc, lc = ids.map fun i => G.la.getD i 0 := ⟨_, rfl⟩
  have hlcl : lc.length = ids.length := by rw [hlc]; simp
  have hsub : ∀ a ∈ lc, a ∈ G.la := fun a ha => by
    rw [hlc] at ha
    obtain ⟨i, hi', rfl⟩ := List.mem_map.mp ha
    exact List.mem_of_getElem? (hget i hi')
  have hlcn : lc.Nodup := by
    rw [hlc]
    refine List.Pairwise.map _ ?_ ((List.pairwise_iff_forall_sublist.mpr fun {a b} s => ?_) : ids.Pairwise fun a b => a ∈ ids ∧ b ∈ ids ∧ a ≠ b)
    · rintro a b ⟨ha, hb, hab⟩ e
      have e1 := hget a ha
      have e2 := hget b hb
      rw [← e] at e2
      obtain ⟨x1, y1⟩ := List.getElem?_eq_some_iff.mp e1
      obtain ⟨x2, y2⟩ := List.getElem?_eq_some_iff.mp e2
      rcases Nat.lt_trichotomy a b with q | q | q
      · exact absurd (y1.trans y2.symm) (List.pairwise_iff_getElem.mp R.lr.ln a b x1 x2 q)
      · exact hab q
      · exact absurd (y2.trans y1.symm) (List.pairwise_iff_getElem.mp R.lr.ln b a x2 x1 q)
    · exact ⟨s.subset (.head _), s.subset (.tail _ (.head _)), List.pairwise_iff_forall_sublist.mp hid s⟩
  refine ⟨⟨G.m, G.ls, G.ob, G.nw, lc, []⟩, rfl, rfl, rfl, ⟨?_, .nil, hlcn, List.nodup_nil⟩, fun a u hp hv => ?_, fun G' ls' kp hl hn => ?_⟩
  · rw [hlc]; exact R.lr.l.refl_map hi
  · cases a with
    | lst i =>
      obtain ⟨b, e, q⟩ := hv
      have hmem : i ∈ ids := by simpa [AV.plain] using hp
      refine ⟨b, ?_, q⟩
      show lc[ids.idxOf i]? = some b
      rw [hlc, List.getElem?_map, idx_get hmem]
      simp only [Option.map_some, List.getD, e, Option.getD_some]
    | oth i => cases hp
    | _ => exact hv
  · obtain ⟨new, hnew⟩ := kp.la
    have hnew : lc ++ new = G'.la := hnew
    have hnn : (lc ++ new).Nodup := hnew ▸ hn
    have hdis : ∀ y ∈ new, y ∉ G.la := fun y hy hy' => by
      by_cases hc : y ∈ lc
      · exact (List.nodup_append.mp hnn).2.2 y hc y hy rfl
      · obtain ⟨i, hi', e⟩ := List.getElem_of_mem hy'
        obtain ⟨x, _, hx⟩ := R.lr.l.get' (List.getElem?_eq_some_iff.mpr ⟨hi', e⟩)
        exact (kp.ls (y, x) hx hc (List.not_mem_nil)).2 (hnew ▸ List.mem_append_right _ hy)
    have kp2 : Kp [] G ⟨G.m, G'.ls, G'.ob, G'.nw, G.la ++ new, G.oa⟩ := by
      refine ⟨List.prefix_append _ _, List.prefix_refl _, kp.nw, fun e he hn' _ => ?_, fun p hp hn' _ => ⟨(kp.ob p hp (List.not_mem_nil) (List.not_mem_nil)).1, hn'⟩⟩
      obtain ⟨q1, q2⟩ := kp.ls e he (fun q => hn' (hsub _ q)) (List.not_mem_nil)
      refine ⟨q1, fun q => ?_⟩
      rcases List.mem_append.mp q with q | q
      · exact hn' q
      · exact q2 (hnew ▸ List.mem_append_right _ q)
    refine ⟨⟨G.m, G'.ls, G'.ob, G'.nw, G.la ++ new, G.oa⟩, rfl, rfl, rfl, kp2, rfl, fun v u hv hr => ?_, fun h' S' => ?_⟩
    · cases v with
      | lst j =>
        obtain ⟨b, e, q⟩ := hr
        rw [← hnew] at e
        refine ⟨b, ?_, q⟩
        show (G.la ++ new)[ids.getD j (σ.l.length + (j - ids.length))]? = some b
        by_cases hj : j < ids.length
        · have hm : ids[j] ∈ ids := List.getElem_mem hj
          rw [List.getElem?_append_left (by lia), hlc, List.getElem?_map, List.getElem?_eq_getElem hj] at e
          have e' : G.la.getD ids[j] 0 = b := by simpa using e
          rw [show ids.getD j (σ.l.length + (j - ids.length)) = ids[j] by simp [List.getD, List.getElem?_eq_getElem hj], List.getElem?_append_left (hlt _ hm), hget _ hm, e']
        · rw [List.getElem?_append_right (by lia), hlcl] at e
          rw [show ids.getD j (σ.l.length + (j - ids.length)) = G.la.length + (j - ids.length) by simp [List.getD, List.getElem?_eq_none (Nat.le_of_not_lt hj), hll], List.getElem?_append_right (by lia), Nat.add_sub_cancel_left]
          exact e
      | oth j => cases hv
      | el k d => exact hr
      | int x => exact hr
      | bool b => exact hr
      | none => exact hr
      | unb => exact hr
      | fn i => exact hr
      | val w => exact hr
      | lam _ _ _ => exact hr
    · refine R.re S' kp2 ⟨?_, R.lr.o.mono fun a x ⟨b, h1, h2⟩ => ⟨b, (kp.ob (a, b) h1 (List.not_mem_nil) (List.not_mem_nil)).1, h2.mono kp2.la kp2.oa kp2.nw⟩, ?_, R.lr.on⟩
      · refine wr_all (P := fun e => e ∈ G'.ls) R.lr.ln hlt hlc ?_ (hnew ▸ hl)
        exact R.lr.l.mono fun a x hx hn' => (kp.ls (a, x) hx hn' (List.not_mem_nil)).1
      · exact List.nodup_append.mpr ⟨R.lr.ln, (List.nodup_append.mp hnn).2.1, fun a ha b hb e => hdis b hb (e ▸ ha)⟩
theorem ev_call {f e : PySem.Expr} {es : List PySem.Expr} {p : Pos} {i q' : Nat} {as as' : List AV} {v v' : AV} {ls ls' l' : List LC} (ids : List Nat) (hf : Ev κ σ f (.ok (.fn i) σ₁)) (hj : i ∈ κ.X.js) (ha : El κ σ₁ (e :: es) (.ok as σ₂)) (hF : FnIs κ.X q' i as' ls [] (.ok v ls'))
    (e1 : as.map (ren ids) = as' := by rfl) (e2 : sel σ₂.l ids = ls := by rfl) (e3 : bck ids σ₂.l.length v = v' := by rfl) (e4 : wr σ₂.l ids ls' = l' := by rfl) (hq : q' ≤ κ.q := by exact Nat.le_refl _) (hi : (ids.all fun i => Nat.blt i σ₂.l.length) = true := by rfl) (hid : ids.Nodup := by decide) (hp : as.all (AV.plain ids) = true := by rfl) (hv : v.noOth = true := by rfl) (hhd : κ.fi.hd = true := by rfl)
    (hc : ∀ env, eval (.Call f (e :: es) [] p) env = (do callWith p (← eval f env) [] (backTo p (starEach (e :: es) env)) (backToKw p (keywordEach [] env))) := by intro _; rfl)
    (he : ∀ env, starEach (e :: es) env = (false, eval e env) :: starEach es env := by intro _; rfl) : Ev κ σ (.Call f (e :: es) [] p) (.ok v' ⟨σ₂.v, l', σ₂.o⟩) :=
  fun c _ _ _ R _ _ post => Call_ (hf.seq R post fun h₁ tk₁ G₁ u₁ R₁ _ V₁ post₁ => by
    have V₁ : u₁ = .ref (fa κ.X.P c.mg i) := V₁
    subst V₁ e1 e2 e3 e4
    obtain ⟨_, o, pm, code, doc, h2, h3, h4⟩ := R.gd.fn i hj
    refine callWith_def (o := o) h3 ((ha p).seq R₁ post₁ fun h₂ tk₂ G₂ us R₂ _ V₂ post₂ => ⟨R₂.st.fr.keep _ _ h2, ?_⟩) (he _)
    obtain ⟨Gc, g1, g2, g3, lr, hre, hback⟩ := R₂.hand (fun i h => Nat.le_of_ble_eq_true (List.all_eq_true.mp hi i h)) hid
    have hus : All2 (fun u a => VRel κ.X c.mg Gc a u) us (as.map (ren ids)) := by
      clear hF post₂ post₁
      have hp' := List.all_eq_true.mp hp
      clear hp ha
      induction V₂ with
      | nil => exact .nil
      | cons r1 _ ih => exact .cons (hre _ _ (hp' _ (.head _)) r1) (ih fun a h => hp' a (.tail _ h))
    refine hF c h₂ tk₂ (c.lm G₂) Gc ((R₂.cx hhd).le hq) (by rw [g1, g2, g3]; exact R₂.st) lr us hus _ _ fun h' tk' G' u S' K' hl hn hu => ?_
    obtain ⟨G'', q1, q2, q3, kp, _, hvb, hrep⟩ := hback G' ls' K' hl hn
    exact post₂ h' tk' G'' u (hrep h' S') kp.any (hvb v u hv hu)) (hc _)
end
end Mine
end
section
set_option genInjectivity false
namespace Mine
theorem for_once {prog : Program} {w : World} {A : Around} {s : Shared} {tgt : PySem.Expr} {it : Value} {body : List Stmt} {env : Env} {Rr : Result → Shared → Prop}
    (turn : wpAny (model prog w) A (pyNext it) (fun r s₁ => match r with
      | none => Rr (.ok .next) s₁
      | some v => wpAny (model prog w) A (assign tgt env v) (fun _ s₂ => wpAny (model prog w) A (execs body env) (fun f s₃ => match f with
          | .next | .cont => codeAny (model prog w) A (.forLoop tgt it body [] env) Rr s₃
          | .brk => Rr (.ok .next) s₃
          | .ret v => Rr (.ok (.ret v)) s₃) (notedBy (model prog w) A env fun e s' => Rr (.error e) s') s₂) (notedBy (model prog w) A env fun e s' => Rr (.error e) s') s₁) (notedBy (model prog w) A env fun e s' => Rr (.error e) s') s)
    (ht : ∀ v, letOwnedTupleGo tgt it v = pure ()) : codeAny (model prog w) A (.forLoop tgt it body [] env) Rr s := by
  refine codeAny_of_tree ?_
  show wpAny _ _ ((forTurn tgt it body [] env).onRaise _) _ _ s
  refine wpAny_noted ?_
  unfold forTurn
  refine wpAny_bind (wpAny_standAt (wpAny_bind (wpAny_onRaise (wpAny_mono turn (fun r s₁ h₁ => ?_) fun _ _ h' => wpAny_standAt h'))))
  cases r with
  | none => exact wpAny_pure ⟨rfl, codeAny_block (wpAny_execs_nil h₁)⟩
  | some v =>
    refine wpAny_bind (wpAny_of_eq (ht v) (wpAny_bind (wpAny_mono h₁ (fun _ s₂ h₂ => wpAny_bind (wpAny_mono h₂ (fun f s₃ h₃ => ?_) fun _ _ h' => h')) fun _ _ h' => h')))
    cases f with
    | next => exact wpAny_pure ⟨rfl, h₃⟩
    | cont => exact wpAny_pure ⟨rfl, h₃⟩
    | brk => exact wpAny_pure h₃
    | ret v => exact wpAny_pure h₃
theorem next_dead {prog : Program} {w : World} {A : Around} {E : Value → Shared → Prop} {s : Shared} {it : Addr} {o : Obj} {v : Value} {Q : Option Value → Shared → Prop} (hh : A.handled = none) (ho : s.heap.get? it = some o) (hc : o.cls = .type "list_iterator") (hd : o.data = .fields #[.none, v])
    (hQ : ∀ h', (∀ b o, s.heap.get? b = some o → h'.get? b = some o) → Q none { s with heap := h' }) : wpAny (model prog w) A (pyNext (.ref it)) Q E s := by
  have hT : s.TypeIs (.ref it) "list_iterator" := ⟨o, ho, hc⟩
  unfold pyNext
  refine wpAny_bind (wpAny_attempt (wpAny_callSpecial?_slot (name := Str.ofString "__next__") hT slot_listiter_next (wpAny_call_entry slot_listiter_next hT entry_listiter_next ?_ (args_listiter_next _))))
  show wpAny _ _ (field (.ref it) 0 >>= _) _ _ s
  refine wpAny_bind (wpAny_field ho hd (x := .none) rfl ?_)
  show wpAny _ _ (if (Value.none == Value.none) = true then _ else _) _ _ s
  rw [if_pos (by rfl)]
  refine wpAny_bind (wpAny_rule (wpAny_bind ?_))
  show wpAny _ _ (newExc (.type "StopIteration") [] >>= _) _ _ _
  refine wpAny_bind ?_
  simp only [newExc, newTuple]
  refine wpAny_bind (wpAny_newObj_type ?_ (by size_fits))
  refine wpAny_bind (m := firstArgMember _ _) (wpAny_of_eq (a := Value.none) (by first | rfl | (simp only [firstArgMember]; rfl)) ?_)
  refine wpAny_newObj_type ?_ (by size_fits)
  simp only [raiseNew]
  refine wpAny_bind (wpAny_handled ?_)
  rw [show A.in1.handled = none from hh]
  refine wpAny_bind (wpAny_pure (wpAny_throw ?_))
  refine wpAny_bind (wpAny_isInstance (T := "StopIteration") (b := true) ⟨_, Heap.get?_push_size _ rfl, rfl⟩ isSubtype_stop ?_)
  exact wpAny_pure (hQ _ fun b o e => Heap.get?_push_of_some _ (Heap.get?_push_of_some _ e))
inductive Nx (σ : Sg) : AO → Option (AV × AO) → Prop
  | li {i j : Nat} {k : Kd} {ds : List D} {d : D} : σ.l[i]? = some (k, ds) → ds[j]? = some d → Nx σ (.li i j) (some (elv k d, .li i (j + 1)))
  | liE {i j : Nat} {k : Kd} {ds : List D} : σ.l[i]? = some (k, ds) → ds[j]? = none → Nx σ (.li i j) none
  | lo {i j : Nat} {vs : List AV} {v : AV} : σ.o[i]? = some (.rl vs) → vs[j]? = some v → Nx σ (.lo i j) (some (v, .lo i (j + 1)))
  | loE {i j : Nat} {vs : List AV} : σ.o[i]? = some (.rl vs) → vs[j]? = none → Nx σ (.lo i j) none
  | ri {x l c : Int} : 0 < l → Nx σ (.ri x l c) (some (.int x, .ri (x + c) (l - 1) c))
  | riE {x l c : Int} : l ≤ 0 → Nx σ (.ri x l c) none
  | lxE : Nx σ .lx none
section
variable {κ : K} {c : Kx} {σ σ₁ σ₂ σ₃ : Sg} {h h' : Heap} {tk : Nat} {G G' : Gh} {E : Value → Shared → Prop}
theorem elv_of {X : Pg} {mg : Str → Option Value} {k : Kd} {d : D} {u : Value} (h : RelIn G.nw k u d) : VRel X mg G (elv k d) u := by
  unfold elv
  split
  · obtain ⟨x, t, rfl, e⟩ := h
    cases e
    exact ⟨t, rfl⟩
  · exact h
theorem Rep.items {i : Nat} {k : Kd} {ds : List D} {a : Addr} (R : Rep κ c σ h G) (hi : σ.l[i]? = some (k, ds)) (ha : G.la[i]? = some a) : ∃ vs : List Value, h.IsList a vs.toArray ∧ All2 (RelIn G.nw k) vs ds := by
  obtain ⟨a', g, ha', U⟩ := R.at hi
  cases ha.symm.trans ha'
  obtain ⟨vs, n, h1, h2⟩ := R.st.isList U
  exact ⟨vs, PySem.IsL.isList (n := n) h1, h2⟩
theorem Rep.itemsO {i : Nat} {vs : List AV} {a : Addr} (R : Rep κ c σ h G) (hi : σ.o[i]? = some (.rl vs)) (ha : G.oa[i]? = some a) : ∃ us : List Value, h.IsList a us.toArray ∧ All2 (fun u v => VRel κ.X c.mg G v u) us vs := by
  obtain ⟨a', b, g, ha', U, us, n, rfl, hr⟩ := R.atO hi
  cases ha.symm.trans ha'
  exact ⟨us, PySem.IsL.isList (n := n) (R.st.getO U), hr⟩
theorem nx_item {it it' : AO} {v : AV} {I : Addr} {o : Obj} {g : Obj → Led} {Q : Option Value → Shared → Prop} (R : Rep κ c σ h G) (nx : Nx σ it (some (v, it'))) (U : AtO I o G.ob g) (ho : ORel κ.X c.mg G it o)
    (q : ∀ h' tk' o' u, St c.B c.L h' (c.lm G) G.ls (g o') G.nw → ORel κ.X c.mg G it' o' → VRel κ.X c.mg G v u → Q (some u) (mk c.s h' tk')) : wpAny (model c.prog c.w) c.A (pyNext (.ref I)) Q E (mk c.s h tk) := by
  cases nx with
  | @li i j k ds d h1 h2 =>
    obtain ⟨a, ha, hI⟩ := ho
    obtain ⟨vs, hl, hr⟩ := R.items h1 ha
    obtain ⟨u, hu, hr⟩ := hr.get h2
    refine wpAny_pyNext_list_item (s := mk c.s h tk) ⟨o, R.st.getO U, hI.1, hI.2⟩ hl (by simpa using hu) fun h₁ hit₁ hs₁ => ?_
    obtain ⟨o1, g1, g2, g3⟩ := hit₁
    exact q h₁ tk o1 u (R.st.turned U hs₁ g1) ⟨a, ha, g2, g3⟩ (elv_of hr)
  | @lo i j vs v h1 h2 =>
    obtain ⟨a, ha, hI⟩ := ho
    obtain ⟨us, hl, hr⟩ := R.itemsO h1 ha
    obtain ⟨u, hu, hr⟩ := hr.get h2
    refine wpAny_pyNext_list_item (s := mk c.s h tk) ⟨o, R.st.getO U, hI.1, hI.2⟩ hl (by simpa using hu) fun h₁ hit₁ hs₁ => ?_
    obtain ⟨o1, g1, g2, g3⟩ := hit₁
    exact q h₁ tk o1 u (R.st.turned U hs₁ g1) ⟨a, ha, g2, g3⟩ hr
  | @ri x l cc h1 =>
    have ho : o = riObj x l cc := ho
    subst ho
    exact wpAny_pyNext_range_item (s := mk c.s h tk) (R.st.getO U) h1 fun h₁ hit₁ hs₁ => q h₁ _ _ _ (R.st.turned U hs₁ hit₁) rfl ⟨_, rfl⟩
theorem nx_none {it : AO} {I : Addr} {o : Obj} {g : Obj → Led} {Q : Option Value → Shared → Prop} (hh : κ.fi.hd = true) (R : Rep κ c σ h G) (nx : Nx σ it none) (U : AtO I o G.ob g) (ho : ORel κ.X c.mg G it o)
    (q : ∀ h', Heap.ExtBut I h h' → Q none (mk c.s h' tk)) : wpAny (model c.prog c.w) c.A (pyNext (.ref I)) Q E (mk c.s h tk) := by
  cases nx with
  | @liE i j k ds h1 h2 =>
    obtain ⟨a, ha, hI⟩ := ho
    obtain ⟨vs, hl, hr⟩ := R.items h1 ha
    refine wpAny_pyNext_list_end (s := mk c.s h tk) (R.handled hh) ⟨o, R.st.getO U, hI.1, hI.2⟩ hl ?_ q
    have := hr.len
    have := List.getElem?_eq_none_iff.mp h2
    simpa using by lia
  | @loE i j vs h1 h2 =>
    obtain ⟨a, ha, hI⟩ := ho
    obtain ⟨us, hl, hr⟩ := R.itemsO h1 ha
    refine wpAny_pyNext_list_end (s := mk c.s h tk) (R.handled hh) ⟨o, R.st.getO U, hI.1, hI.2⟩ hl ?_ q
    have := hr.len
    have := List.getElem?_eq_none_iff.mp h2
    simpa using by lia
  | @riE x l cc h1 =>
    have ho : o = riObj x l cc := ho
    subst ho
    exact wpAny_pyNext_range_end (s := mk c.s h tk) (R.handled hh) (R.st.getO U) h1 q
  | lxE =>
    obtain ⟨h1, v, h2⟩ := ho
    exact next_dead (s := mk c.s h tk) (R.handled hh) (R.st.getO U) h1 h2 fun h' hk => q h' fun b o _ e => hk b o e
noncomputable def Led.rm (I : Addr) (ob : Led) : Led := ob.filter fun p => p.1 ≠ I
theorem St.rm {B : Base} {L I : Addr} {m : Str → Option Value} {ls : List Ent} {ob nw : Led} {o : Obj} {h₁ : Heap} (S : St B L h m ls ob nw) (hI : (I, o) ∈ ob) (he : Heap.ExtBut I h h₁) : St B L h₁ m ls (Led.rm I ob) nw := by
  obtain ⟨rs, fs, hr, hf, N⟩ := S.led
  have hn := S.apart
  have hIa : I ∈ adr ls ob B := List.mem_append_right _ (List.mem_append_left _ (List.mem_map_of_mem (f := (·.1)) hI))
  have hLI : I ≠ L := (S.newsO (I, _) hI).2.1
  have hI0 : B.hB.get? I = none := (S.newsO (I, _) hI).2.2
  obtain ⟨oL, a1, a2, hoL, a3⟩ := S.fr.ns
  have hnd := List.nodup_append.mp hn.1
  have hnd2 := List.nodup_append.mp hnd.2.1
  have hIo : I ∈ ob.map (·.1) := List.mem_map_of_mem (f := (·.1)) hI
  have sub : (adr ls (Led.rm I ob) B).Sublist (adr ls ob B) := List.Sublist.append_left (List.Sublist.append_right (List.Sublist.map _ List.filter_sublist) _) _
  refine ⟨⟨⟨oL, a1, a2, he L oL hLI.symm hoL, a3⟩, fun b o e => he b o (fun q => by rw [q, hI0] at e; cases e) (S.fr.keep b o e), S.fr.above⟩, ⟨rs, fs, hr, hf, fun p hp => ?_⟩, hn.1.sublist sub, fun a ha p hp => hn.2 a (sub.subset ha) p hp⟩
  have hp' : p ∈ rs ++ (ob ++ (fs ++ nw)) ∧ p.1 ≠ I := by
    rcases List.mem_append.mp hp with hp | hp
    · refine ⟨List.mem_append_left _ hp, fun q => ?_⟩
      exact hnd.2.2 p.1 (Raw.addrs hr ▸ List.mem_map_of_mem (f := (·.1)) hp) I (List.mem_append_left _ hIo) q
    · rcases List.mem_append.mp hp with hp | hp
      · have := List.mem_filter.mp hp
        exact ⟨List.mem_append_right _ (List.mem_append_left _ this.1), by simpa using this.2⟩
      · rcases List.mem_append.mp hp with hq | hq
        · exact ⟨List.mem_append_right _ (List.mem_append_right _ hp), fun q => hnd2.2.2 I hIo p.1 (FUp.addrs hf ▸ List.mem_map_of_mem (f := (·.1)) hq) q.symm⟩
        · exact ⟨List.mem_append_right _ (List.mem_append_right _ hp), hn.2 I hIa p hq⟩
  exact ⟨he p.1 p.2 hp'.2 (N p hp'.1).1, (N p hp'.1).2⟩
theorem mem_rm {I : Addr} {ob : Led} {p : Addr × Obj} (hp : p ∈ ob) (hn : p.1 ≠ I) : p ∈ Led.rm I ob := List.mem_filter.mpr ⟨hp, by simpa using hn⟩
noncomputable def Fl (κ : K) (σ : Sg) (tgt : PySem.Expr) (it : AO) (body : List Stmt) (r : Rs AF) : Prop :=
  ∀ c h tk G I o, Rep κ c σ h G → (I, o) ∈ G.ob → I ∉ G.oa → I ∉ c.ex → ORel κ.X c.mg G it o → ∀ Rr, PostC κ (I :: c.ex) c G r Rr → codeAny (model c.prog c.w) c.A (.forLoop tgt (.ref I) body [] c.env) Rr (mk c.s h tk)
theorem Rep.hid {I : Addr} {ob' : Led} (R : Rep κ c σ h G) (hI : I ∉ G.oa) (hex : I ∉ c.ex) (hob : ∀ p ∈ G.ob, p.1 ≠ I → p ∈ ob') (S : St c.B c.L h' (c.lm G) G.ls ob' G.nw) : Rep κ c σ h' { G with ob := ob' } ∧ Kp [I] G { G with ob := ob' } := by
  have kp : Kp [I] G { G with ob := ob' } := ⟨List.prefix_refl _, List.prefix_refl _, fun _ h => h, fun _ h h' _ => ⟨h, h'⟩, fun p hp hn hx => ⟨hob p hp fun q => hx (q ▸ .head _), hn⟩⟩
  refine ⟨R.reX (la' := G.la) (oa' := G.oa) S kp (fun y hy q => hex (List.mem_singleton.mp q ▸ hy)) ⟨R.lr.l, ?_, R.lr.ln, R.lr.on⟩, kp⟩
  have key : ∀ {as : List Addr} {bs : List AO}, All2 (fun a x => ∃ b, (a, b) ∈ G.ob ∧ ORel κ.X c.mg G x b) as bs → (∀ a ∈ as, a ≠ I) → All2 (fun a x => ∃ b, (a, b) ∈ ob' ∧ ORel κ.X c.mg { G with ob := ob' } x b) as bs := by
    intro as bs hh
    induction hh with
    | nil => intro _; exact .nil
    | cons r1 _ ih =>
      intro hne
      obtain ⟨b, hb, hr⟩ := r1
      exact .cons ⟨b, hob _ hb (hne _ (.head _)), hr.mono kp.la kp.oa kp.nw⟩ (ih fun a ha => hne a (.tail _ ha))
  exact key R.lr.o fun a ha q => hI (q ▸ ha)
section
variable {tgt : PySem.Expr} {it it' : AO} {body : List Stmt} {v : AV} {r : Rs AF}
theorem fl_end (nx : Nx σ it none) (hh : κ.fi.hd = true := by rfl) (ht : ∀ it v, letOwnedTupleGo tgt it v = pure () := by intro _ _; rfl) : Fl κ σ tgt it body (.ok .next σ) := by
  intro c h tk G I o R hm hI hex ho Rr post
  obtain ⟨g, U⟩ := AtO.ofMem hm
  refine for_once (nx_none hh R nx U ho fun h' he => ?_) (ht _)
  obtain ⟨R', K'⟩ := R.hid hI hex (fun p hp hn => mem_rm hp hn) (R.st.rm hm he)
  exact post h' tk _ _ R' (K'.wk fun z hz => List.mem_singleton.mp hz ▸ .head _) rfl
theorem Fl.turn {Q : Unit → Shared → Prop} (nx : Nx σ it (some (v, it'))) (ha : As κ σ tgt v σ₁) {I : Addr} {o : Obj} (R : Rep κ c σ h G) (hm : (I, o) ∈ G.ob) (hI : I ∉ G.oa) (hex : I ∉ c.ex) (ho : ORel κ.X c.mg G it o)
    {QQ : Option Value → Shared → Prop} (hQ : ∀ u s, wpAny (model c.prog c.w) c.A (assign tgt c.env u) Q E s → QQ (some u) s)
    (q : ∀ h' tk' G' o', Rep κ c σ₁ h' G' → Kp (I :: c.ex) G G' → (I, o') ∈ G'.ob → I ∉ G'.oa → ORel κ.X c.mg G' it' o' → Q () (mk c.s h' tk')) : wpAny (model c.prog c.w) c.A (pyNext (.ref I)) QQ E (mk c.s h tk) := by
  obtain ⟨g, U⟩ := AtO.ofMem hm
  refine nx_item R nx U ho fun h' tk' o' u S' ho' hv => hQ u _ ?_
  obtain ⟨R', K'⟩ := R.hid hI hex (fun p hp hn => U.others (o' := o') hp hn) S'
  refine ha c h' tk' _ R' u (K'.v hv) _ _ fun h₂ tk₂ G₂ R₂ K₂ => ?_
  obtain ⟨z1, z2⟩ := K₂.ob (I, o') (U.again o').mem hI hex
  exact q h₂ tk₂ G₂ o' R₂ ((K'.wk fun z hz => List.mem_singleton.mp hz ▸ .head _).trans (K₂.wk fun z hz => .tail _ hz)) z1 z2 ((ho'.mono K'.la K'.oa K'.nw).mono K₂.la K₂.oa K₂.nw)
theorem fl_step (nx : Nx σ it (some (v, it'))) (ha : As κ σ tgt v σ₁) (hb : Es κ σ₁ body (.ok .next σ₂)) (k : Fl κ σ₂ tgt it' body r) (ht : ∀ it v, letOwnedTupleGo tgt it v = pure () := by intro _ _; rfl) : Fl κ σ tgt it body r := by
  intro c h tk G I o R hm hI hex ho Rr post
  refine for_once (Fl.turn nx ha R hm hI hex ho (fun _ _ h => h) fun h₁ tk₁ G₁ o₁ R₁ K₁ m₁ n₁ r₁ => ?_) (ht _)
  refine hb c h₁ tk₁ G₁ R₁ _ _ fun h₂ tk₂ G₂ u₂ R₂ K₂ V₂ => ?_
  have V₂ : u₂ = .next := V₂
  subst V₂
  obtain ⟨z1, z2⟩ := K₂.ob (I, o₁) m₁ n₁ hex
  exact k c h₂ tk₂ G₂ I o₁ R₂ z1 z2 hex (r₁.mono K₂.la K₂.oa K₂.nw) Rr (post.move (K₁.trans (K₂.wk fun z hz => .tail _ hz)))
end
noncomputable def Ite (κ : K) (σ : Sg) (e : PySem.Expr) (it : AO) (σ' : Sg) : Prop :=
  ∀ c h tk G, Rep κ c σ h G → ∀ Q E, (∀ h' tk' G' I o, Rep κ c σ' h' G' → Kp c.ex G G' → (I, o) ∈ G'.ob → I ∉ G'.oa → I ∉ c.ex → (∀ p ∈ G.ob, p.1 ≠ I) → ORel κ.X c.mg G' it o → Q (.ref I) (mk c.s h' tk')) →
    wpAny (model c.prog c.w) c.A (eval e c.env) (fun x s₁ => wpAny (model c.prog c.w) c.A (pyIter x) Q E s₁) E (mk c.s h tk)
theorem ex_for {tgt e : PySem.Expr} {body : List Stmt} {p : Pos} {it : AO} {f : AF} (hi : Ite κ σ e it σ₁) (hl : Fl κ σ₁ tgt it body (.ok f σ₂)) (hs : ∀ env x, foldedSetIterable e env x = pure x := by intro _ _; rfl) : Ex κ σ (.For tgt e body [] p) (.ok f σ₂) := by
  intro c h tk G R Q E post
  refine wpAny_For (hi c h tk G R _ _ fun h₁ tk₁ G₁ I o R₁ K₁ m₁ n₁ hex hne ho => ?_) (hs _)
  refine hl c h₁ tk₁ G₁ I o R₁ m₁ n₁ hex ho _ fun h₂ tk₂ G₂ u R₂ K₂ V₂ => post h₂ tk₂ G₂ u R₂ ?_ V₂
  refine ⟨K₁.la.trans K₂.la, K₁.oa.trans K₂.oa, fun p h => K₂.nw p (K₁.nw p h), fun e h h' h'' => ?_, fun p h h' h'' => ?_⟩
  · obtain ⟨q1, q2⟩ := K₁.ls e h h' h''
    refine K₂.ls e q1 q2 fun q => ?_
    rcases List.mem_cons.mp q with q | q
    · obtain ⟨rs, fs, hr, _, _⟩ := R₁.st.led
      have hnd := List.nodup_append.mp R₁.st.apart.1
      exact hnd.2.2 e.1 (List.mem_map_of_mem (f := (·.1)) q1) I (List.mem_append_left _ (List.mem_map_of_mem (f := (·.1)) m₁)) q
    · exact h'' q
  · obtain ⟨q1, q2⟩ := K₁.ob p h h' h''
    refine K₂.ob p q1 q2 fun q => ?_
    rcases List.mem_cons.mp q with q | q
    · exact hne p h q
    · exact h'' q
theorem Rep.hidNew {I : Addr} {o : Obj} (R : Rep κ c σ h G) (S : St c.B c.L h' (c.lm G) G.ls ((I, o) :: G.ob) G.nw) : Rep κ c σ h' { G with ob := (I, o) :: G.ob } ∧ Kp [] G { G with ob := (I, o) :: G.ob } ∧ I ∉ G.oa ∧ I ∉ c.ex ∧ ∀ p ∈ G.ob, p.1 ≠ I := by
  have hne : ∀ p ∈ G.ob, p.1 ≠ I := fun p hp => S.newO_ne hp
  have kp : Kp [] G { G with ob := (I, o) :: G.ob } := ⟨List.prefix_refl _, List.prefix_refl _, fun _ h => h, fun _ h h' _ => ⟨h, h'⟩, fun p hp hn hx => ⟨.tail _ hp, hn⟩⟩
  refine ⟨R.re (la' := G.la) (oa' := G.oa) S kp ⟨R.lr.l, R.lr.o.mono fun _ _ ⟨b, h1, h2⟩ => ⟨b, .tail _ h1, h2.mono kp.la kp.oa kp.nw⟩, R.lr.ln, R.lr.on⟩, kp, fun q => ?_, fun q => ?_, hne⟩
  · obtain ⟨i, hi, e⟩ := List.getElem_of_mem q
    obtain ⟨y, _, b, h1, _⟩ := R.lr.o.get' (List.getElem?_eq_some_iff.mpr ⟨hi, e⟩)
    exact hne _ h1 rfl
  · unfold Kx.ex at q
    split at q
    · rename_i m hm
      obtain ⟨oC, h1, _⟩ := R.cp m hm
      exact hne _ h1 (List.mem_singleton.mp q).symm
    · cases q
theorem Ite.fresh {I : Addr} (R' : Rep κ c σ₁ h' G') (k : Kp c.ex G G') (hn : ∀ p ∈ G'.ob, p.1 ≠ I) : ∀ p ∈ G.ob, p.1 ≠ I := by
  intro p hp q
  by_cases h1 : p.1 ∈ G.oa
  · obtain ⟨i, hi, e⟩ := List.getElem_of_mem h1
    obtain ⟨y, _, b, h2, _⟩ := R'.lr.o.get' (pre_get k.oa (List.getElem?_eq_some_iff.mpr ⟨hi, e⟩))
    exact hn _ h2 q
  · by_cases h2 : p.1 ∈ c.ex
    · unfold Kx.ex at h2
      split at h2
      · rename_i m hm
        obtain ⟨oC, h3, _⟩ := R'.cp m hm
        exact hn _ h3 ((List.mem_singleton.mp h2).symm.trans q)
      · cases h2
    · exact hn _ (k.ob p hp h1 h2).1 q
theorem Rep.hidPush {o : Obj} (R : Rep κ c σ h G) (hf : o.isFreed = false) : Rep κ c σ (h.push o) { G with ob := (h.objs.size, o) :: G.ob } ∧ Kp [] G { G with ob := (h.objs.size, o) :: G.ob } ∧ h.objs.size ∉ G.oa ∧ h.objs.size ∉ c.ex ∧ ∀ p ∈ G.ob, p.1 ≠ h.objs.size :=
  R.hidNew (R.st.addO (fun _ _ e => Heap.get?_push_of_some _ e) (Nat.le_refl _) (Heap.get?_push_size _ hf))
theorem ite_lst {e : PySem.Expr} {i : Nat} {x : LC} (h : Ev κ σ e (.ok (.lst i) σ₁)) (hi : σ₁.l[i]? = some x) : Ite κ σ e (.li i 0) σ₁ := by
  intro c hp tk G R Q E q
  refine h c hp tk G R _ _ fun h₁ tk₁ G₁ u R₁ K₁ ⟨a, ha, hu⟩ => ?_
  subst hu
  obtain ⟨a', g, ha', U⟩ := R₁.at (k := x.1) (ds := x.2) hi
  cases ha.symm.trans ha'
  obtain ⟨vs, n, hl, _⟩ := R₁.st.isList U
  refine wpAny_pyIter_list (s := mk c.s h₁ tk₁) (PySem.IsL.isList (n := n) hl) ?_
  exact q (h₁.push _) tk₁ _ h₁.objs.size _ (R₁.hidPush rfl).1 (K₁.trans (R₁.hidPush rfl).2.1.any) (.head _) (R₁.hidPush (o := obO) rfl).2.2.1 (R₁.hidPush (o := obO) rfl).2.2.2.1 (Ite.fresh R₁ K₁ (R₁.hidPush (o := obO) rfl).2.2.2.2) ⟨a, ha, rfl, rfl⟩
theorem ite_rl {e : PySem.Expr} {i : Nat} {vs : List AV} (h : Ev κ σ e (.ok (.oth i) σ₁)) (hi : σ₁.o[i]? = some (.rl vs)) : Ite κ σ e (.lo i 0) σ₁ := by
  intro c hp tk G R Q E q
  refine h c hp tk G R _ _ fun h₁ tk₁ G₁ u R₁ K₁ ⟨a, ha, hu⟩ => ?_
  subst hu
  obtain ⟨us, hl, _⟩ := R₁.itemsO hi ha
  refine wpAny_pyIter_list (s := mk c.s h₁ tk₁) hl ?_
  exact q (h₁.push _) tk₁ _ h₁.objs.size _ (R₁.hidPush rfl).1 (K₁.trans (R₁.hidPush rfl).2.1.any) (.head _) (R₁.hidPush (o := obO) rfl).2.2.1 (R₁.hidPush (o := obO) rfl).2.2.2.1 (Ite.fresh R₁ K₁ (R₁.hidPush (o := obO) rfl).2.2.2.2) ⟨a, ha, rfl, rfl⟩
theorem ite_rg {e : PySem.Expr} {i n : Nat} {a b : Int} (h : Ev κ σ e (.ok (.oth i) σ₁)) (hi : σ₁.o[i]? = some (.rg a b 1)) (hs : Builtin.Range.small a b 1 = true) (hn : Builtin.Range.rangeSize a b 1 = (n : Int)) : Ite κ σ e (.ri a n 1) σ₁ := by
  intro c hp tk G R Q E q
  refine h c hp tk G R _ _ fun h₁ tk₁ G₁ u R₁ K₁ ⟨x, ha, hu⟩ => ?_
  subst hu
  obtain ⟨x', o, g, hx', U, t, u, v, rfl⟩ := R₁.atO hi
  cases ha.symm.trans hx'
  refine wpAny_pyIter_range (s := mk c.s h₁ tk₁) (R₁.st.getO U) hs ?_
  rw [hn]
  exact q (h₁.push _) tk₁ _ h₁.objs.size _ (R₁.hidPush rfl).1 (K₁.trans (R₁.hidPush rfl).2.1.any) (.head _) (R₁.hidPush (o := obO) rfl).2.2.1 (R₁.hidPush (o := obO) rfl).2.2.2.1 (Ite.fresh R₁ K₁ (R₁.hidPush (o := obO) rfl).2.2.2.2) rfl
theorem ite_rev {f e : PySem.Expr} {p : Pos} {i n : Nat} (hf : Ev κ σ f (.ok (.val (.type "reversed")) σ₁)) (ha : El κ σ₁ [e] (.ok [.oth i] σ₂)) (hi : σ₂.o[i]? = some (.rg 0 n 1)) (hn : n < 1000000)
    (hc : ∀ env, eval (.Call f [e] [] p) env = (do callWith p (← eval f env) [] (backTo p (starEach [e] env)) (backToKw p (keywordEach [] env))) := by intro _; rfl)
    (he : ∀ env, starEach [e] env = (false, eval e env) :: starEach [] env := by intro _; rfl) : Ite κ σ (.Call f [e] [] p) (.ri ((n : Int) - 1) n (-1)) σ₂ := by
  intro c hp tk G R Q E q
  refine Call_ (hf c hp tk G R _ _ fun h₁ tk₁ G₁ u₁ R₁ K₁ V₁ => ?_) (hc _)
  have V₁ : u₁ = .type "reversed" := V₁
  subst V₁
  refine Pv.callWith_type1 (ha p c h₁ tk₁ G₁ R₁ _ _ fun h₂ tk₂ G₂ us R₂ K₂ V₂ => ?_) (he _) rfl
  obtain _ | ⟨⟨x, hx, hu⟩, V₂⟩ := V₂
  cases V₂
  subst hu
  obtain ⟨x', o, g, hx', U, t, u, v, rfl⟩ := R₂.atO hi
  cases hx.symm.trans hx'
  refine call_reversed_range (s := mk c.s h₂ tk₂) (R₂.st.getO U) (Int.natCast_nonneg n) (by have := hn; lia) ?_
  refine wpAny_pyIter_rangeiter (s := mk c.s (h₂.push (riObj ((n : Int) - 1) n (-1))) tk₂) ((R₂.hidPush (o := riObj ((n : Int) - 1) n (-1)) rfl).1.st.getO .head) ?_
  exact q (h₂.push _) tk₂ _ h₂.objs.size _ (R₂.hidPush rfl).1 ((K₁.trans K₂).trans (R₂.hidPush rfl).2.1.any) (.head _) (R₂.hidPush (o := obO) rfl).2.2.1 (R₂.hidPush (o := obO) rfl).2.2.2.1 (Ite.fresh R₂ (K₁.trans K₂) (R₂.hidPush (o := obO) rfl).2.2.2.2) rfl
end
end Mine
end
section
set_option genInjectivity false
namespace Mine
section
variable {X : Pg} {mg mb : Str → Option Value} {prog : Program} {w : World} {A : Around} {E : Value → Shared → Prop} {s : Shared} {h : Heap} {tk : Nat} {B : Base} {L : Addr} {m : Str → Option Value} {ls : List Ent} {ob nw : Led}
theorem St.putO {a : Addr} {o : Obj} (S : St B L h m ls ob nw) (ho : h.get? a = some o) (hL : a ≠ L) (hB : B.hB.get? a = none) (hadr : a ∉ adr ls ob B) (hnw : ∀ p ∈ nw, p.1 ≠ a) : St B L h m ls ((a, o) :: ob) nw := by
  obtain ⟨rs, fs, hr, hf, N⟩ := S.led
  have hp1 : (adr ls ((a, o) :: ob) B).Perm (a :: adr ls ob B) := by unfold adr; exact List.perm_middle
  refine ⟨S.fr, ⟨rs, fs, hr, hf, fun p hp => ?_⟩, hp1.nodup_iff.mpr (List.nodup_cons.mpr ⟨hadr, S.apart.1⟩), fun b hb p hp => ?_⟩
  · rcases List.mem_append.mp hp with hp | hp
    · exact N p (List.mem_append_left _ hp)
    · rcases List.mem_cons.mp hp with rfl | hp
      · exact ⟨ho, hL, hB⟩
      · exact N p (List.mem_append_right _ hp)
  · rcases List.mem_cons.mp (hp1.mem_iff.mp hb) with rfl | hb
    · exact hnw p hp
    · exact S.apart.2 b hb p hp
noncomputable def CellsAt (cl : List (Str × Addr)) (cm : Str → Option Value) (cob : Led) : Prop := All2 (fun p q => q.1 = p.2 ∧ q.2.data = .cell (cm p.1)) cl cob
theorem CellsAt.addrs {cl : List (Str × Addr)} {cm : Str → Option Value} {cob : Led} (h : CellsAt cl cm cob) : cob.map (·.1) = cl.map (·.2) := by
  unfold CellsAt at h
  induction h with
  | nil => rfl
  | cons h1 _ ih => simp [h1.1, ih]
theorem put_cells {cm : Str → Option Value} {n : Nat} (hn : ∀ a ∈ adr ls ob B, a < n) (hw : ∀ p ∈ nw, p.1 < n) (hL : L ≤ n) (hB : B.hB.objs.size ≤ n) (S : St B L h m ls ob nw) : ∀ {cl : List (Str × Addr)}, (∀ p ∈ cl, n < p.2 ∧ h.IsCell p.2 (cm p.1)) → cl.Pairwise (fun x y => x.2 ≠ y.2) →
    ∃ cob, CellsAt cl cm cob ∧ St B L h m ls (cob ++ ob) nw
  | [], _, _ => ⟨[], .nil, S⟩
  | (x, a) :: r, hc, hp => by
    have hp' := List.pairwise_cons.mp hp
    obtain ⟨cob, h1, S'⟩ := put_cells (cl := r) hn hw hL hB S (fun p hp => hc p (.tail _ hp)) hp'.2
    obtain ⟨h2, o, h3, h4⟩ := hc (x, a) (.head _)
    have h2 : n < a := h2
    refine ⟨(a, o) :: cob, .cons ⟨rfl, h4⟩ h1, S'.putO h3 (fun q => absurd (q ▸ hL) (Nat.not_le_of_gt h2)) (Heap.get?_none_of_le (Nat.le_trans hB (Nat.le_of_lt h2))) (fun q => ?_) fun p hp q => absurd (q ▸ hw p hp) (Nat.not_lt_of_gt h2)⟩
    unfold adr at q
    rcases List.mem_append.mp q with q | q
    · exact absurd (hn a (List.mem_append_left _ q)) (Nat.not_lt_of_gt h2)
    · rw [List.map_append, List.append_assoc] at q
      rcases List.mem_append.mp q with q | q
      · rw [h1.addrs] at q
        obtain ⟨y, hy, e⟩ := List.mem_map.mp q
        exact hp'.1 y hy e.symm
      · exact absurd (hn a (List.mem_append_right _ q)) (Nat.not_lt_of_gt h2)
theorem call_V {code : Value} {k i : Nat} {args : Args} {binds : List (Str × Value)} {dv : Value} {cf : Nat → List (Str × Addr)} {Q : Value → Shared → Prop} (C : Cx X mg mb A B L (k + 1)) (S : St B L h m ls ob nw)
    (hfd : ∃ o pm doc, h.get? (fa X.P mg i) = some o ∧ o.data = .func { Calls.docDef (nm X.P i) (pr X.P i) (bd X.P i) (sc X.P i) pm code doc with defaults := dv } ∧ h.CodeRec code (nm X.P i))
    (hbind : ∀ pm code doc, BindsTo (mk s h tk) { Calls.docDef (nm X.P i) (pr X.P i) (bd X.P i) (sc X.P i) pm code doc with defaults := dv } args binds)
    (hkind : ∀ n, ∀ x ∈ binds, (sc X.P i).names.lookup x.1 = some .local ∨ ((sc X.P i).names.lookup x.1 = some .cell ∧ ((cellsFrom n (sc X.P i).names []).lookup x.1).isSome = true))
    (hcells : ∀ n, cellsFrom n (sc X.P i).names [] = cf n) (hnd : ∀ n, ((cf n).map (·.1)).Nodup)
    (q : ∀ g L' h₁ tk cob, g.hB = B.hB → Cx X mg mb (A.deeper (envX (nm X.P i) (sc X.P i) L' (fa X.P mg i) code (cf (L' + 1)))) g L' k →
      CellsAt (cf (L' + 1)) (bindC (envX (nm X.P i) (sc X.P i) L' (fa X.P mg i) code (cf (L' + 1))).kindOf binds (fun _ => none)) cob →
      (∀ p ∈ ls, p.1 ∉ cob.map (·.1)) → (∀ p ∈ ob, p.1 ∉ cob.map (·.1)) →
      St g L' h₁ (bindL (envX (nm X.P i) (sc X.P i) L' (fa X.P mg i) code (cf (L' + 1))).kindOf binds fun _ => none) ls (cob ++ ob) nw →
      wpAny (model prog w) (A.deeper (envX (nm X.P i) (sc X.P i) L' (fa X.P mg i) code (cf (L' + 1)))) (execs (bd X.P i) (envX (nm X.P i) (sc X.P i) L' (fa X.P mg i) code (cf (L' + 1))))
        (fun fl s' => Back s B L m g L' Q (retOf fl) s') (fun _ _ => False) (mk s h₁ tk))
    (hco : (sc X.P i).isCoroutine = false) (hgen : (sc X.P i).isGenerator = false) (hk : (sc X.P i).kind = .function) :
    wpAny (model prog w) A (call (.ref (fa X.P mg i)) args.pos args.kw) Q E (mk s h tk) := by
  obtain ⟨env, outer, hA, hf, hke, hout⟩ := C.below
  obtain ⟨o, pm, doc, h2, h3, h4⟩ := hfd
  obtain ⟨rs, fs, hr, hfu, N⟩ := S.led
  obtain ⟨oL, es, ep, hgL, hdL, hskL, hmL⟩ := S.fr.ns
  have hd := C.depth
  have hu := C.units
  have hLlt : L < h.objs.size := Heap.lt_size hgL
  refine wpAny_call (codeAny_call_function (s := mk s h tk) (by show _ < 1000; lia) h2 h3 hco hgen rfl h4 (hbind pm code doc _ _ _ _ ?_))
  refine wpAny_newFunctionEnv_cells hk (hkind _) fun env' he s' x => ?_
  have he' : env' = envX (nm X.P i) (sc X.P i) h.objs.size (fa X.P mg i) code (cf (h.objs.size + 1)) := by
    rw [he]
    show newEnv _ _ _ (cellsFrom (h.objs.size + 1) (sc X.P i).names []) _ _ _ _ _ = _
    rw [hcells]; rfl
  clear he
  subst he'
  refine ⟨(C.gd.nolimit.keeps S.fr.keep).keeps x.toInCall.keep, codeAny_func ?_⟩
  obtain ⟨h₁, tk₁, rfl, _⟩ := x.done
  have hns' : h₁.Ns h.objs.size (bindL (envX (nm X.P i) (sc X.P i) h.objs.size (fa X.P mg i) code (cf (h.objs.size + 1))).kindOf binds fun _ => none) := x.toInCall.ns
  have hk₁' : ∀ b o, h.get? b = some o → h₁.get? b = some o := x.toInCall.keep
  have C' : Cx X mg mb (A.deeper (envX (nm X.P i) (sc X.P i) h.objs.size (fa X.P mg i) code (cf (h.objs.size + 1)))) ⟨B.hB, (L, oL) :: B.frs⟩ h.objs.size k :=
    ⟨C.gd, ⟨_, env :: outer, by show Option.map _ A.frames = _; rw [hA]; rfl, rfl, hk, .cons ⟨by rw [hke]; decide, hf, es, ep, hdL⟩ hout⟩, by show A.depth + 1 + k < 900; lia, by show A.units + 3 + 3 * k < 9000; lia, C.handled⟩
  have hp1 : (adr ls ob ⟨B.hB, (L, oL) :: B.frs⟩).Perm (L :: adr ls ob B) := by
    unfold adr
    exact (List.Perm.append_left _ List.perm_middle).trans List.perm_middle
  have S' : St ⟨B.hB, (L, oL) :: B.frs⟩ h.objs.size h₁ (bindL (envX (nm X.P i) (sc X.P i) h.objs.size (fa X.P mg i) code (cf (h.objs.size + 1))).kindOf binds fun _ => none) ls ob nw := by
    refine ⟨⟨hns', fun b o e => hk₁' b o (S.fr.keep b o e), Nat.le_trans S.fr.above (Nat.le_of_lt hLlt)⟩, ⟨rs, (L, oL) :: fs, hr, .cons ⟨rfl, oL.slots, rfl⟩ hfu, fun p hp => ?_⟩, ?_, ?_⟩
    · by_cases hpL : p = (L, oL)
      · subst hpL
        exact ⟨hk₁' _ _ hgL, Nat.ne_of_lt hLlt, Heap.get?_none_of_le S.fr.above⟩
      · have hp' : p ∈ rs ++ (ob ++ (fs ++ nw)) := by
          rcases List.mem_append.mp hp with hp | hp
          · exact List.mem_append_left _ hp
          · rcases List.mem_append.mp hp with hp | hp
            · exact List.mem_append_right _ (List.mem_append_left _ hp)
            · rcases List.mem_cons.mp hp with hp | hp
              · exact absurd hp hpL
              · exact List.mem_append_right _ (List.mem_append_right _ hp)
        exact ⟨hk₁' _ _ (N p hp').1, Nat.ne_of_lt (Heap.lt_size (N p hp').1), (N p hp').2.2⟩
    · exact hp1.nodup_iff.mpr (List.nodup_cons.mpr ⟨fun q => (S.low.1 L q).2 rfl, S.apart.1⟩)
    · intro b hb p hp
      rcases List.mem_cons.mp (hp1.mem_iff.mp hb) with rfl | hb
      · exact (S.news p hp).2.1
      · exact S.apart.2 b hb p hp
  have hlow : ∀ a ∈ adr ls ob ⟨B.hB, (L, oL) :: B.frs⟩, a < h.objs.size := fun a ha => by
    rcases List.mem_cons.mp (hp1.mem_iff.mp ha) with rfl | ha
    · exact hLlt
    · exact (S.low.1 a ha).1
  have hcl : ∀ p ∈ cf (h.objs.size + 1), h.objs.size < p.2 ∧ h₁.IsCell p.2 (bindC (envX (nm X.P i) (sc X.P i) h.objs.size (fa X.P mg i) code (cf (h.objs.size + 1))).kindOf binds (fun _ => none) p.1) :=
    fun p hp => ⟨x.above p.1 p.2 hp, x.cell p.1 p.2 (lookup_mem (hnd _) hp)⟩
  obtain ⟨cob, c1, S''⟩ := put_cells hlow (S.low.2) (Nat.le_refl _) (Nat.le_trans S.fr.above (Nat.le_of_lt hLlt)) S' hcl x.apart
  have hfresh : ∀ a ∈ cob.map (·.1), h.objs.size < a := fun a ha => by
    rw [c1.addrs] at ha
    obtain ⟨p, hp, rfl⟩ := List.mem_map.mp ha
    exact (hcl p hp).1
  refine wpAny_mono (q ⟨B.hB, (L, oL) :: B.frs⟩ h.objs.size h₁ tk₁ cob rfl C' c1 (fun p hp q => ?_) (fun p hp q => ?_) S'') (fun fl s' hb => ?_) fun e s' hr => hr.elim
  · exact absurd (hfresh _ q) (Nat.not_lt_of_gt (S.low.1 p.1 (List.mem_append_left _ (List.mem_map_of_mem (f := (·.1)) hp))).1)
  · exact absurd (hfresh _ q) (Nat.not_lt_of_gt (S.low.1 p.1 (List.mem_append_right _ (List.mem_append_left _ (List.mem_map_of_mem (f := (·.1)) hp)))).1)
  obtain ⟨h', tk', m', ls', ob', nw', rfl, S3, hq⟩ := hb
  exact hq (S3.back hdL hskL hmL S.fr.above)
end
end Mine
end
section
namespace Mine
section
variable {kf : Str → Option NameKind}
theorem bindL_none : ∀ {bs : List (Str × Value)} {m : Str → Option Value} {x : Str}, x ∉ bs.map (·.1) → bindL kf bs m x = m x
  | [], _, _, _ => rfl
  | (n, v) :: r, m, x, h => by
    have hx : x ≠ n := fun q => h (q ▸ .head _)
    rw [bindL, bindL_none fun q => h (.tail _ q)]
    split
    · exact if_neg hx
    · rfl
theorem bindL_get : ∀ {bs : List (Str × Value)} {m : Str → Option Value} {x : Str} {u : Value}, (bs.map (·.1)).Nodup → kf x = some .local → (x, u) ∈ bs → bindL kf bs m x = some u := by
  intro bs
  induction bs with
  | nil => intro m x u hn hk h; cases h
  | cons e r ih =>
    intro m x u hn hk h
    have hn' := List.nodup_cons.mp hn
    obtain ⟨n, v⟩ := e
    rw [bindL]
    rcases List.mem_cons.mp h with e | h
    · cases e
      rw [bindL_none hn'.1, if_pos hk]
      exact if_pos rfl
    · exact ih hn'.2 hk h
theorem bindC_none : ∀ {bs : List (Str × Value)} {m : Str → Option Value} {x : Str}, x ∉ bs.map (·.1) → bindC kf bs m x = m x
  | [], _, _, _ => rfl
  | (n, v) :: r, m, x, h => by
    have hx : x ≠ n := fun q => h (q ▸ .head _)
    rw [bindC, bindC_none fun q => h (.tail _ q)]
    split
    · rfl
    · exact if_neg hx
theorem bindC_get : ∀ {bs : List (Str × Value)} {m : Str → Option Value} {x : Str} {u : Value}, (bs.map (·.1)).Nodup → kf x ≠ some .local → (x, u) ∈ bs → bindC kf bs m x = some u := by
  intro bs
  induction bs with
  | nil => intro m x u hn hk h; cases h
  | cons e r ih =>
    intro m x u hn hk h
    have hn' := List.nodup_cons.mp hn
    obtain ⟨n, v⟩ := e
    rw [bindC]
    rcases List.mem_cons.mp h with e | h
    · cases e
      rw [bindC_none hn'.1, if_neg hk]
      exact if_pos rfl
    · exact ih hn'.2 hk h
end
noncomputable def AO.free : AO → Bool
  | .rl _ => false
  | .cell _ => false
  | .lo _ _ => false
  | _ => true
noncomputable def shO (n : Nat) : AV → AV
  | .oth j => .oth (n + j)
  | a => a
theorem ORel.free {X : Pg} {mg : Str → Option Value} {G G' : Gh} (h1 : G.la <+: G'.la) : ∀ {x : AO} {o : Obj}, x.free = true → ORel X mg G x o → ORel X mg G' x o := by
  intro x o hf h
  cases x with
  | li i j => obtain ⟨a, e, r⟩ := h; exact ⟨a, pre_get h1 e, r⟩
  | rl _ => cases hf
  | cell _ => cases hf
  | lo _ _ => cases hf
  | gone => exact h
  | ri _ _ _ => exact h
  | rg _ _ _ => exact h
  | obj => exact h
  | lx => exact h
theorem VRel.sh {X : Pg} {mg : Str → Option Value} {G G' : Gh} {cs : List Addr} (h1 : G'.la = G.la) (h2 : G'.oa = cs ++ G.oa) (h3 : G'.nw = G.nw) {a : AV} {u : Value} (h : VRel X mg G a u) : VRel X mg G' (shO cs.length a) u := by
  cases a with
  | oth j => obtain ⟨b, e, r⟩ := h; exact ⟨b, by rw [h2, List.getElem?_append_right (Nat.le_add_right _ _), Nat.add_sub_cancel_left]; exact e, r⟩
  | lst j => obtain ⟨b, e, r⟩ := h; exact ⟨b, by rw [h1]; exact e, r⟩
  | el k d => show RelIn G'.nw k u d; rw [h3]; exact h
  | unb => exact h
  | none => exact h
  | bool _ => exact h
  | int _ => exact h
  | fn _ => exact h
  | val _ => exact h
  | lam _ _ _ => obtain ⟨a, e, r⟩ := h; exact ⟨a, e, by rw [h3]; exact r⟩
structure FiOkC (X : Pg) (i : Nat) (fi : Fi) (cf : Nat → List (Str × Addr)) (bn : List Str) : Prop where
  nd : fi.tb.Nodup
  bnd : bn.Nodup
  loc : ∀ x ∈ fi.tb, (sc X.P i).names.lookup x = some .local
  cel : ∀ p ∈ fi.cs, (sc X.P i).names.lookup p.1 = some .cell
  glo : ∀ x ∈ fi.gl, (sc X.P i).names.lookup x = some .globalImplicit
  dbg : ∀ x ∈ fi.tb ++ (fi.cs.map (·.1) ++ fi.gl), (x == ("__debug__" : Str)) = false
  kind : (sc X.P i).kind = .function
  co : (sc X.P i).isCoroutine = false
  gen : (sc X.P i).isGenerator = false
  cells : ∀ n, cellsFrom n (sc X.P i).names [] = cf n
  cnd : ∀ n, ((cf n).map (·.1)).Nodup
  csn : ∀ n, (cf n).map (·.1) = fi.cs.map (·.1)
  cix : fi.cs.map (·.2) = List.range fi.cs.length
  bk : ∀ n, ∀ x ∈ bn, (sc X.P i).names.lookup x = some .local ∨ ((sc X.P i).names.lookup x = some .cell ∧ ((cellsFrom n (sc X.P i).names []).lookup x).isSome = true)
  hd : fi.hd = true
theorem All2.ofGet {α β : Type} {R : α → β → Prop} : ∀ {as : List α} {bs : List β}, as.length = bs.length → (∀ (j : Nat) a b, as[j]? = some a → bs[j]? = some b → R a b) → All2 R as bs
  | [], [], _, _ => .nil
  | a :: as, b :: bs, hl, h => .cons (h 0 a b rfl rfl) (All2.ofGet (Nat.succ.inj hl) fun j x y h1 h2 => h (j + 1) x y h1 h2)
theorem All2.mapR {α β γ : Type} {R : α → β → Prop} {R' : α → γ → Prop} {f : β → γ} {as : List α} {bs : List β} (h : All2 R as bs) (hf : ∀ a b, R a b → R' a (f b)) : All2 R' as (bs.map f) := by
  induction h with
  | nil => exact .nil
  | cons r _ ih => exact .cons (hf _ _ r) ih
theorem VRel.noOth {X : Pg} {mg : Str → Option Value} {G G' : Gh} (h1 : G'.la = G.la) (h3 : G'.nw = G.nw) {a : AV} {u : Value} (ha : a.noOth = true) (h : VRel X mg G a u) : VRel X mg G' a u := by
  cases a with
  | oth j => cases ha
  | lst j => obtain ⟨b, e, r⟩ := h; exact ⟨b, by rw [h1]; exact e, r⟩
  | el k d => show RelIn G'.nw k u d; rw [h3]; exact h
  | unb => exact h
  | none => exact h
  | bool _ => exact h
  | int _ => exact h
  | fn _ => exact h
  | val _ => exact h
  | lam _ _ _ => obtain ⟨a, e, r⟩ := h; exact ⟨a, e, by rw [h3]; exact r⟩
noncomputable def stV (ba : List AV) : Option Nat → AV
  | some t => ba.getD t .unb
  | none => .unb
theorem fn_gen {X : Pg} {q i : Nat} {fi : Fi} {cf : Nat → List (Str × Addr)} {bn : List Str} {as dfa : List AV} {dfs us : List Value} {args : Args} {pv pc : List (Option Nat)} {ls ls' : List LC} {os : List AO} {v : AV} {y : List Addr} {Z : Led → Prop} {c : Kx} {hp : Heap} {tk : Nat} {m : Str → Option Value} {G : Gh} {dv code : Value} {Q : Value → Shared → Prop} {E : Value → Shared → Prop} (F : FiOkC X i fi cf bn)
    (C : Cx X c.mg c.mb c.A c.B c.L (q + 1)) (S : St c.B c.L hp m G.ls G.ob G.nw) (lr : Lr X c.mg G ls os) (hus : All2 (fun u a => VRel X c.mg G a u) us as)
    (hfd : ∃ o pm doc, hp.get? (fa X.P c.mg i) = some o ∧ o.data = .func { Calls.docDef (nm X.P i) (pr X.P i) (bd X.P i) (sc X.P i) pm code doc with defaults := dv } ∧ hp.CodeRec code (nm X.P i))
    (hbi : ∀ pm code doc, BindsTo (mk c.s hp tk) { Calls.docDef (nm X.P i) (pr X.P i) (bd X.P i) (sc X.P i) pm code doc with defaults := dv } args (bn.zip (us ++ dfs)))
    (hdf : ∀ X' mg G, All2 (fun u a => VRel X' mg G a u) dfs dfa)
    (hpv : ∀ (j t : Nat) (x : Str), pv[j]? = some (some t) → fi.tb[j]? = some x → bn[t]? = some x) (hpc : ∀ (j t : Nat) (p : Str × Nat), pc[j]? = some (some t) → fi.cs[j]? = some p → bn[t]? = some p.1) (hpl : pc.length = fi.cs.length)
    (hos : ∀ x ∈ os, x.free = true)
    (h : ∀ (c' : Kx) h tk (cob : Led) m', c'.mo = none → c'.mg = c.mg → c'.B.hB = c.B.hB → c'.env.code = code → (∀ p ∈ G.ob, p.1 ∉ cob.map (·.1)) → Rep ⟨X, fi, q⟩ c' ⟨pv.map (stV (as.map (shO fi.cs.length) ++ dfa)), ls, pc.map (fun o => .cell (stV (as.map (shO fi.cs.length) ++ dfa) o)) ++ os⟩ h ⟨m', G.ls, cob ++ G.ob, G.nw, G.la, cob.map (·.1) ++ G.oa⟩ → ∀ Q E,
      (∀ h tk G' fl σ', σ'.l = ls' → Rep ⟨X, fi, q⟩ c' σ' h G' → Kp y ⟨m', G.ls, cob ++ G.ob, G.nw, G.la, cob.map (·.1) ++ G.oa⟩ G' → Z G'.ob → VRel X c'.mg G' v (retOf fl) → Q fl (mk c'.s h tk)) → wpAny (model c'.prog c'.w) c'.A (execs (bd X.P i) c'.env) Q E (mk c'.s h tk)) (hvo : v.noOth = true)
    (post : ∀ h tk G' u, St c.B c.L h m G'.ls G'.ob G'.nw → Kp y G G' → All2 (fun a x => (a, x) ∈ G'.ls) G'.la ls' → G'.la.Nodup → Z G'.ob → VRel X c.mg G' v u → Q u (mk c.s h tk)) : wpAny (model c.prog c.w) c.A (call (.ref (fa X.P c.mg i)) args.pos args.kw) Q E (mk c.s hp tk) := by
  refine call_V (args := args) (binds := bn.zip (us ++ dfs)) (cf := cf) C S hfd hbi (fun n x hx => F.bk n x.1 (List.of_mem_zip hx).1) F.cells F.cnd (fun g L' h₁ tk' cob hgB C' hc n1 n2 S' => ?_) F.co F.gen F.kind
  obtain ⟨env, henv⟩ : ∃ env, env = envX (nm X.P i) (sc X.P i) L' (fa X.P c.mg i) code (cf (L' + 1)) := ⟨_, rfl⟩
  rw [← henv] at C' hc S' ⊢
  have hkf : ∀ x, env.kindOf x = (sc X.P i).names.lookup x := fun x => by rw [henv]; rfl
  have hcadr := hc.addrs
  have hcl : cob.length = fi.cs.length := by
    have h1 := congrArg List.length hcadr
    have h2 := congrArg List.length (F.csn (L' + 1))
    simp only [List.length_map] at h1 h2
    rw [h1, h2]
  obtain ⟨Gc, hGc⟩ : ∃ Gc : Gh, Gc = ⟨bindL env.kindOf (bn.zip (us ++ dfs)) fun _ => none, G.ls, cob ++ G.ob, G.nw, G.la, cob.map (·.1) ++ G.oa⟩ := ⟨_, rfl⟩
  have hbaR : All2 (fun u a => VRel X c.mg Gc a u) (us ++ dfs) (as.map (shO fi.cs.length) ++ dfa) := by
    refine All2.append (hus.mapR fun u a r => ?_) (hdf _ _ _)
    have z := VRel.sh (G' := Gc) (cs := cob.map (·.1)) (by rw [hGc]) (by rw [hGc]) (by rw [hGc]) r
    rw [List.length_map, hcl] at z
    exact z
  have hbkn : ((bn.zip (us ++ dfs)).map (·.1)).Nodup := F.bnd.sublist (zip_fst _ _)
  have hval : ∀ (t : Nat) x, bn[t]? = some x → stV (as.map (shO fi.cs.length) ++ dfa) (some t) = .unb ∨ ∃ u, (x, u) ∈ bn.zip (us ++ dfs) ∧ VRel X c.mg Gc (stV (as.map (shO fi.cs.length) ++ dfa) (some t)) u := by
    intro t x hx
    show (as.map (shO fi.cs.length) ++ dfa).getD t .unb = .unb ∨ _
    cases e : (as.map (shO fi.cs.length) ++ dfa)[t]? with
    | none => exact .inl (by simp [List.getD, e])
    | some a =>
      obtain ⟨u, hu, hr⟩ := hbaR.get e
      refine .inr ⟨u, zip_mem hx hu, ?_⟩
      have : stV (as.map (shO fi.cs.length) ++ dfa) (some t) = a := by simp [stV, List.getD, e]
      rw [this]; exact hr
  have hoam : ∀ a ∈ G.oa, ∃ b, (a, b) ∈ G.ob := fun a ha => by
    obtain ⟨j, hj, e⟩ := List.getElem_of_mem ha
    obtain ⟨y, _, b, h1, _⟩ := lr.o.get' (List.getElem?_eq_some_iff.mpr ⟨hj, e⟩)
    exact ⟨b, h1⟩
  have hnoa : (cob.map (·.1) ++ G.oa).Nodup := by
    refine List.nodup_append.mpr ⟨?_, lr.on, fun a ha b hb e => ?_⟩
    · have h1 := (List.nodup_append.mp S'.apart.1).2.1
      have h2 := (List.nodup_append.mp h1).1
      rw [List.map_append] at h2
      exact (List.nodup_append.mp h2).1
    · obtain ⟨o, ho⟩ := hoam b hb
      exact n2 (b, o) ho (e ▸ ha)
  obtain ⟨c', hc'⟩ : ∃ c' : Kx, c' = ⟨c.prog, c.w, c.A.deeper env, c.s, g, L', env, c.mg, c.mb, none⟩ := ⟨_, rfl⟩
  have hcix : ∀ (j : Nat) p, fi.cs[j]? = some p → p.2 = j ∧ ∃ a o, (cf (L' + 1))[j]? = some (p.1, a) ∧ cob[j]? = some (a, o) ∧ o.data = .cell (bindC env.kindOf (bn.zip (us ++ dfs)) (fun _ => none) p.1) := by
    intro j p hj
    have h1 : (fi.cs.map (·.2))[j]? = some p.2 := by rw [List.getElem?_map, hj]; rfl
    rw [F.cix] at h1
    obtain ⟨h2, h3⟩ := List.getElem?_eq_some_iff.mp h1
    refine ⟨by simpa using h3.symm, ?_⟩
    have h4 : ((cf (L' + 1)).map (·.1))[j]? = some p.1 := by rw [F.csn, List.getElem?_map, hj]; rfl
    rw [List.getElem?_map] at h4
    cases e : (cf (L' + 1))[j]? with
    | none => rw [e] at h4; cases h4
    | some y =>
      rw [e] at h4
      have h4 : y.1 = p.1 := Option.some.inj h4
      obtain ⟨qq, hq, hq1, hq2⟩ := All2.get' hc e
      exact ⟨y.2, qq.2, by rw [← h4], by rw [hq, ← hq1], by rw [hq2, h4]⟩
  have R : Rep ⟨X, fi, q⟩ c' ⟨pv.map (stV (as.map (shO fi.cs.length) ++ dfa)), ls, pc.map (fun o => .cell (stV (as.map (shO fi.cs.length) ++ dfa) o)) ++ os⟩ h₁ Gc := by
    subst hc'
    refine { gd := C'.gd, below := C'.below, depth := C'.depth, units := C'.units, handled := fun _ => C'.handled, en := ⟨by rw [henv]; exact F.kind, fun x hx => (hkf x).trans (F.loc x hx), fun p hp => (hkf p.1).trans (F.cel p hp), fun x hx => (hkf x).trans (F.glo x hx), by rw [henv], by rw [henv], fun x hx => F.dbg x ?_, ?_⟩, st := by rw [hGc]; exact S', lr := ?_, vr := ?_, nd := F.nd, ce := ?_, fn := fun _ => by rw [henv], own := fun _ => rfl, top := fun _ => top_of C'.below, cp := fun m hm => nomatch hm }
    · rcases hx with hx | hx | hx
      · exact List.mem_append_left _ hx
      · exact List.mem_append_right _ (List.mem_append_left _ hx)
      · exact List.mem_append_right _ (List.mem_append_right _ hx)
    · rw [henv]
      show ((sc X.P i).kind == .module && _) = false
      rw [F.kind]; rfl
    · refine ⟨by rw [hGc]; exact lr.l, ?_, by rw [hGc]; exact lr.ln, by rw [hGc]; exact hnoa⟩
      have e1 : Gc.oa = cob.map (·.1) ++ G.oa := by rw [hGc]
      have e2 : Gc.ob = cob ++ G.ob := by rw [hGc]
      rw [e1]
      refine All2.append (.ofGet (by rw [List.length_map, List.length_map, hcl, hpl]) fun j a x h1 h2 => ?_) ?_
      · rw [List.getElem?_map] at h1 h2
        have hj : j < fi.cs.length := by
          have : j < cob.length := by
            cases e : cob[j]? with
            | none => rw [e] at h1; cases h1
            | some y => exact (List.getElem?_eq_some_iff.mp e).1
          rw [← hcl]; exact this
        obtain ⟨_, a', o, h3, h4, h5⟩ := hcix j _ (List.getElem?_eq_getElem hj)
        rw [h4] at h1
        obtain rfl : a' = a := Option.some.inj h1
        refine ⟨o, e2 ▸ List.mem_append_left _ (List.mem_of_getElem? h4), ?_⟩
        cases ep : pc[j]? with
        | none => rw [ep] at h2; cases h2
        | some w =>
          rw [ep] at h2
          have h2 := Option.some.inj h2
          subst h2
          refine ⟨_, h5, ?_⟩
          cases w with
          | none => exact .inl rfl
          | some t =>
            have hbt := hpc j t _ ep (List.getElem?_eq_getElem hj)
            refine (hval t _ hbt).imp id fun ⟨u, hu, hr⟩ => ⟨u, bindC_get hbkn ?_ hu, hr⟩
            rw [hkf, F.cel _ (List.getElem_mem hj)]
            intro q; cases q
      · refine All2.mono ?_ fun _ _ h => h
        have key : ∀ {as : List Addr} {bs : List AO}, All2 (fun a x => ∃ b, (a, b) ∈ G.ob ∧ ORel X c.mg G x b) as bs → (∀ x ∈ bs, x.free = true) → All2 (fun a x => ∃ b, (a, b) ∈ Gc.ob ∧ ORel X c.mg Gc x b) as bs := by
          intro as bs hh
          induction hh with
          | nil => intro _; exact .nil
          | cons r1 _ ih =>
            intro hf
            obtain ⟨b, hb, hr⟩ := r1
            exact .cons ⟨b, e2 ▸ List.mem_append_right _ hb, hr.free (by rw [hGc]; exact List.prefix_refl _) (hf _ (.head _))⟩ (ih fun x hx => hf x (.tail _ hx))
        exact key lr.o hos
    · intro j x v hx hv
      rw [List.getElem?_map] at hv
      cases ep : pv[j]? with
      | none => rw [ep] at hv; cases hv
      | some w =>
        rw [ep] at hv
        have hv := Option.some.inj hv
        subst hv
        cases w with
        | none => exact .inl rfl
        | some t =>
          refine (hval t x (hpv j t x ep hx)).imp id fun ⟨u, hu, hr⟩ => ⟨u, ?_, hr⟩
          rw [hGc]
          exact bindL_get hbkn ((hkf x).trans (F.loc x (List.mem_of_getElem? hx))) hu
    · intro p hp
      obtain ⟨j, hj, e⟩ := List.getElem_of_mem hp
      have hj' : fi.cs[j]? = some p := List.getElem?_eq_some_iff.mpr ⟨hj, e⟩
      obtain ⟨h1, a, o, h3, h4, h5⟩ := hcix j p hj'
      refine ⟨a, ?_, ?_⟩
      · rw [hGc, h1, List.getElem?_append_left (by rw [List.length_map, hcl]; exact hj), List.getElem?_map, h4]; rfl
      · rw [henv]; exact lookup_mem (F.cnd _) (List.mem_of_getElem? h3)
  have key := h c' h₁ tk' cob (bindL env.kindOf (bn.zip (us ++ dfs)) fun _ => none) (by rw [hc']) (by rw [hc']) (by rw [hc']; exact hgB) (by rw [hc', henv]) n2 (by rw [← hGc]; exact R) (fun fl s' => Back c.s c.B c.L m g L' Q (retOf fl) s') (fun _ _ => False)
  rw [← hGc] at key
  subst hc'
  refine key fun h' tk₂ G' fl σ' hl' R' K' hz hv => Back.intro R'.st fun S'' => post h' tk₂ { G' with oa := G.oa } _ S'' ?_ (by rw [← hl']; exact R'.lr.l) R'.lr.ln hz (VRel.noOth (X := X) (mg := c.mg) (G := G') (G' := { G' with oa := G.oa }) (a := v) rfl rfl hvo hv)
  subst hGc
  refine ⟨K'.la, List.prefix_refl _, K'.nw, K'.ls, fun p hp hn hx => ⟨(K'.ob p (List.mem_append_right _ hp) (fun q => ?_) hx).1, hn⟩⟩
  rcases List.mem_append.mp q with q | q
  · exact n2 p hp q
  · exact hn q
theorem fn_ofC {X : Pg} {q i : Nat} {fi : Fi} {cf : Nat → List (Str × Addr)} {bn : List Str} {args dfa : List AV} {dfs : List Value} {pv pc : List (Option Nat)} {ls ls' : List LC} {os : List AO} {f : AF} {v : AV} {σ' : Sg} {s : Stmt} {ss : List Stmt} (F : FiOkC X i fi cf bn)
    (hcall : ∀ (c : Kx) h tk, Gd X.P X.js X.ks X.free c.mg c.mb h → ∀ us : List Value, us.length = args.length → ∃ dv, (∃ o pm code doc, h.get? (fa X.P c.mg i) = some o ∧ o.data = .func { Calls.docDef (nm X.P i) (pr X.P i) (bd X.P i) (sc X.P i) pm code doc with defaults := dv } ∧ h.CodeRec code (nm X.P i)) ∧
      ∀ pm code doc, BindsTo (mk c.s h tk) { Calls.docDef (nm X.P i) (pr X.P i) (bd X.P i) (sc X.P i) pm code doc with defaults := dv } ⟨us, []⟩ (bn.zip (us ++ dfs)))
    (hdf : ∀ X' mg G, All2 (fun u a => VRel X' mg G a u) dfs dfa)
    (hpv : ∀ (j t : Nat) (x : Str), pv[j]? = some (some t) → fi.tb[j]? = some x → bn[t]? = some x) (hpc : ∀ (j t : Nat) (p : Str × Nat), pc[j]? = some (some t) → fi.cs[j]? = some p → bn[t]? = some p.1) (hpl : pc.length = fi.cs.length)
    (hos : ∀ x ∈ os, x.free = true) (hbd : bd X.P i = s :: ss)
    (h : Es ⟨X, fi, q⟩ ⟨pv.map (stV (args.map (shO fi.cs.length) ++ dfa)), ls, pc.map (fun o => .cell (stV (args.map (shO fi.cs.length) ++ dfa) o)) ++ os⟩ (s :: ss) (.ok f σ')) (hl : σ'.l = ls') (hv : f.val = v) (hvo : v.noOth = true) : FnIs X (q + 1) i args ls os (.ok v ls') := by
  rw [← hbd] at h
  subst hl hv
  intro c hp tk m G C S lr us hus Q E post
  obtain ⟨dv, ⟨o, pm, code, doc, hfd⟩, hbi⟩ := hcall c hp tk (C.gd.keeps S.fr.keep) us hus.len
  refine fn_gen (args := ⟨us, []⟩) (Z := fun _ => True) (y := []) F C S lr hus ⟨o, pm, doc, hfd⟩ hbi hdf hpv hpc hpl hos (fun c' h₁ tk' cob m' hmo hmg _ _ _ R Q E post' => h c' h₁ tk' _ R Q E fun h' tk₂ G' fl R' K' V' => ?_) hvo fun h tk G' u S' kp l n _ r => post h tk G' u S' kp l n r
  refine post' h' tk₂ G' fl σ' rfl R' (by rw [Kx.ex, hmo] at K'; exact K') trivial ?_
  cases f with
  | next => have V' : fl = .next := V'; subst V'; rfl
  | brk => have V' : fl = .brk := V'; subst V'; rfl
  | cont => have V' : fl = .cont := V'; subst V'; rfl
  | ret v => obtain ⟨w, V', hw⟩ := V'; subst V'; exact hw
end Mine
end
section
namespace Mine
theorem comp_once {prog : Program} {w : World} {A : Around} {s : Shared} {elt tgt iter : PySem.Expr} {ifs : List PySem.Expr} {scope : Scope} {pos : Pos} {it acc : Value} {env : Env} {Rr : Result → Shared → Prop}
    (turn : wpAny (model prog w) A (pyNext it) (fun r s₁ => match r with
      | none => Rr (.ok .next) s₁
      | some v => wpAny (model prog w) A (letOwnedTupleGo tgt it v) (fun _ s₁ => wpAny (model prog w) A (assign tgt env v) (fun _ s₂ =>
          wpAny (model prog w) A (forIn ifs true fun c r => if r = true then do let ok ← isTrue c env (eval c env); pure (ForInStep.yield ok) else pure (ForInStep.yield r)) (fun ok s₃ =>
            if ok = true then wpAny (model prog w) A (eval elt env) (fun x s₄ =>
              wpAny (model prog w) A (call (.builtin "list.append") [acc, x]) (fun _ s₅ => codeAny (model prog w) A (.compLoop (.ListComp elt [⟨tgt, iter, ifs, 0⟩] scope pos) 0 it acc env) Rr s₅) (notedBy (model prog w) A env fun e s' => Rr (.error e) s') s₄) (notedBy (model prog w) A env fun e s' => Rr (.error e) s') s₃
            else codeAny (model prog w) A (.compLoop (.ListComp elt [⟨tgt, iter, ifs, 0⟩] scope pos) 0 it acc env) Rr s₃) (notedBy (model prog w) A env fun e s' => Rr (.error e) s') s₂) (notedBy (model prog w) A env fun e s' => Rr (.error e) s') s₁) (notedBy (model prog w) A env fun e s' => Rr (.error e) s') s₁) (notedBy (model prog w) A env fun e s' => Rr (.error e) s') s) :
    codeAny (model prog w) A (.compLoop (.ListComp elt [⟨tgt, iter, ifs, 0⟩] scope pos) 0 it acc env) Rr s := by
  refine codeAny_of_tree ?_
  show wpAny _ A ((compTurn (.ListComp elt [⟨tgt, iter, ifs, 0⟩] scope pos) 0 it acc env).onRaise _) _ _ s
  refine wpAny_noted ?_
  rw [compTurn_list]
  refine wpAny_bind (wpAny_standAt (wpAny_bind (wpAny_mono turn (fun r s₁ h₁ => ?_) fun _ _ h' => h')))
  cases r with
  | none => exact wpAny_pure h₁
  | some v =>
    refine wpAny_bind (wpAny_mono h₁ (fun _ s₁ h₁ => wpAny_bind (wpAny_mono h₁ (fun _ s₂ h₂ => wpAny_bind (wpAny_mono h₂ (fun ok s₃ h₃ => ?_) fun _ _ h' => h')) fun _ _ h' => h')) fun _ _ h' => h')
    cases ok with
    | false => exact wpAny_pure ⟨rfl, h₃⟩
    | true => exact wpAny_bind (wpAny_bind (wpAny_mono h₃ (fun x s₄ h₄ => wpAny_bind (wpAny_mono h₄ (fun _ s₅ h₅ => wpAny_pure (wpAny_pure ⟨rfl, h₅⟩)) fun _ _ h' => h')) fun _ _ h' => h'))
section
variable {κ : K} {c : Kx} {σ σ₁ σ₂ σ₃ : Sg} {h h' : Heap} {tk : Nat} {G G' : Gh} {E : Value → Shared → Prop}
noncomputable def PostL (κ : K) (x : List Addr) (c : Kx) (Z I : Addr) (kd : Kd) (G : Gh) (out : List D) (σ : Sg) (Rr : Result → Shared → Prop) : Prop :=
  ∀ h tk G', Rep κ c σ h G' → Kp (Z :: I :: x) G G' → (Z, kd, out) ∈ G'.ls → Z ∉ G'.la → Rr (.ok .next) (mk c.s h tk)
noncomputable def Cl (κ : K) (σ : Sg) (tgt elt : PySem.Expr) (ifs : List PySem.Expr) (it : AO) (kd : Kd) (out out' : List D) (σ' : Sg) : Prop :=
  ∀ c h tk G I o Z iter scope pos, Rep κ c σ h G → (I, o) ∈ G.ob → I ∉ G.oa → I ∉ c.ex → ORel κ.X c.mg G it o → (Z, kd, out) ∈ G.ls → Z ∉ G.la → Z ∉ c.ex → Z ≠ I →
    ∀ Rr, PostL κ c.ex c Z I kd G out' σ' Rr → codeAny (model c.prog c.w) c.A (.compLoop (.ListComp elt [⟨tgt, iter, ifs, 0⟩] scope pos) 0 (.ref I) (.ref Z) c.env) Rr (mk c.s h tk)
noncomputable def Ow (tgt : PySem.Expr) (it : AO) (v : AV) : Prop := ∀ (prog : Program) (w : World) (A : Around) (E : Value → Shared → Prop) (s : Shared) (h : Heap) (tk : Nat) (I : Addr) (o : Obj) (X : Pg) (mg : Str → Option Value) (G : Gh) (u : Value) (Q : Unit → Shared → Prop),
  h.get? I = some o → ORel X mg G it o → VRel X mg G v u → Q () (mk s h tk) → wpAny (model prog w) A (letOwnedTupleGo tgt (.ref I) u) Q E (mk s h tk)
theorem ow_plain {tgt : PySem.Expr} {it : AO} {v : AV} (ht : ∀ it v, letOwnedTupleGo tgt it v = pure () := by intro _ _; rfl) : Ow tgt it v := fun _ _ _ _ _ _ _ _ _ _ _ _ _ _ _ _ _ q => wpAny_of_eq (ht _ _) q
theorem PostL.move {x : List Addr} {Z I : Addr} {kd : Kd} {out : List D} {Rr : Result → Shared → Prop} (p : PostL κ x c Z I kd G out σ Rr) (k : Kp (Z :: I :: x) G G') : PostL κ x c Z I kd G' out σ Rr :=
  fun h tk G'' R k' h1 h2 => p h tk G'' R (k.trans k') h1 h2
section
variable {tgt elt : PySem.Expr} {ifs : List PySem.Expr} {it it' : AO} {kd : Kd} {out out' : List D} {v : AV} {d : D}
theorem cl_end (nx : Nx σ it none) (hh : κ.fi.hd = true := by rfl) : Cl κ σ tgt elt ifs it kd out out σ := by
  intro c h tk G I o Z iter scope pos R hm hI hex ho hZ hZa hZx hZI Rr post
  obtain ⟨g, U⟩ := AtO.ofMem hm
  refine comp_once (nx_none hh R nx U ho fun h' he => ?_)
  obtain ⟨R', K'⟩ := R.hid hI hex (fun p hp hn => mem_rm hp hn) (R.st.rm hm he)
  exact post h' tk _ R' (K'.wk fun z hz => List.mem_singleton.mp hz ▸ .tail _ (.head _)) hZ hZa
theorem hid_append {Z : Addr} {u : Value} {Q : Value → Shared → Prop} (R : Rep κ c σ h G) (hZ : (Z, kd, out) ∈ G.ls) (hZa : Z ∉ G.la) (hZx : Z ∉ c.ex) (hz : out.length < 1000) (hu : RelIn G.nw kd u d)
    (q : ∀ h' G', Rep κ c σ h' G' → Kp [Z] G G' → (Z, kd, out ++ [d]) ∈ G'.ls → G'.ob = G.ob → G'.oa = G.oa → G'.la = G.la → G'.nw = G.nw → Q .none (mk c.s h' tk)) : wpAny (model c.prog c.w) c.A (call (.builtin "list.append") [.ref Z, u]) Q E (mk c.s h tk) := by
  obtain ⟨g, U⟩ := At.ofMem hZ
  refine r_append R.st U hz hu fun h' S' => ?_
  have kp : Kp [Z] G { G with ls := g (out ++ [d]) } := ⟨List.prefix_refl _, List.prefix_refl _, fun _ h => h, fun e he hn hx => ⟨U.others he fun q => hx (q ▸ .head _), hn⟩, fun _ h h' _ => ⟨h, h'⟩⟩
  refine q h' _ (R.reX (la' := G.la) (oa' := G.oa) S' kp (fun y hy q => hZx (List.mem_singleton.mp q ▸ hy)) ⟨?_, R.lr.o.mono fun _ _ ⟨b, h1, h2⟩ => ⟨b, h1, h2.mono kp.la kp.oa kp.nw⟩, R.lr.ln, R.lr.on⟩) kp (U.again _).mem rfl rfl rfl rfl
  have key : ∀ {as : List Addr} {bs : List LC}, All2 (fun a x => (a, x) ∈ G.ls) as bs → (∀ a ∈ as, a ≠ Z) → All2 (fun a x => (a, x) ∈ g (out ++ [d])) as bs := by
    intro as bs hh
    induction hh with
    | nil => intro _; exact .nil
    | cons r1 _ ih => intro hne; exact .cons (U.others r1 (hne _ (.head _))) (ih fun a ha => hne a (.tail _ ha))
  exact key R.lr.l fun a ha q => hZa (q ▸ ha)
theorem cl_step (nx : Nx σ it (some (v, it'))) (ow : Ow tgt it' v) (ha : As κ σ tgt v σ₁) (he : Ev κ σ₁ elt (.ok (elv kd d) σ₂)) (hz : out.length < 1000) (k : Cl κ σ₂ tgt elt [] it' kd (out ++ [d]) out' σ₃) : Cl κ σ tgt elt [] it kd out out' σ₃ := by
  intro c h tk G I o Z iter scope pos R hm hI hex ho hZ hZa hZx hZI Rr post
  obtain ⟨g, U⟩ := AtO.ofMem hm
  refine comp_once (nx_item R nx U ho fun h' tk' o' u S' ho' hv => ?_)
  obtain ⟨R', K'⟩ := R.hid hI hex (fun p hp hn => U.others (o' := o') hp hn) S'
  refine ow _ _ _ _ _ _ _ _ _ _ _ _ _ _ (R'.st.getO (U.again o')) ho' hv ?_
  refine ha c h' tk' _ R' u (K'.v hv) _ _ fun h₂ tk₂ G₂ R₂ K₂ => ?_
  obtain ⟨z1, z2⟩ := K₂.ob (I, o') (U.again o').mem hI hex
  obtain ⟨y1, y2⟩ := K₂.ls (Z, kd, out) hZ hZa hZx
  refine wpAny_tests_nil ?_
  rw [if_pos rfl]
  refine he c h₂ tk₂ G₂ R₂ _ _ fun h₃ tk₃ G₃ u₃ R₃ K₃ V₃ => ?_
  obtain ⟨z3, z4⟩ := K₃.ob (I, o') z1 z2 hex
  obtain ⟨y3, y4⟩ := K₃.ls (Z, kd, out) y1 y2 hZx
  refine hid_append R₃ y3 y4 hZx hz (elv_rel V₃) fun h₄ G₄ R₄ K₄ m₄ e1 e2 e3 e4 => ?_
  have kk : Kp (Z :: I :: c.ex) G G₄ := (((K'.wk fun z hz => List.mem_singleton.mp hz ▸ .tail _ (.head _)).trans (K₂.wk fun z hz => .tail _ (.tail _ hz))).trans (K₃.wk fun z hz => .tail _ (.tail _ hz))).trans (K₄.wk fun z hz => List.mem_singleton.mp hz ▸ .head _)
  exact k c h₄ tk₃ G₄ I o' Z iter scope pos R₄ (e1 ▸ z3) (e2 ▸ z4) hex (((ho'.mono K'.la K'.oa K'.nw).mono K₂.la K₂.oa K₂.nw).mono K₃.la K₃.oa K₃.nw |>.mono K₄.la K₄.oa K₄.nw) m₄ (e3 ▸ y4) hZx hZI Rr (post.move kk)
end
end
end Mine
end
section
namespace Mine
structure FiK (scope : Scope) (fi : Fi) : Prop where
  nd : fi.tb.Nodup
  loc : ∀ x ∈ fi.tb, scope.names.lookup x = some .local
  cel : ∀ p ∈ fi.cs, scope.names.lookup p.1 = some .free
  glo : ∀ x ∈ fi.gl, scope.names.lookup x = some .globalImplicit
  dbg : ∀ x ∈ fi.tb ++ (fi.cs.map (·.1) ++ fi.gl), (x == ("__debug__" : Str)) = false
  kind : scope.kind = .function
  cell : ∀ x ∈ scope.names, x.2 ≠ .cell
  names : ∀ x ∈ scope.names, x.2 = .local → scope.names.lookup x.1 = some .local
  hd : fi.hd = true
  ow : fi.own = false
theorem lookup_relabel {env : Env} : ∀ {names : List (Str × NameKind)} {x : Str} {k : NameKind}, names.lookup x = some k →
    (names.map fun (n, k) => if (k == NameKind.free && env.scope.kind == .function && env.kindOf n == some .cell) then (n, NameKind.cell) else (n, k)).lookup x = some (if (k == NameKind.free && env.scope.kind == .function && env.kindOf x == some .cell) then .cell else k)
  | [], _, _, h => by cases h
  | (n, k') :: r, x, k, h => by
    rw [List.lookup_cons] at h
    rw [List.map_cons]
    dsimp only
    by_cases e : x = n
    · subst e
      simp only [beq_self_eq_true] at h
      have hk : k' = k := Option.some.inj h
      subst hk
      by_cases hc : (k' == NameKind.free && env.scope.kind == .function && env.kindOf x == some .cell) = true
      · rw [if_pos hc, if_pos hc, List.lookup_cons, beq_self_eq_true]
      · rw [if_neg hc, if_neg hc, List.lookup_cons, beq_self_eq_true]
    · have e' : (x == n) = false := by simpa using e
      rw [e'] at h
      by_cases hc : (k' == NameKind.free && env.scope.kind == .function && env.kindOf n == some .cell) = true
      · rw [if_pos hc, List.lookup_cons, e']
        exact lookup_relabel h
      · rw [if_neg hc, List.lookup_cons, e']
        exact lookup_relabel h
section
variable {κ : K} {c : Kx} {σ σ₁ σ₂ σ₃ : Sg} {h h' : Heap} {tk : Nat} {G G' : Gh} {E : Value → Shared → Prop}
theorem EnvF.comp {fi fi' : Fi} {env : Env} {scope : Scope} {cl : List (Str × Addr)} {C : Addr} (F : EnvF fi env) (K : FiK scope fi') (hc : ∀ p ∈ fi'.cs, env.kindOf p.1 = some .cell) : EnvF fi' (compEnvC scope cl C env) where
  kind := K.kind
  loc := fun x hx => lookup_relabel_local (K.loc x hx)
  cel := fun p hp => (lookup_relabel (env := env) (K.cel p hp)).trans (by rw [F.kind, hc p hp]; rfl)
  glo := fun x hx => (lookup_relabel (env := env) (K.glo x hx)).trans rfl
  gb := F.gb
  bb := F.bb
  dbg := fun x hx => K.dbg x (by
    rcases hx with hx | hx | hx
    · exact List.mem_append_left _ hx
    · exact List.mem_append_right _ (List.mem_append_left _ hx)
    · exact List.mem_append_right _ (List.mem_append_right _ hx))
  inter := by show (scope.kind == .module && _) = false; rw [K.kind]; rfl
theorem again_it {it : AO} {I : Addr} {o : Obj} {Q : Value → Shared → Prop} (R : Rep κ c σ h G) (hm : (I, o) ∈ G.ob) (ho : ORel κ.X c.mg G it o) (q : Q (.ref I) (mk c.s h tk)) :
    (∃ i j, it = .li i j) ∨ (∃ i j, it = .lo i j) ∨ (∃ x l k, it = .ri x l k) → wpAny (model c.prog c.w) c.A (pyIter (.ref I)) Q E (mk c.s h tk) := by
  obtain ⟨g, U⟩ := AtO.ofMem hm
  rintro (⟨i, j, rfl⟩ | ⟨i, j, rfl⟩ | ⟨x, l, k, rfl⟩)
  · obtain ⟨a, _, hI⟩ := ho
    exact wpAny_pyIter_listiter (s := mk c.s h tk) ⟨o, R.st.getO U, hI.1, hI.2⟩ q
  · obtain ⟨a, _, hI⟩ := ho
    exact wpAny_pyIter_listiter (s := mk c.s h tk) ⟨o, R.st.getO U, hI.1, hI.2⟩ q
  · have ho : o = riObj x l k := ho
    subst ho
    exact wpAny_pyIter_rangeiter (s := mk c.s h tk) (R.st.getO U) q
end
end Mine
end
section
namespace Mine
section
variable {κ : K} {c : Kx} {σ σ₁ σ₂ σ₃ : Sg} {h h' : Heap} {tk : Nat} {G G' : Gh} {E : Value → Shared → Prop}
theorem Rep.hidL {Z : Addr} {x : LC} (R : Rep κ c σ h G) (S : St c.B c.L h' (c.lm G) ((Z, x) :: G.ls) G.ob G.nw) : Rep κ c σ h' { G with ls := (Z, x) :: G.ls } ∧ Kp [] G { G with ls := (Z, x) :: G.ls } ∧ Z ∉ G.la ∧ (∀ p ∈ G.ls, p.1 ≠ Z) ∧ ∀ p ∈ G.ob, p.1 ≠ Z := by
  have hne : ∀ p ∈ G.ls, p.1 ≠ Z := fun p hp => S.newL_ne hp
  have kp : Kp [] G { G with ls := (Z, x) :: G.ls } := ⟨List.prefix_refl _, List.prefix_refl _, fun _ h => h, fun p hp hn hx => ⟨.tail _ hp, hn⟩, fun _ h h' _ => ⟨h, h'⟩⟩
  refine ⟨R.re (la' := G.la) (oa' := G.oa) S kp ⟨R.lr.l.mono fun _ _ h => .tail _ h, R.lr.o.mono fun _ _ ⟨b, h1, h2⟩ => ⟨b, h1, h2.mono kp.la kp.oa kp.nw⟩, R.lr.ln, R.lr.on⟩, kp, fun q => ?_, hne, fun p hp q => ?_⟩
  · obtain ⟨i, hi, e⟩ := List.getElem_of_mem q
    obtain ⟨y, _, h1⟩ := R.lr.l.get' (List.getElem?_eq_some_iff.mpr ⟨hi, e⟩)
    exact hne _ h1 rfl
  · exact (List.nodup_cons.mp (show (Z :: adr G.ls G.ob c.B).Nodup from S.apart.1)).1 (q ▸ List.mem_append_right _ (List.mem_append_left _ (List.mem_map_of_mem (f := (·.1)) hp)))
theorem Rep.enter {fi' : Fi} {scope : Scope} {cl : List (Str × Addr)} {C : Addr} {oC : Obj} (R : Rep κ c σ h G) (Kf : FiK scope fi') (hcs : ∀ p ∈ fi'.cs, c.env.kindOf p.1 = some .cell ∧ ∃ a, G.oa[p.2]? = some a ∧ cl.lookup p.1 = some a)
    (S : St c.B c.L h' (c.lm G) G.ls ((C, oC) :: G.ob) G.nw) (hn : LCg.NsObj oC (fun _ => none)) (hh : κ.fi.hd = true) :
    Rep ⟨κ.X, fi', κ.q⟩ { c with env := compEnvC scope cl C c.env, mo := some (c.lm G) } ⟨List.replicate fi'.tb.length .unb, σ.l, σ.o⟩ h' { G with m := fun _ => none, ob := (C, oC) :: G.ob } := by
  obtain ⟨R', kp, hC, hCx, hne⟩ := R.hidNew S
  exact { gd := R.gd, below := R.below, depth := R.depth, units := R.units, handled := fun _ => R.handled hh, en := R.en.comp Kf fun p hp => (hcs p hp).1, st := S, lr := ⟨R'.lr.l, R'.lr.o.mono fun _ _ ⟨b, h1, h2⟩ => ⟨b, h1, h2.mono (List.prefix_refl _) (List.prefix_refl _) fun _ h => h⟩, R'.lr.ln, R'.lr.on⟩,
          vr := fun i x v hx hv => .inl (List.eq_of_mem_replicate (List.mem_of_getElem? hv)), nd := Kf.nd, ce := fun p hp => (hcs p hp).2, fn := (fun q => nomatch q), own := (fun q => by rw [Kf.ow] at q; cases q), top := (fun q => by rw [Kf.ow] at q; cases q), cp := fun m hm => ⟨oC, .head _, hn, hC⟩ }
theorem Rep.leave {κ' : K} {scope : Scope} {cl : List (Str × Addr)} {C Z : Addr} {kd : Kd} {out : List D} {h₁ : Heap} {G₁ : Gh} (R₁ : Rep κ c σ₁ h₁ G₁) (hX : κ'.X = κ.X) (hmo : c.mo = none)
    (R' : Rep κ' { c with env := compEnvC scope cl C c.env, mo := some (c.lm G₁) } σ₂ h' G') (hla : G₁.la <+: G'.la) (hoa : G₁.oa <+: G'.oa) (hnw : ∀ p ∈ G₁.nw, p ∈ G'.nw) (hZ : (Z, kd, out) ∈ G'.ls) (hZa : Z ∉ G'.la) :
    Rep κ c ⟨σ₁.v, σ₂.l ++ [(kd, out)], σ₂.o⟩ h' ⟨G₁.m, G'.ls, G'.ob, G'.nw, G'.la ++ [Z], G'.oa⟩ := by
  have S'' : St c.B c.L h' (c.lm G₁) G'.ls G'.ob G'.nw := R'.st
  have hlm : ∀ G : Gh, c.lm G = G.m := fun G => by unfold Kx.lm; rw [hmo]
  have p1 : G₁.la <+: G'.la ++ [Z] := hla.trans (List.prefix_append _ _)
  have lo := R'.lr.o
  have ll := R'.lr.l
  rw [hX] at lo
  refine { gd := R₁.gd, below := R₁.below, depth := R₁.depth, units := R₁.units, handled := R₁.handled, en := R₁.en, st := by rw [hlm] at S'' ⊢; exact S'', lr := ⟨ll.snoc (fun _ _ h => h) hZ, ?_, nodup_snoc R'.lr.ln hZa, R'.lr.on⟩, vr := fun i y v h1 h2 => (R₁.vr i y v h1 h2).imp id fun ⟨u, e, r⟩ => ⟨u, e, VRel.mono (G' := ⟨G₁.m, G'.ls, G'.ob, G'.nw, G'.la ++ [Z], G'.oa⟩) p1 hoa hnw r⟩, nd := R₁.nd, ce := fun p hp => let ⟨a, e, r⟩ := R₁.ce p hp; ⟨a, pre_get hoa e, r⟩, fn := R₁.fn, own := R₁.own, top := R₁.top, cp := fun m hm => by rw [hmo] at hm; cases hm }
  exact lo.mono fun _ _ ⟨b, h1, h2⟩ => ⟨b, h1, ORel.mono (G' := ⟨G₁.m, G'.ls, G'.ob, G'.nw, G'.la ++ [Z], G'.oa⟩) (List.prefix_append _ _) (List.prefix_refl _) (fun _ h => h) h2⟩
noncomputable def AO.iter : AO → Bool
  | .li _ _ => true
  | .lo _ _ => true
  | .ri _ _ _ => true
  | _ => false
theorem AO.iter_is {it : AO} (h : it.iter = true) : (∃ i j, it = .li i j) ∨ (∃ i j, it = .lo i j) ∨ (∃ x l k, it = .ri x l k) := by
  cases it with
  | li i j => exact .inl ⟨i, j, rfl⟩
  | lo i j => exact .inr (.inl ⟨i, j, rfl⟩)
  | ri x l k => exact .inr (.inr ⟨x, l, k, rfl⟩)
  | _ => cases h
theorem comp_core {elt tgt iter : PySem.Expr} {ifs : List PySem.Expr} {scope : Scope} {pos : Pos} {fi' : Fi} {it : AO} {kd : Kd} {out : List D} (hi : Ite κ σ iter it σ₁) (hit : it.iter = true) (Kf : FiK scope fi') (hfn : κ.fi.hd = true)
    (hC : Cl ⟨κ.X, fi', κ.q⟩ ⟨List.replicate fi'.tb.length .unb, σ₁.l, σ₁.o⟩ tgt elt ifs it kd [] out σ₂) (R : Rep κ c σ h G) (hmo : c.mo = none) {cl : List (Str × Addr)} (hcs : ∀ p ∈ fi'.cs, c.env.kindOf p.1 = some .cell ∧ ∃ a, G.oa[p.2]? = some a ∧ cl.lookup p.1 = some a) {RR : Value → Addr → Result → Shared → Prop}
    (fin : ∀ h' tk' Z C oC m G', Rep κ c ⟨σ₁.v, σ₂.l ++ [(kd, out)], σ₂.o⟩ h' G' → Kp c.ex G G' → G'.la[σ₂.l.length]? = some Z → (C, oC) ∈ G'.ob → C ∉ G'.oa → (∀ p ∈ G.ob, p.1 ≠ C) → LCg.NsObj oC m → RR (.ref Z) C (.ok .next) (mk c.s h' tk')) :
    wpAny (model c.prog c.w) c.A (eval iter c.env) (fun x s₁ => wpAny (model c.prog c.w) c.A (pyIter x) (fun it s₂ => wpAny (model c.prog c.w) c.A (newList []) (fun acc s₃ => wpAny (model c.prog c.w) c.A (newFunctionEnv scope c.env.globals cl [] c.env.qual none .none (some c.env)) (fun cenv s₄ =>
        codeAny (model c.prog c.w) c.A (.compStart (.ListComp elt [⟨tgt, iter, ifs, 0⟩] scope pos) 0 it acc { cenv with scope := relabel scope c.env }) (RR acc cenv.locals) s₄) E s₃) E s₂) E s₁) E (mk c.s h tk) := by
  refine hi c h tk G R _ _ (fun h₁ tk₁ G₁ I o R₁ K₁ m₁ n₁ hx₁ hne ho => ?_)
  refine r_newL (k := kd) (ds := []) R₁.st .nil fun Z h₂ S₂ => ?_
  obtain ⟨R₂, K₂, z1, z2, z3⟩ := R₁.hidL S₂
  refine wpAny_newFunctionEnv (s := mk c.s h₂ tk₁) Kf.cell (by intro z hz; cases hz) (fun h₃ hns hsb => ?_) Kf.kind
  have hns' : h₃.Ns h₂.objs.size (fun _ => none) := hns
  have hsb' : Heap.SameBut h₂.objs.size (h₂.push { cls := .type "dict", data := .dict #[] }) h₃ := hsb
  obtain ⟨oC, hoC, hnC⟩ := LCg.ns_obj hns'
  have keep : ∀ b o, h₂.get? b = some o → h₃.get? b = some o := fun b o e => hsb'.extBut b o (Nat.ne_of_lt (Heap.lt_size e)) (Heap.get?_push_of_some _ e)
  have S₃ := R₂.st.addO keep (Nat.le_refl _) hoC
  have hcs' : ∀ p ∈ fi'.cs, c.env.kindOf p.1 = some .cell ∧ ∃ a, G₁.oa[p.2]? = some a ∧ cl.lookup p.1 = some a := fun p hp => let ⟨q1, a, q2, q3⟩ := hcs p hp; ⟨q1, a, pre_get K₁.oa q2, q3⟩
  have R₃ := R₂.enter (fi' := fi') (cl := cl) Kf hcs' S₃ hnC hfn
  have n3 := R₂.hidNew S₃
  show codeAny (model c.prog c.w) c.A (.compStart _ 0 (.ref I) (.ref Z) (compEnvC scope cl h₂.objs.size c.env)) _ (mk c.s h₃ (tk₁ + 0))
  have loop : codeAny (model c.prog c.w) c.A (.compLoop (.ListComp elt [⟨tgt, iter, ifs, 0⟩] scope pos) 0 (.ref I) (.ref Z) (compEnvC scope cl h₂.objs.size c.env)) (RR (.ref Z) h₂.objs.size) (mk c.s h₃ (tk₁ + 0)) := by
    have hZlt : Z < h₂.objs.size := (S₂.low.1 Z (.head _)).1
    have hCob : ∀ p ∈ G₁.ob, p.1 ≠ h₂.objs.size := n3.2.2.2.2
    refine hC _ h₃ (tk₁ + 0) _ I o Z iter scope pos R₃ (.tail _ m₁) n₁ (fun q => hCob _ m₁ (List.mem_singleton.mp q)) (ho.mono (List.prefix_refl _) (List.prefix_refl _) fun _ h => h) (.head _) z1 (fun q => Nat.ne_of_lt hZlt (List.mem_singleton.mp q)) (fun q => z3 _ m₁ q.symm) _ fun h' tk' G' R' K' hZ' hZa' => ?_
    obtain ⟨oC', hC1, hC2, hC3⟩ := R'.cp _ rfl
    have RL := Rep.leave (κ' := ⟨κ.X, fi', κ.q⟩) R₁ rfl hmo R' K'.la K'.oa K'.nw hZ' hZa'
    refine fin h' tk' Z h₂.objs.size oC' _ _ RL ?_ ?_ hC1 hC3 (Ite.fresh R₁ K₁ hCob) hC2
    · refine ⟨K₁.la.trans (K'.la.trans (List.prefix_append _ _)), K₁.oa.trans K'.oa, fun p h => K'.nw p (K₁.nw p h), fun e he hn hx => ?_, fun p hp hn hx => ?_⟩
      · obtain ⟨q1, q2⟩ := K₁.ls e he hn hx
        have hd := (List.nodup_append.mp R₁.st.apart.1).2.2
        have hin : e.1 ∉ Z :: I :: [h₂.objs.size] := fun q => by
          rcases List.mem_cons.mp q with q | q
          · exact z2 e q1 q
          · rcases List.mem_cons.mp q with q | q
            · exact hd e.1 (List.mem_map_of_mem (f := (·.1)) q1) I (List.mem_append_left _ (List.mem_map_of_mem (f := (·.1)) m₁)) q
            · have := (S₂.low.1 e.1 (List.mem_append_left _ (.tail _ (List.mem_map_of_mem (f := (·.1)) q1)))).1
              exact Nat.ne_of_lt this (List.mem_singleton.mp q)
        obtain ⟨q3, q4⟩ := K'.ls e (.tail _ q1) q2 hin
        refine ⟨q3, fun q => ?_⟩
        rcases List.mem_append.mp q with q | q
        · exact q4 q
        · exact z2 e q1 (List.mem_singleton.mp q)
      · obtain ⟨q1, q2⟩ := K₁.ob p hp hn hx
        have hin : p.1 ∉ Z :: I :: [h₂.objs.size] := fun q => by
          rcases List.mem_cons.mp q with q | q
          · exact z3 p q1 q
          · rcases List.mem_cons.mp q with q | q
            · exact hne p hp q
            · exact hCob p q1 (List.mem_singleton.mp q)
        obtain ⟨q3, q4⟩ := K'.ob p (.tail _ q1) q2 hin
        exact ⟨q3, q4⟩
    · show (G'.la ++ [Z])[σ₂.l.length]? = some Z
      rw [← R'.lr.l.len]; simp
  refine codeAny_compStart_list loop ?_
  exact again_it (c := c) n3.1 (.tail _ m₁) (ho.mono (List.prefix_refl _) (List.prefix_refl _) fun _ h => h) loop (AO.iter_is hit)
theorem ev_comp {elt tgt iter : PySem.Expr} {ifs : List PySem.Expr} {scope : Scope} {pos : Pos} {fi' : Fi} {it : AO} {kd : Kd} {out : List D} (hi : Ite κ σ iter it σ₁) (hit : it.iter = true) (Kf : FiK scope fi') (hfn : κ.fi.hd = true)
    (hcl : ∀ c h G, Rep κ c σ h G → c.mo = none ∧ ∃ cl, closureFor scope c.env = pure cl ∧ ∀ p ∈ fi'.cs, c.env.kindOf p.1 = some .cell ∧ ∃ a, G.oa[p.2]? = some a ∧ cl.lookup p.1 = some a)
    (hC : Cl ⟨κ.X, fi', κ.q⟩ ⟨List.replicate fi'.tb.length .unb, σ₁.l, σ₁.o⟩ tgt elt ifs it kd [] out σ₂) (hs : ∀ env x, foldedSetIterable iter env x = pure x := by intro _ _; rfl) :
    Ev κ σ (.ListComp elt [⟨tgt, iter, ifs, 0⟩] scope pos) (.ok (.lst σ₂.l.length) ⟨σ₁.v, σ₂.l ++ [(kd, out)], σ₂.o⟩) := by
  intro c h tk G R Q E post
  obtain ⟨hmo, cl, hclos, hcs⟩ := hcl c h G R
  rw [eval_ListComp]
  refine wpAny_comprehension_free (use := none) rfl (hs _) hclos Kf.kind Kf.names (comp_core (pos := pos) hi hit Kf hfn hC R hmo hcs fun h' tk' Z C oC m G' R' K' hZ hC1 hC2 hne hns => ⟨m, hns.ns (R'.st.newsO _ hC1).1, fun h'' hs => ?_⟩)
  have hex : C ∉ c.ex := by unfold Kx.ex; rw [hmo]; exact List.not_mem_nil
  obtain ⟨R2, K2⟩ := R'.hid hC2 hex (fun p hp hn => mem_rm hp hn) (R'.st.rm hC1 hs.extBut)
  refine post h'' tk' _ _ R2 ⟨K'.la.trans K2.la, K'.oa.trans K2.oa, fun p h => K2.nw p (K'.nw p h), fun e h1 h2 h3 => K'.ls e h1 h2 h3, fun p h1 h2 h3 => ?_⟩ ⟨Z, hZ, rfl⟩
  obtain ⟨q1, q2⟩ := K'.ob p h1 h2 h3
  exact ⟨mem_rm q1 (hne p h1), q2⟩
end
end Mine
end
section
namespace Mine
section
variable {κ : K} {c : Kx} {σ σ₁ σ₂ σ₃ : Sg} {h h' : Heap} {tk : Nat} {G G' : Gh} {E : Value → Shared → Prop}
theorem ex_compAsg {x : Str} {n : Nat} {px p : Pos} {elt tgt iter : PySem.Expr} {ifs : List PySem.Expr} {scope : Scope} {pos : Pos} {fi' : Fi} {it : AO} {kd : Kd} {out : List D} (hi : Ite κ σ iter it σ₁) (hit : it.iter = true) (Kf : FiK scope fi') (hfn : κ.fi.hd = true)
    (hcl : ∀ c h G, Rep κ c σ h G → c.mo = none ∧ ∃ cl, closureFor scope c.env = pure cl ∧ ∀ p ∈ fi'.cs, c.env.kindOf p.1 = some .cell ∧ ∃ a, G.oa[p.2]? = some a ∧ cl.lookup p.1 = some a)
    (hC : Cl ⟨κ.X, fi', κ.q⟩ ⟨List.replicate fi'.tb.length .unb, σ₁.l, σ₁.o⟩ tgt elt ifs it kd [] out σ₂) (hx : κ.fi.tb[n]? = some x)
    (hsw : ∀ c h G, Rep κ c σ h G → swapsWith (.ListComp elt [⟨tgt, iter, ifs, 0⟩] scope pos) (some (.Name x px)) p.line c.env = pure true) (hs : ∀ env x, foldedSetIterable iter env x = pure x := by intro _ _; rfl) :
    Ex κ σ (.Assign [.Name x px] (.ListComp elt [⟨tgt, iter, ifs, 0⟩] scope pos) p) (.ok .next ⟨σ₁.v.set n (.lst σ₂.l.length), σ₂.l ++ [(kd, out)], σ₂.o⟩) := by
  intro c h tk G R Q E post
  obtain ⟨hmo, cl, hclos, hcs⟩ := hcl c h G R
  rw [exec_Assign_Name_used _ _ _ _ (hsw c h G R)]
  refine wpAny_bind (wpAny_standAt (wpAny_bind ?_))
  show wpAny _ c.A (do let _ ← comprehension (.ListComp elt [⟨tgt, iter, ifs, 0⟩] scope pos) scope c.env _ (newList []) false (eval iter c.env) (some (assign (.Name x px) c.env))) _ _ _
  refine wpAny_bind (wpAny_mono (wpAny_comprehension_free (use := some (assign (.Name x px) c.env)) (Q := fun _ s' => Q .next s') rfl (hs _) hclos Kf.kind Kf.names
    (comp_core (pos := pos) hi hit Kf hfn hC R hmo hcs fun h' tk' Z C oC m G' R' K' hZ hC1 hC2 hne hns => ?_)) (fun _ s' hq => wpAny_pure (wpAny_pure hq)) fun _ _ e => e)
  have hex : C ∉ c.ex := by unfold Kx.ex; rw [hmo]; exact List.not_mem_nil
  show wpAny (model c.prog c.w) c.A (assign (.Name x px) c.env (.ref Z)) _ _ _
  refine wpAny_assign_Name (rep_store (v := .lst σ₂.l.length) R' hx ⟨Z, hZ, rfl⟩ fun h₂ tk₂ G₂ R₂ K₂ => ?_)
  obtain ⟨d1, d2⟩ := K₂.ob _ hC1 hC2 hex
  refine ⟨m, hns.ns (R₂.st.newsO _ d1).1, fun h'' hs => ?_⟩
  obtain ⟨R3, K3⟩ := R₂.hid d2 hex (fun p hp hn => mem_rm hp hn) (R₂.st.rm d1 hs.extBut)
  have K4 := K'.trans K₂
  refine post h'' tk₂ _ _ R3 ⟨K4.la.trans K3.la, K4.oa.trans K3.oa, fun p h => K3.nw p (K4.nw p h), fun e h1 h2 h3 => K4.ls e h1 h2 h3, fun p h1 h2 h3 => ?_⟩ rfl
  obtain ⟨q1, q2⟩ := K4.ob p h1 h2 h3
  exact ⟨mem_rm q1 (hne p h1), q2⟩
end
end Mine
end
section
namespace Mine
section
variable {κ : K} {c : Kx} {σ σ₁ σ₂ σ₃ : Sg} {h h' : Heap} {tk : Nat} {G G' : Gh} {E : Value → Shared → Prop}
theorem as_two {x y : Str} {px py tp : Pos} {n : Nat} {v v₁ v₂ : AV} (hh : κ.fi.hd = true) (hv : ∀ mg G u, VRel κ.X mg G v u → ∃ a e u₁ u₂, u = .ref a ∧ (a, tupOf [u₁, u₂] e) ∈ G.nw ∧ VRel κ.X mg G v₁ u₁ ∧ VRel κ.X mg G v₂ u₂)
    (h₁ : As κ σ (.Name x px) v₁ σ₁) (h₂ : As κ σ₁ (.Name y py) v₂ σ₂) : As κ σ (.Tuple [.Name x px, .Name y py] n tp) v σ₂ := by
  intro c h tk G R u hu Q E q
  obtain ⟨a, e, u₁, u₂, rfl, hm, r1, r2⟩ := hv _ _ _ hu
  refine r_unpack R.st (R.handled hh) (R.st.gets _ hm) rfl rfl fun h₃ S₃ => ?_
  have R₃ := R.same S₃
  refine assignInOrder_cons (h₁ c h₃ tk _ R₃ u₁ r1 _ _ fun h₄ tk₄ G₄ R₄ K₄ => ?_)
  refine assignInOrder_cons (h₂ c h₄ tk₄ _ R₄ u₂ (K₄.v r2) _ _ fun h₅ tk₅ G₅ R₅ K₅ => assignInOrder_nil ?_)
  exact q h₅ tk₅ G₅ R₅ (K₄.trans K₅)
theorem as_pi {x y : Str} {px py tp : Pos} {n : Nat} {d : D} {z : Int} (hh : κ.fi.hd = true) (h₁ : As κ σ (.Name x px) (.el .p d) σ₁) (h₂ : As κ σ₁ (.Name y py) (.int z) σ₂) : As κ σ (.Tuple [.Name x px, .Name y py] n tp) (.el .pi (d ++ [z])) σ₂ := by
  refine as_two hh (fun mg G u hu => ?_) h₁ h₂
  obtain ⟨a, e, v₁, d₁, z', t, rfl, hm, hr, hd⟩ := hu
  obtain ⟨rfl, hz⟩ := List.append_inj' hd rfl
  cases hz
  exact ⟨a, e, v₁, _, rfl, hm, hr, t, rfl⟩
theorem ow_li {es : List PySem.Expr} {n i j : Nat} {tp : Pos} {k : Kd} {d : D} (hk : k ≠ .i) : Ow (.Tuple es n tp) (.li i j) (.el k d) := by
  intro prog w A E s h tk I o X mg G u Q hI ho hu q
  obtain ⟨a, _, hl⟩ := ho
  obtain ⟨T, rfl⟩ : ∃ T, u = .ref T := by
    cases k with
    | i => exact absurd rfl hk
    | p => obtain ⟨a, _, _, _, _, _, e, _⟩ := hu; exact ⟨a, e⟩
    | pi => obtain ⟨a, _, _, _, _, _, e, _⟩ := hu; exact ⟨a, e⟩
    | kip => obtain ⟨a, _, _, _, _, _, _, _, e, _⟩ := hu; exact ⟨a, e⟩
  unfold letOwnedTupleGo
  refine wpAny_bind (wpAny_load (s := mk s h tk) hI ?_)
  rw [hl.1, hl.2]
  show wpAny _ _ (if (["enumerate", "zip", "dict_itemiterator", "dict_reverseitemiterator", "odict_iterator", "itertools.zip_longest", "itertools.pairwise"].contains "list_iterator" && _) = true then _ else _) Q E _
  rw [if_neg (by simp)]
  exact wpAny_pure q
end
end Mine
end
section
namespace Mine
section
variable {prog : Program} {w : World} {A : Around} {E : Value → Shared → Prop} {s : Shared} {h : Heap} {tk : Nat} {h₀ : Base} {L : Addr} {m : Str → Option Value} {ls : List Ent} {ob nw : Led}
end
end Mine
end
section
namespace Mine
noncomputable abbrev zo (TI TO : Addr) (f0 : Value) : Obj := { cls := .type "zip", dict := none, data := .fields #[f0, .bool false, .bool false, .ref TI, .ref TO], slots := #[] }
noncomputable abbrev po (a b : Value) : Obj := { cls := .type "tuple", data := .seq #[a, b] }
section
variable {prog : Program} {w : World} {A : Around} {E : Value → Shared → Prop} {s : Shared}
theorem nextOf_range_item {it : Addr} {x left step : Int} {Q : Value → Shared → Prop} (hit : IsRangeIter s.heap it x left step) (hleft : 0 < left)
    (hQ : ∀ h', IsRangeIter h' it (x + step) (left - 1) step → Heap.SameBut it s.heap h' → Q (.int x s.toks) { s with heap := h', toks := s.toks + 1 }) :
    wpAny (model prog w) A (Builtin.SmallTypes.nextOf (.ref it)) Q E s := by
  have hT : s.TypeIs (.ref it) "range_iterator" := ⟨_, hit, rfl⟩
  unfold Builtin.SmallTypes.nextOf
  refine wpAny_bind (wpAny_callSpecial?_slot (name := Str.ofString "__next__") hT F.slot_range_iterator_next
    (call_meets F.slot_range_iterator_next hT F.entry_range_iterator_next (F.args_range_iterator_next_1 _) (AutoRange.range_iterator___next___range_iterator_1 it x left step (by lia)) ⟨hit, ?_⟩))
  exact wpAny_pure (hQ _ (Heap.get?_update_self _ (Heap.get?_update_self _ hit rfl) rfl) ((Heap.SameBut.update ..).trans (Heap.SameBut.update ..)))
theorem nextOf_range_end {it : Addr} {x left step : Int} {Q : Value → Shared → Prop} (hh : A.handled = none) (hit : IsRangeIter s.heap it x left step) (hleft : left ≤ 0)
    (hE : ∀ h' e, (∀ b o, s.heap.get? b = some o → h'.get? b = some o) → s.heap.objs.size ≤ e → (∃ o, h'.get? e = some o ∧ o.cls = .type "StopIteration") → E (.ref e) { s with heap := h' }) : wpAny (model prog w) A (Builtin.SmallTypes.nextOf (.ref it)) Q E s := by
  have hT : s.TypeIs (.ref it) "range_iterator" := ⟨_, hit, rfl⟩
  unfold Builtin.SmallTypes.nextOf
  refine wpAny_bind (wpAny_callSpecial?_slot (name := Str.ofString "__next__") hT F.slot_range_iterator_next
    (wpAny_call_entry F.slot_range_iterator_next hT F.entry_range_iterator_next ?_ (F.args_range_iterator_next_1 _)))
  show wpAny _ _ (field (.ref it) 0 >>= _) _ _ s
  refine wpAny_bind (wpAny_field hit rfl (x := rawInt x) rfl ?_)
  show wpAny _ _ (field (.ref it) 1 >>= _) _ _ s
  refine wpAny_bind (wpAny_field hit rfl (x := rawInt left) rfl ?_)
  show wpAny _ _ (field (.ref it) 2 >>= _) _ _ s
  refine wpAny_bind (wpAny_field hit rfl (x := rawInt step) rfl ?_)
  show wpAny _ _ (if left ≤ 0 then _ else _) _ _ s
  rw [if_pos hleft]
  refine wpAny_bind (wpAny_rule ?_)
  refine wpAny_bind ?_
  show wpAny _ _ (newExc (.type "StopIteration") [] >>= _) _ _ _
  refine wpAny_bind ?_
  simp only [newExc, newTuple]
  refine wpAny_bind (wpAny_newObj_type ?_ (by size_fits))
  refine wpAny_bind (m := firstArgMember _ _) (wpAny_of_eq (a := Value.none) (by first | rfl | (simp only [firstArgMember]; rfl)) ?_)
  refine wpAny_newObj_type ?_ (by size_fits)
  simp only [raiseNew]
  refine wpAny_bind (wpAny_handled ?_)
  first | rw [show A.in1.handled = none from hh] | rw [hh]
  refine wpAny_bind (wpAny_pure (wpAny_throw ?_))
  refine hE _ _ (fun b o e => Heap.get?_push_of_some _ (Heap.get?_push_of_some _ e)) ?_ ⟨_, Heap.get?_push_size _ rfl, rfl⟩
  rw [Heap.size_push]; exact Nat.le_succ _
end
section
variable {prog : Program} {w : World} {A : Around} {E : Value → Shared → Prop} {s : Shared} {h : Heap} {tk : Nat} {h₀ : Base} {L : Addr} {m : Str → Option Value} {ls : List Ent} {ob nw : Led} {k : Kd} {ds : List D} {g : List D → List Ent}
theorem St.listAt {l : Addr} (S : St h₀ L h m ls ob nw) (U : At l k ds ls g) {j : Nat} {d : D} (hd : ds[j]? = some d) : ∃ items v, h.IsList l items ∧ items[j]? = some v ∧ RelIn nw k v d := by
  obtain ⟨vs, n, hl, hr⟩ := S.isList U
  obtain ⟨v, e, r⟩ := hr.get hd
  exact ⟨vs.toArray, v, PySem.IsL.isList (n := n) hl, by simpa using e, r⟩
theorem zip_turn {z TI TO i1 I l : Addr} {C : Addr} {oC oI : Obj} {a b : Value} {x left step : Int} {j : Nat} {d : D} {elts : List PySem.Expr} {c : Nat} {tp : Pos} {Q : Option Value → Shared → Prop}
    (S : St h₀ L h m ls ((C, oC) :: (z, zo TI TO .none) :: (TO, po a b) :: (i1, riObj x left step) :: (I, oI) :: ob) nw) (hTI : (TI, po (.ref i1) (.ref I)) ∈ nw) (hoI : IsLI oI l j) (U : At l k ds ls g) (hd : ds[j]? = some d) (hleft : 0 < left)
    (q : ∀ T s₁, wpAny (model prog w) A (letOwnedTupleGo (.Tuple elts c tp) (.ref z) (.ref T)) (fun _ s₂ => ∃ h₂ tk₂ t v oI', s₂ = mk s h₂ tk₂ ∧ h₂.get? T = some (tupOf [.int x t, v] 0) ∧ RelIn nw k v d ∧ IsLI oI' l (j + 1) ∧
      St h₀ L h₂ m ls ((C, oC) :: (z, zo TI TO .none) :: (TO, po (.int x t) v) :: (i1, riObj (x + step) (left - 1) step) :: (I, oI') :: ob) nw) E s₁ → Q (some (.ref T)) s₁) :
    wpAny (model prog w) A (pyNext (.ref z)) Q E (mk s h tk) := by
  have hz : IsZip h z TI TO .none := S.getO (.tail .head)
  have hT : (mk s h tk).TypeIs (.ref z) "zip" := ⟨_, hz, rfl⟩
  have hti : h.get? TI = some (po (.ref i1) (.ref I)) := S.gets _ hTI
  unfold pyNext
  refine wpAny_bind (wpAny_attempt (wpAny_callSpecial?_slot (name := Str.ofString "__next__") hT F.slot_zip_next
    (wpAny_call_entry F.slot_zip_next hT F.entry_zip_next ?_ (F.args_zip_next_1 _))))
  show wpAny _ _ (field (.ref z) 2 >>= _) _ _ _
  refine wpAny_bind (wpAny_field hz rfl (x := .bool false) rfl ?_)
  show wpAny _ _ (field (.ref z) 3 >>= _) _ _ _
  refine wpAny_bind (wpAny_field hz rfl (x := .ref TI) rfl ?_)
  refine wpAny_bind (wpAny_seqItems hti rfl ?_)
  show wpAny _ _ (Builtin.SmallTypes.ownedTupleIsFree (.ref z) >>= _) _ _ _
  refine wpAny_bind ?_
  unfold Builtin.SmallTypes.ownedTupleIsFree
  refine wpAny_bind (wpAny_field hz rfl (x := .none) rfl (wpAny_pure ?_))
  simp only [if_true]
  refine wpAny_bind (wpAny_rule ?_)
  refine wpAny_bind (wpAny_field hz rfl (x := .ref TO) rfl ?_)
  refine wpAny_bind (wpAny_setField_rec hz (by simp) fun h₁ hz₁ hs₁ => ?_)
  have S1 : St h₀ L h₁ m ls ((C, oC) :: (z, zo TI TO .ellipsis) :: (TO, po a b) :: (i1, riObj x left step) :: (I, oI) :: ob) nw := S.turned (.tail .head) hs₁ hz₁
  refine wpAny_bind ?_
  simp only [List.zipIdx_cons, List.zipIdx_nil, List.forIn_cons, List.forIn_nil]
  refine wpAny_bind (wpAny_bind (wpAny_onRaise ?_))
  show wpAny _ _ (Builtin.SmallTypes.nextOf (.ref i1) >>= _) _ _ _
  refine wpAny_bind (nextOf_range_item (s := mk s h₁ tk) (S1.getO (.tail (.tail (.tail .head)))) hleft fun h₂ hi₂ hs₂ => wpAny_pure ?_)
  have S2 : St h₀ L h₂ m ls ((C, oC) :: (z, zo TI TO .ellipsis) :: (TO, po a b) :: (i1, riObj (x + step) (left - 1) step) :: (I, oI) :: ob) nw := S1.turned (.tail (.tail (.tail .head))) hs₂ hi₂
  have hTO₂ : IsPair h₂ TO a b := S2.getO (.tail (.tail .head))
  refine wpAny_bind (wpAny_seqItems hTO₂ rfl ?_)
  refine wpAny_bind (wpAny_updateSeq_pair (s := mk s h₂ (tk + 1)) hTO₂ fun h₃ hTO₃ hs₃ => ?_)
  have S3 : St h₀ L h₃ m ls ((C, oC) :: (z, zo TI TO .ellipsis) :: (TO, po (.int x tk) b) :: (i1, riObj (x + step) (left - 1) step) :: (I, oI) :: ob) nw := S2.turned (.tail (.tail .head)) hs₃ hTO₃
  refine wpAny_bind (wpAny_letGo (wpAny_pure ?_))
  refine wpAny_bind (wpAny_bind (wpAny_onRaise ?_))
  show wpAny _ _ (Builtin.SmallTypes.nextOf (.ref I) >>= _) _ _ _
  obtain ⟨items, v, hl, hv, hr⟩ := S3.listAt U hd
  refine wpAny_bind (wpAny_nextOf_list_item (s := mk s h₃ (tk + 1)) ⟨oI, S3.getO (.tail (.tail (.tail (.tail .head)))), hoI.1, hoI.2⟩ hl hv fun h₄ hi₄ hs₄ => wpAny_pure ?_)
  obtain ⟨oI', g1, g2, g3⟩ := hi₄
  have S4 : St h₀ L h₄ m ls ((C, oC) :: (z, zo TI TO .ellipsis) :: (TO, po (.int x tk) b) :: (i1, riObj (x + step) (left - 1) step) :: (I, oI') :: ob) nw := S3.turned (.tail (.tail (.tail (.tail .head)))) hs₄ g1
  have hTO₄ : IsPair h₄ TO (.int x tk) b := S4.getO (.tail (.tail .head))
  refine wpAny_bind (wpAny_seqItems hTO₄ rfl ?_)
  refine wpAny_bind (wpAny_updateSeq_pair (s := mk s h₄ (tk + 1)) hTO₄ fun h₅ hTO₅ hs₅ => ?_)
  have S5 : St h₀ L h₅ m ls ((C, oC) :: (z, zo TI TO .ellipsis) :: (TO, po (.int x tk) v) :: (i1, riObj (x + step) (left - 1) step) :: (I, oI') :: ob) nw := S4.turned (.tail (.tail .head)) hs₅ hTO₅
  refine wpAny_bind (wpAny_letGo (wpAny_pure (wpAny_pure ?_)))
  have hTO₅' : IsPair h₅ TO (.int x tk) v := S5.getO (.tail (.tail .head))
  refine wpAny_bind (wpAny_seqItems hTO₅' rfl ?_)
  refine wpAny_bind (wpAny_newTuple ?_)
  have S6 : St h₀ L (h₅.push (po (.int x tk) v)) m ls ((C, oC) :: (z, zo TI TO .ellipsis) :: (TO, po (.int x tk) v) :: (i1, riObj (x + step) (left - 1) step) :: (I, oI') :: ob) nw := S5.grown fun _ _ e => Heap.get?_push_of_some _ e
  have hT6 : (h₅.push (po (.int x tk) v)).get? h₅.objs.size = some (po (.int x tk) v) := Heap.get?_push_size _ rfl
  have hzT : h₅.objs.size ≠ z := Nat.ne_of_gt (Heap.lt_size (S5.getO (.tail .head)))
  show wpAny _ _ (Builtin.SmallTypes.ownedTupleHandOut (.ref z) (.ref h₅.objs.size) >>= _) _ _ _
  refine wpAny_bind ?_
  unfold Builtin.SmallTypes.ownedTupleHandOut
  have hz₆ : IsZip (h₅.push (po (.int x tk) v)) z TI TO .ellipsis := S6.getO (.tail .head)
  refine wpAny_bind (wpAny_setField_rec (s := mk s (h₅.push (po (.int x tk) v)) (tk + 1)) hz₆ (by simp) fun h₇ hz₇ hs₇ => ?_)
  have S7 : St h₀ L h₇ m ls ((C, oC) :: (z, zo TI TO (rawInt h₅.objs.size)) :: (TO, po (.int x tk) v) :: (i1, riObj (x + step) (left - 1) step) :: (I, oI') :: ob) nw := S6.turned (.tail .head) hs₇ hz₇
  have hz₇' : IsZip h₇ z TI TO (rawInt h₅.objs.size) := S7.getO (.tail .head)
  refine wpAny_setField_rec (s := mk s h₇ (tk + 1)) hz₇' (by simp) fun h₈ hz₈ hs₈ => ?_
  have S8 : St h₀ L h₈ m ls ((C, oC) :: (z, zo TI TO (rawInt h₅.objs.size)) :: (TO, po (.int x tk) v) :: (i1, riObj (x + step) (left - 1) step) :: (I, oI') :: ob) nw := S7.turned (.tail .head) hs₈ hz₈
  have hT8 : h₈.get? h₅.objs.size = some (po (.int x tk) v) := hs₈.extBut _ _ hzT (hs₇.extBut _ _ hzT hT6)
  refine wpAny_pure ⟨_, rfl, wpAny_pure ?_⟩
  refine q h₅.objs.size _ ?_
  refine wpAny_letOwnedTupleGo_zip (s := mk s h₈ (tk + 1)) (S8.getO (.tail .head)) fun h₉ hz₉ hs₉ => ?_
  exact ⟨h₉, tk + 1, tk, v, oI', rfl, hs₉.extBut _ _ hzT hT8, hr, ⟨g2, g3⟩, S8.turned (.tail .head) hs₉ hz₉⟩
theorem zip_stop {z TI TO i1 I : Addr} {C : Addr} {oC oI : Obj} {a b : Value} {x left step : Int} {Q : Option Value → Shared → Prop} (hh : A.handled = none)
    (S : St h₀ L h m ls ((C, oC) :: (z, zo TI TO .none) :: (TO, po a b) :: (i1, riObj x left step) :: (I, oI) :: ob) nw) (hTI : (TI, po (.ref i1) (.ref I)) ∈ nw) (hleft : left ≤ 0)
    (q : ∀ h₁, St h₀ L h₁ m ls ((C, oC) :: (z, zo TI TO .none) :: (TO, po a b) :: (i1, riObj x left step) :: (I, oI) :: ob) nw → Q none (mk s h₁ tk)) :
    wpAny (model prog w) A (pyNext (.ref z)) Q E (mk s h tk) := by
  have hz : IsZip h z TI TO .none := S.getO (.tail .head)
  have hT : (mk s h tk).TypeIs (.ref z) "zip" := ⟨_, hz, rfl⟩
  have hti : h.get? TI = some (po (.ref i1) (.ref I)) := S.gets _ hTI
  unfold pyNext
  refine wpAny_bind (wpAny_attempt (wpAny_callSpecial?_slot (name := Str.ofString "__next__") hT F.slot_zip_next
    (wpAny_call_entry F.slot_zip_next hT F.entry_zip_next ?_ (F.args_zip_next_1 _))))
  show wpAny _ _ (field (.ref z) 2 >>= _) _ _ _
  refine wpAny_bind (wpAny_field hz rfl (x := .bool false) rfl ?_)
  show wpAny _ _ (field (.ref z) 3 >>= _) _ _ _
  refine wpAny_bind (wpAny_field hz rfl (x := .ref TI) rfl ?_)
  refine wpAny_bind (wpAny_seqItems hti rfl ?_)
  show wpAny _ _ (Builtin.SmallTypes.ownedTupleIsFree (.ref z) >>= _) _ _ _
  refine wpAny_bind ?_
  unfold Builtin.SmallTypes.ownedTupleIsFree
  refine wpAny_bind (wpAny_field hz rfl (x := .none) rfl (wpAny_pure ?_))
  simp only [if_true]
  refine wpAny_bind (wpAny_rule ?_)
  refine wpAny_bind (wpAny_field hz rfl (x := .ref TO) rfl ?_)
  refine wpAny_bind (wpAny_setField_rec hz (by simp) fun h₁ hz₁ hs₁ => ?_)
  have S1 : St h₀ L h₁ m ls ((C, oC) :: (z, zo TI TO .ellipsis) :: (TO, po a b) :: (i1, riObj x left step) :: (I, oI) :: ob) nw := S.turned (.tail .head) hs₁ hz₁
  refine wpAny_bind ?_
  simp only [List.zipIdx_cons, List.zipIdx_nil, List.forIn_cons, List.forIn_nil]
  refine wpAny_bind (wpAny_bind (wpAny_onRaise ?_))
  show wpAny _ _ (Builtin.SmallTypes.nextOf (.ref i1) >>= _) _ _ _
  refine wpAny_bind (nextOf_range_end (s := mk s h₁ tk) hh (S1.getO (.tail (.tail (.tail .head)))) hleft fun h₂ e hk he hoe => ?_)
  have S2 := S1.grown hk
  obtain ⟨oe, hoe, hce⟩ := hoe
  have hez : e ≠ z := Nat.ne_of_gt (Nat.lt_of_lt_of_le (Heap.lt_size (S1.getO (.tail .head))) he)
  have hz₂ : IsZip h₂ z TI TO .ellipsis := S2.getO (.tail .head)
  refine wpAny_setField_rec (s := mk s h₂ tk) hz₂ (by simp) fun h₃ hz₃ hs₃ => ?_
  have S3 : St h₀ L h₃ m ls ((C, oC) :: (z, zo TI TO .none) :: (TO, po a b) :: (i1, riObj x left step) :: (I, oI) :: ob) nw := S2.turned (.tail .head) hs₃ hz₃
  refine wpAny_bind (wpAny_isInstance (T := "StopIteration") (b := true) ⟨oe, hs₃.extBut _ _ hez hoe, hce⟩ isSubtype_stop ?_)
  exact wpAny_pure (q h₃ S3)
theorem meets_zip_ri (r I l : Addr) (j : Nat) (a b c : Int) (t u v : Tok) (hsm : Builtin.Range.small a b c = true) :
    Meets (Builtin.«zip.__new__» ⟨[.type "zip", .ref r, .ref I], []⟩) (fun _ R s => IsRange s.heap r a b c t u v ∧ s.heap.IsListIter I l j ∧
      R (.ok (.ret (.ref (s.heap.objs.size + 3)))) { s with heap := (((s.heap.push (riObj a (Builtin.Range.rangeSize a b c) c)).push (po (.ref s.heap.objs.size) (.ref I))).push (po .none .none)).push (zo (s.heap.objs.size + 1) (s.heap.objs.size + 2) .none) }) :=
  .of_wp fun prog w A R s h => by
    obtain ⟨hp, g, d, tk, os⟩ := s; obtain ⟨hl1, hl2, h⟩ := h
    have hsub := sub_zip
    have hL1 : IsRange (Shared.heap ⟨hp, g, d, tk, os⟩) r a b c t u v := hl1
    have hL2 : Heap.IsListIter (Shared.heap ⟨hp.push { cls := .type "range_iterator", data := .fields #[rawInt a, rawInt (Builtin.Range.rangeSize a b c), rawInt c] }, g, d, tk, os⟩) I l j := by
      obtain ⟨o, e1, e2, e3⟩ := hl2
      exact ⟨o, Heap.get?_push_of_some _ e1, e2, e3⟩
    wp_walk using wpAny_pyIter_range hL1 hsm, wpAny_pyIter_listiter hL2
    refine ⟨_, rfl, ?_⟩
    simp only [Heap.size_push]
    exact h
theorem r_zip {r I l : Addr} {oI : Obj} {j n : Nat} {a b c : Int} {t u v : Tok} {Q : Value → Shared → Prop} (S : St h₀ L h m ls ((r, rgObj a b c t u v) :: (I, oI) :: ob) nw) (hoI : IsLI oI l j) (hsm : Builtin.Range.small a b c = true) (hn : Builtin.Range.rangeSize a b c = (n : Int))
    (q : ∀ z TI TO i1 h', St h₀ L h' m ls ((z, zo TI TO .none) :: (TO, po .none .none) :: (i1, riObj a n c) :: (I, oI) :: ob) ((TI, po (.ref i1) (.ref I)) :: nw) → Q (.ref z) (mk s h' tk)) :
    wpAny (model prog w) A (call (.type "zip") [.ref r, .ref I]) Q E (mk s h tk) := by
  refine callType_new F.called_zip (by decide) (F.typeCall_zip_2 _ _) (F.newCall_zip_2 _ _) (fun obj => F.args_object_init_3 obj _ _) F.entry_zip_new
    (meets_zip_ri r I l j a b c t u v hsm) ⟨S.getO .head, ⟨oI, S.getO (.tail .head), hoI.1, hoI.2⟩, ?_⟩
  rw [hn]
  have S0 := S.dropO
  have S1 : St h₀ L (h.push (riObj a n c)) m ls ((h.objs.size, riObj a n c) :: (I, oI) :: ob) nw := S0.addO (fun _ _ e => Heap.get?_push_of_some _ e) (Nat.le_refl _) (Heap.get?_push_size _ rfl)
  have z1 : (h.push (riObj a n c)).objs.size = h.objs.size + 1 := Heap.size_push ..
  have S2 : St h₀ L ((h.push (riObj a n c)).push (po (.ref h.objs.size) (.ref I))) m ls ((h.objs.size, riObj a n c) :: (I, oI) :: ob) ((h.objs.size + 1, po (.ref h.objs.size) (.ref I)) :: nw) :=
    S1.addN (fun _ _ e => Heap.get?_push_of_some _ e) (Nat.le_of_eq z1) (by rw [← z1]; exact Heap.get?_push_size _ rfl)
  have z2 : ((h.push (riObj a n c)).push (po (.ref h.objs.size) (.ref I))).objs.size = h.objs.size + 2 := by rw [Heap.size_push, z1]
  have S3 : St h₀ L (((h.push (riObj a n c)).push (po (.ref h.objs.size) (.ref I))).push (po .none .none)) m ls ((h.objs.size + 2, po .none .none) :: (h.objs.size, riObj a n c) :: (I, oI) :: ob) ((h.objs.size + 1, po (.ref h.objs.size) (.ref I)) :: nw) :=
    S2.addO (fun _ _ e => Heap.get?_push_of_some _ e) (Nat.le_of_eq z2) (by rw [← z2]; exact Heap.get?_push_size _ rfl)
  have z3 : (((h.push (riObj a n c)).push (po (.ref h.objs.size) (.ref I))).push (po .none .none)).objs.size = h.objs.size + 3 := by rw [Heap.size_push, z2]
  have S4 := S3.addO (a := h.objs.size + 3) (o := zo (h.objs.size + 1) (h.objs.size + 2) .none) (fun _ _ e => Heap.get?_push_of_some (zo (h.objs.size + 1) (h.objs.size + 2) .none) e) (Nat.le_of_eq z3) (by rw [← z3]; exact Heap.get?_push_size _ rfl)
  exact ⟨⟨_, S4.getO .head, rfl⟩, q _ _ _ _ _ S4⟩
theorem r_pyIterL {l : Addr} {Q : Value → Shared → Prop} (S : St h₀ L h m ls ob nw) (U : At l k ds ls g) (q : ∀ I oI h', IsLI oI l 0 → St h₀ L h' m ls ((I, oI) :: ob) nw → Q (.ref I) (mk s h' tk)) : wpAny (model prog w) A (pyIter (.ref l)) Q E (mk s h tk) := by
  obtain ⟨vs, n, hl, hr⟩ := S.isList U
  refine wpAny_pyIter_list (s := mk s h tk) (PySem.IsL.isList (n := n) hl) ?_
  exact q _ _ _ ⟨rfl, rfl⟩ (S.addO (fun _ _ e => Heap.get?_push_of_some _ e) (Nat.le_refl _) (Heap.get?_push_size _ rfl))
theorem r_pyIterLI {I l : Addr} {oI : Obj} {j : Nat} {gO : Obj → Led} {Q : Value → Shared → Prop} (S : St h₀ L h m ls ob nw) (UO : AtO I oI ob gO) (hoI : IsLI oI l j) (q : Q (.ref I) (mk s h tk)) : wpAny (model prog w) A (pyIter (.ref I)) Q E (mk s h tk) :=
  wpAny_pyIter_listiter (s := mk s h tk) ⟨oI, S.getO UO, hoI.1, hoI.2⟩ q
theorem r_iter {l : Addr} {Q : Value → Shared → Prop} (S : St h₀ L h m ls ob nw) (U : At l k ds ls g) (q : ∀ I oI h', IsLI oI l 0 → St h₀ L h' m ls ((I, oI) :: ob) nw → Q (.ref I) (mk s h' tk)) : wpAny (model prog w) A (call (.builtin "iter") [.ref l]) Q E (mk s h tk) := by
  refine Calls.call_function_entry (id := "iter") (b := Builtin.«iter») (by decide +kernel) (by decide +kernel) (entryFor_of_tree (by kernel_rfl)) (by unfold argsOk; kernel_rfl) ?_
  show wpAny (model prog w) _ (do let it ← pyIter (.ref l); ret it) _ _ _
  exact wpAny_bind (r_pyIterL S U fun I oI h' ho S' => wpAny_pure ⟨_, rfl, q I oI h' ho S'⟩)
end
end Mine
end
section
namespace Mine
noncomputable def ev {α : Type} (lt : Nat → Nat → Bool) : KasT α → α
  | .ret a => a
  | .ask i j k => ev lt (k (lt i j))
theorem ev_bind {α β : Type} {lt : Nat → Nat → Bool} {f : α → KasT β} : ∀ t : KasT α, ev lt (t.bind f) = ev lt (f (ev lt t))
  | .ret _ => rfl
  | .ask i j k => ev_bind (k (lt i j))
structure Swo (lt : Nat → Nat → Bool) : Prop where
  irr : ∀ a, lt a a = false
  tr : ∀ a b c, lt a b = true → lt b c = true → lt a c = true
  le_tr : ∀ a b c, lt b a = false → lt c b = false → lt c a = false
variable {lt : Nat → Nat → Bool}
theorem Swo.asym (W : Swo lt) {a b : Nat} (h : lt a b = true) : lt b a = false := by
  cases h' : lt b a with
  | false => rfl
  | true => have := W.tr _ _ _ h h'; rw [W.irr] at this; cases this
theorem Swo.lt_le (W : Swo lt) {a b c : Nat} (h : lt a b = true) (h' : lt c b = false) : lt a c = true := by
  cases q : lt a c with
  | true => rfl
  | false => have := W.le_tr _ _ _ h' q; rw [this] at h; cases h
theorem Swo.le_lt (W : Swo lt) {a b c : Nat} (h : lt b a = false) (h' : lt b c = true) : lt a c = true := by
  cases q : lt a c with
  | true => rfl
  | false => have := W.le_tr _ _ _ q h; rw [this] at h'; cases h'
noncomputable def Bef (lt : Nat → Nat → Bool) (a b : Nat) : Prop := lt a b = true ∨ (lt b a = false ∧ a < b)
theorem Bef.le (W : Swo lt) {a b : Nat} (h : Bef lt a b) : lt b a = false := by
  rcases h with h | h
  · exact W.asym h
  · exact h.1
theorem gt_rev {p : Array Nat} {i j : Nat} (hj : j ≤ p.size) (k : Nat) : (kas_rev p i j).getD k 0 = if i ≤ k ∧ k < j then p.getD (i + j - 1 - k) 0 else p.getD k 0 := by
  simp only [Array.getD_eq_getD_getElem?]
  unfold kas_rev
  rw [getElem?_mirror_all hj]
  split <;> rfl
theorem gt_bub {p : Array Nat} {src d : Nat} (hs : src < p.size) (hd : d ≤ src) (k : Nat) : (bubble p src d).getD k 0 = if k = src - d then p.getD src 0 else if src - d < k ∧ k ≤ src then p.getD (k - 1) 0 else p.getD k 0 := by
  simp only [Array.getD_eq_getD_getElem?]
  rw [getElem?_bubble hs d hd]
  split
  · rfl
  · split <;> rfl
theorem rev_size {p : Array Nat} {i j : Nat} : (kas_rev p i j).size = p.size := mirror_size _ _ _ _
theorem rev_perm {p : Array Nat} {i j : Nat} : (kas_rev p i j).toList.Perm p.toList := (mirror_perm p i j _).toList
theorem mi1 {lo n k : Nat} (h : k < n) : lo ≤ lo + n - 1 - k := by
  rw [Nat.add_sub_assoc (Nat.lt_of_le_of_lt (Nat.zero_le k) h) lo]
  exact Nat.le_sub_of_add_le (Nat.add_le_add_left (Nat.le_pred_of_lt h) lo)
theorem mi2 {lo n k : Nat} (h : lo ≤ k) (h0 : 0 < n) : lo + n - 1 - k < n := by
  rw [Nat.add_sub_assoc h0 lo]
  exact Nat.lt_of_le_of_lt (Nat.sub_le_sub_left h _) (by rw [Nat.add_sub_cancel_left]; exact Nat.sub_lt h0 (by decide))
theorem mi3 {lo n i j : Nat} (h : i < j) (hj : j < n) : lo + n - 1 - j < lo + n - 1 - i := by
  refine Nat.sub_lt_sub_left (Nat.lt_of_lt_of_le h (Nat.le_trans (Nat.le_pred_of_lt hj) ?_)) h
  rw [Nat.add_sub_assoc (Nat.lt_of_le_of_lt (Nat.zero_le j) hj) lo]
  exact Nat.le_add_left _ _
theorem f_lt {f N n : Nat} (hf : f + 1 = N - n) : n < N := Nat.lt_of_sub_pos (by rw [← hf]; exact Nat.succ_pos f)
theorem f_step {f N n : Nat} (hf : f + 1 = N - n) : f = N - (n + 1) := by rw [← Nat.sub_sub, ← hf]; rfl
theorem mid_ge {l r : Nat} (h : l < r) : l ≤ (l + r) / 2 := (Nat.le_div_iff_mul_le (by decide)).mpr (by rw [Nat.mul_two]; exact Nat.add_le_add_left (Nat.le_of_lt h) l)
theorem mid_lt {l r : Nat} (h : l < r) : (l + r) / 2 < r := (Nat.div_lt_iff_lt_mul (by decide)).mpr (by rw [Nat.mul_two]; exact Nat.add_lt_add_right h r)
theorem pr_lt {j : Nat} (h : 0 < j) : j - 1 < j := Nat.sub_lt h (by decide)
theorem lt_pr {i n : Nat} (h : i < n) (e : ¬ i = n - 1) : i < n - 1 := Nat.lt_of_le_of_ne (Nat.le_pred_of_lt h) e
theorem pr_lt2 {j k : Nat} (h : 0 < j) (hj : j < k + 1) : j - 1 < k := Nat.lt_of_lt_of_le (pr_lt h) (Nat.le_of_lt_succ hj)
theorem lo_le {n q : Nat} : n - q - 1 ≤ n - 1 := Nat.sub_le_sub_right (Nat.sub_le n q) 1
theorem pos_of {i j : Nat} (h : i < j) : 0 < j := Nat.lt_of_le_of_lt (Nat.zero_le i) h
structure Up (lt : Nat → Nat → Bool) (N : Nat) (p : Array Nat) (k : Nat) : Prop where
  size : p.size = N
  kN : k ≤ N
  perm : p.toList.Perm (List.range N)
  srt : ∀ i j, i < j → j < k → Bef lt (p.getD i 0) (p.getD j 0)
  low : ∀ i, i < k → p.getD i 0 < k
  rest : ∀ i, k ≤ i → i < N → p.getD i 0 = i
theorem asc_ev (W : Swo lt) {N : Nat} {p : Array Nat} : ∀ (f n : Nat), f = N - n → 0 < n → Up lt N p n → n ≤ ev lt (kas_asc p f n) ∧ Up lt N p (ev lt (kas_asc p f n)) ∧ (ev lt (kas_asc p f n) < N → lt (p.getD (ev lt (kas_asc p f n)) 0) (p.getD (ev lt (kas_asc p f n) - 1) 0) = true)
  | 0, n, hf, h0, U => by
    have := U.kN
    exact ⟨Nat.le_refl _, U, fun h => absurd (show n < N from h) (Nat.not_lt_of_ge (Nat.le_of_sub_eq_zero hf.symm))⟩
  | f + 1, n, hf, h0, U => by
    simp only [kas_asc, ev]
    cases hc : lt (p.getD n 0) (p.getD (n - 1) 0) with
    | true => exact ⟨Nat.le_refl _, U, fun _ => hc⟩
    | false =>
      simp only [Bool.false_eq_true, if_false]
      have hN := f_lt hf
      have hn := U.rest n (Nat.le_refl _) hN
      have U' : Up lt N p (n + 1) := by
        refine ⟨U.size, hN, U.perm, fun i j hij hj => ?_, fun i hi => ?_, fun i h1 h2 => U.rest i (Nat.le_of_succ_le h1) h2⟩
        · by_cases e : j = n
          · subst e
            have hlow := U.low i hij
            have hle : lt (p.getD j 0) (p.getD i 0) = false := by
              by_cases e' : i = j - 1
              · subst e'; exact hc
              · exact W.le_tr _ _ _ ((U.srt i (j - 1) (lt_pr hij e') (pr_lt h0)).le W) hc
            exact .inr ⟨hle, by rw [hn]; exact hlow⟩
          · exact U.srt i j hij (by lia)
        · by_cases e : i = n
          · subst e; lia
          · have := U.low i (by lia); lia
      obtain ⟨a, b, c⟩ := asc_ev W f (n + 1) (f_step hf) (Nat.succ_pos n) U'
      exact ⟨Nat.le_of_succ_le a, b, c⟩
structure Dn (lt : Nat → Nat → Bool) (N : Nat) (p : Array Nat) (n q : Nat) : Prop where
  size : p.size = N
  nN : n ≤ N
  qn : q + 1 ≤ n
  perm : p.toList.Perm (List.range N)
  c1 : ∀ i j, i < j → j < n - q - 1 → Bef lt (p.getD j 0) (p.getD i 0)
  c2 : ∀ i j, i < n - q - 1 → n - q - 1 ≤ j → j < n → lt (p.getD j 0) (p.getD i 0) = true
  d1 : ∀ i, n - q - 1 ≤ i → i < N → p.getD i 0 = i
  d2 : ∀ i j, n - q - 1 ≤ i → i < n → n - q - 1 ≤ j → j < n → lt (p.getD i 0) (p.getD j 0) = false
  low : ∀ i, i < n → p.getD i 0 < n
structure Dd (lt : Nat → Nat → Bool) (N : Nat) (p : Array Nat) (n : Nat) : Prop where
  size : p.size = N
  nN : n ≤ N
  perm : p.toList.Perm (List.range N)
  c : ∀ i j, i < j → j < n → Bef lt (p.getD j 0) (p.getD i 0)
  rest : ∀ i, n ≤ i → i < N → p.getD i 0 = i
  low : ∀ i, i < n → p.getD i 0 < n
theorem Dn.turn {N : Nat} {p : Array Nat} {n q : Nat} (h : Dn lt N p n q) : Dd lt N (if q > 0 then kas_rev p (n - (q + 1)) n else p) n := by
  have hq := h.qn
  have hn := h.nN
  have n0 := pos_of hq
  have key : ∀ k, (if q > 0 then kas_rev p (n - (q + 1)) n else p).getD k 0 = if n - q - 1 ≤ k ∧ k < n then p.getD (n - q - 1 + n - 1 - k) 0 else p.getD k 0 := by
    intro k
    by_cases hq0 : q > 0
    · rw [if_pos hq0, gt_rev (by rw [h.size]; exact hn), ← Nat.sub_sub n q 1]
    · rw [if_neg hq0]
      split
      · rename_i hk
        have q0 : q = 0 := Nat.eq_zero_of_not_pos hq0
        subst q0
        have e : k = n - 1 := Nat.le_antisymm (Nat.le_pred_of_lt hk.2) hk.1
        refine congrArg (fun x => p.getD x 0) (e.trans ?_)
        rw [Nat.add_sub_assoc n0, e]
        exact (Nat.add_sub_cancel (n := n - 1) (m := n - 1)).symm
      · rfl
  refine ⟨?_, hn, ?_, fun i j hij hj => ?_, fun i h1 h2 => ?_, fun i hi => ?_⟩
  · split
    · rw [rev_size]; exact h.size
    · exact h.size
  · split
    · exact rev_perm.trans h.perm
    · exact h.perm
  · rw [key, key]
    by_cases h1 : n - q - 1 ≤ i
    · have hji := Nat.le_trans h1 (Nat.le_of_lt hij)
      have hi := Nat.lt_trans hij hj
      rw [if_pos ⟨hji, hj⟩, if_pos ⟨h1, hi⟩]
      refine .inr ⟨h.d2 _ _ (mi1 hi) (mi2 h1 n0) (mi1 hj) (mi2 hji n0), ?_⟩
      rw [h.d1 _ (mi1 hj) (Nat.lt_of_lt_of_le (mi2 hji n0) hn), h.d1 _ (mi1 hi) (Nat.lt_of_lt_of_le (mi2 h1 n0) hn)]
      exact mi3 hij hj
    · rw [if_neg (show ¬ (n - q - 1 ≤ i ∧ i < n) from fun x => h1 x.1)]
      by_cases h2 : n - q - 1 ≤ j
      · rw [if_pos ⟨h2, hj⟩]
        exact .inl (h.c2 _ _ (Nat.lt_of_not_le h1) (mi1 hj) (mi2 h2 n0))
      · rw [if_neg fun x => h2 x.1]
        exact h.c1 _ _ hij (Nat.lt_of_not_le h2)
  · rw [key, if_neg fun x => absurd x.2 (Nat.not_lt_of_ge h1)]; exact h.d1 i (Nat.le_trans (Nat.le_trans lo_le (Nat.sub_le n 1)) h1) h2
  · rw [key]
    split
    · rename_i g; exact h.low _ (mi2 g.1 n0)
    · exact h.low _ hi
theorem Dd.more (W : Swo lt) {N : Nat} {p : Array Nat} {n : Nat} (h : Dd lt N p n) (h0 : 0 < n) (hn : n < N) (hl : lt (p.getD n 0) (p.getD (n - 1) 0) = true) : Dn lt N p (n + 1) 0 := by
  have all : ∀ i, i < n → lt (p.getD n 0) (p.getD i 0) = true := fun i hi => by
    by_cases e : i = n - 1
    · subst e; exact hl
    · exact W.lt_le hl ((h.c i (n - 1) (lt_pr hi e) (pr_lt h0)).le W)
  refine ⟨h.size, by lia, by lia, h.perm, fun i j hij hj => h.c i j hij (by lia), fun i j h1 h2 h3 => ?_, fun i h1 h2 => h.rest i (by lia) h2, fun i j h1 h2 h3 h4 => ?_, fun i hi => ?_⟩
  · have e : j = n := by lia
    subst e
    exact all i (by lia)
  · have e : i = n := by lia
    have e' : j = n := by lia
    subst e; subst e'
    exact W.irr _
  · by_cases e : i = n
    · subst e; rw [h.rest _ (Nat.le_refl _) hn]; lia
    · have := h.low i (by lia); lia
theorem desc_ev (W : Swo lt) {N : Nat} : ∀ (f : Nat) (p : Array Nat) (n q : Nat), f = N - n → Dn lt N p n q → ∃ p' n' q', ev lt (kas_desc f p n q) = (p', n', q') ∧ Dn lt N p' n' q'
  | 0, p, n, q, hf, h => ⟨p, n, q, rfl, h⟩
  | f + 1, p, n, q, hf, h => by
    have hnN : n < N := f_lt hf
    have hq := h.qn
    have n0 := pos_of hq
    have hp := pr_lt n0
    have hlo : n - q - 1 ≤ n := Nat.le_trans lo_le (Nat.sub_le n 1)
    simp only [kas_desc, ev]
    cases hc : lt (p.getD n 0) (p.getD (n - 1) 0) with
    | true =>
      simp only [if_true]
      have T := h.turn
      have hpn : (if q > 0 then kas_rev p (n - (q + 1)) n else p).getD n 0 = p.getD n 0 := by rw [T.rest n (Nat.le_refl _) hnN, h.d1 n hlo hnN]
      have D := T.more W n0 hnN (by
        rw [hpn]
        by_cases hq0 : q > 0
        · have hb : n - (q + 1) ≤ n - 1 := Nat.sub_le_sub_left (Nat.le_add_left 1 q) n
          rw [if_pos hq0, gt_rev (by rw [h.size]; exact Nat.le_of_lt hnN), if_pos ⟨hb, hp⟩]
          exact W.lt_le hc (h.d2 _ _ (by rw [Nat.sub_sub]; exact mi1 hp) (mi2 hb n0) lo_le hp)
        · rw [if_neg hq0]; exact hc)
      have := desc_ev W f _ (n + 1) 0 (f_step hf) D
      split
      · rename_i hq0; rw [if_pos hq0] at this; exact this
      · rename_i hq0; rw [if_neg hq0] at this; exact this
    | false =>
      simp only [Bool.false_eq_true, if_false, ev]
      cases hd : lt (p.getD (n - 1) 0) (p.getD n 0) with
      | true => exact ⟨p, n, q, rfl, h⟩
      | false =>
        simp only [Bool.false_eq_true, if_false]
        refine desc_ev W f p (n + 1) (q + 1) (f_step hf) ?_
        have same : ∀ i, n - q - 1 ≤ i → i < n → lt (p.getD n 0) (p.getD i 0) = false ∧ lt (p.getD i 0) (p.getD n 0) = false := fun i h1 h2 =>
          ⟨W.le_tr _ _ _ (h.d2 (n - 1) i lo_le hp h1 h2) hc, W.le_tr _ _ _ hd (h.d2 i (n - 1) h1 h2 lo_le hp)⟩
        refine ⟨h.size, by lia, by lia, h.perm, fun i j hij hj => h.c1 i j hij (by lia), fun i j h1 h2 h3 => ?_, fun i h1 h2 => h.d1 i (by lia) h2, fun i j h1 h2 h3 h4 => ?_, fun i hi => ?_⟩
        · by_cases e : j = n
          · subst e
            exact W.le_lt (same (j - 1) lo_le hp).2 (h.c2 i (j - 1) (by lia) lo_le hp)
          · exact h.c2 i j (by lia) (by lia) (by lia)
        · by_cases e : i = n
          · subst e
            by_cases e' : j = i
            · subst e'; exact W.irr _
            · exact (same j (by lia) (by lia)).1
          · by_cases e' : j = n
            · subst e'; exact (same i (by lia) (by lia)).2
            · exact h.d2 i j (by lia) (by lia) (by lia) (by lia)
        · by_cases e : i = n
          · subst e; rw [h.d1 _ hlo hnN]; exact Nat.lt_succ_self _
          · have := h.low i (by lia); lia
theorem Dd.up {N : Nat} {p : Array Nat} {n : Nat} (h : Dd lt N p n) : Up lt N (kas_rev p 0 n) n := by
  have hn : n ≤ p.size := by rw [h.size]; exact h.nN
  refine ⟨by rw [rev_size]; exact h.size, h.nN, rev_perm.trans h.perm, fun i j hij hj => ?_, fun i hi => ?_, fun i h1 h2 => ?_⟩
  · have hi := Nat.lt_trans hij hj
    rw [gt_rev hn, gt_rev hn, if_pos ⟨Nat.zero_le _, hi⟩, if_pos ⟨Nat.zero_le _, hj⟩]
    exact h.c _ _ (mi3 hij hj) (mi2 (Nat.zero_le i) (pos_of hj))
  · rw [gt_rev hn, if_pos ⟨Nat.zero_le _, hi⟩]; exact h.low _ (mi2 (Nat.zero_le i) (pos_of hi))
  · rw [gt_rev hn, if_neg fun x => absurd x.2 (Nat.not_lt_of_ge h1)]; exact h.rest i h1 h2
theorem tail3_ev (W : Swo lt) {N n : Nat} {p : Array Nat} (h0 : 0 < n) (h : Dd lt N p n) : ∃ m p', ev lt (kas_tail3 n N p) = (m, p') ∧ 0 < m ∧ Up lt N p' m := by
  have := asc_ev W (N - n) n rfl h0 h.up
  exact ⟨_, _, by unfold kas_tail3; rw [ev_bind]; rfl, Nat.lt_of_lt_of_le h0 this.1, this.2.1⟩
theorem descPart_ev (W : Swo lt) {N n : Nat} {p : Array Nat} (h : Dn lt N p (n + 1) 0) : ∃ m p', ev lt (kas_descPart n N p) = (m, p') ∧ 0 < m ∧ Up lt N p' m := by
  obtain ⟨p', n', q', e, h'⟩ := desc_ev W (N - (n + 1)) p (n + 1) 0 rfl h
  unfold kas_descPart
  rw [ev_bind, e]
  have T := h'.turn
  have hq := h'.qn
  have := tail3_ev W (by lia) T
  show ∃ m p'', ev lt (if q' > 0 then kas_tail3 n' N (kas_rev p' (n' - (q' + 1)) n') else kas_tail3 n' N p') = (m, p'') ∧ _
  split
  · rename_i hq0; rw [if_pos hq0] at this; exact this
  · rename_i hq0; rw [if_neg hq0] at this; exact this
theorem range_get {N i : Nat} (hi : i < N) : (List.toArray (List.range N)).getD i 0 = i := by simp [Array.getD_eq_getD_getElem?, hi]
theorem count_ev (W : Swo lt) {N : Nat} (hN : 0 < N) : ∃ m p, ev lt (kas_count N (List.toArray (List.range N))) = (m, p) ∧ 0 < m ∧ Up lt N p m := by
  obtain ⟨p, hp⟩ : ∃ p, p = List.toArray (List.range N) := ⟨_, rfl⟩
  have hg : ∀ i, i < N → p.getD i 0 = i := fun i hi => by rw [hp]; exact range_get hi
  have hz : p.size = N := by rw [hp]; simp
  have hpm : p.toList.Perm (List.range N) := by rw [hp]
  rw [← hp]
  have U1 : Up lt N p 1 := ⟨hz, by lia, hpm, fun i j h1 h2 => by lia, fun i hi => by rw [hg i (by lia)]; lia, fun i _ h2 => hg i h2⟩
  obtain ⟨a1, a2, a3⟩ := asc_ev W (N - 1) 1 rfl (by lia) U1
  unfold kas_count
  rw [ev_bind]
  generalize hn : ev lt (kas_asc p (N - 1) 1) = n at a1 a2 a3
  show ∃ m p', ev lt (if (n == N) = true then _ else if n > 1 then _ else _) = _ ∧ _
  by_cases e : n = N
  · rw [if_pos (by simpa using e)]
    exact ⟨n, p, rfl, by lia, a2⟩
  · rw [if_neg (by simpa using e)]
    have hkN := a2.kN
    have hnN : n < N := by lia
    have hlt := a3 hnN
    by_cases h1 : n > 1
    · rw [if_pos h1]
      simp only [ev]
      cases hc : lt (p.getD 0 0) (p.getD (n - 1) 0) with
      | true => exact ⟨n, p, rfl, by lia, a2⟩
      | false =>
        simp only [Bool.false_eq_true, if_false]
        refine descPart_ev W ?_
        have hall : ∀ i j, i < n → j < n → lt (p.getD i 0) (p.getD j 0) = false := fun i j hi hj => by
          have x1 : lt (p.getD i 0) (p.getD 0 0) = false := by
            by_cases e0 : i = 0
            · subst e0; exact W.irr _
            · exact (a2.srt 0 i (by lia) hi).le W
          have x2 : lt (p.getD (n - 1) 0) (p.getD j 0) = false := by
            by_cases e0 : j = n - 1
            · subst e0; exact W.irr _
            · exact (a2.srt j (n - 1) (by lia) (by lia)).le W
          have x3 : lt (p.getD i 0) (p.getD (n - 1) 0) = false := by
            by_cases e0 : i = n - 1
            · subst e0; exact W.irr _
            · cases q : lt (p.getD i 0) (p.getD (n - 1) 0) with
              | false => rfl
              | true => exact absurd (W.le_lt x1 q) (by rw [hc]; simp)
          exact W.le_tr _ _ _ x2 x3
        have hr : n ≤ p.size := by lia
        have D : Dd lt N (kas_rev p 0 n) n := by
          refine ⟨by rw [rev_size]; exact hz, hkN, rev_perm.trans hpm, fun i j hij hj => ?_, fun i x1 x2 => ?_, fun i hi => ?_⟩
          · rw [gt_rev hr, gt_rev hr, if_pos ⟨by lia, hj⟩, if_pos ⟨by lia, by lia⟩]
            refine .inr ⟨hall _ _ (mi2 (Nat.zero_le _) a1) (mi2 (Nat.zero_le _) a1), ?_⟩
            rw [hg _ (Nat.lt_of_lt_of_le (mi2 (Nat.zero_le _) a1) hkN), hg _ (Nat.lt_of_lt_of_le (mi2 (Nat.zero_le _) a1) hkN)]
            exact mi3 hij hj
          · rw [gt_rev hr, if_neg (by lia)]; exact hg i x2
          · rw [gt_rev hr, if_pos ⟨Nat.zero_le _, hi⟩, hg _ (Nat.lt_of_lt_of_le (mi2 (Nat.zero_le _) a1) hkN)]
            exact mi2 (Nat.zero_le _) a1
        refine D.more W (by lia) hnN ?_
        rw [gt_rev hr, gt_rev hr, if_neg (by lia), if_pos (by lia)]
        exact W.lt_le hlt (hall _ _ (by lia) (by lia))
    · rw [if_neg h1]
      have e1 : n = 1 := by lia
      subst e1
      refine descPart_ev W ?_
      have D : Dd lt N p 1 := ⟨hz, by lia, hpm, fun i j h1 h2 => by lia, fun i _ h2 => hg i h2, fun i hi => by rw [hg i (by lia)]; lia⟩
      exact D.more W (by lia) hnN hlt
theorem place_ev (W : Swo lt) {N k : Nat} {p : Array Nat} (U : Up lt N p k) (hk : k < N) : ∀ (f l r : Nat), r - l ≤ f → l ≤ r → r ≤ k → (∀ i, i < l → lt (p.getD k 0) (p.getD i 0) = false) → (∀ i, r ≤ i → i < k → lt (p.getD k 0) (p.getD i 0) = true) →
    ∃ l', ev lt (kas_place p k f l r) = l' ∧ l' ≤ k ∧ (∀ i, i < l' → lt (p.getD k 0) (p.getD i 0) = false) ∧ ∀ i, l' ≤ i → i < k → lt (p.getD k 0) (p.getD i 0) = true
  | 0, l, r, hf, hlr, hr, h1, h2 => ⟨l, rfl, by lia, h1, fun i x y => h2 i (by lia) y⟩
  | f + 1, l, r, hf, hlr, hr, h1, h2 => by
    unfold kas_place
    by_cases hge : l ≥ r
    · rw [if_pos hge]
      exact ⟨l, rfl, by lia, h1, fun i x y => h2 i (by lia) y⟩
    · have hg := Nat.lt_of_not_le hge
      rw [if_neg hge]
      simp only [ev]
      have hle : ∀ i j, i ≤ j → j < k → lt (p.getD j 0) (p.getD i 0) = false := fun i j hij hj => by
        by_cases e : i = j
        · subst e; exact W.irr _
        · exact (U.srt i j (by lia) hj).le W
      cases hc : lt (p.getD k 0) (p.getD ((l + r) / 2) 0) with
      | true =>
        simp only [if_true]
        exact place_ev W U hk f l ((l + r) / 2) (Nat.le_of_lt_succ (Nat.lt_of_lt_of_le (Nat.sub_lt_sub_right (mid_ge hg) (mid_lt hg)) hf)) (mid_ge hg) (Nat.le_trans (Nat.le_of_lt (mid_lt hg)) hr) h1 fun i x y => W.lt_le hc (hle _ _ x y)
      | false =>
        simp only [Bool.false_eq_true, if_false]
        exact place_ev W U hk f ((l + r) / 2 + 1) r (Nat.le_of_lt_succ (Nat.lt_of_lt_of_le (Nat.sub_lt_sub_left hg (Nat.lt_succ_of_le (mid_ge hg))) hf)) (mid_lt hg) hr (fun i x => W.le_tr _ _ _ (hle i ((l + r) / 2) (Nat.le_of_lt_succ x) (Nat.lt_of_lt_of_le (mid_lt hg) hr)) hc) h2
theorem bin_ev (W : Swo lt) {N : Nat} : ∀ (f : Nat) (p : Array Nat) (k : Nat), f = N - k → Up lt N p k → Up lt N (ev lt (kas_bin f p k)) N
  | 0, p, k, hf, U => by
    have := U.kN
    have e : k = N := Nat.le_antisymm this (Nat.le_of_sub_eq_zero hf.symm)
    subst e; exact U
  | f + 1, p, k, hf, U => by
    have hk : k < N := f_lt hf
    have hkn := U.rest k (Nat.le_refl _) hk
    simp only [kas_bin]
    rw [ev_bind]
    obtain ⟨l, e, hl, h1, h2⟩ := place_ev W U hk k 0 k (by lia) (by lia) (Nat.le_refl _) (fun i hi => by lia) (fun i x y => by lia)
    rw [e]
    refine bin_ev W f _ (k + 1) (f_step hf) ?_
    have gb : ∀ i, (bubble p k (k - l)).getD i 0 = if i = l then k else if l < i ∧ i ≤ k then p.getD (i - 1) 0 else p.getD i 0 := fun i => by
      rw [gt_bub (by rw [U.size]; exact hk) (by lia), hkn, Nat.sub_sub_self hl]
    rw [hkn] at h1 h2
    refine ⟨by rw [bubble_size]; exact U.size, by lia, (bubble_perm p k (k - l)).toList.trans U.perm, fun i j hij hj => ?_, fun i hi => ?_, fun i x y => ?_⟩
    · rw [gb, gb]
      by_cases e1 : i = l
      · subst e1
        rw [if_pos rfl, if_neg (by lia), if_pos (by lia)]
        exact .inl (h2 _ (by lia) (by lia))
      · by_cases e2 : j = l
        · subst e2
          rw [if_neg (by lia), if_neg (by lia), if_pos rfl]
          exact .inr ⟨h1 _ (by lia), U.low _ (by lia)⟩
        · rw [if_neg e1, if_neg e2]
          split
          · rename_i g
            rw [if_pos ⟨Nat.lt_trans g.1 hij, Nat.le_of_lt_succ hj⟩]
            exact U.srt _ _ (Nat.sub_lt_sub_right (pos_of g.1) hij) (pr_lt2 (pos_of hij) hj)
          · rename_i g
            split
            · rename_i g2
              exact U.srt _ _ (Nat.lt_of_lt_of_le (Nat.lt_of_le_of_ne (Nat.le_of_not_lt fun x => g ⟨x, Nat.le_trans (Nat.le_of_lt hij) (Nat.le_of_lt_succ hj)⟩) e1) (Nat.le_pred_of_lt g2.1)) (pr_lt2 (pos_of hij) hj)
            · exact U.srt _ _ (by lia) (by lia)
    · rw [gb]
      split
      · lia
      · split
        · have := U.low (i - 1) (by lia); lia
        · have := U.low i (by lia); lia
    · rw [gb, if_neg (by lia), if_neg (by lia)]
      exact U.rest i (by lia) y
theorem sort_ev (W : Swo lt) {N : Nat} (hN : 0 < N) : Up lt N (ev lt (kas_sort N)) N := by
  unfold kas_sort
  obtain ⟨m, p, e, hm, U⟩ := count_ev W hN
  rw [ev_bind, e]
  show Up lt N (ev lt (if m < N then kas_bin (N - max m 1) p (max m 1) else .ret p)) N
  have hmax : max m 1 = m := by lia
  split
  · rw [hmax]; exact bin_ev W _ p m rfl U
  · have := U.kN
    have e : m = N := by lia
    subst e; exact U
end Mine
end
section
namespace Mine
theorem ch_lt {j i : Nat} (h : i = 2 * j + 1 ∨ i = 2 * j + 2) : j < i := by
  have h1 : j ≤ 2 * j := Nat.le_mul_of_pos_left j (by decide)
  rcases h with rfl | rfl
  · exact Nat.lt_succ_of_le h1
  · exact Nat.lt_succ_of_lt (Nat.lt_succ_of_le h1)
theorem ch_up {j i : Nat} (h : i = 2 * j + 1 ∨ i = 2 * j + 2) : (i - 1) / 2 = j := by
  rcases h with rfl | rfl
  · exact Nat.mul_div_cancel_left j (by decide)
  · show (2 * j + 1) / 2 = j
    rw [Nat.mul_add_div (by decide)]; rfl
theorem up_lt {i : Nat} (h : 0 < i) : (i - 1) / 2 < i := Nat.lt_of_le_of_lt (Nat.div_le_self _ _) (Nat.sub_lt h (by decide))
theorem ch_of {i : Nat} (h : 0 < i) : i = 2 * ((i - 1) / 2) + 1 ∨ i = 2 * ((i - 1) / 2) + 2 := by
  cases i with
  | zero => exact absurd h (Nat.lt_irrefl _)
  | succ i =>
    show i + 1 = 2 * (i / 2) + 1 ∨ i + 1 = 2 * (i / 2) + 2
    have e := Nat.div_add_mod i 2
    rcases Nat.mod_two_eq_zero_or_one i with h | h <;> rw [h] at e
    · exact .inl (congrArg (· + 1) e.symm)
    · exact .inr (congrArg (· + 1) e.symm)
theorem ch_big {q i n : Nat} (h : i = 2 * q + 1 ∨ i = 2 * q + 2) (a : n ≤ 2 * q + 1) : n ≤ i := by
  rcases h with rfl | rfl
  · exact a
  · exact Nat.le_succ_of_le a
theorem lt_sub {L k p : Nat} (h : 2 * p + 1 < L) (h2 : 2 * p + 1 ≤ k) : L - k < L - p := Nat.sub_lt_sub_left (Nat.lt_trans (ch_lt (.inl rfl)) h) (Nat.lt_of_lt_of_le (ch_lt (.inl rfl)) h2)
noncomputable def sdLoop (lt : D → D → Bool) (x : D) (sp : Nat) (pos : Nat) (ds : List D) : List D :=
  if h : pos > sp then
    if lt x (ds.getD ((pos - 1) / 2) []) then sdLoop lt x sp ((pos - 1) / 2) (ds.set pos (ds.getD ((pos - 1) / 2) [])) else ds.set pos x
  else ds.set pos x
termination_by pos
decreasing_by exact up_lt (Nat.zero_lt_of_lt h)
noncomputable def siftdown (lt : D → D → Bool) (ds : List D) (sp p : Nat) : List D := sdLoop lt (ds.getD p []) sp p ds
noncomputable def gtl (a b : D) : Bool := llt b a
noncomputable def kid (lt : D → D → Bool) (ds : List D) (c : Nat) : Nat := if c + 1 < ds.length ∧ lt (ds.getD c []) (ds.getD (c + 1) []) = false then c + 1 else c
theorem kid_in {lt : D → D → Bool} {ds : List D} {c : Nat} (h : c < ds.length) : c ≤ kid lt ds c ∧ kid lt ds c < ds.length := by
  unfold kid
  split
  · exact ⟨Nat.le_succ _, by rename_i g; exact g.1⟩
  · exact ⟨Nat.le_refl _, h⟩
theorem kid_or {lt : D → D → Bool} {ds : List D} {c : Nat} : kid lt ds c = c ∨ kid lt ds c = c + 1 := by
  unfold kid
  split
  · exact .inr rfl
  · exact .inl rfl
noncomputable def suLoop (lt : D → D → Bool) (pos : Nat) (ds : List D) : List D × Nat :=
  if h : 2 * pos + 1 < ds.length then suLoop lt (kid lt ds (2 * pos + 1)) (ds.set pos (ds.getD (kid lt ds (2 * pos + 1)) [])) else (ds, pos)
termination_by ds.length - pos
decreasing_by
  rw [List.length_set]
  exact lt_sub h (kid_in h).1
noncomputable def siftup (lt : D → D → Bool) (ds : List D) (p : Nat) : List D :=
  siftdown lt ((suLoop lt p ds).1.set (suLoop lt p ds).2 (ds.getD p [])) p (suLoop lt p ds).2
theorem sdLoop_len {lt : D → D → Bool} {x : D} {sp : Nat} : ∀ (pos : Nat) (ds : List D), (sdLoop lt x sp pos ds).length = ds.length := by
  intro pos
  induction pos using Nat.strongRecOn with
  | ind pos ih =>
    intro ds
    rw [sdLoop]
    split
    · rename_i hgt
      split
      · rw [ih _ (up_lt (Nat.zero_lt_of_lt hgt))]; exact List.length_set
      · simp
    · simp
theorem siftdown_len {lt : D → D → Bool} {ds : List D} {sp p : Nat} : (siftdown lt ds sp p).length = ds.length := sdLoop_len _ _
theorem suLoop_len {lt : D → D → Bool} : ∀ (n pos : Nat) (ds : List D), n = ds.length - pos → (suLoop lt pos ds).1.length = ds.length ∧ (pos < ds.length → (suLoop lt pos ds).2 < ds.length) := by
  intro n
  induction n using Nat.strongRecOn with
  | ind n ih =>
    intro pos ds hn
    rw [suLoop]
    split
    · rename_i hlt
      have hk : kid lt ds (2 * pos + 1) < ds.length ∧ pos < kid lt ds (2 * pos + 1) := ⟨(kid_in hlt).2, ch_lt kid_or⟩
      have := ih (ds.length - kid lt ds (2 * pos + 1)) (hn ▸ lt_sub hlt (kid_in hlt).1) (kid lt ds (2 * pos + 1)) (ds.set pos (ds.getD (kid lt ds (2 * pos + 1)) [])) (by simp)
      simp only [List.length_set] at this
      exact ⟨this.1, fun _ => this.2 hk.1⟩
    · exact ⟨rfl, id⟩
theorem siftup_len {lt : D → D → Bool} {ds : List D} {p : Nat} : (siftup lt ds p).length = ds.length := by
  rw [siftup, siftdown_len]; simp [(suLoop_len _ p ds rfl).1]
noncomputable def hpLoop (lt : D → D → Bool) : Nat → List D → List D
  | 0, ds => ds
  | k + 1, ds => hpLoop lt k (siftup lt ds k)
noncomputable def heapify (lt : D → D → Bool) (ds : List D) : List D := hpLoop lt (ds.length / 2) ds
noncomputable def hpush (lt : D → D → Bool) (ds : List D) (d : D) : List D := siftdown lt (ds ++ [d]) 0 ds.length
noncomputable def hrepl (lt : D → D → Bool) (ds : List D) (d : D) : List D := siftup lt (ds.set 0 d) 0
noncomputable def hpop (lt : D → D → Bool) (ds : List D) : List D := if ds.length ≤ 1 then [] else hrepl lt ds.dropLast (ds.getLastD [])
end Mine
end
section
namespace Mine
structure Tot (lt : D → D → Bool) : Prop where
  irr : ∀ a, lt a a = false
  tr : ∀ a b c, lt a b = true → lt b c = true → lt a c = true
  tri : ∀ a b, lt a b = false → lt b a = false → a = b
theorem Tot.asym {lt : D → D → Bool} (T : Tot lt) {a b : D} (h : lt a b = true) : lt b a = false := by
  cases h' : lt b a with
  | false => rfl
  | true => have := T.tr a b a h h'; rw [T.irr] at this; cases this
theorem Tot.le_tr {lt : D → D → Bool} (T : Tot lt) {a b c : D} (h1 : lt b a = false) (h2 : lt c b = false) : lt c a = false := by
  cases h : lt c a with
  | false => rfl
  | true =>
    cases h' : lt a b with
    | true => have := T.tr c a b h h'; rw [h2] at this; cases this
    | false => have := T.tri a b h' h1; subst this; rw [h2] at h; cases h
theorem llt_tot : Tot llt := by
  refine ⟨?_, ?_, ?_⟩
  · intro a; induction a with
    | nil => rfl
    | cons x a ih => simp [llt, ih]
  · intro a
    induction a with
    | nil =>
      intro b c h1 h2
      cases c with
      | cons _ _ => rfl
      | nil => cases b <;> simp [llt] at h1 h2
    | cons x a ih =>
      intro b c h1 h2
      cases b with
      | nil => simp [llt] at h1
      | cons y b =>
        cases c with
        | nil => simp [llt] at h2
        | cons z c =>
          simp only [llt] at h1 h2 ⊢
          by_cases e1 : x = y
          · subst e1
            rw [if_pos rfl] at h1
            by_cases e2 : x = z
            · subst e2; rw [if_pos rfl] at h2 ⊢; exact ih b c h1 h2
            · rw [if_neg e2] at h2 ⊢; exact h2
          · rw [if_neg e1] at h1
            by_cases e2 : y = z
            · subst e2; rw [if_neg e1]; exact h1
            · rw [if_neg e2] at h2
              simp only [decide_eq_true_eq] at h1 h2
              rw [if_neg (by lia)]; simp; lia
  · intro a
    induction a with
    | nil => intro b h1 h2; cases b with | nil => rfl | cons _ _ => simp [llt] at h1
    | cons x a ih =>
      intro b h1 h2
      cases b with
      | nil => simp [llt] at h2
      | cons y b =>
        simp only [llt] at h1 h2
        by_cases e : x = y
        · subst e; simp at h1 h2; rw [ih b h1 h2]
        · rw [if_neg e] at h1; rw [if_neg (fun q => e q.symm)] at h2; simp at h1 h2; lia
theorem gtl_tot : Tot gtl := ⟨llt_tot.irr, fun _ _ _ h1 h2 => llt_tot.tr _ _ _ h2 h1, fun _ _ h1 h2 => llt_tot.tri _ _ h2 h1⟩
theorem getD_set {ds : List D} {p i : Nat} {x : D} (hp : p < ds.length) : (ds.set p x).getD i [] = if i = p then x else ds.getD i [] := by
  simp only [List.getD_eq_getElem?_getD, List.getElem?_set]
  by_cases e : i = p
  · subst e; simp [hp]
  · rw [if_neg (fun q => e q.symm), if_neg e]
theorem set_perm {l : List D} {i : Nat} {x : D} (hi : i < l.length) : (l.set i x).Perm (x :: l.eraseIdx i) := by
  induction l generalizing i with
  | nil => simp at hi
  | cons a l ih =>
    cases i with
    | zero => exact .refl _
    | succ i =>
      simp only [List.set_cons_succ, List.eraseIdx_cons_succ]
      exact (List.Perm.cons a (ih (by simpa using hi))).trans (List.Perm.swap x a _)
theorem self_perm {l : List D} {i : Nat} (hi : i < l.length) : l.Perm (l.getD i [] :: l.eraseIdx i) := by
  have := set_perm (x := l.getD i []) hi
  rwa [show l.set i (l.getD i []) = l by rw [List.getD_eq_getElem?_getD, List.getElem?_eq_getElem hi]; simp] at this
theorem hole_perm {l : List D} {i j : Nat} {x : D} (hi : i < l.length) (hj : j < l.length) (hij : i ≠ j) : ((l.set i (l.getD j [])).set j x).Perm (l.set i x) := by
  have e1 := set_perm (x := x) (l := l.set i (l.getD j [])) (i := j) (by simpa using hj)
  have e2 := self_perm (l := l.set i (l.getD j [])) (i := j) (by simpa using hj)
  rw [getD_set hi, if_neg (Ne.symm hij)] at e2
  have e3 := e2.symm.trans (set_perm (x := l.getD j []) hi)
  exact e1.trans ((e3.cons_inv.cons x).trans (set_perm hi).symm)
theorem sdLoop_perm {lt : D → D → Bool} {x : D} {sp : Nat} : ∀ (pos : Nat) (ds : List D), pos < ds.length → (sdLoop lt x sp pos ds).Perm (ds.set pos x) := by
  intro pos
  induction pos using Nat.strongRecOn with
  | ind pos ih =>
    intro ds hp
    rw [sdLoop]
    split
    · rename_i hgt
      have hu := up_lt (Nat.zero_lt_of_lt hgt)
      split
      · exact (ih _ hu _ (by rw [List.length_set]; exact Nat.lt_trans hu hp)).trans (hole_perm hp (Nat.lt_trans hu hp) (Nat.ne_of_gt hu))
      · exact .refl _
    · exact .refl _
theorem siftdown_perm {lt : D → D → Bool} {ds : List D} {sp p : Nat} (hp : p < ds.length) : (siftdown lt ds sp p).Perm ds := by
  refine (sdLoop_perm p ds hp).trans ?_
  rw [List.getD_eq_getElem?_getD, List.getElem?_eq_getElem hp]; simp
theorem suLoop_perm {lt : D → D → Bool} {x : D} : ∀ (n pos : Nat) (ds : List D), n = ds.length - pos → pos < ds.length → ((suLoop lt pos ds).1.set (suLoop lt pos ds).2 x).Perm (ds.set pos x) := by
  intro n
  induction n using Nat.strongRecOn with
  | ind n ih =>
    intro pos ds hn hp
    rw [suLoop]
    split
    · rename_i hlt
      have hk : kid lt ds (2 * pos + 1) < ds.length ∧ pos < kid lt ds (2 * pos + 1) := ⟨(kid_in hlt).2, ch_lt kid_or⟩
      exact (ih (ds.length - kid lt ds (2 * pos + 1)) (hn ▸ lt_sub hlt (kid_in hlt).1) _ _ (by simp) (by simpa using hk.1)).trans (hole_perm hp hk.1 (Nat.ne_of_lt hk.2))
    · exact .refl _
theorem siftup_perm {lt : D → D → Bool} {ds : List D} {p : Nat} (hp : p < ds.length) : (siftup lt ds p).Perm ds := by
  rw [siftup]
  have h1 := suLoop_len (lt := lt) _ p ds rfl
  refine (siftdown_perm (by simp [h1.1]; exact h1.2 hp)).trans ((suLoop_perm (lt := lt) (x := ds.getD p []) _ p ds rfl hp).trans ?_)
  rw [List.getD_eq_getElem?_getD, List.getElem?_eq_getElem hp]; simp
theorem hpLoop_perm {lt : D → D → Bool} : ∀ (k : Nat) (ds : List D), k ≤ ds.length → (hpLoop lt k ds).Perm ds
  | 0, ds, _ => .refl _
  | k + 1, ds, h => (hpLoop_perm k _ (by rw [siftup_len]; lia)).trans (siftup_perm (by lia))
theorem heapify_perm {lt : D → D → Bool} {ds : List D} : (heapify lt ds).Perm ds := hpLoop_perm _ _ (by lia)
noncomputable def Hp (lt : D → D → Bool) (lo : Nat) (ds : List D) : Prop := ∀ j i, lo ≤ j → (i = 2 * j + 1 ∨ i = 2 * j + 2) → i < ds.length → lt (ds.getD i []) (ds.getD j []) = false
noncomputable def Ho (lt : D → D → Bool) (lo : Nat) (ds : List D) (q : Nat) : Prop :=
  (∀ j i, lo ≤ j → (i = 2 * j + 1 ∨ i = 2 * j + 2) → i < ds.length → j ≠ q → i ≠ q → lt (ds.getD i []) (ds.getD j []) = false) ∧
  ∀ r i, lo ≤ r → (q = 2 * r + 1 ∨ q = 2 * r + 2) → (i = 2 * q + 1 ∨ i = 2 * q + 2) → i < ds.length → lt (ds.getD i []) (ds.getD r []) = false
inductive Sub (p : Nat) : Nat → Prop
  | refl : Sub p p
  | l {q : Nat} : Sub p q → Sub p (2 * q + 1)
  | r {q : Nat} : Sub p q → Sub p (2 * q + 2)
theorem Sub.le {p q : Nat} (h : Sub p q) : p ≤ q := by induction h <;> lia
theorem Sub.up {p q : Nat} (h : Sub p q) (hq : q > p) : Sub p ((q - 1) / 2) := by
  cases h with
  | refl => exact absurd hq (Nat.lt_irrefl _)
  | @l r h => rw [ch_up (.inl rfl)]; exact h
  | @r r h => rw [ch_up (.inr rfl)]; exact h
theorem sdLoop_hp {lt : D → D → Bool} (T : Tot lt) {x : D} {sp : Nat} : ∀ (pos : Nat) (ds : List D), pos < ds.length → Sub sp pos → Ho lt sp ds pos → (∀ i, (i = 2 * pos + 1 ∨ i = 2 * pos + 2) → i < ds.length → lt (ds.getD i []) x = false) →
    Hp lt sp (sdLoop lt x sp pos ds) := by
  intro pos
  induction pos using Nat.strongRecOn with
  | ind pos ih =>
    intro ds hp hsub ⟨h1, h2⟩ h3
    have place : (∀ r, sp ≤ r → (pos = 2 * r + 1 ∨ pos = 2 * r + 2) → lt x (ds.getD r []) = false) → Hp lt sp (ds.set pos x) := by
      intro h4 j i hj hi hl
      rw [List.length_set] at hl
      rw [getD_set hp, getD_set hp]
      by_cases e1 : i = pos
      · subst e1
        rw [if_pos rfl, if_neg (Nat.ne_of_lt (ch_lt hi))]
        exact h4 j hj hi
      · rw [if_neg e1]
        by_cases e2 : j = pos
        · subst e2; rw [if_pos rfl]; exact h3 i hi hl
        · rw [if_neg e2]; exact h1 j i hj hi hl e2 e1
    rw [sdLoop]
    split
    · rename_i hgt
      have hu := up_lt (Nat.zero_lt_of_lt hgt)
      have hcu := ch_of (Nat.zero_lt_of_lt hgt)
      have hup := hsub.up hgt
      have hle := hup.le
      split
      · rename_i hlt
        refine ih _ hu _ (by rw [List.length_set]; exact Nat.lt_trans hu hp) hup ⟨?_, ?_⟩ ?_
        · intro j i hj hi hl e1 e2
          rw [List.length_set] at hl
          rw [getD_set hp, getD_set hp]
          by_cases e3 : j = pos
          · subst e3
            rw [if_pos rfl, if_neg (Nat.ne_of_gt (ch_lt hi))]
            exact h2 _ i hle hcu hi hl
          · rw [if_neg e3]
            by_cases e4 : i = pos
            · subst e4; exact absurd (ch_up hi).symm e1
            · rw [if_neg e4]; exact h1 j i hj hi hl e3 e4
        · intro r i hr hq hi hl
          rw [List.length_set] at hl
          rw [getD_set hp, getD_set hp, if_neg (Nat.ne_of_lt (Nat.lt_trans (ch_lt hq) hu))]
          have hpr : lt (ds.getD ((pos - 1) / 2) []) (ds.getD r []) = false := h1 r _ hr hq (Nat.lt_trans hu hp) (Nat.ne_of_lt (Nat.lt_trans (ch_lt hq) hu)) (Nat.ne_of_lt hu)
          by_cases e3 : i = pos
          · rw [if_pos e3]; exact hpr
          · rw [if_neg e3]
            exact T.le_tr hpr (h1 _ i hle hi hl (Nat.ne_of_lt hu) e3)
        · intro i hi hl
          rw [List.length_set] at hl
          rw [getD_set hp]
          by_cases e3 : i = pos
          · rw [if_pos e3]; exact T.asym hlt
          · rw [if_neg e3]
            exact T.le_tr (T.asym hlt) (h1 _ i hle hi hl (Nat.ne_of_lt hu) e3)
      · rename_i hlt
        refine place fun r hr hq => ?_
        rw [← ch_up hq]
        simpa using hlt
    · rename_i hgt
      exact place fun r hr hq => absurd (Nat.lt_of_le_of_lt hr (ch_lt hq)) hgt
theorem suLoop_hp {lt : D → D → Bool} (T : Tot lt) {p : Nat} : ∀ (n pos : Nat) (ds : List D), n = ds.length - pos → pos < ds.length → Sub p pos → Ho lt p ds pos →
    Ho lt p (suLoop lt pos ds).1 (suLoop lt pos ds).2 ∧ Sub p (suLoop lt pos ds).2 ∧ ds.length ≤ 2 * (suLoop lt pos ds).2 + 1 := by
  intro n
  induction n using Nat.strongRecOn with
  | ind n ih =>
    intro pos ds hn hp hsub ⟨h1, h2⟩
    rw [suLoop]
    split
    · rename_i hlt
      have hk : kid lt ds (2 * pos + 1) < ds.length ∧ pos < kid lt ds (2 * pos + 1) ∧ (kid lt ds (2 * pos + 1) = 2 * pos + 1 ∨ kid lt ds (2 * pos + 1) = 2 * pos + 2) := ⟨(kid_in hlt).2, ch_lt kid_or, kid_or⟩
      have hother : ∀ i, (i = 2 * pos + 1 ∨ i = 2 * pos + 2) → i < ds.length → i ≠ kid lt ds (2 * pos + 1) → lt (ds.getD i []) (ds.getD (kid lt ds (2 * pos + 1)) []) = false := by
        intro i hi hl
        unfold kid
        split
        · rename_i hc
          intro hne
          have : i = 2 * pos + 1 := hi.resolve_right hne
          subst this; exact hc.2
        · rename_i hc
          intro hne
          have : i = 2 * pos + 1 + 1 := hi.resolve_left hne
          subst this
          cases hh : lt (ds.getD (2 * pos + 1) []) (ds.getD (2 * pos + 1 + 1) []) with
          | true => exact T.asym hh
          | false => exact absurd ⟨hl, hh⟩ hc
      have hle := hsub.le
      have := ih (ds.length - kid lt ds (2 * pos + 1)) (hn ▸ lt_sub hlt (kid_in hlt).1) (kid lt ds (2 * pos + 1)) (ds.set pos (ds.getD (kid lt ds (2 * pos + 1)) [])) (by simp) (by simpa using hk.1)
        (by rcases hk.2.2 with e | e <;> rw [e]; exact .l hsub; exact .r hsub) ⟨?_, ?_⟩
      · simpa using this
      · generalize kid lt ds (2 * pos + 1) = c at hk hother ⊢
        intro j i hj hi hl e1 e2
        rw [List.length_set] at hl
        rw [getD_set hp, getD_set hp]
        by_cases e3 : j = pos
        · subst e3
          rw [if_pos rfl, if_neg (Nat.ne_of_gt (ch_lt hi))]
          exact hother i hi hl e2
        · rw [if_neg e3]
          by_cases e4 : i = pos
          · subst e4; rw [if_pos rfl]; exact h2 j c hj hi hk.2.2 hk.1
          · rw [if_neg e4]; exact h1 j i hj hi hl e3 e4
      · generalize kid lt ds (2 * pos + 1) = c at hk hother ⊢
        intro r i hr hq hi hl
        rw [List.length_set] at hl
        have : r = pos := (ch_up hq).symm.trans (ch_up hk.2.2)
        subst this
        have hc := ch_lt hk.2.2
        have hic := Nat.ne_of_gt (Nat.lt_trans hc (ch_lt hi))
        rw [getD_set hp, getD_set hp, if_pos rfl, if_neg hic]
        exact h1 c i (Nat.le_trans hle (Nat.le_of_lt hc)) hi hl (Nat.ne_of_gt hc) hic
    · exact ⟨⟨h1, h2⟩, hsub, by simp; lia⟩
theorem siftup_hp {lt : D → D → Bool} (T : Tot lt) {ds : List D} {p : Nat} (hp : p < ds.length) (h : Hp lt (p + 1) ds) : Hp lt p (siftup lt ds p) := by
  have h1 := suLoop_len (lt := lt) _ p ds rfl
  obtain ⟨⟨a1, a2⟩, a3, a4⟩ := suLoop_hp T (p := p) _ p ds rfl hp .refl ⟨fun j i hj hi hl e1 e2 => h j i (Nat.lt_of_le_of_ne hj (Ne.symm e1)) hi hl, fun r i hr hq => absurd (ch_lt hq) (Nat.not_lt_of_ge hr)⟩
  rw [siftup, siftdown]
  have h2 := h1.2 hp
  refine sdLoop_hp T _ _ (by simp [h1.1]; exact h2) a3 ⟨?_, ?_⟩ ?_
  · intro j i hj hi hl e1 e2
    rw [getD_set (by rw [h1.1]; exact h2), getD_set (by rw [h1.1]; exact h2), if_neg e1, if_neg e2]
    exact a1 j i hj hi (by simpa using hl) e1 e2
  · intro r i hr hq hi hl
    rw [List.length_set, h1.1] at hl
    exact absurd hl (Nat.not_lt_of_ge (ch_big hi a4))
  · intro i hi hl
    rw [List.length_set, h1.1] at hl
    exact absurd hl (Nat.not_lt_of_ge (ch_big hi a4))
theorem hpLoop_hp {lt : D → D → Bool} (T : Tot lt) : ∀ (k : Nat) (ds : List D), k ≤ ds.length / 2 → Hp lt k ds → Hp lt 0 (hpLoop lt k ds)
  | 0, ds, _, h => h
  | k + 1, ds, hk, h => hpLoop_hp T k _ (by rw [siftup_len]; lia) (siftup_hp T (by lia) h)
theorem heapify_hp {lt : D → D → Bool} (T : Tot lt) {ds : List D} : Hp lt 0 (heapify lt ds) := hpLoop_hp T _ _ (Nat.le_refl _) fun j i hj hi hl => by lia
theorem hpush_hp {lt : D → D → Bool} (T : Tot lt) {ds : List D} {d : D} (h : Hp lt 0 ds) : Hp lt 0 (hpush lt ds d) := by
  have ga : ∀ i, i < ds.length → (ds ++ [d]).getD i [] = ds.getD i [] := fun i hi => by simp [List.getD_eq_getElem?_getD, List.getElem?_append_left hi]
  have hsub : ∀ q, Sub 0 q := by
    intro q
    induction q using Nat.strongRecOn with
    | ind q ih =>
      by_cases e : q = 0
      · subst e; exact .refl
      · have h0 := Nat.pos_of_ne_zero e
        have hh := ih _ (up_lt h0)
        rcases ch_of h0 with h | h
        · exact h ▸ Sub.l hh
        · exact h ▸ Sub.r hh
  refine sdLoop_hp T _ _ (by simp) (hsub _) ⟨?_, ?_⟩ ?_
  · intro j i hj hi hl e1 e2
    rw [List.length_append, List.length_singleton] at hl
    have hi' : i < ds.length := Nat.lt_of_le_of_ne (Nat.le_of_lt_succ hl) e2
    rw [ga i hi', ga j (Nat.lt_trans (ch_lt hi) hi')]
    exact h j i hj hi hi'
  · intro r i hr hq hi hl
    rw [List.length_append, List.length_singleton] at hl
    exact absurd (Nat.le_of_lt_succ hl) (Nat.not_le_of_lt (ch_lt hi))
  · intro i hi hl
    rw [List.length_append, List.length_singleton] at hl
    exact absurd (Nat.le_of_lt_succ hl) (Nat.not_le_of_lt (ch_lt hi))
theorem hpush_perm {lt : D → D → Bool} {ds : List D} {d : D} : (hpush lt ds d).Perm (d :: ds) :=
  (siftdown_perm (by simp)).trans (List.perm_append_singleton d ds)
theorem hrepl_hp {lt : D → D → Bool} (T : Tot lt) {ds : List D} {d : D} (h0 : 0 < ds.length) (h : Hp lt 0 ds) : Hp lt 0 (hrepl lt ds d) := by
  refine siftup_hp T (by simpa using h0) ?_
  intro j i hj hi hl
  rw [List.length_set] at hl
  rw [getD_set h0, getD_set h0, if_neg (by lia), if_neg (by lia)]
  exact h j i (by lia) hi hl
theorem hrepl_perm {lt : D → D → Bool} {ds : List D} {d : D} (h0 : 0 < ds.length) : (ds.getD 0 [] :: hrepl lt ds d).Perm (d :: ds) := by
  have h1 : (hrepl lt ds d).Perm (ds.set 0 d) := siftup_perm (by simpa using h0)
  cases ds with
  | nil => simp at h0
  | cons a l => exact (h1.cons _).trans (List.Perm.swap d a l)
theorem hrepl_len {lt : D → D → Bool} {ds : List D} {d : D} : (hrepl lt ds d).length = ds.length := by rw [hrepl, siftup_len]; simp
theorem hpush_len {lt : D → D → Bool} {ds : List D} {d : D} : (hpush lt ds d).length = ds.length + 1 := by rw [hpush, siftdown_len]; simp
theorem dropLast_hp {lt : D → D → Bool} {ds : List D} (h : Hp lt 0 ds) : Hp lt 0 ds.dropLast := by
  intro j i hj hi hl
  rw [List.length_dropLast] at hl
  have g : ∀ i, i < ds.length - 1 → ds.dropLast.getD i [] = ds.getD i [] := fun i hi => by
    rw [List.getD_eq_getElem?_getD, List.getD_eq_getElem?_getD, List.getElem?_dropLast, if_pos hi]
  rw [g i hl, g j (Nat.lt_trans (ch_lt hi) hl)]
  exact h j i hj hi (Nat.lt_of_lt_of_le hl (Nat.sub_le _ _))
theorem hpop_hp {lt : D → D → Bool} (T : Tot lt) {ds : List D} (h : Hp lt 0 ds) : Hp lt 0 (hpop lt ds) := by
  unfold hpop
  split
  · intro j i hj hi hl; simp at hl
  · exact hrepl_hp T (by simp; lia) (dropLast_hp h)
theorem hpop_perm {lt : D → D → Bool} {ds : List D} (h0 : 0 < ds.length) : (ds.getD 0 [] :: hpop lt ds).Perm ds := by
  unfold hpop
  split
  · rename_i hl
    match ds, h0, hl with
    | [a], _, _ => exact .refl _
  · rename_i hl
    have hne : ds ≠ [] := by intro e; rw [e] at h0; simp at h0
    have e : ds.dropLast.getD 0 [] = ds.getD 0 [] := by rw [List.getD_eq_getElem?_getD, List.getD_eq_getElem?_getD, List.getElem?_dropLast, if_pos (by lia)]
    have := hrepl_perm (lt := lt) (ds := ds.dropLast) (d := ds.getLastD []) (by simp; lia)
    rw [e] at this
    refine this.trans ?_
    have hd : ds.dropLast ++ [ds.getLastD []] = ds := by
      rw [List.getLastD_eq_getLast?, List.getLast?_eq_some_getLast hne]
      exact List.dropLast_concat_getLast hne
    exact (List.perm_append_singleton _ _).symm.trans (by rw [hd])
theorem root_least {lt : D → D → Bool} (T : Tot lt) {ds : List D} (h : Hp lt 0 ds) : ∀ i, i < ds.length → lt (ds.getD i []) (ds.getD 0 []) = false := by
  intro i
  induction i using Nat.strongRecOn with
  | ind i ih =>
    intro hi
    by_cases e : i = 0
    · subst e; exact T.irr _
    · have h0 := Nat.pos_of_ne_zero e
      exact T.le_tr (ih _ (up_lt h0) (Nat.lt_trans (up_lt h0) hi)) (h _ i (Nat.zero_le _) (ch_of h0) hi)
theorem root_least_mem {lt : D → D → Bool} (T : Tot lt) {ds : List D} (h : Hp lt 0 ds) {x : D} (hx : x ∈ ds) : lt x (ds.getD 0 []) = false := by
  obtain ⟨i, hi, rfl⟩ := List.mem_iff_getElem.mp hx
  have := root_least T h i hi
  rwa [List.getD_eq_getElem?_getD, List.getElem?_eq_getElem hi] at this
end Mine
end
section
namespace Mine
noncomputable def lay : List D → D → List D
  | [], d => [d]
  | x :: xs, d => if llt x d then x :: lay xs d else d :: x :: xs
theorem lay_perm (ds : List D) (d : D) : (lay ds d).Perm (d :: ds) := by
  induction ds with
  | nil => exact .refl _
  | cons x xs ih =>
    simp only [lay]
    split
    · exact (ih.cons x).trans (List.Perm.swap d x xs)
    · exact .refl _
noncomputable def Srt (ds : List D) : Prop := ds.Pairwise fun a b => llt b a = false
theorem lay_srt {ds : List D} {d : D} (h : Srt ds) : Srt (lay ds d) := by
  unfold Srt at h ⊢
  induction ds with
  | nil => simp [lay]
  | cons x xs ih =>
    rw [List.pairwise_cons] at h
    simp only [lay]
    split
    · rename_i hx
      rw [List.pairwise_cons]
      refine ⟨fun y hy => ?_, ih h.2⟩
      rcases List.mem_cons.mp ((lay_perm xs d).mem_iff.mp hy) with rfl | hy
      · exact llt_tot.asym hx
      · exact h.1 y hy
    · rename_i hx
      rw [List.pairwise_cons, List.pairwise_cons]
      refine ⟨fun y hy => ?_, h⟩
      have hx' : llt x d = false := by simpa using hx
      rcases List.mem_cons.mp hy with rfl | hy
      · exact hx'
      · exact llt_tot.le_tr hx' (h.1 y hy)
structure Ok (hs rs : List D) : Prop where
  hp : Hp llt 0 hs
  pm : hs.Perm rs
  sr : Srt rs
theorem Srt.head {x y : D} {t : List D} (h : Srt (x :: t)) (hy : y ∈ x :: t) (hm : ∀ z ∈ x :: t, llt z y = false) : y = x := by
  rcases List.mem_cons.mp hy with rfl | hy'
  · rfl
  · exact llt_tot.tri _ _ ((List.pairwise_cons.mp h).1 y hy') (hm x (.head _))
theorem Srt.last {x y : D} {t : List D} (h : Srt (t ++ [x])) (hy : y ∈ t ++ [x]) (hm : ∀ z ∈ t ++ [x], llt y z = false) : y = x := by
  rcases List.mem_append.mp hy with hy' | hy'
  · exact llt_tot.tri _ _ (hm x (by simp)) ((List.pairwise_append.mp h).2.2 y hy' x (.head _))
  · simpa using hy'
theorem Srt.tail {x : D} {t : List D} (h : Srt (x :: t)) : Srt t := (List.pairwise_cons.mp h).2
theorem Srt.sub {a b : List D} (h : Srt b) (hs : a.Sublist b) : Srt a := List.Pairwise.sublist hs h
theorem getD0_mem {hs : List D} (h : 0 < hs.length) : hs.getD 0 [] ∈ hs := by
  cases hs with
  | nil => simp at h
  | cons a t => simp
theorem Ok.root {hs t : List D} {x : D} (h : Ok hs (x :: t)) : hs.getD 0 [] = x := by
  have h0 : 0 < hs.length := by rw [h.pm.length_eq]; simp
  exact h.sr.head (h.pm.mem_iff.mp (getD0_mem h0)) fun z hz => root_least_mem llt_tot h.hp (h.pm.mem_iff.mpr hz)
theorem Ok.pop {hs t : List D} {x : D} (h : Ok hs (x :: t)) : Ok (hpop llt hs) t := by
  have h0 : 0 < hs.length := by rw [h.pm.length_eq]; simp
  refine ⟨hpop_hp llt_tot h.hp, ?_, h.sr.tail⟩
  have := (hpop_perm (lt := llt) h0).trans h.pm
  rw [h.root] at this
  exact this.cons_inv
theorem Ok.repl {hs t : List D} {x d : D} (h : Ok hs (x :: t)) : Ok (hrepl llt hs d) (lay t d) := by
  have h0 : 0 < hs.length := by rw [h.pm.length_eq]; simp
  refine ⟨hrepl_hp llt_tot h0 h.hp, ?_, lay_srt h.sr.tail⟩
  have := (hrepl_perm (lt := llt) (d := d) h0).trans ((h.pm.cons d).trans (List.Perm.swap x d t))
  rw [h.root] at this
  exact this.cons_inv.trans (lay_perm t d).symm
theorem Ok.make {hs rs : List D} (pm : hs.Perm rs) (sr : Srt rs) : Ok (heapify llt hs) rs := ⟨heapify_hp llt_tot, heapify_perm.trans pm, sr⟩
theorem max_root {hs t : List D} {x : D} (hp : Hp gtl 0 hs) (pm : hs.Perm (t ++ [x])) (sr : Srt (t ++ [x])) : hs.getD 0 [] = x := by
  have h0 : 0 < hs.length := by rw [pm.length_eq]; simp
  exact sr.last (pm.mem_iff.mp (getD0_mem h0)) fun z hz => root_least_mem gtl_tot hp (pm.mem_iff.mpr hz)
theorem max_pop {hs t : List D} {x : D} (hp : Hp gtl 0 hs) (pm : hs.Perm (t ++ [x])) (sr : Srt (t ++ [x])) : Hp gtl 0 (hpop gtl hs) ∧ (hpop gtl hs).Perm t := by
  have h0 : 0 < hs.length := by rw [pm.length_eq]; simp
  refine ⟨hpop_hp gtl_tot hp, ?_⟩
  have := (hpop_perm (lt := gtl) h0).trans (pm.trans List.perm_append_comm)
  rw [max_root hp pm sr] at this
  exact List.Perm.cons_inv this
end Mine
end
section
namespace Mine
noncomputable def InR {α : Type} (N : Nat) : KasT α → Prop
  | .ret _ => True
  | .ask i j k => i < N ∧ j < N ∧ ∀ b, InR N (k b)
theorem InR.bind {α β : Type} {N : Nat} {f : α → KasT β} : ∀ {t : KasT α}, InR N t → (∀ a, InR N (f a)) → InR N (t.bind f)
  | .ret a, _, hf => hf a
  | .ask _ _ _, h, hf => ⟨h.1, h.2.1, fun b => (h.2.2 b).bind hf⟩
noncomputable def Out {α : Type} (P : α → Prop) : KasT α → Prop
  | .ret a => P a
  | .ask _ _ k => ∀ b, Out P (k b)
theorem InR.bindO {α β : Type} {N : Nat} {P : α → Prop} {f : α → KasT β} : ∀ {t : KasT α}, InR N t → Out P t → (∀ a, P a → InR N (f a)) → InR N (t.bind f)
  | .ret a, _, hp, hf => hf a hp
  | .ask _ _ _, h, hp, hf => ⟨h.1, h.2.1, fun b => (h.2.2 b).bindO (hp b) hf⟩
theorem Out.bind {α β : Type} {P : α → Prop} {P' : β → Prop} {f : α → KasT β} : ∀ {t : KasT α}, Out P t → (∀ a, P a → Out P' (f a)) → Out P' (t.bind f)
  | .ret a, hp, hf => hf a hp
  | .ask _ _ _, hp, hf => fun b => (hp b).bind hf
noncomputable def Lw (N : Nat) (p : Array Nat) : Prop := ∀ i, p.getD i 0 < N
theorem Lw.of_perm {N : Nat} {p q : Array Nat} (h : Lw N q) (hN : 0 < N) (hp : p.toList.Perm q.toList) : Lw N p := fun i => by
  rw [Array.getD_eq_getD_getElem?]
  cases e : p[i]? with
  | none => exact hN
  | some x =>
    have hx : x ∈ q.toList := hp.mem_iff.mp (by
      have := Array.mem_of_getElem? e
      simpa using this)
    obtain ⟨j, hj, e'⟩ := List.getElem_of_mem hx
    have := h j
    rw [Array.getD_eq_getD_getElem?, show q[j]? = some x by rw [← e']; simp [show j < q.size by simpa using hj]] at this
    exact this
theorem Lw.rev {N : Nat} {p : Array Nat} {i j : Nat} (h : Lw N p) (hN : 0 < N) : Lw N (kas_rev p i j) := h.of_perm hN rev_perm
theorem Lw.bub {N : Nat} {p : Array Nat} {i j : Nat} (h : Lw N p) (hN : 0 < N) : Lw N (bubble p i j) := h.of_perm hN (bubble_perm p i j).toList
theorem inr_asc {N : Nat} {p : Array Nat} (h : Lw N p) : ∀ f n, InR N (kas_asc p f n)
  | 0, _ => trivial
  | f + 1, n => ⟨h _, h _, fun b => by
    cases b with
    | true => exact trivial
    | false => exact inr_asc h f (n + 1)⟩
theorem inr_desc {N : Nat} (hN : 0 < N) : ∀ f (p : Array Nat) n q, Lw N p → InR N (kas_desc f p n q) ∧ Out (fun r => Lw N r.1) (kas_desc f p n q)
  | 0, p, n, q, h => ⟨trivial, h⟩
  | f + 1, p, n, q, h => by
    have h1 : ∀ b, InR N ((fun c => if c = true then (if q > 0 then kas_desc f (kas_rev p (n - (q + 1)) n) (n + 1) 0 else kas_desc f p (n + 1) 0)
        else KasT.ask (p.getD (n - 1) 0) (p.getD n 0) fun d => if d = true then .ret (p, n, q) else kas_desc f p (n + 1) (q + 1)) b) ∧
      Out (fun r => Lw N r.1) ((fun c => if c = true then (if q > 0 then kas_desc f (kas_rev p (n - (q + 1)) n) (n + 1) 0 else kas_desc f p (n + 1) 0)
        else KasT.ask (p.getD (n - 1) 0) (p.getD n 0) fun d => if d = true then .ret (p, n, q) else kas_desc f p (n + 1) (q + 1)) b) := by
      intro b
      cases b with
      | true =>
        simp only [if_true]
        split
        · exact inr_desc hN f _ _ _ (h.rev hN)
        · exact inr_desc hN f _ _ _ h
      | false =>
        simp only [Bool.false_eq_true, if_false]
        refine ⟨⟨h _, h _, fun d => ?_⟩, fun d => ?_⟩
        · cases d with
          | true => exact trivial
          | false => exact (inr_desc hN f p _ _ h).1
        · cases d with
          | true => exact h
          | false => exact (inr_desc hN f p _ _ h).2
    exact ⟨⟨h _, h _, fun b => (h1 b).1⟩, fun b => (h1 b).2⟩
theorem out_top {α : Type} : ∀ t : KasT α, Out (fun _ => True) t
  | .ret _ => trivial
  | .ask _ _ k => fun b => out_top (k b)
theorem inr_tail3 {N n : Nat} (hN : 0 < N) {p : Array Nat} (h : Lw N p) : InR N (kas_tail3 n N p) ∧ Out (fun r => Lw N r.2) (kas_tail3 n N p) :=
  ⟨(inr_asc (h.rev hN) _ _).bind fun _ => trivial, (out_top _).bind fun _ _ => h.rev hN⟩
theorem inr_descPart {N n : Nat} (hN : 0 < N) {p : Array Nat} (h : Lw N p) : InR N (kas_descPart n N p) ∧ Out (fun r => Lw N r.2) (kas_descPart n N p) := by
  have key : ∀ r : Array Nat × Nat × Nat, Lw N r.1 → InR N (if r.2.2 > 0 then kas_tail3 r.2.1 N (kas_rev r.1 (r.2.1 - (r.2.2 + 1)) r.2.1) else kas_tail3 r.2.1 N r.1) ∧
      Out (fun r => Lw N r.2) (if r.2.2 > 0 then kas_tail3 r.2.1 N (kas_rev r.1 (r.2.1 - (r.2.2 + 1)) r.2.1) else kas_tail3 r.2.1 N r.1) := fun r hr => by
    split
    · exact inr_tail3 hN (hr.rev hN)
    · exact inr_tail3 hN hr
  have d := inr_desc hN (N - (n + 1)) p (n + 1) 0 h
  exact ⟨d.1.bindO d.2 fun r hr => (key r hr).1, d.2.bind fun r hr => (key r hr).2⟩
theorem inr_count {N : Nat} (hN : 0 < N) {p : Array Nat} (h : Lw N p) : InR N (kas_count N p) ∧ Out (fun r => Lw N r.2) (kas_count N p) := by
  have key : ∀ n, InR N (if (n == N) = true then KasT.ret (n, p) else if n > 1 then .ask (p.getD 0 0) (p.getD (n - 1) 0) fun c => if c = true then .ret (n, p) else kas_descPart n N (kas_rev p 0 n) else kas_descPart n N p) ∧
      Out (fun r => Lw N r.2) (if (n == N) = true then KasT.ret (n, p) else if n > 1 then .ask (p.getD 0 0) (p.getD (n - 1) 0) fun c => if c = true then .ret (n, p) else kas_descPart n N (kas_rev p 0 n) else kas_descPart n N p) := fun n => by
    split
    · exact ⟨trivial, h⟩
    · split
      · refine ⟨⟨h _, h _, fun b => ?_⟩, fun b => ?_⟩
        · cases b with
          | true => exact trivial
          | false => exact (inr_descPart hN (h.rev hN)).1
        · cases b with
          | true => exact h
          | false => exact (inr_descPart hN (h.rev hN)).2
      · exact inr_descPart hN h
  exact ⟨(inr_asc h _ _).bind fun n => (key n).1, (out_top _).bind fun n _ => (key n).2⟩
theorem inr_place {N : Nat} {p : Array Nat} (h : Lw N p) (k : Nat) : ∀ f l r, InR N (kas_place p k f l r)
  | 0, _, _ => trivial
  | f + 1, l, r => by
    unfold kas_place
    split
    · exact trivial
    · refine ⟨h _, h _, fun b => ?_⟩
      cases b with
      | true => exact inr_place h k f _ _
      | false => exact inr_place h k f _ _
theorem inr_bin {N : Nat} (hN : 0 < N) : ∀ f (p : Array Nat) k, Lw N p → InR N (kas_bin f p k)
  | 0, _, _, _ => trivial
  | f + 1, p, k, h => (inr_place h k _ _ _).bind fun l => inr_bin hN f _ _ (h.bub hN)
theorem inr_sort {N : Nat} (hN : 0 < N) : InR N (kas_sort N) := by
  have h : Lw N (List.toArray (List.range N)) := fun i => by
    rw [Array.getD_eq_getD_getElem?]
    by_cases hi : i < N
    · simp [hi]
    · simp [hi, hN]
  have c := inr_count hN h
  refine c.1.bindO c.2 fun r hr => ?_
  split
  · exact inr_bin hN _ _ _ hr
  · exact trivial
theorem asked {α : Type} {N : Nat} {lt : Nat → Nat → Bool} {cmp : Nat → Nat → (Bool → Shared → Prop) → Shared → Prop} {s : Shared} (hc : ∀ i j, i < N → j < N → ∀ C : Bool → Shared → Prop, C (lt i j) s → cmp i j C s) {Q : α → Shared → Prop} :
    ∀ t : KasT α, InR N t → Q (ev lt t) s → t.kasWp cmp Q s
  | .ret _, _, h => h
  | .ask i j k, hr, h => hc i j hr.1 hr.2.1 _ (asked hc (k (lt i j)) (hr.2.2 _) h)
section
variable {prog : Program} {w : World} {A : Around} {E : Value → Shared → Prop} {s : Shared}
theorem lex_of {h : Heap} {b : Bool} {Q : Bool → Shared → Prop} {k : Nat} (hu : A.units + k < cLine) (hs : s.heap = h) : ∀ {xs ys : List Value} {e l : Bool} (i : Nat), CmpL (Cmp h k) xs ys e l →
    (b = true → i = 0 → ∀ p q, xs[0]? = some p → ys[0]? = some q → ∃ x t y u, p = .int x t ∧ q = .int y u) → Q l s → KatLex prog w A b false Q (xs.zip ys) i s := by
  subst hs
  intro xs
  induction xs with
  | nil => intro ys e l i hh hb hq; cases hh; exact hq
  | cons x xs ih =>
    intro ys e l i hh hb hq
    cases hh with
    | @cons _ y _ ys e l e' l' h1 h2 =>
      have c := cmp_all (prog := prog) (w := w) (E := fun _ _ => False) (s := s) k hu h1
      refine kat_cons (c.1 _ ?_)
      cases e with
      | true =>
        simp only [if_true] at hq
        exact kat_yes (ih (i + 1) h2 (fun _ h => by lia) hq)
      | false =>
        simp only [Bool.false_eq_true, if_false] at hq
        refine kat_no ?_
        by_cases hf : (b && i == 0) = true
        · rw [hf]
          simp only [Bool.and_eq_true, beq_iff_eq] at hf
          obtain ⟨x', t, y', u, rfl, rfl⟩ := hb hf.1 hf.2 x y rfl rfl
          refine oneLt_int ?_
          have := (cmp_all (prog := prog) (w := w) (E := fun _ _ => False) (s := s) k hu h1).2.2 (fun v _ => v = .bool l) rfl
          have e2 : l = decide (x' < y') := by
            have z := cmpI s.heap k x' y' t u
            cases k with
            | zero =>
              obtain ⟨a1, a2, a3, a4, b1, b2, b3, b4⟩ := h1
              cases b1; cases b2; exact b4
            | succ k =>
              have : ∀ k, Cmp s.heap k (.int x' t) (.int y' u) false l → l = decide (x' < y') := by
                intro k
                induction k with
                | zero => intro h; obtain ⟨a1, a2, a3, a4, b1, b2, b3, b4⟩ := h; cases b1; cases b2; exact b4
                | succ k ih =>
                  intro h
                  rcases h with h | ⟨_, _, _, _, _, _, q, _⟩
                  · exact ih h
                  · cases q
              exact this _ h1
          rw [← e2]; exact hq
        · rw [show (b && i == 0) = false by simpa using hf]
          exact kat_one _ _ (c.2.2 _ hq)
end
noncomputable def kindS : Kd → SortKind
  | .i => oneType'
  | .p => tuples' true
  | .pi => tuples' false
  | .kip => tuples' true
section
variable {prog : Program} {w : World} {A : Around} {E : Value → Shared → Prop} {s : Shared} {h : Heap} {tk : Nat} {h₀ : Base} {L : Addr} {m : Str → Option Value} {ls : List Ent} {ob nw : Led} {a : Addr} {k : Kd} {ds : List D} {g : List D → List Ent}
theorem looksInt {M : Model} {h : Heap} {x : Int} {t : Tok} : Looks M h (typeOf (.int x t)) (.type "int") := Looks.now
theorem keyLt_of {v v' : Value} {d d' : D} {Q : Bool → Shared → Prop} (S : St h₀ L h m ls ob nw) (hu : A.units + 2 < cLine) (h1 : RelIn nw k v d) (h2 : RelIn nw k v' d') (q : Q (llt d d') (mk s h tk)) :
    wpAny (model prog w) A (keyLt' (kindS k) v v') Q E (mk s h tk) := by
  have hn := S.gets
  have fin : ∀ {a a' : Addr} {xs ys : List Value} {n n' : Nat} {b : Bool} {e l : Bool}, h.get? a = some (tupOf xs n) → h.get? a' = some (tupOf ys n') → CmpL (Cmp h 1) xs ys e l → l = llt d d' → (b = true → ∀ p q, xs[0]? = some p → ys[0]? = some q → ∃ x t y u, p = .int x t ∧ q = .int y u) →
      wpAny (model prog w) A (keyLt' (tuples' b) (.ref a) (.ref a')) Q E (mk s h tk) := by
    intro a a' xs ys n n' b e l g1 g2 hc hl hb
    refine kat_lt (s := mk s h tk) g1 rfl g2 rfl ?_
    rw [show decide (xs.toArray.size < ys.toArray.size) = false by have := hc.len; simp [this]]
    exact lex_of (s := mk s h tk) (k := 1) (by lia) rfl 0 hc (fun hb' _ => hb hb') (hl ▸ q)
  cases k with
  | i =>
    obtain ⟨x, t, rfl, rfl⟩ := h1
    obtain ⟨y, u, rfl, rfl⟩ := h2
    show wpAny (model prog w) A (keyLt' oneType' _ _) Q E _
    rw [keyLt'_oneType]
    refine oneLt_int ?_
    have : llt [x] [y] = decide (x < y) := by by_cases e1 : x = y <;> simp [llt, e1]
    rw [← this]; exact q
  | p =>
    obtain ⟨a, n, x, t, y, u, rfl, m1, rfl⟩ := h1
    obtain ⟨a', n', x', t', y', u', rfl, m2, rfl⟩ := h2
    have c := CmpL.cons (R := Cmp h 1) (cmpI h 1 x x' t t') (.cons (cmpI h 1 y y' u u') .nil)
    refine fin (hn _ m1) (hn _ m2) c ?_ fun _ p q hp hq => by cases hp; cases hq; exact ⟨_, _, _, _, rfl, rfl⟩
    by_cases e1 : x = x' <;> by_cases e2 : y = y' <;> simp [llt, e1, e2]
  | pi =>
    obtain ⟨a, n, v₁, d₁, z, u, rfl, m1, p1, rfl⟩ := h1
    obtain ⟨a', n', v₂, d₂, z', u', rfl, m2, p2, rfl⟩ := h2
    have c := CmpL.cons (R := Cmp h 1) (cmpP hn p1 p2) (.cons (cmpI h 1 z z' u u') .nil)
    have hl : d₁.length = d₂.length := p1.len.trans p2.len.symm
    refine fin (hn _ m1) (hn _ m2) c ?_ fun hb => by cases hb
    rw [llt_append_one hl]
    by_cases e1 : d₁ = d₂ <;> by_cases e2 : z = z' <;> simp [e1, e2]
  | kip =>
    obtain ⟨a, n, x, t, y, u, v₁, d₁, rfl, m1, p1, rfl⟩ := h1
    obtain ⟨a', n', x', t', y', u', v₂, d₂, rfl, m2, p2, rfl⟩ := h2
    have c := CmpL.cons (R := Cmp h 1) (cmpI h 1 x x' t t') (.cons (cmpI h 1 y y' u u') (.cons (cmpP hn p1 p2) .nil))
    refine fin (hn _ m1) (hn _ m2) c ?_ fun _ p q hp hq => by cases hp; cases hq; exact ⟨_, _, _, _, rfl, rfl⟩
    by_cases e1 : x = x' <;> by_cases e2 : y = y' <;> by_cases e3 : d₁ = d₂ <;> simp [llt, e1, e2, e3]
    subst e3
    exact (Cmp.self 1 _ _ _ (cmpP hn p1 p1)).2
theorem kind_of {vs : List Value} {Q : SortKind → Shared → Prop} (S : St h₀ L h m ls ob nw) (hr : All2 (RelIn nw k) vs ds) (h2 : 0 < vs.length) (hk : k ≠ .i) (q : Q (kindS k) (mk s h tk)) :
    wpAny (model prog w) A (keyKind' vs.toArray) Q E (mk s h tk) := by
  have hn := S.gets
  have key : ∀ (T : Value), (∀ v d, RelIn nw k v d → ∃ a o xs n f, v = .ref a ∧ h.get? a = some o ∧ o.cls = .type "tuple" ∧ o.data = .seq xs n ∧ xs[0]? = some f ∧ Looks (model prog w) h (typeOf f) T) →
      ∃ fs : List Value, KatTups h vs fs ∧ fs.length = vs.length ∧ ∀ f ∈ fs, Looks (model prog w) h (typeOf f) T := by
    intro T hT
    clear h2
    induction hr with
    | nil => exact ⟨[], trivial, rfl, fun _ h => nomatch h⟩
    | @cons v d vs ds r1 _ ih =>
      obtain ⟨fs, a1, a2, a3⟩ := ih
      obtain ⟨a, o, xs, n, f, rfl, b1, b2, b3, b4, b5⟩ := hT v d r1
      refine ⟨f :: fs, KatTups.cons b1 b2 b3 b4 a1, by simp [a2], fun f' hf' => ?_⟩
      rcases List.mem_cons.mp hf' with rfl | hf'
      · exact b5
      · exact a3 _ hf'
  cases k with
  | i => exact absurd rfl hk
  | p =>
    obtain ⟨fs, a1, a2, a3⟩ := key (.type "int") fun v d r => by
      obtain ⟨a, n, x, t, y, u, rfl, m1, rfl⟩ := r
      exact ⟨a, _, _, n, .int x t, rfl, hn _ m1, rfl, rfl, rfl, looksInt⟩
    exact kat_kind (s := mk s h tk) a1 (by lia) a3 (by decide) q
  | pi =>
    obtain ⟨fs, a1, a2, a3⟩ := key (.type "tuple") fun v d r => by
      obtain ⟨a, n, v₁, d₁, z, u, rfl, m1, p1, rfl⟩ := r
      obtain ⟨a', n', x, t, y, u', rfl, m2, rfl⟩ := p1
      exact ⟨a, _, _, n, .ref a', rfl, hn _ m1, rfl, rfl, rfl, (Looks.ld (hn _ m2)).andThen .now⟩
    exact kat_kind (s := mk s h tk) a1 (by lia) a3 (by decide) q
  | kip =>
    obtain ⟨fs, a1, a2, a3⟩ := key (.type "int") fun v d r => by
      obtain ⟨a, n, x, t, y, u, v₁, d₁, rfl, m1, p1, rfl⟩ := r
      exact ⟨a, _, _, n, .int x t, rfl, hn _ m1, rfl, rfl, rfl, looksInt⟩
    exact kat_kind (s := mk s h tk) a1 (by lia) a3 (by decide) q
noncomputable def sortD (ds : List D) : List D := if ds.length < 2 then ds else (ev (fun i j => llt (ds.getD i []) (ds.getD j [])) (kas_sort ds.length)).toList.map fun i => ds.getD i []
theorem llt_swo (ds : List D) : Swo fun i j => llt (ds.getD i []) (ds.getD j []) :=
  ⟨fun _ => llt_tot.irr _, fun _ _ _ => llt_tot.tr _ _ _, fun _ _ _ h1 h2 => llt_tot.le_tr h1 h2⟩
theorem map_getD_range (ds : List D) : (List.range ds.length).map (fun i => ds.getD i []) = ds := by
  refine List.ext_getElem (by simp) fun i h1 h2 => ?_
  simp [List.getD, List.getElem?_eq_getElem h2]
theorem sortD_perm (ds : List D) : (sortD ds).Perm ds := by
  unfold sortD
  split
  · exact .refl _
  · have U := sort_ev (llt_swo ds) (N := ds.length) (by lia)
    have := U.perm.map fun i => ds.getD i []
    rwa [map_getD_range] at this
theorem sortD_srt (ds : List D) : Srt (sortD ds) := by
  unfold sortD
  split
  · rename_i h
    match ds, h with
    | [], _ => exact .nil
    | [_], _ => exact List.pairwise_singleton _ _
    | _ :: _ :: _, h => simp at h; lia
  · have U := sort_ev (llt_swo ds) (N := ds.length) (by lia)
    generalize ev (fun i j => llt (ds.getD i []) (ds.getD j [])) (kas_sort ds.length) = p at U
    unfold Srt
    rw [List.pairwise_map, List.pairwise_iff_getElem]
    intro i j hi hj hij
    have := (U.srt i j hij (by rw [← U.size]; simpa using hj)).le (llt_swo ds)
    simpa [Array.getD_eq_getD_getElem?, show i < p.size by simpa using hi, show j < p.size by simpa using hj] using this
theorem sortD_len (ds : List D) : (sortD ds).length = ds.length := (sortD_perm ds).length_eq
noncomputable def sortB (b : Bool) (ds : List D) : List D := katRev b (sortD (katRev b ds))
theorem katRev_perm (b : Bool) (ds : List D) : (katRev b ds).Perm ds := by
  unfold katRev; split
  · exact List.reverse_perm _
  · exact .refl _
theorem sortB_perm (b : Bool) (ds : List D) : (sortB b ds).Perm ds := (katRev_perm _ _).trans ((sortD_perm _).trans (katRev_perm _ _))
noncomputable def sortTree (a : Addr) (b : Bool) : Sem PySem.Fin := (do
    let items ← Builtin.List.listItems (.ref a)
    Builtin.List.listUpdate (.ref a) fun _ => #[]
    let before ← seqEpoch a
    let held ← newTuple items.toList
    let keyStore ← newList []
    holding [held, keyStore] do
      if b then rule "list.sort.reverse"
      let kind ← if items.size < 2 then pure general' else keyKind' items
      let ((), s) ← (if items.size < 2 then pure () else sortRuns').run (SortSt.mk' kind (if b then (items.zip items).reverse else items.zip items) #[] 7 none)
      let sorted := (arrOf s).map (·.2)
      let touched := (← seqEpoch a) != before
      Builtin.List.listUpdate (.ref a) fun _ => if b then sorted.reverse else sorted
      if let some e := failedOf s then rule "list.sort.comparison-raised"; throw e
      if touched then rule "list.sort.modified"; raiseError "ValueError" "list modified during sort"
      ret .none)
theorem sort_none (a : Addr) : Builtin.«list.sort» ⟨[.ref a], []⟩ = sortTree a false := rfl
theorem sort_rev (a : Addr) : Builtin.«list.sort» ⟨[.ref a], [(Str.ofString "reverse", .bool true)]⟩ = sortTree a true := rfl
theorem sort_key (a : Addr) : Builtin.«list.sort» ⟨[.ref a], [(Str.ofString "key", .none)]⟩ = sortTree a false := rfl
theorem sort_keyRev (a : Addr) : Builtin.«list.sort» ⟨[.ref a], [(Str.ofString "key", .none), (Str.ofString "reverse", .bool true)]⟩ = sortTree a true := rfl
theorem All2.pick {R : Value → D → Prop} {vs : List Value} {ds : List D} (h : All2 R vs ds) : ∀ l : List Nat, (∀ i ∈ l, i < ds.length) → All2 R (l.map fun i => vs.getD i Value.none) (l.map fun i => ds.getD i [])
  | [], _ => .nil
  | i :: l, hl => by
    obtain ⟨v, e1, r1⟩ := h.get (List.getElem?_eq_getElem (hl i (.head _)))
    refine .cons ?_ (h.pick l fun j hj => hl j (.tail _ hj))
    simpa [List.getD, e1, List.getElem?_eq_getElem (hl i (.head _))] using r1
theorem All2.rev {R : Value → D → Prop} {vs : List Value} {ds : List D} (h : All2 R vs ds) (b : Bool) : All2 R (katRev b vs) (katRev b ds) := by
  unfold katRev; split
  · exact h.reverse
  · exact h
theorem sortB_small {b : Bool} {ds : List D} (h : ds.length < 2) : sortB b ds = ds := by
  unfold sortB sortD
  rw [if_pos (by rw [kat_len]; exact h)]
  unfold katRev; split <;> simp
theorem sort_tree {b : Bool} {P : PySem.Fin → Shared → Prop} (S : St h₀ L h m ls ob nw) (U : At a k ds ls g) (hk : k ≠ .i) (hz : ds.length < 64) (hu : A.units + 2 < cLine)
    (q : ∀ h', St h₀ L h' m (g (sortB b ds)) ob nw → P (.done (.ret .none)) (mk s h' tk)) : wpAny (model prog w) A (sortTree a b) P E (mk s h tk) := by
  obtain ⟨vs, c, pre, post, N, ha, h1, h2, hc⟩ := S.open U
  have z := N (a, listOf vs.toArray c) (List.mem_append_right _ (.head _))
  have hlen := ha.len
  have ho : (mk s h tk).heap.get? a = some (seqObj "list" vs.toArray c) := z.1
  unfold sortTree
  refine wpAny_bind (listItems_at ho rfl ?_)
  refine wpAny_bind (listUpdate_at ho rfl ?_ (by rw [List.size_toArray, sizeLine_eq]; lia) (Nat.zero_le _))
  obtain ⟨e1, ho1⟩ : ∃ e1, (h.update a (Obj.mapSeq fun _ => (#[] : Array Value))).get? a = some (seqObj "list" #[] e1) := ⟨_, get?_update_seq ho fun _ => #[]⟩
  refine wpAny_bind (seqEpoch_at ho1 rfl ?_)
  refine wpAny_bind (wpAny_newTuple ?_ (by show vs.length ≤ _; rw [sizeLine_eq]; lia))
  refine wpAny_bind (wpAny_newList ?_ (Nat.zero_le _))
  refine wpAny_holding ?_
  have S1 : St h₀ L (h.update a (Obj.mapSeq fun _ => (#[] : Array Value))) m (g []) ob nw :=
    hc _ m [] e1 [] (S.fr.change (Heap.SameBut.update ..) z.2.1 z.2.2) (news_set N h1 h2 (Heap.SameBut.update ..) ho1) .nil
  have S6 : St h₀ L (((h.update a (Obj.mapSeq fun _ => (#[] : Array Value))).push (seqObj "tuple" vs.toArray 0)).push (seqObj "list" #[] 0)) m (g []) ob nw :=
    (S1.grown fun _ _ e => Heap.get?_push_of_some _ e).grown fun _ _ e => Heap.get?_push_of_some _ e
  have ho6 : (((h.update a (Obj.mapSeq fun _ => (#[] : Array Value))).push (seqObj "tuple" vs.toArray 0)).push (seqObj "list" #[] 0)).get? a = some (seqObj "list" #[] e1) := Heap.get?_push_of_some _ (Heap.get?_push_of_some _ ho1)
  show wpAny (model prog w) A _ P E (mk s (((h.update a (Obj.mapSeq fun _ => (#[] : Array Value))).push (seqObj "tuple" vs.toArray 0)).push (seqObj "list" #[] 0)) tk)
  obtain ⟨h6, hyh6⟩ : ∃ y, y = (((h.update a (Obj.mapSeq fun _ => (#[] : Array Value))).push (seqObj "tuple" vs.toArray 0)).push (seqObj "list" #[] 0)) := ⟨_, rfl⟩
  rw [← hyh6] at S6 ho6 ⊢
  clear hyh6
  obtain ⟨vs6, c6, pre6, post6, N6, ha6, x1, x2, hc6⟩ := S6.open (U.again [])
  have hv6 : vs6 = [] := by cases ha6; rfl
  subst hv6
  have z6 := N6 (a, listOf #[] c6) (List.mem_append_right _ (.head _))
  have fin : ∀ out : List Value, All2 (RelIn nw k) out (sortB b ds) → P (.done (.ret .none)) (mk s (h6.update a (Obj.mapSeq fun _ => out.toArray)) tk) := fun out hout => by
    obtain ⟨c2, hc2⟩ : ∃ c2, (h6.update a (Obj.mapSeq fun _ => out.toArray)).get? a = some (seqObj "list" out.toArray c2) := ⟨_, get?_update_seq ho6 fun _ => out.toArray⟩
    exact q _ (hc6 _ m out c2 _ (S6.fr.change (Heap.SameBut.update ..) z6.2.1 z6.2.2) (news_set N6 x1 x2 (Heap.SameBut.update ..) hc2) hout)
  dsimp only
  have step : ∀ t : Sem PySem.Fin, wpAny (model prog w) A t P E (mk s h6 tk) → wpAny (model prog w) A (if b = true then (do let _ ← rule "list.sort.reverse"; t) else t) P E (mk s h6 tk) := by
    intro t ht
    split
    · exact wpAny_bind (wpAny_rule ht)
    · exact ht
  refine step _ ?_
  have hsz : vs.toArray.size = vs.length := by simp
  by_cases hl2 : vs.toArray.size < 2
  · rw [if_pos hl2, if_pos hl2]
    refine wpAny_bind (wpAny_pure ?_)
    rw [StateT.run_pure]
    refine wpAny_bind (wpAny_pure ?_)
    dsimp only
    have hout : (if b = true then (Array.map (fun x => x.2) (arrOf (SortSt.mk' general' (if b = true then (vs.toArray.zip vs.toArray).reverse else vs.toArray.zip vs.toArray) #[] 7 none))).reverse
        else Array.map (fun x => x.2) (arrOf (SortSt.mk' general' (if b = true then (vs.toArray.zip vs.toArray).reverse else vs.toArray.zip vs.toArray) #[] 7 none))) = vs.toArray := by
      have e : (Array.map (fun x : Keyed => x.2) (vs.toArray.zip vs.toArray)) = vs.toArray := by
        apply Array.toList_inj.mp
        simp only [Array.toList_map, Array.toList_zip]
        rw [List.map_snd_zip] <;> simp
      cases b with
      | false => exact e
      | true =>
        show (Array.map (fun x : Keyed => x.2) (vs.toArray.zip vs.toArray).reverse).reverse = _
        rw [Array.map_reverse, Array.reverse_reverse]; exact e
    refine wpAny_bind (seqEpoch_at ho6 rfl ?_)
    refine wpAny_bind (listUpdate_at ho6 rfl ?_ (Nat.zero_le _) (by rw [hout, hsz, sizeLine_eq]; lia))
    simp only [bne_self_eq_false, Bool.false_eq_true, if_false]
    rw [hout]
    exact wpAny_pure (fin vs (by rw [sortB_small (by lia)]; exact ha))
  · rw [if_neg hl2, if_neg hl2]
    refine wpAny_bind (kind_of S6 ha (by lia) hk ?_)
    have hpairs := kat_pairs b (ks := vs) (vs := vs) rfl
    rw [hpairs]
    have hl' : (katRev b vs).length = vs.length := kat_len b vs
    have hd' : (katRev b ds).length = ds.length := kat_len b ds
    have hr' := ha.rev b
    obtain ⟨lt, hlt⟩ : ∃ lt : Nat → Nat → Bool, lt = fun i j => llt ((katRev b ds).getD i []) ((katRev b ds).getD j []) := ⟨_, rfl⟩
    refine wpAny_bind (wpAny_mono (kat_run (A := A) (E := E) (s := mk s h6 tk) (κ := kindS k) (ks := katRev b vs) (vs := katRev b vs)
      (Q := fun st' s' => s' = mk s h6 tk ∧ failedOf st' = none ∧ arrOf st' = (ev lt (kas_sort (katRev b ds).length)).map (kas_item ((katRev b vs).toArray.zip (katRev b vs).toArray)))
      (G := fun p s' => s' = mk s h6 tk ∧ p = ev lt (kas_sort (katRev b ds).length)) rfl (by lia) (by lia)
      (fun p st' s' a1 a2 a3 a4 => ⟨a4.1, a3, by rw [a2, a4.2]⟩) ?_) ?_ fun _ _ e => e)
    · refine asked (N := (katRev b vs).length) (lt := lt) (fun i j hi hj C hC => ?_) _ (inr_sort (by lia)) ⟨rfl, by rw [hr'.len]⟩
      obtain ⟨d, e1, r1⟩ := hr'.get' (List.getElem?_eq_getElem hi)
      obtain ⟨d', e2, r2⟩ := hr'.get' (List.getElem?_eq_getElem hj)
      unfold kas_ask
      rw [show (katRev b vs).getD i Value.none = (katRev b vs)[i] by simp [List.getD, List.getElem?_eq_getElem hi], show (katRev b vs).getD j Value.none = (katRev b vs)[j] by simp [List.getD, List.getElem?_eq_getElem hj]]
      refine keyLt_of S6 hu r1 r2 ?_
      rw [hlt] at hC
      simpa [List.getD, e1, e2] using hC
    · rintro ⟨⟨⟩, st'⟩ s' ⟨rfl, hf, har⟩
      dsimp only
      have hout := kat_snds (ks := katRev b vs) (vs := katRev b vs) rfl har
      have hU := sort_ev (llt_swo (katRev b ds)) (N := (katRev b ds).length) (by lia)
      rw [← hlt] at hU
      rw [hout]
      refine wpAny_bind (seqEpoch_at ho6 rfl ?_)
      refine wpAny_bind (listUpdate_at ho6 rfl ?_ (Nat.zero_le _) ?_)
      · rw [hf]
        simp only [bne_self_eq_false, Bool.false_eq_true, if_false]
        rw [kat_outs]
        refine wpAny_pure (fin _ ?_)
        have := (hr'.pick (ev lt (kas_sort (katRev b ds).length)).toList fun i hi => by have := hU.perm.mem_iff.mp hi; simpa using this).rev b
        unfold sortB sortD
        rw [if_neg (by lia), ← hlt]
        exact this
      · rw [kat_outs]
        rw [List.size_toArray, kat_len, List.length_map, Array.length_toList, hU.size, sizeLine_eq]; lia
theorem r_sort {kw : List (Str × Value)} {b : Bool} {Q : Value → Shared → Prop} (S : St h₀ L h m ls ob nw) (U : At a k ds ls g) (hk : k ≠ .i) (hz : ds.length < 64) (hu : A.units + 3 < cLine)
    (he : Builtin.«list.sort» ⟨[.ref a], kw⟩ = sortTree a b) (hargs : argsOk "list.sort" ⟨[.ref a], kw⟩)
    (q : ∀ h', St h₀ L h' m (g (sortB b ds)) ob nw → Q .none (mk s h' tk)) : wpAny (model prog w) A (call (.builtin "list.sort") [.ref a] kw) Q E (mk s h tk) := by
  obtain ⟨vs, n, ho, _⟩ := S.isList U
  refine wpAny_call_entry_kw slot_list_sort (s := mk s h tk) ⟨_, ho, rfl⟩ entry_list_sort ?_ hargs
  show wpAny (model prog w) A.in1 (Builtin.«list.sort» ⟨[.ref a], kw⟩) _ _ _
  rw [he]
  exact sort_tree S U hk hz (by show A.units + 1 + 2 < cLine; lia) fun h' S' => ⟨_, rfl, q h' S'⟩
end
end Mine
end
section
namespace Mine
section
variable {prog : Program} {w : World} {A : Around} {E : Value → Shared → Prop} {s : Shared}
theorem tup_gt_eq (a b : Value) : Builtin.«tuple.__gt__» ⟨[a, b], []⟩ = (do
  if !(← isInstance b (.type "tuple")) then return ← ret .notImplemented
  let xs ← Builtin.Tuple.tupleItemsOf a
  let ys ← Builtin.Tuple.tupleItemsOf b
  for (x, y) in xs.toList.zip ys.toList do
    if !(← eqBool x y) then
      rule "tuple.compare.by-the-first-pair-that-differs"
      return ← ret (← richCompare .Gt x y)
  ret (.bool (decide (xs.size > ys.size)))) := rfl
theorem tup_gt_tree {R : Value → Value → Bool → Bool → Prop} {a b : Addr} {xs ys : List Value} {n n' : Nat} {e l : Bool} {P : PySem.Fin → Shared → Prop}
    (ha : s.heap.get? a = some (tupOf xs n)) (hb : s.heap.get? b = some (tupOf ys n')) (hc : CmpL R xs ys e l)
    (hR : ∀ x y e l, R x y e l → (∀ Q : Bool → Shared → Prop, Q e s → wpAny (model prog w) A (eqBool x y) Q E s) ∧ (∀ Q : Value → Shared → Prop, Q (.bool (!e && !l)) s → wpAny (model prog w) A (richCompare .Gt x y) Q E s))
    (h : P (.done (.ret (.bool (!e && !l)))) s) : wpAny (model prog w) A (Builtin.«tuple.__gt__» ⟨[.ref a, .ref b], []⟩) P E s := by
  rw [tup_gt_eq]
  refine wpAny_bind (wpAny_isInstance (T := "tuple") ⟨_, hb, rfl⟩ isSubtype_tuple_tuple ?_)
  simp only [Bool.not_true, Bool.false_eq_true, if_false]
  refine wpAny_bind (wpAny_tupleItemsOf ha rfl ?_)
  refine wpAny_bind (wpAny_tupleItemsOf hb rfl ?_)
  refine wpAny_bind ?_
  refine wpAny_forIn_list _
    (fun rest r s' => r.1 = none ∧ s' = s ∧ ∃ xs' ys' e' l', rest = List.zip xs' ys' ∧ CmpL R xs' ys' e' l' ∧ (!e' && !l') = (!e && !l))
    _ ?_ ?_ _ _ ⟨rfl, rfl, xs, ys, e, l, rfl, hc, rfl⟩
  · rintro ⟨u, v⟩ rest r s' ⟨hr, rfl, xs', ys', e', l', hz, hc', hel⟩
    cases hc' with
    | nil => simp at hz
    | @cons x y xs'' ys'' e1 l1 e2 l2 h1 h2 =>
      simp only [List.zip_cons_cons, List.cons.injEq, Prod.mk.injEq] at hz
      obtain ⟨⟨rfl, rfl⟩, rfl⟩ := hz
      refine wpAny_bind ((hR _ _ _ _ h1).1 _ ?_)
      cases e1 with
      | true =>
        simp only [Bool.not_true, Bool.false_eq_true, if_false, if_true, Bool.true_and] at hel ⊢
        exact wpAny_pure ⟨rfl, rfl, xs'', ys'', e2, _, rfl, h2, hel⟩
      | false =>
        simp only [Bool.not_false, if_true, Bool.false_eq_true, if_false, Bool.false_and, Bool.true_and] at hel ⊢
        refine wpAny_bind (wpAny_rule (wpAny_bind ((hR _ _ _ _ h1).2 _ ?_)))
        refine wpAny_bind (wpAny_pure (wpAny_pure (wpAny_pure ?_)))
        simp only [Bool.not_false, Bool.true_and]
        rw [hel]; exact h
  · rintro ⟨r1, r2⟩ s' ⟨hr, rfl, xs', ys', e', l', hz, hc', hel⟩
    simp only at hr
    subst hr
    refine wpAny_pure ?_
    have hl : (!e' && !l') = false := by
      cases hc' with
      | nil => rfl
      | cons _ _ => simp at hz
    have hsz : decide (xs.toArray.size > ys.toArray.size) = false := by
      have := hc.len
      simp [this]
    show P (.done (.ret (.bool (decide (xs.toArray.size > ys.toArray.size))))) s'
    rw [hsz, ← hl, hel]; exact h
end
section
variable {prog : Program} {w : World} {A : Around} {E : Value → Shared → Prop} {s : Shared} {h : Heap} {tk : Nat} {h₀ : Base} {L : Addr} {m : Str → Option Value} {ls : List Ent} {ob nw : Led} {k : Kd} {ds : List D} {g : List D → List Ent}
theorem r_gtP {v v' : Value} {d d' : D} {Q : Value → Shared → Prop} (S : St h₀ L h m ls ob nw) (hu : A.units + 2 < cLine) (h1 : RelIn nw .p v d) (h2 : RelIn nw .p v' d') (q : Q (.bool (llt d' d)) (mk s h tk)) :
    wpAny (model prog w) A (richCompare .Gt v v') Q E (mk s h tk) := by
  obtain ⟨a, n, x, t, y, u, rfl, m1, rfl⟩ := h1
  obtain ⟨a', n', x', t', y', u', rfl, m2, rfl⟩ := h2
  have hn := S.gets
  have c := CmpL.cons (R := Cmp h 0) (cmpI h 0 x x' t t') (.cons (cmpI h 0 y y' u u') .nil)
  refine wpAny_richCompare_same_room (op := .Gt) (T := "tuple") (s := mk s h tk) ⟨_, hn _ m1, rfl⟩ ⟨_, hn _ m2, rfl⟩ F.slot_tuple_gt
    (wpAny_call_entry F.slot_tuple_gt ⟨_, hn _ m1, rfl⟩ F.entry_tuple_gt (tup_gt_tree (s := mk s h tk) (hn _ m1) (hn _ m2) c (fun x y e l hc => ⟨fun Q hq => (cmp_all 0 (by show A.units + 1 + 0 < cLine; lia) hc).1 Q hq, fun Q hq => ?_⟩) ⟨_, rfl, (fun e => nomatch e), ?_⟩) (F.args_tuple_gt_2 _ _)) (by lia)
  · obtain ⟨x, t, y, u, rfl, rfl, rfl, rfl⟩ := hc
    refine gt_int ?_
    have : (!decide (x = y) && !decide (x < y)) = decide (x > y) := by
      by_cases e1 : x = y
      · simp [e1]
      · by_cases e2 : x < y
        · simp [e1, e2]; lia
        · simp [e1, e2]; lia
    rw [this] at hq; exact hq
  · have : (!(decide (x = x') && (decide (y = y') && true)) && !(if decide (x = x') = true then (if decide (y = y') = true then false else decide (y < y')) else decide (x < x'))) = llt [x', y'] [x, y] := by
      by_cases e1 : x = x'
      · subst e1
        by_cases e2 : y = y'
        · simp [llt, e2]
        · simp only [llt, e2, Ne.symm e2]; rw [Bool.eq_iff_iff]; simp; lia
      · simp only [llt, e1, Ne.symm e1]; rw [Bool.eq_iff_iff]; simp; lia
    rw [this]; exact q
theorem St.swapO {x y : Addr × Obj} (S : St h₀ L h m ls (x :: y :: ob) nw) : St h₀ L h m ls (y :: x :: ob) nw := by
  obtain ⟨rs, fs, hr, hf, N⟩ := S.led
  have hp : (adr ls (x :: y :: ob) h₀).Perm (adr ls (y :: x :: ob) h₀) := by
    unfold adr
    exact List.Perm.append_left _ (List.Perm.append_right _ (by simpa using List.Perm.swap y.1 x.1 (ob.map (·.1))))
  refine ⟨S.fr, ⟨rs, fs, hr, hf, fun p hp => N p ?_⟩, hp.nodup_iff.mp S.apart.1, fun a ha p hp' => S.apart.2 a (hp.mem_iff.mpr ha) p hp'⟩
  rcases List.mem_append.mp hp with hp | hp
  · exact List.mem_append_left _ hp
  · rcases List.mem_append.mp hp with hp | hp
    · refine List.mem_append_right _ (List.mem_append_left _ ?_)
      rcases List.mem_cons.mp hp with rfl | hp
      · exact .tail _ (.head _)
      · rcases List.mem_cons.mp hp with rfl | hp
        · exact .head _
        · exact .tail _ (.tail _ hp)
    · exact List.mem_append_right _ (List.mem_append_right _ hp)
noncomputable def best (bt : D → D → Bool) (b : D) (ds : List D) : D := ds.foldl (fun b d => if bt d b then d else b) b
theorem drop_cons {ds : List D} {j : Nat} {d : D} (h : ds[j]? = some d) : ds.drop j = d :: ds.drop (j + 1) := by
  obtain ⟨hl, e⟩ := List.getElem?_eq_some_iff.mp h
  rw [List.drop_eq_getElem_cons hl, e]
theorem r_ltP {v v' : Value} {d d' : D} {Q : Value → Shared → Prop} (S : St h₀ L h m ls ob nw) (hu : A.units + 2 < cLine) (h1 : RelIn nw .p v d) (h2 : RelIn nw .p v' d') (q : Q (.bool (llt d d')) (mk s h tk)) :
    wpAny (model prog w) A (richCompare .Lt v v') Q E (mk s h tk) := (cmp_all 2 hu (cmpK S.gets h1 h2)).2.2 Q q
theorem min_loop {I B l : Addr} {dflt : Value} {res : D} {R : Result → Shared → Prop} (hh : A.handled = none) (hu : A.units + 3 < cLine) (U : At l .p ds ls g)
    (hR : ∀ v h' tk', RelIn nw .p v res → St h₀ L h' m ls ob nw → R (.ok (.ret v)) (mk s h' tk')) :
    ∀ (r j : Nat) (db : D) (vb : Value) (c : Nat) (oI : Obj) (h : Heap) (tk : Nat), ds.length - j = r → j ≤ ds.length → IsLI oI l j → RelIn nw .p vb db → best llt db (ds.drop j) = res →
      St h₀ L h m ls ((I, oI) :: (B, seqObj "list" #[vb, vb] c) :: ob) nw → codeAny (model prog w) A (.builtin "min.loop" ⟨[.ref I, .none, .ref B], [(Str.ofString "default", dflt)]⟩) R (mk s h tk) := by
  have hname : (toString "min" ++ toString ".loop" : String) = "min.loop" := by decide
  intro r
  induction r with
  | zero =>
    intro j db vb c oI h tk hr hj ho hvb hb S
    have hj' : j = ds.length := Nat.le_antisymm hj (Nat.le_of_sub_eq_zero hr)
    subst hj'
    have hres : db = res := by rw [← hb]; simp [best]
    subst hres
    obtain ⟨vs, n, hl, hrel⟩ := S.isList U
    have hvs := hrel.len
    refine codeAny_builtin PySem.F.entry_min_loop ?_
    rw [Around.under_plainId PySem.F.plain_min_loop _]
    show wpAny _ A.in1 (seqItems? (.ref B) >>= _) _ _ _
    refine wpAny_bind (wpAny_seqItems (S.getO (.tail .head)) rfl ?_)
    show wpAny _ A.in1 (tryCatch (pyNext (.ref I)) _ >>= _) _ _ _
    refine wpAny_bind (wpAny_tryCatch (wpAny_pyNext_list_end (s := mk s h tk) hh ⟨oI, S.getO .head, ho.1, ho.2⟩ (PySem.IsL.isList (n := n) hl) (by simp; lia) fun h₁ he₁ => ?_))
    have S1 := S.lost he₁
    show wpAny _ A.in1 (updateSeq B (fun _ => #[]) >>= _) _ _ _
    refine wpAny_bind ?_
    refine wpAny_updateSeq (s := mk s h₁ tk) (S1.getO .head) rfl (wpAny_bind (wpAny_letGo (wpAny_pure ?_)))
    exact hR vb _ tk hvb (S1.lost (Heap.SameBut.update ..).extBut)
  | succ r ih =>
    intro j db vb c oI h tk hr hj ho hvb hb S
    have hlt : j < ds.length := f_lt hr.symm
    obtain ⟨d, hd⟩ : ∃ d, ds[j]? = some d := ⟨_, List.getElem?_eq_getElem hlt⟩
    obtain ⟨items, v, hl, hv, hr1⟩ := S.listAt U hd
    rw [drop_cons hd] at hb
    refine codeAny_builtin PySem.F.entry_min_loop ?_
    rw [Around.under_plainId PySem.F.plain_min_loop _]
    show wpAny _ A.in1 (seqItems? (.ref B) >>= _) _ _ _
    refine wpAny_bind (wpAny_seqItems (S.getO (.tail .head)) rfl ?_)
    show wpAny _ A.in1 (tryCatch (pyNext (.ref I)) _ >>= _) _ _ _
    refine wpAny_bind (wpAny_tryCatch (wpAny_pyNext_list_item (s := mk s h tk) ⟨oI, S.getO .head, ho.1, ho.2⟩ hl hv fun h₁ hit₁ hs₁ => ?_))
    obtain ⟨o1, g1, g2, g3⟩ := hit₁
    have S1 : St h₀ L h₁ m ls ((I, o1) :: (B, seqObj "list" #[vb, vb] c) :: ob) nw := S.turned .head hs₁ g1
    show wpAny _ A.in1 (pure v >>= _) _ _ _
    refine wpAny_bind (wpAny_pure ?_)
    show wpAny _ A.in1 (tryCatch (holding [v, v] (richCompare .Lt v vb >>= _)) _ >>= _) _ _ _
    refine wpAny_bind (wpAny_tryCatch (wpAny_holding (wpAny_bind (r_ltP S1 (by show A.units + 1 + 2 < cLine; lia) hr1 hvb ?_))))
    refine wpAny_bind (wpAny_holding (wpAny_truthy_bool ?_))
    refine wpAny_bind (wpAny_letGo (wpAny_pure ?_))
    have hb2 : best llt (if llt d db then d else db) (ds.drop (j + 1)) = res := hb
    by_cases hc : llt d db = true
    · rw [if_pos hc] at hb2
      have hc' : llt d db = true := hc
      rw [if_pos hc']
      obtain ⟨c2, hc2⟩ : ∃ c2, (h₁.update B (Obj.mapSeq fun _ => #[v, v])).get? B = some (seqObj "list" #[v, v] c2) := ⟨_, get?_update_seq (S1.getO (.tail .head)) fun _ => #[v, v]⟩
      refine wpAny_bind ?_
      refine wpAny_updateSeq (s := mk s h₁ tk) (S1.getO (.tail .head)) rfl (wpAny_bind (wpAny_letGo ?_))
      rw [hname]
      exact wpAny_pure ⟨plainId_quiet PySem.F.plain_min_loop _, ih (j + 1) d v c2 o1 _ tk (f_step hr.symm).symm hlt ⟨g2, g3⟩ hr1 hb2 (S1.turned (.tail .head) (Heap.SameBut.update ..) hc2)⟩
    · rw [if_neg hc] at hb2
      have hc' : ¬ llt d db = true := hc
      rw [if_neg hc']
      refine wpAny_bind (wpAny_letGo ?_)
      rw [hname]
      exact wpAny_pure ⟨plainId_quiet PySem.F.plain_min_loop _, ih (j + 1) db vb c o1 _ tk (f_step hr.symm).symm hlt ⟨g2, g3⟩ hvb hb2 S1⟩
theorem kw_min (a d : Value) : argsOk "min" ⟨[a], [(Str.ofString "default", d), (Str.ofString "key", .none)]⟩ := by unfold argsOk; kernel_rfl
theorem r_min {I l : Addr} {oI : Obj} {dflt : Value} {Q : Value → Shared → Prop} (hh : A.handled = none) (hu : A.units + 3 < cLine) (S : St h₀ L h m ls ((I, oI) :: ob) nw) (ho : IsLI oI l 0) (U : At l .p ds ls g)
    (q0 : ds = [] → ∀ h' tk', St h₀ L h' m ls ob nw → Q dflt (mk s h' tk'))
    (q : ∀ d ds' v h' tk', ds = d :: ds' → RelIn nw .p v (best llt d ds') → St h₀ L h' m ls ob nw → Q v (mk s h' tk')) :
    wpAny (model prog w) A (call (.builtin "min") [.ref I] [(Str.ofString "default", dflt), (Str.ofString "key", .none)]) Q E (mk s h tk) := by
  have hname : (toString "min" ++ toString ".loop" : String) = "min.loop" := by decide
  refine kmk_tree PySem.F.kind_min PySem.F.plain_min PySem.F.entry_min (kw_min _ _) ?_
  show wpAny _ A.in1 (Builtin.Builtins.bindParams "min" ["key", "default"] 0 ⟨[], [(Str.ofString "default", dflt), (Str.ofString "key", .none)]⟩ >>= _) _ _ _
  refine wpAny_bind (wpAny_of_eq (show Builtin.Builtins.bindParams "min" ["key", "default"] 0 ⟨[], [(Str.ofString "default", dflt), (Str.ofString "key", .none)]⟩ = pure [some .none, some dflt] from rfl) ?_)
  refine wpAny_bind (wpAny_pure ?_)
  refine wpAny_bind (r_pyIterLI S .head ho ?_)
  refine wpAny_bind (wpAny_newList ?_ (Nat.zero_le _))
  rw [hname]
  have S0 : St h₀ L (h.push (seqObj "list" #[] 0)) m ls ((h.objs.size, seqObj "list" #[] 0) :: (I, oI) :: ob) nw := S.addO (fun _ _ e => Heap.get?_push_of_some _ e) (Nat.le_refl _) (Heap.get?_push_size _ rfl)
  have S1 := S0.swapO
  refine wpAny_pure ⟨plainId_quiet PySem.F.plain_min_loop _, ?_⟩
  show codeAny (model prog w) A (.builtin "min.loop" ⟨[.ref I, .none, .ref h.objs.size], [(Str.ofString "default", dflt)]⟩) _ (mk s (h.push (seqObj "list" #[] 0)) tk)
  obtain ⟨h1, hyh1⟩ : ∃ y, y = h.push (seqObj "list" #[] 0) := ⟨_, rfl⟩
  rw [← hyh1] at S1 ⊢
  clear hyh1
  obtain ⟨B, hyB⟩ : ∃ y, y = h.objs.size := ⟨_, rfl⟩
  rw [← hyB] at S1 ⊢
  clear hyB
  refine codeAny_builtin PySem.F.entry_min_loop ?_
  rw [Around.under_plainId PySem.F.plain_min_loop _]
  show wpAny _ A.in1 (seqItems? (.ref B) >>= _) _ _ _
  refine wpAny_bind (wpAny_seqItems (S1.getO (.tail .head)) rfl ?_)
  show wpAny _ A.in1 (tryCatch (pyNext (.ref I)) _ >>= _) _ _ _
  cases ds with
  | nil =>
    obtain ⟨vs, n, hl, hrel⟩ := S1.isList U
    have hvs : vs = [] := by cases hrel; rfl
    subst hvs
    refine wpAny_bind (wpAny_tryCatch (wpAny_pyNext_list_end (s := mk s h1 tk) hh ⟨oI, S1.getO .head, ho.1, ho.2⟩ (PySem.IsL.isList (n := n) hl) (by simp) fun h₁ he₁ => ?_))
    have S2 := (S1.lost he₁).dropO
    show wpAny _ A.in1 (rule _ >>= _) _ _ _
    exact wpAny_bind (wpAny_rule (wpAny_pure (q0 rfl _ _ S2)))
  | cons d ds' =>
    obtain ⟨items, v, hl, hv, hr1⟩ := S1.listAt U (j := 0) (d := d) rfl
    refine wpAny_bind (wpAny_tryCatch (wpAny_pyNext_list_item (s := mk s h1 tk) ⟨oI, S1.getO .head, ho.1, ho.2⟩ hl hv fun h₁ hit₁ hs₁ => ?_))
    obtain ⟨o1, g1, g2, g3⟩ := hit₁
    have S2 : St h₀ L h₁ m ls ((I, o1) :: (B, seqObj "list" #[] 0) :: ob) nw := S1.turned .head hs₁ g1
    show wpAny _ A.in1 (pure v >>= _) _ _ _
    refine wpAny_bind (wpAny_pure ?_)
    show wpAny _ A.in1 (updateSeq B (fun _ => #[v, v]) >>= _) _ _ _
    obtain ⟨c2, hc2⟩ : ∃ c2, (h₁.update B (Obj.mapSeq fun _ => #[v, v])).get? B = some (seqObj "list" #[v, v] c2) := ⟨_, get?_update_seq (S2.getO (.tail .head)) fun _ => #[v, v]⟩
    refine wpAny_bind ?_
    refine wpAny_updateSeq (s := mk s h₁ tk) (S2.getO (.tail .head)) rfl ?_
    rw [hname]
    exact wpAny_pure ⟨plainId_quiet PySem.F.plain_min_loop _, min_loop hh hu U (fun v h' tk' hv S' => q d ds' v h' tk' rfl hv S') _ 1 d v c2 o1 _ tk rfl (by simp) ⟨g2, g3⟩ hr1 rfl (S2.turned (.tail .head) (Heap.SameBut.update ..) hc2)⟩
theorem max_loop {I B l : Addr} {dflt : Value} {res : D} {R : Result → Shared → Prop} (hh : A.handled = none) (hu : A.units + 3 < cLine) (U : At l .p ds ls g)
    (hR : ∀ v h' tk', RelIn nw .p v res → St h₀ L h' m ls ob nw → R (.ok (.ret v)) (mk s h' tk')) :
    ∀ (r j : Nat) (db : D) (vb : Value) (c : Nat) (oI : Obj) (h : Heap) (tk : Nat), ds.length - j = r → j ≤ ds.length → IsLI oI l j → RelIn nw .p vb db → best gtl db (ds.drop j) = res →
      St h₀ L h m ls ((I, oI) :: (B, seqObj "list" #[vb, vb] c) :: ob) nw → codeAny (model prog w) A (.builtin "max.loop" ⟨[.ref I, .none, .ref B], [(Str.ofString "default", dflt)]⟩) R (mk s h tk) := by
  have hname : (toString "max" ++ toString ".loop" : String) = "max.loop" := by decide
  intro r
  induction r with
  | zero =>
    intro j db vb c oI h tk hr hj ho hvb hb S
    have hj' : j = ds.length := Nat.le_antisymm hj (Nat.le_of_sub_eq_zero hr)
    subst hj'
    have hres : db = res := by rw [← hb]; simp [best]
    subst hres
    obtain ⟨vs, n, hl, hrel⟩ := S.isList U
    have hvs := hrel.len
    refine codeAny_builtin PySem.F.entry_max_loop ?_
    rw [Around.under_plainId PySem.F.plain_max_loop _]
    show wpAny _ A.in1 (seqItems? (.ref B) >>= _) _ _ _
    refine wpAny_bind (wpAny_seqItems (S.getO (.tail .head)) rfl ?_)
    show wpAny _ A.in1 (tryCatch (pyNext (.ref I)) _ >>= _) _ _ _
    refine wpAny_bind (wpAny_tryCatch (wpAny_pyNext_list_end (s := mk s h tk) hh ⟨oI, S.getO .head, ho.1, ho.2⟩ (PySem.IsL.isList (n := n) hl) (by simp; lia) fun h₁ he₁ => ?_))
    have S1 := S.lost he₁
    show wpAny _ A.in1 (updateSeq B (fun _ => #[]) >>= _) _ _ _
    refine wpAny_bind ?_
    refine wpAny_updateSeq (s := mk s h₁ tk) (S1.getO .head) rfl (wpAny_bind (wpAny_letGo (wpAny_pure ?_)))
    exact hR vb _ tk hvb (S1.lost (Heap.SameBut.update ..).extBut)
  | succ r ih =>
    intro j db vb c oI h tk hr hj ho hvb hb S
    have hlt : j < ds.length := f_lt hr.symm
    obtain ⟨d, hd⟩ : ∃ d, ds[j]? = some d := ⟨_, List.getElem?_eq_getElem hlt⟩
    obtain ⟨items, v, hl, hv, hr1⟩ := S.listAt U hd
    rw [drop_cons hd] at hb
    refine codeAny_builtin PySem.F.entry_max_loop ?_
    rw [Around.under_plainId PySem.F.plain_max_loop _]
    show wpAny _ A.in1 (seqItems? (.ref B) >>= _) _ _ _
    refine wpAny_bind (wpAny_seqItems (S.getO (.tail .head)) rfl ?_)
    show wpAny _ A.in1 (tryCatch (pyNext (.ref I)) _ >>= _) _ _ _
    refine wpAny_bind (wpAny_tryCatch (wpAny_pyNext_list_item (s := mk s h tk) ⟨oI, S.getO .head, ho.1, ho.2⟩ hl hv fun h₁ hit₁ hs₁ => ?_))
    obtain ⟨o1, g1, g2, g3⟩ := hit₁
    have S1 : St h₀ L h₁ m ls ((I, o1) :: (B, seqObj "list" #[vb, vb] c) :: ob) nw := S.turned .head hs₁ g1
    show wpAny _ A.in1 (pure v >>= _) _ _ _
    refine wpAny_bind (wpAny_pure ?_)
    show wpAny _ A.in1 (tryCatch (holding [v, v] (richCompare .Gt v vb >>= _)) _ >>= _) _ _ _
    refine wpAny_bind (wpAny_tryCatch (wpAny_holding (wpAny_bind (r_gtP S1 (by show A.units + 1 + 2 < cLine; lia) hr1 hvb ?_))))
    refine wpAny_bind (wpAny_holding (wpAny_truthy_bool ?_))
    refine wpAny_bind (wpAny_letGo (wpAny_pure ?_))
    have hb2 : best gtl (if gtl d db then d else db) (ds.drop (j + 1)) = res := hb
    by_cases hc : gtl d db = true
    · rw [if_pos hc] at hb2
      have hc' : llt db d = true := hc
      rw [if_pos hc']
      obtain ⟨c2, hc2⟩ : ∃ c2, (h₁.update B (Obj.mapSeq fun _ => #[v, v])).get? B = some (seqObj "list" #[v, v] c2) := ⟨_, get?_update_seq (S1.getO (.tail .head)) fun _ => #[v, v]⟩
      refine wpAny_bind ?_
      refine wpAny_updateSeq (s := mk s h₁ tk) (S1.getO (.tail .head)) rfl (wpAny_bind (wpAny_letGo ?_))
      rw [hname]
      exact wpAny_pure ⟨plainId_quiet PySem.F.plain_max_loop _, ih (j + 1) d v c2 o1 _ tk (f_step hr.symm).symm hlt ⟨g2, g3⟩ hr1 hb2 (S1.turned (.tail .head) (Heap.SameBut.update ..) hc2)⟩
    · rw [if_neg hc] at hb2
      have hc' : ¬ llt db d = true := hc
      rw [if_neg hc']
      refine wpAny_bind (wpAny_letGo ?_)
      rw [hname]
      exact wpAny_pure ⟨plainId_quiet PySem.F.plain_max_loop _, ih (j + 1) db vb c o1 _ tk (f_step hr.symm).symm hlt ⟨g2, g3⟩ hvb hb2 S1⟩
theorem kw_max (a d : Value) : argsOk "max" ⟨[a], [(Str.ofString "default", d), (Str.ofString "key", .none)]⟩ := by unfold argsOk; kernel_rfl
theorem r_max {I l : Addr} {oI : Obj} {dflt : Value} {Q : Value → Shared → Prop} (hh : A.handled = none) (hu : A.units + 3 < cLine) (S : St h₀ L h m ls ((I, oI) :: ob) nw) (ho : IsLI oI l 0) (U : At l .p ds ls g)
    (q0 : ds = [] → ∀ h' tk', St h₀ L h' m ls ob nw → Q dflt (mk s h' tk'))
    (q : ∀ d ds' v h' tk', ds = d :: ds' → RelIn nw .p v (best gtl d ds') → St h₀ L h' m ls ob nw → Q v (mk s h' tk')) :
    wpAny (model prog w) A (call (.builtin "max") [.ref I] [(Str.ofString "default", dflt), (Str.ofString "key", .none)]) Q E (mk s h tk) := by
  have hname : (toString "max" ++ toString ".loop" : String) = "max.loop" := by decide
  refine kmk_tree PySem.F.kind_max PySem.F.plain_max PySem.F.entry_max (kw_max _ _) ?_
  show wpAny _ A.in1 (Builtin.Builtins.bindParams "max" ["key", "default"] 0 ⟨[], [(Str.ofString "default", dflt), (Str.ofString "key", .none)]⟩ >>= _) _ _ _
  refine wpAny_bind (wpAny_of_eq (show Builtin.Builtins.bindParams "max" ["key", "default"] 0 ⟨[], [(Str.ofString "default", dflt), (Str.ofString "key", .none)]⟩ = pure [some .none, some dflt] from rfl) ?_)
  refine wpAny_bind (wpAny_pure ?_)
  refine wpAny_bind (r_pyIterLI S .head ho ?_)
  refine wpAny_bind (wpAny_newList ?_ (Nat.zero_le _))
  rw [hname]
  have S0 : St h₀ L (h.push (seqObj "list" #[] 0)) m ls ((h.objs.size, seqObj "list" #[] 0) :: (I, oI) :: ob) nw := S.addO (fun _ _ e => Heap.get?_push_of_some _ e) (Nat.le_refl _) (Heap.get?_push_size _ rfl)
  have S1 := S0.swapO
  refine wpAny_pure ⟨plainId_quiet PySem.F.plain_max_loop _, ?_⟩
  show codeAny (model prog w) A (.builtin "max.loop" ⟨[.ref I, .none, .ref h.objs.size], [(Str.ofString "default", dflt)]⟩) _ (mk s (h.push (seqObj "list" #[] 0)) tk)
  obtain ⟨h1, hyh1⟩ : ∃ y, y = h.push (seqObj "list" #[] 0) := ⟨_, rfl⟩
  rw [← hyh1] at S1 ⊢
  clear hyh1
  obtain ⟨B, hyB⟩ : ∃ y, y = h.objs.size := ⟨_, rfl⟩
  rw [← hyB] at S1 ⊢
  clear hyB
  refine codeAny_builtin PySem.F.entry_max_loop ?_
  rw [Around.under_plainId PySem.F.plain_max_loop _]
  show wpAny _ A.in1 (seqItems? (.ref B) >>= _) _ _ _
  refine wpAny_bind (wpAny_seqItems (S1.getO (.tail .head)) rfl ?_)
  show wpAny _ A.in1 (tryCatch (pyNext (.ref I)) _ >>= _) _ _ _
  cases ds with
  | nil =>
    obtain ⟨vs, n, hl, hrel⟩ := S1.isList U
    have hvs : vs = [] := by cases hrel; rfl
    subst hvs
    refine wpAny_bind (wpAny_tryCatch (wpAny_pyNext_list_end (s := mk s h1 tk) hh ⟨oI, S1.getO .head, ho.1, ho.2⟩ (PySem.IsL.isList (n := n) hl) (by simp) fun h₁ he₁ => ?_))
    have S2 := (S1.lost he₁).dropO
    show wpAny _ A.in1 (rule _ >>= _) _ _ _
    exact wpAny_bind (wpAny_rule (wpAny_pure (q0 rfl _ _ S2)))
  | cons d ds' =>
    obtain ⟨items, v, hl, hv, hr1⟩ := S1.listAt U (j := 0) (d := d) rfl
    refine wpAny_bind (wpAny_tryCatch (wpAny_pyNext_list_item (s := mk s h1 tk) ⟨oI, S1.getO .head, ho.1, ho.2⟩ hl hv fun h₁ hit₁ hs₁ => ?_))
    obtain ⟨o1, g1, g2, g3⟩ := hit₁
    have S2 : St h₀ L h₁ m ls ((I, o1) :: (B, seqObj "list" #[] 0) :: ob) nw := S1.turned .head hs₁ g1
    show wpAny _ A.in1 (pure v >>= _) _ _ _
    refine wpAny_bind (wpAny_pure ?_)
    show wpAny _ A.in1 (updateSeq B (fun _ => #[v, v]) >>= _) _ _ _
    obtain ⟨c2, hc2⟩ : ∃ c2, (h₁.update B (Obj.mapSeq fun _ => #[v, v])).get? B = some (seqObj "list" #[v, v] c2) := ⟨_, get?_update_seq (S2.getO (.tail .head)) fun _ => #[v, v]⟩
    refine wpAny_bind ?_
    refine wpAny_updateSeq (s := mk s h₁ tk) (S2.getO (.tail .head)) rfl ?_
    rw [hname]
    exact wpAny_pure ⟨plainId_quiet PySem.F.plain_max_loop _, max_loop hh hu U (fun v h' tk' hv S' => q d ds' v h' tk' rfl hv S') _ 1 d v c2 o1 _ tk rfl (by simp) ⟨g2, g3⟩ hr1 rfl (S2.turned (.tail .head) (Heap.SameBut.update ..) hc2)⟩
end
end Mine
end
section
namespace Mine
noncomputable def pickD (ds : List D) (lo hi st : Option Int) : List D := (sliceRange (sliceBounds lo hi st ds.length).1 (sliceBounds lo hi st ds.length).2.1 (sliceBounds lo hi st ds.length).2.2).filterMap (ds[·]?)
theorem All2.idx {R : Value → D → Prop} {vs : List Value} {ds : List D} (h : All2 R vs ds) : ∀ l : List Nat, All2 R (l.filterMap (vs[·]?)) (l.filterMap (ds[·]?))
  | [] => .nil
  | i :: l => by
    have ih := h.idx l
    cases e : ds[i]? with
    | none =>
      have : vs[i]? = none := by
        have := h.len
        have h1 := List.getElem?_eq_none_iff.mp e
        exact List.getElem?_eq_none_iff.mpr (by lia)
      simp [e, this]; exact ih
    | some d =>
      obtain ⟨v, e1, r⟩ := h.get e
      simp [e, e1]; exact .cons r ih
theorem min_nat (k n : Nat) : min (k : Int) n = ((min k n : Nat) : Int) := by
  rcases Nat.le_total k n with h | h
  · rw [Nat.min_eq_left h, Int.min_eq_left (Int.ofNat_le.mpr h)]
  · rw [Nat.min_eq_right h, Int.min_eq_right (Int.ofNat_le.mpr h)]
theorem cut_nat (k n : Nat) : max 0 (min (k : Int) n) = ((min k n : Nat) : Int) := by
  rw [min_nat]
  exact Int.max_eq_right (Int.natCast_nonneg _)
theorem range_pick {ds : List D} : ∀ (n m : Nat), m + n ≤ ds.length → ((List.range n).map (m + ·)).filterMap (ds[·]?) = (ds.drop m).take n := by
  intro n
  induction n with
  | zero => intro m _; rfl
  | succ n ih =>
    intro m h
    have hlt : m < ds.length := Nat.lt_of_lt_of_le (Nat.lt_add_of_pos_right (Nat.succ_pos n)) h
    rw [List.range_succ_eq_map, List.map_cons, List.map_map, List.filterMap_cons]
    simp only [Nat.add_zero, List.getElem?_eq_getElem hlt]
    rw [List.drop_eq_getElem_cons hlt, List.take_succ_cons, ← ih (m + 1) (by rw [Nat.succ_add_eq_add_succ]; exact h)]
    congr 2
    exact List.map_congr_left fun x _ => (Nat.succ_add_eq_add_succ m x).symm
theorem pick_upto (ds : List D) {y : Int} (h : 0 ≤ y) : pickD ds none (some y) none = ds.take y.toNat := by
  obtain ⟨k, rfl⟩ := Int.eq_ofNat_of_zero_le h
  have e : sliceBounds none (some (k : Int)) none ds.length = (((0 : Nat) : Int), ((min k ds.length : Nat) : Int), 1) := by
    simp only [sliceBounds, Option.getD_none, show (1 : Int) > 0 by decide, if_true, if_neg (Int.not_lt.mpr h)]
    congr 1
    congr 1
    exact cut_nat k _
  unfold pickD
  rw [e]
  simp only [sliceRange_one]
  rw [← kmk_take_min]
  exact range_pick (min k ds.length) 0 (by rw [Nat.zero_add]; exact Nat.min_le_right _ _)
theorem pick_back (ds : List D) : pickD ds none none (some (-1)) = ds.reverse := by
  have e : sliceBounds none none (some (-1)) ds.length = ((ds.length : Int) - 1, -1, -1) := by
    simp [sliceBounds]
  unfold pickD
  rw [e]
  unfold sliceRange
  by_cases h0 : ds.length = 0
  · have : ds = [] := List.length_eq_zero_iff.mp h0
    subst this; simp
  · have hc : (if (-1 : Int) > 0 then (if (ds.length : Int) - 1 < -1 then (-1 - ((ds.length : Int) - 1) + -1 - 1) / -1 else 0) else (if (ds.length : Int) - 1 > -1 then ((ds.length : Int) - 1 - -1 - -1 - 1) / (- -1) else 0)).toNat = ds.length := by
      rw [if_neg (by decide), if_pos (by lia)]
      simp
    simp only [hc]
    have key : ∀ n, n ≤ ds.length → ((List.range n).map fun (k : Nat) => ((ds.length : Int) - 1 + -1 * (k : Int)).toNat).filterMap (ds[·]?) = ds.reverse.take n := by
      intro n hn
      induction n with
      | zero => simp
      | succ n ih =>
        rw [List.range_succ, List.map_append, List.filterMap_append, ih (by lia), List.take_add_one]
        congr 1
        have hb : ds.length - 1 - n < ds.length := Nat.lt_of_le_of_lt (Nat.sub_le _ _) (Nat.sub_lt (Nat.lt_of_lt_of_le (Nat.succ_pos n) hn) (by decide))
        rw [show ds.reverse[n]? = some ds[ds.length - 1 - n] by rw [List.getElem?_reverse (by lia)]; exact List.getElem?_eq_getElem hb]
        simp only [List.map_cons, List.map_nil, List.filterMap_cons, List.filterMap_nil]
        rw [show ((ds.length : Int) - 1 + -1 * (n : Int)).toNat = ds.length - 1 - n by lia, List.getElem?_eq_getElem hb]
        rfl
    rw [key _ (Nat.le_refl _), List.take_of_length_le (by simp)]
section
variable {X : Pg} {mg mb : Str → Option Value} {prog : Program} {w : World} {A : Around} {E : Value → Shared → Prop} {s : Shared} {h : Heap} {tk : Nat} {h₀ : Base} {L : Addr} {m : Str → Option Value} {ls : List Ent} {ob nw : Led} {l : Addr} {k : Kd} {ds : List D} {g : List D → List Ent} {Q : Value → Shared → Prop}
theorem r_slice {value : PySem.Expr} {a b c : Option PySem.Expr} {p : Pos} {vl vu vs : Value} {lo hi st : Option Int} (S : St h₀ L h m ls ob nw) (U : At l k ds ls g) (pl : IsPart vl lo) (pu : IsPart vu hi) (ps : IsPart vs st) (h0 : st ≠ some 0) (hz : ds.length < 1000)
    {ops : List Value} (hsub : subscripted (.Slice a b c p) false (.ref l) (.ref h.objs.size) = operate ops (getItem (.ref l) (.ref h.objs.size)))
    (q : ∀ D h', St h₀ L h' m ((D, k, pickD ds lo hi st) :: ls) ob nw → Q (.ref D) (mk s h' tk)) :
    wpAny (model prog w) A (subscriptTail value (.Slice a b c p) (.ref l) (.ref h.objs.size)) Q E (mk s (h.push { cls := .type "slice", data := .fields #[vl, vu, vs] }) tk) := by
  obtain ⟨xs, n, hl, hr⟩ := S.isList U
  have hlen := hr.len
  have S1 := S.grown fun _ _ e => Heap.get?_push_of_some ({ cls := .type "slice", data := .fields #[vl, vu, vs] } : Obj) e
  have hl1 : (mk s (h.push { cls := .type "slice", data := .fields #[vl, vu, vs] }) tk).heap.IsList l xs.toArray := (PySem.IsL.isList (n := n) hl).push _
  have go : wpAny (model prog w) A (getItem (.ref l) (.ref h.objs.size)) Q E (mk s (h.push { cls := .type "slice", data := .fields #[vl, vu, vs] }) tk) := by
    refine wpAny_getItem_list_slice hl1 (Heap.IsSliceOf.new ..) pl pu ps h0 ?_ (by rw [sizeLine_eq]; simp; lia)
    have hp : slicePick xs.toArray lo hi st = ((sliceRange (sliceBounds lo hi st ds.length).1 (sliceBounds lo hi st ds.length).2.1 (sliceBounds lo hi st ds.length).2.2).filterMap (xs[·]?)).toArray := by
      unfold slicePick
      rw [List.size_toArray, hlen]
      congr 1
      congr 1
      funext i
      simp
    rw [hp]
    exact q _ _ (S1.addL (fun _ _ e => Heap.get?_push_of_some _ e) (Nat.le_refl _) (Heap.get?_push_size _ rfl) (hr.idx _))
  unfold subscriptTail
  refine wpAny_bind ?_
  rw [getitemInPython_of_ne hl1.typeIs.not_modules]
  refine wpAny_bind (wpAny_specialOf hl1.typeIs list_getitem_lookup ?_)
  have fin : wpAny (model prog w) A (subscripted (.Slice a b c p) false (.ref l) (.ref h.objs.size)) (fun r s₃ => wpAny (model prog w) A (letTemporaryGo value (.ref l) r >>= fun _ => pure r) Q E s₃) E (mk s (h.push { cls := .type "slice", data := .fields #[vl, vu, vs] }) tk) := by
    rw [hsub]
    exact wpAny_operating (wpAny_mono go (fun r s₃ h₃ => wpAny_bind (wpAny_letTemporaryGo (wpAny_pure h₃))) fun _ _ x => x)
  first
    | exact wpAny_pure (wpAny_bind fin)
    | exact wpAny_bind (wpAny_pure (wpAny_bind fin))
    | exact wpAny_bind fin
theorem r_sorted {kw : List (Str × Value)} {b : Bool} (S : St h₀ L h m ls ob nw) (U : At l k ds ls g) (hk : k ≠ .i) (hz : ds.length < 64) (hu : A.units + 4 < cLine)
    (he : ∀ a, Builtin.«list.sort» ⟨[.ref a], kw⟩ = sortTree a b) (ha1 : argsOk "sorted" ⟨[.ref l], kw⟩) (ha2 : ∀ a, argsOk "list.sort" ⟨[.ref a], kw⟩)
    (q : ∀ D h', St h₀ L h' m ((D, k, sortB b ds) :: ls) ob nw → Q (.ref D) (mk s h' tk)) : wpAny (model prog w) A (call (.builtin "sorted") [.ref l] kw) Q E (mk s h tk) := by
  obtain ⟨vs, n, hl, hr⟩ := S.isList U
  have hlen := hr.len
  refine call_function_entry_kw kind_sorted plain_sorted entry_sorted ha1 ?_
  unfold Builtin.«sorted»
  refine wpAny_bind (m := checkCount "sorted" 1 1 _) (wpAny_pure ?_)
  refine wpAny_bind (collect_list (s := mk s h tk) (PySem.IsL.isList (n := n) hl) ?_ (by rw [sizeLine_eq]; lia))
  refine wpAny_bind (wpAny_newList ?_ (by rw [sizeLine_eq]; lia))
  have keep : ∀ b o, h.get? b = some o → ((h.push (seqObj "list" #[] 0)).update h.objs.size (Obj.mapSeq (· ++ vs.toArray))).get? b = some o := fun b o e => by
    have hlt : b < h.objs.size := Heap.lt_size e
    rw [Heap.get?_update_ne _ _ _ _ (Nat.ne_of_lt hlt), Heap.get?_push_ne _ _ _ (Nat.ne_of_lt hlt)]
    exact e
  have S1 := S.grown keep
  have S2 := S1.addL (k := k) (ds := ds) (vs := vs) (n := 0) (a := ((h.push (seqObj "list" #[] 0)).update h.objs.size (Obj.mapSeq (· ++ vs.toArray))).objs.size)
    (h' := ((h.push (seqObj "list" #[] 0)).update h.objs.size (Obj.mapSeq (· ++ vs.toArray))).push (seqObj "list" vs.toArray 0)) (fun _ _ e => Heap.get?_push_of_some _ e) (Nat.le_refl _) (Heap.get?_push_size _ rfl) hr
  refine wpAny_bind (wpAny_holding (r_sort S2 .head hk hz (by show A.units + 1 + 3 < cLine; lia) (he _) (ha2 _) fun h' S' => wpAny_pure ⟨_, rfl, q _ h' S'⟩))
theorem mro_object' : mroOf (.type "object") = pure [.type "object"] := by rw [mroOf_type]; kernel_rfl
theorem lookup_object_new' : typeLookup (.type "object") "__new__" = pure (some (.builtin "object.__new__")) := by rw [typeLookup_type, builtinLookup_eq_fast]; kernel_rfl
theorem called_object : TypeCalled "object" "object.__new__" "object.__init__" :=
  ⟨by decide +kernel, by decide +kernel, ⟨_, _, mro_object'⟩, madeBy_type mro_object' lookup_object_new' (by decide +kernel), by decide +kernel, by rw [isSubtype_type]; kernel_rfl, PySem.F.slot_object_init⟩
noncomputable abbrev objO : Obj := { cls := .type "object", data := .plain }
theorem meets_object_new : Meets (Builtin.«object.__new__» ⟨[.type "object"], []⟩) (fun _ R s => R (.ok (.ret (.ref s.heap.objs.size))) { s with heap := s.heap.push objO }) :=
  .of_wp fun prog w A R s h => by
    obtain ⟨hp, g, d, tk, os⟩ := s
    have hl := lookup_object_new'
    have hm := called_object.made
    have hsub := called_object.sub
    show wpAny _ _ (Bind.madeHere "object.__new__" (.type "object") >>= _) _ _ _
    refine wpAny_bind ?_
    unfold Bind.madeHere
    refine wpAny_bind (wpAny_of_eq (show Bind.staticBase (.type "object") = pure (.type "object") by first | rfl | kernel_rfl) ?_)
    refine wpAny_bind (wpAny_of_eq hm ?_)
    rw [if_neg (by decide +kernel)]
    refine wpAny_pure ?_
    have hd : typeHasDict (.type "object") = false := by decide +kernel
    have hdel : diesByItsTypesDel "object" = false := by decide +kernel
    show wpAny _ _ (if typeHasDict (.type "object") = true then _ else _) _ _ _
    rw [hd]
    simp only [Bool.false_eq_true, if_false]
    refine wpAny_bind (wpAny_pure ?_)
    refine wpAny_bind (wpAny_newObj_type ?_ (by size_fits))
    show wpAny _ _ (if diesByItsTypesDel "object" = true then _ else _) _ _ _
    rw [hdel]
    simp only [Bool.false_eq_true, if_false]
    exact wpAny_pure ⟨_, rfl, h⟩
theorem object_init1 (self : Value) : Meets (Builtin.«object.__init__» ⟨[self], []⟩) (fun _ R s => R (.ok (.ret .none)) s) :=
  .of_wp fun prog w A R s h => wpAny_pure ⟨_, rfl, h⟩
theorem r_object (S : St h₀ L h m ls ob nw) (q : ∀ O h', St h₀ L h' m ls ((O, objO) :: ob) nw → Q (.ref O) (mk s h' tk)) : wpAny (model prog w) A (call (.type "object") []) Q E (mk s h tk) := by
  refine callType_meets (Q₁ := fun obj s₁ => s₁.TypeIs obj "object" ∧ Q obj s₁) called_object (by kernel_rfl) (by kernel_rfl) (entryFor_of_tree (b := Builtin.«object.__new__») (by kernel_rfl)) PySem.F.entry_object_init meets_object_new ?_ fun obj _ hq =>
    ⟨hq.1, (by unfold argsOk; kernel_rfl), _, object_init1 _, rfl, hq.2⟩
  have S1 := S.addO (fun _ _ e => Heap.get?_push_of_some objO e) (Nat.le_refl _) (Heap.get?_push_size _ rfl)
  exact ⟨⟨_, S1.getO .head, rfl⟩, q _ _ S1⟩
theorem callWith_mk {env : Env} {pos : Pos} {id : String} {first : List Value} {kws : List Keyword}
    (qq : wpAny (model prog w) A (evalAll ((backToKw pos (keywordEach kws env)).map (·.2))) (fun kvs s₂ => wpAny (model prog w) A (call (.builtin id) first (((backToKw pos (keywordEach kws env)).filterMap (·.1)).zip kvs)) Q E s₂) E (mk s h tk))
    (hall : (backToKw pos (keywordEach kws env)).all (·.1.isSome) = true := by rfl)
    (hkw : (backToKw pos (keywordEach kws env)).any (·.1.isNone) = false := by rfl) :
    wpAny (model prog w) A (callWith pos (.builtin id) first (backTo pos (starEach [] env)) (backToKw pos (keywordEach kws env))) Q E (mk s h tk) := by
  refine callWith_builtin_kwB rfl hkw (evalArgs_kw2_nil hall (wpAny_mono qq (fun kvs s₂ hh => ?_) fun _ _ x => x))
  simpa using hh
theorem r_isO {O : Addr} {gO : Obj → Led} {v : Value} {d : D} (S : St h₀ L h m ls ob nw) (UO : AtO O objO ob gO) (hv : RelIn nw .p v d) (q : Q (.bool false) (mk s h tk)) : wpAny (model prog w) A (compareOp .Is v (.ref O)) Q E (mk s h tk) := by
  obtain ⟨a, n, x, t, y, u, rfl, m1, rfl⟩ := hv
  have g1 := S.gets _ m1
  have g2 := S.getO UO
  have hne : a ≠ O := by
    intro e; subst e
    have := Option.some.inj (g2.symm.trans g1)
    have := congrArg Obj.data this
    cases this
  show wpAny (model prog w) A (do return .bool (← isSame (.ref a) (.ref O))) Q E _
  refine wpAny_bind ?_
  show wpAny (model prog w) A (if (a == O) = true then pure true else _) _ E _
  rw [if_neg (by simpa using hne)]
  refine wpAny_bind (wpAny_load (s := mk s h tk) g1 (wpAny_bind (wpAny_load g2 ?_)))
  exact wpAny_pure (wpAny_pure q)
theorem Cx.u4 {k : Nat} (C : Cx X mg mb A h₀ L k) : A.units + 4 < cLine := by
  have := C.units; show _ < 9900; lia
end
end Mine
end
section
namespace Mine
noncomputable def Sd (lt : D → D → Bool) (l : List D) : Prop := l.Pairwise fun a b => lt b a = false
theorem Sd.uniq {lt : D → D → Bool} (T : Tot lt) : ∀ {a b : List D}, Sd lt a → Sd lt b → a.Perm b → a = b
  | [], b, _, _, p => by have := p.length_eq; simp at this; exact (List.length_eq_zero_iff.mp this.symm).symm
  | x :: a, [], _, _, p => by have := p.length_eq; simp at this
  | x :: a, y :: b, ha, hb, p => by
    have hxy : x = y := by
      have hx : x ∈ y :: b := p.mem_iff.mp (.head _)
      have hy : y ∈ x :: a := p.mem_iff.mpr (.head _)
      rcases List.mem_cons.mp hx with e | hx
      · exact e
      · rcases List.mem_cons.mp hy with e | hy
        · exact e.symm
        · exact T.tri _ _ ((List.pairwise_cons.mp hb).1 x hx) ((List.pairwise_cons.mp ha).1 y hy)
    subst hxy
    rw [Sd.uniq T (List.pairwise_cons.mp ha).2 (List.pairwise_cons.mp hb).2 p.cons_inv]
noncomputable def App (lt : D → D → Bool) : Prop := ∀ (d d' : D) (z z' : Int), d.length = 2 → d'.length = 2 → lt (d ++ [z]) (d' ++ [z']) = false → lt d d' = false
theorem app_llt : App llt := fun d d' z z' h1 h2 h => by
  rw [llt_append_one (by lia)] at h
  split at h
  · rename_i e; subst e; exact llt_tot.irr _
  · exact h
theorem app_gtl : App gtl := fun d d' z z' h1 h2 h => app_llt d' d z' z h2 h1 h
noncomputable def fst2 (e : D) : D := e.take 2
theorem fst2_app {d : D} {z : Int} (h : d.length = 2) : fst2 (d ++ [z]) = d := by unfold fst2; rw [List.take_append_of_le_length (by lia), List.take_of_length_le (by lia)]
noncomputable def Nd (res : List D) : Prop := ∀ e ∈ res, ∃ d z, d.length = 2 ∧ e = d ++ [z]
theorem best_mem {bt : D → D → Bool} : ∀ (ds : List D) (b : D), best bt b ds ∈ b :: ds
  | [], b => .head _
  | d :: ds, b => by
    unfold best
    rw [List.foldl_cons]
    have := best_mem (bt := bt) ds (if bt d b then d else b)
    unfold best at this
    rcases List.mem_cons.mp this with h | h
    · rw [h]; split
      · exact .tail _ (.head _)
      · exact .head _
    · exact .tail _ (.tail _ h)
theorem best_least {bt : D → D → Bool} (T : Tot bt) : ∀ (ds : List D) (b : D), ∀ x ∈ b :: ds, bt x (best bt b ds) = false
  | [], b, x, hx => by
    have : x = b := by simpa using hx
    subst this; exact T.irr _
  | d :: ds, b, x, hx => by
    have ih := best_least T ds (if bt d b then d else b)
    have he : best bt b (d :: ds) = best bt (if bt d b then d else b) ds := rfl
    rw [he]
    have h0 := ih _ (.head _)
    rcases List.mem_cons.mp hx with rfl | hx
    · split at h0
      · rename_i hc
        cases q : bt x (best bt (if bt d x then d else x) ds) with
        | false => rfl
        | true => have := T.tr _ _ _ hc q; rw [if_pos hc] at this; rw [this] at h0; cases h0
      · rename_i hc; rw [if_neg hc]; exact h0
    · rcases List.mem_cons.mp hx with rfl | hx
      · split at h0
        · rename_i hc; rw [if_pos hc]; exact h0
        · rename_i hc
          rw [if_neg hc]
          exact T.le_tr h0 (by simpa using hc)
      · exact ih x (.tail _ hx)
theorem one_few {lt : D → D → Bool} (T : Tot lt) {d : D} {ds srt : List D} (hs : Sd lt srt) (hp : srt.Perm (d :: ds)) : srt.take 1 = [best lt d ds] := by
  cases srt with
  | nil => have := hp.length_eq; simp at this
  | cons x t =>
    have hb := best_mem (bt := lt) ds d
    have hl := best_least T ds d
    have : best lt d ds = x := by
      rcases List.mem_cons.mp (hp.mem_iff.mpr hb) with h | h
      · exact h
      · exact T.tri _ _ ((List.pairwise_cons.mp hs).1 _ h) (hl x (hp.mem_iff.mp (.head _)))
    rw [this]; rfl
theorem sortB_sd (ds : List D) : Sd gtl (sortB true ds) := by
  show List.Pairwise _ (List.reverse _)
  rw [List.pairwise_reverse]
  exact sortD_srt _
end Mine
end
section
namespace Mine
section
variable {X : Pg} {mg mb : Str → Option Value} {prog : Program} {w : World} {A : Around} {E : Value → Shared → Prop} {s : Shared} {h : Heap} {tk : Nat} {h₀ : Base} {L : Addr} {m : Str → Option Value} {ls : List Ent} {ob nw : Led} {k : Kd} {ds : List D} {g : List D → List Ent}
end
noncomputable def numd (f : Nat → Int) (ds : List D) : List D := ds.mapIdx fun j d => d ++ [f j]
theorem numd_snoc {f : Nat → Int} {ds : List D} {i : Nat} {d : D} (hd : ds[i]? = some d) : numd f (ds.take (i + 1)) = numd f (ds.take i) ++ [d ++ [f i]] := by
  obtain ⟨hl, e⟩ := List.getElem?_eq_some_iff.mp hd
  unfold numd
  rw [List.take_add_one, hd]
  simp only [Option.toList_some, List.mapIdx_append, List.mapIdx_cons, List.mapIdx_nil, List.length_take, Nat.min_eq_left (Nat.le_of_lt hl), Nat.zero_add]
theorem numd_len {f : Nat → Int} {ds : List D} : (numd f ds).length = ds.length := by simp [numd]
theorem numd_nd {f : Nat → Int} {ds : List D} (h2 : ∀ d ∈ ds, d.length = 2) : Nd (numd f ds) := fun e he => by
  obtain ⟨i, hi, e'⟩ := List.getElem_of_mem he
  have hi' : i < ds.length := by rw [numd_len] at hi; exact hi
  refine ⟨ds[i], f i, h2 _ (List.getElem_mem hi'), ?_⟩
  rw [← e']; simp [numd]
theorem numd_fst {f : Nat → Int} {ds : List D} (h2 : ∀ d ∈ ds, d.length = 2) : (numd f ds).map fst2 = ds := by
  refine List.ext_getElem (by simp [numd_len]) fun i h1 h3 => ?_
  simp only [List.getElem_map, numd, List.getElem_mapIdx]
  exact fst2_app (h2 _ (List.getElem_mem h3))
end Mine
end
section
namespace Mine
section
variable {prog : Program} {w : World} {A : Around} {E : Value → Shared → Prop} {s : Shared} {h : Heap} {tk : Nat} {h₀ : Base} {L : Addr} {m : Str → Option Value} {ls : List Ent} {ob nw : Led}
theorem i_neg {x : Int} {t : Tok} {QV : Value → Shared → Prop} (q : ∀ t tk, QV (.int (-x) t) (mk s h tk)) : wpAny (model prog w) A (unaryOp .USub (.int x t)) QV E (mk s h tk) := neg_int (q _ _)
theorem r_range3 {a b c : Int} {t u v : Tok} {QV : Value → Shared → Prop} (S : St h₀ L h m ls ob nw) (hc : c ≠ 0) (hs : c.natAbs < 1073741824) (q : ∀ r h' tk', St h₀ L h' m ls ((r, rgObj a b c t u v) :: ob) nw → QV (.ref r) (mk s h' tk')) :
    wpAny (model prog w) A (call (.type "range") [.int a t, .int b u, .int c v]) QV E (mk s h tk) :=
  PySem.call_range_3 (s := mk s h tk) hc (q _ _ _ (S.addO (fun _ _ e => Heap.get?_push_of_some _ e) (Nat.le_refl _) (Heap.get?_push_size _ rfl))) (Or.inl (PyProof.noPylong_small hs))
theorem rangeSize_back {n : Int} {N : Nat} (h : n.toNat = N) : Builtin.Range.rangeSize 0 (-n) (-1) = (N : Int) := by
  unfold Builtin.Range.rangeSize
  rw [if_neg (by decide)]
  split
  · simp only [Int.neg_neg, Int.ediv_one]; lia
  · lia
theorem w63 {x : Int} (h : -1000 ≤ x) (h' : x ≤ 1000) : -2 ^ 63 ≤ x ∧ x < 2 ^ 63 := ⟨Int.le_trans (by decide) h, Int.lt_of_le_of_lt h' (by decide)⟩
theorem small_back {n : Int} (h : -1000 < n ∧ n < 1000) : Builtin.Range.small 0 (-n) (-1) = true := by
  unfold Builtin.Range.small
  rw [rangeSize_back (N := n.toNat) rfl]
  simp only [Builtin.Range.rangeFitsLong, Bool.and_eq_true, Bool.or_eq_true, decide_eq_true_eq, beq_iff_eq, show ¬ ((-1 : Int) > 0) by decide, if_false]
  have a1 : -1000 ≤ -n := by lia
  have a2 : -n ≤ 1000 := by lia
  exact ⟨⟨⟨⟨w63 (by decide) (by decide), w63 a1 a2⟩, w63 (by decide) (by decide)⟩, w63 (by lia) (by lia)⟩, .inr (by rw [show (-1 : Int) + 1 = 0 from rfl, Int.add_zero]; exact w63 a1 a2)⟩
end
section
variable {prog : Program} {w : World} {A : Around} {E : Value → Shared → Prop} {s : Shared} {h : Heap} {tk : Nat} {h₀ : Base} {L : Addr} {m : Str → Option Value} {ls : List Ent} {ob nw : Led} {l : Addr} {k : Kd} {ds : List D} {g : List D → List Ent} {Q : Value → Shared → Prop}
theorem r_listCopy (S : St h₀ L h m ls ob nw) (U : At l k ds ls g) (hz : ds.length < 1000) (q : ∀ B h', St h₀ L h' m ((B, k, ds) :: ls) ob nw → Q (.ref B) (mk s h' tk)) : wpAny (model prog w) A (call (.type "list") [.ref l]) Q E (mk s h tk) := by
  obtain ⟨vs, n, hl, hr⟩ := S.isList U
  have hlen := hr.len
  refine call_list_seq (hsz := by rw [sizeLine_eq]; simp; lia) (s := mk s h tk) l (.inl rfl) hl rfl rfl fun h' c' hk hD => ?_
  exact q _ h' (S.addL hk (Nat.le_refl _) hD hr)
theorem r_max2 {a b : Int} {t u : Tok} (hh : A.handled = none) (S : St h₀ L h m ls ob nw) (q : ∀ h' tk' t', St h₀ L h' m ls ob nw → Q (.int (max a b) t') (mk s h' tk')) : wpAny (model prog w) A (call (.builtin "max") [.int a t, .int b u]) Q E (mk s h tk) := by
  refine max_two_ints (s := mk s h tk) hh fun h' tk' hk => ?_
  have S' := S.grown hk
  by_cases hc : b > a
  · rw [if_pos hc]
    have := q h' tk' u S'
    rwa [show max a b = b by lia] at this
  · rw [if_neg hc]
    have := q h' tk' t S'
    rwa [show max a b = a by lia] at this
end
theorem Ok.sorted {hs rs : List D} (h : Ok hs rs) : sortD hs = rs := Sd.uniq llt_tot (sortD_srt hs) h.sr ((sortD_perm hs).trans h.pm)
section
variable {prog : Program} {w : World} {A : Around} {E : Value → Shared → Prop} {s : Shared} {h : Heap} {tk : Nat} {h₀ : Base} {L : Addr} {m : Str → Option Value} {ls : List Ent} {ob nw : Led} {l l2 : Addr} {k : Kd} {ds ds2 : List D} {g g2 : List D → List Ent} {Q : Value → Shared → Prop}
theorem r_sliceB {value : PySem.Expr} {a b c : Option PySem.Expr} {p : Pos} {vl vu vs : Value} {lo hi st : Option Int} {xs : List Value} (S : St h₀ L h m ls ob nw) (hl : h₀.hB.IsList l xs.toArray) (hr : All2 (RelIn nw k) xs ds) (pl : IsPart vl lo) (pu : IsPart vu hi) (ps : IsPart vs st) (h0 : st ≠ some 0) (hz : ds.length < 1000)
    {ops : List Value} (hsub : subscripted (.Slice a b c p) false (.ref l) (.ref h.objs.size) = operate ops (getItem (.ref l) (.ref h.objs.size)))
    (q : ∀ D h', St h₀ L h' m ((D, k, pickD ds lo hi st) :: ls) ob nw → Q (.ref D) (mk s h' tk)) :
    wpAny (model prog w) A (subscriptTail value (.Slice a b c p) (.ref l) (.ref h.objs.size)) Q E (mk s (h.push { cls := .type "slice", data := .fields #[vl, vu, vs] }) tk) := by
  have hlen := hr.len
  have hl0 : h.IsList l xs.toArray := by
    obtain ⟨o, e1, e2⟩ := hl
    exact ⟨o, S.fr.keep _ _ e1, e2⟩
  have S1 := S.grown fun _ _ e => Heap.get?_push_of_some ({ cls := .type "slice", data := .fields #[vl, vu, vs] } : Obj) e
  have hl1 : (mk s (h.push { cls := .type "slice", data := .fields #[vl, vu, vs] }) tk).heap.IsList l xs.toArray := hl0.push _
  have go : wpAny (model prog w) A (getItem (.ref l) (.ref h.objs.size)) Q E (mk s (h.push { cls := .type "slice", data := .fields #[vl, vu, vs] }) tk) := by
    refine wpAny_getItem_list_slice hl1 (Heap.IsSliceOf.new ..) pl pu ps h0 ?_ (by rw [sizeLine_eq]; simp; lia)
    have hp : slicePick xs.toArray lo hi st = ((sliceRange (sliceBounds lo hi st ds.length).1 (sliceBounds lo hi st ds.length).2.1 (sliceBounds lo hi st ds.length).2.2).filterMap (xs[·]?)).toArray := by
      unfold slicePick
      rw [List.size_toArray, hlen]
      congr 1
      congr 1
      funext i
      simp
    rw [hp]
    exact q _ _ (S1.addL (fun _ _ e => Heap.get?_push_of_some _ e) (Nat.le_refl _) (Heap.get?_push_size _ rfl) (hr.idx _))
  unfold subscriptTail
  refine wpAny_bind ?_
  rw [getitemInPython_of_ne hl1.typeIs.not_modules]
  refine wpAny_bind (wpAny_specialOf hl1.typeIs list_getitem_lookup ?_)
  have fin : wpAny (model prog w) A (subscripted (.Slice a b c p) false (.ref l) (.ref h.objs.size)) (fun r s₃ => wpAny (model prog w) A (letTemporaryGo value (.ref l) r >>= fun _ => pure r) Q E s₃) E (mk s (h.push { cls := .type "slice", data := .fields #[vl, vu, vs] }) tk) := by
    rw [hsub]
    exact wpAny_operating (wpAny_mono go (fun r s₃ h₃ => wpAny_bind (wpAny_letTemporaryGo (wpAny_pure h₃))) fun _ _ x => x)
  first
    | exact wpAny_pure (wpAny_bind fin)
    | exact wpAny_bind (wpAny_pure (wpAny_bind fin))
    | exact wpAny_bind fin
theorem r_addL (S : St h₀ L h m ls ob nw) (U : At l k ds ls g) (U2 : At l2 k ds2 ls g2) (hz : ds.length + ds2.length < 1000) (q : ∀ D h', St h₀ L h' m ((D, k, ds ++ ds2) :: ls) ob nw → Q (.ref D) (mk s h' tk)) :
    wpAny (model prog w) A (binaryOp .Add (.ref l) (.ref l2)) Q E (mk s h tk) := by
  obtain ⟨xs, n, hl, hr⟩ := S.isList U
  obtain ⟨ys, n2, hl2, hr2⟩ := S.isList U2
  have e1 := hr.len
  have e2 := hr2.len
  refine PySem.P.add_list (s := mk s h tk) (items := xs.toArray) (items2 := ys.toArray) hl hl2 ?_ (by rw [sizeLine_eq]; simp; lia)
  have : xs.toArray ++ ys.toArray = (xs ++ ys).toArray := by simp
  rw [this]
  exact q _ _ (S.addL (fun _ _ e => Heap.get?_push_of_some _ e) (Nat.le_refl _) (Heap.get?_push_size _ rfl) (hr.append hr2))
end
end Mine
end
section
namespace Mine
section
variable {κ : K} {c : Kx} {σ σ₁ σ₂ σ₃ : Sg} {h h' : Heap} {tk : Nat} {G G' : Gh} {E : Value → Shared → Prop}
theorem c_object : Oc κ σ (.type "object") [] (.ok (.oth σ.o.length) ⟨σ.v, σ.l, σ.o ++ [.obj]⟩) := by
  intro c h tk G R us hus Q E post
  cases hus
  refine r_object R.st fun O h' S' => ?_
  obtain ⟨G', R', K', e⟩ := R.newO (x := .obj) S' rfl
  exact post _ _ _ _ R' K'.any ⟨O, e, rfl⟩
end
end Mine
end
section
namespace Mine
section
variable {κ : K} {c : Kx} {σ σ₁ σ₂ σ₃ σ₄ : Sg} {h h' : Heap} {tk : Nat} {G G' : Gh} {E : Value → Shared → Prop}
theorem ev_neg {e : PySem.Expr} {p : Pos} {x : Int} (he : Ev κ σ e (.ok (.int x) σ₁)) : Ev κ σ (.UnaryOp .USub e p) (.ok (.int (-x)) σ₁) :=
  fun _ _ _ _ R _ _ post => PyProof.Rows.UnaryOp_ (he.seq R post fun h₁ tk₁ G₁ u₁ R₁ _ V₁ post₁ => by
    obtain ⟨t, rfl⟩ := V₁
    exact i_neg fun t _ => post₁.here R₁ ⟨t, rfl⟩)
theorem c_max2 {a b : Int} (hh : κ.fi.hd = true) : Oc κ σ (.builtin "max") [.int a, .int b] (.ok (.int (max a b)) σ) := by
  intro c h tk G R us hus Q E post
  obtain _ | ⟨⟨t, q⟩, hus⟩ := hus
  obtain _ | ⟨⟨t', q'⟩, hus⟩ := hus
  subst q q'
  cases hus
  exact r_max2 (R.handled hh) R.st fun h' tk' t' S' => post _ _ _ _ (R.same S') .refl ⟨t', rfl⟩
theorem c_min2 {a b : Int} (hh : κ.fi.hd = true) : Oc κ σ (.builtin "min") [.int a, .int b] (.ok (.int (min a b)) σ) := by
  intro c h tk G R us hus Q E post
  obtain _ | ⟨⟨t, q⟩, hus⟩ := hus
  obtain _ | ⟨⟨t', q'⟩, hus⟩ := hus
  subst q q'
  cases hus
  refine min_two_ints (s := mk c.s h tk) (R.handled hh) fun h' tk' hk => ?_
  have S' := R.st.grown hk
  by_cases hc : b < a
  · rw [if_pos hc]
    exact post _ _ _ _ (R.same S') .refl ⟨t', by rw [show min a b = b by lia]⟩
  · rw [if_neg hc]
    exact post _ _ _ _ (R.same S') .refl ⟨t, by rw [show min a b = a by lia]⟩
section
variable {i j : Nat} {k : Kd} {ds ds' : List D}
theorem c_list (hi : σ.l[i]? = some (k, ds)) (hz : ds.length < 1000) : Oc κ σ (.type "list") [.lst i] (.ok (.lst σ.l.length) ⟨σ.v, σ.l ++ [(k, ds)], σ.o⟩) :=
  .l0 hi fun c h tk G a g R e U Q E post => r_listCopy R.st U hz fun B h' S' => by
    obtain ⟨G', R', K', e'⟩ := R.newL S'
    exact post _ _ _ _ R' K'.any ⟨B, e', rfl⟩
theorem c_sorted (hi : σ.l[i]? = some (k, ds)) (hk : k ≠ .i) (hz : ds.length < 64) : Oc κ σ (.builtin "sorted") [.lst i] (.ok (.lst σ.l.length) ⟨σ.v, σ.l ++ [(k, sortD ds)], σ.o⟩) :=
  .l0 hi fun c h tk G a g R e U Q E post => r_sorted (b := false) R.st U hk hz R.u4 (fun a => sort_none a) (by unfold argsOk; kernel_rfl) (fun a => by unfold argsOk; kernel_rfl) fun B h' S' => by
    obtain ⟨G', R', K', e'⟩ := R.newL S'
    exact post _ _ _ _ R' K'.any ⟨B, e', rfl⟩
theorem o_addL (h1 : σ.l[i]? = some (k, ds)) (h2 : σ.l[j]? = some (k, ds')) (hz : ds.length + ds'.length < 1000) : O2 κ σ (binaryOp .Add) (.lst i) (.lst j) (.ok (.lst σ.l.length) ⟨σ.v, σ.l ++ [(k, ds ++ ds')], σ.o⟩) := .of fun c h tk G R _ _ ⟨a, e1, q1⟩ ⟨b, e2, q2⟩ _ _ post => by
  subst q1 q2
  obtain ⟨a', g, e1', U⟩ := R.at h1
  obtain ⟨b', g', e2', U'⟩ := R.at h2
  cases e1.symm.trans e1'
  cases e2.symm.trans e2'
  refine r_addL R.st U U' hz fun B h' S' => ?_
  obtain ⟨G', R', K', e'⟩ := R.newL S'
  exact post _ _ _ _ R' K'.any ⟨B, e', rfl⟩
inductive Pt (κ : K) (σ : Sg) : Option PySem.Expr → Option Int → Prop
  | none : Pt κ σ none none
  | some {e : PySem.Expr} {x : Int} : Ev κ σ e (.ok (.int x) σ) → Pt κ σ (some e) (some x)
theorem Pt.seq {α β : Type} {rel : Kx → Gh → β → α → Prop} {r : Rs β} {Q : α → Shared → Prop} {oe : Option PySem.Expr} {x : Option Int} {QQ : Value → Shared → Prop} (w : Pt κ σ oe x) (R : Rep κ c σ h G) (p : Post κ c G rel r Q E)
    (k : ∀ h tk G' u, Rep κ c σ h G' → Kp c.ex G G' → IsPart u x → Post κ c G' rel r Q E → QQ u (mk c.s h tk)) : wpAny (model c.prog c.w) c.A (evalPart oe c.env) QQ E (mk c.s h tk) := by
  cases w with
  | none => exact evalPart_none_step (k h tk G _ R .refl .none p)
  | some he => exact evalPart_some_step (he.seq R p fun h₁ tk₁ G₁ u₁ R₁ K₁ V₁ p₁ => by
      obtain ⟨t, rfl⟩ := V₁
      exact k h₁ tk₁ G₁ _ R₁ K₁ (.int _ _) p₁)
theorem ev_slice {value : PySem.Expr} {a b st : Option PySem.Expr} {sp p : Pos} {lo hi ste : Option Int} {ds' : List D} (hv : Ev κ σ value (.ok (.lst i) σ₁)) (h1 : σ₁.l[i]? = some (k, ds)) (pa : Pt κ σ₁ a lo) (pb : Pt κ σ₁ b hi) (pst : Pt κ σ₁ st ste) (hz : ds.length < 1000) (hp : pickD ds lo hi ste = ds') (h0 : ste ≠ some 0)
    (hs : ∀ l s, ∃ ops, subscripted (.Slice a b st sp) false (.ref l) (.ref s) = operate ops (getItem (.ref l) (.ref s)) := by intro _ _; exact ⟨_, rfl⟩) :
    Ev κ σ (.Subscript value (.Slice a b st sp) p) (.ok (.lst σ₁.l.length) ⟨σ₁.v, σ₁.l ++ [(k, ds')], σ₁.o⟩) :=
  fun c h tk G R Q E post => Subscript_ (hv.seq R post fun _ _ _ _ R₁ _ V₁ post₁ => wpAny_Slice (pa.seq R₁ post₁ fun _ _ _ _ R₂ K₂ P₂ post₂ => pb.seq R₂ post₂ fun _ _ _ _ R₃ K₃ P₃ post₃ => pst.seq R₃ post₃ fun h₄ tk₄ G₄ u₄ R₄ K₄ P₄ post₄ => by
    obtain ⟨l, e1, rfl⟩ := K₄.v (K₃.v (K₂.v V₁))
    obtain ⟨a', g, e1', U⟩ := R₄.at h1
    cases e1.symm.trans e1'
    obtain ⟨ops, ho⟩ := hs l h₄.objs.size
    refine r_slice R₄.st U P₂ P₃ P₄ h0 hz ho fun B h' S' => ?_
    rw [hp] at S'
    obtain ⟨G', R', K', e'⟩ := R₄.newL S'
    exact post₄ _ _ _ _ R' K'.any ⟨B, e', rfl⟩))
theorem pick_from (ds : List D) {y : Int} (h : 0 ≤ y) : pickD ds (some y) none none = ds.drop y.toNat := by
  obtain ⟨k, rfl⟩ := Int.eq_ofNat_of_zero_le h
  have e : sliceBounds (some (k : Int)) none none ds.length = (((min k ds.length : Nat) : Int), ((ds.length : Nat) : Int), 1) := by
    simp only [sliceBounds, Option.getD_none, show (1 : Int) > 0 by decide, if_true, if_neg (Int.not_lt.mpr h)]
    congr 1
    exact cut_nat k _
  unfold pickD
  rw [e]
  simp only [sliceRange_one]
  rw [range_pick _ _ (Nat.le_of_eq (Nat.add_sub_cancel' (Nat.min_le_right k ds.length))), List.take_of_length_le (by rw [List.length_drop]; exact Nat.le_refl _)]
  show ds.drop (min k ds.length) = ds.drop k
  rcases Nat.le_total k ds.length with hk | hk
  · rw [Nat.min_eq_left hk]
  · rw [Nat.min_eq_right hk, List.drop_of_length_le (Nat.le_refl _), List.drop_of_length_le hk]
theorem r_tupItem {value slice : PySem.Expr} {a : Addr} {vs : List Value} {n j : Nat} {x : Int} {t : Tok} {v : Value} {Q : Value → Shared → Prop} (R : Rep κ c σ h G) (hm : (a, tupOf vs n) ∈ G.nw) (hx : x = (j : Int)) (hj : vs[j]? = some v) (hl : vs.length < 10) (q : Q v (mk c.s h tk))
    (hs : subscripted slice false (.ref a) (.int x t) = operate [.ref a, .int x t] (getItem (.ref a) (.int x t)) := by with_unfolding_all rfl) :
    wpAny (model c.prog c.w) c.A (subscriptTail value slice (.ref a) (.int x t)) Q E (mk c.s h tk) := by
  have g1 := R.st.gets _ hm
  have hT : (mk c.s h tk).TypeIs (.ref a) "tuple" := ⟨_, g1, rfl⟩
  have hj' : j < vs.length := (List.getElem?_eq_some_iff.mp hj).1
  subst hx
  refine tail_any hT F.slot_tuple_getitem.lookup (PySem.P.getItem_tuple (s := mk c.s h tk) (items := vs.toArray) (n := n) (k := j) (y := v) g1 (by lia) (by lia) ?_ (by simpa using hj) q) hs
  unfold seqIndex?
  simp [hj', show ¬ ((j : Int) < 0) by lia]
theorem ev_fstP {value : PySem.Expr} {p cp : Pos} {n : Nat} {x y : Int} (hv : Ev κ σ value (.ok (.el .p [x, y]) σ₁)) : Ev κ σ (.Subscript value (.Constant (.int 0) n cp) p) (.ok (.int x) σ₁) :=
  fun c h tk G R Q E post => Subscript_ (hv.seq R post fun h₁ tk₁ G₁ _ R₁ _ V₁ post₁ => i_const fun t tk₂ => by
    obtain ⟨a, n, x', t', y', u', rfl, hm, e⟩ := V₁
    cases e
    exact r_tupItem (j := 0) R₁ hm rfl rfl (by simp) (post₁.here R₁ ⟨t', rfl⟩))
theorem ev_fstPI {value : PySem.Expr} {p cp : Pos} {n : Nat} {d : D} {z : Int} (hv : Ev κ σ value (.ok (.el .pi (d ++ [z])) σ₁)) : Ev κ σ (.Subscript value (.Constant (.int 0) n cp) p) (.ok (.el .p d) σ₁) :=
  fun c h tk G R Q E post => Subscript_ (hv.seq R post fun h₁ tk₁ G₁ _ R₁ _ V₁ post₁ => i_const fun t tk₂ => by
    obtain ⟨a, n, v₁, d₁, z', u', rfl, hm, p1, e⟩ := V₁
    obtain ⟨rfl, hz⟩ := List.append_inj' e rfl
    exact r_tupItem (j := 0) R₁ hm rfl rfl (by simp) (post₁.here R₁ p1))
theorem ev_fstK {value : PySem.Expr} {p cp : Pos} {n : Nat} {d : D} {x : Int} (hv : Ev κ σ value (.ok (.el .kip (x :: d)) σ₁)) : Ev κ σ (.Subscript value (.Constant (.int 0) n cp) p) (.ok (.int x) σ₁) :=
  fun c h tk G R Q E post => Subscript_ (hv.seq R post fun h₁ tk₁ G₁ _ R₁ _ V₁ post₁ => i_const fun t tk₂ => by
    obtain ⟨a, n, x', t', y', u', v₁, d₁, rfl, hm, p1, e⟩ := V₁
    cases e
    exact r_tupItem (j := 0) R₁ hm rfl rfl (by simp) (post₁.here R₁ ⟨t', rfl⟩))
theorem ev_last {value slice : PySem.Expr} {p : Pos} {d : D} (hl : Ev κ σ value (.ok (.lst i) σ₁)) (hr : Ev κ σ₁ slice (.ok (.int (-1)) σ₂)) (h1 : σ₂.l[i]? = some (k, ds' ++ [d])) (hz : ds'.length < 1000)
    (hs : ∀ a t, subscripted slice false (.ref a) (.int (-1) t) = operate [.ref a, .int (-1) t] (getItem (.ref a) (.int (-1) t)) := by intro _ _; with_unfolding_all rfl) : Ev κ σ (.Subscript value slice p) (.ok (.el k d) σ₂) :=
  fun c _ _ _ R _ _ post => Subscript_ (hl.seq R post fun _ _ _ _ R₁ _ V₁ post₁ => hr.seq R₁ post₁ fun h₂ tk₂ G₂ u₂ R₂ K₂ ⟨t, V₂⟩ post₂ => by
    subst V₂
    obtain ⟨a, e1, rfl⟩ := K₂.v V₁
    obtain ⟨vs, hL, hv⟩ := R₂.items h1 e1
    have hlen := hv.len
    rw [List.length_append, List.length_singleton] at hlen
    obtain ⟨v, e2, hr2⟩ := hv.get (i := ds'.length) (b := d) (by simp)
    have hL' : (mk c.s h₂ tk₂).heap.IsList a vs.toArray := hL
    exact tail_any hL'.typeIs slot_list_getitem.lookup (wpAny_getItem_list_neg hL' (by decide) (by simp; lia) (by decide) (by
      rw [show ((-1 : Int) + (vs.toArray.size : Int)).toNat = ds'.length by simp; lia]
      simpa using e2) (post₂.here R₂ hr2)) (hs _ _))
end
end
end Mine
end
section
namespace Mine
theorem fold_one {v : Value} : ∀ (n : Nat) (acc : Array Value), List.foldl (fun x1 x2 => x1 ++ x2) acc (List.replicate n #[v]) = acc ++ (List.replicate n v).toArray
  | 0, acc => by simp
  | n + 1, acc => by
    rw [List.replicate_succ, List.foldl_cons, fold_one n, List.replicate_succ]
    apply Array.toList_inj.mp
    simp
theorem r_mulAny {prog : Program} {w : World} {A : Around} {E : Value → Shared → Prop} {s : Shared} {l : Addr} {items : Array Value} {k : Nat} {x : Int} {u : Tok} {Q : Value → Shared → Prop} (hl : s.heap.get? l = some (listOf items k)) (hlo : -(2 ^ 63 : Int) ≤ x) (hhi : x < 2 ^ 63) (hsz : items.size * x.toNat ≤ 2 ^ 24)
    (q : Q (.ref s.heap.objs.size) { s with heap := s.heap.push (listOf (List.foldl (fun x1 x2 => x1 ++ x2) #[] (List.replicate (if items.isEmpty = true then 0 else x.toNat) items)) 0) }) : wpAny (model prog w) A (binaryOp .Mult (.ref l) (.int x u)) Q E s :=
  wpAny_binaryOp_repeat_ref (T := "list") (U := "int") (by decide) ⟨_, hl, rfl⟩ (fun s' => typeIs_int s' x u) noFill_list_mul F.fills_int_mul F.slot_int_rmul repeat_list F.slot_int_index.lookup
    (call_meets F.slot_int_rmul (typeIs_int s x u) F.entry_int_rmul (F.args_int_rmul_2 _ _) (int___rmul___int_list x u l items k) ⟨hl, rfl, ⟨_, hl, rfl⟩,
      call_meets F.slot_list_mul ⟨_, hl, rfl⟩ F.entry_list_mul (F.args_list_mul_2 _ _) (AutoListH.list___mul___list_int_3 l items k x u (by simp [Builtin.List.listFitsIndex]; lia) (by lia) (by simp [Builtin.List.listTooLong, sizeLine]; lia)) ⟨hl, q⟩⟩)
theorem r_mulOne {prog : Program} {w : World} {A : Around} {E : Value → Shared → Prop} {s : Shared} {h : Heap} {tk : Nat} {l : Addr} {v : Value} {k n : Nat} {u : Tok} {Q : Value → Shared → Prop} (hl : h.get? l = some (listOf #[v] k)) (hn : n < 1000)
    (q : Q (.ref h.objs.size) (mk s (h.push (listOf (List.replicate n v).toArray 0)) tk)) : wpAny (model prog w) A (binaryOp .Mult (.ref l) (.int n u)) Q E (mk s h tk) := by
  obtain ⟨items, hit⟩ : ∃ items : Array Value, items = #[v] := ⟨_, rfl⟩
  rw [← hit] at hl
  have h1 : items.size = 1 := by rw [hit]; rfl
  refine r_mulAny (s := mk s h tk) hl (by lia) (by lia) (by rw [h1]; simp; lia) ?_
  have e : List.foldl (fun x1 x2 => x1 ++ x2) #[] (List.replicate (if items.isEmpty = true then 0 else ((n : Nat) : Int).toNat) items) = (List.replicate n v).toArray := by
    subst hit
    rw [if_neg (by simp), Int.toNat_natCast, fold_one]; simp
  rw [e]
  exact q
section
variable {κ : K} {c : Kx} {σ σ₁ σ₂ σ₃ σ₄ : Sg} {h h' : Heap} {tk : Nat} {G G' : Gh} {E : Value → Shared → Prop}
theorem All2.repl {α β : Type} {R : α → β → Prop} {a : α} {b : β} (h : R a b) : ∀ n, All2 R (List.replicate n a) (List.replicate n b)
  | 0 => .nil
  | n + 1 => .cons h (All2.repl h n)
theorem o_mulL {i n : Nat} {k : Kd} {d : D} (h1 : σ.l[i]? = some (k, [d])) (hn : n < 1000) : O2 κ σ (binaryOp .Mult) (.lst i) (.int n) (.ok (.lst σ.l.length) ⟨σ.v, σ.l ++ [(k, List.replicate n d)], σ.o⟩) := .of fun c h tk G R _ _ ⟨a, e1, q1⟩ ⟨t, q2⟩ _ _ post => by
  subst q1 q2
  obtain ⟨a', g, e1', U⟩ := R.at h1
  cases e1.symm.trans e1'
  obtain ⟨vs, c, hl, hr⟩ := R.st.isList U
  obtain _ | ⟨r1, hr⟩ := hr
  cases hr
  refine r_mulOne hl hn ?_
  obtain ⟨G', R', K', e'⟩ := R.newL (R.st.addL (fun _ _ e => Heap.get?_push_of_some _ e) (Nat.le_refl _) (Heap.get?_push_size _ rfl) (All2.repl r1 n))
  exact post _ _ _ _ R' K'.any ⟨_, e', rfl⟩
theorem o_mulO {i n : Nat} {v : AV} (h1 : σ.o[i]? = some (.rl [v])) (hn : n < 1000) : O2 κ σ (binaryOp .Mult) (.oth i) (.int n) (.ok (.oth σ.o.length) ⟨σ.v, σ.l, σ.o ++ [.rl (List.replicate n v)]⟩) := .of fun c h tk G R _ _ ⟨a, e1, q1⟩ ⟨t, q2⟩ _ _ post => by
  subst q1 q2
  obtain ⟨a', b, g, e1', U, us, m, rfl, hr⟩ := R.atO h1
  cases e1.symm.trans e1'
  obtain _ | ⟨r1, hr⟩ := hr
  cases hr
  refine r_mulOne (R.st.getO U) hn ?_
  obtain ⟨G', R', K', e'⟩ := R.newO (x := .rl (List.replicate n v)) (R.st.addO (fun _ _ e => Heap.get?_push_of_some _ e) (Nat.le_refl _) (Heap.get?_push_size _ rfl)) ⟨_, 0, rfl, All2.repl (R := fun u a => VRel κ.X c.mg G a u) r1 n⟩
  exact post _ _ _ _ R' K'.any ⟨_, e', rfl⟩
theorem All2.setI {α β : Type} {R : α → β → Prop} {a : α} {b : β} {as : List α} {bs : List β} (h : All2 R as bs) (hr : R a b) : ∀ n, All2 R (as.set n a) (bs.set n b) := by
  induction h with
  | nil => intro n; exact .nil
  | cons h1 h2 ih =>
    intro n
    cases n with
    | zero => exact .cons hr h2
    | succ n => exact .cons h1 (ih n)
theorem ex_setitemO {o ix e : PySem.Expr} {p p' : Pos} {i n : Nat} {x : Int} {v : AV} {vs : List AV} (he : Ev κ σ e (.ok v σ₁)) (ho : Ev κ σ₁ o (.ok (.oth i) σ₂)) (hi : Ev κ σ₂ ix (.ok (.int x) σ₃)) (hx : x = (n : Int)) (hl : σ₃.o[i]? = some (.rl vs)) (hn : n < vs.length) (hz : vs.length < 1000)
    (hs : ∀ env, swapsWith e (some (.Subscript o ix p')) p.line env = pure false := by intro _; rfl) : Ex κ σ (.Assign [.Subscript o ix p'] e p) (.ok .next ⟨σ₃.v, σ₃.l, σ₃.o.set i (.rl (vs.set n v))⟩) :=
  fun c _ _ _ R _ _ post => wpAny_Assign_Subscript (he.seq R post fun _ _ _ _ R₁ _ V₁ post₁ => ho.seq R₁ post₁ fun _ _ _ _ R₂ K₂ V₂ post₂ => hi.seq R₂ post₂ fun h₃ tk₃ G₃ u₃ R₃ K₃ V₃ post₃ => by
    obtain ⟨t, rfl⟩ := V₃
    obtain ⟨a, e1, rfl⟩ := K₃.v V₂
    obtain ⟨a', b, g, e1', U, us, m, rfl, hr⟩ := R₃.atO hl
    cases e1.symm.trans e1'
    have hlen := hr.len
    subst hx
    have hg := R₃.st.getO U
    refine ki_setAt (s := mk c.s h₃ tk₃) hg (by lia) (by lia) (by simp; lia) ?_
    have hg2 := get?_update_seq hg fun z => z.setIfInBounds n (by assumption)
    obtain ⟨R', K'⟩ := R₃.setO (x := .rl vs) (x' := .rl (vs.set n v)) e1 U ⟨_, _, rfl, hr.setI (K₃.v (K₂.v V₁)) n⟩ (R₃.st.turned U (Heap.SameBut.update ..) (by simpa using hg2))
    exact post₃ _ _ _ _ R' K'.any rfl) (hs _)
end
end Mine
end
section
namespace Mine
noncomputable def cloOf (env : Env) (cs : List (Str × Addr)) (x : Str × NameKind) : List (Str × Addr) := if (x.2 == .free) = true then (x.1, (env.cells.lookup x.1).getD 0) :: cs else cs
theorem closure_go {env : Env} : ∀ (names : List (Str × NameKind)) (cs : List (Str × Addr)), (∀ x ∈ names, x.2 = .free → ∃ a, env.cells.lookup x.1 = some a) →
    (forIn names cs fun x r => (if (x.2 == NameKind.free) = true then do
        let a ← cellOf env x.1
        pure (ForInStep.yield ((x.1, a) :: r)) else pure (ForInStep.yield r) : Sem (ForInStep (List (Str × Addr))))) = pure (names.foldl (cloOf env) cs)
  | [], cs, _ => rfl
  | x :: r, cs, h => by
    rw [List.forIn_cons, List.foldl_cons]
    by_cases hx : x.2 = .free
    · obtain ⟨a, ha⟩ := h x (.head _) hx
      have e1 : (x.2 == NameKind.free) = true := by simpa using hx
      have e2 : cellOf env x.1 = pure a := by unfold cellOf; rw [ha]
      have e3 : cloOf env cs x = (x.1, a) :: cs := by unfold cloOf; rw [if_pos e1, ha]; rfl
      rw [if_pos e1, e2, e3]
      exact closure_go r _ fun y hy => h y (.tail _ hy)
    · have e1 : ¬ (x.2 == NameKind.free) = true := by simpa using hx
      have e3 : cloOf env cs x = cs := by unfold cloOf; rw [if_neg e1]
      rw [if_neg e1, e3]
      exact closure_go r _ fun y hy => h y (.tail _ hy)
theorem closure_eq {scope : Scope} {env : Env} (h : ∀ x ∈ scope.names, x.2 = .free → ∃ a, env.cells.lookup x.1 = some a) : closureFor scope env = pure (scope.names.foldl (cloOf env) []) := by
  have := closure_go (env := env) scope.names [] h
  unfold closureFor
  simp only
  exact (congrArg (fun z => z >>= fun cs => pure cs) this).trans rfl
theorem clo_look {env : Env} {x : Str} {a : Addr} (ha : env.cells.lookup x = some a) : ∀ (names : List (Str × NameKind)) (cs : List (Str × Addr)), (cs.lookup x = some a ∨ (cs.lookup x = none ∧ (x, NameKind.free) ∈ names)) → (names.foldl (cloOf env) cs).lookup x = some a
  | [], cs, h => by
    rcases h with h | ⟨_, h⟩
    · exact h
    · cases h
  | y :: r, cs, h => by
    rw [List.foldl_cons]
    refine clo_look ha r _ ?_
    unfold cloOf
    by_cases hy : (y.2 == NameKind.free) = true
    · rw [if_pos hy, List.lookup_cons]
      by_cases hxy : x = y.1
      · subst hxy
        rw [beq_self_eq_true, ha]; exact .inl rfl
      · rw [show (x == y.1) = false by simpa using hxy]
        rcases h with h | ⟨h1, h2⟩
        · exact .inl h
        · rcases List.mem_cons.mp h2 with e | h2
          · exact absurd (congrArg Prod.fst e) hxy
          · exact .inr ⟨h1, h2⟩
    · rw [if_neg hy]
      rcases h with h | ⟨h1, h2⟩
      · exact .inl h
      · rcases List.mem_cons.mp h2 with e | h2
        · rw [← e] at hy; simp at hy
        · exact .inr ⟨h1, h2⟩
section
variable {κ : K} {c : Kx} {σ σ₁ σ₂ σ₃ σ₄ : Sg} {h h' : Heap} {tk : Nat} {G G' : Gh} {E : Value → Shared → Prop}
theorem clo {scope : Scope} {fi' : Fi} (ho : κ.fi.own = true) (hfree : ∀ x ∈ scope.names, x.2 = .free → ∃ j, (x.1, j) ∈ κ.fi.cs) (hcs : ∀ p ∈ fi'.cs, p ∈ κ.fi.cs ∧ (p.1, NameKind.free) ∈ scope.names) :
    ∀ c h G, Rep κ c σ h G → c.mo = none ∧ ∃ cl, closureFor scope c.env = pure cl ∧ ∀ p ∈ fi'.cs, c.env.kindOf p.1 = some .cell ∧ ∃ a, G.oa[p.2]? = some a ∧ cl.lookup p.1 = some a := by
  intro c h G R
  refine ⟨R.own ho, _, closure_eq fun x hx hf => ?_, fun p hp => ⟨R.en.cel p (hcs p hp).1, ?_⟩⟩
  · obtain ⟨j, hj⟩ := hfree x hx hf
    obtain ⟨a, _, e⟩ := R.ce _ hj
    exact ⟨a, e⟩
  · obtain ⟨a, e1, e2⟩ := R.ce p (hcs p hp).1
    exact ⟨a, e1, clo_look e2 _ _ (.inr ⟨rfl, (hcs p hp).2⟩)⟩
theorem ev_methO {o e : PySem.Expr} {es : List PySem.Expr} {name : Str} {ap p : Pos} {id : String} {pl : Env → Sem Bool} {i : Nat} {vs : List AV} {as : List AV} {r : Rs AV} (ho : Ev κ σ o (.ok (.oth i) σ₁)) (hi : σ₁.o[i]? = some (.rl vs)) (slot : Slot "list" name id) (hty : typeOf (.builtin id) = pure (.type "method_descriptor")) (ha : El κ σ₁ (e :: es) (.ok as σ₂)) (hop : Oc κ σ₂ (.builtin id) (.oth i :: as) r)
    (hc : ∀ env, eval (.Call (.Attribute o name ap) (e :: es) [] p) env = (do
      let ov ← eval o env
      standAt ap.atName
      let (f, first) ← holding [ov] (getMethod ov name (pl env))
      callWith p f first (backTo p (starEach (e :: es) env)) []) := by intro _; rfl)
    (he : ∀ env, starEach (e :: es) env = (false, eval e env) :: starEach es env := by intro _; rfl) (hp : ∀ env, (backTo p (starEach es env)).any (·.1) = false := by intro _; rfl) : Ev κ σ (.Call (.Attribute o name ap) (e :: es) [] p) r :=
  fun c _ _ _ R _ _ post => MethodCall_ (pl := pl _) (ho.seq R post fun h₁ tk₁ G₁ u₁ R₁ _ V₁ post₁ => by
    obtain ⟨a, e1, rfl⟩ := V₁
    obtain ⟨a', b, g, e1', U, us, m, rfl, hr⟩ := R₁.atO hi
    cases e1.symm.trans e1'
    have hg := R₁.st.getO U
    refine getMethod_builtin (s := mk c.s h₁ tk₁) ⟨_, hg, rfl⟩ PySem.F.plainAttrs_list slot hty (fun a e => by cases e; exact ⟨_, hg, rfl⟩) ?_
    exact callWith_method1 ((ha p).seq R₁ post₁ fun h₂ tk₂ G₂ us R₂ K₂ V₂ post₂ => hop _ h₂ tk₂ G₂ R₂ (_ :: us) (.cons ⟨a, pre_get K₂.oa e1, rfl⟩ V₂) _ _ post₂) (he _) (hp _)) (hc _)
theorem m_appendO {i : Nat} {vs : List AV} {v : AV} (hi : σ.o[i]? = some (.rl vs)) (hz : vs.length < 1000) : Oc κ σ (.builtin "list.append") [.oth i, v] (.ok .none ⟨σ.v, σ.l, σ.o.set i (.rl (vs ++ [v]))⟩) := by
  intro c h tk G R us hus Q E post
  obtain _ | ⟨⟨a, e, q⟩, hus⟩ := hus
  obtain _ | ⟨hv, hus⟩ := hus
  subst q
  cases hus
  obtain ⟨a', b, g, e1', U, us, m, rfl, hr⟩ := R.atO hi
  cases e.symm.trans e1'
  have hlen := hr.len
  refine append_at (s := mk c.s h tk) (R.st.getO U) (fun h' hs ho' => ?_) (by rw [sizeLine_eq]; simp; lia)
  obtain ⟨R', K'⟩ := R.setO (x := .rl vs) (x' := .rl (vs ++ [v])) e U ⟨us ++ [_], m + 1, rfl, hr.append (.cons hv .nil)⟩ (R.st.turned U hs (by simpa using ho'))
  exact post _ _ _ _ R' K'.any rfl
section
variable {tgt elt tst : PySem.Expr} {it it' : AO} {kd : Kd} {out out' : List D} {v : AV} {d : D}
theorem cl_no (nx : Nx σ it (some (v, it'))) (ow : Ow tgt it' v) (ha : As κ σ tgt v σ₁) (ht : Tt κ σ₁ tst (.ok false σ₂)) (k : Cl κ σ₂ tgt elt [tst] it' kd out out' σ₃) : Cl κ σ tgt elt [tst] it kd out out' σ₃ := by
  intro c h tk G I o Z iter scope pos R hm hI hex ho hZ hZa hZx hZI Rr post
  obtain ⟨g, U⟩ := AtO.ofMem hm
  refine comp_once (nx_item R nx U ho fun h' tk' o' u S' ho' hv => ?_)
  obtain ⟨R', K'⟩ := R.hid hI hex (fun p hp hn => U.others (o' := o') hp hn) S'
  refine ow _ _ _ _ _ _ _ _ _ _ _ _ _ _ (R'.st.getO (U.again o')) ho' hv ?_
  refine ha c h' tk' _ R' u (K'.v hv) _ _ fun h₂ tk₂ G₂ R₂ K₂ => ?_
  obtain ⟨z1, z2⟩ := K₂.ob (I, o') (U.again o').mem hI hex
  obtain ⟨y1, y2⟩ := K₂.ls (Z, kd, out) hZ hZa hZx
  refine wpAny_tests_one (ht c h₂ tk₂ G₂ R₂ _ _ fun h₃ tk₃ G₃ u₃ R₃ K₃ V₃ => ?_)
  have V₃ : u₃ = false := V₃
  subst V₃
  obtain ⟨z3, z4⟩ := K₃.ob (I, o') z1 z2 hex
  obtain ⟨y3, y4⟩ := K₃.ls (Z, kd, out) y1 y2 hZx
  rw [if_neg Bool.false_ne_true]
  have kk : Kp (Z :: I :: c.ex) G G₃ := (((K'.wk fun z hz => List.mem_singleton.mp hz ▸ .tail _ (.head _)).trans (K₂.wk fun z hz => .tail _ (.tail _ hz))).trans (K₃.wk fun z hz => .tail _ (.tail _ hz)))
  exact k c h₃ tk₃ G₃ I o' Z iter scope pos R₃ z3 z4 hex (((ho'.mono K'.la K'.oa K'.nw).mono K₂.la K₂.oa K₂.nw).mono K₃.la K₃.oa K₃.nw) y3 y4 hZx hZI Rr (post.move kk)
theorem cl_yes (nx : Nx σ it (some (v, it'))) (ow : Ow tgt it' v) (ha : As κ σ tgt v σ₁) (ht : Tt κ σ₁ tst (.ok true σ₂)) (he : Ev κ σ₂ elt (.ok (elv kd d) σ₃)) (hz : out.length < 1000) (k : Cl κ σ₃ tgt elt [tst] it' kd (out ++ [d]) out' σ₄) : Cl κ σ tgt elt [tst] it kd out out' σ₄ := by
  intro c h tk G I o Z iter scope pos R hm hI hex ho hZ hZa hZx hZI Rr post
  obtain ⟨g, U⟩ := AtO.ofMem hm
  refine comp_once (nx_item R nx U ho fun h' tk' o' u S' ho' hv => ?_)
  obtain ⟨R', K'⟩ := R.hid hI hex (fun p hp hn => U.others (o' := o') hp hn) S'
  refine ow _ _ _ _ _ _ _ _ _ _ _ _ _ _ (R'.st.getO (U.again o')) ho' hv ?_
  refine ha c h' tk' _ R' u (K'.v hv) _ _ fun h₂ tk₂ G₂ R₂ K₂ => ?_
  obtain ⟨z1, z2⟩ := K₂.ob (I, o') (U.again o').mem hI hex
  obtain ⟨y1, y2⟩ := K₂.ls (Z, kd, out) hZ hZa hZx
  refine wpAny_tests_one (ht c h₂ tk₂ G₂ R₂ _ _ fun h₃ tk₃ G₃ u₃ R₃ K₃ V₃ => ?_)
  have V₃ : u₃ = true := V₃
  subst V₃
  obtain ⟨z3, z4⟩ := K₃.ob (I, o') z1 z2 hex
  obtain ⟨y3, y4⟩ := K₃.ls (Z, kd, out) y1 y2 hZx
  rw [if_pos rfl]
  refine he c h₃ tk₃ G₃ R₃ _ _ fun h₄ tk₄ G₄ u₄ R₄ K₄ V₄ => ?_
  obtain ⟨z5, z6⟩ := K₄.ob (I, o') z3 z4 hex
  obtain ⟨y5, y6⟩ := K₄.ls (Z, kd, out) y3 y4 hZx
  refine hid_append R₄ y5 y6 hZx hz (elv_rel V₄) fun h₅ G₅ R₅ K₅ m₅ e1 e2 e3 e4 => ?_
  have kk : Kp (Z :: I :: c.ex) G G₅ := ((((K'.wk fun z hz => List.mem_singleton.mp hz ▸ .tail _ (.head _)).trans (K₂.wk fun z hz => .tail _ (.tail _ hz))).trans (K₃.wk fun z hz => .tail _ (.tail _ hz))).trans (K₄.wk fun z hz => .tail _ (.tail _ hz))).trans (K₅.wk fun z hz => List.mem_singleton.mp hz ▸ .head _)
  exact k c h₅ tk₄ G₅ I o' Z iter scope pos R₅ (e1 ▸ z5) (e2 ▸ z6) hex ((((ho'.mono K'.la K'.oa K'.nw).mono K₂.la K₂.oa K₂.nw).mono K₃.la K₃.oa K₃.nw).mono K₄.la K₄.oa K₄.nw |>.mono K₅.la K₅.oa K₅.nw) m₅ (e3 ▸ y6) hZx hZI Rr (post.move kk)
end
end
end Mine
end
section
namespace Mine
noncomputable def AV.low (nl no : Nat) : AV → Bool
  | .lst i => Nat.blt i nl
  | .oth i => Nat.blt i no
  | _ => true
noncomputable def AO.low (nl no : Nat) : AO → Bool
  | .li i _ => Nat.blt i nl
  | .lo i _ => Nat.blt i no
  | .rl vs => vs.all (AV.low nl no)
  | .cell v => v.low nl no
  | _ => true
noncomputable def AF.low (nl no : Nat) : AF → Bool
  | .ret v => v.low nl no
  | _ => true
noncomputable def Gh.cut (nl no : Nat) (G : Gh) : Gh := { G with la := G.la.take nl, oa := G.oa.take no }
theorem take_get {α : Type} {l : List α} {n i : Nat} {a : α} (h : l[i]? = some a) (hi : Nat.blt i n = true) : (l.take n)[i]? = some a := by
  rw [List.getElem?_take, if_pos (show i < n from Nat.le_of_ble_eq_true hi)]; exact h
theorem VRel.cut {X : Pg} {mg : Str → Option Value} {G : Gh} {nl no : Nat} {a : AV} {u : Value} (h : VRel X mg G a u) (hl : a.low nl no = true) : VRel X mg (G.cut nl no) a u := by
  cases a with
  | lst i => obtain ⟨b, e, r⟩ := h; exact ⟨b, take_get e hl, r⟩
  | oth i => obtain ⟨b, e, r⟩ := h; exact ⟨b, take_get e hl, r⟩
  | _ => exact h
theorem ORel.cut {X : Pg} {mg : Str → Option Value} {G : Gh} {nl no : Nat} {a : AO} {o : Obj} (h : ORel X mg G a o) (hl : a.low nl no = true) : ORel X mg (G.cut nl no) a o := by
  cases a with
  | li i j => obtain ⟨b, e, r⟩ := h; exact ⟨b, take_get e hl, r⟩
  | lo i j => obtain ⟨b, e, r⟩ := h; exact ⟨b, take_get e hl, r⟩
  | rl vs =>
    obtain ⟨us, n, e, r⟩ := h
    refine ⟨us, n, e, ?_⟩
    clear e
    replace hl : vs.all (AV.low nl no) = true := hl
    induction r with
    | nil => exact .nil
    | cons r1 _ ih =>
      rw [List.all_cons, Bool.and_eq_true] at hl
      exact .cons (r1.cut hl.1) (ih hl.2)
  | cell v => obtain ⟨w, e, r⟩ := h; exact ⟨w, e, r.imp id fun ⟨z, e', r'⟩ => ⟨z, e', r'.cut hl⟩⟩
  | _ => exact h
theorem All2.cutO {X : Pg} {mg : Str → Option Value} {G : Gh} {nl no : Nat} : ∀ {as : List Addr} {bs : List AO}, All2 (fun a x => ∃ b, (a, b) ∈ G.ob ∧ ORel X mg G x b) as bs → bs.all (AO.low nl no) = true → All2 (fun a x => ∃ b, (a, b) ∈ (G.cut nl no).ob ∧ ORel X mg (G.cut nl no) x b) as bs := by
  intro as bs h hl
  induction h with
  | nil => exact .nil
  | cons h _ ih =>
    rw [List.all_cons, Bool.and_eq_true] at hl
    exact .cons (h.imp fun b q => ⟨q.1, q.2.cut hl.1⟩) (ih hl.2)
section
variable {κ : K} {c : Kx} {σ σ₁ σ₂ σ₃ : Sg} {h h' : Heap} {G G' : Gh}
theorem tt_is {e : PySem.Expr} {b b' : Bool} (ht : Tt κ σ e (.ok b σ₁)) (hb : b = b') : Tt κ σ e (.ok b' σ₁) := hb ▸ ht
theorem ev_is {e : PySem.Expr} {v v' : AV} (he : Ev κ σ e (.ok v σ₁)) (hv : v = v') : Ev κ σ e (.ok v' σ₁) := hv ▸ he
theorem Rep.cut {nl no : Nat} (R : Rep κ c σ h G) (hv : σ.v.all (AV.low nl no) = true) (ho : (σ.o.take no).all (AO.low nl no) = true) (hc : ∀ p ∈ κ.fi.cs, Nat.blt p.2 no = true) : Rep κ c ⟨σ.v, σ.l.take nl, σ.o.take no⟩ h (G.cut nl no) where
  gd := R.gd
  below := R.below
  depth := R.depth
  units := R.units
  handled := R.handled
  en := R.en
  st := by
    have e : c.lm (G.cut nl no) = c.lm G := by unfold Kx.lm; cases c.mo <;> rfl
    rw [e]; exact R.st
  lr := ⟨R.lr.l.take nl, (R.lr.o.take no).cutO ho, R.lr.ln.sublist (List.take_sublist _ _), R.lr.on.sublist (List.take_sublist _ _)⟩
  vr := fun i x v h1 h2 => (R.vr i x v h1 h2).imp id fun ⟨u, e, r⟩ => ⟨u, e, r.cut (List.all_eq_true.mp hv v (List.mem_of_getElem? h2))⟩
  nd := R.nd
  ce := fun p hp => let ⟨a, e, r⟩ := R.ce p hp; ⟨a, take_get e (hc p hp), r⟩
  fn := R.fn
  own := R.own
  top := R.top
  cp := fun m hm => let ⟨oC, h1, h2, h3⟩ := R.cp m hm; ⟨oC, h1, h2, fun q => h3 (List.mem_of_mem_take q)⟩
theorem Kp.cut {x : List Addr} {nl no : Nat} (k : Kp x G G') (h1 : G.la.length ≤ nl) (h2 : G.oa.length ≤ no) : Kp x G (G'.cut nl no) where
  la := List.prefix_take_iff.mpr ⟨k.la, h1⟩
  oa := List.prefix_take_iff.mpr ⟨k.oa, h2⟩
  nw := k.nw
  ls := fun e a b d => let ⟨q1, q2⟩ := k.ls e a b d; ⟨q1, fun q => q2 (List.mem_of_mem_take q)⟩
  ob := fun e a b d => let ⟨q1, q2⟩ := k.ob e a b d; ⟨q1, fun q => q2 (List.mem_of_mem_take q)⟩
theorem Rep.lens (R : Rep κ c σ h G) : G.la.length = σ.l.length ∧ G.oa.length = σ.o.length := ⟨R.lr.l.len, R.lr.o.len⟩
theorem FRl.cut {nl no : Nat} {f : AF} {u : Flow} (h : FRl κ c G f u) (hl : f.low nl no = true) : FRl κ c (G.cut nl no) f u := by
  cases f with
  | ret v => obtain ⟨w, e, r⟩ := h; exact ⟨w, e, r.cut hl⟩
  | _ => exact h
theorem es_drop {ss : List Stmt} {f : AF} (nl no : Nat) (hh : Es κ σ ss (.ok f σ₁)) (h1 : σ.l.length ≤ nl) (h2 : σ.o.length ≤ no) (hv : σ₁.v.all (AV.low nl no) = true) (ho : (σ₁.o.take no).all (AO.low nl no) = true) (hf : f.low nl no = true) (hc : (κ.fi.cs.all fun p => Nat.blt p.2 no) = true) : Es κ σ ss (.ok f ⟨σ₁.v, σ₁.l.take nl, σ₁.o.take no⟩) :=
  fun c h tk G R Q E post => hh c h tk G R Q E fun h' tk' G' u R' K' V' => post h' tk' (G'.cut nl no) u (R'.cut hv ho (List.all_eq_true.mp hc)) (K'.cut (R.lens.1 ▸ h1) (R.lens.2 ▸ h2)) (V'.cut hf)
end
end Mine
end
section
namespace Mine
theorem St.castL {B : Base} {L a : Addr} {h : Heap} {m : Str → Option Value} {ls : List Ent} {ob nw : Led} {k : Kd} {ds : List D} {us : List Value} {n : Nat} (S : St B L h m ls ob nw) (ha : (a, listOf us.toArray n) ∈ ob) (hr : All2 (RelIn nw k) us ds) : St B L h m ((a, k, ds) :: ls) (Led.rm a ob) nw := by
  have hz := S.newsO _ ha
  have haA : a ∈ adr ls ob B := List.mem_append_right _ (List.mem_append_left _ (List.mem_map_of_mem (f := (·.1)) ha))
  have hnw := S.apart.2 a haA
  have hnd := List.nodup_append.mp S.apart.1
  have hnd2 := List.nodup_append.mp hnd.2.1
  have hao : a ∈ ob.map (·.1) := List.mem_map_of_mem (f := (·.1)) ha
  have S' := S.rm ha (fun _ _ _ e => e)
  obtain ⟨rs, fs, hrs, hf, N⟩ := S'.led
  refine ⟨S'.fr, ⟨(a, listOf us.toArray n) :: rs, fs, .cons ⟨rfl, us, n, rfl, hr⟩ hrs, hf, fun p hp => ?_⟩, ?_, ?_⟩
  · rcases List.mem_cons.mp hp with rfl | hp
    · exact hz
    · exact N p hp
  · show (a :: adr ls (Led.rm a ob) B).Nodup
    refine List.nodup_cons.mpr ⟨fun q => ?_, S'.apart.1⟩
    rcases List.mem_append.mp q with q | q
    · exact hnd.2.2 a q a (List.mem_append_left _ hao) rfl
    · rcases List.mem_append.mp q with q | q
      · obtain ⟨p, hp, e⟩ := List.mem_map.mp q
        have := (List.mem_filter.mp hp).2
        simp [e] at this
      · exact hnd2.2.2 a hao a q rfl
  · intro b hb p hp
    rcases List.mem_cons.mp hb with rfl | hb
    · exact hnw p hp
    · exact S'.apart.2 b hb p hp
noncomputable def AV.fgt (nl no : Nat) (a : AV) : AV := if a.low nl no = true then a else .unb
section
variable {κ : K} {c : Kx} {σ σ₁ σ₂ σ₃ : Sg} {h h' : Heap} {G G' : Gh}
theorem Rep.toL {j : Nat} {a : Addr} {k : Kd} {ds : List D} (R : Rep κ c σ h G) (hj : σ.o[j]? = some (.rl (ds.map (elv k)))) (ha : G.oa[j]? = some a) (ho : (σ.o.take j).all (AO.low σ.l.length j) = true) (hc : ∀ p ∈ κ.fi.cs, Nat.blt p.2 j = true) :
    Rep κ c ⟨σ.v.map (AV.fgt σ.l.length j), σ.l ++ [(k, ds)], σ.o.take j⟩ h ⟨G.m, (a, k, ds) :: G.ls, Led.rm a G.ob, G.nw, G.la ++ [a], G.oa.take j⟩ := by
  obtain ⟨a', b, g, e1, U, us, n, rfl, hr⟩ := R.atO hj
  cases ha.symm.trans e1
  have hab := U.mem
  have hra : All2 (RelIn G.nw k) us ds := by
    have : ∀ {us : List Value} {ds : List D}, All2 (fun u v => VRel κ.X c.mg G v u) us (ds.map (elv k)) → All2 (RelIn G.nw k) us ds := fun h => All2.elv h
    exact this hr
  have S' : St c.B c.L h (c.lm G) ((a, k, ds) :: G.ls) (Led.rm a G.ob) G.nw := R.st.castL hab hra
  have hoa : ∀ x ∈ G.oa.take j, x ≠ a := fun x hx q => by
    subst q
    obtain ⟨i, hi, e⟩ := List.getElem_of_mem hx
    rw [List.getElem_take] at e
    have hi' : i < j := by simp at hi; lia
    have h1 : G.oa[i]? = some x := List.getElem?_eq_some_iff.mpr ⟨by simp at hi; lia, e⟩
    obtain ⟨x1, y1⟩ := List.getElem?_eq_some_iff.mp h1
    obtain ⟨x2, y2⟩ := List.getElem?_eq_some_iff.mp ha
    exact absurd (y1.trans y2.symm) (List.pairwise_iff_getElem.mp R.lr.on i j x1 x2 hi')
  have hlaa : a ∉ G.la := fun q => by
    obtain ⟨i, hi, e⟩ := List.getElem_of_mem q
    obtain ⟨y, _, h1⟩ := R.lr.l.get' (List.getElem?_eq_some_iff.mpr ⟨hi, e⟩)
    exact (List.nodup_append.mp R.st.apart.1).2.2 a (List.mem_map_of_mem (f := (·.1)) h1) a (List.mem_append_left _ (List.mem_map_of_mem (f := (·.1)) hab)) rfl
  have hlm : c.lm ⟨G.m, (a, k, ds) :: G.ls, Led.rm a G.ob, G.nw, G.la ++ [a], G.oa.take j⟩ = c.lm G := by unfold Kx.lm; cases c.mo <;> rfl
  have hvr : ∀ {v : AV} {u : Value}, v.low σ.l.length j = true → VRel κ.X c.mg G v u → VRel κ.X c.mg ⟨G.m, (a, k, ds) :: G.ls, Led.rm a G.ob, G.nw, G.la ++ [a], G.oa.take j⟩ v u := by
    intro v u hl hv
    cases v with
    | lst i => obtain ⟨b, e, r⟩ := hv; exact ⟨b, pre_get (List.prefix_append _ _) e, r⟩
    | oth i => obtain ⟨b, e, r⟩ := hv; exact ⟨b, take_get e hl, r⟩
    | _ => exact hv
  have hor : ∀ {x : AO} {o : Obj}, x.low σ.l.length j = true → ORel κ.X c.mg G x o → ORel κ.X c.mg ⟨G.m, (a, k, ds) :: G.ls, Led.rm a G.ob, G.nw, G.la ++ [a], G.oa.take j⟩ x o := by
    intro x o hl hx
    exact ORel.mono (G := G.cut σ.l.length j) (G' := ⟨G.m, (a, k, ds) :: G.ls, Led.rm a G.ob, G.nw, G.la ++ [a], G.oa.take j⟩) (by show G.la.take _ <+: G.la ++ [a]; exact (List.take_prefix _ _).trans (List.prefix_append _ _)) (List.prefix_refl _) (fun _ h => h) (hx.cut hl)
  refine { gd := R.gd, below := R.below, depth := R.depth, units := R.units, handled := R.handled, en := R.en, st := by rw [hlm]; exact S', lr := ⟨(R.lr.l.mono fun _ _ h => .tail _ h).append (.cons (.head _) .nil), ?_, nodup_snoc R.lr.ln hlaa, R.lr.on.sublist (List.take_sublist _ _)⟩, vr := ?_, nd := R.nd, ce := fun p hp => let ⟨b, e, r⟩ := R.ce p hp; ⟨b, take_get e (hc p hp), r⟩, fn := R.fn, own := R.own, top := R.top, cp := fun m hm => ?_ }
  · have key : ∀ {as : List Addr} {bs : List AO}, All2 (fun a x => ∃ b, (a, b) ∈ G.ob ∧ ORel κ.X c.mg G x b) as bs → (∀ x ∈ as, x ≠ a) → bs.all (AO.low σ.l.length j) = true → All2 (fun a' x => ∃ b, (a', b) ∈ Led.rm a G.ob ∧ ORel κ.X c.mg ⟨G.m, (a, k, ds) :: G.ls, Led.rm a G.ob, G.nw, G.la ++ [a], G.oa.take j⟩ x b) as bs := by
      intro as bs hh
      induction hh with
      | nil => intro _ _; exact .nil
      | cons r1 _ ih =>
        intro hne hl
        rw [List.all_cons, Bool.and_eq_true] at hl
        obtain ⟨b, hb, hr⟩ := r1
        exact .cons ⟨b, mem_rm hb (hne _ (.head _)), hor hl.1 hr⟩ (ih (fun x hx => hne x (.tail _ hx)) hl.2)
    exact key (R.lr.o.take j) hoa ho
  · intro i x v hx hv
    rw [List.getElem?_map] at hv
    cases e : σ.v[i]? with
    | none => rw [e] at hv; cases hv
    | some w =>
      rw [e] at hv
      have hv : AV.fgt σ.l.length j w = v := Option.some.inj hv
      unfold AV.fgt at hv
      split at hv
      · rename_i hw
        subst hv
        exact (R.vr i x w hx e).imp id fun ⟨u, e', r⟩ => ⟨u, e', hvr hw r⟩
      · exact .inl hv.symm
  · obtain ⟨oC, h1, h2, h3⟩ := R.cp m hm
    refine ⟨oC, mem_rm h1 (fun q => h3 ?_), h2, fun q => h3 (List.mem_of_mem_take q)⟩
    have q' : c.env.locals = a := q
    rw [q']; exact List.mem_of_getElem? ha
theorem es_toL {ss : List Stmt} {j : Nat} {k : Kd} {ds : List D} (hh : Es κ σ ss (.ok (.ret (.oth j)) σ₁)) (hj : σ₁.o[j]? = some (.rl (ds.map (elv k)))) (h2 : σ.o.length ≤ j) (ho : (σ₁.o.take j).all (AO.low σ₁.l.length j) = true) (hc : (κ.fi.cs.all fun p => Nat.blt p.2 j) = true) :
    Es κ σ ss (.ok (.ret (.lst σ₁.l.length)) ⟨σ₁.v.map (AV.fgt σ₁.l.length j), σ₁.l ++ [(k, ds)], σ₁.o.take j⟩) := by
  intro c h tk G R Q E post
  refine hh c h tk G R Q E fun h' tk' G' u R' K' V' => ?_
  obtain ⟨w, rfl, a, ha, rfl⟩ := V'
  obtain ⟨a', b, g, e1, U, _⟩ := R'.atO hj
  cases ha.symm.trans e1
  have haG : a ∉ G.oa := fun q => by
    obtain ⟨i, hi, e⟩ := List.getElem_of_mem q
    have h1 := pre_get K'.oa (List.getElem?_eq_some_iff.mpr ⟨hi, e⟩)
    obtain ⟨x1, y1⟩ := List.getElem?_eq_some_iff.mp h1
    obtain ⟨x2, y2⟩ := List.getElem?_eq_some_iff.mp ha
    have hij : i < j := by have := R.lens.2; lia
    exact absurd (y1.trans y2.symm) (List.pairwise_iff_getElem.mp R'.lr.on i j x1 x2 hij)
  have hoaj : a ∈ G'.oa := List.mem_of_getElem? ha
  refine post h' tk' _ _ (R'.toL hj ha ho (List.all_eq_true.mp hc)) ⟨K'.la.trans (List.prefix_append _ _), List.prefix_take_iff.mpr ⟨K'.oa, by rw [R.lens.2]; exact h2⟩, K'.nw, fun e q1 q2 q3 => ?_, fun p q1 q2 q3 => ?_⟩ ⟨_, rfl, a, ?_, rfl⟩
  · obtain ⟨z1, z2⟩ := K'.ls e q1 q2 q3
    refine ⟨.tail _ z1, fun q => ?_⟩
    rcases List.mem_append.mp q with q | q
    · exact z2 q
    · have q := List.mem_singleton.mp q
      exact (List.nodup_append.mp R'.st.apart.1).2.2 e.1 (List.mem_map_of_mem (f := (·.1)) z1) a (List.mem_append_left _ (List.mem_map_of_mem (f := (·.1)) U.mem)) q
  · obtain ⟨z1, z2⟩ := K'.ob p q1 q2 q3
    exact ⟨mem_rm z1 fun q => z2 (q ▸ hoaj), fun q => z2 (List.mem_of_mem_take q)⟩
  · show (G'.la ++ [a])[σ₁.l.length]? = some a
    rw [← R'.lens.1]; simp
end
end Mine
end
section
namespace Mine
section
variable {X : Pg} {prog : Program} {w : World} {A : Around} {E : Value → Shared → Prop} {s : Shared} {h h₂ : Heap} {tk : Nat} {B : Base} {L e : Addr} {m : Str → Option Value} {ls : List Ent} {ob nw : Led}
theorem note_new {env : Env} {outer : List Env} {cls : String} {M : Model} {QQ : Unit → Shared → Prop} (hA : A.frames = some (env :: outer)) (hf : env.frame = some L) (hk : env.scope.kind = .function) (ho : OutOk outer B.frs) (S : St B L h₂ m ls ob nw) (hx : Heap.NewExc h₂ h e cls)
    (q : ∀ h₅, Fly B A L h₅ m ls ob nw e cls → QQ () (mk s h₅ tk)) : wpAny M A (noteFrame (.ref e) env) (fun _ s₂ => wpAny M A (setFlight (.ref e) none) QQ E s₂) E (mk s h tk) := by
  obtain ⟨rs, fs, hr, hfu, N⟩ := S.led
  obtain ⟨oL, es, ep, hgL, hdL, _⟩ := S.fr.ns
  have hin : ∀ p ∈ fs, p ∈ rs ++ (ob ++ (fs ++ nw)) := fun p hp => List.mem_append_right _ (List.mem_append_right _ (List.mem_append_left _ hp))
  obtain ⟨hb, hbd⟩ : ∃ hb, hb = hideAll h₂ (L :: B.frs.map (·.1)) := ⟨_, rfl⟩
  have hbs : hb.StaysIn h₂ := fun b o qb => of_hideAll _ (hbd ▸ qb)
  have hnone : ∀ p ∈ fs, hb.get? p.1 = none := fun p hp => by
    rw [hbd]
    refine hideAll_none _ (.tail _ ?_)
    rw [← FUp.addrs hfu]
    exact List.mem_map_of_mem (f := (·.1)) hp
  have hLn : hb.get? L = none := by rw [hbd]; exact hideAll_none _ (.head _)
  have hstay : B.hB.StaysIn hb := fun b o qb => by
    rw [hbd]
    refine hideAll_get _ (S.fr.keep b o qb) fun hm => ?_
    rcases List.mem_cons.mp hm with rfl | hm
    · exact absurd (Nat.lt_of_lt_of_le (Heap.lt_size qb) S.fr.above) (Nat.lt_irrefl _)
    · rw [← FUp.addrs hfu] at hm
      obtain ⟨p, hp, rfl⟩ := List.mem_map.mp hm
      have := (N p (hin p hp)).2.2
      rw [this] at qb; cases qb
  have hledger : ∀ p ∈ rs ++ (ob ++ nw), hb.get? p.1 = some p.2 ∧ p.1 ≠ L ∧ B.hB.get? p.1 = none := fun p hp => by
    have hp' : p ∈ rs ++ (ob ++ (fs ++ nw)) := by
      rcases List.mem_append.mp hp with hp | hp
      · exact List.mem_append_left _ hp
      · rcases List.mem_append.mp hp with hp | hp
        · exact List.mem_append_right _ (List.mem_append_left _ hp)
        · exact List.mem_append_right _ (List.mem_append_right _ (List.mem_append_right _ hp))
    refine ⟨?_, (N p hp').2⟩
    rw [hbd]
    refine hideAll_get _ (N p hp').1 fun hm => ?_
    rcases List.mem_cons.mp hm with q | hm
    · exact (N p hp').2.1 q
    · have hn := S.apart
      have hnd := List.nodup_append.mp hn.1
      have hnd2 := List.nodup_append.mp hnd.2.1
      rcases List.mem_append.mp hp with hp | hp
      · exact hnd.2.2 p.1 (Raw.addrs hr ▸ List.mem_map_of_mem (f := (·.1)) hp) p.1 (List.mem_append_right _ hm) rfl
      · rcases List.mem_append.mp hp with hp | hp
        · exact hnd2.2.2 p.1 (List.mem_map_of_mem (f := (·.1)) hp) p.1 hm rfl
        · exact hn.2 p.1 (List.mem_append_right _ (List.mem_append_right _ hm)) p hp rfl
  have hFF : h.FunFrames hb (env :: outer) :=
    ⟨by rw [hk]; decide, ⟨L, oL, hf, hLn, hx.keeps _ _ hgL, fun vs qd => by rw [hdL] at qd; cases qd⟩, outOk_frames ho hfu (fun p hp => hx.keeps _ _ (N p (hin p hp)).1) hnone⟩
  obtain ⟨oe, tp, he, hcls, hd⟩ := hx.there
  have hen : hb.get? e = none := by
    cases q : hb.get? e with
    | none => rfl
    | some o => have := hbs _ _ q; rw [hx.new] at this; cases this
  unfold noteFrame
  simp only [hf]
  refine wpAny_bind (wpAny_field (s := mk s h tk) he hd (x := .none) rfl ?_)
  rw [if_neg (by decide)]
  refine wpAny_entryW (s := mk s h tk) (a0 := tp) hA hFF hf he (fun b o hbo => hx.keeps _ _ (hbs _ _ hbo)) hen hd (by simp) rfl fun h₄ ⟨k1, k2, k3, k4⟩ => ?_
  refine wpAny_landsW (s := mk s h₄ tk) ⟨k1, hen, k2, k3⟩ fun h₅ hfl hup => q h₅ ?_
  have hu : h.UpToSlots h₅ := Heap.UpToSlots.trans k4 hup
  have hu2 : h₂.UpToSlots h₅ := (Heap.UpToSlots.of_keeps hx.keeps).trans hu
  rw [hcls] at hfl
  have hdict : ∀ p ∈ fs, ∃ es n, p.2.data = .dict es n := by
    intro p hp
    have : ∀ {fs frs : Led} {outer : List Env}, FUp fs frs → OutOk outer frs → ∀ p ∈ fs, ∃ es n, p.2.data = .dict es n := by
      intro fs frs outer h1
      unfold FUp at h1
      induction h1 generalizing outer with
      | nil => intro _ p hp; cases hp
      | cons r _ ih =>
        intro h2 p hp
        obtain ⟨_, sl, e2⟩ := r
        obtain _ | ⟨⟨_, _, es, n, hd⟩, h2⟩ := h2
        rcases List.mem_cons.mp hp with rfl | hp
        · exact ⟨es, n, by rw [e2]; exact hd⟩
        · exact ih h2 p hp
    exact this hfu ho p hp
  obtain ⟨fs', f1, f2, f3, f4⟩ := up_frames hfu (h' := h₅) fun p hp => by
    obtain ⟨es, n, hd⟩ := hdict p hp
    exact hu2 p.1 p.2 (N p (hin p hp)).1 fun vs qd => by rw [hd] at qd; cases qd
  refine ⟨_, hb, tp, rs, fs', hA, hr, f1, hstay, hledger, hfl, hu2.ns S.fr.ns, fun p hp => ?_, S.apart, S.fr.above⟩
  obtain ⟨q0, q1, q2, q3⟩ := f4 p hp
  obtain ⟨es, n, hd⟩ := hdict q0 q1
  have z := N q0 (hin q0 q1)
  exact ⟨⟨es, n, by rw [← q3]; exact hd⟩, f3 p hp, by rw [← q2]; exact z.2.1, by rw [← q2]; exact z.2.2⟩
end
end Mine
end
section
namespace Mine
noncomputable def PostR (κ : K) (y : List Addr) (c : Kx) (G : Gh) (v : AV) (ls : List LC) (Q : Flow → Shared → Prop) : Prop :=
  ∀ h tk G' u σ', σ'.l = ls → Rep κ c σ' h G' → Kp y G G' → VRel κ.X c.mg G' v u → Q (.ret u) (mk c.s h tk)
noncomputable def EsR (κ : K) (σ : Sg) (ss : List Stmt) (v : AV) (ls : List LC) : Prop :=
  ∀ c h tk G, Rep κ c σ h G → ∀ Q E, PostR κ c.ex c G v ls Q → wpAny (model c.prog c.w) c.A (execs ss c.env) Q E (mk c.s h tk)
noncomputable def EsH (κ : K) (σ : Sg) (I : Addr) (x : AO) (ss : List Stmt) (v : AV) (ls : List LC) : Prop :=
  ∀ c h tk G o, Rep κ c σ h G → (I, o) ∈ G.ob → I ∉ G.oa → I ∉ c.ex → ORel κ.X c.mg G x o → ∀ Q E, PostR κ (I :: c.ex) c G v ls Q → wpAny (model c.prog c.w) c.A (execs ss c.env) Q E (mk c.s h tk)
section
variable {κ : K} {c : Kx} {σ σ₁ σ₂ σ₃ : Sg} {h h' : Heap} {tk : Nat} {G G' : Gh} {E : Value → Shared → Prop} {I : Addr} {x : AO} {v : AV} {ls : List LC} {s : Stmt} {ss : List Stmt}
theorem PostR.move {y : List Addr} {Q : Flow → Shared → Prop} (p : PostR κ y c G v ls Q) (k : Kp y G G') : PostR κ y c G' v ls Q := fun h tk G'' u σ' hl R k' hv => p h tk G'' u σ' hl R (k.trans k') hv
theorem PostR.wk {y y' : List Addr} {Q : Flow → Shared → Prop} (p : PostR κ y c G v ls Q) (hs : ∀ z ∈ y', z ∈ y) : PostR κ y' c G v ls Q := fun h tk G'' u σ' hl R k' hv => p h tk G'' u σ' hl R (k'.wk hs) hv
theorem er_of (hE : Es κ σ ss (.ok (.ret v) σ₁)) (hl : σ₁.l = ls) : EsR κ σ ss v ls := fun c h tk G R Q E post => hE c h tk G R Q E fun h' tk' G' u R' K' ⟨w, hw, hv⟩ => by
  subst hw
  exact post h' tk' G' w σ₁ hl R' K' hv
theorem er_cons (hE : Ex κ σ s (.ok .next σ₁)) (h' : EsR κ σ₁ ss v ls) : EsR κ σ (s :: ss) v ls := fun c h tk G R Q E post => wpAny_execs_cons (hE c h tk G R _ _ fun h₁ tk₁ G₁ u R₁ K₁ V₁ => by
  have V₁ : u = .next := V₁
  subst V₁
  exact h' c h₁ tk₁ G₁ R₁ _ _ (post.move K₁))
theorem er_ifT {t : PySem.Expr} {b₁ b₂ : List Stmt} {p : Pos} {b : Bool} (ht : Tt κ σ t (.ok b σ₁)) (hb : b = true) (h' : EsR κ σ₁ b₁ v ls) : EsR κ σ (.If t b₁ b₂ p :: ss) v ls := fun c h tk G R Q E post => wpAny_execs_cons (wpAny_If (ht c h tk G R _ _ fun h₁ tk₁ G₁ u R₁ K₁ V₁ => by
  subst V₁ hb
  exact h' c h₁ tk₁ G₁ R₁ _ _ (post.move K₁)))
theorem eh_drop (hE : EsR κ σ ss v ls) : EsH κ σ I x ss v ls := fun c h tk G o R _ _ _ _ Q E post => hE c h tk G R Q E (post.wk fun z hz => .tail _ hz)
theorem eh_cons (hE : Ex κ σ s (.ok .next σ₁)) (h' : EsH κ σ₁ I x ss v ls) : EsH κ σ I x (s :: ss) v ls := fun c h tk G o R hm hI hex ho Q E post => wpAny_execs_cons (hE c h tk G R _ _ fun h₁ tk₁ G₁ u R₁ K₁ V₁ => by
  have V₁ : u = .next := V₁
  subst V₁
  obtain ⟨z1, z2⟩ := K₁.ob (I, o) hm hI hex
  exact h' c h₁ tk₁ G₁ o R₁ z1 z2 hex (ho.mono K₁.la K₁.oa K₁.nw) _ _ (post.move (K₁.wk fun z hz => .tail _ hz)))
theorem eh_ifT {t : PySem.Expr} {b₁ b₂ : List Stmt} {p : Pos} {b : Bool} (ht : Tt κ σ t (.ok b σ₁)) (hb : b = true) (h' : EsH κ σ₁ I x b₁ v ls) : EsH κ σ I x (.If t b₁ b₂ p :: ss) v ls := fun c h tk G o R hm hI hex ho Q E post => wpAny_execs_cons (wpAny_If (ht c h tk G R _ _ fun h₁ tk₁ G₁ u R₁ K₁ V₁ => by
  subst V₁ hb
  obtain ⟨z1, z2⟩ := K₁.ob (I, o) hm hI hex
  exact h' c h₁ tk₁ G₁ o R₁ z1 z2 hex (ho.mono K₁.la K₁.oa K₁.nw) _ _ (post.move (K₁.wk fun z hz => .tail _ hz))))
theorem Rep.blank {n : Nat} (R : Rep κ c σ h G) : Rep κ c ⟨List.replicate n .unb, σ.l, List.replicate σ.o.length .gone⟩ h G :=
  { R with
    lr := ⟨R.lr.l, by
      have : ∀ {as : List Addr} {bs : List AO}, All2 (fun a x => ∃ b, (a, b) ∈ G.ob ∧ ORel κ.X c.mg G x b) as bs → All2 (fun a x => ∃ b, (a, b) ∈ G.ob ∧ ORel κ.X c.mg G x b) as (List.replicate bs.length .gone) := by
        intro as bs hh
        induction hh with
        | nil => exact .nil
        | cons r _ ih => obtain ⟨b, hb, _⟩ := r; exact .cons ⟨b, hb, trivial⟩ ih
      exact this R.lr.o, R.lr.ln, R.lr.on⟩
    vr := fun i x v hx hv => .inl (List.eq_of_mem_replicate (List.mem_of_getElem? hv)) }
theorem r_iterI {prog : Program} {w : World} {A : Around} {s : Shared} {B : Base} {L l : Addr} {m : Str → Option Value} {lz : List Ent} {ob nw : Led} {oI : Obj} {j : Nat} {gO : Obj → Led} {Q : Value → Shared → Prop} (S : St B L h m lz ob nw) (UO : AtO I oI ob gO) (hoI : IsLI oI l j) (q : Q (.ref I) (mk s h tk)) : wpAny (model prog w) A (call (.builtin "iter") [.ref I]) Q E (mk s h tk) := by
  refine Calls.call_function_entry (id := "iter") (b := Builtin.«iter») (by decide +kernel) (by decide +kernel) (entryFor_of_tree (by kernel_rfl)) (by unfold argsOk; kernel_rfl) ?_
  show wpAny (model prog w) _ (do let it ← pyIter (.ref I); ret it) _ _ _
  exact wpAny_bind (r_pyIterLI S UO hoI (wpAny_pure ⟨_, rfl, q⟩))
theorem Kp.fresh {I : Addr} (hI : ∀ p ∈ G.ob, p.1 ≠ I) (hl : ∀ p ∈ G.ls, p.1 ≠ I) (k : Kp (I :: c.ex) G G') : Kp c.ex G G' := by
  refine ⟨k.la, k.oa, k.nw, fun e h h' h'' => k.ls e h h' fun q => ?_, fun p h h' h'' => k.ob p h h' fun q => ?_⟩
  · rcases List.mem_cons.mp q with q | q
    · exact hl e h q
    · exact h'' q
  · rcases List.mem_cons.mp q with q | q
    · exact hI p h q
    · exact h'' q
theorem er_iter {f e : PySem.Expr} {y : Str} {p p' cp : Pos} {n i : Nat} {lc : LC} (hf : Ev κ σ f (.ok (.val (.builtin "iter")) σ)) (he : Ev κ σ e (.ok (.lst i) σ)) (hi : σ.l[i]? = some lc) (hx : κ.fi.tb[n]? = some y) (hk : ∀ I, EsH κ ⟨σ.v.set n (.val (.ref I)), σ.l, σ.o⟩ I (.li i 0) ss v ls)
    (hs : ∀ env, swapsWith (.Call f [e] [] cp) (some (.Name y p')) p.line env = pure false := by intro _; rfl)
    (hc : ∀ env, eval (.Call f [e] [] cp) env = (do callWith cp (← eval f env) [] (backTo cp (starEach [e] env)) (backToKw cp (keywordEach [] env))) := by intro _; rfl)
    (hst : ∀ env, starEach [e] env = (false, eval e env) :: starEach [] env := by intro _; rfl) : EsR κ σ (.Assign [.Name y p'] (.Call f [e] [] cp) p :: ss) v ls := by
  intro c h tk G R Q E post
  refine wpAny_execs_cons (wpAny_Assign_Name (Call_ (hf c h tk G R _ _ fun h₁ tk₁ G₁ u₁ R₁ K₁ V₁ => ?_) (hc _)) (hs _))
  have V₁ : u₁ = .builtin "iter" := V₁
  subst V₁
  refine PyProof.Rows.callWith_builtin1 ((el_cons he el_nil (fun env => hst env)) cp c h₁ tk₁ G₁ R₁ _ _ fun h₂ tk₂ G₂ us R₂ K₂ V₂ => ?_) (hst _) rfl
  obtain _ | ⟨⟨a, ha, hu⟩, V₂⟩ := V₂
  cases V₂
  subst hu
  obtain ⟨a', g, ha', U⟩ := R₂.at (k := lc.1) (ds := lc.2) hi
  cases ha.symm.trans ha'
  refine r_iter R₂.st U fun I oI h₃ hoI S₃ => ?_
  obtain ⟨R₃, K₃, n1, n2, n3⟩ := R₂.hidNew S₃
  refine rep_store (v := .val (.ref I)) R₃ hx rfl fun h₄ tk₄ G₄ R₄ K₄ => ?_
  obtain ⟨z1, z2⟩ := K₄.ob (I, oI) (.head _) n1 n2
  have kk : Kp c.ex G G₄ := ((K₁.trans K₂).trans K₃.any).trans K₄
  have kG : ∀ p ∈ G.ob, p.1 ≠ I := Ite.fresh R₂ (K₁.trans K₂) n3
  have kl : ∀ p ∈ G₂.ls, p.1 ≠ I := fun p hp q => (List.nodup_append.mp S₃.apart.1).2.2 p.1 (List.mem_map_of_mem (f := (·.1)) hp) I (List.mem_append_left _ (.head _)) q
  have kLG : ∀ p ∈ G.ls, p.1 ≠ I := fun p hp q => by
    have K12 := K₁.trans K₂
    by_cases h1 : p.1 ∈ G.la
    · obtain ⟨i', hi', e'⟩ := List.getElem_of_mem h1
      obtain ⟨y', _, h3⟩ := R₂.lr.l.get' (pre_get K12.la (List.getElem?_eq_some_iff.mpr ⟨hi', e'⟩))
      exact kl _ h3 q
    · by_cases h2 : p.1 ∈ c.ex
      · unfold Kx.ex at h2
        split at h2
        · rename_i m hm
          obtain ⟨oC, h3, _⟩ := R₂.cp m hm
          exact n3 _ h3 ((List.mem_singleton.mp h2).symm.trans q)
        · cases h2
      · exact kl _ (K12.ls p hp h1 h2).1 q
  exact hk I c h₄ tk₄ G₄ oI R₄ z1 z2 n2 ⟨a, pre_get K₄.la (pre_get K₃.la ha), hoI⟩ _ _ fun h₅ tk₅ G₅ u σ' hl R₅ K₅ hv => post h₅ tk₅ G₅ u σ' hl R₅ (Kp.fresh kG kLG ((kk.wk fun z hz => .tail _ hz).trans K₅)) hv
theorem eh_iter {f e : PySem.Expr} {y : Str} {p p' cp : Pos} {n i j : Nat} (hf : Ev κ σ f (.ok (.val (.builtin "iter")) σ)) (he : Ev κ σ e (.ok (.val (.ref I)) σ)) (hx : κ.fi.tb[n]? = some y) (hk : EsH κ ⟨σ.v.set n (.val (.ref I)), σ.l, σ.o⟩ I (.li i j) ss v ls)
    (hs : ∀ env, swapsWith (.Call f [e] [] cp) (some (.Name y p')) p.line env = pure false := by intro _; rfl)
    (hc : ∀ env, eval (.Call f [e] [] cp) env = (do callWith cp (← eval f env) [] (backTo cp (starEach [e] env)) (backToKw cp (keywordEach [] env))) := by intro _; rfl)
    (hst : ∀ env, starEach [e] env = (false, eval e env) :: starEach [] env := by intro _; rfl) : EsH κ σ I (.li i j) (.Assign [.Name y p'] (.Call f [e] [] cp) p :: ss) v ls := by
  intro c h tk G o R hm hI hex ho Q E post
  refine wpAny_execs_cons (wpAny_Assign_Name (Call_ (hf c h tk G R _ _ fun h₁ tk₁ G₁ u₁ R₁ K₁ V₁ => ?_) (hc _)) (hs _))
  have V₁ : u₁ = .builtin "iter" := V₁
  subst V₁
  refine PyProof.Rows.callWith_builtin1 ((el_cons he el_nil (fun env => hst env)) cp c h₁ tk₁ G₁ R₁ _ _ fun h₂ tk₂ G₂ us R₂ K₂ V₂ => ?_) (hst _) rfl
  obtain _ | ⟨hu, V₂⟩ := V₂
  cases V₂
  have hu : _ = Value.ref I := hu
  subst hu
  obtain ⟨z1, z2⟩ := (K₁.trans K₂).ob (I, o) hm hI hex
  obtain ⟨a, ha, hLI⟩ := ho
  obtain ⟨g, U⟩ := AtO.ofMem z1
  refine r_iterI R₂.st U hLI ?_
  refine rep_store (v := .val (.ref I)) R₂ hx rfl fun h₄ tk₄ G₄ R₄ K₄ => ?_
  obtain ⟨z3, z4⟩ := K₄.ob (I, o) z1 z2 hex
  have kk := (K₁.trans K₂).trans K₄
  exact hk c h₄ tk₄ G₄ o R₄ z3 z4 hex ⟨a, pre_get kk.la ha, hLI⟩ _ _ (post.move (kk.wk fun z hz => .tail _ hz))
theorem eh_for {tgt e : PySem.Expr} {body : List Stmt} {p : Pos} {i j : Nat} (he : Ev κ σ e (.ok (.val (.ref I)) σ)) (hl : Fl κ σ tgt (.li i j) body (.ok .next σ₂)) (hk : EsR κ σ₂ ss v ls) (hs : ∀ env x, foldedSetIterable e env x = pure x := by intro _ _; rfl) : EsH κ σ I (.li i j) (.For tgt e body [] p :: ss) v ls := by
  intro c h tk G o R hm hI hex ho Q E post
  refine wpAny_execs_cons (wpAny_For (he c h tk G R _ _ fun h₁ tk₁ G₁ u₁ R₁ K₁ V₁ => ?_) (hs _))
  have V₁ : u₁ = Value.ref I := V₁
  subst V₁
  obtain ⟨z1, z2⟩ := K₁.ob (I, o) hm hI hex
  have ho₁ := ho.mono K₁.la K₁.oa K₁.nw
  refine again_it (it := .li i j) R₁ z1 ho₁ ?_ (.inl ⟨i, j, rfl⟩)
  refine hl c h₁ tk₁ G₁ I o R₁ z1 z2 hex ho₁ _ fun h₂ tk₂ G₂ u R₂ K₂ V₂ => ?_
  have V₂ : u = .next := V₂
  subst V₂
  exact hk c h₂ tk₂ G₂ R₂ _ _ ((post.move ((K₁.wk fun z hz => .tail _ hz).trans K₂)).wk fun z hz => .tail _ hz)
theorem ex_try {b : List Stmt} {h₀ : ExceptHandler} {hs : List ExceptHandler} {el : List Stmt} {p : Pos} {f : AF} (hb : Es κ σ b (.ok .next σ₁)) (he : Es κ σ₁ el (.ok f σ₂)) : Ex κ σ (.Try b (h₀ :: hs) el [] p) (.ok f σ₂) := fun c h tk G R Q E post => wpAny_Try_except (hb c h tk G R _ _ fun h₁ tk₁ G₁ u R₁ K₁ V₁ => by
  have V₁ : u = .next := V₁
  subst V₁
  exact he c h₁ tk₁ G₁ R₁ _ _ fun h₂ tk₂ G₂ u₂ R₂ K₂ V₂ => post h₂ tk₂ G₂ u₂ R₂ (K₁.trans K₂) V₂)
end
end Mine
end
section
namespace Mine
theorem lookup_li_len : typeLookup (.type "list_iterator") "__len__" = pure none := by rw [typeLookup_type, builtinLookup_eq_fast]; kernel_rfl
theorem e_lenIt {prog : Program} {w : World} {A : Around} {E : Value → Shared → Prop} {s : Shared} {I : Addr} {o : Obj} {Q : Value → Shared → Prop} (hA : A.handled = none) (ho : s.heap.get? I = some o) (hc : o.cls = .type "list_iterator")
    (hE : ∀ h' tk e, Heap.NewExc s.heap h' e "TypeError" → E (.ref e) { s with heap := h', toks := tk }) : wpAny (model prog w) A (call (.builtin "len") [.ref I]) Q E s := by
  have hT : s.TypeIs (.ref I) "list_iterator" := ⟨o, ho, hc⟩
  refine Calls.call_function_entry (id := "len") (b := Builtin.«len») (by decide +kernel) (by decide +kernel) (entryFor_of_tree (by kernel_rfl)) (by unfold argsOk; kernel_rfl) ?_
  unfold Builtin.«len»
  refine wpAny_bind (m := oneArg "len" _) (wpAny_pure ?_)
  refine wpAny_bind (m := callSpecial? (.ref I) (Str.ofString "__len__")) (wpAny_callSpecial?_none hT lookup_li_len ?_)
  refine wpAny_bind (wpAny_rule (wpAny_bind (wpAny_typeNameOf' hT (by decide) ?_)))
  first
    | exact (by exact_raiseError plainExc_TypeError hA hE)
    | exact wpAny_bind (by exact_raiseError plainExc_TypeError hA hE)
theorem flying_push {base h : Heap} {l : List Env} {e : Addr} {cls a0 : Value} (x : Heap.FlyingW base l e cls a0 h) (o : Obj) : Heap.FlyingW base l e cls a0 (h.push o) := by
  obtain ⟨f1, f2, f3, oe, vs, T, oT, ts, a1, a2, a3, a4, a5, a6, a7, a8, a9⟩ := x
  exact ⟨fun b o q => Heap.get?_push_of_some _ (f1 b o q), f2, f3.of_keeps fun b o hb _ => ⟨o, Heap.get?_push_of_some _ hb, rfl⟩, oe, vs, T, oT, ts, Heap.get?_push_of_some _ a1, a2, a3, a4, a5, a6, Heap.get?_push_of_some _ a7, a8, a9⟩
theorem sub_TE_BE : isSubtype (.type "TypeError") (.type "BaseException") = pure true := by rw [isSubtype_type]; kernel_rfl
theorem sub_AE_BE : isSubtype (.type "AttributeError") (.type "BaseException") = pure true := by rw [isSubtype_type]; kernel_rfl
theorem meta_TE : isSubtype (.type ((Manifest.find? "TypeError").elim "type" fun x => x.metatype)) (.type "tuple") = pure false := by
  have : ((Manifest.find? "TypeError").elim "type" fun x => x.metatype) = "type" := by kernel_rfl
  rw [this, isSubtype_type]; kernel_rfl
theorem meta_AE : isSubtype (.type ((Manifest.find? "AttributeError").elim "type" fun x => x.metatype)) (.type "tuple") = pure false := by
  have : ((Manifest.find? "AttributeError").elim "type" fun x => x.metatype) = "type" := by kernel_rfl
  rw [this, isSubtype_type]; kernel_rfl
theorem sub_TE_TE : isSubtype (.type "TypeError") (.type "TypeError") = pure true := by rw [isSubtype_type]; kernel_rfl
theorem sub_TE_AE : isSubtype (.type "TypeError") (.type "AttributeError") = pure false := by rw [isSubtype_type]; kernel_rfl
section
variable {κ : K} {c : Kx} {σ σ₁ σ₂ σ₃ : Sg} {h h' : Heap} {tk : Nat} {G G' : Gh} {E : Value → Shared → Prop} {I : Addr} {v : AV} {ls : List LC} {ss : List Stmt}
theorem eh_try {f e : PySem.Expr} {y : Str} {p p' cp lp p1 p2 tp hp pp : Pos} {i j kk : Nat} {el : List Stmt} (ho : κ.fi.own = true) (hh : κ.fi.hd = true) (hf : Ev κ σ f (.ok (.val (.builtin "len")) σ)) (he : Ev κ σ e (.ok (.val (.ref I)) σ))
    (hg1 : Str.ofString "TypeError" ∈ κ.fi.gl) (hg2 : Str.ofString "AttributeError" ∈ κ.fi.gl) (hr1 : Str.ofString "TypeError" ∈ κ.X.free) (hr2 : Str.ofString "AttributeError" ∈ κ.X.free) (hk : EsH κ σ I (.li i j) ss v ls)
    (hs : ∀ env, swapsWith (.Call f [e] [] cp) (some (.Name y p')) lp.line env = pure false := by intro _; rfl)
    (hc : ∀ env, eval (.Call f [e] [] cp) env = (do callWith cp (← eval f env) [] (backTo cp (starEach [e] env)) (backToKw cp (keywordEach [] env))) := by intro _; rfl)
    (hst : ∀ env, starEach [e] env = (false, eval e env) :: starEach [] env := by intro _; rfl) :
    EsH κ σ I (.li i j) (.Try [.Assign [.Name y p'] (.Call f [e] [] cp) lp] [.ExceptHandler (some (.Tuple [.Name (Str.ofString "TypeError") p1, .Name (Str.ofString "AttributeError") p2] kk tp)) none [.Pass pp] hp] el [] p :: ss) v ls := by
  intro c h tk G o R hm hI hex hO Q E post
  obtain ⟨outer, hA, hfr, hout⟩ := R.top ho
  refine wpAny_execs_cons (wpAny_Try_except (wpAny_execs_cons (wpAny_Assign_Name (Call_ (hf c h tk G R _ _ fun h₁ tk₁ G₁ u₁ R₁ K₁ V₁ => ?_) (hc _)) (hs _))))
  have V₁ : u₁ = .builtin "len" := V₁
  subst V₁
  refine PyProof.Rows.callWith_builtin1 ((el_cons he el_nil (fun env => hst env)) cp c h₁ tk₁ G₁ R₁ _ _ fun h₂ tk₂ G₂ us R₂ K₂ V₂ => ?_) (hst _) rfl
  obtain _ | ⟨hu, V₂⟩ := V₂
  cases V₂
  have hu : _ = Value.ref I := hu
  subst hu
  have K12 := K₁.trans K₂
  obtain ⟨z1, z2⟩ := K12.ob (I, o) hm hI hex
  obtain ⟨a, ha, hLI⟩ := hO
  refine e_lenIt (s := mk c.s h₂ tk₂) (R₂.handled hh) (R₂.st.newsO _ z1).1 hLI.1 fun h₃ tk₃ e hx => ?_
  refine note_new hA hfr R₂.en.kind hout R₂.st hx fun h₅ F => ?_
  obtain ⟨fr, hb, a0, hfr', hfl, hst'⟩ := F.move
  have S₅ := hst' h₅ hfl.1 (.refl _)
  obtain ⟨obj, hob, hobc⟩ := hfl.there
  have hkn1 : c.env.kindOf (Str.ofString "TypeError") = some .globalImplicit := R₂.en.glo _ hg1
  have hkn2 : c.env.kindOf (Str.ofString "AttributeError") = some .globalImplicit := R₂.en.glo _ hg2
  have hv1 : c.mb (Str.ofString "TypeError") = some (.type "TypeError") := (R₂.gd.blt (Str.ofString "TypeError") (by decide +kernel)).trans rfl
  have hv2 : c.mb (Str.ofString "AttributeError") = some (.type "AttributeError") := (R₂.gd.blt (Str.ofString "AttributeError") (by decide +kernel)).trans rfl
  have hgg := R₂.gd.g.keeps S₅.fr.keep
  have hbb := R₂.gd.b.keeps S₅.fr.keep
  refine wpAny_handleBy_tup2 (T1 := "TypeError") (T2 := "AttributeError") (X := "TypeError") sub_TE_BE meta_TE sub_AE_BE meta_AE sub_TE_TE sub_TE_AE ?_
  refine PyProof.Rows.Tuple_ (args_cons (Calls.Name_function_global R₂.en.kind hkn1 (Calls.loadGlobal_builtin (s := mk c.s h₅ tk₃) (by rw [R₂.en.gb]; exact hgg) (R₂.gd.free _ hr1) (by rw [R₂.en.bb]; exact hbb) hv1 ?_) (by decide)) (by rfl))
  refine args_cons (Calls.Name_function_global R₂.en.kind hkn2 (Calls.loadGlobal_builtin (s := mk c.s h₅ tk₃) (by rw [R₂.en.gb]; exact hgg) (R₂.gd.free _ hr2) (by rw [R₂.en.bb]; exact hbb) hv2 ?_) (by decide)) (by rfl)
  refine args_nil ?_
  refine wpAny_newObj_type (s := mk c.s h₅ tk₃) ⟨_, rfl, IsTup.new _ _, ⟨obj, Heap.get?_push_of_some _ hob, hobc⟩, ?_⟩
  rw [if_pos (show (true || false) = true from rfl)]
  refine lands_againW (s := mk c.s (h₅.push _) tk₃) (flying_push hfl _) fun h₆ hfl₆ hsm₆ => ?_
  have S₆ := hst' h₆ hfl₆.1 ((Heap.UpToSlots.of_keeps fun _ _ e => Heap.get?_push_of_some _ e).trans hsm₆)
  refine wpAny_execs_cons (wpAny_Pass (wpAny_execs_nil ?_))
  have R₆ := R₂.same S₆
  exact hk c h₆ tk₃ G₂ o R₆ z1 z2 hex ⟨a, pre_get K12.la ha, hLI⟩ _ _ (post.move (K12.wk fun z hz => .tail _ hz))
end
end Mine
end
section
namespace Mine
theorem St.sub {B : Base} {L : Addr} {h : Heap} {m : Str → Option Value} {ls ls' : List Ent} {ob ob' nw : Led} (S : St B L h m ls' ob' nw) (h1 : ∀ e ∈ ls, e ∈ ls') (h2 : ∀ p ∈ ob, p ∈ ob') (hn : (adr ls ob B).Nodup) : St B L h m ls ob nw := by
  obtain ⟨rs, fs, hr, hf, N⟩ := S.led
  have key : ∀ ls : List Ent, (∀ e ∈ ls, e ∈ ls') → ∃ rs', Raw nw rs' ls ∧ ∀ r ∈ rs', r ∈ rs := by
    intro ls
    induction ls with
    | nil => exact fun _ => ⟨[], .nil, fun _ h => nomatch h⟩
    | cons e ls ih =>
      intro hs
      obtain ⟨rs', a1, a2⟩ := ih fun e he => hs e (.tail _ he)
      obtain ⟨i, hi, ee⟩ := List.getElem_of_mem (hs e (.head _))
      obtain ⟨r, er, rr⟩ := All2.get hr (List.getElem?_eq_some_iff.mpr ⟨hi, ee⟩)
      refine ⟨r :: rs', .cons rr a1, fun x hx => ?_⟩
      rcases List.mem_cons.mp hx with rfl | hx
      · exact List.mem_of_getElem? er
      · exact a2 x hx
  obtain ⟨rs', a1, a2⟩ := key ls h1
  refine ⟨S.fr, ⟨rs', fs, a1, hf, fun p hp => N p ?_⟩, hn, fun a ha p hp => S.apart.2 a ?_ p hp⟩
  · rcases List.mem_append.mp hp with hp | hp
    · exact List.mem_append_left _ (a2 p hp)
    · rcases List.mem_append.mp hp with hp | hp
      · exact List.mem_append_right _ (List.mem_append_left _ (h2 p hp))
      · exact List.mem_append_right _ (List.mem_append_right _ hp)
  · unfold adr at ha ⊢
    rcases List.mem_append.mp ha with ha | ha
    · obtain ⟨e, he, rfl⟩ := List.mem_map.mp ha
      exact List.mem_append_left _ (List.mem_map_of_mem (f := (·.1)) (h1 e he))
    · rcases List.mem_append.mp ha with ha | ha
      · obtain ⟨e, he, rfl⟩ := List.mem_map.mp ha
        exact List.mem_append_right _ (List.mem_append_left _ (List.mem_map_of_mem (f := (·.1)) (h2 e he)))
      · exact List.mem_append_right _ (List.mem_append_right _ ha)
noncomputable abbrev fl : Fi := ⟨[Str.ofString "pair"], [], [], true, true⟩
structure LamOk (X : Pg) (k : Nat) (ps : Arguments) (b : PySem.Expr) (sc : Scope) (d : D) (z : Int) : Prop where
  kind : sc.kind = .function
  co : sc.isCoroutine = false
  gen : sc.isGenerator = false
  cell : ∀ x ∈ sc.names, x.2 ≠ .cell
  loc : sc.names.lookup (Str.ofString "pair") = some .local
  bind : ∀ name qual pm code ctv u, bindArgs (kla_fn name qual ps b sc [] pm code ctv) ⟨[u], []⟩ = pure [(Str.ofString "pair", u)]
  ev : Ev ⟨X, fl, k⟩ ⟨[.el .p d], [], []⟩ b (.ok (.int z) ⟨[.el .p d], [], []⟩)
theorem r_lam {X : Pg} {mg mb : Str → Option Value} {prog : Program} {w : World} {A : Around} {E : Value → Shared → Prop} {s : Shared} {h : Heap} {tk : Nat} {B : Base} {L a : Addr} {m : Str → Option Value} {ls : List Ent} {ob nw : Led} {k : Nat} {ps : Arguments} {b : PySem.Expr} {sc : Scope} {u : Value} {d : D} {z : Int} {Q : Value → Shared → Prop}
    (C : Cx X mg mb A B L (k + 1)) (S : St B L h m ls ob nw) (hl : LamAt nw ps b sc a) (hu : RelIn nw .p u d) (O : LamOk X k ps b sc d z) (q : ∀ h' tk' nw' t, (∀ p ∈ nw, p ∈ nw') → St B L h' m ls ob nw' → Q (.int z t) (mk s h' tk')) : wpAny (model prog w) A (call (.ref a) [u]) Q E (mk s h tk) := by
  obtain ⟨env, outer, hA, hf, hke, hout⟩ := C.below
  obtain ⟨c', oc, vs, tq, name, qual, pm, ctv, l1, l2, l3, l4⟩ := hl
  obtain ⟨rs, fs, hr, hfu, N⟩ := S.led
  obtain ⟨oL, es, ep, hgL, hdL, hskL, hmL⟩ := S.fr.ns
  have hd := C.depth
  have hun := C.units
  have hLlt : L < h.objs.size := Heap.lt_size hgL
  refine wpAny_call (kla_callFunE (s := mk s h tk) (body := b) (by show _ < 1000; lia) (S.gets _ l1) rfl O.co O.gen rfl ⟨c', oc, vs, tq, rfl, S.gets _ l2, l3, l4⟩ (wpAny_of_eq (O.bind name qual pm (.ref c') ctv u) ?_))
  refine wpAny_newFunctionEnv (s := mk s h tk) O.cell (fun x hx => by rw [List.mem_singleton.mp hx]; exact O.loc) (fun h₁ hns hsb => ?_) O.kind
  have hns' : h₁.Ns h.objs.size (fun y => [(Str.ofString "pair", u)].reverse.lookup y) := hns
  have hk₁' : ∀ b o, h.get? b = some o → h₁.get? b = some o := fun b o e => Heap.SameBut.extBut hsb b o (Nat.ne_of_lt (Heap.lt_size e)) (Heap.get?_push_of_some _ e)
  obtain ⟨env', henv⟩ : ∃ env', env' = newEnv sc h.objs.size mainGlobals [] (qual ++ ".<locals>.") (some a) (.ref c') none builtinsNs := ⟨_, rfl⟩
  refine ⟨(C.gd.nolimit.keeps S.fr.keep).keeps hk₁', ?_⟩
  show codeAny (model prog w) A (.expr b (newEnv sc h.objs.size mainGlobals [] (qual ++ ".<locals>.") (some a) (.ref c') none builtinsNs)) _ (mk s h₁ (tk + 1))
  rw [← henv]
  refine kla_codeExpr ?_
  have C' : Cx X mg mb (A.deeper env') ⟨B.hB, (L, oL) :: B.frs⟩ h.objs.size k :=
    ⟨C.gd, ⟨_, env :: outer, by show Option.map _ A.frames = _; rw [hA]; rfl, by rw [henv]; rfl, by rw [henv]; exact O.kind, .cons ⟨by rw [hke]; decide, hf, es, ep, hdL⟩ hout⟩, by show A.depth + 1 + k < 900; lia, by show A.units + 3 + 3 * k < 9000; lia, C.handled⟩
  have hp1 : (adr ls ob ⟨B.hB, (L, oL) :: B.frs⟩).Perm (L :: adr ls ob B) := by
    unfold adr
    exact (List.Perm.append_left _ List.perm_middle).trans List.perm_middle
  have S' : St ⟨B.hB, (L, oL) :: B.frs⟩ h.objs.size h₁ (fun y => [(Str.ofString "pair", u)].reverse.lookup y) ls ob nw := by
    refine ⟨⟨hns', fun b o e => hk₁' b o (S.fr.keep b o e), Nat.le_trans S.fr.above (Nat.le_of_lt hLlt)⟩, ⟨rs, (L, oL) :: fs, hr, .cons ⟨rfl, oL.slots, rfl⟩ hfu, fun p hp => ?_⟩, ?_, ?_⟩
    · by_cases hpL : p = (L, oL)
      · subst hpL
        exact ⟨hk₁' _ _ hgL, Nat.ne_of_lt hLlt, Heap.get?_none_of_le S.fr.above⟩
      · have hp' : p ∈ rs ++ (ob ++ (fs ++ nw)) := by
          rcases List.mem_append.mp hp with hp | hp
          · exact List.mem_append_left _ hp
          · rcases List.mem_append.mp hp with hp | hp
            · exact List.mem_append_right _ (List.mem_append_left _ hp)
            · rcases List.mem_cons.mp hp with hp | hp
              · exact absurd hp hpL
              · exact List.mem_append_right _ (List.mem_append_right _ hp)
        exact ⟨hk₁' _ _ (N p hp').1, Nat.ne_of_lt (Heap.lt_size (N p hp').1), (N p hp').2.2⟩
    · exact hp1.nodup_iff.mpr (List.nodup_cons.mpr ⟨fun q => (S.low.1 L q).2 rfl, S.apart.1⟩)
    · intro b hb p hp
      rcases List.mem_cons.mp (hp1.mem_iff.mp hb) with rfl | hb
      · exact (S.news p hp).2.1
      · exact S.apart.2 b hb p hp
  obtain ⟨c, hc⟩ : ∃ c : Kx, c = ⟨prog, w, A.deeper env', s, ⟨B.hB, (L, oL) :: B.frs⟩, h.objs.size, env', mg, mb, none⟩ := ⟨_, rfl⟩
  have R : Rep ⟨X, fl, k⟩ c ⟨[.el .p d], [], []⟩ h₁ ⟨fun y => [(Str.ofString "pair", u)].reverse.lookup y, ls, ob, nw, [], []⟩ := by
    subst hc
    refine { gd := C'.gd, below := C'.below, depth := C'.depth, units := C'.units, handled := fun _ => C'.handled, en := ⟨by rw [henv]; exact O.kind, fun x hx => ?_, (fun p hp => nomatch hp), (fun x hx => nomatch hx), by rw [henv]; rfl, by rw [henv]; rfl, fun x hx => ?_, ?_⟩, st := S', lr := ⟨.nil, .nil, .nil, .nil⟩, vr := ?_, nd := (by show [Str.ofString "pair"].Nodup; decide +kernel), ce := (fun p hp => nomatch hp), fn := fun _ => by rw [henv]; rfl, own := fun _ => rfl, top := fun _ => top_of C'.below, cp := fun m hm => nomatch hm }
    · rw [List.mem_singleton.mp hx, henv]; exact O.loc
    · rcases hx with hx | hx | hx
      · rw [List.mem_singleton.mp hx]; decide
      · cases hx
      · cases hx
    · rw [henv]
      show (sc.kind == .module && _) = false
      rw [O.kind]; rfl
    · intro i x v hx hv
      match i with
      | 0 =>
        cases hx; cases hv
        exact .inr ⟨u, rfl, hu⟩
      | i + 1 => cases hx
  have key := O.ev c h₁ (tk + 1) _ R (fun v s' => Back s B L m ⟨B.hB, (L, oL) :: B.frs⟩ h.objs.size Q v s') (fun _ _ => False)
  subst hc
  refine wpAny_mono (key fun h' tk' G' v R' K' V' => ?_) (fun v s' hb => ?_) fun _ _ x => x.elim
  · obtain ⟨t, rfl⟩ := V'
    have S₂ : St ⟨B.hB, (L, oL) :: B.frs⟩ h.objs.size h' G'.m ls ob G'.nw := R'.st.sub (fun e he => (K'.ls e he (List.not_mem_nil) (List.not_mem_nil)).1) (fun p hp => (K'.ob p hp (List.not_mem_nil) (List.not_mem_nil)).1) S'.apart.1
    exact Back.intro S₂ fun S₃ => q h' tk' G'.nw t K'.nw S₃
  · obtain ⟨h', tk', m', ls', ob', nw', rfl, S3, hq⟩ := hb
    exact hq (S3.back hdL hskL hmL S.fr.above)
end Mine
end
section
namespace Mine
theorem Cx.in1 {X : Pg} {mg mb : Str → Option Value} {A : Around} {B : Base} {L : Addr} {k : Nat} (C : Cx X mg mb A B L (k + 1)) : Cx X mg mb A.in1 B L k :=
  ⟨C.gd, C.below, Nat.lt_of_le_of_lt (Nat.le_refl _) (Nat.lt_of_succ_lt C.depth), by have := C.units; show A.units + 1 + 3 * k < 9000; lia, C.handled⟩
section
variable {κ : K} {c : Kx} {σ σ₁ σ₂ σ₃ : Sg} {h h' : Heap} {tk : Nat} {G G' : Gh} {E : Value → Shared → Prop}
theorem Rep.same' {nw' : Led} (R : Rep κ c σ h G) (hs : ∀ p ∈ G.nw, p ∈ nw') (S : St c.B c.L h' (c.lm G) G.ls G.ob nw') : Rep κ c σ h' { G with nw := nw' } ∧ Kp [] G { G with nw := nw' } := by
  have kp : Kp [] G { G with nw := nw' } := ⟨List.prefix_refl _, List.prefix_refl _, hs, fun _ h h' _ => ⟨h, h'⟩, fun _ h h' _ => ⟨h, h'⟩⟩
  exact ⟨R.re (la' := G.la) (oa' := G.oa) S kp ⟨R.lr.l, R.lr.o.mono fun _ _ ⟨b, h1, h2⟩ => ⟨b, h1, h2.mono kp.la kp.oa kp.nw⟩, R.lr.ln, R.lr.on⟩, kp⟩
theorem ev_callLam {f e : PySem.Expr} {p : Pos} {ps : Arguments} {b : PySem.Expr} {sc : Scope} {d : D} {z : Int} {k : Nat} (hf : Ev κ σ f (.ok (.lam ps b sc) σ₁)) (ha : El κ σ₁ [e] (.ok [.el .p d] σ₂)) (hO : LamOk κ.X k ps b sc d z) (hq : k + 1 ≤ κ.q) (hhd : κ.fi.hd = true)
    (hc : ∀ env, eval (.Call f [e] [] p) env = (do callWith p (← eval f env) [] (backTo p (starEach [e] env)) (backToKw p (keywordEach [] env))) := by intro _; rfl)
    (he : ∀ env, starEach [e] env = (false, eval e env) :: starEach [] env := by intro _; rfl) : Ev κ σ (.Call f [e] [] p) (.ok (.int z) σ₂) :=
  fun c _ _ _ R _ _ post => Call_ (hf.seq R post fun h₁ tk₁ G₁ u₁ R₁ _ V₁ post₁ => by
    obtain ⟨a, rfl, hl⟩ := V₁
    have fnAt : ∀ {nw : Led} {h : Heap}, LamAt nw ps b sc a → (∀ p ∈ nw, h.get? p.1 = some p.2) → FnAt a h := fun h hn => by obtain ⟨_, _, _, _, _, _, _, _, l1, _⟩ := h; exact ⟨_, _, _, _, hn _ l1⟩
    refine callWith_F (fnAt hl R₁.st.gets) ((ha p).seq R₁ post₁ fun h₂ tk₂ G₂ us R₂ K₂ V₂ post₂ => ?_) (he _)
    have hl₂ := hl.mono K₂.nw
    refine ⟨fnAt hl₂ R₂.st.gets, ?_⟩
    obtain _ | ⟨hu, V₂⟩ := V₂
    cases V₂
    refine r_lam ((R₂.cx hhd).le hq) R₂.st hl₂ hu hO fun h₃ tk₃ nw' t hnw S₃ => ?_
    obtain ⟨R₃, K₃⟩ := R₂.same' hnw S₃
    exact post₂ h₃ tk₃ _ _ R₃ K₃.any ⟨t, rfl⟩) (hc _)
theorem o_isLam {ps : Arguments} {b : PySem.Expr} {sc : Scope} : O2 κ σ (compareOp .Is) (.lam ps b sc) .none (.ok (.bool false) σ) := .of fun _ _ _ _ R _ _ ⟨a, h1, _⟩ h2 _ _ post => by
  have h2 : _ = Value.none := h2
  subst h1 h2
  exact PyProof.Rows.is_ref_none (post.here R rfl)
end
end Mine
end
section
namespace Mine
section
variable {prog : Program} {w : World} {A : Around} {E : Value → Shared → Prop} {s : Shared} {h : Heap} {tk : Nat} {h₀ : Base} {L : Addr} {m : Str → Option Value} {ls : List Ent} {ob ob' nw : Led} {k : Kd} {ds : List D} {g : List D → List Ent}
theorem St.permO (S : St h₀ L h m ls ob nw) (hp : ob.Perm ob') : St h₀ L h m ls ob' nw := by
  obtain ⟨rs, fs, hr, hf, N⟩ := S.led
  have hpa : (adr ls ob h₀).Perm (adr ls ob' h₀) := List.Perm.append_left _ (List.Perm.append_right _ (hp.map _))
  refine ⟨S.fr, ⟨rs, fs, hr, hf, fun p hp' => N p ?_⟩, hpa.nodup_iff.mp S.apart.1, fun a ha => S.apart.2 a (hpa.mem_iff.mpr ha)⟩
  rcases List.mem_append.mp hp' with h | h
  · exact List.mem_append_left _ h
  · rcases List.mem_append.mp h with h | h
    · exact List.mem_append_right _ (List.mem_append_left _ (hp.mem_iff.mpr h))
    · exact List.mem_append_right _ (List.mem_append_right _ h)
theorem nextOf_dead {it l : Addr} {i : Nat} {items : Array Value} {s : Shared} {Q : Value → Shared → Prop} (hh : A.handled = none) (hit : s.heap.IsListIter it l i) (hl : s.heap.IsList l items) (hx : items[i]? = none)
    (hE : ∀ h' e o', h'.get? it = some o' → o'.cls = .type "list_iterator" → o'.data = .fields #[.none, .int i 0] → Heap.ExtBut it s.heap h' → s.heap.objs.size ≤ e → (∃ o, h'.get? e = some o ∧ o.cls = .type "StopIteration") → E (.ref e) { s with heap := h' }) :
    wpAny (model prog w) A (Builtin.SmallTypes.nextOf (.ref it)) Q E s := by
  obtain ⟨o, ho, hc, hd⟩ := id hit
  obtain ⟨ol, hol, _, nl, hdl⟩ := hl
  unfold Builtin.SmallTypes.nextOf
  refine wpAny_bind (wpAny_callSpecial?_slot (name := Str.ofString "__next__") hit.typeIs slot_listiter_next (wpAny_call_entry slot_listiter_next hit.typeIs entry_listiter_next ?_ (args_listiter_next _)))
  show wpAny _ _ (field (.ref it) 0 >>= _) _ _ s
  refine wpAny_bind (wpAny_field ho hd (x := .ref l) rfl ?_)
  show wpAny _ _ (if (Value.ref l == Value.none) = true then _ else _) _ _ s
  rw [if_neg (show ¬ ((Value.ref l == Value.none) = true) from Bool.false_ne_true)]
  show wpAny _ _ (field (.ref it) 1 >>= _) _ _ s
  refine wpAny_bind (wpAny_field ho hd (x := .int i 0) rfl ?_)
  show wpAny _ _ (seqItems? (.ref l) >>= _) _ _ s
  refine wpAny_bind (wpAny_seqItems hol hdl ?_)
  simp only [Int.toNat_natCast, hx]
  refine wpAny_bind (wpAny_rule (wpAny_bind (wpAny_setField ho hd (by simp) ?_)))
  show wpAny _ _ (newExc (.type "StopIteration") [] >>= _) _ _ _
  refine wpAny_bind ?_
  simp only [newExc, newTuple]
  refine wpAny_bind (wpAny_newObj_type ?_ (by size_fits))
  refine wpAny_bind (m := firstArgMember _ _) (wpAny_of_eq (a := Value.none) (by first | rfl | (simp only [firstArgMember]; rfl)) ?_)
  refine wpAny_newObj_type ?_ (by size_fits)
  simp only [raiseNew]
  refine wpAny_bind (wpAny_handled ?_)
  first | rw [show A.in1.handled = none from hh] | rw [hh]
  refine wpAny_bind (wpAny_pure (wpAny_throw ?_))
  have hsz : ∀ (f : Obj → Obj), (s.heap.update it f).objs.size = s.heap.objs.size := fun f => Heap.size_update ..
  refine hE _ _ _ (Heap.get?_push_of_some _ (Heap.get?_push_of_some _ (Heap.get?_update_self _ ho (Obj.isFreed_of_fields (Obj.data_mapFields hd _))))) ((Obj.cls_mapFields ..).trans hc) (by rw [Obj.data_mapFields hd]; simp) (((Heap.SameBut.update ..).extBut.push _).push _) ?_ ⟨_, Heap.get?_push_size _ rfl, rfl⟩
  rw [Heap.size_push, hsz]; exact Nat.le_succ _
theorem zip_stop2 {z TI TO i1 I l : Addr} {C : Addr} {oC oI : Obj} {a b : Value} {x left step : Int} {j : Nat} {Q : Option Value → Shared → Prop} (hh : A.handled = none)
    (S : St h₀ L h m ls ((C, oC) :: (z, zo TI TO .none) :: (TO, po a b) :: (i1, riObj x left step) :: (I, oI) :: ob) nw) (hTI : (TI, po (.ref i1) (.ref I)) ∈ nw) (hoI : IsLI oI l j) (U : At l k ds ls g) (hd : ds[j]? = none) (hleft : 0 < left)
    (q : ∀ h₁ tk₁ a' oI', oI'.cls = .type "list_iterator" → oI'.data = .fields #[.none, .int j 0] → St h₀ L h₁ m ls ((C, oC) :: (z, zo TI TO .none) :: (TO, po a' b) :: (i1, riObj (x + step) (left - 1) step) :: (I, oI') :: ob) nw → Q none (mk s h₁ tk₁)) :
    wpAny (model prog w) A (pyNext (.ref z)) Q E (mk s h tk) := by
  have hz : IsZip h z TI TO .none := S.getO (.tail .head)
  have hT : (mk s h tk).TypeIs (.ref z) "zip" := ⟨_, hz, rfl⟩
  have hti : h.get? TI = some (po (.ref i1) (.ref I)) := S.gets _ hTI
  unfold pyNext
  refine wpAny_bind (wpAny_attempt (wpAny_callSpecial?_slot (name := Str.ofString "__next__") hT F.slot_zip_next
    (wpAny_call_entry F.slot_zip_next hT F.entry_zip_next ?_ (F.args_zip_next_1 _))))
  show wpAny _ _ (field (.ref z) 2 >>= _) _ _ _
  refine wpAny_bind (wpAny_field hz rfl (x := .bool false) rfl ?_)
  show wpAny _ _ (field (.ref z) 3 >>= _) _ _ _
  refine wpAny_bind (wpAny_field hz rfl (x := .ref TI) rfl ?_)
  refine wpAny_bind (wpAny_seqItems hti rfl ?_)
  show wpAny _ _ (Builtin.SmallTypes.ownedTupleIsFree (.ref z) >>= _) _ _ _
  refine wpAny_bind ?_
  unfold Builtin.SmallTypes.ownedTupleIsFree
  refine wpAny_bind (wpAny_field hz rfl (x := .none) rfl (wpAny_pure ?_))
  simp only [if_true]
  refine wpAny_bind (wpAny_rule ?_)
  refine wpAny_bind (wpAny_field hz rfl (x := .ref TO) rfl ?_)
  refine wpAny_bind (wpAny_setField_rec hz (by simp) fun h₁ hz₁ hs₁ => ?_)
  have S1 : St h₀ L h₁ m ls ((C, oC) :: (z, zo TI TO .ellipsis) :: (TO, po a b) :: (i1, riObj x left step) :: (I, oI) :: ob) nw := S.turned (.tail .head) hs₁ hz₁
  refine wpAny_bind ?_
  simp only [List.zipIdx_cons, List.zipIdx_nil, List.forIn_cons, List.forIn_nil]
  refine wpAny_bind (wpAny_bind (wpAny_onRaise ?_))
  show wpAny _ _ (Builtin.SmallTypes.nextOf (.ref i1) >>= _) _ _ _
  refine wpAny_bind (nextOf_range_item (s := mk s h₁ tk) (S1.getO (.tail (.tail (.tail .head)))) hleft fun h₂ hi₂ hs₂ => wpAny_pure ?_)
  have S2 : St h₀ L h₂ m ls ((C, oC) :: (z, zo TI TO .ellipsis) :: (TO, po a b) :: (i1, riObj (x + step) (left - 1) step) :: (I, oI) :: ob) nw := S1.turned (.tail (.tail (.tail .head))) hs₂ hi₂
  have hTO₂ : IsPair h₂ TO a b := S2.getO (.tail (.tail .head))
  refine wpAny_bind (wpAny_seqItems hTO₂ rfl ?_)
  refine wpAny_bind (wpAny_updateSeq_pair (s := mk s h₂ (tk + 1)) hTO₂ fun h₃ hTO₃ hs₃ => ?_)
  have S3 : St h₀ L h₃ m ls ((C, oC) :: (z, zo TI TO .ellipsis) :: (TO, po (.int x tk) b) :: (i1, riObj (x + step) (left - 1) step) :: (I, oI) :: ob) nw := S2.turned (.tail (.tail .head)) hs₃ hTO₃
  refine wpAny_bind (wpAny_letGo (wpAny_pure ?_))
  refine wpAny_bind (wpAny_bind (wpAny_onRaise ?_))
  show wpAny _ _ (Builtin.SmallTypes.nextOf (.ref I) >>= _) _ _ _
  obtain ⟨vs, n, hl, hr⟩ := S3.isList U
  have hlen := hr.len
  have hxx : (vs.toArray)[j]? = none := by have := List.getElem?_eq_none_iff.mp hd; simp; lia
  refine wpAny_bind (nextOf_dead (s := mk s h₃ (tk + 1)) hh ⟨oI, S3.getO (.tail (.tail (.tail (.tail .head)))), hoI.1, hoI.2⟩ (PySem.IsL.isList (n := n) hl) hxx fun h₄ e oI' g1 g2 g3 hex he hoe => ?_)
  obtain ⟨oe, hoe, hce⟩ := hoe
  have hI : (I, oI) ∈ ((C, oC) :: (z, zo TI TO .ellipsis) :: (TO, po (.int x tk) b) :: (i1, riObj (x + step) (left - 1) step) :: (I, oI) :: ob) := .tail _ (.tail _ (.tail _ (.tail _ (.head _))))
  have S4 : St h₀ L h₄ m ls ((C, oC) :: (z, zo TI TO .ellipsis) :: (TO, po (.int x tk) b) :: (i1, riObj (x + step) (left - 1) step) :: (I, oI') :: ob) nw := by
    have S4' := S3.rm hI hex
    have hz3 := S3.newsO _ hI
    have hnd := S3.apart
    have hadr : I ∉ adr ls (Led.rm I ((C, oC) :: (z, zo TI TO .ellipsis) :: (TO, po (.int x tk) b) :: (i1, riObj (x + step) (left - 1) step) :: (I, oI) :: ob)) h₀ := fun q => by
      unfold adr at q
      have hn1 := List.nodup_append.mp hnd.1
      have hn2 := List.nodup_append.mp hn1.2.1
      rcases List.mem_append.mp q with q | q
      · exact hn1.2.2 I q I (List.mem_append_left _ (List.mem_map_of_mem (f := (·.1)) hI)) rfl
      · rcases List.mem_append.mp q with q | q
        · obtain ⟨p, hp, e⟩ := List.mem_map.mp q
          have := (List.mem_filter.mp hp).2
          simp [e] at this
        · exact hn2.2.2 I (List.mem_map_of_mem (f := (·.1)) hI) I q rfl
    have S5 := S4'.putO g1 hz3.2.1 hz3.2.2 hadr (fun p hp => hnd.2 I (List.mem_append_right _ (List.mem_append_left _ (List.mem_map_of_mem (f := (·.1)) hI))) p hp)
    refine S5.sub (fun e h => h) (fun p hp => ?_) ?_
    · by_cases hpI : p.1 = I
      · have hm : (p : Addr × Obj) = (I, oI') := by
          have hn2 := (List.nodup_append.mp (List.nodup_append.mp hnd.1).2.1).1
          simp only [List.map_cons, List.nodup_cons, List.mem_cons, not_or] at hn2
          rcases List.mem_cons.mp hp with rfl | hp
          · exact absurd hpI hn2.1.2.2.2.1
          · rcases List.mem_cons.mp hp with rfl | hp
            · exact absurd hpI hn2.2.1.2.2.1
            · rcases List.mem_cons.mp hp with rfl | hp
              · exact absurd hpI hn2.2.2.1.2.1
              · rcases List.mem_cons.mp hp with rfl | hp
                · exact absurd hpI hn2.2.2.2.1.1
                · rcases List.mem_cons.mp hp with rfl | hp
                  · rfl
                  · exact absurd (hpI ▸ List.mem_map_of_mem (f := (·.1)) hp) hn2.2.2.2.2.1
        rw [hm]; exact .head _
      · refine .tail _ (mem_rm ?_ hpI)
        rcases List.mem_cons.mp hp with rfl | hp
        · exact .head _
        · rcases List.mem_cons.mp hp with rfl | hp
          · exact .tail _ (.head _)
          · rcases List.mem_cons.mp hp with rfl | hp
            · exact .tail _ (.tail _ (.head _))
            · rcases List.mem_cons.mp hp with rfl | hp
              · exact .tail _ (.tail _ (.tail _ (.head _)))
              · rcases List.mem_cons.mp hp with rfl | hp
                · exact absurd rfl hpI
                · exact .tail _ (.tail _ (.tail _ (.tail _ (.tail _ hp))))
    · exact hnd.1
  have hez : e ≠ z := Nat.ne_of_gt (Nat.lt_of_lt_of_le (Heap.lt_size (S3.getO (.tail .head))) he)
  have hz₄ : IsZip h₄ z TI TO .ellipsis := S4.getO (.tail .head)
  refine wpAny_setField_rec (s := mk s h₄ (tk + 1)) hz₄ (by simp) fun h₅ hz₅ hs₅ => ?_
  have S5 : St h₀ L h₅ m ls ((C, oC) :: (z, zo TI TO .none) :: (TO, po (.int x tk) b) :: (i1, riObj (x + step) (left - 1) step) :: (I, oI') :: ob) nw := S4.turned (.tail .head) hs₅ hz₅
  refine wpAny_bind (wpAny_isInstance (T := "StopIteration") (b := true) ⟨oe, hs₅.extBut _ _ hez hoe, hce⟩ isSubtype_stop ?_)
  exact wpAny_pure (q h₅ _ _ _ g2 g3 S5)
end
end Mine
end
section
namespace Mine
noncomputable abbrev Hid (c : Kx) (G : Gh) (a : Addr) (o : Obj) : Prop := (a, o) ∈ G.ob ∧ a ∉ G.oa ∧ a ∉ c.ex
theorem pick1 {p : Addr × Obj} {ob : Led} (h : p ∈ ob) : ∃ ob', ob.Perm (p :: ob') := by
  obtain ⟨l1, l2, rfl⟩ := List.append_of_mem h
  exact ⟨l1 ++ l2, List.perm_middle⟩
theorem pick_in {p q : Addr × Obj} {ob ob' : Led} (h : ob.Perm (p :: ob')) (hq : q ∈ ob) (hne : q.1 ≠ p.1) : q ∈ ob' := by
  rcases List.mem_cons.mp (h.mem_iff.mp hq) with rfl | h
  · exact absurd rfl hne
  · exact h
section
variable {κ : K} {c : Kx} {σ σ₁ σ₂ σ₃ σ₄ : Sg} {h h' : Heap} {tk : Nat} {G G' : Gh} {E : Value → Shared → Prop}
theorem Rep.hidAll {x : List Addr} {ob' nw' : Led} (R : Rep κ c σ h G) (hx : ∀ a ∈ x, a ∉ G.oa ∧ a ∉ c.ex) (hob : ∀ p ∈ G.ob, p.1 ∉ x → p ∈ ob') (hnw : ∀ p ∈ G.nw, p ∈ nw') (S : St c.B c.L h' (c.lm G) G.ls ob' nw') : Rep κ c σ h' { G with ob := ob', nw := nw' } ∧ Kp x G { G with ob := ob', nw := nw' } := by
  have kp : Kp x G { G with ob := ob', nw := nw' } := ⟨List.prefix_refl _, List.prefix_refl _, hnw, fun _ h h' _ => ⟨h, h'⟩, fun p hp hn hx => ⟨hob p hp hx, hn⟩⟩
  refine ⟨R.reX (la' := G.la) (oa' := G.oa) S kp (fun y hy q => (hx y q).2 hy) ⟨R.lr.l, ?_, R.lr.ln, R.lr.on⟩, kp⟩
  have key : ∀ {as : List Addr} {bs : List AO}, All2 (fun a x => ∃ b, (a, b) ∈ G.ob ∧ ORel κ.X c.mg G x b) as bs → (∀ a ∈ as, a ∉ x) → All2 (fun a x => ∃ b, (a, b) ∈ ob' ∧ ORel κ.X c.mg { G with ob := ob', nw := nw' } x b) as bs := by
    intro as bs hh
    induction hh with
    | nil => intro _; exact .nil
    | cons r1 _ ih =>
      intro hne
      obtain ⟨b, hb, hr⟩ := r1
      exact .cons ⟨b, hob _ hb (hne _ (.head _)), hr.mono kp.la kp.oa kp.nw⟩ (ih fun a ha => hne a (.tail _ ha))
  exact key R.lr.o fun a ha q => (hx a q).1 ha
structure Zh (c : Kx) (G : Gh) (z TI TO i1 It : Addr) (a b : Value) (x l st : Int) (oI : Obj) : Prop where
  hz : Hid c G z (zo TI TO .none)
  ht : Hid c G TO (po a b)
  hr : Hid c G i1 (riObj x l st)
  hi : Hid c G It oI
  ti : (TI, po (.ref i1) (.ref It)) ∈ G.nw
  nd : [z, TO, i1, It].Nodup
noncomputable def Clz (κ : K) (σ : Sg) (tgt elt : PySem.Expr) (x l st : Int) (i j : Nat) (kd : Kd) (out out' : List D) (σ' : Sg) (fin : AO) : Prop :=
  ∀ c h tk G z TI TO i1 It a b oI Z iter scope pos, Rep κ c σ h G → Zh c G z TI TO i1 It a b x l st oI → ORel κ.X c.mg G (.li i j) oI → (Z, kd, out) ∈ G.ls → Z ∉ G.la → Z ∉ c.ex → Z ∉ [z, TO, i1, It] → (∃ m, c.mo = some m) →
    ∀ Rr : Result → Shared → Prop, (∀ h' tk' G' oI', Rep κ c σ' h' G' → Kp (Z :: z :: TO :: i1 :: It :: c.ex) G G' → (Z, kd, out') ∈ G'.ls → Z ∉ G'.la → (It, oI') ∈ G'.ob → It ∉ G'.oa → ORel κ.X c.mg G' fin oI' → Rr (.ok .next) (mk c.s h' tk')) →
      codeAny (model c.prog c.w) c.A (.compLoop (.ListComp elt [⟨tgt, iter, [], 0⟩] scope pos) 0 (.ref z) (.ref Z) c.env) Rr (mk c.s h tk)
theorem Zh.fore {z TI TO i1 It : Addr} {a b : Value} {x l st : Int} {oI : Obj} (R : Rep κ c σ h G) (Zz : Zh c G z TI TO i1 It a b x l st oI) (hm : ∃ m, c.mo = some m) :
    ∃ oC ob', G.ob.Perm ((c.env.locals, oC) :: (z, zo TI TO .none) :: (TO, po a b) :: (i1, riObj x l st) :: (It, oI) :: ob') := by
  obtain ⟨m, hm⟩ := hm
  obtain ⟨oC, hC, _, _⟩ := R.cp m hm
  have hex : c.ex = [c.env.locals] := by unfold Kx.ex; rw [hm]
  have ne : ∀ {y : Addr} {o : Obj}, Hid c G y o → y ≠ c.env.locals := fun hy q => hy.2.2 (by rw [hex, q]; exact .head _)
  have nd := Zz.nd
  simp only [List.nodup_cons, List.mem_cons, List.not_mem_nil, or_false, not_or] at nd
  obtain ⟨⟨n1, n2, n3⟩, ⟨n4, n5⟩, n6, _⟩ := nd
  obtain ⟨o1, p1⟩ := pick1 hC
  have z1 := pick_in p1 Zz.hz.1 (ne Zz.hz)
  have t1 := pick_in p1 Zz.ht.1 (ne Zz.ht)
  have r1 := pick_in p1 Zz.hr.1 (ne Zz.hr)
  have i1' := pick_in p1 Zz.hi.1 (ne Zz.hi)
  obtain ⟨o2, p2⟩ := pick1 z1
  have t2 := pick_in p2 t1 (Ne.symm n1)
  have r2 := pick_in p2 r1 (Ne.symm n2)
  have i2 := pick_in p2 i1' (Ne.symm n3)
  obtain ⟨o3, p3⟩ := pick1 t2
  have r3 := pick_in p3 r2 (Ne.symm n4)
  have i3 := pick_in p3 i2 (Ne.symm n5)
  obtain ⟨o4, p4⟩ := pick1 r3
  have i4 := pick_in p4 i3 (Ne.symm n6)
  obtain ⟨o5, p5⟩ := pick1 i4
  exact ⟨oC, o5, p1.trans ((p2.trans ((p3.trans ((p4.trans (p5.cons _)).cons _)).cons _)).cons _)⟩
section
variable {tgt elt : PySem.Expr} {x l st : Int} {i j : Nat} {kd : Kd} {out out' : List D}
theorem clz_stop (hl : l ≤ 0) (hh : κ.fi.hd = true) : Clz κ σ tgt elt x l st i j kd out out σ (.li i j) := by
  intro c h tk G z TI TO i1 It a b oI Z iter scope pos R Zz hO hZ hZa hZx hZn hm Rr post
  obtain ⟨oC, ob', hp⟩ := Zz.fore R hm
  refine comp_once (zip_stop (R.handled hh) (R.st.permO hp) Zz.ti hl fun h₁ S₁ => ?_)
  exact post h₁ tk G oI (R.same (S₁.permO hp.symm)) .refl hZ hZa Zz.hi.1 Zz.hi.2.1 hO
theorem clz_dead {k : Kd} {ds : List D} (hl : 0 < l) (hi : σ.l[i]? = some (k, ds)) (hd : ds[j]? = none) (hh : κ.fi.hd = true) : Clz κ σ tgt elt x l st i j kd out out σ .lx := by
  intro c h tk G z TI TO i1 It a b oI Z iter scope pos R Zz hO hZ hZa hZx hZn hm Rr post
  obtain ⟨oC, ob', hp⟩ := Zz.fore R hm
  obtain ⟨la, hla, hLI⟩ := hO
  obtain ⟨la', g, hla', U⟩ := R.at hi
  cases hla.symm.trans hla'
  refine comp_once (zip_stop2 (R.handled hh) (R.st.permO hp) Zz.ti hLI U hd hl fun h₁ tk₁ a' oI' g2 g3 S₁ => ?_)
  obtain ⟨R', K'⟩ := R.hidAll (x := [TO, i1, It]) (fun y hy => by
    rcases List.mem_cons.mp hy with rfl | hy
    · exact Zz.ht.2
    · rcases List.mem_cons.mp hy with rfl | hy
      · exact Zz.hr.2
      · rw [List.mem_singleton.mp hy]; exact Zz.hi.2) (fun p hpp hn => by
    simp only [List.mem_cons, List.not_mem_nil, or_false, not_or] at hn
    have := hp.mem_iff.mp hpp
    rcases List.mem_cons.mp this with rfl | h
    · exact .head _
    · rcases List.mem_cons.mp h with rfl | h
      · exact .tail _ (.head _)
      · rcases List.mem_cons.mp h with rfl | h
        · exact absurd rfl hn.1
        · rcases List.mem_cons.mp h with rfl | h
          · exact absurd rfl hn.2.1
          · rcases List.mem_cons.mp h with rfl | h
            · exact absurd rfl hn.2.2
            · exact .tail _ (.tail _ (.tail _ (.tail _ (.tail _ h))))) (fun _ h => h) S₁
  refine post h₁ tk₁ _ oI' R' (K'.wk fun y hy => ?_) hZ hZa (.tail _ (.tail _ (.tail _ (.tail _ (.head _))))) Zz.hi.2.1 ⟨g2, _, g3⟩
  rcases List.mem_cons.mp hy with rfl | hy
  · exact .tail _ (.tail _ (.head _))
  · rcases List.mem_cons.mp hy with rfl | hy
    · exact .tail _ (.tail _ (.tail _ (.head _)))
    · rw [List.mem_singleton.mp hy]; exact .tail _ (.tail _ (.tail _ (.tail _ (.head _))))
theorem clz_step {k : Kd} {ds : List D} {d d' : D} {xi xe : Str} {pi pe tp : Pos} {n : Nat} {fin : AO} (ht : tgt = .Tuple [.Name xi pi, .Name xe pe] n tp) (hl : 0 < l) (hi : σ.l[i]? = some (k, ds)) (hd : ds[j]? = some d) (hh : κ.fi.hd = true) (ha : As κ σ (.Name xi pi) (.int x) σ₁) (hb : As κ σ₁ (.Name xe pe) (elv k d) σ₂) (he : Ev κ σ₂ elt (.ok (elv kd d') σ₃)) (hz : out.length < 1000)
    (hk : Clz κ σ₃ tgt elt (x + st) (l - 1) st i (j + 1) kd (out ++ [d']) out' σ₄ fin) : Clz κ σ tgt elt x l st i j kd out out' σ₄ fin := by
  subst ht
  intro c h tk G z TI TO i1 It a b oI Z iter scope pos R Zz hO hZ hZa hZx hZn hm Rr post
  obtain ⟨oC, ob', hp⟩ := Zz.fore R hm
  obtain ⟨la, hla, hLI⟩ := hO
  obtain ⟨la', g, hla', U⟩ := R.at hi
  cases hla.symm.trans hla'
  refine comp_once (zip_turn (R.st.permO hp) Zz.ti hLI U hd hl fun T s₁ go => wpAny_mono go (fun _ s₂ hq => ?_) fun _ _ x => x)
  obtain ⟨h₂, tk₂, t, v, oI', rfl, hT, hr, hLI', S₂⟩ := hq
  obtain ⟨R₂, K₂⟩ := R.hidAll (x := [TO, i1, It]) (fun y hy => by
    rcases List.mem_cons.mp hy with rfl | hy
    · exact Zz.ht.2
    · rcases List.mem_cons.mp hy with rfl | hy
      · exact Zz.hr.2
      · rw [List.mem_singleton.mp hy]; exact Zz.hi.2) (fun p hpp hn => by
    simp only [List.mem_cons, List.not_mem_nil, or_false, not_or] at hn
    have := hp.mem_iff.mp hpp
    rcases List.mem_cons.mp this with rfl | h
    · exact .head _
    · rcases List.mem_cons.mp h with rfl | h
      · exact .tail _ (.head _)
      · rcases List.mem_cons.mp h with rfl | h
        · exact absurd rfl hn.1
        · rcases List.mem_cons.mp h with rfl | h
          · exact absurd rfl hn.2.1
          · rcases List.mem_cons.mp h with rfl | h
            · exact absurd rfl hn.2.2
            · exact .tail _ (.tail _ (.tail _ (.tail _ (.tail _ h))))) (fun _ h => h) S₂
  refine r_unpack R₂.st (R₂.handled hh) hT rfl rfl fun h₃ S₃ => ?_
  have R₃ := R₂.same S₃
  refine assignInOrder_cons (ha c h₃ tk₂ _ R₃ _ ⟨t, rfl⟩ _ _ fun h₄ tk₄ G₄ R₄ K₄ => ?_)
  refine assignInOrder_cons (hb c h₄ tk₄ _ R₄ _ (K₄.v (elv_of (RelIn.mono hr K₂.nw))) _ _ fun h₅ tk₅ G₅ R₅ K₅ => assignInOrder_nil ?_)
  have K45 := K₄.trans K₅
  refine wpAny_tests_nil ?_
  rw [if_pos rfl]
  refine he c h₅ tk₅ G₅ R₅ _ _ fun h₆ tk₆ G₆ u₆ R₆ K₆ V₆ => ?_
  have K456 := K45.trans K₆
  have mz : ∀ {y : Addr} {o : Obj}, (y, o) ∈ (c.env.locals, oC) :: (z, zo TI TO .none) :: (TO, po (.int x t) v) :: (i1, riObj (x + st) (l - 1) st) :: (It, oI') :: ob' → y ∉ G.oa → y ∉ c.ex → Hid c G₆ y o := fun hm h1 h2 => ⟨(K456.ob _ hm h1 h2).1, (K456.ob _ hm h1 h2).2, h2⟩
  obtain ⟨y1, y2⟩ := K456.ls (Z, kd, out) hZ hZa hZx
  have hz' := mz (.tail _ (.head _)) Zz.hz.2.1 Zz.hz.2.2
  have ht' := mz (.tail _ (.tail _ (.head _))) Zz.ht.2.1 Zz.ht.2.2
  have hr' := mz (.tail _ (.tail _ (.tail _ (.head _)))) Zz.hr.2.1 Zz.hr.2.2
  have hi' := mz (.tail _ (.tail _ (.tail _ (.tail _ (.head _))))) Zz.hi.2.1 Zz.hi.2.2
  refine hid_append R₆ y1 y2 hZx hz (elv_rel V₆) fun h₇ G₇ R₇ K₇ m₇ e1 e2 e3 e4 => ?_
  have mv : ∀ {y : Addr} {o : Obj}, Hid c G₆ y o → Hid c G₇ y o := fun ⟨q1, q2, q3⟩ => ⟨e1 ▸ q1, e2 ▸ q2, q3⟩
  have kk : Kp (Z :: z :: TO :: i1 :: It :: c.ex) G G₇ := ((K₂.wk fun y hy => by
    rcases List.mem_cons.mp hy with rfl | hy
    · exact .tail _ (.tail _ (.head _))
    · rcases List.mem_cons.mp hy with rfl | hy
      · exact .tail _ (.tail _ (.tail _ (.head _)))
      · rw [List.mem_singleton.mp hy]; exact .tail _ (.tail _ (.tail _ (.tail _ (.head _))))).trans (K456.wk fun y hy => .tail _ (.tail _ (.tail _ (.tail _ (.tail _ hy)))))).trans (K₇.wk fun y hy => List.mem_singleton.mp hy ▸ .head _)
  refine hk c h₇ tk₆ G₇ z TI TO i1 It _ _ oI' Z iter scope pos R₇ ⟨mv hz', mv ht', mv hr', mv hi', kk.nw _ Zz.ti, Zz.nd⟩ ⟨la, pre_get kk.la hla, hLI'⟩ m₇ (e3 ▸ y2) hZx hZn hm Rr fun h' tk' G' oI'' R' K' a1 a2 a3 a4 a5 => post h' tk' G' oI'' R' (kk.trans K') a1 a2 a3 a4 a5
end
end
end Mine
end
section
namespace Mine
noncomputable def HidE (κ : K) (σ : Sg) (e : PySem.Expr) (x : AO) (σ' : Sg) : Prop :=
  ∀ c h tk G, Rep κ c σ h G → ∀ Q E, (∀ h' tk' G' I o, Rep κ c σ' h' G' → Kp c.ex G G' → Hid c G' I o → (∀ p ∈ G.ob, p.1 ≠ I) → (∀ p ∈ G.ls, p.1 ≠ I) → ORel κ.X c.mg G' x o → Q (.ref I) (mk c.s h' tk')) →
    wpAny (model c.prog c.w) c.A (eval e c.env) Q E (mk c.s h tk)
section
variable {κ : K} {c : Kx} {σ σ₁ σ₂ σ₃ σ₄ : Sg} {h h' : Heap} {tk : Nat} {G G' : Gh} {E : Value → Shared → Prop} {I : Addr} {v : AV} {ls : List LC} {ss : List Stmt}
theorem fresh_ls {I : Addr} {o : Obj} {h₃ : Heap} (R : Rep κ c σ₁ h G') (k : Kp c.ex G G') (S : St c.B c.L h₃ (c.lm G') G'.ls ((I, o) :: G'.ob) G'.nw) : ∀ p ∈ G.ls, p.1 ≠ I := by
  have kl : ∀ p ∈ G'.ls, p.1 ≠ I := fun p hp q => (List.nodup_append.mp S.apart.1).2.2 p.1 (List.mem_map_of_mem (f := (·.1)) hp) I (List.mem_append_left _ (.head _)) q
  intro p hp q
  by_cases h1 : p.1 ∈ G.la
  · obtain ⟨i', hi', e'⟩ := List.getElem_of_mem h1
    obtain ⟨y', _, h3⟩ := R.lr.l.get' (pre_get k.la (List.getElem?_eq_some_iff.mpr ⟨hi', e'⟩))
    exact kl _ h3 q
  · by_cases h2 : p.1 ∈ c.ex
    · unfold Kx.ex at h2
      split at h2
      · rename_i m hm
        obtain ⟨oC, h3, _⟩ := R.cp m hm
        exact S.newO_ne h3 ((List.mem_singleton.mp h2).symm.trans q)
      · cases h2
    · exact kl _ (k.ls p hp h1 h2).1 q
theorem hide_range1 {f e : PySem.Expr} {p : Pos} {n : Int} (hf : Ev κ σ f (.ok (.val (.type "range")) σ)) (ha : El κ σ [e] (.ok [.int n] σ))
    (hc : ∀ env, eval (.Call f [e] [] p) env = (do callWith p (← eval f env) [] (backTo p (starEach [e] env)) (backToKw p (keywordEach [] env))) := by intro _; rfl)
    (hst : ∀ env, starEach [e] env = (false, eval e env) :: starEach [] env := by intro _; rfl) : HidE κ σ (.Call f [e] [] p) (.rg 0 n 1) σ := by
  intro c h tk G R Q E q
  refine Call_ (hf c h tk G R _ _ fun h₁ tk₁ G₁ u₁ R₁ K₁ V₁ => ?_) (hc _)
  have V₁ : u₁ = .type "range" := V₁
  subst V₁
  refine Pv.callWith_type1 (ha p c h₁ tk₁ G₁ R₁ _ _ fun h₂ tk₂ G₂ us R₂ K₂ V₂ => ?_) (hst _) rfl
  obtain _ | ⟨⟨t, hu⟩, V₂⟩ := V₂
  cases V₂
  subst hu
  refine r_range1 R₂.st fun r h' tk' t1 t2 S' => ?_
  obtain ⟨R', K', n1, n2, n3⟩ := R₂.hidNew S'
  exact q h' tk' _ r _ R' ((K₁.trans K₂).trans K'.any) ⟨.head _, n1, n2⟩ (Ite.fresh R₂ (K₁.trans K₂) n3) (fresh_ls R₂ (K₁.trans K₂) S') ⟨_, _, _, rfl⟩
theorem hide_range3 {f e1 e2 e3 : PySem.Expr} {p : Pos} {a b st : Int} (hf : Ev κ σ f (.ok (.val (.type "range")) σ)) (ha : El κ σ [e1, e2, e3] (.ok [.int a, .int b, .int st] σ)) (h0 : st ≠ 0) (hs : st.natAbs < 1073741824)
    (hc : ∀ env, eval (.Call f [e1, e2, e3] [] p) env = (do callWith p (← eval f env) [] (backTo p (starEach [e1, e2, e3] env)) (backToKw p (keywordEach [] env))) := by intro _; rfl)
    (hst : ∀ env, starEach [e1, e2, e3] env = (false, eval e1 env) :: starEach [e2, e3] env := by intro _; rfl) (hp : ∀ env, (backTo p (starEach [e2, e3] env)).any (·.1) = false := by intro _; rfl) : HidE κ σ (.Call f [e1, e2, e3] [] p) (.rg a b st) σ := by
  intro c h tk G R Q E q
  refine Call_ (hf c h tk G R _ _ fun h₁ tk₁ G₁ u₁ R₁ K₁ V₁ => ?_) (hc _)
  have V₁ : u₁ = .type "range" := V₁
  subst V₁
  refine Pv.callWith_type1 (ha p c h₁ tk₁ G₁ R₁ _ _ fun h₂ tk₂ G₂ us R₂ K₂ V₂ => ?_) (hst _) (hp _)
  obtain _ | ⟨⟨t1, hu1⟩, V₂⟩ := V₂
  obtain _ | ⟨⟨t2, hu2⟩, V₂⟩ := V₂
  obtain _ | ⟨⟨t3, hu3⟩, V₂⟩ := V₂
  cases V₂
  subst hu1 hu2 hu3
  refine r_range3 R₂.st h0 hs fun r h' tk' S' => ?_
  obtain ⟨R', K', n1, n2, n3⟩ := R₂.hidNew S'
  exact q h' tk' _ r _ R' ((K₁.trans K₂).trans K'.any) ⟨.head _, n1, n2⟩ (Ite.fresh R₂ (K₁.trans K₂) n3) (fresh_ls R₂ (K₁.trans K₂) S') ⟨_, _, _, rfl⟩
theorem hide_iter {f e : PySem.Expr} {p : Pos} {i : Nat} {lc : LC} (hf : Ev κ σ f (.ok (.val (.builtin "iter")) σ₁)) (ha : El κ σ₁ [e] (.ok [.lst i] σ₂)) (hi : σ₂.l[i]? = some lc)
    (hc : ∀ env, eval (.Call f [e] [] p) env = (do callWith p (← eval f env) [] (backTo p (starEach [e] env)) (backToKw p (keywordEach [] env))) := by intro _; rfl)
    (hst : ∀ env, starEach [e] env = (false, eval e env) :: starEach [] env := by intro _; rfl) : HidE κ σ (.Call f [e] [] p) (.li i 0) σ₂ := by
  intro c h tk G R Q E q
  refine Call_ (hf c h tk G R _ _ fun h₁ tk₁ G₁ u₁ R₁ K₁ V₁ => ?_) (hc _)
  have V₁ : u₁ = .builtin "iter" := V₁
  subst V₁
  refine PyProof.Rows.callWith_builtin1 (ha p c h₁ tk₁ G₁ R₁ _ _ fun h₂ tk₂ G₂ us R₂ K₂ V₂ => ?_) (hst _) rfl
  obtain _ | ⟨⟨a, ha, hu⟩, V₂⟩ := V₂
  cases V₂
  subst hu
  obtain ⟨a', g, ha', U⟩ := R₂.at (k := lc.1) (ds := lc.2) hi
  cases ha.symm.trans ha'
  refine r_iter R₂.st U fun I oI h₃ hoI S₃ => ?_
  obtain ⟨R₃, K₃, n1, n2, n3⟩ := R₂.hidNew S₃
  exact q h₃ tk₂ _ I oI R₃ ((K₁.trans K₂).trans K₃.any) ⟨.head _, n1, n2⟩ (Ite.fresh R₂ (K₁.trans K₂) n3) (fresh_ls R₂ (K₁.trans K₂) S₃) ⟨a, pre_get K₃.la ha, hoI⟩
end
end Mine
end
section
namespace Mine
section
variable {κ : K} {c : Kx} {σ σ₁ σ₂ σ₃ σ₄ : Sg} {h h' : Heap} {tk : Nat} {G G' : Gh} {E : Value → Shared → Prop} {I : Addr} {v : AV} {ls : List LC} {ss : List Stmt}
theorem eh_zip {y : Str} {py p zp : Pos} {zf re ie elt tgt : PySem.Expr} {scope : Scope} {pos : Pos} {fi' : Fi} {a b st : Int} {i j n nn : Nat} {kd : Kd} {out : List D} {fin : AO} (hzf : Ev κ σ zf (.ok (.val (.type "zip")) σ)) (hre : HidE κ σ re (.rg a b st) σ) (hie : Ev κ σ ie (.ok (.val (.ref I)) σ))
    (Kf : FiK scope fi') (hfn : κ.fi.hd = true) (hown : κ.fi.own = true) (hcl : ∀ c h G, Rep κ c σ h G → c.mo = none ∧ ∃ cl, closureFor scope c.env = pure cl ∧ ∀ p ∈ fi'.cs, c.env.kindOf p.1 = some .cell ∧ ∃ a, G.oa[p.2]? = some a ∧ cl.lookup p.1 = some a)
    (hsm : Builtin.Range.small a b st = true) (hn : Builtin.Range.rangeSize a b st = (n : Int))
    (hC : ∃ v', Clz ⟨κ.X, fi', κ.q⟩ ⟨List.replicate fi'.tb.length .unb, σ.l, σ.o⟩ tgt elt a n st i j kd [] out ⟨v', σ.l, σ.o⟩ fin) (hx : κ.fi.tb[nn]? = some y)
    (hsw : ∀ c h G, Rep κ c σ h G → swapsWith (.ListComp elt [⟨tgt, .Call zf [re, ie] [] zp, [], 0⟩] scope pos) (some (.Name y py)) p.line c.env = pure true)
    (hk : EsH κ ⟨σ.v.set nn (.lst σ.l.length), σ.l ++ [(kd, out)], σ.o⟩ I fin ss v ls)
    (hs : ∀ env x, foldedSetIterable (.Call zf [re, ie] [] zp) env x = pure x := by intro _ _; rfl)
    (hc : ∀ env, eval (.Call zf [re, ie] [] zp) env = (do callWith zp (← eval zf env) [] (backTo zp (starEach [re, ie] env)) (backToKw zp (keywordEach [] env))) := by intro _; rfl)
    (hst1 : ∀ env, starEach [re, ie] env = (false, eval re env) :: starEach [ie] env := by intro _; rfl) (hst2 : ∀ env, starEach [ie] env = (false, eval ie env) :: starEach [] env := by intro _; rfl) (hpl : ∀ env, (backTo zp (starEach [ie] env)).any (·.1) = false := by intro _; rfl) :
    EsH κ σ I (.li i j) (.Assign [.Name y py] (.ListComp elt [⟨tgt, .Call zf [re, ie] [] zp, [], 0⟩] scope pos) p :: ss) v ls := by
  intro c h tk G o R hm hI hex hO Q E post
  obtain ⟨v', hC⟩ := hC
  obtain ⟨hmo, cl, hclos, hcs⟩ := hcl c h G R
  have hex0 : c.ex = [] := by unfold Kx.ex; rw [hmo]
  refine wpAny_execs_cons ?_
  rw [exec_Assign_Name_used _ _ _ _ (hsw c h G R)]
  refine wpAny_bind (wpAny_standAt (wpAny_bind ?_))
  show wpAny _ c.A (do let _ ← comprehension (.ListComp elt [⟨tgt, .Call zf [re, ie] [] zp, [], 0⟩] scope pos) scope c.env _ (newList []) false (eval (.Call zf [re, ie] [] zp) c.env) (some (assign (.Name y py) c.env))) _ _ _
  refine wpAny_bind (wpAny_mono (wpAny_comprehension_free (use := some (assign (.Name y py) c.env)) (Q := fun _ s' => wpAny (model c.prog c.w) c.A (execs ss c.env) Q E s') rfl (hs _) hclos Kf.kind Kf.names ?_) (fun _ s' hq => wpAny_pure (wpAny_pure hq)) fun _ _ e => e)
  refine Call_ (hzf c h tk G R _ _ fun h₁ tk₁ G₁ u₁ R₁ K₁ V₁ => ?_) (hc _)
  have V₁ : u₁ = .type "zip" := V₁
  subst V₁
  refine Pv.callWith_type1 (args_cons (hre c h₁ tk₁ G₁ R₁ _ _ fun h₂ tk₂ G₂ r orr R₂ K₂ Hr f1 f2 hor => ?_) (hst1 _)) (hst1 _) (hpl _)
  refine args_cons (hie c h₂ tk₂ G₂ R₂ _ _ fun h₃ tk₃ G₃ u₃ R₃ K₃ V₃ => args_nil ?_) (hst2 _)
  have V₃ : u₃ = .ref I := V₃
  subst V₃
  have K13 := (K₁.trans K₂).trans K₃
  obtain ⟨z1, z2⟩ := K13.ob (I, o) hm hI hex
  obtain ⟨r1, r2⟩ := K₃.ob (r, orr) Hr.1 Hr.2.1 Hr.2.2
  obtain ⟨t, u, w, horr⟩ := hor
  subst horr
  obtain ⟨la, hla, hLI⟩ := hO
  have hla3 := pre_get K13.la hla
  have hrI : r ≠ I := fun q => f1 (I, o) (K₁.ob (I, o) hm hI hex).1 q.symm
  obtain ⟨o1, p1⟩ := pick1 r1
  have i1m := pick_in p1 z1 (Ne.symm hrI)
  obtain ⟨o2, p2⟩ := pick1 i1m
  have pp : G₃.ob.Perm ((r, rgObj a b st t u w) :: (I, o) :: o2) := p1.trans (p2.cons _)
  refine r_zip (n := n) (R₃.st.permO pp) hLI hsm hn fun z TI TO i1 h₄ S₄ => ?_
  obtain ⟨R₄, K₄⟩ := R₃.hidAll (x := [r]) (ob' := (z, zo TI TO .none) :: (TO, po .none .none) :: (i1, riObj a n st) :: (I, o) :: o2) (nw' := (TI, po (.ref i1) (.ref I)) :: G₃.nw) (fun q hq => by rw [List.mem_singleton.mp hq]; exact ⟨r2, Hr.2.2⟩) (fun q hq hn => by
    rcases List.mem_cons.mp (pp.mem_iff.mp hq) with rfl | hq
    · exact absurd (.head _) hn
    · exact .tail _ (.tail _ (.tail _ hq))) (fun q hq => .tail _ hq) S₄
  have nd4 := (List.nodup_append.mp (List.nodup_append.mp S₄.apart.1).2.1).1
  simp only [List.map_cons, List.nodup_cons, List.mem_cons, not_or] at nd4
  have noa : ∀ {q : Addr}, q ∉ (o2.map (·.1)) → q ≠ I → q ∉ G₃.oa := fun hq hqI hqo => by
    obtain ⟨i', hi', e'⟩ := List.getElem_of_mem hqo
    obtain ⟨_, _, b', hb', _⟩ := R₃.lr.o.get' (List.getElem?_eq_some_iff.mpr ⟨hi', e'⟩)
    have hqr : (_, b').1 ≠ (r, rgObj a b st t u w).1 := fun (qq : _ = r) => r2 (qq ▸ hqo)
    rcases List.mem_cons.mp (pp.mem_iff.mp hb') with e | hm'
    · exact hqr (congrArg Prod.fst e)
    · rcases List.mem_cons.mp hm' with e | hm'
      · exact hqI (congrArg Prod.fst e)
      · exact hq (List.mem_map_of_mem (f := (·.1)) hm')
  have nex : ∀ {q : Addr}, q ∉ c.ex := fun hq => by rw [hex0] at hq; cases hq
  have Zz : Zh c ⟨G₃.m, G₃.ls, (z, zo TI TO .none) :: (TO, po .none .none) :: (i1, riObj a n st) :: (I, o) :: o2, (TI, po (.ref i1) (.ref I)) :: G₃.nw, G₃.la, G₃.oa⟩ z TI TO i1 I .none .none a n st o := by
    refine ⟨⟨.head _, noa nd4.1.2.2.2 nd4.1.2.2.1, nex⟩, ⟨.tail _ (.head _), noa nd4.2.1.2.2 nd4.2.1.2.1, nex⟩, ⟨.tail _ (.tail _ (.head _)), noa nd4.2.2.1.2 nd4.2.2.1.1, nex⟩, ⟨.tail _ (.tail _ (.tail _ (.head _))), z2, nex⟩, .head _, ?_⟩
    simp only [List.nodup_cons, List.mem_cons, List.not_mem_nil, or_false, not_or]
    exact ⟨⟨nd4.1.1, nd4.1.2.1, nd4.1.2.2.1⟩, ⟨nd4.2.1.1, nd4.2.1.2.1⟩, nd4.2.2.1.1, not_false, .nil⟩
  have hz4 : IsZip h₄ z TI TO .none := S₄.getO .head
  refine wpAny_pyIter_zip (s := mk c.s h₄ tk₃) hz4 ?_
  refine r_newL (k := kd) (ds := []) R₄.st .nil fun Z h₅ S₅ => ?_
  obtain ⟨R₅, K₅, y1, y2, y3⟩ := R₄.hidL S₅
  refine wpAny_newFunctionEnv (s := mk c.s h₅ tk₃) Kf.cell (by intro z hz; cases hz) (fun h₆ hns hsb => ?_) Kf.kind
  have hns' : h₆.Ns h₅.objs.size (fun _ => none) := hns
  have hsb' : Heap.SameBut h₅.objs.size (h₅.push { cls := .type "dict", data := .dict #[] }) h₆ := hsb
  obtain ⟨oC, hoC, hnC⟩ := LCg.ns_obj hns'
  have keep : ∀ b o, h₅.get? b = some o → h₆.get? b = some o := fun b o e => hsb'.extBut b o (Nat.ne_of_lt (Heap.lt_size e)) (Heap.get?_push_of_some _ e)
  have S₆ := R₅.st.addO keep (Nat.le_refl _) hoC
  have K35 := (K13.wk (y := c.ex) fun z hz => hz)
  have hcs' : ∀ p ∈ fi'.cs, c.env.kindOf p.1 = some .cell ∧ ∃ a, G₃.oa[p.2]? = some a ∧ cl.lookup p.1 = some a := fun p hp => let ⟨q1, a, q2, q3⟩ := hcs p hp; ⟨q1, a, pre_get K13.oa q2, q3⟩
  have R₆ := R₅.enter (fi' := fi') (cl := cl) Kf hcs' S₆ hnC hfn
  have n6 := R₅.hidNew S₆
  have hCob : ∀ p ∈ (z, zo TI TO .none) :: (TO, po .none .none) :: (i1, riObj a n st) :: (I, o) :: o2, p.1 ≠ h₅.objs.size := n6.2.2.2.2
  have hZlt : Z < h₅.objs.size := (S₅.low.1 Z (.head _)).1
  show codeAny (model c.prog c.w) c.A (.compStart _ 0 (.ref z) (.ref Z) (compEnvC scope cl h₅.objs.size c.env)) _ (mk c.s h₆ (tk₃ + 0))
  have hid' : ∀ {q : Addr} {oq : Obj}, (q, oq) ∈ (z, zo TI TO .none) :: (TO, po .none .none) :: (i1, riObj a n st) :: (I, o) :: o2 → q ∉ G₃.oa → Hid { c with env := compEnvC scope cl h₅.objs.size c.env, mo := some (c.lm ⟨G₃.m, (Z, kd, []) :: G₃.ls, (z, zo TI TO .none) :: (TO, po .none .none) :: (i1, riObj a n st) :: (I, o) :: o2, (TI, po (.ref i1) (.ref I)) :: G₃.nw, G₃.la, G₃.oa⟩) } ⟨fun _ => none, (Z, kd, []) :: G₃.ls, (h₅.objs.size, oC) :: (z, zo TI TO .none) :: (TO, po .none .none) :: (i1, riObj a n st) :: (I, o) :: o2, (TI, po (.ref i1) (.ref I)) :: G₃.nw, G₃.la, G₃.oa⟩ q oq :=
    fun hm ho => ⟨.tail _ hm, ho, fun hq => hCob _ hm (List.mem_singleton.mp hq)⟩
  have loop : codeAny (model c.prog c.w) c.A (.compLoop (.ListComp elt [⟨tgt, .Call zf [re, ie] [] zp, [], 0⟩] scope pos) 0 (.ref z) (.ref Z) (compEnvC scope cl h₅.objs.size c.env)) (compPost (model c.prog c.w) c.A E (some (assign (.Name y py) c.env)) (fun _ s' => wpAny (model c.prog c.w) c.A (execs ss c.env) Q E s') (.ref Z) h₅.objs.size) (mk c.s h₆ (tk₃ + 0)) := by
    refine hC _ h₆ (tk₃ + 0) _ z TI TO i1 I .none .none o Z (.Call zf [re, ie] [] zp) scope pos R₆ ⟨hid' (.head _) Zz.hz.2.1, hid' (.tail _ (.head _)) Zz.ht.2.1, hid' (.tail _ (.tail _ (.head _))) Zz.hr.2.1, hid' (.tail _ (.tail _ (.tail _ (.head _)))) z2, .head _, Zz.nd⟩ ⟨la, hla3, hLI⟩ (.head _) y1 (fun q => Nat.ne_of_lt hZlt (List.mem_singleton.mp q)) (fun q => ?_) ⟨_, rfl⟩ _ fun h' tk' G' oI' R' K' hZ' hZa' hI' hIa' hfin => ?_
    · simp only [List.mem_cons, List.not_mem_nil, or_false] at q
      rcases q with q | q | q | q
      · exact y3 _ (.head _) q.symm
      · exact y3 _ (.tail _ (.head _)) q.symm
      · exact y3 _ (.tail _ (.tail _ (.head _))) q.symm
      · exact y3 _ (.tail _ (.tail _ (.tail _ (.head _)))) q.symm
    · obtain ⟨oC', hC1, hC2, hC3⟩ := R'.cp _ rfl
      have hC1 : (h₅.objs.size, oC') ∈ G'.ob := hC1
      have hC3 : h₅.objs.size ∉ G'.oa := hC3
      have RL := Rep.leave (κ' := ⟨κ.X, fi', κ.q⟩) R₄ rfl hmo R' K'.la K'.oa (fun q hq => K'.nw q hq) hZ' hZa'
      have RL : Rep κ c ⟨σ.v, σ.l ++ [(kd, out)], σ.o⟩ h' ⟨G₃.m, G'.ls, G'.ob, G'.nw, G'.la ++ [Z], G'.oa⟩ := RL
      have hZix : (G'.la ++ [Z])[σ.l.length]? = some Z := by rw [← R'.lr.l.len]; simp
      have hIne : I ≠ h₅.objs.size := hCob (I, o) (.tail _ (.tail _ (.tail _ (.head _))))
      have kall : Kp (I :: c.ex) G ⟨G₃.m, G'.ls, G'.ob, G'.nw, G'.la ++ [Z], G'.oa⟩ := by
        refine ⟨K13.la.trans (K'.la.trans (List.prefix_append _ _)), K13.oa.trans K'.oa, fun q hq => K'.nw q (.tail _ (K13.nw q hq)), fun e he hn hxx => ?_, fun q hq hn hxx => ?_⟩
        · obtain ⟨q1, q2⟩ := K13.ls e he hn fun q => hxx (.tail _ q)
          have hd := (List.nodup_append.mp S₄.apart.1).2.2
          have hin : e.1 ∉ Z :: z :: TO :: i1 :: I :: [h₅.objs.size] := fun q => by
            have hob : ∀ {q : Addr} {oq : Obj}, (q, oq) ∈ (z, zo TI TO .none) :: (TO, po .none .none) :: (i1, riObj a n st) :: (I, o) :: o2 → e.1 ≠ q := fun hm qq => hd e.1 (List.mem_map_of_mem (f := (·.1)) q1) _ (List.mem_append_left _ (List.mem_map_of_mem (f := (·.1)) hm)) qq
            simp only [List.mem_cons, List.not_mem_nil, or_false] at q
            rcases q with q | q | q | q | q | q
            · exact y2 e q1 q
            · exact hob (.head _) q
            · exact hob (.tail _ (.head _)) q
            · exact hob (.tail _ (.tail _ (.head _))) q
            · exact hob (.tail _ (.tail _ (.tail _ (.head _)))) q
            · have := (S₅.low.1 e.1 (List.mem_append_left _ (.tail _ (List.mem_map_of_mem (f := (·.1)) q1)))).1
              exact Nat.ne_of_lt this q
          obtain ⟨q3, q4⟩ := K'.ls e (.tail _ q1) q2 hin
          refine ⟨q3, fun q => ?_⟩
          rcases List.mem_append.mp q with q | q
          · exact q4 q
          · exact y2 e q1 (List.mem_singleton.mp q)
        · obtain ⟨q1, q2⟩ := K13.ob q hq hn fun q => hxx (.tail _ q)
          have hqI : q.1 ≠ I := fun e => hxx (e ▸ .head _)
          have hqr : q.1 ≠ r := fun e => by
            by_cases hG1 : q ∈ G₁.ob
            · exact f1 q hG1 e
            · exact hG1 (K₁.ob q hq hn fun q => hxx (.tail _ q)).1
          have hq2 : q ∈ o2 := by
            rcases List.mem_cons.mp (pp.mem_iff.mp q1) with e | h
            · exact absurd (congrArg Prod.fst e) hqr
            · rcases List.mem_cons.mp h with e | h
              · exact absurd (congrArg Prod.fst e) hqI
              · exact h
          have hq2m : q.1 ∈ o2.map (·.1) := List.mem_map_of_mem (f := (·.1)) hq2
          have hq4 : q ∈ (z, zo TI TO .none) :: (TO, po .none .none) :: (i1, riObj a n st) :: (I, o) :: o2 := .tail _ (.tail _ (.tail _ (.tail _ hq2)))
          have hin : q.1 ∉ Z :: z :: TO :: i1 :: I :: [h₅.objs.size] := fun qq => by
            simp only [List.mem_cons, List.not_mem_nil, or_false] at qq
            rcases qq with qq | qq | qq | qq | qq | qq
            · exact y3 q hq4 qq
            · exact nd4.1.2.2.2 (qq ▸ hq2m)
            · exact nd4.2.1.2.2 (qq ▸ hq2m)
            · exact nd4.2.2.1.2 (qq ▸ hq2m)
            · exact hqI qq
            · exact hCob q hq4 qq
          exact K'.ob q (.tail _ hq4) q2 hin
      show wpAny (model c.prog c.w) c.A (assign (.Name y py) c.env (.ref Z)) _ _ _
      refine wpAny_assign_Name (rep_store (v := .lst σ.l.length) RL hx ⟨Z, hZix, rfl⟩ fun h₇ tk₇ G₇ R₇ K₇ => ?_)
      obtain ⟨d1, d2⟩ := K₇.ob _ hC1 hC3 nex
      refine ⟨_, hC2.ns (R₇.st.newsO _ d1).1, fun h₈ hs8 => ?_⟩
      obtain ⟨R₈, K₈⟩ := R₇.hid d2 nex (fun p hp hn => mem_rm hp hn) (R₇.st.rm d1 hs8.extBut)
      obtain ⟨w1, w2⟩ := K₇.ob (I, oI') hI' hIa' nex
      have hfr : ∀ q ∈ G.ob, q.1 ≠ h₅.objs.size := fun q hq e => by
        by_cases hqo : q.1 ∈ G.oa
        · obtain ⟨i', hi', e'⟩ := List.getElem_of_mem hqo
          have := pre_get (K13.oa.trans K'.oa) (List.getElem?_eq_some_iff.mpr ⟨hi', e'⟩)
          exact hC3 (e ▸ List.mem_of_getElem? this)
        · obtain ⟨q1, q2⟩ := K13.ob q hq hqo nex
          rcases List.mem_cons.mp (pp.mem_iff.mp q1) with e2 | h
          · exact f1 q (K₁.ob q hq hqo nex).1 (congrArg Prod.fst e2)
          · exact hCob q (.tail _ (.tail _ (.tail _ h))) e
      have hfin' : ORel κ.X c.mg ⟨G₃.m, G'.ls, G'.ob, G'.nw, G'.la ++ [Z], G'.oa⟩ fin oI' := ORel.mono (X := κ.X) (mg := c.mg) (G := G') (G' := ⟨G₃.m, G'.ls, G'.ob, G'.nw, G'.la ++ [Z], G'.oa⟩) (List.prefix_append _ _) (List.prefix_refl _) (fun _ h => h) hfin
      have K78 := kall.trans (K₇.wk fun z hz => .tail _ hz)
      refine hk c h₈ tk₇ _ oI' R₈ (mem_rm w1 hIne) w2 nex ((hfin'.mono K₇.la K₇.oa K₇.nw).mono K₈.la K₈.oa K₈.nw) _ _ (post.move ⟨K78.la.trans K₈.la, K78.oa.trans K₈.oa, fun q hq => K₈.nw q (K78.nw q hq), fun e h1 h2 h3 => K78.ls e h1 h2 h3, fun q h1 h2 h3 => ?_⟩)
      obtain ⟨q1, q2⟩ := K78.ob q h1 h2 h3
      exact ⟨mem_rm q1 (hfr q h1), q2⟩
  refine codeAny_compStart_list loop ?_
  exact wpAny_pyIter_zip (s := mk c.s h₆ (tk₃ + 0)) (TI := TI) (TO := TO) (f0 := .none) (keep _ _ (R₅.st.getO .head)) loop
end
end Mine
end
section
namespace Mine
noncomputable def bestK_min (f : D → Int) (b : D) (ds : List D) : D := ds.foldl (fun b d => if f d < f b then d else b) b
section
variable {X : Pg} {mg mb : Str → Option Value} {prog : Program} {w : World} {A : Around} {E : Value → Shared → Prop} {s : Shared} {h : Heap} {tk : Nat} {h₀ : Base} {L : Addr} {m : Str → Option Value} {ls : List Ent} {ob nw : Led} {ds : List D} {g : List D → List Ent} {k : Nat} {ps : Arguments} {b : PySem.Expr} {sc : Scope} {ka : Addr} {f : D → Int}
theorem min_loopK {I B l : Addr} {dflt : Value} {res : D} {R : Result → Shared → Prop} (C : Cx X mg mb A h₀ L (k + 2)) (hO : ∀ d ∈ ds, LamOk X k ps b sc d (f d)) (U : At l .p ds ls g)
    (hR : ∀ v h' tk' nw', (∀ p ∈ nw, p ∈ nw') → RelIn nw' .p v res → St h₀ L h' m ls ob nw' → R (.ok (.ret v)) (mk s h' tk')) :
    ∀ (r j : Nat) (db : D) (vb : Value) (tb : Tok) (c : Nat) (oI : Obj) (h : Heap) (tk : Nat) (nw' : Led), (∀ p ∈ nw, p ∈ nw') → LamAt nw' ps b sc ka → ds.length - j = r → j ≤ ds.length → IsLI oI l j → RelIn nw' .p vb db → bestK_min f db (ds.drop j) = res →
      St h₀ L h m ls ((I, oI) :: (B, seqObj "list" #[vb, .int (f db) tb] c) :: ob) nw' → codeAny (model prog w) A (.builtin "min.loop" ⟨[.ref I, .ref ka, .ref B], [(Str.ofString "default", dflt)]⟩) R (mk s h tk) := by
  have hname : (toString "min" ++ toString ".loop" : String) = "min.loop" := by decide
  intro r
  induction r with
  | zero =>
    intro j db vb tb c oI h tk nw' hnw hL hr hj ho hvb hb S
    have hj' : j = ds.length := Nat.le_antisymm hj (Nat.le_of_sub_eq_zero hr)
    subst hj'
    have hres : db = res := by rw [← hb]; simp [bestK_min]
    subst hres
    obtain ⟨vs, n, hl, hrel⟩ := S.isList U
    have hvs := hrel.len
    refine codeAny_builtin PySem.F.entry_min_loop ?_
    rw [Around.under_plainId PySem.F.plain_min_loop _]
    show wpAny _ A.in1 (seqItems? (.ref B) >>= _) _ _ _
    refine wpAny_bind (wpAny_seqItems (S.getO (.tail .head)) rfl ?_)
    show wpAny _ A.in1 (tryCatch (pyNext (.ref I)) _ >>= _) _ _ _
    refine wpAny_bind (wpAny_tryCatch (wpAny_pyNext_list_end (s := mk s h tk) C.handled ⟨oI, S.getO .head, ho.1, ho.2⟩ (PySem.IsL.isList (n := n) hl) (by simp; lia) fun h₁ he₁ => ?_))
    have S1 := S.lost he₁
    show wpAny _ A.in1 (updateSeq B (fun _ => #[]) >>= _) _ _ _
    refine wpAny_bind ?_
    refine wpAny_updateSeq (s := mk s h₁ tk) (S1.getO .head) rfl (wpAny_bind (wpAny_letGo (wpAny_pure ?_)))
    exact hR vb _ tk nw' hnw hvb (S1.lost (Heap.SameBut.update ..).extBut)
  | succ r ih =>
    intro j db vb tb c oI h tk nw' hnw hL hr hj ho hvb hb S
    have hlt : j < ds.length := f_lt hr.symm
    obtain ⟨d, hd⟩ : ∃ d, ds[j]? = some d := ⟨_, List.getElem?_eq_getElem hlt⟩
    obtain ⟨items, v, hl, hv, hr1⟩ := S.listAt U hd
    rw [drop_cons hd] at hb
    refine codeAny_builtin PySem.F.entry_min_loop ?_
    rw [Around.under_plainId PySem.F.plain_min_loop _]
    show wpAny _ A.in1 (seqItems? (.ref B) >>= _) _ _ _
    refine wpAny_bind (wpAny_seqItems (S.getO (.tail .head)) rfl ?_)
    show wpAny _ A.in1 (tryCatch (pyNext (.ref I)) _ >>= _) _ _ _
    refine wpAny_bind (wpAny_tryCatch (wpAny_pyNext_list_item (s := mk s h tk) ⟨oI, S.getO .head, ho.1, ho.2⟩ hl hv fun h₁ hit₁ hs₁ => ?_))
    obtain ⟨o1, g1, g2, g3⟩ := hit₁
    have S1 : St h₀ L h₁ m ls ((I, o1) :: (B, seqObj "list" #[vb, .int (f db) tb] c) :: ob) nw' := S.turned .head hs₁ g1
    show wpAny _ A.in1 (tryCatch (holding [v] (call (.ref ka) [v])) _ >>= _) _ _ _
    refine wpAny_bind (wpAny_tryCatch (wpAny_holding (r_lam C.in1 S1 hL hr1 (hO d (List.mem_of_getElem? hd)) fun h₂ tk₂ nw2 t hnw2 S2 => ?_)))
    show wpAny _ A.in1 (tryCatch (holding [v, .int (f d) t] (richCompare .Lt (.int (f d) t) (.int (f db) tb) >>= _)) _ >>= _) _ _ _
    refine wpAny_bind (wpAny_tryCatch (wpAny_holding (wpAny_bind (lt_int (s := mk s h₂ tk₂) ?_))))
    refine wpAny_bind (wpAny_holding (wpAny_truthy_bool ?_))
    refine wpAny_bind (wpAny_letGo (wpAny_pure ?_))
    have hb2 : bestK_min f (if f d < f db then d else db) (ds.drop (j + 1)) = res := hb
    have hr2 := RelIn.mono hr1 hnw2
    have hnw3 : ∀ p ∈ nw, p ∈ nw2 := fun p hp => hnw2 p (hnw p hp)
    by_cases hc : f d < f db
    · rw [if_pos hc] at hb2
      rw [if_pos (by simpa using hc)]
      obtain ⟨c2, hc2⟩ : ∃ c2, (h₂.update B (Obj.mapSeq fun _ => #[v, .int (f d) t])).get? B = some (seqObj "list" #[v, .int (f d) t] c2) := ⟨_, get?_update_seq (S2.getO (.tail .head)) fun _ => #[v, .int (f d) t]⟩
      refine wpAny_bind ?_
      refine wpAny_updateSeq (s := mk s h₂ tk₂) (S2.getO (.tail .head)) rfl (wpAny_bind (wpAny_letGo ?_))
      rw [hname]
      exact wpAny_pure ⟨plainId_quiet PySem.F.plain_min_loop _, ih (j + 1) d v t c2 o1 _ tk₂ nw2 hnw3 (hL.mono hnw2) (f_step hr.symm).symm hlt ⟨g2, g3⟩ hr2 hb2 (S2.turned (.tail .head) (Heap.SameBut.update ..) hc2)⟩
    · rw [if_neg hc] at hb2
      rw [if_neg (by simpa using hc)]
      refine wpAny_bind (wpAny_letGo ?_)
      rw [hname]
      exact wpAny_pure ⟨plainId_quiet PySem.F.plain_min_loop _, ih (j + 1) db vb tb c o1 _ tk₂ nw2 hnw3 (hL.mono hnw2) (f_step hr.symm).symm hlt ⟨g2, g3⟩ (RelIn.mono hvb hnw2) hb2 S2⟩
theorem kw_minK (a d : Value) (kf : Addr) : argsOk "min" ⟨[a], [(Str.ofString "default", d), (Str.ofString "key", .ref kf)]⟩ := by unfold argsOk; kernel_rfl
theorem r_minK {I l : Addr} {oI : Obj} {dflt : Value} {Q : Value → Shared → Prop} (C : Cx X mg mb A h₀ L (k + 2)) (hO : ∀ d ∈ ds, LamOk X k ps b sc d (f d)) (hL : LamAt nw ps b sc ka) (S : St h₀ L h m ls ((I, oI) :: ob) nw) (ho : IsLI oI l 0) (U : At l .p ds ls g)
    (q0 : ds = [] → ∀ h' tk', St h₀ L h' m ls ob nw → Q dflt (mk s h' tk'))
    (q : ∀ d ds' v h' tk' nw', ds = d :: ds' → (∀ p ∈ nw, p ∈ nw') → RelIn nw' .p v (bestK_min f d ds') → St h₀ L h' m ls ob nw' → Q v (mk s h' tk')) :
    wpAny (model prog w) A (call (.builtin "min") [.ref I] [(Str.ofString "default", dflt), (Str.ofString "key", .ref ka)]) Q E (mk s h tk) := by
  have hname : (toString "min" ++ toString ".loop" : String) = "min.loop" := by decide
  refine kmk_tree PySem.F.kind_min PySem.F.plain_min PySem.F.entry_min (kw_minK _ _ _) ?_
  show wpAny _ A.in1 (Builtin.Builtins.bindParams "min" ["key", "default"] 0 ⟨[], [(Str.ofString "default", dflt), (Str.ofString "key", .ref ka)]⟩ >>= _) _ _ _
  refine wpAny_bind (wpAny_of_eq (show Builtin.Builtins.bindParams "min" ["key", "default"] 0 ⟨[], [(Str.ofString "default", dflt), (Str.ofString "key", .ref ka)]⟩ = pure [some (.ref ka), some dflt] from rfl) ?_)
  refine wpAny_bind (wpAny_pure ?_)
  refine wpAny_bind (r_pyIterLI S .head ho ?_)
  refine wpAny_bind (wpAny_newList ?_ (Nat.zero_le _))
  rw [hname]
  have S0 : St h₀ L (h.push (seqObj "list" #[] 0)) m ls ((h.objs.size, seqObj "list" #[] 0) :: (I, oI) :: ob) nw := S.addO (fun _ _ e => Heap.get?_push_of_some _ e) (Nat.le_refl _) (Heap.get?_push_size _ rfl)
  have S1 := S0.swapO
  refine wpAny_pure ⟨plainId_quiet PySem.F.plain_min_loop _, ?_⟩
  show codeAny (model prog w) A (.builtin "min.loop" ⟨[.ref I, .ref ka, .ref h.objs.size], [(Str.ofString "default", dflt)]⟩) _ (mk s (h.push (seqObj "list" #[] 0)) tk)
  obtain ⟨h1, hyh1⟩ : ∃ y, y = h.push (seqObj "list" #[] 0) := ⟨_, rfl⟩
  rw [← hyh1] at S1 ⊢
  clear hyh1
  obtain ⟨B, hyB⟩ : ∃ y, y = h.objs.size := ⟨_, rfl⟩
  rw [← hyB] at S1 ⊢
  clear hyB
  refine codeAny_builtin PySem.F.entry_min_loop ?_
  rw [Around.under_plainId PySem.F.plain_min_loop _]
  show wpAny _ A.in1 (seqItems? (.ref B) >>= _) _ _ _
  refine wpAny_bind (wpAny_seqItems (S1.getO (.tail .head)) rfl ?_)
  show wpAny _ A.in1 (tryCatch (pyNext (.ref I)) _ >>= _) _ _ _
  cases ds with
  | nil =>
    obtain ⟨vs, n, hl, hrel⟩ := S1.isList U
    have hvs : vs = [] := by cases hrel; rfl
    subst hvs
    refine wpAny_bind (wpAny_tryCatch (wpAny_pyNext_list_end (s := mk s h1 tk) C.handled ⟨oI, S1.getO .head, ho.1, ho.2⟩ (PySem.IsL.isList (n := n) hl) (by simp) fun h₁ he₁ => ?_))
    have S2 := (S1.lost he₁).dropO
    show wpAny _ A.in1 (rule _ >>= _) _ _ _
    exact wpAny_bind (wpAny_rule (wpAny_pure (q0 rfl _ _ S2)))
  | cons d ds' =>
    obtain ⟨items, v, hl, hv, hr1⟩ := S1.listAt U (j := 0) (d := d) rfl
    refine wpAny_bind (wpAny_tryCatch (wpAny_pyNext_list_item (s := mk s h1 tk) ⟨oI, S1.getO .head, ho.1, ho.2⟩ hl hv fun h₁ hit₁ hs₁ => ?_))
    obtain ⟨o1, g1, g2, g3⟩ := hit₁
    have S2 : St h₀ L h₁ m ls ((I, o1) :: (B, seqObj "list" #[] 0) :: ob) nw := S1.turned .head hs₁ g1
    show wpAny _ A.in1 (tryCatch (holding [v] (call (.ref ka) [v])) _ >>= _) _ _ _
    refine wpAny_bind (wpAny_tryCatch (wpAny_holding (r_lam C.in1 S2 hL hr1 (hO d (.head _)) fun h₂ tk₂ nw2 t hnw2 S3 => ?_)))
    show wpAny _ A.in1 (updateSeq B (fun _ => #[v, .int (f d) t]) >>= _) _ _ _
    obtain ⟨c2, hc2⟩ : ∃ c2, (h₂.update B (Obj.mapSeq fun _ => #[v, .int (f d) t])).get? B = some (seqObj "list" #[v, .int (f d) t] c2) := ⟨_, get?_update_seq (S3.getO (.tail .head)) fun _ => #[v, .int (f d) t]⟩
    refine wpAny_bind ?_
    refine wpAny_updateSeq (s := mk s h₂ tk₂) (S3.getO (.tail .head)) rfl ?_
    rw [hname]
    exact wpAny_pure ⟨plainId_quiet PySem.F.plain_min_loop _, min_loopK (nw := nw) C hO U (fun v h' tk' nw' hn hv S' => q d ds' v h' tk' nw' rfl hn hv S') _ 1 d v t c2 o1 _ tk₂ nw2 hnw2 (hL.mono hnw2) rfl (by simp) ⟨g2, g3⟩ (RelIn.mono hr1 hnw2) rfl (S3.turned (.tail .head) (Heap.SameBut.update ..) hc2)⟩
end
noncomputable def bestK_max (f : D → Int) (b : D) (ds : List D) : D := ds.foldl (fun b d => if f d > f b then d else b) b
section
variable {X : Pg} {mg mb : Str → Option Value} {prog : Program} {w : World} {A : Around} {E : Value → Shared → Prop} {s : Shared} {h : Heap} {tk : Nat} {h₀ : Base} {L : Addr} {m : Str → Option Value} {ls : List Ent} {ob nw : Led} {ds : List D} {g : List D → List Ent} {k : Nat} {ps : Arguments} {b : PySem.Expr} {sc : Scope} {ka : Addr} {f : D → Int}
theorem max_loopK {I B l : Addr} {dflt : Value} {res : D} {R : Result → Shared → Prop} (C : Cx X mg mb A h₀ L (k + 2)) (hO : ∀ d ∈ ds, LamOk X k ps b sc d (f d)) (U : At l .p ds ls g)
    (hR : ∀ v h' tk' nw', (∀ p ∈ nw, p ∈ nw') → RelIn nw' .p v res → St h₀ L h' m ls ob nw' → R (.ok (.ret v)) (mk s h' tk')) :
    ∀ (r j : Nat) (db : D) (vb : Value) (tb : Tok) (c : Nat) (oI : Obj) (h : Heap) (tk : Nat) (nw' : Led), (∀ p ∈ nw, p ∈ nw') → LamAt nw' ps b sc ka → ds.length - j = r → j ≤ ds.length → IsLI oI l j → RelIn nw' .p vb db → bestK_max f db (ds.drop j) = res →
      St h₀ L h m ls ((I, oI) :: (B, seqObj "list" #[vb, .int (f db) tb] c) :: ob) nw' → codeAny (model prog w) A (.builtin "max.loop" ⟨[.ref I, .ref ka, .ref B], [(Str.ofString "default", dflt)]⟩) R (mk s h tk) := by
  have hname : (toString "max" ++ toString ".loop" : String) = "max.loop" := by decide
  intro r
  induction r with
  | zero =>
    intro j db vb tb c oI h tk nw' hnw hL hr hj ho hvb hb S
    have hj' : j = ds.length := Nat.le_antisymm hj (Nat.le_of_sub_eq_zero hr)
    subst hj'
    have hres : db = res := by rw [← hb]; simp [bestK_max]
    subst hres
    obtain ⟨vs, n, hl, hrel⟩ := S.isList U
    have hvs := hrel.len
    refine codeAny_builtin PySem.F.entry_max_loop ?_
    rw [Around.under_plainId PySem.F.plain_max_loop _]
    show wpAny _ A.in1 (seqItems? (.ref B) >>= _) _ _ _
    refine wpAny_bind (wpAny_seqItems (S.getO (.tail .head)) rfl ?_)
    show wpAny _ A.in1 (tryCatch (pyNext (.ref I)) _ >>= _) _ _ _
    refine wpAny_bind (wpAny_tryCatch (wpAny_pyNext_list_end (s := mk s h tk) C.handled ⟨oI, S.getO .head, ho.1, ho.2⟩ (PySem.IsL.isList (n := n) hl) (by simp; lia) fun h₁ he₁ => ?_))
    have S1 := S.lost he₁
    show wpAny _ A.in1 (updateSeq B (fun _ => #[]) >>= _) _ _ _
    refine wpAny_bind ?_
    refine wpAny_updateSeq (s := mk s h₁ tk) (S1.getO .head) rfl (wpAny_bind (wpAny_letGo (wpAny_pure ?_)))
    exact hR vb _ tk nw' hnw hvb (S1.lost (Heap.SameBut.update ..).extBut)
  | succ r ih =>
    intro j db vb tb c oI h tk nw' hnw hL hr hj ho hvb hb S
    have hlt : j < ds.length := f_lt hr.symm
    obtain ⟨d, hd⟩ : ∃ d, ds[j]? = some d := ⟨_, List.getElem?_eq_getElem hlt⟩
    obtain ⟨items, v, hl, hv, hr1⟩ := S.listAt U hd
    rw [drop_cons hd] at hb
    refine codeAny_builtin PySem.F.entry_max_loop ?_
    rw [Around.under_plainId PySem.F.plain_max_loop _]
    show wpAny _ A.in1 (seqItems? (.ref B) >>= _) _ _ _
    refine wpAny_bind (wpAny_seqItems (S.getO (.tail .head)) rfl ?_)
    show wpAny _ A.in1 (tryCatch (pyNext (.ref I)) _ >>= _) _ _ _
    refine wpAny_bind (wpAny_tryCatch (wpAny_pyNext_list_item (s := mk s h tk) ⟨oI, S.getO .head, ho.1, ho.2⟩ hl hv fun h₁ hit₁ hs₁ => ?_))
    obtain ⟨o1, g1, g2, g3⟩ := hit₁
    have S1 : St h₀ L h₁ m ls ((I, o1) :: (B, seqObj "list" #[vb, .int (f db) tb] c) :: ob) nw' := S.turned .head hs₁ g1
    show wpAny _ A.in1 (tryCatch (holding [v] (call (.ref ka) [v])) _ >>= _) _ _ _
    refine wpAny_bind (wpAny_tryCatch (wpAny_holding (r_lam C.in1 S1 hL hr1 (hO d (List.mem_of_getElem? hd)) fun h₂ tk₂ nw2 t hnw2 S2 => ?_)))
    show wpAny _ A.in1 (tryCatch (holding [v, .int (f d) t] (richCompare .Gt (.int (f d) t) (.int (f db) tb) >>= _)) _ >>= _) _ _ _
    refine wpAny_bind (wpAny_tryCatch (wpAny_holding (wpAny_bind (gt_int (s := mk s h₂ tk₂) ?_))))
    refine wpAny_bind (wpAny_holding (wpAny_truthy_bool ?_))
    refine wpAny_bind (wpAny_letGo (wpAny_pure ?_))
    have hb2 : bestK_max f (if f d > f db then d else db) (ds.drop (j + 1)) = res := hb
    have hr2 := RelIn.mono hr1 hnw2
    have hnw3 : ∀ p ∈ nw, p ∈ nw2 := fun p hp => hnw2 p (hnw p hp)
    by_cases hc : f d > f db
    · rw [if_pos hc] at hb2
      rw [if_pos (by simpa using hc)]
      obtain ⟨c2, hc2⟩ : ∃ c2, (h₂.update B (Obj.mapSeq fun _ => #[v, .int (f d) t])).get? B = some (seqObj "list" #[v, .int (f d) t] c2) := ⟨_, get?_update_seq (S2.getO (.tail .head)) fun _ => #[v, .int (f d) t]⟩
      refine wpAny_bind ?_
      refine wpAny_updateSeq (s := mk s h₂ tk₂) (S2.getO (.tail .head)) rfl (wpAny_bind (wpAny_letGo ?_))
      rw [hname]
      exact wpAny_pure ⟨plainId_quiet PySem.F.plain_max_loop _, ih (j + 1) d v t c2 o1 _ tk₂ nw2 hnw3 (hL.mono hnw2) (f_step hr.symm).symm hlt ⟨g2, g3⟩ hr2 hb2 (S2.turned (.tail .head) (Heap.SameBut.update ..) hc2)⟩
    · rw [if_neg hc] at hb2
      rw [if_neg (by simpa using hc)]
      refine wpAny_bind (wpAny_letGo ?_)
      rw [hname]
      exact wpAny_pure ⟨plainId_quiet PySem.F.plain_max_loop _, ih (j + 1) db vb tb c o1 _ tk₂ nw2 hnw3 (hL.mono hnw2) (f_step hr.symm).symm hlt ⟨g2, g3⟩ (RelIn.mono hvb hnw2) hb2 S2⟩
theorem kw_maxK (a d : Value) (kf : Addr) : argsOk "max" ⟨[a], [(Str.ofString "default", d), (Str.ofString "key", .ref kf)]⟩ := by unfold argsOk; kernel_rfl
theorem r_maxK {I l : Addr} {oI : Obj} {dflt : Value} {Q : Value → Shared → Prop} (C : Cx X mg mb A h₀ L (k + 2)) (hO : ∀ d ∈ ds, LamOk X k ps b sc d (f d)) (hL : LamAt nw ps b sc ka) (S : St h₀ L h m ls ((I, oI) :: ob) nw) (ho : IsLI oI l 0) (U : At l .p ds ls g)
    (q0 : ds = [] → ∀ h' tk', St h₀ L h' m ls ob nw → Q dflt (mk s h' tk'))
    (q : ∀ d ds' v h' tk' nw', ds = d :: ds' → (∀ p ∈ nw, p ∈ nw') → RelIn nw' .p v (bestK_max f d ds') → St h₀ L h' m ls ob nw' → Q v (mk s h' tk')) :
    wpAny (model prog w) A (call (.builtin "max") [.ref I] [(Str.ofString "default", dflt), (Str.ofString "key", .ref ka)]) Q E (mk s h tk) := by
  have hname : (toString "max" ++ toString ".loop" : String) = "max.loop" := by decide
  refine kmk_tree PySem.F.kind_max PySem.F.plain_max PySem.F.entry_max (kw_maxK _ _ _) ?_
  show wpAny _ A.in1 (Builtin.Builtins.bindParams "max" ["key", "default"] 0 ⟨[], [(Str.ofString "default", dflt), (Str.ofString "key", .ref ka)]⟩ >>= _) _ _ _
  refine wpAny_bind (wpAny_of_eq (show Builtin.Builtins.bindParams "max" ["key", "default"] 0 ⟨[], [(Str.ofString "default", dflt), (Str.ofString "key", .ref ka)]⟩ = pure [some (.ref ka), some dflt] from rfl) ?_)
  refine wpAny_bind (wpAny_pure ?_)
  refine wpAny_bind (r_pyIterLI S .head ho ?_)
  refine wpAny_bind (wpAny_newList ?_ (Nat.zero_le _))
  rw [hname]
  have S0 : St h₀ L (h.push (seqObj "list" #[] 0)) m ls ((h.objs.size, seqObj "list" #[] 0) :: (I, oI) :: ob) nw := S.addO (fun _ _ e => Heap.get?_push_of_some _ e) (Nat.le_refl _) (Heap.get?_push_size _ rfl)
  have S1 := S0.swapO
  refine wpAny_pure ⟨plainId_quiet PySem.F.plain_max_loop _, ?_⟩
  show codeAny (model prog w) A (.builtin "max.loop" ⟨[.ref I, .ref ka, .ref h.objs.size], [(Str.ofString "default", dflt)]⟩) _ (mk s (h.push (seqObj "list" #[] 0)) tk)
  obtain ⟨h1, hyh1⟩ : ∃ y, y = h.push (seqObj "list" #[] 0) := ⟨_, rfl⟩
  rw [← hyh1] at S1 ⊢
  clear hyh1
  obtain ⟨B, hyB⟩ : ∃ y, y = h.objs.size := ⟨_, rfl⟩
  rw [← hyB] at S1 ⊢
  clear hyB
  refine codeAny_builtin PySem.F.entry_max_loop ?_
  rw [Around.under_plainId PySem.F.plain_max_loop _]
  show wpAny _ A.in1 (seqItems? (.ref B) >>= _) _ _ _
  refine wpAny_bind (wpAny_seqItems (S1.getO (.tail .head)) rfl ?_)
  show wpAny _ A.in1 (tryCatch (pyNext (.ref I)) _ >>= _) _ _ _
  cases ds with
  | nil =>
    obtain ⟨vs, n, hl, hrel⟩ := S1.isList U
    have hvs : vs = [] := by cases hrel; rfl
    subst hvs
    refine wpAny_bind (wpAny_tryCatch (wpAny_pyNext_list_end (s := mk s h1 tk) C.handled ⟨oI, S1.getO .head, ho.1, ho.2⟩ (PySem.IsL.isList (n := n) hl) (by simp) fun h₁ he₁ => ?_))
    have S2 := (S1.lost he₁).dropO
    show wpAny _ A.in1 (rule _ >>= _) _ _ _
    exact wpAny_bind (wpAny_rule (wpAny_pure (q0 rfl _ _ S2)))
  | cons d ds' =>
    obtain ⟨items, v, hl, hv, hr1⟩ := S1.listAt U (j := 0) (d := d) rfl
    refine wpAny_bind (wpAny_tryCatch (wpAny_pyNext_list_item (s := mk s h1 tk) ⟨oI, S1.getO .head, ho.1, ho.2⟩ hl hv fun h₁ hit₁ hs₁ => ?_))
    obtain ⟨o1, g1, g2, g3⟩ := hit₁
    have S2 : St h₀ L h₁ m ls ((I, o1) :: (B, seqObj "list" #[] 0) :: ob) nw := S1.turned .head hs₁ g1
    show wpAny _ A.in1 (tryCatch (holding [v] (call (.ref ka) [v])) _ >>= _) _ _ _
    refine wpAny_bind (wpAny_tryCatch (wpAny_holding (r_lam C.in1 S2 hL hr1 (hO d (.head _)) fun h₂ tk₂ nw2 t hnw2 S3 => ?_)))
    show wpAny _ A.in1 (updateSeq B (fun _ => #[v, .int (f d) t]) >>= _) _ _ _
    obtain ⟨c2, hc2⟩ : ∃ c2, (h₂.update B (Obj.mapSeq fun _ => #[v, .int (f d) t])).get? B = some (seqObj "list" #[v, .int (f d) t] c2) := ⟨_, get?_update_seq (S3.getO (.tail .head)) fun _ => #[v, .int (f d) t]⟩
    refine wpAny_bind ?_
    refine wpAny_updateSeq (s := mk s h₂ tk₂) (S3.getO (.tail .head)) rfl ?_
    rw [hname]
    exact wpAny_pure ⟨plainId_quiet PySem.F.plain_max_loop _, max_loopK (nw := nw) C hO U (fun v h' tk' nw' hn hv S' => q d ds' v h' tk' nw' rfl hn hv S') _ 1 d v t c2 o1 _ tk₂ nw2 hnw2 (hL.mono hnw2) rfl (by simp) ⟨g2, g3⟩ (RelIn.mono hr1 hnw2) rfl (S3.turned (.tail .head) (Heap.SameBut.update ..) hc2)⟩
end
end Mine
end
section
namespace Mine
noncomputable def ltK (f : D → Int) (ds : List D) : Nat → Nat → Bool := fun i j => decide (f (ds.getD i []) < f (ds.getD j []))
noncomputable def sortK (f : D → Int) (ds : List D) : List D := if ds.length < 2 then ds else (ev (ltK f ds) (kas_sort ds.length)).toList.map fun i => ds.getD i []
noncomputable def sortKB (f : D → Int) (b : Bool) (ds : List D) : List D := katRev b (sortK f (katRev b ds))
theorem ltK_swo (f : D → Int) (ds : List D) : Swo (ltK f ds) :=
  ⟨fun _ => by simp [ltK], fun _ _ _ h1 h2 => by simp [ltK] at h1 h2 ⊢; lia, fun _ _ _ h1 h2 => by simp [ltK] at h1 h2 ⊢; lia⟩
theorem sortKB_small {f : D → Int} {b : Bool} {ds : List D} (h : ds.length < 2) : sortKB f b ds = ds := by
  unfold sortKB sortK
  rw [if_pos (by rw [kat_len]; exact h)]
  unfold katRev; split <;> simp
theorem ints_get {vs : List Value} {ns : List Int} (h : IntsAre vs ns) : ∀ {i : Nat} {z : Int}, ns[i]? = some z → ∃ t, vs[i]? = some (.int z t) := by
  induction h with
  | nil => intro i z h; cases h
  | cons n t _ ih =>
    intro i z h
    cases i with
    | zero => cases h; exact ⟨t, rfl⟩
    | succ i => exact ih h
theorem ints_rev {vs : List Value} {ns : List Int} (h : IntsAre vs ns) (b : Bool) : IntsAre (katRev b vs) (katRev b ns) := by
  unfold katRev; split
  · induction h with
    | nil => exact .nil
    | cons n t _ ih => rw [List.reverse_cons, List.reverse_cons]; exact ksk_snoc ih
  · exact h
theorem katRev_map {α β : Type} (b : Bool) (f : α → β) (l : List α) : katRev b (l.map f) = (katRev b l).map f := by
  unfold katRev; split <;> simp
theorem St.castL1 {B : Base} {L a : Addr} {h : Heap} {m : Str → Option Value} {ls : List Ent} {ob nw : Led} {k : Kd} {ds : List D} {us : List Value} {n : Nat} (S : St B L h m ls ((a, listOf us.toArray n) :: ob) nw) (hr : All2 (RelIn nw k) us ds) : St B L h m ((a, k, ds) :: ls) ob nw := by
  have S3 := S.castL (.head _) hr
  have hnd := (List.nodup_append.mp (List.nodup_append.mp S.apart.1).2.1).1
  rw [List.map_cons, List.nodup_cons] at hnd
  have e : Led.rm a ((a, listOf us.toArray n) :: ob) = ob := by
    unfold Led.rm
    rw [List.filter_cons, if_neg (by simp)]
    refine List.filter_eq_self.mpr fun p hp => ?_
    simp only [decide_eq_true_eq, ne_eq]
    exact fun q => hnd.1 (q ▸ List.mem_map_of_mem (f := (·.1)) hp)
  rw [e] at S3
  exact S3
section
variable {X : Pg} {mg mb : Str → Option Value} {prog : Program} {w : World} {A : Around} {E : Value → Shared → Prop} {s : Shared} {h : Heap} {tk : Nat} {h₀ : Base} {L a : Addr} {m : Str → Option Value} {ls : List Ent} {ob nw : Led} {ds : List D} {g : List D → List Ent} {k : Nat} {ps : Arguments} {b : PySem.Expr} {sc : Scope} {ka : Addr} {f : D → Int} {rv : Bool}
theorem sort_treeK {P : PySem.Fin → Shared → Prop} {vs : List Value} {c : Nat} (C : Cx X mg mb A h₀ L (k + 1)) (hO : ∀ d ∈ ds, LamOk X k ps b sc d (f d)) (hL : LamAt nw ps b sc ka) (S : St h₀ L h m ls ((a, seqObj "list" vs.toArray c) :: ob) nw) (ha : All2 (RelIn nw .p) vs ds) (hz : ds.length < 64)
    (q : ∀ h' tk' nw' out c', (∀ p ∈ nw, p ∈ nw') → All2 (RelIn nw' .p) out (sortKB f rv ds) → St h₀ L h' m ls ((a, seqObj "list" out.toArray c') :: ob) nw' → P (.done (.ret .none)) (mk s h' tk')) : wpAny (model prog w) A (ksk_tree a (.ref ka) rv) P E (mk s h tk) := by
  have hlen := ha.len
  have ho : (mk s h tk).heap.get? a = some (seqObj "list" vs.toArray c) := S.getO .head
  unfold ksk_tree
  refine wpAny_bind (listItems_at ho rfl ?_)
  refine wpAny_bind (listUpdate_at ho rfl ?_ (by rw [List.size_toArray, sizeLine_eq]; lia) (Nat.zero_le _))
  obtain ⟨e1, ho1⟩ : ∃ e1, (h.update a (Obj.mapSeq fun _ => (#[] : Array Value))).get? a = some (seqObj "list" #[] e1) := ⟨_, get?_update_seq ho fun _ => #[]⟩
  refine wpAny_bind (seqEpoch_at ho1 rfl ?_)
  refine wpAny_bind (wpAny_newTuple ?_ (by show vs.length ≤ _; rw [sizeLine_eq]; lia))
  refine wpAny_bind (wpAny_newList ?_ (Nat.zero_le _))
  refine wpAny_holding ?_
  have S1 : St h₀ L (h.update a (Obj.mapSeq fun _ => (#[] : Array Value))) m ls ((a, seqObj "list" #[] e1) :: ob) nw := S.turned .head (Heap.SameBut.update ..) ho1
  have S5 : St h₀ L ((h.update a (Obj.mapSeq fun _ => (#[] : Array Value))).push (seqObj "tuple" vs.toArray 0)) m ls ((a, seqObj "list" #[] e1) :: ob) nw := S1.grown fun _ _ e => Heap.get?_push_of_some _ e
  have S6 := S5.addO (h' := ((h.update a (Obj.mapSeq fun _ => (#[] : Array Value))).push (seqObj "tuple" vs.toArray 0)).push (seqObj "list" #[] 0)) (fun _ _ e => Heap.get?_push_of_some _ e) (Nat.le_refl _) (Heap.get?_push_size _ rfl)
  show wpAny (model prog w) A (ksk_rest a (.ref ka) rv vs.toArray _ (.ref ((h.update a (Obj.mapSeq fun _ => (#[] : Array Value))).push (seqObj "tuple" vs.toArray 0)).objs.size)) P E (mk s (((h.update a (Obj.mapSeq fun _ => (#[] : Array Value))).push (seqObj "tuple" vs.toArray 0)).push (seqObj "list" #[] 0)) tk)
  obtain ⟨kS, hykS⟩ : ∃ y, y = ((h.update a (Obj.mapSeq fun _ => (#[] : Array Value))).push (seqObj "tuple" vs.toArray 0)).objs.size := ⟨_, rfl⟩
  rw [← hykS] at S6 ⊢
  clear hykS
  obtain ⟨h6, hyh6⟩ : ∃ y, y = (((h.update a (Obj.mapSeq fun _ => (#[] : Array Value))).push (seqObj "tuple" vs.toArray 0)).push (seqObj "list" #[] 0)) := ⟨_, rfl⟩
  rw [← hyh6] at S6 ⊢
  clear hyh6
  clear S1 S5
  unfold ksk_rest
  refine wpAny_bind (wpAny_rule ?_)
  rw [List.forIn_toArray]
  refine wpAny_bind (ksk_fold (fun i s' => ∃ h' tk' kA e nw', s' = mk s h' tk' ∧ (∀ p ∈ nw, p ∈ nw') ∧ St h₀ L h' m ls ((kS, seqObj "list" kA e) :: (a, seqObj "list" #[] e1) :: ob) nw' ∧ IntsAre kA.toList ((ds.map f).take i)) vs 0 _
    ⟨h6, tk, #[], 0, nw, rfl, fun _ h => h, S6, by simpa using IntsAre.nil⟩ ?step ?done)
  case step =>
    rintro j x s' hx ⟨h', tk', kA, e, nw', rfl, hn, S', hk⟩
    simp only [Nat.zero_add] at hk ⊢
    have hj : j < vs.length := (List.getElem?_eq_some_iff.mp hx).1
    obtain ⟨d, hd, hr⟩ := ha.get' hx
    have hz' : kA.size ≤ vs.length := by
      have h1 := hk.length
      rw [Array.length_toList, List.length_take] at h1
      lia
    refine wpAny_bind (wpAny_attempt (r_lam C S' (hL.mono hn) (hr.mono hn) (hO d (List.mem_of_getElem? hd)) fun h₂ tk₂ nw2 t hnw2 S2 => ?_))
    have hg := S2.getO .head
    obtain ⟨c2, hc2⟩ : ∃ c2, (h₂.update kS (Obj.mapSeq (·.push (.int (f d) t)))).get? kS = some (seqObj "list" (kA.push (.int (f d) t)) c2) := ⟨_, get?_update_seq hg (·.push (.int (f d) t))⟩
    refine wpAny_bind (listUpdate_at (s := mk s h₂ tk₂) hg rfl ?_ (by rw [sizeLine_eq]; lia) (Nat.le_trans (Nat.le_of_eq (Array.size_push ..)) (by rw [sizeLine_eq]; lia)))
    refine wpAny_pure ⟨rfl, _, tk₂, _, c2, nw2, rfl, fun p hp => hnw2 p (hn p hp), S2.turned .head (Heap.SameBut.update ..) hc2, ?_⟩
    have ek : (ds.map f).take (j + 1) = (ds.map f).take j ++ [f d] := by rw [List.take_add_one]; simp [hd]
    rw [ek, show (kA.push (Value.int (f d) t)).toList = kA.toList ++ [Value.int (f d) t] by simp]
    exact ksk_snoc hk
  case done =>
    rintro s' ⟨h', tk', kA, e, nw', rfl, hn, S', hk⟩
    have hk : IntsAre kA.toList (ds.map f) := by
      rw [List.take_of_length_le (by simp [hlen])] at hk
      exact hk
    have hkl : kA.toList.length = ds.length := by rw [hk.length, List.length_map]
    obtain ⟨ks, rfl⟩ : ∃ ks : List Value, kA = ks.toArray := ⟨kA.toList, by simp⟩
    simp only [List.toList_toArray] at hk hkl
    refine wpAny_bind (listItems_at (s := mk s h' tk') (S'.getO .head) rfl ?_)
    have ha' : All2 (RelIn nw' .p) vs ds := ha.mono fun _ _ r => RelIn.mono r hn
    have fin : ∀ (st : SortSt) (out : List Value), failedOf st = none → (if rv = true then ((arrOf st).map (·.2)).reverse else (arrOf st).map (·.2)) = out.toArray → All2 (RelIn nw' .p) out (sortKB f rv ds) → wpAny (model prog w) A (ksk_tail a rv e1 (.ref kS) st) P E (mk s h' tk') := fun st out hf ho hr => by
      have hg := S'.getO .head
      have hol : out.length = ds.length := by
        rw [hr.len]; unfold sortKB sortK; rw [kat_len]
        split
        · exact kat_len ..
        · rename_i h
          rw [List.length_map, Array.length_toList, (sort_ev (ltK_swo f (katRev rv ds)) (by lia)).size, kat_len]
      unfold ksk_tail
      dsimp only
      refine wpAny_bind (listUpdate_at (s := mk s h' tk') hg rfl ?_ (by rw [List.size_toArray, hkl, sizeLine_eq]; lia) (Nat.zero_le _))
      refine wpAny_bind (wpAny_letGo ?_)
      have S2 := S'.lost (Heap.SameBut.update h' kS (Obj.mapSeq fun _ => (#[] : Array Value))).extBut
      have hg2 := S2.getO .head
      refine wpAny_bind (seqEpoch_at (s := mk s (h'.update kS (Obj.mapSeq fun _ => (#[] : Array Value))) tk') hg2 rfl ?_)
      rw [ho]
      refine wpAny_bind (listUpdate_at (s := mk s (h'.update kS (Obj.mapSeq fun _ => (#[] : Array Value))) tk') hg2 rfl ?_ (Nat.zero_le _) (by rw [List.size_toArray, hol, sizeLine_eq]; lia))
      rw [hf]
      simp only [bne_self_eq_false, Bool.false_eq_true, if_false]
      obtain ⟨c2, hc2⟩ : ∃ c2, ((h'.update kS (Obj.mapSeq fun _ => (#[] : Array Value))).update a (Obj.mapSeq fun _ => out.toArray)).get? a = some (seqObj "list" out.toArray c2) := ⟨_, get?_update_seq hg2 fun _ => out.toArray⟩
      exact wpAny_pure (q _ tk' nw' out c2 hn hr (S2.turned .head (Heap.SameBut.update ..) hc2))
    unfold ksk_end
    dsimp only
    have step : ∀ t : Sem PySem.Fin, wpAny (model prog w) A t P E (mk s h' tk') → wpAny (model prog w) A (if rv = true then (do let _ ← rule "list.sort.reverse"; t) else t) P E (mk s h' tk') := by
      intro t ht
      split
      · exact wpAny_bind (wpAny_rule ht)
      · exact ht
    refine step _ ?_
    have hsz : vs.toArray.size = vs.length := by simp
    have hpairs := kat_pairs rv (ks := ks) (vs := vs) (by lia)
    rw [hpairs]
    have hl1 : (katRev rv ks).length = vs.length := by rw [kat_len]; lia
    have hl' : (katRev rv vs).length = vs.length := kat_len rv vs
    have hd' : (katRev rv ds).length = ds.length := kat_len rv ds
    have hr' := ha'.rev rv
    have hkr := ints_rev hk rv
    rw [katRev_map] at hkr
    by_cases hl2 : vs.toArray.size < 2
    · rw [if_pos hl2, if_pos hl2]
      refine wpAny_bind (wpAny_pure ?_)
      rw [StateT.run_pure]
      refine wpAny_bind (wpAny_pure ?_)
      refine fin _ vs rfl ?_ (by rw [sortKB_small (by lia)]; exact ha')
      have e2 : (Array.map (fun x : Keyed => x.2) ((katRev rv ks).toArray.zip (katRev rv vs).toArray)) = (katRev rv vs).toArray := by
        apply Array.toList_inj.mp
        simp only [Array.toList_map, Array.toList_zip]
        rw [List.map_snd_zip]
        lia
      show (if rv = true then (Array.map (fun x : Keyed => x.2) ((katRev rv ks).toArray.zip (katRev rv vs).toArray)).reverse else Array.map (fun x : Keyed => x.2) ((katRev rv ks).toArray.zip (katRev rv vs).toArray)) = _
      rw [e2, kat_outs]
      unfold katRev
      cases rv <;> simp
    · rw [if_neg hl2, if_neg hl2]
      rw [ksk_kind (keys := ks.toArray) hk (by simp; lia)]
      refine wpAny_bind (wpAny_pure ?_)
      obtain ⟨lt, hlt⟩ : ∃ lt : Nat → Nat → Bool, lt = ltK f (katRev rv ds) := ⟨_, rfl⟩
      refine wpAny_bind (wpAny_mono (kat_run (A := A) (E := E) (s := mk s h' tk') (κ := oneType') (ks := katRev rv ks) (vs := katRev rv vs)
        (Q := fun st' s' => s' = mk s h' tk' ∧ failedOf st' = none ∧ arrOf st' = (ev lt (kas_sort (katRev rv ds).length)).map (kas_item ((katRev rv ks).toArray.zip (katRev rv vs).toArray)))
        (G := fun p s' => s' = mk s h' tk' ∧ p = ev lt (kas_sort (katRev rv ds).length)) (by lia) (by lia) (by lia)
        (fun p st' s' a1 a2 a3 a4 => ⟨a4.1, a3, by rw [a2, a4.2]⟩) ?_) ?_ fun _ _ e => e)
      · refine asked (N := (katRev rv vs).length) (lt := lt) (fun i j hi hj CC hC => ?_) _ (inr_sort (by lia)) ⟨rfl, by rw [hr'.len]⟩
        obtain ⟨d, e1', r1⟩ := hr'.get' (List.getElem?_eq_getElem hi)
        obtain ⟨d', e2', r2⟩ := hr'.get' (List.getElem?_eq_getElem hj)
        obtain ⟨t1, k1⟩ := ints_get hkr (i := i) (z := f d) (by simp [e1'])
        obtain ⟨t2, k2⟩ := ints_get hkr (i := j) (z := f d') (by simp [e2'])
        unfold kas_ask
        rw [show (katRev rv ks).getD i Value.none = .int (f d) t1 by simp [List.getD, k1], show (katRev rv ks).getD j Value.none = .int (f d') t2 by simp [List.getD, k2]]
        refine kat_lt_int ?_
        rw [hlt] at hC
        simpa [ltK, List.getD, e1', e2'] using hC
      · rintro ⟨⟨⟩, st'⟩ s' ⟨rfl, hf, har⟩
        have hout := kat_snds (ks := katRev rv ks) (vs := katRev rv vs) (by lia) har
        have hU := sort_ev (ltK_swo f (katRev rv ds)) (N := (katRev rv ds).length) (by lia)
        rw [← hlt] at hU
        refine fin st' _ hf (by rw [hout, kat_outs]) ?_
        have := (hr'.pick (ev lt (kas_sort (katRev rv ds).length)).toList fun i hi => by have := hU.perm.mem_iff.mp hi; simpa using this).rev rv
        unfold sortKB sortK
        rw [if_neg (by lia), ← hlt]
        exact this
theorem r_sortedK {l : Addr} {kw : List (Str × Value)} {Q : Value → Shared → Prop} (C : Cx X mg mb A h₀ L (k + 3)) (hO : ∀ d ∈ ds, LamOk X k ps b sc d (f d)) (hL : LamAt nw ps b sc ka) (S : St h₀ L h m ls ob nw) (U : At l .p ds ls g) (hz : ds.length < 64)
    (he : ∀ a, Builtin.«list.sort» ⟨[.ref a], kw⟩ = ksk_tree a (.ref ka) rv) (ha1 : argsOk "sorted" ⟨[.ref l], kw⟩) (ha2 : ∀ a, argsOk "list.sort" ⟨[.ref a], kw⟩)
    (q : ∀ D h' tk' nw', (∀ p ∈ nw, p ∈ nw') → St h₀ L h' m ((D, .p, sortKB f rv ds) :: ls) ob nw' → Q (.ref D) (mk s h' tk')) : wpAny (model prog w) A (call (.builtin "sorted") [.ref l] kw) Q E (mk s h tk) := by
  obtain ⟨vs, n, hl, hr⟩ := S.isList U
  have hlen := hr.len
  refine call_function_entry_kw kind_sorted plain_sorted entry_sorted ha1 ?_
  unfold Builtin.«sorted»
  refine wpAny_bind (m := checkCount "sorted" 1 1 _) (wpAny_pure ?_)
  refine wpAny_bind (collect_list (s := mk s h tk) (PySem.IsL.isList (n := n) hl) ?_ (by rw [sizeLine_eq]; lia))
  refine wpAny_bind (wpAny_newList ?_ (by rw [sizeLine_eq]; lia))
  have keep : ∀ b o, h.get? b = some o → ((h.push (seqObj "list" #[] 0)).update h.objs.size (Obj.mapSeq (· ++ vs.toArray))).get? b = some o := fun b o e => by
    have hlt : b < h.objs.size := Heap.lt_size e
    rw [Heap.get?_update_ne _ _ _ _ (Nat.ne_of_lt hlt), Heap.get?_push_ne _ _ _ (Nat.ne_of_lt hlt)]
    exact e
  have S1 := S.grown keep
  have S2 := S1.addO (o := seqObj "list" vs.toArray 0) (a := ((h.push (seqObj "list" #[] 0)).update h.objs.size (Obj.mapSeq (· ++ vs.toArray))).objs.size)
    (h' := ((h.push (seqObj "list" #[] 0)).update h.objs.size (Obj.mapSeq (· ++ vs.toArray))).push (seqObj "list" vs.toArray 0)) (fun _ _ e => Heap.get?_push_of_some _ e) (Nat.le_refl _) (Heap.get?_push_size _ rfl)
  refine wpAny_bind (wpAny_holding (wpAny_call_entry_kw slot_list_sort (s := mk s _ tk) ⟨_, S2.getO .head, rfl⟩ entry_list_sort ?_ (ha2 _)))
  show wpAny (model prog w) A.in1.in1 (Builtin.«list.sort» ⟨[.ref _], kw⟩) _ _ _
  rw [he]
  refine sort_treeK (C.in1 (k := k + 2)).in1 hO hL S2 hr hz fun h' tk' nw' out c' hn hout S' => ⟨_, rfl, wpAny_pure ⟨_, rfl, q _ h' tk' nw' hn ?_⟩⟩
  exact S'.castL1 hout
end
end Mine
end
section
namespace Mine
noncomputable def Ek (κ : K) (σ : Sg) (kws : List Keyword) (r : Rs (List AV)) : Prop := ∀ pos, Wd κ σ (fun env => evalAll ((backToKw pos (keywordEach kws env)).map (·.2))) (LR κ) r
noncomputable def OpK (κ : K) (σ : Sg) (id : String) (ns : List Str) (as ks : List AV) (r : Rs AV) : Prop :=
  ∀ c h tk G, Rep κ c σ h G → ∀ us, LR κ c G as us → ∀ vs, LR κ c G ks vs → ∀ Q E, Post κ c G (VR κ) r Q E → wpAny (model c.prog c.w) c.A (call (.builtin id) us (ns.zip vs)) Q E (mk c.s h tk)
theorem LR.mono {κ : K} {c : Kx} {G G' : Gh} {x : List Addr} {as : List AV} {us : List Value} (h : LR κ c G as us) (k : Kp x G G') : LR κ c G' as us := All2.mono h fun _ _ r => k.v r
section
variable {κ : K} {c : Kx} {σ σ₁ σ₂ σ₃ σ₄ : Sg} {h h' : Heap} {tk : Nat} {G G' : Gh} {E : Value → Shared → Prop} {I : Addr} {v : AV} {ls : List LC} {ss : List Stmt}
theorem ek_nil : Ek κ σ [] (.ok [] σ) := fun _ _ _ _ _ R _ _ post => kws_nil (post.here R .nil)
theorem ek_cons {x : Str} {e : PySem.Expr} {kp : Pos} {kws : List Keyword} {a : AV} {as : List AV} (h : Ev κ σ e (.ok a σ₁)) (h' : Ek κ σ₁ kws (.ok as σ₂)) : Ek κ σ (⟨some x, e, kp⟩ :: kws) (.ok (a :: as) σ₂) :=
  fun p _ _ _ _ R _ _ post => kws_cons (h.seq R post fun _ _ _ _ R₁ _ V₁ post₁ => (h' p).seq R₁ post₁ fun h₂ tk₂ G₂ u₂ R₂ K₂ V₂ post₂ => post₂.here R₂ (.cons (K₂.v V₁) V₂))
theorem ev_callBK {f e : PySem.Expr} {es : List PySem.Expr} {kws : List Keyword} {p : Pos} {id : String} {ns : List Str} {as ks : List AV} {r : Rs AV} (hf : Ev κ σ f (.ok (.val (.builtin id)) σ₁)) (ha : El κ σ₁ (e :: es) (.ok as σ₂)) (hk : Ek κ σ₂ kws (.ok ks σ₃)) (ho : OpK κ σ₃ id ns as ks r)
    (hn : ∀ env, (backToKw p (keywordEach kws env)).filterMap (·.1) = ns := by intro _; rfl)
    (hc : ∀ env, eval (.Call f (e :: es) kws p) env = (do callWith p (← eval f env) [] (backTo p (starEach (e :: es) env)) (backToKw p (keywordEach kws env))) := by intro _; rfl)
    (he : ∀ env, backTo p (starEach (e :: es) env) = (false, eval e env) :: backTo p (starEach es env) := by intro _; rfl) (hp : ∀ env, (backTo p (starEach (e :: es) env)).any (·.1) = false := by intro _; rfl)
    (hall : ∀ env, (backToKw p (keywordEach kws env)).all (·.1.isSome) = true := by intro _; rfl) (hkw : ∀ env, (backToKw p (keywordEach kws env)).any (·.1.isNone) = false := by intro _; rfl) : Ev κ σ (.Call f (e :: es) kws p) r :=
  fun _ _ _ _ R _ _ post => by
    rw [hc]
    refine wpAny_bind (hf.seq R post fun h₁ tk₁ G₁ u₁ R₁ _ V₁ post₁ => ?_)
    have V₁ : u₁ = .builtin id := V₁
    subst V₁
    refine callWith_kw ((ha p).seq R₁ post₁ fun h₂ tk₂ G₂ us R₂ _ V₂ post₂ => (hk p).seq R₂ post₂ fun h₃ tk₃ G₃ vs R₃ K₃ V₃ post₃ => ?_) (he _) (hp _) (hall _) (hkw _)
    rw [hn]
    exact ho _ h₃ tk₃ G₃ R₃ us (LR.mono V₂ K₃) vs V₃ _ _ post₃
theorem ev_methK {o : PySem.Expr} {kws : List Keyword} {name : Str} {ap p : Pos} {id : String} {pl : Env → Sem Bool} {i : Nat} {x : LC} {ns : List Str} {ks : List AV} {r : Rs AV} (ho : Ev κ σ o (.ok (.lst i) σ₁)) (hi : σ₁.l[i]? = some x) (slot : Slot "list" name id) (hty : typeOf (.builtin id) = pure (.type "method_descriptor")) (hk : Ek κ σ₁ kws (.ok ks σ₂)) (hop : OpK κ σ₂ id ns [.lst i] ks r)
    (hn : ∀ env, (backToKw p (keywordEach kws env)).filterMap (·.1) = ns := by intro _; rfl)
    (hc : ∀ env, eval (.Call (.Attribute o name ap) [] kws p) env = (do
      let ov ← eval o env
      standAt ap.atName
      let (f, first) ← holding [ov] (getMethod ov name (pl env))
      callWith p f first (backTo p (starEach [] env)) (backToKw p (keywordEach kws env))) := by intro _; rfl)
    (hall : ∀ env, (backToKw p (keywordEach kws env)).all (·.1.isSome) = true := by intro _; rfl) (hkw : ∀ env, (backToKw p (keywordEach kws env)).any (·.1.isNone) = false := by intro _; rfl) : Ev κ σ (.Call (.Attribute o name ap) [] kws p) r :=
  fun _ _ _ _ R _ _ post => methodCall_KW (pl := pl _) (ho.seq R post fun h₁ tk₁ G₁ u₁ R₁ _ V₁ post₁ => by
    obtain ⟨a, e1, rfl⟩ := V₁
    obtain ⟨a', g, e1', U⟩ := R₁.at (k := x.1) (ds := x.2) hi
    cases e1.symm.trans e1'
    refine r_method R₁.st U slot hty ?_
    refine callWith_mk ((hk p).seq R₁ post₁ fun h₂ tk₂ G₂ vs R₂ K₂ V₂ post₂ => ?_) (hall _) (hkw _)
    rw [hn]
    exact hop _ h₂ tk₂ G₂ R₂ [_] (.cons ⟨a, pre_get K₂.la e1, rfl⟩ .nil) vs V₂ _ _ post₂) (hc _)
section
variable {i j : Nat} {k : Kd} {ds ds' : List D}
theorem m_sort (hi : σ.l[i]? = some (k, ds)) (hk : k ≠ .i) (hz : ds.length < 64) : Oc κ σ (.builtin "list.sort") [.lst i] (.ok .none ⟨σ.v, σ.l.set i (k, sortD ds), σ.o⟩) :=
  .l0 hi fun c h tk G a g R e U Q E post => r_sort (b := false) R.st U hk hz R.u3 (sort_none _) (by unfold argsOk; kernel_rfl) fun h' S' => let z := R.setL hi e U S'; post _ _ _ _ z.1 z.2.any rfl
theorem m_sortR (hi : σ.l[i]? = some (k, ds)) (hk : k ≠ .i) (hz : ds.length < 64) : OpK κ σ "list.sort" [Str.ofString "reverse"] [.lst i] [.bool true] (.ok .none ⟨σ.v, σ.l.set i (k, sortB true ds), σ.o⟩) := by
  intro c h tk G R us hus vs hvs Q E post
  obtain _ | ⟨⟨a, e, q⟩, hus⟩ := hus
  cases hus
  obtain _ | ⟨q', hvs⟩ := hvs
  cases hvs
  have q' : _ = Value.bool true := q'
  subst q q'
  obtain ⟨a', g, e1', U⟩ := R.at hi
  cases e.symm.trans e1'
  exact r_sort (b := true) R.st U hk hz R.u3 (sort_rev _) (args_list_sort_rev _ _) fun h' S' => let z := R.setL hi e U S'; post _ _ _ _ z.1 z.2.any rfl
end
inductive KeyIs (X : Pg) (q : Nat) (ds : List D) : AV → (Bool → List D) → Prop
  | none : KeyIs X q ds .none fun b => sortB b ds
  | lam {k : Nat} {ps : Arguments} {b : PySem.Expr} {sc : Scope} {f : D → Int} : k + 3 ≤ q → (∀ d ∈ ds, LamOk X k ps b sc d (f d)) → KeyIs X q ds (.lam ps b sc) fun r => sortKB f r ds
theorem c_sortedK {i : Nat} {ds : List D} {kv : AV} {out : Bool → List D} (hK : KeyIs κ.X κ.q ds kv out) (hi : σ.l[i]? = some (.p, ds)) (hz : ds.length < 64) (hhd : κ.fi.hd = true) : OpK κ σ "sorted" [Str.ofString "key"] [.lst i] [kv] (.ok (.lst σ.l.length) ⟨σ.v, σ.l ++ [(.p, out false)], σ.o⟩) := by
  intro c h tk G R us hus vs hvs Q E post
  obtain _ | ⟨⟨a, e, q⟩, hus⟩ := hus
  cases hus
  obtain _ | ⟨q', hvs⟩ := hvs
  cases hvs
  subst q
  obtain ⟨a', g, e1', U⟩ := R.at hi
  cases e.symm.trans e1'
  cases hK with
  | none =>
    have q' : _ = Value.none := q'
    subst q'
    refine r_sorted (b := false) R.st U (by intro e; cases e) hz R.u4 (fun a => sort_key a) (ksk_s1 _ _) (fun a => ksk_l1 _ _) fun B h' S' => ?_
    obtain ⟨G', R', K', e'⟩ := R.newL S'
    exact post _ _ _ _ R' K'.any ⟨B, e', rfl⟩
  | lam hq hO =>
    obtain ⟨ka, rfl, hL⟩ := q'
    refine r_sortedK (rv := false) ((R.cx hhd).le hq) hO hL R.st U hz (fun a => ksk_t1 _ a) (ksk_s1 _ _) (fun a => ksk_l1 _ _) fun B h' tk' nw' hn S' => ?_
    obtain ⟨R₁, K₁⟩ := R.same' hn S'.dropL
    obtain ⟨G', R', K', e'⟩ := R₁.newL S'
    exact post _ _ _ _ R' (K₁.trans K').any ⟨B, e', rfl⟩
theorem c_sortedKR {i : Nat} {ds : List D} {kv : AV} {out : Bool → List D} (hK : KeyIs κ.X κ.q ds kv out) (hi : σ.l[i]? = some (.p, ds)) (hz : ds.length < 64) (hhd : κ.fi.hd = true) : OpK κ σ "sorted" [Str.ofString "key", Str.ofString "reverse"] [.lst i] [kv, .bool true] (.ok (.lst σ.l.length) ⟨σ.v, σ.l ++ [(.p, out true)], σ.o⟩) := by
  intro c h tk G R us hus vs hvs Q E post
  obtain _ | ⟨⟨a, e, q⟩, hus⟩ := hus
  cases hus
  obtain _ | ⟨q', hvs⟩ := hvs
  obtain _ | ⟨q2, hvs⟩ := hvs
  cases hvs
  have q2 : _ = Value.bool true := q2
  subst q q2
  obtain ⟨a', g, e1', U⟩ := R.at hi
  cases e.symm.trans e1'
  cases hK with
  | none =>
    have q' : _ = Value.none := q'
    subst q'
    refine r_sorted (b := true) R.st U (by intro e; cases e) hz R.u4 (fun a => sort_keyRev a) (ksk_s2 _ _ _) (fun a => ksk_l2 _ _ _) fun B h' S' => ?_
    obtain ⟨G', R', K', e'⟩ := R.newL S'
    exact post _ _ _ _ R' K'.any ⟨B, e', rfl⟩
  | lam hq hO =>
    obtain ⟨ka, rfl, hL⟩ := q'
    refine r_sortedK (rv := true) ((R.cx hhd).le hq) hO hL R.st U hz (fun a => ksk_t2 _ a _) (ksk_s2 _ _ _) (fun a => ksk_l2 _ _ _) fun B h' tk' nw' hn S' => ?_
    obtain ⟨R₁, K₁⟩ := R.same' hn S'.dropL
    obtain ⟨G', R', K', e'⟩ := R₁.newL S'
    exact post _ _ _ _ R' (K₁.trans K').any ⟨B, e', rfl⟩
noncomputable def MinOp (X : Pg) (q : Nat) (id : String) (kv : AV) (ds : List D) (bst : D → List D → D) : Prop :=
  ∀ (c : Kx) h tk (G : Gh) m ls ob nw I oI l g dflt kvv Q E, Cx X c.mg c.mb c.A c.B c.L q → St c.B c.L h m ls ((I, oI) :: ob) nw → G.nw = nw → IsLI oI l 0 → At l .p ds ls g → VRel X c.mg G kv kvv →
    (∀ h' tk' nw', (∀ p ∈ nw, p ∈ nw') → ds = [] → St c.B c.L h' m ls ob nw' → Q dflt (mk c.s h' tk')) →
    (∀ d ds' v h' tk' nw', ds = d :: ds' → (∀ p ∈ nw, p ∈ nw') → RelIn nw' .p v (bst d ds') → St c.B c.L h' m ls ob nw' → Q v (mk c.s h' tk')) →
    wpAny (model c.prog c.w) c.A (call (.builtin id) [.ref I] [(Str.ofString "default", dflt), (Str.ofString "key", kvv)]) Q E (mk c.s h tk)
theorem min_none {X : Pg} {q : Nat} {ds : List D} : MinOp X q "min" .none ds (best llt) := fun c h tk G m ls ob nw I oI l g dflt kvv Q E C S hG ho U hv q0 q => by
  have hv : kvv = .none := hv
  subst hv
  exact r_min C.handled (Nat.lt_of_succ_lt C.u4) S ho U (fun hd h' tk' S' => q0 h' tk' nw (fun _ h => h) hd S') fun d ds' v h' tk' hd hv S' => q d ds' v h' tk' nw hd (fun _ h => h) hv S'
theorem max_none {X : Pg} {q : Nat} {ds : List D} : MinOp X q "max" .none ds (best gtl) := fun c h tk G m ls ob nw I oI l g dflt kvv Q E C S hG ho U hv q0 q => by
  have hv : kvv = .none := hv
  subst hv
  exact r_max C.handled (Nat.lt_of_succ_lt C.u4) S ho U (fun hd h' tk' S' => q0 h' tk' nw (fun _ h => h) hd S') fun d ds' v h' tk' hd hv S' => q d ds' v h' tk' nw hd (fun _ h => h) hv S'
theorem min_lam {X : Pg} {q k : Nat} {ds : List D} {ps : Arguments} {b : PySem.Expr} {sc : Scope} {f : D → Int} (hq : k + 2 ≤ q) (hO : ∀ d ∈ ds, LamOk X k ps b sc d (f d)) : MinOp X q "min" (.lam ps b sc) ds (bestK_min f) := fun c h tk G m ls ob nw I oI l g dflt kvv Q E C S hG ho U hv q0 q => by
  obtain ⟨ka, rfl, hL⟩ := hv
  exact r_minK (C.le hq) hO (hG ▸ hL) S ho U (fun hd h' tk' S' => q0 h' tk' nw (fun _ h => h) hd S') fun d ds' v h' tk' nw' hd hn hv S' => q d ds' v h' tk' nw' hd hn hv S'
theorem max_lam {X : Pg} {q k : Nat} {ds : List D} {ps : Arguments} {b : PySem.Expr} {sc : Scope} {f : D → Int} (hq : k + 2 ≤ q) (hO : ∀ d ∈ ds, LamOk X k ps b sc d (f d)) : MinOp X q "max" (.lam ps b sc) ds (bestK_max f) := fun c h tk G m ls ob nw I oI l g dflt kvv Q E C S hG ho U hv q0 q => by
  obtain ⟨ka, rfl, hL⟩ := hv
  exact r_maxK (C.le hq) hO (hG ▸ hL) S ho U (fun hd h' tk' S' => q0 h' tk' nw (fun _ h => h) hd S') fun d ds' v h' tk' nw' hd hn hv S' => q d ds' v h' tk' nw' hd hn hv S'
theorem eh_min {f ie : PySem.Expr} {kws : List Keyword} {y : Str} {py p cp : Pos} {id : String} {i nn so : Nat} {kv : AV} {ds : List D} {bst : D → List D → D} (hf : Ev κ σ f (.ok (.val (.builtin id)) σ)) (hie : Ev κ σ ie (.ok (.val (.ref I)) σ)) (hkw : Ek κ σ kws (.ok [.oth so, kv] σ)) (hM : MinOp κ.X κ.q id kv ds bst) (hi : σ.l[i]? = some (.p, ds)) (hx : κ.fi.tb[nn]? = some y) (hhd : κ.fi.hd = true)
    (hk0 : ds = [] → EsR κ ⟨σ.v.set nn (.oth so), σ.l, σ.o⟩ ss v ls) (hk : ∀ d ds', ds = d :: ds' → EsR κ ⟨σ.v.set nn (.el .p (bst d ds')), σ.l, σ.o⟩ ss v ls)
    (hn : ∀ env, (backToKw cp (keywordEach kws env)).filterMap (·.1) = [Str.ofString "default", Str.ofString "key"] := by intro _; rfl)
    (hs : ∀ env, swapsWith (.Call f [ie] kws cp) (some (.Name y py)) p.line env = pure false := by intro _; rfl)
    (hc : ∀ env, eval (.Call f [ie] kws cp) env = (do callWith cp (← eval f env) [] (backTo cp (starEach [ie] env)) (backToKw cp (keywordEach kws env))) := by intro _; rfl)
    (he : ∀ env, backTo cp (starEach [ie] env) = (false, eval ie env) :: backTo cp (starEach [] env) := by intro _; rfl) (hp : ∀ env, (backTo cp (starEach [ie] env)).any (·.1) = false := by intro _; rfl)
    (hst : ∀ env, starEach [ie] env = (false, eval ie env) :: starEach [] env := by intro _; rfl)
    (hall : ∀ env, (backToKw cp (keywordEach kws env)).all (·.1.isSome) = true := by intro _; rfl) (hkn : ∀ env, (backToKw cp (keywordEach kws env)).any (·.1.isNone) = false := by intro _; rfl) :
    EsH κ σ I (.li i 0) (.Assign [.Name y py] (.Call f [ie] kws cp) p :: ss) v ls := by
  intro c h tk G o R hm hI hex hO Q E post
  refine wpAny_execs_cons (wpAny_Assign_Name ?_ (hs _))
  rw [hc]
  refine wpAny_bind (hf c h tk G R _ _ fun h₁ tk₁ G₁ u₁ R₁ K₁ V₁ => ?_)
  have V₁ : u₁ = .builtin id := V₁
  subst V₁
  refine callWith_kw ((el_cons hie el_nil (fun env => hst env)) cp c h₁ tk₁ G₁ R₁ _ _ fun h₂ tk₂ G₂ us R₂ K₂ V₂ => hkw cp c h₂ tk₂ G₂ R₂ _ _ fun h₃ tk₃ G₃ vs R₃ K₃ V₃ => ?_) (he _) (hp _) (hall _) (hkn _)
  rw [hn]
  obtain _ | ⟨hu, V₂⟩ := V₂
  cases V₂
  have hu : _ = Value.ref I := hu
  subst hu
  obtain _ | ⟨⟨sa, hsa, hsu⟩, V₃⟩ := V₃
  subst hsu
  obtain _ | ⟨hkv, V₃⟩ := V₃
  cases V₃
  have K13 := (K₁.trans K₂).trans K₃
  obtain ⟨z1, z2⟩ := K13.ob (I, o) hm hI hex
  obtain ⟨a, ha, hLI⟩ := hO
  obtain ⟨a', g, ha', U⟩ := R₃.at hi
  cases (pre_get K13.la ha).symm.trans ha'
  obtain ⟨o1, p1⟩ := pick1 z1
  have fin : ∀ h' tk' nw' (av : AV) u, (∀ p ∈ G₃.nw, p ∈ nw') → St c.B c.L h' (c.lm G₃) G₃.ls o1 nw' → (∀ G' : Gh, Kp [I] G₃ G' → (∀ p ∈ nw', p ∈ G'.nw) → VRel κ.X c.mg G' av u) → EsR κ ⟨σ.v.set nn av, σ.l, σ.o⟩ ss v ls →
      wpAny (model c.prog c.w) c.A (storeName c.env y u) (fun _ s' => wpAny (model c.prog c.w) c.A (execs ss c.env) Q E s') E (mk c.s h' tk') := fun h' tk' nw' av u hn S' hr hk => by
    obtain ⟨R₄, K₄⟩ := R₃.hidAll (x := [I]) (ob' := o1) (nw' := nw') (fun q hq => by rw [List.mem_singleton.mp hq]; exact ⟨z2, hex⟩) (fun q hq hn => pick_in p1 hq fun e => hn (e ▸ .head _)) hn S'
    refine rep_store (v := av) R₄ hx (hr _ K₄ fun _ h => h) fun h₅ tk₅ G₅ R₅ K₅ => ?_
    exact hk c h₅ tk₅ G₅ R₅ _ _ ((post.move ((K13.wk fun z hz => .tail _ hz).trans ((K₄.wk fun z hz => by rw [List.mem_singleton.mp hz]; exact .head _).trans (K₅.wk fun z hz => .tail _ hz)))).wk fun z hz => .tail _ hz)
  refine hM c h₃ tk₃ G₃ (c.lm G₃) G₃.ls o1 G₃.nw I o a g _ _ _ _ (R₃.cx hhd) (R₃.st.permO p1) rfl hLI U hkv (fun h' tk' nw' hn hd S' => ?_) fun d ds' vv h' tk' nw' hd hn hv S' => ?_
  · exact fin h' tk' nw' (.oth so) _ hn S' (fun G' K' _ => ⟨sa, pre_get K'.oa hsa, rfl⟩) (hk0 hd)
  · exact fin h' tk' nw' (.el .p (bst d ds')) _ hn S' (fun G' K' hw => RelIn.mono hv hw) (hk d ds' hd)
end
end Mine
end
section
namespace Mine
section
variable {κ : K} {c : Kx} {σ σ₁ σ₂ σ₃ : Sg} {h h' : Heap} {tk : Nat} {G G' : Gh} {E : Value → Shared → Prop}
theorem as_kip {x y z : Str} {px py pz tp : Pos} {n : Nat} {a b : Int} {d : D} (hh : κ.fi.hd = true) (h₁ : As κ σ (.Name x px) (.int a) σ₁) (h₂ : As κ σ₁ (.Name y py) (.int b) σ₂) (h₃ : As κ σ₂ (.Name z pz) (.el .p d) σ₃) : As κ σ (.Tuple [.Name x px, .Name y py, .Name z pz] n tp) (.el .kip (a :: b :: d)) σ₃ := by
  intro c h tk G R u hu Q E q
  obtain ⟨r, e, a', t, b', t', v₁, d₁, rfl, hm, hr, hd⟩ := hu
  cases hd
  refine r_unpack R.st (R.handled hh) (R.st.gets _ hm) rfl rfl fun h₃' S₃ => ?_
  have R₃ := R.same S₃
  refine assignInOrder_cons (h₁ c h₃' tk _ R₃ _ ⟨t, rfl⟩ _ _ fun h₄ tk₄ G₄ R₄ K₄ => ?_)
  refine assignInOrder_cons (h₂ c h₄ tk₄ _ R₄ _ ⟨t', rfl⟩ _ _ fun h₅ tk₅ G₅ R₅ K₅ => ?_)
  refine assignInOrder_cons (h₃ c h₅ tk₅ _ R₅ v₁ ((K₄.trans K₅).v (a := .el .p d) hr) _ _ fun h₆ tk₆ G₆ R₆ K₆ => assignInOrder_nil ?_)
  exact q h₆ tk₆ G₆ R₆ ((K₄.trans K₅).trans K₆)
end
noncomputable def FnX (X : Pg) (q i : Nat) (ns : List Str) (args ks : List AV) (ls : List LC) (P : Kx → Gh → Prop) (y : List Addr) (v : AV) (ls' : List LC) : Prop :=
  ∀ (c : Kx) h tk m G, Cx X c.mg c.mb c.A c.B c.L q → St c.B c.L h m G.ls G.ob G.nw → Lr X c.mg G ls [] → P c G → ∀ us, All2 (fun u a => VRel X c.mg G a u) us args → ∀ ws, All2 (fun u a => VRel X c.mg G a u) ws ks → ∀ Q E,
    (∀ h tk G' u, St c.B c.L h m G'.ls G'.ob G'.nw → Kp y G G' → All2 (fun a x => (a, x) ∈ G'.ls) G'.la ls' → G'.la.Nodup → VRel X c.mg G' v u → Q u (mk c.s h tk)) →
    wpAny (model c.prog c.w) c.A (call (.ref (fa X.P c.mg i)) us (ns.zip ws)) Q E (mk c.s h tk)
theorem fn_ofX {X : Pg} {q i : Nat} {fi : Fi} {cf : Nat → List (Str × Addr)} {bn ns : List Str} {args ks dfa : List AV} {dfs : List Value} {pv pc : List (Option Nat)} {ls ls' : List LC} {v : AV} {P : Kx → Gh → Prop} {y : List Addr} (F : FiOkC X i fi cf bn)
    (hcall : ∀ (c : Kx) h tk, Gd X.P X.js X.ks X.free c.mg c.mb h → ∀ us ws : List Value, us.length = args.length → ws.length = ks.length → ∃ dv, (∃ o pm code doc, h.get? (fa X.P c.mg i) = some o ∧ o.data = .func { Calls.docDef (nm X.P i) (pr X.P i) (bd X.P i) (sc X.P i) pm code doc with defaults := dv } ∧ h.CodeRec code (nm X.P i)) ∧
      ∀ pm code doc, BindsTo (mk c.s h tk) { Calls.docDef (nm X.P i) (pr X.P i) (bd X.P i) (sc X.P i) pm code doc with defaults := dv } ⟨us, ns.zip ws⟩ (bn.zip (us ++ ws ++ dfs)))
    (hdf : ∀ X' mg G, All2 (fun u a => VRel X' mg G a u) dfs dfa)
    (hpv : ∀ (j t : Nat) (x : Str), pv[j]? = some (some t) → fi.tb[j]? = some x → bn[t]? = some x) (hpc : ∀ (j t : Nat) (p : Str × Nat), pc[j]? = some (some t) → fi.cs[j]? = some p → bn[t]? = some p.1) (hpl : pc.length = fi.cs.length)
    (hP : ∀ (c c' : Kx) (G : Gh) (cob : Led) m', c'.mg = c.mg → (∀ p ∈ G.ob, p.1 ∉ cob.map (·.1)) → P c G → P c' ⟨m', G.ls, cob ++ G.ob, G.nw, G.la, cob.map (·.1) ++ G.oa⟩)
    (h : ∀ c h tk G, c.mo = none → Rep ⟨X, fi, q⟩ c ⟨pv.map (stV ((args ++ ks).map (shO fi.cs.length) ++ dfa)), ls, pc.map (fun o => .cell (stV ((args ++ ks).map (shO fi.cs.length) ++ dfa) o))⟩ h G → P c G → ∀ Q E, PostR ⟨X, fi, q⟩ y c G v ls' Q → wpAny (model c.prog c.w) c.A (execs (bd X.P i) c.env) Q E (mk c.s h tk)) (hvo : v.noOth = true) : FnX X (q + 1) i ns args ks ls P y v ls' := by
  intro c hp tk m G C S lr hPG us hus₁ ws hws Q E post
  obtain ⟨dv, ⟨o, pm, code, doc, hfd⟩, hbi⟩ := hcall c hp tk (C.gd.keeps S.fr.keep) us ws hus₁.len hws.len
  refine fn_gen (args := ⟨us, ns.zip ws⟩) (Z := fun _ => True) (y := y) (os := []) F C S lr (hus₁.append hws) ⟨o, pm, doc, hfd⟩ hbi hdf hpv hpc hpl (fun x hx => nomatch hx) (fun c' h₁ tk' cob m' hmo hmg _ _ hn R Q E post' => ?_) hvo fun h tk G' u S' kp l n _ r => post h tk G' u S' kp l n r
  rw [List.append_nil] at R
  exact h c' h₁ tk' _ hmo R (hP c c' G cob m' hmg hn hPG) Q E fun h' tk₂ G' u σ' hl R' K' V' => post' h' tk₂ G' _ σ' hl R' K' trivial V'
end Mine
end
section
namespace Mine
section
variable {κ : K} {c : Kx} {σ σ₁ σ₂ σ₃ : Sg} {h h' : Heap} {tk : Nat} {G G' : Gh} {E : Value → Shared → Prop}
theorem Rep.handX {y : List Addr} {ids : List Nat} (R : Rep κ c σ h G) (hy : ∀ a ∈ y, (∃ o, (a, o) ∈ G.ob) ∧ a ∉ G.oa ∧ a ∉ c.ex) (hi : ∀ i ∈ ids, i < σ.l.length) (hid : ids.Nodup) :
    ∃ Gc : Gh, Gc.ls = G.ls ∧ Gc.ob = G.ob ∧ Gc.nw = G.nw ∧ Gc.oa = [] ∧ (∀ j i : Nat, ids[j]? = some i → Gc.la[j]? = G.la[i]?) ∧ Lr κ.X c.mg Gc (sel σ.l ids) [] ∧ (∀ a u, a.plain ids = true → VRel κ.X c.mg G a u → VRel κ.X c.mg Gc (ren ids a) u) ∧
      ∀ G' ls', Kp y Gc G' → All2 (fun a x => (a, x) ∈ G'.ls) G'.la ls' → G'.la.Nodup → ∃ G'' : Gh, G''.ls = G'.ls ∧ G''.ob = G'.ob ∧ G''.nw = G'.nw ∧ Kp y G G'' ∧ c.lm G'' = c.lm G ∧
        (∀ v u, v.noOth = true → VRel κ.X c.mg G' v u → VRel κ.X c.mg G'' (bck ids σ.l.length v) u) ∧ ∀ h', St c.B c.L h' (c.lm G) G'.ls G'.ob G'.nw → Rep κ c ⟨σ.v, wr σ.l ids ls', σ.o⟩ h' G'' := by
  have hll := R.lr.l.len
  have hlt : ∀ i ∈ ids, i < G.la.length := fun i h => by rw [hll]; exact hi i h
  have hget : ∀ i ∈ ids, G.la[i]? = some (G.la.getD i 0) := fun i h => by
    have := hlt i h
    simp [List.getD, List.getElem?_eq_getElem this]
  obtain ⟨lc, hlc⟩ : ∃ lc, lc = ids.map fun i => G.la.getD i 0 := ⟨_, rfl⟩
  have hlcl : lc.length = ids.length := by rw [hlc]; simp
  have hsub : ∀ a ∈ lc, a ∈ G.la := fun a ha => by
    rw [hlc] at ha
    obtain ⟨i, hi', rfl⟩ := List.mem_map.mp ha
    exact List.mem_of_getElem? (hget i hi')
  have hlcn : lc.Nodup := by
    rw [hlc]
    refine List.Pairwise.map _ ?_ ((List.pairwise_iff_forall_sublist.mpr fun {a b} s => ?_) : ids.Pairwise fun a b => a ∈ ids ∧ b ∈ ids ∧ a ≠ b)
    · rintro a b ⟨ha, hb, hab⟩ e
      have e1 := hget a ha
      have e2 := hget b hb
      rw [← e] at e2
      obtain ⟨x1, y1⟩ := List.getElem?_eq_some_iff.mp e1
      obtain ⟨x2, y2⟩ := List.getElem?_eq_some_iff.mp e2
      rcases Nat.lt_trichotomy a b with q | q | q
      · exact absurd (y1.trans y2.symm) (List.pairwise_iff_getElem.mp R.lr.ln a b x1 x2 q)
      · exact hab q
      · exact absurd (y2.trans y1.symm) (List.pairwise_iff_getElem.mp R.lr.ln b a x2 x1 q)
    · exact ⟨s.subset (.head _), s.subset (.tail _ (.head _)), List.pairwise_iff_forall_sublist.mp hid s⟩
  have hly : ∀ e ∈ G.ls, e.1 ∉ y := fun e he q => by
    obtain ⟨⟨o, ho⟩, _⟩ := hy e.1 q
    exact (List.nodup_append.mp R.st.apart.1).2.2 e.1 (List.mem_map_of_mem (f := (·.1)) he) e.1 (List.mem_append_left _ (List.mem_map_of_mem (f := (·.1)) ho)) rfl
  refine ⟨⟨G.m, G.ls, G.ob, G.nw, lc, []⟩, rfl, rfl, rfl, rfl, fun j i hj => (by rw [hlc]; simp only [List.getElem?_map, hj, Option.map_some]; exact (hget i (List.mem_of_getElem? hj)).symm), ⟨?_, .nil, hlcn, List.nodup_nil⟩, fun a u hp hv => ?_, fun G' ls' kp hl hn => ?_⟩
  · rw [hlc]; exact R.lr.l.refl_map hi
  · cases a with
    | lst i =>
      obtain ⟨b, e, q⟩ := hv
      have hmem : i ∈ ids := by simpa [AV.plain] using hp
      refine ⟨b, ?_, q⟩
      show lc[ids.idxOf i]? = some b
      rw [hlc, List.getElem?_map, idx_get hmem]
      simp only [Option.map_some, List.getD, e, Option.getD_some]
    | oth i => cases hp
    | _ => exact hv
  · obtain ⟨new, hnew⟩ := kp.la
    have hnew : lc ++ new = G'.la := hnew
    have hnn : (lc ++ new).Nodup := hnew ▸ hn
    have hdis : ∀ y ∈ new, y ∉ G.la := fun y' hy₂ hy' => by
      by_cases hc : y' ∈ lc
      · exact (List.nodup_append.mp hnn).2.2 y' hc y' hy₂ rfl
      · obtain ⟨i, hi', e⟩ := List.getElem_of_mem hy'
        obtain ⟨x, _, hx⟩ := R.lr.l.get' (List.getElem?_eq_some_iff.mpr ⟨hi', e⟩)
        exact (kp.ls (y', x) hx hc (hly _ hx)).2 (hnew ▸ List.mem_append_right _ hy₂)
    have kp2 : Kp y G ⟨G.m, G'.ls, G'.ob, G'.nw, G.la ++ new, G.oa⟩ := by
      refine ⟨List.prefix_append _ _, List.prefix_refl _, kp.nw, fun e he hn' hny => ?_, fun p hp hn' hny => ⟨(kp.ob p hp (List.not_mem_nil) hny).1, hn'⟩⟩
      obtain ⟨q1, q2⟩ := kp.ls e he (fun q => hn' (hsub _ q)) hny
      refine ⟨q1, fun q => ?_⟩
      rcases List.mem_append.mp q with q | q
      · exact hn' q
      · exact q2 (hnew ▸ List.mem_append_right _ q)
    refine ⟨⟨G.m, G'.ls, G'.ob, G'.nw, G.la ++ new, G.oa⟩, rfl, rfl, rfl, kp2, rfl, fun v u hv hr => ?_, fun h' S' => ?_⟩
    · cases v with
      | lst j =>
        obtain ⟨b, e, q⟩ := hr
        rw [← hnew] at e
        refine ⟨b, ?_, q⟩
        show (G.la ++ new)[ids.getD j (σ.l.length + (j - ids.length))]? = some b
        by_cases hj : j < ids.length
        · have hm : ids[j] ∈ ids := List.getElem_mem hj
          rw [List.getElem?_append_left (by lia), hlc, List.getElem?_map, List.getElem?_eq_getElem hj] at e
          have e' : G.la.getD ids[j] 0 = b := by simpa using e
          rw [show ids.getD j (σ.l.length + (j - ids.length)) = ids[j] by simp [List.getD, List.getElem?_eq_getElem hj], List.getElem?_append_left (hlt _ hm), hget _ hm, e']
        · rw [List.getElem?_append_right (by lia), hlcl] at e
          rw [show ids.getD j (σ.l.length + (j - ids.length)) = G.la.length + (j - ids.length) by simp [List.getD, List.getElem?_eq_none (Nat.le_of_not_lt hj), hll], List.getElem?_append_right (by lia), Nat.add_sub_cancel_left]
          exact e
      | oth j => cases hv
      | el k d => exact hr
      | int x => exact hr
      | bool b => exact hr
      | none => exact hr
      | unb => exact hr
      | fn i => exact hr
      | val w => exact hr
      | lam _ _ _ => exact hr
    · have key : ∀ {as : List Addr} {bs : List AO}, All2 (fun a x => ∃ b, (a, b) ∈ G.ob ∧ ORel κ.X c.mg G x b) as bs → (∀ a ∈ as, a ∉ y) → All2 (fun a x => ∃ b, (a, b) ∈ G'.ob ∧ ORel κ.X c.mg ⟨G.m, G'.ls, G'.ob, G'.nw, G.la ++ new, G.oa⟩ x b) as bs := by
        intro as bs hh
        induction hh with
        | nil => intro _; exact .nil
        | cons r1 _ ih =>
          intro hne
          obtain ⟨b, hb, hr⟩ := r1
          exact .cons ⟨b, (kp.ob (_, b) hb (List.not_mem_nil) (hne _ (.head _))).1, hr.mono kp2.la kp2.oa kp2.nw⟩ (ih fun a ha => hne a (.tail _ ha))
      refine R.reX S' kp2 (fun z hz q => (hy z q).2.2 hz) ⟨?_, key R.lr.o fun a ha q => (hy a q).2.1 ha, ?_, R.lr.on⟩
      · refine wr_all (P := fun e => e ∈ G'.ls) R.lr.ln hlt hlc ?_ (hnew ▸ hl)
        exact R.lr.l.mono fun a x hx hn' => (kp.ls (a, x) hx hn' (hly _ hx)).1
      · exact List.nodup_append.mpr ⟨R.lr.ln, (List.nodup_append.mp hnn).2.1, fun a ha b hb e => hdis b hb (e ▸ ha)⟩
noncomputable def HidP (X : Pg) (I : Addr) : Kx → Gh → Prop := fun c G => ∃ o, (I, o) ∈ G.ob ∧ I ∉ G.oa ∧ ORel X c.mg G (.li 0 0) o
theorem rep_callX {Q : Value → Shared → Prop} {i q' : Nat} {ns : List Str} {as as' ks ks' : List AV} {us ws : List Value} {v v' : AV} {ls ls' l' : List LC} {P : Kx → Gh → Prop} {y : List Addr} (ids : List Nat) (R : Rep κ c σ h G) (hF : FnX κ.X q' i ns as' ks' ls P y v ls') (hus : LR κ c G as us) (hws : LR κ c G ks ws) (hy : ∀ a ∈ y, (∃ o, (a, o) ∈ G.ob) ∧ a ∉ G.oa ∧ a ∉ c.ex)
    (hP : ∀ Gc : Gh, Gc.ob = G.ob → Gc.oa = [] → Gc.nw = G.nw → (∀ j i : Nat, ids[j]? = some i → Gc.la[j]? = G.la[i]?) → P c Gc)
    (post : ∀ h' tk' G'' u, Rep κ c ⟨σ.v, l', σ.o⟩ h' G'' → Kp y G G'' → VRel κ.X c.mg G'' v' u → Q u (mk c.s h' tk'))
    (e1 : as.map (ren ids) = as') (e1' : ks.map (ren ids) = ks') (e2 : sel σ.l ids = ls) (e3 : bck ids σ.l.length v = v') (e4 : wr σ.l ids ls' = l') (hq : q' ≤ κ.q) (hi : (ids.all fun i => Nat.blt i σ.l.length) = true) (hid : ids.Nodup) (hp : as.all (AV.plain ids) = true) (hp' : ks.all (AV.plain ids) = true) (hv : v.noOth = true) (hhd : κ.fi.hd = true) :
    wpAny (model c.prog c.w) c.A (call (.ref (fa κ.X.P c.mg i)) us (ns.zip ws)) Q E (mk c.s h tk) := by
  subst e1 e1' e2 e3 e4
  obtain ⟨Gc, g1, g2, g3, g4, g5, lr, hre, hback⟩ := R.handX hy (fun i h => Nat.le_of_ble_eq_true (List.all_eq_true.mp hi i h)) hid
  have tr : ∀ {as : List AV} {us : List Value}, as.all (AV.plain ids) = true → LR κ c G as us → All2 (fun u a => VRel κ.X c.mg Gc a u) us (as.map (ren ids)) := by
    intro as us hp hu
    have hp' := List.all_eq_true.mp hp
    clear hp
    have hu' : All2 (fun u a => VRel κ.X c.mg G a u) us as := hu
    clear hu
    induction hu' with
    | nil => exact .nil
    | cons r1 _ ih => exact .cons (hre _ _ (hp' _ (.head _)) r1) (ih fun a h => hp' a (.tail _ h))
  refine hF c h tk (c.lm G) Gc ((R.cx hhd).le hq) (by rw [g1, g2, g3]; exact R.st) lr (hP Gc g2 g4 g3 g5) us (tr hp hus) ws (tr hp' hws) _ _ fun h' tk' G' u S' K' hl hn hu => ?_
  obtain ⟨G'', q1, q2, q3, kp, _, hvb, hrep⟩ := hback G' ls' K' hl hn
  exact post h' tk' G'' u (hrep h' S') kp (hvb v u hv hu)
theorem hidP_of {ids : List Nat} {j : Nat} {I : Addr} {o : Obj} (hm : (I, o) ∈ G.ob) (ho : ORel κ.X c.mg G (.li j 0) o) (hj : ids[0]? = some j) : ∀ Gc : Gh, Gc.ob = G.ob → Gc.oa = [] → Gc.nw = G.nw → (∀ j i : Nat, ids[j]? = some i → Gc.la[j]? = G.la[i]?) → HidP κ.X I c Gc := fun Gc g2 g4 g3 g5 => by
  obtain ⟨a, ha, hl⟩ := ho
  exact ⟨o, g2 ▸ hm, (by rw [g4]; exact List.not_mem_nil), a, (g5 0 j hj).trans ha, hl⟩
theorem ev_callX {f e : PySem.Expr} {es : List PySem.Expr} {p : Pos} {i q' : Nat} {as as' : List AV} {v v' : AV} {ls ls' l' : List LC} (ids : List Nat) (hf : Ev κ σ f (.ok (.fn i) σ₁)) (hj : i ∈ κ.X.ks) (ha : El κ σ₁ (e :: es) (.ok as σ₂)) (hF : FnX κ.X q' i [] as' [] ls (fun _ _ => True) [] v ls')
    (e1 : as.map (ren ids) = as' := by rfl) (e2 : sel σ₂.l ids = ls := by rfl) (e3 : bck ids σ₂.l.length v = v' := by rfl) (e4 : wr σ₂.l ids ls' = l' := by rfl) (hq : q' ≤ κ.q := by exact Nat.le_refl _) (hi : (ids.all fun i => Nat.blt i σ₂.l.length) = true := by rfl) (hid : ids.Nodup := by decide) (hp : as.all (AV.plain ids) = true := by rfl) (hv : v.noOth = true := by rfl) (hhd : κ.fi.hd = true := by rfl)
    (hc : ∀ env, eval (.Call f (e :: es) [] p) env = (do callWith p (← eval f env) [] (backTo p (starEach (e :: es) env)) (backToKw p (keywordEach [] env))) := by intro _; rfl)
    (he : ∀ env, starEach (e :: es) env = (false, eval e env) :: starEach es env := by intro _; rfl) : Ev κ σ (.Call f (e :: es) [] p) (.ok v' ⟨σ₂.v, l', σ₂.o⟩) :=
  fun c _ _ _ R _ _ post => Call_ (hf.seq R post fun h₁ tk₁ G₁ u₁ R₁ _ V₁ post₁ => by
    have V₁ : u₁ = .ref (fa κ.X.P c.mg i) := V₁
    subst V₁
    obtain ⟨_, o, pm, code, doc, dA, dO, dn, h2, h3, h4⟩ := R.gd.fd i hj
    refine callWith_def (o := o) h3 ((ha p).seq R₁ post₁ fun h₂ tk₂ G₂ us R₂ _ V₂ post₂ => ⟨R₂.st.fr.keep _ _ h2, ?_⟩) (he _)
    exact rep_callX (R := R₂) (ws := []) (ks := []) ids hF V₂ .nil (fun _ h => nomatch h) (fun _ _ _ _ _ => trivial) (fun h' tk' G' u R' K' hu => post₂ h' tk' G' u R' K'.any hu) e1 rfl e2 e3 e4 hq hi hid hp rfl hv hhd) (hc _)
theorem ev_callXH {f e1 e2 : PySem.Expr} {p : Pos} {i j q' : Nat} {n : Int} {v v' : AV} {ls ls' l' : List LC} (hf : Ev κ σ f (.ok (.fn i) σ)) (hj : i ∈ κ.X.ks) (ha : Ev κ σ e1 (.ok (.int n) σ)) (hb : HidE κ σ e2 (.li j 0) σ₂) (hF : ∀ I, FnX κ.X q' i [] [.int n, .val (.ref I)] [] ls (HidP κ.X I) [I] v ls')
    (e2' : sel σ₂.l [j] = ls := by rfl) (e3 : bck [j] σ₂.l.length v = v' := by rfl) (e4 : wr σ₂.l [j] ls' = l' := by rfl) (hq : q' ≤ κ.q := by exact Nat.le_refl _) (hi : Nat.blt j σ₂.l.length = true := by rfl) (hv : v.noOth = true := by rfl) (hhd : κ.fi.hd = true := by rfl)
    (hc : ∀ env, eval (.Call f [e1, e2] [] p) env = (do callWith p (← eval f env) [] (backTo p (starEach [e1, e2] env)) (backToKw p (keywordEach [] env))) := by intro _; rfl)
    (he : ∀ env, starEach [e1, e2] env = (false, eval e1 env) :: starEach [e2] env := by intro _; rfl) (he' : ∀ env, starEach [e2] env = (false, eval e2 env) :: starEach [] env := by intro _; rfl) : Ev κ σ (.Call f [e1, e2] [] p) (.ok v' ⟨σ₂.v, l', σ₂.o⟩) :=
  fun c _ _ _ R Q E post => Call_ (hf.seq R post fun h₁ tk₁ G₁ u₁ R₁ _ V₁ post₁ => by
    have V₁ : u₁ = .ref (fa κ.X.P c.mg i) := V₁
    subst V₁
    obtain ⟨_, o, pm, code, doc, dA, dO, dn, h2, h3, h4⟩ := R.gd.fd i hj
    refine callWith_def (o := o) h3 (args_cons (ha.seq R₁ post₁ fun h₂ tk₂ G₂ u₂ R₂ _ V₂ post₂ => ?_) (he _)) (he _)
    refine args_cons (hb c h₂ tk₂ G₂ R₂ _ _ fun h₃ tk₃ G₃ I oI R₃ K₃ Hd f1 f2 hor => args_nil ?_) (he' _)
    refine ⟨R₃.st.fr.keep _ _ h2, ?_⟩
    refine rep_callX (R := R₃) (as := [.int n, .val (.ref I)]) (ws := []) (ks := []) (ns := []) [j] (hF I) (.cons (K₃.v V₂) (.cons rfl .nil)) .nil (fun a ha => by rw [List.mem_singleton.mp ha]; exact ⟨⟨oI, Hd.1⟩, Hd.2⟩) (hidP_of Hd.1 hor rfl) (fun h' tk' G' u R' K' hu => ?_) rfl rfl e2' e3 e4 hq (by simpa using hi) (by simp) rfl rfl hv hhd
    exact post₂ h' tk' G' u R' (Kp.fresh f1 f2 ((K₃.wk fun z hz => .tail _ hz).trans (K'.wk fun z hz => by rw [List.mem_singleton.mp hz]; exact .head _))) hu) (hc _)
end
end Mine
end
section
namespace Mine
section
variable {κ : K} {c : Kx} {σ σ₁ σ₂ σ₃ : Sg} {h h' : Heap} {tk : Nat} {G G' : Gh} {E : Value → Shared → Prop} {I : Addr} {v : AV} {ls : List LC} {s : Stmt} {ss : List Stmt}
theorem ex_asgT {elts : List PySem.Expr} {n : Nat} {tp p : Pos} {e : PySem.Expr} {w : AV} (he : Ev κ σ e (.ok w σ₁)) (ha : As κ σ₁ (.Tuple elts n tp) w σ₂) (hs : ∀ env, swapsWithSole [.Tuple elts n tp] e p.line env = pure false := by intro _; rfl) (hw : ∀ env, swappedStores [.Tuple elts n tp] e env = pure none := by intro _; rfl) : Ex κ σ (.Assign [.Tuple elts n tp] e p) (.ok .next σ₂) :=
  fun c h tk G R Q E post => Assign_Tuple (he.seq R post fun h₁ tk₁ G₁ u R₁ K₁ V₁ post₁ => ha c h₁ tk₁ G₁ R₁ u V₁ _ _ fun h₂ tk₂ G₂ R₂ K₂ => post₁ h₂ tk₂ G₂ _ R₂ K₂ rfl) (hs _) (hw _)
theorem eh_forX {tgt e : PySem.Expr} {body : List Stmt} {p : Pos} (he : Ev κ σ e (.ok (.val (.ref I)) σ)) (hh : κ.fi.hd = true) (hk : EsR κ σ ss v ls) (hs : ∀ env x, foldedSetIterable e env x = pure x := by intro _ _; rfl) (ht : ∀ it v, letOwnedTupleGo tgt it v = pure () := by intro _ _; rfl) : EsH κ σ I .lx (.For tgt e body [] p :: ss) v ls := by
  intro c h tk G o R hm hI hex ho Q E post
  refine wpAny_execs_cons (wpAny_For (he c h tk G R _ _ fun h₁ tk₁ G₁ u₁ R₁ K₁ V₁ => ?_) (hs _))
  have V₁ : u₁ = Value.ref I := V₁
  subst V₁
  obtain ⟨z1, z2⟩ := K₁.ob (I, o) hm hI hex
  have ho₁ : ORel κ.X c.mg G₁ .lx o := ho
  obtain ⟨hc, w, hd⟩ := ho
  have go : ∀ P : Value → Shared → Prop, P (.ref I) (mk c.s h₁ tk₁) → wpAny (model c.prog c.w) c.A (pyIter (.ref I)) P E (mk c.s h₁ tk₁) := by
    intro P hP
    have ht : (mk c.s h₁ tk₁).TypeIs (.ref I) "list_iterator" := ⟨o, (R₁.st.newsO _ z1).1, hc⟩
    refine wpAny_pyIter_slot ht slot_listiter_iter (wpAny_call_entry slot_listiter_iter ht entry_listiter_iter ?_ (args_listiter_iter _))
    show wpAny _ _ (ret (.ref I)) _ _ _
    exact wpAny_pure ⟨_, rfl, "list_iterator", _, ht, slot_listiter_next.lookup, hP⟩
  refine go _ ?_
  refine (fl_end (κ := κ) (σ := σ) (tgt := tgt) (it := .lx) (body := body) .lxE hh ht) c h₁ tk₁ G₁ I o R₁ z1 z2 hex ho₁ _ fun h₂ tk₂ G₂ u R₂ K₂ V₂ => ?_
  have V₂ : u = .next := V₂
  subst V₂
  exact hk c h₂ tk₂ G₂ R₂ _ _ ((post.move ((K₁.wk fun z hz => .tail _ hz).trans K₂)).wk fun z hz => .tail _ hz)
theorem o_isO {i : Nat} : O2 κ σ (compareOp .Is) (.oth i) (.oth i) (.ok (.bool true) σ) := .of fun c h tk G R _ _ ⟨a, h1, e1⟩ ⟨b, h2, e2⟩ _ _ post => by
  subst e1 e2
  cases h1.symm.trans h2
  exact wpAny_is_ref_self (post.here R rfl)
theorem o_isEO {i : Nat} {d : D} (hi : σ.o[i]? = some .obj) : O2 κ σ (compareOp .Is) (.el .p d) (.oth i) (.ok (.bool false) σ) := .of fun c h tk G R _ _ hv ⟨b, h2, e2⟩ _ _ post => by
  subst e2
  obtain ⟨a, o, g, ha, U, ho⟩ := R.atO hi
  cases ha.symm.trans h2
  have ho : o = obO := ho
  subst ho
  exact r_isO R.st U hv (post.here R rfl)
theorem eh_ifF {t : PySem.Expr} {b₁ b₂ : List Stmt} {p : Pos} {b : Bool} {x : AO} (ht : Tt κ σ t (.ok b σ₁)) (hb : b = false) (hk : EsH κ σ₁ I x (b₂ ++ ss) v ls) (h2 : b₂ = [] := by rfl) : EsH κ σ I x (.If t b₁ b₂ p :: ss) v ls := by
  subst h2
  exact eh_cons (ex_ifF ht hb es_nil) hk
theorem er_ifF {t : PySem.Expr} {b₁ b₂ : List Stmt} {p : Pos} {b : Bool} (ht : Tt κ σ t (.ok b σ₁)) (hb : b = false) (hk : EsR κ σ₁ (b₂ ++ ss) v ls) (h2 : b₂ = [] := by rfl) : EsR κ σ (.If t b₁ b₂ p :: ss) v ls := by
  subst h2
  exact er_cons (ex_ifF ht hb es_nil) hk
end
end Mine
end
section
namespace Mine
noncomputable def tabV : List (Pos × Addr) → List Value
  | [] => []
  | e :: r => rawInt e.1.line :: rawInt e.1.col :: .ref e.2 :: tabV r
theorem tabV_ok : ∀ l, TriplesOk (tabV l)
  | [] => trivial
  | _ :: r => tabV_ok r
theorem tabV_snoc : ∀ (l : List (Pos × Addr)) (e : Pos × Addr), tabV (l ++ [e]) = tabV l ++ [rawInt e.1.line, rawInt e.1.col, .ref e.2]
  | [], _ => rfl
  | x :: r, e => by
    show rawInt x.1.line :: rawInt x.1.col :: .ref x.2 :: tabV (r ++ [e]) = _
    rw [tabV_snoc r e]; rfl
theorem tabV_none {pos : Pos} : ∀ {l : List (Pos × Addr)}, (∀ p ∈ l.map (·.1), (p.line == pos.line && p.col == pos.col) = false) → codeAmong pos (tabV l) = none
  | [], _ => rfl
  | e :: r, h => by
    have h1 := h e.1 (.head _)
    show (if ((e.1.line : Int) == (pos.line : Int) && (e.1.col : Int) == (pos.col : Int)) = true then _ else codeAmong pos (tabV r)) = none
    rw [if_neg ?_]
    · exact tabV_none fun p hp => h p (.tail _ hp)
    · intro q
      simp only [Bool.and_eq_true, beq_iff_eq] at q
      have : (e.1.line == pos.line && e.1.col == pos.col) = true := by simp only [Bool.and_eq_true, beq_iff_eq]; lia
      rw [this] at h1; cases h1
theorem St.putN {B : Base} {L a : Addr} {h : Heap} {m : Str → Option Value} {ls : List Ent} {ob nw : Led} {o : Obj} (S : St B L h m ls ob nw) (ho : h.get? a = some o) (hL : a ≠ L) (hB : B.hB.get? a = none) (hadr : a ∉ adr ls ob B) : St B L h m ls ob ((a, o) :: nw) := by
  obtain ⟨rs, fs, hr, hf, N⟩ := S.led
  refine ⟨S.fr, ⟨rs, fs, hr.mono fun p hp => .tail _ hp, hf, fun p hp => ?_⟩, S.apart.1, fun b hb p hp => ?_⟩
  · rcases List.mem_append.mp hp with hp | hp
    · exact N p (List.mem_append_left _ hp)
    · rcases List.mem_append.mp hp with hp | hp
      · exact N p (List.mem_append_right _ (List.mem_append_left _ hp))
      · rcases List.mem_append.mp hp with hp | hp
        · exact N p (List.mem_append_right _ (List.mem_append_right _ (List.mem_append_left _ hp)))
        · rcases List.mem_cons.mp hp with rfl | hp
          · exact ⟨ho, hL, hB⟩
          · exact N p (List.mem_append_right _ (List.mem_append_right _ (List.mem_append_right _ hp)))
  · rcases List.mem_cons.mp hp with rfl | hp
    · exact fun e => by
        have e' : a = b := e
        subst e'
        exact hadr hb
    · exact S.apart.2 b hb p hp
noncomputable def TabIn (c : Kx) (G : Gh) (P : Addr) (us : List Pos) : Prop := ∃ cc l, l.map (·.1) = us ∧ c.env.code = .ref cc ∧ CodeHd c.B.hB cc P ∧ c.B.hB.BuiltinsAt c.mg P ∧ (P, tabObj (tabV l).toArray) ∈ G.ob ∧ P ∉ G.oa
section
variable {κ : K} {c : Kx} {σ σ₁ σ₂ σ₃ : Sg} {h h' : Heap} {tk : Nat} {G G' : Gh} {E : Value → Shared → Prop} {I P : Addr} {v : AV} {ls : List LC} {s : Stmt} {ss : List Stmt} {us : List Pos}
theorem TabIn.move {x : List Addr} (T : TabIn c G P us) (k : Kp x G G') (hP : P ∉ x) : TabIn c G' P us := by
  obtain ⟨cc, l, h1, h2, h3, h4, h5, h6⟩ := T
  obtain ⟨z1, z2⟩ := k.ob _ h5 h6 hP
  exact ⟨cc, l, h1, h2, h3, h4, z1, z2⟩
theorem rep_lam {ps : Arguments} {b : PySem.Expr} {sc : Scope} {pos : Pos} {Q : Value → Shared → Prop} (R : Rep κ c σ h G) (T : TabIn c G P us) (hex : P ∉ c.ex) (hpos : ∀ p ∈ us, (p.line == pos.line && p.col == pos.col) = false) (hdef : defaultsOf ps c.env = ([], [])) (hcl : closureFor sc c.env = pure [])
    (q : ∀ h' tk' G' u, Rep κ c σ h' G' → Kp [P] G G' → TabIn c G' P (us ++ [pos]) → VRel κ.X c.mg G' (.lam ps b sc) u → Q u (mk c.s h' tk')) : wpAny (model c.prog c.w) c.A (eval (.Lambda ps b sc pos) c.env) Q E (mk c.s h tk) := by
  obtain ⟨cc, l, t1, t2, t3, t4, t5, t6⟩ := T
  have S := R.st
  have hm := S.newsO _ t5
  have hgs := R.gd.g.keeps S.fr.keep
  obtain ⟨bm, obm, b1, b2, b3, b4, b5, b6, b7, b8⟩ := t4
  have hgP : mainGlobals ≠ P := fun q => by
    obtain ⟨o, es, ep, e, hd, _⟩ := hgs
    rw [q, hm.1] at e; cases e; cases hd
  refine kla_eval hdef (kla_makeFunction (s := mk c.s h tk) (mg := c.mg) hcl R.en.gb hgs t2 (t3.keeps S.fr.keep) hm.1 (tabV_ok l) (tabV_none (by rw [t1]; exact hpos)) hgP ⟨bm, obm, b1, b2, b3, b4, S.fr.keep _ _ b5, b6, b7, b8⟩ fun c' ctv h₁ tk₁ hx hge hlt hrec htb => ?_)
  obtain ⟨c₂, oc, vs, t, e2, hoc, hd, hv⟩ := hrec
  cases e2
  have hge : h.objs.size ≤ c' := hge
  have hx : Heap.ExtBut P h h₁ := hx
  have S1 := S.rm t5 hx
  have hPadr : P ∉ adr G.ls (Led.rm P G.ob) c.B ∧ ∀ p ∈ G.nw, p.1 ≠ P := by
    have hPa : P ∈ adr G.ls G.ob c.B := List.mem_append_right _ (List.mem_append_left _ (List.mem_map_of_mem (f := (·.1)) t5))
    refine ⟨fun q => ?_, fun p hp => S.apart.2 P hPa p hp⟩
    have nd := List.nodup_append.mp S.apart.1
    have nd2 := List.nodup_append.mp nd.2.1
    have hPo : P ∈ G.ob.map (·.1) := List.mem_map_of_mem (f := (·.1)) t5
    rcases List.mem_append.mp q with q | q
    · exact nd.2.2 P q P (List.mem_append_left _ hPo) rfl
    · rcases List.mem_append.mp q with q | q
      · obtain ⟨p, hp, e⟩ := List.mem_map.mp q
        have := (List.mem_filter.mp hp).2
        simp [e] at this
      · exact nd2.2.2 P hPo P q rfl
  have S2 := S1.putO htb hm.2.1 hm.2.2 hPadr.1 hPadr.2
  have hLs : c.L < h.objs.size := S.fr.ns.lt
  have hlow : ∀ a ∈ adr G.ls ((P, tabObj ((tabV l).toArray ++ #[rawInt pos.line, rawInt pos.col, .ref c'])) :: Led.rm P G.ob) c.B, a < h.objs.size := fun a ha => by
    have hp1 : (adr G.ls ((P, tabObj ((tabV l).toArray ++ #[rawInt pos.line, rawInt pos.col, .ref c'])) :: Led.rm P G.ob) c.B).Perm (P :: adr G.ls (Led.rm P G.ob) c.B) := by unfold adr; exact List.perm_middle
    rcases List.mem_cons.mp (hp1.mem_iff.mp ha) with rfl | ha
    · exact Heap.lt_size hm.1
    · refine (S.low.1 a ?_).1
      unfold adr at ha ⊢
      rcases List.mem_append.mp ha with ha | ha
      · exact List.mem_append_left _ ha
      · rcases List.mem_append.mp ha with ha | ha
        · obtain ⟨p, hp, rfl⟩ := List.mem_map.mp ha
          exact List.mem_append_right _ (List.mem_append_left _ (List.mem_map_of_mem (f := (·.1)) (List.mem_filter.mp hp).1))
        · exact List.mem_append_right _ (List.mem_append_right _ ha)
  have S3 := S2.putN hoc (fun q => absurd (q ▸ hge) (Nat.not_le_of_gt hLs)) (Heap.get?_none_of_le (Nat.le_trans S.fr.above (Nat.le_trans (Nat.le_of_lt hLs) hge))) (fun q => absurd (hlow _ q) (Nat.not_lt_of_le hge))
  have S4 := S3.addN (h' := h₁.push (kla_obj "<lambda>" (c.env.qual ++ "<lambda>") ps b sc [] ((c.mg "__name__").getD .none) c' ctv)) (fun _ _ e => Heap.get?_push_of_some _ e) (Nat.le_refl _) (Heap.get?_push_size _ rfl)
  obtain ⟨R', K'⟩ := R.hidAll (x := [P]) (fun a ha => by rw [List.mem_singleton.mp ha]; exact ⟨t6, hex⟩) (fun p hp hn => .tail _ (mem_rm hp fun e => hn (e ▸ .head _))) (fun p hp => .tail _ (.tail _ hp)) S4
  refine q _ tk₁ _ _ R' K' ⟨cc, l ++ [(pos, c')], by rw [List.map_append, t1]; rfl, t2, t3, ⟨bm, obm, b1, b2, b3, b4, b5, b6, b7, b8⟩, ?_, t6⟩ ⟨_, rfl, c', oc, vs, t, _, _, _, _, .head _, .tail _ (.head _), hd, hv⟩
  rw [tabV_snoc]
  refine List.mem_cons.mpr (.inl ?_)
  simp
noncomputable def TabZ (P : Addr) (ob : Led) : Prop := ∃ ps, (P, tabObj ps) ∈ ob
noncomputable def PostZ (κ : K) (P : Addr) (c : Kx) (G : Gh) (v : AV) (ls : List LC) (Q : Flow → Shared → Prop) : Prop :=
  ∀ h tk G' u σ', σ'.l = ls → Rep κ c σ' h G' → Kp (P :: c.ex) G G' → TabZ P G'.ob → VRel κ.X c.mg G' v u → Q (.ret u) (mk c.s h tk)
theorem PostZ.move {Q : Flow → Shared → Prop} (p : PostZ κ P c G v ls Q) (k : Kp (P :: c.ex) G G') : PostZ κ P c G' v ls Q := fun h tk G'' u σ' hl R k' hz hv => p h tk G'' u σ' hl R (k.trans k') hz hv
noncomputable def EsT (κ : K) (σ : Sg) (us : List Pos) (ss : List Stmt) (v : AV) (ls : List LC) : Prop :=
  ∀ c h tk G P, Rep κ c σ h G → TabIn c G P us → P ∉ c.ex → ∀ Q E, PostZ κ P c G v ls Q → wpAny (model c.prog c.w) c.A (execs ss c.env) Q E (mk c.s h tk)
theorem et_drop (hE : EsR κ σ ss v ls) : EsT κ σ us ss v ls := fun c h tk G P R ⟨_, _, _, _, _, _, t5, t6⟩ hex Q E post => hE c h tk G R Q E fun h' tk' G' u σ' hl R' K' hv => post h' tk' G' u σ' hl R' (K'.wk fun z hz => .tail _ hz) ⟨_, (K'.ob _ t5 t6 hex).1⟩ hv
theorem et_cons (hE : Ex κ σ s (.ok .next σ₁)) (hk : EsT κ σ₁ us ss v ls) : EsT κ σ us (s :: ss) v ls := fun c h tk G P R T hex Q E post => wpAny_execs_cons (hE c h tk G R _ _ fun h₁ tk₁ G₁ u R₁ K₁ V₁ => by
  have V₁ : u = .next := V₁
  subst V₁
  exact hk c h₁ tk₁ G₁ P R₁ (T.move K₁ hex) hex _ _ (post.move (K₁.wk fun z hz => .tail _ hz)))
theorem Kp.fresh2 {y : List Addr} (hI : ∀ p ∈ G.ob, p.1 ≠ I) (hl : ∀ p ∈ G.ls, p.1 ≠ I) (k : Kp (I :: y) G G') : Kp y G G' := by
  refine ⟨k.la, k.oa, k.nw, fun e h h' h'' => k.ls e h h' fun q => ?_, fun p h h' h'' => k.ob p h h' fun q => ?_⟩
  · rcases List.mem_cons.mp q with q | q
    · exact hl e h q
    · exact h'' q
  · rcases List.mem_cons.mp q with q | q
    · exact hI p h q
    · exact h'' q
section
variable {wn f e1 e2 : PySem.Expr} {name : Str} {ap p cp xp kp lp : Pos} {pl : Env → Sem Bool} {w i j q' : Nat} {vs : List AV} {n : Int} {ps : Arguments} {b : PySem.Expr} {sc : Scope} {ls₀ ls' l' : List LC}
theorem et_appL (hw : Ev κ σ wn (.ok (.oth w) σ)) (hwo : σ.o[w]? = some (.rl vs)) (hvz : vs.length < 900) (hf : Ev κ σ f (.ok (.fn i) σ)) (hi : i ∈ κ.X.ks) (ha : Ev κ σ e1 (.ok (.int n) σ)) (hb : Ev κ σ e2 (.ok (.lst j) σ)) (slot : Slot "list" name "list.append") (hF : FnX κ.X q' i [Str.ofString "key"] [.int n, .lst 0] [.lam ps b sc] ls₀ (fun _ _ => True) [] (.lst 1) ls')
    (hpos : ∀ p ∈ us, (p.line == lp.line && p.col == lp.col) = false) (hdef : ∀ env, defaultsOf ps env = ([], [])) (hcl : ∀ x ∈ sc.names, x.2 ≠ .free) (e2' : sel σ.l [j] = ls₀) (e4 : wr σ.l [j] ls' = l') (hq : q' ≤ κ.q) (hj : Nat.blt j σ.l.length = true) (hhd : κ.fi.hd = true)
    (hk : EsT κ ⟨σ.v, l', σ.o.set w (.rl (vs ++ [.lst σ.l.length]))⟩ (us ++ [lp]) ss v ls)
    (hs : ∀ env, swapsWith (.Call (.Attribute wn name ap) [.Call f [e1, e2] [⟨some (Str.ofString "key"), .Lambda ps b sc lp, kp⟩] cp] [] p) none xp.line env = pure false := by intro _; rfl)
    (hcm : ∀ env, eval (.Call (.Attribute wn name ap) [.Call f [e1, e2] [⟨some (Str.ofString "key"), .Lambda ps b sc lp, kp⟩] cp] [] p) env = (do
      let ov ← eval wn env
      standAt ap.atName
      let (f', first) ← holding [ov] (getMethod ov name (pl env))
      callWith p f' first (backTo p (starEach [.Call f [e1, e2] [⟨some (Str.ofString "key"), .Lambda ps b sc lp, kp⟩] cp] env)) []) := by intro _; rfl)
    (hem : ∀ env, starEach [.Call f [e1, e2] [⟨some (Str.ofString "key"), .Lambda ps b sc lp, kp⟩] cp] env = (false, eval (.Call f [e1, e2] [⟨some (Str.ofString "key"), .Lambda ps b sc lp, kp⟩] cp) env) :: starEach [] env := by intro _; rfl)
    (hc : ∀ env, eval (.Call f [e1, e2] [⟨some (Str.ofString "key"), .Lambda ps b sc lp, kp⟩] cp) env = (do callWith cp (← eval f env) [] (backTo cp (starEach [e1, e2] env)) (backToKw cp (keywordEach [⟨some (Str.ofString "key"), .Lambda ps b sc lp, kp⟩] env))) := by intro _; rfl)
    (he : ∀ env, starEach [e1, e2] env = (false, eval e1 env) :: starEach [e2] env := by intro _; rfl) (he' : ∀ env, starEach [e2] env = (false, eval e2 env) :: starEach [] env := by intro _; rfl) :
    EsT κ σ us (.Expr (.Call (.Attribute wn name ap) [.Call f [e1, e2] [⟨some (Str.ofString "key"), .Lambda ps b sc lp, kp⟩] cp] [] p) xp :: ss) v ls := by
  intro c h tk G P R T hex Q E post
  refine wpAny_execs_cons (wpAny_Expr_any ?_ R.en.inter (hs _))
  refine MethodCall_ (pl := pl _) (hw c h tk G R _ _ fun h₁ tk₁ G₁ u₁ R₁ K₁ V₁ => ?_) (hcm _)
  obtain ⟨a, ha1, rfl⟩ := V₁
  obtain ⟨a', bo, g, e1', U, wus, m, rfl, hr⟩ := R₁.atO hwo
  cases ha1.symm.trans e1'
  have hg := R₁.st.getO U
  refine getMethod_builtin (s := mk c.s h₁ tk₁) ⟨_, hg, rfl⟩ PySem.F.plainAttrs_list slot PySem.F.type_list_append (fun a e => by cases e; exact ⟨_, hg, rfl⟩) ?_
  refine callWith_method1 (args_cons ?_ (hem _)) (hem _) rfl
  rw [hc]
  refine wpAny_bind (hf c h₁ tk₁ G₁ R₁ _ _ fun h₂ tk₂ G₂ u₂ R₂ K₂ V₂ => ?_)
  have V₂ : u₂ = .ref (fa κ.X.P c.mg i) := V₂
  subst V₂
  obtain ⟨_, o, pm, code, doc, dA, dO, dn, g2, g3, g4⟩ := R.gd.fd i hi
  refine callWith_def_kw (o := o) g3 ?_
  refine evalArgs_kw2 rfl (args_cons (ha c h₂ tk₂ G₂ R₂ _ _ fun h₃ tk₃ G₃ u₃ R₃ K₃ V₃ => ?_) (he _)) (he _)
  refine args_cons (hb c h₃ tk₃ G₃ R₃ _ _ fun h₄ tk₄ G₄ u₄ R₄ K₄ V₄ => args_nil ?_) (he' _)
  have K14 := ((K₁.trans K₂).trans K₃).trans K₄
  refine kws_cons (rep_lam R₄ (T.move K14 hex) hex hpos (hdef _) (closureFor_none hcl) fun h₅ tk₅ G₅ u₅ R₅ K₅ T₅ V₅ => kws_nil ⟨R₅.st.fr.keep _ _ g2, ?_⟩)
  refine rep_callX (R := R₅) (as := [.int n, .lst j]) (ks := [.lam ps b sc]) (y := []) (v' := .lst σ.l.length) [j] hF (.cons (K₅.v (K₄.v V₃)) (.cons (K₅.v V₄) .nil)) (.cons V₅ .nil) (fun _ h => nomatch h) (fun _ _ _ _ _ => trivial) (fun h₆ tk₆ G₆ u₆ R₆ K₆ V₆ => args_nil ?_) (by simp [ren]) rfl e2' rfl e4 hq (by simpa using hj) (by simp) (by simp [AV.plain]) rfl rfl hhd
  have K46 := K₅.trans K₆.any
  refine m_appendO (κ := κ) (σ := ⟨σ.v, l', σ.o⟩) hwo (by lia) c h₆ tk₆ G₆ R₆ [.ref a, u₆] (.cons ⟨a, pre_get K46.oa (pre_get ((K₂.trans K₃).trans K₄).oa ha1), rfl⟩ (.cons V₆ .nil)) _ _ fun h₇ tk₇ G₇ u₇ R₇ K₇ V₇ => ?_
  have T₇ : TabIn c G₇ P (us ++ [lp]) := (T₅.move (K₆.any (x := [])) List.not_mem_nil).move K₇ hex
  exact hk c h₇ tk₇ G₇ P R₇ T₇ hex _ _ (post.move ((K14.wk fun z hz => .tail _ hz).trans ((K46.wk fun z hz => by rw [List.mem_singleton.mp hz]; exact .head _).trans (K₇.wk fun z hz => .tail _ hz))))
theorem et_appH (hw : Ev κ σ wn (.ok (.oth w) σ)) (hwo : σ.o[w]? = some (.rl vs)) (hvz : vs.length < 900) (hf : Ev κ σ f (.ok (.fn i) σ)) (hi : i ∈ κ.X.ks) (ha : Ev κ σ e1 (.ok (.int n) σ)) (hb : HidE κ σ e2 (.li j 0) σ) (slot : Slot "list" name "list.append") (hF : ∀ I, FnX κ.X q' i [Str.ofString "key"] [.int n, .val (.ref I)] [.lam ps b sc] ls₀ (HidP κ.X I) [I] (.lst 1) ls')
    (hpos : ∀ p ∈ us, (p.line == lp.line && p.col == lp.col) = false) (hdef : ∀ env, defaultsOf ps env = ([], [])) (hcl : ∀ x ∈ sc.names, x.2 ≠ .free) (e2' : sel σ.l [j] = ls₀) (e4 : wr σ.l [j] ls' = l') (hq : q' ≤ κ.q) (hj : Nat.blt j σ.l.length = true) (hhd : κ.fi.hd = true)
    (hk : EsT κ ⟨σ.v, l', σ.o.set w (.rl (vs ++ [.lst σ.l.length]))⟩ (us ++ [lp]) ss v ls)
    (hs : ∀ env, swapsWith (.Call (.Attribute wn name ap) [.Call f [e1, e2] [⟨some (Str.ofString "key"), .Lambda ps b sc lp, kp⟩] cp] [] p) none xp.line env = pure false := by intro _; rfl)
    (hcm : ∀ env, eval (.Call (.Attribute wn name ap) [.Call f [e1, e2] [⟨some (Str.ofString "key"), .Lambda ps b sc lp, kp⟩] cp] [] p) env = (do
      let ov ← eval wn env
      standAt ap.atName
      let (f', first) ← holding [ov] (getMethod ov name (pl env))
      callWith p f' first (backTo p (starEach [.Call f [e1, e2] [⟨some (Str.ofString "key"), .Lambda ps b sc lp, kp⟩] cp] env)) []) := by intro _; rfl)
    (hem : ∀ env, starEach [.Call f [e1, e2] [⟨some (Str.ofString "key"), .Lambda ps b sc lp, kp⟩] cp] env = (false, eval (.Call f [e1, e2] [⟨some (Str.ofString "key"), .Lambda ps b sc lp, kp⟩] cp) env) :: starEach [] env := by intro _; rfl)
    (hc : ∀ env, eval (.Call f [e1, e2] [⟨some (Str.ofString "key"), .Lambda ps b sc lp, kp⟩] cp) env = (do callWith cp (← eval f env) [] (backTo cp (starEach [e1, e2] env)) (backToKw cp (keywordEach [⟨some (Str.ofString "key"), .Lambda ps b sc lp, kp⟩] env))) := by intro _; rfl)
    (he : ∀ env, starEach [e1, e2] env = (false, eval e1 env) :: starEach [e2] env := by intro _; rfl) (he' : ∀ env, starEach [e2] env = (false, eval e2 env) :: starEach [] env := by intro _; rfl) :
    EsT κ σ us (.Expr (.Call (.Attribute wn name ap) [.Call f [e1, e2] [⟨some (Str.ofString "key"), .Lambda ps b sc lp, kp⟩] cp] [] p) xp :: ss) v ls := by
  intro c h tk G P R T hex Q E post
  refine wpAny_execs_cons (wpAny_Expr_any ?_ R.en.inter (hs _))
  refine MethodCall_ (pl := pl _) (hw c h tk G R _ _ fun h₁ tk₁ G₁ u₁ R₁ K₁ V₁ => ?_) (hcm _)
  obtain ⟨a, ha1, rfl⟩ := V₁
  obtain ⟨a', bo, g, e1', U, wus, m, rfl, hr⟩ := R₁.atO hwo
  cases ha1.symm.trans e1'
  have hg := R₁.st.getO U
  refine getMethod_builtin (s := mk c.s h₁ tk₁) ⟨_, hg, rfl⟩ PySem.F.plainAttrs_list slot PySem.F.type_list_append (fun a e => by cases e; exact ⟨_, hg, rfl⟩) ?_
  refine callWith_method1 (args_cons ?_ (hem _)) (hem _) rfl
  rw [hc]
  refine wpAny_bind (hf c h₁ tk₁ G₁ R₁ _ _ fun h₂ tk₂ G₂ u₂ R₂ K₂ V₂ => ?_)
  have V₂ : u₂ = .ref (fa κ.X.P c.mg i) := V₂
  subst V₂
  obtain ⟨_, o, pm, code, doc, dA, dO, dn, g2, g3, g4⟩ := R.gd.fd i hi
  refine callWith_def_kw (o := o) g3 ?_
  refine evalArgs_kw2 rfl (args_cons (ha c h₂ tk₂ G₂ R₂ _ _ fun h₃ tk₃ G₃ u₃ R₃ K₃ V₃ => ?_) (he _)) (he _)
  refine args_cons (hb c h₃ tk₃ G₃ R₃ _ _ fun h₄ tk₄ G₄ I oI R₄ K₄ Hd f1 f2 hor => args_nil ?_) (he' _)
  have K14 := ((K₁.trans K₂).trans K₃).trans K₄
  have T4 := T.move K14 hex
  have hIP : I ≠ P := fun q => by
    obtain ⟨_, _, _, _, _, _, t5, _⟩ := T.move ((K₁.trans K₂).trans K₃) hex
    exact f1 _ t5 q.symm
  refine kws_cons (rep_lam R₄ T4 hex hpos (hdef _) (closureFor_none hcl) fun h₅ tk₅ G₅ u₅ R₅ K₅ T₅ V₅ => kws_nil ⟨R₅.st.fr.keep _ _ g2, ?_⟩)
  obtain ⟨i1, i2⟩ := K₅.ob (I, oI) Hd.1 Hd.2.1 (fun q => hIP (List.mem_singleton.mp q))
  have ho5 : ORel κ.X c.mg G₅ (.li j 0) oI := hor.mono K₅.la K₅.oa K₅.nw
  refine rep_callX (R := R₅) (as := [.int n, .val (.ref I)]) (ks := [.lam ps b sc]) (y := [I]) (v' := .lst σ.l.length) [j] (hF I) (.cons (K₅.v (K₄.v V₃)) (.cons rfl .nil)) (.cons V₅ .nil) (fun a ha => by rw [List.mem_singleton.mp ha]; exact ⟨⟨oI, i1⟩, i2, Hd.2.2⟩) (hidP_of i1 ho5 rfl) (fun h₆ tk₆ G₆ u₆ R₆ K₆ V₆ => args_nil ?_) rfl rfl e2' rfl e4 hq (by simpa using hj) (by simp) rfl rfl rfl hhd
  have K46 : Kp [I, P] G₄ G₆ := (K₅.wk fun z hz => .tail _ hz).trans (K₆.wk fun z hz => by rw [List.mem_singleton.mp hz]; exact .head _)
  refine m_appendO (κ := κ) (σ := ⟨σ.v, l', σ.o⟩) hwo (by lia) c h₆ tk₆ G₆ R₆ [.ref a, u₆] (.cons ⟨a, pre_get K46.oa (pre_get ((K₂.trans K₃).trans K₄).oa ha1), rfl⟩ (.cons V₆ .nil)) _ _ fun h₇ tk₇ G₇ u₇ R₇ K₇ V₇ => ?_
  have T₇ : TabIn c G₇ P (us ++ [lp]) := (T₅.move K₆ (fun q => hIP (List.mem_singleton.mp q).symm)).move K₇ hex
  have K37 : Kp (I :: P :: c.ex) G₃ G₇ := (K₄.wk fun z hz => .tail _ (.tail _ hz)).trans ((K46.wk fun z hz => by
    rcases List.mem_cons.mp hz with rfl | hz
    · exact .head _
    · rw [List.mem_singleton.mp hz]; exact .tail _ (.head _)).trans (K₇.wk fun z hz => .tail _ (.tail _ hz)))
  have K37 : Kp (P :: c.ex) G₃ G₇ := Kp.fresh2 f1 f2 K37
  exact hk c h₇ tk₇ G₇ P R₇ T₇ hex _ _ (post.move ((((K₁.trans K₂).trans K₃).wk fun z hz => .tail _ hz).trans K37))
end
end
end Mine
end
section
namespace Mine
noncomputable def FnZ (X : Pg) (q i : Nat) (ns : List Str) (args ks : List AV) (ls : List LC) (P : Kx → Gh → Prop) (y : List Addr) (Z : Led → Prop) (v : AV) (ls' : List LC) : Prop :=
  ∀ (c : Kx) h tk m G, Cx X c.mg c.mb c.A c.B c.L q → St c.B c.L h m G.ls G.ob G.nw → Lr X c.mg G ls [] → P c G → ∀ us, All2 (fun u a => VRel X c.mg G a u) us args → ∀ ws, All2 (fun u a => VRel X c.mg G a u) ws ks → ∀ Q E,
    (∀ h tk G' u, St c.B c.L h m G'.ls G'.ob G'.nw → Kp y G G' → All2 (fun a x => (a, x) ∈ G'.ls) G'.la ls' → G'.la.Nodup → Z G'.ob → VRel X c.mg G' v u → Q u (mk c.s h tk)) →
    wpAny (model c.prog c.w) c.A (call (.ref (fa X.P c.mg i)) us (ns.zip ws)) Q E (mk c.s h tk)
theorem fn_ofV {X : Pg} {q i : Nat} {fi : Fi} {cf : Nat → List (Str × Addr)} {bn ns : List Str} {args ks dfa : List AV} {dfs : List Value} {pv pc : List (Option Nat)} {ls ls' : List LC} {v : AV} {P P' : Kx → Gh → Prop} {y : List Addr} {Z : Led → Prop} (F : FiOkC X i fi cf bn)
    (hcall : ∀ (c : Kx) h tk G, Gd X.P X.js X.ks X.free c.mg c.mb c.B.hB → (∀ b o, c.B.hB.get? b = some o → h.get? b = some o) → P c G → ∀ us ws : List Value, us.length = args.length → ws.length = ks.length → ∃ dv code, (∀ (c' : Kx) (cob : Led) m', c'.mg = c.mg → c'.B.hB = c.B.hB → c'.env.code = code → (∀ p ∈ G.ob, p.1 ∉ cob.map (·.1)) → P' c' ⟨m', G.ls, cob ++ G.ob, G.nw, G.la, cob.map (·.1) ++ G.oa⟩) ∧ (∃ o pm doc, h.get? (fa X.P c.mg i) = some o ∧ o.data = .func { Calls.docDef (nm X.P i) (pr X.P i) (bd X.P i) (sc X.P i) pm code doc with defaults := dv } ∧ h.CodeRec code (nm X.P i)) ∧
      ∀ pm code doc, BindsTo (mk c.s h tk) { Calls.docDef (nm X.P i) (pr X.P i) (bd X.P i) (sc X.P i) pm code doc with defaults := dv } ⟨us, ns.zip ws⟩ (bn.zip (us ++ ws ++ dfs)))
    (hdf : ∀ X' mg G, All2 (fun u a => VRel X' mg G a u) dfs dfa)
    (hpv : ∀ (j t : Nat) (x : Str), pv[j]? = some (some t) → fi.tb[j]? = some x → bn[t]? = some x) (hpc : ∀ (j t : Nat) (p : Str × Nat), pc[j]? = some (some t) → fi.cs[j]? = some p → bn[t]? = some p.1) (hpl : pc.length = fi.cs.length)
    (h : ∀ c h tk G, c.mo = none → Rep ⟨X, fi, q⟩ c ⟨pv.map (stV ((args ++ ks).map (shO fi.cs.length) ++ dfa)), ls, pc.map (fun o => .cell (stV ((args ++ ks).map (shO fi.cs.length) ++ dfa) o))⟩ h G → P' c G → ∀ Q E, (∀ h tk G' u σ', σ'.l = ls' → Rep ⟨X, fi, q⟩ c σ' h G' → Kp y G G' → Z G'.ob → VRel X c.mg G' v u → Q (.ret u) (mk c.s h tk)) → wpAny (model c.prog c.w) c.A (execs (bd X.P i) c.env) Q E (mk c.s h tk)) (hvo : v.noOth = true) : FnZ X (q + 1) i ns args ks ls P y Z v ls' := by
  intro c hp tk m G C S lr hPG us hus₁ ws hws Q E post
  obtain ⟨dv, code, hP, hfd, hbi⟩ := hcall c hp tk G C.gd S.fr.keep hPG us ws hus₁.len hws.len
  refine fn_gen (args := ⟨us, ns.zip ws⟩) (Z := Z) (y := y) (os := []) F C S lr (hus₁.append hws) hfd hbi hdf hpv hpc hpl (fun x hx => nomatch hx) (fun c' h₁ tk' cob m' hmo hmg hB hc hn R Q E post' => ?_) hvo post
  rw [List.append_nil] at R
  exact h c' h₁ tk' _ hmo R (hP c' cob m' hmg hB hc hn) Q E fun h' tk₂ G' u σ' hl R' K' hz V' => post' h' tk₂ G' _ σ' hl R' K' hz V'
noncomputable def TabC (X : Pg) (i : Nat) (P : Addr) (us : List Pos) (c : Kx) (G : Gh) : Prop := ∃ cc l, l.map (·.1) = us ∧ (∃ o pm doc, c.B.hB.get? (fa X.P c.mg i) = some o ∧ o.data = .func (Calls.docDef (nm X.P i) (pr X.P i) (bd X.P i) (sc X.P i) pm (.ref cc) doc) ∧ c.B.hB.CodeRec (.ref cc) (nm X.P i)) ∧ CodeHd c.B.hB cc P ∧ c.B.hB.BuiltinsAt c.mg P ∧ (P, tabObj (tabV l).toArray) ∈ G.ob ∧ P ∉ G.oa
theorem fn_tab {X : Pg} {q i np : Nat} {fi : Fi} {args : List AV} {pv : List (Option Nat)} {ls ls' : List LC} {v : AV} {bn : List Str} {us : List Pos} {P : Addr} (F : FiOkC X i fi (fun _ => []) bn) (hcs : fi.cs = []) (ha : args.length = np)
    (hbind : ∀ us : List Value, us.length = np → ∀ pm code doc, bindArgs (Calls.docDef (nm X.P i) (pr X.P i) (bd X.P i) (sc X.P i) pm code doc) ⟨us, []⟩ = pure (bn.zip us))
    (hpv : ∀ (j t : Nat) (x : Str), pv[j]? = some (some t) → fi.tb[j]? = some x → bn[t]? = some x)
    (h : EsT ⟨X, fi, q⟩ ⟨pv.map (stV (args.map (shO 0))), ls, []⟩ us (bd X.P i) v ls') (hvo : v.noOth = true) : FnZ X (q + 1) i [] args [] ls (TabC X i P us) [P] (TabZ P) v ls' := by
  refine fn_ofV (P' := fun c G => TabIn c G P us) (dfa := []) (dfs := []) (pv := pv) (pc := []) F (fun c h tk G Gd hk T us' ws hu hw => ?_) (fun _ _ _ => .nil) hpv (fun j t p h1 => by simp at h1) (by rw [hcs]; rfl) (fun c h' tk G hm R T Q E post => ?_) hvo
  · obtain ⟨cc, l, t1, ⟨o, pm, doc, f1, f2, f3⟩, t3, t4, t5, t6⟩ := T
    have hw : ws = [] := List.length_eq_zero_iff.mp hw
    subst hw
    refine ⟨.none, .ref cc, fun c' cob m' e1 e2 e3 hn => ⟨cc, l, t1, e3, by rw [e2]; exact t3, by rw [e1, e2]; exact t4, List.mem_append_right _ t5, fun q => ?_⟩, ⟨o, pm, doc, hk _ _ f1, f2, f3.keeps hk⟩, fun pm code doc => BindsTo.of_eq ?_⟩
    · rcases List.mem_append.mp q with q | q
      · exact hn _ t5 q
      · exact t6 q
    · have := hbind us' (hu.trans ha) pm code doc
      rw [List.append_nil, List.append_nil]
      exact this
  · have e : c.ex = [] := by unfold Kx.ex; rw [hm]
    rw [hcs] at R
    simp only [List.append_nil, List.length_nil, List.map_nil] at R
    exact h c h' tk G P R T (by rw [e]; exact List.not_mem_nil) Q E fun h tk G' u σ' hl R k hz hv => post h tk G' u σ' hl R (by rw [e] at k; exact k) hz hv
end Mine
end
section
namespace Mine
section
variable {κ : K} {c : Kx} {σ σ₁ σ₂ σ₃ : Sg} {h h' : Heap} {tk : Nat} {G G' : Gh} {E : Value → Shared → Prop} {P : Addr} {W : Kx → Prop} {s : Stmt} {ss : List Stmt} {v : AV}
theorem rep_callZ {Z : Led → Prop} {Q : Value → Shared → Prop} {i q' : Nat} {ns : List Str} {as as' ks ks' : List AV} {us ws : List Value} {v v' : AV} {ls ls' l' : List LC} {P : Kx → Gh → Prop} {y : List Addr} (ids : List Nat) (R : Rep κ c σ h G) (hF : FnZ κ.X q' i ns as' ks' ls P y Z v ls') (hus : LR κ c G as us) (hws : LR κ c G ks ws) (hy : ∀ a ∈ y, (∃ o, (a, o) ∈ G.ob) ∧ a ∉ G.oa ∧ a ∉ c.ex)
    (hP : ∀ Gc : Gh, Gc.ob = G.ob → Gc.oa = [] → Gc.nw = G.nw → (∀ j i : Nat, ids[j]? = some i → Gc.la[j]? = G.la[i]?) → P c Gc)
    (post : ∀ h' tk' G'' u, Rep κ c ⟨σ.v, l', σ.o⟩ h' G'' → Kp y G G'' → Z G''.ob → VRel κ.X c.mg G'' v' u → Q u (mk c.s h' tk'))
    (e1 : as.map (ren ids) = as') (e1' : ks.map (ren ids) = ks') (e2 : sel σ.l ids = ls) (e3 : bck ids σ.l.length v = v') (e4 : wr σ.l ids ls' = l') (hq : q' ≤ κ.q) (hi : (ids.all fun i => Nat.blt i σ.l.length) = true) (hid : ids.Nodup) (hp : as.all (AV.plain ids) = true) (hp' : ks.all (AV.plain ids) = true) (hv : v.noOth = true) (hhd : κ.fi.hd = true) :
    wpAny (model c.prog c.w) c.A (call (.ref (fa κ.X.P c.mg i)) us (ns.zip ws)) Q E (mk c.s h tk) := by
  subst e1 e1' e2 e3 e4
  obtain ⟨Gc, g1, g2, g3, g4, g5, lr, hre, hback⟩ := R.handX hy (fun i h => Nat.le_of_ble_eq_true (List.all_eq_true.mp hi i h)) hid
  have tr : ∀ {as : List AV} {us : List Value}, as.all (AV.plain ids) = true → LR κ c G as us → All2 (fun u a => VRel κ.X c.mg Gc a u) us (as.map (ren ids)) := by
    intro as us hp hu
    have hp' := List.all_eq_true.mp hp
    clear hp
    have hu' : All2 (fun u a => VRel κ.X c.mg G a u) us as := hu
    clear hu
    induction hu' with
    | nil => exact .nil
    | cons r1 _ ih => exact .cons (hre _ _ (hp' _ (.head _)) r1) (ih fun a h => hp' a (.tail _ h))
  refine hF c h tk (c.lm G) Gc ((R.cx hhd).le hq) (by rw [g1, g2, g3]; exact R.st) lr (hP Gc g2 g4 g3 g5) us (tr hp hus) ws (tr hp' hws) _ _ fun h' tk' G' u S' K' hl hn hz hu => ?_
  obtain ⟨G'', q1, q2, q3, kp, _, hvb, hrep⟩ := hback G' ls' K' hl hn
  exact post h' tk' G'' u (hrep h' S') kp (by rw [q2]; exact hz) (hvb v u hv hu)
theorem TabC.move {X : Pg} {i : Nat} {us : List Pos} {x : List Addr} (T : TabC X i P us c G) (k : Kp x G G') (hP : P ∉ x) : TabC X i P us c G' := by
  obtain ⟨cc, l, h1, h2, h3, h4, h5, h6⟩ := T
  obtain ⟨z1, z2⟩ := k.ob _ h5 h6 hP
  exact ⟨cc, l, h1, h2, h3, h4, z1, z2⟩
noncomputable def PostY (κ : K) (P : Addr) (c : Kx) (v : AV) (Q : Flow → Shared → Prop) : Prop := ∀ h tk G' u σ', Rep κ c σ' h G' → TabZ P G'.ob → VRel κ.X c.mg G' v u → Q (.ret u) (mk c.s h tk)
noncomputable def EsU (κ : K) (σ : Sg) (P : Addr) (W : Kx → Prop) (ss : List Stmt) (v : AV) : Prop :=
  ∀ c h tk G, Rep κ c σ h G → TabC κ.X 21 P [] c G → W c → P ∉ c.ex → ∀ Q E, PostY κ P c v Q → wpAny (model c.prog c.w) c.A (execs ss c.env) Q E (mk c.s h tk)
noncomputable def EvW (κ : K) (σ : Sg) (W : Kx → Prop) (e : PySem.Expr) (r : Rs AV) : Prop := ∀ c h tk G, Rep κ c σ h G → W c → ∀ Q E, Post κ c G (VR κ) r Q E → wpAny (model c.prog c.w) c.A (eval e c.env) Q E (mk c.s h tk)
noncomputable def ExW (κ : K) (σ : Sg) (W : Kx → Prop) (s : Stmt) (σ' : Sg) : Prop := ∀ c h tk G, Rep κ c σ h G → W c → ∀ Q E, Post κ c G (FRl κ) (.ok .next σ') Q E → wpAny (model c.prog c.w) c.A (exec s c.env) Q E (mk c.s h tk)
theorem exw (h : Ex κ σ s (.ok .next σ₁)) : ExW κ σ W s σ₁ := fun c h' tk G R _ Q E post => h c h' tk G R Q E post
theorem evw_bin {l rr : PySem.Expr} {op : Operator} {p : Pos} {a b : AV} {r : Rs AV} (hl : EvW κ σ W l (.ok a σ₁)) (hr : Ev κ σ₁ rr (.ok b σ₂)) (ho : O2 κ σ₂ (binaryOp op) a b r) : EvW κ σ W (.BinOp l op rr p) r :=
  fun c h tk G R hw Q E post => wpAny_BinOp (hl c h tk G R hw _ _ fun h₁ tk₁ G₁ u₁ R₁ K₁ V₁ => hr.seq R₁ (post.move K₁) fun h₂ tk₂ G₂ u₂ R₂ K₂ V₂ post₂ => ho _ h₂ tk₂ G₂ R₂ [_, _] (.cons (K₂.v V₁) (.cons V₂ .nil)) _ _ post₂)
theorem exw_asg {x : Str} {e : PySem.Expr} {p p' : Pos} {n : Nat} {v : AV} (h : EvW κ σ W e (.ok v σ₁)) (hx : κ.fi.tb[n]? = some x) (hs : ∀ env, swapsWith e (some (.Name x p')) p.line env = pure false := by intro _; rfl) : ExW κ σ W (.Assign [.Name x p'] e p) ⟨σ₁.v.set n v, σ₁.l, σ₁.o⟩ :=
  fun c h' tk G R hw Q E post => wpAny_Assign_Name (h c h' tk G R hw _ _ fun h₁ tk₁ G₁ u R₁ K₁ V₁ => rep_store R₁ hx V₁ fun h₂ tk₂ G₂ R₂ K₂ => post h₂ tk₂ G₂ _ R₂ (K₁.trans K₂) rfl) (hs _)
theorem exw_asgC {x : Str} {e : PySem.Expr} {p p' : Pos} {j : Nat} {v v₀ : AV} (h : EvW κ σ W e (.ok v σ₁)) (hx : (x, j) ∈ κ.fi.cs) (hj : σ₁.o[j]? = some (.cell v₀)) (hs : ∀ env, swapsWith e (some (.Name x p')) p.line env = pure false := by intro _; rfl) : ExW κ σ W (.Assign [.Name x p'] e p) ⟨σ₁.v, σ₁.l, σ₁.o.set j (.cell v)⟩ :=
  fun c h' tk G R hw Q E post => wpAny_Assign_Name (h c h' tk G R hw _ _ fun h₁ tk₁ G₁ u R₁ K₁ V₁ => rep_storeC R₁ hx hj V₁ fun h₂ tk₂ G₂ R₂ K₂ => post h₂ tk₂ G₂ _ R₂ (K₁.trans K₂) rfl) (hs _)
theorem eu_cons (hE : ExW κ σ W s σ₁) (hk : EsU κ σ₁ P W ss v) : EsU κ σ P W (s :: ss) v := fun c h tk G R T hw hex Q E post => wpAny_execs_cons (hE c h tk G R hw _ _ fun h₁ tk₁ G₁ u R₁ K₁ V₁ => by
  have V₁ : u = .next := V₁
  subst V₁
  exact hk c h₁ tk₁ G₁ R₁ (T.move K₁ hex) hw hex _ _ post)
section
variable {l : Addr} {xs : List Value} {ns : List Int} {x : Str} {n : Nat}
theorem evw_first {p1 p2 cp sp cp' ip : Pos} {k k' : Nat} {z : Int} (hx : κ.fi.tb[n]? = some x) (hv : σ.v[n]? = some (.val (.ref l))) (hI : IntsAre xs ns) (hz : xs.length < 1000) :
    EvW κ σ (fun c => c.B.hB.IsList l xs.toArray) (.IfExp (.Name x p1) (.Subscript (.Name x p2) (.Constant (.int 0) k cp) sp) (.Constant (.int z) k' cp') ip) (.ok (.int (ns.headD z)) σ) := by
  intro c h tk G R hw Q E post
  have keep : ∀ {h' : Heap} {G' : Gh}, Rep κ c σ h' G' → h'.IsList l xs.toArray := fun R' => by
    obtain ⟨o, e1, e2⟩ := hw
    exact ⟨o, R'.st.fr.keep _ _ e1, e2⟩
  refine IfExp_ (isTrue_plain (ev_name hx hv rfl c h tk G R _ _ fun h₁ tk₁ G₁ u R₁ K₁ V₁ => ?_) rfl)
  have V₁ : u = .ref l := V₁
  subst V₁
  refine wpAny_truthy_list (s := mk c.s h₁ tk₁) (keep R₁) (by simp only [List.size_toArray]; lia) ?_
  cases hI with
  | nil => exact ev_int c h₁ _ G₁ R₁ _ _ (post.move K₁)
  | cons z' t hI' =>
    show wpAny _ _ (eval (.Subscript (.Name x p2) (.Constant (.int 0) k cp) sp) c.env) _ _ _
    refine Subscript_ (ev_name hx hv rfl c h₁ _ G₁ R₁ _ _ fun h₂ tk₂ G₂ u₂ R₂ K₂ V₂ => i_const fun t' tk₃ => ?_)
    have V₂ : u₂ = .ref l := V₂
    subst V₂
    refine tail_any (s := mk c.s h₂ tk₃) (keep R₂).typeIs slot_list_getitem.lookup (wpAny_getItem_list (keep R₂) (by lia) (by lia) rfl (post h₂ tk₃ G₂ _ R₂ (K₁.trans K₂) ⟨t, rfl⟩)) (by with_unfolding_all rfl)
theorem evw_slice {p cp cq sp p' : Pos} {k k' : Nat} {a b : Int} (hx : κ.fi.tb[n]? = some x) (hv : σ.v[n]? = some (.val (.ref l))) (hI : IntsAre xs ns) (hz : xs.length < 1000)
    (hs : ∀ l s, ∃ ops, subscripted (.Slice (some (.Constant (.int a) k cp)) (some (.Constant (.int b) k' cq)) none sp) false (.ref l) (.ref s) = operate ops (getItem (.ref l) (.ref s)) := by intro _ _; exact ⟨_, rfl⟩) :
    EvW κ σ (fun c => c.B.hB.IsList l xs.toArray) (.Subscript (.Name x p) (.Slice (some (.Constant (.int a) k cp)) (some (.Constant (.int b) k' cq)) none sp) p') (.ok (.lst σ.l.length) ⟨σ.v, σ.l ++ [(.i, pickD (ns.map fun z => [z]) (some a) (some b) none)], σ.o⟩) := by
  intro c h tk G R hw Q E post
  have hr : ∀ nw : Led, All2 (RelIn nw .i) xs (ns.map fun z => [z]) := fun nw => by
    clear post R hw hz hv
    induction hI with
    | nil => exact .nil
    | cons z t _ ih => exact .cons ⟨z, t, rfl, rfl⟩ ih
  refine Subscript_ (ev_name hx hv rfl c h tk G R _ _ fun h₁ tk₁ G₁ u R₁ K₁ V₁ => wpAny_Slice ?_)
  have V₁ : u = .ref l := V₁
  subst V₁
  refine evalPart_some_step (i_const fun t1 tk2 => evalPart_some_step (i_const fun t2 tk3 => evalPart_none_step ?_))
  obtain ⟨ops, hsub⟩ := hs l h₁.objs.size
  refine r_sliceB (k := .i) R₁.st hw (hr _) (.int _ _) (.int _ _) .none (by simp) (by rw [← (hr []).len]; exact hz) hsub fun D h₂ S₂ => ?_
  obtain ⟨G', R', K', e⟩ := R₁.newL S₂
  exact post _ _ _ _ R' (K₁.trans K'.any) ⟨D, e, rfl⟩
end
theorem eu_ret {f e1 e2 e3 e' : PySem.Expr} {cp bp p : Pos} {i q' : Nat} {as as' : List AV} {ls₀ ls' l' : List LC} (ids : List Nat) (hf : Ev κ σ f (.ok (.fn i) σ)) (hj : i ∈ κ.X.js) (hi21 : i = 21) (ha : El κ σ [e1, e2, e3] (.ok as σ₂)) (hF : FnZ κ.X q' i [] as' [] ls₀ (TabC κ.X 21 P []) [P] (TabZ P) (.bool true) ls')
    (hk : Ev κ ⟨σ₂.v, l', σ₂.o⟩ e' (.ok (.bool true) σ₃)) (h1 : as.map (ren ids) = as') (h2 : sel σ₂.l ids = ls₀) (h4 : wr σ₂.l ids ls' = l') (hq : q' ≤ κ.q) (hi : (ids.all fun i => Nat.blt i σ₂.l.length) = true) (hid : ids.Nodup) (hp : as.all (AV.plain ids) = true) (hhd : κ.fi.hd = true)
    (hc : ∀ env, eval (.Call f [e1, e2, e3] [] cp) env = (do callWith cp (← eval f env) [] (backTo cp (starEach [e1, e2, e3] env)) (backToKw cp (keywordEach [] env))) := by intro _; rfl)
    (he : ∀ env, starEach [e1, e2, e3] env = (false, eval e1 env) :: starEach [e2, e3] env := by intro _; rfl) : EsU κ σ P W (.Return (some (.BoolOp .And [.Call f [e1, e2, e3] [] cp, e'] bp)) p :: ss) (.bool true) := by
  subst hi21
  intro c h tk G R T hw hex Q E post
  refine wpAny_execs_cons (wpAny_Return_some (PyProof.Rows.BoolOp_and (Call_ (hf c h tk G R _ _ fun h₁ tk₁ G₁ u₁ R₁ K₁ V₁ => ?_) (hc _))))
  have V₁ : u₁ = .ref (fa κ.X.P c.mg 21) := V₁
  subst V₁
  obtain ⟨_, o, pm, code, doc, g2, g3, g4⟩ := R.gd.fn 21 hj
  refine callWith_def (o := o) g3 (ha cp c h₁ tk₁ G₁ R₁ _ _ fun h₂ tk₂ G₂ us R₂ K₂ V₂ => ⟨R₂.st.fr.keep _ _ g2, ?_⟩) (he _)
  have T₂ := T.move (K₁.trans K₂) hex
  obtain ⟨cc, l, t1, t2, t3, t4, t5, t6⟩ := T₂
  refine rep_callZ (R := R₂) (ws := []) (ks := []) (ns := []) ids hF V₂ .nil (fun a ha => by rw [List.mem_singleton.mp ha]; exact ⟨⟨_, t5⟩, t6, hex⟩) (fun Gc g2 g4 g3 _ => ⟨cc, l, t1, t2, t3, t4, g2 ▸ t5, by rw [g4]; exact List.not_mem_nil⟩) (v' := .bool true) (fun h₃ tk₃ G₃ u₃ R₃ K₃ hZ V₃ => ?_) h1 rfl h2 rfl h4 hq hi hid hp rfl rfl hhd
  have V₃ : u₃ = .bool true := V₃
  subst V₃
  refine wpAny_truthy_bool (hk c h₃ tk₃ G₃ R₃ _ _ fun h₄ tk₄ G₄ u₄ R₄ K₄ V₄ => ?_)
  obtain ⟨ps, hps⟩ := hZ
  have hPo : P ∉ G₃.oa := fun q => by
    have := R₃.lens.2
    have e1 := R₂.lens.2
    obtain ⟨t, ht⟩ := K₃.oa
    have ht0 : t = [] := by
      have hl := congrArg List.length ht
      rw [List.length_append, e1, this] at hl
      exact List.length_eq_zero_iff.mp (by have : σ₂.o.length + t.length = σ₂.o.length := hl; lia)
    rw [← ht, ht0, List.append_nil] at q
    exact t6 q
  have := (K₄.ob _ hps hPo hex).1
  exact post h₄ tk₄ G₄ _ _ R₄ ⟨ps, this⟩ V₄
end
theorem pick_len (ds : List D) : (pickD ds (some 1) (some 31) none).length ≤ 30 := by
  unfold pickD
  refine Nat.le_trans (List.length_filterMap_le _ _) ?_
  have e : sliceBounds (some 1) (some 31) none ds.length = (((min 1 ds.length : Nat) : Int), ((min 31 ds.length : Nat) : Int), 1) := by
    simp only [sliceBounds, Option.getD_none, show (1 : Int) > 0 by decide, if_true]
    congr 1
    · simp; exact cut_nat 1 _
    · congr 1; simp; exact cut_nat 31 _
  rw [e]
  simp only [sliceRange_one, List.length_map, List.length_range]
  cases ds.length with
  | zero => exact Nat.zero_le _
  | succ l =>
    rw [show min 1 (l + 1) = 1 from Nat.min_eq_left (Nat.succ_pos l)]
    exact Nat.sub_le_sub_right (Nat.min_le_left 31 (l + 1)) 1
theorem pick_sub {ds : List D} {a b c : Option Int} {d : D} (h : d ∈ pickD ds a b c) : d ∈ ds := by
  unfold pickD at h
  obtain ⟨i, _, e⟩ := List.mem_filterMap.mp h
  exact List.mem_of_getElem? e
end Mine
end
section
namespace Mine
noncomputable def cnt (all : List D) (d : D) : Nat := (all.filter fun x => llt x d).length
theorem filter_all {p : D → Bool} : ∀ {l : List D}, (∀ x ∈ l, p x = true) → l.filter p = l
  | [], _ => rfl
  | x :: l, h => by rw [List.filter_cons_of_pos (h x (.head _)), filter_all fun y hy => h y (.tail _ hy)]
theorem filter_none {p : D → Bool} : ∀ {l : List D}, (∀ x ∈ l, p x = false) → l.filter p = []
  | [], _ => rfl
  | x :: l, h => by rw [List.filter_cons_of_neg (by rw [h x (.head _)]; exact Bool.false_ne_true), filter_none fun y hy => h y (.tail _ hy)]
theorem cnt_at {all S : List D} (hp : S.Perm all) (hs : Srt S) (hn : S.Nodup) {i : Nat} {d : D} (hd : S[i]? = some d) : cnt all d = i := by
  unfold cnt
  rw [← (hp.filter _).length_eq]
  obtain ⟨hi, e⟩ := List.getElem?_eq_some_iff.mp hd
  have hS : S = S.take i ++ d :: S.drop (i + 1) := by
    conv => lhs; rw [← List.take_append_drop i S]
    rw [List.drop_eq_getElem_cons hi, e]
  have hs' : Srt (S.take i ++ d :: S.drop (i + 1)) := hS ▸ hs
  have hn' : (S.take i ++ d :: S.drop (i + 1)).Nodup := hS ▸ hn
  have p1 := List.pairwise_append.mp hs'
  have n1 := List.nodup_append.mp hn'
  rw [hS, List.filter_append, filter_all fun x hx => ?_, filter_none fun x hx => ?_, List.append_nil, List.length_take]
  · lia
  · rcases List.mem_cons.mp hx with rfl | hx
    · exact llt_tot.irr _
    · exact (List.pairwise_cons.mp p1.2.1).1 x hx
  · have h1 := p1.2.2 x hx d (.head _)
    cases q : llt x d with
    | true => rfl
    | false => exact absurd (llt_tot.tri _ _ q h1) (n1.2.2 x hx d (.head _))
theorem set_fold {α : Type} {f : D → α} {S all : List D} (hS : ∀ (i : Nat) (d : D), S[i]? = some d → cnt all d = i) (hn : S.Nodup) : ∀ (ds : List D) (vs : List α), (∀ d ∈ ds, d ∈ S) → vs.length = S.length → ∀ (i : Nat) (d : D), S[i]? = some d →
    (ds.foldl (fun vs d => vs.set (cnt all d) (f d)) vs)[i]? = if d ∈ ds then some (f d) else vs[i]?
  | [], vs, _, _, i, d, _ => by simp
  | x :: ds, vs, hm, hl, i, d, hd => by
    rw [List.foldl_cons, set_fold hS hn ds _ (fun y hy => hm y (.tail _ hy)) (by simpa using hl) i d hd]
    obtain ⟨j, hj, e⟩ := List.getElem_of_mem (hm x (.head _))
    have hx : S[j]? = some x := List.getElem?_eq_some_iff.mpr ⟨hj, e⟩
    have hi := (List.getElem?_eq_some_iff.mp hd).1
    by_cases h1 : d ∈ ds
    · rw [if_pos h1, if_pos (.tail _ h1)]
    · rw [if_neg h1, hS j x hx]
      by_cases h2 : d = x
      · subst h2
        have : cnt all d = i := hS i d hd
        have hij : j = i := (hS j d hx).symm.trans this
        subst hij
        rw [if_pos (.head _), List.getElem?_set_self (by lia)]
      · rw [if_neg (by simp [h1, h2])]
        have hji : j ≠ i := fun q => by subst q; rw [hx] at hd; exact h2 (Option.some.inj hd).symm
        rw [List.getElem?_set_ne hji]
theorem order_all {α : Type} {f : D → α} {a : α} {all S : List D} (hp : S.Perm all) (hs : Srt S) (hn : S.Nodup) : all.foldl (fun vs d => vs.set (cnt all d) (f d)) (List.replicate all.length a) = S.map f := by
  have hlen : ∀ (ds : List D) (vs : List α), (ds.foldl (fun vs d => vs.set (cnt all d) (f d)) vs).length = vs.length := by
    intro ds
    induction ds with
    | nil => intro vs; rfl
    | cons x ds ih => intro vs; rw [List.foldl_cons, ih, List.length_set]
  refine List.ext_getElem? fun i => ?_
  by_cases hi : i < S.length
  · have hd : S[i]? = some S[i] := List.getElem?_eq_getElem hi
    rw [set_fold (S := S) (fun j d h => cnt_at hp hs hn h) hn all _ (fun d h => hp.mem_iff.mpr h) (by rw [List.length_replicate, hp.length_eq]) i _ hd, if_pos (hp.mem_iff.mp (List.getElem_mem hi)), List.getElem?_map, hd]
    rfl
  · rw [List.getElem?_eq_none (by rw [hlen, List.length_replicate, ← hp.length_eq]; lia), List.getElem?_eq_none (by rw [List.length_map]; lia)]
end Mine
end
section
namespace Mine
theorem split_sorted {hs out ds : List D} (hp : (hs ++ out).Perm ds) (hle : ∀ o ∈ out, ∀ x ∈ hs, llt o x = false) : sortD hs = (sortD ds).take hs.length ∧ sortD out = (sortD ds).drop hs.length := by
  have e : sortD ds = sortD hs ++ sortD out := by
    refine Sd.uniq llt_tot (sortD_srt ds) (List.pairwise_append.mpr ⟨sortD_srt hs, sortD_srt out, fun a ha b hb => hle b ((sortD_perm out).mem_iff.mp hb) a ((sortD_perm hs).mem_iff.mp ha)⟩) ?_
    exact (sortD_perm ds).trans (hp.symm.trans ((sortD_perm hs).append (sortD_perm out)).symm)
  have hl := sortD_len hs
  constructor
  · rw [e, List.take_append_of_le_length (by lia), List.take_of_length_le (by lia)]
  · rw [e, List.drop_append_of_le_length (by lia), List.drop_of_length_le (by lia), List.nil_append]
noncomputable def P2 (ds : List D) : Prop := ∀ d ∈ ds, ∃ x y : Int, d = [x, y]
noncomputable def ngd (d : D) : D := d.map fun x => -x
theorem ngd_lt {a b : D} (ha : ∃ x y : Int, a = [x, y]) (hb : ∃ x y : Int, b = [x, y]) : llt (ngd a) (ngd b) = llt b a := by
  obtain ⟨x, y, rfl⟩ := ha
  obtain ⟨z, w, rfl⟩ := hb
  simp only [ngd, List.map_cons, List.map_nil, llt]
  by_cases e1 : x = z
  · subst e1
    by_cases e2 : y = w
    · subst e2; simp
    · simp [e2, show ¬ -y = -w by lia, show ¬ w = y by lia]
  · simp [e1, show ¬ -x = -z by lia, show ¬ z = x by lia]
theorem ngd_ngd (d : D) : ngd (ngd d) = d := by
  unfold ngd
  rw [List.map_map]
  exact (List.map_congr_left fun x _ => Int.neg_neg x).trans (List.map_id d)
theorem ngd_map (l : List D) : (l.map ngd).map ngd = l := by
  rw [List.map_map]
  exact (List.map_congr_left fun x _ => ngd_ngd x).trans (List.map_id l)
theorem P2.ngd {l : List D} (h : P2 l) : P2 (l.map ngd) := fun d hd => by
  obtain ⟨e, he, rfl⟩ := List.mem_map.mp hd
  obtain ⟨x, y, rfl⟩ := h e he
  exact ⟨-x, -y, rfl⟩
theorem P2.perm {l l' : List D} (h : P2 l) (hp : l'.Perm l) : P2 l' := fun d hd => h d (hp.mem_iff.mp hd)
theorem sort_ngd {l : List D} (h : P2 l) : sortD (l.map ngd) = ((sortD l).map ngd).reverse := by
  refine Sd.uniq llt_tot (sortD_srt _) ?_ ((sortD_perm _).trans (((sortD_perm l).map ngd).symm.trans (List.reverse_perm _).symm))
  show List.Pairwise _ (List.reverse _)
  rw [List.pairwise_reverse, List.pairwise_map]
  refine List.Pairwise.imp_of_mem (fun {a b} ha hb hab => ?_) (sortD_srt l)
  have ha' := h a ((sortD_perm l).mem_iff.mp ha)
  have hb' := h b ((sortD_perm l).mem_iff.mp hb)
  rw [ngd_lt ha' hb']; exact hab
end Mine
end
section
namespace Mine
structure Fw (lt lt1 : D → D → Bool) (prj : D → D) (res seen : List D) : Prop where
  hp : Hp (fun a b => lt1 b a) 0 res
  ag : ∀ e ∈ res, ∀ e' ∈ res, lt1 e e' = false → lt (prj e) (prj e') = false
  part : ∃ rest, ((res.map prj) ++ rest).Perm seen ∧ ∀ r ∈ rest, ∀ m ∈ res.map prj, lt r m = false
theorem Tot.flip {lt : D → D → Bool} (T : Tot lt) : Tot (fun a b => lt b a) := ⟨T.irr, fun _ _ _ h1 h2 => T.tr _ _ _ h2 h1, fun _ _ h1 h2 => T.tri _ _ h2 h1⟩
section
variable {lt lt1 : D → D → Bool} {prj : D → D} {res seen : List D}
theorem Fw.top (T1 : Tot lt1) (F : Fw lt lt1 prj res seen) (h0 : 0 < res.length) : ∀ x ∈ res.map prj, lt (prj (res.getD 0 [])) x = false := by
  intro x hx
  obtain ⟨e, he, rfl⟩ := List.mem_map.mp hx
  have h1 : lt1 (res.getD 0 []) e = false := root_least_mem T1.flip F.hp he
  exact F.ag _ (getD0_mem h0) e he h1
theorem Fw.keep (T : Tot lt) (T1 : Tot lt1) {x : D} (F : Fw lt lt1 prj res seen) (h0 : 0 < res.length) (hx : lt x (prj (res.getD 0 [])) = false) : Fw lt lt1 prj res (seen ++ [x]) := by
  obtain ⟨rest, p, hr⟩ := F.part
  refine ⟨F.hp, F.ag, rest ++ [x], ?_, fun r hr' m hm => ?_⟩
  · rw [← List.append_assoc]; exact p.append_right _
  · rcases List.mem_append.mp hr' with hr' | hr'
    · exact hr r hr' m hm
    · rw [List.mem_singleton.mp hr']
      exact T.le_tr (F.top T1 h0 m hm) hx
theorem Fw.swap (T : Tot lt) (T1 : Tot lt1) {e₁ : D} (F : Fw lt lt1 prj res seen) (h0 : 0 < res.length) (hx : lt (prj e₁) (prj (res.getD 0 [])) = true) (hag : ∀ e ∈ res, (lt1 e e₁ = false → lt (prj e) (prj e₁) = false) ∧ (lt1 e₁ e = false → lt (prj e₁) (prj e) = false)) : Fw lt lt1 prj (hrepl (fun a b => lt1 b a) res e₁) (seen ++ [prj e₁]) := by
  obtain ⟨rest, p, hr⟩ := F.part
  have pm := hrepl_perm (lt := fun a b => lt1 b a) (d := e₁) h0
  have sub : ∀ e ∈ hrepl (fun a b => lt1 b a) res e₁, e = e₁ ∨ e ∈ res := fun e he => List.mem_cons.mp (pm.mem_iff.mp (.tail _ he))
  have sub2 : ∀ m ∈ (hrepl (fun a b => lt1 b a) res e₁).map prj, m = prj e₁ ∨ m ∈ res.map prj := fun m hm => by
    obtain ⟨e, he, rfl⟩ := List.mem_map.mp hm
    rcases sub e he with rfl | h
    · exact .inl rfl
    · exact .inr (List.mem_map_of_mem h)
  refine ⟨hrepl_hp T1.flip h0 F.hp, fun e he e' he' hl => ?_, prj (res.getD 0 []) :: rest, ?_, fun r hr' m hm => ?_⟩
  · rcases sub e he with rfl | h
    · rcases sub e' he' with rfl | h'
      · exact T.irr _
      · exact (hag e' h').2 hl
    · rcases sub e' he' with rfl | h'
      · exact (hag e h).1 hl
      · exact F.ag e h e' h' hl
  · have pm2 := pm.map prj
    simp only [List.map_cons] at pm2
    refine (List.perm_middle.trans ((pm2.append_right rest).trans ?_))
    rw [List.cons_append]
    exact (p.cons _).trans (List.perm_append_comm (l₁ := [_]) (l₂ := seen))
  · rcases List.mem_cons.mp hr' with rfl | hr'
    · rcases sub2 m hm with rfl | hm
      · exact T.asym hx
      · exact F.top T1 h0 m hm
    · rcases sub2 m hm with rfl | hm
      · have h1 := hr r hr' (prj (res.getD 0 [])) (List.mem_map_of_mem (getD0_mem h0))
        cases q : lt r (prj e₁) with
        | false => rfl
        | true => have := T.tr _ _ _ q hx; rw [this] at h1; cases h1
      · exact hr r hr' m hm
theorem Fw.start (T1 : Tot lt1) (ag : ∀ e ∈ res, ∀ e' ∈ res, lt1 e e' = false → lt (prj e) (prj e') = false) (pm : (res.map prj).Perm seen) : Fw lt lt1 prj (heapify (fun a b => lt1 b a) res) seen :=
  ⟨heapify_hp T1.flip, fun e he e' he' => ag e (heapify_perm.mem_iff.mp he) e' (heapify_perm.mem_iff.mp he'), [], by rw [List.append_nil]; exact (heapify_perm.map prj).trans pm, fun r hr => nomatch hr⟩
theorem sd_ex (T : Tot lt) : ∀ l : List D, ∃ r', Sd lt r' ∧ r'.Perm l := by
  intro l
  induction l with
  | nil => exact ⟨[], .nil, .refl _⟩
  | cons x l ih =>
    obtain ⟨r', h1, h2⟩ := ih
    have ins : ∀ l : List D, Sd lt l → ∃ l', Sd lt l' ∧ l'.Perm (x :: l) := by
      intro l hl
      induction l with
      | nil => exact ⟨[x], List.pairwise_singleton _ _, .refl _⟩
      | cons y l ih2 =>
        cases hxy : lt y x with
        | true =>
          obtain ⟨l', a1, a2⟩ := ih2 (List.pairwise_cons.mp hl).2
          refine ⟨y :: l', List.pairwise_cons.mpr ⟨fun w hw => ?_, a1⟩, (a2.cons y).trans (List.Perm.swap x y l)⟩
          rcases List.mem_cons.mp (a2.mem_iff.mp hw) with rfl | hw
          · exact T.asym hxy
          · exact (List.pairwise_cons.mp hl).1 w hw
        | false =>
          refine ⟨x :: y :: l, List.pairwise_cons.mpr ⟨fun w hw => ?_, hl⟩, .refl _⟩
          rcases List.mem_cons.mp hw with rfl | hw
          · exact hxy
          · exact T.le_tr hxy ((List.pairwise_cons.mp hl).1 w hw)
    obtain ⟨l', b1, b2⟩ := ins r' h1
    exact ⟨l', b1, b2.trans (h2.cons x)⟩
theorem Fw.done (T : Tot lt) {out srt : List D} (F : Fw lt lt1 prj res seen) (ho : Sd lt1 out) (hop : out.Perm res) (hs : Sd lt srt) (hsp : srt.Perm seen) : out.map prj = srt.take res.length := by
  obtain ⟨rest, p, hr⟩ := F.part
  obtain ⟨r', h1, h2⟩ := sd_ex T rest
  have ho' : Sd lt (out.map prj) := by
    unfold Sd
    rw [List.pairwise_map]
    exact List.Pairwise.imp_of_mem (fun {a b} ha hb hab => F.ag b (hop.mem_iff.mp hb) a (hop.mem_iff.mp ha) hab) ho
  have hop' := hop.map prj
  have he : srt = out.map prj ++ r' := by
    refine Sd.uniq T hs (List.pairwise_append.mpr ⟨ho', h1, fun a ha b hb => hr b (h2.mem_iff.mp hb) a (hop'.mem_iff.mp ha)⟩) ?_
    exact hsp.trans (p.symm.trans ((hop'.symm.append h2.symm)))
  rw [he, List.take_append_of_le_length (by rw [hop'.length_eq]; simp), List.take_of_length_le (by rw [hop'.length_eq]; simp)]
end
noncomputable def Inc (ds : List D) : Prop := ds.Pairwise fun a b => a.getD 1 0 < b.getD 1 0
noncomputable def ke (s N : Int) (x : D) : D := (s * x.getD 0 0) :: (s * N) :: x
noncomputable def SgOk (s : Int) (lt1 : D → D → Bool) : Prop := s = 1 ∧ lt1 = llt ∨ s = -1 ∧ lt1 = gtl
theorem ke_lt {s o N : Int} {lt1 : D → D → Bool} {v p w r : Int} (h : SgOk s lt1) (ho : o < N) : lt1 (ke s o [v, p]) (ke s N [w, r]) = decide (v ≤ w) ∧ lt1 (ke s N [w, r]) (ke s o [v, p]) = decide (w < v) := by
  rcases h with ⟨rfl, rfl⟩ | ⟨rfl, rfl⟩
  · simp only [ke, List.getD_cons_zero, llt, Int.one_mul]
    rcases Int.lt_trichotomy v w with q | q | q
    · simp [show ¬ v = w by lia, show ¬ w = v by lia, q, show v ≤ w by lia, show ¬ w < v by lia]
    · subst q; simp [show ¬ o = N by lia, show ¬ N = o by lia, ho, show ¬ N < o by lia]
    · simp [show ¬ v = w by lia, show ¬ w = v by lia, q, show ¬ v ≤ w by lia, show ¬ v < w by lia]
  · simp only [ke, List.getD_cons_zero, gtl, llt]
    rcases Int.lt_trichotomy v w with q | q | q
    · simp [show ¬ v = w by lia, show ¬ w = v by lia, q, show v ≤ w by lia, show ¬ w < v by lia]
    · subst q; simp [show ¬ o = N by lia, show ¬ N = o by lia, ho, show ¬ N < o by lia]
    · simp [show ¬ v = w by lia, show ¬ w = v by lia, q, show ¬ v ≤ w by lia, show ¬ v < w by lia]
theorem lt_place {v p w r : Int} (h : p < r) : llt [v, p] [w, r] = decide (v ≤ w) ∧ llt [w, r] [v, p] = decide (w < v) := by
  simp only [llt]
  rcases Int.lt_trichotomy v w with q | q | q
  · simp [show ¬ v = w by lia, show ¬ w = v by lia, q, show v ≤ w by lia, show ¬ w < v by lia]
  · subst q; simp [show ¬ p = r by lia, show ¬ r = p by lia, h, show ¬ r < p by lia]
  · simp [show ¬ v = w by lia, show ¬ w = v by lia, q, show ¬ v ≤ w by lia, show ¬ v < w by lia]
noncomputable def KI (s : Int) (res : List D) (N pn : Int) : Prop := ∀ e ∈ res, ∃ o v p, e = ke s o [v, p] ∧ o < N ∧ p < pn
theorem KI.ag {s N pn v p : Int} {lt1 : D → D → Bool} {res : List D} (h : SgOk s lt1) (K : KI s res N pn) (hp : pn ≤ p) : ∀ e ∈ res, (lt1 e (ke s N [v, p]) = false → llt (e.drop 2) ((ke s N [v, p]).drop 2) = false) ∧ (lt1 (ke s N [v, p]) e = false → llt ((ke s N [v, p]).drop 2) (e.drop 2) = false) := fun e he => by
  obtain ⟨o, w, r, rfl, h1, h2⟩ := K e he
  obtain ⟨a1, a2⟩ := ke_lt (v := w) (p := r) (w := v) (r := p) h h1
  obtain ⟨b1, b2⟩ := lt_place (v := w) (w := v) (p := r) (r := p) (by lia)
  rw [a1, a2]
  show (_ → llt [w, r] [v, p] = false) ∧ (_ → llt [v, p] [w, r] = false)
  rw [b1, b2]
  exact ⟨id, id⟩
noncomputable def numK (s : Int) (ds : List D) : List D := ds.mapIdx fun j d => ke s j d
theorem numK_snoc {s : Int} {ds : List D} {i : Nat} {d : D} (hd : ds[i]? = some d) : numK s (ds.take (i + 1)) = numK s (ds.take i) ++ [ke s i d] := by
  have hi := (List.getElem?_eq_some_iff.mp hd).1
  unfold numK
  rw [List.take_add_one, hd, Option.toList_some, List.mapIdx_append, List.length_take, Nat.min_eq_left (Nat.le_of_lt hi)]
  simp
theorem numK_prj {s : Int} {ds : List D} : (numK s ds).map (List.drop 2) = ds := by
  unfold numK
  refine List.ext_getElem (by simp) fun i h1 h2 => ?_
  simp [ke]
theorem numK_len {s : Int} {ds : List D} : (numK s ds).length = ds.length := by simp [numK]
theorem numK_get {s : Int} {ds : List D} {e : D} (h : e ∈ numK s ds) : ∃ (j : Nat) (d : D), ds[j]? = some d ∧ e = ke s j d := by
  obtain ⟨j, hj, rfl⟩ := List.getElem_of_mem h
  rw [numK_len] at hj
  exact ⟨j, ds[j], List.getElem?_eq_getElem hj, by simp [numK]⟩
theorem Inc.get {ds : List D} (h : Inc ds) {i j : Nat} {a b : D} (hi : ds[i]? = some a) (hj : ds[j]? = some b) (hij : i < j) : a.getD 1 0 < b.getD 1 0 := by
  obtain ⟨h1, rfl⟩ := List.getElem?_eq_some_iff.mp hi
  obtain ⟨h2, rfl⟩ := List.getElem?_eq_some_iff.mp hj
  exact List.pairwise_iff_getElem.mp h i j h1 h2 hij
theorem numK_ag {s : Int} {lt1 : D → D → Bool} {ds : List D} (h : SgOk s lt1) (T1 : Tot lt1) (hI : Inc ds) (h2 : P2 ds) : ∀ e ∈ numK s ds, ∀ e' ∈ numK s ds, lt1 e e' = false → llt (e.drop 2) (e'.drop 2) = false := by
  intro e he e' he' hl
  obtain ⟨i, a, hi, rfl⟩ := numK_get he
  obtain ⟨j, b, hj, rfl⟩ := numK_get he'
  show llt a b = false
  have ha := h2 a (List.mem_of_getElem? hi)
  have hb := h2 b (List.mem_of_getElem? hj)
  obtain ⟨v, p, rfl⟩ := ha
  obtain ⟨w, r, rfl⟩ := hb
  rcases Nat.lt_trichotomy i j with q | q | q
  · have hp := hI.get hi hj q
    have hp : p < r := hp
    rw [(ke_lt (v := v) (p := p) (w := w) (r := r) h (by lia : (i : Int) < j)).1] at hl
    rw [(lt_place hp).1]; exact hl
  · subst q
    cases hi.symm.trans hj
    exact llt_tot.irr _
  · have hp := hI.get hj hi q
    have hp : r < p := hp
    rw [(ke_lt (v := w) (p := r) (w := v) (r := p) h (by lia : (j : Int) < i)).2] at hl
    rw [(lt_place hp).2]; exact hl
theorem sortK_perm (f : D → Int) (ds : List D) : (sortK f ds).Perm ds := by
  unfold sortK
  split
  · exact .refl _
  · have U := sort_ev (ltK_swo f ds) (N := ds.length) (by lia)
    have := U.perm.map fun i => ds.getD i []
    rwa [map_getD_range] at this
theorem sortK_srt (f : D → Int) (ds : List D) : (sortK f ds).Pairwise fun a b => f a < f b ∨ ∃ i j : Nat, ds[i]? = some a ∧ ds[j]? = some b ∧ i < j ∧ f a ≤ f b := by
  unfold sortK
  split
  · rename_i h
    match ds, h with
    | [], _ => exact .nil
    | [_], _ => exact List.pairwise_singleton _ _
    | _ :: _ :: _, h => simp at h; lia
  · have U := sort_ev (ltK_swo f ds) (N := ds.length) (by lia)
    generalize ev (ltK f ds) (kas_sort ds.length) = p at U
    rw [List.pairwise_map, List.pairwise_iff_getElem]
    intro i j hi hj hij
    have := U.srt i j hij (by rw [← U.size]; simpa using hj)
    have hpi : p.getD i 0 = p.toList[i] := by simp [Array.getD_eq_getD_getElem?, show i < p.size by simpa using hi]
    have hpj : p.getD j 0 = p.toList[j] := by simp [Array.getD_eq_getD_getElem?, show j < p.size by simpa using hj]
    rw [hpi, hpj] at this
    have m1 : p.toList[i] < ds.length := by have := U.perm.mem_iff.mp (List.getElem_mem hi); simpa using this
    have m2 : p.toList[j] < ds.length := by have := U.perm.mem_iff.mp (List.getElem_mem hj); simpa using this
    have g : ∀ {k : Nat}, k < ds.length → ds[k]? = some (ds.getD k []) := fun {k} hk => by simp [List.getD, List.getElem?_eq_getElem hk]
    rcases this with h | h
    · exact .inl (by simpa [ltK] using h)
    · exact .inr ⟨_, _, g m1, g m2, h.2, by have := h.1; simp only [ltK, decide_eq_false_iff_not] at this; lia⟩
theorem sortKB_false {f : D → Int} {ds : List D} (h2 : P2 ds) (hI : Inc ds) (hf : ∀ d, f d = d.getD 0 0) : sortKB f false ds = sortD ds := by
  show sortK f ds = sortD ds
  refine Sd.uniq llt_tot ?_ (sortD_srt ds) ((sortK_perm f ds).trans (sortD_perm ds).symm)
  refine List.Pairwise.imp_of_mem (fun {a b} ha hb hab => ?_) (sortK_srt f ds)
  obtain ⟨v, p, rfl⟩ := h2 a ((sortK_perm f ds).mem_iff.mp ha)
  obtain ⟨w, r, rfl⟩ := h2 b ((sortK_perm f ds).mem_iff.mp hb)
  rw [hf, hf] at hab
  rcases hab with h | ⟨i, j, hi, hj, hij, h⟩
  · have h : v < w := h
    simp [llt, show ¬ w = v by lia, show ¬ w < v by lia]
  · have hp : p < r := hI.get hi hj hij
    have h : v ≤ w := h
    rw [(lt_place hp).2]
    simpa using h
theorem sortKB_true {f : D → Int} {ds : List D} (h2 : P2 ds) (hI : Inc ds) (hf : ∀ d, f d = -(d.getD 0 0)) : sortKB f true ds = sortD ds := by
  show (sortK f ds.reverse).reverse = sortD ds
  have pm : (sortK f ds.reverse).Perm ds := (sortK_perm f _).trans (List.reverse_perm ds)
  refine Sd.uniq llt_tot ?_ (sortD_srt ds) ((List.reverse_perm _).trans (pm.trans (sortD_perm ds).symm))
  unfold Sd
  rw [List.pairwise_reverse]
  refine List.Pairwise.imp_of_mem (fun {a b} ha hb hab => ?_) (sortK_srt f ds.reverse)
  obtain ⟨v, p, rfl⟩ := h2 a (pm.mem_iff.mp ha)
  obtain ⟨w, r, rfl⟩ := h2 b (pm.mem_iff.mp hb)
  rw [hf, hf] at hab
  rcases hab with h | ⟨i, j, hi, hj, hij, h⟩
  · have h : -v < -w := h
    simp [llt, show ¬ v = w by lia, show ¬ v < w by lia]
  · have h : -v ≤ -w := h
    have li := (List.getElem?_eq_some_iff.mp hi).1
    have lj := (List.getElem?_eq_some_iff.mp hj).1
    rw [List.length_reverse] at li lj
    rw [List.getElem?_reverse li] at hi
    rw [List.getElem?_reverse lj] at hj
    have hp : r < p := hI.get hj hi (Nat.sub_lt_sub_left (Nat.lt_of_lt_of_le hij (Nat.le_pred_of_lt lj)) hij)
    rw [(lt_place hp).2]
    simpa using (by lia : w ≤ v)
theorem bestK_eq {f : D → Int} {c : Int → Int → Bool} : ∀ {ds : List D} {b : D}, P2 (b :: ds) → Inc (b :: ds) → (∀ d b : D, c (f d) (f b) = decide (d.getD 0 0 < b.getD 0 0)) → ds.foldl (fun b d => if c (f d) (f b) = true then d else b) b = best llt b ds
  | [], b, _, _, _ => rfl
  | d :: ds, b, h2, hI, hc => by
    have e : c (f d) (f b) = llt d b := by
      obtain ⟨v, p, rfl⟩ := h2 b (.head _)
      obtain ⟨w, r, rfl⟩ := h2 d (.tail _ (.head _))
      have hp : p < r := (List.pairwise_cons.mp hI).1 _ (.head _)
      rw [hc, (lt_place hp).2]; rfl
    show List.foldl _ (if c (f d) (f b) = true then d else b) ds = best llt (if llt d b then d else b) ds
    rw [e]
    have hI1 := List.pairwise_cons.mp hI
    have hI2 := List.pairwise_cons.mp hI1.2
    split
    · exact bestK_eq (fun x hx => h2 x (.tail _ hx)) hI1.2 hc
    · refine bestK_eq (fun x hx => ?_) (List.pairwise_cons.mpr ⟨fun x hx => hI1.1 x (.tail _ hx), hI2.2⟩) hc
      rcases List.mem_cons.mp hx with rfl | hx
      · exact h2 _ (.head _)
      · exact h2 x (.tail _ (.tail _ hx))
theorem bestK_min_eq {f : D → Int} {ds : List D} {b : D} (h2 : P2 (b :: ds)) (hI : Inc (b :: ds)) (hf : ∀ d, f d = d.getD 0 0) : bestK_min f b ds = best llt b ds := by
  rw [← bestK_eq (f := f) (c := fun x y => decide (x < y)) h2 hI (fun d b => by rw [hf, hf])]
  unfold bestK_min
  simp only [decide_eq_true_eq]
theorem bestK_max_eq {f : D → Int} {ds : List D} {b : D} (h2 : P2 (b :: ds)) (hI : Inc (b :: ds)) (hf : ∀ d, f d = -(d.getD 0 0)) : bestK_max f b ds = best llt b ds := by
  rw [← bestK_eq (f := f) (c := fun x y => decide (x > y)) h2 hI (fun d b => by rw [hf, hf]; simp only [decide_eq_decide]; lia)]
  unfold bestK_max
  simp only [decide_eq_true_eq]
end Mine
end
section
namespace Mine
noncomputable def prt (s : Option Stmt) : PySem.Expr × List Stmt := match s with
  | some (.If t b _ _) => (t, b)
  | some (.While t b _ _) => (t, b)
  | some (.For t _ b _ _) => (t, b)
  | _ => (.Name Str.empty default, [])
theorem pr_eq {α β : Type} {p : α × β} {a : α} {b : β} (h : p = (a, b)) : p.1 = a ∧ p.2 = b := h ▸ ⟨rfl, rfl⟩
end Mine
end
section
namespace Mine
section
variable {fi : Fi} {q : Nat} {σ : Sg} {p : Pos}
theorem g_len (hg : Str.ofString "len" ∈ fi.gl) : Ev ⟨X1, fi, q⟩ σ (.Name (Str.ofString "len") p) (.ok (.val (.builtin "len")) σ) := ev_blt hg (show _ ∈ X1.free by decide) rfl (by decide +kernel)
theorem g_range (hg : Str.ofString "range" ∈ fi.gl) : Ev ⟨X1, fi, q⟩ σ (.Name (Str.ofString "range") p) (.ok (.val (.type "range")) σ) := ev_blt hg (show _ ∈ X1.free by decide) rfl (by decide +kernel)
theorem g_reversed (hg : Str.ofString "reversed" ∈ fi.gl) : Ev ⟨X1, fi, q⟩ σ (.Name (Str.ofString "reversed") p) (.ok (.val (.type "reversed")) σ) := ev_blt hg (show _ ∈ X1.free by decide) rfl (by decide +kernel)
theorem g_list (hg : Str.ofString "list" ∈ fi.gl) : Ev ⟨X1, fi, q⟩ σ (.Name (Str.ofString "list") p) (.ok (.val (.type "list")) σ) := ev_blt hg (show _ ∈ X1.free by decide) rfl (by decide +kernel)
theorem g_max (hg : Str.ofString "max" ∈ fi.gl) : Ev ⟨X1, fi, q⟩ σ (.Name (Str.ofString "max") p) (.ok (.val (.builtin "max")) σ) := ev_blt hg (show _ ∈ X1.free by decide) rfl (by decide +kernel)
theorem g_min (hg : Str.ofString "min" ∈ fi.gl) : Ev ⟨X1, fi, q⟩ σ (.Name (Str.ofString "min") p) (.ok (.val (.builtin "min")) σ) := ev_blt hg (show _ ∈ X1.free by decide) rfl (by decide +kernel)
theorem g_sorted (hg : Str.ofString "sorted" ∈ fi.gl) : Ev ⟨X1, fi, q⟩ σ (.Name (Str.ofString "sorted") p) (.ok (.val (.builtin "sorted")) σ) := ev_blt hg (show _ ∈ X1.free by decide) rfl (by decide +kernel)
theorem g_iter (hg : Str.ofString "iter" ∈ fi.gl) : Ev ⟨X1, fi, q⟩ σ (.Name (Str.ofString "iter") p) (.ok (.val (.builtin "iter")) σ) := ev_blt hg (show _ ∈ X1.free by decide) rfl (by decide +kernel)
theorem g_object (hg : Str.ofString "object" ∈ fi.gl) : Ev ⟨X1, fi, q⟩ σ (.Name (Str.ofString "object") p) (.ok (.val (.type "object")) σ) := ev_blt hg (show _ ∈ X1.free by decide) rfl (by decide +kernel)
theorem g_zip (hg : Str.ofString "zip" ∈ fi.gl) : Ev ⟨X1, fi, q⟩ σ (.Name (Str.ofString "zip") p) (.ok (.val (.type "zip")) σ) := ev_blt hg (show _ ∈ X1.free by decide) rfl (by decide +kernel)
theorem g_fn (i : Nat) {x : Str} (hg : x ∈ fi.gl) (hi : i ∈ X1.js) (hx : nm X1.P i = x := by rfl) : Ev ⟨X1, fi, q⟩ σ (.Name x p) (.ok (.fn i) σ) := ev_fn hg hi hx
theorem ev_cf {σ₂ : Sg} {e : PySem.Expr} {es : List PySem.Expr} {q' : Nat} {as as' : List AV} {v v' : AV} {ls ls' l' : List LC} {x : Str} {np : Pos} (i : Nat) (ids : List Nat) (hg : x ∈ fi.gl) (hj : i ∈ X1.js) (ha : El ⟨X1, fi, q⟩ σ (e :: es) (.ok as σ₂)) (hx : nm X1.P i = x := by rfl)
    (e1 : as.map (ren ids) = as' := by rfl) (e2 : sel σ₂.l ids = ls := by rfl) (hF : FnIs X1 q' i as' ls [] (.ok v ls')) (hq : q' ≤ q := by exact Nat.le_refl _) (e3 : bck ids σ₂.l.length v = v' := by rfl) (e4 : wr σ₂.l ids ls' = l' := by rfl) (hi : (ids.all fun i => Nat.blt i σ₂.l.length) = true := by rfl) (hid : ids.Nodup := by decide) (hp : as.all (AV.plain ids) = true := by rfl) (hv : v.noOth = true := by rfl) (hhd : fi.hd = true := by rfl)
    (he : ∀ env, starEach (e :: es) env = (false, eval e env) :: starEach es env := by intro _; rfl) : Ev ⟨X1, fi, q⟩ σ (.Call (.Name x np) (e :: es) [] p) (.ok v' ⟨σ₂.v, l', σ₂.o⟩) :=
  ev_call ids (ev_fn hg hj hx) hj ha hF e1 e2 e3 e4 hq hi hid hp hv hhd (fun _ => rfl) he
end
end Mine
end
end
namespace Mine
section
local macro_rules | `(tactic| walk_at "nm") => `(tactic| first
  | exact ev_name (n := 0) rfl rfl rfl | exact ev_name (n := 1) rfl rfl rfl | exact ev_name (n := 2) rfl rfl rfl | exact ev_name (n := 3) rfl rfl rfl | exact ev_name (n := 4) rfl rfl rfl | exact ev_name (n := 5) rfl rfl rfl
  | exact ev_name (n := 6) rfl rfl rfl | exact ev_name (n := 7) rfl rfl rfl | exact ev_name (n := 8) rfl rfl rfl | exact ev_name (n := 9) rfl rfl rfl | exact ev_name (n := 10) rfl rfl rfl | exact ev_name (n := 11) rfl rfl rfl)
local macro_rules | `(tactic| walk_at "o") => `(tactic| first | with_reducible exact o_lt | with_reducible exact o_gt | with_reducible exact o_ltE | with_reducible exact o_add | exact o_gt | exact o_ltE | exact o_lt)
local macro_rules | `(tactic| walk_at "e") => `(tactic| first
  | with_reducible exact ev_int
  | (with_reducible apply ev_bin
     · walk_at "e"
     · walk_at "e"
     · walk_at "o")
  | walk_at "nm")
local macro_rules | `(tactic| walk_at "t") => `(tactic| refine tt_cmp (by walk_at "e") (by walk_at "e") (by walk_at "o"))
local macro_rules | `(tactic| walk_at "mm") => `(tactic| repeat (first | exact .head _ | refine .tail _ ?_))
local macro_rules | `(tactic| walk_at "ln") => `(tactic| exact ev_callB (g_len (by walk_at "mm")) (el_cons (by walk_at "nm") el_nil) (c_len rfl (by first | assumption | lia)))
section
section
variable {k : Kd} {ds : List D}
noncomputable abbrev f9 : Fi := ⟨[Str.ofString "heap", Str.ofString "startpos", Str.ofString "pos", Str.ofString "newitem", Str.ofString "parentpos", Str.ofString "parent"], [], [], true, true⟩
theorem ok9 : FiOk X1 9 f9 3 := ⟨by decide, rfl, by decide +kernel, by decide +kernel, by decide +kernel, by decide +kernel, rfl, by decide +kernel, rfl, rfl, rfl, rfl⟩
theorem sd_loop {x : D} {sp q : Nat} {t : PySem.Expr} {b : List Stmt} {p : Pos} {rest : List Stmt} {st : Stmt} (hb : bd X1.P 9 = [st, .While t b [] p] ++ rest) : ∀ (n : Nat) (ds : List D) (v1 v2 : AV), n < ds.length → ds.length < 1000 →
    ∃ n' v1' v2' ds', Wl ⟨X1, f9, q⟩ ⟨[.lst 0, .int sp, .int n, .el k x, v1, v2], [(k, ds)], []⟩ t b (.ok .next ⟨[.lst 0, .int sp, .int (n' : Nat), .el k x, v1', v2'], [(k, ds')], []⟩) ∧ n' < ds'.length ∧ ds'.length < 1000 ∧ ds'.set n' x = sdLoop llt x sp n ds := by
  have e := pr_eq (congrArg (fun b => prt b[1]?) hb)
  clear hb
  obtain ⟨rfl, rfl⟩ := e
  intro n
  induction n using Nat.strongRecOn with
  | ind n ih =>
    intro ds v1 v2 hn hz
    rw [sdLoop]
    by_cases hgt : n > sp
    · rw [dif_pos hgt]
      have hu := up_lt (Nat.zero_lt_of_lt hgt)
      obtain ⟨y, hy⟩ : ∃ y, ds[(n - 1) / 2]? = some y := ⟨_, List.getElem?_eq_getElem (Nat.lt_trans hu hn)⟩
      rw [show ds.getD ((n - 1) / 2) [] = y by simp [List.getD, hy]]
      by_cases hlt : llt x y = true
      · rw [if_pos hlt]
        obtain ⟨n', v1', v2', ds', h1, h2⟩ := ih ((n - 1) / 2) hu (ds.set n y) (.int ((n - 1) / 2 : Nat)) (.el k y) (by rw [List.length_set]; exact Nat.lt_trans hu hn) (by simpa using hz)
        refine ⟨n', v1', v2', ds', wl_cont (by walk_at "t") (by simpa using hgt) ?_ h1, h2⟩
        refine es_cons (ex_asg (ev_bin (ev_bin (by walk_at "nm") ev_int o_sub) ev_int (o_half (n := n - 1) (by lia))) (n := 4) rfl) ?_
        refine es_cons (ex_asg (ev_item (by walk_at "nm") (by walk_at "nm") rfl rfl hy hz) (n := 5) rfl) ?_
        refine es_stop (ex_ifT (by walk_at "t") hlt ?_) rfl
        refine es_cons (ex_setitem (by walk_at "nm") (by walk_at "nm") (by walk_at "nm") rfl rfl hn hz) ?_
        exact es_cons (ex_asg (by walk_at "nm") (n := 2) rfl) (es_stop ex_cont rfl)
      · rw [if_neg hlt]
        refine ⟨n, .int ((n - 1) / 2 : Nat), .el k y, ds, wl_brk (by walk_at "t") (by simpa using hgt) ?_, hn, hz, rfl⟩
        refine es_cons (ex_asg (ev_bin (ev_bin (by walk_at "nm") ev_int o_sub) ev_int (o_half (n := n - 1) (by lia))) (n := 4) rfl) ?_
        refine es_cons (ex_asg (ev_item (by walk_at "nm") (by walk_at "nm") rfl rfl hy hz) (n := 5) rfl) ?_
        exact es_cons (ex_ifF (by walk_at "t") (by simpa using hlt) es_nil) (es_stop ex_brk rfl)
    · rw [dif_neg hgt]
      exact ⟨n, v1, v2, ds, wl_end (by walk_at "t") (by simpa using hgt), hn, hz, rfl⟩
theorem fn_siftdown {q sp p : Nat} (hp : p < ds.length) (hz : ds.length < 1000) : FnIs X1 (q + 1) 9 [.lst 0, .int sp, .int p] [(k, ds)] [] (.ok .none [(k, siftdown llt ds sp p)]) := by
  obtain ⟨x, hx⟩ : ∃ x, ds[p]? = some x := ⟨_, List.getElem?_eq_getElem hp⟩
  obtain ⟨n', v1', v2', ds', h1, h2, h3, h4⟩ := sd_loop (k := k) (x := x) (sp := sp) (q := q) rfl p ds .unb .unb hp hz
  rw [siftdown, show ds.getD p [] = x by simp [List.getD, hx], ← h4]
  apply fn_ok (vs := [.lst 0, .int sp, .int p, .unb, .unb, .unb]) (n := 3) ok9 rfl rfl (us3 fun _ _ _ _ _ _ => rfl) rfl
  · refine es_cons (ex_asg (ev_item (by walk_at "nm") (by walk_at "nm") rfl rfl hx hz) (n := 3) rfl) ?_
    refine es_cons (ex_while h1) ?_
    exact es_cons (ex_setitem (by walk_at "nm") (by walk_at "nm") (by walk_at "nm") rfl rfl h2 h3) es_nil
  · rfl
  · rfl
end
end
section
section
variable {k : Kd} {ds : List D}
noncomputable abbrev f10 : Fi := ⟨[Str.ofString "heap", Str.ofString "pos", Str.ofString "endpos", Str.ofString "startpos", Str.ofString "newitem", Str.ofString "childpos", Str.ofString "rightpos"], [], [Str.ofString "len", Str.ofString "_siftdown"], true, true⟩
theorem ok10 : FiOk X1 10 f10 2 := ⟨by decide, rfl, by decide +kernel, by decide +kernel, by decide +kernel, by decide +kernel, rfl, by decide +kernel, rfl, rfl, rfl, rfl⟩
theorem su_loop {x : D} {sp q : Nat} {t : PySem.Expr} {b : List Stmt} {p : Pos} {rest : List Stmt} {s1 s2 s3 s4 : Stmt} (hb : bd X1.P 10 = [s1, s2, s3, s4, .While t b [] p] ++ rest) : ∀ (N n : Nat) (ds : List D) (v : AV), N = ds.length - n → n < ds.length → ds.length < 1000 →
    ∃ c' v', Wl ⟨X1, f10, q⟩ ⟨[.lst 0, .int n, .int ds.length, .int sp, .el k x, .int (((2 * n : Nat) : Int) + 1), v], [(k, ds)], []⟩ t b (.ok .next ⟨[.lst 0, .int (suLoop llt n ds).2, .int ds.length, .int sp, .el k x, c', v'], [(k, (suLoop llt n ds).1)], []⟩) := by
  have e := pr_eq (congrArg (fun b => prt b[4]?) hb)
  clear hb
  obtain ⟨rfl, rfl⟩ := e
  intro N
  induction N using Nat.strongRecOn with
  | ind N ih =>
    intro n ds v hN hn hz
    rw [suLoop]
    by_cases hc : 2 * n + 1 < ds.length
    · rw [dif_pos hc]
      obtain ⟨y, hy⟩ : ∃ y, ds[2 * n + 1]? = some y := ⟨_, List.getElem?_eq_getElem hc⟩
      have hg : ds.getD (2 * n + 1) [] = y := by simp [List.getD, hy]
      by_cases hr : 2 * n + 1 + 1 < ds.length
      · obtain ⟨z, hz'⟩ : ∃ z, ds[2 * n + 1 + 1]? = some z := ⟨_, List.getElem?_eq_getElem hr⟩
        have hg' : ds.getD (2 * n + 1 + 1) [] = z := by simp [List.getD, hz']
        have hk : kid llt ds (2 * n + 1) = if llt y z = false then 2 * n + 1 + 1 else 2 * n + 1 := by unfold kid; rw [hg, hg']; simp [hr]
        by_cases hlt : llt y z = false
        · rw [hk, if_pos hlt, hg']
          obtain ⟨c', v', h1⟩ := ih (ds.length - (2 * n + 1 + 1)) (hN ▸ Nat.sub_lt_sub_left hn (ch_lt (.inr rfl))) (2 * n + 1 + 1) (ds.set n z) (.int (((2 * n : Nat) : Int) + 1 + 1)) (by simp) (by simpa using hr) (by simpa using hz)
          rw [List.length_set] at h1
          refine ⟨c', v', wl_step (by walk_at "t") (by simpa using by lia) ?_ h1⟩
          refine es_cons (ex_asg (by walk_at "e") (n := 6) rfl) ?_
          refine es_cons (ex_ifT (tt_bool (ta_and_t (by walk_at "t") (by simpa using by lia) (ta_and_t (tt_not (tt_cmp (ev_item (by walk_at "nm") (by walk_at "nm") rfl rfl hy hz) (ev_item (by walk_at "nm") (by walk_at "nm") rfl rfl hz' hz) o_ltE)) (by simpa using hlt) ta_and_nil))) rfl (es_cons (ex_asg (by walk_at "nm") (n := 5) rfl) es_nil)) ?_
          refine es_cons (ex_setitem (ev_item (by walk_at "nm") (by walk_at "nm") rfl rfl hz' hz) (by walk_at "nm") (by walk_at "nm") rfl rfl hn hz) ?_
          refine es_cons (ex_asg (by walk_at "nm") (n := 1) rfl) ?_
          exact es_cons (ex_asg (ev_bin (ev_bin ev_int (by walk_at "nm") (o_mul2 (n := 2 * n + 1 + 1) rfl)) ev_int o_add) (n := 5) rfl) es_nil
        · rw [hk, if_neg hlt, hg]
          obtain ⟨c', v', h1⟩ := ih (ds.length - (2 * n + 1)) (hN ▸ Nat.sub_lt_sub_left hn (ch_lt (.inl rfl))) (2 * n + 1) (ds.set n y) (.int (((2 * n : Nat) : Int) + 1 + 1)) (by simp) (by simpa using hc) (by simpa using hz)
          rw [List.length_set] at h1
          refine ⟨c', v', wl_step (by walk_at "t") (by simpa using by lia) ?_ h1⟩
          refine es_cons (ex_asg (by walk_at "e") (n := 6) rfl) ?_
          refine es_cons (ex_ifF (tt_bool (ta_and_t (by walk_at "t") (by simpa using by lia) (ta_and_f (tt_not (tt_cmp (ev_item (by walk_at "nm") (by walk_at "nm") rfl rfl hy hz) (ev_item (by walk_at "nm") (by walk_at "nm") rfl rfl hz' hz) o_ltE)) (by simpa using hlt)))) rfl es_nil) ?_
          refine es_cons (ex_setitem (ev_item (by walk_at "nm") (by walk_at "nm") rfl rfl hy hz) (by walk_at "nm") (by walk_at "nm") rfl rfl hn hz) ?_
          refine es_cons (ex_asg (by walk_at "nm") (n := 1) rfl) ?_
          exact es_cons (ex_asg (ev_bin (ev_bin ev_int (by walk_at "nm") (o_mul2 (n := 2 * n + 1) rfl)) ev_int o_add) (n := 5) rfl) es_nil
      · have hk : kid llt ds (2 * n + 1) = 2 * n + 1 := by unfold kid; simp [hr]
        rw [hk, hg]
        obtain ⟨c', v', h1⟩ := ih (ds.length - (2 * n + 1)) (hN ▸ Nat.sub_lt_sub_left hn (ch_lt (.inl rfl))) (2 * n + 1) (ds.set n y) (.int (((2 * n : Nat) : Int) + 1 + 1)) (by simp) (by simpa using hc) (by simpa using hz)
        rw [List.length_set] at h1
        refine ⟨c', v', wl_step (by walk_at "t") (by simpa using by lia) ?_ h1⟩
        refine es_cons (ex_asg (by walk_at "e") (n := 6) rfl) ?_
        refine es_cons (ex_ifF (tt_bool (ta_and_f (by walk_at "t") (by simpa using by lia))) rfl es_nil) ?_
        refine es_cons (ex_setitem (ev_item (by walk_at "nm") (by walk_at "nm") rfl rfl hy hz) (by walk_at "nm") (by walk_at "nm") rfl rfl hn hz) ?_
        refine es_cons (ex_asg (by walk_at "nm") (n := 1) rfl) ?_
        exact es_cons (ex_asg (ev_bin (ev_bin ev_int (by walk_at "nm") (o_mul2 (n := 2 * n + 1) rfl)) ev_int o_add) (n := 5) rfl) es_nil
    · rw [dif_neg hc]
      exact ⟨_, v, wl_end (by walk_at "t") (by simpa using by lia)⟩
theorem fn_siftup {q p : Nat} (hp : p < ds.length) (hz : ds.length < 1000) : FnIs X1 (q + 2) 10 [.lst 0, .int p] [(k, ds)] [] (.ok .none [(k, siftup llt ds p)]) := by
  obtain ⟨x, hx⟩ : ∃ x, ds[p]? = some x := ⟨_, List.getElem?_eq_getElem hp⟩
  obtain ⟨c', v', h1⟩ := su_loop (k := k) (x := x) (sp := p) (q := q + 1) rfl _ p ds .unb rfl hp hz
  have hl := suLoop_len (lt := llt) _ p ds rfl
  rw [siftup, show ds.getD p [] = x by simp [List.getD, hx]]
  apply fn_ok (vs := [.lst 0, .int p, .unb, .unb, .unb, .unb, .unb]) (n := 5) ok10 rfl rfl (us2 fun _ _ _ _ _ => rfl) rfl
  · refine es_cons (ex_asg (by walk_at "ln") (n := 2) rfl) ?_
    refine es_cons (ex_asg (by walk_at "nm") (n := 3) rfl) ?_
    refine es_cons (ex_asg (ev_item (by walk_at "nm") (by walk_at "nm") rfl rfl hx hz) (n := 4) rfl) ?_
    refine es_cons (ex_asg (ev_bin (ev_bin ev_int (by walk_at "nm") (o_mul2 (n := p) rfl)) ev_int o_add) (n := 5) rfl) ?_
    refine es_cons (ex_while h1) ?_
    refine es_cons (ex_setitem (by walk_at "nm") (by walk_at "nm") (by walk_at "nm") rfl rfl (hl.1 ▸ hl.2 hp) (by rw [hl.1]; exact hz)) ?_
    refine es_cons (ex_expr (ev_cf 9 [0] (by walk_at "mm") (by decide) (el_cons (by walk_at "nm") (el_cons (by walk_at "nm") (el_cons (by walk_at "nm") el_nil))) (hF := fn_siftdown (q := q) (by rw [List.length_set, hl.1]; exact hl.2 hp) (by rw [List.length_set, hl.1]; exact hz)))) es_nil
  · rfl
  · rfl
end
end
section
theorem ev_cast {κ : K} {σ σ₁ : Sg} {e : PySem.Expr} {x y : Int} (h : Ev κ σ e (.ok (.int x) σ₁)) (q : x = y) : Ev κ σ e (.ok (.int y) σ₁) := q ▸ h
theorem sw_none {env : Env} {e1 e2 o ix : PySem.Expr} {x : Str} {p1 p2 p3 p4 : Pos} {n1 n2 : Nat} : swappedStores [.Tuple [.Name x p1, .Subscript o ix p2] n1 p3] (.Tuple [e1, e2] n2 p4) env = pure none := by
  unfold swappedStores
  show (if _ then _ else _ : Sem (Option (List Str))) = _
  split
  · rfl
  · show (if _ then _ else _ : Sem (Option (List Str))) = _
    split
    · rfl
    · show (if _ then _ else _ : Sem (Option (List Str))) = _
      rw [if_pos]
      rw [Bool.or_eq_true]
      refine .inl ?_
      simp only [List.filterMap_cons, List.filterMap_nil]
      split <;> rename_i h
      · rfl
      · rename_i y
        rfl
theorem ex_swap {κ : K} {σ σ₁ σ₂ σ₃ : Sg} {e1 e2 o ix : PySem.Expr} {x : Str} {p p1 p2 p3 p4 : Pos} {n1 n2 i n m : Nat} {z : Int} {k : Kd} {ds : List D} {d d' : D} (ha : El κ σ [e1, e2] (.ok [.el k d, .el k d'] σ₁)) (hx : κ.fi.tb[n]? = some x)
    (ho : Ev κ ⟨σ₁.v.set n (.el k d), σ₁.l, σ₁.o⟩ o (.ok (.lst i) σ₂)) (hi : Ev κ σ₂ ix (.ok (.int z) σ₃)) (hz' : z = (m : Int)) (hl : σ₃.l[i]? = some (k, ds)) (hm : m < ds.length) (hz : ds.length < 1000) (hh : κ.fi.hd = true)
    (hs : ∀ env, swapsWithSole [.Tuple [.Name x p1, .Subscript o ix p2] n1 p3] (.Tuple [e1, e2] n2 p4) p.line env = pure false := by intro _; rfl) :
    Ex κ σ (.Assign [.Tuple [.Name x p1, .Subscript o ix p2] n1 p3] (.Tuple [e1, e2] n2 p4) p) (.ok .next ⟨σ₃.v, σ₃.l.set i (k, ds.set m d'), σ₃.o⟩) := by
  intro c h tk G R Q E post
  refine Assign_Tuple (PyProof.Rows.Tuple_ ((ha p4).seq R post fun h₁ tk₁ G₁ us R₁ K₁ V₁ post₁ => ?_)) (hs _) sw_none
  obtain _ | ⟨v1, V₁⟩ := V₁
  obtain _ | ⟨v2, V₁⟩ := V₁
  cases V₁
  refine r_tupN R₁.st fun t h₂ S₂ => ?_
  obtain ⟨R₂, K₂⟩ := R₁.newN S₂
  refine r_unpack S₂ (R₁.handled hh) (S₂.gets _ (.head _)) rfl rfl fun h₃ S₃ => ?_
  refine assignInOrder_cons (wpAny_assign_Name (rep_store (R₂.same S₃) hx (K₂.v (x := []) v1) fun h₄ tk₄ G₄ R₄ K₄ => ?_))
  refine assignInOrder_cons (a_sub (ho.seq R₄ (post₁.move (K₂.any.trans K₄)) fun h₅ tk₅ G₅ u₅ R₅ K₅ V₅ post₅ => hi.seq R₅ post₅ fun h₆ tk₆ G₆ u₆ R₆ K₆ V₆ post₆ => ?_))
  obtain ⟨t6, rfl⟩ := V₆
  obtain ⟨a, ea, rfl⟩ := K₆.v V₅
  obtain ⟨a', g, ea', U⟩ := R₆.at hl
  cases ea.symm.trans ea'
  refine r_set R₆.st U hz' hm hz (K₆.v (K₅.v (K₄.v (K₂.v (x := []) v2)))) fun h' S' => assignInOrder_nil ?_
  have zz := R₆.setL hl ea U S'
  exact post₆ _ _ _ _ zz.1 zz.2.any rfl
section
variable {k : Kd} {ds : List D} {d : D}
noncomputable abbrev f5 : Fi := ⟨[Str.ofString "x", Str.ofString "n", Str.ofString "i"], [], [Str.ofString "len", Str.ofString "reversed", Str.ofString "range", Str.ofString "_siftup"], true, true⟩
theorem ok5 : FiOk X1 5 f5 1 := ⟨by decide, rfl, by decide +kernel, by decide +kernel, by decide +kernel, by decide +kernel, rfl, by decide +kernel, rfl, rfl, rfl, rfl⟩
theorem hp_loop {q : Nat} {n : AV} {o : List AO} {t e : PySem.Expr} {b : List Stmt} {p : Pos} {rest : List Stmt} {s1 : Stmt} (hb : bd X1.P 5 = [s1, .For t e b [] p] ++ rest) : ∀ (m : Nat) (ds : List D) (v : AV), m ≤ ds.length → ds.length < 1000 →
    ∃ v', Fl ⟨X1, f5, q + 2⟩ ⟨[.lst 0, n, v], [(k, ds)], o⟩ t (.ri ((m : Int) - 1) m (-1)) b (.ok .next ⟨[.lst 0, n, v'], [(k, hpLoop llt m ds)], o⟩) := by
  have e := pr_eq (congrArg (fun b => prt b[1]?) hb)
  clear hb
  obtain ⟨rfl, rfl⟩ := e
  intro m
  induction m with
  | zero => exact fun ds v _ _ => ⟨v, fl_end (.riE (Int.le_refl _))⟩
  | succ m ih =>
    intro ds v hm hz
    obtain ⟨v', h1⟩ := ih (siftup llt ds m) (.int m) (by rw [siftup_len]; exact Nat.le_of_succ_le hm) (by rw [siftup_len]; exact hz)
    have e1 : (((m + 1 : Nat) : Int) - 1) = (m : Int) := by rw [Int.natCast_add]; exact Int.add_sub_cancel _ _
    refine ⟨v', ?_⟩
    rw [e1]
    refine fl_step (.ri (Int.natCast_pos.mpr (Nat.succ_pos m))) (as_name (n := 2) rfl) (es_cons (ex_expr (ev_cf 10 [0] (by walk_at "mm") (by decide) (el_cons (by walk_at "nm") (el_cons (by walk_at "nm") el_nil)) (hF := fn_siftup (q := q) hm hz))) es_nil) ?_
    rw [show ((m : Int) + -1) = (m : Int) - 1 from rfl, e1]
    exact h1
theorem fn_heapify {q : Nat} (hz : ds.length < 1000) : FnIs X1 (q + 3) 5 [.lst 0] [(k, ds)] [] (.ok .none [(k, heapify llt ds)]) := by
  obtain ⟨v', h1⟩ := hp_loop (k := k) (q := q) (n := .int ds.length) (o := [.rg 0 ((ds.length / 2 : Nat) : Int) 1]) rfl (ds.length / 2) ds .unb (Nat.div_le_self _ _) hz
  apply fn_ok (vs := [.lst 0, .unb, .unb]) (n := 2) ok5 rfl rfl (us1 fun _ _ _ _ => rfl) rfl
  · refine es_cons (ex_asg (by walk_at "ln") (n := 1) rfl) ?_
    refine es_cons (ex_for (ite_rev (n := ds.length / 2) (g_reversed (by walk_at "mm")) (el_cons (ev_callT (g_range (by walk_at "mm")) (el_cons (ev_cast (ev_bin (by walk_at "nm") ev_int (o_fdiv (by decide))) (by rfl)) el_nil) c_range1) el_nil) rfl (Nat.lt_of_le_of_lt (Nat.div_le_self _ _) (Nat.lt_trans hz (by decide)))) h1) es_nil
  · rfl
  · rfl
noncomputable abbrev f1 : Fi := ⟨[Str.ofString "heap", Str.ofString "item"], [], [Str.ofString "_siftdown", Str.ofString "len"], true, true⟩
theorem ok1 : FiOk X1 1 f1 2 := ⟨by decide, rfl, by decide +kernel, by decide +kernel, by decide +kernel, by decide +kernel, rfl, by decide +kernel, rfl, rfl, rfl, rfl⟩
theorem len_snoc : ds.length < (ds ++ [d]).length := by rw [List.length_append]; exact Nat.lt_succ_self _
theorem len_snoc1 : (((ds ++ [d]).length : Int) - 1) = (ds.length : Int) := by rw [List.length_append, Int.natCast_add]; exact Int.add_sub_cancel _ _
theorem fn_heappush {q : Nat} (hz : ds.length < 999) : FnIs X1 (q + 2) 1 [.lst 0, .el k d] [(k, ds)] [] (.ok .none [(k, hpush llt ds d)]) := by
  have hz' : ds.length < 1000 := Nat.lt_succ_of_lt hz
  have hz2 : (ds ++ [d]).length < 1000 := by rw [List.length_append]; exact Nat.succ_lt_succ hz
  apply fn_ok (vs := [.lst 0, .el k d]) (n := 0) ok1 rfl rfl (us2 fun _ _ _ _ _ => rfl) rfl
  · refine es_cons (ex_expr (ev_meth (by walk_at "nm") rfl PySem.F.slot_list_append PySem.F.type_list_append (el_cons (by walk_at "nm") el_nil) (m_append rfl hz'))) ?_
    exact es_cons (ex_expr (ev_cf 9 [0] (by walk_at "mm") (by decide) (el_cons (by walk_at "nm") (el_cons ev_int (el_cons (ev_cast (ev_bin (by walk_at "ln") ev_int o_sub) len_snoc1) el_nil))) (hF := fn_siftdown (q := q) (sp := 0) len_snoc hz2))) es_nil
  · rfl
  · rfl
noncomputable abbrev f3 : Fi := ⟨[Str.ofString "heap", Str.ofString "item", Str.ofString "returnitem"], [], [Str.ofString "_siftup"], true, true⟩
theorem ok3 : FiOk X1 3 f3 2 := ⟨by decide, rfl, by decide +kernel, by decide +kernel, by decide +kernel, by decide +kernel, rfl, by decide +kernel, rfl, rfl, rfl, rfl⟩
theorem fn_heapreplace {q : Nat} {x : D} (hx : ds[0]? = some x) (hz : ds.length < 1000) : FnIs X1 (q + 3) 3 [.lst 0, .el k d] [(k, ds)] [] (.ok (.el k x) [(k, hrepl llt ds d)]) := by
  have h0 := (List.getElem?_eq_some_iff.mp hx).1
  apply fn_ok (vs := [.lst 0, .el k d, .unb]) (n := 1) ok3 rfl rfl (us2 fun _ _ _ _ _ => rfl) rfl
  · refine es_cons (ex_asg (ev_item (n := 0) (by walk_at "nm") ev_int rfl rfl hx hz) (n := 2) rfl) ?_
    refine es_cons (ex_setitem (n := 0) (by walk_at "nm") (by walk_at "nm") ev_int rfl rfl h0 hz) ?_
    refine es_cons (ex_expr (ev_cf 10 [0] (by walk_at "mm") (by decide) (el_cons (by walk_at "nm") (el_cons ev_int el_nil)) (hF := fn_siftup (q := q) (p := 0) (by rw [List.length_set]; exact h0) (by rw [List.length_set]; exact hz)))) ?_
    exact es_ret (ex_ret (by walk_at "nm"))
  · rfl
  · rfl
noncomputable abbrev f2 : Fi := ⟨[Str.ofString "heap", Str.ofString "lastelt", Str.ofString "returnitem"], [], [Str.ofString "_siftup"], true, true⟩
theorem ok2 : FiOk X1 2 f2 1 := ⟨by decide, rfl, by decide +kernel, by decide +kernel, by decide +kernel, by decide +kernel, rfl, by decide +kernel, rfl, rfl, rfl, rfl⟩
theorem fn_heappop {q : Nat} {x : D} (hx : ds[0]? = some x) (hz : ds.length < 1000) : FnIs X1 (q + 3) 2 [.lst 0] [(k, ds)] [] (.ok (.el k x) [(k, hpop llt ds)]) := by
  obtain ⟨ds', y, rfl⟩ : ∃ ds' y, ds = ds' ++ [y] := ⟨ds.dropLast, ds.getLast (by rintro rfl; cases hx), (List.dropLast_concat_getLast _).symm⟩
  have hz' : ds'.length < 1000 := Nat.lt_of_succ_lt (by rw [List.length_append] at hz; exact hz)
  cases ds' with
  | nil =>
    cases hx
    apply fn_ok (vs := [.lst 0, .unb, .unb]) (n := 2) ok2 rfl rfl (us1 fun _ _ _ _ => rfl) rfl
    · refine es_cons (ex_asg (ev_meth0 (by walk_at "nm") rfl PySem.F.slot_list_pop PySem.F.type_list_pop (m_pop (ds' := []) rfl rfl hz)) (n := 1) rfl) ?_
      refine es_cons (ex_ifF (tt_plain (by walk_at "nm") (b_lst rfl (by decide))) rfl es_nil) ?_
      exact es_ret (ex_ret (by walk_at "nm"))
    · rfl
    · rfl
  | cons z r =>
    have hx : z = x := Option.some.inj hx
    subst hx
    have hp0 : 0 < (z :: r).length := Nat.succ_pos _
    have e : hpop llt ((z :: r) ++ [y]) = siftup llt ((z :: r).set 0 y) 0 := by
      unfold hpop
      rw [if_neg (by rw [List.length_append, List.length_cons]; exact Nat.not_le_of_gt (Nat.succ_lt_succ (Nat.succ_pos _))), List.dropLast_concat, List.getLastD_eq_getLast?, List.getLast?_concat]
      rfl
    rw [e]
    apply fn_ok (vs := [.lst 0, .unb, .unb]) (n := 2) ok2 rfl rfl (us1 fun _ _ _ _ => rfl) rfl
    · refine es_cons (ex_asg (ev_meth0 (by walk_at "nm") rfl PySem.F.slot_list_pop PySem.F.type_list_pop (m_pop (ds' := z :: r) rfl rfl hz)) (n := 1) rfl) ?_
      apply es_ret
      refine ex_ifT (tt_plain (by walk_at "nm") (b_lst rfl hz')) rfl ?_
      refine es_cons (ex_asg (ev_item (n := 0) (by walk_at "nm") ev_int rfl rfl (d := z) (ds := z :: r) rfl hz') (n := 2) rfl) ?_
      refine es_cons (ex_setitem (n := 0) (by walk_at "nm") (by walk_at "nm") ev_int rfl rfl hp0 hz') ?_
      refine es_cons (ex_expr (ev_cf 10 [0] (by walk_at "mm") (by decide) (el_cons (by walk_at "nm") (el_cons ev_int el_nil)) (hF := fn_siftup (q := q) (p := 0) (ds := (z :: r).set 0 y) hp0 hz'))) ?_
      exact es_ret (ex_ret (by walk_at "nm"))
    · rfl
    · rfl
noncomputable abbrev f4 : Fi := ⟨[Str.ofString "heap", Str.ofString "item"], [], [Str.ofString "_siftup"], true, true⟩
theorem ok4 : FiOk X1 4 f4 2 := ⟨by decide, rfl, by decide +kernel, by decide +kernel, by decide +kernel, by decide +kernel, rfl, by decide +kernel, rfl, rfl, rfl, rfl⟩
theorem fn_pushpop1 {q : Nat} {x : D} (hx : ds[0]? = some x) (hz : ds.length < 1000) (hlt : llt x d = true) : FnIs X1 (q + 3) 4 [.lst 0, .el k d] [(k, ds)] [] (.ok (.el k x) [(k, hrepl llt ds d)]) := by
  have h0 := (List.getElem?_eq_some_iff.mp hx).1
  apply fn_ok (vs := [.lst 0, .el k d]) (n := 0) ok4 rfl rfl (us2 fun _ _ _ _ _ => rfl) rfl
  · apply es_cons
    · refine ex_ifT (tt_bool (ta_and_t (tt_plain (by walk_at "nm") (b_lst rfl hz)) (decide_eq_true h0) (ta_and_t (tt_cmp (ev_item (n := 0) (by walk_at "nm") ev_int rfl rfl hx hz) (by walk_at "nm") o_ltE) hlt ta_and_nil))) rfl ?_
      refine es_cons (ex_swap (n := 1) (m := 0) (el_cons (ev_item (n := 0) (by walk_at "nm") ev_int rfl rfl hx hz) (el_cons (by walk_at "nm") el_nil)) rfl (by walk_at "nm") ev_int rfl rfl h0 hz rfl) ?_
      exact es_cons (ex_expr (ev_cf 10 [0] (by walk_at "mm") (by decide) (el_cons (by walk_at "nm") (el_cons ev_int el_nil)) (hF := fn_siftup (q := q) (p := 0) (by rw [List.length_set]; exact h0) (by rw [List.length_set]; exact hz)))) es_nil
    · exact es_ret (ex_ret (by walk_at "nm"))
  · rfl
  · rfl
theorem fn_pushpop2 {q : Nat} (hz : ds.length < 1000) (hlt : ¬ (0 < ds.length ∧ llt (ds.getD 0 []) d = true)) : FnIs X1 (q + 1) 4 [.lst 0, .el k d] [(k, ds)] [] (.ok (.el k d) [(k, ds)]) := by
  apply fn_ok (vs := [.lst 0, .el k d]) (n := 0) ok4 rfl rfl (us2 fun _ _ _ _ _ => rfl) rfl
  · refine es_cons (ex_ifF (tt_bool (?_ : Ta _ _ _ _ (.ok false ⟨[.lst 0, .el k d], [(k, ds)], []⟩))) rfl es_nil) (es_ret (ex_ret (by walk_at "nm")))
    by_cases h0 : 0 < ds.length
    · obtain ⟨x, hx⟩ : ∃ x, ds[0]? = some x := ⟨_, List.getElem?_eq_getElem h0⟩
      rw [show ds.getD 0 [] = x by simp [List.getD, hx]] at hlt
      exact ta_and_t (tt_plain (by walk_at "nm") (b_lst rfl hz)) (decide_eq_true h0) (ta_and_f (tt_cmp (ev_item (n := 0) (by walk_at "nm") ev_int rfl rfl hx hz) (by walk_at "nm") o_ltE) (by simpa [h0] using hlt))
    · exact ta_and_f (tt_plain (by walk_at "nm") (b_lst rfl hz)) (decide_eq_false h0)
  · rfl
  · rfl
end
end
section
section
variable {k : Kd} {ds : List D} {d : D}
noncomputable abbrev f11 : Fi := ⟨[Str.ofString "heap", Str.ofString "startpos", Str.ofString "pos", Str.ofString "newitem", Str.ofString "parentpos", Str.ofString "parent"], [], [], true, true⟩
theorem ok11 : FiOk X1 11 f11 3 := ⟨by decide, rfl, by decide +kernel, by decide +kernel, by decide +kernel, by decide +kernel, rfl, by decide +kernel, rfl, rfl, rfl, rfl⟩
theorem sd_loop_max {x : D} {sp q : Nat} {t : PySem.Expr} {b : List Stmt} {p : Pos} {rest : List Stmt} {st : Stmt} (hb : bd X1.P 11 = [st, .While t b [] p] ++ rest) : ∀ (n : Nat) (ds : List D) (v1 v2 : AV), n < ds.length → ds.length < 1000 →
    ∃ n' v1' v2' ds', Wl ⟨X1, f11, q⟩ ⟨[.lst 0, .int sp, .int n, .el k x, v1, v2], [(k, ds)], []⟩ t b (.ok .next ⟨[.lst 0, .int sp, .int (n' : Nat), .el k x, v1', v2'], [(k, ds')], []⟩) ∧ n' < ds'.length ∧ ds'.length < 1000 ∧ ds'.set n' x = sdLoop gtl x sp n ds := by
  have e := pr_eq (congrArg (fun b => prt b[1]?) hb)
  clear hb
  obtain ⟨rfl, rfl⟩ := e
  intro n
  induction n using Nat.strongRecOn with
  | ind n ih =>
    intro ds v1 v2 hn hz
    rw [sdLoop]
    by_cases hgt : n > sp
    · rw [dif_pos hgt]
      have hu := up_lt (Nat.zero_lt_of_lt hgt)
      obtain ⟨y, hy⟩ : ∃ y, ds[(n - 1) / 2]? = some y := ⟨_, List.getElem?_eq_getElem (Nat.lt_trans hu hn)⟩
      rw [show ds.getD ((n - 1) / 2) [] = y by simp [List.getD, hy]]
      by_cases hlt : gtl x y = true
      · rw [if_pos hlt]
        obtain ⟨n', v1', v2', ds', h1, h2⟩ := ih ((n - 1) / 2) hu (ds.set n y) (.int ((n - 1) / 2 : Nat)) (.el k y) (by rw [List.length_set]; exact Nat.lt_trans hu hn) (by simpa using hz)
        refine ⟨n', v1', v2', ds', wl_cont (by walk_at "t") (by simpa using hgt) ?_ h1, h2⟩
        refine es_cons (ex_asg (ev_bin (ev_bin (by walk_at "nm") ev_int o_sub) ev_int (o_half (n := n - 1) (by lia))) (n := 4) rfl) ?_
        refine es_cons (ex_asg (ev_item (by walk_at "nm") (by walk_at "nm") rfl rfl hy hz) (n := 5) rfl) ?_
        refine es_stop (ex_ifT (by walk_at "t") hlt ?_) rfl
        refine es_cons (ex_setitem (by walk_at "nm") (by walk_at "nm") (by walk_at "nm") rfl rfl hn hz) ?_
        exact es_cons (ex_asg (by walk_at "nm") (n := 2) rfl) (es_stop ex_cont rfl)
      · rw [if_neg hlt]
        refine ⟨n, .int ((n - 1) / 2 : Nat), .el k y, ds, wl_brk (by walk_at "t") (by simpa using hgt) ?_, hn, hz, rfl⟩
        refine es_cons (ex_asg (ev_bin (ev_bin (by walk_at "nm") ev_int o_sub) ev_int (o_half (n := n - 1) (by lia))) (n := 4) rfl) ?_
        refine es_cons (ex_asg (ev_item (by walk_at "nm") (by walk_at "nm") rfl rfl hy hz) (n := 5) rfl) ?_
        exact es_cons (ex_ifF (by walk_at "t") (by simpa [gtl] using hlt) es_nil) (es_stop ex_brk rfl)
    · rw [dif_neg hgt]
      exact ⟨n, v1, v2, ds, wl_end (by walk_at "t") (by simpa using hgt), hn, hz, rfl⟩
theorem fn_siftdown_max {q sp p : Nat} (hp : p < ds.length) (hz : ds.length < 1000) : FnIs X1 (q + 1) 11 [.lst 0, .int sp, .int p] [(k, ds)] [] (.ok .none [(k, siftdown gtl ds sp p)]) := by
  obtain ⟨x, hx⟩ : ∃ x, ds[p]? = some x := ⟨_, List.getElem?_eq_getElem hp⟩
  obtain ⟨n', v1', v2', ds', h1, h2, h3, h4⟩ := sd_loop_max (k := k) (x := x) (sp := sp) (q := q) rfl p ds .unb .unb hp hz
  rw [siftdown, show ds.getD p [] = x by simp [List.getD, hx], ← h4]
  apply fn_ok (vs := [.lst 0, .int sp, .int p, .unb, .unb, .unb]) (n := 3) ok11 rfl rfl (us3 fun _ _ _ _ _ _ => rfl) rfl
  · refine es_cons (ex_asg (ev_item (by walk_at "nm") (by walk_at "nm") rfl rfl hx hz) (n := 3) rfl) ?_
    refine es_cons (ex_while h1) ?_
    exact es_cons (ex_setitem (by walk_at "nm") (by walk_at "nm") (by walk_at "nm") rfl rfl h2 h3) es_nil
  · rfl
  · rfl
noncomputable abbrev f12 : Fi := ⟨[Str.ofString "heap", Str.ofString "pos", Str.ofString "endpos", Str.ofString "startpos", Str.ofString "newitem", Str.ofString "childpos", Str.ofString "rightpos"], [], [Str.ofString "len", Str.ofString "_siftdown_max"], true, true⟩
theorem ok12 : FiOk X1 12 f12 2 := ⟨by decide, rfl, by decide +kernel, by decide +kernel, by decide +kernel, by decide +kernel, rfl, by decide +kernel, rfl, rfl, rfl, rfl⟩
theorem su_loop_max {x : D} {sp q : Nat} {t : PySem.Expr} {b : List Stmt} {p : Pos} {rest : List Stmt} {s1 s2 s3 s4 : Stmt} (hb : bd X1.P 12 = [s1, s2, s3, s4, .While t b [] p] ++ rest) : ∀ (N n : Nat) (ds : List D) (v : AV), N = ds.length - n → n < ds.length → ds.length < 1000 →
    ∃ c' v', Wl ⟨X1, f12, q⟩ ⟨[.lst 0, .int n, .int ds.length, .int sp, .el k x, .int (((2 * n : Nat) : Int) + 1), v], [(k, ds)], []⟩ t b (.ok .next ⟨[.lst 0, .int (suLoop gtl n ds).2, .int ds.length, .int sp, .el k x, c', v'], [(k, (suLoop gtl n ds).1)], []⟩) := by
  have e := pr_eq (congrArg (fun b => prt b[4]?) hb)
  clear hb
  obtain ⟨rfl, rfl⟩ := e
  intro N
  induction N using Nat.strongRecOn with
  | ind N ih =>
    intro n ds v hN hn hz
    rw [suLoop]
    by_cases hc : 2 * n + 1 < ds.length
    · rw [dif_pos hc]
      obtain ⟨y, hy⟩ : ∃ y, ds[2 * n + 1]? = some y := ⟨_, List.getElem?_eq_getElem hc⟩
      have hg : ds.getD (2 * n + 1) [] = y := by simp [List.getD, hy]
      by_cases hr : 2 * n + 1 + 1 < ds.length
      · obtain ⟨z, hz'⟩ : ∃ z, ds[2 * n + 1 + 1]? = some z := ⟨_, List.getElem?_eq_getElem hr⟩
        have hg' : ds.getD (2 * n + 1 + 1) [] = z := by simp [List.getD, hz']
        have hk : kid gtl ds (2 * n + 1) = if gtl y z = false then 2 * n + 1 + 1 else 2 * n + 1 := by unfold kid; rw [hg, hg']; simp [hr]
        by_cases hlt : gtl y z = false
        · rw [hk, if_pos hlt, hg']
          obtain ⟨c', v', h1⟩ := ih (ds.length - (2 * n + 1 + 1)) (hN ▸ Nat.sub_lt_sub_left hn (ch_lt (.inr rfl))) (2 * n + 1 + 1) (ds.set n z) (.int (((2 * n : Nat) : Int) + 1 + 1)) (by simp) (by simpa using hr) (by simpa using hz)
          rw [List.length_set] at h1
          refine ⟨c', v', wl_step (by walk_at "t") (by simpa using by lia) ?_ h1⟩
          refine es_cons (ex_asg (by walk_at "e") (n := 6) rfl) ?_
          refine es_cons (ex_ifT (tt_bool (ta_and_t (by walk_at "t") (by simpa using by lia) (ta_and_t (tt_not (tt_cmp (ev_item (by walk_at "nm") (by walk_at "nm") rfl rfl hz' hz) (ev_item (by walk_at "nm") (by walk_at "nm") rfl rfl hy hz) o_ltE)) (by simpa [gtl] using hlt) ta_and_nil))) rfl (es_cons (ex_asg (by walk_at "nm") (n := 5) rfl) es_nil)) ?_
          refine es_cons (ex_setitem (ev_item (by walk_at "nm") (by walk_at "nm") rfl rfl hz' hz) (by walk_at "nm") (by walk_at "nm") rfl rfl hn hz) ?_
          refine es_cons (ex_asg (by walk_at "nm") (n := 1) rfl) ?_
          exact es_cons (ex_asg (ev_bin (ev_bin ev_int (by walk_at "nm") (o_mul2 (n := 2 * n + 1 + 1) rfl)) ev_int o_add) (n := 5) rfl) es_nil
        · rw [hk, if_neg hlt, hg]
          obtain ⟨c', v', h1⟩ := ih (ds.length - (2 * n + 1)) (hN ▸ Nat.sub_lt_sub_left hn (ch_lt (.inl rfl))) (2 * n + 1) (ds.set n y) (.int (((2 * n : Nat) : Int) + 1 + 1)) (by simp) (by simpa using hc) (by simpa using hz)
          rw [List.length_set] at h1
          refine ⟨c', v', wl_step (by walk_at "t") (by simpa using by lia) ?_ h1⟩
          refine es_cons (ex_asg (by walk_at "e") (n := 6) rfl) ?_
          refine es_cons (ex_ifF (tt_bool (ta_and_t (by walk_at "t") (by simpa using by lia) (ta_and_f (tt_not (tt_cmp (ev_item (by walk_at "nm") (by walk_at "nm") rfl rfl hz' hz) (ev_item (by walk_at "nm") (by walk_at "nm") rfl rfl hy hz) o_ltE)) (by simpa [gtl] using hlt)))) rfl es_nil) ?_
          refine es_cons (ex_setitem (ev_item (by walk_at "nm") (by walk_at "nm") rfl rfl hy hz) (by walk_at "nm") (by walk_at "nm") rfl rfl hn hz) ?_
          refine es_cons (ex_asg (by walk_at "nm") (n := 1) rfl) ?_
          exact es_cons (ex_asg (ev_bin (ev_bin ev_int (by walk_at "nm") (o_mul2 (n := 2 * n + 1) rfl)) ev_int o_add) (n := 5) rfl) es_nil
      · have hk : kid gtl ds (2 * n + 1) = 2 * n + 1 := by unfold kid; simp [hr]
        rw [hk, hg]
        obtain ⟨c', v', h1⟩ := ih (ds.length - (2 * n + 1)) (hN ▸ Nat.sub_lt_sub_left hn (ch_lt (.inl rfl))) (2 * n + 1) (ds.set n y) (.int (((2 * n : Nat) : Int) + 1 + 1)) (by simp) (by simpa using hc) (by simpa using hz)
        rw [List.length_set] at h1
        refine ⟨c', v', wl_step (by walk_at "t") (by simpa using by lia) ?_ h1⟩
        refine es_cons (ex_asg (by walk_at "e") (n := 6) rfl) ?_
        refine es_cons (ex_ifF (tt_bool (ta_and_f (by walk_at "t") (by simpa using by lia))) rfl es_nil) ?_
        refine es_cons (ex_setitem (ev_item (by walk_at "nm") (by walk_at "nm") rfl rfl hy hz) (by walk_at "nm") (by walk_at "nm") rfl rfl hn hz) ?_
        refine es_cons (ex_asg (by walk_at "nm") (n := 1) rfl) ?_
        exact es_cons (ex_asg (ev_bin (ev_bin ev_int (by walk_at "nm") (o_mul2 (n := 2 * n + 1) rfl)) ev_int o_add) (n := 5) rfl) es_nil
    · rw [dif_neg hc]
      exact ⟨_, v, wl_end (by walk_at "t") (by simpa using by lia)⟩
theorem fn_siftup_max {q p : Nat} (hp : p < ds.length) (hz : ds.length < 1000) : FnIs X1 (q + 2) 12 [.lst 0, .int p] [(k, ds)] [] (.ok .none [(k, siftup gtl ds p)]) := by
  obtain ⟨x, hx⟩ : ∃ x, ds[p]? = some x := ⟨_, List.getElem?_eq_getElem hp⟩
  obtain ⟨c', v', h1⟩ := su_loop_max (k := k) (x := x) (sp := p) (q := q + 1) rfl _ p ds .unb rfl hp hz
  have hl := suLoop_len (lt := gtl) _ p ds rfl
  rw [siftup, show ds.getD p [] = x by simp [List.getD, hx]]
  apply fn_ok (vs := [.lst 0, .int p, .unb, .unb, .unb, .unb, .unb]) (n := 5) ok12 rfl rfl (us2 fun _ _ _ _ _ => rfl) rfl
  · refine es_cons (ex_asg (by walk_at "ln") (n := 2) rfl) ?_
    refine es_cons (ex_asg (by walk_at "nm") (n := 3) rfl) ?_
    refine es_cons (ex_asg (ev_item (by walk_at "nm") (by walk_at "nm") rfl rfl hx hz) (n := 4) rfl) ?_
    refine es_cons (ex_asg (ev_bin (ev_bin ev_int (by walk_at "nm") (o_mul2 (n := p) rfl)) ev_int o_add) (n := 5) rfl) ?_
    refine es_cons (ex_while h1) ?_
    refine es_cons (ex_setitem (by walk_at "nm") (by walk_at "nm") (by walk_at "nm") rfl rfl (hl.1 ▸ hl.2 hp) (by rw [hl.1]; exact hz)) ?_
    refine es_cons (ex_expr (ev_cf 11 [0] (by walk_at "mm") (by decide) (el_cons (by walk_at "nm") (el_cons (by walk_at "nm") (el_cons (by walk_at "nm") el_nil))) (hF := fn_siftdown_max (q := q) (by rw [List.length_set, hl.1]; exact hl.2 hp) (by rw [List.length_set, hl.1]; exact hz)))) es_nil
  · rfl
  · rfl
noncomputable abbrev f8 : Fi := ⟨[Str.ofString "x", Str.ofString "n", Str.ofString "i"], [], [Str.ofString "len", Str.ofString "reversed", Str.ofString "range", Str.ofString "_siftup_max"], true, true⟩
theorem ok8 : FiOk X1 8 f8 1 := ⟨by decide, rfl, by decide +kernel, by decide +kernel, by decide +kernel, by decide +kernel, rfl, by decide +kernel, rfl, rfl, rfl, rfl⟩
theorem hp_loop_max {q : Nat} {n : AV} {o : List AO} {t e : PySem.Expr} {b : List Stmt} {p : Pos} {rest : List Stmt} {s1 : Stmt} (hb : bd X1.P 8 = [s1, .For t e b [] p] ++ rest) : ∀ (m : Nat) (ds : List D) (v : AV), m ≤ ds.length → ds.length < 1000 →
    ∃ v', Fl ⟨X1, f8, q + 2⟩ ⟨[.lst 0, n, v], [(k, ds)], o⟩ t (.ri ((m : Int) - 1) m (-1)) b (.ok .next ⟨[.lst 0, n, v'], [(k, hpLoop gtl m ds)], o⟩) := by
  have e := pr_eq (congrArg (fun b => prt b[1]?) hb)
  clear hb
  obtain ⟨rfl, rfl⟩ := e
  intro m
  induction m with
  | zero => exact fun ds v _ _ => ⟨v, fl_end (.riE (Int.le_refl _))⟩
  | succ m ih =>
    intro ds v hm hz
    obtain ⟨v', h1⟩ := ih (siftup gtl ds m) (.int m) (by rw [siftup_len]; exact Nat.le_of_succ_le hm) (by rw [siftup_len]; exact hz)
    have e1 : (((m + 1 : Nat) : Int) - 1) = (m : Int) := by rw [Int.natCast_add]; exact Int.add_sub_cancel _ _
    refine ⟨v', ?_⟩
    rw [e1]
    refine fl_step (.ri (Int.natCast_pos.mpr (Nat.succ_pos m))) (as_name (n := 2) rfl) (es_cons (ex_expr (ev_cf 12 [0] (by walk_at "mm") (by decide) (el_cons (by walk_at "nm") (el_cons (by walk_at "nm") el_nil)) (hF := fn_siftup_max (q := q) hm hz))) es_nil) ?_
    rw [show ((m : Int) + -1) = (m : Int) - 1 from rfl, e1]
    exact h1
theorem fn_heapify_max {q : Nat} (hz : ds.length < 1000) : FnIs X1 (q + 3) 8 [.lst 0] [(k, ds)] [] (.ok .none [(k, heapify gtl ds)]) := by
  obtain ⟨v', h1⟩ := hp_loop_max (k := k) (q := q) (n := .int ds.length) (o := [.rg 0 ((ds.length / 2 : Nat) : Int) 1]) rfl (ds.length / 2) ds .unb (Nat.div_le_self _ _) hz
  apply fn_ok (vs := [.lst 0, .unb, .unb]) (n := 2) ok8 rfl rfl (us1 fun _ _ _ _ => rfl) rfl
  · refine es_cons (ex_asg (by walk_at "ln") (n := 1) rfl) ?_
    refine es_cons (ex_for (ite_rev (n := ds.length / 2) (g_reversed (by walk_at "mm")) (el_cons (ev_callT (g_range (by walk_at "mm")) (el_cons (ev_cast (ev_bin (by walk_at "nm") ev_int (o_fdiv (by decide))) (by rfl)) el_nil) c_range1) el_nil) rfl (Nat.lt_of_le_of_lt (Nat.div_le_self _ _) (Nat.lt_trans hz (by decide)))) h1) es_nil
  · rfl
  · rfl
noncomputable abbrev f7 : Fi := ⟨[Str.ofString "heap", Str.ofString "item", Str.ofString "returnitem"], [], [Str.ofString "_siftup_max"], true, true⟩
theorem ok7 : FiOk X1 7 f7 2 := ⟨by decide, rfl, by decide +kernel, by decide +kernel, by decide +kernel, by decide +kernel, rfl, by decide +kernel, rfl, rfl, rfl, rfl⟩
theorem fn_heapreplace_max {q : Nat} {x : D} (hx : ds[0]? = some x) (hz : ds.length < 1000) : FnIs X1 (q + 3) 7 [.lst 0, .el k d] [(k, ds)] [] (.ok (.el k x) [(k, hrepl gtl ds d)]) := by
  have h0 := (List.getElem?_eq_some_iff.mp hx).1
  apply fn_ok (vs := [.lst 0, .el k d, .unb]) (n := 1) ok7 rfl rfl (us2 fun _ _ _ _ _ => rfl) rfl
  · refine es_cons (ex_asg (ev_item (n := 0) (by walk_at "nm") ev_int rfl rfl hx hz) (n := 2) rfl) ?_
    refine es_cons (ex_setitem (n := 0) (by walk_at "nm") (by walk_at "nm") ev_int rfl rfl h0 hz) ?_
    refine es_cons (ex_expr (ev_cf 12 [0] (by walk_at "mm") (by decide) (el_cons (by walk_at "nm") (el_cons ev_int el_nil)) (hF := fn_siftup_max (q := q) (p := 0) (by rw [List.length_set]; exact h0) (by rw [List.length_set]; exact hz)))) ?_
    exact es_ret (ex_ret (by walk_at "nm"))
  · rfl
  · rfl
noncomputable abbrev f6 : Fi := ⟨[Str.ofString "heap", Str.ofString "lastelt", Str.ofString "returnitem"], [], [Str.ofString "_siftup_max"], true, true⟩
theorem ok6 : FiOk X1 6 f6 1 := ⟨by decide, rfl, by decide +kernel, by decide +kernel, by decide +kernel, by decide +kernel, rfl, by decide +kernel, rfl, rfl, rfl, rfl⟩
theorem fn_heappop_max {q : Nat} {x : D} (hx : ds[0]? = some x) (hz : ds.length < 1000) : FnIs X1 (q + 3) 6 [.lst 0] [(k, ds)] [] (.ok (.el k x) [(k, hpop gtl ds)]) := by
  obtain ⟨ds', y, rfl⟩ : ∃ ds' y, ds = ds' ++ [y] := ⟨ds.dropLast, ds.getLast (by rintro rfl; cases hx), (List.dropLast_concat_getLast _).symm⟩
  have hz' : ds'.length < 1000 := Nat.lt_of_succ_lt (by rw [List.length_append] at hz; exact hz)
  cases ds' with
  | nil =>
    cases hx
    apply fn_ok (vs := [.lst 0, .unb, .unb]) (n := 2) ok6 rfl rfl (us1 fun _ _ _ _ => rfl) rfl
    · refine es_cons (ex_asg (ev_meth0 (by walk_at "nm") rfl PySem.F.slot_list_pop PySem.F.type_list_pop (m_pop (ds' := []) rfl rfl hz)) (n := 1) rfl) ?_
      refine es_cons (ex_ifF (tt_plain (by walk_at "nm") (b_lst rfl (by decide))) rfl es_nil) ?_
      exact es_ret (ex_ret (by walk_at "nm"))
    · rfl
    · rfl
  | cons z r =>
    have hx : z = x := Option.some.inj hx
    subst hx
    have hp0 : 0 < (z :: r).length := Nat.succ_pos _
    have e : hpop gtl ((z :: r) ++ [y]) = siftup gtl ((z :: r).set 0 y) 0 := by
      unfold hpop
      rw [if_neg (by rw [List.length_append, List.length_cons]; exact Nat.not_le_of_gt (Nat.succ_lt_succ (Nat.succ_pos _))), List.dropLast_concat, List.getLastD_eq_getLast?, List.getLast?_concat]
      rfl
    rw [e]
    apply fn_ok (vs := [.lst 0, .unb, .unb]) (n := 2) ok6 rfl rfl (us1 fun _ _ _ _ => rfl) rfl
    · refine es_cons (ex_asg (ev_meth0 (by walk_at "nm") rfl PySem.F.slot_list_pop PySem.F.type_list_pop (m_pop (ds' := z :: r) rfl rfl hz)) (n := 1) rfl) ?_
      apply es_ret
      refine ex_ifT (tt_plain (by walk_at "nm") (b_lst rfl hz')) rfl ?_
      refine es_cons (ex_asg (ev_item (n := 0) (by walk_at "nm") ev_int rfl rfl (d := z) (ds := z :: r) rfl hz') (n := 2) rfl) ?_
      refine es_cons (ex_setitem (n := 0) (by walk_at "nm") (by walk_at "nm") ev_int rfl rfl hp0 hz') ?_
      refine es_cons (ex_expr (ev_cf 12 [0] (by walk_at "mm") (by decide) (el_cons (by walk_at "nm") (el_cons ev_int el_nil)) (hF := fn_siftup_max (q := q) (p := 0) (ds := (z :: r).set 0 y) hp0 hz'))) ?_
      exact es_ret (ex_ret (by walk_at "nm"))
    · rfl
    · rfl
end
end
section
section
variable {ds : List D} {q : Nat}
theorem cloB {X : Pg} {fi fi' : Fi} {σ : Sg} {scope : Scope} (ho : fi.own = true) (hfree : (scope.names.all fun x => !(x.2 == NameKind.free) || (fi.cs.map (·.1)).contains x.1) = true) (hcs : (fi'.cs.all fun p => fi.cs.contains p && scope.names.any fun x => x.1 == p.1 && x.2 == NameKind.free) = true) :
    ∀ c h G, Rep ⟨X, fi, q⟩ c σ h G → c.mo = none ∧ ∃ cl, closureFor scope c.env = pure cl ∧ ∀ p ∈ fi'.cs, c.env.kindOf p.1 = some .cell ∧ ∃ a, G.oa[p.2]? = some a ∧ cl.lookup p.1 = some a := by
  refine clo (κ := ⟨X, fi, q⟩) ho (fun x hx hf => ?_) fun p hp => ?_
  · have := List.all_eq_true.mp hfree x hx
    rw [hf] at this
    simp only [beq_self_eq_true, Bool.not_true, Bool.false_or, List.contains_eq_mem, decide_eq_true_eq] at this
    obtain ⟨p, hp, e⟩ := List.mem_map.mp this
    exact ⟨p.2, by rw [← e]; exact hp⟩
  · have := List.all_eq_true.mp hcs p hp
    simp only [Bool.and_eq_true, List.contains_eq_mem, decide_eq_true_eq, List.any_eq_true, beq_iff_eq] at this
    obtain ⟨h1, x, h2, h3, h4⟩ := this
    exact ⟨h1, by rw [← h3, ← h4]; exact h2⟩
noncomputable def lval (x : Int) : Int := if x % 2 = 0 then x / 2 else x / 2 % 4
noncomputable abbrev f16 : Fi := ⟨[Str.ofString "number"], [], [], true, true⟩
theorem ok16 : FiOk X1 16 f16 1 := ⟨by decide, rfl, by decide +kernel, by decide +kernel, by decide +kernel, by decide +kernel, rfl, by decide +kernel, rfl, rfl, rfl, rfl⟩
theorem fn_value {x : Int} : FnIs X1 (q + 1) 16 [.int x] [] [] (.ok (.int (lval x)) []) := by
  by_cases h : x % 2 = 0
  · rw [show lval x = x / 2 from if_pos h]
    apply fn_ok (vs := [.int x]) (n := 0) ok16 rfl rfl (us1 fun _ _ _ _ => rfl) rfl
    · exact es_ret (ex_ifT (tt_cmp (ev_bin (by walk_at "nm") ev_int (o_mod (by decide))) ev_int o_eq) (by simpa using h) (es_ret (ex_ret (ev_bin (by walk_at "nm") ev_int (o_fdiv (by decide))))))
    · rfl
    · rfl
  · rw [show lval x = x / 2 % 4 from if_neg h]
    apply fn_ok (vs := [.int x]) (n := 0) ok16 rfl rfl (us1 fun _ _ _ _ => rfl) rfl
    · exact es_cons (ex_ifF (tt_cmp (ev_bin (by walk_at "nm") ev_int (o_mod (by decide))) ev_int o_eq) (by simpa using h) es_nil) (es_ret (ex_ret (ev_bin (ev_bin (by walk_at "nm") ev_int (o_fdiv (by decide))) ev_int (o_mod (by decide)))))
    · rfl
    · rfl
theorem as_p {κ : K} {σ σ₁ σ₂ : Sg} {x y : Str} {px py tp : Pos} {n : Nat} {a b : Int} (hh : κ.fi.hd = true) (h₁ : As κ σ (.Name x px) (.int a) σ₁) (h₂ : As κ σ₁ (.Name y py) (.int b) σ₂) : As κ σ (.Tuple [.Name x px, .Name y py] n tp) (.el .p [a, b]) σ₂ := by
  refine as_two hh (fun mg G u hu => ?_) h₁ h₂
  obtain ⟨a', e, x', t, y', u', rfl, hm, hd⟩ := hu
  cases hd
  exact ⟨a', e, _, _, rfl, hm, ⟨t, rfl⟩, ⟨u', rfl⟩⟩
theorem drop_at {j : Nat} {r : List D} {d : D} (h : ds.drop j = d :: r) : ds[j]? = some d ∧ ds.drop (j + 1) = r := by
  refine ⟨?_, ?_⟩
  · rw [← List.head?_drop, h]; rfl
  · rw [← List.drop_drop, h]; rfl
theorem drop_end {j : Nat} (h : ds.drop j = []) : ds[j]? = none := by rw [← List.head?_drop, h]; rfl
noncomputable abbrev f18 : Fi := ⟨[Str.ofString "pairs"], [], [], true, true⟩
noncomputable abbrev f18c : Fi := ⟨[Str.ofString "value", Str.ofString "place"], [], [], true, false⟩
theorem ok18 : FiOk X1 18 f18 1 := ⟨by decide, rfl, by decide +kernel, by decide +kernel, by decide +kernel, by decide +kernel, rfl, by decide +kernel, rfl, rfl, rfl, rfl⟩
theorem tn_loop {o : List AO} {l : List LC} {x1 x2 y1 y2 : Str} {k1 k2 : Nat} {p1 p2 p3 p4 p5 p6 p7 p8 : Pos} (hz : ds.length < 1000) (hx1 : x1 = Str.ofString "value") (hx2 : x2 = Str.ofString "place") (hy1 : y1 = Str.ofString "value") (hy2 : y2 = Str.ofString "place") : ∀ (r : List D) (j : Nat) (out : List D) (v1 v2 : AV), ds.drop j = r → P2 r → out.length + r.length < 1000 →
    ∃ v1' v2', Cl ⟨X1, f18c, q⟩ ⟨[v1, v2], (.p, ds) :: l, o⟩ (.Tuple [.Name x1 p1, .Name x2 p2] k1 p3) (.Tuple [.UnaryOp .USub (.Name y1 p4) p5, .UnaryOp .USub (.Name y2 p6) p7] k2 p8) [] (.li 0 j) .p out (out ++ r.map ngd) ⟨[v1', v2'], (.p, ds) :: l, o⟩ := by
  subst hx1 hx2 hy1 hy2
  intro r
  induction r with
  | nil =>
    intro j out v1 v2 hj _ _
    rw [List.map_nil, List.append_nil]
    exact ⟨v1, v2, cl_end (.liE rfl (drop_end hj))⟩
  | cons d r ih =>
    intro j out v1 v2 hj hp hl
    obtain ⟨h1, h2⟩ := drop_at hj
    obtain ⟨x, y, rfl⟩ := hp d (.head _)
    obtain ⟨v1', v2', hc⟩ := ih (j + 1) (out ++ [[-x, -y]]) (.int x) (.int y) h2 (fun z hz => hp z (.tail _ hz)) (by rw [List.length_append]; simp at hl ⊢; lia)
    refine ⟨v1', v2', cl_step (.li rfl h1) (ow_li (by intro e; cases e)) (as_p rfl (as_name (n := 0) rfl) (as_name (n := 1) rfl)) (ev_tupP (el_cons (ev_neg (by walk_at "nm")) (el_cons (ev_neg (by walk_at "nm")) el_nil))) (by simp at hl; lia) ?_⟩
    rw [show out ++ List.map ngd ([x, y] :: r) = (out ++ [[-x, -y]]) ++ r.map ngd by simp [ngd]]
    exact hc
theorem fn_turned (hz : ds.length < 1000) (hp : P2 ds) : FnIs X1 (q + 1) 18 [.lst 0] [(.p, ds)] [] (.ok (.lst 1) [(.p, ds), (.p, ds.map ngd)]) := by
  obtain ⟨v1', v2', hc⟩ := tn_loop (q := q) (ds := ds) (l := []) (o := []) hz rfl rfl rfl rfl ds 0 [] .unb .unb rfl hp (by simpa using hz)
  apply fn_ok (vs := [.lst 0]) (n := 0) ok18 rfl rfl (us1 fun _ _ _ _ => rfl) rfl
  · exact es_ret (ex_ret (ev_comp (fi' := f18c) (σ₁ := ⟨[.lst 0], [(.p, ds)], []⟩) (ite_lst (by walk_at "nm") rfl) rfl ⟨by decide +kernel, by decide +kernel, by decide +kernel, by decide +kernel, by decide +kernel, rfl, by decide +kernel, by decide +kernel, rfl, rfl⟩ rfl (cloB rfl rfl rfl) hc))
  · rfl
  · rfl
end
end
section
section
variable {ds : List D} {q : Nat}
noncomputable abbrev f17 : Fi := ⟨[Str.ofString "pairs", Str.ofString "order"], [(Str.ofString "pair", 0)], [Str.ofString "len"], true, true⟩
noncomputable abbrev f17c : Fi := ⟨[Str.ofString "one"], [(Str.ofString "pair", 0)], [], true, false⟩
theorem od_comp {o : List AO} {d : D} {x1 x2 x3 x4 : Str} {p1 p2 p3 p4 p5 : Pos} (hz : ds.length < 1000) (hx1 : x1 = Str.ofString "one") (hx2 : x2 = Str.ofString "one") (hx3 : x3 = Str.ofString "one") (hx4 : x4 = Str.ofString "pair") : ∀ (r : List D) (j : Nat) (out : List D) (v : AV), ds.drop j = r → out.length + r.length < 1000 →
    ∃ v', Cl ⟨X1, f17c, q⟩ ⟨[v], [(.p, ds)], .cell (.el .p d) :: o⟩ (.Name x1 p1) (.Name x2 p2) [.Compare (.Name x3 p3) [.Lt] [.Name x4 p4] p5] (.li 0 j) .p out (out ++ r.filter fun x => llt x d) ⟨[v'], [(.p, ds)], .cell (.el .p d) :: o⟩ := by
  subst hx1 hx2 hx3 hx4
  intro r
  induction r with
  | nil =>
    intro j out v hj _
    rw [List.filter_nil, List.append_nil]
    exact ⟨v, cl_end (.liE rfl (drop_end hj))⟩
  | cons x r ih =>
    intro j out v hj hl
    obtain ⟨h1, h2⟩ := drop_at hj
    have hl' : out.length + r.length + 1 < 1000 := by simpa [Nat.add_assoc] using hl
    by_cases hlt : llt x d = true
    · obtain ⟨v', hc⟩ := ih (j + 1) (out ++ [x]) (.el .p x) h2 (by rw [List.length_append]; simp; lia)
      refine ⟨v', cl_yes (d := x) (.li rfl h1) ow_plain (as_name (n := 0) rfl) (tt_is (tt_cmp (by walk_at "nm") (ev_cell (by walk_at "mm") rfl rfl) o_ltE) hlt) (by walk_at "nm") (by lia) ?_⟩
      rw [List.filter_cons_of_pos (p := fun x => llt x d) hlt, show out ++ x :: r.filter (fun x => llt x d) = (out ++ [x]) ++ r.filter (fun x => llt x d) by simp]
      exact hc
    · have hlt' : llt x d = false := by simpa using hlt
      obtain ⟨v', hc⟩ := ih (j + 1) out (.el .p x) h2 (by lia)
      refine ⟨v', cl_no (.li rfl h1) ow_plain (as_name (n := 0) rfl) (tt_is (tt_cmp (by walk_at "nm") (ev_cell (by walk_at "mm") rfl rfl) o_ltE) hlt') ?_⟩
      rw [List.filter_cons_of_neg (p := fun x => llt x d) hlt]
      exact hc
theorem od_loop {t it : PySem.Expr} {b : List Stmt} {p : Pos} {s1 : Stmt} {rest : List Stmt} (hb : bd X1.P 17 = [s1, .For t it b [] p] ++ rest) (hz : ds.length < 1000) (hn : (sortD ds).Nodup) : ∀ (r : List D) (j : Nat) (vs : List AV) (v : AV), ds.drop j = r → vs.length = ds.length → vs.all (AV.low 1 3) = true → v.low 1 2 = true →
    ∃ v', v'.low 1 2 = true ∧ Fl ⟨X1, f17, q⟩ ⟨[.lst 0, .oth 2], [(.p, ds)], [.cell v, .rl [.none], .rl vs]⟩ t (.li 0 j) b (.ok .next ⟨[.lst 0, .oth 2], [(.p, ds)], [.cell v', .rl [.none], .rl (r.foldl (fun vs d => vs.set (cnt ds d) (.el .p d)) vs)]⟩) := by
  have e := pr_eq (congrArg (fun b => prt b[1]?) hb)
  clear hb
  obtain ⟨rfl, rfl⟩ := e
  intro r
  induction r with
  | nil => exact fun j vs v hj _ _ hv => ⟨v, hv, fl_end (.liE rfl (drop_end hj))⟩
  | cons d r ih =>
    intro j vs v hj hl hlow _
    obtain ⟨h1, h2⟩ := drop_at hj
    have hcl : cnt ds d < ds.length := by
      have hm : d ∈ sortD ds := (sortD_perm ds).mem_iff.mpr (List.mem_of_getElem? h1)
      obtain ⟨i, hi, e⟩ := List.getElem_of_mem hm
      rw [cnt_at (sortD_perm ds) (sortD_srt ds) hn (List.getElem?_eq_some_iff.mpr ⟨hi, e⟩)]
      rw [← sortD_len]; exact hi
    have hlow' : (vs.set (cnt ds d) (.el .p d)).all (AV.low 1 3) = true := by
      refine List.all_eq_true.mpr fun x hx => ?_
      rcases List.mem_or_eq_of_mem_set hx with hx | rfl
      · exact List.all_eq_true.mp hlow x hx
      · rfl
    obtain ⟨v', hv', hf⟩ := ih (j + 1) (vs.set (cnt ds d) (.el .p d)) (.el .p d) h2 (by simpa using hl) hlow' rfl
    obtain ⟨v1, hc⟩ := od_comp (q := q) (ds := ds) (d := d) (o := [.rl [.none], .rl vs]) hz rfl rfl rfl rfl ds 0 [] .unb rfl (by simpa using hz)
    refine ⟨v', hv', fl_step (.li rfl h1) (as_cell (by walk_at "mm") rfl) (es_drop 1 3 (es_cons (ex_setitemO (n := cnt ds d) (ev_cell (by walk_at "mm") rfl rfl) (by walk_at "nm") (ev_callB (g_len (by walk_at "mm")) (el_cons (ev_comp (fi' := f17c) (σ₁ := ⟨[.lst 0, .oth 2], [(.p, ds)], [.cell (.el .p d), .rl [.none], .rl vs]⟩) (ite_lst (by walk_at "nm") rfl) rfl ⟨by decide +kernel, by decide +kernel, by decide +kernel, by decide +kernel, by decide +kernel, rfl, by decide +kernel, by decide +kernel, rfl, rfl⟩ rfl (cloB rfl rfl rfl) hc) el_nil) (c_len rfl ?_)) rfl rfl (by rw [hl]; exact hcl) (by rw [hl]; exact hz)) es_nil) (Nat.le_refl _) (Nat.le_refl _) rfl ?_ rfl rfl) ?_⟩
    · exact Nat.lt_of_le_of_lt (List.length_filter_le _ _) hz
    · show (true && (true && ((vs.set (cnt ds d) (.el .p d)).all (AV.low 1 3) && true))) = true
      rw [hlow']; rfl
    · exact hf
theorem ok17 : FiOkC X1 17 f17 (fun n => [(Str.ofString "pair", n)]) [Str.ofString "pairs"] where
  nd := by decide +kernel
  bnd := by decide +kernel
  loc := by decide +kernel
  cel := by decide +kernel
  glo := by decide +kernel
  dbg := by decide +kernel
  kind := rfl
  co := rfl
  gen := rfl
  cells := fun _ => rfl
  cnd := fun _ => by show [Str.ofString "pair"].Nodup; decide +kernel
  csn := fun _ => rfl
  cix := rfl
  bk := fun n x hx => .inl (by cases hx with | head => rfl | tail _ h => cases h)
  hd := rfl
theorem plain_def {X : Pg} {i n : Nat} {bn : List Str} (hi : i ∈ X.js) (hbind : ∀ us : List Value, us.length = n → ∀ pm code doc, bindArgs (Calls.docDef (nm X.P i) (pr X.P i) (bd X.P i) (sc X.P i) pm code doc) ⟨us, []⟩ = pure (bn.zip us)) :
    ∀ (c : Kx) (h : Heap) (tk : Nat), Gd X.P X.js X.ks X.free c.mg c.mb h → ∀ us : List Value, us.length = n → ∃ dv, (∃ o pm code doc, h.get? (fa X.P c.mg i) = some o ∧ o.data = .func { Calls.docDef (nm X.P i) (pr X.P i) (bd X.P i) (sc X.P i) pm code doc with defaults := dv } ∧ h.CodeRec code (nm X.P i)) ∧
      ∀ pm code doc, BindsTo (mk c.s h tk) { Calls.docDef (nm X.P i) (pr X.P i) (bd X.P i) (sc X.P i) pm code doc with defaults := dv } ⟨us, []⟩ (bn.zip (us ++ [])) := fun c h tk G us hus => by
  obtain ⟨_, o, pm, code, doc, h1, h2, h3⟩ := G.fn i hi
  exact ⟨.none, ⟨o, pm, code, doc, h1, h2, h3⟩, fun pm code doc => BindsTo.of_eq (by rw [List.append_nil]; exact hbind us hus pm code doc)⟩
theorem low_none : ∀ n, (List.replicate n AV.none).all (AV.low 1 3) = true
  | 0 => rfl
  | n + 1 => by rw [List.replicate_succ, List.all_cons, low_none n]; rfl
theorem fn_order (hz : ds.length < 1000) (hn : (sortD ds).Nodup) : FnIs X1 (q + 1) 17 [.lst 0] [(.p, ds)] [] (.ok (.lst 1) [(.p, ds), (.p, sortD ds)]) := by
  obtain ⟨v', hv', hf⟩ := od_loop (q := q) (ds := ds) rfl hz hn ds 0 (List.replicate ds.length .none) .unb rfl (by simp) (low_none _) rfl
  rw [order_all (sortD_perm ds) (sortD_srt ds) hn] at hf
  have hE : Es ⟨X1, f17, q⟩ ⟨[.lst 0, .unb], [(.p, ds)], [.cell .unb]⟩ (bd X1.P 17) (.ok (.ret (.oth 2)) ⟨[.lst 0, .oth 2], [(.p, ds)], [.cell v', .rl [.none], .rl ((sortD ds).map (elv .p))]⟩) := by
    refine es_cons (ex_asg (ev_bin (ev_listO (el_cons ev_none el_nil) (by simp)) (by walk_at "ln") (o_mulO rfl hz)) (n := 1) rfl) ?_
    refine es_cons (ex_for (ite_lst (by walk_at "nm") rfl) hf) ?_
    exact es_ret (ex_ret (by walk_at "nm"))
  have hE' := es_toL hE rfl (show 1 ≤ 2 from Nat.le_succ 1) (by show (AV.low 1 2 v' && _) = true; rw [hv']; rfl) rfl
  exact fn_ofC (dfa := []) (dfs := []) (pv := [some 0, none]) (pc := [none]) ok17 (plain_def (by decide) (us1 fun _ _ _ _ => rfl)) (fun _ _ _ => .nil) (fun j t x h1 h2 => by
    match j with
    | 0 => cases h1; exact h2
    | 1 => cases h1
    | j + 2 => cases h1) (fun j t p h1 _ => by
    match j with
    | 0 => cases h1
    | j + 1 => cases h1) rfl (fun x hx => nomatch hx) rfl hE' rfl rfl rfl
end
end
section
noncomputable def AO.fgt (nl no : Nat) : AO → AO
  | .cell v => .cell (v.fgt nl no)
  | x => if x.low nl no = true then x else .gone
theorem AV.fgt_low (nl no : Nat) (a : AV) : (a.fgt nl no).low nl no = true := by
  unfold AV.fgt
  split
  · assumption
  · rfl
theorem AO.keep_low (nl no : Nat) (x : AO) : (if x.low nl no = true then x else .gone).low nl no = true := by
  split
  · assumption
  · rfl
theorem AO.fgt_low (nl no : Nat) (a : AO) : (a.fgt nl no).low nl no = true := by
  cases a with
  | cell v => exact AV.fgt_low nl no v
  | _ => first | rfl | exact AO.keep_low nl no _
theorem ORel.keep {X : Pg} {mg : Str → Option Value} {G : Gh} {nl no : Nat} {x : AO} {o : Obj} (h : ORel X mg G x o) : ORel X mg G (if x.low nl no = true then x else .gone) o := by
  split
  · exact h
  · trivial
theorem ORel.fgt {X : Pg} {mg : Str → Option Value} {G : Gh} {nl no : Nat} {a : AO} {o : Obj} (h : ORel X mg G a o) : ORel X mg G (a.fgt nl no) o := by
  cases a with
  | cell v =>
    obtain ⟨u, e, r⟩ := h
    refine ⟨u, e, ?_⟩
    unfold AV.fgt
    split
    · exact r
    · exact .inl rfl
  | _ => exact ORel.keep (nl := nl) (no := no) h
section
variable {κ : K} {c : Kx} {σ σ₁ σ₂ σ₃ : Sg} {h h' : Heap} {G G' : Gh}
theorem Rep.fgt {nl no : Nat} (R : Rep κ c σ h G) : Rep κ c ⟨σ.v.map (AV.fgt nl no), σ.l, σ.o.map (AO.fgt nl no)⟩ h G :=
  { R with
    lr := ⟨R.lr.l, R.lr.o.mapR fun _ _ ⟨b, h1, h2⟩ => ⟨b, h1, h2.fgt⟩, R.lr.ln, R.lr.on⟩
    vr := fun i x v hx hv => by
      dsimp only at hv
      rw [List.getElem?_map] at hv
      cases e : σ.v[i]? with
      | none => rw [e] at hv; cases hv
      | some w =>
        rw [e] at hv
        have hv : w.fgt nl no = v := Option.some.inj hv
        unfold AV.fgt at hv
        split at hv
        · subst hv; exact R.vr i x w hx e
        · exact .inl hv.symm }
noncomputable def cutS (nl no : Nat) (σ : Sg) : Sg := ⟨σ.v.map (AV.fgt nl no), σ.l.take nl, (σ.o.take no).map (AO.fgt nl no)⟩
theorem Rep.cutS {nl no : Nat} (R : Rep κ c σ h G) (hc : ∀ p ∈ κ.fi.cs, Nat.blt p.2 no = true) : Rep κ c (cutS nl no σ) h (G.cut nl no) := by
  have := (R.fgt (nl := nl) (no := no)).cut (nl := nl) (no := no) (List.all_eq_true.mpr fun x hx => by
    obtain ⟨y, _, rfl⟩ := List.mem_map.mp hx; exact AV.fgt_low ..) (List.all_eq_true.mpr fun x hx => by
    obtain ⟨y, _, rfl⟩ := List.mem_map.mp (List.mem_of_mem_take hx); exact AO.fgt_low ..) hc
  unfold Mine.cutS
  rw [List.map_take]
  exact this
theorem es_cut {ss : List Stmt} {f : AF} (nl no : Nat) (hh : Es κ σ ss (.ok f σ₁)) (h1 : σ.l.length ≤ nl) (h2 : σ.o.length ≤ no) (hf : f.low nl no = true) (hc : (κ.fi.cs.all fun p => Nat.blt p.2 no) = true) : Es κ σ ss (.ok f (cutS nl no σ₁)) :=
  fun c h tk G R Q E post => hh c h tk G R Q E fun h' tk' G' u R' K' V' => post h' tk' (G'.cut nl no) u (R'.cutS (List.all_eq_true.mp hc)) (K'.cut (R.lens.1 ▸ h1) (R.lens.2 ▸ h2)) (V'.cut hf)
theorem ex_cut {s : Stmt} {f : AF} (nl no : Nat) (hh : Ex κ σ s (.ok f σ₁)) (h1 : σ.l.length ≤ nl) (h2 : σ.o.length ≤ no) (hf : f.low nl no = true) (hc : (κ.fi.cs.all fun p => Nat.blt p.2 no) = true) : Ex κ σ s (.ok f (cutS nl no σ₁)) :=
  fun c h tk G R Q E post => hh c h tk G R Q E fun h' tk' G' u R' K' V' => post h' tk' (G'.cut nl no) u (R'.cutS (List.all_eq_true.mp hc)) (K'.cut (R.lens.1 ▸ h1) (R.lens.2 ▸ h2)) (V'.cut hf)
theorem es_cutK {s : Stmt} {ss : List Stmt} {r : Rs AF} (nl no : Nat) (hh : Ex κ σ s (.ok .next σ₁)) (h1 : σ.l.length ≤ nl) (h2 : σ.o.length ≤ no) (hc : (κ.fi.cs.all fun p => Nat.blt p.2 no) = true) (h' : Es κ (cutS nl no σ₁) ss r) : Es κ σ (s :: ss) r := es_cons (ex_cut nl no hh h1 h2 rfl hc) h'
theorem ev_comp1 {X : Pg} {fi fi' : Fi} {q : Nat} {elt tgt iter : PySem.Expr} {ifs : List PySem.Expr} {scope : Scope} {pos : Pos} {it : AO} {kd : Kd} {out : List D} {l' : List LC} {o' : List AO} (hi : Ite ⟨X, fi, q⟩ σ iter it σ₁) (hit : it.iter = true) (Kf : FiK scope fi') (hfn : fi.hd = true) (ho : fi.own = true) (hfree : (scope.names.all fun x => !(x.2 == NameKind.free) || (fi.cs.map (·.1)).contains x.1) = true) (hcs : (fi'.cs.all fun p => fi.cs.contains p && scope.names.any fun x => x.1 == p.1 && x.2 == NameKind.free) = true)
    (hC : ∃ v', Cl ⟨X, fi', q⟩ ⟨List.replicate fi'.tb.length .unb, σ₁.l, σ₁.o⟩ tgt elt ifs it kd [] out ⟨[v'], l', o'⟩) (hs : ∀ env x, foldedSetIterable iter env x = pure x := by intro _ _; rfl) :
    Ev ⟨X, fi, q⟩ σ (.ListComp elt [⟨tgt, iter, ifs, 0⟩] scope pos) (.ok (.lst l'.length) ⟨σ₁.v, l' ++ [(kd, out)], o'⟩) :=
  let ⟨_, hC⟩ := hC
  ev_comp (fi' := fi') hi hit Kf hfn (cloB ho hfree hcs) hC hs
theorem sw_ok {x : Str} {elt : PySem.Expr} {gs : List Comprehension} {scope : Scope} {pos px : Pos} {ln n : Nat} (hx : κ.fi.tb[n]? = some x) (hl : (px.line == pos.line) = true) (hn : (scope.names.any fun p => p.1 == x && (p.2 == NameKind.local || p.2 == NameKind.cell)) = false) :
    ∀ c h G, Rep κ c σ h G → swapsWith (.ListComp elt gs scope pos) (some (.Name x px)) ln c.env = pure true := fun c h G R => by
  have hk := R.en.loc x (List.mem_of_getElem? hx)
  have hb : c.env.blockKind = .function := by unfold Env.blockKind; rw [R.en.kind]; rfl
  unfold swapsWith
  show (pure (c.env.blockKind == .function && c.env.kindOf x == some .local && px.line == pos.line && !(scope.names.any fun p => p.1 == x && (p.2 == .local || p.2 == .cell))) : Sem Bool) = pure true
  rw [hb, hk, hl, hn]; rfl
theorem ex_comp1 {X : Pg} {fi fi' : Fi} {q n : Nat} {x : Str} {px p : Pos} {elt tgt iter : PySem.Expr} {ifs : List PySem.Expr} {scope : Scope} {pos : Pos} {it : AO} {kd : Kd} {out : List D} {l' : List LC} {o' : List AO} (hi : Ite ⟨X, fi, q⟩ σ iter it σ₁) (hit : it.iter = true) (Kf : FiK scope fi') (hfn : fi.hd = true) (ho : fi.own = true) (hfree : (scope.names.all fun x => !(x.2 == NameKind.free) || (fi.cs.map (·.1)).contains x.1) = true) (hcs : (fi'.cs.all fun p => fi.cs.contains p && scope.names.any fun x => x.1 == p.1 && x.2 == NameKind.free) = true)
    (hC : ∃ v', Cl ⟨X, fi', q⟩ ⟨List.replicate fi'.tb.length .unb, σ₁.l, σ₁.o⟩ tgt elt ifs it kd [] out ⟨v', l', o'⟩) (hx : fi.tb[n]? = some x) (hl : (px.line == pos.line) = true) (hn : (scope.names.any fun p => p.1 == x && (p.2 == NameKind.local || p.2 == NameKind.cell)) = false) (hs : ∀ env x, foldedSetIterable iter env x = pure x := by intro _ _; rfl) :
    Ex ⟨X, fi, q⟩ σ (.Assign [.Name x px] (.ListComp elt [⟨tgt, iter, ifs, 0⟩] scope pos) p) (.ok .next ⟨σ₁.v.set n (.lst l'.length), l' ++ [(kd, out)], o'⟩) :=
  let ⟨_, hC⟩ := hC
  ex_compAsg (κ := ⟨X, fi, q⟩) (fi' := fi') hi hit Kf hfn (cloB ho hfree hcs) hC hx (sw_ok (κ := ⟨X, fi, q⟩) hx hl hn) hs
theorem rg_comp {ι : Type} {o : List AO} {elt : ι → PySem.Expr} {a : Nat} {R : Nat → List D → Prop} {f : Nat → D} {n : Nat} {x : Str} {px : ι → Pos} (hx : κ.fi.tb[0]? = some x) (hh : κ.fi.hd = true) (hn : n < 1000)
    (step : ∀ j, j < n → ∀ hs, R j hs → ∃ hs', R (j + 1) hs' ∧ ∀ (i : ι) (l : List LC) (w : AV), l[a]? = some (.p, hs) → Ev κ ⟨[w], l, o⟩ (elt i) (.ok (.el .p (f j)) ⟨[w], l.set a (.p, hs'), o⟩)) :
    ∀ (m j : Nat) (hs : List D) (out : List D), j + m = n → R j hs → out.length = j →
      ∃ hs', R n hs' ∧ ∀ (i : ι) (l : List LC) (v : AV), l[a]? = some (.p, hs) → ∃ v', Cl κ ⟨[v], l, o⟩ (.Name x (px i)) (elt i) [] (.ri j m 1) .p out (out ++ (List.range m).map fun i => f (j + i)) ⟨[v'], l.set a (.p, hs'), o⟩ := by
  intro m
  induction m with
  | zero =>
    intro j hs out hj hR _
    refine ⟨hs, by rw [← hj]; exact hR, fun i l v hl => ⟨v, ?_⟩⟩
    have e : l.set a (.p, hs) = l := by
      refine List.ext_getElem? fun i => ?_
      rw [List.getElem?_set]
      split
      · rename_i e; subst e
        split
        · exact hl.symm
        · rename_i hlt; exact absurd (List.getElem?_eq_some_iff.mp hl).1 hlt
      · rfl
    rw [e, List.range_zero, List.map_nil, List.append_nil]
    exact cl_end (.riE (by lia)) hh
  | succ m ih =>
    intro j hs out hj hR ho
    obtain ⟨hs1, hR1, hE⟩ := step j (by lia) hs hR
    obtain ⟨hs', hR', hC⟩ := ih (j + 1) hs1 (out ++ [f j]) (by lia) hR1 (by simp [ho])
    refine ⟨hs', hR', fun i l v hl => ?_⟩
    have hla : a < l.length := (List.getElem?_eq_some_iff.mp hl).1
    obtain ⟨v', hC⟩ := hC i (l.set a (.p, hs1)) (.int j) (List.getElem?_set_self hla)
    refine ⟨v', cl_step (d := f j) (.ri (by lia)) ow_plain (as_name (n := 0) hx) (hE i l _ hl) (by rw [ho]; lia) ?_⟩
    have e1 : (((m + 1 : Nat) : Int) - 1) = (m : Int) := by lia
    have e2 : ((j : Int) + 1) = ((j + 1 : Nat) : Int) := by lia
    rw [e1, e2, List.range_succ_eq_map, List.map_cons, List.map_map, show out ++ f (j + 0) :: List.map ((fun i => f (j + i)) ∘ Nat.succ) (List.range m) = (out ++ [f j]) ++ (List.range m).map (fun i => f (j + 1 + i)) by
      rw [List.append_assoc]
      congr 1
      simp only [Nat.add_zero, List.singleton_append, List.cons.injEq, true_and]
      refine List.map_congr_left fun i _ => ?_
      simp only [Function.comp]; congr 1; lia]
    rw [List.set_set] at hC
    exact hC
end
theorem fn_okC {X : Pg} {q i : Nat} {fi : Fi} {cf : Nat → List (Str × Addr)} {bn : List Str} {args : List AV} {pv pc : List (Option Nat)} {ls ls' : List LC} {v : AV} {σ₀ σ' : Sg} {f : AF} {s : Stmt} {ss : List Stmt} (F : FiOkC X i fi cf bn) (hi : i ∈ X.js) (hbind : ∀ us : List Value, us.length = args.length → ∀ pm code doc, bindArgs (Calls.docDef (nm X.P i) (pr X.P i) (bd X.P i) (sc X.P i) pm code doc) ⟨us, []⟩ = pure (bn.zip us))
    (hpv : ((pv.zip fi.tb).all fun p => match p.1 with | some t => bn[t]? == some p.2 | none => true) = true) (hpc : ((pc.zip fi.cs).all fun p => match p.1 with | some t => bn[t]? == some p.2.1 | none => true) = true) (hpl : pc.length = fi.cs.length) (hbd : bd X.P i = s :: ss)
    (h0 : σ₀ = ⟨pv.map (stV (args.map (shO fi.cs.length) ++ [])), ls, pc.map (fun o => .cell (stV (args.map (shO fi.cs.length) ++ []) o)) ++ []⟩) (h : Es ⟨X, fi, q⟩ σ₀ (s :: ss) (.ok f σ')) (hl : σ'.l = ls') (hv : f.val = v) (hvo : v.noOth = true) : FnIs X (q + 1) i args ls [] (.ok v ls') := by
  subst h0
  refine fn_ofC (dfa := []) (dfs := []) (pv := pv) (pc := pc) F (plain_def hi hbind) (fun _ _ _ => .nil) (fun j t x h1 h2 => ?_) (fun j t p h1 h2 => ?_) hpl (fun x hx => nomatch hx) hbd h hl hv hvo
  · have hm : (some t, x) ∈ pv.zip fi.tb := List.mem_of_getElem? (i := j) (by rw [List.getElem?_zip_eq_some]; exact ⟨h1, h2⟩)
    have := List.all_eq_true.mp hpv _ hm
    simpa using this
  · have hm : (some t, p) ∈ pc.zip fi.cs := List.mem_of_getElem? (i := j) (by rw [List.getElem?_zip_eq_some]; exact ⟨h1, h2⟩)
    have := List.all_eq_true.mp hpc _ hm
    simpa using this
end
section
section
variable {ds : List D} {q : Nat}
theorem range_take {S : List D} {n : Nat} (h : n ≤ S.length) : (List.range n).map (fun i => S.getD (0 + i) []) = S.take n := by
  refine List.ext_getElem? fun i => ?_
  rw [List.getElem?_map, List.getElem?_take]
  by_cases hi : i < n
  · rw [List.getElem?_range hi, if_pos hi]
    simp [List.getD, List.getElem?_eq_getElem (Nat.lt_of_lt_of_le hi h)]
  · rw [if_neg hi, List.getElem?_eq_none (by simp; lia)]; rfl
theorem get0 {l : List D} {d : D} (h0 : 0 < l.length) (h : l.getD 0 [] = d) : l[0]? = some d := by
  rw [List.getElem?_eq_getElem h0, ← h]; simp [List.getD, List.getElem?_eq_getElem h0]
noncomputable abbrev f19 : Fi := ⟨[Str.ofString "pairs", Str.ofString "order", Str.ofString "many", Str.ofString "due", Str.ofString "rest", Str.ofString "pair"], [(Str.ofString "above", 0), (Str.ofString "heap", 1)], [Str.ofString "list", Str.ofString "heapify", Str.ofString "range", Str.ofString "sorted", Str.ofString "heappush"], true, true⟩
noncomputable abbrev f19p : Fi := ⟨[Str.ofString "_"], [(Str.ofString "heap", 1)], [Str.ofString "heappop"], true, false⟩
noncomputable abbrev f19r : Fi := ⟨[Str.ofString "_"], [(Str.ofString "above", 0), (Str.ofString "heap", 1)], [Str.ofString "heapreplace"], true, false⟩
theorem pops {fi : Fi} {x : Str} {S hs : List D} {n a : Nat} {o : List AO} (hx : fi.tb[0]? = some (Str.ofString "_")) (hg : Str.ofString "heappop" ∈ fi.gl) (hh : fi.hd = true) (hc : ∀ (p : Pos) (l : List LC) (w : AV), Ev ⟨X1, fi, q + 3⟩ ⟨[w], l, o⟩ (.Name x p) (.ok (.lst a) ⟨[w], l, o⟩)) (hz : S.length < 1000) (hn : n ≤ S.length) (hO : Ok hs S) :
    ∃ hs', Ok hs' (S.drop n) ∧ ∀ (l : List LC), l[a]? = some (.p, hs) → ∀ np ap cp tp : Pos, ∃ v', Cl ⟨X1, fi, q + 3⟩ ⟨[.unb], l, o⟩ (.Name (Str.ofString "_") tp) (.Call (.Name (Str.ofString "heappop") np) [.Name x ap] [] cp) [] (.ri 0 n 1) .p [] (S.take n) ⟨[v'], l.set a (.p, hs'), o⟩ := by
  obtain ⟨hs', h1, h2⟩ := rg_comp (κ := ⟨X1, fi, q + 3⟩) (ι := Pos × Pos × Pos × Pos) (a := a) (n := n) (o := o) (elt := fun i => .Call (.Name (Str.ofString "heappop") i.1) [.Name x i.2.1] [] i.2.2.1) (px := fun i => i.2.2.2) (R := fun j hs => Ok hs (S.drop j)) (f := fun j => S.getD j []) hx hh (Nat.lt_of_le_of_lt hn hz) (fun j hj hs hR => by
    have hlt : j < S.length := Nat.lt_of_lt_of_le hj hn
    have e : S.drop j = S.getD j [] :: S.drop (j + 1) := by rw [List.drop_eq_getElem_cons hlt]; simp [List.getD, List.getElem?_eq_getElem hlt]
    have hR' : Ok hs (S.getD j [] :: S.drop (j + 1)) := e ▸ hR
    have hl : hs.length = (S.drop j).length := hR.pm.length_eq
    have hl0 : 0 < hs.length := by rw [hl, List.length_drop]; lia
    have hl1 : hs.length < 1000 := by rw [hl, List.length_drop]; lia
    refine ⟨_, hR'.pop, fun i l w hl => ?_⟩
    exact ev_cf 2 [a] hg (by decide) (el_cons (hc _ _ _) el_nil) (e1 := by show [ren [a] (.lst a)] = [.lst 0]; simp [ren]) (e2 := by show [l.getD a _] = _; rw [List.getD, hl]; rfl) (hF := fn_heappop (q := q) (get0 hl0 hR'.root) hl1) (e4 := by show l.set a _ ++ [] = _; rw [List.append_nil]) (hi := by show (Nat.blt a l.length && true) = true; rw [Bool.and_true]; exact Nat.ble_eq_true_of_le (List.getElem?_eq_some_iff.mp hl).1) (hid := by simp) (hp := by show (AV.plain [a] (.lst a) && true) = true; simp [AV.plain]) (hhd := hh)) n 0 hs [] (Nat.zero_add n) hO rfl
  refine ⟨hs', h1, fun l hl np ap cp tp => ?_⟩
  obtain ⟨v', h2⟩ := h2 (np, ap, cp, tp) l .unb hl
  rw [List.nil_append, range_take hn] at h2
  exact ⟨v', h2⟩
theorem reps {S hs : List D} {n a : Nat} {ab : D} {o : List AO} (hz : S.length < 1000) (hn : n ≤ S.length) (hO : Ok hs S) (hab : ∀ x ∈ S, llt ab x = false) :
    ∃ hs', Ok hs' (S.drop n ++ List.replicate n ab) ∧ ∀ (l : List LC), l[a]? = some (.p, hs) → ∀ np ap bp cp tp : Pos, ∃ v', Cl ⟨X1, f19r, q + 3⟩ ⟨[.unb], l, .cell (.el .p ab) :: .cell (.lst a) :: o⟩ (.Name (Str.ofString "_") tp) (.Call (.Name (Str.ofString "heapreplace") np) [.Name (Str.ofString "heap") ap, .Name (Str.ofString "above") bp] [] cp) [] (.ri 0 n 1) .p [] (S.take n) ⟨[v'], l.set a (.p, hs'), .cell (.el .p ab) :: .cell (.lst a) :: o⟩ := by
  obtain ⟨hs', h1, h2⟩ := rg_comp (κ := ⟨X1, f19r, q + 3⟩) (ι := Pos × Pos × Pos × Pos × Pos) (a := a) (n := n) (o := .cell (.el .p ab) :: .cell (.lst a) :: o) (elt := fun i => .Call (.Name (Str.ofString "heapreplace") i.1) [.Name (Str.ofString "heap") i.2.1, .Name (Str.ofString "above") i.2.2.1] [] i.2.2.2.1) (px := fun i => i.2.2.2.2) (R := fun j hs => Ok hs (S.drop j ++ List.replicate j ab)) (f := fun j => S.getD j []) rfl rfl (Nat.lt_of_le_of_lt hn hz) (fun j hj hs hR => by
    have hlt : j < S.length := Nat.lt_of_lt_of_le hj hn
    have e : S.drop j ++ List.replicate j ab = S.getD j [] :: (S.drop (j + 1) ++ List.replicate j ab) := by
      rw [List.drop_eq_getElem_cons hlt, List.cons_append]
      congr 1
      simp [List.getD, List.getElem?_eq_getElem hlt]
    have hR' : Ok hs (S.getD j [] :: (S.drop (j + 1) ++ List.replicate j ab)) := e ▸ hR
    have hl : hs.length = (S.drop j ++ List.replicate j ab).length := hR.pm.length_eq
    have hl2 : hs.length = S.length := by rw [hl]; simp; lia
    have hl0 : 0 < hs.length := by lia
    refine ⟨hrepl llt hs ab, ⟨hrepl_hp llt_tot hl0 hR.hp, ?_, ?_⟩, fun i l w hl => ?_⟩
    · have p1 := (hR'.repl (d := ab)).pm
      refine p1.trans ((lay_perm _ _).trans ?_)
      rw [List.replicate_succ]
      exact List.perm_middle.symm
    · have s1 := hR.sr
      unfold Srt at s1 ⊢
      have s2 := List.pairwise_append.mp s1
      refine List.pairwise_append.mpr ⟨s2.1.sublist ?_, List.pairwise_replicate.mpr (.inr (llt_tot.irr _)), fun a ha b hb => ?_⟩
      · have z := List.drop_sublist 1 (S.drop j)
        rw [List.drop_drop] at z; exact z
      · rw [List.eq_of_mem_replicate hb]
        exact hab a (List.mem_of_mem_drop ha)
    · exact ev_cf 3 [a] (by walk_at "mm") (by decide) (el_cons (ev_cell (by walk_at "mm") rfl rfl) (el_cons (ev_cell (by walk_at "mm") rfl rfl) el_nil)) (e1 := by show [ren [a] (.lst a), .el .p ab] = [.lst 0, .el .p ab]; simp [ren]) (e2 := by show [l.getD a _] = _; rw [List.getD, hl]; rfl) (hF := fn_heapreplace (q := q) (get0 hl0 hR'.root) (by rw [hl2]; exact hz)) (e4 := by show l.set a _ ++ [] = _; rw [List.append_nil]) (hi := by show (Nat.blt a l.length && true) = true; rw [Bool.and_true]; exact Nat.ble_eq_true_of_le (List.getElem?_eq_some_iff.mp hl).1) (hid := by simp) (hp := by show (AV.plain [a] (.lst a) && _) = true; simp [AV.plain])) n 0 hs [] (Nat.zero_add n) (by simpa using hO) rfl
  refine ⟨hs', h1, fun l hl np ap bp cp tp => ?_⟩
  obtain ⟨v', h2⟩ := h2 (np, ap, bp, cp, tp) l .unb hl
  rw [List.nil_append, range_take hn] at h2
  exact ⟨v', h2⟩
theorem push_loop {l1 l2 l3 l4 : LC} {xo : AO} {o : List AO} {v0 v1 v2 v3 v4 : AV} (hz : ds.length < 900) : ∀ (r : List D) (j : Nat) (hs : List D) (v : AV), ds.drop j = r → Hp llt 0 hs → hs.Perm (ds.take j) →
    ∃ hs' v', Hp llt 0 hs' ∧ hs'.Perm ds ∧ ∀ (tp fp ap bp cp np p1 p2 : Pos) (cn : Nat) (b2 : List Stmt), Fl ⟨X1, f19, q + 3⟩ ⟨[v0, v1, v2, v3, v4, v], [(.p, ds), l1, l2, l3, l4, (.p, hs)], xo :: .cell (.lst 5) :: o⟩ (.Name (Str.ofString "pair") tp) (.li 0 j) [.If (.Compare (.Call (.Name (Str.ofString "heappush") fp) [.Name (Str.ofString "heap") ap, .Name (Str.ofString "pair") bp] [] cp) [.IsNot] [.Constant .none cn np] p1) b2 [] p2]
      (.ok .next ⟨[v0, v1, v2, v3, v4, v'], [(.p, ds), l1, l2, l3, l4, (.p, hs')], xo :: .cell (.lst 5) :: o⟩) := by
  intro r
  induction r with
  | nil =>
    intro j hs v hj hh hp
    have hj' : ds.length ≤ j := by
      have := congrArg List.length hj
      rw [List.length_drop] at this
      simp at this; lia
    rw [List.take_of_length_le hj'] at hp
    exact ⟨hs, v, hh, hp, fun _ _ _ _ _ _ _ _ _ _ => fl_end (.liE rfl (drop_end hj))⟩
  | cons d r ih =>
    intro j hs v hj hh hp
    obtain ⟨h1, h2⟩ := drop_at hj
    have hl : hs.length ≤ ds.length := by rw [hp.length_eq, List.length_take]; lia
    obtain ⟨hs', v', a1, a2, a3⟩ := ih (j + 1) (hpush llt hs d) (.el .p d) h2 (hpush_hp llt_tot hh) (by
      refine hpush_perm.trans ((hp.cons d).trans ?_)
      rw [List.take_add_one, h1]
      exact (List.perm_append_comm (l₁ := [d]))) 
    refine ⟨hs', v', a1, a2, fun tp fp ap bp cp np p1 p2 cn b2 => fl_step (.li rfl h1) (as_name (n := 5) rfl) (es_cons (ex_ifF (tt_cmp (ev_cf 1 [5] (by walk_at "mm") (by decide) (el_cons (ev_cell (by walk_at "mm") rfl rfl) (el_cons (by walk_at "nm") el_nil)) (hF := fn_heappush (k := .p) (ds := hs) (d := d) (q := q + 1) (by lia))) ev_none o_notN) rfl es_nil) es_nil) (a3 tp fp ap bp cp np p1 p2 cn b2)⟩
theorem small_up {n : Nat} (h : n < 1000) : Builtin.Range.small 0 n 1 = true := small_one (by decide) (by decide) (by lia) (by lia)
theorem size_up {n : Nat} : Builtin.Range.rangeSize 0 n 1 = (n : Int) := by rw [rangeSize_one]; split <;> lia
theorem ok19 : FiOkC X1 19 f19 (fun n => [(Str.ofString "above", n + 1), (Str.ofString "heap", n)]) [Str.ofString "pairs", Str.ofString "order", Str.ofString "many"] where
  nd := by decide +kernel
  bnd := by decide +kernel
  loc := by decide +kernel
  cel := by decide +kernel
  glo := by decide +kernel
  dbg := by decide +kernel
  kind := rfl
  co := rfl
  gen := rfl
  cells := fun _ => rfl
  cnd := fun _ => by show [Str.ofString "above", Str.ofString "heap"].Nodup; decide +kernel
  csn := fun _ => rfl
  cix := rfl
  bk := fun n x hx => .inl (by cases hx with | head => rfl | tail _ h => cases h with | head => rfl | tail _ h => cases h with | head => rfl | tail _ h => cases h)
  hd := rfl
theorem fn_by_heaps {n : Nat} (hz : ds.length < 60) (h0 : 0 < ds.length) (hp : P2 ds) (hn : n ≤ ds.length) : FnIs X1 (q + 4) 19 [.lst 0, .lst 1, .int n] [(.p, ds), (.p, sortD ds)] [] (.ok (.bool true) [(.p, ds), (.p, sortD ds)]) := by
  have hSl := sortD_len ds
  have hz1 : ds.length < 1000 := by lia
  have hz2 : (sortD ds).length < 1000 := by lia
  have hn2 : n ≤ (sortD ds).length := by lia
  have O0 : Ok (heapify llt ds) (sortD ds) := Ok.make (sortD_perm ds).symm (sortD_srt ds)
  obtain ⟨S', d, hS⟩ : ∃ S' d, sortD ds = S' ++ [d] := ⟨_, _, (List.dropLast_concat_getLast (fun e => by rw [e] at hSl; simp at hSl; lia)).symm⟩
  have hdm : d ∈ ds := (sortD_perm ds).mem_iff.mp (by rw [hS]; simp)
  obtain ⟨mx, my, rfl⟩ := hp d hdm
  have hab : ∀ x ∈ sortD ds, llt [mx + 1, 0] x = false := fun x hx => by
    obtain ⟨a, b, rfl⟩ := hp x ((sortD_perm ds).mem_iff.mp hx)
    have hle : llt [mx, my] [a, b] = false := by
      have s1 := sortD_srt ds
      rw [hS] at s1 hx
      rcases List.mem_append.mp hx with hx | hx
      · exact (List.pairwise_append.mp s1).2.2 _ hx _ (.head _)
      · rw [List.mem_singleton.mp hx]; exact llt_tot.irr _
    simp only [llt] at hle ⊢
    by_cases e : mx < a
    · simp [e, Int.ne_of_lt e] at hle
    · simp [show ¬ mx + 1 < a by lia, show ¬ mx + 1 = a by lia]
  obtain ⟨g1, O1, C1⟩ := pops (fi := f19p) (q := q) (S := sortD ds) (n := n) (a := 4) (x := Str.ofString "heap") (o := [.cell .unb, .cell (.lst 4), .rg 0 n 1]) rfl (by walk_at "mm") rfl (fun _ _ _ => ev_cell (by walk_at "mm") rfl rfl) hz2 hn2 O0
  obtain ⟨g2, w2, H2, P2', F2⟩ := push_loop (q := q) (ds := ds) (l1 := (.p, sortD ds)) (l2 := (.p, (sortD ds).take n)) (l3 := (.p, (sortD ds).drop n)) (l4 := (.p, g1)) (xo := .cell .unb) (o := []) (v0 := .lst 0) (v1 := .lst 1) (v2 := .int n) (v3 := .lst 2) (v4 := .lst 3) (by lia) ds 0 [] .unb rfl (fun _ _ _ _ hi => absurd hi (Nat.not_lt_zero _)) (.refl _)
  have O2 : Ok g2 (sortD ds) := ⟨H2, P2'.trans (sortD_perm ds).symm, sortD_srt ds⟩
  obtain ⟨g3, O3, C3⟩ := pops (fi := f19p) (q := q) (S := sortD ds) (n := n) (a := 5) (x := Str.ofString "heap") (o := [.cell .unb, .cell (.lst 5), .rg 0 n 1]) rfl (by walk_at "mm") rfl (fun _ _ _ => ev_cell (by walk_at "mm") rfl rfl) hz2 hn2 O2
  obtain ⟨g4, O4, C4⟩ := reps (q := q) (S := sortD ds) (n := n) (a := 6) (ab := [mx + 1, 0]) (o := [.rg 0 n 1]) hz2 hn2 O0 hab
  have e1 : sortD g1 = (sortD ds).drop n := O1.sorted
  have e3 : sortD g3 = (sortD ds).drop n := O3.sorted
  have e4 : sortD g4 = (sortD ds).drop n ++ List.replicate n [mx + 1, 0] := O4.sorted
  have z1 : g1.length < 64 := by rw [O1.pm.length_eq, List.length_drop]; lia
  have z3 : g3.length < 64 := by rw [O3.pm.length_eq, List.length_drop]; lia
  have z4 : g4.length < 64 := by rw [O4.pm.length_eq, List.length_append, List.length_drop, List.length_replicate]; lia
  have hnp : (0 : Int) ≤ (n : Int) := by lia
  generalize hT : (sortD ds).take n = T at *
  generalize hU : (sortD ds).drop n = U at *
  apply fn_okC (args := [.lst 0, .lst 1, .int n]) (f := .ret (.bool true)) (σ₀ := ⟨[.lst 0, .lst 1, .int n, .unb, .unb, .unb], [(.p, ds), (.p, sortD ds)], [.cell .unb, .cell .unb]⟩) (pv := [some 0, some 1, some 2, none, none, none]) (pc := [none, none]) ok19 (by decide) (us3 fun _ _ _ _ _ _ => rfl) rfl rfl rfl rfl rfl
  · apply es_cut 2 2
    · refine es_cons (ex_asg (ev_slice (by walk_at "nm") rfl .none (.some (by walk_at "nm")) .none hz2 ((pick_upto _ hnp).trans hT) (by simp)) (n := 3) rfl) ?_
      refine es_cons (ex_asg (ev_slice (by walk_at "nm") rfl (.some (by walk_at "nm")) .none .none hz2 ((pick_from _ hnp).trans hU) (by simp)) (n := 4) rfl) ?_
      refine es_cons (ex_asgC (ev_callT (g_list (by walk_at "mm")) (el_cons (by walk_at "nm") el_nil) (c_list rfl hz1)) (by walk_at "mm") rfl) ?_
      refine es_cons (ex_ifF (tt_cmp (ev_cf 5 [4] (by walk_at "mm") (by decide) (el_cons (ev_cell (by walk_at "mm") rfl rfl) el_nil) (hF := fn_heapify (k := .p) (q := q) hz1)) ev_none o_notN) rfl es_nil) ?_
      refine es_cutK 5 2 (ex_ifF (b := false) (tt_bool (ta_or_f (tt_cmp (ev_comp1 (fi' := f19p) (σ₁ := ⟨[.lst 0, .lst 1, .int n, .lst 2, .lst 3, .unb], [(.p, ds), (.p, sortD ds), (.p, T), (.p, U), (.p, heapify llt ds)], [.cell .unb, .cell (.lst 4), .rg 0 n 1]⟩) (ite_rg (n := n) (ev_callT (g_range (by walk_at "mm")) (el_cons (by walk_at "nm") el_nil) c_range1) rfl (small_up (by lia)) size_up) rfl ⟨by decide +kernel, by decide +kernel, by decide +kernel, by decide +kernel, by decide +kernel, rfl, by decide +kernel, by decide +kernel, rfl, rfl⟩ rfl rfl rfl rfl (C1 _ rfl _ _ _ _)) (by walk_at "nm") (o_neL rfl rfl)) (by simp) (ta_or_f (tt_cmp (ev_callB (g_sorted (by walk_at "mm")) (el_cons (ev_cell (by walk_at "mm") rfl rfl) el_nil) (c_sorted rfl (by intro e; cases e) z1)) (by walk_at "nm") (o_neL rfl rfl)) (by rw [e1]; simp) ta_or_nil))) rfl es_nil) (Nat.le_refl _) (Nat.le_refl _) rfl ?_
      show Es ⟨X1, f19, q + 3⟩ ⟨[.lst 0, .lst 1, .int n, .lst 2, .lst 3, .unb], [(.p, ds), (.p, sortD ds), (.p, T), (.p, U), (.p, g1)], [.cell .unb, .cell (.lst 4)]⟩ _ _
      refine es_cons (ex_asgC (ev_list (k := .p) (ds := []) el_nil (by decide)) (by walk_at "mm") rfl) ?_
      refine es_cons (ex_for (ite_lst (by walk_at "nm") rfl) (F2 _ _ _ _ _ _ _ _ _ _)) ?_
      refine es_cutK 6 2 (ex_ifF (b := false) (tt_bool (ta_or_f (tt_cmp (ev_comp1 (fi' := f19p) (σ₁ := ⟨[.lst 0, .lst 1, .int n, .lst 2, .lst 3, w2], [(.p, ds), (.p, sortD ds), (.p, T), (.p, U), (.p, g1), (.p, g2)], [.cell .unb, .cell (.lst 5), .rg 0 n 1]⟩) (ite_rg (n := n) (ev_callT (g_range (by walk_at "mm")) (el_cons (by walk_at "nm") el_nil) c_range1) rfl (small_up (by lia)) size_up) rfl ⟨by decide +kernel, by decide +kernel, by decide +kernel, by decide +kernel, by decide +kernel, rfl, by decide +kernel, by decide +kernel, rfl, rfl⟩ rfl rfl rfl rfl (C3 _ rfl _ _ _ _)) (by walk_at "nm") (o_neL rfl rfl)) (by simp) (ta_or_f (tt_cmp (ev_callB (g_sorted (by walk_at "mm")) (el_cons (ev_cell (by walk_at "mm") rfl rfl) el_nil) (c_sorted rfl (by intro e; cases e) z3)) (by walk_at "nm") (o_neL rfl rfl)) (by rw [e3]; simp) ta_or_nil))) rfl es_nil) (Nat.le_refl _) (Nat.le_refl _) rfl ?_
      show Es ⟨X1, f19, q + 3⟩ ⟨[.lst 0, .lst 1, .int n, .lst 2, .lst 3, w2.fgt 6 2], [(.p, ds), (.p, sortD ds), (.p, T), (.p, U), (.p, g1), (.p, g3)], [.cell .unb, .cell (.lst 5)]⟩ _ _
      refine es_cons (ex_asgC (ev_tupP (el_cons (ev_bin (ev_fstP (ev_last (ds' := S') (by walk_at "nm") (ev_neg ev_int) (by show some _ = _; rw [hS]) (by rw [hS] at hz2; simp at hz2; lia))) ev_int o_add) (el_cons ev_int el_nil))) (by walk_at "mm") rfl) ?_
      refine es_cons (ex_asgC (ev_callT (g_list (by walk_at "mm")) (el_cons (by walk_at "nm") el_nil) (c_list rfl hz1)) (by walk_at "mm") rfl) ?_
      refine es_cons (ex_expr (ev_cf 5 [6] (by walk_at "mm") (by decide) (el_cons (ev_cell (by walk_at "mm") rfl rfl) el_nil) (hF := fn_heapify (k := .p) (q := q) hz1))) ?_
      refine es_cons (ex_ifF (b := false) (tt_is (tt_cmp (ev_comp1 (fi' := f19r) (σ₁ := ⟨[.lst 0, .lst 1, .int n, .lst 2, .lst 3, w2.fgt 6 2], [(.p, ds), (.p, sortD ds), (.p, T), (.p, U), (.p, g1), (.p, g3), (.p, heapify llt ds)], [.cell (.el .p [mx + 1, 0]), .cell (.lst 6), .rg 0 n 1]⟩) (ite_rg (n := n) (ev_callT (g_range (by walk_at "mm")) (el_cons (by walk_at "nm") el_nil) c_range1) rfl (small_up (by lia)) size_up) rfl ⟨by decide +kernel, by decide +kernel, by decide +kernel, by decide +kernel, by decide +kernel, rfl, by decide +kernel, by decide +kernel, rfl, rfl⟩ rfl rfl rfl rfl (C4 _ rfl _ _ _ _ _)) (by walk_at "nm") (o_neL rfl rfl)) (by simp)) rfl es_nil) ?_
      refine es_ret (ex_ret (ev_is (ev_cmp (ev_callB (g_sorted (by walk_at "mm")) (el_cons (ev_cell (by walk_at "mm") rfl rfl) el_nil) (c_sorted rfl (by intro e; cases e) z4)) (ev_bin (by walk_at "nm") (ev_bin (ev_list (k := .p) (ds := [[mx + 1, 0]]) (el_cons (ev_cell (by walk_at "mm") rfl rfl) el_nil) (by simp)) (by walk_at "nm") (o_mulL rfl (by lia))) (o_addL rfl rfl (by simp; rw [← hU]; simp; lia))) (o_eqL rfl rfl)) (by rw [e4]; simp)))
    · exact Nat.le_refl _
    · exact Nat.le_refl _
    · rfl
    · rfl
  · rfl
  · rfl
  · rfl
end
end
section
structure HA (hs out seen : List D) : Prop where
  hp : Hp gtl 0 hs
  pm : (hs ++ out).Perm seen
  le : ∀ o ∈ out, ∀ x ∈ hs, llt o x = false
theorem HA.top {hs out seen : List D} (h : HA hs out seen) {x : D} (hx : x ∈ hs) : llt (hs.getD 0 []) x = false := root_least_mem gtl_tot h.hp hx
theorem HA.swap {hs out seen : List D} {d : D} (h : HA hs out seen) (h0 : 0 < hs.length) (hlt : llt d (hs.getD 0 []) = true) : HA (hrepl gtl hs d) (out ++ [hs.getD 0 []]) (seen ++ [d]) := by
  have pm := hrepl_perm (lt := gtl) (d := d) h0
  have sub : ∀ x ∈ hrepl gtl hs d, x = d ∨ x ∈ hs := fun x hx => List.mem_cons.mp (pm.mem_iff.mp (.tail _ hx))
  refine ⟨hrepl_hp gtl_tot h0 h.hp, ?_, fun o ho x hx => ?_⟩
  · refine ((List.perm_append_comm (l₁ := out) (l₂ := [hs.getD 0 []])).append_left _).trans ?_
    refine (List.perm_middle (l₁ := hrepl gtl hs d) (l₂ := out)).trans ?_
    refine (pm.append_right out).trans ?_
    exact (h.pm.cons d).trans (List.perm_append_comm (l₁ := [d]))
  · rcases List.mem_append.mp ho with ho | ho
    · rcases sub x hx with rfl | hx
      · cases q : llt o x with
        | false => rfl
        | true => have := llt_tot.tr _ _ _ q hlt; rw [h.le o ho _ (getD0_mem h0)] at this; cases this
      · exact h.le o ho x hx
    · rw [List.mem_singleton.mp ho]
      rcases sub x hx with rfl | hx
      · exact llt_tot.asym hlt
      · exact h.top hx
theorem HA.out {hs out seen : List D} {d : D} (h : HA hs out seen) (hlt : ∀ x ∈ hs, llt d x = false) : HA hs (out ++ [d]) (seen ++ [d]) :=
  ⟨h.hp, by rw [← List.append_assoc]; exact h.pm.append_right _, fun o ho x hx => by
    rcases List.mem_append.mp ho with ho | ho
    · exact h.le o ho x hx
    · rw [List.mem_singleton.mp ho]; exact hlt x hx⟩
structure HB (hs out seen : List D) : Prop where
  hp : Hp llt 0 hs
  pm : (hs ++ out).Perm seen
  le : ∀ o ∈ out, ∀ x ∈ hs, llt x o = false
theorem HB.top {hs out seen : List D} (h : HB hs out seen) {x : D} (hx : x ∈ hs) : llt x (hs.getD 0 []) = false := root_least_mem llt_tot h.hp hx
theorem HB.push {hs seen : List D} {d : D} (h : HB hs [] seen) : HB (hpush llt hs d) [] (seen ++ [d]) :=
  ⟨hpush_hp llt_tot h.hp, by
    rw [List.append_nil]
    refine hpush_perm.trans ?_
    have := h.pm
    rw [List.append_nil] at this
    exact (this.cons d).trans (List.perm_append_comm (l₁ := [d])), fun o ho => nomatch ho⟩
theorem HB.swap {hs out seen : List D} {d : D} (h : HB hs out seen) (h0 : 0 < hs.length) (hlt : llt (hs.getD 0 []) d = true) : HB (hrepl llt hs d) (out ++ [hs.getD 0 []]) (seen ++ [d]) := by
  have pm := hrepl_perm (lt := llt) (d := d) h0
  have sub : ∀ x ∈ hrepl llt hs d, x = d ∨ x ∈ hs := fun x hx => List.mem_cons.mp (pm.mem_iff.mp (.tail _ hx))
  refine ⟨hrepl_hp llt_tot h0 h.hp, ?_, fun o ho x hx => ?_⟩
  · refine ((List.perm_append_comm (l₁ := out) (l₂ := [hs.getD 0 []])).append_left _).trans ?_
    refine (List.perm_middle (l₁ := hrepl llt hs d) (l₂ := out)).trans ?_
    refine (pm.append_right out).trans ?_
    exact (h.pm.cons d).trans (List.perm_append_comm (l₁ := [d]))
  · rcases List.mem_append.mp ho with ho | ho
    · rcases sub x hx with rfl | hx
      · cases q : llt x o with
        | false => rfl
        | true => have := llt_tot.tr _ _ _ hlt q; rw [h.le o ho _ (getD0_mem h0)] at this; cases this
      · exact h.le o ho x hx
    · rw [List.mem_singleton.mp ho]
      rcases sub x hx with rfl | hx
      · exact llt_tot.asym hlt
      · exact h.top hx
theorem HB.out {hs out seen : List D} {d : D} (h : HB hs out seen) (hlt : ∀ x ∈ hs, llt x d = false) : HB hs (out ++ [d]) (seen ++ [d]) :=
  ⟨h.hp, by rw [← List.append_assoc]; exact h.pm.append_right _, fun o ho x hx => by
    rcases List.mem_append.mp ho with ho | ho
    · exact h.le o ho x hx
    · rw [List.mem_singleton.mp ho]; exact hlt x hx⟩
section
variable {ds : List D} {q : Nat}
noncomputable abbrev f20 : Fi := ⟨[Str.ofString "pairs", Str.ofString "due", Str.ofString "rest", Str.ofString "many", Str.ofString "out", Str.ofString "pair", Str.ofString "told"], [(Str.ofString "held", 0)], [Str.ofString "len", Str.ofString "_heapify_max", Str.ofString "_heapreplace_max", Str.ofString "range", Str.ofString "sorted", Str.ofString "_law_turned", Str.ofString "heappush", Str.ofString "heappushpop"], true, true⟩
noncomputable abbrev f20m : Fi := ⟨[Str.ofString "_"], [(Str.ofString "held", 0)], [Str.ofString "_heappop_max"], true, false⟩
noncomputable abbrev f20p : Fi := ⟨[Str.ofString "_"], [(Str.ofString "held", 0)], [Str.ofString "heappop"], true, false⟩
theorem lpA {xs : List D} {l0 l1 l2 : LC} {v0 v1 v2 v3 v6 : AV} {t it : PySem.Expr} {b : List Stmt} {p : Pos} {s1 s2 s3 s4 : Stmt} {rest : List Stmt} (hb : bd X1.P 20 = [s1, s2, s3, s4, .For t it b [] p] ++ rest) (hz : xs.length < 60) : ∀ (r : List D) (j : Nat) (hs out seen : List D) (v : AV), xs.drop j = r → HA hs out seen → hs.length < 60 → out.length + r.length < 900 →
    ∃ hs' out' v', HA hs' out' (seen ++ r) ∧ hs'.length = hs.length ∧ Fl ⟨X1, f20, q + 3⟩ ⟨[v0, v1, v2, v3, .lst 4, v, v6], [l0, l1, l2, (.p, hs), (.p, out), (.p, xs)], [.cell (.lst 3)]⟩ t (.li 5 j) b (.ok .next ⟨[v0, v1, v2, v3, .lst 4, v', v6], [l0, l1, l2, (.p, hs'), (.p, out'), (.p, xs)], [.cell (.lst 3)]⟩) := by
  have e := pr_eq (congrArg (fun b => prt b[4]?) hb)
  clear hb
  obtain ⟨rfl, rfl⟩ := e
  intro r
  induction r with
  | nil => exact fun j hs out seen v hj hA hl ho => ⟨hs, out, v, by rw [List.append_nil]; exact hA, rfl, fl_end (.liE rfl (drop_end hj))⟩
  | cons d r ih =>
    intro j hs out seen v hj hA hl ho
    obtain ⟨h1, h2⟩ := drop_at hj
    have ho' : out.length + r.length + 1 < 900 := by simpa [Nat.add_assoc] using ho
    have hs1 : hs.length < 1000 := by lia
    by_cases hc : 0 < hs.length ∧ llt d (hs.getD 0 []) = true
    · obtain ⟨h0, hlt⟩ := hc
      have hne : hs ≠ [] := fun e => by rw [e] at h0; exact absurd h0 (Nat.lt_irrefl _)
      obtain ⟨x, hx⟩ : ∃ x, hs[0]? = some x := ⟨_, List.getElem?_eq_getElem h0⟩
      have hx' : hs.getD 0 [] = x := by simp [List.getD, hx]
      obtain ⟨hs', out', v', a1, a2, a3⟩ := ih (j + 1) (hrepl gtl hs d) (out ++ [x]) (seen ++ [d]) (.el .p d) h2 (hx' ▸ hA.swap h0 hlt) (by rw [hrepl_len]; exact hl) (by rw [List.length_append]; simp; lia)
      rw [List.append_assoc] at a1
      rw [hrepl_len] at a2
      rw [hx'] at hlt
      exact ⟨hs', out', v', a1, a2, fl_step (.li rfl h1) (as_name (n := 5) rfl) (es_cons (ex_ifT (tt_bool (ta_and_t (tt_neNil (ev_cell (by walk_at "mm") rfl rfl) rfl) (by simpa using hne) (ta_and_t (tt_cmp (by walk_at "nm") (ev_item (ev_cell (by walk_at "mm") rfl rfl) ev_int (n := 0) rfl rfl hx hs1) o_ltE) hlt ta_and_nil))) rfl (es_cons (ex_expr (ev_meth (by walk_at "nm") rfl PySem.F.slot_list_append PySem.F.type_list_append (el_cons (ev_cf 7 [3] (by walk_at "mm") (by decide) (el_cons (ev_cell (by walk_at "mm") rfl rfl) (el_cons (by walk_at "nm") el_nil)) (hF := fn_heapreplace_max (k := .p) (q := q) hx hs1)) el_nil) (m_append rfl (by lia)))) es_nil)) es_nil) a3⟩
    · have hle : ∀ x ∈ hs, llt d x = false := fun x hx => by
        have h0 : 0 < hs.length := List.length_pos_of_mem hx
        refine llt_tot.le_tr (hA.top hx) ?_
        cases e : llt d (hs.getD 0 []) with
        | false => rfl
        | true => exact absurd ⟨h0, e⟩ hc
      obtain ⟨hs', out', v', a1, a2, a3⟩ := ih (j + 1) hs (out ++ [d]) (seen ++ [d]) (.el .p d) h2 (hA.out hle) hl (by rw [List.length_append]; simp; lia)
      rw [List.append_assoc] at a1
      refine ⟨hs', out', v', a1, a2, fl_step (.li rfl h1) (as_name (n := 5) rfl) (es_cons (ex_ifF (b := false) (σ₁ := ⟨[v0, v1, v2, v3, .lst 4, .el .p d, v6], [l0, l1, l2, (.p, hs), (.p, out), (.p, xs)], [.cell (.lst 3)]⟩) ?_ rfl (es_cons (ex_expr (ev_meth (by walk_at "nm") rfl PySem.F.slot_list_append PySem.F.type_list_append (el_cons (by walk_at "nm") el_nil) (m_append rfl (by lia)))) es_nil)) es_nil) a3⟩
      by_cases h0 : 0 < hs.length
      · have hne : hs ≠ [] := fun e => by rw [e] at h0; exact absurd h0 (Nat.lt_irrefl _)
        obtain ⟨x, hx⟩ : ∃ x, hs[0]? = some x := ⟨_, List.getElem?_eq_getElem h0⟩
        exact tt_bool (ta_and_t (tt_neNil (ev_cell (by walk_at "mm") rfl rfl) rfl) (by simpa using hne) (ta_and_f (tt_cmp (by walk_at "nm") (ev_item (ev_cell (by walk_at "mm") rfl rfl) ev_int (n := 0) rfl rfl hx hs1) o_ltE) (hle x (List.mem_of_getElem? hx))))
      · have hne : hs = [] := List.length_eq_zero_iff.mp (by lia)
        exact tt_bool (ta_and_f (tt_neNil (ev_cell (by walk_at "mm") rfl rfl) rfl) (by simpa using hne))
theorem lpB {n : Nat} {xs : List D} {l0 l1 l2 l4 : LC} {v0 v1 v2 v6 : AV} {t it : PySem.Expr} {b : List Stmt} {p : Pos} {s1 s2 s3 s4 s5 s6 s7 s8 : Stmt} {rest : List Stmt} (hb : bd X1.P 20 = [s1, s2, s3, s4, s5, s6, s7, s8, .For t it b [] p] ++ rest) (hz : xs.length < 60) (hn : n < 60) : ∀ (r : List D) (j : Nat) (hs out seen : List D) (v : AV), xs.drop j = r → HB hs out seen → hs.length ≤ n → (hs.length < n → out = []) → out.length + r.length < 900 →
    ∃ hs' out' v', HB hs' out' (seen ++ r) ∧ hs'.length ≤ n ∧ (hs'.length < n → out' = []) ∧ Fl ⟨X1, f20, q + 3⟩ ⟨[v0, v1, v2, .int n, .lst 5, v, v6], [l0, l1, l2, (.p, hs), l4, (.p, out), (.p, xs)], [.cell (.lst 3)]⟩ t (.li 6 j) b (.ok .next ⟨[v0, v1, v2, .int n, .lst 5, v', v6], [l0, l1, l2, (.p, hs'), l4, (.p, out'), (.p, xs)], [.cell (.lst 3)]⟩) := by
  have e := pr_eq (congrArg (fun b => prt b[8]?) hb)
  clear hb
  obtain ⟨rfl, rfl⟩ := e
  intro r
  induction r with
  | nil => exact fun j hs out seen v hj hA hl hl2 ho => ⟨hs, out, v, by rw [List.append_nil]; exact hA, hl, hl2, fl_end (.liE rfl (drop_end hj))⟩
  | cons d r ih =>
    intro j hs out seen v hj hA hl hl2 ho
    obtain ⟨h1, h2⟩ := drop_at hj
    have ho' : out.length + r.length + 1 < 900 := by simpa [Nat.add_assoc] using ho
    have hs1 : hs.length < 1000 := by lia
    by_cases hlen : hs.length < n
    · obtain rfl := hl2 hlen
      obtain ⟨hs', out', v', a1, a2, a3, a4⟩ := ih (j + 1) (hpush llt hs d) [] (seen ++ [d]) (.el .p d) h2 hA.push (by rw [hpush_len]; lia) (fun _ => rfl) (by lia)
      rw [List.append_assoc] at a1
      exact ⟨hs', out', v', a1, a2, a3, fl_step (.li rfl h1) (as_name (n := 5) rfl) (es_cons (ex_ifT (tt_cmp (ev_callB (g_len (by walk_at "mm")) (el_cons (ev_cell (by walk_at "mm") rfl rfl) el_nil) (c_len rfl hs1)) (by walk_at "nm") o_lt) (by simpa using hlen) (es_cons (ex_expr (ev_cf 1 [3] (by walk_at "mm") (by decide) (el_cons (ev_cell (by walk_at "mm") rfl rfl) (el_cons (by walk_at "nm") el_nil)) (hF := fn_heappush (k := .p) (ds := hs) (d := d) (q := q + 1) (by lia)))) es_nil)) es_nil) a4⟩
    · have hlen' : hs.length = n := by lia
      by_cases hc : 0 < hs.length ∧ llt (hs.getD 0 []) d = true
      · obtain ⟨h0, hlt⟩ := hc
        obtain ⟨x, hx⟩ : ∃ x, hs[0]? = some x := ⟨_, List.getElem?_eq_getElem h0⟩
        have hx' : hs.getD 0 [] = x := by simp [List.getD, hx]
        obtain ⟨hs', out', v', a1, a2, a3, a4⟩ := ih (j + 1) (hrepl llt hs d) (out ++ [x]) (seen ++ [d]) (.el .p d) h2 (hx' ▸ hA.swap h0 hlt) (by rw [hrepl_len]; exact hl) (fun q => by rw [hrepl_len] at q; lia) (by rw [List.length_append]; simp; lia)
        rw [List.append_assoc] at a1
        rw [hx'] at hlt
        exact ⟨hs', out', v', a1, a2, a3, fl_step (.li rfl h1) (as_name (n := 5) rfl) (es_cons (ex_ifF (tt_cmp (ev_callB (g_len (by walk_at "mm")) (el_cons (ev_cell (by walk_at "mm") rfl rfl) el_nil) (c_len rfl hs1)) (by walk_at "nm") o_lt) (by simpa using hlen) (es_cons (ex_expr (ev_meth (by walk_at "nm") rfl PySem.F.slot_list_append PySem.F.type_list_append (el_cons (ev_cf 4 [3] (by walk_at "mm") (by decide) (el_cons (ev_cell (by walk_at "mm") rfl rfl) (el_cons (by walk_at "nm") el_nil)) (hF := fn_pushpop1 (k := .p) (q := q) hx hs1 hlt)) el_nil) (m_append rfl (by lia)))) es_nil)) es_nil) a4⟩
      · have hle : ∀ x ∈ hs, llt x d = false := fun x hx => by
          have h0 : 0 < hs.length := List.length_pos_of_mem hx
          refine llt_tot.le_tr ?_ (hA.top hx)
          cases e : llt (hs.getD 0 []) d with
          | false => rfl
          | true => exact absurd ⟨h0, e⟩ hc
        obtain ⟨hs', out', v', a1, a2, a3, a4⟩ := ih (j + 1) hs (out ++ [d]) (seen ++ [d]) (.el .p d) h2 (hA.out hle) hl (fun q => absurd q hlen) (by rw [List.length_append]; simp; lia)
        rw [List.append_assoc] at a1
        exact ⟨hs', out', v', a1, a2, a3, fl_step (.li rfl h1) (as_name (n := 5) rfl) (es_cons (ex_ifF (tt_cmp (ev_callB (g_len (by walk_at "mm")) (el_cons (ev_cell (by walk_at "mm") rfl rfl) el_nil) (c_len rfl hs1)) (by walk_at "nm") o_lt) (by simpa using hlen) (es_cons (ex_expr (ev_meth (by walk_at "nm") rfl PySem.F.slot_list_append PySem.F.type_list_append (el_cons (ev_cf 4 [3] (by walk_at "mm") (by decide) (el_cons (ev_cell (by walk_at "mm") rfl rfl) (el_cons (by walk_at "nm") el_nil)) (hq := by show q + 1 ≤ q + 3; lia) (hF := fn_pushpop2 (k := .p) (q := q) hs1 hc)) el_nil) (m_append rfl (by lia)))) es_nil)) es_nil) a4⟩
theorem range_back {T : List D} : (List.range T.length).map (fun i => T.getD (T.length - 1 - (0 + i)) []) = T.reverse := by
  refine List.ext_getElem (by simp) fun i h1 h2 => ?_
  simp only [List.length_map, List.length_range] at h1
  simp only [List.getElem_map, List.getElem_range, List.getElem_reverse, Nat.zero_add]
  have : T.length - 1 - i < T.length := by lia
  simp [List.getD, List.getElem?_eq_getElem this]
theorem maxpops {T hs : List D} {o : List AO} (hz : T.length < 1000) (hs0 : Srt T) (hH : Hp gtl 0 hs) (hP : hs.Perm T) :
    ∃ hs', hs' = [] ∧ ∀ (l : List LC), l[3]? = some (.p, hs) → ∀ np ap cp tp : Pos, ∃ v', Cl ⟨X1, f20m, q + 3⟩ ⟨[.unb], l, .cell (.lst 3) :: o⟩ (.Name (Str.ofString "_") tp) (.Call (.Name (Str.ofString "_heappop_max") np) [.Name (Str.ofString "held") ap] [] cp) [] (.ri 0 T.length 1) .p [] T.reverse ⟨[v'], l.set 3 (.p, hs'), .cell (.lst 3) :: o⟩ := by
  obtain ⟨hs', h1, h2⟩ := rg_comp (κ := ⟨X1, f20m, q + 3⟩) (ι := Pos × Pos × Pos × Pos) (a := 3) (n := T.length) (o := .cell (.lst 3) :: o) (x := Str.ofString "_") (elt := fun i => .Call (.Name (Str.ofString "_heappop_max") i.1) [.Name (Str.ofString "held") i.2.1] [] i.2.2.1) (px := fun i => i.2.2.2) (R := fun j hs => Hp gtl 0 hs ∧ hs.Perm (T.take (T.length - j))) (f := fun j => T.getD (T.length - 1 - j) []) rfl rfl hz (fun j hj hs ⟨hH, hP⟩ => by
    have hlt : T.length - 1 - j < T.length := by lia
    have e : T.take (T.length - j) = T.take (T.length - (j + 1)) ++ [T.getD (T.length - 1 - j) []] := by
      rw [show T.length - j = T.length - (j + 1) + 1 by lia, List.take_add_one, show T.length - (j + 1) = T.length - 1 - j by lia, List.getElem?_eq_getElem hlt]
      simp [List.getD, List.getElem?_eq_getElem hlt]
    rw [e] at hP
    have hS : Srt (T.take (T.length - (j + 1)) ++ [T.getD (T.length - 1 - j) []]) := e ▸ hs0.sub (List.take_sublist _ _)
    have hl := hP.length_eq
    rw [List.length_append, List.length_take] at hl
    have hl0 : 0 < hs.length := by rw [hl]; simp
    have hl1 : hs.length < 1000 := by rw [hl]; simp; lia
    refine ⟨_, max_pop hH hP hS, fun i l w hl => ?_⟩
    exact ev_cf 6 [3] (by walk_at "mm") (by decide) (el_cons (ev_cell (by walk_at "mm") rfl rfl) el_nil) (e2 := by show [l.getD 3 _] = _; rw [List.getD, hl]; rfl) (hF := fn_heappop_max (q := q) (get0 hl0 (max_root hH hP hS)) hl1) (e4 := by show l.set 3 _ ++ [] = _; rw [List.append_nil]) (hi := by show (Nat.blt 3 l.length && true) = true; rw [Bool.and_true]; exact Nat.ble_eq_true_of_le (List.getElem?_eq_some_iff.mp hl).1)) T.length 0 hs [] (Nat.zero_add _) ⟨hH, by rw [Nat.sub_zero, List.take_length]; exact hP⟩ rfl
  refine ⟨hs', ?_, fun l hl np ap cp tp => ?_⟩
  · have := h1.2.length_eq
    rw [Nat.sub_self] at this
    exact List.length_eq_zero_iff.mp this
  · obtain ⟨v', h2⟩ := h2 (np, ap, cp, tp) l .unb hl
    rw [List.nil_append, range_back] at h2
    exact ⟨v', h2⟩
theorem ok20 : FiOkC X1 20 f20 (fun n => [(Str.ofString "held", n)]) [Str.ofString "pairs", Str.ofString "due", Str.ofString "rest"] where
  nd := by decide +kernel
  bnd := by decide +kernel
  loc := by decide +kernel
  cel := by decide +kernel
  glo := by decide +kernel
  dbg := by decide +kernel
  kind := rfl
  co := rfl
  gen := rfl
  cells := fun _ => rfl
  cnd := fun _ => by show [Str.ofString "held"].Nodup; decide +kernel
  csn := fun _ => rfl
  cix := rfl
  bk := fun n x hx => .inl (by cases hx with | head => rfl | tail _ h => cases h with | head => rfl | tail _ h => cases h with | head => rfl | tail _ h => cases h)
  hd := rfl
theorem fn_by_few {n : Nat} (hz : ds.length < 60) (hp : P2 ds) (hn : n ≤ ds.length) : FnIs X1 (q + 4) 20 [.lst 0, .lst 1, .lst 2] [(.p, ds), (.p, (sortD ds).take n), (.p, (sortD ds).drop n)] [] (.ok (.bool true) [(.p, ds), (.p, (sortD ds).take n), (.p, (sortD ds).drop n)]) := by
  have hSl := sortD_len ds
  have hTl : ((sortD ds).take n).length = n := by rw [List.length_take]; lia
  have hTs : Srt ((sortD ds).take n) := (sortD_srt ds).sub (List.take_sublist _ _)
  have hUl : ((sortD ds).drop n).length < 60 := by rw [List.length_drop]; lia
  obtain ⟨h1, o1, w1, A1, A2, A3⟩ := lpA (q := q) (xs := ds.drop n) (l0 := (.p, ds)) (l1 := (.p, (sortD ds).take n)) (l2 := (.p, (sortD ds).drop n)) (v0 := .lst 0) (v1 := .lst 1) (v2 := .lst 2) (v3 := .int n) (v6 := .unb) rfl (by rw [List.length_drop]; lia) (ds.drop n) 0 (heapify gtl (ds.take n)) [] (ds.take n) .unb rfl ⟨heapify_hp gtl_tot, by rw [List.append_nil]; exact heapify_perm, fun _ h => nomatch h⟩ (by rw [heapify_perm.length_eq, List.length_take]; lia) (by simp; lia)
  rw [List.take_append_drop] at A1
  rw [heapify_perm.length_eq, List.length_take, show min n ds.length = n by lia] at A2
  have s1 := split_sorted A1.pm A1.le
  rw [A2] at s1
  have z1 : o1.length < 64 := by have := A1.pm.length_eq; rw [List.length_append] at this; lia
  obtain ⟨h1', rfl, C1⟩ := maxpops (q := q) (T := (sortD ds).take n) (hs := h1) (o := [.rg 0 n 1]) (by lia) hTs A1.hp (s1.1 ▸ (sortD_perm h1).symm)
  rw [hTl] at C1
  obtain ⟨h2, o2, w2, B1, B2, B3, B4⟩ := lpB (q := q) (n := n) (xs := ds.map ngd) (l0 := (.p, ds)) (l1 := (.p, (sortD ds).take n)) (l2 := (.p, (sortD ds).drop n)) (l4 := (.p, o1)) (v0 := .lst 0) (v1 := .lst 1) (v2 := .lst 2) (v6 := .unb) rfl (by simpa using hz) (by lia) (ds.map ngd) 0 [] [] [] (((w1.fgt 5 1).fgt 5 1).fgt 5 1) rfl ⟨fun _ _ _ _ hi => absurd hi (Nat.not_lt_zero _), .refl _, fun _ h => nomatch h⟩ (Nat.zero_le _) (fun _ => rfl) (by simp; lia)
  rw [List.nil_append] at B1
  have hl2 : h2.length = n := by
    have := B1.pm.length_eq
    rw [List.length_append, List.length_map] at this
    by_cases h : h2.length < n
    · rw [B3 h] at this; simp at this; lia
    · lia
  have q2 : P2 (ds.map ngd) := hp.ngd
  have qh : P2 h2 := fun d hd => q2 d (B1.pm.mem_iff.mp (List.mem_append_left _ hd))
  have qo : P2 o2 := fun d hd => q2 d (B1.pm.mem_iff.mp (List.mem_append_right _ hd))
  have s2 := split_sorted (hs := h2.map ngd) (out := o2.map ngd) (ds := ds) (by
    have := B1.pm.map ngd
    rw [List.map_append, ngd_map] at this
    exact this) (fun o ho x hx => by
    obtain ⟨o', ho', rfl⟩ := List.mem_map.mp ho
    obtain ⟨x', hx', rfl⟩ := List.mem_map.mp hx
    rw [ngd_lt (qo o' ho') (qh x' hx')]
    exact B1.le o' ho' x' hx')
  rw [List.length_map, hl2, sort_ngd qh] at s2
  have z2 : (o2.map ngd).length < 64 := by have := B1.pm.length_eq; rw [List.length_append, List.length_map] at this; rw [List.length_map]; lia
  have hsl : (sortD h2).length = n := by rw [sortD_len]; exact hl2
  obtain ⟨h3, O3, C3⟩ := pops (fi := f20p) (q := q) (S := sortD h2) (n := n) (a := 3) (x := Str.ofString "held") (o := [.cell (.lst 3), .rg 0 n 1]) rfl (by walk_at "mm") rfl (fun _ _ _ => ev_cell (by walk_at "mm") rfl rfl) (by lia) (by lia) ⟨B1.hp, (sortD_perm h2).symm, sortD_srt h2⟩
  have e3 : h3 = [] := by
    have := O3.pm.length_eq
    rw [List.length_drop, hsl, Nat.sub_self] at this
    exact List.length_eq_zero_iff.mp this
  subst e3
  rw [List.take_of_length_le (Nat.le_of_eq hsl)] at C3
  have qs : P2 (sortD h2) := qh.perm (sortD_perm h2)
  have e4 : (sortD h2).map ngd = ((sortD ds).take n).reverse := by rw [← s2.1, List.reverse_reverse]
  have hnp : (0 : Int) ≤ (n : Int) := by lia
  generalize hT : (sortD ds).take n = T at *
  generalize hU : (sortD ds).drop n = U at *
  apply fn_okC (args := [.lst 0, .lst 1, .lst 2]) (f := .ret (.bool true)) (σ₀ := ⟨[.lst 0, .lst 1, .lst 2, .unb, .unb, .unb, .unb], [(.p, ds), (.p, T), (.p, U)], [.cell .unb]⟩) (pv := [some 0, some 1, some 2, none, none, none, none]) (pc := [none]) ok20 (by decide) (us3 fun _ _ _ _ _ _ => rfl) rfl rfl rfl rfl rfl
  · apply es_cut 3 1
    · refine es_cons (ex_asg (ev_is (ev_callB (g_len (by walk_at "mm")) (el_cons (by walk_at "nm") el_nil) (c_len rfl (by lia))) (congrArg AV.int (congrArg Int.ofNat hTl))) (n := 3) rfl) ?_
      refine es_cons (ex_asgC (ev_slice (by walk_at "nm") rfl .none (.some (by walk_at "nm")) .none (by lia) (pick_upto _ hnp) (by simp)) (by walk_at "mm") rfl) ?_
      refine es_cons (ex_asg (ev_list (k := .p) (ds := []) el_nil (by decide)) (n := 4) rfl) ?_
      refine es_cons (ex_ifF (tt_cmp (ev_cf 8 [3] (by walk_at "mm") (by decide) (el_cons (ev_cell (by walk_at "mm") rfl rfl) el_nil) (hF := fn_heapify_max (k := .p) (q := q) (by rw [List.length_take]; lia))) ev_none o_notN) rfl es_nil) ?_
      refine es_cutK 5 1 (ex_for (ite_lst (ev_slice (by walk_at "nm") rfl (.some (by walk_at "nm")) .none .none (by lia) (pick_from _ hnp) (by simp)) rfl) A3) (Nat.le_refl _) (Nat.le_refl _) rfl ?_
      show Es ⟨X1, f20, q + 3⟩ ⟨[.lst 0, .lst 1, .lst 2, .int n, .lst 4, w1.fgt 5 1, .unb], [(.p, ds), (.p, T), (.p, U), (.p, h1), (.p, o1)], [.cell (.lst 3)]⟩ _ _
      refine es_cutK 5 1 (ex_ifF (b := false) (tt_is (tt_cmp (ev_comp1 (fi' := f20m) (σ₁ := ⟨[.lst 0, .lst 1, .lst 2, .int n, .lst 4, w1.fgt 5 1, .unb], [(.p, ds), (.p, T), (.p, U), (.p, h1), (.p, o1)], [.cell (.lst 3), .rg 0 n 1]⟩) (ite_rg (n := n) (ev_callT (g_range (by walk_at "mm")) (el_cons (by walk_at "nm") el_nil) c_range1) rfl (small_up (by lia)) size_up) rfl ⟨by decide +kernel, by decide +kernel, by decide +kernel, by decide +kernel, by decide +kernel, rfl, by decide +kernel, by decide +kernel, rfl, rfl⟩ rfl rfl rfl rfl (C1 _ rfl _ _ _ _)) (ev_slice (by walk_at "nm") rfl .none .none (.some (ev_neg ev_int)) (by lia) (pick_back _) (by simp)) (o_neL rfl rfl)) (by simp)) rfl es_nil) (Nat.le_refl _) (Nat.le_refl _) rfl ?_
      show Es ⟨X1, f20, q + 3⟩ ⟨[.lst 0, .lst 1, .lst 2, .int n, .lst 4, (w1.fgt 5 1).fgt 5 1, .unb], [(.p, ds), (.p, T), (.p, U), (.p, []), (.p, o1)], [.cell (.lst 3)]⟩ _ _
      refine es_cutK 5 1 (ex_ifF (b := false) (tt_bool (ta_or_f (tt_neNil (ev_cell (by walk_at "mm") rfl rfl) rfl) rfl (ta_or_f (tt_cmp (ev_callB (g_sorted (by walk_at "mm")) (el_cons (by walk_at "nm") el_nil) (c_sorted rfl (by intro e; cases e) z1)) (by walk_at "nm") (o_neL rfl rfl)) (by rw [s1.2]; simp) ta_or_nil))) rfl es_nil) (Nat.le_refl _) (Nat.le_refl _) rfl ?_
      show Es ⟨X1, f20, q + 3⟩ ⟨[.lst 0, .lst 1, .lst 2, .int n, .lst 4, ((w1.fgt 5 1).fgt 5 1).fgt 5 1, .unb], [(.p, ds), (.p, T), (.p, U), (.p, []), (.p, o1)], [.cell (.lst 3)]⟩ _ _
      refine es_cons (ex_asg (ev_list (k := .p) (ds := []) el_nil (by decide)) (n := 4) rfl) ?_
      refine es_cutK 6 1 (ex_for (ite_lst (ev_cf 18 [0] (by walk_at "mm") (by decide) (el_cons (by walk_at "nm") el_nil) (hq := by show q + 1 ≤ q + 3; lia) (hF := fn_turned (q := q) (by lia) hp)) rfl) B4) (Nat.le_refl _) (Nat.le_refl _) rfl ?_
      show Es ⟨X1, f20, q + 3⟩ ⟨[.lst 0, .lst 1, .lst 2, .int n, .lst 5, w2.fgt 6 1, .unb], [(.p, ds), (.p, T), (.p, U), (.p, h2), (.p, o1), (.p, o2)], [.cell (.lst 3)]⟩ _ _
      refine es_cons (ex_comp1 (fi' := f20p) (n := 6) (σ₁ := ⟨[.lst 0, .lst 1, .lst 2, .int n, .lst 5, w2.fgt 6 1, .unb], [(.p, ds), (.p, T), (.p, U), (.p, h2), (.p, o1), (.p, o2)], [.cell (.lst 3), .rg 0 n 1]⟩) (ite_rg (n := n) (ev_callT (g_range (by walk_at "mm")) (el_cons (by walk_at "nm") el_nil) c_range1) rfl (small_up (by lia)) size_up) rfl ⟨by decide +kernel, by decide +kernel, by decide +kernel, by decide +kernel, by decide +kernel, rfl, by decide +kernel, by decide +kernel, rfl, rfl⟩ rfl rfl rfl rfl (let ⟨v', c⟩ := C3 _ rfl _ _ _ _; ⟨[v'], c⟩) rfl rfl rfl) ?_
      refine es_ret (ex_ret (ev_and_t (ev_is (ev_eqNil (ev_cell (by walk_at "mm") rfl rfl) rfl) rfl) (ev_and_t (ev_is (ev_cmp (ev_cf 18 [6] (by walk_at "mm") (by decide) (el_cons (by walk_at "nm") el_nil) (hq := by show q + 1 ≤ q + 3; lia) (hF := fn_turned (q := q) (by lia) qs)) (ev_slice (by walk_at "nm") rfl .none .none (.some (ev_neg ev_int)) (by lia) (pick_back _) (by simp)) (o_eqL rfl rfl)) (by rw [e4]; simp)) (ev_and_one (ev_is (ev_cmp (ev_callB (g_sorted (by walk_at "mm")) (el_cons (ev_cf 18 [5] (by walk_at "mm") (by decide) (el_cons (by walk_at "nm") el_nil) (hq := by show q + 1 ≤ q + 3; lia) (hF := fn_turned (q := q) (by rw [List.length_map] at z2; lia) qo)) el_nil) (c_sorted rfl (by intro e; cases e) z2)) (by walk_at "nm") (o_eqL rfl rfl)) (by rw [s2.2]; simp))))))
    · exact Nat.le_refl _
    · exact Nat.le_refl _
    · rfl
    · rfl
  · rfl
  · rfl
  · rfl
end
end
section
section
variable {κ : K} {c : Kx} {σ : Sg} {G : Gh} {I : Addr} {x : AO} {v : AV} {ls : List LC} {ss : List Stmt}
theorem PostR.two {y : List Addr} {x0 x1 x2 : LC} {Q : Flow → Shared → Prop} (p : PostR κ y c G (.lst 1) [x0, x2] Q) (hG : G.la.length ≤ 1) : PostR κ y c G (.lst 2) [x0, x1, x2] Q := fun h tk G' u σ' hl R k hv => by
  have hn := R.lr.ln
  have hL := R.lr.l
  rw [hl] at hL
  obtain ⟨m, lsG, ob, nw, la, oa⟩ := G'
  dsimp only at hn hL hv
  obtain _ | ⟨r0, hL⟩ := hL
  obtain _ | ⟨r1, hL⟩ := hL
  obtain _ | ⟨r2, hL⟩ := hL
  obtain _ | _ := hL
  rename_i a0 a1 a2
  obtain ⟨b, hb, hu⟩ := hv
  have hb : a2 = b := by simpa using hb
  subst hb
  simp only [List.nodup_cons, List.mem_cons, List.not_mem_nil, or_false, not_or] at hn
  have key : ∀ {as : List Addr} {bs : List AO}, All2 (fun a x => ∃ b, (a, b) ∈ ob ∧ ORel κ.X c.mg ⟨m, lsG, ob, nw, [a0, a1, a2], oa⟩ x b) as bs → All2 (fun a x => ∃ b, (a, b) ∈ ob ∧ ORel κ.X c.mg ⟨m, lsG, ob, nw, [a0, a2], oa⟩ x b) as (List.replicate bs.length .gone) := by
    intro as bs hh
    induction hh with
    | nil => exact .nil
    | cons r _ ih => obtain ⟨b, hb, _⟩ := r; exact .cons ⟨b, hb, trivial⟩ ih
  have Rn : Rep κ c ⟨[], [x0, x2], List.replicate σ'.o.length .gone⟩ h ⟨m, lsG, ob, nw, [a0, a2], oa⟩ :=
    { gd := R.gd, below := R.below, depth := R.depth, units := R.units, handled := R.handled, en := R.en, st := R.st,
      lr := ⟨.cons r0 (.cons r2 .nil), key R.lr.o, by simp [hn], R.lr.on⟩,
      vr := fun i z w _ hw => by simp at hw
      nd := R.nd, ce := R.ce, fn := R.fn, own := R.own, top := R.top, cp := R.cp }
  refine p h tk ⟨m, lsG, ob, nw, [a0, a2], oa⟩ u _ rfl Rn ⟨?_, k.oa, k.nw, fun e h1 h2 h3 => ?_, k.ob⟩ ⟨a2, rfl, hu⟩
  · obtain ⟨t, ht⟩ := k.la
    have ht : G.la ++ t = [a0, a1, a2] := ht
    cases hg : G.la with
    | nil => exact List.nil_prefix
    | cons z r =>
      rw [hg] at hG ht
      have : r = [] := List.length_eq_zero_iff.mp (by simpa using hG)
      subst this
      cases ht
      exact ⟨[a2], rfl⟩
  · obtain ⟨q1, q2⟩ := k.ls e h1 h2 h3
    refine ⟨q1, fun q => q2 ?_⟩
    rcases List.mem_cons.mp q with q | q
    · exact q ▸ .head _
    · rw [List.mem_singleton.mp q]; exact .tail _ (.tail _ (.head _))
theorem eh_two {x0 x1 x2 : LC} (h : EsH κ σ I x ss (.lst 2) [x0, x1, x2]) (hl : σ.l.length ≤ 1) : EsH κ σ I x ss (.lst 1) [x0, x2] := fun c h' tk G o R hm hI hex ho Q E post => h c h' tk G o R hm hI hex ho Q E (post.two (by rw [R.lens.1]; exact hl))
theorem er_two {x0 x1 x2 : LC} (h : EsR κ σ ss (.lst 2) [x0, x1, x2]) (hl : σ.l.length ≤ 1) : EsR κ σ ss (.lst 1) [x0, x2] := fun c h' tk G R Q E post => h c h' tk G R Q E (post.two (by rw [R.lens.1]; exact hl))
end
theorem ev_ifF {κ : K} {σ σ₁ : Sg} {t e e' : PySem.Expr} {p : Pos} {r : Rs AV} (h : Tt κ σ t (.ok false σ₁)) (h' : Ev κ σ₁ e' r) : Ev κ σ (.IfExp t e e' p) r := ev_if h h'
noncomputable abbrev f13 : Fi := ⟨[Str.ofString "n", Str.ofString "iterable", Str.ofString "it", Str.ofString "sentinel", Str.ofString "result", Str.ofString "size", Str.ofString "elem", Str.ofString "top", Str.ofString "order", Str.ofString "_heapreplace", Str.ofString "_order", Str.ofString "k", Str.ofString "_elem"], [(Str.ofString "key", 0)], [Str.ofString "iter", Str.ofString "object", Str.ofString "min", Str.ofString "len", Str.ofString "TypeError", Str.ofString "AttributeError", Str.ofString "sorted", Str.ofString "zip", Str.ofString "range", Str.ofString "_heapify_max", Str.ofString "_heapreplace_max"], true, true⟩
noncomputable abbrev f13z : Fi := ⟨[Str.ofString "i", Str.ofString "elem"], [], [], true, false⟩
noncomputable abbrev f13y : Fi := ⟨[Str.ofString "i", Str.ofString "elem"], [(Str.ofString "key", 0)], [], true, false⟩
noncomputable abbrev f13u : Fi := ⟨[Str.ofString "elem", Str.ofString "order"], [], [], true, false⟩
noncomputable abbrev f13w : Fi := ⟨[Str.ofString "k", Str.ofString "order", Str.ofString "elem"], [], [], true, false⟩
noncomputable def b1 (bst : D → List D → D) : List D → List D
  | [] => []
  | d :: ds => [bst d ds]
section
variable {ds : List D} {q : Nat} {kv a1 v5 : AV} {I : Addr}
theorem ns_one {bst : D → List D → D} {t : PySem.Expr} {s1 : Stmt} {ss el rest : List Stmt} {p : Pos} (hb : bd X1.P 13 = .If t (s1 :: ss) el p :: rest) (hM : MinOp X1 q "min" kv ds bst) (hkv : kv.bd = true) :
    EsH ⟨X1, f13, q⟩ ⟨[.int 1, a1, .val (.ref I), .unb, .unb, .unb, .unb, .unb, .unb, .unb, .unb, .unb, .unb], [(.p, ds)], [.cell kv]⟩ I (.li 0 0) ss (.lst 1) [(.p, ds), (.p, b1 bst ds)] := by
  have e : (prt (bd X1.P 13)[0]?).2.drop 1 = ss := congrArg (fun b => (prt b[0]?).2.drop 1) hb
  clear hb
  subst e
  refine eh_cons (ex_asg (ev_callT0 (g_object (by walk_at "mm")) c_object) (n := 3) rfl) ?_
  refine eh_min (so := 1) (nn := 4) (i := 0) (g_min (by walk_at "mm")) (by walk_at "nm") (ek_cons (by walk_at "nm") (ek_cons (ev_cell (by walk_at "mm") rfl hkv) ek_nil)) hM rfl rfl rfl (fun hd => ?_) fun d ds' hd => ?_
  · subst hd
    exact er_of (es_ret (ex_ret (ev_if (tt_cmp (by walk_at "nm") (by walk_at "nm") o_isO) (ev_list (k := .p) (ds := []) el_nil (by decide))))) rfl
  · subst hd
    apply er_of
    · apply es_ret
      apply ex_ret
      apply ev_ifF (tt_cmp (by walk_at "nm") (by walk_at "nm") (o_isEO rfl))
      exact ev_is (ev_list (k := .p) (ds := [bst d ds']) (el_cons (by walk_at "nm") el_nil) (by show 1 < 1000; decide)) rfl
    · rfl
theorem zip_u {s : Int} {l : List LC} {o : List AO} {xi xe : Str} {pi pe tp p1 p2 ep : Pos} {k1 k2 : Nat} (hl : l[0]? = some (.p, ds)) (hz : ds.length < 60) (hxi : xi = Str.ofString "i") (hxe : xe = Str.ofString "elem") : ∀ (m j : Nat) (v0 v1 : AV), j ≤ ds.length → ∃ v', Clz ⟨X1, f13z, q⟩ ⟨[v0, v1], l, o⟩ (.Tuple [.Name xi pi, .Name xe pe] k1 tp) (.Tuple [.Name xe p1, .Name xi p2] k2 ep) (s * j) m s 0 j .pi (numd (fun j => s * j) (ds.take j)) (numd (fun j => s * j) (ds.take (j + m))) ⟨v', l, o⟩ (if ds.length < j + m then .lx else .li 0 (j + m)) := by
  subst hxi hxe
  intro m
  induction m with
  | zero =>
    intro j v0 v1 hj
    refine ⟨[v0, v1], ?_⟩
    rw [if_neg (by lia)]
    exact clz_stop (by decide) rfl
  | succ m ih =>
    intro j v0 v1 hj
    by_cases he : j = ds.length
    · refine ⟨[v0, v1], ?_⟩
      rw [if_pos (by lia), List.take_of_length_le (by lia : ds.length ≤ j), List.take_of_length_le (by lia : ds.length ≤ j + (m + 1))]
      exact clz_dead (by lia) hl (List.getElem?_eq_none (by lia)) rfl
    · have hlt : j < ds.length := by lia
      obtain ⟨v', ih⟩ := ih (j + 1) (.int (s * j)) (.el .p ds[j]) (by lia)
      refine ⟨v', clz_step (d := ds[j]) (d' := ds[j] ++ [s * j]) rfl (by lia) hl (List.getElem?_eq_getElem hlt) rfl (as_name (n := 0) rfl) (as_name (n := 1) rfl) (ev_tupPI (el_cons (by walk_at "nm") (el_cons (by walk_at "nm") el_nil))) (by rw [numd_len, List.length_take]; lia) ?_⟩
      rw [numd_snoc (List.getElem?_eq_getElem hlt)] at ih
      rw [show j + (m + 1) = j + 1 + m by lia]
      have e1 : s * j + s = s * ((j + 1 : Nat) : Int) := by rw [Int.natCast_add, Int.mul_add]; simp
      have e2 : ((m + 1 : Nat) : Int) - 1 = (m : Int) := by lia
      rw [e1, e2]
      exact ih
theorem zip_u0 {s x0 : Int} {m : Nat} {fin : AO} {out : List D} {l : List LC} {o : List AO} {xi xe : Str} {pi pe tp p1 p2 ep : Pos} {k1 k2 : Nat} (hl : l[0]? = some (.p, ds)) (hz : ds.length < 60) (hx0 : x0 = 0) (ho : out = numd (fun j => s * j) (ds.take m)) (hf : fin = if ds.length < m then .lx else .li 0 m) (hxi : xi = Str.ofString "i") (hxe : xe = Str.ofString "elem") : ∃ v', Clz ⟨X1, f13z, q⟩ ⟨[.unb, .unb], l, o⟩ (.Tuple [.Name xi pi, .Name xe pe] k1 tp) (.Tuple [.Name xe p1, .Name xi p2] k2 ep) x0 m s 0 0 .pi [] out ⟨v', l, o⟩ fin := by
  subst hx0 ho hf
  have z := zip_u (q := q) (s := s) (o := o) (pi := pi) (pe := pe) (tp := tp) (p1 := p1) (p2 := p2) (ep := ep) (k1 := k1) (k2 := k2) hl hz hxi hxe m 0 .unb .unb (Nat.zero_le _)
  rw [Nat.zero_add] at z
  have e : s * ((0 : Nat) : Int) = 0 := Int.mul_zero s
  rw [e] at z
  exact z
theorem fin_u {x0 : LC} {res : List D} {o : List AO} {xe xo : Str} {pe po tp p1 : Pos} {k1 : Nat} (nd : Nd res) (hz : res.length < 60) (hxe : xe = Str.ofString "elem") (hxo : xo = Str.ofString "order") : ∀ (r : List D) (j : Nat) (out : List D) (v0 v1 : AV), res.drop j = r → out.length = j → ∃ v', Cl ⟨X1, f13u, q⟩ ⟨[v0, v1], [x0, (.pi, res)], o⟩ (.Tuple [.Name xe pe, .Name xo po] k1 tp) (.Name xe p1) [] (.li 1 j) .p out (out ++ r.map fst2) ⟨v', [x0, (.pi, res)], o⟩ := by
  subst hxe hxo
  intro r
  induction r with
  | nil => exact fun j out v0 v1 hj ho => ⟨_, by rw [List.map_nil, List.append_nil]; exact cl_end (.liE rfl (drop_end hj)) rfl⟩
  | cons e r ih =>
    intro j out v0 v1 hj ho
    obtain ⟨h1, h2⟩ := drop_at hj
    have hjl := (List.getElem?_eq_some_iff.mp h1).1
    obtain ⟨d, z, hd, rfl⟩ := nd e (List.mem_of_getElem? h1)
    obtain ⟨v', ih⟩ := ih (j + 1) (out ++ [d]) (.el .p d) (.int z) h2 (by simp [ho])
    refine ⟨v', cl_step (d := d) (.li rfl h1) (ow_li (by intro e; cases e)) (as_pi rfl (as_name (n := 0) rfl) (as_name (n := 1) rfl)) (by walk_at "nm") (by lia) ?_⟩
    rw [List.map_cons, fst2_app hd, show out ++ d :: r.map fst2 = out ++ [d] ++ r.map fst2 by simp]
    exact ih
theorem ag_u {lt : D → D → Bool} (P : App lt) {res : List D} (nd : Nd res) : ∀ e ∈ res, ∀ e' ∈ res, lt e e' = false → lt (fst2 e) (fst2 e') = false := fun e he e' he' h => by
  obtain ⟨d, z, hd, rfl⟩ := nd e he
  obtain ⟨d', z', hd', rfl⟩ := nd e' he'
  rw [fst2_app hd, fst2_app hd']
  exact P _ _ _ _ hd hd' h
theorem nd_repl {lt : D → D → Bool} {res : List D} {d : D} {z : Int} (nd : Nd res) (h0 : 0 < res.length) (hd : d.length = 2) : Nd (hrepl lt res (d ++ [z])) := fun e he => by
  rcases List.mem_cons.mp ((hrepl_perm (lt := lt) (d := d ++ [z]) h0).mem_iff.mp (.tail _ he)) with rfl | h
  · exact ⟨d, z, hd, rfl⟩
  · exact nd e h
theorem lp_u {n : Int} {v3 v11 v12 : AV} {t : PySem.Expr} {s1 s2 a b c d e f g : Stmt} {tgt it : PySem.Expr} {body tl el rest : List Stmt} {p fp : Pos} (hb : bd X1.P 13 = s1 :: s2 :: .If t (a :: b :: c :: d :: e :: f :: g :: .For tgt it body [] fp :: tl) el p :: rest) (h2 : P2 ds) : ∀ (r : List D) (j : Nat) (res seen : List D) (od : Int) (v6 v10 : AV), ds.drop j = r → Fw llt llt fst2 res seen → Nd res → 0 < res.length → res.length < 60 →
    ∃ res' od' v6' v10', Fw llt llt fst2 res' (seen ++ r) ∧ Nd res' ∧ res'.length = res.length ∧ Fl ⟨X1, f13, q + 3⟩ ⟨[.int n, a1, .val (.ref I), v3, .lst 1, v5, v6, .el .p (fst2 (res.getD 0 [])), .int od, .fn 7, v10, v11, v12], [(.p, ds), (.pi, res)], [.cell .none]⟩ tgt (.li 0 j) body (.ok .next ⟨[.int n, a1, .val (.ref I), v3, .lst 1, v5, v6', .el .p (fst2 (res'.getD 0 [])), .int od', .fn 7, v10', v11, v12], [(.p, ds), (.pi, res')], [.cell .none]⟩) := by
  have e := pr_eq (congrArg (fun b => prt (prt b[2]?).2[7]?) hb)
  clear hb
  obtain ⟨rfl, rfl⟩ := e
  intro r
  induction r with
  | nil => exact fun j res seen od v6 v10 hj F nd h0 hl => ⟨res, od, v6, v10, by rw [List.append_nil]; exact F, nd, rfl, fl_end (.liE rfl (drop_end hj))⟩
  | cons x r ih =>
    intro j res seen od v6 v10 hj F nd h0 hl
    obtain ⟨h1, h2'⟩ := drop_at hj
    have hxl : x.length = 2 := by obtain ⟨a, b, rfl⟩ := h2 x (List.mem_of_getElem? h1); rfl
    by_cases hlt : llt x (fst2 (res.getD 0 [])) = true
    · have F1 := F.swap (e₁ := x ++ [od]) llt_tot llt_tot h0 (by rw [fst2_app hxl]; exact hlt) (fun e he => by
        obtain ⟨d, z, hd, rfl⟩ := nd e he
        rw [fst2_app hd, fst2_app hxl]
        exact ⟨app_llt _ _ _ _ hd hxl, app_llt _ _ _ _ hxl hd⟩)
      rw [fst2_app hxl] at F1
      have nd1 : Nd (hrepl gtl res (x ++ [od])) := nd_repl nd h0 hxl
      have hl1 : (hrepl gtl res (x ++ [od])).length = res.length := hrepl_len
      obtain ⟨e0, he0⟩ : ∃ e0, res[0]? = some e0 := ⟨_, List.getElem?_eq_getElem h0⟩
      obtain ⟨e1, he1⟩ : ∃ e1, (hrepl gtl res (x ++ [od]))[0]? = some e1 := ⟨_, List.getElem?_eq_getElem (by lia)⟩
      have hg1 : (hrepl gtl res (x ++ [od])).getD 0 [] = e1 := by simp [List.getD, he1]
      obtain ⟨d, z, hd, hed⟩ := nd1 e1 (List.mem_of_getElem? he1)
      obtain ⟨res', od', v6', v10', a1', a2', a3', a4'⟩ := ih (j + 1) (hrepl gtl res (x ++ [od])) (seen ++ [x]) (od + 1) (.el .p x) (.int z) h2' F1 nd1 (by lia) (by lia)
      rw [List.append_assoc] at a1'
      rw [hg1, hed, fst2_app hd] at a4'
      refine ⟨res', od', v6', v10', a1', a2', a3'.trans hl1, fl_step (.li rfl h1) (as_name (n := 6) rfl) (es_cons (ex_ifT (tt_cmp (by walk_at "nm") (by walk_at "nm") o_ltE) hlt ?_) es_nil) a4'⟩
      refine es_cons (ex_expr (ev_call [1] (by walk_at "nm") (show 7 ∈ X1.js by decide) (el_cons (by walk_at "nm") (el_cons (ev_tupPI (el_cons (by walk_at "nm") (el_cons (by walk_at "nm") el_nil))) el_nil)) (fn_heapreplace_max (k := .pi) (q := q) he0 (by lia)))) ?_
      refine es_cons (ex_asgT (ev_is (ev_item (by walk_at "nm") ev_int (n := 0) rfl rfl he1 (by lia)) (congrArg (AV.el .pi) hed)) (as_pi (d := d) (z := z) rfl (as_name (n := 7) rfl) (as_name (n := 10) rfl))) ?_
      exact es_cons (ex_aug (n := 8) rfl rfl rfl ev_int o_iadd) es_nil
    · obtain ⟨res', od', v6', v10', a1', a2', a3', a4'⟩ := ih (j + 1) res (seen ++ [x]) od (.el .p x) v10 h2' (F.keep llt_tot llt_tot h0 (by simpa using hlt)) nd h0 hl
      rw [List.append_assoc] at a1'
      exact ⟨res', od', v6', v10', a1', a2', a3', fl_step (.li rfl h1) (as_name (n := 6) rfl) (es_cons (ex_ifF (tt_cmp (by walk_at "nm") (by walk_at "nm") o_ltE) (by simpa using hlt) es_nil) es_nil) a4'⟩
theorem small_n {n : Int} (h : -1000 < n ∧ n < 1000) : Builtin.Range.small 0 n 1 = true := small_one (by decide) (by decide) (by lia) (by lia)
theorem size_n {n : Int} : Builtin.Range.rangeSize 0 n 1 = (n.toNat : Int) := by rw [rangeSize_one]; split <;> lia
theorem ns_none {n : Int} {t : PySem.Expr} {s1 s2 a : Stmt} {ss el rest : List Stmt} {p : Pos} (hb : bd X1.P 13 = s1 :: s2 :: .If t (a :: ss) el p :: rest) (h2 : P2 ds) (hz : ds.length < 60) (hn : -1000 < n ∧ n < 1000) :
    EsH ⟨X1, f13, q + 3⟩ ⟨[.int n, a1, .val (.ref I), .unb, .unb, v5, .unb, .unb, .unb, .unb, .unb, .unb, .unb], [(.p, ds)], [.cell .none]⟩ I (.li 0 0) ss (.lst 1) [(.p, ds), (.p, (sortD ds).take n.toNat)] := by
  have e : (prt (bd X1.P 13)[2]?).2.drop 1 = ss := congrArg (fun b => (prt b[2]?).2.drop 1) hb
  clear hb
  subst e
  by_cases h0 : n.toNat = 0 ∨ ds = []
  · have e : (sortD ds).take n.toNat = [] := by
      rcases h0 with h0 | h0
      · rw [h0]; rfl
      · subst h0; exact List.take_nil
    rw [e]
    refine eh_zip (fi' := f13z) (nn := 4) (kd := .p) (out := []) (n := n.toNat) (fin := if ds.length < n.toNat then .lx else .li 0 0) (g_zip (by walk_at "mm")) (hide_range1 (g_range (by walk_at "mm")) (el_cons (by walk_at "nm") el_nil)) (by walk_at "nm") ⟨by decide +kernel, by decide +kernel, by decide +kernel, by decide +kernel, by decide +kernel, rfl, by decide +kernel, by decide +kernel, rfl, rfl⟩ rfl rfl (cloB rfl rfl rfl) (small_n hn) size_n ⟨[.unb, .unb], ?_⟩ rfl (sw_ok (n := 4) rfl rfl rfl) ?_
    · by_cases hm : n.toNat = 0
      · rw [hm, if_neg (by lia)]
        exact clz_stop (by decide) rfl
      · obtain h0 | h0 := h0
        · exact absurd h0 hm
        · subst h0
          rw [if_pos (by simp; lia)]
          exact clz_dead (by lia) rfl rfl rfl
    · refine eh_ifT (tt_not (tt_plain (by walk_at "nm") (b_lst rfl (by decide)))) rfl (eh_drop ?_)
      exact er_of (es_ret (ex_ret (by walk_at "nm"))) rfl
  · have hm : n.toNat ≠ 0 := fun e => h0 (.inl e)
    have hne : ds ≠ [] := fun e => h0 (.inr e)
    have hdl : 0 < ds.length := List.length_pos_iff.mpr hne
    obtain ⟨N, hN⟩ : ∃ N, N = min n.toNat ds.length := ⟨_, rfl⟩
    have hNd : N ≤ ds.length := hN ▸ Nat.min_le_right _ _
    have hN0 : 0 < N := hN ▸ Nat.lt_min.mpr ⟨Nat.pos_of_ne_zero hm, hdl⟩
    have hN6 : N < 60 := Nat.lt_of_le_of_lt hNd hz
    have hN9 : N < 1000 := Nat.lt_trans hN6 (by decide)
    have htk : ds.take n.toNat = ds.take N := by
      rw [hN]
      rcases Nat.le_total n.toNat ds.length with h | h
      · rw [Nat.min_eq_left h]
      · rw [Nat.min_eq_right h, List.take_of_length_le h, List.take_length]
    have htl : (ds.take N).length = N := by rw [List.length_take]; exact Nat.min_eq_left hNd
    have h2t : ∀ d ∈ ds.take N, d.length = 2 := fun d hd => by obtain ⟨x, y, rfl⟩ := h2 d (List.mem_of_mem_take hd); rfl
    obtain ⟨res0, hr0⟩ : ∃ res0, res0 = numd (fun j => 1 * (j : Int)) (ds.take N) := ⟨_, rfl⟩
    have hl0 : res0.length = N := by rw [hr0, numd_len, htl]
    have nd0 : Nd res0 := by rw [hr0]; exact numd_nd h2t
    have F0 : Fw llt llt fst2 (heapify gtl res0) (ds.take N) := Fw.start llt_tot (ag_u app_llt nd0) (by rw [hr0, numd_fst h2t])
    have nd1 : Nd (heapify gtl res0) := fun e he => nd0 e (heapify_perm.mem_iff.mp he)
    have hl1 : (heapify gtl res0).length = N := by rw [heapify_perm.length_eq]; exact hl0
    have hout : numd (fun j => 1 * (j : Int)) (ds.take n.toNat) = res0 := by rw [hr0, htk]
    have htop : ∃ d z, d.length = 2 ∧ (heapify gtl res0).getD 0 [] = d ++ [z] ∧ (heapify gtl res0)[0]? = some (d ++ [z]) := by
      obtain ⟨e, he⟩ : ∃ e, (heapify gtl res0)[0]? = some e := ⟨_, List.getElem?_eq_getElem (hl1 ▸ hN0)⟩
      obtain ⟨d, z, hd, rfl⟩ := nd1 e (List.mem_of_getElem? he)
      exact ⟨d, z, hd, by simp [List.getD, he], he⟩
    obtain ⟨d0, z0, hd0, hg0, he0⟩ := htop
    have fin : ∀ (res : List D) (od : Int) (v6 v10 : AV), Fw llt llt fst2 res ds → Nd res → res.length = N →
        EsR ⟨X1, f13, q + 3⟩ ⟨[.int n, a1, .val (.ref I), .unb, .lst 1, v5, v6, .el .p (fst2 (res.getD 0 [])), .int od, .fn 7, v10, .unb, .unb], [(.p, ds), (.pi, res)], [.cell .none]⟩ ((prt (bd X1.P 13)[2]?).2.drop 8) (.lst 2) [(.p, ds), (.pi, sortD res), (.p, (sortD ds).take n.toNat)] := by
      intro res od v6 v10 F nd hl
      have hsl : (sortD res).length = N := by rw [sortD_len]; exact hl
      have nds : Nd (sortD res) := fun e he => nd e ((sortD_perm res).mem_iff.mp he)
      have ho := F.done llt_tot (sortD_srt res) (sortD_perm res) (sortD_srt ds) (sortD_perm ds)
      rw [hl] at ho
      have ho' : (sortD ds).take n.toNat = (sortD res).map fst2 := by
        rw [ho, hN]
        rcases Nat.le_total n.toNat ds.length with h | h
        · rw [Nat.min_eq_left h]
        · rw [Nat.min_eq_right h, List.take_of_length_le (by rw [sortD_len]; exact h), List.take_of_length_le (by rw [sortD_len]; exact Nat.le_refl _)]
      rw [ho']
      refine er_cons (ex_expr (ev_meth0 (by walk_at "nm") rfl slot_list_sort PySem.F.type_list_sort (m_sort rfl (by intro e; cases e) (by rw [hl]; exact Nat.lt_trans hN6 (by decide))))) ?_
      apply er_of
      · apply es_ret
        apply ex_ret
        exact ev_is (ev_comp (fi' := f13u) (ite_lst (by walk_at "nm") rfl) rfl ⟨by decide +kernel, by decide +kernel, by decide +kernel, by decide +kernel, by decide +kernel, rfl, by decide +kernel, by decide +kernel, rfl, rfl⟩ rfl (cloB rfl rfl rfl) (fin_u nds (hsl ▸ hN6) rfl rfl (sortD res) 0 [] .unb .unb rfl rfl).choose_spec) rfl
      · rfl
    have hd : fst2 ((heapify gtl res0).getD 0 []) = d0 := by rw [hg0, fst2_app hd0]
    have pre : ∀ (fn : AO) (LS : List LC), fn = (if ds.length < n.toNat then .lx else .li 0 n.toNat) →
        EsH ⟨X1, f13, q + 3⟩ ⟨[.int n, a1, .val (.ref I), .unb, .lst 1, v5, .unb, .el .p (fst2 ((heapify gtl res0).getD 0 [])), .int n, .fn 7, .unb, .unb, .unb], [(.p, ds), (.pi, heapify gtl res0)], [.cell .none]⟩ I fn ((prt (bd X1.P 13)[2]?).2.drop 7) (.lst 2) LS →
        EsH ⟨X1, f13, q + 3⟩ ⟨[.int n, a1, .val (.ref I), .unb, .unb, v5, .unb, .unb, .unb, .unb, .unb, .unb, .unb], [(.p, ds)], [.cell .none]⟩ I (.li 0 0) ((prt (bd X1.P 13)[2]?).2.drop 1) (.lst 2) LS := by
      intro fn LS hfn hk
      rw [hd] at hk
      refine eh_zip (fi' := f13z) (nn := 4) (kd := .pi) (out := res0) (n := n.toNat) (fin := fn) (g_zip (by walk_at "mm")) (hide_range1 (g_range (by walk_at "mm")) (el_cons (by walk_at "nm") el_nil)) (by walk_at "nm") ⟨by decide +kernel, by decide +kernel, by decide +kernel, by decide +kernel, by decide +kernel, rfl, by decide +kernel, by decide +kernel, rfl, rfl⟩ rfl rfl (cloB rfl rfl rfl) (small_n hn) size_n (zip_u0 rfl hz rfl hout.symm hfn rfl rfl) rfl (sw_ok (n := 4) rfl rfl rfl) ?_
      refine eh_ifF (tt_not (tt_plain (by walk_at "nm") (b_lst rfl (hl0 ▸ hN9)))) (by simp; lia) ?_
      refine eh_cons (ex_expr (ev_cf 8 [1] (by walk_at "mm") (by decide) (el_cons (by walk_at "nm") el_nil) (hF := fn_heapify_max (k := .pi) (q := q) (hl0 ▸ hN9)))) ?_
      refine eh_cons (ex_asg (ev_fstPI (ev_item (by walk_at "nm") ev_int (n := 0) rfl rfl he0 (hl1 ▸ hN9))) (n := 7) rfl) ?_
      refine eh_cons (ex_asg (by walk_at "nm") (n := 8) rfl) ?_
      refine eh_cons (ex_asg (g_fn 7 (by walk_at "mm") (by decide)) (n := 9) rfl) ?_
      exact hk
    by_cases hc : ds.length < n.toNat
    · have hN' : N = ds.length := hN.trans (Nat.min_eq_right (Nat.le_of_lt hc))
      rw [hN', List.take_length] at F0
      refine eh_two (x1 := (.pi, sortD (heapify gtl res0))) ?_ (Nat.le_refl _)
      refine pre .lx _ (by rw [if_pos hc]) ?_
      refine eh_forX (by walk_at "nm") rfl ?_
      exact fin (heapify gtl res0) n .unb .unb F0 nd1 hl1
    · have hN' : N = n.toNat := hN.trans (Nat.min_eq_left (Nat.le_of_not_lt hc))
      obtain ⟨res', od', v6', v10', a1', a2', a3', a4'⟩ := lp_u (ds := ds) (q := q) (a1 := a1) (v5 := v5) (I := I) (n := n) (v3 := .unb) (v11 := .unb) (v12 := .unb) rfl h2 (ds.drop N) N (heapify gtl res0) (ds.take N) n .unb .unb rfl F0 nd1 (hl1 ▸ hN0) (hl1 ▸ hN6)
      rw [List.take_append_drop] at a1'
      refine eh_two (x1 := (.pi, sortD res')) ?_ (Nat.le_refl _)
      refine pre (.li 0 N) _ (by rw [if_neg hc, hN']) ?_
      refine eh_for (by walk_at "nm") a4' ?_
      exact fin res' od' v6' v10' a1' a2' (a3'.trans hl1)
end
end
section
noncomputable def KJ (s : Int) (res : List D) (M : Int) (r : List D) : Prop := ∀ e ∈ res, ∃ o v p, e = ke s o [v, p] ∧ o < M ∧ ∀ y ∈ r, p < y.getD 1 0
theorem KJ.ki {s M : Int} {res r : List D} {x : D} (h : KJ s res M (x :: r)) : KI s res M (x.getD 1 0) := fun e he => by
  obtain ⟨o, v, p, h1, h2, h3⟩ := h e he
  exact ⟨o, v, p, h1, h2, h3 x (.head _)⟩
theorem KJ.tail {s M : Int} {res r : List D} {x : D} (h : KJ s res M (x :: r)) : KJ s res M r := fun e he => by
  obtain ⟨o, v, p, h1, h2, h3⟩ := h e he
  exact ⟨o, v, p, h1, h2, fun y hy => h3 y (.tail _ hy)⟩
theorem KJ.repl {s M : Int} {res r : List D} {x : D} {lt : D → D → Bool} (h : KJ s res M (x :: r)) (h0 : 0 < res.length) (hx : ∃ v p, x = [v, p]) (hI : ∀ y ∈ r, x.getD 1 0 < y.getD 1 0) : KJ s (hrepl lt res (ke s M x)) (M + 1) r := fun e he => by
  rcases List.mem_cons.mp ((hrepl_perm (lt := lt) (d := ke s M x) h0).mem_iff.mp (.tail _ he)) with rfl | h1
  · obtain ⟨v, p, rfl⟩ := hx
    exact ⟨M, v, p, rfl, by lia, hI⟩
  · obtain ⟨o, v, p, h1, h2, h3⟩ := h e h1
    exact ⟨o, v, p, h1, by lia, fun y hy => h3 y (.tail _ hy)⟩
noncomputable def KF (s : Int) (res : List D) : Prop := ∀ e ∈ res, ∃ o v p, e = ke s o [v, p]
theorem KJ.kf {s M : Int} {res r : List D} (h : KJ s res M r) : KF s res := fun e he => let ⟨o, v, p, h1, _⟩ := h e he; ⟨o, v, p, h1⟩
section
variable {ds : List D} {q k0 : Nat} {a1 v5 : AV} {I : Addr} {ps : Arguments} {lb : PySem.Expr} {sc : Scope} {f : D → Int}
theorem zip_k {s : Int} {l : List LC} {xi xe xk : Str} {pi pe tp p1 p2 p3 p4 p5 ep : Pos} {k1 k2 : Nat} (hl : l[0]? = some (.p, ds)) (hz : ds.length < 60) (hO : ∀ d ∈ ds, LamOk X1 k0 ps lb sc d (f d)) (hf : ∀ d, f d = s * d.getD 0 0) (hq : k0 + 1 ≤ q) (hxi : xi = Str.ofString "i") (hxe : xe = Str.ofString "elem") (hxk : xk = Str.ofString "key") : ∀ (m j : Nat) (v0 v1 : AV), j ≤ ds.length → ∃ v', Clz ⟨X1, f13y, q⟩ ⟨[v0, v1], l, [.cell (.lam ps lb sc)]⟩ (.Tuple [.Name xi pi, .Name xe pe] k1 tp) (.Tuple [.Call (.Name xk p1) [.Name xe p2] [] p3, .Name xi p4, .Name xe p5] k2 ep) (s * j) m s 0 j .kip (numK s (ds.take j)) (numK s (ds.take (j + m))) ⟨v', l, [.cell (.lam ps lb sc)]⟩ (if ds.length < j + m then .lx else .li 0 (j + m)) := by
  subst hxi hxe hxk
  intro m
  induction m with
  | zero =>
    intro j v0 v1 hj
    refine ⟨[v0, v1], ?_⟩
    rw [if_neg (by lia)]
    exact clz_stop (by decide) rfl
  | succ m ih =>
    intro j v0 v1 hj
    by_cases he : j = ds.length
    · refine ⟨[v0, v1], ?_⟩
      rw [if_pos (by lia), List.take_of_length_le (by lia : ds.length ≤ j), List.take_of_length_le (by lia : ds.length ≤ j + (m + 1))]
      exact clz_dead (by lia) hl (List.getElem?_eq_none (by lia)) rfl
    · have hlt : j < ds.length := by lia
      obtain ⟨v', ih⟩ := ih (j + 1) (.int (s * j)) (.el .p ds[j]) (by lia)
      have hke : (f ds[j]) :: (s * (j : Int)) :: ds[j] = ke s j ds[j] := by rw [hf]; rfl
      refine ⟨v', clz_step (d := ds[j]) (d' := ke s j ds[j]) rfl (by lia) hl (List.getElem?_eq_getElem hlt) rfl (as_name (n := 0) rfl) (as_name (n := 1) rfl) (ev_is (ev_tupK (el_cons (ev_callLam (ev_cell (by walk_at "mm") rfl rfl) (el_cons (by walk_at "nm") el_nil) (hO _ (List.getElem_mem hlt)) hq rfl) (el_cons (by walk_at "nm") (el_cons (by walk_at "nm") el_nil)))) (congrArg (AV.el .kip) hke)) (by rw [numK_len, List.length_take]; lia) ?_⟩
      rw [numK_snoc (List.getElem?_eq_getElem hlt)] at ih
      rw [show j + (m + 1) = j + 1 + m by lia]
      have e1 : s * j + s = s * ((j + 1 : Nat) : Int) := by rw [Int.natCast_add, Int.mul_add]; simp
      have e2 : ((m + 1 : Nat) : Int) - 1 = (m : Int) := by lia
      rw [e1, e2]
      exact ih
theorem zip_k0 {s x0 : Int} {m : Nat} {fin : AO} {out : List D} {l : List LC} {xi xe xk : Str} {pi pe tp p1 p2 p3 p4 p5 ep : Pos} {k1 k2 : Nat} (hl : l[0]? = some (.p, ds)) (hz : ds.length < 60) (hO : ∀ d ∈ ds, LamOk X1 k0 ps lb sc d (f d)) (hf : ∀ d, f d = s * d.getD 0 0) (hq : k0 + 1 ≤ q) (hx0 : x0 = 0) (ho : out = numK s (ds.take m)) (hfn : fin = if ds.length < m then .lx else .li 0 m) (hxi : xi = Str.ofString "i") (hxe : xe = Str.ofString "elem") (hxk : xk = Str.ofString "key") : ∃ v', Clz ⟨X1, f13y, q⟩ ⟨[.unb, .unb], l, [.cell (.lam ps lb sc)]⟩ (.Tuple [.Name xi pi, .Name xe pe] k1 tp) (.Tuple [.Call (.Name xk p1) [.Name xe p2] [] p3, .Name xi p4, .Name xe p5] k2 ep) x0 m s 0 0 .kip [] out ⟨v', l, [.cell (.lam ps lb sc)]⟩ fin := by
  subst hx0 ho hfn
  have z := zip_k (q := q) (s := s) (pi := pi) (pe := pe) (tp := tp) (p1 := p1) (p2 := p2) (p3 := p3) (p4 := p4) (p5 := p5) (ep := ep) (k1 := k1) (k2 := k2) hl hz hO hf hq hxi hxe hxk m 0 .unb .unb (Nat.zero_le _)
  rw [Nat.zero_add] at z
  have e : s * ((0 : Nat) : Int) = 0 := Int.mul_zero s
  rw [e] at z
  exact z
theorem fin_k {s : Int} {x0 : LC} {res : List D} {o : List AO} {xk xo xe : Str} {pk po pe tp p1 : Pos} {k1 : Nat} (nd : KF s res) (hz : res.length < 60) (hxk : xk = Str.ofString "k") (hxo : xo = Str.ofString "order") (hxe : xe = Str.ofString "elem") : ∀ (r : List D) (j : Nat) (out : List D) (v0 v1 v2 : AV), res.drop j = r → out.length = j → ∃ v', Cl ⟨X1, f13w, q⟩ ⟨[v0, v1, v2], [x0, (.kip, res)], o⟩ (.Tuple [.Name xk pk, .Name xo po, .Name xe pe] k1 tp) (.Name xe p1) [] (.li 1 j) .p out (out ++ r.map (List.drop 2)) ⟨v', [x0, (.kip, res)], o⟩ := by
  subst hxk hxo hxe
  intro r
  induction r with
  | nil => exact fun j out v0 v1 v2 hj ho => ⟨_, by rw [List.map_nil, List.append_nil]; exact cl_end (.liE rfl (drop_end hj)) rfl⟩
  | cons e r ih =>
    intro j out v0 v1 v2 hj ho
    obtain ⟨h1, h2⟩ := drop_at hj
    have hjl := (List.getElem?_eq_some_iff.mp h1).1
    obtain ⟨ko, v, p, rfl⟩ := nd e (List.mem_of_getElem? h1)
    obtain ⟨v', ih⟩ := ih (j + 1) (out ++ [[v, p]]) (.int (s * v)) (.int (s * ko)) (.el .p [v, p]) h2 (by simp [ho])
    refine ⟨v', cl_step (d := [v, p]) (.li rfl h1) (ow_li (by intro e; cases e)) (as_kip rfl (as_name (n := 0) rfl) (as_name (n := 1) rfl) (as_name (n := 2) rfl)) (by walk_at "nm") (by lia) ?_⟩
    rw [List.map_cons, show out ++ (ke s ko [v, p]).drop 2 :: r.map (List.drop 2) = out ++ [[v, p]] ++ r.map (List.drop 2) by simp [ke]]
    exact ih
theorem root_lt {v p w r : Int} (h : r < p) : llt [v, p] [w, r] = decide (v < w) := (lt_place h).2
theorem lp_k {n : Int} {v3 : AV} {s1 s2 s3 a b c d e f1 g : Stmt} {tgt it : PySem.Expr} {body tl : List Stmt} {fp : Pos} (hb : bd X1.P 13 = s1 :: s2 :: s3 :: a :: b :: c :: d :: e :: f1 :: g :: .For tgt it body [] fp :: tl) (h2 : P2 ds) (hI : Inc ds) (hO : ∀ d ∈ ds, LamOk X1 k0 ps lb sc d (f d)) (hf : ∀ d, f d = 1 * d.getD 0 0) (hq : k0 + 1 ≤ q + 3) : ∀ (r : List D) (j : Nat) (res seen : List D) (M : Int) (v6 v10 v11 v12 : AV), ds.drop j = r → Fw llt llt (List.drop 2) res seen → KJ 1 res M r → 0 < res.length → res.length < 60 →
    ∃ res' M' v6' v10' v11' v12', Fw llt llt (List.drop 2) res' (seen ++ r) ∧ KF 1 res' ∧ res'.length = res.length ∧ Fl ⟨X1, f13, q + 3⟩ ⟨[.int n, a1, .val (.ref I), v3, .lst 1, v5, v6, .int ((res.getD 0 []).getD 0 0), .int (1 * M), .fn 7, v10, v11, v12], [(.p, ds), (.kip, res)], [.cell (.lam ps lb sc)]⟩ tgt (.li 0 j) body (.ok .next ⟨[.int n, a1, .val (.ref I), v3, .lst 1, v5, v6', .int ((res'.getD 0 []).getD 0 0), .int (1 * M'), .fn 7, v10', v11', v12'], [(.p, ds), (.kip, res')], [.cell (.lam ps lb sc)]⟩) := by
  have e := pr_eq (congrArg (fun b => prt b[10]?) hb)
  clear hb
  obtain ⟨rfl, rfl⟩ := e
  intro r
  induction r with
  | nil => exact fun j res seen M v6 v10 v11 v12 hj F K h0 hl => ⟨res, M, v6, v10, v11, v12, by rw [List.append_nil]; exact F, K.kf, rfl, fl_end (.liE rfl (drop_end hj))⟩
  | cons x r ih =>
    intro j res seen M v6 v10 v11 v12 hj F K h0 hl
    obtain ⟨h1, h2'⟩ := drop_at hj
    have hxm := List.mem_of_getElem? h1
    have hxp := h2 x hxm
    have hIr : ∀ y ∈ r, x.getD 1 0 < y.getD 1 0 := by
      have : Inc (ds.drop j) := hI.sublist (List.drop_sublist _ _)
      rw [hj] at this
      exact (List.pairwise_cons.mp this).1
    obtain ⟨e0, he0⟩ : ∃ e0, res[0]? = some e0 := ⟨_, List.getElem?_eq_getElem h0⟩
    have hg0 : res.getD 0 [] = e0 := by simp [List.getD, he0]
    have hlt : llt x ((res.getD 0 []).drop 2) = decide (f x < (res.getD 0 []).getD 0 0) := by
      obtain ⟨o, v, p, hk1, hk2, hk3⟩ := K e0 (List.mem_of_getElem? he0)
      obtain ⟨w, r', rfl⟩ := hxp
      have hp : p < r' := hk3 _ (.head _)
      rw [hg0, hk1, hf]
      show llt [w, r'] [v, p] = decide (1 * w < 1 * v)
      rw [root_lt hp]; simp
    by_cases hc : f x < (res.getD 0 []).getD 0 0
    · have F1 := F.swap (e₁ := ke 1 M x) llt_tot llt_tot h0 (by show llt x _ = true; rw [hlt]; simpa using hc) (fun e he => by
        obtain ⟨w, r', rfl⟩ := hxp
        exact KI.ag (.inl ⟨rfl, rfl⟩) K.ki (Int.le_refl _) e he)
      have F1 : Fw llt llt (List.drop 2) (hrepl gtl res (ke 1 M x)) (seen ++ [x]) := F1
      have K1 : KJ 1 (hrepl gtl res (ke 1 M x)) (M + 1) r := K.repl h0 hxp hIr
      have hl1 : (hrepl gtl res (ke 1 M x)).length = res.length := hrepl_len
      have hke : (f x) :: (1 * M) :: x = ke 1 M x := by rw [hf]; rfl
      obtain ⟨e1, he1⟩ : ∃ e1, (hrepl gtl res (ke 1 M x))[0]? = some e1 := ⟨_, List.getElem?_eq_getElem (by lia)⟩
      have hg1 : (hrepl gtl res (ke 1 M x)).getD 0 [] = e1 := by simp [List.getD, he1]
      obtain ⟨o, v, p, hed⟩ := K1.kf e1 (List.mem_of_getElem? he1)
      obtain ⟨res', M', v6', v10', v11', v12', b1, b2, b3, b4⟩ := ih (j + 1) (hrepl gtl res (ke 1 M x)) (seen ++ [x]) (M + 1) (.el .p x) (.int (1 * o)) (.int (f x)) (.el .p [v, p]) h2' F1 K1 (by lia) (by lia)
      rw [List.append_assoc] at b1
      have hM : 1 * M + 1 = 1 * (M + 1) := by lia
      rw [hg1, hed, ← hM] at b4
      refine ⟨res', M', v6', v10', v11', v12', b1, b2, b3.trans hl1, fl_step (.li rfl h1) (as_name (n := 6) rfl) (es_cons (ex_asg (ev_callLam (ev_cell (by walk_at "mm") rfl rfl) (el_cons (by walk_at "nm") el_nil) (hO x hxm) hq rfl) (n := 11) rfl) (es_cons (ex_ifT (tt_cmp (by walk_at "nm") (by walk_at "nm") o_lt) (by simpa using hc) ?_) es_nil)) b4⟩
      refine es_cons (ex_expr (ev_call [1] (by walk_at "nm") (show 7 ∈ X1.js by decide) (el_cons (by walk_at "nm") (el_cons (ev_is (ev_tupK (el_cons (by walk_at "nm") (el_cons (by walk_at "nm") (el_cons (by walk_at "nm") el_nil)))) (congrArg (AV.el .kip) hke)) el_nil)) (fn_heapreplace_max (k := .kip) (q := q) he0 (by lia)))) ?_
      refine es_cons (ex_asgT (ev_is (ev_item (by walk_at "nm") ev_int (n := 0) rfl rfl he1 (by lia)) (congrArg (AV.el .kip) hed)) (as_kip (a := 1 * v) (b := 1 * o) (d := [v, p]) rfl (as_name (n := 7) rfl) (as_name (n := 10) rfl) (as_name (n := 12) rfl))) ?_
      exact es_cons (ex_aug (n := 8) rfl rfl rfl ev_int o_iadd) es_nil
    · obtain ⟨res', M', v6', v10', v11', v12', b1, b2, b3, b4⟩ := ih (j + 1) res (seen ++ [x]) M (.el .p x) v10 (.int (f x)) v12 h2' (F.keep llt_tot llt_tot h0 (by rw [hlt]; simpa using hc)) K.tail h0 hl
      rw [List.append_assoc] at b1
      exact ⟨res', M', v6', v10', v11', v12', b1, b2, b3, fl_step (.li rfl h1) (as_name (n := 6) rfl) (es_cons (ex_asg (ev_callLam (ev_cell (by walk_at "mm") rfl rfl) (el_cons (by walk_at "nm") el_nil) (hO x hxm) hq rfl) (n := 11) rfl) (es_cons (ex_ifF (tt_cmp (by walk_at "nm") (by walk_at "nm") o_lt) (by simpa using hc) es_nil) es_nil)) b4⟩
theorem ns_lam {n : Int} {s1 s2 s3 a : Stmt} {ss : List Stmt} (hb : bd X1.P 13 = s1 :: s2 :: s3 :: a :: ss) (h2 : P2 ds) (hI : Inc ds) (hz : ds.length < 60) (hn : -1000 < n ∧ n < 1000) (hO : ∀ d ∈ ds, LamOk X1 k0 ps lb sc d (f d)) (hf : ∀ d, f d = 1 * d.getD 0 0) (hq : k0 + 1 ≤ q + 3) :
    EsH ⟨X1, f13, q + 3⟩ ⟨[.int n, a1, .val (.ref I), .unb, .unb, v5, .unb, .unb, .unb, .unb, .unb, .unb, .unb], [(.p, ds)], [.cell (.lam ps lb sc)]⟩ I (.li 0 0) ss (.lst 1) [(.p, ds), (.p, (sortD ds).take n.toNat)] := by
  have e : (bd X1.P 13).drop 4 = ss := congrArg (fun b => b.drop 4) hb
  clear hb
  subst e
  by_cases h0 : n.toNat = 0 ∨ ds = []
  · have e : (sortD ds).take n.toNat = [] := by
      rcases h0 with h0 | h0
      · rw [h0]; rfl
      · subst h0; exact List.take_nil
    rw [e]
    refine eh_zip (fi' := f13y) (nn := 4) (kd := .p) (out := []) (n := n.toNat) (fin := if ds.length < n.toNat then .lx else .li 0 0) (g_zip (by walk_at "mm")) (hide_range1 (g_range (by walk_at "mm")) (el_cons (by walk_at "nm") el_nil)) (by walk_at "nm") ⟨by decide +kernel, by decide +kernel, by decide +kernel, by decide +kernel, by decide +kernel, rfl, by decide +kernel, by decide +kernel, rfl, rfl⟩ rfl rfl (cloB rfl rfl rfl) (small_n hn) size_n ⟨[.unb, .unb], ?_⟩ rfl (sw_ok (n := 4) rfl rfl rfl) ?_
    · by_cases hm : n.toNat = 0
      · rw [hm, if_neg (by lia)]
        exact clz_stop (by decide) rfl
      · obtain h0 | h0 := h0
        · exact absurd h0 hm
        · subst h0
          rw [if_pos (by simp; lia)]
          exact clz_dead (by lia) rfl rfl rfl
    · refine eh_ifT (tt_not (tt_plain (by walk_at "nm") (b_lst rfl (by decide)))) rfl (eh_drop ?_)
      exact er_of (es_ret (ex_ret (by walk_at "nm"))) rfl
  · have hm : n.toNat ≠ 0 := fun e => h0 (.inl e)
    have hne : ds ≠ [] := fun e => h0 (.inr e)
    have hdl : 0 < ds.length := List.length_pos_iff.mpr hne
    obtain ⟨N, hN⟩ : ∃ N, N = min n.toNat ds.length := ⟨_, rfl⟩
    have hNd : N ≤ ds.length := hN ▸ Nat.min_le_right _ _
    have hN0 : 0 < N := hN ▸ Nat.lt_min.mpr ⟨Nat.pos_of_ne_zero hm, hdl⟩
    have hN6 : N < 60 := Nat.lt_of_le_of_lt hNd hz
    have hN9 : N < 1000 := Nat.lt_trans hN6 (by decide)
    have htk : ds.take n.toNat = ds.take N := by
      rw [hN]
      rcases Nat.le_total n.toNat ds.length with h | h
      · rw [Nat.min_eq_left h]
      · rw [Nat.min_eq_right h, List.take_of_length_le h, List.take_length]
    have htl : (ds.take N).length = N := by rw [List.length_take]; exact Nat.min_eq_left hNd
    have h2t : P2 (ds.take N) := fun d hd => h2 d (List.mem_of_mem_take hd)
    have hIt : Inc (ds.take N) := hI.sublist (List.take_sublist _ _)
    obtain ⟨res0, hr0⟩ : ∃ res0, res0 = numK 1 (ds.take N) := ⟨_, rfl⟩
    have hl0 : res0.length = N := by rw [hr0, numK_len, htl]
    have F0 : Fw llt llt (List.drop 2) (heapify gtl res0) (ds.take N) := Fw.start llt_tot (by rw [hr0]; exact numK_ag (.inl ⟨rfl, rfl⟩) llt_tot hIt h2t) (by rw [hr0, numK_prj])
    have hl1 : (heapify gtl res0).length = N := by rw [heapify_perm.length_eq]; exact hl0
    have K0 : KJ 1 (heapify gtl res0) N (ds.drop N) := fun e he => by
      have he := heapify_perm.mem_iff.mp he
      rw [hr0] at he
      obtain ⟨j, d, hj, rfl⟩ := numK_get he
      have hjl := (List.getElem?_eq_some_iff.mp hj).1
      have hdm := List.mem_of_getElem? hj
      obtain ⟨v, p, rfl⟩ := h2t d hdm
      refine ⟨j, v, p, rfl, by lia, fun y hy => ?_⟩
      have hII : Inc (ds.take N ++ ds.drop N) := by rw [List.take_append_drop]; exact hI
      exact (List.pairwise_append.mp hII).2.2 _ hdm y hy
    have hout : numK 1 (ds.take n.toNat) = res0 := by rw [hr0, htk]
    obtain ⟨e0, he0⟩ : ∃ e, (heapify gtl res0)[0]? = some e := ⟨_, List.getElem?_eq_getElem (hl1 ▸ hN0)⟩
    have hg0 : (heapify gtl res0).getD 0 [] = e0 := by simp [List.getD, he0]
    obtain ⟨ko, kv, kp, hek⟩ := K0.kf e0 (List.mem_of_getElem? he0)
    have fin : ∀ (res : List D) (od top : Int) (v6 v10 v11 v12 : AV), Fw llt llt (List.drop 2) res ds → KF 1 res → res.length = N →
        EsR ⟨X1, f13, q + 3⟩ ⟨[.int n, a1, .val (.ref I), .unb, .lst 1, v5, v6, .int top, .int od, .fn 7, v10, v11, v12], [(.p, ds), (.kip, res)], [.cell (.lam ps lb sc)]⟩ ((bd X1.P 13).drop 11) (.lst 2) [(.p, ds), (.kip, sortD res), (.p, (sortD ds).take n.toNat)] := by
      intro res od top v6 v10 v11 v12 F nd hl
      have hsl : (sortD res).length = N := by rw [sortD_len]; exact hl
      have nds : KF 1 (sortD res) := fun e he => nd e ((sortD_perm res).mem_iff.mp he)
      have ho := F.done llt_tot (sortD_srt res) (sortD_perm res) (sortD_srt ds) (sortD_perm ds)
      rw [hl] at ho
      have ho' : (sortD ds).take n.toNat = (sortD res).map (List.drop 2) := by
        rw [ho, hN]
        rcases Nat.le_total n.toNat ds.length with h | h
        · rw [Nat.min_eq_left h]
        · rw [Nat.min_eq_right h, List.take_of_length_le (by rw [sortD_len]; exact h), List.take_of_length_le (by rw [sortD_len]; exact Nat.le_refl _)]
      rw [ho']
      refine er_cons (ex_expr (ev_meth0 (by walk_at "nm") rfl slot_list_sort PySem.F.type_list_sort (m_sort rfl (by intro e; cases e) (by rw [hl]; exact Nat.lt_trans hN6 (by decide))))) ?_
      apply er_of
      · apply es_ret
        apply ex_ret
        exact ev_is (ev_comp (fi' := f13w) (ite_lst (by walk_at "nm") rfl) rfl ⟨by decide +kernel, by decide +kernel, by decide +kernel, by decide +kernel, by decide +kernel, rfl, by decide +kernel, by decide +kernel, rfl, rfl⟩ rfl (cloB rfl rfl rfl) (fin_k nds (hsl ▸ hN6) rfl rfl rfl (sortD res) 0 [] .unb .unb .unb rfl rfl).choose_spec) rfl
      · rfl
    have pre : ∀ (fn : AO) (LS : List LC), fn = (if ds.length < n.toNat then .lx else .li 0 n.toNat) →
        EsH ⟨X1, f13, q + 3⟩ ⟨[.int n, a1, .val (.ref I), .unb, .lst 1, v5, .unb, .int ((heapify gtl res0).getD 0 [] |>.getD 0 0), .int n, .fn 7, .unb, .unb, .unb], [(.p, ds), (.kip, heapify gtl res0)], [.cell (.lam ps lb sc)]⟩ I fn ((bd X1.P 13).drop 10) (.lst 2) LS →
        EsH ⟨X1, f13, q + 3⟩ ⟨[.int n, a1, .val (.ref I), .unb, .unb, v5, .unb, .unb, .unb, .unb, .unb, .unb, .unb], [(.p, ds)], [.cell (.lam ps lb sc)]⟩ I (.li 0 0) ((bd X1.P 13).drop 4) (.lst 2) LS := by
      intro fn LS hfn hk
      rw [hg0, hek] at hk
      refine eh_zip (fi' := f13y) (nn := 4) (kd := .kip) (out := res0) (n := n.toNat) (fin := fn) (g_zip (by walk_at "mm")) (hide_range1 (g_range (by walk_at "mm")) (el_cons (by walk_at "nm") el_nil)) (by walk_at "nm") ⟨by decide +kernel, by decide +kernel, by decide +kernel, by decide +kernel, by decide +kernel, rfl, by decide +kernel, by decide +kernel, rfl, rfl⟩ rfl rfl (cloB rfl rfl rfl) (small_n hn) size_n (zip_k0 rfl hz hO hf hq rfl hout.symm hfn rfl rfl rfl) rfl (sw_ok (n := 4) rfl rfl rfl) ?_
      refine eh_ifF (tt_not (tt_plain (by walk_at "nm") (b_lst rfl (hl0 ▸ hN9)))) (by simp; lia) ?_
      refine eh_cons (ex_expr (ev_cf 8 [1] (by walk_at "mm") (by decide) (el_cons (by walk_at "nm") el_nil) (hF := fn_heapify_max (k := .kip) (q := q) (hl0 ▸ hN9)))) ?_
      refine eh_cons (ex_asg (ev_fstK (ev_is (ev_item (by walk_at "nm") ev_int (n := 0) rfl rfl he0 (hl1 ▸ hN9)) (congrArg (AV.el .kip) hek))) (n := 7) rfl) ?_
      refine eh_cons (ex_asg (by walk_at "nm") (n := 8) rfl) ?_
      refine eh_cons (ex_asg (g_fn 7 (by walk_at "mm") (by decide)) (n := 9) rfl) ?_
      exact hk
    by_cases hc : ds.length < n.toNat
    · have hN' : N = ds.length := hN.trans (Nat.min_eq_right (Nat.le_of_lt hc))
      rw [hN', List.take_length] at F0
      refine eh_two (x1 := (.kip, sortD (heapify gtl res0))) ?_ (Nat.le_refl _)
      refine pre .lx _ (by rw [if_pos hc]) ?_
      refine eh_forX (by walk_at "nm") rfl ?_
      exact fin (heapify gtl res0) n _ .unb .unb .unb .unb F0 K0.kf hl1
    · have hN' : N = n.toNat := hN.trans (Nat.min_eq_left (Nat.le_of_not_lt hc))
      obtain ⟨res', M', v6', v10', v11', v12', a1', a2', a3', a4'⟩ := lp_k (ds := ds) (q := q) (a1 := a1) (v5 := v5) (I := I) (n := n) (v3 := .unb) rfl h2 hI hO hf hq (ds.drop N) N (heapify gtl res0) (ds.take N) N .unb .unb .unb .unb rfl F0 K0 (hl1 ▸ hN0) (hl1 ▸ hN6)
      rw [List.take_append_drop] at a1'
      rw [show 1 * (N : Int) = n by lia] at a4'
      refine eh_two (x1 := (.kip, sortD res')) ?_ (Nat.le_refl _)
      refine pre (.li 0 N) _ (by rw [if_neg hc, hN']) ?_
      refine eh_for (by walk_at "nm") a4' ?_
      exact fin res' _ _ v6' v10' v11' v12' a1' a2' (a3'.trans hl1)
end
end
section
inductive NsKey (q : Nat) (ds : List D) : AV → Prop
  | none : NsKey q ds .none
  | lam {k0 : Nat} {ps : Arguments} {lb : PySem.Expr} {sc : Scope} {f : D → Int} : k0 + 3 ≤ q → (∀ d ∈ ds, LamOk X1 k0 ps lb sc d (f d)) → (∀ d, f d = 1 * d.getD 0 0) → Inc ds → NsKey q ds (.lam ps lb sc)
section
variable {ds : List D} {q : Nat} {kv : AV} {I : Addr} {n : Int}
theorem b1_take {bst : D → List D → D} (h : ∀ d ds', ds = d :: ds' → bst d ds' = best llt d ds') : b1 bst ds = (sortD ds).take 1 := by
  cases ds with
  | nil => rfl
  | cons d ds' =>
    rw [one_few llt_tot (sortD_srt _) (sortD_perm _)]
    show [bst d ds'] = _
    rw [h d ds' rfl]
theorem NsKey.bd {q : Nat} {ds : List D} {kv : AV} (h : NsKey q ds kv) : kv.bd = true := by cases h <;> rfl
theorem NsKey.min {q : Nat} {ds : List D} {kv : AV} (h2 : P2 ds) (h : NsKey q ds kv) : ∃ bst, MinOp X1 q "min" kv ds bst ∧ b1 bst ds = (sortD ds).take 1 := by
  cases h with
  | none => exact ⟨_, min_none, b1_take fun _ _ _ => rfl⟩
  | lam hq hO hf hI =>
    refine ⟨_, min_lam (by lia) hO, b1_take fun d ds' e => ?_⟩
    subst e
    exact bestK_min_eq h2 hI fun d => by rw [hf]; lia
theorem NsKey.sorted {q : Nat} {ds : List D} {kv : AV} (h2 : P2 ds) (h : NsKey q ds kv) : ∃ out, KeyIs X1 q ds kv out ∧ out false = sortD ds := by
  cases h with
  | none => exact ⟨_, .none, rfl⟩
  | lam hq hO hf hI => exact ⟨_, .lam hq hO, sortKB_false h2 hI fun d => by rw [hf]; lia⟩
theorem ns_list (h2 : P2 ds) (hz : ds.length < 60) (hn : -1000 < n ∧ n < 1000) (hk : NsKey (q + 3) ds kv) : EsR ⟨X1, f13, q + 3⟩ ⟨[.int n, .lst 0, .unb, .unb, .unb, .unb, .unb, .unb, .unb, .unb, .unb, .unb, .unb], [(.p, ds)], [.cell kv]⟩ (bd X1.P 13) (.lst 1) [(.p, ds), (.p, (sortD ds).take n.toNat)] := by
  by_cases h1 : n = 1
  · subst h1
    obtain ⟨bst, hM, hb⟩ := hk.min h2
    rw [show (1 : Int).toNat = 1 from rfl, ← hb]
    refine er_ifT (tt_cmp (by walk_at "nm") ev_int o_eq) rfl ?_
    refine er_iter (i := 0) (n := 2) (g_iter (by walk_at "mm")) (by walk_at "nm") rfl rfl fun I => ?_
    exact ns_one rfl hM hk.bd
  · refine er_ifF (tt_cmp (by walk_at "nm") ev_int o_eq) (by simpa using h1) ?_
    by_cases h3 : n ≥ ds.length
    · obtain ⟨out, hK, ho⟩ := hk.sorted h2
      have hp : pickD (out false) none (some n) none = (sortD ds).take n.toNat := by rw [ho, pick_upto _ (by lia)]
      refine er_two (x1 := (.p, out false)) ?_ (Nat.le_refl _)
      apply er_of
      · apply es_ret
        apply ex_try
        · exact es_cons (ex_asg (ev_callB (g_len (by walk_at "mm")) (el_cons (by walk_at "nm") el_nil) (c_len rfl (by lia))) (n := 5) rfl) es_nil
        · apply es_ret
          apply ex_ifT (tt_cmp (by walk_at "nm") (by walk_at "nm") o_ge) (by simpa using h3)
          apply es_ret
          apply ex_ret
          exact ev_is (ev_slice (ev_callBK (g_sorted (by walk_at "mm")) (el_cons (by walk_at "nm") el_nil) (ek_cons (ev_cell (by walk_at "mm") rfl hk.bd) ek_nil) (c_sortedK hK rfl (by lia) rfl)) rfl .none (.some (by walk_at "nm")) .none (by rw [ho, sortD_len]; lia) hp (by simp)) rfl
      · rfl
    · refine er_cons (ex_try (es_cons (ex_asg (ev_callB (g_len (by walk_at "mm")) (el_cons (by walk_at "nm") el_nil) (c_len rfl (by lia))) (n := 5) rfl) es_nil) (es_cons (ex_ifF (tt_cmp (by walk_at "nm") (by walk_at "nm") o_ge) (by simpa using h3) es_nil) es_nil)) ?_
      cases hk with
      | none =>
        refine er_ifT (tt_cmp (ev_cell (by walk_at "mm") rfl rfl) ev_none o_isN) rfl ?_
        refine er_iter (i := 0) (n := 2) (g_iter (by walk_at "mm")) (by walk_at "nm") rfl rfl fun I => ?_
        exact ns_none rfl h2 hz hn
      | lam hq hO hf hI =>
        refine er_ifF (tt_cmp (ev_cell (by walk_at "mm") rfl rfl) ev_none o_isLam) rfl ?_
        refine er_iter (i := 0) (n := 2) (g_iter (by walk_at "mm")) (by walk_at "nm") rfl rfl fun I => ?_
        exact ns_lam rfl h2 hI hz hn hO hf (by lia)
theorem ns_iter (h2 : P2 ds) (hz : ds.length < 60) (hn : -1000 < n ∧ n < 1000) (hk : NsKey (q + 3) ds kv) : EsH ⟨X1, f13, q + 3⟩ ⟨[.int n, .val (.ref I), .unb, .unb, .unb, .unb, .unb, .unb, .unb, .unb, .unb, .unb, .unb], [(.p, ds)], [.cell kv]⟩ I (.li 0 0) (bd X1.P 13) (.lst 1) [(.p, ds), (.p, (sortD ds).take n.toNat)] := by
  by_cases h1 : n = 1
  · subst h1
    obtain ⟨bst, hM, hb⟩ := hk.min h2
    rw [show (1 : Int).toNat = 1 from rfl, ← hb]
    refine eh_ifT (tt_cmp (by walk_at "nm") ev_int o_eq) rfl ?_
    refine eh_iter (n := 2) (g_iter (by walk_at "mm")) (by walk_at "nm") rfl ?_
    exact ns_one rfl hM hk.bd
  · refine eh_ifF (tt_cmp (by walk_at "nm") ev_int o_eq) (by simpa using h1) ?_
    refine eh_try rfl rfl (g_len (by walk_at "mm")) (by walk_at "nm") (by walk_at "mm") (by walk_at "mm") (show _ ∈ X1.free by decide) (show _ ∈ X1.free by decide) ?_
    cases hk with
    | none =>
      refine eh_ifT (tt_cmp (ev_cell (by walk_at "mm") rfl rfl) ev_none o_isN) rfl ?_
      refine eh_iter (n := 2) (g_iter (by walk_at "mm")) (by walk_at "nm") rfl ?_
      exact ns_none rfl h2 hz hn
    | lam hq hO hf hI =>
      refine eh_ifF (tt_cmp (ev_cell (by walk_at "mm") rfl rfl) ev_none o_isLam) rfl ?_
      refine eh_iter (n := 2) (g_iter (by walk_at "mm")) (by walk_at "nm") rfl ?_
      exact ns_lam rfl h2 hI hz hn hO hf (by lia)
end
end
section
theorem ok13 : FiOkC X1 13 f13 (fun n => [(Str.ofString "key", n)]) [Str.ofString "n", Str.ofString "iterable", Str.ofString "key"] where
  nd := by decide +kernel
  bnd := by decide +kernel
  loc := by decide +kernel
  cel := by decide +kernel
  glo := by decide +kernel
  dbg := by decide +kernel
  kind := rfl
  co := rfl
  gen := rfl
  cells := fun _ => rfl
  cnd := fun _ => by show [Str.ofString "key"].Nodup; decide +kernel
  csn := fun _ => rfl
  cix := rfl
  bk := fun n x hx => by
    cases hx with
    | head => exact .inl rfl
    | tail _ h => cases h with
      | head => exact .inl rfl
      | tail _ h => cases h with
        | head => exact .inr ⟨rfl, rfl⟩
        | tail _ h => cases h
  hd := rfl
section
variable {ds : List D} {q : Nat} {kv : AV} {I : Addr} {n : Int}
theorem def13 {args : List AV} (ha : args.length = 2) : ∀ (c : Kx) h tk, Gd X1.P X1.js X1.ks X1.free c.mg c.mb h → ∀ us ws : List Value, us.length = args.length → ws.length = ([] : List AV).length → ∃ dv, (∃ o pm code doc, h.get? (fa X1.P c.mg 13) = some o ∧ o.data = .func { Calls.docDef (nm X1.P 13) (pr X1.P 13) (bd X1.P 13) (sc X1.P 13) pm code doc with defaults := dv } ∧ h.CodeRec code (nm X1.P 13)) ∧
      ∀ pm code doc, BindsTo (mk c.s h tk) { Calls.docDef (nm X1.P 13) (pr X1.P 13) (bd X1.P 13) (sc X1.P 13) pm code doc with defaults := dv } ⟨us, ([] : List Str).zip ws⟩ ([Str.ofString "n", Str.ofString "iterable", Str.ofString "key"].zip (us ++ ws ++ [.none])) := fun c h tk G us ws hu hw => by
  obtain ⟨_, o, pm, code, doc, dA, dO, dn, h2, h3, h4, h5, h6⟩ := G.fd 13 (by decide)
  refine ⟨.ref dA, ⟨o, pm, code, doc, h2, h3, h4⟩, fun pm code doc => ?_⟩
  rw [ha] at hu
  obtain ⟨a, b, rfl⟩ : ∃ a b, us = [a, b] := us2 (P := fun us => ∃ a b, us = [a, b]) (fun a b => ⟨a, b, rfl⟩) us hu
  have : ws = [] := List.length_eq_zero_iff.mp hw
  subst this
  exact BindsTo.of_defaults rfl h5 h6 rfl rfl
theorem def13k {args : List AV} {kv : AV} (ha : args.length = 2) : ∀ (c : Kx) h tk, Gd X1.P X1.js X1.ks X1.free c.mg c.mb h → ∀ us ws : List Value, us.length = args.length → ws.length = [kv].length → ∃ dv, (∃ o pm code doc, h.get? (fa X1.P c.mg 13) = some o ∧ o.data = .func { Calls.docDef (nm X1.P 13) (pr X1.P 13) (bd X1.P 13) (sc X1.P 13) pm code doc with defaults := dv } ∧ h.CodeRec code (nm X1.P 13)) ∧
      ∀ pm code doc, BindsTo (mk c.s h tk) { Calls.docDef (nm X1.P 13) (pr X1.P 13) (bd X1.P 13) (sc X1.P 13) pm code doc with defaults := dv } ⟨us, [Str.ofString "key"].zip ws⟩ ([Str.ofString "n", Str.ofString "iterable", Str.ofString "key"].zip (us ++ ws ++ [])) := fun c h tk G us ws hu hw => by
  obtain ⟨_, o, pm, code, doc, dA, dO, dn, h2, h3, h4, h5, h6⟩ := G.fd 13 (by decide)
  refine ⟨.ref dA, ⟨o, pm, code, doc, h2, h3, h4⟩, fun pm code doc => ?_⟩
  rw [ha] at hu
  obtain ⟨a, b, rfl⟩ : ∃ a b, us = [a, b] := us2 (P := fun us => ∃ a b, us = [a, b]) (fun a b => ⟨a, b, rfl⟩) us hu
  obtain ⟨w, rfl⟩ : ∃ w, ws = [w] := us1 (P := fun ws => ∃ w, ws = [w]) (fun w => ⟨w, rfl⟩) ws hw
  first
    | exact BindsTo.of_defaults rfl h5 h6 rfl rfl
    | exact BindsTo.of_eq rfl
theorem pv13 : ∀ (j t : Nat) (x : Str), [some 0, some 1, none, none, none, none, none, none, none, none, none, none, none][j]? = some (some t) → f13.tb[j]? = some x → [Str.ofString "n", Str.ofString "iterable", Str.ofString "key"][t]? = some x := fun j t x h1 h2 => by
  match j, h1 with
  | 0, h1 => cases h1; exact h2
  | 1, h1 => cases h1; exact h2
  | 2, h1 | 3, h1 | 4, h1 | 5, h1 | 6, h1 | 7, h1 | 8, h1 | 9, h1 | 10, h1 | 11, h1 | 12, h1 => cases h1
theorem pc13 : ∀ (j t : Nat) (p : Str × Nat), [some 2][j]? = some (some t) → f13.cs[j]? = some p → [Str.ofString "n", Str.ofString "iterable", Str.ofString "key"][t]? = some p.1 := fun j t p h1 h2 => by
  match j, h1 with
  | 0, h1 => cases h1; cases h2; rfl
theorem hidP_in (c c' : Kx) (G : Gh) (cob : Led) (m' : Str → Option Value) (hm : c'.mg = c.mg) (hn : ∀ p ∈ G.ob, p.1 ∉ cob.map (·.1)) : HidP X1 I c G → HidP X1 I c' ⟨m', G.ls, cob ++ G.ob, G.nw, G.la, cob.map (·.1) ++ G.oa⟩ := fun ⟨o, h1, h2, a, h3, h4⟩ =>
  ⟨o, List.mem_append_right _ h1, fun q => by
    rcases List.mem_append.mp q with q | q
    · exact hn _ h1 q
    · exact h2 q, a, h3, h4⟩
theorem fx_ns (h2 : P2 ds) (hz : ds.length < 60) (hn : -1000 < n ∧ n < 1000) : FnX X1 (q + 4) 13 [] [.int n, .lst 0] [] [(.p, ds)] (fun _ _ => True) [] (.lst 1) [(.p, ds), (.p, (sortD ds).take n.toNat)] :=
  fn_ofX (dfa := [.none]) (dfs := [.none]) (pv := [some 0, some 1, none, none, none, none, none, none, none, none, none, none, none]) (pc := [some 2]) ok13 (def13 rfl) (fun _ _ _ => .cons rfl .nil) pv13 pc13 rfl (fun _ _ _ _ _ _ _ _ => trivial) (fun c h tk G hm R _ Q E post => ns_list h2 hz hn .none c h tk G R Q E (by rw [Kx.ex, hm]; exact post)) rfl
theorem fx_nsI (h2 : P2 ds) (hz : ds.length < 60) (hn : -1000 < n ∧ n < 1000) : FnX X1 (q + 4) 13 [] [.int n, .val (.ref I)] [] [(.p, ds)] (HidP X1 I) [I] (.lst 1) [(.p, ds), (.p, (sortD ds).take n.toNat)] :=
  fn_ofX (dfa := [.none]) (dfs := [.none]) (pv := [some 0, some 1, none, none, none, none, none, none, none, none, none, none, none]) (pc := [some 2]) ok13 (def13 rfl) (fun _ _ _ => .cons rfl .nil) pv13 pc13 rfl hidP_in (fun c h tk G hm R ⟨o, g1, g2, g3⟩ Q E post => ns_iter h2 hz hn .none c h tk G o R g1 g2 (by rw [Kx.ex, hm]; exact List.not_mem_nil) g3 Q E (by rw [Kx.ex, hm]; exact post)) rfl
theorem fx_nsK (h2 : P2 ds) (hz : ds.length < 60) (hn : -1000 < n ∧ n < 1000) (hk : NsKey (q + 3) ds kv) (hkv : shO 1 kv = kv) : FnX X1 (q + 4) 13 [Str.ofString "key"] [.int n, .lst 0] [kv] [(.p, ds)] (fun _ _ => True) [] (.lst 1) [(.p, ds), (.p, (sortD ds).take n.toNat)] :=
  fn_ofX (dfa := []) (dfs := []) (pv := [some 0, some 1, none, none, none, none, none, none, none, none, none, none, none]) (pc := [some 2]) ok13 (def13k rfl) (fun _ _ _ => .nil) pv13 pc13 rfl (fun _ _ _ _ _ _ _ _ => trivial) (fun c h tk G hm R _ Q E post => by
    have R : Rep ⟨X1, f13, q + 3⟩ c ⟨[.int n, .lst 0, .unb, .unb, .unb, .unb, .unb, .unb, .unb, .unb, .unb, .unb, .unb], [(.p, ds)], [.cell (shO 1 kv)]⟩ h G := R
    rw [hkv] at R
    exact ns_list h2 hz hn hk c h tk G R Q E (by rw [Kx.ex, hm]; exact post)) rfl
theorem fx_nsKI (h2 : P2 ds) (hz : ds.length < 60) (hn : -1000 < n ∧ n < 1000) (hk : NsKey (q + 3) ds kv) (hkv : shO 1 kv = kv) : FnX X1 (q + 4) 13 [Str.ofString "key"] [.int n, .val (.ref I)] [kv] [(.p, ds)] (HidP X1 I) [I] (.lst 1) [(.p, ds), (.p, (sortD ds).take n.toNat)] :=
  fn_ofX (dfa := []) (dfs := []) (pv := [some 0, some 1, none, none, none, none, none, none, none, none, none, none, none]) (pc := [some 2]) ok13 (def13k rfl) (fun _ _ _ => .nil) pv13 pc13 rfl hidP_in (fun c h tk G hm R ⟨o, g1, g2, g3⟩ Q E post => by
    have R : Rep ⟨X1, f13, q + 3⟩ c ⟨[.int n, .val (.ref I), .unb, .unb, .unb, .unb, .unb, .unb, .unb, .unb, .unb, .unb, .unb], [(.p, ds)], [.cell (shO 1 kv)]⟩ h G := R
    rw [hkv] at R
    exact ns_iter h2 hz hn hk c h tk G o R g1 g2 (by rw [Kx.ex, hm]; exact List.not_mem_nil) g3 Q E (by rw [Kx.ex, hm]; exact post)) rfl
end
end
section
noncomputable abbrev f14 : Fi := ⟨[Str.ofString "n", Str.ofString "iterable", Str.ofString "it", Str.ofString "sentinel", Str.ofString "result", Str.ofString "size", Str.ofString "elem", Str.ofString "top", Str.ofString "order", Str.ofString "_heapreplace", Str.ofString "_order", Str.ofString "k", Str.ofString "_elem"], [(Str.ofString "key", 0)], [Str.ofString "iter", Str.ofString "object", Str.ofString "max", Str.ofString "len", Str.ofString "TypeError", Str.ofString "AttributeError", Str.ofString "sorted", Str.ofString "zip", Str.ofString "range", Str.ofString "heapify", Str.ofString "heapreplace"], true, true⟩
section
variable {ds : List D} {q : Nat} {kv a1 v5 : AV} {I : Addr}
theorem nl_one {bst : D → List D → D} {t : PySem.Expr} {s1 : Stmt} {ss el rest : List Stmt} {p : Pos} (hb : bd X1.P 14 = .If t (s1 :: ss) el p :: rest) (hM : MinOp X1 q "max" kv ds bst) (hkv : kv.bd = true) :
    EsH ⟨X1, f14, q⟩ ⟨[.int 1, a1, .val (.ref I), .unb, .unb, .unb, .unb, .unb, .unb, .unb, .unb, .unb, .unb], [(.p, ds)], [.cell kv]⟩ I (.li 0 0) ss (.lst 1) [(.p, ds), (.p, b1 bst ds)] := by
  have e : (prt (bd X1.P 14)[0]?).2.drop 1 = ss := congrArg (fun b => (prt b[0]?).2.drop 1) hb
  clear hb
  subst e
  refine eh_cons (ex_asg (ev_callT0 (g_object (by walk_at "mm")) c_object) (n := 3) rfl) ?_
  refine eh_min (so := 1) (nn := 4) (i := 0) (g_max (by walk_at "mm")) (by walk_at "nm") (ek_cons (by walk_at "nm") (ek_cons (ev_cell (by walk_at "mm") rfl hkv) ek_nil)) hM rfl rfl rfl (fun hd => ?_) fun d ds' hd => ?_
  · subst hd
    exact er_of (es_ret (ex_ret (ev_if (tt_cmp (by walk_at "nm") (by walk_at "nm") o_isO) (ev_list (k := .p) (ds := []) el_nil (by decide))))) rfl
  · subst hd
    apply er_of
    · apply es_ret
      apply ex_ret
      apply ev_ifF (tt_cmp (by walk_at "nm") (by walk_at "nm") (o_isEO rfl))
      exact ev_is (ev_list (k := .p) (ds := [bst d ds']) (el_cons (by walk_at "nm") el_nil) (by show 1 < 1000; decide)) rfl
    · rfl
theorem lp_ul {n : Int} {v3 v11 v12 : AV} {t : PySem.Expr} {s1 s2 a b c d e f g : Stmt} {tgt it : PySem.Expr} {body tl el rest : List Stmt} {p fp : Pos} (hb : bd X1.P 14 = s1 :: s2 :: .If t (a :: b :: c :: d :: e :: f :: g :: .For tgt it body [] fp :: tl) el p :: rest) (h2 : P2 ds) : ∀ (r : List D) (j : Nat) (res seen : List D) (od : Int) (v6 v10 : AV), ds.drop j = r → Fw gtl gtl fst2 res seen → Nd res → 0 < res.length → res.length < 60 →
    ∃ res' od' v6' v10', Fw gtl gtl fst2 res' (seen ++ r) ∧ Nd res' ∧ res'.length = res.length ∧ Fl ⟨X1, f14, q + 3⟩ ⟨[.int n, a1, .val (.ref I), v3, .lst 1, v5, v6, .el .p (fst2 (res.getD 0 [])), .int od, .fn 3, v10, v11, v12], [(.p, ds), (.pi, res)], [.cell .none]⟩ tgt (.li 0 j) body (.ok .next ⟨[.int n, a1, .val (.ref I), v3, .lst 1, v5, v6', .el .p (fst2 (res'.getD 0 [])), .int od', .fn 3, v10', v11, v12], [(.p, ds), (.pi, res')], [.cell .none]⟩) := by
  have e := pr_eq (congrArg (fun b => prt (prt b[2]?).2[7]?) hb)
  clear hb
  obtain ⟨rfl, rfl⟩ := e
  intro r
  induction r with
  | nil => exact fun j res seen od v6 v10 hj F nd h0 hl => ⟨res, od, v6, v10, by rw [List.append_nil]; exact F, nd, rfl, fl_end (.liE rfl (drop_end hj))⟩
  | cons x r ih =>
    intro j res seen od v6 v10 hj F nd h0 hl
    obtain ⟨h1, h2'⟩ := drop_at hj
    have hxl : x.length = 2 := by obtain ⟨a, b, rfl⟩ := h2 x (List.mem_of_getElem? h1); rfl
    by_cases hlt : gtl x (fst2 (res.getD 0 [])) = true
    · have F1 := F.swap (e₁ := x ++ [od]) gtl_tot gtl_tot h0 (by rw [fst2_app hxl]; exact hlt) (fun e he => by
        obtain ⟨d, z, hd, rfl⟩ := nd e he
        rw [fst2_app hd, fst2_app hxl]
        exact ⟨app_gtl _ _ _ _ hd hxl, app_gtl _ _ _ _ hxl hd⟩)
      rw [fst2_app hxl] at F1
      have nd1 : Nd (hrepl llt res (x ++ [od])) := nd_repl nd h0 hxl
      have hl1 : (hrepl llt res (x ++ [od])).length = res.length := hrepl_len
      obtain ⟨e0, he0⟩ : ∃ e0, res[0]? = some e0 := ⟨_, List.getElem?_eq_getElem h0⟩
      obtain ⟨e1, he1⟩ : ∃ e1, (hrepl llt res (x ++ [od]))[0]? = some e1 := ⟨_, List.getElem?_eq_getElem (by lia)⟩
      have hg1 : (hrepl llt res (x ++ [od])).getD 0 [] = e1 := by simp [List.getD, he1]
      obtain ⟨d, z, hd, hed⟩ := nd1 e1 (List.mem_of_getElem? he1)
      obtain ⟨res', od', v6', v10', a1', a2', a3', a4'⟩ := ih (j + 1) (hrepl llt res (x ++ [od])) (seen ++ [x]) (od - 1) (.el .p x) (.int z) h2' F1 nd1 (by lia) (by lia)
      rw [List.append_assoc] at a1'
      rw [hg1, hed, fst2_app hd] at a4'
      refine ⟨res', od', v6', v10', a1', a2', a3'.trans hl1, fl_step (.li rfl h1) (as_name (n := 6) rfl) (es_cons (ex_ifT (tt_cmp (by walk_at "nm") (by walk_at "nm") o_ltE) hlt ?_) es_nil) a4'⟩
      refine es_cons (ex_expr (ev_call [1] (by walk_at "nm") (show 3 ∈ X1.js by decide) (el_cons (by walk_at "nm") (el_cons (ev_tupPI (el_cons (by walk_at "nm") (el_cons (by walk_at "nm") el_nil))) el_nil)) (fn_heapreplace (k := .pi) (q := q) he0 (by lia)))) ?_
      refine es_cons (ex_asgT (ev_is (ev_item (by walk_at "nm") ev_int (n := 0) rfl rfl he1 (by lia)) (congrArg (AV.el .pi) hed)) (as_pi (d := d) (z := z) rfl (as_name (n := 7) rfl) (as_name (n := 10) rfl))) ?_
      exact es_cons (ex_aug (n := 8) rfl rfl rfl ev_int o_isub) es_nil
    · obtain ⟨res', od', v6', v10', a1', a2', a3', a4'⟩ := ih (j + 1) res (seen ++ [x]) od (.el .p x) v10 h2' (F.keep gtl_tot gtl_tot h0 (by simpa using hlt)) nd h0 hl
      rw [List.append_assoc] at a1'
      exact ⟨res', od', v6', v10', a1', a2', a3', fl_step (.li rfl h1) (as_name (n := 6) rfl) (es_cons (ex_ifF (tt_cmp (by walk_at "nm") (by walk_at "nm") o_ltE) (show gtl x (fst2 (res.getD 0 [])) = false by simpa using hlt) es_nil) es_nil) a4'⟩
theorem nl_none {n : Int} {t : PySem.Expr} {s1 s2 a : Stmt} {ss el rest : List Stmt} {p : Pos} (hb : bd X1.P 14 = s1 :: s2 :: .If t (a :: ss) el p :: rest) (h2 : P2 ds) (hz : ds.length < 60) (hn : -1000 < n ∧ n < 1000) :
    EsH ⟨X1, f14, q + 3⟩ ⟨[.int n, a1, .val (.ref I), .unb, .unb, v5, .unb, .unb, .unb, .unb, .unb, .unb, .unb], [(.p, ds)], [.cell .none]⟩ I (.li 0 0) ss (.lst 1) [(.p, ds), (.p, (sortB true ds).take n.toNat)] := by
  have e : (prt (bd X1.P 14)[2]?).2.drop 1 = ss := congrArg (fun b => (prt b[2]?).2.drop 1) hb
  clear hb
  subst e
  by_cases h0 : n.toNat = 0 ∨ ds = []
  · have e : (sortB true ds).take n.toNat = [] := by
      rcases h0 with h0 | h0
      · rw [h0]; rfl
      · subst h0; exact List.take_nil
    rw [e]
    refine eh_zip (fi' := f13z) (nn := 4) (kd := .p) (out := []) (n := n.toNat) (fin := if ds.length < n.toNat then .lx else .li 0 0) (g_zip (by walk_at "mm")) (hide_range3 (g_range (by walk_at "mm")) (el_cons ev_int (el_cons (ev_neg (by walk_at "nm")) (el_cons (ev_neg ev_int) el_nil))) (by decide) (by decide)) (by walk_at "nm") ⟨by decide +kernel, by decide +kernel, by decide +kernel, by decide +kernel, by decide +kernel, rfl, by decide +kernel, by decide +kernel, rfl, rfl⟩ rfl rfl (cloB rfl rfl rfl) (small_back hn) (rangeSize_back rfl) ⟨[.unb, .unb], ?_⟩ rfl (sw_ok (n := 4) rfl rfl rfl) ?_
    · by_cases hm : n.toNat = 0
      · rw [hm, if_neg (by lia)]
        exact clz_stop (by decide) rfl
      · obtain h0 | h0 := h0
        · exact absurd h0 hm
        · subst h0
          rw [if_pos (by simp; lia)]
          exact clz_dead (by lia) rfl rfl rfl
    · refine eh_ifT (tt_not (tt_plain (by walk_at "nm") (b_lst rfl (by decide)))) rfl (eh_drop ?_)
      exact er_of (es_ret (ex_ret (by walk_at "nm"))) rfl
  · have hm : n.toNat ≠ 0 := fun e => h0 (.inl e)
    have hne : ds ≠ [] := fun e => h0 (.inr e)
    have hdl : 0 < ds.length := List.length_pos_iff.mpr hne
    obtain ⟨N, hN⟩ : ∃ N, N = min n.toNat ds.length := ⟨_, rfl⟩
    have hNd : N ≤ ds.length := hN ▸ Nat.min_le_right _ _
    have hN0 : 0 < N := hN ▸ Nat.lt_min.mpr ⟨Nat.pos_of_ne_zero hm, hdl⟩
    have hN6 : N < 60 := Nat.lt_of_le_of_lt hNd hz
    have hN9 : N < 1000 := Nat.lt_trans hN6 (by decide)
    have htk : ds.take n.toNat = ds.take N := by
      rw [hN]
      rcases Nat.le_total n.toNat ds.length with h | h
      · rw [Nat.min_eq_left h]
      · rw [Nat.min_eq_right h, List.take_of_length_le h, List.take_length]
    have htl : (ds.take N).length = N := by rw [List.length_take]; exact Nat.min_eq_left hNd
    have h2t : ∀ d ∈ ds.take N, d.length = 2 := fun d hd => by obtain ⟨x, y, rfl⟩ := h2 d (List.mem_of_mem_take hd); rfl
    obtain ⟨res0, hr0⟩ : ∃ res0, res0 = numd (fun j => -1 * (j : Int)) (ds.take N) := ⟨_, rfl⟩
    have hl0 : res0.length = N := by rw [hr0, numd_len, htl]
    have nd0 : Nd res0 := by rw [hr0]; exact numd_nd h2t
    have F0 : Fw gtl gtl fst2 (heapify llt res0) (ds.take N) := Fw.start gtl_tot (ag_u app_gtl nd0) (by rw [hr0, numd_fst h2t])
    have nd1 : Nd (heapify llt res0) := fun e he => nd0 e (heapify_perm.mem_iff.mp he)
    have hl1 : (heapify llt res0).length = N := by rw [heapify_perm.length_eq]; exact hl0
    have hout : numd (fun j => -1 * (j : Int)) (ds.take n.toNat) = res0 := by rw [hr0, htk]
    have htop : ∃ d z, d.length = 2 ∧ (heapify llt res0).getD 0 [] = d ++ [z] ∧ (heapify llt res0)[0]? = some (d ++ [z]) := by
      obtain ⟨e, he⟩ : ∃ e, (heapify llt res0)[0]? = some e := ⟨_, List.getElem?_eq_getElem (hl1 ▸ hN0)⟩
      obtain ⟨d, z, hd, rfl⟩ := nd1 e (List.mem_of_getElem? he)
      exact ⟨d, z, hd, by simp [List.getD, he], he⟩
    obtain ⟨d0, z0, hd0, hg0, he0⟩ := htop
    have fin : ∀ (res : List D) (od : Int) (v6 v10 : AV), Fw gtl gtl fst2 res ds → Nd res → res.length = N →
        EsR ⟨X1, f14, q + 3⟩ ⟨[.int n, a1, .val (.ref I), .unb, .lst 1, v5, v6, .el .p (fst2 (res.getD 0 [])), .int od, .fn 3, v10, .unb, .unb], [(.p, ds), (.pi, res)], [.cell .none]⟩ ((prt (bd X1.P 14)[2]?).2.drop 8) (.lst 2) [(.p, ds), (.pi, sortB true res), (.p, (sortB true ds).take n.toNat)] := by
      intro res od v6 v10 F nd hl
      have hsl : (sortB true res).length = N := by rw [(sortB_perm true res).length_eq]; exact hl
      have nds : Nd (sortB true res) := fun e he => nd e ((sortB_perm true res).mem_iff.mp he)
      have ho := F.done gtl_tot (sortB_sd res) (sortB_perm true res) (sortB_sd ds) (sortB_perm true ds)
      rw [hl] at ho
      have ho' : (sortB true ds).take n.toNat = (sortB true res).map fst2 := by
        rw [ho, hN]
        rcases Nat.le_total n.toNat ds.length with h | h
        · rw [Nat.min_eq_left h]
        · rw [Nat.min_eq_right h, List.take_of_length_le (by rw [(sortB_perm true ds).length_eq]; exact h), List.take_of_length_le (by rw [(sortB_perm true ds).length_eq]; exact Nat.le_refl _)]
      rw [ho']
      refine er_cons (ex_expr (ev_methK (by walk_at "nm") rfl slot_list_sort PySem.F.type_list_sort (ek_cons ev_bool ek_nil) (m_sortR rfl (by intro e; cases e) (by rw [hl]; exact Nat.lt_trans hN6 (by decide))))) ?_
      apply er_of
      · apply es_ret
        apply ex_ret
        exact ev_is (ev_comp (fi' := f13u) (ite_lst (by walk_at "nm") rfl) rfl ⟨by decide +kernel, by decide +kernel, by decide +kernel, by decide +kernel, by decide +kernel, rfl, by decide +kernel, by decide +kernel, rfl, rfl⟩ rfl (cloB rfl rfl rfl) (fin_u nds (hsl ▸ hN6) rfl rfl (sortB true res) 0 [] .unb .unb rfl rfl).choose_spec) rfl
      · rfl
    have hd : fst2 ((heapify llt res0).getD 0 []) = d0 := by rw [hg0, fst2_app hd0]
    have pre : ∀ (fn : AO) (LS : List LC), fn = (if ds.length < n.toNat then .lx else .li 0 n.toNat) →
        EsH ⟨X1, f14, q + 3⟩ ⟨[.int n, a1, .val (.ref I), .unb, .lst 1, v5, .unb, .el .p (fst2 ((heapify llt res0).getD 0 [])), .int (-n), .fn 3, .unb, .unb, .unb], [(.p, ds), (.pi, heapify llt res0)], [.cell .none]⟩ I fn ((prt (bd X1.P 14)[2]?).2.drop 7) (.lst 2) LS →
        EsH ⟨X1, f14, q + 3⟩ ⟨[.int n, a1, .val (.ref I), .unb, .unb, v5, .unb, .unb, .unb, .unb, .unb, .unb, .unb], [(.p, ds)], [.cell .none]⟩ I (.li 0 0) ((prt (bd X1.P 14)[2]?).2.drop 1) (.lst 2) LS := by
      intro fn LS hfn hk
      rw [hd] at hk
      refine eh_zip (fi' := f13z) (nn := 4) (kd := .pi) (out := res0) (n := n.toNat) (fin := fn) (g_zip (by walk_at "mm")) (hide_range3 (g_range (by walk_at "mm")) (el_cons ev_int (el_cons (ev_neg (by walk_at "nm")) (el_cons (ev_neg ev_int) el_nil))) (by decide) (by decide)) (by walk_at "nm") ⟨by decide +kernel, by decide +kernel, by decide +kernel, by decide +kernel, by decide +kernel, rfl, by decide +kernel, by decide +kernel, rfl, rfl⟩ rfl rfl (cloB rfl rfl rfl) (small_back hn) (rangeSize_back rfl) (zip_u0 rfl hz rfl hout.symm hfn rfl rfl) rfl (sw_ok (n := 4) rfl rfl rfl) ?_
      refine eh_ifF (tt_not (tt_plain (by walk_at "nm") (b_lst rfl (hl0 ▸ hN9)))) (by simp; lia) ?_
      refine eh_cons (ex_expr (ev_cf 5 [1] (by walk_at "mm") (by decide) (el_cons (by walk_at "nm") el_nil) (hF := fn_heapify (k := .pi) (q := q) (hl0 ▸ hN9)))) ?_
      refine eh_cons (ex_asg (ev_fstPI (ev_item (by walk_at "nm") ev_int (n := 0) rfl rfl he0 (hl1 ▸ hN9))) (n := 7) rfl) ?_
      refine eh_cons (ex_asg (ev_neg (by walk_at "nm")) (n := 8) rfl) ?_
      refine eh_cons (ex_asg (g_fn 3 (by walk_at "mm") (by decide)) (n := 9) rfl) ?_
      exact hk
    by_cases hc : ds.length < n.toNat
    · have hN' : N = ds.length := hN.trans (Nat.min_eq_right (Nat.le_of_lt hc))
      rw [hN', List.take_length] at F0
      refine eh_two (x1 := (.pi, sortB true (heapify llt res0))) ?_ (Nat.le_refl _)
      refine pre .lx _ (by rw [if_pos hc]) ?_
      refine eh_forX (by walk_at "nm") rfl ?_
      exact fin (heapify llt res0) (-n) .unb .unb F0 nd1 hl1
    · have hN' : N = n.toNat := hN.trans (Nat.min_eq_left (Nat.le_of_not_lt hc))
      obtain ⟨res', od', v6', v10', a1', a2', a3', a4'⟩ := lp_ul (ds := ds) (q := q) (a1 := a1) (v5 := v5) (I := I) (n := n) (v3 := .unb) (v11 := .unb) (v12 := .unb) rfl h2 (ds.drop N) N (heapify llt res0) (ds.take N) (-n) .unb .unb rfl F0 nd1 (hl1 ▸ hN0) (hl1 ▸ hN6)
      rw [List.take_append_drop] at a1'
      refine eh_two (x1 := (.pi, sortB true res')) ?_ (Nat.le_refl _)
      refine pre (.li 0 N) _ (by rw [if_neg hc, hN']) ?_
      refine eh_for (by walk_at "nm") a4' ?_
      exact fin res' od' v6' v10' a1' a2' (a3'.trans hl1)
end
section
variable {ds : List D} {q k0 : Nat} {a1 v5 : AV} {I : Addr} {ps : Arguments} {lb : PySem.Expr} {sc : Scope} {f : D → Int}
theorem lp_kl {n : Int} {v3 : AV} {s1 s2 s3 a b c d e f1 g : Stmt} {tgt it : PySem.Expr} {body tl : List Stmt} {fp : Pos} (hb : bd X1.P 14 = s1 :: s2 :: s3 :: a :: b :: c :: d :: e :: f1 :: g :: .For tgt it body [] fp :: tl) (h2 : P2 ds) (hI : Inc ds) (hO : ∀ d ∈ ds, LamOk X1 k0 ps lb sc d (f d)) (hf : ∀ d, f d = -1 * d.getD 0 0) (hq : k0 + 1 ≤ q + 3) : ∀ (r : List D) (j : Nat) (res seen : List D) (M : Int) (v6 v10 v11 v12 : AV), ds.drop j = r → Fw llt gtl (List.drop 2) res seen → KJ (-1) res M r → 0 < res.length → res.length < 60 →
    ∃ res' M' v6' v10' v11' v12', Fw llt gtl (List.drop 2) res' (seen ++ r) ∧ KF (-1) res' ∧ res'.length = res.length ∧ Fl ⟨X1, f14, q + 3⟩ ⟨[.int n, a1, .val (.ref I), v3, .lst 1, v5, v6, .int ((res.getD 0 []).getD 0 0), .int (-1 * M), .fn 3, v10, v11, v12], [(.p, ds), (.kip, res)], [.cell (.lam ps lb sc)]⟩ tgt (.li 0 j) body (.ok .next ⟨[.int n, a1, .val (.ref I), v3, .lst 1, v5, v6', .int ((res'.getD 0 []).getD 0 0), .int (-1 * M'), .fn 3, v10', v11', v12'], [(.p, ds), (.kip, res')], [.cell (.lam ps lb sc)]⟩) := by
  have e := pr_eq (congrArg (fun b => prt b[10]?) hb)
  clear hb
  obtain ⟨rfl, rfl⟩ := e
  intro r
  induction r with
  | nil => exact fun j res seen M v6 v10 v11 v12 hj F K h0 hl => ⟨res, M, v6, v10, v11, v12, by rw [List.append_nil]; exact F, K.kf, rfl, fl_end (.liE rfl (drop_end hj))⟩
  | cons x r ih =>
    intro j res seen M v6 v10 v11 v12 hj F K h0 hl
    obtain ⟨h1, h2'⟩ := drop_at hj
    have hxm := List.mem_of_getElem? h1
    have hxp := h2 x hxm
    have hIr : ∀ y ∈ r, x.getD 1 0 < y.getD 1 0 := by
      have : Inc (ds.drop j) := hI.sublist (List.drop_sublist _ _)
      rw [hj] at this
      exact (List.pairwise_cons.mp this).1
    obtain ⟨e0, he0⟩ : ∃ e0, res[0]? = some e0 := ⟨_, List.getElem?_eq_getElem h0⟩
    have hg0 : res.getD 0 [] = e0 := by simp [List.getD, he0]
    have hlt : llt x ((res.getD 0 []).drop 2) = decide ((res.getD 0 []).getD 0 0 < f x) := by
      obtain ⟨o, v, p, hk1, hk2, hk3⟩ := K e0 (List.mem_of_getElem? he0)
      obtain ⟨w, r', rfl⟩ := hxp
      have hp : p < r' := hk3 _ (.head _)
      rw [hg0, hk1, hf]
      show llt [w, r'] [v, p] = decide (-1 * v < -1 * w)
      rw [root_lt hp]; simp only [decide_eq_decide]; lia
    by_cases hc : (res.getD 0 []).getD 0 0 < f x
    · have F1 := F.swap (e₁ := ke (-1) M x) llt_tot gtl_tot h0 (by show llt x _ = true; rw [hlt]; simpa using hc) (fun e he => by
        obtain ⟨w, r', rfl⟩ := hxp
        exact KI.ag (.inr ⟨rfl, rfl⟩) K.ki (Int.le_refl _) e he)
      have F1 : Fw llt gtl (List.drop 2) (hrepl llt res (ke (-1) M x)) (seen ++ [x]) := F1
      have K1 : KJ (-1) (hrepl llt res (ke (-1) M x)) (M + 1) r := K.repl h0 hxp hIr
      have hl1 : (hrepl llt res (ke (-1) M x)).length = res.length := hrepl_len
      have hke : (f x) :: (-1 * M) :: x = ke (-1) M x := by rw [hf]; rfl
      obtain ⟨e1, he1⟩ : ∃ e1, (hrepl llt res (ke (-1) M x))[0]? = some e1 := ⟨_, List.getElem?_eq_getElem (by lia)⟩
      have hg1 : (hrepl llt res (ke (-1) M x)).getD 0 [] = e1 := by simp [List.getD, he1]
      obtain ⟨o, v, p, hed⟩ := K1.kf e1 (List.mem_of_getElem? he1)
      obtain ⟨res', M', v6', v10', v11', v12', b1, b2, b3, b4⟩ := ih (j + 1) (hrepl llt res (ke (-1) M x)) (seen ++ [x]) (M + 1) (.el .p x) (.int (-1 * o)) (.int (f x)) (.el .p [v, p]) h2' F1 K1 (by lia) (by lia)
      rw [List.append_assoc] at b1
      have hM : -1 * M - 1 = -1 * (M + 1) := by lia
      rw [hg1, hed, ← hM] at b4
      refine ⟨res', M', v6', v10', v11', v12', b1, b2, b3.trans hl1, fl_step (.li rfl h1) (as_name (n := 6) rfl) (es_cons (ex_asg (ev_callLam (ev_cell (by walk_at "mm") rfl rfl) (el_cons (by walk_at "nm") el_nil) (hO x hxm) hq rfl) (n := 11) rfl) (es_cons (ex_ifT (tt_cmp (by walk_at "nm") (by walk_at "nm") o_lt) (by simpa using hc) ?_) es_nil)) b4⟩
      refine es_cons (ex_expr (ev_call [1] (by walk_at "nm") (show 3 ∈ X1.js by decide) (el_cons (by walk_at "nm") (el_cons (ev_is (ev_tupK (el_cons (by walk_at "nm") (el_cons (by walk_at "nm") (el_cons (by walk_at "nm") el_nil)))) (congrArg (AV.el .kip) hke)) el_nil)) (fn_heapreplace (k := .kip) (q := q) he0 (by lia)))) ?_
      refine es_cons (ex_asgT (ev_is (ev_item (by walk_at "nm") ev_int (n := 0) rfl rfl he1 (by lia)) (congrArg (AV.el .kip) hed)) (as_kip (a := -1 * v) (b := -1 * o) (d := [v, p]) rfl (as_name (n := 7) rfl) (as_name (n := 10) rfl) (as_name (n := 12) rfl))) ?_
      exact es_cons (ex_aug (n := 8) rfl rfl rfl ev_int o_isub) es_nil
    · obtain ⟨res', M', v6', v10', v11', v12', b1, b2, b3, b4⟩ := ih (j + 1) res (seen ++ [x]) M (.el .p x) v10 (.int (f x)) v12 h2' (F.keep llt_tot gtl_tot h0 (by rw [hlt]; simpa using hc)) K.tail h0 hl
      rw [List.append_assoc] at b1
      exact ⟨res', M', v6', v10', v11', v12', b1, b2, b3, fl_step (.li rfl h1) (as_name (n := 6) rfl) (es_cons (ex_asg (ev_callLam (ev_cell (by walk_at "mm") rfl rfl) (el_cons (by walk_at "nm") el_nil) (hO x hxm) hq rfl) (n := 11) rfl) (es_cons (ex_ifF (tt_cmp (by walk_at "nm") (by walk_at "nm") o_lt) (by simpa using hc) es_nil) es_nil)) b4⟩
theorem nl_lam {n : Int} {s1 s2 s3 a : Stmt} {ss : List Stmt} (hb : bd X1.P 14 = s1 :: s2 :: s3 :: a :: ss) (h2 : P2 ds) (hI : Inc ds) (hz : ds.length < 60) (hn : -1000 < n ∧ n < 1000) (hO : ∀ d ∈ ds, LamOk X1 k0 ps lb sc d (f d)) (hf : ∀ d, f d = -1 * d.getD 0 0) (hq : k0 + 1 ≤ q + 3) :
    EsH ⟨X1, f14, q + 3⟩ ⟨[.int n, a1, .val (.ref I), .unb, .unb, v5, .unb, .unb, .unb, .unb, .unb, .unb, .unb], [(.p, ds)], [.cell (.lam ps lb sc)]⟩ I (.li 0 0) ss (.lst 1) [(.p, ds), (.p, (sortD ds).take n.toNat)] := by
  have e : (bd X1.P 14).drop 4 = ss := congrArg (fun b => b.drop 4) hb
  clear hb
  subst e
  by_cases h0 : n.toNat = 0 ∨ ds = []
  · have e : (sortD ds).take n.toNat = [] := by
      rcases h0 with h0 | h0
      · rw [h0]; rfl
      · subst h0; exact List.take_nil
    rw [e]
    refine eh_zip (fi' := f13y) (nn := 4) (kd := .p) (out := []) (n := n.toNat) (fin := if ds.length < n.toNat then .lx else .li 0 0) (g_zip (by walk_at "mm")) (hide_range3 (g_range (by walk_at "mm")) (el_cons ev_int (el_cons (ev_neg (by walk_at "nm")) (el_cons (ev_neg ev_int) el_nil))) (by decide) (by decide)) (by walk_at "nm") ⟨by decide +kernel, by decide +kernel, by decide +kernel, by decide +kernel, by decide +kernel, rfl, by decide +kernel, by decide +kernel, rfl, rfl⟩ rfl rfl (cloB rfl rfl rfl) (small_back hn) (rangeSize_back rfl) ⟨[.unb, .unb], ?_⟩ rfl (sw_ok (n := 4) rfl rfl rfl) ?_
    · by_cases hm : n.toNat = 0
      · rw [hm, if_neg (by lia)]
        exact clz_stop (by decide) rfl
      · obtain h0 | h0 := h0
        · exact absurd h0 hm
        · subst h0
          rw [if_pos (by simp; lia)]
          exact clz_dead (by lia) rfl rfl rfl
    · refine eh_ifT (tt_not (tt_plain (by walk_at "nm") (b_lst rfl (by decide)))) rfl (eh_drop ?_)
      exact er_of (es_ret (ex_ret (by walk_at "nm"))) rfl
  · have hm : n.toNat ≠ 0 := fun e => h0 (.inl e)
    have hne : ds ≠ [] := fun e => h0 (.inr e)
    have hdl : 0 < ds.length := List.length_pos_iff.mpr hne
    obtain ⟨N, hN⟩ : ∃ N, N = min n.toNat ds.length := ⟨_, rfl⟩
    have hNd : N ≤ ds.length := hN ▸ Nat.min_le_right _ _
    have hN0 : 0 < N := hN ▸ Nat.lt_min.mpr ⟨Nat.pos_of_ne_zero hm, hdl⟩
    have hN6 : N < 60 := Nat.lt_of_le_of_lt hNd hz
    have hN9 : N < 1000 := Nat.lt_trans hN6 (by decide)
    have htk : ds.take n.toNat = ds.take N := by
      rw [hN]
      rcases Nat.le_total n.toNat ds.length with h | h
      · rw [Nat.min_eq_left h]
      · rw [Nat.min_eq_right h, List.take_of_length_le h, List.take_length]
    have htl : (ds.take N).length = N := by rw [List.length_take]; exact Nat.min_eq_left hNd
    have h2t : P2 (ds.take N) := fun d hd => h2 d (List.mem_of_mem_take hd)
    have hIt : Inc (ds.take N) := hI.sublist (List.take_sublist _ _)
    obtain ⟨res0, hr0⟩ : ∃ res0, res0 = numK (-1) (ds.take N) := ⟨_, rfl⟩
    have hl0 : res0.length = N := by rw [hr0, numK_len, htl]
    have F0 : Fw llt gtl (List.drop 2) (heapify llt res0) (ds.take N) := Fw.start gtl_tot (by rw [hr0]; exact numK_ag (.inr ⟨rfl, rfl⟩) gtl_tot hIt h2t) (by rw [hr0, numK_prj])
    have hl1 : (heapify llt res0).length = N := by rw [heapify_perm.length_eq]; exact hl0
    have K0 : KJ (-1) (heapify llt res0) N (ds.drop N) := fun e he => by
      have he := heapify_perm.mem_iff.mp he
      rw [hr0] at he
      obtain ⟨j, d, hj, rfl⟩ := numK_get he
      have hjl := (List.getElem?_eq_some_iff.mp hj).1
      have hdm := List.mem_of_getElem? hj
      obtain ⟨v, p, rfl⟩ := h2t d hdm
      refine ⟨j, v, p, rfl, by lia, fun y hy => ?_⟩
      have hII : Inc (ds.take N ++ ds.drop N) := by rw [List.take_append_drop]; exact hI
      exact (List.pairwise_append.mp hII).2.2 _ hdm y hy
    have hout : numK (-1) (ds.take n.toNat) = res0 := by rw [hr0, htk]
    obtain ⟨e0, he0⟩ : ∃ e, (heapify llt res0)[0]? = some e := ⟨_, List.getElem?_eq_getElem (hl1 ▸ hN0)⟩
    have hg0 : (heapify llt res0).getD 0 [] = e0 := by simp [List.getD, he0]
    obtain ⟨ko, kv, kp, hek⟩ := K0.kf e0 (List.mem_of_getElem? he0)
    have fin : ∀ (res : List D) (od top : Int) (v6 v10 v11 v12 : AV), Fw llt gtl (List.drop 2) res ds → KF (-1) res → res.length = N →
        EsR ⟨X1, f14, q + 3⟩ ⟨[.int n, a1, .val (.ref I), .unb, .lst 1, v5, v6, .int top, .int od, .fn 3, v10, v11, v12], [(.p, ds), (.kip, res)], [.cell (.lam ps lb sc)]⟩ ((bd X1.P 14).drop 11) (.lst 2) [(.p, ds), (.kip, sortB true res), (.p, (sortD ds).take n.toNat)] := by
      intro res od top v6 v10 v11 v12 F nd hl
      have hsl : (sortB true res).length = N := by rw [(sortB_perm true res).length_eq]; exact hl
      have nds : KF (-1) (sortB true res) := fun e he => nd e ((sortB_perm true res).mem_iff.mp he)
      have ho := F.done llt_tot (sortB_sd res) (sortB_perm true res) (sortD_srt ds) (sortD_perm ds)
      rw [hl] at ho
      have ho' : (sortD ds).take n.toNat = (sortB true res).map (List.drop 2) := by
        rw [ho, hN]
        rcases Nat.le_total n.toNat ds.length with h | h
        · rw [Nat.min_eq_left h]
        · rw [Nat.min_eq_right h, List.take_of_length_le (by rw [sortD_len]; exact h), List.take_of_length_le (by rw [sortD_len]; exact Nat.le_refl _)]
      rw [ho']
      refine er_cons (ex_expr (ev_methK (by walk_at "nm") rfl slot_list_sort PySem.F.type_list_sort (ek_cons ev_bool ek_nil) (m_sortR rfl (by intro e; cases e) (by rw [hl]; exact Nat.lt_trans hN6 (by decide))))) ?_
      apply er_of
      · apply es_ret
        apply ex_ret
        exact ev_is (ev_comp (fi' := f13w) (ite_lst (by walk_at "nm") rfl) rfl ⟨by decide +kernel, by decide +kernel, by decide +kernel, by decide +kernel, by decide +kernel, rfl, by decide +kernel, by decide +kernel, rfl, rfl⟩ rfl (cloB rfl rfl rfl) (fin_k nds (hsl ▸ hN6) rfl rfl rfl (sortB true res) 0 [] .unb .unb .unb rfl rfl).choose_spec) rfl
      · rfl
    have pre : ∀ (fn : AO) (LS : List LC), fn = (if ds.length < n.toNat then .lx else .li 0 n.toNat) →
        EsH ⟨X1, f14, q + 3⟩ ⟨[.int n, a1, .val (.ref I), .unb, .lst 1, v5, .unb, .int ((heapify llt res0).getD 0 [] |>.getD 0 0), .int (-n), .fn 3, .unb, .unb, .unb], [(.p, ds), (.kip, heapify llt res0)], [.cell (.lam ps lb sc)]⟩ I fn ((bd X1.P 14).drop 10) (.lst 2) LS →
        EsH ⟨X1, f14, q + 3⟩ ⟨[.int n, a1, .val (.ref I), .unb, .unb, v5, .unb, .unb, .unb, .unb, .unb, .unb, .unb], [(.p, ds)], [.cell (.lam ps lb sc)]⟩ I (.li 0 0) ((bd X1.P 14).drop 4) (.lst 2) LS := by
      intro fn LS hfn hk
      rw [hg0, hek] at hk
      refine eh_zip (fi' := f13y) (nn := 4) (kd := .kip) (out := res0) (n := n.toNat) (fin := fn) (g_zip (by walk_at "mm")) (hide_range3 (g_range (by walk_at "mm")) (el_cons ev_int (el_cons (ev_neg (by walk_at "nm")) (el_cons (ev_neg ev_int) el_nil))) (by decide) (by decide)) (by walk_at "nm") ⟨by decide +kernel, by decide +kernel, by decide +kernel, by decide +kernel, by decide +kernel, rfl, by decide +kernel, by decide +kernel, rfl, rfl⟩ rfl rfl (cloB rfl rfl rfl) (small_back hn) (rangeSize_back rfl) (zip_k0 rfl hz hO hf hq rfl hout.symm hfn rfl rfl rfl) rfl (sw_ok (n := 4) rfl rfl rfl) ?_
      refine eh_ifF (tt_not (tt_plain (by walk_at "nm") (b_lst rfl (hl0 ▸ hN9)))) (by simp; lia) ?_
      refine eh_cons (ex_expr (ev_cf 5 [1] (by walk_at "mm") (by decide) (el_cons (by walk_at "nm") el_nil) (hF := fn_heapify (k := .kip) (q := q) (hl0 ▸ hN9)))) ?_
      refine eh_cons (ex_asg (ev_fstK (ev_is (ev_item (by walk_at "nm") ev_int (n := 0) rfl rfl he0 (hl1 ▸ hN9)) (congrArg (AV.el .kip) hek))) (n := 7) rfl) ?_
      refine eh_cons (ex_asg (ev_neg (by walk_at "nm")) (n := 8) rfl) ?_
      refine eh_cons (ex_asg (g_fn 3 (by walk_at "mm") (by decide)) (n := 9) rfl) ?_
      exact hk
    by_cases hc : ds.length < n.toNat
    · have hN' : N = ds.length := hN.trans (Nat.min_eq_right (Nat.le_of_lt hc))
      rw [hN', List.take_length] at F0
      refine eh_two (x1 := (.kip, sortB true (heapify llt res0))) ?_ (Nat.le_refl _)
      refine pre .lx _ (by rw [if_pos hc]) ?_
      refine eh_forX (by walk_at "nm") rfl ?_
      exact fin (heapify llt res0) (-n) _ .unb .unb .unb .unb F0 K0.kf hl1
    · have hN' : N = n.toNat := hN.trans (Nat.min_eq_left (Nat.le_of_not_lt hc))
      obtain ⟨res', M', v6', v10', v11', v12', a1', a2', a3', a4'⟩ := lp_kl (ds := ds) (q := q) (a1 := a1) (v5 := v5) (I := I) (n := n) (v3 := .unb) rfl h2 hI hO hf hq (ds.drop N) N (heapify llt res0) (ds.take N) N .unb .unb .unb .unb rfl F0 K0 (hl1 ▸ hN0) (hl1 ▸ hN6)
      rw [List.take_append_drop] at a1'
      rw [show -1 * (N : Int) = -n by lia] at a4'
      refine eh_two (x1 := (.kip, sortB true res')) ?_ (Nat.le_refl _)
      refine pre (.li 0 N) _ (by rw [if_neg hc, hN']) ?_
      refine eh_for (by walk_at "nm") a4' ?_
      exact fin res' _ _ v6' v10' v11' v12' a1' a2' (a3'.trans hl1)
end
end
section
inductive NlKey (q : Nat) (ds : List D) : AV → List D → Prop
  | none : NlKey q ds .none (sortB true ds)
  | lam {k0 : Nat} {ps : Arguments} {lb : PySem.Expr} {sc : Scope} {f : D → Int} : k0 + 3 ≤ q → (∀ d ∈ ds, LamOk X1 k0 ps lb sc d (f d)) → (∀ d, f d = -1 * d.getD 0 0) → Inc ds → NlKey q ds (.lam ps lb sc) (sortD ds)
section
variable {ds out : List D} {q : Nat} {kv : AV} {I : Addr} {n : Int}
theorem NlKey.bd {q : Nat} {ds out : List D} {kv : AV} (h : NlKey q ds kv out) : kv.bd = true := by cases h <;> rfl
theorem NlKey.len {q : Nat} {ds out : List D} {kv : AV} (h : NlKey q ds kv out) : out.length = ds.length := by
  cases h with
  | none => exact (sortB_perm true ds).length_eq
  | lam _ _ _ _ => exact sortD_len ds
theorem NlKey.min {q : Nat} {ds out : List D} {kv : AV} (h2 : P2 ds) (h : NlKey q ds kv out) : ∃ bst, MinOp X1 q "max" kv ds bst ∧ b1 bst ds = out.take 1 := by
  cases h with
  | none =>
    refine ⟨_, max_none, ?_⟩
    cases ds with
    | nil => rfl
    | cons d ds' => rw [one_few gtl_tot (sortB_sd _) (sortB_perm true _)]; rfl
  | lam hq hO hf hI =>
    refine ⟨_, max_lam (by lia) hO, b1_take fun d ds' e => ?_⟩
    subst e
    exact bestK_max_eq h2 hI fun d => by rw [hf]; lia
theorem NlKey.sorted {q : Nat} {ds out : List D} {kv : AV} (h2 : P2 ds) (h : NlKey q ds kv out) : ∃ o, KeyIs X1 q ds kv o ∧ o true = out := by
  cases h with
  | none => exact ⟨_, .none, rfl⟩
  | lam hq hO hf hI => exact ⟨_, .lam hq hO, sortKB_true h2 hI fun d => by rw [hf]; lia⟩
theorem nl_list (h2 : P2 ds) (hz : ds.length < 60) (hn : -1000 < n ∧ n < 1000) (hk : NlKey (q + 3) ds kv out) : EsR ⟨X1, f14, q + 3⟩ ⟨[.int n, .lst 0, .unb, .unb, .unb, .unb, .unb, .unb, .unb, .unb, .unb, .unb, .unb], [(.p, ds)], [.cell kv]⟩ (bd X1.P 14) (.lst 1) [(.p, ds), (.p, out.take n.toNat)] := by
  by_cases h1 : n = 1
  · subst h1
    obtain ⟨bst, hM, hb⟩ := hk.min h2
    rw [show (1 : Int).toNat = 1 from rfl, ← hb]
    refine er_ifT (tt_cmp (by walk_at "nm") ev_int o_eq) rfl ?_
    refine er_iter (i := 0) (n := 2) (g_iter (by walk_at "mm")) (by walk_at "nm") rfl rfl fun I => ?_
    exact nl_one rfl hM hk.bd
  · refine er_ifF (tt_cmp (by walk_at "nm") ev_int o_eq) (by simpa using h1) ?_
    by_cases h3 : n ≥ ds.length
    · obtain ⟨o, hK, ho⟩ := hk.sorted h2
      have hp : pickD (o true) none (some n) none = out.take n.toNat := by rw [ho, pick_upto _ (by lia)]
      refine er_two (x1 := (.p, o true)) ?_ (Nat.le_refl _)
      apply er_of
      · apply es_ret
        apply ex_try
        · exact es_cons (ex_asg (ev_callB (g_len (by walk_at "mm")) (el_cons (by walk_at "nm") el_nil) (c_len rfl (by lia))) (n := 5) rfl) es_nil
        · apply es_ret
          apply ex_ifT (tt_cmp (by walk_at "nm") (by walk_at "nm") o_ge) (by simpa using h3)
          apply es_ret
          apply ex_ret
          exact ev_is (ev_slice (ev_callBK (g_sorted (by walk_at "mm")) (el_cons (by walk_at "nm") el_nil) (ek_cons (ev_cell (by walk_at "mm") rfl hk.bd) (ek_cons ev_bool ek_nil)) (c_sortedKR hK rfl (by lia) rfl)) rfl .none (.some (by walk_at "nm")) .none (by rw [ho, hk.len]; lia) hp (by simp)) rfl
      · rfl
    · refine er_cons (ex_try (es_cons (ex_asg (ev_callB (g_len (by walk_at "mm")) (el_cons (by walk_at "nm") el_nil) (c_len rfl (by lia))) (n := 5) rfl) es_nil) (es_cons (ex_ifF (tt_cmp (by walk_at "nm") (by walk_at "nm") o_ge) (by simpa using h3) es_nil) es_nil)) ?_
      cases hk with
      | none =>
        refine er_ifT (tt_cmp (ev_cell (by walk_at "mm") rfl rfl) ev_none o_isN) rfl ?_
        refine er_iter (i := 0) (n := 2) (g_iter (by walk_at "mm")) (by walk_at "nm") rfl rfl fun I => ?_
        exact nl_none rfl h2 hz hn
      | lam hq hO hf hI =>
        refine er_ifF (tt_cmp (ev_cell (by walk_at "mm") rfl rfl) ev_none o_isLam) rfl ?_
        refine er_iter (i := 0) (n := 2) (g_iter (by walk_at "mm")) (by walk_at "nm") rfl rfl fun I => ?_
        exact nl_lam rfl h2 hI hz hn hO hf (by lia)
theorem nl_iter (h2 : P2 ds) (hz : ds.length < 60) (hn : -1000 < n ∧ n < 1000) (hk : NlKey (q + 3) ds kv out) : EsH ⟨X1, f14, q + 3⟩ ⟨[.int n, .val (.ref I), .unb, .unb, .unb, .unb, .unb, .unb, .unb, .unb, .unb, .unb, .unb], [(.p, ds)], [.cell kv]⟩ I (.li 0 0) (bd X1.P 14) (.lst 1) [(.p, ds), (.p, out.take n.toNat)] := by
  by_cases h1 : n = 1
  · subst h1
    obtain ⟨bst, hM, hb⟩ := hk.min h2
    rw [show (1 : Int).toNat = 1 from rfl, ← hb]
    refine eh_ifT (tt_cmp (by walk_at "nm") ev_int o_eq) rfl ?_
    refine eh_iter (n := 2) (g_iter (by walk_at "mm")) (by walk_at "nm") rfl ?_
    exact nl_one rfl hM hk.bd
  · refine eh_ifF (tt_cmp (by walk_at "nm") ev_int o_eq) (by simpa using h1) ?_
    refine eh_try rfl rfl (g_len (by walk_at "mm")) (by walk_at "nm") (by walk_at "mm") (by walk_at "mm") (show _ ∈ X1.free by decide) (show _ ∈ X1.free by decide) ?_
    cases hk with
    | none =>
      refine eh_ifT (tt_cmp (ev_cell (by walk_at "mm") rfl rfl) ev_none o_isN) rfl ?_
      refine eh_iter (n := 2) (g_iter (by walk_at "mm")) (by walk_at "nm") rfl ?_
      exact nl_none rfl h2 hz hn
    | lam hq hO hf hI =>
      refine eh_ifF (tt_cmp (ev_cell (by walk_at "mm") rfl rfl) ev_none o_isLam) rfl ?_
      refine eh_iter (n := 2) (g_iter (by walk_at "mm")) (by walk_at "nm") rfl ?_
      exact nl_lam rfl h2 hI hz hn hO hf (by lia)
end
theorem ok14 : FiOkC X1 14 f14 (fun n => [(Str.ofString "key", n)]) [Str.ofString "n", Str.ofString "iterable", Str.ofString "key"] where
  nd := by decide +kernel
  bnd := by decide +kernel
  loc := by decide +kernel
  cel := by decide +kernel
  glo := by decide +kernel
  dbg := by decide +kernel
  kind := rfl
  co := rfl
  gen := rfl
  cells := fun _ => rfl
  cnd := fun _ => by show [Str.ofString "key"].Nodup; decide +kernel
  csn := fun _ => rfl
  cix := rfl
  bk := fun n x hx => by
    cases hx with
    | head => exact .inl rfl
    | tail _ h => cases h with
      | head => exact .inl rfl
      | tail _ h => cases h with
        | head => exact .inr ⟨rfl, rfl⟩
        | tail _ h => cases h
  hd := rfl
section
variable {ds out : List D} {q : Nat} {kv : AV} {I : Addr} {n : Int}
theorem def14 {args : List AV} (ha : args.length = 2) : ∀ (c : Kx) h tk, Gd X1.P X1.js X1.ks X1.free c.mg c.mb h → ∀ us ws : List Value, us.length = args.length → ws.length = ([] : List AV).length → ∃ dv, (∃ o pm code doc, h.get? (fa X1.P c.mg 14) = some o ∧ o.data = .func { Calls.docDef (nm X1.P 14) (pr X1.P 14) (bd X1.P 14) (sc X1.P 14) pm code doc with defaults := dv } ∧ h.CodeRec code (nm X1.P 14)) ∧
      ∀ pm code doc, BindsTo (mk c.s h tk) { Calls.docDef (nm X1.P 14) (pr X1.P 14) (bd X1.P 14) (sc X1.P 14) pm code doc with defaults := dv } ⟨us, ([] : List Str).zip ws⟩ ([Str.ofString "n", Str.ofString "iterable", Str.ofString "key"].zip (us ++ ws ++ [.none])) := fun c h tk G us ws hu hw => by
  obtain ⟨_, o, pm, code, doc, dA, dO, dn, h2, h3, h4, h5, h6⟩ := G.fd 14 (by decide)
  refine ⟨.ref dA, ⟨o, pm, code, doc, h2, h3, h4⟩, fun pm code doc => ?_⟩
  rw [ha] at hu
  obtain ⟨a, b, rfl⟩ : ∃ a b, us = [a, b] := us2 (P := fun us => ∃ a b, us = [a, b]) (fun a b => ⟨a, b, rfl⟩) us hu
  have : ws = [] := List.length_eq_zero_iff.mp hw
  subst this
  exact BindsTo.of_defaults rfl h5 h6 rfl rfl
theorem def14k {args : List AV} {kv : AV} (ha : args.length = 2) : ∀ (c : Kx) h tk, Gd X1.P X1.js X1.ks X1.free c.mg c.mb h → ∀ us ws : List Value, us.length = args.length → ws.length = [kv].length → ∃ dv, (∃ o pm code doc, h.get? (fa X1.P c.mg 14) = some o ∧ o.data = .func { Calls.docDef (nm X1.P 14) (pr X1.P 14) (bd X1.P 14) (sc X1.P 14) pm code doc with defaults := dv } ∧ h.CodeRec code (nm X1.P 14)) ∧
      ∀ pm code doc, BindsTo (mk c.s h tk) { Calls.docDef (nm X1.P 14) (pr X1.P 14) (bd X1.P 14) (sc X1.P 14) pm code doc with defaults := dv } ⟨us, [Str.ofString "key"].zip ws⟩ ([Str.ofString "n", Str.ofString "iterable", Str.ofString "key"].zip (us ++ ws ++ [])) := fun c h tk G us ws hu hw => by
  obtain ⟨_, o, pm, code, doc, dA, dO, dn, h2, h3, h4, h5, h6⟩ := G.fd 14 (by decide)
  refine ⟨.ref dA, ⟨o, pm, code, doc, h2, h3, h4⟩, fun pm code doc => ?_⟩
  rw [ha] at hu
  obtain ⟨a, b, rfl⟩ : ∃ a b, us = [a, b] := us2 (P := fun us => ∃ a b, us = [a, b]) (fun a b => ⟨a, b, rfl⟩) us hu
  obtain ⟨w, rfl⟩ : ∃ w, ws = [w] := us1 (P := fun ws => ∃ w, ws = [w]) (fun w => ⟨w, rfl⟩) ws hw
  first
    | exact BindsTo.of_defaults rfl h5 h6 rfl rfl
    | exact BindsTo.of_eq rfl
theorem pv14 : ∀ (j t : Nat) (x : Str), [some 0, some 1, none, none, none, none, none, none, none, none, none, none, none][j]? = some (some t) → f14.tb[j]? = some x → [Str.ofString "n", Str.ofString "iterable", Str.ofString "key"][t]? = some x := fun j t x h1 h2 => by
  match j, h1 with
  | 0, h1 => cases h1; exact h2
  | 1, h1 => cases h1; exact h2
  | 2, h1 | 3, h1 | 4, h1 | 5, h1 | 6, h1 | 7, h1 | 8, h1 | 9, h1 | 10, h1 | 11, h1 | 12, h1 => cases h1
theorem pc14 : ∀ (j t : Nat) (p : Str × Nat), [some 2][j]? = some (some t) → f14.cs[j]? = some p → [Str.ofString "n", Str.ofString "iterable", Str.ofString "key"][t]? = some p.1 := fun j t p h1 h2 => by
  match j, h1 with
  | 0, h1 => cases h1; cases h2; rfl
theorem fx_nl (h2 : P2 ds) (hz : ds.length < 60) (hn : -1000 < n ∧ n < 1000) : FnX X1 (q + 4) 14 [] [.int n, .lst 0] [] [(.p, ds)] (fun _ _ => True) [] (.lst 1) [(.p, ds), (.p, (sortB true ds).take n.toNat)] :=
  fn_ofX (dfa := [.none]) (dfs := [.none]) (pv := [some 0, some 1, none, none, none, none, none, none, none, none, none, none, none]) (pc := [some 2]) ok14 (def14 rfl) (fun _ _ _ => .cons rfl .nil) pv14 pc14 rfl (fun _ _ _ _ _ _ _ _ => trivial) (fun c h tk G hm R _ Q E post => nl_list h2 hz hn .none c h tk G R Q E (by rw [Kx.ex, hm]; exact post)) rfl
theorem fx_nlI (h2 : P2 ds) (hz : ds.length < 60) (hn : -1000 < n ∧ n < 1000) : FnX X1 (q + 4) 14 [] [.int n, .val (.ref I)] [] [(.p, ds)] (HidP X1 I) [I] (.lst 1) [(.p, ds), (.p, (sortB true ds).take n.toNat)] :=
  fn_ofX (dfa := [.none]) (dfs := [.none]) (pv := [some 0, some 1, none, none, none, none, none, none, none, none, none, none, none]) (pc := [some 2]) ok14 (def14 rfl) (fun _ _ _ => .cons rfl .nil) pv14 pc14 rfl hidP_in (fun c h tk G hm R ⟨o, g1, g2, g3⟩ Q E post => nl_iter h2 hz hn .none c h tk G o R g1 g2 (by rw [Kx.ex, hm]; exact List.not_mem_nil) g3 Q E (by rw [Kx.ex, hm]; exact post)) rfl
theorem fx_nlK (h2 : P2 ds) (hz : ds.length < 60) (hn : -1000 < n ∧ n < 1000) (hk : NlKey (q + 3) ds kv out) (hkv : shO 1 kv = kv) : FnX X1 (q + 4) 14 [Str.ofString "key"] [.int n, .lst 0] [kv] [(.p, ds)] (fun _ _ => True) [] (.lst 1) [(.p, ds), (.p, out.take n.toNat)] :=
  fn_ofX (dfa := []) (dfs := []) (pv := [some 0, some 1, none, none, none, none, none, none, none, none, none, none, none]) (pc := [some 2]) ok14 (def14k rfl) (fun _ _ _ => .nil) pv14 pc14 rfl (fun _ _ _ _ _ _ _ _ => trivial) (fun c h tk G hm R _ Q E post => by
    have R : Rep ⟨X1, f14, q + 3⟩ c ⟨[.int n, .lst 0, .unb, .unb, .unb, .unb, .unb, .unb, .unb, .unb, .unb, .unb, .unb], [(.p, ds)], [.cell (shO 1 kv)]⟩ h G := R
    rw [hkv] at R
    exact nl_list h2 hz hn hk c h tk G R Q E (by rw [Kx.ex, hm]; exact post)) rfl
theorem fx_nlKI (h2 : P2 ds) (hz : ds.length < 60) (hn : -1000 < n ∧ n < 1000) (hk : NlKey (q + 3) ds kv out) (hkv : shO 1 kv = kv) : FnX X1 (q + 4) 14 [Str.ofString "key"] [.int n, .val (.ref I)] [kv] [(.p, ds)] (HidP X1 I) [I] (.lst 1) [(.p, ds), (.p, out.take n.toNat)] :=
  fn_ofX (dfa := []) (dfs := []) (pv := [some 0, some 1, none, none, none, none, none, none, none, none, none, none, none]) (pc := [some 2]) ok14 (def14k rfl) (fun _ _ _ => .nil) pv14 pc14 rfl hidP_in (fun c h tk G hm R ⟨o, g1, g2, g3⟩ Q E post => by
    have R : Rep ⟨X1, f14, q + 3⟩ c ⟨[.int n, .val (.ref I), .unb, .unb, .unb, .unb, .unb, .unb, .unb, .unb, .unb, .unb, .unb], [(.p, ds)], [.cell (shO 1 kv)]⟩ h G := R
    rw [hkv] at R
    exact nl_iter h2 hz hn hk c h tk G o R g1 g2 (by rw [Kx.ex, hm]; exact List.not_mem_nil) g3 Q E (by rw [Kx.ex, hm]; exact post)) rfl
end
end
section
section
variable {κ : K} {c : Kx} {σ : Sg} {G : Gh} {ss : List Stmt} {us : List Pos}
theorem PostZ.cut {P : Addr} {k : Nat} {L : List LC} {v : AV} {Q : Flow → Shared → Prop} (p : PostZ κ P c G v (L.take k) Q) (hk : G.la.length ≤ k) (hv : ∀ no, v.low k no = true) : PostZ κ P c G v L Q := fun h tk G' u σ' hl R kp hz hu => by
  have hc : ∀ p ∈ κ.fi.cs, Nat.blt p.2 σ'.o.length = true := fun p hp => by
    obtain ⟨a, e, _⟩ := R.ce p hp
    exact Nat.ble_eq_true_of_le (by rw [← R.lens.2]; exact (List.getElem?_eq_some_iff.mp e).1)
  have R₂ := (R.blank (n := 0)).cut (nl := k) (no := σ'.o.length) (List.all_eq_true.mpr fun a ha => by rw [List.eq_of_mem_replicate ha]; rfl) (List.all_eq_true.mpr fun a ha => by rw [List.eq_of_mem_replicate (List.mem_of_mem_take ha)]; rfl) hc
  dsimp only at R₂
  rw [hl] at R₂
  exact p h tk _ u _ rfl R₂ (kp.cut hk (by have := kp.oa.length_le; rw [R.lens.2] at this; exact this)) hz (hu.cut (hv _))
theorem et_cut {k : Nat} {L : List LC} {v : AV} (h : EsT κ σ us ss v L) (hk : σ.l.length ≤ k) (hv : ∀ no, v.low k no = true) : EsT κ σ us ss v (L.take k) := fun c h' tk G P R T hex Q E post => h c h' tk G P R T hex Q E (post.cut (by rw [R.lens.1]; exact hk) hv)
end
noncomputable abbrev f21 : Fi := ⟨[Str.ofString "pairs", Str.ofString "due", Str.ofString "wish", Str.ofString "half", Str.ofString "parts", Str.ofString "ways", Str.ofString "told"], [], [Str.ofString "len", Str.ofString "nsmallest", Str.ofString "iter", Str.ofString "nlargest", Str.ofString "_law_turned"], true, true⟩
theorem ok21 : FiOkC X1 21 f21 (fun _ => []) [Str.ofString "pairs", Str.ofString "due", Str.ofString "wish"] where
  nd := by decide +kernel
  bnd := by decide +kernel
  loc := by decide +kernel
  cel := by decide +kernel
  glo := by decide +kernel
  dbg := by decide +kernel
  kind := rfl
  co := rfl
  gen := rfl
  cells := fun _ => rfl
  cnd := fun _ => .nil
  csn := fun _ => rfl
  cix := rfl
  bk := fun n x hx => .inl (by cases hx with | head => rfl | tail _ h => cases h with | head => rfl | tail _ h => cases h with | head => rfl | tail _ h => cases h)
  hd := rfl
theorem P2.sub {l l' : List D} (h : P2 l) (hs : ∀ d ∈ l', d ∈ l) : P2 l' := fun d hd => h d (hs d hd)
theorem sortD_of {l l' : List D} (h : l.Perm l') : sortD l = sortD l' := Sd.uniq llt_tot (sortD_srt l) (sortD_srt l') ((sortD_perm l).trans (h.trans (sortD_perm l').symm))
theorem above_few {P A' : List D} {w : Nat} {r m : D} (hsub : ∃ B', P.Perm (A' ++ B')) (hl : A'.length = w) (hr : ∀ a ∈ A', llt r a = false) (hm : m ∈ (sortD P).take w) : llt r m = false := by
  cases hrm : llt r m with
  | false => rfl
  | true =>
    exfalso
    obtain ⟨B', hp⟩ := hsub
    obtain ⟨i, hi, e⟩ := List.getElem_of_mem hm
    rw [List.length_take] at hi
    have hiw : i < w := by lia
    have hiS : i < (sortD P).length := by lia
    have eS : (sortD P)[i] = m := by rw [List.getElem_take] at e; exact e
    have h1 : w ≤ P.countP fun x => llt x m := by
      rw [hp.countP_eq, List.countP_append]
      have : A'.countP (fun x => llt x m) = A'.length := List.countP_eq_length.mpr fun a ha => by
        cases q : llt a m with
        | true => rfl
        | false =>
          have := llt_tot.le_tr q (hr a ha)
          rw [hrm] at this; cases this
      lia
    have h2 : (sortD P).countP (fun x => llt x m) ≤ i := by
      rw [← List.take_append_drop i (sortD P), List.countP_append]
      have h3 : ((sortD P).drop i).countP (fun x => llt x m) = 0 := List.countP_eq_zero.mpr fun x hx => by
        have hs := sortD_srt P
        rw [← List.take_append_drop i (sortD P), List.drop_eq_getElem_cons hiS] at hs
        rw [List.drop_eq_getElem_cons hiS] at hx
        have hs2 := (List.pairwise_append.mp hs).2.1
        rcases List.mem_cons.mp hx with rfl | hx
        · rw [eS, llt_tot.irr]; exact Bool.false_ne_true
        · have := (List.pairwise_cons.mp hs2).1 x hx
          rw [eS] at this
          rw [this]; exact Bool.false_ne_true
      have h4 := List.countP_le_length (p := fun x => llt x m) (l := (sortD P).take i)
      rw [List.length_take] at h4
      lia
    rw [(sortD_perm P).countP_eq] at h2
    lia
theorem rest_above {A : List D} {w : Nat} {r : D} (hr : r ∈ (sortD A).drop w) : ((sortD A).take w).length = w ∧ ∀ a ∈ (sortD A).take w, llt r a = false := by
  have hl : 0 < ((sortD A).drop w).length := List.length_pos_of_mem hr
  rw [List.length_drop] at hl
  refine ⟨by rw [List.length_take]; lia, fun a ha => ?_⟩
  have hs := sortD_srt A
  rw [← List.take_append_drop w (sortD A)] at hs
  exact (List.pairwise_append.mp hs).2.2 a ha r hr
theorem take_parts {A B : List D} {w : Nat} : (sortD ((sortD A).take w ++ (sortD B).take w)).take w = (sortD (A ++ B)).take w := by
  by_cases hc : A.length ≤ w ∧ B.length ≤ w
  · rw [List.take_of_length_le (l := sortD A) (by rw [sortD_len]; exact hc.1), List.take_of_length_le (l := sortD B) (by rw [sortD_len]; exact hc.2), sortD_of ((sortD_perm A).append (sortD_perm B))]
  · obtain ⟨P, hP⟩ : ∃ P, P = (sortD A).take w ++ (sortD B).take w := ⟨_, rfl⟩
    rw [← hP]
    have hPl : w ≤ P.length := by
      rw [hP, List.length_append, List.length_take, List.length_take, sortD_len, sortD_len]; lia
    have hTl : ((sortD P).take w).length = w := by rw [List.length_take, sortD_len]; lia
    have hperm : ((sortD P).take w ++ ((sortD P).drop w ++ ((sortD A).drop w ++ (sortD B).drop w))).Perm (A ++ B) := by
      rw [← List.append_assoc, List.take_append_drop]
      refine ((sortD_perm P).append_right _).trans ?_
      rw [hP]
      have e1 : ((sortD A).take w ++ (sortD B).take w ++ ((sortD A).drop w ++ (sortD B).drop w)).Perm ((sortD A).take w ++ (sortD A).drop w ++ ((sortD B).take w ++ (sortD B).drop w)) := by
        rw [List.append_assoc, List.append_assoc]
        refine List.Perm.append_left _ ?_
        rw [← List.append_assoc, ← List.append_assoc]
        exact List.Perm.append_right _ List.perm_append_comm
      refine e1.trans ?_
      rw [List.take_append_drop, List.take_append_drop]
      exact (sortD_perm A).append (sortD_perm B)
    have hs := split_sorted hperm (fun r hr m hm => by
      rcases List.mem_append.mp hr with hr | hr
      · exact (rest_above hr).2 m hm
      · rcases List.mem_append.mp hr with hr | hr
        · obtain ⟨h1, h2⟩ := rest_above hr
          exact above_few ⟨_, by rw [hP]⟩ h1 h2 hm
        · obtain ⟨h1, h2⟩ := rest_above hr
          exact above_few ⟨_, by rw [hP]; exact List.perm_append_comm⟩ h1 h2 hm)
    rw [hTl] at hs
    rw [← hs.1]
    refine Sd.uniq llt_tot ?_ (sortD_srt _) (sortD_perm _).symm
    exact (sortD_srt P).sublist (List.take_sublist _ _)
theorem turned_nl {ds : List D} {w : Nat} (h : P2 ds) : ((sortB true (ds.map ngd)).take w).map ngd = (sortD ds).take w := by
  have e : sortB true (ds.map ngd) = (sortD ds).map ngd := by
    refine Sd.uniq gtl_tot (sortB_sd _) ?_ ((sortB_perm true _).trans ((sortD_perm ds).map ngd).symm)
    unfold Sd
    rw [List.pairwise_map]
    refine List.Pairwise.imp_of_mem (fun {a b} ha hb hab => ?_) (sortD_srt ds)
    show llt (ngd a) (ngd b) = false
    rw [ngd_lt (h a ((sortD_perm ds).mem_iff.mp ha)) (h b ((sortD_perm ds).mem_iff.mp hb))]
    exact hab
  rw [e, ← List.map_take, ngd_map]
end
section
section
variable {ds : List D} {q : Nat} {n : Int}
theorem g_ns {σ : Sg} {p : Pos} {q : Nat} : Ev ⟨X1, f21, q⟩ σ (.Name (Str.ofString "nsmallest") p) (.ok (.fn 13) σ) := ev_fnD (by walk_at "mm") (show 13 ∈ X1.ks by decide) rfl
theorem g_nl {σ : Sg} {p : Pos} {q : Nat} : Ev ⟨X1, f21, q⟩ σ (.Name (Str.ofString "nlargest") p) (.ok (.fn 14) σ) := ev_fnD (by walk_at "mm") (show 14 ∈ X1.ks by decide) rfl
theorem lp_ways {T : List D} {l : List LC} {v0 v2 v3 v4 : AV} {ws : List AV} {s1 s2 s3 s4 s5 s6 s7 s8 s9 : Stmt} {tgt it : PySem.Expr} {body tl : List Stmt} {fp : Pos} (hb : bd X1.P 21 = s1 :: s2 :: s3 :: s4 :: s5 :: s6 :: s7 :: s8 :: s9 :: .For tgt it body [] fp :: tl) (h1 : l[1]? = some (.p, T)) (hws : ∀ w ∈ ws, ∃ k, w = .lst k ∧ l[k]? = some (.p, T)) : ∀ (r : List AV) (j : Nat) (v6 : AV), ws.drop j = r → ∃ v6', Fl ⟨X1, f21, q⟩ ⟨[v0, .lst 1, v2, v3, v4, .oth 0, v6], l, [.rl ws]⟩ tgt (.lo 0 j) body (.ok .next ⟨[v0, .lst 1, v2, v3, v4, .oth 0, v6'], l, [.rl ws]⟩) := by
  have e := pr_eq (congrArg (fun b => prt b[9]?) hb)
  clear hb
  obtain ⟨rfl, rfl⟩ := e
  intro r
  induction r with
  | nil => exact fun j v6 hj => ⟨v6, fl_end (.loE rfl (by rw [← List.head?_drop, hj]; rfl))⟩
  | cons w r ih =>
    intro j v6 hj
    have hw : ws[j]? = some w := by rw [← List.head?_drop, hj]; rfl
    have hr : ws.drop (j + 1) = r := by rw [← List.tail_drop, hj]; rfl
    obtain ⟨k, rfl, hk⟩ := hws w (List.mem_of_getElem? hw)
    obtain ⟨v6', ih⟩ := ih (j + 1) (.lst k) hr
    exact ⟨v6', fl_step (.lo rfl hw) (as_name (n := 6) rfl) (es_cons (ex_ifF (tt_cmp (by walk_at "nm") (by walk_at "nm") (o_neL hk h1)) (by simp) es_nil) es_nil) ih⟩
theorem lam_p {ps : Arguments} {b : PySem.Expr} {sc : Scope} {k : Nat} (hk : sc.kind = .function) (hco : sc.isCoroutine = false) (hg : sc.isGenerator = false) (hce : ∀ x ∈ sc.names, x.2 ≠ .cell) (hl : sc.names.lookup (Str.ofString "pair") = some .local) (hbi : ∀ name qual pm code ctv u, bindArgs (kla_fn name qual ps b sc [] pm code ctv) ⟨[u], []⟩ = pure [(Str.ofString "pair", u)])
    (f : D → Int) (hE : ∀ x y, Ev ⟨X1, fl, k⟩ ⟨[.el .p [x, y]], [], []⟩ b (.ok (.int (f [x, y])) ⟨[.el .p [x, y]], [], []⟩)) (h2 : P2 ds) : ∀ d ∈ ds, LamOk X1 k ps b sc d (f d) := fun d hd => by
  obtain ⟨x, y, rfl⟩ := h2 d hd
  exact ⟨hk, hco, hg, hce, hl, hbi, hE x y⟩
theorem fn_by_calls (hz : ds.length < 60) (hp : P2 ds) (hI : Inc ds) (hn : -500 < n ∧ n < 500) {P : Addr} : FnZ X1 (q + 5) 21 [] [.lst 0, .lst 1, .int n] [] [(.p, ds), (.p, (sortD ds).take n.toNat)] (TabC X1 21 P []) [P] (TabZ P) (.bool true) [(.p, ds), (.p, (sortD ds).take n.toNat)] := by
  have hn' : -1000 < n ∧ n < 1000 := by lia
  obtain ⟨A, hA⟩ : ∃ A, A = ds.take (ds.length / 2) := ⟨_, rfl⟩
  obtain ⟨B, hB⟩ : ∃ B, B = ds.drop (ds.length / 2) := ⟨_, rfl⟩
  have hAB : A ++ B = ds := by rw [hA, hB, List.take_append_drop]
  have pA : P2 A := hp.sub fun d hd => by rw [hA] at hd; exact List.mem_of_mem_take hd
  have pB : P2 B := hp.sub fun d hd => by rw [hB] at hd; exact List.mem_of_mem_drop hd
  have lA : A.length ≤ ds.length := by rw [hA, List.length_take]; exact Nat.min_le_right _ _
  have lB : B.length ≤ ds.length := by rw [hB, List.length_drop]; exact Nat.sub_le _ _
  have lAB : A.length + B.length = ds.length := by rw [← List.length_append, hAB]
  obtain ⟨R1, hR1⟩ : ∃ R, R = (sortD A).take n.toNat := ⟨_, rfl⟩
  obtain ⟨R2, hR2⟩ : ∃ R, R = (sortD B).take n.toNat := ⟨_, rfl⟩
  have l1 : R1.length ≤ A.length := by rw [hR1, List.length_take, sortD_len]; exact Nat.min_le_right _ _
  have l2 : R2.length ≤ B.length := by rw [hR2, List.length_take, sortD_len]; exact Nat.min_le_right _ _
  have p12 : P2 (R1 ++ R2) := fun d hd => by
    rcases List.mem_append.mp hd with hd | hd
    · rw [hR1] at hd; exact pA d ((sortD_perm A).mem_iff.mp (List.mem_of_mem_take hd))
    · rw [hR2] at hd; exact pB d ((sortD_perm B).mem_iff.mp (List.mem_of_mem_take hd))
  have hT : (sortD (R1 ++ R2)).take n.toNat = (sortD ds).take n.toNat := by rw [hR1, hR2, take_parts, hAB]
  have pn : P2 (ds.map ngd) := hp.ngd
  have hU := turned_nl (w := n.toNat) hp
  obtain ⟨U, hUd⟩ : ∃ U, U = (sortB true (ds.map ngd)).take n.toNat := ⟨_, rfl⟩
  rw [← hUd] at hU
  have pU : P2 U := fun d hd => by rw [hUd] at hd; exact pn d ((sortB_perm true _).mem_iff.mp (List.mem_of_mem_take hd))
  have lU : U.length ≤ ds.length := by rw [hUd, List.length_take, (sortB_perm true _).length_eq, List.length_map]; exact Nat.min_le_right _ _
  obtain ⟨T, hTd⟩ : ∃ T, T = (sortD ds).take n.toNat := ⟨_, rfl⟩
  rw [← hTd] at hT hU ⊢
  have F0 := fx_ns (ds := ds) (q := q) (n := n) hp hz hn'
  have FA := fx_ns (ds := A) (q := q) (n := n) pA (Nat.lt_of_le_of_lt lA hz) hn'
  have FP := fx_ns (ds := R1 ++ R2) (q := q) (n := n) p12 (by rw [List.length_append]; lia) hn'
  have FB := fun I => fx_nsI (ds := B) (q := q) (n := n) (I := I) pB (Nat.lt_of_le_of_lt lB hz) hn'
  have FI := fun I => fx_nsI (ds := ds) (q := q) (n := n) (I := I) hp hz hn'
  have FU := fx_nl (ds := ds.map ngd) (q := q) (n := n) pn (by rw [List.length_map]; exact hz) hn'
  have FV := fun I => fx_nlI (ds := ds.map ngd) (q := q) (n := n) (I := I) pn (by rw [List.length_map]; exact hz) hn'
  rw [← hTd] at F0
  rw [hT] at FP
  rw [← hR1] at FA
  simp only [← hR2] at FB
  simp only [← hTd] at FI
  rw [← hUd] at FU
  simp only [← hUd] at FV
  have F0k := fun ps lb sc (hO : ∀ d ∈ ds, LamOk X1 0 ps lb sc d (1 * d.getD 0 0)) => fx_nsK (ds := ds) (q := q) (n := n) hp hz hn' (.lam (by lia) hO (fun _ => rfl) hI) rfl
  have F0i := fun ps lb sc (hO : ∀ d ∈ ds, LamOk X1 0 ps lb sc d (1 * d.getD 0 0)) I => fx_nsKI (ds := ds) (q := q) (n := n) (I := I) hp hz hn' (.lam (by lia) hO (fun _ => rfl) hI) rfl
  have F1k := fun ps lb sc (hO : ∀ d ∈ ds, LamOk X1 0 ps lb sc d (-1 * d.getD 0 0)) => fx_nlK (ds := ds) (q := q) (n := n) hp hz hn' (.lam (by lia) hO (fun _ => rfl) hI) rfl
  have F1i := fun ps lb sc (hO : ∀ d ∈ ds, LamOk X1 0 ps lb sc d (-1 * d.getD 0 0)) I => fx_nlKI (ds := ds) (q := q) (n := n) (I := I) hp hz hn' (.lam (by lia) hO (fun _ => rfl) hI) rfl
  simp only [← hTd] at F0k F0i F1k F1i
  have hpA : pickD ds none (some ((ds.length : Int) / 2)) none = A := by rw [pick_upto _ (by lia), hA]; congr 1
  have hpB : pickD ds (some ((ds.length : Int) / 2)) none none = B := by rw [pick_from _ (by lia), hB]; congr 1
  refine fn_tab (np := 3) (pv := [some 0, some 1, some 2, none, none, none, none]) ok21 rfl rfl (us3 fun _ _ _ _ _ _ => rfl) (fun j t x h1 h2 => by
    match j, h1 with
    | 0, h1 => cases h1; exact h2
    | 1, h1 => cases h1; exact h2
    | 2, h1 => cases h1; exact h2
    | 3, h1 | 4, h1 | 5, h1 | 6, h1 => cases h1) ?_ rfl
  show EsT ⟨X1, f21, q + 4⟩ ⟨[.lst 0, .lst 1, .int n, .unb, .unb, .unb, .unb], [(.p, ds), (.p, T)], []⟩ [] (bd X1.P 21) (.bool true) (List.take 2 [(.p, ds), (.p, T), (.p, A), (.p, R1), (.p, B), (.p, R2), (.p, R1 ++ R2), (.p, T), (.p, T), (.p, T), (.p, T), (.p, T), (.p, T), (.p, T), (.p, ds.map ngd), (.p, U), (.p, U.map ngd), (.p, ds.map ngd), (.p, U), (.p, U.map ngd)])
  refine et_cut ?_ (Nat.le_refl _) (fun _ => rfl)
  refine et_cons (ex_asg (ev_bin (ev_callB (g_len (by walk_at "mm")) (el_cons (by walk_at "nm") el_nil) (c_len rfl (by lia))) ev_int (o_fdiv (by decide))) (n := 3) rfl) ?_
  show EsT ⟨X1, f21, q + 4⟩ ⟨[.lst 0, .lst 1, .int n, .int ((ds.length : Int) / 2), .unb, .unb, .unb], [(.p, ds), (.p, T)], []⟩ _ _ _ _
  refine et_cons (ex_asg (ev_bin (ev_callX [2] g_ns (show 13 ∈ X1.ks by decide) (el_cons (by walk_at "nm") (el_cons (ev_slice (by walk_at "nm") rfl .none (.some (by walk_at "nm")) .none (by lia) hpA (by simp)) el_nil)) FA) (ev_callXH (j := 4) g_ns (show 13 ∈ X1.ks by decide) (by walk_at "nm") (hide_iter (g_iter (by walk_at "mm")) (el_cons (ev_is (ev_slice (by walk_at "nm") rfl (.some (by walk_at "nm")) .none .none (by lia) hpB (by simp)) rfl) el_nil) rfl) FB) (o_addL rfl rfl (by lia))) (n := 4) rfl) ?_
  show EsT ⟨X1, f21, q + 4⟩ ⟨[.lst 0, .lst 1, .int n, .int ((ds.length : Int) / 2), .lst 6, .unb, .unb], [(.p, ds), (.p, T), (.p, A), (.p, R1), (.p, B), (.p, R2), (.p, R1 ++ R2)], []⟩ _ _ _ _
  refine et_cons (ex_asg (ev_listO (el_cons (ev_callX [0] g_ns (show 13 ∈ X1.ks by decide) (el_cons (by walk_at "nm") (el_cons (by walk_at "nm") el_nil)) F0) (el_cons (ev_callXH (j := 0) g_ns (show 13 ∈ X1.ks by decide) (by walk_at "nm") (hide_iter (g_iter (by walk_at "mm")) (el_cons (by walk_at "nm") el_nil) rfl) FI) (el_cons (ev_callX [6] g_ns (show 13 ∈ X1.ks by decide) (el_cons (by walk_at "nm") (el_cons (by walk_at "nm") el_nil)) FP) el_nil))) (Nat.le_of_ble_eq_true rfl)) (n := 5) rfl) ?_
  show EsT ⟨X1, f21, q + 4⟩ ⟨[.lst 0, .lst 1, .int n, .int ((ds.length : Int) / 2), .lst 6, .oth 0, .unb], [(.p, ds), (.p, T), (.p, A), (.p, R1), (.p, B), (.p, R2), (.p, R1 ++ R2), (.p, T), (.p, T), (.p, T)], [.rl [.lst 7, .lst 8, .lst 9]]⟩ _ _ _ _
  refine et_appL (w := 0) (j := 0) (by walk_at "nm") rfl (Nat.le_of_ble_eq_true rfl) g_ns (show 13 ∈ X1.ks by decide) (by walk_at "nm") (by walk_at "nm") PySem.F.slot_list_append (F0k _ _ _ (lam_p rfl rfl rfl (by decide +kernel) rfl (fun _ _ _ _ _ _ => rfl) (fun d => 1 * d.getD 0 0) (fun x y => ev_is (ev_fstP (by walk_at "nm")) (congrArg AV.int (by show x = 1 * x; lia))) hp)) (by decide) (fun _ => rfl) (by decide +kernel) rfl rfl (Nat.le_refl _) rfl rfl ?_
  show EsT ⟨X1, f21, q + 4⟩ ⟨[.lst 0, .lst 1, .int n, .int ((ds.length : Int) / 2), .lst 6, .oth 0, .unb], [(.p, ds), (.p, T), (.p, A), (.p, R1), (.p, B), (.p, R2), (.p, R1 ++ R2), (.p, T), (.p, T), (.p, T), (.p, T)], [.rl [.lst 7, .lst 8, .lst 9, .lst 10]]⟩ _ _ _ _
  refine et_appH (w := 0) (j := 0) (by walk_at "nm") rfl (Nat.le_of_ble_eq_true rfl) g_ns (show 13 ∈ X1.ks by decide) (by walk_at "nm") (hide_iter (g_iter (by walk_at "mm")) (el_cons (by walk_at "nm") el_nil) rfl) PySem.F.slot_list_append (F0i _ _ _ (lam_p rfl rfl rfl (by decide +kernel) rfl (fun _ _ _ _ _ _ => rfl) (fun d => 1 * d.getD 0 0) (fun x y => ev_is (ev_fstP (by walk_at "nm")) (congrArg AV.int (by show x = 1 * x; lia))) hp)) (by decide) (fun _ => rfl) (by decide +kernel) rfl rfl (Nat.le_refl _) rfl rfl ?_
  show EsT ⟨X1, f21, q + 4⟩ ⟨[.lst 0, .lst 1, .int n, .int ((ds.length : Int) / 2), .lst 6, .oth 0, .unb], [(.p, ds), (.p, T), (.p, A), (.p, R1), (.p, B), (.p, R2), (.p, R1 ++ R2), (.p, T), (.p, T), (.p, T), (.p, T), (.p, T)], [.rl [.lst 7, .lst 8, .lst 9, .lst 10, .lst 11]]⟩ _ _ _ _
  refine et_appL (w := 0) (j := 0) (by walk_at "nm") rfl (Nat.le_of_ble_eq_true rfl) g_nl (show 14 ∈ X1.ks by decide) (by walk_at "nm") (by walk_at "nm") PySem.F.slot_list_append (F1k _ _ _ (lam_p rfl rfl rfl (by decide +kernel) rfl (fun _ _ _ _ _ _ => rfl) (fun d => -1 * d.getD 0 0) (fun x y => ev_is (ev_neg (ev_fstP (by walk_at "nm"))) (congrArg AV.int (by show -x = -1 * x; lia))) hp)) (by decide) (fun _ => rfl) (by decide +kernel) rfl rfl (Nat.le_refl _) rfl rfl ?_
  show EsT ⟨X1, f21, q + 4⟩ ⟨[.lst 0, .lst 1, .int n, .int ((ds.length : Int) / 2), .lst 6, .oth 0, .unb], [(.p, ds), (.p, T), (.p, A), (.p, R1), (.p, B), (.p, R2), (.p, R1 ++ R2), (.p, T), (.p, T), (.p, T), (.p, T), (.p, T), (.p, T)], [.rl [.lst 7, .lst 8, .lst 9, .lst 10, .lst 11, .lst 12]]⟩ _ _ _ _
  refine et_appH (w := 0) (j := 0) (by walk_at "nm") rfl (Nat.le_of_ble_eq_true rfl) g_nl (show 14 ∈ X1.ks by decide) (by walk_at "nm") (hide_iter (g_iter (by walk_at "mm")) (el_cons (by walk_at "nm") el_nil) rfl) PySem.F.slot_list_append (F1i _ _ _ (lam_p rfl rfl rfl (by decide +kernel) rfl (fun _ _ _ _ _ _ => rfl) (fun d => -1 * d.getD 0 0) (fun x y => ev_is (ev_neg (ev_fstP (by walk_at "nm"))) (congrArg AV.int (by show -x = -1 * x; lia))) hp)) (by decide) (fun _ => rfl) (by decide +kernel) rfl rfl (Nat.le_refl _) rfl rfl ?_
  show EsT ⟨X1, f21, q + 4⟩ ⟨[.lst 0, .lst 1, .int n, .int ((ds.length : Int) / 2), .lst 6, .oth 0, .unb], [(.p, ds), (.p, T), (.p, A), (.p, R1), (.p, B), (.p, R2), (.p, R1 ++ R2), (.p, T), (.p, T), (.p, T), (.p, T), (.p, T), (.p, T), (.p, T)], [.rl [.lst 7, .lst 8, .lst 9, .lst 10, .lst 11, .lst 12, .lst 13]]⟩ _ _ _ _
  refine et_cons (ex_expr (ev_methO (by walk_at "nm") rfl PySem.F.slot_list_append PySem.F.type_list_append (el_cons (ev_cf 18 [15] (by walk_at "mm") (by decide) (el_cons (ev_callX [14] g_nl (show 14 ∈ X1.ks by decide) (el_cons (by walk_at "nm") (el_cons (ev_cf 18 [0] (by walk_at "mm") (by decide) (el_cons (by walk_at "nm") el_nil) (hq := by show q + 1 ≤ q + 4; lia) (hF := fn_turned (q := q) (by lia) hp)) el_nil)) FU) el_nil) (hq := by show q + 1 ≤ q + 4; lia) (hF := fn_turned (q := q) (by lia) pU)) el_nil) (m_appendO rfl (Nat.le_of_ble_eq_true rfl)))) ?_
  show EsT ⟨X1, f21, q + 4⟩ ⟨[.lst 0, .lst 1, .int n, .int ((ds.length : Int) / 2), .lst 6, .oth 0, .unb], [(.p, ds), (.p, T), (.p, A), (.p, R1), (.p, B), (.p, R2), (.p, R1 ++ R2), (.p, T), (.p, T), (.p, T), (.p, T), (.p, T), (.p, T), (.p, T), (.p, ds.map ngd), (.p, U), (.p, U.map ngd)], [.rl [.lst 7, .lst 8, .lst 9, .lst 10, .lst 11, .lst 12, .lst 13, .lst 16]]⟩ _ _ _ _
  refine et_cons (ex_expr (ev_methO (by walk_at "nm") rfl PySem.F.slot_list_append PySem.F.type_list_append (el_cons (ev_cf 18 [18] (by walk_at "mm") (by decide) (el_cons (ev_callXH (j := 17) g_nl (show 14 ∈ X1.ks by decide) (by walk_at "nm") (hide_iter (g_iter (by walk_at "mm")) (el_cons (ev_is (ev_cf 18 [0] (by walk_at "mm") (by decide) (el_cons (by walk_at "nm") el_nil) (hq := by show q + 1 ≤ q + 4; lia) (hF := fn_turned (q := q) (by lia) hp)) rfl) el_nil) rfl) FV) el_nil) (hq := by show q + 1 ≤ q + 4; lia) (hF := fn_turned (q := q) (by lia) pU)) el_nil) (m_appendO rfl (Nat.le_of_ble_eq_true rfl)))) ?_
  show EsT ⟨X1, f21, q + 4⟩ ⟨[.lst 0, .lst 1, .int n, .int ((ds.length : Int) / 2), .lst 6, .oth 0, .unb], [(.p, ds), (.p, T), (.p, A), (.p, R1), (.p, B), (.p, R2), (.p, R1 ++ R2), (.p, T), (.p, T), (.p, T), (.p, T), (.p, T), (.p, T), (.p, T), (.p, ds.map ngd), (.p, U), (.p, U.map ngd), (.p, ds.map ngd), (.p, U), (.p, U.map ngd)], [.rl [.lst 7, .lst 8, .lst 9, .lst 10, .lst 11, .lst 12, .lst 13, .lst 16, .lst 19]]⟩ _ _ _ _
  rw [hU]
  obtain ⟨v6', hlp⟩ := lp_ways (q := q + 4) (T := T) (l := [(.p, ds), (.p, T), (.p, A), (.p, R1), (.p, B), (.p, R2), (.p, R1 ++ R2), (.p, T), (.p, T), (.p, T), (.p, T), (.p, T), (.p, T), (.p, T), (.p, ds.map ngd), (.p, U), (.p, T), (.p, ds.map ngd), (.p, U), (.p, T)]) (v0 := .lst 0) (v2 := .int n) (v3 := .int ((ds.length : Int) / 2)) (v4 := .lst 6) (ws := [.lst 7, .lst 8, .lst 9, .lst 10, .lst 11, .lst 12, .lst 13, .lst 16, .lst 19]) rfl rfl (fun w hw => by
    simp only [List.mem_cons, List.not_mem_nil, or_false] at hw
    rcases hw with rfl | rfl | rfl | rfl | rfl | rfl | rfl | rfl | rfl <;> exact ⟨_, rfl, rfl⟩) _ 0 .unb rfl
  exact et_drop (er_cons (ex_for (ite_rl (by walk_at "nm") rfl) hlp) (er_of (es_ret (ex_ret ev_bool)) rfl))
end
end
section
noncomputable abbrev f22 : Fi := ⟨[Str.ofString "script", Str.ofString "first", Str.ofString "pairs", Str.ofString "size", Str.ofString "wish", Str.ofString "many", Str.ofString "order", Str.ofString "before"], [(Str.ofString "cells", 0)], [Str.ofString "range", Str.ofString "len", Str.ofString "min", Str.ofString "max", Str.ofString "_law_order", Str.ofString "list", Str.ofString "_law_by_heaps", Str.ofString "_law_by_few_held", Str.ofString "_law_by_calls"], true, true⟩
noncomputable abbrev f22c : Fi := ⟨[Str.ofString "place"], [(Str.ofString "cells", 0)], [Str.ofString "_law_value"], true, false⟩
noncomputable def prd (cs : List D) (j : Nat) : D := [lval ((cs.getD j []).getD 0 0), (j : Int)]
section
variable {q : Nat}
theorem cl_pairs {cs : List D} {l : List LC} {o : List AO} {ip p1 p2 p3 p4 p5 p6 p7 p8 : Pos} {k : Nat} (hl : l[2]? = some (.i, cs)) (hcs : ∀ d ∈ cs, ∃ z : Int, d = [z]) (hz : cs.length < 100) : ∀ (m j : Nat) (out : List D) (v : AV), j + m = cs.length → out.length = j → ∃ v', Cl ⟨X1, f22c, q + 1⟩ ⟨[v], l, .cell (.lst 2) :: o⟩ (.Name (Str.ofString "place") p1) (.Tuple [.Call (.Name (Str.ofString "_law_value") p2) [.Subscript (.Name (Str.ofString "cells") p3) (.Name (Str.ofString "place") p4) p5] [] p6, .Name (Str.ofString "place") p7] k p8) [] (.ri j m 1) .p out (out ++ (List.range m).map fun i => prd cs (j + i)) ⟨[v'], l, .cell (.lst 2) :: o⟩ := by
  intro m
  induction m with
  | zero =>
    intro j out v hj ho
    refine ⟨v, ?_⟩
    rw [List.range_zero, List.map_nil, List.append_nil]
    exact cl_end (.riE (by lia)) rfl
  | succ m ih =>
    intro j out v hj ho
    have hlt : j < cs.length := by lia
    obtain ⟨z, hzz⟩ := hcs _ (List.getElem_mem hlt)
    have hg : cs[j]? = some [z] := by rw [List.getElem?_eq_getElem hlt, hzz]
    have hp : prd cs j = [lval z, (j : Int)] := by unfold prd; simp [List.getD, hg]
    obtain ⟨v', ih⟩ := ih (j + 1) (out ++ [prd cs j]) (.int j) (by lia) (by simp [ho])
    refine ⟨v', cl_step (d := prd cs j) (.ri (by lia)) ow_plain (as_name (n := 0) rfl) (ev_is (ev_tupP (el_cons (ev_cf 16 [] (by walk_at "mm") (by decide) (el_cons (ev_itemI (ev_cell (by walk_at "mm") rfl rfl) (by walk_at "nm") (n := j) rfl hl hg (by lia)) el_nil) (hF := fn_value (q := q) (x := z)) (e4 := by show l ++ [] = _; rw [List.append_nil])) (el_cons (by walk_at "nm") el_nil))) (by rw [hp]; rfl)) (by lia) ?_⟩
    have e1 : (((m + 1 : Nat) : Int) - 1) = (m : Int) := by lia
    have e2 : ((j : Int) + 1) = ((j + 1 : Nat) : Int) := by lia
    rw [e1, e2, List.range_succ_eq_map, List.map_cons, List.map_map]
    rw [show out ++ prd cs (j + 0) :: (List.range m).map ((fun i => prd cs (j + i)) ∘ Nat.succ) = out ++ [prd cs j] ++ (List.range m).map fun i => prd cs (j + 1 + i) by
      simp only [List.append_assoc, List.cons_append, List.nil_append, Nat.add_zero]
      congr 2
      refine List.map_congr_left fun i _ => ?_
      simp only [Function.comp, Nat.succ_eq_add_one]
      congr 1; lia]
    exact ih
theorem law_run {l : Addr} {xs : List Value} {ns : List Int} {P : Addr} (hI : IntsAre xs ns) (hz : xs.length < 100) : EsU ⟨X1, f22, q + 5⟩ ⟨[.val (.ref l), .unb, .unb, .unb, .unb, .unb, .unb, .unb], [], [.cell .unb]⟩ P (fun c => c.B.hB.IsList l xs.toArray) (bd X1.P 22) (.bool true) := by
  obtain ⟨sl, hsl⟩ : ∃ sl, sl = pickD (ns.map fun z => [z]) (some 1) (some 31) none := ⟨_, rfl⟩
  have lsl : sl.length ≤ 30 := by rw [hsl]; exact pick_len _
  have msl : ∀ d ∈ sl, ∃ z : Int, d = [z] := fun d hd => by
    rw [hsl] at hd
    obtain ⟨z, _, rfl⟩ := List.mem_map.mp (pick_sub hd)
    exact ⟨z, rfl⟩
  obtain ⟨cs, hcs⟩ : ∃ cs, cs = sl ++ [[10], [5], [10], [3]] := ⟨_, rfl⟩
  have lcs : cs.length ≤ 34 ∧ 4 ≤ cs.length := by rw [hcs, List.length_append]; constructor <;> simp <;> lia
  have mcs : ∀ d ∈ cs, ∃ z : Int, d = [z] := fun d hd => by
    rw [hcs] at hd
    rcases List.mem_append.mp hd with hd | hd
    · exact msl d hd
    · simp only [List.mem_cons, List.not_mem_nil, or_false] at hd
      rcases hd with rfl | rfl | rfl | rfl <;> exact ⟨_, rfl⟩
  obtain ⟨ds, hds⟩ : ∃ ds, ds = (List.range cs.length).map fun i => prd cs (0 + i) := ⟨_, rfl⟩
  have lds : ds.length = cs.length := by rw [hds]; simp
  have pds : P2 ds := fun d hd => by
    rw [hds] at hd
    obtain ⟨i, _, rfl⟩ := List.mem_map.mp hd
    exact ⟨_, _, rfl⟩
  have ids : Inc ds := by
    rw [hds]
    unfold Inc
    rw [List.pairwise_map]
    refine List.Pairwise.imp (fun {a b} hab => ?_) List.pairwise_lt_range
    show ((0 + a : Nat) : Int) < ((0 + b : Nat) : Int)
    lia
  have nds : (sortD ds).Nodup := by
    refine (sortD_perm ds).nodup_iff.mpr (List.Pairwise.imp (fun {a b} hab e => ?_) ids)
    rw [e] at hab
    exact Int.lt_irrefl _ hab
  obtain ⟨w, hw⟩ : ∃ w, w = ns.headD 3 % ((cs.length : Int) + 3) - 1 := ⟨_, rfl⟩
  have bw : -500 < w ∧ w < 500 := by
    have h1 := Int.emod_nonneg (ns.headD 3) (show (cs.length : Int) + 3 ≠ 0 by lia)
    have h2 := Int.emod_lt_of_pos (ns.headD 3) (show 0 < (cs.length : Int) + 3 by lia)
    rw [hw]; constructor <;> lia
  obtain ⟨m, hm⟩ : ∃ m : Nat, m = min w.toNat ds.length := ⟨_, rfl⟩
  have em : min (max w 0) (ds.length : Int) = (m : Int) := by rw [hm, ← Int.ofNat_toNat]; exact min_nat _ _
  have em' : min (max w 0) (Int.ofNat cs.length) = (m : Int) := by rw [← em, lds]; rfl
  have hTm : (sortD ds).take m = (sortD ds).take w.toNat := by
    rw [hm]
    rcases Nat.le_total w.toNat ds.length with h | h
    · rw [Nat.min_eq_left h]
    · rw [Nat.min_eq_right h, List.take_of_length_le (by rw [sortD_len]; exact Nat.le_refl _), List.take_of_length_le (by rw [sortD_len]; exact h)]
  have hC := fun (p1 p2 p3 p4 p5 p6 p7 p8 : Pos) (k : Nat) => cl_pairs (q := q + 4) (cs := cs) (l := [(.i, sl), (.i, [[10], [5], [10], [3]]), (.i, cs)]) (o := [.rg 0 cs.length 1]) (p1 := p1) (p2 := p2) (p3 := p3) (p4 := p4) (p5 := p5) (p6 := p6) (p7 := p7) (p8 := p8) (k := k) (ip := p1) rfl mcs (by lia) cs.length 0 [] .unb (Nat.zero_add _) rfl
  simp only [List.nil_append, ← hds] at hC
  refine eu_cons (exw_asg (evw_first (n := 0) rfl rfl hI (by lia)) (n := 1) rfl) ?_
  refine eu_cons (exw_asgC (evw_bin (evw_slice (n := 0) rfl rfl hI (by lia)) (ev_list (k := .i) (ds := [[10], [5], [10], [3]]) (el_cons ev_int (el_cons ev_int (el_cons ev_int (el_cons ev_int el_nil)))) (by decide)) (o_addL rfl rfl (by rw [← hsl]; simp; lia))) (by walk_at "mm") rfl) ?_
  rw [← hsl, ← hcs]
  show EsU ⟨X1, f22, q + 5⟩ ⟨[.val (.ref l), .int (ns.headD 3), .unb, .unb, .unb, .unb, .unb, .unb], [(.i, sl), (.i, [[10], [5], [10], [3]]), (.i, cs)], [.cell (.lst 2)]⟩ _ _ _ _
  refine eu_cons (exw (ex_comp1 (fi' := f22c) (n := 2) (σ₁ := ⟨[.val (.ref l), .int (ns.headD 3), .unb, .unb, .unb, .unb, .unb, .unb], [(.i, sl), (.i, [[10], [5], [10], [3]]), (.i, cs)], [.cell (.lst 2), .rg 0 cs.length 1]⟩) (ite_rg (n := cs.length) (ev_callT (g_range (by walk_at "mm")) (el_cons (ev_callB (g_len (by walk_at "mm")) (el_cons (ev_cell (by walk_at "mm") rfl rfl) el_nil) (c_len rfl (by lia))) el_nil) c_range1) rfl (small_up (by lia)) size_up) rfl ⟨by decide +kernel, by decide +kernel, by decide +kernel, by decide +kernel, by decide +kernel, rfl, by decide +kernel, by decide +kernel, rfl, rfl⟩ rfl rfl rfl rfl (let ⟨v', c⟩ := hC _ _ _ _ _ _ _ _ _; ⟨[v'], c⟩) rfl rfl rfl)) ?_
  show EsU ⟨X1, f22, q + 5⟩ ⟨[.val (.ref l), .int (ns.headD 3), .lst 3, .unb, .unb, .unb, .unb, .unb], [(.i, sl), (.i, [[10], [5], [10], [3]]), (.i, cs), (.p, ds)], [.cell (.lst 2), .rg 0 cs.length 1]⟩ _ _ _ _
  refine eu_cons (exw (ex_asg (ev_is (ev_callB (g_len (by walk_at "mm")) (el_cons (by walk_at "nm") el_nil) (c_len rfl (by lia))) (congrArg AV.int (congrArg Int.ofNat lds))) (n := 3) rfl)) ?_
  refine eu_cons (exw (ex_asg (ev_is (ev_bin (ev_bin (by walk_at "nm") (ev_bin (by walk_at "nm") ev_int o_add) (o_mod (by show (0 : Int) < (cs.length : Int) + 3; lia))) ev_int o_sub) (congrArg AV.int hw.symm)) (n := 4) rfl)) ?_
  refine eu_cons (exw (ex_asg (ev_is (ev_callB (g_min (by walk_at "mm")) (el_cons (ev_callB (g_max (by walk_at "mm")) (el_cons (by walk_at "nm") (el_cons ev_int el_nil)) (c_max2 rfl)) (el_cons (by walk_at "nm") el_nil)) (c_min2 rfl)) (congrArg AV.int em')) (n := 5) rfl)) ?_
  show EsU ⟨X1, f22, q + 5⟩ ⟨[.val (.ref l), .int (ns.headD 3), .lst 3, .int cs.length, .int w, .int m, .unb, .unb], [(.i, sl), (.i, [[10], [5], [10], [3]]), (.i, cs), (.p, ds)], [.cell (.lst 2), .rg 0 cs.length 1]⟩ _ _ _ _
  refine eu_cons (exw (ex_asg (ev_cf 17 [3] (by walk_at "mm") (by decide) (el_cons (by walk_at "nm") el_nil) (hq := by show q + 1 ≤ q + 5; lia) (hF := fn_order (q := q) (by lia) nds)) (n := 6) rfl)) ?_
  refine eu_cons (exw (ex_asg (ev_callT (g_list (by walk_at "mm")) (el_cons (by walk_at "nm") el_nil) (c_list rfl (by lia))) (n := 7) rfl)) ?_
  show EsU ⟨X1, f22, q + 5⟩ ⟨[.val (.ref l), .int (ns.headD 3), .lst 3, .int cs.length, .int w, .int m, .lst 4, .lst 5], [(.i, sl), (.i, [[10], [5], [10], [3]]), (.i, cs), (.p, ds), (.p, sortD ds), (.p, ds)], [.cell (.lst 2), .rg 0 cs.length 1]⟩ _ _ _ _
  have hmm : m ≤ ds.length := hm ▸ Nat.min_le_right _ _
  have hSl := sortD_len ds
  have hm0 : (0 : Int) ≤ (m : Int) := by lia
  refine eu_cons (exw (ex_ifF (tt_not (tt_plain (ev_cf 19 [3, 4] (by walk_at "mm") (by decide) (el_cons (by walk_at "nm") (el_cons (by walk_at "nm") (el_cons (by walk_at "nm") el_nil))) (hq := by show q + 4 ≤ q + 5; lia) (hF := fn_by_heaps (q := q) (n := m) (by lia) (by lia) pds hmm)) b_bool)) rfl es_nil)) ?_
  show EsU ⟨X1, f22, q + 5⟩ ⟨[.val (.ref l), .int (ns.headD 3), .lst 3, .int cs.length, .int w, .int m, .lst 4, .lst 5], [(.i, sl), (.i, [[10], [5], [10], [3]]), (.i, cs), (.p, ds), (.p, sortD ds), (.p, ds)], [.cell (.lst 2), .rg 0 cs.length 1]⟩ _ _ _ _
  refine eu_cons (exw (ex_ifF (tt_not (tt_plain (ev_cf 20 [3, 6, 7] (by walk_at "mm") (by decide) (el_cons (by walk_at "nm") (el_cons (ev_slice (by walk_at "nm") rfl .none (.some (by walk_at "nm")) .none (by lia) (pick_upto _ hm0) (by simp)) (el_cons (ev_slice (by walk_at "nm") rfl (.some (by walk_at "nm")) .none .none (by lia) (pick_from _ hm0) (by simp)) el_nil))) (hq := by show q + 4 ≤ q + 5; lia) (hF := fn_by_few (q := q) (n := m) (by lia) pds hmm)) b_bool)) rfl es_nil)) ?_
  show EsU ⟨X1, f22, q + 5⟩ ⟨[.val (.ref l), .int (ns.headD 3), .lst 3, .int cs.length, .int w, .int m, .lst 4, .lst 5], [(.i, sl), (.i, [[10], [5], [10], [3]]), (.i, cs), (.p, ds), (.p, sortD ds), (.p, ds), (.p, (sortD ds).take m), (.p, (sortD ds).drop m)], [.cell (.lst 2), .rg 0 cs.length 1]⟩ _ _ _ _
  have hpm : pickD (sortD ds) none (some (m : Int)) none = (sortD ds).take w.toNat := by rw [pick_upto _ hm0]; exact hTm
  exact eu_ret (i := 21) (as := [.lst 3, .lst 8, .int w]) (σ₂ := ⟨[.val (.ref l), .int (ns.headD 3), .lst 3, .int cs.length, .int w, .int m, .lst 4, .lst 5], [(.i, sl), (.i, [[10], [5], [10], [3]]), (.i, cs), (.p, ds), (.p, sortD ds), (.p, ds), (.p, (sortD ds).take m), (.p, (sortD ds).drop m), (.p, (sortD ds).take w.toNat)], [.cell (.lst 2), .rg 0 cs.length 1]⟩) [3, 8] (g_fn 21 (by walk_at "mm") (by decide)) (show 21 ∈ X1.js by decide) rfl (el_cons (by walk_at "nm") (el_cons (ev_is (ev_slice (by walk_at "nm") rfl .none (.some (by walk_at "nm")) .none (by lia) hpm (by simp)) rfl) (el_cons (by walk_at "nm") el_nil))) (fn_by_calls (q := q) (n := w) (by lia) pds ids bw) (ev_is (ev_cmp (by walk_at "nm") (by walk_at "nm") (o_eqL rfl rfl)) (congrArg AV.bool (decide_eq_true rfl))) rfl rfl rfl (Nat.le_refl _) rfl (by decide) rfl rfl
end
end
section
noncomputable def fq (P : Program) (i : Nat) : Str × Arguments × List Stmt × Scope := (nm P i, pr P i, bd P i, sc P i)
theorem gd_of {P vw : Program} {js js' ks : List Nat} {free loose : List Str} {mean : ExcName → Option Value} {mg mb : Str → Option Value} {h : Heap} (T : Top vw loose mean mg mb h) (Y : Says1 P ks h)
    (hj : (recsOf vw).map (fun d => (d.name, d.params, d.body, d.scope)) = js'.map (fq P)) (hs : ∀ i ∈ js, i ∈ js')
    (hf : (free.all fun x => !(startupNames.contains x) && !(loose.contains x) && !(((recsOf vw).map (·.name)).contains x) && !(((litsOf vw).map (·.1)).contains x) && !(((clssOf vw loose).map (·.name)).contains x)) = true) :
    Gd P js ks free mg mb h where
  g := T.g
  b := T.b
  nolimit := T.nolimit
  blt := T.builtins
  free := fun x hx => by
    have := List.all_eq_true.mp hf x hx
    simp only [Bool.and_eq_true, Bool.not_eq_true', List.contains_eq_mem, decide_eq_false_iff_not] at this
    exact T.free x this.1.1.1.1 this.1.1.1.2 this.1.1.2 this.1.2 this.2
  fn := fun i hi => by
    have : fq P i ∈ (recsOf vw).map (fun d => (d.name, d.params, d.body, d.scope)) := hj ▸ List.mem_map_of_mem (hs i hi)
    obtain ⟨d, hd, e⟩ := List.mem_map.mp this
    obtain ⟨a, o, pm, code, doc, q1, q2, q3, q4⟩ := T.fn d hd
    simp only [fq, Prod.mk.injEq] at e
    obtain ⟨e1, e2, e3, e4⟩ := e
    rw [e1] at q1 q4
    rw [e1, e2, e3, e4] at q3
    have hfa : fa P mg i = a := by unfold fa; rw [q1]
    rw [hfa]
    exact ⟨q1, o, pm, code, doc, q2, q3, q4⟩
  fd := fun i hi => by
    obtain ⟨m, hm, y⟩ := Y
    obtain ⟨a, o, pm, code, doc, dA, dO, dn, q1, q2, q3, q4, q5, q6⟩ := y i hi
    rw [hm.agree T.g] at q1
    have hfa : fa P mg i = a := by unfold fa; rw [q1]
    rw [hfa]
    exact ⟨q1, o, pm, code, doc, dA, dO, dn, q2, q3, q4, q5, q6⟩
theorem tab_of {P vw : Program} {js' : List Nat} {loose : List Str} {mean : ExcName → Option Value} {mg mb : Str → Option Value} {h : Heap} (T : Top vw loose mean mg mb h) (hj : (recsOf vw).map (fun d => (d.name, d.params, d.body, d.scope)) = js'.map (fq P)) (i : Nat) (hs : i ∈ js') :
    ∃ cc tP, TabsAt [(cc, tP)] h ∧ (∃ o pm doc, h.get? (fa P mg i) = some o ∧ o.data = .func (Calls.docDef (nm P i) (pr P i) (bd P i) (sc P i) pm (.ref cc) doc) ∧ h.CodeRec (.ref cc) (nm P i)) ∧ h.BuiltinsAt mg tP := by
  have : fq P i ∈ (recsOf vw).map (fun d => (d.name, d.params, d.body, d.scope)) := hj ▸ List.mem_map_of_mem hs
  obtain ⟨d, hd, e⟩ := List.mem_map.mp this
  obtain ⟨a, o, pm, code, doc, q1, q2, q3, q4⟩ := T.fn d hd
  obtain ⟨a', o', fd, c, tP, r1, r2, r3, r4, r5, r6⟩ := T.tab d hd
  simp only [fq, Prod.mk.injEq] at e
  obtain ⟨e1, e2, e3, e4⟩ := e
  rw [q1] at r1; cases r1
  rw [q2] at r2; cases r2
  rw [q3] at r3; cases r3
  have r4 : code = .ref c := r4
  subst r4
  rw [e1] at q1 q4
  rw [e1, e2, e3, e4] at q3
  have hfa : fa P mg i = a := by unfold fa; rw [q1]
  have hC := CodeHd.of r5 r6
  have hP : h.get? tP = some (tabObj #[]) := r6.2
  obtain ⟨bm, ob, b1, b2, b3, b4, b5, b6⟩ := T.bmain
  refine ⟨c, tP, fun q hq => by rw [List.mem_singleton.mp hq]; exact ⟨hC, hP⟩, ⟨o, pm, doc, by rw [hfa]; exact q2, q3, q4⟩, bm, ob, b1, b2, fun q => ?_, fun q => ?_, b3, b4, b5, b6⟩
  · obtain ⟨o, es, ep, e, hd, _⟩ := T.g
    rw [q, e] at b3; cases b3; rw [hd] at b6; cases b6
  · rw [q, hP] at b3; cases b3; cases b4
section
variable {tabs : List (Addr × Addr)} {h : Heap}
theorem ghost_rec {cv : Value} {n : Str} (hT : TabsAt tabs h) (x : h.CodeRec cv n) : (ghostOf h tabs).CodeRec cv n := by
  obtain ⟨c, oc, vs, t, e1, e2, e3, e4⟩ := x
  refine ⟨c, oc, vs, t, e1, ghost_get hT e2 (fun q => ?_), e3, e4⟩
  rw [q] at e3; cases e3; cases e4
theorem gd_ghost {P : Program} {js ks : List Nat} {free : List Str} {mg mb : Str → Option Value} (hT : TabsAt tabs h) (G : Gd P js ks free mg mb h) : Gd P js ks free mg mb (ghostOf h tabs) where
  g := ghost_ns hT G.g
  b := ghost_ns hT G.b
  nolimit := let ⟨mc, a, r⟩ := G.nolimit; ⟨mc, ghost_ns hT a, r⟩
  blt := G.blt
  free := G.free
  fn := fun i hi => by obtain ⟨h1, o, pm, code, doc, h2, h3, h4⟩ := G.fn i hi; exact ⟨h1, o, pm, code, doc, ghost_get hT h2 (fun q => by rw [q] at h3; cases h3), h3, ghost_rec hT h4⟩
  fd := fun i hi => by obtain ⟨h1, o, pm, code, doc, dA, dO, dn, h2, h3, h4, h5, h6⟩ := G.fd i hi; exact ⟨h1, o, pm, code, doc, dA, dO, dn, ghost_get hT h2 (fun q => by rw [q] at h3; cases h3), h3, ghost_rec hT h4, ghost_get hT h5 (fun q => by rw [q] at h6; cases h6), h6⟩
end
theorem gd2 {mean : ExcName → Option Value} {mg mb : Str → Option Value} {h : Heap} (T : Top vw (looseW vw [Str.ofString "nsmallest", Str.ofString "nlargest"]) mean mg mb h) (Y : Says1 X1.P X1.ks h) : Gd X1.P X1.js X1.ks X1.free mg mb h :=
  gd_of (js' := [1,2,3,4,5,6,7,8,9,10,11,12,16,17,18,19,20,21,22]) T Y (by kernel_rfl) (by decide) (by kernel_rfl)
theorem tab2 {mean : ExcName → Option Value} {mg mb : Str → Option Value} {h : Heap} (T : Top vw (looseW vw [Str.ofString "nsmallest", Str.ofString "nlargest"]) mean mg mb h) : ∃ cc tP, TabsAt [(cc, tP)] h ∧ (∃ o pm doc, (ghostOf h [(cc, tP)]).get? (fa X1.P mg 21) = some o ∧ o.data = .func (Calls.docDef (nm X1.P 21) (pr X1.P 21) (bd X1.P 21) (sc X1.P 21) pm (.ref cc) doc) ∧ (ghostOf h [(cc, tP)]).CodeRec (.ref cc) (nm X1.P 21)) ∧ CodeHd (ghostOf h [(cc, tP)]) cc tP ∧ (ghostOf h [(cc, tP)]).BuiltinsAt mg tP := by
  obtain ⟨cc, tP, hT, ⟨o, pm, doc, f1, f2, f3⟩, bm, ob, b1, b2, b3, b4, b5, b6, b7, b8⟩ := tab_of (P := X1.P) (js' := [1,2,3,4,5,6,7,8,9,10,11,12,16,17,18,19,20,21,22]) T (by kernel_rfl) 21 (by decide)
  exact ⟨cc, tP, hT, ⟨o, pm, doc, ghost_get hT f1 (fun q => by rw [q] at f2; cases f2), f2, ghost_rec hT f3⟩, (ghost_code hT).1, bm, ob, b1, b2, b3, b4, ghost_get hT b5 (fun q => by rw [q] at b6; cases b6), b6, b7, b8⟩
end
section
theorem kn22 : (∀ x ∈ f22.tb, (sc X1.P 22).names.lookup x = some .local) ∧ (∀ p ∈ f22.cs, (sc X1.P 22).names.lookup p.1 = some .cell) ∧ (∀ x ∈ f22.gl, (sc X1.P 22).names.lookup x = some .globalImplicit) ∧ (∀ x ∈ f22.tb ++ (f22.cs.map (·.1) ++ f22.gl), (x == ("__debug__" : Str)) = false) ∧ f22.tb.Nodup := by
  refine ⟨?_, ?_, ?_, ?_, ?_⟩ <;> decide +kernel
theorem c_law2 {cc tP : Addr} {h h₁ : Heap} {L f l : Addr} {m mg mb : Str → Option Value} {oc : Obj} {cd : Value} {prog : Program} {w : World} {s : Shared} {tk : Nat} {xs : List Value} {ns : List Int} {Q : Flow → Shared → Prop} {E : Value → Shared → Prop} (hT : TabsAt [(cc, tP)] h) (F : Fr h L h₁ m) (N : News h L h₁ [(L + 1, oc)]) (hoc : ∃ u, oc.data = .cell u) (G : Gd X1.P X1.js X1.ks X1.free mg mb h)
    (hfn : ∃ o pm doc, (ghostOf h [(cc, tP)]).get? (fa X1.P mg 21) = some o ∧ o.data = .func (Calls.docDef (nm X1.P 21) (pr X1.P 21) (bd X1.P 21) (sc X1.P 21) pm (.ref cc) doc) ∧ (ghostOf h [(cc, tP)]).CodeRec (.ref cc) (nm X1.P 21)) (hCd : CodeHd (ghostOf h [(cc, tP)]) cc tP) (hBl : (ghostOf h [(cc, tP)]).BuiltinsAt mg tP)
    (hm : m (Str.ofString "script") = some (.ref l)) (hL : h.IsList l xs.toArray) (hI : IntsAre xs ns) (hz : xs.length < 100)
    (ret : ∀ h' tk' m', Fr (ghostOf h [(cc, tP)]) L h' m' → GrownAll [(cc, tP)] h' → Q (.ret (.bool true)) (mk s h' tk')) :
    wpAny (model prog w) (callerA.deeper (envOfC (nm X1.P 22) (sc X1.P 22) L f cd)) (execs (bd X1.P 22) (envOfC (nm X1.P 22) (sc X1.P 22) L f cd)) Q E (mk s h₁ tk) := by
  obtain ⟨k1, k2, k3, k4, k5⟩ := kn22
  have hN := ghost_news hT F N
  have hlt := ghost_lt hT F (tP, tabObj #[]) (.head _)
  have hlt : tP < L := hlt
  obtain ⟨c, hc⟩ : ∃ c : Kx, c = ⟨prog, w, callerA.deeper (envOfC (nm X1.P 22) (sc X1.P 22) L f cd), s, ⟨ghostOf h [(cc, tP)], []⟩, L, envOfC (nm X1.P 22) (sc X1.P 22) L f cd, mg, mb, none⟩ := ⟨_, rfl⟩
  have R : Rep ⟨X1, f22, 5⟩ c ⟨[.val (.ref l), .unb, .unb, .unb, .unb, .unb, .unb, .unb], [], [.cell .unb]⟩ h₁ ⟨m, [], [(L + 1, oc), (tP, tabObj #[])], [], [], [L + 1]⟩ := by
    subst hc
    refine { gd := gd_ghost hT G, below := ⟨_, [], rfl, rfl, rfl, .nil⟩, depth := (by show callerA.depth + 1 + 5 < 900; decide), units := (by show callerA.units + 3 + 3 * 5 < 9000; decide), handled := fun _ => rfl, en := ⟨rfl, k1, k2, k3, rfl, rfl, fun x hx => k4 x ?_, rfl⟩, st := ⟨ghost_fr hT F, ⟨[], [], .nil, .nil, fun p hp => hN p ?_⟩, ?_, fun _ _ p hp => nomatch hp⟩, lr := ⟨.nil, .cons ⟨oc, .head _, ?_⟩ .nil, List.nodup_nil, by simp⟩, vr := ?_, nd := k5, ce := fun p hp => ?_, fn := fun _ => rfl, own := fun _ => rfl, top := fun _ => ⟨[], rfl, rfl, .nil⟩, cp := fun m hm => nomatch hm }
    · rcases hx with hx | hx | hx
      · exact List.mem_append_left _ hx
      · exact List.mem_append_right _ (List.mem_append_left _ hx)
      · exact List.mem_append_right _ (List.mem_append_right _ hx)
    · exact hp
    · show [L + 1, tP].Nodup
      simp; lia
    · obtain ⟨u, hu⟩ := hoc
      exact ⟨u, hu, .inl rfl⟩
    · intro i x v hx hv
      match i, hv with
      | 0, hv => cases hv; cases hx; exact .inr ⟨_, hm, rfl⟩
      | 1, hv | 2, hv | 3, hv | 4, hv | 5, hv | 6, hv | 7, hv => cases hv; exact .inl rfl
    · rw [List.mem_singleton.mp hp]; exact ⟨L + 1, rfl, rfl⟩
  have key := law_run (q := 0) (P := tP) hI hz c h₁ tk _ R (by
    subst hc
    exact ⟨cc, [], rfl, hfn, hCd, hBl, .tail _ (.head _), by simp; lia⟩) (by subst hc; exact ghost_list hT hL) (by subst hc; exact List.not_mem_nil) Q E (fun h' tk' G' u σ' R' hz' hv => by
    have hv : u = .bool true := hv
    subst hv
    subst hc
    obtain ⟨ps, hps⟩ := hz'
    exact ret h' tk' _ R'.st.fr ⟨⟨ps, (R'.st.newsO _ hps).1⟩, trivial⟩)
  subst hc
  exact key
end
end
end Mine
section
section
namespace Mine
noncomputable def law2 : DefRec := ⟨nm X1.P 22, pr X1.P 22, bd X1.P 22, sc X1.P 22, ⟨253,0,266,71⟩⟩
end Mine
set_option maxHeartbeats 8000000 in
theorem PySem.Challenge.cw_du0011_02_holds : PySem.Challenge.rw_du0011_02.Holds := by
  w_on
  refine holds_law Mine.ws fun said => ?_
  refine holds_open (q := Mine.vw) (d := Mine.law2) (kwd := []) (XP := XL Mine.vw []) (YP := Hook.says (Mine.hk1 Mine.X1.P Mine.X1.ks)) Mine.left1 (Hook.of (Mine.hk1 Mine.X1.P Mine.X1.ks)) (Hook.keeps (Mine.hk1 Mine.X1.P Mine.X1.ks)) (fun s e => xl_of s (Bool.and_eq_true_iff.mp e).1) XL.keeps (by kernel_rfl) (by kernel_rfl) (by rfl) (fun s e => recFacts_of (Bool.and_eq_true_iff.mp e).2) (by rfl) said (by decide +kernel) ⟨rfl, rfl, rfl, rfl, rfl, by decide +kernel⟩ ?hw ?hc
  case hw => w_witness2
  intro w s₀ s₁ mg mb G Y fa o pm cd doc dV kV ho hd hcd hD hmg hg args vals as hpre hlay hrd hwl hlo
  refine Ground.open G ?_
  intro T B D TE TW
  clear hmg
  wrow_args hpre hlay hrd hwl hlo
  refine enter_call ?_
  w_top on
  obtain ⟨cc, tP, hT, hfn, hCd, hBl⟩ := Mine.tab2 T
  refine kn_post hT (fun _ _ => rfl) ?_
  w_call any ho hd hcd hD T F
  clear hd
  k_drop
  rename Fr _ _ _ _ => F
  rename News _ _ _ _ => N
  rename IntsAre _ _ => hI
  rename Heap.IsList _ _ _ => hL
  rename ¬ (63 : Int) < _ => hc
  have hlen := IntsAre.length hI
  refine wpAny_mono (Mine.c_law2 (E := fun _ _ => False) (Q := fun fl s' => fl = .ret (.bool true) ∧ s'.gens = #[] ∧ s'.os = s₁.os ∧ GrownAll [(cc, tP)] s'.heap ∧ ∃ m', Fr _ _ s'.heap m') hT F N ⟨_, by assumption⟩ (Mine.gd2 T Y) hfn hCd hBl rfl hL hI (by lia) fun h' tk' m' F' g' => ⟨rfl, by assumption, rfl, g', m', F'⟩) (fun fl s' hq => ?_) (fun _ _ x => x.elim)
  obtain ⟨rfl, hg, ho, hgr, m', F'⟩ := hq
  refine ⟨goodW_bool F' hg (raisesW_false ?_) ?_ ho, hgr⟩
  · wrow_none_raised
  · kc_post
end
end
