import PyProof.Rows.All
import Wide.All
import OpenK.AllK
import Wide.FinOn
import PyProof.NeKinds
import KE.KLcPair
import PyProof.ZipIter
import KE.KMinKey
import PySem.Challenge.RW_du0011_01
open PySem PySem.W PyProof.Rows
set_option Elab.async false
set_option linter.unusedVariables false
set_option genSizeOf false
set_option genInjectivity false

section
set_option autoImplicit false
set_option maxRecDepth 10000
namespace Mine


/-- item by item: equal?, less? -/
inductive CmpL (R : Value → Value → Bool → Bool → Prop) : List Value → List Value → Bool → Bool → Prop
  | nil : CmpL R [] [] true false
  | cons {x y : Value} {xs ys : List Value} {e l e' l' : Bool} : R x y e l → CmpL R xs ys e' l' → CmpL R (x :: xs) (y :: ys) (e && e') (if e = true then l' else l)

abbrev tupOf (vs : List Value) (n : Nat) : Obj := { cls := .type "tuple", data := .seq vs.toArray n }

/-- two values of depth k, whether they are equal, whether the first is less -/
def Cmp (h : Heap) : Nat → Value → Value → Bool → Bool → Prop
  | 0, v, w, e, l => ∃ x t y u, v = .int x t ∧ w = .int y u ∧ e = decide (x = y) ∧ l = decide (x < y)
  | k + 1, v, w, e, l => Cmp h k v w e l ∨ ∃ a b xs ys n n', v = .ref a ∧ w = .ref b ∧ h.get? a = some (tupOf xs n) ∧ h.get? b = some (tupOf ys n') ∧ CmpL (Cmp h k) xs ys e l

theorem CmpL.len {R : Value → Value → Bool → Bool → Prop} {xs ys : List Value} {e l : Bool} (h : CmpL R xs ys e l) : xs.length = ys.length := by
  induction h with
  | nil => rfl
  | cons _ _ ih => simp [ih]

theorem CmpL.self {R : Value → Value → Bool → Bool → Prop} (hR : ∀ v e l, R v v e l → e = true ∧ l = false) : ∀ {xs : List Value} {e l : Bool}, CmpL R xs xs e l → e = true ∧ l = false
  | [], _, _, .nil => ⟨rfl, rfl⟩
  | _ :: _, _, _, .cons h1 h2 => by
    obtain ⟨rfl, rfl⟩ := hR _ _ _ h1
    obtain ⟨rfl, rfl⟩ := CmpL.self hR h2
    exact ⟨rfl, rfl⟩

theorem Cmp.self {h : Heap} : ∀ (k : Nat) (v : Value) (e l : Bool), Cmp h k v v e l → e = true ∧ l = false
  | 0, v, e, l, ⟨x, t, y, u, h1, h2, h3, h4⟩ => by
    rw [h1] at h2; cases h2
    simp at h3 h4; exact ⟨h3, h4⟩
  | k + 1, v, e, l, hh => by
    rcases hh with hh | ⟨a, b, xs, ys, n, n', h1, h2, h3, h4, h5⟩
    · exact Cmp.self k v e l hh
    · rw [h1] at h2; cases h2
      rw [h3] at h4
      have e1 := Option.some.inj h4
      have e2 : Data.seq xs.toArray n = Data.seq ys.toArray n' := congrArg Obj.data e1
      injection e2 with e3 _
      have e4 : xs = ys := by simpa using congrArg Array.toList e3
      subst e4
      exact CmpL.self (Cmp.self k) h5

section
variable {prog : Program} {w : World} {E : Value → Shared → Prop} {s : Shared}

theorem tup_lt_eq (a b : Value) : Builtin.«tuple.__lt__» ⟨[a, b], []⟩ = (do
  if !(← isInstance b (.type "tuple")) then return ← ret .notImplemented
  let xs ← Builtin.Tuple.tupleItemsOf a
  let ys ← Builtin.Tuple.tupleItemsOf b
  for (x, y) in xs.toList.zip ys.toList do
    if !(← eqBool x y) then
      rule "tuple.compare.by-the-first-pair-that-differs"
      return ← ret (← richCompare .Lt x y)
  ret (.bool (decide (xs.size < ys.size)))) := rfl
theorem tup_eq_eq (a b : Value) : Builtin.«tuple.__eq__» ⟨[a, b], []⟩ = (do
  if !(← isInstance b (.type "tuple")) then return ← ret .notImplemented
  let xs ← Builtin.Tuple.tupleItemsOf a
  let ys ← Builtin.Tuple.tupleItemsOf b
  for (x, y) in xs.toList.zip ys.toList do
    if !(← eqBool x y) then
      return ← ret (.bool false)
  ret (.bool (xs.size == ys.size))) := rfl

variable {A : Around}

theorem tup_lt_tree {R : Value → Value → Bool → Bool → Prop} {a b : Addr} {xs ys : List Value} {n n' : Nat} {e l : Bool} {P : PySem.Fin → Shared → Prop}
    (ha : s.heap.get? a = some (tupOf xs n)) (hb : s.heap.get? b = some (tupOf ys n')) (hc : CmpL R xs ys e l)
    (hR : ∀ x y e l, R x y e l → (∀ Q : Bool → Shared → Prop, Q e s → wpAny (model prog w) A (eqBool x y) Q E s) ∧ (∀ Q : Value → Shared → Prop, Q (.bool l) s → wpAny (model prog w) A (richCompare .Lt x y) Q E s))
    (h : P (.done (.ret (.bool l))) s) : wpAny (model prog w) A (Builtin.«tuple.__lt__» ⟨[.ref a, .ref b], []⟩) P E s := by
  rw [tup_lt_eq]
  refine wpAny_bind (wpAny_isInstance (T := "tuple") ⟨_, hb, rfl⟩ isSubtype_tuple_tuple ?_)
  simp only [Bool.not_true, Bool.false_eq_true, if_false]
  refine wpAny_bind (wpAny_tupleItemsOf ha rfl ?_)
  refine wpAny_bind (wpAny_tupleItemsOf hb rfl ?_)
  refine wpAny_bind ?_
  refine wpAny_forIn_list _
    (fun rest r s' => r.1 = none ∧ s' = s ∧ ∃ xs' ys' e' l', rest = List.zip xs' ys' ∧ CmpL R xs' ys' e' l' ∧ l' = l)
    _ ?_ ?_ _ _ ⟨rfl, rfl, xs, ys, e, l, rfl, hc, rfl⟩
  · rintro ⟨u, v⟩ rest r s' ⟨hr, rfl, xs', ys', e', l', hz, hc', rfl⟩
    cases hc' with
    | nil => simp at hz
    | @cons x y xs'' ys'' e1 l1 e2 l2 h1 h2 =>
      simp only [List.zip_cons_cons, List.cons.injEq, Prod.mk.injEq] at hz
      obtain ⟨⟨rfl, rfl⟩, rfl⟩ := hz
      refine wpAny_bind ((hR _ _ _ _ h1).1 _ ?_)
      cases e1 with
      | true =>
        simp only [Bool.not_true, Bool.false_eq_true, if_false, if_true] at h ⊢
        exact wpAny_pure ⟨rfl, rfl, xs'', ys'', e2, _, rfl, h2, rfl⟩
      | false =>
        simp only [Bool.not_false, if_true, Bool.false_eq_true, if_false] at h ⊢
        refine wpAny_bind (wpAny_rule (wpAny_bind ((hR _ _ _ _ h1).2 _ ?_)))
        exact wpAny_bind (wpAny_pure (wpAny_pure (wpAny_pure h)))
  · rintro ⟨r1, r2⟩ s' ⟨hr, rfl, xs', ys', e', l', hz, hc', rfl⟩
    simp only at hr
    subst hr
    refine wpAny_pure ?_
    have hl : l' = false := by
      cases hc' with
      | nil => rfl
      | cons _ _ => simp at hz
    have hsz : decide (xs.toArray.size < ys.toArray.size) = false := by
      have := hc.len
      simp [this]
    show P (.done (.ret (.bool (decide (xs.toArray.size < ys.toArray.size))))) s'
    rw [hsz, ← hl]; exact h

theorem tup_eq_tree {R : Value → Value → Bool → Bool → Prop} {a b : Addr} {xs ys : List Value} {n n' : Nat} {e l : Bool} {P : PySem.Fin → Shared → Prop}
    (ha : s.heap.get? a = some (tupOf xs n)) (hb : s.heap.get? b = some (tupOf ys n')) (hc : CmpL R xs ys e l)
    (hR : ∀ x y e l, R x y e l → (∀ Q : Bool → Shared → Prop, Q e s → wpAny (model prog w) A (eqBool x y) Q E s))
    (h : P (.done (.ret (.bool e))) s) : wpAny (model prog w) A (Builtin.«tuple.__eq__» ⟨[.ref a, .ref b], []⟩) P E s := by
  rw [tup_eq_eq]
  refine wpAny_bind (wpAny_isInstance (T := "tuple") ⟨_, hb, rfl⟩ isSubtype_tuple_tuple ?_)
  simp only [Bool.not_true, Bool.false_eq_true, if_false]
  refine wpAny_bind (wpAny_tupleItemsOf ha rfl ?_)
  refine wpAny_bind (wpAny_tupleItemsOf hb rfl ?_)
  refine wpAny_bind ?_
  refine wpAny_forIn_list _
    (fun rest r s' => r.1 = none ∧ s' = s ∧ ∃ xs' ys' e' l', rest = List.zip xs' ys' ∧ CmpL R xs' ys' e' l' ∧ e' = e)
    _ ?_ ?_ _ _ ⟨rfl, rfl, xs, ys, e, l, rfl, hc, rfl⟩
  · rintro ⟨u, v⟩ rest r s' ⟨hr, rfl, xs', ys', e', l', hz, hc', rfl⟩
    cases hc' with
    | nil => simp at hz
    | @cons x y xs'' ys'' e1 l1 e2 l2 h1 h2 =>
      simp only [List.zip_cons_cons, List.cons.injEq, Prod.mk.injEq] at hz
      obtain ⟨⟨rfl, rfl⟩, rfl⟩ := hz
      refine wpAny_bind (hR _ _ _ _ h1 _ ?_)
      cases e1 with
      | true =>
        simp only [Bool.not_true, Bool.false_eq_true, if_false, Bool.true_and] at h ⊢
        exact wpAny_pure ⟨rfl, rfl, xs'', ys'', _, l2, rfl, h2, rfl⟩
      | false =>
        simp only [Bool.not_false, if_true, Bool.false_and] at h ⊢
        exact wpAny_bind (wpAny_pure (wpAny_pure (wpAny_pure h)))
  · rintro ⟨r1, r2⟩ s' ⟨hr, rfl, xs', ys', e', l', hz, hc', rfl⟩
    simp only at hr
    subst hr
    refine wpAny_pure ?_
    have hl : e' = true := by
      cases hc' with
      | nil => rfl
      | cons _ _ => simp at hz
    have hsz : (xs.toArray.size == ys.toArray.size) = true := by
      have := hc.len
      simp [this]
    show P (.done (.ret (.bool (xs.toArray.size == ys.toArray.size)))) s'
    rw [hsz, ← hl]; exact h

theorem cmp_all : ∀ (k : Nat) {A : Around} (_ : A.units + k < cLine) {v w' : Value} {e l : Bool}, Cmp s.heap k v w' e l →
    (∀ Q : Bool → Shared → Prop, Q e s → wpAny (model prog w) A (eqBool v w') Q E s) ∧
    (∀ Q : Value → Shared → Prop, Q (.bool e) s → wpAny (model prog w) A (richCompare .Eq v w') Q E s) ∧
    (∀ Q : Value → Shared → Prop, Q (.bool l) s → wpAny (model prog w) A (richCompare .Lt v w') Q E s)
  | 0, A, hu, v, w', e, l, ⟨x, t, y, u, h1, h2, h3, h4⟩ => by
    subst h1 h2 h3 h4
    have r1 : ∀ Q : Value → Shared → Prop, Q (.bool (decide (x = y))) s → wpAny (model prog w) A (richCompare .Eq (.int x t) (.int y u)) Q E s := fun Q h => by
      have := eq_int (prog := prog) (w := w) (A := A) (E := E) (s := s) (a := x) (b := y) (t := t) (u := u) (Q := Q) (by rw [show (x == y) = decide (x = y) from rfl]; exact h)
      exact this
    refine ⟨fun Q h => ?_, r1, fun Q h => ?_⟩
    · unfold eqBool
      refine wpAny_holding ?_
      show wpAny _ _ (if (Value.int x t == Value.int y u) = true then _ else _) Q E s
      by_cases hab : (Value.int x t == Value.int y u) = true
      · rw [if_pos hab]
        have e := eq_of_beq hab
        injection e with e1 e2
        subst e1
        exact wpAny_bind (wpAny_rule (wpAny_pure (by simpa using h)))
      · rw [if_neg hab]
        exact wpAny_bind (r1 _ (wpAny_truthy_bool h))
    · exact lt_int (prog := prog) (w := w) (A := A) (E := E) (s := s) (a := x) (b := y) (t := t) (u := u) (Q := Q) h
  | k + 1, A, hu, v, w', e, l, hh => by
    rcases hh with hh | ⟨a, b, xs, ys, n, n', rfl, rfl, ha, hb, hc⟩
    · exact cmp_all k (by lia) hh
    · have hR : ∀ x y e l, Cmp s.heap k x y e l → _ := fun x y e l h => cmp_all k (A := A.in1) (by show A.units + 1 + k < cLine; lia) h
      have r1 : ∀ Q : Value → Shared → Prop, Q (.bool e) s → wpAny (model prog w) A (richCompare .Eq (.ref a) (.ref b)) Q E s := fun Q h =>
        wpAny_richCompare_same_room (op := .Eq) (T := "tuple") ⟨_, ha, rfl⟩ ⟨_, hb, rfl⟩ F.slot_tuple_eq
          (wpAny_call_entry F.slot_tuple_eq ⟨_, ha, rfl⟩ F.entry_tuple_eq (tup_eq_tree ha hb hc (fun x y e l h => (hR x y e l h).1) ⟨_, rfl, (fun e => nomatch e), h⟩) (F.args_tuple_eq_2 _ _)) (by lia)
      refine ⟨fun Q h => ?_, r1, fun Q h => ?_⟩
      · unfold eqBool
        refine wpAny_holding ?_
        show wpAny _ _ (if (Value.ref a == Value.ref b) = true then _ else _) Q E s
        by_cases hab : (Value.ref a == Value.ref b) = true
        · rw [if_pos hab]
          have e' : a = b := by have := eq_of_beq hab; injection this
          subst e'
          have := (Cmp.self (k + 1) (.ref a) e l (.inr ⟨a, a, xs, ys, n, n', rfl, rfl, ha, hb, hc⟩)).1
          subst this
          exact wpAny_bind (wpAny_rule (wpAny_pure h))
        · rw [if_neg hab]
          exact wpAny_bind (r1 _ (wpAny_truthy_bool h))
      · exact wpAny_richCompare_same_room (op := .Lt) (T := "tuple") ⟨_, ha, rfl⟩ ⟨_, hb, rfl⟩ F.slot_tuple_lt
          (wpAny_call_entry F.slot_tuple_lt ⟨_, ha, rfl⟩ F.entry_tuple_lt (tup_lt_tree ha hb hc (fun x y e l h => ⟨(hR x y e l h).1, (hR x y e l h).2.2⟩) ⟨_, rfl, (fun e => nomatch e), h⟩) (F.args_tuple_lt_2 _ _)) (by lia)
end
end Mine
end

section
set_option autoImplicit false
set_option maxRecDepth 10000
namespace Mine


abbrev D := List Int
/-- lexicographic less-than -/
def llt : D → D → Bool
  | [], [] => false
  | [], _ :: _ => true
  | _ :: _, [] => false
  | a :: as, b :: bs => if a = b then llt as bs else decide (a < b)

inductive Kd where
  | i | p | pi | kip

abbrev Led := List (Addr × Obj)

def RelP (nw : Led) (v : Value) (d : D) : Prop := ∃ a n x t y u, v = .ref a ∧ (a, tupOf [.int x t, .int y u] n) ∈ nw ∧ d = [x, y]

/-- what a value is, by the ledger -/
def RelIn (nw : Led) : Kd → Value → D → Prop
  | .i, v, d => ∃ x t, v = .int x t ∧ d = [x]
  | .p, v, d => RelP nw v d
  | .pi, v, d => ∃ a n v₁ d₁ z u, v = .ref a ∧ (a, tupOf [v₁, .int z u] n) ∈ nw ∧ RelP nw v₁ d₁ ∧ d = d₁ ++ [z]
  | .kip, v, d => ∃ a n x t y u v₁ d₁, v = .ref a ∧ (a, tupOf [.int x t, .int y u, v₁] n) ∈ nw ∧ RelP nw v₁ d₁ ∧ d = x :: y :: d₁

theorem RelP.mono {nw nw' : Led} {v : Value} {d : D} (h : RelP nw v d) (hs : ∀ p ∈ nw, p ∈ nw') : RelP nw' v d := by
  obtain ⟨a, n, x, t, y, u, h1, h2, h3⟩ := h
  exact ⟨a, n, x, t, y, u, h1, hs _ h2, h3⟩
theorem RelIn.mono {nw nw' : Led} {k : Kd} {v : Value} {d : D} (h : RelIn nw k v d) (hs : ∀ p ∈ nw, p ∈ nw') : RelIn nw' k v d := by
  cases k with
  | i => exact h
  | p => exact RelP.mono h hs
  | pi => obtain ⟨a, n, v₁, d₁, z, u, h1, h2, h3, h4⟩ := h; exact ⟨a, n, v₁, d₁, z, u, h1, hs _ h2, h3.mono hs, h4⟩
  | kip => obtain ⟨a, n, x, t, y, u, v₁, d₁, h1, h2, h3, h4⟩ := h; exact ⟨a, n, x, t, y, u, v₁, d₁, h1, hs _ h2, h3.mono hs, h4⟩

theorem cmpI (h : Heap) (k : Nat) (x y : Int) (t u : Tok) : Cmp h k (.int x t) (.int y u) (decide (x = y)) (decide (x < y)) := by
  induction k with
  | zero => exact ⟨x, t, y, u, rfl, rfl, rfl, rfl⟩
  | succ k ih => exact .inl ih

theorem Cmp.cast {h : Heap} {k : Nat} {v w : Value} {e l e' l' : Bool} (c : Cmp h k v w e l) (he : e = e') (hl : l = l') : Cmp h k v w e' l' := by subst he hl; exact c
theorem Cmp.up {h : Heap} {k : Nat} {v w : Value} {e l : Bool} (c : Cmp h k v w e l) : Cmp h (k + 1) v w e l := .inl c

theorem cmpP {h : Heap} {nw : Led} {v w : Value} {d d' : D} (hn : ∀ p ∈ nw, h.get? p.1 = some p.2) (h1 : RelP nw v d) (h2 : RelP nw w d') : Cmp h 1 v w (decide (d = d')) (llt d d') := by
  obtain ⟨a, n, x, t, y, u, rfl, m1, rfl⟩ := h1
  obtain ⟨a', n', x', t', y', u', rfl, m2, rfl⟩ := h2
  have c := CmpL.cons (R := Cmp h 0) (cmpI h 0 x x' t t') (.cons (cmpI h 0 y y' u u') .nil)
  refine Cmp.cast (.inr ⟨a, a', _, _, n, n', rfl, rfl, hn _ m1, hn _ m2, c⟩) ?_ ?_
  · by_cases e1 : x = x' <;> by_cases e2 : y = y' <;> simp [e1, e2]
  · by_cases e1 : x = x' <;> by_cases e2 : y = y' <;> simp [llt, e1, e2]

theorem llt_append_one {d d' : D} (hl : d.length = d'.length) (z z' : Int) : llt (d ++ [z]) (d' ++ [z']) = if d = d' then decide (z < z') else llt d d' := by
  induction d generalizing d' with
  | nil =>
    cases d' with
    | nil => by_cases e : z = z' <;> simp [llt, e]
    | cons _ _ => simp at hl
  | cons a d ih =>
    cases d' with
    | nil => simp at hl
    | cons b d' =>
      simp only [List.length_cons, Nat.add_right_cancel_iff] at hl
      by_cases e : a = b
      · subst e; simp [llt, ih hl]
      · simp [llt, e]

theorem RelP.len {nw : Led} {v : Value} {d : D} (h : RelP nw v d) : d.length = 2 := by
  obtain ⟨a, n, x, t, y, u, rfl, m1, rfl⟩ := h; rfl

theorem cmpK {h : Heap} {nw : Led} {k : Kd} {v w : Value} {d d' : D} (hn : ∀ p ∈ nw, h.get? p.1 = some p.2) (h1 : RelIn nw k v d) (h2 : RelIn nw k w d') : Cmp h 2 v w (decide (d = d')) (llt d d') := by
  cases k with
  | i =>
    obtain ⟨x, t, rfl, rfl⟩ := h1
    obtain ⟨y, u, rfl, rfl⟩ := h2
    refine Cmp.cast (cmpI h 2 x y t u) ?_ ?_
    · by_cases e1 : x = y <;> simp [e1]
    · by_cases e1 : x = y <;> simp [llt, e1]
  | p => exact (cmpP hn h1 h2).up
  | pi =>
    obtain ⟨a, n, v₁, d₁, z, u, rfl, m1, p1, rfl⟩ := h1
    obtain ⟨a', n', v₂, d₂, z', u', rfl, m2, p2, rfl⟩ := h2
    have c := CmpL.cons (R := Cmp h 1) (cmpP hn p1 p2) (.cons (cmpI h 1 z z' u u') .nil)
    have hl : d₁.length = d₂.length := p1.len.trans p2.len.symm
    refine Cmp.cast (.inr ⟨a, a', _, _, n, n', rfl, rfl, hn _ m1, hn _ m2, c⟩) ?_ ?_
    · by_cases e1 : d₁ = d₂ <;> by_cases e2 : z = z' <;> simp [e1, e2]
    · rw [llt_append_one hl]
      by_cases e1 : d₁ = d₂ <;> by_cases e2 : z = z' <;> simp [e1, e2]
  | kip =>
    obtain ⟨a, n, x, t, y, u, v₁, d₁, rfl, m1, p1, rfl⟩ := h1
    obtain ⟨a', n', x', t', y', u', v₂, d₂, rfl, m2, p2, rfl⟩ := h2
    have c := CmpL.cons (R := Cmp h 1) (cmpI h 1 x x' t t') (.cons (cmpI h 1 y y' u u') (.cons (cmpP hn p1 p2) .nil))
    refine Cmp.cast (.inr ⟨a, a', _, _, n, n', rfl, rfl, hn _ m1, hn _ m2, c⟩) ?_ ?_
    · by_cases e1 : x = x' <;> by_cases e2 : y = y' <;> by_cases e3 : d₁ = d₂ <;> simp [e1, e2, e3]
    · by_cases e1 : x = x' <;> by_cases e2 : y = y' <;> by_cases e3 : d₁ = d₂ <;> simp [llt, e1, e2, e3]
      subst e3
      exact (Cmp.self 1 _ _ _ (cmpP hn p1 p1)).2


inductive All2 {α β : Type} (R : α → β → Prop) : List α → List β → Prop
  | nil : All2 R [] []
  | cons {a : α} {b : β} {as : List α} {bs : List β} : R a b → All2 R as bs → All2 R (a :: as) (b :: bs)
namespace All2
variable {α β : Type} {R R' : α → β → Prop}
theorem len {as : List α} {bs : List β} (h : All2 R as bs) : as.length = bs.length := by
  induction h with
  | nil => rfl
  | cons _ _ ih => simp [ih]
theorem mono {as : List α} {bs : List β} (h : All2 R as bs) (hR : ∀ a b, R a b → R' a b) : All2 R' as bs := by
  induction h with
  | nil => exact .nil
  | cons h1 _ ih => exact .cons (hR _ _ h1) ih
theorem get {as : List α} {bs : List β} (h : All2 R as bs) : ∀ {i : Nat} {b : β}, bs[i]? = some b → ∃ a, as[i]? = some a ∧ R a b := by
  induction h with
  | nil => intro i b hb; simp at hb
  | cons h1 _ ih =>
    intro i b hb
    cases i with
    | zero => simp at hb; subst hb; exact ⟨_, rfl, h1⟩
    | succ i => simp at hb; simpa using ih hb
theorem get' {as : List α} {bs : List β} (h : All2 R as bs) : ∀ {i : Nat} {a : α}, as[i]? = some a → ∃ b, bs[i]? = some b ∧ R a b := by
  induction h with
  | nil => intro i b hb; simp at hb
  | cons h1 _ ih =>
    intro i b hb
    cases i with
    | zero => simp at hb; subst hb; exact ⟨_, rfl, h1⟩
    | succ i => simp at hb; simpa using ih hb
theorem set {as : List α} {bs : List β} {a : α} {b : β} (h : All2 R as bs) (hab : R a b) : ∀ i : Nat, All2 R (as.set i a) (bs.set i b) := by
  induction h with
  | nil => intro i; exact .nil
  | cons h1 h2 ih =>
    intro i
    cases i with
    | zero => exact .cons hab h2
    | succ i => exact .cons h1 (ih i)
theorem append {as as' : List α} {bs bs' : List β} (h : All2 R as bs) (h' : All2 R as' bs') : All2 R (as ++ as') (bs ++ bs') := by
  induction h with
  | nil => exact h'
  | cons h1 _ ih => exact .cons h1 ih
theorem take {as : List α} {bs : List β} (h : All2 R as bs) : ∀ n : Nat, All2 R (as.take n) (bs.take n) := by
  induction h with
  | nil => intro n; simp; exact .nil
  | cons h1 _ ih =>
    intro n
    cases n with
    | zero => exact .nil
    | succ n => exact .cons h1 (ih n)
theorem drop {as : List α} {bs : List β} (h : All2 R as bs) : ∀ n : Nat, All2 R (as.drop n) (bs.drop n) := by
  induction h with
  | nil => intro n; simp; exact .nil
  | cons h1 h2 ih =>
    intro n
    cases n with
    | zero => exact .cons h1 h2
    | succ n => exact ih n
theorem reverse {as : List α} {bs : List β} (h : All2 R as bs) : All2 R as.reverse bs.reverse := by
  induction h with
  | nil => exact .nil
  | cons h1 _ ih => simp only [List.reverse_cons]; exact ih.append (.cons h1 .nil)
end All2

abbrev Ent := Addr × Kd × List D

def IsLs (nw : Led) (k : Kd) (o : Obj) (ds : List D) : Prop := ∃ vs n, o = listOf vs.toArray n ∧ All2 (RelIn nw k) vs ds
def Raw (nw : Led) : List (Addr × Obj) → List Ent → Prop := All2 fun r x => r.1 = x.1 ∧ IsLs nw x.2.1 r.2 x.2.2

/-- the ground: the heap at the law's call, the outer frames' dicts (up to their slots) -/
structure Base where
  hB : Heap
  frs : Led
def FUp : Led → Led → Prop := All2 fun r x => r.1 = x.1 ∧ ∃ sl, r.2 = { x.2 with slots := sl }
/-- the addresses that may change -/
def adr (ls : List Ent) (ob : Led) (B : Base) : List Addr := ls.map (·.1) ++ (ob.map (·.1) ++ B.frs.map (·.1))

/-- the frame at hand: its locals, the lists of elements, the other objects that may change, those that stay -/
structure St (B : Base) (L : Addr) (h : Heap) (m : Str → Option Value) (ls : List Ent) (ob nw : Led) : Prop where
  fr : Fr B.hB L h m
  led : ∃ rs fs, Raw nw rs ls ∧ FUp fs B.frs ∧ News B.hB L h (rs ++ (ob ++ (fs ++ nw)))
  apart : (adr ls ob B).Nodup ∧ ∀ a ∈ adr ls ob B, ∀ p ∈ nw, p.1 ≠ a

/-- the list at a place of the frame's lists -/
inductive At (a : Addr) (k : Kd) (ds : List D) : List Ent → (List D → List Ent) → Prop
  | head {r : List Ent} : At a k ds ((a, k, ds) :: r) (fun d' => (a, k, d') :: r)
  | tail {x : Ent} {r : List Ent} {g : List D → List Ent} : At a k ds r g → At a k ds (x :: r) (fun d' => x :: g d')

theorem Raw.addrs {nw : Led} {rs : List (Addr × Obj)} {ls : List Ent} (h : Raw nw rs ls) : rs.map (·.1) = ls.map (·.1) := by
  unfold Raw at h
  induction h with
  | nil => rfl
  | cons h1 _ ih => simp [h1.1, ih]

theorem At.addrs {a : Addr} {k : Kd} {ds : List D} {ls : List Ent} {g : List D → List Ent} (U : At a k ds ls g) (ds' : List D) : (g ds').map (·.1) = ls.map (·.1) := by
  induction U with
  | head => rfl
  | tail _ ih => simp [ih]

theorem At.mem {a : Addr} {k : Kd} {ds : List D} {ls : List Ent} {g : List D → List Ent} (U : At a k ds ls g) : (a, k, ds) ∈ ls := by
  induction U with
  | head => exact .head _
  | tail _ ih => exact .tail _ ih

theorem At.self {a : Addr} {k : Kd} {ds : List D} {ls : List Ent} {g : List D → List Ent} (U : At a k ds ls g) : g ds = ls := by
  induction U with
  | head => rfl
  | tail _ ih => simp [ih]
theorem At.again {a : Addr} {k : Kd} {ds : List D} {ls : List Ent} {g : List D → List Ent} (U : At a k ds ls g) (ds' : List D) : At a k ds' (g ds') g := by
  induction U with
  | head => exact .head
  | tail _ ih => exact .tail ih

theorem At.open {a : Addr} {k : Kd} {ds : List D} {ls : List Ent} {g : List D → List Ent} {nw : Led} (U : At a k ds ls g) : ∀ {rs : List (Addr × Obj)}, Raw nw rs ls → (ls.map (·.1)).Nodup →
    ∃ vs n pre post, rs = pre ++ (a, listOf vs.toArray n) :: post ∧ All2 (RelIn nw k) vs ds ∧ (∀ p ∈ pre, p.1 ≠ a) ∧ (∀ p ∈ post, p.1 ≠ a) ∧
      ∀ vs' n' ds', All2 (RelIn nw k) vs' ds' → Raw nw (pre ++ (a, listOf vs'.toArray n') :: post) (g ds') := by
  induction U with
  | head =>
    rintro rs (_ | ⟨⟨h1, vs, n, h2, h3⟩, hr⟩) hn
    rename_i r rest
    obtain ⟨ra, ro⟩ := r
    simp only at h1 h2
    subst h1 h2
    refine ⟨vs, n, [], rest, rfl, h3, (fun _ h => nomatch h), fun p hp e => ?_, fun vs' n' ds' h' => .cons ⟨rfl, vs', n', rfl, h'⟩ hr⟩
    simp only [List.map_cons, List.nodup_cons] at hn
    exact hn.1 (Raw.addrs hr ▸ e ▸ List.mem_map_of_mem hp)
  | @tail x r' g' U ih =>
    rintro rs (_ | ⟨hx, hr⟩) hn
    rename_i r rest
    simp only [List.map_cons, List.nodup_cons] at hn
    obtain ⟨vs, n, pre, post, rfl, h3, h4, h5, h6⟩ := ih hr hn.2
    refine ⟨vs, n, r :: pre, post, rfl, h3, fun p hp => ?_, h5, fun vs' n' ds' h' => .cons hx (h6 vs' n' ds' h')⟩
    rcases List.mem_cons.mp hp with rfl | hp
    · intro e
      apply hn.1
      rw [← hx.1, e]
      exact List.mem_map_of_mem (f := (·.1)) U.mem
    · exact h4 p hp

/-- another object of the ledger -/
inductive AtO (a : Addr) (o : Obj) : Led → (Obj → Led) → Prop
  | head {r : Led} : AtO a o ((a, o) :: r) (fun o' => (a, o') :: r)
  | tail {x : Addr × Obj} {r : Led} {g : Obj → Led} : AtO a o r g → AtO a o (x :: r) (fun o' => x :: g o')
theorem AtO.mem {a : Addr} {o : Obj} {l : Led} {g : Obj → Led} (U : AtO a o l g) : (a, o) ∈ l := by
  induction U with
  | head => exact .head _
  | tail _ ih => exact .tail _ ih
theorem AtO.addrs {a : Addr} {o : Obj} {l : Led} {g : Obj → Led} (U : AtO a o l g) (o' : Obj) : (g o').map (·.1) = l.map (·.1) := by
  induction U with
  | head => rfl
  | tail _ ih => simp [ih]
theorem AtO.again {a : Addr} {o : Obj} {l : Led} {g : Obj → Led} (U : AtO a o l g) (o' : Obj) : AtO a o' (g o') g := by
  induction U with
  | head => exact .head
  | tail _ ih => exact .tail ih
theorem AtO.open {a : Addr} {o : Obj} {l : Led} {g : Obj → Led} (U : AtO a o l g) (hn : (l.map (·.1)).Nodup) :
    ∃ pre post, l = pre ++ (a, o) :: post ∧ (∀ p ∈ pre, p.1 ≠ a) ∧ (∀ p ∈ post, p.1 ≠ a) ∧ ∀ o', g o' = pre ++ (a, o') :: post := by
  induction U with
  | head =>
    simp only [List.map_cons, List.nodup_cons] at hn
    exact ⟨[], _, rfl, (fun _ h => nomatch h), fun p hp e => hn.1 (e ▸ List.mem_map_of_mem hp), fun _ => rfl⟩
  | @tail x r g U ih =>
    simp only [List.map_cons, List.nodup_cons] at hn
    obtain ⟨pre, post, rfl, h1, h2, h3⟩ := ih hn.2
    refine ⟨x :: pre, post, rfl, fun p hp => ?_, h2, fun o' => congrArg (x :: ·) (h3 o')⟩
    rcases List.mem_cons.mp hp with rfl | hp
    · intro e; apply hn.1; rw [e]; exact List.mem_map_of_mem (f := (·.1)) U.mem
    · exact h1 p hp

theorem FUp.addrs {fs frs : Led} (h : FUp fs frs) : fs.map (·.1) = frs.map (·.1) := by
  unfold FUp at h
  induction h with
  | nil => rfl
  | cons h1 _ ih => simp [h1.1, ih]

/-- the list opened: its raw object, and how to close it again -/
theorem St.open {h₀ : Base} {h : Heap} {L : Addr} {m : Str → Option Value} {ls : List Ent} {ob nw : Led} {a : Addr} {k : Kd} {ds : List D} {g : List D → List Ent} (S : St h₀ L h m ls ob nw) (U : At a k ds ls g) :
    ∃ vs n pre post, News h₀.hB L h (pre ++ (a, listOf vs.toArray n) :: post) ∧ All2 (RelIn nw k) vs ds ∧ (∀ p ∈ pre, p.1 ≠ a) ∧ (∀ p ∈ post, p.1 ≠ a) ∧
      ∀ h' m' vs' n' ds', Fr h₀.hB L h' m' → News h₀.hB L h' (pre ++ (a, listOf vs'.toArray n') :: post) → All2 (RelIn nw k) vs' ds' → St h₀ L h' m' (g ds') ob nw := by
  obtain ⟨rs, fs, hr, hf, N⟩ := S.led
  have hn := List.nodup_append.mp S.apart.1
  obtain ⟨vs, n, pre, post, rfl, h3, h4, h5, h6⟩ := U.open hr hn.1
  have ha : a ∈ ls.map (·.1) := List.mem_map_of_mem (f := (·.1)) U.mem
  refine ⟨vs, n, pre, post ++ (ob ++ (fs ++ nw)), ?_, h3, h4, fun p hp => ?_, fun h' m' vs' n' ds' F' N' h' => ⟨F', ⟨_, fs, h6 vs' n' ds' h', hf, by simpa using N'⟩, ?_⟩⟩
  · simpa using N
  · rcases List.mem_append.mp hp with hp | hp
    · exact h5 p hp
    · rcases List.mem_append.mp hp with hp | hp
      · exact fun e => hn.2.2 a ha _ (List.mem_append_left _ (List.mem_map_of_mem (f := (·.1)) hp)) e.symm
      · rcases List.mem_append.mp hp with hp | hp
        · exact fun e => hn.2.2 a ha _ (List.mem_append_right _ (hf.addrs ▸ List.mem_map_of_mem (f := (·.1)) hp)) e.symm
        · exact S.apart.2 a (List.mem_append_left _ ha) p hp
  · have := S.apart
    unfold adr at this ⊢
    rw [U.addrs]; exact this

/-- another object opened -/
theorem St.openO {h₀ : Base} {h : Heap} {L : Addr} {m : Str → Option Value} {ls : List Ent} {ob nw : Led} {a : Addr} {o : Obj} {g : Obj → Led} (S : St h₀ L h m ls ob nw) (U : AtO a o ob g) :
    ∃ pre post, News h₀.hB L h (pre ++ (a, o) :: post) ∧ (∀ p ∈ pre, p.1 ≠ a) ∧ (∀ p ∈ post, p.1 ≠ a) ∧
      ∀ h' m' o', Fr h₀.hB L h' m' → News h₀.hB L h' (pre ++ (a, o') :: post) → St h₀ L h' m' ls (g o') nw := by
  obtain ⟨rs, fs, hr, hf, N⟩ := S.led
  have hn := List.nodup_append.mp S.apart.1
  have hn2 := List.nodup_append.mp hn.2.1
  obtain ⟨pre, post, rfl, h1, h2, h3⟩ := U.open hn2.1
  have ha : a ∈ (pre ++ (a, o) :: post).map (·.1) := List.mem_map_of_mem (f := (·.1)) U.mem
  refine ⟨rs ++ pre, post ++ (fs ++ nw), by simpa using N, fun p hp => ?_, fun p hp => ?_, fun h' m' o' F' N' => ⟨F', ⟨rs, fs, hr, hf, by rw [h3]; simpa using N'⟩, ?_⟩⟩
  · rcases List.mem_append.mp hp with hp | hp
    · exact fun e => hn.2.2 p.1 (Raw.addrs hr ▸ List.mem_map_of_mem (f := (·.1)) hp) a (List.mem_append_left _ ha) e
    · exact h1 p hp
  · rcases List.mem_append.mp hp with hp | hp
    · exact h2 p hp
    · rcases List.mem_append.mp hp with hp | hp
      · exact fun e => hn2.2.2 a ha p.1 (hf.addrs ▸ List.mem_map_of_mem (f := (·.1)) hp) e.symm
      · exact S.apart.2 a (List.mem_append_right _ (List.mem_append_left _ ha)) p hp
  · have := S.apart
    unfold adr at this ⊢
    rw [U.addrs]; exact this

/-- a step that keeps the ledger -/
theorem St.same {h₀ : Base} {h : Heap} {L : Addr} {m : Str → Option Value} {ls : List Ent} {ob nw : Led} (S : St h₀ L h m ls ob nw) :
    ∃ news, News h₀.hB L h news ∧ ∀ h' m', Fr h₀.hB L h' m' → News h₀.hB L h' news → St h₀ L h' m' ls ob nw := by
  obtain ⟨rs, fs, hr, hf, N⟩ := S.led
  exact ⟨_, N, fun h' m' F' N' => ⟨F', ⟨rs, fs, hr, hf, N'⟩, S.apart⟩⟩

theorem St.news {h₀ : Base} {h : Heap} {L : Addr} {m : Str → Option Value} {ls : List Ent} {ob nw : Led} (S : St h₀ L h m ls ob nw) : News h₀.hB L h nw := by
  obtain ⟨rs, fs, hr, hf, N⟩ := S.led
  exact fun p hp => N p (List.mem_append_right _ (List.mem_append_right _ (List.mem_append_right _ hp)))
theorem St.newsO {h₀ : Base} {h : Heap} {L : Addr} {m : Str → Option Value} {ls : List Ent} {ob nw : Led} (S : St h₀ L h m ls ob nw) : News h₀.hB L h ob := by
  obtain ⟨rs, fs, hr, hf, N⟩ := S.led
  exact fun p hp => N p (List.mem_append_right _ (List.mem_append_left _ hp))
theorem St.gets {h₀ : Base} {h : Heap} {L : Addr} {m : Str → Option Value} {ls : List Ent} {ob nw : Led} (S : St h₀ L h m ls ob nw) : ∀ p ∈ nw, h.get? p.1 = some p.2 := fun p hp => (S.news p hp).1
theorem St.getO {h₀ : Base} {h : Heap} {L : Addr} {m : Str → Option Value} {ls : List Ent} {ob nw : Led} {a : Addr} {o : Obj} {g : Obj → Led} (S : St h₀ L h m ls ob nw) (U : AtO a o ob g) : h.get? a = some o := (S.newsO _ U.mem).1

/-- every address of the ledger lies below the heap's size -/
theorem St.low {h₀ : Base} {h : Heap} {L : Addr} {m : Str → Option Value} {ls : List Ent} {ob nw : Led} (S : St h₀ L h m ls ob nw) : (∀ a ∈ adr ls ob h₀, a < h.objs.size ∧ a ≠ L) ∧ ∀ p ∈ nw, p.1 < h.objs.size := by
  obtain ⟨rs, fs, hr, hf, N⟩ := S.led
  refine ⟨fun a ha => ?_, fun p hp => Heap.lt_size (S.gets p hp)⟩
  rcases List.mem_append.mp ha with ha | ha
  · rw [← Raw.addrs hr] at ha
    obtain ⟨p, hp, rfl⟩ := List.mem_map.mp ha
    have z := N p (List.mem_append_left _ hp)
    exact ⟨Heap.lt_size z.1, z.2.1⟩
  · rcases List.mem_append.mp ha with ha | ha
    · obtain ⟨p, hp, rfl⟩ := List.mem_map.mp ha
      exact ⟨Heap.lt_size (S.newsO p hp).1, (S.newsO p hp).2.1⟩
    · rw [← hf.addrs] at ha
      obtain ⟨p, hp, rfl⟩ := List.mem_map.mp ha
      have z := N p (List.mem_append_right _ (List.mem_append_right _ (List.mem_append_left _ hp)))
      exact ⟨Heap.lt_size z.1, z.2.1⟩

/-- a step that only makes new objects (or changes what no fact names) -/
theorem St.grown {h₀ : Base} {h h' : Heap} {L : Addr} {m : Str → Option Value} {ls : List Ent} {ob nw : Led} (S : St h₀ L h m ls ob nw) (hk : ∀ b o, h.get? b = some o → h'.get? b = some o) : St h₀ L h' m ls ob nw := by
  obtain ⟨rs, fs, hr, hf, N⟩ := S.led
  exact ⟨S.fr.kept hk, ⟨rs, fs, hr, hf, fun p hp => ⟨hk _ _ (N p hp).1, (N p hp).2⟩⟩, S.apart⟩

theorem Raw.mono {nw nw' : Led} {rs : List (Addr × Obj)} {ls : List Ent} (h : Raw nw rs ls) (hs : ∀ p ∈ nw, p ∈ nw') : Raw nw' rs ls :=
  All2.mono h fun _ _ ⟨h1, vs, n, h2, h3⟩ => ⟨h1, vs, n, h2, h3.mono fun _ _ r => r.mono hs⟩

/-- a new object that may change -/
theorem St.addO {h₀ : Base} {h h' : Heap} {L : Addr} {m : Str → Option Value} {ls : List Ent} {ob nw : Led} {a : Addr} {o : Obj} (S : St h₀ L h m ls ob nw) (hk : ∀ b o, h.get? b = some o → h'.get? b = some o) (ha : h.objs.size ≤ a) (ho : h'.get? a = some o) : St h₀ L h' m ls ((a, o) :: ob) nw := by
  obtain ⟨rs, fs, hr, hf, N⟩ := (S.grown hk).led
  obtain ⟨l1, l2⟩ := S.low
  have hL : L < h.objs.size := S.fr.ns.lt
  have hLa : L < a := Nat.lt_of_lt_of_le hL ha
  have hna : a ∉ adr ls ob h₀ := fun q => absurd (l1 a q).1 (Nat.not_lt.mpr ha)
  have hp1 : (adr ls ((a, o) :: ob) h₀).Perm (a :: adr ls ob h₀) := by unfold adr; exact List.perm_middle
  refine ⟨S.fr.kept hk, ⟨rs, fs, hr, hf, fun p hp => ?_⟩, hp1.nodup_iff.mpr (List.nodup_cons.mpr ⟨hna, S.apart.1⟩), fun b hb p hp => ?_⟩
  · rcases List.mem_append.mp hp with hp | hp
    · exact N p (List.mem_append_left _ hp)
    · rcases List.mem_cons.mp hp with rfl | hp
      · exact ⟨ho, Nat.ne_of_gt hLa, Heap.get?_none_of_le (Nat.le_trans S.fr.above (Nat.le_of_lt hLa))⟩
      · exact N p (List.mem_append_right _ hp)
  · rcases List.mem_cons.mp (hp1.mem_iff.mp hb) with rfl | hb
    · exact Nat.ne_of_lt (Nat.lt_of_lt_of_le (l2 p hp) ha)
    · exact S.apart.2 b hb p hp

/-- a new object that stays -/
theorem St.addN {h₀ : Base} {h h' : Heap} {L : Addr} {m : Str → Option Value} {ls : List Ent} {ob nw : Led} {a : Addr} {o : Obj} (S : St h₀ L h m ls ob nw) (hk : ∀ b o, h.get? b = some o → h'.get? b = some o) (ha : h.objs.size ≤ a) (ho : h'.get? a = some o) : St h₀ L h' m ls ob ((a, o) :: nw) := by
  obtain ⟨rs, fs, hr, hf, N⟩ := (S.grown hk).led
  obtain ⟨l1, l2⟩ := S.low
  have hL : L < h.objs.size := S.fr.ns.lt
  have hLa : L < a := Nat.lt_of_lt_of_le hL ha
  refine ⟨S.fr.kept hk, ⟨rs, fs, hr.mono fun p hp => .tail _ hp, hf, fun p hp => ?_⟩, S.apart.1, ?_⟩
  · rcases List.mem_append.mp hp with hp | hp
    · exact N p (List.mem_append_left _ hp)
    · rcases List.mem_append.mp hp with hp | hp
      · exact N p (List.mem_append_right _ (List.mem_append_left _ hp))
      · rcases List.mem_append.mp hp with hp | hp
        · exact N p (List.mem_append_right _ (List.mem_append_right _ (List.mem_append_left _ hp)))
        · rcases List.mem_cons.mp hp with rfl | hp
          · exact ⟨ho, Nat.ne_of_gt hLa, Heap.get?_none_of_le (Nat.le_trans S.fr.above (Nat.le_of_lt hLa))⟩
          · exact N p (List.mem_append_right _ (List.mem_append_right _ (List.mem_append_right _ hp)))
  · intro b hb p hp
    rcases List.mem_cons.mp hp with rfl | hp
    · exact Nat.ne_of_gt (Nat.lt_of_lt_of_le (l1 b hb).1 ha)
    · exact S.apart.2 b hb p hp

/-- a new list -/
theorem St.addL {h₀ : Base} {h h' : Heap} {L : Addr} {m : Str → Option Value} {ls : List Ent} {ob nw : Led} {a : Addr} {k : Kd} {vs : List Value} {n : Nat} {ds : List D} (S : St h₀ L h m ls ob nw) (hk : ∀ b o, h.get? b = some o → h'.get? b = some o) (ha : h.objs.size ≤ a) (ho : h'.get? a = some (listOf vs.toArray n)) (hr : All2 (RelIn nw k) vs ds) :
    St h₀ L h' m ((a, k, ds) :: ls) ob nw := by
  obtain ⟨rs, fs, hrs, hf, N⟩ := (S.grown hk).led
  obtain ⟨l1, l2⟩ := S.low
  have hL : L < h.objs.size := S.fr.ns.lt
  have hLa : L < a := Nat.lt_of_lt_of_le hL ha
  refine ⟨S.fr.kept hk, ⟨(a, listOf vs.toArray n) :: rs, fs, .cons ⟨rfl, vs, n, rfl, hr⟩ hrs, hf, fun p hp => ?_⟩, ?_, ?_⟩
  · rcases List.mem_cons.mp hp with rfl | hp
    · exact ⟨ho, Nat.ne_of_gt hLa, Heap.get?_none_of_le (Nat.le_trans S.fr.above (Nat.le_of_lt hLa))⟩
    · exact N p hp
  · show (a :: adr ls ob h₀).Nodup
    exact List.nodup_cons.mpr ⟨fun q => absurd (l1 a q).1 (Nat.not_lt.mpr ha), S.apart.1⟩
  · intro b hb p hp
    rcases List.mem_cons.mp (show b ∈ a :: adr ls ob h₀ from hb) with rfl | hb
    · exact Nat.ne_of_lt (Nat.lt_of_lt_of_le (l2 p hp) ha)
    · exact S.apart.2 b hb p hp

/-- forget another object -/
theorem St.dropO {h₀ : Base} {h : Heap} {L : Addr} {m : Str → Option Value} {ls : List Ent} {ob nw : Led} {x : Addr × Obj} (S : St h₀ L h m ls (x :: ob) nw) : St h₀ L h m ls ob nw := by
  obtain ⟨rs, fs, hr, hf, N⟩ := S.led
  have hp1 : (adr ls (x :: ob) h₀).Perm (x.1 :: adr ls ob h₀) := by unfold adr; exact List.perm_middle
  refine ⟨S.fr, ⟨rs, fs, hr, hf, fun p hp => N p ?_⟩, (List.nodup_cons.mp (hp1.nodup_iff.mp S.apart.1)).2, fun a ha p hp => S.apart.2 a (hp1.mem_iff.mpr (.tail _ ha)) p hp⟩
  rcases List.mem_append.mp hp with hp | hp
  · exact List.mem_append_left _ hp
  · exact List.mem_append_right _ (.tail _ hp)
/-- forget a list -/
theorem St.dropL {h₀ : Base} {h : Heap} {L : Addr} {m : Str → Option Value} {ls : List Ent} {ob nw : Led} {x : Ent} (S : St h₀ L h m (x :: ls) ob nw) : St h₀ L h m ls ob nw := by
  obtain ⟨rs, fs, hr, hf, N⟩ := S.led
  have hn := List.nodup_cons.mp (show (x.1 :: adr ls ob h₀).Nodup from S.apart.1)
  obtain _ | ⟨h1, hr⟩ := hr
  rename_i r rs
  exact ⟨S.fr, ⟨rs, fs, hr, hf, fun p hp => N p (.tail _ hp)⟩, hn.2, fun a ha p hp => S.apart.2 a (show a ∈ x.1 :: adr ls ob h₀ from .tail _ ha) p hp⟩

/-- a name stored -/
def upd (m : Str → Option Value) (x : Str) (v : Value) : Str → Option Value := fun y => if y = x then some v else m y
theorem upd_eq {m : Str → Option Value} {x : Str} {v : Value} : upd m x v x = some v := if_pos rfl
theorem upd_ne {m : Str → Option Value} {x y : Str} {v : Value} {r : Option Value} (hn : y ≠ x) (h : m y = r) : upd m x v y = r := (if_neg hn).trans h

/-- the state: the call's start with another heap and other tokens -/
def mk (s : Shared) (h : Heap) (tk : Nat) : Shared := { s with heap := h, toks := tk }

section
variable {prog : Program} {w : World} {A : Around} {E : Value → Shared → Prop} {s : Shared} {h : Heap} {tk : Nat} {h₀ : Base} {L : Addr} {m : Str → Option Value} {ls : List Ent} {ob nw : Led} {a : Addr} {k : Kd} {ds : List D} {g : List D → List Ent}

section
variable {x y : Int} {t u : Tok} {Q : Value → Shared → Prop} {env : Env}
theorem i_const {c : Nat} {pos : Pos} (q : ∀ t tk, Q (.int x t) (mk s h tk)) : wpAny (model prog w) A (eval (.Constant (.int x) c pos) env) Q E (mk s h tk) := wpAny_Constant_int (q _ _)
theorem i_add (q : ∀ t tk, Q (.int (x + y) t) (mk s h tk)) : wpAny (model prog w) A (binaryOp .Add (.int x t) (.int y u)) Q E (mk s h tk) := add_int (q _ _)
theorem i_sub (q : ∀ t tk, Q (.int (x - y) t) (mk s h tk)) : wpAny (model prog w) A (binaryOp .Sub (.int x t) (.int y u)) Q E (mk s h tk) := sub_int (q _ _)
theorem i_mod (hy : 0 < y) (q : ∀ t tk, Q (.int (x % y) t) (mk s h tk)) : wpAny (model prog w) A (binaryOp .Mod (.int x t) (.int y u)) Q E (mk s h tk) :=
  mod_int (by lia) (by rw [Int.fmod_eq_emod_of_nonneg _ (Int.le_of_lt hy)]; exact q _ _)
theorem i_half {n : Nat} (hx : x = (n : Int)) (q : ∀ t tk, Q (.int ((n / 2 : Nat) : Int) t) (mk s h tk)) : wpAny (model prog w) A (binaryOp .RShift (.int x t) (.int 1 u)) Q E (mk s h tk) := by
  subst hx
  exact wpAny_rshift1_int (by lia) (by rw [show ((n : Int) / 2) = ((n / 2 : Nat) : Int) by lia]; exact q _ _)
theorem i_add' {z : Int} (e : x + y = z) (q : ∀ t tk, Q (.int z t) (mk s h tk)) : wpAny (model prog w) A (binaryOp .Add (.int x t) (.int y u)) Q E (mk s h tk) := add_int (by rw [e]; exact q _ _)
theorem i_sub' {z : Int} (e : x - y = z) (q : ∀ t tk, Q (.int z t) (mk s h tk)) : wpAny (model prog w) A (binaryOp .Sub (.int x t) (.int y u)) Q E (mk s h tk) := sub_int (by rw [e]; exact q _ _)
theorem i_mul2 {n : Nat} (hy : y = (n : Int)) (q : ∀ t tk, Q (.int ((2 * n : Nat) : Int) t) (mk s h tk)) : wpAny (model prog w) A (binaryOp .Mult (.int 2 t) (.int y u)) Q E (mk s h tk) := by
  subst hy
  exact PySem.P.mul_int (by rw [show (2 * (n : Int)) = ((2 * n : Nat) : Int) by lia]; exact q _ _) (.of_left (by decide))
theorem i_iadd (q : ∀ t tk, Q (.int (x + y) t) (mk s h tk)) : wpAny (model prog w) A (inplaceOp .Add (.int x t) (.int y u)) Q E (mk s h tk) := iadd_int (q _ _)
theorem i_isub (q : ∀ t tk, Q (.int (x - y) t) (mk s h tk)) : wpAny (model prog w) A (inplaceOp .Sub (.int x t) (.int y u)) Q E (mk s h tk) := isub_int (q _ _)
end

theorem r_lt {v v' : Value} {d d' : D} {Q : Value → Shared → Prop} (S : St h₀ L h m ls ob nw) (hu : A.units + 2 < cLine) (h1 : RelIn nw k v d) (h2 : RelIn nw k v' d') (q : Q (.bool (llt d d')) (mk s h tk)) :
    wpAny (model prog w) A (compareOp .Lt v v') Q E (mk s h tk) := (cmp_all 2 hu (cmpK S.gets h1 h2)).2.2 Q q
theorem r_eq {v v' : Value} {d d' : D} {Q : Value → Shared → Prop} (S : St h₀ L h m ls ob nw) (hu : A.units + 2 < cLine) (h1 : RelIn nw k v d) (h2 : RelIn nw k v' d') (q : Q (.bool (decide (d = d'))) (mk s h tk)) :
    wpAny (model prog w) A (compareOp .Eq v v') Q E (mk s h tk) := (cmp_all 2 hu (cmpK S.gets h1 h2)).2.1 Q q

theorem r_item {i : Int} {n : Nat} {t : Tok} {d : D} {Q : Value → Shared → Prop} (S : St h₀ L h m ls ob nw) (U : At a k ds ls g) (hi : i = (n : Int)) (hd : ds[n]? = some d) (hz : ds.length < 1000) (q : ∀ v, RelIn nw k v d → Q v (mk s h tk)) :
    wpAny (model prog w) A (getItem (.ref a) (.int i t)) Q E (mk s h tk) := by
  obtain ⟨vs, c, pre, post, N, ha, _, _, _⟩ := S.open U
  obtain ⟨v, hv, hr⟩ := ha.get hd
  have hl : (mk s h tk).heap.IsList a vs.toArray := PySem.IsL.isList (n := c) (N (a, _) (List.mem_append_right _ (.head _))).1
  have hn : n < ds.length := by
    have := List.getElem?_eq_some_iff.mp hd
    exact this.1
  subst hi
  exact wpAny_getItem_list hl (by lia) (by lia) (by simpa using hv) (q v hr)

theorem r_sub {value slice : PySem.Expr} {i : Int} {n : Nat} {t : Tok} {d : D} {Q : Value → Shared → Prop} (S : St h₀ L h m ls ob nw) (U : At a k ds ls g) (hi : i = (n : Int)) (hd : ds[n]? = some d) (hz : ds.length < 1000) (q : ∀ v, RelIn nw k v d → Q v (mk s h tk))
    (hs : subscripted slice false (.ref a) (.int i t) = operate [.ref a, .int i t] (getItem (.ref a) (.int i t)) := by with_unfolding_all rfl) :
    wpAny (model prog w) A (subscriptTail value slice (.ref a) (.int i t)) Q E (mk s h tk) := by
  obtain ⟨vs, c, pre, post, N, ha, _, _, _⟩ := S.open U
  have hl : (mk s h tk).heap.IsList a vs.toArray := PySem.IsL.isList (n := c) (N (a, _) (List.mem_append_right _ (.head _))).1
  exact tail_any hl.typeIs slot_list_getitem.lookup (r_item S U hi hd hz q) hs

theorem r_set {i : Int} {n : Nat} {t : Tok} {v : Value} {d : D} {Q : Unit → Shared → Prop} (S : St h₀ L h m ls ob nw) (U : At a k ds ls g) (hi : i = (n : Int)) (hn : n < ds.length) (hz : ds.length < 1000) (hv : RelIn nw k v d)
    (q : ∀ h', St h₀ L h' m (g (ds.set n d)) ob nw → Q () (mk s h' tk)) : wpAny (model prog w) A (setItem (.ref a) (.int i t) v) Q E (mk s h tk) := by
  obtain ⟨vs, c, pre, post, N, ha, h1, h2, hc⟩ := S.open U
  have z := N (a, listOf vs.toArray c) (List.mem_append_right _ (.head _))
  have hl := ha.len
  subst hi
  refine ki_setAt (s := mk s h tk) z.1 (by lia) (by lia) (by simp; lia) (q _ (hc _ _ (vs.set n v) c _ (S.fr.change (Heap.SameBut.update ..) z.2.1 z.2.2) (ki_turn _ N h1 h2 ?_ ?_) (ha.set hv n)))
  · apply Array.toList_inj.mp
    simp
  · simp

theorem r_len {Q : Value → Shared → Prop} (S : St h₀ L h m ls ob nw) (U : At a k ds ls g) (hz : ds.length < 1000) (q : ∀ t tk, Q (.int ds.length t) (mk s h tk)) :
    wpAny (model prog w) A (call (.builtin "len") [.ref a]) Q E (mk s h tk) := by
  obtain ⟨vs, c, pre, post, N, ha, _, _, _⟩ := S.open U
  have hl : (mk s h tk).heap.IsList a vs.toArray := PySem.IsL.isList (n := c) (N (a, _) (List.mem_append_right _ (.head _))).1
  have e := ha.len
  refine Calls.call_len_list hl (by simp; lia) ?_
  rw [List.size_toArray, e]
  exact q _ _

theorem r_store {name : Str} {scope : Scope} {f : Addr} {cd : Value} {cl : List (Str × Addr)} {x : Str} {v : Value} {Q : Unit → Shared → Prop} (S : St h₀ L h m ls ob nw)
    (q : ∀ h' tk, St h₀ L h' (upd m x v) ls ob nw → Q () (mk s h' tk))
    (hk : scope.kind = .function := by rfl) (hl : (envX name scope L f cd cl).kindOf x = some .local := by rfl) : wpAny (model prog w) A (storeName (envX name scope L f cd cl) x v) Q E (mk s h tk) := by
  obtain ⟨news, N, hc⟩ := S.same
  exact storeX_L (s := mk s h tk) S.fr N (fun h' F' N' => q h' _ (hc h' _ F' N')) hk hl

theorem r_load {name : Str} {scope : Scope} {f : Addr} {cd : Value} {cl : List (Str × Addr)} {x : Str} {pos : Pos} {v : Value} {Q : Value → Shared → Prop} (S : St h₀ L h m ls ob nw) (hv : m x = some v) (q : Q v (mk s h tk))
    (hk : scope.kind = .function := by rfl) (hl : (envX name scope L f cd cl).kindOf x = some .local := by rfl) (hd : (x == ("__debug__" : Str)) = false := by decide) :
    wpAny (model prog w) A (eval (.Name x pos) (envX name scope L f cd cl)) Q E (mk s h tk) := nameX_L (s := mk s h tk) S.fr hv q hk hl hd
theorem r_loadn {name : Str} {scope : Scope} {f : Addr} {cd : Value} {cl : List (Str × Addr)} {x : Str} {v : Value} {Q : Value → Shared → Prop} (S : St h₀ L h m ls ob nw) (hv : m x = some v) (q : Q v (mk s h tk))
    (hk : scope.kind = .function := by rfl) (hl : (envX name scope L f cd cl).kindOf x = some .local := by rfl) :
    wpAny (model prog w) A (loadName (envX name scope L f cd cl) x) Q E (mk s h tk) := wpAny_loadName_local (s := mk s h tk) hk hl S.fr.ns hv q
end

end Mine
end

section
set_option autoImplicit false
set_option maxRecDepth 10000
namespace Mine


def defAt (P : Program) (i : Nat) : Option (Str × Arguments × List Stmt × Scope) := match P.main.body[i]? with
  | some (.FunctionDef n a b _ _ _ sc _ _ _) => some (n, a, b, sc)
  | _ => none
def nm (P : Program) (i : Nat) : Str := match defAt P i with | some x => x.1 | none => Str.empty
def pr (P : Program) (i : Nat) : Arguments := match defAt P i with | some x => x.2.1 | none => ⟨[], [], none, [], [], none, []⟩
def bd (P : Program) (i : Nat) : List Stmt := match defAt P i with | some x => x.2.2.1 | none => []
def sc (P : Program) (i : Nat) : Scope := match defAt P i with | some x => x.2.2.2 | none => default
def fa (P : Program) (mg : Str → Option Value) (i : Nat) : Addr := match mg (nm P i) with | some (.ref a) => a | _ => 0

/-- the standing facts: globals, built-ins, the defs without defaults (js), with one default None (ks) -/
structure Gd (P : Program) (js ks : List Nat) (free : List Str) (mg mb : Str → Option Value) (h : Heap) : Prop where
  g : h.Ns mainGlobals mg
  b : h.Ns builtinsNs mb
  nolimit : h.NoLimit
  blt : ∀ x : Str, x ≠ "__name__" → mb x = bootBuiltins x
  free : ∀ x ∈ free, mg x = none
  fn : ∀ i ∈ js, mg (nm P i) = some (.ref (fa P mg i)) ∧ ∃ o pm code doc, h.get? (fa P mg i) = some o ∧ o.data = .func (Calls.docDef (nm P i) (pr P i) (bd P i) (sc P i) pm code doc) ∧ h.CodeRec code (nm P i)
  fd : ∀ i ∈ ks, mg (nm P i) = some (.ref (fa P mg i)) ∧ ∃ o pm code doc dA dO dn, h.get? (fa P mg i) = some o ∧ o.data = .func { Calls.docDef (nm P i) (pr P i) (bd P i) (sc P i) pm code doc with defaults := .ref dA } ∧ h.CodeRec code (nm P i) ∧
    h.get? dA = some dO ∧ dO.data = .seq #[Value.none] dn

theorem Gd.keeps {P : Program} {js ks : List Nat} {fr : List Str} {mg mb : Str → Option Value} {h h' : Heap} (G : Gd P js ks fr mg mb h) (hk : ∀ b o, h.get? b = some o → h'.get? b = some o) : Gd P js ks fr mg mb h' where
  g := G.g.keeps hk
  b := G.b.keeps hk
  nolimit := G.nolimit.keeps hk
  blt := G.blt
  free := G.free
  fn := fun i hi => let ⟨h1, o, pm, code, doc, h2, h3, h4⟩ := G.fn i hi; ⟨h1, o, pm, code, doc, hk _ _ h2, h3, h4.keeps hk⟩
  fd := fun i hi => let ⟨h1, o, pm, code, doc, dA, dO, dn, h2, h3, h4, h5, h6⟩ := G.fd i hi; ⟨h1, o, pm, code, doc, dA, dO, dn, hk _ _ h2, h3, h4.keeps hk, hk _ _ h5, h6⟩

/-- what the programs have at hand (the same for both laws' texts: given by the law) -/
structure Pg where
  P : Program
  js : List Nat
  ks : List Nat
  free : List Str

/-- the outer frames are functions' and bear the dicts -/
def OutOk : List Env → Led → Prop := All2 fun env p => env.scope.kind ≠ .module ∧ env.frame = some p.1 ∧ ∃ es n, p.2.data = .dict es n

structure Cx (X : Pg) (mg mb : Str → Option Value) (A : Around) (B : Base) (L : Addr) (k : Nat) : Prop where
  gd : Gd X.P X.js X.ks X.free mg mb B.hB
  below : ∃ env outer, A.frames = some (env :: outer) ∧ env.frame = some L ∧ env.scope.kind = .function ∧ OutOk outer B.frs
  depth : A.depth + k < 900
  units : A.units + 3 * k < 9000
  handled : A.handled = none

theorem Cx.u2 {X : Pg} {mg mb : Str → Option Value} {A : Around} {h₀ : Base} {L : Addr} {k : Nat} (C : Cx X mg mb A h₀ L k) : A.units + 2 < cLine := by
  have := C.units; show _ < 9900; lia

/-- an exception has left a callee and flies over this frame -/
def Fly (B : Base) (A : Around) (L : Addr) (h : Heap) (m : Str → Option Value) (ls : List Ent) (ob nw : Led) (e : Addr) (cls : String) : Prop :=
  ∃ fr hb a0 rs fs, A.frames = some fr ∧ Raw nw rs ls ∧ FUp fs B.frs ∧ B.hB.StaysIn hb ∧ (∀ p ∈ rs ++ (ob ++ nw), hb.get? p.1 = some p.2 ∧ p.1 ≠ L ∧ B.hB.get? p.1 = none) ∧ Heap.FlyingW hb fr e (.type cls) a0 h ∧ h.Ns L m ∧
    (∀ p ∈ fs, (∃ es n, p.2.data = .dict es n) ∧ h.get? p.1 = some p.2 ∧ p.1 ≠ L ∧ B.hB.get? p.1 = none) ∧ ((adr ls ob B).Nodup ∧ ∀ a ∈ adr ls ob B, ∀ p ∈ nw, p.1 ≠ a) ∧ B.hB.objs.size ≤ L

theorem up_frames {fs frs : Led} (hf : FUp fs frs) {h' : Heap} (hu : ∀ p ∈ fs, ∃ sl, h'.get? p.1 = some { p.2 with slots := sl }) : ∃ fs', FUp fs' frs ∧ fs'.map (·.1) = fs.map (·.1) ∧ (∀ p ∈ fs', h'.get? p.1 = some p.2) ∧ ∀ p ∈ fs', ∃ q ∈ fs, q.1 = p.1 ∧ q.2.data = p.2.data := by
  unfold FUp at hf
  induction hf with
  | nil => exact ⟨[], .nil, rfl, (fun _ h => nomatch h), fun _ h => nomatch h⟩
  | @cons r x rs xs h1 _ ih =>
    obtain ⟨fs', a1, a2, a3, a4⟩ := ih fun p hp => hu p (.tail _ hp)
    obtain ⟨sl, hsl⟩ := hu r (.head _)
    obtain ⟨e1, sl0, e2⟩ := h1
    refine ⟨(r.1, { r.2 with slots := sl }) :: fs', .cons ⟨e1, sl, by rw [e2]⟩ a1, by simp [a2], fun p hp => ?_, fun p hp => ?_⟩
    · rcases List.mem_cons.mp hp with rfl | hp
      · exact hsl
      · exact a3 p hp
    · rcases List.mem_cons.mp hp with rfl | hp
      · exact ⟨r, .head _, rfl, rfl⟩
      · obtain ⟨q, q1, q2⟩ := a4 p hp
        exact ⟨q, .tail _ q1, q2⟩

theorem Fly.st {B : Base} {A : Around} {L : Addr} {h : Heap} {m : Str → Option Value} {ls : List Ent} {ob nw : Led} {e : Addr} {cls : String} (F : Fly B A L h m ls ob nw e cls) : St B L h m ls ob nw := by
  obtain ⟨fr, hb, a0, rs, fs, h1, h2, h3, h4, h5, h6, h7, h8, h9, h10⟩ := F
  refine ⟨⟨h7, fun b o q => h6.1 b o (h4 b o q), h10⟩, ⟨rs, fs, h2, h3, fun p hp => ?_⟩, h9⟩
  have ex : ∀ p ∈ rs ++ (ob ++ nw), h.get? p.1 = some p.2 ∧ p.1 ≠ L ∧ B.hB.get? p.1 = none := fun p hp => ⟨h6.1 _ _ (h5 p hp).1, (h5 p hp).2⟩
  rcases List.mem_append.mp hp with hp | hp
  · exact ex p (List.mem_append_left _ hp)
  · rcases List.mem_append.mp hp with hp | hp
    · exact ex p (List.mem_append_right _ (List.mem_append_left _ hp))
    · rcases List.mem_append.mp hp with hp | hp
      · exact (h8 p hp).2
      · exact ex p (List.mem_append_right _ (List.mem_append_right _ hp))

section
variable {X : Pg} {mg mb : Str → Option Value} {prog : Program} {w : World} {A : Around} {E : Value → Shared → Prop} {s : Shared} {h : Heap} {tk : Nat} {h₀ : Base} {L : Addr} {m : Str → Option Value} {ls : List Ent} {ob nw : Led}

/-- the body's end: back in the caller's frame -/
def Back (s : Shared) (h₀ : Base) (L : Addr) (m : Str → Option Value) (g : Base) (L' : Addr) (Q : Value → Shared → Prop) (v : Value) (s' : Shared) : Prop :=
  ∃ h' tk m' ls' ob' nw', s' = mk s h' tk ∧ St g L' h' m' ls' ob' nw' ∧ (St h₀ L h' m ls' ob' nw' → Q v (mk s h' tk))
theorem Back.intro {g : Base} {h' : Heap} {L' : Addr} {Q : Value → Shared → Prop} {v : Value} {m' : Str → Option Value} (S : St g L' h' m' ls ob nw) (q : St h₀ L h' m ls ob nw → Q v (mk s h' tk)) : Back s h₀ L m g L' Q v (mk s h' tk) :=
  ⟨h', tk, m', ls, ob, nw, rfl, S, q⟩
/-- the body's raise -/
def RBack (s : Shared) (h₀ : Base) (A : Around) (L : Addr) (m : Str → Option Value) (g : Base) (L' : Addr) (E : Value → Shared → Prop) (e : Value) (s' : Shared) : Prop :=
  ∃ e' cls h₂ h' tk m' ls' ob' nw', e = .ref e' ∧ s' = mk s h' tk ∧ Heap.NewExc h₂ h' e' cls ∧ St g L' h₂ m' ls' ob' nw' ∧ ∀ h3, Fly h₀ A L h3 m ls' ob' nw' e' cls → E (.ref e') (mk s h3 tk)

def retOf (fl : Flow) : Value := match fl with | .ret v => v | _ => .none

/-- from the callee's frame back to the caller's -/
theorem St.back {oL : Obj} {es : Array DictEntry} {ep : Nat} {L' : Addr} {h' : Heap} {m' : Str → Option Value} (hd : oL.data = .dict es ep) (hsk : StrKeys es) (hm : ∀ x, nsFind es x = m x) (hab : h₀.hB.objs.size ≤ L) (S : St ⟨h₀.hB, (L, oL) :: h₀.frs⟩ L' h' m' ls ob nw) : St h₀ L h' m ls ob nw := by
  obtain ⟨rs, fs, hr, hf, N⟩ := S.led
  obtain _ | ⟨⟨e1, sl, e2⟩, hf⟩ := hf
  rename_i r fs
  obtain ⟨ra, ro⟩ := r
  simp only at e1 e2
  subst e1 e2
  have hp1 : (adr ls ob ⟨h₀.hB, (ra, oL) :: h₀.frs⟩).Perm (ra :: adr ls ob h₀) := by
    unfold adr
    exact (List.Perm.append_left _ List.perm_middle).trans List.perm_middle
  have hn := List.nodup_cons.mp (hp1.nodup_iff.mp S.apart.1)
  have hL := N (ra, { oL with slots := sl }) (List.mem_append_right _ (List.mem_append_right _ (.head _)))
  refine ⟨⟨⟨_, es, ep, hL.1, hd, hsk, hm⟩, S.fr.keep, hab⟩, ⟨rs, fs, hr, hf, fun p hp => ?_⟩, hn.2, fun a ha p hp => S.apart.2 a (hp1.mem_iff.mpr (.tail _ ha)) p hp⟩
  have hp' : p ∈ rs ++ (ob ++ ((ra, { oL with slots := sl }) :: fs ++ nw)) := by
    rcases List.mem_append.mp hp with hp | hp
    · exact List.mem_append_left _ hp
    · rcases List.mem_append.mp hp with hp | hp
      · exact List.mem_append_right _ (List.mem_append_left _ hp)
      · exact List.mem_append_right _ (List.mem_append_right _ (.tail _ hp))
  refine ⟨(N p hp').1, fun q => ?_, (N p hp').2.2⟩
  rcases List.mem_append.mp hp with hp | hp
  · exact hn.1 (q ▸ List.mem_append_left _ (Raw.addrs hr ▸ List.mem_map_of_mem (f := (·.1)) hp))
  · rcases List.mem_append.mp hp with hp | hp
    · exact hn.1 (q ▸ List.mem_append_right _ (List.mem_append_left _ (List.mem_map_of_mem (f := (·.1)) hp)))
    · rcases List.mem_append.mp hp with hp | hp
      · exact hn.1 (q ▸ List.mem_append_right _ (List.mem_append_right _ ((FUp.addrs hf) ▸ List.mem_map_of_mem (f := (·.1)) hp)))
      · exact S.apart.2 ra (hp1.mem_iff.mpr (.head _)) p hp q

theorem outOk_addrs {outer : List Env} {frs : Led} (h : OutOk outer frs) : outer.filterMap (·.frame) = frs.map (·.1) := by
  unfold OutOk at h
  induction h with
  | nil => rfl
  | cons h1 _ ih => simp [h1.2.1, ih]

theorem outOk_frames {outer : List Env} {frs : Led} (h : OutOk outer frs) : ∀ {fs : Led} {h' hb : Heap}, FUp fs frs → (∀ p ∈ fs, h'.get? p.1 = some p.2) → (∀ p ∈ fs, hb.get? p.1 = none) → h'.FunFrames hb outer := by
  unfold OutOk at h
  induction h with
  | nil => intros; trivial
  | @cons env x outer frs h1 _ ih =>
    intro fs h' hb hf h2 h3
    obtain _ | ⟨⟨e1, sl, e2⟩, hf⟩ := hf
    rename_i r fs
    obtain ⟨es, n, hd⟩ := h1.2.2
    refine ⟨h1.1, ⟨x.1, r.2, h1.2.1, e1 ▸ h3 r (.head _), e1 ▸ h2 r (.head _), fun vs q => ?_⟩, ih hf (fun p hp => h2 p (.tail _ hp)) fun p hp => h3 p (.tail _ hp)⟩
    rw [e2] at q
    rw [show ({ x.2 with slots := sl } : Obj).data = x.2.data from rfl, hd] at q
    cases q

theorem fup_dicts {outer : List Env} {frs : Led} (ho : OutOk outer frs) : ∀ {fs : Led}, FUp fs frs → ∀ p ∈ fs, ∃ es n, p.2.data = .dict es n := by
  unfold OutOk at ho
  induction ho with
  | nil => intro fs hf p hp; cases hf; cases hp
  | cons h2 _ ih =>
    intro fs hf p hp
    obtain _ | ⟨⟨e1, sl, e2⟩, hf⟩ := hf
    rcases List.mem_cons.mp hp with rfl | hp
    · obtain ⟨es, n, hd⟩ := h2.2.2
      exact ⟨es, n, by rw [e2]; exact hd⟩
    · exact ih hf p hp

/-- a new exception leaves the callee's frame -/
theorem leaves {oL : Obj} {es : Array DictEntry} {ep : Nat} {L' e : Addr} {h₂ h' : Heap} {m' : Str → Option Value} {env env' : Env} {outer : List Env} {cls : String} {M : Model} {E₂ : Value → Shared → Prop} {Q : Unit → Shared → Prop}
    (hA : A.frames = some (env :: outer)) (hfr : env.frame = some L) (hk : env.scope.kind = .function) (ho : OutOk outer h₀.frs) (hk' : env'.scope.kind = .function) (hf' : env'.frame = some L')
    (hd : oL.data = .dict es ep) (hsk : StrKeys es) (hm : ∀ x, nsFind es x = m x) (hab : h₀.hB.objs.size ≤ L) (S : St ⟨h₀.hB, (L, oL) :: h₀.frs⟩ L' h₂ m' ls ob nw) (hx : Heap.NewExc h₂ h' e cls)
    (q : ∀ h3, Fly h₀ A L h3 m ls ob nw e cls → Q () (mk s h3 tk)) : wpAny M (A.deeper env') (leaving env' (.ref e)) Q E₂ (mk s h' tk) := by
  have SB := S.back hd hsk hm hab
  obtain ⟨rs, fs0, hr, hf0, N⟩ := S.led
  obtain _ | ⟨⟨e1, sl, e2⟩, hf⟩ := hf0
  rename_i r fs
  obtain ⟨ra, ro⟩ := r
  simp only at e1 e2
  subst e1 e2
  have hAf : (A.deeper env').frames = some (env' :: env :: outer) := by show Option.map _ A.frames = _; rw [hA]; rfl
  have hfa : (env' :: env :: outer).filterMap (·.frame) = L' :: ra :: h₀.frs.map (·.1) := by
    rw [List.filterMap_cons_some hf', List.filterMap_cons_some hfr, outOk_addrs ho]
  have hOut : OutOk (env :: outer) ((ra, oL) :: h₀.frs) := .cons ⟨by rw [hk]; decide, hfr, es, ep, hd⟩ ho
  have hFU : FUp ((ra, { oL with slots := sl }) :: fs) ((ra, oL) :: h₀.frs) := .cons ⟨rfl, sl, rfl⟩ hf
  have hin : ∀ p ∈ (ra, ({ oL with slots := sl } : Obj)) :: fs, p ∈ rs ++ (ob ++ ((ra, { oL with slots := sl }) :: fs ++ nw)) := fun p hp => List.mem_append_right _ (List.mem_append_right _ (List.mem_append_left _ hp))
  -- the heap without the frames
  obtain ⟨hb, hbd⟩ : ∃ hb, hb = hideAll h₂ (L' :: ra :: h₀.frs.map (·.1)) := ⟨_, rfl⟩
  have hbs : hb.StaysIn h₂ := fun b o qb => of_hideAll _ (hbd ▸ qb)
  have hnone : ∀ p ∈ (ra, ({ oL with slots := sl } : Obj)) :: fs, hb.get? p.1 = none := fun p hp => by
    rw [hbd]
    refine hideAll_none _ (.tail _ ?_)
    show p.1 ∈ ((ra, oL) :: h₀.frs).map (·.1)
    rw [← FUp.addrs hFU]
    exact List.mem_map_of_mem (f := (·.1)) hp
  have hL'n : hb.get? L' = none := by rw [hbd]; exact hideAll_none _ (.head _)
  have hstay : h₀.hB.StaysIn hb := fun b o qb => by
    rw [hbd]
    refine hideAll_get _ (S.fr.keep b o qb) fun hm => ?_
    rcases List.mem_cons.mp hm with rfl | hm
    · exact absurd (Nat.lt_of_lt_of_le (Heap.lt_size qb) S.fr.above) (Nat.lt_irrefl _)
    · have : b ∈ ((ra, ({ oL with slots := sl } : Obj)) :: fs).map (·.1) := by rw [FUp.addrs hFU]; exact hm
      obtain ⟨p, hp, rfl⟩ := List.mem_map.mp this
      have := (N p (hin p hp)).2.2
      rw [show h₀.hB.get? p.1 = none from this] at qb; cases qb
  have hledger : ∀ p ∈ rs ++ (ob ++ nw), hb.get? p.1 = some p.2 := fun p hp => by
    have hp' : p ∈ rs ++ (ob ++ ((ra, { oL with slots := sl }) :: fs ++ nw)) := by
      rcases List.mem_append.mp hp with hp | hp
      · exact List.mem_append_left _ hp
      · rcases List.mem_append.mp hp with hp | hp
        · exact List.mem_append_right _ (List.mem_append_left _ hp)
        · exact List.mem_append_right _ (List.mem_append_right _ (List.mem_append_right _ hp))
    rw [hbd]
    refine hideAll_get _ (N p hp').1 fun hm => ?_
    rcases List.mem_cons.mp hm with q | hm
    · exact (N p hp').2.1 q
    · have hn := S.apart
      have hnd := List.nodup_append.mp hn.1
      have hnd2 := List.nodup_append.mp hnd.2.1
      have hm' : p.1 ∈ ((ra, oL) :: h₀.frs).map (·.1) := hm
      rcases List.mem_append.mp hp with hp | hp
      · exact hnd.2.2 p.1 (Raw.addrs hr ▸ List.mem_map_of_mem (f := (·.1)) hp) p.1 (List.mem_append_right _ hm') rfl
      · rcases List.mem_append.mp hp with hp | hp
        · exact hnd2.2.2 p.1 (List.mem_map_of_mem (f := (·.1)) hp) p.1 hm' rfl
        · exact hn.2 p.1 (List.mem_append_right _ (List.mem_append_right _ hm')) p hp rfl
  obtain ⟨oL', es', ep', hgL', hdL', _⟩ := S.fr.ns
  have hFF : h'.FunFrames hb (env' :: env :: outer) := by
    refine ⟨by rw [hk']; decide, ⟨L', oL', hf', hL'n, hx.keeps _ _ hgL', fun vs qd => by rw [hdL'] at qd; cases qd⟩, outOk_frames hOut hFU (fun p hp => hx.keeps _ _ (N p (hin p hp)).1) hnone⟩
  obtain ⟨ob', tp, he, hcls, hdat⟩ := hx.there
  have hen : hb.get? e = none := by
    cases qe : hb.get? e with
    | none => rfl
    | some o => have := hbs _ _ qe; rw [hx.new] at this; cases this
  refine wpAny_leaving_firstW (s := mk s h' tk) (base := hb) (a0 := tp) hAf hFF hf' he (fun b o qb => hx.keeps b o (hbs b o qb)) hen hdat rfl rfl fun h3 hLf => ?_
  obtain ⟨k1, ⟨_, _, k2⟩, k3, k4⟩ := hLf
  have k4' : h₂.UpToSlots h3 := (Heap.UpToSlots.of_keeps hx.keeps).trans k4
  have hdicts := fup_dicts ho hf
  obtain ⟨fs', f1, f2, f3, f4⟩ := up_frames hf (h' := h3) fun p hp => by
    have z := N p (hin p (.tail _ hp))
    refine k4' p.1 p.2 z.1 fun vs qd => ?_
    obtain ⟨es2, n2, hd2⟩ := hdicts p hp
    rw [hd2] at qd; cases qd
  refine q h3 ⟨env :: outer, hb, tp, rs, fs', hA, hr, f1, hstay, fun p hp => ⟨hledger p hp, ?_⟩, ⟨k1, hen, k2, by rw [← hcls]; exact k3⟩, ?_, fun p hp => ?_, SB.apart, hab⟩
  · obtain ⟨rs2, fs2, hr2, hf2, N2⟩ := SB.led
    have hp' : p ∈ rs ++ (ob ++ ((ra, { oL with slots := sl }) :: fs ++ nw)) := by
      rcases List.mem_append.mp hp with hp | hp
      · exact List.mem_append_left _ hp
      · rcases List.mem_append.mp hp with hp | hp
        · exact List.mem_append_right _ (List.mem_append_left _ hp)
        · exact List.mem_append_right _ (List.mem_append_right _ (List.mem_append_right _ hp))
    refine ⟨fun qe => ?_, (N p hp').2.2⟩
    have z := hledger p hp
    rw [qe, hnone (ra, _) (.head _)] at z; cases z
  · exact k4'.ns SB.fr.ns
  · obtain ⟨q0, q1, q2, q3⟩ := f4 p hp
    obtain ⟨es, n, hd⟩ := hdicts q0 q1
    have z := N q0 (hin q0 (.tail _ q1))
    refine ⟨⟨es, n, by rw [← q3]; exact hd⟩, f3 p hp, ?_, by rw [← q2]; exact z.2.2⟩
    intro qe
    have : (ra, ({ oL with slots := sl } : Obj)).1 ∉ fs.map (·.1) := by
      have hn := S.apart
      have hnd := (List.nodup_append.mp (List.nodup_append.mp hn.1).2.1).2.1
      rw [← FUp.addrs hFU] at hnd
      exact (List.nodup_cons.mp hnd).1
    exact this (by rw [← qe, ← f2]; exact List.mem_map_of_mem (f := (·.1)) hp)

/-- the arguments by place -/
abbrev bindsOf (X : Pg) (i : Nat) (vals : List Value) : List (Str × Value) := ((pr X.P i).args.map (·.arg)).zip vals
theorem call_fnE {k i : Nat} {vals : List Value} {Q : Value → Shared → Prop} (C : Cx X mg mb A h₀ L (k + 1)) (S : St h₀ L h m ls ob nw) (hi : i ∈ X.js)
    (hbind : ∀ pm code doc, bindArgs (Calls.docDef (nm X.P i) (pr X.P i) (bd X.P i) (sc X.P i) pm code doc) ⟨vals, []⟩ = pure (bindsOf X i vals))
    (hloc : ∀ y ∈ bindsOf X i vals, (sc X.P i).names.lookup y.1 = some .local)
    (q : ∀ g L' h₁ tk code, Cx X mg mb (A.deeper (envX (nm X.P i) (sc X.P i) L' (fa X.P mg i) code [])) g L' k → St g L' h₁ (fun y => (bindsOf X i vals).reverse.lookup y) ls ob nw →
      wpAny (model prog w) (A.deeper (envX (nm X.P i) (sc X.P i) L' (fa X.P mg i) code [])) (execs (bd X.P i) (envX (nm X.P i) (sc X.P i) L' (fa X.P mg i) code []))
        (fun fl s' => Back s h₀ L m g L' Q (retOf fl) s') (RBack s h₀ A L m g L' E) (mk s h₁ tk))
    (hco : (sc X.P i).isCoroutine = false := by rfl) (hgen : (sc X.P i).isGenerator = false := by rfl) (hk : (sc X.P i).kind = .function := by rfl)
    (hcell : ∀ x ∈ (sc X.P i).names, x.2 ≠ .cell := by decide) :
    wpAny (model prog w) A (call (.ref (fa X.P mg i)) vals) Q E (mk s h tk) := by
  obtain ⟨env, outer, hA, hf, hke, hout⟩ := C.below
  obtain ⟨_, o, pm, code, doc, h2, h3, h4⟩ := (C.gd.keeps S.fr.keep).fn i hi
  obtain ⟨rs, fs, hr, hfu, N⟩ := S.led
  obtain ⟨oL, es, ep, hgL, hdL, hskL, hmL⟩ := S.fr.ns
  have hd := C.depth
  have hu := C.units
  have hLlt : L < h.objs.size := Heap.lt_size hgL
  refine wpAny_call (codeAny_call_def (s := mk s h tk) (fd := Calls.docDef (nm X.P i) (pr X.P i) (bd X.P i) (sc X.P i) pm code doc) (body := bd X.P i) (binds := bindsOf X i vals) (by show _ < 1000; lia) h2 h3 (C.gd.nolimit.keeps S.fr.keep) h4 rfl (BindsTo.of_eq (hbind pm code doc)) hcell hloc
    (fun h₁ hns hk₁ => ?_) hco hgen hk)
  have hns' : h₁.Ns h.objs.size (fun y => (bindsOf X i vals).reverse.lookup y) := hns
  have hk₁' : ∀ b o, h.get? b = some o → h₁.get? b = some o := hk₁
  have C' : Cx X mg mb (A.deeper (envX (nm X.P i) (sc X.P i) h.objs.size (fa X.P mg i) code [])) ⟨h₀.hB, (L, oL) :: h₀.frs⟩ h.objs.size k :=
    ⟨C.gd, ⟨_, env :: outer, by show Option.map _ A.frames = _; rw [hA]; rfl, rfl, hk, .cons ⟨by rw [hke]; decide, hf, es, ep, hdL⟩ hout⟩, by show A.depth + 1 + k < 900; lia, by show A.units + 3 + 3 * k < 9000; lia, C.handled⟩
  have hp1 : (adr ls ob ⟨h₀.hB, (L, oL) :: h₀.frs⟩).Perm (L :: adr ls ob h₀) := by
    unfold adr
    exact (List.Perm.append_left _ List.perm_middle).trans List.perm_middle
  have S' : St ⟨h₀.hB, (L, oL) :: h₀.frs⟩ h.objs.size h₁ (fun y => (bindsOf X i vals).reverse.lookup y) ls ob nw := by
    refine ⟨⟨hns', fun b o e => hk₁' b o (S.fr.keep b o e), Nat.le_trans S.fr.above (Nat.le_of_lt hLlt)⟩, ⟨rs, (L, oL) :: fs, hr, .cons ⟨rfl, oL.slots, rfl⟩ hfu, fun p hp => ?_⟩, ?_, ?_⟩
    · by_cases hpL : p = (L, oL)
      · subst hpL
        exact ⟨hk₁' _ _ hgL, Nat.ne_of_lt hLlt, Heap.get?_none_of_le S.fr.above⟩
      · have hp' : p ∈ rs ++ (ob ++ (fs ++ nw)) := by
          rcases List.mem_append.mp hp with hp | hp
          · exact List.mem_append_left _ hp
          · rcases List.mem_append.mp hp with hp | hp
            · exact List.mem_append_right _ (List.mem_append_left _ hp)
            · rcases List.mem_cons.mp hp with hp | hp
              · exact absurd hp hpL
              · exact List.mem_append_right _ (List.mem_append_right _ hp)
        exact ⟨hk₁' _ _ (N p hp').1, Nat.ne_of_lt (Heap.lt_size (N p hp').1), (N p hp').2.2⟩
    · exact hp1.nodup_iff.mpr (List.nodup_cons.mpr ⟨fun q => (S.low.1 L q).2 rfl, S.apart.1⟩)
    · intro b hb p hp
      rcases List.mem_cons.mp (hp1.mem_iff.mp hb) with rfl | hb
      · exact (S.news p hp).2.1
      · exact S.apart.2 b hb p hp
  refine wpAny_mono (q ⟨h₀.hB, (L, oL) :: h₀.frs⟩ h.objs.size h₁ _ code C' S') (fun fl s' hb => ?_) fun e s' hr => ?_
  · obtain ⟨h', tk, m', ls', ob', nw', rfl, S'', hq⟩ := hb
    exact hq (S''.back hdL hskL hmL S.fr.above)
  · obtain ⟨e', cls, h₂, h', tk', m', ls', ob', nw', rfl, rfl, hx, S'', hq⟩ := hr
    exact leaves hA hf hke hout hk rfl hdL hskL hmL S.fr.above S'' hx fun h3 fl => hq h3 fl

theorem call_fn {k i : Nat} {vals : List Value} {Q : Value → Shared → Prop} (C : Cx X mg mb A h₀ L (k + 1)) (S : St h₀ L h m ls ob nw) (hi : i ∈ X.js)
    (hbind : ∀ pm code doc, bindArgs (Calls.docDef (nm X.P i) (pr X.P i) (bd X.P i) (sc X.P i) pm code doc) ⟨vals, []⟩ = pure (bindsOf X i vals))
    (hloc : ∀ y ∈ bindsOf X i vals, (sc X.P i).names.lookup y.1 = some .local)
    (q : ∀ g L' h₁ tk code, Cx X mg mb (A.deeper (envX (nm X.P i) (sc X.P i) L' (fa X.P mg i) code [])) g L' k → St g L' h₁ (fun y => (bindsOf X i vals).reverse.lookup y) ls ob nw →
      wpAny (model prog w) (A.deeper (envX (nm X.P i) (sc X.P i) L' (fa X.P mg i) code [])) (execs (bd X.P i) (envX (nm X.P i) (sc X.P i) L' (fa X.P mg i) code []))
        (fun fl s' => Back s h₀ L m g L' Q (retOf fl) s') (fun _ _ => False) (mk s h₁ tk))
    (hco : (sc X.P i).isCoroutine = false := by rfl) (hgen : (sc X.P i).isGenerator = false := by rfl) (hk : (sc X.P i).kind = .function := by rfl)
    (hcell : ∀ x ∈ (sc X.P i).names, x.2 ≠ .cell := by decide) :
    wpAny (model prog w) A (call (.ref (fa X.P mg i)) vals) Q E (mk s h tk) :=
  call_fnE C S hi hbind hloc (fun g L' h₁ tk code C' S' => wpAny_mono (q g L' h₁ tk code C' S') (fun _ _ x => x) fun _ _ x => x.elim) hco hgen hk hcell

/-- a global def's name -/
theorem r_def {k i : Nat} {name : Str} {scope : Scope} {f : Addr} {cd : Value} {cl : List (Str × Addr)} {x : Str} {pos : Pos} {Q : Value → Shared → Prop} (C : Cx X mg mb A h₀ L k) (S : St h₀ L h m ls ob nw) (hi : i ∈ X.js) (hx : nm X.P i = x) (q : Q (.ref (fa X.P mg i)) (mk s h tk))
    (hk : scope.kind = .function := by rfl) (hl : (envX name scope L f cd cl).kindOf x = some .globalImplicit := by rfl) (hd : (x == ("__debug__" : Str)) = false := by decide) :
    wpAny (model prog w) A (eval (.Name x pos) (envX name scope L f cd cl)) Q E (mk s h tk) := by
  subst hx
  exact Calls.Name_function_global hk hl (Calls.loadGlobal_global (s := mk s h tk) (env := envX name scope L f cd cl) (C.gd.g.keeps S.fr.keep) (C.gd.fn i hi).1 q) hd
/-- a built-in's name -/
theorem r_blt {k : Nat} {name : Str} {scope : Scope} {f : Addr} {cd : Value} {cl : List (Str × Addr)} {x : Str} {pos : Pos} {v : Value} {Q : Value → Shared → Prop} (C : Cx X mg mb A h₀ L k) (S : St h₀ L h m ls ob nw) (hx : x ∈ X.free) (hv : bootBuiltins x = some v) (q : Q v (mk s h tk))
    (hn : x ≠ "__name__" := by decide +kernel)
    (hk : scope.kind = .function := by rfl) (hl : (envX name scope L f cd cl).kindOf x = some .globalImplicit := by rfl) (hd : (x == ("__debug__" : Str)) = false := by decide) :
    wpAny (model prog w) A (eval (.Name x pos) (envX name scope L f cd cl)) Q E (mk s h tk) :=
  Calls.Name_function_global hk hl (Calls.loadGlobal_builtin (s := mk s h tk) (env := envX name scope L f cd cl) (C.gd.g.keeps S.fr.keep) (C.gd.free x hx) (C.gd.b.keeps S.fr.keep) ((C.gd.blt x hn).trans hv) q) hd

/-- a call of a def of the text by its name, arguments by place -/
theorem r_callF {k : Nat} (i : Nat) {name : Str} {scope : Scope} {f : Addr} {cd : Value} {cl : List (Str × Addr)} {x : Str} {np pos : Pos} {e : PySem.Expr} {rest : List PySem.Expr} {Q : Value → Shared → Prop} (C : Cx X mg mb A h₀ L k) (S : St h₀ L h m ls ob nw) (hi : i ∈ X.js) (hx : nm X.P i = x)
    (q : wpAny (model prog w) A (spliced (backTo pos (starEach (e :: rest) (envX name scope L f cd cl)))) (fun vs s₁ => (∀ b o, h₀.hB.get? b = some o → s₁.heap.get? b = some o) ∧ wpAny (model prog w) A (call (.ref (fa X.P mg i)) vs) Q E s₁) E (mk s h tk))
    (he : starEach (e :: rest) (envX name scope L f cd cl) = (false, eval e (envX name scope L f cd cl)) :: starEach rest (envX name scope L f cd cl) := by rfl)
    (hk : scope.kind = .function := by rfl) (hl : (envX name scope L f cd cl).kindOf x = some .globalImplicit := by rfl) (hd : (x == ("__debug__" : Str)) = false := by decide) :
    wpAny (model prog w) A (eval (.Call (.Name x np) (e :: rest) [] pos) (envX name scope L f cd cl)) Q E (mk s h tk) := by
  refine Call_ (r_def C S hi hx ?_ hk hl hd)
  obtain ⟨_, o, pm, code, doc, h2, h3, h4⟩ := C.gd.fn i hi
  exact callWith_def (o := o) h3 (wpAny_mono q (fun vs s₁ hq => ⟨hq.1 _ _ h2, hq.2⟩) fun _ _ x => x) he

/-- a call of a built-in function by its name -/
theorem r_callB {k : Nat} {id : String} {name : Str} {scope : Scope} {f : Addr} {cd : Value} {cl : List (Str × Addr)} {x : Str} {np pos : Pos} {e : PySem.Expr} {rest : List PySem.Expr} {Q : Value → Shared → Prop} (C : Cx X mg mb A h₀ L k) (S : St h₀ L h m ls ob nw) (hx : x ∈ X.free) (hv : bootBuiltins x = some (.builtin id))
    (q : wpAny (model prog w) A (spliced (backTo pos (starEach (e :: rest) (envX name scope L f cd cl)))) (fun vs s₁ => wpAny (model prog w) A (call (.builtin id) vs) Q E s₁) E (mk s h tk))
    (hn : x ≠ "__name__" := by decide +kernel)
    (he : starEach (e :: rest) (envX name scope L f cd cl) = (false, eval e (envX name scope L f cd cl)) :: starEach rest (envX name scope L f cd cl) := by rfl)
    (hplain : (backTo pos (starEach rest (envX name scope L f cd cl))).any (·.1) = false := by rfl)
    (hk : scope.kind = .function := by rfl) (hl : (envX name scope L f cd cl).kindOf x = some .globalImplicit := by rfl) (hd : (x == ("__debug__" : Str)) = false := by decide) :
    wpAny (model prog w) A (eval (.Call (.Name x np) (e :: rest) [] pos) (envX name scope L f cd cl)) Q E (mk s h tk) :=
  Call_ (r_blt C S hx hv (callWith_builtin1 q he hplain) hn hk hl hd)
end

section
variable {prog : Program} {w : World} {A : Around} {s : Shared} {env : Env}
theorem r_while {test : PySem.Expr} {body : List Stmt} {pos : Pos} {Q : Flow → Shared → Prop} (I : Nat → Shared → Prop) (J : Shared → Prop) (n₀ : Nat) (h0 : I n₀ s)
    (turn : ∀ n s', I n s' → wpAny (model prog w) A (isTrue test env (eval test env)) (fun b s₂ => if b = true then wpAny (model prog w) A (execs body env) (fun f s₃ => match f with
        | .next | .cont => ∃ n', n' < n ∧ I n' s₃
        | .brk => J s₃
        | .ret v => Q (.ret v) s₃) (fun _ _ => False) s₂ else J s₂) (fun _ _ => False) s')
    (hJ : ∀ s', J s' → Q .next s') :
    wpAny (model prog w) A (exec (.While test body [] pos) env) Q (fun _ _ => False) s := by
  refine wpAny_While (codeAny_whileLoop I (fun n s' hI => ?_) n₀ h0)
  refine wpAny_mono (turn n s' hI) (fun b s₂ h₂ => ?_) fun _ _ x => x.elim
  cases b with
  | false =>
    simp only [Bool.false_eq_true, if_false] at h₂ ⊢
    exact wpAny_execs_nil (hJ _ h₂)
  | true =>
    simp only [if_true] at h₂ ⊢
    refine wpAny_mono h₂ (fun f s₃ h₃ => ?_) fun _ _ x => x.elim
    cases f with
    | brk => exact hJ _ h₃
    | _ => exact h₃
end
end Mine
end

section
set_option autoImplicit false
namespace Mine
/-- the text of law 1 -/
abbrev X1 : Pg := ⟨PySem.Challenge.pw_du0011_01, [1,2,3,4,5,6,7,8,9,10,11,12,16,17,18,19,20,21,22,23], [13, 14], [Str.ofString "len", Str.ofString "range", Str.ofString "reversed", Str.ofString "IndexError", Str.ofString "list", Str.ofString "max", Str.ofString "min", Str.ofString "sorted", Str.ofString "iter", Str.ofString "object", Str.ofString "zip", Str.ofString "TypeError", Str.ofString "AttributeError"]⟩

end Mine
end

section
set_option autoImplicit false
set_option maxRecDepth 100000
namespace Mine
/-- the defaults' tuple of a def is (None,) -/
def dfl1 (h : Heap) (n : Str) : Bool := match h.fnAt mainGlobals n with
  | some (_, _, fd) => (match fd.defaults with
    | .ref d => (match h.get? d with
      | some o => (match o.data with
        | .seq vs _ => (match vs.toList with
          | [.none] => true
          | _ => false)
        | _ => false)
      | none => false)
    | _ => false)
  | none => false
def rec1 (P : Program) (i : Nat) : DefRec := ⟨nm P i, pr P i, bd P i, sc P i, default⟩
def Says1 (P : Program) (ks : List Nat) (h : Heap) : Prop := ∃ m, h.Ns mainGlobals m ∧ ∀ i ∈ ks, ∃ a o pm code doc dA dO dn, m (nm P i) = some (.ref a) ∧ h.get? a = some o ∧ o.data = .func { Calls.docDef (nm P i) (pr P i) (bd P i) (sc P i) pm code doc with defaults := .ref dA } ∧ h.CodeRec code (nm P i) ∧
    h.get? dA = some dO ∧ dO.data = .seq #[Value.none] dn
theorem says1_of {P : Program} {ks : List Nat} {h : Heap} (h1 : h.isNs mainGlobals = true) (h2 : ks.map (fun i => h.shapeAtD (nm P i)) = ks.map fun i => some (rec1 P i).shape) (h3 : (ks.all fun i => dfl1 h (nm P i)) = true) : Says1 P ks h := by
  refine ⟨_, .of_isNs h1, fun i hi => ?_⟩
  obtain ⟨a, o, pm, code, doc, dV, q1, q2, q3, q4⟩ := Heap.hasFn_of_shapeD (d := rec1 P i) (List.map_inj_left.mp h2 i hi)
  have q5 := List.all_eq_true.mp h3 i hi
  unfold dfl1 at q5
  split at q5
  · rename_i f o' fd hf
    obtain ⟨r1, r2, r3⟩ := Heap.fnAt_spec hf
    obtain rfl : f = a := by rw [show h.nsMap mainGlobals (nm P i) = some (.ref a) from q1] at r1; injection r1 with e; injection e with e; exact e.symm
    rw [q2] at r2
    cases r2
    rw [q3] at r3
    cases r3
    split at q5
    · rename_i d hd
      split at q5
      · rename_i dO hdO
        split at q5
        · rename_i vs dn hdat
          split at q5
          · rename_i hvs
            have hd : dV = .ref d := hd
            subst hd
            refine ⟨f, o, pm, code, doc, d, dO, dn, q1, q2, q3, q4, hdO, ?_⟩
            rw [hdat]
            congr 1
            exact Array.toList_inj.mp hvs
          · cases q5
        · cases q5
      · cases q5
    · cases q5
  · cases q5
def hk1 (P : Program) (ks : List Nat) : Hook where
  α := Bool × List (Option FnShape) × Bool
  obs := fun s => (s.heap.isNs mainGlobals, ks.map (fun i => s.heap.shapeAtD (nm P i)), ks.all fun i => dfl1 s.heap (nm P i))
  val := fun _ => (true, ks.map (fun i => some (rec1 P i).shape), true)
  says := fun _ h => Says1 P ks h
  of := fun w s e => says1_of (congrArg (·.1) e) (congrArg (·.2.1) e) (congrArg (·.2.2) e)
  keeps := fun w h h' ⟨m, g, x⟩ k => ⟨m, g.keeps k, fun i hi => let ⟨a, o, pm, code, doc, dA, dO, dn, q1, q2, q3, q4, q5, q6⟩ := x i hi; ⟨a, o, pm, code, doc, dA, dO, dn, q1, k _ _ q2, q3, q4.keeps k, k _ _ q5, q6⟩⟩
end Mine
end

section
set_option autoImplicit false
set_option maxRecDepth 100000
namespace Mine
def fq (P : Program) (i : Nat) : Str × Arguments × List Stmt × Scope := (nm P i, pr P i, bd P i, sc P i)
theorem gd_of {P vw : Program} {js js' ks : List Nat} {free loose : List Str} {mean : ExcName → Option Value} {mg mb : Str → Option Value} {h : Heap} (T : Top vw loose mean mg mb h) (Y : Says1 P ks h)
    (hj : (recsOf vw).map (fun d => (d.name, d.params, d.body, d.scope)) = js'.map (fq P)) (hs : ∀ i ∈ js, i ∈ js')
    (hf : (free.all fun x => !(startupNames.contains x) && !(loose.contains x) && !(((recsOf vw).map (·.name)).contains x) && !(((litsOf vw).map (·.1)).contains x) && !(((clssOf vw loose).map (·.name)).contains x)) = true) :
    Gd P js ks free mg mb h where
  g := T.g
  b := T.b
  nolimit := T.nolimit
  blt := T.builtins
  free := fun x hx => by
    have := List.all_eq_true.mp hf x hx
    simp only [Bool.and_eq_true, Bool.not_eq_true', List.contains_eq_mem, decide_eq_false_iff_not] at this
    exact T.free x this.1.1.1.1 this.1.1.1.2 this.1.1.2 this.1.2 this.2
  fn := fun i hi => by
    have : fq P i ∈ (recsOf vw).map (fun d => (d.name, d.params, d.body, d.scope)) := hj ▸ List.mem_map_of_mem (hs i hi)
    obtain ⟨d, hd, e⟩ := List.mem_map.mp this
    obtain ⟨a, o, pm, code, doc, q1, q2, q3, q4⟩ := T.fn d hd
    simp only [fq, Prod.mk.injEq] at e
    obtain ⟨e1, e2, e3, e4⟩ := e
    rw [e1] at q1 q4
    rw [e1, e2, e3, e4] at q3
    have hfa : fa P mg i = a := by unfold fa; rw [q1]
    rw [hfa]
    exact ⟨q1, o, pm, code, doc, q2, q3, q4⟩
  fd := fun i hi => by
    obtain ⟨m, hm, y⟩ := Y
    obtain ⟨a, o, pm, code, doc, dA, dO, dn, q1, q2, q3, q4, q5, q6⟩ := y i hi
    rw [hm.agree T.g] at q1
    have hfa : fa P mg i = a := by unfold fa; rw [q1]
    rw [hfa]
    exact ⟨q1, o, pm, code, doc, dA, dO, dn, q2, q3, q4, q5, q6⟩
end Mine
end

section
set_option autoImplicit false
set_option maxRecDepth 1000000
namespace Mine
theorem ws : OpenLaw.wellSaid PySem.Challenge.rw_du0011_01 = true := by kernel_rfl
end Mine
end

section
set_option autoImplicit false
set_option maxRecDepth 1000000
namespace Mine
abbrev vw : Program := view PySem.Challenge.pw_du0011_01 [1,2,3,4,5,6,7,8,9,10,11,12,16,17,18,19,20,21,22,23,24]
theorem left1 : LeftO PySem.Challenge.pw_du0011_01 vw [Str.ofString "nsmallest", Str.ofString "nlargest"] (fun s => xlAt vw [] s && recOk [] s) (Hook.obs (hk1 X1.P X1.ks)) (Hook.val (hk1 X1.P X1.ks)) 1638 := fun w => by kernel_rfl
end Mine
end

section
set_option autoImplicit false
set_option maxRecDepth 10000
namespace Mine


abbrev riObj (x left step : Int) : Obj := { cls := .type "range_iterator", data := .fields #[rawInt x, rawInt left, rawInt step] }
def IsLI (o : Obj) (l : Addr) (i : Nat) : Prop := o.cls = .type "list_iterator" ∧ o.data = .fields #[.ref l, .int i 0]

section
variable {prog : Program} {w : World} {A : Around} {s : Shared} {h : Heap} {tk : Nat} {h₀ : Base} {L : Addr} {m : Str → Option Value} {ls : List Ent} {ob nw : Led}
variable {name : Str} {scope : Scope} {f : Addr} {cd : Value} {cl : List (Str × Addr)} {x : Str} {px : Pos} {body : List Stmt} {Q : Flow → Shared → Prop}

/-- what a turn leaves -/
def TurnEnd (s : Shared) (h₀ : Base) (L I : Addr) (o : Obj) (ob : Led) (Inv : Nat → (Str → Option Value) → List Ent → Led → Prop) (i : Nat) (Q : Flow → Shared → Prop) (fl : Flow) (s' : Shared) : Prop := match fl with
  | .next | .cont => ∃ h2 tk2 m2 ls2 nw2, s' = mk s h2 tk2 ∧ St h₀ L h2 m2 ls2 ((I, o) :: ob) nw2 ∧ Inv (i + 1) m2 ls2 nw2
  | .brk => False
  | .ret v => Q (.ret v) s'

theorem TurnEnd.next {I : Addr} {o : Obj} {Inv : Nat → (Str → Option Value) → List Ent → Led → Prop} {i : Nat} (S : St h₀ L h m ls ((I, o) :: ob) nw) (hi : Inv (i + 1) m ls nw) : TurnEnd s h₀ L I o ob Inv i Q .next (mk s h tk) := ⟨h, tk, m, ls, nw, rfl, S, hi⟩

/-- the first of the other objects is lost, all else stands -/
theorem St.lost {I : Addr} {o : Obj} {h₁ : Heap} (S' : St h₀ L h m ls ((I, o) :: ob) nw) (he₁ : Heap.ExtBut I h h₁) : St h₀ L h₁ m ls ob nw := by
  obtain ⟨rs, fs, hr, hf, N⟩ := S'.dropO.led
  have hn := S'.apart
  have hLI : I ≠ L := (S'.newsO (I, _) (.head _)).2.1
  have hI0 : h₀.hB.get? I = none := (S'.newsO (I, _) (.head _)).2.2
  obtain ⟨oL, a1, a2, hoL, a3⟩ := S'.fr.ns
  have hp1 : (adr ls ((I, o) :: ob) h₀).Perm (I :: adr ls ob h₀) := by unfold adr; exact List.perm_middle
  have hI := (List.nodup_cons.mp (hp1.nodup_iff.mp hn.1)).1
  refine ⟨⟨⟨oL, a1, a2, he₁ L oL hLI.symm hoL, a3⟩, fun b o e => he₁ b o (fun q => by rw [q, hI0] at e; cases e) (S'.fr.keep b o e), S'.fr.above⟩, ⟨rs, fs, hr, hf, fun p hp => ⟨he₁ p.1 p.2 ?_ (N p hp).1, (N p hp).2⟩⟩, S'.dropO.apart⟩
  intro q
  rcases List.mem_append.mp hp with hp | hp
  · exact hI (q ▸ List.mem_append_left _ (Raw.addrs hr ▸ List.mem_map_of_mem (f := (·.1)) hp))
  · rcases List.mem_append.mp hp with hp | hp
    · exact hI (q ▸ List.mem_append_right _ (List.mem_append_left _ (List.mem_map_of_mem (f := (·.1)) hp)))
    · rcases List.mem_append.mp hp with hp | hp
      · exact hI (q ▸ List.mem_append_right _ (List.mem_append_right _ (FUp.addrs hf ▸ List.mem_map_of_mem (f := (·.1)) hp)))
      · exact hn.2 I (hp1.mem_iff.mpr (.head _)) p hp q
/-- one of the other objects is changed -/
theorem St.turned {I : Addr} {o o' : Obj} {g : Obj → Led} {h₁ : Heap} (S' : St h₀ L h m ls ob nw) (U : AtO I o ob g) (hs : Heap.SameBut I h h₁) (ho : h₁.get? I = some o') : St h₀ L h₁ m ls (g o') nw := by
  obtain ⟨pre, post, N, p1, p2, cl'⟩ := S'.openO U
  have z := N (I, _) (List.mem_append_right _ (.head _))
  exact cl' h₁ m _ (S'.fr.change hs z.2.1 z.2.2) (news_set N p1 p2 hs ho)

theorem r_forR {I : Addr} {a c : Int} {n : Nat} (hh : A.handled = none) (S : St h₀ L h m ls ((I, riObj a n c) :: ob) nw) (Inv : Nat → (Str → Option Value) → List Ent → Led → Prop) (h0 : Inv 0 m ls nw)
    (turn : ∀ i h' tk' m' ls' nw' t o, i < n → Inv i m' ls' nw' → St h₀ L h' (upd m' x (.int (a + (i : Int) * c) t)) ls' ((I, o) :: ob) nw' →
      wpAny (model prog w) A (execs body (envX name scope L f cd cl)) (TurnEnd s h₀ L I o ob Inv i Q) (fun _ _ => False) (mk s h' tk'))
    (exit : ∀ h' tk' m' ls' nw', Inv n m' ls' nw' → St h₀ L h' m' ls' ob nw' → Q .next (mk s h' tk'))
    (hk : scope.kind = .function := by rfl) (hl : (envX name scope L f cd cl).kindOf x = some .local := by rfl) :
    codeAny (model prog w) A (.forLoop (.Name x px) (.ref I) body [] (envX name scope L f cd cl)) (fun r s' => match r with | .ok f => Q f s' | .error e => cameBackBy (model prog w) A (envX name scope L f cd cl) (fun _ _ => False) e s') (mk s h tk) := by
  refine codeAny_forLoop (fun k s' => ∃ h' tk' m' ls' nw' i, s' = mk s h' tk' ∧ St h₀ L h' m' ls' ((I, riObj (a + (i : Nat) * c) ((n : Int) - (i : Nat)) c) :: ob) nw' ∧ Inv i m' ls' nw' ∧ i ≤ n ∧ k = n + 1 - i) ?_ (n + 1)
    ⟨h, tk, m, ls, nw, 0, rfl, by simpa using S, h0, Nat.zero_le _, rfl⟩
  rintro k s' ⟨h', tk', m', ls', nw', i, rfl, S', hI, hi, rfl⟩
  have hit := S'.getO .head
  by_cases hlt : i < n
  · refine wpAny_pyNext_range_item (s := mk s h' tk') hit (by lia) fun h₁ hit₁ hs₁ => ?_
    have S1 : St h₀ L h₁ m' ls' ((I, riObj (a + (i : Nat) * c + c) ((n : Int) - (i : Nat) - 1) c) :: ob) nw' := S'.turned .head hs₁ hit₁
    refine wpAny_assign_Name ?_
    refine r_store (tk := tk' + 1) S1 (fun h2 tk2 S2 => ?_) hk hl
    refine wpAny_mono (turn i h2 tk2 m' ls' nw' _ _ hlt hI S2) (fun fl s₃ h₃ => ?_) fun _ _ x => x.elim
    cases fl with
    | brk => exact h₃.elim
    | ret v => exact h₃
    | next =>
      obtain ⟨h3, tk3, m3, ls3, nw3, rfl, S3, hI3⟩ := h₃
      refine ⟨n + 1 - (i + 1), by lia, h3, tk3, m3, ls3, nw3, i + 1, rfl, ?_, hI3, hlt, rfl⟩
      rw [show a + ((i + 1 : Nat) : Int) * c = a + (i : Int) * c + c by rw [Int.natCast_add, Int.add_mul]; simp [Int.add_assoc], show (n : Int) - ((i + 1 : Nat) : Int) = (n : Int) - (i : Nat) - 1 by lia]
      exact S3
    | cont =>
      obtain ⟨h3, tk3, m3, ls3, nw3, rfl, S3, hI3⟩ := h₃
      refine ⟨n + 1 - (i + 1), by lia, h3, tk3, m3, ls3, nw3, i + 1, rfl, ?_, hI3, hlt, rfl⟩
      rw [show a + ((i + 1 : Nat) : Int) * c = a + (i : Int) * c + c by rw [Int.natCast_add, Int.add_mul]; simp [Int.add_assoc], show (n : Int) - ((i + 1 : Nat) : Int) = (n : Int) - (i : Nat) - 1 by lia]
      exact S3
  · have hin : i = n := by lia
    subst hin
    refine wpAny_pyNext_range_end (s := mk s h' tk') hh hit (by lia) fun h₁ he₁ => wpAny_execs_nil ?_
    exact exit h₁ tk' m' ls' nw' hI (S'.lost he₁)

/-- a loop over a list by its iterator, from place i₀ on -/
theorem r_forL {I l : Addr} {o₀ : Obj} {i₀ n : Nat} (hh : A.handled = none) (S : St h₀ L h m ls ((I, o₀) :: ob) nw) (ho : IsLI o₀ l i₀) (hin : i₀ ≤ n) (Inv : Nat → (Str → Option Value) → List Ent → Led → Prop) (h0 : Inv i₀ m ls nw) (P : Nat → Led → Value → Prop)
    (item : ∀ i h' m' ls' nw' o, i < n → Inv i m' ls' nw' → St h₀ L h' m' ls' ((I, o) :: ob) nw' → ∃ items v, h'.IsList l items ∧ items[i]? = some v ∧ P i nw' v)
    (fin : ∀ h' m' ls' nw' o, Inv n m' ls' nw' → St h₀ L h' m' ls' ((I, o) :: ob) nw' → ∃ items, h'.IsList l items ∧ items[n]? = none)
    (turn : ∀ i h' tk' m' ls' nw' v o, i < n → Inv i m' ls' nw' → P i nw' v → St h₀ L h' (upd m' x v) ls' ((I, o) :: ob) nw' →
      wpAny (model prog w) A (execs body (envX name scope L f cd cl)) (TurnEnd s h₀ L I o ob Inv i Q) (fun _ _ => False) (mk s h' tk'))
    (exit : ∀ h' tk' m' ls' nw', Inv n m' ls' nw' → St h₀ L h' m' ls' ob nw' → Q .next (mk s h' tk'))
    (hk : scope.kind = .function := by rfl) (hl : (envX name scope L f cd cl).kindOf x = some .local := by rfl) :
    codeAny (model prog w) A (.forLoop (.Name x px) (.ref I) body [] (envX name scope L f cd cl)) (fun r s' => match r with | .ok f => Q f s' | .error e => cameBackBy (model prog w) A (envX name scope L f cd cl) (fun _ _ => False) e s') (mk s h tk) := by
  refine codeAny_forLoop (fun k s' => ∃ h' tk' m' ls' nw' i o, s' = mk s h' tk' ∧ IsLI o l i ∧ St h₀ L h' m' ls' ((I, o) :: ob) nw' ∧ Inv i m' ls' nw' ∧ i ≤ n ∧ k = n + 1 - i) ?_ (n + 1 - i₀)
    ⟨h, tk, m, ls, nw, i₀, o₀, rfl, ho, S, h0, hin, rfl⟩
  rintro k s' ⟨h', tk', m', ls', nw', i, o, rfl, ho', S', hI, hi, rfl⟩
  have hit : (mk s h' tk').heap.IsListIter I l i := ⟨o, S'.getO .head, ho'.1, ho'.2⟩
  by_cases hlt : i < n
  · obtain ⟨items, v, hL, hv, hp⟩ := item i h' m' ls' nw' o hlt hI S'
    refine wpAny_pyNext_list_item (s := mk s h' tk') hit hL hv fun h₁ hit₁ hs₁ => ?_
    obtain ⟨o1, g1, g2, g3⟩ := hit₁
    have S1 := S'.turned .head hs₁ g1
    refine wpAny_assign_Name ?_
    refine r_store (tk := tk') S1 (fun h2 tk2 S2 => ?_) hk hl
    refine wpAny_mono (turn i h2 tk2 m' ls' nw' v o1 hlt hI hp S2) (fun fl s₃ h₃ => ?_) fun _ _ x => x.elim
    cases fl with
    | brk => exact h₃.elim
    | ret v => exact h₃
    | next =>
      obtain ⟨h3, tk3, m3, ls3, nw3, rfl, S3, hI3⟩ := h₃
      exact ⟨n + 1 - (i + 1), by lia, h3, tk3, m3, ls3, nw3, i + 1, o1, rfl, ⟨g2, g3⟩, S3, hI3, hlt, rfl⟩
    | cont =>
      obtain ⟨h3, tk3, m3, ls3, nw3, rfl, S3, hI3⟩ := h₃
      exact ⟨n + 1 - (i + 1), by lia, h3, tk3, m3, ls3, nw3, i + 1, o1, rfl, ⟨g2, g3⟩, S3, hI3, hlt, rfl⟩
  · have hin : i = n := by lia
    subst hin
    obtain ⟨items, hL, hv⟩ := fin h' m' ls' nw' o hI S'
    exact wpAny_pyNext_list_end (s := mk s h' tk') hh hit hL hv fun h₁ he₁ => wpAny_execs_nil (exit h₁ tk' m' ls' nw' hI (S'.lost he₁))

abbrev rgObj (a b c : Int) (t u v : Tok) : Obj := { cls := .type "range", data := .fields #[.int a t, .int b u, .int c v] }

variable {E : Value → Shared → Prop} {QV : Value → Shared → Prop}
theorem r_range1 {n : Int} {t : Tok} (S : St h₀ L h m ls ob nw) (q : ∀ r h' tk' t1 t2, St h₀ L h' m ls ((r, rgObj 0 n 1 t1 t t2) :: ob) nw → QV (.ref r) (mk s h' tk')) :
    wpAny (model prog w) A (call (.type "range") [.int n t]) QV E (mk s h tk) :=
  call_range_1 (s := mk s h tk) (q _ _ _ _ _ (S.addO (fun _ _ e => Heap.get?_push_of_some _ e) (Nat.le_refl _) (Heap.get?_push_size _ rfl)))
theorem r_range2 {a b : Int} {t u : Tok} (S : St h₀ L h m ls ob nw) (q : ∀ r h' tk' t1, St h₀ L h' m ls ((r, rgObj a b 1 t u t1) :: ob) nw → QV (.ref r) (mk s h' tk')) :
    wpAny (model prog w) A (call (.type "range") [.int a t, .int b u]) QV E (mk s h tk) :=
  call_range_2 (s := mk s h tk) (q _ _ _ _ (S.addO (fun _ _ e => Heap.get?_push_of_some _ e) (Nat.le_refl _) (Heap.get?_push_size _ rfl)))

theorem rangeSize_pos {a b : Int} {n : Nat} (hn : b - a = (n : Int)) : Builtin.Range.rangeSize a b 1 = (n : Int) := by
  rw [rangeSize_one]; split <;> lia

/-- iter of a range by ones -/
theorem r_iterRange {r : Addr} {a b : Int} {t u v : Tok} {n : Nat} (S : St h₀ L h m ls ((r, rgObj a b 1 t u v) :: ob) nw) (hn : b - a = (n : Int)) (ha : -1000000 < a ∧ a < 1000000) (hb : b < 1000000)
    (q : ∀ I h', St h₀ L h' m ls ((I, riObj a n 1) :: ob) nw → QV (.ref I) (mk s h' tk)) : wpAny (model prog w) A (pyIter (.ref r)) QV E (mk s h tk) := by
  refine wpAny_pyIter_range (s := mk s h tk) (S.getO .head) (small_one (by lia) (by lia) (by lia) (by lia)) ?_
  rw [rangeSize_pos hn]
  exact q _ _ (S.dropO.addO (fun _ _ e => Heap.get?_push_of_some _ e) (Nat.le_refl _) (Heap.get?_push_size _ rfl))
end
end Mine
end

section
set_option autoImplicit false
set_option maxRecDepth 100000
namespace Mine
theorem sub_ri_reversed : isSubtype (.type "range_iterator") (.type "reversed") = pure false := by rw [isSubtype_type]; kernel_rfl

section
variable {prog : Program} {w : World} {A : Around} {E : Value → Shared → Prop} {s : Shared}
theorem call_range_reversed {r : Addr} {n : Int} {t u v : Tok} {Q : Value → Shared → Prop} (hr : s.heap.get? r = some (rgObj 0 n 1 t u v)) (h0 : 0 ≤ n) (hn : n < 1000000)
    (h : Q (.ref s.heap.objs.size) { s with heap := s.heap.push (riObj (n - 1) n (-1)) }) : wpAny (model prog w) A (call (.builtin "range.__reversed__") [.ref r]) Q E s := by
  refine wpAny_call_entry F.slot_range_reversed ⟨_, hr, rfl⟩ F.entry_range_reversed ?_ (F.args_range_reversed_1 _)
  unfold Builtin.«range.__reversed__»
  refine wpAny_bind (wpAny_of_eq (a := Value.ref r) rfl ?_)
  have hs : Builtin.Range.rangeSize 0 n 1 = n := by rw [rangeSize_one]; split <;> lia
  refine wpAny_bind (m := Builtin.Range.rangeFields (.ref r)) ?_
  unfold Builtin.Range.rangeFields
  refine wpAny_bind (wpAny_field hr rfl (x := .int 0 t) rfl (wpAny_bind (wpAny_of_eq (a := some 0) rfl ?_)))
  refine wpAny_bind (wpAny_field hr rfl (x := .int n u) rfl (wpAny_bind (wpAny_of_eq (a := some n) rfl ?_)))
  refine wpAny_bind (wpAny_field hr rfl (x := .int 1 v) rfl (wpAny_bind (wpAny_of_eq (a := some 1) rfl ?_)))
  refine wpAny_pure ?_
  dsimp only
  rw [hs]
  have hsm : (Builtin.Range.rangeFitsLong 0 && Builtin.Range.rangeFitsLong n && Builtin.Range.rangeFitsLong 1 && Builtin.Range.rangeFitsLong (-1) && Builtin.Range.rangeFitsLong (0 - 1) && Builtin.Range.rangeFitsLong n) = true := by
    simp only [Builtin.Range.rangeFitsLong, Bool.and_eq_true, decide_eq_true_eq]
    lia
  rw [hsm]
  simp only [Bool.not_true, Bool.false_eq_true, if_false, if_true]
  have e1 : (0 : Int) + (n - 1) * 1 = n - 1 := by lia
  rw [e1]
  exact wpAny_bind (wpAny_newObj_type (wpAny_pure ⟨_, rfl, h⟩))

theorem code_reversed_newR {r : Addr} {n : Int} {t u v : Tok} {Q₁ : Value → Shared → Prop} (hr : s.heap.get? r = some (rgObj 0 n 1 t u v)) (h0 : 0 ≤ n) (hn : n < 1000000)
    (h : Q₁ (.ref s.heap.objs.size) { s with heap := s.heap.push (riObj (n - 1) n (-1)) }) :
    codeAny (model prog w) A (.call (.builtin "reversed.__new__") ⟨[.type "reversed", .ref r], []⟩) (wants Q₁ E) s := by
  have hT : s.TypeIs (.ref r) "range" := ⟨_, hr, rfl⟩
  refine codeAny_of_tree ?_
  show wpAny _ A.in1 (do checkBuiltinCall "reversed.__new__" ⟨[.type "reversed", .ref r], []⟩; again (.builtin "reversed.__new__" ⟨[.type "reversed", .ref r], []⟩)) _ _ s
  refine wpAny_bind (wpAny_of_eq (F.newCall_reversed_1 _) (wpAny_pure ⟨plainId_quiet F.plain_reversed_new _, codeAny_builtin F.entry_reversed_new ?_⟩))
  rw [Around.under_plainId F.plain_reversed_new _]
  unfold Builtin.«reversed.__new__»
  refine wpAny_bind (wpAny_of_eq (newClass_reversed _) ?_)
  try dsimp only
  refine wpAny_bind (wpAny_of_eq (a := ()) (by first | rfl | kernel_rfl) ?_)
  refine wpAny_bind (wpAny_of_eq (a := ()) (by first | rfl | kernel_rfl) ?_)
  try dsimp only
  refine wpAny_bind (wpAny_specialOf hT F.slot_range_reversed.lookup ?_)
  try dsimp only
  refine wpAny_bind (wpAny_of_eq (F.slot_range_reversed.bind _) ?_)
  try dsimp only
  first
  | rw [if_neg (show ¬ ((Value.builtin "range.__reversed__" == Value.none) = true) from Bool.false_ne_true)]
  | (show wpAny _ _ (if (Value.builtin "range.__reversed__" == Value.none) = true then _ else _) _ _ _; rw [if_neg (show ¬ ((Value.builtin "range.__reversed__" == Value.none) = true) from Bool.false_ne_true)])
  refine wpAny_bind (wpAny_rule ?_)
  refine wpAny_bind (m := runValue (.call (.builtin "range.__reversed__") ⟨[.ref r], []⟩)) (show wpAny _ _ (call (.builtin "range.__reversed__") [.ref r]) _ _ _ from call_range_reversed hr h0 hn ?_)
  first
  | exact wpAny_pure h
  | exact wpAny_bind (wpAny_pure (wpAny_pure h))

theorem call_reversed_range {r : Addr} {n : Int} {t u v : Tok} {Q : Value → Shared → Prop} (hr : s.heap.get? r = some (rgObj 0 n 1 t u v)) (h0 : 0 ≤ n) (hn : n < 1000000)
    (h : Q (.ref s.heap.objs.size) { s with heap := s.heap.push (riObj (n - 1) n (-1)) }) : wpAny (model prog w) A (call (.type "reversed") [.ref r]) Q E s := by
  refine callType_other (U := "range_iterator") (Q₁ := fun obj s₁ => obj = .ref s.heap.objs.size ∧ s₁ = { s with heap := s.heap.push (riObj (n - 1) n (-1)) }) (by decide +kernel) F.create_reversed ⟨_, _, F.mro_reversed⟩ F.made_reversed sub_ri_reversed (F.typeCall_reversed_1 _) (code_reversed_newR hr h0 hn ⟨rfl, rfl⟩) ?_
  rintro obj s₁ ⟨rfl, rfl⟩
  exact ⟨⟨_, Heap.get?_push_size _ rfl, rfl⟩, h⟩

end

section
variable {prog : Program} {w : World} {A : Around} {E : Value → Shared → Prop} {s : Shared} {h : Heap} {tk : Nat} {h₀ : Base} {L : Addr} {m : Str → Option Value} {ls : List Ent} {ob nw : Led} {QV : Value → Shared → Prop}
theorem r_reversed {r : Addr} {n : Int} {t u v : Tok} (S : St h₀ L h m ls ((r, rgObj 0 n 1 t u v) :: ob) nw) (h0 : 0 ≤ n) (hn : n < 1000000) (q : ∀ I h', St h₀ L h' m ls ((I, riObj (n - 1) n (-1)) :: ob) nw → QV (.ref I) (mk s h' tk)) :
    wpAny (model prog w) A (call (.type "reversed") [.ref r]) QV E (mk s h tk) :=
  call_reversed_range (s := mk s h tk) (S.getO .head) h0 hn (q _ _ (S.dropO.addO (fun _ _ e => Heap.get?_push_of_some _ e) (Nat.le_refl _) (Heap.get?_push_size _ rfl)))
theorem r_iterRI {I : Addr} {x l c : Int} (S : St h₀ L h m ls ((I, riObj x l c) :: ob) nw) (q : QV (.ref I) (mk s h tk)) : wpAny (model prog w) A (pyIter (.ref I)) QV E (mk s h tk) :=
  wpAny_pyIter_rangeiter (s := mk s h tk) (S.getO .head) q
theorem i_fdiv {x y : Int} {t u : Tok} (hy : 0 < y ∧ y < 1000) (q : ∀ t tk, QV (.int (x / y) t) (mk s h tk)) : wpAny (model prog w) A (binaryOp .FloorDiv (.int x t) (.int y u)) QV E (mk s h tk) := by
  refine floordiv_int (by lia) ?_ (Or.inl (PyProof.noPylong_small (by lia)))
  rw [Int.fdiv_eq_ediv_of_nonneg _ (by lia)]
  exact q _ _
theorem i_fdivN {x y : Int} {n c : Nat} {t u : Tok} (hx : x = (n : Int)) (hy : y = (c : Int)) (hc : 0 < c ∧ c < 1000) (q : ∀ t tk, QV (.int ((n / c : Nat) : Int) t) (mk s h tk)) : wpAny (model prog w) A (binaryOp .FloorDiv (.int x t) (.int y u)) QV E (mk s h tk) := by
  subst hx hy
  refine floordiv_int (by lia) ?_ (Or.inl (PyProof.noPylong_small (by lia)))
  rw [Int.fdiv_eq_ediv_of_nonneg _ (by lia)]
  exact q _ _

/-- a call of a built-in type by its name -/
theorem r_callT {X : Pg} {mg mb : Str → Option Value} {k : Nat} {T : String} {name : Str} {scope : Scope} {f : Addr} {cd : Value} {cl : List (Str × Addr)} {x : Str} {np pos : Pos} {e : PySem.Expr} {rest : List PySem.Expr} {Q : Value → Shared → Prop} (C : Cx X mg mb A h₀ L k) (S : St h₀ L h m ls ob nw) (hx : x ∈ X.free) (hv : bootBuiltins x = some (.type T))
    (q : wpAny (model prog w) A (spliced (backTo pos (starEach (e :: rest) (envX name scope L f cd cl)))) (fun vs s₁ => wpAny (model prog w) A (call (.type T) vs) Q E s₁) E (mk s h tk))
    (hn : x ≠ "__name__" := by decide +kernel)
    (he : starEach (e :: rest) (envX name scope L f cd cl) = (false, eval e (envX name scope L f cd cl)) :: starEach rest (envX name scope L f cd cl) := by rfl)
    (hplain : (backTo pos (starEach rest (envX name scope L f cd cl))).any (·.1) = false := by rfl)
    (hk : scope.kind = .function := by rfl) (hl : (envX name scope L f cd cl).kindOf x = some .globalImplicit := by rfl) (hd : (x == ("__debug__" : Str)) = false := by decide) :
    wpAny (model prog w) A (eval (.Call (.Name x np) (e :: rest) [] pos) (envX name scope L f cd cl)) Q E (mk s h tk) :=
  Call_ (r_blt C S hx hv (Pv.callWith_type1 q he hplain) hn hk hl hd)

/-- for over what an expression gives -/
theorem r_for {env : Env} {target iter : PySem.Expr} {body : List Stmt} {pos : Pos} {Q : Flow → Shared → Prop}
    (q : wpAny (model prog w) A (eval iter env) (fun x s₁ => wpAny (model prog w) A (pyIter x) (fun it s₂ =>
      codeAny (model prog w) A (.forLoop target it body [] env) (fun r s' => match r with | .ok f => Q f s' | .error e => cameBackBy (model prog w) A env (fun _ _ => False) e s') s₂) (fun _ _ => False) s₁) (fun _ _ => False) (mk s h tk))
    (hs : ∀ x, foldedSetIterable iter env x = pure x := by intro _; rfl) :
    wpAny (model prog w) A (exec (.For target iter body [] pos) env) Q (fun _ _ => False) (mk s h tk) := wpAny_For q hs
end
end Mine
end

section
set_option autoImplicit false
set_option maxRecDepth 100000
namespace Mine

theorem Upd.mk {a : Addr} {o o' : Obj} : ∀ {pre post : Led}, (∀ p ∈ pre, p.1 ≠ a) → (∀ p ∈ post, p.1 ≠ a) → Upd a o o' (pre ++ (a, o) :: post) (pre ++ (a, o') :: post)
  | [], _, _, h2 => .head h2
  | _ :: _, _, h1, h2 => .tail (h1 _ (.head _)) (Upd.mk (fun p hp => h1 p (.tail _ hp)) h2)

section
variable {prog : Program} {w : World} {A : Around} {E : Value → Shared → Prop} {s : Shared} {h : Heap} {tk : Nat} {h₀ : Base} {L : Addr} {m : Str → Option Value} {ls : List Ent} {ob nw : Led} {a : Addr} {k : Kd} {ds : List D} {g : List D → List Ent} {Q : Value → Shared → Prop}

theorem St.isList (S : St h₀ L h m ls ob nw) (U : At a k ds ls g) : ∃ vs n, h.get? a = some (listOf vs.toArray n) ∧ All2 (RelIn nw k) vs ds := by
  obtain ⟨vs, c, pre, post, N, ha, h1, h2, hc⟩ := S.open U
  exact ⟨vs, c, (N (a, _) (List.mem_append_right _ (.head _))).1, ha⟩

theorem r_append {v : Value} {d : D} (S : St h₀ L h m ls ob nw) (U : At a k ds ls g) (hz : ds.length < 1000) (hv : RelIn nw k v d) (q : ∀ h', St h₀ L h' m (g (ds ++ [d])) ob nw → Q .none (mk s h' tk)) :
    wpAny (model prog w) A (call (.builtin "list.append") [.ref a, v]) Q E (mk s h tk) := by
  obtain ⟨vs, c, pre, post, N, ha, h1, h2, hc⟩ := S.open U
  have hl := ha.len
  refine append_K (s := mk s h tk) S.fr N (Upd.mk h1 h2) (fun h' F' N' => q h' (hc h' m (vs ++ [v]) (c + 1) _ F' ?_ (ha.append (.cons hv .nil)))) (by rw [sizeLine_eq]; simp; lia)
  simpa using N'

theorem r_pop {d : D} {ds' : List D} (S : St h₀ L h m ls ob nw) (U : At a k ds ls g) (he : ds = ds' ++ [d]) (hz : ds.length < 1000) (q : ∀ h' v, RelIn nw k v d → St h₀ L h' m (g ds') ob nw → Q v (mk s h' tk)) :
    wpAny (model prog w) A (call (.builtin "list.pop") [.ref a]) Q E (mk s h tk) := by
  obtain ⟨vs, c, pre, post, N, ha, h1, h2, hc⟩ := S.open U
  have hl := ha.len
  have hne : vs ≠ [] := by intro e; rw [e, he] at hl; simp at hl
  obtain ⟨vs', v, rfl⟩ : ∃ vs' v, vs = vs' ++ [v] := ⟨vs.dropLast, vs.getLast hne, (List.dropLast_concat_getLast hne).symm⟩
  have hlen : vs'.length = ds'.length := by rw [he] at hl; simpa using hl
  have hv : RelIn nw k v d := by
    have := ha.get (i := ds'.length) (b := d) (by rw [he]; simp)
    obtain ⟨v', e1, e2⟩ := this
    rw [← hlen] at e1
    simp at e1
    exact e1 ▸ e2
  have ha' : All2 (RelIn nw k) vs' ds' := by
    have := ha.take ds'.length
    rw [he, List.take_left' rfl, List.take_left' hlen] at this
    exact this
  have hlast : kl_last (vs' ++ [v]).toArray.toList = some (vs', v) := by
    show kl_last (vs' ++ [v]) = _
    clear ha ha' hv hlen hne hl hc h1 h2 N
    induction vs' with
    | nil => rfl
    | cons x r ih => show (match kl_last (r ++ [v]) with | some (p, y) => some (x :: p, y) | none => some ([], x)) = _; rw [ih]
  exact kl_pop (s := mk s h tk) S.fr N hlast (Upd.mk h1 h2) (by rw [sizeLine_eq]; simp at hl hz ⊢; lia) (fun h' F' N' => q h' v hv (hc h' m vs' (c + 1) _ F' N' ha'))

theorem r_pop0 {d : D} {ds' : List D} {t : Tok} (S : St h₀ L h m ls ob nw) (U : At a k (d :: ds') ls g) (hz : ds'.length < 1000) (q : ∀ h' v, RelIn nw k v d → St h₀ L h' m (g ds') ob nw → Q v (mk s h' tk)) :
    wpAny (model prog w) A (call (.builtin "list.pop") [.ref a, .int 0 t]) Q E (mk s h tk) := by
  obtain ⟨vs, c, pre, post, N, ha, h1, h2, hc⟩ := S.open U
  have hl := ha.len
  obtain _ | ⟨hv, ha'⟩ := ha
  rename_i v vs'
  refine kl_popAt (s := mk s h tk) (k := 0) (p := []) (q := vs') (y := v) S.fr N rfl ?_ rfl (Upd.mk h1 h2) (by rw [sizeLine_eq]; simp at hl ⊢; lia) (fun h' F' N' => q h' v hv (hc h' m vs' (c + 1) _ F' N' ha'))
  unfold seqIndex?
  simp

theorem r_insert {v : Value} {d : D} {i : Nat} {x : Int} {t : Tok} (S : St h₀ L h m ls ob nw) (U : At a k ds ls g) (hx : x = (i : Int)) (hi : i ≤ ds.length) (hz : ds.length < 1000) (hv : RelIn nw k v d) (q : ∀ h', St h₀ L h' m (g (ds.take i ++ d :: ds.drop i)) ob nw → Q .none (mk s h' tk)) :
    wpAny (model prog w) A (call (.builtin "list.insert") [.ref a, .int x t, v]) Q E (mk s h tk) := by
  obtain ⟨vs, c, pre, post, N, ha, h1, h2, hc⟩ := S.open U
  have hl := ha.len
  subst hx
  refine kl_insert (s := mk s h tk) (l := vs.take i ++ v :: vs.drop i) S.fr N ?_ ?_ (Upd.mk h1 h2) (by rw [sizeLine_eq]; simp; lia) (fun h' F' N' => q h' (hc h' m _ (c + 1) _ F' N' ((ha.take i).append (.cons hv (ha.drop i)))))
  · unfold Builtin.List.listFitsIndex; simp; lia
  · unfold kl_ins
    show vs.take (if (i : Int) < 0 then _ else min (i : Int).toNat vs.length) ++ v :: vs.drop (if (i : Int) < 0 then _ else min (i : Int).toNat vs.length) = _
    rw [if_neg (by lia), show min (i : Int).toNat vs.length = i by lia]

theorem r_reverse (S : St h₀ L h m ls ob nw) (U : At a k ds ls g) (hz : ds.length < 1000) (q : ∀ h', St h₀ L h' m (g ds.reverse) ob nw → Q .none (mk s h' tk)) :
    wpAny (model prog w) A (call (.builtin "list.reverse") [.ref a]) Q E (mk s h tk) := by
  obtain ⟨vs, c, pre, post, N, ha, h1, h2, hc⟩ := S.open U
  have hl := ha.len
  exact kl_reverse (s := mk s h tk) (l := vs.reverse) S.fr N rfl (Upd.mk h1 h2) (by rw [sizeLine_eq]; simp; lia) (fun h' F' N' => q h' (hc h' m _ c _ F' N' ha.reverse))

theorem r_truthy {Q : Bool → Shared → Prop} (S : St h₀ L h m ls ob nw) (U : At a k ds ls g) (hz : ds.length < 1000) (q : ∀ tk, Q (decide (0 < ds.length)) (mk s h tk)) : wpAny (model prog w) A (truthy (.ref a)) Q E (mk s h tk) := by
  obtain ⟨vs, c, hl, ha⟩ := S.isList U
  have e := ha.len
  have hL : (mk s h tk).heap.IsList a vs.toArray := PySem.IsL.isList (n := c) hl
  refine wpAny_truthy_list hL (by simp only [List.size_toArray]; lia) ?_
  have e2 : (!vs.toArray.isEmpty) = decide (0 < ds.length) := by
    rw [← e]
    cases vs <;> simp
  rw [e2]
  exact q _

/-- a method of a list -/
theorem r_method {name : Str} {id : String} {pl : Sem Bool} {Q : Value × List Value → Shared → Prop} (S : St h₀ L h m ls ob nw) (U : At a k ds ls g) (slot : Slot "list" name id) (hty : typeOf (.builtin id) = pure (.type "method_descriptor"))
    (q : Q (.builtin id, [.ref a]) (mk s h tk)) : wpAny (model prog w) A (getMethod (.ref a) name pl) Q E (mk s h tk) := by
  obtain ⟨vs, c, pre, post, N, ha, h1, h2, hc⟩ := S.open U
  exact kl_method (s := mk s h tk) N (List.mem_append_right _ (.head _)) slot hty q
end
end Mine
end

section
set_option autoImplicit false
set_option maxRecDepth 100000
namespace Mine

section
variable {M : Model} {A : Around} {E : Value → Shared → Prop} {s : Shared} {env : Env}
theorem a_sub {o i : PySem.Expr} {pos : Pos} {v : Value} {Q : Unit → Shared → Prop}
    (h : wpAny M A (eval o env) (fun ov s₂ => wpAny M A (eval i env) (fun iv s₃ => wpAny M A (setItem ov iv v) (fun _ => Q ()) E s₃) E s₂) E s) : wpAny M A (assign (.Subscript o i pos) env v) Q E s := fun Γ p hΓ => by
  simp only [assign_Subscript, Sem.wp_bind', Sem.wp_holding, Sem.wp_cmd_standAt, Sem.wp_release]
  exact Sem.wp_mono M Γ _ (fun ov p₂ s₂ h₂ => Sem.wp_mono M Γ _ (fun iv _ s₃ h₃ => h₃ Γ _ hΓ)
    (fun _ _ _ h' => h') _ _ (h₂ Γ p₂ hΓ)) (fun _ _ _ h' => h') _ _ (h Γ p hΓ)
end
section
variable {prog : Program} {w : World} {A : Around} {E : Value → Shared → Prop} {s : Shared} {h : Heap} {tk : Nat} {h₀ : Base} {L : Addr} {m : Str → Option Value} {ls : List Ent} {ob nw : Led} {a : Addr} {k : Kd} {ds : List D} {g : List D → List Ent} {Q : Value → Shared → Prop}

theorem r_tupO {vs : List Value} (S : St h₀ L h m ls ob nw) (q : ∀ t h', St h₀ L h' m ls ((t, tupOf vs 0) :: ob) nw → Q (.ref t) (mk s h' tk)) (hz : vs.length ≤ sizeLine := by size_fits) : wpAny (model prog w) A (newTuple vs) Q E (mk s h tk) :=
  wpAny_newObj_type (s := mk s h tk) (q _ _ (S.addO (fun _ _ e => Heap.get?_push_of_some _ e) (Nat.le_refl _) (Heap.get?_push_size _ rfl))) (by show vs.toArray.size ≤ sizeLine; rw [List.size_toArray]; exact hz)
theorem r_tupN {vs : List Value} (S : St h₀ L h m ls ob nw) (q : ∀ t h', St h₀ L h' m ls ob ((t, tupOf vs 0) :: nw) → Q (.ref t) (mk s h' tk)) (hz : vs.length ≤ sizeLine := by size_fits) : wpAny (model prog w) A (newTuple vs) Q E (mk s h tk) :=
  wpAny_newObj_type (s := mk s h tk) (q _ _ (S.addN (fun _ _ e => Heap.get?_push_of_some _ e) (Nat.le_refl _) (Heap.get?_push_size _ rfl))) (by show vs.toArray.size ≤ sizeLine; rw [List.size_toArray]; exact hz)
/-- a new list of elements -/
theorem r_newL {vs : List Value} (S : St h₀ L h m ls ob nw) (hr : All2 (RelIn nw k) vs ds) (q : ∀ l h', St h₀ L h' m ((l, k, ds) :: ls) ob nw → Q (.ref l) (mk s h' tk)) (hz : vs.length ≤ sizeLine := by size_fits) : wpAny (model prog w) A (newList vs) Q E (mk s h tk) :=
  wpAny_newObj_type (s := mk s h tk) (q _ _ (S.addL (fun _ _ e => Heap.get?_push_of_some _ e) (Nat.le_refl _) (Heap.get?_push_size _ rfl) hr)) (by show vs.toArray.size ≤ sizeLine; rw [List.size_toArray]; exact hz)
/-- a new list of other values -/
theorem r_newLO {vs : List Value} (S : St h₀ L h m ls ob nw) (q : ∀ l h', St h₀ L h' m ls ((l, listOf vs.toArray 0) :: ob) nw → Q (.ref l) (mk s h' tk)) (hz : vs.length ≤ sizeLine := by size_fits) : wpAny (model prog w) A (newList vs) Q E (mk s h tk) :=
  wpAny_newObj_type (s := mk s h tk) (q _ _ (S.addO (fun _ _ e => Heap.get?_push_of_some _ e) (Nat.le_refl _) (Heap.get?_push_size _ rfl))) (by show vs.toArray.size ≤ sizeLine; rw [List.size_toArray]; exact hz)

theorem r_unpack {env : Env} {elts : List PySem.Expr} {c : Nat} {pos : Pos} {t : Addr} {vs : List Value} {n : Nat} {Q : Unit → Shared → Prop} (S : St h₀ L h m ls ob nw) (hh : A.handled = none) (ht : h.get? t = some (tupOf vs n))
    (hn : (assignEach elts env).length = vs.length) (hstar : (assignEach elts env).findIdx? (·.1) = none)
    (q : ∀ h', St h₀ L h' m ls ob nw → wpAny (model prog w) A (assignInOrder ((assignEach elts env).map (·.2)) vs) Q E (mk s h' tk)) :
    wpAny (model prog w) A (assign (.Tuple elts c pos) env (.ref t)) Q E (mk s h tk) := by
  obtain ⟨news, N, hc⟩ := S.same
  exact unpackN_ (s := mk s h tk) (items := vs.toArray) S.fr N ⟨_, ht, rfl, n, rfl⟩ hh (by simpa using hn) hstar fun h' F' N' => q h' (hc h' m F' N')
end
end Mine
end

section
set_option autoImplicit false
set_option maxRecDepth 100000
namespace Mine

section
variable {prog : Program} {w : World} {A : Around} {E : Value → Shared → Prop} {s : Shared}
theorem pop_empty {l : Addr} {n : Nat} {Q : Value → Shared → Prop} (hA : A.handled = none) (hl : s.heap.get? l = some (listOf #[] n))
    (hE : ∀ h' tk e, Heap.NewExc s.heap h' e "IndexError" → E (.ref e) { s with heap := h', toks := tk }) : wpAny (model prog w) A (call (.builtin "list.pop") [.ref l]) Q E s := by
  refine wpAny_call_entry PySem.F.slot_list_pop ⟨_, hl, rfl⟩ PySem.F.entry_list_pop ?_ (PySem.F.args_list_pop_1 _)
  show wpAny _ _ (Builtin.List.listItems (.ref l) >>= _) _ _ s
  refine wpAny_bind (listItems_at hl rfl ?_)
  dsimp only
  rw [if_pos (by rfl)]
  first
    | exact wpAny_bind (wpAny_rule (wpAny_bind (by exact_raiseError plainExc_IndexError hA hE)))
    | exact wpAny_bind (wpAny_bind (wpAny_rule (by exact_raiseError plainExc_IndexError hA hE)))
end

section
variable {X : Pg} {mg mb : Str → Option Value} {prog : Program} {w : World} {A : Around} {E : Value → Shared → Prop} {s : Shared} {h : Heap} {tk : Nat} {h₀ : Base} {L : Addr} {m : Str → Option Value} {ls : List Ent} {ob nw : Led} {a : Addr} {k : Kd} {ds : List D} {g : List D → List Ent}

theorem e_pop {Q : Value → Shared → Prop} (hA : A.handled = none) (S : St h₀ L h m ls ob nw) (U : At a k [] ls g) (q : ∀ h' tk e, Heap.NewExc h h' e "IndexError" → E (.ref e) (mk s h' tk)) :
    wpAny (model prog w) A (call (.builtin "list.pop") [.ref a]) Q E (mk s h tk) := by
  obtain ⟨vs, c, hl, ha⟩ := S.isList U
  cases ha
  exact pop_empty (s := mk s h tk) hA hl fun h' tk e hx => q h' tk e hx
theorem e_item0 {value slice : PySem.Expr} {t : Tok} {Q : Value → Shared → Prop} (hA : A.handled = none) (S : St h₀ L h m ls ob nw) (U : At a k [] ls g) (q : ∀ h' tk e, Heap.NewExc h h' e "IndexError" → E (.ref e) (mk s h' tk))
    (hs : subscripted slice false (.ref a) (.int 0 t) = operate [.ref a, .int 0 t] (getItem (.ref a) (.int 0 t)) := by with_unfolding_all rfl) :
    wpAny (model prog w) A (subscriptTail value slice (.ref a) (.int 0 t)) Q E (mk s h tk) := by
  obtain ⟨vs, c, hl, ha⟩ := S.isList U
  cases ha
  have hL : (mk s h tk).heap.IsList a (#[] : Array Value) := PySem.IsL.isList (n := c) hl
  exact item_outK (s := mk s h tk) hA hL (.inr (by simp)) (by lia) (by lia) (fun h' tk e hx => q h' tk e hx) hs

/-- the exception that flies over this frame is moved -/
theorem Fly.move {e : Addr} {cls : String} (F : Fly h₀ A L h m ls ob nw e cls) : ∃ fr hb a0, A.frames = some fr ∧ Heap.FlyingW hb fr e (.type cls) a0 h ∧
    ∀ h₁, hb.StaysIn h₁ → h.UpToSlots h₁ → St h₀ L h₁ m ls ob nw := by
  obtain ⟨fr, hb, a0, rs, fs, h1, h2, h3, h4, h5, h6, h7, h8, h9, h10⟩ := F
  refine ⟨fr, hb, a0, h1, h6, fun h₁ hst hup => ?_⟩
  obtain ⟨fs', f1, f2, f3, f4⟩ := up_frames h3 (h' := h₁) fun p hp => by
    obtain ⟨⟨es, n, hd⟩, z, _⟩ := h8 p hp
    exact hup p.1 p.2 z fun vs qd => by rw [hd] at qd; cases qd
  refine ⟨⟨hup.ns h7, fun b o q => hst b o (h4 b o q), h10⟩, ⟨rs, fs', h2, f1, fun p hp => ?_⟩, h9⟩
  have ex : ∀ p ∈ rs ++ (ob ++ nw), h₁.get? p.1 = some p.2 ∧ p.1 ≠ L ∧ h₀.hB.get? p.1 = none := fun p hp => ⟨hst _ _ (h5 p hp).1, (h5 p hp).2⟩
  rcases List.mem_append.mp hp with hp | hp
  · exact ex p (List.mem_append_left _ hp)
  · rcases List.mem_append.mp hp with hp | hp
    · exact ex p (List.mem_append_right _ (List.mem_append_left _ hp))
    · rcases List.mem_append.mp hp with hp | hp
      · obtain ⟨q, q1, q2, q3⟩ := f4 p hp
        have z := h8 q q1
        exact ⟨f3 p hp, q2 ▸ z.2.2.1, q2 ▸ z.2.2.2⟩
      · exact ex p (List.mem_append_right _ (List.mem_append_right _ hp))

/-- caught by a clause that names a built-in class -/
theorem r_catch {q : Nat} {name : Str} {scope : Scope} {f : Addr} {cd : Value} {cl : List (Str × Addr)} {x : Str} {e : Addr} {cls T' : String} {np pos : Pos} {b₀ : Stmt} {suite : List Stmt} {rest : List ExceptHandler} {Q : Flow → Shared → Prop} (C : Cx X mg mb A h₀ L q) (hA : ∃ A₁ : Around, A = A₁.deeper (envX name scope L f cd cl))
    (F : Fly h₀ A L h m ls ob nw e cls) (hx : x ∈ X.free) (hv : bootBuiltins x = some (.type T'))
    (hexc : isSubtype (.type T') (.type "BaseException") = pure true) (hnt : isSubtype (.type ((Manifest.find? T').elim "type" fun y => y.metatype)) (.type "tuple") = pure false) (hsub : isSubtype (.type cls) (.type T') = pure true)
    (kk : ∀ h', St h₀ L h' m ls ob nw → wpAny (model prog w) (A.mark (some (.ref e))) (execs (b₀ :: suite) (envX name scope L f cd cl)) Q (fun _ _ => False) (mk s h' tk))
    (hn : x ≠ "__name__" := by decide +kernel)
    (hk : scope.kind = .function := by rfl) (hl : (envX name scope L f cd cl).kindOf x = some .globalImplicit := by rfl) (hd : (x == ("__debug__" : Str)) = false := by decide) :
    wpAny (model prog w) A (noteFrame (.ref e) (envX name scope L f cd cl)) (fun _ s₂ => wpAny (model prog w) A (setFlight (.ref e) none) (fun _ s₃ =>
        wpAny (model prog w) A (handleBy (.ref e) (envX name scope L f cd cl) (.ExceptHandler (some (.Name x np)) none (b₀ :: suite) pos :: rest)) Q (fun _ _ => False) s₃) (fun _ _ => False) s₂) (fun _ _ => False) (mk s h tk) := by
  obtain ⟨fr, hb, a0, hfr, hfl, hst⟩ := F.move
  obtain ⟨A₁, rfl⟩ := hA
  obtain ⟨outer, rfl⟩ : ∃ outer, fr = envX name scope L f cd cl :: outer := by
    have : Option.map (envX name scope L f cd cl :: ·) A₁.frames = some fr := hfr
    cases h1 : A₁.frames with
    | none => rw [h1] at this; cases this
    | some o => rw [h1] at this; exact ⟨o, (Option.some.inj this).symm⟩
  refine wpAny_looks_onW (s := mk s h tk) hfr rfl hfl fun h₄ hheld₄ hsm₄ => ?_
  refine wpAny_landsW hheld₄ fun h₅ hheld hsm₅' => ?_
  have hsm₅ : h.UpToSlots h₅ := Heap.UpToSlots.trans hsm₄ hsm₅'
  have S₅ := hst h₅ hheld.1 hsm₅
  obtain ⟨obj, hob, hobc⟩ := hheld.there
  refine wpAny_handleBy_builtin (X := cls) (T := T') (b := true) hexc hnt hsub ?_
  refine Calls.Name_function_global hk hl (Calls.loadGlobal_builtin (s := mk s h₅ tk) (env := envX name scope L f cd cl) (C.gd.g.keeps S₅.fr.keep) (C.gd.free x hx) (C.gd.b.keeps S₅.fr.keep) ((C.gd.blt x hn).trans hv) ⟨rfl, ⟨obj, hob, hobc⟩, ?_⟩) hd
  refine lands_againW hheld fun h₆ hfl₆ hsm₆ => ?_
  have S₆ := hst h₆ hfl₆.1 (hsm₅.trans hsm₆)
  exact wpAny_mono (kk h₆ S₆) (fun _ _ x => x) fun _ _ x => x.elim

end
end Mine
end

section
set_option autoImplicit false
set_option maxRecDepth 100000
namespace Mine

theorem er_size (items : Array Value) (i : Nat) : (items.eraseIdxIfInBounds i).size ≤ items.size := by
  rw [← Array.length_toList, Array.toList_eraseIdxIfInBounds, List.length_eraseIdx]
  split <;> simp
theorem All2.eraseIdx {α β : Type} {R : α → β → Prop} {as : List α} {bs : List β} (h : All2 R as bs) : ∀ i : Nat, All2 R (as.eraseIdx i) (bs.eraseIdx i) := by
  induction h with
  | nil => intro i; exact .nil
  | cons h1 h2 ih =>
    intro i
    cases i with
    | zero => exact h2
    | succ i => exact .cons h1 (ih i)
section
open MeetsSeq SeqAt
open AutoSeq1 (wpAny_loadPart')
theorem remove_loopAt (l : Addr) (items : Array Value) (n : Nat) (x : Value) (e : Value → Bool) (j : Nat) (hj : j < items.size) (hit : e items[j] = true) (k : Nat) (hs1 : items.size ≤ sizeLine) :
    ∀ i : Nat, j - i = k → i ≤ j → (∀ m (hm : m < items.size), i ≤ m → m < j → e items[m] = false) → Meets (Builtin.«list.remove.loop» ⟨[.ref l, x, rawInt i], []⟩)
      (fun A R s => s.heap.get? l = some { cls := .type "list", dict := none, data := .seq items n, slots := #[] } ∧ (∀ y, y ∈ items → EqAt A.in1 s y x (e y)) ∧ R (.ok (.ret .none)) { s with heap := s.heap.update l (Obj.mapSeq fun xs => xs.eraseIdxIfInBounds j) }) := by
  induction k with
  | zero =>
    intro i hk hij hno prog w A R s h
    obtain ⟨hp, g, d, tk, os⟩ := s; obtain ⟨hl, he, h⟩ := h
    have hij' : i = j := by lia
    subst hij'
    wp_walk using wpAny_loadPart' hl
    have hi : items[((i : Nat) : Int).toNat]? = some items[i] := by simp [hj]
    rw [hi]
    refine wpAny_bind (he _ (Array.getElem_mem hj) prog w _ _ ?_)
    rw [hit]
    have hz' : (items.eraseIdxIfInBounds i).size ≤ sizeLine + 1 := Nat.le_trans (er_size items _) (Nat.le_succ_of_le hs1)
    wp_walk using (wpAny_updateSeq hl rfl (hz := hs1) (_hz' := hz')), wpAny_loadPart' hl
    simpa using h
  | succ k ih =>
    intro i hk hij hno prog w A R s h
    obtain ⟨hp, g, d, tk, os⟩ := s; obtain ⟨hl, he, h⟩ := h
    have hlt : i < items.size := by lia
    wp_walk using wpAny_loadPart' hl
    have hi : items[((i : Nat) : Int).toNat]? = some items[i] := by simp [hlt]
    have hc : ((i : Int) + 1) = ((i + 1 : Nat) : Int) := by push_cast; rfl
    rw [hi]
    refine wpAny_bind (he _ (Array.getElem_mem hlt) prog w _ _ ?_)
    rw [hno i hlt (Nat.le_refl _) (by lia)]
    wp_walk
    rw [hc]
    exact ⟨plainId_quiet plain_remove_loop _, codeAny_builtin entry_remove_loop (by
      rw [Around.under_plainId plain_remove_loop _]
      exact ih (i + 1) (by lia) (by lia) (fun m hm h1 h2 => hno m hm (by lia) h2) prog w A R _ ⟨hl, he, h⟩)⟩
theorem list_removeAt (l : Addr) (items : Array Value) (n : Nat) (x : Value) (e : Value → Bool) (j : Nat) (hj : j < items.size)
    (hit : e items[j] = true) (hno : ∀ m (hm : m < items.size), m < j → e items[m] = false) (hs1 : items.size ≤ sizeLine) :
    Meets (Builtin.«list.remove» ⟨[.ref l, x], []⟩)
      (fun A R s => s.heap.get? l = some { cls := .type "list", dict := none, data := .seq items n, slots := #[] } ∧ (∀ y, y ∈ items → EqAt A.in1 s y x (e y)) ∧ R (.ok (.ret .none)) { s with heap := s.heap.update l (Obj.mapSeq fun xs => xs.eraseIdxIfInBounds j) }) := by
  intro prog w A R s h
  obtain ⟨hp, g, d, tk, os⟩ := s; obtain ⟨hl, he, h⟩ := h
  wp_walk using wpAny_loadPart' hl
  exact ⟨plainId_quiet plain_remove_loop _, codeAny_builtin entry_remove_loop (by
    rw [Around.under_plainId plain_remove_loop _]
    exact remove_loopAt l items n x e j hj hit _ hs1 0 rfl (Nat.zero_le _) (fun m hm _ h2 => hno m hm h2) prog w A R _ ⟨hl, he, h⟩)⟩
end

section
variable {prog : Program} {w : World} {A : Around} {E : Value → Shared → Prop} {s : Shared} {h : Heap} {tk : Nat} {h₀ : Base} {L : Addr} {m : Str → Option Value} {ls : List Ent} {ob nw : Led} {a b : Addr} {k : Kd} {ds ds' : List D} {g g' : List D → List Ent} {Q : Value → Shared → Prop}

theorem eqAtK {v v' : Value} {d d' : D} (S : St h₀ L h m ls ob nw) (hu : A.units + 2 < cLine) (h1 : RelIn nw k v d) (h2 : RelIn nw k v' d') : SeqAt.EqAt A (mk s h tk) v v' (decide (d = d')) :=
  fun _ _ _ Q hq => (cmp_all 2 hu (cmpK S.gets h1 h2)).1 Q hq

theorem all_eq {ds ds' : List D} (hl : ds.length = ds'.length) : (List.range ds.length).all (fun j => decide (ds.getD j [] = ds'.getD j [])) = decide (ds = ds') := by
  rw [Bool.eq_iff_iff, List.all_eq_true, decide_eq_true_iff]
  constructor
  · intro hh
    refine List.ext_getElem hl fun i h1 h2 => ?_
    have := hh i (List.mem_range.mpr h1)
    simpa [List.getD, List.getElem?_eq_getElem h1, List.getElem?_eq_getElem h2] using this
  · rintro rfl i hi
    simp

theorem St.eqs (S : St h₀ L h m ls ob nw) (U : At a k ds ls g) (U' : At b k ds' ls g') (hu : A.units + 3 < cLine) : ∃ (vs vs' : List Value) (n n' : Nat), h.get? a = some (listOf vs.toArray n) ∧ h.get? b = some (listOf vs'.toArray n') ∧ vs.length = ds.length ∧ vs'.length = ds'.length ∧
    ∀ (s : Shared) (tk : Nat) j (h1 : j < vs.toArray.size) (h2 : j < vs'.toArray.size), SeqAt.EqAt A.in1 (Mine.mk s h tk) vs.toArray[j] vs'.toArray[j] (decide (ds.getD j [] = ds'.getD j [])) := by
  obtain ⟨vs, n, hl, hr⟩ := S.isList U
  obtain ⟨vs', n', hl', hr'⟩ := S.isList U'
  refine ⟨vs, vs', n, n', hl, hl', hr.len, hr'.len, fun s tk j h1 h2 => ?_⟩
  have h1' : j < vs.length := by simpa using h1
  have h2' : j < vs'.length := by simpa using h2
  obtain ⟨d, e1, r1⟩ := hr.get' (List.getElem?_eq_getElem h1')
  obtain ⟨d', e2, r2⟩ := hr'.get' (List.getElem?_eq_getElem h2')
  rw [show ds.getD j [] = d by simp [List.getD, e1], show ds'.getD j [] = d' by simp [List.getD, e2]]
  simpa using eqAtK (A := A.in1) (s := s) (tk := tk) S (by show A.units + 1 + 2 < cLine; lia) r1 r2

theorem r_eqL (S : St h₀ L h m ls ob nw) (U : At a k ds ls g) (U' : At b k ds' ls g') (hu : A.units + 3 < cLine) (q : Q (.bool (decide (ds = ds'))) (mk s h tk)) : wpAny (model prog w) A (compareOp .Eq (.ref a) (.ref b)) Q E (mk s h tk) := by
  obtain ⟨vs, vs', n, n', hl, hl', e1, e2, he⟩ := S.eqs (A := A) U U' hu
  by_cases hlen : ds.length = ds'.length
  · refine SeqAt.eq_listAt (s := mk s h tk) (e := fun j => decide (ds.getD j [] = ds'.getD j [])) (PySem.IsL.isList (n := n) hl) (PySem.IsL.isList (n := n') hl') (by simp; lia) (by lia) (he s tk) ?_
    rw [show vs.toArray.size = ds.length by simp; lia, all_eq hlen]; exact q
  · refine SeqAt.eq_list_lengthsAt (s := mk s h tk) (PySem.IsL.isList (n := n) hl) (PySem.IsL.isList (n := n') hl') (by simp; lia) (by lia) ?_
    rw [decide_eq_false (by intro e; exact hlen (by rw [e]))] at q; exact q
theorem r_neL (S : St h₀ L h m ls ob nw) (U : At a k ds ls g) (U' : At b k ds' ls g') (hu : A.units + 3 < cLine) (q : Q (.bool (!decide (ds = ds'))) (mk s h tk)) : wpAny (model prog w) A (compareOp .NotEq (.ref a) (.ref b)) Q E (mk s h tk) := by
  obtain ⟨vs, vs', n, n', hl, hl', e1, e2, he⟩ := S.eqs (A := A) U U' hu
  by_cases hlen : ds.length = ds'.length
  · refine SeqAt.RcNeAt.lists (s := mk s h tk) (e := fun j => decide (ds.getD j [] = ds'.getD j [])) (PySem.IsL.isList (n := n) hl) (PySem.IsL.isList (n := n') hl') (by simp; lia) (by lia) (he s tk) prog w E Q ?_
    rw [show vs.toArray.size = ds.length by simp; lia, all_eq hlen]; exact q
  · refine SeqAt.RcNeAt.lists_lengths (s := mk s h tk) (PySem.IsL.isList (n := n) hl) (PySem.IsL.isList (n := n') hl') (by simp; lia) (by lia) prog w E Q ?_
    rw [decide_eq_false (by intro e; exact hlen (by rw [e]))] at q; exact q

theorem St.hits {v : Value} {d : D} (S : St h₀ L h m ls ob nw) (U : At a k ds ls g) (hv : RelIn nw k v d) (hu : A.units + 3 < cLine) : ∃ vs n, h.get? a = some (listOf vs.toArray n) ∧ All2 (RelIn nw k) vs ds ∧ ∃ e : Value → Bool, (∀ (i : Nat) x y, vs[i]? = some x → ds[i]? = some y → e x = decide (y = d)) ∧
    ∀ (s : Shared) (tk : Nat) y, y ∈ vs.toArray → SeqAt.EqAt A.in1 (Mine.mk s h tk) y v (e y) := by
  classical
  obtain ⟨vs, n, hl, hr⟩ := S.isList U
  have hd : ∀ x y y', RelIn nw k x y → RelIn nw k x y' → y = y' := fun x y y' r1 r2 => by
    have := (Cmp.self 2 x _ _ (cmpK S.gets r1 r2)).1
    exact of_decide_eq_true this
  refine ⟨vs, n, hl, hr, fun x => decide (∃ y, RelIn nw k x y ∧ y = d), fun i x y h1 h2 => ?_, fun s tk y hy => ?_⟩
  · obtain ⟨y', e1, r1⟩ := hr.get' h1
    rw [h2] at e1; cases e1
    refine decide_eq_decide.mpr ⟨fun ⟨y', r2, e⟩ => (hd _ _ _ r1 r2).trans e, fun e => ⟨y, r1, e⟩⟩
  · obtain ⟨i, hi, rfl⟩ := List.getElem_of_mem (show y ∈ vs by simpa using hy)
    obtain ⟨y', e1, r1⟩ := hr.get' (List.getElem?_eq_getElem hi)
    have := eqAtK (A := A.in1) (s := s) (tk := tk) S (by show A.units + 1 + 2 < cLine; lia) r1 hv
    show SeqAt.EqAt _ _ _ _ (decide (∃ y, RelIn nw k vs[i] y ∧ y = d))
    rw [show decide (∃ y, RelIn nw k vs[i] y ∧ y = d) = decide (y' = d) from decide_eq_decide.mpr ⟨fun ⟨y, r2, e⟩ => (hd _ _ _ r1 r2).trans e, fun e => ⟨y', r1, e⟩⟩]
    exact this

theorem r_notin {v : Value} {d : D} (S : St h₀ L h m ls ob nw) (U : At a k ds ls g) (hv : RelIn nw k v d) (hu : A.units + 3 < cLine) (q : Q (.bool (!decide (d ∈ ds))) (mk s h tk)) : wpAny (model prog w) A (compareOp .NotIn v (.ref a)) Q E (mk s h tk) := by
  obtain ⟨vs, n, hl, hr, e, he, heq⟩ := S.hits (A := A) U hv hu
  refine SeqAt.notIn_listAt (s := mk s h tk) e (PySem.IsL.isList (n := n) hl) (heq s tk) ?_
  rw [show vs.toArray.any e = decide (d ∈ ds) from ?_]
  · exact q
  rw [Bool.eq_iff_iff, decide_eq_true_iff, ← Array.any_toList, List.any_eq_true]
  constructor
  · rintro ⟨x, hx, ex⟩
    obtain ⟨i, hi, rfl⟩ := List.getElem_of_mem hx
    obtain ⟨y, e1, r1⟩ := hr.get' (List.getElem?_eq_getElem hi)
    rw [he i _ y (List.getElem?_eq_getElem hi) e1, decide_eq_true_iff] at ex
    subst ex
    exact List.mem_of_getElem? e1
  · intro hd
    obtain ⟨i, hi, e2⟩ := List.getElem_of_mem hd
    obtain ⟨x, e1, r1⟩ := hr.get (List.getElem?_eq_getElem hi)
    refine ⟨x, List.mem_of_getElem? e1, ?_⟩
    rw [he i x _ e1 (List.getElem?_eq_getElem hi), decide_eq_true_iff]; exact e2

theorem r_remove {v : Value} {d : D} {j : Nat} (S : St h₀ L h m ls ob nw) (U : At a k ds ls g) (hv : RelIn nw k v d) (hu : A.units + 3 < cLine) (hz : ds.length < 1000) (hj : ds[j]? = some d) (hno : ∀ i, i < j → ds[i]? ≠ some d) (q : ∀ h', St h₀ L h' m (g (ds.eraseIdx j)) ob nw → Q .none (mk s h' tk)) :
    wpAny (model prog w) A (call (.builtin "list.remove") [.ref a, v]) Q E (mk s h tk) := by
  obtain ⟨vs, n, pre, post, N, hr, h1, h2, hc⟩ := S.open U
  have z := N (a, listOf vs.toArray n) (List.mem_append_right _ (.head _))
  obtain ⟨vs', n', hl', hr', e, he, heq⟩ := S.hits (A := A) U hv hu
  have e3 := Option.some.inj (z.1.symm.trans hl')
  have e4 : Data.seq vs.toArray n = Data.seq vs'.toArray n' := congrArg Obj.data e3
  injection e4 with e5 e6
  have e7 : vs = vs' := by simpa using congrArg Array.toList e5
  subst e7 e6
  have hlen := hr.len
  have hjl : j < ds.length := (List.getElem?_eq_some_iff.mp hj).1
  refine call_meets PySem.F.slot_list_remove ⟨_, z.1, rfl⟩ PySem.F.entry_list_remove (PySem.F.args_list_remove_2 _ _)
    (list_removeAt a vs.toArray n v e j (by simp; lia) ?_ ?_ (by rw [sizeLine_eq]; simp; lia))
    ⟨z.1, heq s tk, q _ (hc _ m (vs.eraseIdx j) (n + 1) _ (S.fr.change (Heap.SameBut.update ..) z.2.1 z.2.2) (ki_turn _ N h1 h2 ?_ ?_) ?_)⟩
  · rw [he j _ d (by simp [List.getElem?_eq_getElem (show j < vs.length by lia)]) hj, decide_eq_true rfl]
  · intro i hi hlt
    have hil : i < ds.length := by lia
    have : ds[i]? ≠ some d := hno i hlt
    rw [he i _ ds[i] (by simp [List.getElem?_eq_getElem (show i < vs.length by lia)]) (List.getElem?_eq_getElem hil)]
    refine decide_eq_false fun e => this ?_
    rw [List.getElem?_eq_getElem hil, e]
  · show vs.toArray.eraseIdxIfInBounds j = (vs.eraseIdx j).toArray
    apply Array.toList_inj.mp
    simp [Array.toList_eraseIdxIfInBounds]
  · rw [if_neg (by simp [List.length_eraseIdx]; lia)]
  · exact hr.eraseIdx j
end
end Mine
end

section
set_option autoImplicit false
namespace Mine

def ev {α : Type} (lt : Nat → Nat → Bool) : KasT α → α
  | .ret a => a
  | .ask i j k => ev lt (k (lt i j))
theorem ev_bind {α β : Type} {lt : Nat → Nat → Bool} {f : α → KasT β} : ∀ t : KasT α, ev lt (t.bind f) = ev lt (f (ev lt t))
  | .ret _ => rfl
  | .ask i j k => ev_bind (k (lt i j))

structure Swo (lt : Nat → Nat → Bool) : Prop where
  irr : ∀ a, lt a a = false
  tr : ∀ a b c, lt a b = true → lt b c = true → lt a c = true
  le_tr : ∀ a b c, lt b a = false → lt c b = false → lt c a = false

variable {lt : Nat → Nat → Bool}
theorem Swo.asym (W : Swo lt) {a b : Nat} (h : lt a b = true) : lt b a = false := by
  cases h' : lt b a with
  | false => rfl
  | true => have := W.tr _ _ _ h h'; rw [W.irr] at this; cases this
theorem Swo.lt_le (W : Swo lt) {a b c : Nat} (h : lt a b = true) (h' : lt c b = false) : lt a c = true := by
  cases q : lt a c with
  | true => rfl
  | false => have := W.le_tr _ _ _ h' q; rw [this] at h; cases h
theorem Swo.le_lt (W : Swo lt) {a b c : Nat} (h : lt b a = false) (h' : lt b c = true) : lt a c = true := by
  cases q : lt a c with
  | true => rfl
  | false => have := W.le_tr _ _ _ q h; rw [this] at h'; cases h'

/-- before, with places for what is alike -/
def Bef (lt : Nat → Nat → Bool) (a b : Nat) : Prop := lt a b = true ∨ (lt b a = false ∧ a < b)
theorem Bef.le (W : Swo lt) {a b : Nat} (h : Bef lt a b) : lt b a = false := by
  rcases h with h | h
  · exact W.asym h
  · exact h.1

theorem gt_rev {p : Array Nat} {i j : Nat} (hj : j ≤ p.size) (k : Nat) : (kas_rev p i j).getD k 0 = if i ≤ k ∧ k < j then p.getD (i + j - 1 - k) 0 else p.getD k 0 := by
  simp only [Array.getD_eq_getD_getElem?]
  unfold kas_rev
  rw [getElem?_mirror_all hj]
  split <;> rfl
theorem gt_bub {p : Array Nat} {src d : Nat} (hs : src < p.size) (hd : d ≤ src) (k : Nat) : (bubble p src d).getD k 0 = if k = src - d then p.getD src 0 else if src - d < k ∧ k ≤ src then p.getD (k - 1) 0 else p.getD k 0 := by
  simp only [Array.getD_eq_getD_getElem?]
  rw [getElem?_bubble hs d hd]
  split
  · rfl
  · split <;> rfl
theorem rev_size {p : Array Nat} {i j : Nat} : (kas_rev p i j).size = p.size := mirror_size _ _ _ _
theorem rev_perm {p : Array Nat} {i j : Nat} : (kas_rev p i j).toList.Perm p.toList := (mirror_perm p i j _).toList

/-- a start that stands in order, the rest as given -/
structure Up (lt : Nat → Nat → Bool) (N : Nat) (p : Array Nat) (k : Nat) : Prop where
  size : p.size = N
  kN : k ≤ N
  perm : p.toList.Perm (List.range N)
  srt : ∀ i j, i < j → j < k → Bef lt (p.getD i 0) (p.getD j 0)
  low : ∀ i, i < k → p.getD i 0 < k
  rest : ∀ i, k ≤ i → i < N → p.getD i 0 = i

theorem asc_ev (W : Swo lt) {N : Nat} {p : Array Nat} : ∀ (f n : Nat), f = N - n → 0 < n → Up lt N p n → n ≤ ev lt (kas_asc p f n) ∧ Up lt N p (ev lt (kas_asc p f n)) ∧ (ev lt (kas_asc p f n) < N → lt (p.getD (ev lt (kas_asc p f n)) 0) (p.getD (ev lt (kas_asc p f n) - 1) 0) = true)
  | 0, n, hf, h0, U => by
    have := U.kN
    exact ⟨Nat.le_refl _, U, fun h => by have h' : n < N := h; lia⟩
  | f + 1, n, hf, h0, U => by
    simp only [kas_asc, ev]
    cases hc : lt (p.getD n 0) (p.getD (n - 1) 0) with
    | true => exact ⟨Nat.le_refl _, U, fun _ => hc⟩
    | false =>
      simp only [Bool.false_eq_true, if_false]
      have hn := U.rest n (Nat.le_refl _) (by lia)
      have U' : Up lt N p (n + 1) := by
        refine ⟨U.size, by lia, U.perm, fun i j hij hj => ?_, fun i hi => ?_, fun i h1 h2 => U.rest i (by lia) h2⟩
        · by_cases e : j = n
          · subst e
            have hlow := U.low i hij
            have hle : lt (p.getD j 0) (p.getD i 0) = false := by
              by_cases e' : i = j - 1
              · subst e'; exact hc
              · exact W.le_tr _ _ _ ((U.srt i (j - 1) (by lia) (by lia)).le W) hc
            exact .inr ⟨hle, by lia⟩
          · exact U.srt i j hij (by lia)
        · by_cases e : i = n
          · subst e; lia
          · have := U.low i (by lia); lia
      obtain ⟨a, b, c⟩ := asc_ev W f (n + 1) (by lia) (by lia) U'
      exact ⟨by lia, b, c⟩

/-- falling, the last q + 1 alike and as given -/
structure Dn (lt : Nat → Nat → Bool) (N : Nat) (p : Array Nat) (n q : Nat) : Prop where
  size : p.size = N
  nN : n ≤ N
  qn : q + 1 ≤ n
  perm : p.toList.Perm (List.range N)
  c1 : ∀ i j, i < j → j < n - q - 1 → Bef lt (p.getD j 0) (p.getD i 0)
  c2 : ∀ i j, i < n - q - 1 → n - q - 1 ≤ j → j < n → lt (p.getD j 0) (p.getD i 0) = true
  d1 : ∀ i, n - q - 1 ≤ i → i < N → p.getD i 0 = i
  d2 : ∀ i j, n - q - 1 ≤ i → i < n → n - q - 1 ≤ j → j < n → lt (p.getD i 0) (p.getD j 0) = false
  low : ∀ i, i < n → p.getD i 0 < n

/-- the last ones turned: all falls -/
structure Dd (lt : Nat → Nat → Bool) (N : Nat) (p : Array Nat) (n : Nat) : Prop where
  size : p.size = N
  nN : n ≤ N
  perm : p.toList.Perm (List.range N)
  c : ∀ i j, i < j → j < n → Bef lt (p.getD j 0) (p.getD i 0)
  rest : ∀ i, n ≤ i → i < N → p.getD i 0 = i
  low : ∀ i, i < n → p.getD i 0 < n

theorem Dn.turn {N : Nat} {p : Array Nat} {n q : Nat} (h : Dn lt N p n q) : Dd lt N (if q > 0 then kas_rev p (n - (q + 1)) n else p) n := by
  have hq := h.qn
  have hn := h.nN
  have key : ∀ k, (if q > 0 then kas_rev p (n - (q + 1)) n else p).getD k 0 = if n - q - 1 ≤ k ∧ k < n then p.getD (n - q - 1 + n - 1 - k) 0 else p.getD k 0 := by
    intro k
    by_cases hq0 : q > 0
    · rw [if_pos hq0, gt_rev (by rw [h.size]; exact hn), show n - (q + 1) = n - q - 1 by lia]
    · rw [if_neg hq0]
      split
      · congr 1; lia
      · rfl
  refine ⟨?_, hn, ?_, fun i j hij hj => ?_, fun i h1 h2 => ?_, fun i hi => ?_⟩
  · split
    · rw [rev_size]; exact h.size
    · exact h.size
  · split
    · exact rev_perm.trans h.perm
    · exact h.perm
  · rw [key, key]
    by_cases h1 : n - q - 1 ≤ i
    · rw [if_pos ⟨by lia, hj⟩, if_pos ⟨h1, by lia⟩]
      refine .inr ⟨h.d2 _ _ (by lia) (by lia) (by lia) (by lia), ?_⟩
      rw [h.d1 _ (by lia) (by lia), h.d1 _ (by lia) (by lia)]; lia
    · rw [if_neg (show ¬ (n - q - 1 ≤ i ∧ i < n) by lia)]
      by_cases h2 : n - q - 1 ≤ j
      · rw [if_pos ⟨h2, hj⟩]
        exact .inl (h.c2 _ _ (by lia) (by lia) (by lia))
      · rw [if_neg (by lia)]
        exact h.c1 _ _ hij (by lia)
  · rw [key, if_neg (by lia)]; exact h.d1 i (by lia) h2
  · rw [key]
    split
    · exact h.low _ (by lia)
    · exact h.low _ hi

theorem Dd.more (W : Swo lt) {N : Nat} {p : Array Nat} {n : Nat} (h : Dd lt N p n) (h0 : 0 < n) (hn : n < N) (hl : lt (p.getD n 0) (p.getD (n - 1) 0) = true) : Dn lt N p (n + 1) 0 := by
  have all : ∀ i, i < n → lt (p.getD n 0) (p.getD i 0) = true := fun i hi => by
    by_cases e : i = n - 1
    · subst e; exact hl
    · exact W.lt_le hl ((h.c i (n - 1) (by lia) (by lia)).le W)
  refine ⟨h.size, by lia, by lia, h.perm, fun i j hij hj => h.c i j hij (by lia), fun i j h1 h2 h3 => ?_, fun i h1 h2 => h.rest i (by lia) h2, fun i j h1 h2 h3 h4 => ?_, fun i hi => ?_⟩
  · have e : j = n := by lia
    subst e
    exact all i (by lia)
  · have e : i = n := by lia
    have e' : j = n := by lia
    subst e; subst e'
    exact W.irr _
  · by_cases e : i = n
    · subst e; rw [h.rest _ (Nat.le_refl _) hn]; lia
    · have := h.low i (by lia); lia

theorem desc_ev (W : Swo lt) {N : Nat} : ∀ (f : Nat) (p : Array Nat) (n q : Nat), f = N - n → Dn lt N p n q → ∃ p' n' q', ev lt (kas_desc f p n q) = (p', n', q') ∧ Dn lt N p' n' q'
  | 0, p, n, q, hf, h => ⟨p, n, q, rfl, h⟩
  | f + 1, p, n, q, hf, h => by
    have hnN : n < N := by lia
    have hq := h.qn
    simp only [kas_desc, ev]
    cases hc : lt (p.getD n 0) (p.getD (n - 1) 0) with
    | true =>
      simp only [if_true]
      have T := h.turn
      have hpn : (if q > 0 then kas_rev p (n - (q + 1)) n else p).getD n 0 = p.getD n 0 := by rw [T.rest n (Nat.le_refl _) hnN, h.d1 n (by lia) hnN]
      have D := T.more W (by lia) hnN (by
        rw [hpn]
        by_cases hq0 : q > 0
        · rw [if_pos hq0, gt_rev (by rw [h.size]; lia), if_pos (by lia)]
          exact W.lt_le hc (h.d2 _ _ (by lia) (by lia) (by lia) (by lia))
        · rw [if_neg hq0]; exact hc)
      have := desc_ev W f _ (n + 1) 0 (by lia) D
      split
      · rename_i hq0; rw [if_pos hq0] at this; exact this
      · rename_i hq0; rw [if_neg hq0] at this; exact this
    | false =>
      simp only [Bool.false_eq_true, if_false, ev]
      cases hd : lt (p.getD (n - 1) 0) (p.getD n 0) with
      | true => exact ⟨p, n, q, rfl, h⟩
      | false =>
        simp only [Bool.false_eq_true, if_false]
        refine desc_ev W f p (n + 1) (q + 1) (by lia) ?_
        have same : ∀ i, n - q - 1 ≤ i → i < n → lt (p.getD n 0) (p.getD i 0) = false ∧ lt (p.getD i 0) (p.getD n 0) = false := fun i h1 h2 =>
          ⟨W.le_tr _ _ _ (h.d2 (n - 1) i (by lia) (by lia) h1 h2) hc, W.le_tr _ _ _ hd (h.d2 i (n - 1) h1 h2 (by lia) (by lia))⟩
        refine ⟨h.size, by lia, by lia, h.perm, fun i j hij hj => h.c1 i j hij (by lia), fun i j h1 h2 h3 => ?_, fun i h1 h2 => h.d1 i (by lia) h2, fun i j h1 h2 h3 h4 => ?_, fun i hi => ?_⟩
        · by_cases e : j = n
          · subst e
            exact W.le_lt (same (j - 1) (by lia) (by lia)).2 (h.c2 i (j - 1) (by lia) (by lia) (by lia))
          · exact h.c2 i j (by lia) (by lia) (by lia)
        · by_cases e : i = n
          · subst e
            by_cases e' : j = i
            · subst e'; exact W.irr _
            · exact (same j (by lia) (by lia)).1
          · by_cases e' : j = n
            · subst e'; exact (same i (by lia) (by lia)).2
            · exact h.d2 i j (by lia) (by lia) (by lia) (by lia)
        · by_cases e : i = n
          · subst e; rw [h.d1 _ (by lia) hnN]; lia
          · have := h.low i (by lia); lia

theorem Dd.up {N : Nat} {p : Array Nat} {n : Nat} (h : Dd lt N p n) : Up lt N (kas_rev p 0 n) n := by
  have hn : n ≤ p.size := by rw [h.size]; exact h.nN
  refine ⟨by rw [rev_size]; exact h.size, h.nN, rev_perm.trans h.perm, fun i j hij hj => ?_, fun i hi => ?_, fun i h1 h2 => ?_⟩
  · rw [gt_rev hn, gt_rev hn, if_pos ⟨by lia, by lia⟩, if_pos ⟨by lia, hj⟩]
    exact h.c _ _ (by lia) (by lia)
  · rw [gt_rev hn, if_pos ⟨by lia, hi⟩]; exact h.low _ (by lia)
  · rw [gt_rev hn, if_neg (by lia)]; exact h.rest i h1 h2

theorem tail3_ev (W : Swo lt) {N n : Nat} {p : Array Nat} (h0 : 0 < n) (h : Dd lt N p n) : ∃ m p', ev lt (kas_tail3 n N p) = (m, p') ∧ 0 < m ∧ Up lt N p' m := by
  have := asc_ev W (N - n) n rfl h0 h.up
  exact ⟨_, _, by unfold kas_tail3; rw [ev_bind]; rfl, by lia, this.2.1⟩
theorem descPart_ev (W : Swo lt) {N n : Nat} {p : Array Nat} (h : Dn lt N p (n + 1) 0) : ∃ m p', ev lt (kas_descPart n N p) = (m, p') ∧ 0 < m ∧ Up lt N p' m := by
  obtain ⟨p', n', q', e, h'⟩ := desc_ev W (N - (n + 1)) p (n + 1) 0 rfl h
  unfold kas_descPart
  rw [ev_bind, e]
  have T := h'.turn
  have hq := h'.qn
  have := tail3_ev W (by lia) T
  show ∃ m p'', ev lt (if q' > 0 then kas_tail3 n' N (kas_rev p' (n' - (q' + 1)) n') else kas_tail3 n' N p') = (m, p'') ∧ _
  split
  · rename_i hq0; rw [if_pos hq0] at this; exact this
  · rename_i hq0; rw [if_neg hq0] at this; exact this

theorem range_get {N i : Nat} (hi : i < N) : (List.toArray (List.range N)).getD i 0 = i := by simp [Array.getD_eq_getD_getElem?, hi]

theorem count_ev (W : Swo lt) {N : Nat} (hN : 0 < N) : ∃ m p, ev lt (kas_count N (List.toArray (List.range N))) = (m, p) ∧ 0 < m ∧ Up lt N p m := by
  obtain ⟨p, hp⟩ : ∃ p, p = List.toArray (List.range N) := ⟨_, rfl⟩
  have hg : ∀ i, i < N → p.getD i 0 = i := fun i hi => by rw [hp]; exact range_get hi
  have hz : p.size = N := by rw [hp]; simp
  have hpm : p.toList.Perm (List.range N) := by rw [hp]
  rw [← hp]
  have U1 : Up lt N p 1 := ⟨hz, by lia, hpm, fun i j h1 h2 => by lia, fun i hi => by rw [hg i (by lia)]; lia, fun i _ h2 => hg i h2⟩
  obtain ⟨a1, a2, a3⟩ := asc_ev W (N - 1) 1 rfl (by lia) U1
  unfold kas_count
  rw [ev_bind]
  generalize hn : ev lt (kas_asc p (N - 1) 1) = n at a1 a2 a3
  show ∃ m p', ev lt (if (n == N) = true then _ else if n > 1 then _ else _) = _ ∧ _
  by_cases e : n = N
  · rw [if_pos (by simpa using e)]
    exact ⟨n, p, rfl, by lia, a2⟩
  · rw [if_neg (by simpa using e)]
    have hkN := a2.kN
    have hnN : n < N := by lia
    have hlt := a3 hnN
    by_cases h1 : n > 1
    · rw [if_pos h1]
      simp only [ev]
      cases hc : lt (p.getD 0 0) (p.getD (n - 1) 0) with
      | true => exact ⟨n, p, rfl, by lia, a2⟩
      | false =>
        simp only [Bool.false_eq_true, if_false]
        refine descPart_ev W ?_
        have hall : ∀ i j, i < n → j < n → lt (p.getD i 0) (p.getD j 0) = false := fun i j hi hj => by
          -- all alike: j before or at the last, the first before i
          have x1 : lt (p.getD i 0) (p.getD 0 0) = false := by
            by_cases e0 : i = 0
            · subst e0; exact W.irr _
            · exact (a2.srt 0 i (by lia) hi).le W
          have x2 : lt (p.getD (n - 1) 0) (p.getD j 0) = false := by
            by_cases e0 : j = n - 1
            · subst e0; exact W.irr _
            · exact (a2.srt j (n - 1) (by lia) (by lia)).le W
          have x3 : lt (p.getD i 0) (p.getD (n - 1) 0) = false := by
            by_cases e0 : i = n - 1
            · subst e0; exact W.irr _
            · cases q : lt (p.getD i 0) (p.getD (n - 1) 0) with
              | false => rfl
              | true => exact absurd (W.le_lt x1 q) (by rw [hc]; simp)
          exact W.le_tr _ _ _ x2 x3
        have hr : n ≤ p.size := by lia
        have D : Dd lt N (kas_rev p 0 n) n := by
          refine ⟨by rw [rev_size]; exact hz, hkN, rev_perm.trans hpm, fun i j hij hj => ?_, fun i x1 x2 => ?_, fun i hi => ?_⟩
          · rw [gt_rev hr, gt_rev hr, if_pos ⟨by lia, hj⟩, if_pos ⟨by lia, by lia⟩]
            refine .inr ⟨hall _ _ (by lia) (by lia), ?_⟩
            rw [hg _ (by lia), hg _ (by lia)]; lia
          · rw [gt_rev hr, if_neg (by lia)]; exact hg i x2
          · rw [gt_rev hr, if_pos ⟨by lia, hi⟩, hg _ (by lia)]; lia
        refine D.more W (by lia) hnN ?_
        rw [gt_rev hr, gt_rev hr, if_neg (by lia), if_pos (by lia)]
        exact W.lt_le hlt (hall _ _ (by lia) (by lia))
    · rw [if_neg h1]
      have e1 : n = 1 := by lia
      subst e1
      refine descPart_ev W ?_
      have D : Dd lt N p 1 := ⟨hz, by lia, hpm, fun i j h1 h2 => by lia, fun i _ h2 => hg i h2, fun i hi => by rw [hg i (by lia)]; lia⟩
      exact D.more W (by lia) hnN hlt

theorem place_ev (W : Swo lt) {N k : Nat} {p : Array Nat} (U : Up lt N p k) (hk : k < N) : ∀ (f l r : Nat), r - l ≤ f → l ≤ r → r ≤ k → (∀ i, i < l → lt (p.getD k 0) (p.getD i 0) = false) → (∀ i, r ≤ i → i < k → lt (p.getD k 0) (p.getD i 0) = true) →
    ∃ l', ev lt (kas_place p k f l r) = l' ∧ l' ≤ k ∧ (∀ i, i < l' → lt (p.getD k 0) (p.getD i 0) = false) ∧ ∀ i, l' ≤ i → i < k → lt (p.getD k 0) (p.getD i 0) = true
  | 0, l, r, hf, hlr, hr, h1, h2 => ⟨l, rfl, by lia, h1, fun i x y => h2 i (by lia) y⟩
  | f + 1, l, r, hf, hlr, hr, h1, h2 => by
    unfold kas_place
    by_cases hge : l ≥ r
    · rw [if_pos hge]
      exact ⟨l, rfl, by lia, h1, fun i x y => h2 i (by lia) y⟩
    · rw [if_neg hge]
      simp only [ev]
      have hle : ∀ i j, i ≤ j → j < k → lt (p.getD j 0) (p.getD i 0) = false := fun i j hij hj => by
        by_cases e : i = j
        · subst e; exact W.irr _
        · exact (U.srt i j (by lia) hj).le W
      cases hc : lt (p.getD k 0) (p.getD ((l + r) / 2) 0) with
      | true =>
        simp only [if_true]
        exact place_ev W U hk f l ((l + r) / 2) (by lia) (by lia) (by lia) h1 fun i x y => W.lt_le hc (hle _ _ x y)
      | false =>
        simp only [Bool.false_eq_true, if_false]
        exact place_ev W U hk f ((l + r) / 2 + 1) r (by lia) (by lia) hr (fun i x => W.le_tr _ _ _ (hle i ((l + r) / 2) (by lia) (by lia)) hc) h2

theorem bin_ev (W : Swo lt) {N : Nat} : ∀ (f : Nat) (p : Array Nat) (k : Nat), f = N - k → Up lt N p k → Up lt N (ev lt (kas_bin f p k)) N
  | 0, p, k, hf, U => by
    have := U.kN
    have e : k = N := by lia
    subst e; exact U
  | f + 1, p, k, hf, U => by
    have hk : k < N := by lia
    have hkn := U.rest k (Nat.le_refl _) hk
    simp only [kas_bin]
    rw [ev_bind]
    obtain ⟨l, e, hl, h1, h2⟩ := place_ev W U hk k 0 k (by lia) (by lia) (Nat.le_refl _) (fun i hi => by lia) (fun i x y => by lia)
    rw [e]
    refine bin_ev W f _ (k + 1) (by lia) ?_
    have gb : ∀ i, (bubble p k (k - l)).getD i 0 = if i = l then k else if l < i ∧ i ≤ k then p.getD (i - 1) 0 else p.getD i 0 := fun i => by
      rw [gt_bub (by rw [U.size]; exact hk) (by lia), hkn, show k - (k - l) = l by lia]
    rw [hkn] at h1 h2
    refine ⟨by rw [bubble_size]; exact U.size, by lia, (bubble_perm p k (k - l)).toList.trans U.perm, fun i j hij hj => ?_, fun i hi => ?_, fun i x y => ?_⟩
    · rw [gb, gb]
      by_cases e1 : i = l
      · subst e1
        rw [if_pos rfl, if_neg (by lia), if_pos (by lia)]
        exact .inl (h2 _ (by lia) (by lia))
      · by_cases e2 : j = l
        · subst e2
          rw [if_neg (by lia), if_neg (by lia), if_pos rfl]
          exact .inr ⟨h1 _ (by lia), U.low _ (by lia)⟩
        · rw [if_neg e1, if_neg e2]
          split
          · rw [if_pos (by lia)]
            exact U.srt _ _ (by lia) (by lia)
          · split
            · exact U.srt _ _ (by lia) (by lia)
            · exact U.srt _ _ (by lia) (by lia)
    · rw [gb]
      split
      · lia
      · split
        · have := U.low (i - 1) (by lia); lia
        · have := U.low i (by lia); lia
    · rw [gb, if_neg (by lia), if_neg (by lia)]
      exact U.rest i (by lia) y

theorem sort_ev (W : Swo lt) {N : Nat} (hN : 0 < N) : Up lt N (ev lt (kas_sort N)) N := by
  unfold kas_sort
  obtain ⟨m, p, e, hm, U⟩ := count_ev W hN
  rw [ev_bind, e]
  show Up lt N (ev lt (if m < N then kas_bin (N - max m 1) p (max m 1) else .ret p)) N
  have hmax : max m 1 = m := by lia
  split
  · rw [hmax]; exact bin_ev W _ p m rfl U
  · have := U.kN
    have e : m = N := by lia
    subst e; exact U
end Mine
end

namespace Mine
section
local macro_rules | `(tactic| walk_at "lk") => `(tactic| first | with_reducible exact upd_eq | with_reducible assumption | (refine upd_ne (by decide +kernel) ?_; walk_at "lk"))
local macro_rules | `(tactic| walk_at "go1") => `(tactic| first
  | ((with_reducible show wpAny _ _ (execs (_ :: _) _) _ _ _); refine wpAny_execs_cons ?_)
  | ((with_reducible show wpAny _ _ (execs [] _) _ _ _); refine wpAny_execs_nil ?_)
  | ((with_reducible show wpAny _ _ (exec (Stmt.Assign [Expr.Name _ _] _ _) _) _ _ _); refine wpAny_Assign_Name ?_)
  | ((with_reducible show wpAny _ _ (exec (Stmt.Assign [Expr.Subscript _ _ _] _ _) _) _ _ _); refine wpAny_Assign_Subscript ?_)
  | ((with_reducible show wpAny _ _ (exec (Stmt.AugAssign (Expr.Name _ _) _ _ _) _) _ _ _); refine wpAny_AugAssign_Name ?_)
  | ((with_reducible show wpAny _ _ (exec (Stmt.Return (some _) _) _) _ _ _); refine wpAny_Return_some ?_)
  | ((with_reducible show wpAny _ _ (exec (Stmt.Continue _) _) _ _ _); refine wpAny_Continue ?_)
  | ((with_reducible show wpAny _ _ (exec (Stmt.Break _) _) _ _ _); refine wpAny_Break ?_)
  | ((with_reducible show wpAny _ _ (exec (Stmt.Pass _) _) _ _ _); refine wpAny_Pass ?_)
  | ((with_reducible show wpAny _ _ (isTrue (Expr.Compare _ [_] [_] _) _ _) _ _ _); refine wpAny_isTrue_Compare1 ?_)
  | ((with_reducible show wpAny _ _ (isTrue (Expr.BoolOp BoolOp.And (_ :: _) _) _ _) _ _ _); refine isTrue_and ?_)
  | ((with_reducible show wpAny _ _ (isTrue (Expr.BoolOp BoolOp.And [] _) _ _) _ _ _); refine isTrue_and_nil ?_)
  | ((with_reducible show wpAny _ _ (isTrue (Expr.BoolOp BoolOp.Or (_ :: _) _) _ _) _ _ _); refine isTrue_or ?_)
  | ((with_reducible show wpAny _ _ (isTrue (Expr.BoolOp BoolOp.Or [] _) _ _) _ _ _); refine isTrue_or_nil ?_)
  | ((with_reducible show wpAny _ _ (isTrue (Expr.UnaryOp UnaryOp.Not _ _) _ _) _ _ _); refine wpAny_isTrue_Not ?_)
  | ((with_reducible show wpAny _ _ (eval (Expr.Compare _ [_] [_] _) _) _ _ _); refine wpAny_Compare1 ?_)
  | ((with_reducible show wpAny _ _ (eval (Expr.BinOp _ _ _ _) _) _ _ _); refine wpAny_BinOp ?_)
  | ((with_reducible show wpAny _ _ (eval (Expr.Subscript _ _ _) _) _ _ _); refine Subscript_ ?_)
  | ((with_reducible show wpAny _ _ (eval (Expr.Constant (Const.int _) _ _) _) _ _ _); refine i_const fun _ _ => ?_)
  | ((with_reducible show wpAny _ _ (eval (Expr.Constant (Const.bool _) _ _) _) _ _ _); refine PyProof.Rows.Constant_bool ?_)
  | ((with_reducible show wpAny _ _ (eval (Expr.Constant Const.none _ _) _) _ _ _); refine PyProof.Rows.Constant_none ?_)
  | ((with_reducible show wpAny _ _ (exec (Stmt.Expr _ _) _) _ _ _); refine wpAny_Expr_any ?_)
  | ((with_reducible show wpAny _ _ (compareOp CmpOp.Is Value.none Value.none) _ _ _); refine is_none_none ?_)
  | ((with_reducible show wpAny _ _ (compareOp CmpOp.IsNot Value.none Value.none) _ _ _); refine isnot_none_none ?_)
  | ((with_reducible show wpAny _ _ (eval (Expr.BoolOp BoolOp.And (_ :: _ :: _) _) _) _ _ _); refine PyProof.Rows.BoolOp_and ?_)
  | ((with_reducible show wpAny _ _ (eval (Expr.BoolOp _ [_] _) _) _ _ _); refine PyProof.Rows.BoolOp_one ?_)
  | ((with_reducible show wpAny _ _ (eval (Expr.List (_ :: _) _) _) _ _ _); refine PyProof.Rows.List_ ?_)
  | ((with_reducible show wpAny _ _ (eval (Expr.Tuple _ _ _) _) _ _ _); refine PyProof.Rows.Tuple_ ?_)
  | ((with_reducible show wpAny _ _ (eval (Expr.Name _ _) _) _ _ _); refine r_load (by with_reducible assumption) (by walk_at "lk") ?_)
  | ((with_reducible show wpAny _ _ (loadName _ _) _ _ _); refine r_loadn (by with_reducible assumption) (by walk_at "lk") ?_)
  | ((with_reducible show wpAny _ _ (storeName _ _ _) _ _ _); refine r_store (by with_reducible assumption) fun _ _ _ => ?_)
  | ((with_reducible show wpAny _ _ (binaryOp Operator.Add (Value.int _ _) (Value.int _ _)) _ _ _); refine i_add fun _ _ => ?_)
  | ((with_reducible show wpAny _ _ (binaryOp Operator.Sub (Value.int _ _) (Value.int _ _)) _ _ _); refine i_sub fun _ _ => ?_)
  | ((with_reducible show wpAny _ _ (compareOp CmpOp.Gt (Value.int _ _) (Value.int _ _)) _ _ _); refine gt_int ?_)
  | ((with_reducible show wpAny _ _ (compareOp CmpOp.Lt (Value.int _ _) (Value.int _ _)) _ _ _); refine lt_int ?_)
  | ((with_reducible show wpAny _ _ (compareOp CmpOp.GtE (Value.int _ _) (Value.int _ _)) _ _ _); refine ge_int ?_)
  | ((with_reducible show wpAny _ _ (compareOp CmpOp.Eq (Value.int _ _) (Value.int _ _)) _ _ _); refine eq_int ?_)
  | ((with_reducible show wpAny _ _ (eval (Expr.Call (Expr.Attribute _ _ _) _ [] _) _) _ _ _); refine MethodCall_ ?_)
  | ((with_reducible show wpAny _ _ (getMethod _ (Str.ofString "append") _) _ _ _); refine r_method (by with_reducible assumption) (by with_reducible assumption) PySem.F.slot_list_append PySem.F.type_list_append ?_)
  | ((with_reducible show wpAny _ _ (getMethod _ (Str.ofString "pop") _) _ _ _); refine r_method (by with_reducible assumption) (by with_reducible assumption) PySem.F.slot_list_pop PySem.F.type_list_pop ?_)
  | ((with_reducible show wpAny _ _ (getMethod _ (Str.ofString "insert") _) _ _ _); refine r_method (by with_reducible assumption) (by with_reducible assumption) PySem.F.slot_list_insert PySem.F.type_list_insert ?_)
  | ((with_reducible show wpAny _ _ (getMethod _ (Str.ofString "reverse") _) _ _ _); refine r_method (by with_reducible assumption) (by with_reducible assumption) PySem.F.slot_list_reverse PySem.F.type_list_reverse ?_)
  | ((with_reducible show wpAny _ _ (callWith _ (Value.builtin _) _ (backTo _ (starEach [] _)) []) _ _ _); refine callWith_method0 ?_)
  | ((with_reducible show wpAny _ _ (callWith _ (Value.builtin _) _ (backTo _ (starEach (_ :: _) _)) []) _ _ _); refine callWith_method1 ?_)
  | ((with_reducible show wpAny _ _ (isTrue (Expr.Name _ _) _ _) _ _ _); refine isTrue_plain ?_)
  | ((with_reducible show wpAny _ _ (isTrue (Expr.Call _ _ _ _) _ _) _ _ _); refine isTrue_plain ?_)
  | ((with_reducible show wpAny _ _ (spliced (backTo _ (starEach (_ :: _) _))) _ _ _); refine args_cons ?_)
  | ((with_reducible show wpAny _ _ (spliced (backTo _ (starEach [] _))) _ _ _); refine args_nil ?_)
  | ((with_reducible show wpAny _ _ (truthy (Value.bool _)) _ _ _); refine wpAny_truthy_bool ?_))
local macro_rules | `(tactic| walk_at "if1") => `(tactic| ((with_reducible show wpAny _ _ (exec (Stmt.If _ _ _ _) _) _ _ _); refine wpAny_If ?_))
local macro_rules | `(tactic| walk_at "go") => `(tactic| repeat (first | walk_at "go1" | walk_at "if1"))
local macro_rules | `(tactic| walk_at "gs") => `(tactic| repeat walk_at "go1")

section
set_option autoImplicit false
set_option maxRecDepth 10000

/-- the loop of _siftdown -/
def sdLoop (lt : D → D → Bool) (x : D) (sp : Nat) (pos : Nat) (ds : List D) : List D :=
  if h : pos > sp then
    if lt x (ds.getD ((pos - 1) / 2) []) then sdLoop lt x sp ((pos - 1) / 2) (ds.set pos (ds.getD ((pos - 1) / 2) [])) else ds.set pos x
  else ds.set pos x
termination_by pos
decreasing_by lia

def siftdown (lt : D → D → Bool) (ds : List D) (sp p : Nat) : List D := sdLoop lt (ds.getD p []) sp p ds

/-- the other way about -/
def gtl (a b : D) : Bool := llt b a


variable {mg mb : Str → Option Value} {prog : Program} {w : World} {A : Around} {E : Value → Shared → Prop} {s : Shared} {h : Heap} {tk : Nat} {h₀ : Base} {L : Addr} {m : Str → Option Value} {ls : List Ent} {ob nw : Led} {a : Addr} {k : Kd} {ds : List D} {g : List D → List Ent}



set_option maxHeartbeats 1000000 in
theorem c_siftdown {q sp p : Nat} {t1 t2 : Tok} {Q : Value → Shared → Prop} (C : Cx X1 mg mb A h₀ L (q + 1)) (S : St h₀ L h m ls ob nw) (U : At a k ds ls g) (hp : p < ds.length) (hz : ds.length < 1000)
    (ret : ∀ h' tk, St h₀ L h' m (g (siftdown llt ds sp p)) ob nw → Q .none (mk s h' tk)) :
    wpAny (model prog w) A (call (.ref (fa X1.P mg 9)) [.ref a, .int sp t1, .int p t2]) Q E (mk s h tk) := by
  refine call_fn (i := 9) C S (by decide) (fun _ _ _ => rfl) (locs rfl) fun g₁ L' h₁ tk code C' S' => ?_
  generalize hm : (fun y => (bindsOf X1 9 [.ref a, .int sp t1, .int p t2]).reverse.lookup y) = m₁ at S'
  have e1 : m₁ (Str.ofString "heap") = some (.ref a) := by rw [← hm]; rfl
  have e2 : m₁ (Str.ofString "startpos") = some (.int sp t1) := by rw [← hm]; rfl
  have e3 : m₁ (Str.ofString "pos") = some (.int p t2) := by rw [← hm]; rfl
  clear hm
  obtain ⟨x, hx⟩ : ∃ x, ds[p]? = some x := ⟨_, List.getElem?_eq_getElem hp⟩
  have hx' : ds.getD p [] = x := by simp [List.getD, hx]
  refine wpAny_execs_cons ?_
  walk_at "go"
  refine r_sub S' U rfl hx hz fun v hv => ?_
  refine r_store S' fun h2 tk2 S2 => wpAny_execs_cons ?_
  refine r_while (fun n s' => ∃ h' tk' m' ds' t', s' = mk s h' tk' ∧ St g₁ L' h' m' (g ds') ob nw ∧ m' (Str.ofString "heap") = some (.ref a) ∧ m' (Str.ofString "newitem") = some v ∧
      m' (Str.ofString "startpos") = some (.int sp t1) ∧ m' (Str.ofString "pos") = some (.int n t') ∧ n < ds'.length ∧ ds'.length = ds.length ∧ sdLoop llt x sp n ds' = siftdown llt ds sp p)
    (fun s' => ∃ h' tk' m' ds' n t', s' = mk s h' tk' ∧ St g₁ L' h' m' (g ds') ob nw ∧ m' (Str.ofString "heap") = some (.ref a) ∧ m' (Str.ofString "newitem") = some v ∧
      m' (Str.ofString "pos") = some (.int (n : Nat) t') ∧ n < ds'.length ∧ ds'.length = ds.length ∧ ds'.set n x = siftdown llt ds sp p) p
    ⟨h2, tk2, _, ds, t2, rfl, U.self.symm ▸ S2, by walk_at "lk", by walk_at "lk", by walk_at "lk", by walk_at "lk", hp, rfl, by rw [siftdown, hx']⟩ ?_ ?_
  · rintro n s' ⟨h', tk', m', ds', t', rfl, S3, f1, f2, f3, f4, hn, hl, hs⟩
    rw [sdLoop] at hs
    walk_at "go"
    by_cases hgt : n > sp
    · rw [dif_pos hgt] at hs
      rw [if_pos (decide_eq_true (by lia))]
      walk_at "go"
      refine i_half (n := n - 1) (by lia) fun _ _ => ?_
      walk_at "go"
      obtain ⟨y, hy⟩ : ∃ y, ds'[(n - 1) / 2]? = some y := ⟨_, List.getElem?_eq_getElem (by lia)⟩
      have hy' : ds'.getD ((n - 1) / 2) [] = y := by simp [List.getD, hy]
      rw [hy'] at hs
      refine r_sub (by with_reducible assumption) (U.again ds') rfl hy (by lia) fun v' hv' => ?_
      walk_at "go"
      refine r_lt (by with_reducible assumption) C'.u2 hv hv' ?_
      walk_at "go"
      by_cases hlt : llt x y = true
      · rw [if_pos hlt] at hs
        rw [if_pos hlt]
        walk_at "go"
        refine r_set (by with_reducible assumption) (U.again ds') (n := n) rfl (by lia) (by lia) hv' fun h3 S4 => ?_
        walk_at "go"
        exact ⟨(n - 1) / 2, by lia, _, _, _, _, _, rfl, by with_reducible assumption, by walk_at "lk", by walk_at "lk", by walk_at "lk", by walk_at "lk", by simp; lia, by simp; lia, hs⟩
      · rw [if_neg hlt] at hs
        rw [if_neg hlt]
        walk_at "go"
        exact ⟨_, _, _, _, n, _, rfl, by with_reducible assumption, by walk_at "lk", by walk_at "lk", by walk_at "lk", hn, hl, hs⟩
    · rw [dif_neg hgt] at hs
      rw [if_neg (by simp; lia)]
      exact ⟨_, _, _, _, n, _, rfl, by with_reducible assumption, by walk_at "lk", by walk_at "lk", by walk_at "lk", hn, hl, hs⟩
  · rintro s' ⟨h', tk', m', ds', n, t', rfl, S3, f1, f2, f3, hn, hl, hs⟩
    walk_at "go"
    refine r_set S3 (U.again ds') (n := n) rfl (by lia) (by lia) hv fun h3 S4 => ?_
    walk_at "go"
    rw [hs] at S4
    exact Back.intro S4 (ret _ _)
set_option maxHeartbeats 1000000 in
theorem c_siftdown_max {q sp p : Nat} {t1 t2 : Tok} {Q : Value → Shared → Prop} (C : Cx X1 mg mb A h₀ L (q + 1)) (S : St h₀ L h m ls ob nw) (U : At a k ds ls g) (hp : p < ds.length) (hz : ds.length < 1000)
    (ret : ∀ h' tk, St h₀ L h' m (g (siftdown gtl ds sp p)) ob nw → Q .none (mk s h' tk)) :
    wpAny (model prog w) A (call (.ref (fa X1.P mg 11)) [.ref a, .int sp t1, .int p t2]) Q E (mk s h tk) := by
  refine call_fn (i := 11) C S (by decide) (fun _ _ _ => rfl) (locs rfl) fun g₁ L' h₁ tk code C' S' => ?_
  generalize hm : (fun y => (bindsOf X1 11 [.ref a, .int sp t1, .int p t2]).reverse.lookup y) = m₁ at S'
  have e1 : m₁ (Str.ofString "heap") = some (.ref a) := by rw [← hm]; rfl
  have e2 : m₁ (Str.ofString "startpos") = some (.int sp t1) := by rw [← hm]; rfl
  have e3 : m₁ (Str.ofString "pos") = some (.int p t2) := by rw [← hm]; rfl
  clear hm
  obtain ⟨x, hx⟩ : ∃ x, ds[p]? = some x := ⟨_, List.getElem?_eq_getElem hp⟩
  have hx' : ds.getD p [] = x := by simp [List.getD, hx]
  refine wpAny_execs_cons ?_
  walk_at "go"
  refine r_sub S' U rfl hx hz fun v hv => ?_
  refine r_store S' fun h2 tk2 S2 => wpAny_execs_cons ?_
  refine r_while (fun n s' => ∃ h' tk' m' ds' t', s' = mk s h' tk' ∧ St g₁ L' h' m' (g ds') ob nw ∧ m' (Str.ofString "heap") = some (.ref a) ∧ m' (Str.ofString "newitem") = some v ∧
      m' (Str.ofString "startpos") = some (.int sp t1) ∧ m' (Str.ofString "pos") = some (.int n t') ∧ n < ds'.length ∧ ds'.length = ds.length ∧ sdLoop gtl x sp n ds' = siftdown gtl ds sp p)
    (fun s' => ∃ h' tk' m' ds' n t', s' = mk s h' tk' ∧ St g₁ L' h' m' (g ds') ob nw ∧ m' (Str.ofString "heap") = some (.ref a) ∧ m' (Str.ofString "newitem") = some v ∧
      m' (Str.ofString "pos") = some (.int (n : Nat) t') ∧ n < ds'.length ∧ ds'.length = ds.length ∧ ds'.set n x = siftdown gtl ds sp p) p
    ⟨h2, tk2, _, ds, t2, rfl, U.self.symm ▸ S2, by walk_at "lk", by walk_at "lk", by walk_at "lk", by walk_at "lk", hp, rfl, by rw [siftdown, hx']⟩ ?_ ?_
  · rintro n s' ⟨h', tk', m', ds', t', rfl, S3, f1, f2, f3, f4, hn, hl, hs⟩
    rw [sdLoop] at hs
    walk_at "go"
    by_cases hgt : n > sp
    · rw [dif_pos hgt] at hs
      rw [if_pos (decide_eq_true (by lia))]
      walk_at "go"
      refine i_half (n := n - 1) (by lia) fun _ _ => ?_
      walk_at "go"
      obtain ⟨y, hy⟩ : ∃ y, ds'[(n - 1) / 2]? = some y := ⟨_, List.getElem?_eq_getElem (by lia)⟩
      have hy' : ds'.getD ((n - 1) / 2) [] = y := by simp [List.getD, hy]
      rw [hy'] at hs
      refine r_sub (by with_reducible assumption) (U.again ds') rfl hy (by lia) fun v' hv' => ?_
      walk_at "go"
      refine r_lt (by with_reducible assumption) C'.u2 hv' hv ?_
      walk_at "go"
      rw [show llt y x = gtl x y from rfl]
      by_cases hlt : gtl x y = true
      · rw [if_pos hlt] at hs
        rw [if_pos hlt]
        walk_at "go"
        refine r_set (by with_reducible assumption) (U.again ds') (n := n) rfl (by lia) (by lia) hv' fun h3 S4 => ?_
        walk_at "go"
        exact ⟨(n - 1) / 2, by lia, _, _, _, _, _, rfl, by with_reducible assumption, by walk_at "lk", by walk_at "lk", by walk_at "lk", by walk_at "lk", by simp; lia, by simp; lia, hs⟩
      · rw [if_neg hlt] at hs
        rw [if_neg hlt]
        walk_at "go"
        exact ⟨_, _, _, _, n, _, rfl, by with_reducible assumption, by walk_at "lk", by walk_at "lk", by walk_at "lk", hn, hl, hs⟩
    · rw [dif_neg hgt] at hs
      rw [if_neg (by simp; lia)]
      exact ⟨_, _, _, _, n, _, rfl, by with_reducible assumption, by walk_at "lk", by walk_at "lk", by walk_at "lk", hn, hl, hs⟩
  · rintro s' ⟨h', tk', m', ds', n, t', rfl, S3, f1, f2, f3, hn, hl, hs⟩
    walk_at "go"
    refine r_set S3 (U.again ds') (n := n) rfl (by lia) (by lia) hv fun h3 S4 => ?_
    walk_at "go"
    rw [hs] at S4
    exact Back.intro S4 (ret _ _)
end

section
set_option autoImplicit false
set_option maxRecDepth 10000

/-- the child that goes up -/
def kid (lt : D → D → Bool) (ds : List D) (c : Nat) : Nat := if c + 1 < ds.length ∧ lt (ds.getD c []) (ds.getD (c + 1) []) = false then c + 1 else c
/-- the loop of _siftup -/
def suLoop (lt : D → D → Bool) (pos : Nat) (ds : List D) : List D × Nat :=
  if h : 2 * pos + 1 < ds.length then suLoop lt (kid lt ds (2 * pos + 1)) (ds.set pos (ds.getD (kid lt ds (2 * pos + 1)) [])) else (ds, pos)
termination_by ds.length - pos
decreasing_by
  simp only [List.length_set]
  unfold kid
  split <;> lia
def siftup (lt : D → D → Bool) (ds : List D) (p : Nat) : List D :=
  siftdown lt ((suLoop lt p ds).1.set (suLoop lt p ds).2 (ds.getD p [])) p (suLoop lt p ds).2

variable {mg mb : Str → Option Value} {prog : Program} {w : World} {A : Around} {E : Value → Shared → Prop} {s : Shared} {h : Heap} {tk : Nat} {h₀ : Base} {L : Addr} {m : Str → Option Value} {ls : List Ent} {ob nw : Led} {a : Addr} {k : Kd} {ds : List D} {g : List D → List Ent}

set_option maxHeartbeats 2000000 in
theorem c_siftup {q p : Nat} {t1 : Tok} {Q : Value → Shared → Prop} (C : Cx X1 mg mb A h₀ L (q + 2)) (S : St h₀ L h m ls ob nw) (U : At a k ds ls g) (hp : p < ds.length) (hz : ds.length < 1000)
    (ret : ∀ h' tk, St h₀ L h' m (g (siftup llt ds p)) ob nw → Q .none (mk s h' tk)) :
    wpAny (model prog w) A (call (.ref (fa X1.P mg 10)) [.ref a, .int p t1]) Q E (mk s h tk) := by
  refine call_fn (i := 10) C S (by decide) (fun _ _ _ => rfl) (locs rfl) fun g₁ L' h₁ tk code C' S' => ?_
  generalize hm : (fun y => (bindsOf X1 10 [.ref a, .int p t1]).reverse.lookup y) = m₁ at S'
  have e1 : m₁ (Str.ofString "heap") = some (.ref a) := by rw [← hm]; rfl
  have e3 : m₁ (Str.ofString "pos") = some (.int p t1) := by rw [← hm]; rfl
  clear hm
  obtain ⟨x, hx⟩ : ∃ x, ds[p]? = some x := ⟨_, List.getElem?_eq_getElem hp⟩
  have hx' : ds.getD p [] = x := by simp [List.getD, hx]
  refine wpAny_execs_cons ?_
  walk_at "go"
  refine r_callB C' S' (by decide) rfl ?_
  walk_at "go"
  refine r_len S' U hz fun tl _ => ?_
  walk_at "go"
  refine r_sub (by with_reducible assumption) U rfl hx hz fun v hv => ?_
  walk_at "go"
  refine i_mul2 rfl fun _ _ => ?_
  walk_at "go"
  refine r_while (fun n s' => ∃ h' tk' m' ds' p' t' t'' t3, s' = mk s h' tk' ∧ St g₁ L' h' m' (g ds') ob nw ∧ m' (Str.ofString "heap") = some (.ref a) ∧ m' (Str.ofString "newitem") = some v ∧
      m' (Str.ofString "startpos") = some (.int p t1) ∧ m' (Str.ofString "endpos") = some (.int ds.length t3) ∧ m' (Str.ofString "pos") = some (.int (p' : Nat) t') ∧ m' (Str.ofString "childpos") = some (.int ((2 * p' : Nat) + 1) t'') ∧
      n = ds.length - p' ∧ p' < ds'.length ∧ ds'.length = ds.length ∧ suLoop llt p' ds' = suLoop llt p ds)
    (fun s' => ∃ h' tk' m' ds' n t', s' = mk s h' tk' ∧ St g₁ L' h' m' (g ds') ob nw ∧ m' (Str.ofString "heap") = some (.ref a) ∧ m' (Str.ofString "newitem") = some v ∧
      m' (Str.ofString "startpos") = some (.int p t1) ∧ m' (Str.ofString "pos") = some (.int (n : Nat) t') ∧ n < ds'.length ∧ ds'.length = ds.length ∧ (ds', n) = suLoop llt p ds) (ds.length - p)
    ⟨_, _, _, ds, p, _, _, _, rfl, (by rw [U.self]; with_reducible assumption), by walk_at "lk", by walk_at "lk", by walk_at "lk", by walk_at "lk", by walk_at "lk", by walk_at "lk", rfl, hp, rfl, rfl⟩ ?_ ?_
  · rintro n s' ⟨h', tk', m', ds', p', t', t'', t3, rfl, S3, f1, f2, f3, f4, f5, f6, hn, hp', hl, hs⟩
    rw [suLoop] at hs
    walk_at "go"
    by_cases hlt : 2 * p' + 1 < ds'.length
    · rw [dif_pos hlt] at hs
      rw [if_pos (decide_eq_true (by lia))]
      walk_at "gs"
      obtain ⟨y, hy⟩ : ∃ y, ds'[2 * p' + 1]? = some y := ⟨_, List.getElem?_eq_getElem (by lia)⟩
      have hy' : ds'.getD (2 * p' + 1) [] = y := by simp [List.getD, hy]
      refine wpAny_mono (Q := fun fl s' => fl = Flow.next ∧ ∃ h4 tk4 m4 t4, s' = mk s h4 tk4 ∧ St g₁ L' h4 m4 (g ds') ob nw ∧ m4 (Str.ofString "heap") = some (.ref a) ∧ m4 (Str.ofString "newitem") = some v ∧
        m4 (Str.ofString "startpos") = some (.int p t1) ∧ m4 (Str.ofString "endpos") = some (.int ds.length t3) ∧ m4 (Str.ofString "pos") = some (.int (p' : Nat) t') ∧ m4 (Str.ofString "childpos") = some (.int (kid llt ds' (2 * p' + 1) : Nat) t4))
        ?_ (fun fl s' hq => ?_) fun _ _ x => x
      · walk_at "if1"
        walk_at "gs"
        by_cases hr : 2 * p' + 2 < ds'.length
        · rw [if_pos (decide_eq_true (by lia))]
          walk_at "gs"
          refine r_sub (by with_reducible assumption) (U.again ds') (n := 2 * p' + 1) (by lia) hy (by lia) fun v1 hv1 => ?_
          walk_at "gs"
          obtain ⟨z, hz'⟩ : ∃ z, ds'[2 * p' + 2]? = some z := ⟨_, List.getElem?_eq_getElem (by lia)⟩
          have hz2 : ds'.getD (2 * p' + 1 + 1) [] = z := by simp [List.getD, hz']
          refine r_sub (by with_reducible assumption) (U.again ds') (n := 2 * p' + 2) (by lia) hz' (by lia) fun v2 hv2 => ?_
          walk_at "gs"
          refine r_lt (by with_reducible assumption) C'.u2 hv1 hv2 ?_
          walk_at "gs"
          by_cases hyz : llt y z = true
          · rw [hyz]
            simp only [Bool.not_true, Bool.false_eq_true, if_false]
            walk_at "gs"
            have hk : kid llt ds' (2 * p' + 1) = 2 * p' + 1 := by unfold kid; rw [if_neg]; rintro ⟨-, h2⟩; rw [hy', hz2, hyz] at h2; cases h2
            rw [hk, show ((2 * p' + 1 : Nat) : Int) = ((2 * p' : Nat) : Int) + 1 by lia]
            exact ⟨rfl, _, _, _, _, rfl, by with_reducible assumption, by walk_at "lk", by walk_at "lk", by walk_at "lk", by walk_at "lk", by walk_at "lk", by walk_at "lk"⟩
          · simp only [Bool.not_eq_true] at hyz
            rw [hyz]
            simp only [Bool.not_false, if_true]
            walk_at "gs"
            simp only [if_true]
            walk_at "gs"
            have hk : kid llt ds' (2 * p' + 1) = 2 * p' + 2 := by unfold kid; rw [if_pos ⟨by lia, by rw [hy', hz2, hyz]⟩]
            rw [hk, show ((2 * p' + 2 : Nat) : Int) = ((2 * p' : Nat) : Int) + 1 + 1 by lia]
            exact ⟨rfl, _, _, _, _, rfl, by with_reducible assumption, by walk_at "lk", by walk_at "lk", by walk_at "lk", by walk_at "lk", by walk_at "lk", by walk_at "lk"⟩
        · rw [if_neg (by simp; lia)]
          simp only [Bool.false_eq_true, if_false]
          walk_at "gs"
          have hk : kid llt ds' (2 * p' + 1) = 2 * p' + 1 := by unfold kid; rw [if_neg]; rintro ⟨h1, -⟩; lia
          rw [hk, show ((2 * p' + 1 : Nat) : Int) = ((2 * p' : Nat) : Int) + 1 by lia]
          exact ⟨rfl, _, _, _, _, rfl, by with_reducible assumption, by walk_at "lk", by walk_at "lk", by walk_at "lk", by walk_at "lk", by walk_at "lk", by walk_at "lk"⟩
      · obtain ⟨rfl, h4, tk4, m4, t4, rfl, S4, q1, q2, q3, q4, q5, q6⟩ := hq
        have hkl : kid llt ds' (2 * p' + 1) < ds'.length ∧ p' < kid llt ds' (2 * p' + 1) := by unfold kid; split <;> lia
        walk_at "gs"
        obtain ⟨z, hz'⟩ : ∃ z, ds'[kid llt ds' (2 * p' + 1)]? = some z := ⟨_, List.getElem?_eq_getElem hkl.1⟩
        have hz2 : ds'.getD (kid llt ds' (2 * p' + 1)) [] = z := by simp [List.getD, hz']
        rw [hz2] at hs
        refine r_sub S4 (U.again ds') rfl hz' (by lia) fun v1 hv1 => ?_
        walk_at "gs"
        refine r_set S4 (U.again ds') (n := p') rfl (by lia) (by lia) hv1 fun h5 S5 => ?_
        walk_at "gs"
        refine i_mul2 rfl fun _ _ => ?_
        walk_at "gs"
        exact ⟨ds.length - kid llt ds' (2 * p' + 1), by lia, _, _, _, _, _, _, _, _, rfl, by with_reducible assumption, by walk_at "lk", by walk_at "lk", by walk_at "lk", by walk_at "lk", by walk_at "lk", by walk_at "lk", rfl, by simp; lia, by simp; lia, hs⟩
    · rw [dif_neg hlt] at hs
      rw [if_neg (by simp; lia)]
      exact ⟨_, _, _, _, p', _, rfl, by with_reducible assumption, by walk_at "lk", by walk_at "lk", by walk_at "lk", by walk_at "lk", hp', hl, hs⟩
  · rintro s' ⟨h', tk', m', ds', n, t', rfl, S3, f1, f2, f3, f4, hn, hl, hs⟩
    walk_at "go"
    refine r_set S3 (U.again ds') (n := n) rfl (by lia) (by lia) hv fun h3 S4 => ?_
    walk_at "go"
    refine r_callF 9 C' S4 (by decide) rfl ?_
    walk_at "go"
    refine ⟨S4.fr.keep, c_siftdown C' S4 (U.again _) (by simp; lia) (by simp; lia) fun h5 tk5 S5 => ?_⟩
    walk_at "go"
    refine Back.intro S5 fun S6 => ret _ _ ?_
    rw [siftup, ← hs, hx']
    exact S6
set_option maxHeartbeats 2000000 in
theorem c_siftup_max {q p : Nat} {t1 : Tok} {Q : Value → Shared → Prop} (C : Cx X1 mg mb A h₀ L (q + 2)) (S : St h₀ L h m ls ob nw) (U : At a k ds ls g) (hp : p < ds.length) (hz : ds.length < 1000)
    (ret : ∀ h' tk, St h₀ L h' m (g (siftup gtl ds p)) ob nw → Q .none (mk s h' tk)) :
    wpAny (model prog w) A (call (.ref (fa X1.P mg 12)) [.ref a, .int p t1]) Q E (mk s h tk) := by
  refine call_fn (i := 12) C S (by decide) (fun _ _ _ => rfl) (locs rfl) fun g₁ L' h₁ tk code C' S' => ?_
  generalize hm : (fun y => (bindsOf X1 12 [.ref a, .int p t1]).reverse.lookup y) = m₁ at S'
  have e1 : m₁ (Str.ofString "heap") = some (.ref a) := by rw [← hm]; rfl
  have e3 : m₁ (Str.ofString "pos") = some (.int p t1) := by rw [← hm]; rfl
  clear hm
  obtain ⟨x, hx⟩ : ∃ x, ds[p]? = some x := ⟨_, List.getElem?_eq_getElem hp⟩
  have hx' : ds.getD p [] = x := by simp [List.getD, hx]
  refine wpAny_execs_cons ?_
  walk_at "go"
  refine r_callB C' S' (by decide) rfl ?_
  walk_at "go"
  refine r_len S' U hz fun tl _ => ?_
  walk_at "go"
  refine r_sub (by with_reducible assumption) U rfl hx hz fun v hv => ?_
  walk_at "go"
  refine i_mul2 rfl fun _ _ => ?_
  walk_at "go"
  refine r_while (fun n s' => ∃ h' tk' m' ds' p' t' t'' t3, s' = mk s h' tk' ∧ St g₁ L' h' m' (g ds') ob nw ∧ m' (Str.ofString "heap") = some (.ref a) ∧ m' (Str.ofString "newitem") = some v ∧
      m' (Str.ofString "startpos") = some (.int p t1) ∧ m' (Str.ofString "endpos") = some (.int ds.length t3) ∧ m' (Str.ofString "pos") = some (.int (p' : Nat) t') ∧ m' (Str.ofString "childpos") = some (.int ((2 * p' : Nat) + 1) t'') ∧
      n = ds.length - p' ∧ p' < ds'.length ∧ ds'.length = ds.length ∧ suLoop gtl p' ds' = suLoop gtl p ds)
    (fun s' => ∃ h' tk' m' ds' n t', s' = mk s h' tk' ∧ St g₁ L' h' m' (g ds') ob nw ∧ m' (Str.ofString "heap") = some (.ref a) ∧ m' (Str.ofString "newitem") = some v ∧
      m' (Str.ofString "startpos") = some (.int p t1) ∧ m' (Str.ofString "pos") = some (.int (n : Nat) t') ∧ n < ds'.length ∧ ds'.length = ds.length ∧ (ds', n) = suLoop gtl p ds) (ds.length - p)
    ⟨_, _, _, ds, p, _, _, _, rfl, (by rw [U.self]; with_reducible assumption), by walk_at "lk", by walk_at "lk", by walk_at "lk", by walk_at "lk", by walk_at "lk", by walk_at "lk", rfl, hp, rfl, rfl⟩ ?_ ?_
  · rintro n s' ⟨h', tk', m', ds', p', t', t'', t3, rfl, S3, f1, f2, f3, f4, f5, f6, hn, hp', hl, hs⟩
    rw [suLoop] at hs
    walk_at "go"
    by_cases hlt : 2 * p' + 1 < ds'.length
    · rw [dif_pos hlt] at hs
      rw [if_pos (decide_eq_true (by lia))]
      walk_at "gs"
      obtain ⟨y, hy⟩ : ∃ y, ds'[2 * p' + 1]? = some y := ⟨_, List.getElem?_eq_getElem (by lia)⟩
      have hy' : ds'.getD (2 * p' + 1) [] = y := by simp [List.getD, hy]
      refine wpAny_mono (Q := fun fl s' => fl = Flow.next ∧ ∃ h4 tk4 m4 t4, s' = mk s h4 tk4 ∧ St g₁ L' h4 m4 (g ds') ob nw ∧ m4 (Str.ofString "heap") = some (.ref a) ∧ m4 (Str.ofString "newitem") = some v ∧
        m4 (Str.ofString "startpos") = some (.int p t1) ∧ m4 (Str.ofString "endpos") = some (.int ds.length t3) ∧ m4 (Str.ofString "pos") = some (.int (p' : Nat) t') ∧ m4 (Str.ofString "childpos") = some (.int (kid gtl ds' (2 * p' + 1) : Nat) t4))
        ?_ (fun fl s' hq => ?_) fun _ _ x => x
      · walk_at "if1"
        walk_at "gs"
        by_cases hr : 2 * p' + 2 < ds'.length
        · rw [if_pos (decide_eq_true (by lia))]
          walk_at "gs"
          obtain ⟨z, hz'⟩ : ∃ z, ds'[2 * p' + 2]? = some z := ⟨_, List.getElem?_eq_getElem (by lia)⟩
          have hz2 : ds'.getD (2 * p' + 1 + 1) [] = z := by simp [List.getD, hz']
          refine r_sub (by with_reducible assumption) (U.again ds') (n := 2 * p' + 2) (by lia) hz' (by lia) fun v2 hv2 => ?_
          walk_at "gs"
          refine r_sub (by with_reducible assumption) (U.again ds') (n := 2 * p' + 1) (by lia) hy (by lia) fun v1 hv1 => ?_
          walk_at "gs"
          refine r_lt (by with_reducible assumption) C'.u2 hv2 hv1 ?_
          walk_at "gs"
          rw [show llt z y = gtl y z from rfl]
          by_cases hyz : gtl y z = true
          · rw [hyz]
            simp only [Bool.not_true, Bool.false_eq_true, if_false]
            walk_at "gs"
            have hk : kid gtl ds' (2 * p' + 1) = 2 * p' + 1 := by unfold kid; rw [if_neg]; rintro ⟨-, h2⟩; rw [hy', hz2, hyz] at h2; cases h2
            rw [hk, show ((2 * p' + 1 : Nat) : Int) = ((2 * p' : Nat) : Int) + 1 by lia]
            exact ⟨rfl, _, _, _, _, rfl, by with_reducible assumption, by walk_at "lk", by walk_at "lk", by walk_at "lk", by walk_at "lk", by walk_at "lk", by walk_at "lk"⟩
          · simp only [Bool.not_eq_true] at hyz
            rw [hyz]
            simp only [Bool.not_false, if_true]
            walk_at "gs"
            simp only [if_true]
            walk_at "gs"
            have hk : kid gtl ds' (2 * p' + 1) = 2 * p' + 2 := by unfold kid; rw [if_pos ⟨by lia, by rw [hy', hz2, hyz]⟩]
            rw [hk, show ((2 * p' + 2 : Nat) : Int) = ((2 * p' : Nat) : Int) + 1 + 1 by lia]
            exact ⟨rfl, _, _, _, _, rfl, by with_reducible assumption, by walk_at "lk", by walk_at "lk", by walk_at "lk", by walk_at "lk", by walk_at "lk", by walk_at "lk"⟩
        · rw [if_neg (by simp; lia)]
          simp only [Bool.false_eq_true, if_false]
          walk_at "gs"
          have hk : kid gtl ds' (2 * p' + 1) = 2 * p' + 1 := by unfold kid; rw [if_neg]; rintro ⟨h1, -⟩; lia
          rw [hk, show ((2 * p' + 1 : Nat) : Int) = ((2 * p' : Nat) : Int) + 1 by lia]
          exact ⟨rfl, _, _, _, _, rfl, by with_reducible assumption, by walk_at "lk", by walk_at "lk", by walk_at "lk", by walk_at "lk", by walk_at "lk", by walk_at "lk"⟩
      · obtain ⟨rfl, h4, tk4, m4, t4, rfl, S4, q1, q2, q3, q4, q5, q6⟩ := hq
        have hkl : kid gtl ds' (2 * p' + 1) < ds'.length ∧ p' < kid gtl ds' (2 * p' + 1) := by unfold kid; split <;> lia
        walk_at "gs"
        obtain ⟨z, hz'⟩ : ∃ z, ds'[kid gtl ds' (2 * p' + 1)]? = some z := ⟨_, List.getElem?_eq_getElem hkl.1⟩
        have hz2 : ds'.getD (kid gtl ds' (2 * p' + 1)) [] = z := by simp [List.getD, hz']
        rw [hz2] at hs
        refine r_sub S4 (U.again ds') rfl hz' (by lia) fun v1 hv1 => ?_
        walk_at "gs"
        refine r_set S4 (U.again ds') (n := p') rfl (by lia) (by lia) hv1 fun h5 S5 => ?_
        walk_at "gs"
        refine i_mul2 rfl fun _ _ => ?_
        walk_at "gs"
        exact ⟨ds.length - kid gtl ds' (2 * p' + 1), by lia, _, _, _, _, _, _, _, _, rfl, by with_reducible assumption, by walk_at "lk", by walk_at "lk", by walk_at "lk", by walk_at "lk", by walk_at "lk", by walk_at "lk", rfl, by simp; lia, by simp; lia, hs⟩
    · rw [dif_neg hlt] at hs
      rw [if_neg (by simp; lia)]
      exact ⟨_, _, _, _, p', _, rfl, by with_reducible assumption, by walk_at "lk", by walk_at "lk", by walk_at "lk", by walk_at "lk", hp', hl, hs⟩
  · rintro s' ⟨h', tk', m', ds', n, t', rfl, S3, f1, f2, f3, f4, hn, hl, hs⟩
    walk_at "go"
    refine r_set S3 (U.again ds') (n := n) rfl (by lia) (by lia) hv fun h3 S4 => ?_
    walk_at "go"
    refine r_callF 11 C' S4 (by decide) rfl ?_
    walk_at "go"
    refine ⟨S4.fr.keep, c_siftdown_max C' S4 (U.again _) (by simp; lia) (by simp; lia) fun h5 tk5 S5 => ?_⟩
    walk_at "go"
    refine Back.intro S5 fun S6 => ret _ _ ?_
    rw [siftup, ← hs, hx']
    exact S6
end

section
set_option autoImplicit false
set_option maxRecDepth 10000

theorem sdLoop_len {lt : D → D → Bool} {x : D} {sp : Nat} : ∀ (pos : Nat) (ds : List D), (sdLoop lt x sp pos ds).length = ds.length := by
  intro pos
  induction pos using Nat.strongRecOn with
  | ind pos ih =>
    intro ds
    rw [sdLoop]
    split
    · split
      · rw [ih _ (by lia)]; simp
      · simp
    · simp
theorem siftdown_len {lt : D → D → Bool} {ds : List D} {sp p : Nat} : (siftdown lt ds sp p).length = ds.length := sdLoop_len _ _
theorem suLoop_len {lt : D → D → Bool} : ∀ (n pos : Nat) (ds : List D), n = ds.length - pos → (suLoop lt pos ds).1.length = ds.length ∧ (pos < ds.length → (suLoop lt pos ds).2 < ds.length) := by
  intro n
  induction n using Nat.strongRecOn with
  | ind n ih =>
    intro pos ds hn
    rw [suLoop]
    split
    · rename_i hlt
      have hk : kid lt ds (2 * pos + 1) < ds.length ∧ pos < kid lt ds (2 * pos + 1) := by unfold kid; split <;> lia
      have := ih (ds.length - kid lt ds (2 * pos + 1)) (by lia) (kid lt ds (2 * pos + 1)) (ds.set pos (ds.getD (kid lt ds (2 * pos + 1)) [])) (by simp)
      simp only [List.length_set] at this
      exact ⟨this.1, fun _ => this.2 hk.1⟩
    · exact ⟨rfl, id⟩
theorem siftup_len {lt : D → D → Bool} {ds : List D} {p : Nat} : (siftup lt ds p).length = ds.length := by
  rw [siftup, siftdown_len]; simp [(suLoop_len _ p ds rfl).1]

def hpLoop (lt : D → D → Bool) : Nat → List D → List D
  | 0, ds => ds
  | k + 1, ds => hpLoop lt k (siftup lt ds k)
def heapify (lt : D → D → Bool) (ds : List D) : List D := hpLoop lt (ds.length / 2) ds
theorem hpLoop_len {lt : D → D → Bool} : ∀ (k : Nat) (ds : List D), (hpLoop lt k ds).length = ds.length
  | 0, _ => rfl
  | k + 1, ds => by rw [hpLoop, hpLoop_len, siftup_len]
theorem heapify_len {lt : D → D → Bool} {ds : List D} : (heapify lt ds).length = ds.length := hpLoop_len _ _

variable {mg mb : Str → Option Value} {prog : Program} {w : World} {A : Around} {E : Value → Shared → Prop} {s : Shared} {h : Heap} {tk : Nat} {h₀ : Base} {L : Addr} {m : Str → Option Value} {ls : List Ent} {ob nw : Led} {a : Addr} {k : Kd} {ds : List D} {g : List D → List Ent}

set_option maxHeartbeats 2000000 in
theorem c_heapify {q : Nat} {Q : Value → Shared → Prop} (C : Cx X1 mg mb A h₀ L (q + 3)) (S : St h₀ L h m ls ob nw) (U : At a k ds ls g) (hz : ds.length < 1000)
    (ret : ∀ h' tk, St h₀ L h' m (g (heapify llt ds)) ob nw → Q .none (mk s h' tk)) :
    wpAny (model prog w) A (call (.ref (fa X1.P mg 5)) [.ref a]) Q E (mk s h tk) := by
  refine call_fn (i := 5) C S (by decide) (fun _ _ _ => rfl) (locs rfl) fun g₁ L' h₁ tk code C' S' => ?_
  generalize hm : (fun y => (bindsOf X1 5 [.ref a]).reverse.lookup y) = m₁ at S'
  have e1 : m₁ (Str.ofString "x") = some (.ref a) := by rw [← hm]; rfl
  clear hm
  refine wpAny_execs_cons ?_
  walk_at "go"
  refine r_callB C' S' (by decide) rfl ?_
  walk_at "go"
  refine r_len S' U hz fun tl _ => ?_
  walk_at "go"
  refine r_for ?_
  refine r_callT C' (by with_reducible assumption) (by decide) rfl ?_
  walk_at "go"
  refine r_callT C' (by with_reducible assumption) (by decide) rfl ?_
  walk_at "go"
  refine i_fdivN (c := 2) rfl rfl (by lia) fun _ _ => ?_
  walk_at "go"
  refine r_range1 (by with_reducible assumption) fun r h2 tk2 t1 t2 S2 => ?_
  walk_at "go"
  refine r_reversed S2 (by lia) (by lia) fun I h3 S3 => ?_
  refine r_iterRI S3 ?_
  refine r_forR (n := ds.length / 2) C'.handled S3 (fun i m' ls' nw' => nw' = nw ∧ m' (Str.ofString "x") = some (.ref a) ∧ ∃ ds', ls' = g ds' ∧ ds'.length = ds.length ∧ hpLoop llt (ds.length / 2 - i) ds' = heapify llt ds)
    ⟨rfl, by walk_at "lk", ds, U.self.symm, rfl, rfl⟩ ?_ ?_
  · rintro i h4 tk4 m4 ls4 nw4 t4 o4 hi ⟨rfl, f1, ds', rfl, hl, hs⟩ S4
    obtain ⟨j, hj⟩ : ∃ j, ds.length / 2 - i = j + 1 := ⟨ds.length / 2 - i - 1, by lia⟩
    rw [hj, hpLoop] at hs
    walk_at "go"
    refine r_callF 10 C' S4 (by decide) rfl ?_
    walk_at "go"
    rw [show ((ds.length / 2 : Nat) : Int) - 1 + (i : Int) * -1 = ((j : Nat) : Int) by lia]
    refine ⟨S4.fr.keep, c_siftup C' S4 (U.again _) (by lia) (by lia) fun h5 tk5 S5 => ?_⟩
    walk_at "go"
    refine TurnEnd.next S5 ⟨rfl, by walk_at "lk", _, rfl, by rw [siftup_len]; exact hl, ?_⟩
    rw [show ds.length / 2 - (i + 1) = j by lia]
    exact hs
  · rintro h4 tk4 m4 ls4 nw4 ⟨rfl, f1, ds', rfl, hl, hs⟩ S4
    rw [Nat.sub_self, hpLoop] at hs
    subst hs
    walk_at "go"
    exact Back.intro S4 (ret _ _)
set_option maxHeartbeats 2000000 in
theorem c_heapify_max {q : Nat} {Q : Value → Shared → Prop} (C : Cx X1 mg mb A h₀ L (q + 3)) (S : St h₀ L h m ls ob nw) (U : At a k ds ls g) (hz : ds.length < 1000)
    (ret : ∀ h' tk, St h₀ L h' m (g (heapify gtl ds)) ob nw → Q .none (mk s h' tk)) :
    wpAny (model prog w) A (call (.ref (fa X1.P mg 8)) [.ref a]) Q E (mk s h tk) := by
  refine call_fn (i := 8) C S (by decide) (fun _ _ _ => rfl) (locs rfl) fun g₁ L' h₁ tk code C' S' => ?_
  generalize hm : (fun y => (bindsOf X1 8 [.ref a]).reverse.lookup y) = m₁ at S'
  have e1 : m₁ (Str.ofString "x") = some (.ref a) := by rw [← hm]; rfl
  clear hm
  refine wpAny_execs_cons ?_
  walk_at "go"
  refine r_callB C' S' (by decide) rfl ?_
  walk_at "go"
  refine r_len S' U hz fun tl _ => ?_
  walk_at "go"
  refine r_for ?_
  refine r_callT C' (by with_reducible assumption) (by decide) rfl ?_
  walk_at "go"
  refine r_callT C' (by with_reducible assumption) (by decide) rfl ?_
  walk_at "go"
  refine i_fdivN (c := 2) rfl rfl (by lia) fun _ _ => ?_
  walk_at "go"
  refine r_range1 (by with_reducible assumption) fun r h2 tk2 t1 t2 S2 => ?_
  walk_at "go"
  refine r_reversed S2 (by lia) (by lia) fun I h3 S3 => ?_
  refine r_iterRI S3 ?_
  refine r_forR (n := ds.length / 2) C'.handled S3 (fun i m' ls' nw' => nw' = nw ∧ m' (Str.ofString "x") = some (.ref a) ∧ ∃ ds', ls' = g ds' ∧ ds'.length = ds.length ∧ hpLoop gtl (ds.length / 2 - i) ds' = heapify gtl ds)
    ⟨rfl, by walk_at "lk", ds, U.self.symm, rfl, rfl⟩ ?_ ?_
  · rintro i h4 tk4 m4 ls4 nw4 t4 o4 hi ⟨rfl, f1, ds', rfl, hl, hs⟩ S4
    obtain ⟨j, hj⟩ : ∃ j, ds.length / 2 - i = j + 1 := ⟨ds.length / 2 - i - 1, by lia⟩
    rw [hj, hpLoop] at hs
    walk_at "go"
    refine r_callF 12 C' S4 (by decide) rfl ?_
    walk_at "go"
    rw [show ((ds.length / 2 : Nat) : Int) - 1 + (i : Int) * -1 = ((j : Nat) : Int) by lia]
    refine ⟨S4.fr.keep, c_siftup_max C' S4 (U.again _) (by lia) (by lia) fun h5 tk5 S5 => ?_⟩
    walk_at "go"
    refine TurnEnd.next S5 ⟨rfl, by walk_at "lk", _, rfl, by rw [siftup_len]; exact hl, ?_⟩
    rw [show ds.length / 2 - (i + 1) = j by lia]
    exact hs
  · rintro h4 tk4 m4 ls4 nw4 ⟨rfl, f1, ds', rfl, hl, hs⟩ S4
    rw [Nat.sub_self, hpLoop] at hs
    subst hs
    walk_at "go"
    exact Back.intro S4 (ret _ _)
end

section
set_option autoImplicit false
set_option maxRecDepth 10000

def hpush (lt : D → D → Bool) (ds : List D) (d : D) : List D := siftdown lt (ds ++ [d]) 0 ds.length
def hrepl (lt : D → D → Bool) (ds : List D) (d : D) : List D := siftup lt (ds.set 0 d) 0
/-- what heappop leaves of a heap that is not empty -/
def hpop (lt : D → D → Bool) (ds : List D) : List D := if ds.length ≤ 1 then [] else hrepl lt ds.dropLast (ds.getLastD [])

variable {mg mb : Str → Option Value} {prog : Program} {w : World} {A : Around} {E : Value → Shared → Prop} {s : Shared} {h : Heap} {tk : Nat} {h₀ : Base} {L : Addr} {m : Str → Option Value} {ls : List Ent} {ob nw : Led} {a : Addr} {k : Kd} {ds : List D} {g : List D → List Ent}

set_option maxHeartbeats 2000000 in
theorem c_heappush {q : Nat} {v : Value} {d : D} {Q : Value → Shared → Prop} (C : Cx X1 mg mb A h₀ L (q + 2)) (S : St h₀ L h m ls ob nw) (U : At a k ds ls g) (hv : RelIn nw k v d) (hz : ds.length < 999)
    (ret : ∀ h' tk, St h₀ L h' m (g (hpush llt ds d)) ob nw → Q .none (mk s h' tk)) :
    wpAny (model prog w) A (call (.ref (fa X1.P mg 1)) [.ref a, v]) Q E (mk s h tk) := by
  refine call_fn (i := 1) C S (by decide) (fun _ _ _ => rfl) (locs rfl) fun g₁ L' h₁ tk code C' S' => ?_
  generalize hm : (fun y => (bindsOf X1 1 [.ref a, v]).reverse.lookup y) = m₁ at S'
  have e1 : m₁ (Str.ofString "heap") = some (.ref a) := by rw [← hm]; rfl
  have e2 : m₁ (Str.ofString "item") = some v := by rw [← hm]; rfl
  clear hm
  refine wpAny_execs_cons ?_
  walk_at "go"
  refine r_append S' U (by lia) hv fun h2 S2 => ?_
  walk_at "go"
  refine r_callF 9 C' S2 (by decide) rfl ?_
  walk_at "go"
  refine r_callB C' S2 (by decide) rfl ?_
  walk_at "go"
  refine r_len S2 (U.again _) (by simp; lia) fun tl _ => ?_
  walk_at "go"
  rw [show ((ds ++ [d]).length : Int) - 1 = (ds.length : Int) by simp]
  refine ⟨S2.fr.keep, c_siftdown (sp := 0) C' S2 (U.again _) (by simp) (by simp; lia) fun h3 tk3 S3 => ?_⟩
  walk_at "go"
  exact Back.intro S3 (ret _ _)

set_option maxHeartbeats 2000000 in
theorem c_heapreplace {q : Nat} {v : Value} {d : D} {Q : Value → Shared → Prop} (C : Cx X1 mg mb A h₀ L (q + 3)) (S : St h₀ L h m ls ob nw) (U : At a k ds ls g) (hv : RelIn nw k v d) (h0 : 0 < ds.length) (hz : ds.length < 1000)
    (ret : ∀ h' tk v', RelIn nw k v' (ds.getD 0 []) → St h₀ L h' m (g (hrepl llt ds d)) ob nw → Q v' (mk s h' tk)) :
    wpAny (model prog w) A (call (.ref (fa X1.P mg 3)) [.ref a, v]) Q E (mk s h tk) := by
  refine call_fn (i := 3) C S (by decide) (fun _ _ _ => rfl) (locs rfl) fun g₁ L' h₁ tk code C' S' => ?_
  generalize hm : (fun y => (bindsOf X1 3 [.ref a, v]).reverse.lookup y) = m₁ at S'
  have e1 : m₁ (Str.ofString "heap") = some (.ref a) := by rw [← hm]; rfl
  have e2 : m₁ (Str.ofString "item") = some v := by rw [← hm]; rfl
  clear hm
  obtain ⟨x, hx⟩ : ∃ x, ds[0]? = some x := ⟨_, List.getElem?_eq_getElem h0⟩
  have hx' : ds.getD 0 [] = x := by simp [List.getD, hx]
  refine wpAny_execs_cons ?_
  walk_at "go"
  refine r_sub S' U (n := 0) rfl hx hz fun v0 hv0 => ?_
  walk_at "go"
  refine r_set (by with_reducible assumption) U (n := 0) rfl h0 hz hv fun h2 S2 => ?_
  walk_at "go"
  refine r_callF 10 C' S2 (by decide) rfl ?_
  walk_at "go"
  refine ⟨S2.fr.keep, c_siftup (p := 0) C' S2 (U.again _) (by simpa using h0) (by simpa using hz) fun h3 tk3 S3 => ?_⟩
  walk_at "go"
  exact Back.intro S3 (ret _ _ _ (hx' ▸ hv0))

set_option maxHeartbeats 2000000 in
theorem c_heappop {q : Nat} {Q : Value → Shared → Prop} (C : Cx X1 mg mb A h₀ L (q + 3)) (S : St h₀ L h m ls ob nw) (U : At a k ds ls g) (h0 : 0 < ds.length) (hz : ds.length < 1000)
    (ret : ∀ h' tk v', RelIn nw k v' (ds.getD 0 []) → St h₀ L h' m (g (hpop llt ds)) ob nw → Q v' (mk s h' tk)) :
    wpAny (model prog w) A (call (.ref (fa X1.P mg 2)) [.ref a]) Q E (mk s h tk) := by
  refine call_fn (i := 2) C S (by decide) (fun _ _ _ => rfl) (locs rfl) fun g₁ L' h₁ tk code C' S' => ?_
  generalize hm : (fun y => (bindsOf X1 2 [.ref a]).reverse.lookup y) = m₁ at S'
  have e1 : m₁ (Str.ofString "heap") = some (.ref a) := by rw [← hm]; rfl
  clear hm
  have hne : ds ≠ [] := by intro e; rw [e] at h0; simp at h0
  obtain ⟨ds', l, he⟩ : ∃ ds' l, ds = ds' ++ [l] := ⟨ds.dropLast, ds.getLast hne, (List.dropLast_concat_getLast hne).symm⟩
  have hld : ds.length = ds'.length + 1 := by rw [he]; simp
  refine wpAny_execs_cons ?_
  walk_at "gs"
  refine r_pop S' U he hz fun h2 vl hvl S2 => ?_
  walk_at "gs"
  refine wpAny_If ?_
  walk_at "gs"
  refine r_truthy (by with_reducible assumption) (U.again _) (by lia) fun tk3 => ?_
  by_cases hl : 0 < ds'.length
  · rw [if_pos (decide_eq_true hl)]
    obtain ⟨x, hx⟩ : ∃ x, ds'[0]? = some x := ⟨_, List.getElem?_eq_getElem hl⟩
    have hx' : ds.getD 0 [] = x := by rw [List.getD_eq_getElem?_getD, he, List.getElem?_append_left hl, hx]; rfl
    walk_at "gs"
    refine r_sub (by with_reducible assumption) (U.again _) (n := 0) rfl hx (by lia) fun v0 hv0 => ?_
    walk_at "gs"
    refine r_set (by with_reducible assumption) (U.again _) (n := 0) rfl hl (by lia) hvl fun h4 S4 => ?_
    walk_at "gs"
    refine r_callF 10 C' S4 (by decide) rfl ?_
    walk_at "gs"
    refine ⟨S4.fr.keep, c_siftup (p := 0) C' S4 (U.again _) (by simpa using hl) (by simp; lia) fun h5 tk5 S5 => ?_⟩
    walk_at "gs"
    refine Back.intro S5 fun S6 => ret _ _ _ (hx' ▸ hv0) ?_
    rw [hpop, if_neg (by lia), hrepl, he]
    simpa using S6
  · rw [if_neg (by simpa using hl)]
    have hd' : ds' = [] := by cases ds' with | nil => rfl | cons _ _ => simp at hl
    subst hd'
    walk_at "gs"
    refine Back.intro (by with_reducible assumption) fun S6 => ret _ _ _ ?_ ?_
    · show RelIn nw k vl _; rw [he]; exact hvl
    · rw [hpop, if_pos (by lia)]; exact S6

set_option maxHeartbeats 2000000 in
theorem c_heappushpop {q : Nat} {v : Value} {d : D} {Q : Value → Shared → Prop} (C : Cx X1 mg mb A h₀ L (q + 3)) (S : St h₀ L h m ls ob nw) (U : At a k ds ls g) (hv : RelIn nw k v d) (hz : ds.length < 1000)
    (ret : 0 < ds.length ∧ llt (ds.getD 0 []) d = true → ∀ h' tk v', RelIn nw k v' (ds.getD 0 []) → St h₀ L h' m (g (hrepl llt ds d)) ob nw → Q v' (mk s h' tk))
    (ret2 : ¬ (0 < ds.length ∧ llt (ds.getD 0 []) d = true) → ∀ h' tk, St h₀ L h' m ls ob nw → Q v (mk s h' tk)) :
    wpAny (model prog w) A (call (.ref (fa X1.P mg 4)) [.ref a, v]) Q E (mk s h tk) := by
  refine call_fn (i := 4) C S (by decide) (fun _ _ _ => rfl) (locs rfl) fun g₁ L' h₁ tk code C' S' => ?_
  generalize hm : (fun y => (bindsOf X1 4 [.ref a, v]).reverse.lookup y) = m₁ at S'
  have e1 : m₁ (Str.ofString "heap") = some (.ref a) := by rw [← hm]; rfl
  have e2 : m₁ (Str.ofString "item") = some v := by rw [← hm]; rfl
  clear hm
  refine wpAny_execs_cons ?_
  walk_at "if1"
  walk_at "gs"
  refine r_truthy S' U hz fun tk2 => ?_
  by_cases h0 : 0 < ds.length
  · obtain ⟨x, hx⟩ : ∃ x, ds[0]? = some x := ⟨_, List.getElem?_eq_getElem h0⟩
    have hx' : ds.getD 0 [] = x := by simp [List.getD, hx]
    rw [if_pos (decide_eq_true h0)]
    walk_at "gs"
    refine r_sub (by with_reducible assumption) U (n := 0) rfl hx hz fun v0 hv0 => ?_
    walk_at "gs"
    refine r_lt (by with_reducible assumption) C'.u2 hv0 hv ?_
    walk_at "gs"
    by_cases hlt : llt x d = true
    · rw [if_pos hlt]
      walk_at "gs"
      simp only [if_true]
      walk_at "gs"
      refine Assign_Tuple ?_
      walk_at "gs"
      refine r_sub (by with_reducible assumption) U (n := 0) rfl hx hz fun v1 hv1 => ?_
      walk_at "gs"
      refine r_tupO (by with_reducible assumption) fun t h3 S3 => ?_
      refine r_unpack S3 C'.handled (S3.getO .head) rfl rfl fun h4 S4 => ?_
      refine assignInOrder_cons (wpAny_assign_Name ?_)
      walk_at "gs"
      refine assignInOrder_cons (a_sub ?_)
      walk_at "gs"
      refine r_set (by with_reducible assumption) U (n := 0) rfl h0 hz hv fun h5 S5 => ?_
      refine assignInOrder_nil ?_
      walk_at "gs"
      refine r_callF 10 C' S5 (by decide) rfl ?_
      walk_at "gs"
      refine ⟨S5.fr.keep, c_siftup (p := 0) C' S5 (U.again _) (by simpa using h0) (by simpa using hz) fun h6 tk6 S6 => ?_⟩
      walk_at "gs"
      refine Back.intro S6.dropO fun S7 => ?_
      exact ret ⟨h0, hx' ▸ hlt⟩ _ _ _ (hx' ▸ hv1) S7
    · rw [if_neg hlt]
      simp only [Bool.false_eq_true, if_false]
      walk_at "gs"
      refine Back.intro (by with_reducible assumption) fun S7 => ?_
      exact ret2 (fun q => hlt (hx' ▸ q.2)) _ _ S7
  · rw [if_neg (by simpa using h0)]
    simp only [Bool.false_eq_true, if_false]
    walk_at "gs"
    refine Back.intro (by with_reducible assumption) fun S7 => ?_
    exact ret2 (fun q => h0 q.1) _ _ S7
set_option maxHeartbeats 2000000 in
theorem c_heapreplace_max {q : Nat} {v : Value} {d : D} {Q : Value → Shared → Prop} (C : Cx X1 mg mb A h₀ L (q + 3)) (S : St h₀ L h m ls ob nw) (U : At a k ds ls g) (hv : RelIn nw k v d) (h0 : 0 < ds.length) (hz : ds.length < 1000)
    (ret : ∀ h' tk v', RelIn nw k v' (ds.getD 0 []) → St h₀ L h' m (g (hrepl gtl ds d)) ob nw → Q v' (mk s h' tk)) :
    wpAny (model prog w) A (call (.ref (fa X1.P mg 7)) [.ref a, v]) Q E (mk s h tk) := by
  refine call_fn (i := 7) C S (by decide) (fun _ _ _ => rfl) (locs rfl) fun g₁ L' h₁ tk code C' S' => ?_
  generalize hm : (fun y => (bindsOf X1 7 [.ref a, v]).reverse.lookup y) = m₁ at S'
  have e1 : m₁ (Str.ofString "heap") = some (.ref a) := by rw [← hm]; rfl
  have e2 : m₁ (Str.ofString "item") = some v := by rw [← hm]; rfl
  clear hm
  obtain ⟨x, hx⟩ : ∃ x, ds[0]? = some x := ⟨_, List.getElem?_eq_getElem h0⟩
  have hx' : ds.getD 0 [] = x := by simp [List.getD, hx]
  refine wpAny_execs_cons ?_
  walk_at "go"
  refine r_sub S' U (n := 0) rfl hx hz fun v0 hv0 => ?_
  walk_at "go"
  refine r_set (by with_reducible assumption) U (n := 0) rfl h0 hz hv fun h2 S2 => ?_
  walk_at "go"
  refine r_callF 12 C' S2 (by decide) rfl ?_
  walk_at "go"
  refine ⟨S2.fr.keep, c_siftup_max (p := 0) C' S2 (U.again _) (by simpa using h0) (by simpa using hz) fun h3 tk3 S3 => ?_⟩
  walk_at "go"
  exact Back.intro S3 (ret _ _ _ (hx' ▸ hv0))

set_option maxHeartbeats 2000000 in
theorem c_heappop_max {q : Nat} {Q : Value → Shared → Prop} (C : Cx X1 mg mb A h₀ L (q + 3)) (S : St h₀ L h m ls ob nw) (U : At a k ds ls g) (h0 : 0 < ds.length) (hz : ds.length < 1000)
    (ret : ∀ h' tk v', RelIn nw k v' (ds.getD 0 []) → St h₀ L h' m (g (hpop gtl ds)) ob nw → Q v' (mk s h' tk)) :
    wpAny (model prog w) A (call (.ref (fa X1.P mg 6)) [.ref a]) Q E (mk s h tk) := by
  refine call_fn (i := 6) C S (by decide) (fun _ _ _ => rfl) (locs rfl) fun g₁ L' h₁ tk code C' S' => ?_
  generalize hm : (fun y => (bindsOf X1 6 [.ref a]).reverse.lookup y) = m₁ at S'
  have e1 : m₁ (Str.ofString "heap") = some (.ref a) := by rw [← hm]; rfl
  clear hm
  have hne : ds ≠ [] := by intro e; rw [e] at h0; simp at h0
  obtain ⟨ds', l, he⟩ : ∃ ds' l, ds = ds' ++ [l] := ⟨ds.dropLast, ds.getLast hne, (List.dropLast_concat_getLast hne).symm⟩
  have hld : ds.length = ds'.length + 1 := by rw [he]; simp
  refine wpAny_execs_cons ?_
  walk_at "gs"
  refine r_pop S' U he hz fun h2 vl hvl S2 => ?_
  walk_at "gs"
  refine wpAny_If ?_
  walk_at "gs"
  refine r_truthy (by with_reducible assumption) (U.again _) (by lia) fun tk3 => ?_
  by_cases hl : 0 < ds'.length
  · rw [if_pos (decide_eq_true hl)]
    obtain ⟨x, hx⟩ : ∃ x, ds'[0]? = some x := ⟨_, List.getElem?_eq_getElem hl⟩
    have hx' : ds.getD 0 [] = x := by rw [List.getD_eq_getElem?_getD, he, List.getElem?_append_left hl, hx]; rfl
    walk_at "gs"
    refine r_sub (by with_reducible assumption) (U.again _) (n := 0) rfl hx (by lia) fun v0 hv0 => ?_
    walk_at "gs"
    refine r_set (by with_reducible assumption) (U.again _) (n := 0) rfl hl (by lia) hvl fun h4 S4 => ?_
    walk_at "gs"
    refine r_callF 12 C' S4 (by decide) rfl ?_
    walk_at "gs"
    refine ⟨S4.fr.keep, c_siftup_max (p := 0) C' S4 (U.again _) (by simpa using hl) (by simp; lia) fun h5 tk5 S5 => ?_⟩
    walk_at "gs"
    refine Back.intro S5 fun S6 => ret _ _ _ (hx' ▸ hv0) ?_
    rw [hpop, if_neg (by lia), hrepl, he]
    simpa using S6
  · rw [if_neg (by simpa using hl)]
    have hd' : ds' = [] := by cases ds' with | nil => rfl | cons _ _ => simp at hl
    subst hd'
    walk_at "gs"
    refine Back.intro (by with_reducible assumption) fun S6 => ret _ _ _ ?_ ?_
    · show RelIn nw k vl _; rw [he]; exact hvl
    · rw [hpop, if_pos (by lia)]; exact S6
end

section
set_option autoImplicit false

structure Tot (lt : D → D → Bool) : Prop where
  irr : ∀ a, lt a a = false
  tr : ∀ a b c, lt a b = true → lt b c = true → lt a c = true
  tri : ∀ a b, lt a b = false → lt b a = false → a = b
theorem Tot.asym {lt : D → D → Bool} (T : Tot lt) {a b : D} (h : lt a b = true) : lt b a = false := by
  cases h' : lt b a with
  | false => rfl
  | true => have := T.tr a b a h h'; rw [T.irr] at this; cases this
/-- a ≤ b ≤ c -/
theorem Tot.le_tr {lt : D → D → Bool} (T : Tot lt) {a b c : D} (h1 : lt b a = false) (h2 : lt c b = false) : lt c a = false := by
  cases h : lt c a with
  | false => rfl
  | true =>
    cases h' : lt a b with
    | true => have := T.tr c a b h h'; rw [h2] at this; cases this
    | false => have := T.tri a b h' h1; subst this; rw [h2] at h; cases h

theorem llt_tot : Tot llt := by
  refine ⟨?_, ?_, ?_⟩
  · intro a; induction a with
    | nil => rfl
    | cons x a ih => simp [llt, ih]
  · intro a
    induction a with
    | nil =>
      intro b c h1 h2
      cases c with
      | cons _ _ => rfl
      | nil => cases b <;> simp [llt] at h1 h2
    | cons x a ih =>
      intro b c h1 h2
      cases b with
      | nil => simp [llt] at h1
      | cons y b =>
        cases c with
        | nil => simp [llt] at h2
        | cons z c =>
          simp only [llt] at h1 h2 ⊢
          by_cases e1 : x = y
          · subst e1
            rw [if_pos rfl] at h1
            by_cases e2 : x = z
            · subst e2; rw [if_pos rfl] at h2 ⊢; exact ih b c h1 h2
            · rw [if_neg e2] at h2 ⊢; exact h2
          · rw [if_neg e1] at h1
            by_cases e2 : y = z
            · subst e2; rw [if_neg e1]; exact h1
            · rw [if_neg e2] at h2
              simp only [decide_eq_true_eq] at h1 h2
              rw [if_neg (by lia)]; simp; lia
  · intro a
    induction a with
    | nil => intro b h1 h2; cases b with | nil => rfl | cons _ _ => simp [llt] at h1
    | cons x a ih =>
      intro b h1 h2
      cases b with
      | nil => simp [llt] at h2
      | cons y b =>
        simp only [llt] at h1 h2
        by_cases e : x = y
        · subst e; simp at h1 h2; rw [ih b h1 h2]
        · rw [if_neg e] at h1; rw [if_neg (fun q => e q.symm)] at h2; simp at h1 h2; lia
theorem gtl_tot : Tot gtl := ⟨llt_tot.irr, fun _ _ _ h1 h2 => llt_tot.tr _ _ _ h2 h1, fun _ _ h1 h2 => llt_tot.tri _ _ h2 h1⟩

theorem getD_set {ds : List D} {p i : Nat} {x : D} (hp : p < ds.length) : (ds.set p x).getD i [] = if i = p then x else ds.getD i [] := by
  simp only [List.getD_eq_getElem?_getD, List.getElem?_set]
  by_cases e : i = p
  · subst e; simp [hp]
  · rw [if_neg (fun q => e q.symm), if_neg e]

theorem set_perm {l : List D} {i : Nat} {x : D} (hi : i < l.length) : (l.set i x).Perm (x :: l.eraseIdx i) := by
  induction l generalizing i with
  | nil => simp at hi
  | cons a l ih =>
    cases i with
    | zero => exact .refl _
    | succ i =>
      simp only [List.set_cons_succ, List.eraseIdx_cons_succ]
      exact (List.Perm.cons a (ih (by simpa using hi))).trans (List.Perm.swap x a _)
theorem self_perm {l : List D} {i : Nat} (hi : i < l.length) : l.Perm (l.getD i [] :: l.eraseIdx i) := by
  have := set_perm (x := l.getD i []) hi
  rwa [show l.set i (l.getD i []) = l by rw [List.getD_eq_getElem?_getD, List.getElem?_eq_getElem hi]; simp] at this

theorem hole_perm {l : List D} {i j : Nat} {x : D} (hi : i < l.length) (hj : j < l.length) (hij : i ≠ j) : ((l.set i (l.getD j [])).set j x).Perm (l.set i x) := by
  have e1 := set_perm (x := x) (l := l.set i (l.getD j [])) (i := j) (by simpa using hj)
  have e2 := self_perm (l := l.set i (l.getD j [])) (i := j) (by simpa using hj)
  rw [getD_set hi, if_neg (Ne.symm hij)] at e2
  have e3 := e2.symm.trans (set_perm (x := l.getD j []) hi)
  exact e1.trans ((e3.cons_inv.cons x).trans (set_perm hi).symm)

theorem sdLoop_perm {lt : D → D → Bool} {x : D} {sp : Nat} : ∀ (pos : Nat) (ds : List D), pos < ds.length → (sdLoop lt x sp pos ds).Perm (ds.set pos x) := by
  intro pos
  induction pos using Nat.strongRecOn with
  | ind pos ih =>
    intro ds hp
    rw [sdLoop]
    split
    · split
      · exact (ih _ (by lia) _ (by simp; lia)).trans (hole_perm hp (by lia) (by lia))
      · exact .refl _
    · exact .refl _
theorem siftdown_perm {lt : D → D → Bool} {ds : List D} {sp p : Nat} (hp : p < ds.length) : (siftdown lt ds sp p).Perm ds := by
  refine (sdLoop_perm p ds hp).trans ?_
  rw [List.getD_eq_getElem?_getD, List.getElem?_eq_getElem hp]; simp
theorem suLoop_perm {lt : D → D → Bool} {x : D} : ∀ (n pos : Nat) (ds : List D), n = ds.length - pos → pos < ds.length → ((suLoop lt pos ds).1.set (suLoop lt pos ds).2 x).Perm (ds.set pos x) := by
  intro n
  induction n using Nat.strongRecOn with
  | ind n ih =>
    intro pos ds hn hp
    rw [suLoop]
    split
    · rename_i hlt
      have hk : kid lt ds (2 * pos + 1) < ds.length ∧ pos < kid lt ds (2 * pos + 1) := by unfold kid; split <;> lia
      exact (ih (ds.length - kid lt ds (2 * pos + 1)) (by lia) _ _ (by simp) (by simpa using hk.1)).trans (hole_perm hp hk.1 (by lia))
    · exact .refl _
theorem siftup_perm {lt : D → D → Bool} {ds : List D} {p : Nat} (hp : p < ds.length) : (siftup lt ds p).Perm ds := by
  rw [siftup]
  have h1 := suLoop_len (lt := lt) _ p ds rfl
  refine (siftdown_perm (by simp [h1.1]; exact h1.2 hp)).trans ((suLoop_perm (lt := lt) (x := ds.getD p []) _ p ds rfl hp).trans ?_)
  rw [List.getD_eq_getElem?_getD, List.getElem?_eq_getElem hp]; simp
theorem hpLoop_perm {lt : D → D → Bool} : ∀ (k : Nat) (ds : List D), k ≤ ds.length → (hpLoop lt k ds).Perm ds
  | 0, ds, _ => .refl _
  | k + 1, ds, h => (hpLoop_perm k _ (by rw [siftup_len]; lia)).trans (siftup_perm (by lia))
theorem heapify_perm {lt : D → D → Bool} {ds : List D} : (heapify lt ds).Perm ds := hpLoop_perm _ _ (by lia)

/-- parents from lo on are not above their children -/
def Hp (lt : D → D → Bool) (lo : Nat) (ds : List D) : Prop := ∀ j i, lo ≤ j → (i = 2 * j + 1 ∨ i = 2 * j + 2) → i < ds.length → lt (ds.getD i []) (ds.getD j []) = false
/-- the same but for the hole q -/
def Ho (lt : D → D → Bool) (lo : Nat) (ds : List D) (q : Nat) : Prop :=
  (∀ j i, lo ≤ j → (i = 2 * j + 1 ∨ i = 2 * j + 2) → i < ds.length → j ≠ q → i ≠ q → lt (ds.getD i []) (ds.getD j []) = false) ∧
  ∀ r i, lo ≤ r → (q = 2 * r + 1 ∨ q = 2 * r + 2) → (i = 2 * q + 1 ∨ i = 2 * q + 2) → i < ds.length → lt (ds.getD i []) (ds.getD r []) = false
inductive Sub (p : Nat) : Nat → Prop
  | refl : Sub p p
  | l {q : Nat} : Sub p q → Sub p (2 * q + 1)
  | r {q : Nat} : Sub p q → Sub p (2 * q + 2)
theorem Sub.le {p q : Nat} (h : Sub p q) : p ≤ q := by induction h <;> lia
theorem Sub.up {p q : Nat} (h : Sub p q) (hq : q > p) : Sub p ((q - 1) / 2) := by
  cases h with
  | refl => lia
  | @l r h => rw [show (2 * r + 1 - 1) / 2 = r by lia]; exact h
  | @r r h => rw [show (2 * r + 2 - 1) / 2 = r by lia]; exact h

theorem sdLoop_hp {lt : D → D → Bool} (T : Tot lt) {x : D} {sp : Nat} : ∀ (pos : Nat) (ds : List D), pos < ds.length → Sub sp pos → Ho lt sp ds pos → (∀ i, (i = 2 * pos + 1 ∨ i = 2 * pos + 2) → i < ds.length → lt (ds.getD i []) x = false) →
    Hp lt sp (sdLoop lt x sp pos ds) := by
  intro pos
  induction pos using Nat.strongRecOn with
  | ind pos ih =>
    intro ds hp hsub ⟨h1, h2⟩ h3
    -- x laid at pos
    have place : (∀ r, sp ≤ r → (pos = 2 * r + 1 ∨ pos = 2 * r + 2) → lt x (ds.getD r []) = false) → Hp lt sp (ds.set pos x) := by
      intro h4 j i hj hi hl
      rw [List.length_set] at hl
      rw [getD_set hp, getD_set hp]
      by_cases e1 : i = pos
      · subst e1
        rw [if_pos rfl, if_neg (by lia)]
        exact h4 j hj hi
      · rw [if_neg e1]
        by_cases e2 : j = pos
        · subst e2; rw [if_pos rfl]; exact h3 i hi hl
        · rw [if_neg e2]; exact h1 j i hj hi hl e2 e1
    rw [sdLoop]
    split
    · rename_i hgt
      have hup := hsub.up hgt
      have hle := hup.le
      split
      · rename_i hlt
        refine ih _ (by lia) _ (by simp; lia) hup ⟨?_, ?_⟩ ?_
        · intro j i hj hi hl e1 e2
          rw [List.length_set] at hl
          rw [getD_set hp, getD_set hp]
          by_cases e3 : j = pos
          · subst e3
            rw [if_pos rfl, if_neg (by lia)]
            exact h2 _ i hle (by lia) hi hl
          · rw [if_neg e3]
            by_cases e4 : i = pos
            · subst e4; lia
            · rw [if_neg e4]; exact h1 j i hj hi hl e3 e4
        · intro r i hr hq hi hl
          rw [List.length_set] at hl
          rw [getD_set hp, getD_set hp, if_neg (show r ≠ pos by lia)]
          have hpr : lt (ds.getD ((pos - 1) / 2) []) (ds.getD r []) = false := h1 r _ hr hq (by lia) (by lia) (by lia)
          by_cases e3 : i = pos
          · rw [if_pos e3]; exact hpr
          · rw [if_neg e3]
            exact T.le_tr hpr (h1 _ i hle hi hl (by lia) e3)
        · intro i hi hl
          rw [List.length_set] at hl
          rw [getD_set hp]
          by_cases e3 : i = pos
          · rw [if_pos e3]; exact T.asym hlt
          · rw [if_neg e3]
            exact T.le_tr (T.asym hlt) (h1 _ i hle hi hl (by lia) e3)
      · rename_i hlt
        refine place fun r hr hq => ?_
        rw [show r = (pos - 1) / 2 by lia]
        simpa using hlt
    · rename_i hgt
      exact place fun r hr hq => by lia

theorem suLoop_hp {lt : D → D → Bool} (T : Tot lt) {p : Nat} : ∀ (n pos : Nat) (ds : List D), n = ds.length - pos → pos < ds.length → Sub p pos → Ho lt p ds pos →
    Ho lt p (suLoop lt pos ds).1 (suLoop lt pos ds).2 ∧ Sub p (suLoop lt pos ds).2 ∧ ds.length ≤ 2 * (suLoop lt pos ds).2 + 1 := by
  intro n
  induction n using Nat.strongRecOn with
  | ind n ih =>
    intro pos ds hn hp hsub ⟨h1, h2⟩
    rw [suLoop]
    split
    · rename_i hlt
      have hk : kid lt ds (2 * pos + 1) < ds.length ∧ pos < kid lt ds (2 * pos + 1) ∧ (kid lt ds (2 * pos + 1) = 2 * pos + 1 ∨ kid lt ds (2 * pos + 1) = 2 * pos + 2) := by unfold kid; split <;> lia
      have hother : ∀ i, (i = 2 * pos + 1 ∨ i = 2 * pos + 2) → i < ds.length → i ≠ kid lt ds (2 * pos + 1) → lt (ds.getD i []) (ds.getD (kid lt ds (2 * pos + 1)) []) = false := by
        intro i hi hl
        unfold kid
        split
        · rename_i hc
          intro hne
          have : i = 2 * pos + 1 := by lia
          subst this; exact hc.2
        · rename_i hc
          intro hne
          have : i = 2 * pos + 1 + 1 := by lia
          subst this
          cases hh : lt (ds.getD (2 * pos + 1) []) (ds.getD (2 * pos + 1 + 1) []) with
          | true => exact T.asym hh
          | false => exact absurd ⟨hl, hh⟩ hc
      have hle := hsub.le
      have := ih (ds.length - kid lt ds (2 * pos + 1)) (by lia) (kid lt ds (2 * pos + 1)) (ds.set pos (ds.getD (kid lt ds (2 * pos + 1)) [])) (by simp) (by simpa using hk.1)
        (by rcases hk.2.2 with e | e <;> rw [e]; exact .l hsub; exact .r hsub) ⟨?_, ?_⟩
      · simpa using this
      · generalize kid lt ds (2 * pos + 1) = c at hk hother ⊢
        intro j i hj hi hl e1 e2
        rw [List.length_set] at hl
        rw [getD_set hp, getD_set hp]
        by_cases e3 : j = pos
        · subst e3
          rw [if_pos rfl, if_neg (by lia)]
          exact hother i hi hl e2
        · rw [if_neg e3]
          by_cases e4 : i = pos
          · subst e4; rw [if_pos rfl]; exact h2 j c hj hi hk.2.2 hk.1
          · rw [if_neg e4]; exact h1 j i hj hi hl e3 e4
      · generalize kid lt ds (2 * pos + 1) = c at hk hother ⊢
        intro r i hr hq hi hl
        rw [List.length_set] at hl
        have : r = pos := by lia
        subst this
        rw [getD_set hp, getD_set hp, if_pos rfl, if_neg (by lia)]
        exact h1 c i (by lia) hi hl (by lia) (by lia)
    · exact ⟨⟨h1, h2⟩, hsub, by simp; lia⟩

theorem siftup_hp {lt : D → D → Bool} (T : Tot lt) {ds : List D} {p : Nat} (hp : p < ds.length) (h : Hp lt (p + 1) ds) : Hp lt p (siftup lt ds p) := by
  have h1 := suLoop_len (lt := lt) _ p ds rfl
  obtain ⟨⟨a1, a2⟩, a3, a4⟩ := suLoop_hp T (p := p) _ p ds rfl hp .refl ⟨fun j i hj hi hl e1 e2 => h j i (by lia) hi hl, fun r i hr hq => by lia⟩
  rw [siftup, siftdown]
  have h2 := h1.2 hp
  refine sdLoop_hp T _ _ (by simp [h1.1]; exact h2) a3 ⟨?_, ?_⟩ ?_
  · intro j i hj hi hl e1 e2
    rw [getD_set (by rw [h1.1]; exact h2), getD_set (by rw [h1.1]; exact h2), if_neg e1, if_neg e2]
    exact a1 j i hj hi (by simpa using hl) e1 e2
  · intro r i hr hq hi hl
    rw [List.length_set, h1.1] at hl
    lia
  · intro i hi hl
    rw [List.length_set, h1.1] at hl
    lia

theorem hpLoop_hp {lt : D → D → Bool} (T : Tot lt) : ∀ (k : Nat) (ds : List D), k ≤ ds.length / 2 → Hp lt k ds → Hp lt 0 (hpLoop lt k ds)
  | 0, ds, _, h => h
  | k + 1, ds, hk, h => hpLoop_hp T k _ (by rw [siftup_len]; lia) (siftup_hp T (by lia) h)
theorem heapify_hp {lt : D → D → Bool} (T : Tot lt) {ds : List D} : Hp lt 0 (heapify lt ds) := hpLoop_hp T _ _ (Nat.le_refl _) fun j i hj hi hl => by lia

theorem hpush_hp {lt : D → D → Bool} (T : Tot lt) {ds : List D} {d : D} (h : Hp lt 0 ds) : Hp lt 0 (hpush lt ds d) := by
  have ga : ∀ i, i < ds.length → (ds ++ [d]).getD i [] = ds.getD i [] := fun i hi => by simp [List.getD_eq_getElem?_getD, List.getElem?_append_left hi]
  have hsub : ∀ q, Sub 0 q := by
    intro q
    induction q using Nat.strongRecOn with
    | ind q ih =>
      by_cases e : q = 0
      · subst e; exact .refl
      · rcases Nat.mod_two_eq_zero_or_one q with h | h
        · rw [show q = 2 * ((q - 2) / 2) + 2 by lia]; exact .r (ih _ (by lia))
        · rw [show q = 2 * ((q - 1) / 2) + 1 by lia]; exact .l (ih _ (by lia))
  refine sdLoop_hp T _ _ (by simp) (hsub _) ⟨?_, ?_⟩ ?_
  · intro j i hj hi hl e1 e2
    simp at hl
    rw [ga i (by lia), ga j (by lia)]
    exact h j i hj hi (by lia)
  · intro r i hr hq hi hl; simp at hl; lia
  · intro i hi hl; simp at hl; lia
theorem hpush_perm {lt : D → D → Bool} {ds : List D} {d : D} : (hpush lt ds d).Perm (d :: ds) :=
  (siftdown_perm (by simp)).trans (List.perm_append_singleton d ds)
theorem hrepl_hp {lt : D → D → Bool} (T : Tot lt) {ds : List D} {d : D} (h0 : 0 < ds.length) (h : Hp lt 0 ds) : Hp lt 0 (hrepl lt ds d) := by
  refine siftup_hp T (by simpa using h0) ?_
  intro j i hj hi hl
  rw [List.length_set] at hl
  rw [getD_set h0, getD_set h0, if_neg (by lia), if_neg (by lia)]
  exact h j i (by lia) hi hl
theorem hrepl_perm {lt : D → D → Bool} {ds : List D} {d : D} (h0 : 0 < ds.length) : (ds.getD 0 [] :: hrepl lt ds d).Perm (d :: ds) := by
  have h1 : (hrepl lt ds d).Perm (ds.set 0 d) := siftup_perm (by simpa using h0)
  cases ds with
  | nil => simp at h0
  | cons a l => exact (h1.cons _).trans (List.Perm.swap d a l)
theorem hrepl_len {lt : D → D → Bool} {ds : List D} {d : D} : (hrepl lt ds d).length = ds.length := by rw [hrepl, siftup_len]; simp
theorem hpush_len {lt : D → D → Bool} {ds : List D} {d : D} : (hpush lt ds d).length = ds.length + 1 := by rw [hpush, siftdown_len]; simp
theorem dropLast_hp {lt : D → D → Bool} {ds : List D} (h : Hp lt 0 ds) : Hp lt 0 ds.dropLast := by
  intro j i hj hi hl
  rw [List.length_dropLast] at hl
  have g : ∀ i, i < ds.length - 1 → ds.dropLast.getD i [] = ds.getD i [] := fun i hi => by
    rw [List.getD_eq_getElem?_getD, List.getD_eq_getElem?_getD, List.getElem?_dropLast, if_pos hi]
  rw [g i hl, g j (by lia)]
  exact h j i hj hi (by lia)
theorem hpop_hp {lt : D → D → Bool} (T : Tot lt) {ds : List D} (h : Hp lt 0 ds) : Hp lt 0 (hpop lt ds) := by
  unfold hpop
  split
  · intro j i hj hi hl; simp at hl
  · exact hrepl_hp T (by simp; lia) (dropLast_hp h)
theorem hpop_perm {lt : D → D → Bool} {ds : List D} (h0 : 0 < ds.length) : (ds.getD 0 [] :: hpop lt ds).Perm ds := by
  unfold hpop
  split
  · rename_i hl
    match ds, h0, hl with
    | [a], _, _ => exact .refl _
  · rename_i hl
    have hne : ds ≠ [] := by intro e; rw [e] at h0; simp at h0
    have e : ds.dropLast.getD 0 [] = ds.getD 0 [] := by rw [List.getD_eq_getElem?_getD, List.getD_eq_getElem?_getD, List.getElem?_dropLast, if_pos (by lia)]
    have := hrepl_perm (lt := lt) (ds := ds.dropLast) (d := ds.getLastD []) (by simp; lia)
    rw [e] at this
    refine this.trans ?_
    have hd : ds.dropLast ++ [ds.getLastD []] = ds := by
      rw [List.getLastD_eq_getLast?, List.getLast?_eq_some_getLast hne]
      exact List.dropLast_concat_getLast hne
    exact (List.perm_append_singleton _ _).symm.trans (by rw [hd])
theorem hpop_len {lt : D → D → Bool} {ds : List D} (h0 : 0 < ds.length) : (hpop lt ds).length = ds.length - 1 := by
  have := (hpop_perm (lt := lt) h0).length_eq
  simp at this; lia
/-- the root is least -/
theorem root_least {lt : D → D → Bool} (T : Tot lt) {ds : List D} (h : Hp lt 0 ds) : ∀ i, i < ds.length → lt (ds.getD i []) (ds.getD 0 []) = false := by
  intro i
  induction i using Nat.strongRecOn with
  | ind i ih =>
    intro hi
    by_cases e : i = 0
    · subst e; exact T.irr _
    · exact T.le_tr (ih ((i - 1) / 2) (by lia) (by lia)) (h ((i - 1) / 2) i (by lia) (by lia) hi)
theorem root_least_mem {lt : D → D → Bool} (T : Tot lt) {ds : List D} (h : Hp lt 0 ds) {x : D} (hx : x ∈ ds) : lt x (ds.getD 0 []) = false := by
  obtain ⟨i, hi, rfl⟩ := List.mem_iff_getElem.mp hx
  have := root_least T h i hi
  rwa [List.getD_eq_getElem?_getD, List.getElem?_eq_getElem hi] at this
end

section
set_option autoImplicit false
set_option maxRecDepth 10000

variable {mg mb : Str → Option Value} {prog : Program} {w : World} {A : Around} {E : Value → Shared → Prop} {s : Shared} {h : Heap} {tk : Nat} {h₀ : Base} {L : Addr} {m : Str → Option Value} {ls : List Ent} {ob nw : Led} {a : Addr} {k : Kd} {ds : List D} {g : List D → List Ent}

set_option maxHeartbeats 2000000 in
theorem e_heappop {q : Nat} {Q : Value → Shared → Prop} (C : Cx X1 mg mb A h₀ L (q + 1)) (S : St h₀ L h m ls ob nw) (U : At a k [] ls g)
    (raised : ∀ h' tk e, Fly h₀ A L h' m ls ob nw e "IndexError" → E (.ref e) (mk s h' tk)) :
    wpAny (model prog w) A (call (.ref (fa X1.P mg 2)) [.ref a]) Q E (mk s h tk) := by
  refine call_fnE (i := 2) C S (by decide) (fun _ _ _ => rfl) (locs rfl) fun g₁ L' h₁ tk code C' S' => ?_
  generalize hm : (fun y => (bindsOf X1 2 [.ref a]).reverse.lookup y) = m₁ at S'
  have e1 : m₁ (Str.ofString "heap") = some (.ref a) := by rw [← hm]; rfl
  clear hm
  refine wpAny_execs_cons ?_
  walk_at "gs"
  exact e_pop C'.handled S' U fun h' tk e hx => ⟨e, _, _, _, _, _, _, _, _, rfl, rfl, hx, S', fun h3 F => raised h3 _ e F⟩

set_option maxHeartbeats 2000000 in
theorem e_heapreplace {q : Nat} {v : Value} {Q : Value → Shared → Prop} (C : Cx X1 mg mb A h₀ L (q + 1)) (S : St h₀ L h m ls ob nw) (U : At a k [] ls g)
    (raised : ∀ h' tk e, Fly h₀ A L h' m ls ob nw e "IndexError" → E (.ref e) (mk s h' tk)) :
    wpAny (model prog w) A (call (.ref (fa X1.P mg 3)) [.ref a, v]) Q E (mk s h tk) := by
  refine call_fnE (i := 3) C S (by decide) (fun _ _ _ => rfl) (locs rfl) fun g₁ L' h₁ tk code C' S' => ?_
  generalize hm : (fun y => (bindsOf X1 3 [.ref a, v]).reverse.lookup y) = m₁ at S'
  have e1 : m₁ (Str.ofString "heap") = some (.ref a) := by rw [← hm]; rfl
  clear hm
  refine wpAny_execs_cons ?_
  walk_at "gs"
  exact e_item0 C'.handled S' U fun h' tk e hx => ⟨e, _, _, _, _, _, _, _, _, rfl, rfl, hx, S', fun h3 F => raised h3 _ e F⟩
set_option maxHeartbeats 2000000 in
theorem e_heappop_max {q : Nat} {Q : Value → Shared → Prop} (C : Cx X1 mg mb A h₀ L (q + 1)) (S : St h₀ L h m ls ob nw) (U : At a k [] ls g)
    (raised : ∀ h' tk e, Fly h₀ A L h' m ls ob nw e "IndexError" → E (.ref e) (mk s h' tk)) :
    wpAny (model prog w) A (call (.ref (fa X1.P mg 6)) [.ref a]) Q E (mk s h tk) := by
  refine call_fnE (i := 6) C S (by decide) (fun _ _ _ => rfl) (locs rfl) fun g₁ L' h₁ tk code C' S' => ?_
  generalize hm : (fun y => (bindsOf X1 6 [.ref a]).reverse.lookup y) = m₁ at S'
  have e1 : m₁ (Str.ofString "heap") = some (.ref a) := by rw [← hm]; rfl
  clear hm
  refine wpAny_execs_cons ?_
  walk_at "gs"
  exact e_pop C'.handled S' U fun h' tk e hx => ⟨e, _, _, _, _, _, _, _, _, rfl, rfl, hx, S', fun h3 F => raised h3 _ e F⟩

set_option maxHeartbeats 2000000 in
theorem e_heapreplace_max {q : Nat} {v : Value} {Q : Value → Shared → Prop} (C : Cx X1 mg mb A h₀ L (q + 1)) (S : St h₀ L h m ls ob nw) (U : At a k [] ls g)
    (raised : ∀ h' tk e, Fly h₀ A L h' m ls ob nw e "IndexError" → E (.ref e) (mk s h' tk)) :
    wpAny (model prog w) A (call (.ref (fa X1.P mg 7)) [.ref a, v]) Q E (mk s h tk) := by
  refine call_fnE (i := 7) C S (by decide) (fun _ _ _ => rfl) (locs rfl) fun g₁ L' h₁ tk code C' S' => ?_
  generalize hm : (fun y => (bindsOf X1 7 [.ref a, v]).reverse.lookup y) = m₁ at S'
  have e1 : m₁ (Str.ofString "heap") = some (.ref a) := by rw [← hm]; rfl
  clear hm
  refine wpAny_execs_cons ?_
  walk_at "gs"
  exact e_item0 C'.handled S' U fun h' tk e hx => ⟨e, _, _, _, _, _, _, _, _, rfl, rfl, hx, S', fun h3 F => raised h3 _ e F⟩
end

section
set_option autoImplicit false
set_option maxRecDepth 10000

/-- the value of a pair -/
def pv (n : Int) : Int := if (n / 39) % 2 = 0 then n / 39 / 2 else (n / 39 / 2) % 4
def lay : List D → D → List D
  | [], d => [d]
  | x :: xs, d => if llt x d then x :: lay xs d else d :: x :: xs
theorem lay_at {d : D} : ∀ (at' : Nat) (ds : List D), at' ≤ ds.length → (∀ i, i < at' → llt (ds.getD i []) d = true) → (at' = ds.length ∨ llt (ds.getD at' []) d = false) → ds.take at' ++ d :: ds.drop at' = lay ds d
  | 0, [], _, _, _ => rfl
  | 0, x :: xs, _, _, h => by
    rcases h with h | h
    · simp at h
    · simp at h; simp [lay, h]
  | n + 1, [], h, _, _ => by simp at h
  | n + 1, x :: xs, h, h1, h2 => by
    have e := h1 0 (by lia)
    simp at e
    simp only [List.take_succ_cons, List.drop_succ_cons, List.cons_append, lay, e, if_true]
    rw [lay_at n xs (by simpa using h) (fun i hi => by have := h1 (i + 1) (by lia); simpa using this) (by simpa using h2)]
theorem lay_perm (ds : List D) (d : D) : (lay ds d).Perm (d :: ds) := by
  induction ds with
  | nil => exact .refl _
  | cons x xs ih =>
    simp only [lay]
    split
    · exact (ih.cons x).trans (List.Perm.swap d x xs)
    · exact .refl _
theorem lay_len (ds : List D) (d : D) : (lay ds d).length = ds.length + 1 := (lay_perm ds d).length_eq
/-- in rising order -/
def Srt (ds : List D) : Prop := ds.Pairwise fun a b => llt b a = false
theorem lay_srt {ds : List D} {d : D} (h : Srt ds) : Srt (lay ds d) := by
  unfold Srt at h ⊢
  induction ds with
  | nil => simp [lay]
  | cons x xs ih =>
    rw [List.pairwise_cons] at h
    simp only [lay]
    split
    · rename_i hx
      rw [List.pairwise_cons]
      refine ⟨fun y hy => ?_, ih h.2⟩
      rcases List.mem_cons.mp ((lay_perm xs d).mem_iff.mp hy) with rfl | hy
      · exact llt_tot.asym hx
      · exact h.1 y hy
    · rename_i hx
      rw [List.pairwise_cons, List.pairwise_cons]
      refine ⟨fun y hy => ?_, h⟩
      have hx' : llt x d = false := by simpa using hx
      rcases List.mem_cons.mp hy with rfl | hy
      · exact hx'
      · exact llt_tot.le_tr hx' (h.1 y hy)

variable {mg mb : Str → Option Value} {prog : Program} {w : World} {A : Around} {E : Value → Shared → Prop} {s : Shared} {h : Heap} {tk : Nat} {h₀ : Base} {L : Addr} {m : Str → Option Value} {ls : List Ent} {ob nw : Led} {a : Addr} {k : Kd} {ds : List D} {g : List D → List Ent}

set_option maxHeartbeats 2000000 in
theorem c_pair {q : Nat} {n pl : Int} {t1 t2 : Tok} {Q : Value → Shared → Prop} (C : Cx X1 mg mb A h₀ L (q + 1)) (S : St h₀ L h m ls ob nw)
    (ret : ∀ h' tk nw' v, (∀ p ∈ nw, p ∈ nw') → RelIn nw' .p v [pv n, pl] → St h₀ L h' m ls ob nw' → Q v (mk s h' tk)) :
    wpAny (model prog w) A (call (.ref (fa X1.P mg 16)) [.int n t1, .int pl t2]) Q E (mk s h tk) := by
  refine call_fn (i := 16) C S (by decide) (fun _ _ _ => rfl) (locs rfl) fun g₁ L' h₁ tk code C' S' => ?_
  generalize hm : (fun y => (bindsOf X1 16 [.int n t1, .int pl t2]).reverse.lookup y) = m₁ at S'
  have e1 : m₁ (Str.ofString "number") = some (.int n t1) := by rw [← hm]; rfl
  have e2 : m₁ (Str.ofString "place") = some (.int pl t2) := by rw [← hm]; rfl
  clear hm
  refine wpAny_execs_cons ?_
  walk_at "gs"
  refine i_fdiv (by decide) fun _ _ => ?_
  walk_at "gs"
  walk_at "if1"
  walk_at "gs"
  refine i_mod (by decide) fun _ _ => ?_
  walk_at "gs"
  by_cases hc : (n / 39) % 2 = 0
  · rw [if_pos (by simpa using hc)]
    walk_at "gs"
    walk_at "gs"
    refine i_fdiv (by decide) fun _ _ => ?_
    walk_at "gs"
    refine r_tupN (by with_reducible assumption) fun t h3 S3 => ?_
    refine Back.intro S3 fun S4 => ret _ _ _ _ (fun p hp => .tail _ hp) ⟨t, 0, _, _, _, _, rfl, .head _, ?_⟩ S4
    rw [pv, if_pos hc]
  · rw [if_neg (by simpa using hc)]
    walk_at "gs"
    walk_at "gs"
    refine i_fdiv (by decide) fun _ _ => ?_
    walk_at "gs"
    refine i_mod (by decide) fun _ _ => ?_
    walk_at "gs"
    refine r_tupN (by with_reducible assumption) fun t h3 S3 => ?_
    refine Back.intro S3 fun S4 => ret _ _ _ _ (fun p hp => .tail _ hp) ⟨t, 0, _, _, _, _, rfl, .head _, ?_⟩ S4
    rw [pv, if_neg hc]

set_option maxHeartbeats 2000000 in
theorem c_lay {q : Nat} {v : Value} {d : D} {Q : Value → Shared → Prop} (C : Cx X1 mg mb A h₀ L (q + 1)) (S : St h₀ L h m ls ob nw) (U : At a k ds ls g) (hv : RelIn nw k v d) (hz : ds.length < 999)
    (ret : ∀ h' tk, St h₀ L h' m (g (lay ds d)) ob nw → Q .none (mk s h' tk)) :
    wpAny (model prog w) A (call (.ref (fa X1.P mg 17)) [.ref a, v]) Q E (mk s h tk) := by
  refine call_fn (i := 17) C S (by decide) (fun _ _ _ => rfl) (locs rfl) fun g₁ L' h₁ tk code C' S' => ?_
  generalize hm : (fun y => (bindsOf X1 17 [.ref a, v]).reverse.lookup y) = m₁ at S'
  have e1 : m₁ (Str.ofString "row") = some (.ref a) := by rw [← hm]; rfl
  have e2 : m₁ (Str.ofString "pair") = some v := by rw [← hm]; rfl
  clear hm
  refine wpAny_execs_cons ?_
  walk_at "gs"
  refine r_while (fun n s' => ∃ h' tk' m' i t', s' = mk s h' tk' ∧ St g₁ L' h' m' ls ob nw ∧ m' (Str.ofString "row") = some (.ref a) ∧ m' (Str.ofString "pair") = some v ∧
      m' (Str.ofString "at") = some (.int (i : Nat) t') ∧ i ≤ ds.length ∧ n = ds.length - i ∧ ∀ j, j < i → llt (ds.getD j []) d = true)
    (fun s' => ∃ h' tk' m' i t', s' = mk s h' tk' ∧ St g₁ L' h' m' ls ob nw ∧ m' (Str.ofString "row") = some (.ref a) ∧ m' (Str.ofString "pair") = some v ∧
      m' (Str.ofString "at") = some (.int (i : Nat) t') ∧ i ≤ ds.length ∧ ds.take i ++ d :: ds.drop i = lay ds d) ds.length
    ⟨_, _, _, 0, _, rfl, by with_reducible assumption, by walk_at "lk", by walk_at "lk", by exact upd_eq, Nat.zero_le _, rfl, fun j hj => by lia⟩ ?_ ?_
  · rintro n s' ⟨h', tk', m', i, t', rfl, S3, f1, f2, f3, hi, hn, hs⟩
    walk_at "gs"
    refine r_callB C' S3 (by decide) rfl ?_
    walk_at "gs"
    refine r_len S3 U (by lia) fun tl _ => ?_
    walk_at "gs"
    by_cases hlt : i < ds.length
    · rw [if_pos (decide_eq_true (by lia))]
      obtain ⟨y, hy⟩ : ∃ y, ds[i]? = some y := ⟨_, List.getElem?_eq_getElem hlt⟩
      have hy' : ds.getD i [] = y := by simp [List.getD, hy]
      walk_at "gs"
      refine r_sub S3 U rfl hy (by lia) fun v1 hv1 => ?_
      walk_at "gs"
      refine r_lt S3 C'.u2 hv1 hv ?_
      walk_at "gs"
      by_cases hyd : llt y d = true
      · rw [if_pos hyd]
        walk_at "gs"
        simp only [if_true]
        walk_at "gs"
        refine i_iadd fun _ _ => ?_
        walk_at "gs"
        refine ⟨n - 1, by lia, _, _, _, i + 1, _, rfl, by with_reducible assumption, by walk_at "lk", by walk_at "lk", by exact upd_eq, by lia, by lia, fun j hj => ?_⟩
        by_cases e : j = i
        · subst e; rw [hy']; exact hyd
        · exact hs j (by lia)
      · rw [if_neg hyd]
        simp only [Bool.false_eq_true, if_false]
        exact ⟨_, _, _, i, _, rfl, by with_reducible assumption, by walk_at "lk", by walk_at "lk", by walk_at "lk", by lia, lay_at i ds hi hs (.inr (by rw [hy']; simpa using hyd))⟩
    · rw [if_neg (by simpa using hlt)]
      simp only [Bool.false_eq_true, if_false]
      exact ⟨_, _, _, i, _, rfl, by with_reducible assumption, by walk_at "lk", by walk_at "lk", by walk_at "lk", by lia, lay_at i ds hi hs (.inl (by lia))⟩
  · rintro s' ⟨h', tk', m', i, t', rfl, S3, f1, f2, f3, hi, hs⟩
    walk_at "gs"
    walk_at "gs"
    refine r_insert S3 U rfl hi (by lia) hv fun h4 S4 => ?_
    walk_at "gs"
    rw [hs] at S4
    exact Back.intro S4 (ret _ _)
end

section
set_option autoImplicit false
set_option maxRecDepth 10000

variable {mg mb : Str → Option Value} {prog : Program} {w : World} {A : Around} {E : Value → Shared → Prop} {s : Shared} {h : Heap} {tk : Nat} {h₀ : Base} {L : Addr} {m : Str → Option Value} {ls : List Ent} {ob nw : Led} {a : Addr} {k : Kd} {ds : List D} {g : List D → List Ent} {QV : Value → Shared → Prop}

theorem r_iterRange' {r : Addr} {a b : Int} {t u v : Tok} {n : Nat} (S : St h₀ L h m ls ((r, rgObj a b 1 t u v) :: ob) nw) (hn : (b - a).toNat = n) (ha : -1000000 < a ∧ a < 1000000) (hb : -1000000 < b ∧ b < 1000000)
    (q : ∀ I h', St h₀ L h' m ls ((I, riObj a n 1) :: ob) nw → QV (.ref I) (mk s h' tk)) : wpAny (model prog w) A (pyIter (.ref r)) QV E (mk s h tk) := by
  refine wpAny_pyIter_range (s := mk s h tk) (S.getO .head) (small_one (by lia) (by lia) (by lia) (by lia)) ?_
  rw [show Builtin.Range.rangeSize a b 1 = (n : Int) by rw [rangeSize_one]; split <;> lia]
  exact q _ _ (S.dropO.addO (fun _ _ e => Heap.get?_push_of_some _ e) (Nat.le_refl _) (Heap.get?_push_size _ rfl))


set_option maxHeartbeats 2000000 in
theorem c_least_up {q : Nat} {Q : Value → Shared → Prop} (C : Cx X1 mg mb A h₀ L (q + 1)) (S : St h₀ L h m ls ob nw) (U : At a k ds ls g) (hz : ds.length < 1000) (hp : Hp llt 0 ds)
    (ret : ∀ h' tk, St h₀ L h' m ls ob nw → Q (.bool true) (mk s h' tk)) :
    wpAny (model prog w) A (call (.ref (fa X1.P mg 18)) [.ref a]) Q E (mk s h tk) := by
  refine call_fn (i := 18) C S (by decide) (fun _ _ _ => rfl) (locs rfl) fun g₁ L' h₁ tk code C' S' => ?_
  generalize hm : (fun y => (bindsOf X1 18 [.ref a]).reverse.lookup y) = m₁ at S'
  have e1 : m₁ (Str.ofString "heap") = some (.ref a) := by rw [← hm]; rfl
  clear hm
  refine wpAny_execs_cons ?_
  walk_at "gs"
  refine r_for ?_
  refine r_callT C' (by with_reducible assumption) (by decide) rfl ?_
  walk_at "gs"
  refine r_callB C' S' (by decide) rfl ?_
  walk_at "gs"
  refine r_len S' U hz fun tl _ => ?_
  walk_at "gs"
  refine r_range2 (by with_reducible assumption) fun r h2 tk2 t1 S2 => ?_
  refine r_iterRange' (n := ds.length - 1) S2 (by lia) (by lia) (by lia) fun I h3 S3 => ?_
  refine r_forR (n := ds.length - 1) C'.handled S3 (fun i m' ls' nw' => nw' = nw ∧ ls' = ls ∧ m' (Str.ofString "heap") = some (.ref a))
    ⟨rfl, rfl, by walk_at "lk"⟩ ?_ ?_
  · rintro i h4 tk4 m4 ls4 nw4 t4 o4 hi ⟨rfl, rfl, f1⟩ S4
    rw [show (1 : Int) + (i : Int) * 1 = ((i + 1 : Nat) : Int) by lia] at S4
    obtain ⟨x, hx⟩ : ∃ x, ds[i + 1]? = some x := ⟨_, List.getElem?_eq_getElem (by lia)⟩
    obtain ⟨y, hy⟩ : ∃ y, ds[i / 2]? = some y := ⟨_, List.getElem?_eq_getElem (by lia)⟩
    have hxy : llt x y = false := by
      have := hp (i / 2) (i + 1) (by lia) (by lia) (by lia)
      simpa [List.getD, hx, hy] using this
    walk_at "gs"
    walk_at "if1"
    walk_at "gs"
    refine r_sub S4 U rfl hx (by lia) fun v1 hv1 => ?_
    walk_at "gs"
    refine i_fdivN (n := i) (c := 2) (by lia) rfl (by lia) fun _ _ => ?_
    refine r_sub S4 U rfl hy (by lia) fun v2 hv2 => ?_
    refine r_lt S4 C'.u2 hv1 hv2 ?_
    rw [hxy]
    walk_at "gs"
    simp only [Bool.false_eq_true, if_false]
    walk_at "gs"
    exact TurnEnd.next S4 ⟨rfl, rfl, by walk_at "lk"⟩
  · rintro h4 tk4 m4 ls4 nw4 ⟨rfl, rfl, f1⟩ S4
    walk_at "gs"
    exact Back.intro S4 (ret _ _)
set_option maxHeartbeats 2000000 in
theorem c_greatest_up {q : Nat} {Q : Value → Shared → Prop} (C : Cx X1 mg mb A h₀ L (q + 1)) (S : St h₀ L h m ls ob nw) (U : At a k ds ls g) (hz : ds.length < 1000) (hp : Hp gtl 0 ds)
    (ret : ∀ h' tk, St h₀ L h' m ls ob nw → Q (.bool true) (mk s h' tk)) :
    wpAny (model prog w) A (call (.ref (fa X1.P mg 19)) [.ref a]) Q E (mk s h tk) := by
  refine call_fn (i := 19) C S (by decide) (fun _ _ _ => rfl) (locs rfl) fun g₁ L' h₁ tk code C' S' => ?_
  generalize hm : (fun y => (bindsOf X1 19 [.ref a]).reverse.lookup y) = m₁ at S'
  have e1 : m₁ (Str.ofString "heap") = some (.ref a) := by rw [← hm]; rfl
  clear hm
  refine wpAny_execs_cons ?_
  walk_at "gs"
  refine r_for ?_
  refine r_callT C' (by with_reducible assumption) (by decide) rfl ?_
  walk_at "gs"
  refine r_callB C' S' (by decide) rfl ?_
  walk_at "gs"
  refine r_len S' U hz fun tl _ => ?_
  walk_at "gs"
  refine r_range2 (by with_reducible assumption) fun r h2 tk2 t1 S2 => ?_
  refine r_iterRange' (n := ds.length - 1) S2 (by lia) (by lia) (by lia) fun I h3 S3 => ?_
  refine r_forR (n := ds.length - 1) C'.handled S3 (fun i m' ls' nw' => nw' = nw ∧ ls' = ls ∧ m' (Str.ofString "heap") = some (.ref a))
    ⟨rfl, rfl, by walk_at "lk"⟩ ?_ ?_
  · rintro i h4 tk4 m4 ls4 nw4 t4 o4 hi ⟨rfl, rfl, f1⟩ S4
    rw [show (1 : Int) + (i : Int) * 1 = ((i + 1 : Nat) : Int) by lia] at S4
    obtain ⟨x, hx⟩ : ∃ x, ds[i + 1]? = some x := ⟨_, List.getElem?_eq_getElem (by lia)⟩
    obtain ⟨y, hy⟩ : ∃ y, ds[i / 2]? = some y := ⟨_, List.getElem?_eq_getElem (by lia)⟩
    have hxy : llt y x = false := by
      have := hp (i / 2) (i + 1) (by lia) (by lia) (by lia)
      simpa [List.getD, hx, hy, gtl] using this
    walk_at "gs"
    walk_at "if1"
    walk_at "gs"
    refine i_fdivN (n := i) (c := 2) (by lia) rfl (by lia) fun _ _ => ?_
    refine r_sub S4 U rfl hy (by lia) fun v2 hv2 => ?_
    walk_at "gs"
    refine r_sub S4 U rfl hx (by lia) fun v1 hv1 => ?_
    refine r_lt S4 C'.u2 hv2 hv1 ?_
    rw [hxy]
    walk_at "gs"
    simp only [Bool.false_eq_true, if_false]
    walk_at "gs"
    exact TurnEnd.next S4 ⟨rfl, rfl, by walk_at "lk"⟩
  · rintro h4 tk4 m4 ls4 nw4 ⟨rfl, rfl, f1⟩ S4
    walk_at "gs"
    exact Back.intro S4 (ret _ _)
end

section
set_option autoImplicit false

structure Ok (hs rs : List D) : Prop where
  hp : Hp llt 0 hs
  pm : hs.Perm rs
  sr : Srt rs

theorem Srt.head {x y : D} {t : List D} (h : Srt (x :: t)) (hy : y ∈ x :: t) (hm : ∀ z ∈ x :: t, llt z y = false) : y = x := by
  rcases List.mem_cons.mp hy with rfl | hy'
  · rfl
  · exact llt_tot.tri _ _ ((List.pairwise_cons.mp h).1 y hy') (hm x (.head _))
theorem Srt.last {x y : D} {t : List D} (h : Srt (t ++ [x])) (hy : y ∈ t ++ [x]) (hm : ∀ z ∈ t ++ [x], llt y z = false) : y = x := by
  rcases List.mem_append.mp hy with hy' | hy'
  · exact llt_tot.tri _ _ (hm x (by simp)) ((List.pairwise_append.mp h).2.2 y hy' x (.head _))
  · simpa using hy'
theorem Srt.tail {x : D} {t : List D} (h : Srt (x :: t)) : Srt t := (List.pairwise_cons.mp h).2
theorem Srt.init {x : D} {t : List D} (h : Srt (t ++ [x])) : Srt t := (List.pairwise_append.mp h).1
theorem Srt.sub {a b : List D} (h : Srt b) (hs : a.Sublist b) : Srt a := List.Pairwise.sublist hs h

theorem getD0_mem {hs : List D} (h : 0 < hs.length) : hs.getD 0 [] ∈ hs := by
  cases hs with
  | nil => simp at h
  | cons a t => simp
theorem Ok.root {hs t : List D} {x : D} (h : Ok hs (x :: t)) : hs.getD 0 [] = x := by
  have h0 : 0 < hs.length := by rw [h.pm.length_eq]; simp
  exact h.sr.head (h.pm.mem_iff.mp (getD0_mem h0)) fun z hz => root_least_mem llt_tot h.hp (h.pm.mem_iff.mpr hz)
theorem Ok.pop {hs t : List D} {x : D} (h : Ok hs (x :: t)) : Ok (hpop llt hs) t := by
  have h0 : 0 < hs.length := by rw [h.pm.length_eq]; simp
  refine ⟨hpop_hp llt_tot h.hp, ?_, h.sr.tail⟩
  have := (hpop_perm (lt := llt) h0).trans h.pm
  rw [h.root] at this
  exact this.cons_inv
theorem Ok.repl {hs t : List D} {x d : D} (h : Ok hs (x :: t)) : Ok (hrepl llt hs d) (lay t d) := by
  have h0 : 0 < hs.length := by rw [h.pm.length_eq]; simp
  refine ⟨hrepl_hp llt_tot h0 h.hp, ?_, lay_srt h.sr.tail⟩
  have := (hrepl_perm (lt := llt) (d := d) h0).trans ((h.pm.cons d).trans (List.Perm.swap x d t))
  rw [h.root] at this
  exact this.cons_inv.trans (lay_perm t d).symm
theorem Ok.push {hs rs : List D} {d : D} (h : Ok hs rs) : Ok (hpush llt hs d) (lay rs d) :=
  ⟨hpush_hp llt_tot h.hp, hpush_perm.trans ((h.pm.cons d).trans (lay_perm rs d).symm), lay_srt h.sr⟩
theorem Ok.pushpop1 {hs rs t : List D} {d x : D} (h : Ok hs rs) (e : lay rs d = x :: t) (hc : 0 < hs.length ∧ llt (hs.getD 0 []) d = true) : hs.getD 0 [] = x ∧ Ok (hrepl llt hs d) t := by
  have hs' : Srt (x :: t) := e ▸ lay_srt h.sr
  have pm : (d :: hs).Perm (x :: t) := e ▸ (h.pm.cons d).trans (lay_perm rs d).symm
  have hr : hs.getD 0 [] = x := hs'.head (pm.mem_iff.mp (.tail _ (getD0_mem hc.1))) fun z hz => by
    rcases List.mem_cons.mp (pm.mem_iff.mpr hz) with rfl | hz
    · exact llt_tot.asym hc.2
    · exact root_least_mem llt_tot h.hp hz
  refine ⟨hr, hrepl_hp llt_tot hc.1 h.hp, ?_, hs'.tail⟩
  have := (hrepl_perm (lt := llt) (d := d) hc.1).trans pm
  rw [hr] at this
  exact this.cons_inv
theorem Ok.pushpop2 {hs rs t : List D} {d x : D} (h : Ok hs rs) (e : lay rs d = x :: t) (hc : ¬ (0 < hs.length ∧ llt (hs.getD 0 []) d = true)) : d = x ∧ Ok hs t := by
  have hs' : Srt (x :: t) := e ▸ lay_srt h.sr
  have pm : (d :: hs).Perm (x :: t) := e ▸ (h.pm.cons d).trans (lay_perm rs d).symm
  have hr : d = x := hs'.head (pm.mem_iff.mp (.head _)) fun z hz => by
    rcases List.mem_cons.mp (pm.mem_iff.mpr hz) with rfl | hz
    · exact llt_tot.irr _
    · have h0 : 0 < hs.length := List.length_pos_of_mem hz
      have : llt (hs.getD 0 []) d = false := by
        cases q : llt (hs.getD 0 []) d with
        | false => rfl
        | true => exact absurd ⟨h0, q⟩ hc
      exact llt_tot.le_tr this (root_least_mem llt_tot h.hp hz)
  refine ⟨hr, h.hp, ?_, hs'.tail⟩
  rw [hr] at pm
  exact pm.cons_inv
theorem Ok.make {hs rs : List D} (pm : hs.Perm rs) (sr : Srt rs) : Ok (heapify llt hs) rs := ⟨heapify_hp llt_tot, heapify_perm.trans pm, sr⟩
theorem Ok.lose {hs rs : List D} {d : D} {j : Nat} (h : Ok (hs ++ [d]) rs) (hj : rs[j]? = some d) : Ok hs (rs.eraseIdx j) := by
  obtain ⟨hl, e⟩ := List.getElem?_eq_some_iff.mp hj
  refine ⟨by simpa using dropLast_hp h.hp, ?_, h.sr.sub (List.eraseIdx_sublist ..)⟩
  have p1 := self_perm hl
  rw [show rs.getD j [] = d by simp [List.getD, hj]] at p1
  exact ((List.perm_append_comm (l₁ := [d]) (l₂ := hs)).trans (h.pm.trans p1)).cons_inv

theorem max_root {hs t : List D} {x : D} (hp : Hp gtl 0 hs) (pm : hs.Perm (t ++ [x])) (sr : Srt (t ++ [x])) : hs.getD 0 [] = x := by
  have h0 : 0 < hs.length := by rw [pm.length_eq]; simp
  exact sr.last (pm.mem_iff.mp (getD0_mem h0)) fun z hz => root_least_mem gtl_tot hp (pm.mem_iff.mpr hz)
theorem max_pop {hs t : List D} {x : D} (hp : Hp gtl 0 hs) (pm : hs.Perm (t ++ [x])) (sr : Srt (t ++ [x])) : Hp gtl 0 (hpop gtl hs) ∧ (hpop gtl hs).Perm t := by
  have h0 : 0 < hs.length := by rw [pm.length_eq]; simp
  refine ⟨hpop_hp gtl_tot hp, ?_⟩
  have := (hpop_perm (lt := gtl) h0).trans (pm.trans List.perm_append_comm)
  rw [max_root hp pm sr] at this
  exact List.Perm.cons_inv this
theorem max_repl {hs t : List D} {x d : D} (hp : Hp gtl 0 hs) (pm : hs.Perm (t ++ [x])) (sr : Srt (t ++ [x])) : Hp gtl 0 (hrepl gtl hs d) ∧ (hrepl gtl hs d).Perm (lay t d) := by
  have h0 : 0 < hs.length := by rw [pm.length_eq]; simp
  refine ⟨hrepl_hp gtl_tot h0 hp, ?_⟩
  have := (hrepl_perm (lt := gtl) (d := d) h0).trans ((pm.cons d).trans ((List.perm_append_comm.cons d).trans (List.Perm.swap x d t)))
  rw [max_root hp pm sr] at this
  exact this.cons_inv.trans (lay_perm t d).symm

/-- two lists of one state -/
structure Two (a b : Addr) (G : List D → List D → List Ent) : Prop where
  fst : ∀ x y, At a .p x (G x y) fun x' => G x' y
  snd : ∀ x y, At b .p y (G x y) fun y' => G x y'
end

section
set_option autoImplicit false
set_option maxRecDepth 10000

variable {mg mb : Str → Option Value} {prog : Program} {w : World} {A : Around} {E : Value → Shared → Prop} {s : Shared} {h : Heap} {tk : Nat} {h₀ : Base} {L : Addr} {m : Str → Option Value} {ls : List Ent} {ob nw : Led} {a b : Addr} {k : Kd} {hs rs : List D} {G : List D → List D → List Ent} {QV : Value → Shared → Prop}

theorem Cx.u3 {X : Pg} {k : Nat} (C : Cx X mg mb A h₀ L k) : A.units + 3 < cLine := by
  have := C.units; show _ < 9900; lia

theorem exc_index : isSubtype (.type "IndexError") (.type "BaseException") = pure true := by rw [isSubtype_type]; kernel_rfl
theorem exc_index_self : isSubtype (.type "IndexError") (.type "IndexError") = pure true := by rw [isSubtype_type]; kernel_rfl
theorem exc_index_meta : isSubtype (.type ((Manifest.find? "IndexError").elim "type" fun y => y.metatype)) (.type "tuple") = pure false := by kernel_rfl

/-- against the empty list -/
theorem r_isNil {env : Env} {pos : Pos} {ds : List D} {g : List D → List Ent} (S : St h₀ L h m ls ob nw) (U : At a k ds ls g) (hu : A.units + 3 < cLine) (q : ∀ h', St h₀ L h' m ls ob nw → QV (.bool (decide (ds = []))) (mk s h' tk)) :
    wpAny (model prog w) A (eval (.List [] pos) env) (fun v s' => wpAny (model prog w) A (compareOp .Eq (.ref a) v) QV E s') E (mk s h tk) := by
  refine PyProof.Rows.List_ (args_nil ?_)
  refine r_newL (k := k) (ds := []) S .nil fun l h' S' => ?_
  exact r_eqL S' (.tail U) .head hu (q _ S'.dropL)
theorem r_isNotNil {env : Env} {pos : Pos} {ds : List D} {g : List D → List Ent} (S : St h₀ L h m ls ob nw) (U : At a k ds ls g) (hu : A.units + 3 < cLine) (q : ∀ h', St h₀ L h' m ls ob nw → QV (.bool (!decide (ds = []))) (mk s h' tk)) :
    wpAny (model prog w) A (eval (.List [] pos) env) (fun v s' => wpAny (model prog w) A (compareOp .NotEq (.ref a) v) QV E s') E (mk s h tk) := by
  refine PyProof.Rows.List_ (args_nil ?_)
  refine r_newL (k := k) (ds := []) S .nil fun l h' S' => ?_
  exact r_neL S' (.tail U) .head hu (q _ S'.dropL)


set_option maxHeartbeats 4000000 in
theorem c_least {q : Nat} {kd : Int} {t : Tok} {v : Value} {d : D} {Q : Value → Shared → Prop} (C : Cx X1 mg mb A h₀ L (q + 4)) (T : Two a b G) (S : St h₀ L h m (G hs rs) ob nw) (hv : RelIn nw .p v d) (hk : kd = 3 ∨ kd = 4 ∨ kd = 5) (hz : hs.length < 900) (hok : Ok hs rs)
    (ret : ∀ h' tk hs' rs', Ok hs' rs' → hs'.length ≤ hs.length + 1 → St h₀ L h' m (G hs' rs') ob nw → Q (.bool true) (mk s h' tk)) :
    wpAny (model prog w) A (call (.ref (fa X1.P mg 20)) [.int kd t, .ref a, .ref b, v]) Q E (mk s h tk) := by
  have hlen := hok.pm.length_eq
  refine call_fn (i := 20) C S (by decide) (fun _ _ _ => rfl) (locs rfl) fun g₁ L' h₁ tk code C' S' => ?_
  generalize hm : (fun y => (bindsOf X1 20 [.int kd t, .ref a, .ref b, v]).reverse.lookup y) = m₁ at S'
  have e1 : m₁ (Str.ofString "kind") = some (.int kd t) := by rw [← hm]; rfl
  have e2 : m₁ (Str.ofString "heap") = some (.ref a) := by rw [← hm]; rfl
  have e3 : m₁ (Str.ofString "row") = some (.ref b) := by rw [← hm]; rfl
  have e4 : m₁ (Str.ofString "pair") = some v := by rw [← hm]; rfl
  clear hm
  refine wpAny_execs_cons ?_
  refine wpAny_If ?_
  walk_at "gs"
  by_cases h5 : kd = 5
  · subst h5
    rw [if_pos (by rfl)]
    walk_at "gs"
    refine r_callF 17 C' S' (by decide) rfl ?_
    walk_at "gs"
    refine ⟨S'.fr.keep, c_lay C' S' (T.snd _ _) hv (by lia) fun h2 tk2 S2 => ?_⟩
    walk_at "gs"
    refine r_callF 4 C' S2 (by decide) rfl ?_
    walk_at "gs"
    obtain ⟨x, t', hlay⟩ : ∃ x t', lay rs d = x :: t' := by
      cases hh : lay rs d with
      | nil => have := lay_len rs d; rw [hh] at this; simp at this
      | cons x t' => exact ⟨x, t', rfl⟩
    have hl2 : t'.length = rs.length := by have := lay_len rs d; rw [hlay] at this; simpa using this
    refine ⟨S2.fr.keep, c_heappushpop C' S2 (T.fst _ _) hv (by lia) (fun hc h3 tk3 v3 hv3 S3 => ?_) fun hc h3 tk3 S3 => ?_⟩
    · obtain ⟨o1, o2⟩ := hok.pushpop1 hlay hc
      rw [hlay] at S3
      walk_at "gs"
      refine r_method S3 (T.snd _ _) PySem.F.slot_list_pop PySem.F.type_list_pop ?_
      walk_at "gs"
      refine r_pop0 S3 (T.snd _ _) (by lia) fun h4 v4 hv4 S4 => ?_
      refine r_eq S4 C'.u2 hv3 hv4 ?_
      rw [o1, decide_eq_true rfl]
      walk_at "gs"
      refine Back.intro S4 (ret _ _ _ _ o2 (by rw [hrepl_len]; lia))
    · obtain ⟨o1, o2⟩ := hok.pushpop2 hlay hc
      rw [hlay] at S3
      walk_at "gs"
      refine r_method S3 (T.snd _ _) PySem.F.slot_list_pop PySem.F.type_list_pop ?_
      walk_at "gs"
      refine r_pop0 S3 (T.snd _ _) (by lia) fun h4 v4 hv4 S4 => ?_
      refine r_eq S4 C'.u2 hv hv4 ?_
      rw [o1, decide_eq_true rfl]
      walk_at "gs"
      refine Back.intro S4 (ret _ _ _ _ o2 (by lia))
  · rw [if_neg (by simpa using h5)]
    walk_at "gs"
    refine wpAny_Try_except ?_
    walk_at "gs"
    walk_at "if1"
    walk_at "gs"
    cases rs with
    | nil =>
      have hnil : hs = [] := by simpa using hok.pm
      subst hnil
      by_cases h3 : kd = 3
      · rw [if_pos (by rw [h3]; rfl)]
        walk_at "gs"
        refine r_callF 2 C' S' (by decide) rfl ?_
        walk_at "gs"
        refine ⟨S'.fr.keep, e_heappop C' S' (T.fst _ _) fun h2 tk2 e2 F2 => ?_⟩
        refine r_catch C' ⟨_, rfl⟩ F2 (by decide) rfl exc_index exc_index_meta exc_index_self fun h3 S3 => ?_
        walk_at "gs"
        refine r_isNil S3 (T.snd _ _) C'.u3 fun h4 S4 => ?_
        walk_at "gs"
        simp only [decide_true, if_true]
        walk_at "gs"
        refine r_isNil S4 (T.fst _ _) C'.u3 fun h5 S5 => ?_
        walk_at "gs"
        exact Back.intro S5 (ret _ _ _ _ hok (by lia))
      · have h4 : kd = 4 := by lia
        rw [if_neg (by simpa using h3)]
        walk_at "gs"
        refine r_callF 3 C' S' (by decide) rfl ?_
        walk_at "gs"
        refine ⟨S'.fr.keep, e_heapreplace C' S' (T.fst _ _) fun h2 tk2 e2 F2 => ?_⟩
        refine r_catch C' ⟨_, rfl⟩ F2 (by decide) rfl exc_index exc_index_meta exc_index_self fun h3 S3 => ?_
        walk_at "gs"
        refine r_isNil S3 (T.snd _ _) C'.u3 fun h4 S4 => ?_
        walk_at "gs"
        simp only [decide_true, if_true]
        walk_at "gs"
        refine r_isNil S4 (T.fst _ _) C'.u3 fun h5 S5 => ?_
        walk_at "gs"
        exact Back.intro S5 (ret _ _ _ _ hok (by lia))
    | cons x rs' =>
      have h0 : 0 < hs.length := by rw [hlen]; simp
      have hl' : rs'.length + 1 = hs.length := by rw [hlen]; simp
      by_cases h3 : kd = 3
      · subst h3
        rw [if_pos (by rfl)]
        walk_at "gs"
        refine r_callF 2 C' S' (by decide) rfl ?_
        walk_at "gs"
        refine ⟨S'.fr.keep, c_heappop C' S' (T.fst _ _) h0 (by lia) fun h2 tk2 v2 hv2 S2 => ?_⟩
        walk_at "gs"
        walk_at "if1"
        walk_at "gs"
        refine r_isNil (by with_reducible assumption) (T.snd _ _) C'.u3 fun h4 S4 => ?_
        rw [decide_eq_false (by simp)]
        walk_at "gs"
        simp only [Bool.false_eq_true, if_false]
        walk_at "gs"
        refine r_method S4 (T.snd _ _) PySem.F.slot_list_pop PySem.F.type_list_pop ?_
        walk_at "gs"
        refine r_pop0 S4 (T.snd _ _) (by lia) fun h5 v5 hv5 S5 => ?_
        walk_at "gs"
        walk_at "if1"
        walk_at "gs"
        rw [if_neg (by decide)]
        walk_at "gs"
        refine r_eq (by with_reducible assumption) C'.u2 hv2 hv5 ?_
        rw [hok.root, decide_eq_true rfl]
        walk_at "gs"
        exact Back.intro (by with_reducible assumption) (ret _ _ _ _ hok.pop (by rw [hpop_len h0]; lia))
      · have h4 : kd = 4 := by lia
        subst h4
        rw [if_neg (by simpa using h3)]
        walk_at "gs"
        refine r_callF 3 C' S' (by decide) rfl ?_
        walk_at "gs"
        refine ⟨S'.fr.keep, c_heapreplace C' S' (T.fst _ _) hv h0 (by lia) fun h2 tk2 v2 hv2 S2 => ?_⟩
        walk_at "gs"
        walk_at "if1"
        walk_at "gs"
        refine r_isNil (by with_reducible assumption) (T.snd _ _) C'.u3 fun h4 S4 => ?_
        rw [decide_eq_false (by simp)]
        walk_at "gs"
        simp only [Bool.false_eq_true, if_false]
        walk_at "gs"
        refine r_method S4 (T.snd _ _) PySem.F.slot_list_pop PySem.F.type_list_pop ?_
        walk_at "gs"
        refine r_pop0 S4 (T.snd _ _) (by lia) fun h5 v5 hv5 S5 => ?_
        walk_at "gs"
        walk_at "if1"
        walk_at "gs"
        rw [if_pos (by rfl)]
        walk_at "gs"
        refine r_callF 17 C' (by with_reducible assumption) (by decide) rfl ?_
        walk_at "gs"
        rename St _ _ _ (upd _ (Str.ofString "due") _) _ _ _ => S6
        refine ⟨S6.fr.keep, c_lay C' S6 (T.snd _ _) hv (by lia) fun h7 tk7 S7 => ?_⟩
        walk_at "gs"
        refine r_eq (by with_reducible assumption) C'.u2 hv2 hv5 ?_
        rw [hok.root, decide_eq_true rfl]
        walk_at "gs"
        exact Back.intro (by with_reducible assumption) (ret _ _ _ _ hok.repl (by rw [hrepl_len]; lia))
end

section
set_option autoImplicit false
set_option maxRecDepth 10000

variable {mg mb : Str → Option Value} {prog : Program} {w : World} {A : Around} {E : Value → Shared → Prop} {s : Shared} {h : Heap} {tk : Nat} {h₀ : Base} {L : Addr} {m : Str → Option Value} {ls : List Ent} {ob nw : Led} {a b : Addr} {k : Kd} {hs rs : List D} {G : List D → List D → List Ent} {QV : Value → Shared → Prop}


set_option maxHeartbeats 4000000 in
theorem c_greatest {q : Nat} {kd : Int} {t : Tok} {v : Value} {d : D} {Q : Value → Shared → Prop} (C : Cx X1 mg mb A h₀ L (q + 4)) (T : Two a b G) (S : St h₀ L h m (G hs rs) ob nw) (hv : RelIn nw .p v d) (hk : kd = 11 ∨ kd = 12) (hz : hs.length < 900) (hok : Ok hs rs)
    (ret : ∀ h' tk hs' rs', Ok hs' rs' → hs'.length ≤ hs.length + 1 → St h₀ L h' m (G hs' rs') ob nw → Q (.bool true) (mk s h' tk)) :
    wpAny (model prog w) A (call (.ref (fa X1.P mg 21)) [.int kd t, .ref a, .ref b, v]) Q E (mk s h tk) := by
  have hlen := hok.pm.length_eq
  refine call_fn (i := 21) C S (by decide) (fun _ _ _ => rfl) (locs rfl) fun g₁ L' h₁ tk code C' S' => ?_
  generalize hm : (fun y => (bindsOf X1 21 [.int kd t, .ref a, .ref b, v]).reverse.lookup y) = m₁ at S'
  have e1 : m₁ (Str.ofString "kind") = some (.int kd t) := by rw [← hm]; rfl
  have e2 : m₁ (Str.ofString "heap") = some (.ref a) := by rw [← hm]; rfl
  have e3 : m₁ (Str.ofString "row") = some (.ref b) := by rw [← hm]; rfl
  have e4 : m₁ (Str.ofString "pair") = some v := by rw [← hm]; rfl
  clear hm
  have hp1 : Hp gtl 0 (heapify gtl hs) := heapify_hp gtl_tot
  have pm1 : (heapify gtl hs).Perm rs := heapify_perm.trans hok.pm
  have len1 : (heapify gtl hs).length = hs.length := heapify_len
  refine wpAny_execs_cons ?_
  refine wpAny_If ?_
  walk_at "gs"
  refine r_callF 8 C' S' (by decide) rfl ?_
  walk_at "gs"
  refine ⟨S'.fr.keep, c_heapify_max C' S' (T.fst _ _) (by lia) fun h2 tk2 S2 => ?_⟩
  walk_at "gs"
  simp only [Bool.false_eq_true, if_false]
  walk_at "gs"
  refine r_callF 19 C' S2 (by decide) rfl ?_
  walk_at "gs"
  refine ⟨S2.fr.keep, c_greatest_up C' S2 (T.fst _ _) (by lia) hp1 fun h3 tk3 S3 => ?_⟩
  walk_at "gs"
  simp only [Bool.not_true, Bool.false_eq_true, if_false]
  walk_at "gs"
  simp only [Bool.false_eq_true, if_false]
  walk_at "gs"
  generalize hh1 : heapify gtl hs = hs1 at *
  clear S2 S'
  refine wpAny_Try_except ?_
  walk_at "gs"
  walk_at "if1"
  walk_at "gs"
  rcases List.eq_nil_or_concat rs with rfl | ⟨rs', x, rfl⟩
  · have hnil : hs1 = [] := by simpa using pm1
    subst hnil
    have hok0 : Ok ([] : List D) [] := ⟨fun j i _ _ hi => by simp at hi, .refl _, .nil⟩
    by_cases h3 : kd = 11
    · rw [if_pos (by rw [h3]; rfl)]
      walk_at "gs"
      refine r_callF 6 C' S3 (by decide) rfl ?_
      walk_at "gs"
      refine ⟨S3.fr.keep, e_heappop_max C' S3 (T.fst _ _) fun h2 tk2 e2 F2 => ?_⟩
      refine r_catch C' ⟨_, rfl⟩ F2 (by decide) rfl exc_index exc_index_meta exc_index_self fun h3 S3 => ?_
      walk_at "gs"
      refine r_isNil S3 (T.snd _ _) C'.u3 fun h4 S4 => ?_
      walk_at "gs"
      simp only [decide_true, if_true]
      walk_at "gs"
      refine r_isNil S4 (T.fst _ _) C'.u3 fun h5 S5 => ?_
      walk_at "gs"
      exact Back.intro S5 (ret _ _ _ _ hok0 (by simp))
    · have h4 : kd = 12 := by lia
      rw [if_neg (by simpa using h3)]
      walk_at "gs"
      refine r_callF 7 C' S3 (by decide) rfl ?_
      walk_at "gs"
      refine ⟨S3.fr.keep, e_heapreplace_max C' S3 (T.fst _ _) fun h2 tk2 e2 F2 => ?_⟩
      refine r_catch C' ⟨_, rfl⟩ F2 (by decide) rfl exc_index exc_index_meta exc_index_self fun h3 S3 => ?_
      walk_at "gs"
      refine r_isNil S3 (T.snd _ _) C'.u3 fun h4 S4 => ?_
      walk_at "gs"
      simp only [decide_true, if_true]
      walk_at "gs"
      refine r_isNil S4 (T.fst _ _) C'.u3 fun h5 S5 => ?_
      walk_at "gs"
      exact Back.intro S5 (ret _ _ _ _ hok0 (by simp))
  · rw [List.concat_eq_append] at *
    have h0 : 0 < hs1.length := by rw [pm1.length_eq]; simp
    have hl' : rs'.length + 1 = hs.length := by rw [hlen]; simp
    have sr := hok.sr
    by_cases h3 : kd = 11
    · subst h3
      rw [if_pos (by rfl)]
      obtain ⟨o1, o2⟩ := max_pop hp1 pm1 sr
      have len2 := hpop_len (lt := gtl) h0
      walk_at "gs"
      refine r_callF 6 C' S3 (by decide) rfl ?_
      walk_at "gs"
      refine ⟨S3.fr.keep, c_heappop_max C' S3 (T.fst _ _) h0 (by lia) fun h2 tk2 v2 hv2 S2 => ?_⟩
      walk_at "gs"
      walk_at "if1"
      walk_at "gs"
      refine r_isNil (by with_reducible assumption) (T.snd _ _) C'.u3 fun h4 S4 => ?_
      rw [decide_eq_false (by simp)]
      walk_at "gs"
      simp only [Bool.false_eq_true, if_false]
      walk_at "gs"
      refine r_method S4 (T.snd _ _) PySem.F.slot_list_pop PySem.F.type_list_pop ?_
      walk_at "gs"
      refine r_pop S4 (T.snd _ _) rfl (by simp; lia) fun h5 v5 hv5 S5 => ?_
      walk_at "gs"
      walk_at "if1"
      walk_at "gs"
      rw [if_neg (by decide)]
      walk_at "gs"
      refine r_eq (by with_reducible assumption) C'.u2 hv2 hv5 ?_
      rw [max_root hp1 pm1 sr, decide_eq_true rfl]
      walk_at "gs"
      simp only [if_true]
      walk_at "gs"
      rename St _ _ _ (upd _ (Str.ofString "due") _) _ _ _ => S6
      refine r_callF 19 C' S6 (by decide) rfl ?_
      walk_at "gs"
      refine ⟨S6.fr.keep, c_greatest_up C' S6 (T.fst _ _) (by lia) o1 fun h7 tk7 S7 => ?_⟩
      walk_at "gs"
      simp only [if_true]
      walk_at "gs"
      refine r_callF 5 C' S7 (by decide) rfl ?_
      walk_at "gs"
      refine ⟨S7.fr.keep, c_heapify C' S7 (T.fst _ _) (by lia) fun h8 tk8 S8 => ?_⟩
      walk_at "gs"
      exact Back.intro S8 (ret _ _ _ _ (.make o2 sr.init) (by rw [heapify_len]; lia))
    · have h4 : kd = 12 := by lia
      subst h4
      rw [if_neg (by simpa using h3)]
      obtain ⟨o1, o2⟩ := max_repl (d := d) hp1 pm1 sr
      have len2 := hrepl_len (lt := gtl) (ds := hs1) (d := d)
      walk_at "gs"
      refine r_callF 7 C' S3 (by decide) rfl ?_
      walk_at "gs"
      refine ⟨S3.fr.keep, c_heapreplace_max C' S3 (T.fst _ _) hv h0 (by lia) fun h2 tk2 v2 hv2 S2 => ?_⟩
      walk_at "gs"
      walk_at "if1"
      walk_at "gs"
      refine r_isNil (by with_reducible assumption) (T.snd _ _) C'.u3 fun h4 S4 => ?_
      rw [decide_eq_false (by simp)]
      walk_at "gs"
      simp only [Bool.false_eq_true, if_false]
      walk_at "gs"
      refine r_method S4 (T.snd _ _) PySem.F.slot_list_pop PySem.F.type_list_pop ?_
      walk_at "gs"
      refine r_pop S4 (T.snd _ _) rfl (by simp; lia) fun h5 v5 hv5 S5 => ?_
      walk_at "gs"
      walk_at "if1"
      walk_at "gs"
      rw [if_pos (by rfl)]
      walk_at "gs"
      rename St _ _ _ (upd _ (Str.ofString "due") _) _ _ _ => S6
      refine r_callF 17 C' S6 (by decide) rfl ?_
      walk_at "gs"
      refine ⟨S6.fr.keep, c_lay C' S6 (T.snd _ _) hv (by lia) fun h7 tk7 S7 => ?_⟩
      walk_at "gs"
      refine r_eq S7 C'.u2 hv2 hv5 ?_
      rw [max_root hp1 pm1 sr, decide_eq_true rfl]
      walk_at "gs"
      simp only [if_true]
      walk_at "gs"
      refine r_callF 19 C' S7 (by decide) rfl ?_
      walk_at "gs"
      refine ⟨S7.fr.keep, c_greatest_up C' S7 (T.fst _ _) (by lia) o1 fun h8 tk8 S8 => ?_⟩
      walk_at "gs"
      simp only [if_true]
      walk_at "gs"
      refine r_callF 5 C' S8 (by decide) rfl ?_
      walk_at "gs"
      refine ⟨S8.fr.keep, c_heapify C' S8 (T.fst _ _) (by lia) fun h9 tk9 S9 => ?_⟩
      walk_at "gs"
      exact Back.intro S9 (ret _ _ _ _ (.make o2 (lay_srt sr.init)) (by rw [heapify_len]; lia))
end

section
set_option autoImplicit false
set_option maxRecDepth 100000

/-- only what lies under N is asked -/
def InR {α : Type} (N : Nat) : KasT α → Prop
  | .ret _ => True
  | .ask i j k => i < N ∧ j < N ∧ ∀ b, InR N (k b)
theorem InR.bind {α β : Type} {N : Nat} {f : α → KasT β} : ∀ {t : KasT α}, InR N t → (∀ a, InR N (f a)) → InR N (t.bind f)
  | .ret a, _, hf => hf a
  | .ask _ _ _, h, hf => ⟨h.1, h.2.1, fun b => (h.2.2 b).bind hf⟩
/-- with what the values bear -/
def Out {α : Type} (P : α → Prop) : KasT α → Prop
  | .ret a => P a
  | .ask _ _ k => ∀ b, Out P (k b)
theorem InR.bindO {α β : Type} {N : Nat} {P : α → Prop} {f : α → KasT β} : ∀ {t : KasT α}, InR N t → Out P t → (∀ a, P a → InR N (f a)) → InR N (t.bind f)
  | .ret a, _, hp, hf => hf a hp
  | .ask _ _ _, h, hp, hf => ⟨h.1, h.2.1, fun b => (h.2.2 b).bindO (hp b) hf⟩
theorem Out.bind {α β : Type} {P : α → Prop} {P' : β → Prop} {f : α → KasT β} : ∀ {t : KasT α}, Out P t → (∀ a, P a → Out P' (f a)) → Out P' (t.bind f)
  | .ret a, hp, hf => hf a hp
  | .ask _ _ _, hp, hf => fun b => (hp b).bind hf

def Lw (N : Nat) (p : Array Nat) : Prop := ∀ i, p.getD i 0 < N
theorem Lw.of_perm {N : Nat} {p q : Array Nat} (h : Lw N q) (hN : 0 < N) (hp : p.toList.Perm q.toList) : Lw N p := fun i => by
  rw [Array.getD_eq_getD_getElem?]
  cases e : p[i]? with
  | none => exact hN
  | some x =>
    have hx : x ∈ q.toList := hp.mem_iff.mp (by
      have := Array.mem_of_getElem? e
      simpa using this)
    obtain ⟨j, hj, e'⟩ := List.getElem_of_mem hx
    have := h j
    rw [Array.getD_eq_getD_getElem?, show q[j]? = some x by rw [← e']; simp [show j < q.size by simpa using hj]] at this
    exact this
theorem Lw.rev {N : Nat} {p : Array Nat} {i j : Nat} (h : Lw N p) (hN : 0 < N) : Lw N (kas_rev p i j) := h.of_perm hN rev_perm
theorem Lw.bub {N : Nat} {p : Array Nat} {i j : Nat} (h : Lw N p) (hN : 0 < N) : Lw N (bubble p i j) := h.of_perm hN (bubble_perm p i j).toList

theorem inr_asc {N : Nat} {p : Array Nat} (h : Lw N p) : ∀ f n, InR N (kas_asc p f n)
  | 0, _ => trivial
  | f + 1, n => ⟨h _, h _, fun b => by
    cases b with
    | true => exact trivial
    | false => exact inr_asc h f (n + 1)⟩
theorem inr_desc {N : Nat} (hN : 0 < N) : ∀ f (p : Array Nat) n q, Lw N p → InR N (kas_desc f p n q) ∧ Out (fun r => Lw N r.1) (kas_desc f p n q)
  | 0, p, n, q, h => ⟨trivial, h⟩
  | f + 1, p, n, q, h => by
    have h1 : ∀ b, InR N ((fun c => if c = true then (if q > 0 then kas_desc f (kas_rev p (n - (q + 1)) n) (n + 1) 0 else kas_desc f p (n + 1) 0)
        else KasT.ask (p.getD (n - 1) 0) (p.getD n 0) fun d => if d = true then .ret (p, n, q) else kas_desc f p (n + 1) (q + 1)) b) ∧
      Out (fun r => Lw N r.1) ((fun c => if c = true then (if q > 0 then kas_desc f (kas_rev p (n - (q + 1)) n) (n + 1) 0 else kas_desc f p (n + 1) 0)
        else KasT.ask (p.getD (n - 1) 0) (p.getD n 0) fun d => if d = true then .ret (p, n, q) else kas_desc f p (n + 1) (q + 1)) b) := by
      intro b
      cases b with
      | true =>
        simp only [if_true]
        split
        · exact inr_desc hN f _ _ _ (h.rev hN)
        · exact inr_desc hN f _ _ _ h
      | false =>
        simp only [Bool.false_eq_true, if_false]
        refine ⟨⟨h _, h _, fun d => ?_⟩, fun d => ?_⟩
        · cases d with
          | true => exact trivial
          | false => exact (inr_desc hN f p _ _ h).1
        · cases d with
          | true => exact h
          | false => exact (inr_desc hN f p _ _ h).2
    exact ⟨⟨h _, h _, fun b => (h1 b).1⟩, fun b => (h1 b).2⟩
theorem out_top {α : Type} : ∀ t : KasT α, Out (fun _ => True) t
  | .ret _ => trivial
  | .ask _ _ k => fun b => out_top (k b)
theorem inr_tail3 {N n : Nat} (hN : 0 < N) {p : Array Nat} (h : Lw N p) : InR N (kas_tail3 n N p) ∧ Out (fun r => Lw N r.2) (kas_tail3 n N p) :=
  ⟨(inr_asc (h.rev hN) _ _).bind fun _ => trivial, (out_top _).bind fun _ _ => h.rev hN⟩
theorem inr_descPart {N n : Nat} (hN : 0 < N) {p : Array Nat} (h : Lw N p) : InR N (kas_descPart n N p) ∧ Out (fun r => Lw N r.2) (kas_descPart n N p) := by
  have key : ∀ r : Array Nat × Nat × Nat, Lw N r.1 → InR N (if r.2.2 > 0 then kas_tail3 r.2.1 N (kas_rev r.1 (r.2.1 - (r.2.2 + 1)) r.2.1) else kas_tail3 r.2.1 N r.1) ∧
      Out (fun r => Lw N r.2) (if r.2.2 > 0 then kas_tail3 r.2.1 N (kas_rev r.1 (r.2.1 - (r.2.2 + 1)) r.2.1) else kas_tail3 r.2.1 N r.1) := fun r hr => by
    split
    · exact inr_tail3 hN (hr.rev hN)
    · exact inr_tail3 hN hr
  have d := inr_desc hN (N - (n + 1)) p (n + 1) 0 h
  exact ⟨d.1.bindO d.2 fun r hr => (key r hr).1, d.2.bind fun r hr => (key r hr).2⟩
theorem inr_count {N : Nat} (hN : 0 < N) {p : Array Nat} (h : Lw N p) : InR N (kas_count N p) ∧ Out (fun r => Lw N r.2) (kas_count N p) := by
  have key : ∀ n, InR N (if (n == N) = true then KasT.ret (n, p) else if n > 1 then .ask (p.getD 0 0) (p.getD (n - 1) 0) fun c => if c = true then .ret (n, p) else kas_descPart n N (kas_rev p 0 n) else kas_descPart n N p) ∧
      Out (fun r => Lw N r.2) (if (n == N) = true then KasT.ret (n, p) else if n > 1 then .ask (p.getD 0 0) (p.getD (n - 1) 0) fun c => if c = true then .ret (n, p) else kas_descPart n N (kas_rev p 0 n) else kas_descPart n N p) := fun n => by
    split
    · exact ⟨trivial, h⟩
    · split
      · refine ⟨⟨h _, h _, fun b => ?_⟩, fun b => ?_⟩
        · cases b with
          | true => exact trivial
          | false => exact (inr_descPart hN (h.rev hN)).1
        · cases b with
          | true => exact h
          | false => exact (inr_descPart hN (h.rev hN)).2
      · exact inr_descPart hN h
  exact ⟨(inr_asc h _ _).bind fun n => (key n).1, (out_top _).bind fun n _ => (key n).2⟩
theorem inr_place {N : Nat} {p : Array Nat} (h : Lw N p) (k : Nat) : ∀ f l r, InR N (kas_place p k f l r)
  | 0, _, _ => trivial
  | f + 1, l, r => by
    unfold kas_place
    split
    · exact trivial
    · refine ⟨h _, h _, fun b => ?_⟩
      cases b with
      | true => exact inr_place h k f _ _
      | false => exact inr_place h k f _ _
theorem inr_bin {N : Nat} (hN : 0 < N) : ∀ f (p : Array Nat) k, Lw N p → InR N (kas_bin f p k)
  | 0, _, _, _ => trivial
  | f + 1, p, k, h => (inr_place h k _ _ _).bind fun l => inr_bin hN f _ _ (h.bub hN)
theorem inr_sort {N : Nat} (hN : 0 < N) : InR N (kas_sort N) := by
  have h : Lw N (List.toArray (List.range N)) := fun i => by
    rw [Array.getD_eq_getD_getElem?]
    by_cases hi : i < N
    · simp [hi]
    · simp [hi, hN]
  have c := inr_count hN h
  refine c.1.bindO c.2 fun r hr => ?_
  split
  · exact inr_bin hN _ _ _ hr
  · exact trivial

theorem asked {α : Type} {N : Nat} {lt : Nat → Nat → Bool} {cmp : Nat → Nat → (Bool → Shared → Prop) → Shared → Prop} {s : Shared} (hc : ∀ i j, i < N → j < N → ∀ C : Bool → Shared → Prop, C (lt i j) s → cmp i j C s) {Q : α → Shared → Prop} :
    ∀ t : KasT α, InR N t → Q (ev lt t) s → t.kasWp cmp Q s
  | .ret _, _, h => h
  | .ask i j k, hr, h => hc i j hr.1 hr.2.1 _ (asked hc (k (lt i j)) (hr.2.2 _) h)

section
variable {prog : Program} {w : World} {A : Around} {E : Value → Shared → Prop} {s : Shared}
/-- two tuples, item by item, as the sort asks -/
theorem lex_of {h : Heap} {b : Bool} {Q : Bool → Shared → Prop} {k : Nat} (hu : A.units + k < cLine) (hs : s.heap = h) : ∀ {xs ys : List Value} {e l : Bool} (i : Nat), CmpL (Cmp h k) xs ys e l →
    (b = true → i = 0 → ∀ p q, xs[0]? = some p → ys[0]? = some q → ∃ x t y u, p = .int x t ∧ q = .int y u) → Q l s → KatLex prog w A b false Q (xs.zip ys) i s
  | [], [], _, _, _, .nil, _, hq => hq
  | x :: xs, y :: ys, _, _, i, .cons (e := e) (l := l) (e' := e') (l' := l') h1 h2, hb, hq => by
    subst hs
    have c := cmp_all (prog := prog) (w := w) (E := fun _ _ => False) (s := s) k hu h1
    refine kat_cons (c.1 _ ?_)
    cases e with
    | true =>
      simp only [if_true] at hq
      exact kat_yes (lex_of hu rfl (i + 1) h2 (fun _ h => by lia) hq)
    | false =>
      simp only [Bool.false_eq_true, if_false] at hq
      refine kat_no ?_
      by_cases hf : (b && i == 0) = true
      · rw [hf]
        simp only [Bool.and_eq_true, beq_iff_eq] at hf
        obtain ⟨x', t, y', u, rfl, rfl⟩ := hb hf.1 hf.2 x y rfl rfl
        refine oneLt_int ?_
        have := (cmp_all (prog := prog) (w := w) (E := fun _ _ => False) (s := s) k hu h1).2.2 (fun v _ => v = .bool l) rfl
        have e2 : l = decide (x' < y') := by
          have z := cmpI s.heap k x' y' t u
          cases k with
          | zero =>
            obtain ⟨a1, a2, a3, a4, b1, b2, b3, b4⟩ := h1
            cases b1; cases b2; exact b4
          | succ k =>
            have : ∀ k, Cmp s.heap k (.int x' t) (.int y' u) false l → l = decide (x' < y') := by
              intro k
              induction k with
              | zero => intro h; obtain ⟨a1, a2, a3, a4, b1, b2, b3, b4⟩ := h; cases b1; cases b2; exact b4
              | succ k ih =>
                intro h
                rcases h with h | ⟨_, _, _, _, _, _, q, _⟩
                · exact ih h
                · cases q
            exact this _ h1
        rw [← e2]; exact hq
      · rw [show (b && i == 0) = false by simpa using hf]
        exact kat_one _ _ (c.2.2 _ hq)
end

/-- what the sort makes of a kind -/
def kindS : Kd → SortKind
  | .i => oneType'
  | .p => tuples' true
  | .pi => tuples' false
  | .kip => tuples' true

section
variable {prog : Program} {w : World} {A : Around} {E : Value → Shared → Prop} {s : Shared} {h : Heap} {tk : Nat} {h₀ : Base} {L : Addr} {m : Str → Option Value} {ls : List Ent} {ob nw : Led} {a : Addr} {k : Kd} {ds : List D} {g : List D → List Ent}

theorem looksInt {M : Model} {h : Heap} {x : Int} {t : Tok} : Looks M h (typeOf (.int x t)) (.type "int") := Looks.now
theorem keyLt_of {v v' : Value} {d d' : D} {Q : Bool → Shared → Prop} (S : St h₀ L h m ls ob nw) (hu : A.units + 2 < cLine) (h1 : RelIn nw k v d) (h2 : RelIn nw k v' d') (q : Q (llt d d') (mk s h tk)) :
    wpAny (model prog w) A (keyLt' (kindS k) v v') Q E (mk s h tk) := by
  have hn := S.gets
  have fin : ∀ {a a' : Addr} {xs ys : List Value} {n n' : Nat} {b : Bool} {e l : Bool}, h.get? a = some (tupOf xs n) → h.get? a' = some (tupOf ys n') → CmpL (Cmp h 1) xs ys e l → l = llt d d' → (b = true → ∀ p q, xs[0]? = some p → ys[0]? = some q → ∃ x t y u, p = .int x t ∧ q = .int y u) →
      wpAny (model prog w) A (keyLt' (tuples' b) (.ref a) (.ref a')) Q E (mk s h tk) := by
    intro a a' xs ys n n' b e l g1 g2 hc hl hb
    refine kat_lt (s := mk s h tk) g1 rfl g2 rfl ?_
    rw [show decide (xs.toArray.size < ys.toArray.size) = false by have := hc.len; simp [this]]
    exact lex_of (s := mk s h tk) (k := 1) (by lia) rfl 0 hc (fun hb' _ => hb hb') (hl ▸ q)
  cases k with
  | i =>
    obtain ⟨x, t, rfl, rfl⟩ := h1
    obtain ⟨y, u, rfl, rfl⟩ := h2
    show wpAny (model prog w) A (keyLt' oneType' _ _) Q E _
    rw [keyLt'_oneType]
    refine oneLt_int ?_
    have : llt [x] [y] = decide (x < y) := by by_cases e1 : x = y <;> simp [llt, e1]
    rw [← this]; exact q
  | p =>
    obtain ⟨a, n, x, t, y, u, rfl, m1, rfl⟩ := h1
    obtain ⟨a', n', x', t', y', u', rfl, m2, rfl⟩ := h2
    have c := CmpL.cons (R := Cmp h 1) (cmpI h 1 x x' t t') (.cons (cmpI h 1 y y' u u') .nil)
    refine fin (hn _ m1) (hn _ m2) c ?_ fun _ p q hp hq => by cases hp; cases hq; exact ⟨_, _, _, _, rfl, rfl⟩
    by_cases e1 : x = x' <;> by_cases e2 : y = y' <;> simp [llt, e1, e2]
  | pi =>
    obtain ⟨a, n, v₁, d₁, z, u, rfl, m1, p1, rfl⟩ := h1
    obtain ⟨a', n', v₂, d₂, z', u', rfl, m2, p2, rfl⟩ := h2
    have c := CmpL.cons (R := Cmp h 1) (cmpP hn p1 p2) (.cons (cmpI h 1 z z' u u') .nil)
    have hl : d₁.length = d₂.length := p1.len.trans p2.len.symm
    refine fin (hn _ m1) (hn _ m2) c ?_ fun hb => by cases hb
    rw [llt_append_one hl]
    by_cases e1 : d₁ = d₂ <;> by_cases e2 : z = z' <;> simp [e1, e2]
  | kip =>
    obtain ⟨a, n, x, t, y, u, v₁, d₁, rfl, m1, p1, rfl⟩ := h1
    obtain ⟨a', n', x', t', y', u', v₂, d₂, rfl, m2, p2, rfl⟩ := h2
    have c := CmpL.cons (R := Cmp h 1) (cmpI h 1 x x' t t') (.cons (cmpI h 1 y y' u u') (.cons (cmpP hn p1 p2) .nil))
    refine fin (hn _ m1) (hn _ m2) c ?_ fun _ p q hp hq => by cases hp; cases hq; exact ⟨_, _, _, _, rfl, rfl⟩
    by_cases e1 : x = x' <;> by_cases e2 : y = y' <;> by_cases e3 : d₁ = d₂ <;> simp [llt, e1, e2, e3]
    subst e3
    exact (Cmp.self 1 _ _ _ (cmpP hn p1 p1)).2

theorem kind_of {vs : List Value} {Q : SortKind → Shared → Prop} (S : St h₀ L h m ls ob nw) (hr : All2 (RelIn nw k) vs ds) (h2 : 0 < vs.length) (hk : k ≠ .i) (q : Q (kindS k) (mk s h tk)) :
    wpAny (model prog w) A (keyKind' vs.toArray) Q E (mk s h tk) := by
  have hn := S.gets
  have key : ∀ (T : Value), (∀ v d, RelIn nw k v d → ∃ a o xs n f, v = .ref a ∧ h.get? a = some o ∧ o.cls = .type "tuple" ∧ o.data = .seq xs n ∧ xs[0]? = some f ∧ Looks (model prog w) h (typeOf f) T) →
      ∃ fs : List Value, KatTups h vs fs ∧ fs.length = vs.length ∧ ∀ f ∈ fs, Looks (model prog w) h (typeOf f) T := by
    intro T hT
    clear h2
    induction hr with
    | nil => exact ⟨[], trivial, rfl, fun _ h => nomatch h⟩
    | @cons v d vs ds r1 _ ih =>
      obtain ⟨fs, a1, a2, a3⟩ := ih
      obtain ⟨a, o, xs, n, f, rfl, b1, b2, b3, b4, b5⟩ := hT v d r1
      refine ⟨f :: fs, KatTups.cons b1 b2 b3 b4 a1, by simp [a2], fun f' hf' => ?_⟩
      rcases List.mem_cons.mp hf' with rfl | hf'
      · exact b5
      · exact a3 _ hf'
  cases k with
  | i => exact absurd rfl hk
  | p =>
    obtain ⟨fs, a1, a2, a3⟩ := key (.type "int") fun v d r => by
      obtain ⟨a, n, x, t, y, u, rfl, m1, rfl⟩ := r
      exact ⟨a, _, _, n, .int x t, rfl, hn _ m1, rfl, rfl, rfl, looksInt⟩
    exact kat_kind (s := mk s h tk) a1 (by lia) a3 (by decide) q
  | pi =>
    obtain ⟨fs, a1, a2, a3⟩ := key (.type "tuple") fun v d r => by
      obtain ⟨a, n, v₁, d₁, z, u, rfl, m1, p1, rfl⟩ := r
      obtain ⟨a', n', x, t, y, u', rfl, m2, rfl⟩ := p1
      exact ⟨a, _, _, n, .ref a', rfl, hn _ m1, rfl, rfl, rfl, (Looks.ld (hn _ m2)).andThen .now⟩
    exact kat_kind (s := mk s h tk) a1 (by lia) a3 (by decide) q
  | kip =>
    obtain ⟨fs, a1, a2, a3⟩ := key (.type "int") fun v d r => by
      obtain ⟨a, n, x, t, y, u, v₁, d₁, rfl, m1, p1, rfl⟩ := r
      exact ⟨a, _, _, n, .int x t, rfl, hn _ m1, rfl, rfl, rfl, looksInt⟩
    exact kat_kind (s := mk s h tk) a1 (by lia) a3 (by decide) q

/-- what the sort makes of data -/
def sortD (ds : List D) : List D := if ds.length < 2 then ds else (ev (fun i j => llt (ds.getD i []) (ds.getD j [])) (kas_sort ds.length)).toList.map fun i => ds.getD i []
theorem llt_swo (ds : List D) : Swo fun i j => llt (ds.getD i []) (ds.getD j []) :=
  ⟨fun _ => llt_tot.irr _, fun _ _ _ => llt_tot.tr _ _ _, fun _ _ _ h1 h2 => llt_tot.le_tr h1 h2⟩
theorem map_getD_range (ds : List D) : (List.range ds.length).map (fun i => ds.getD i []) = ds := by
  refine List.ext_getElem (by simp) fun i h1 h2 => ?_
  simp [List.getD, List.getElem?_eq_getElem h2]
theorem sortD_perm (ds : List D) : (sortD ds).Perm ds := by
  unfold sortD
  split
  · exact .refl _
  · have U := sort_ev (llt_swo ds) (N := ds.length) (by lia)
    have := U.perm.map fun i => ds.getD i []
    rwa [map_getD_range] at this
theorem sortD_srt (ds : List D) : Srt (sortD ds) := by
  unfold sortD
  split
  · rename_i h
    match ds, h with
    | [], _ => exact .nil
    | [_], _ => exact List.pairwise_singleton _ _
    | _ :: _ :: _, h => simp at h; lia
  · have U := sort_ev (llt_swo ds) (N := ds.length) (by lia)
    generalize ev (fun i j => llt (ds.getD i []) (ds.getD j [])) (kas_sort ds.length) = p at U
    unfold Srt
    rw [List.pairwise_map, List.pairwise_iff_getElem]
    intro i j hi hj hij
    have := (U.srt i j hij (by rw [← U.size]; simpa using hj)).le (llt_swo ds)
    simpa [Array.getD_eq_getD_getElem?, show i < p.size by simpa using hi, show j < p.size by simpa using hj] using this
theorem sortD_len (ds : List D) : (sortD ds).length = ds.length := (sortD_perm ds).length_eq
/-- with the turn -/
def sortB (b : Bool) (ds : List D) : List D := katRev b (sortD (katRev b ds))
theorem katRev_perm (b : Bool) (ds : List D) : (katRev b ds).Perm ds := by
  unfold katRev; split
  · exact List.reverse_perm _
  · exact .refl _
theorem sortB_perm (b : Bool) (ds : List D) : (sortB b ds).Perm ds := (katRev_perm _ _).trans ((sortD_perm _).trans (katRev_perm _ _))

def sortTree (a : Addr) (b : Bool) : Sem PySem.Fin := (do
    let items ← Builtin.List.listItems (.ref a)
    Builtin.List.listUpdate (.ref a) fun _ => #[]
    let before ← seqEpoch a
    let held ← newTuple items.toList
    let keyStore ← newList []
    holding [held, keyStore] do
      if b then rule "list.sort.reverse"
      let kind ← if items.size < 2 then pure general' else keyKind' items
      let ((), s) ← (if items.size < 2 then pure () else sortRuns').run (SortSt.mk' kind (if b then (items.zip items).reverse else items.zip items) #[] 7 none)
      let sorted := (arrOf s).map (·.2)
      let touched := (← seqEpoch a) != before
      Builtin.List.listUpdate (.ref a) fun _ => if b then sorted.reverse else sorted
      if let some e := failedOf s then rule "list.sort.comparison-raised"; throw e
      if touched then rule "list.sort.modified"; raiseError "ValueError" "list modified during sort"
      ret .none)
theorem sort_none (a : Addr) : Builtin.«list.sort» ⟨[.ref a], []⟩ = sortTree a false := rfl
theorem sort_rev (a : Addr) : Builtin.«list.sort» ⟨[.ref a], [(Str.ofString "reverse", .bool true)]⟩ = sortTree a true := rfl
theorem sort_key (a : Addr) : Builtin.«list.sort» ⟨[.ref a], [(Str.ofString "key", .none)]⟩ = sortTree a false := rfl
theorem sort_keyRev (a : Addr) : Builtin.«list.sort» ⟨[.ref a], [(Str.ofString "key", .none), (Str.ofString "reverse", .bool true)]⟩ = sortTree a true := rfl

theorem All2.pick {R : Value → D → Prop} {vs : List Value} {ds : List D} (h : All2 R vs ds) : ∀ l : List Nat, (∀ i ∈ l, i < ds.length) → All2 R (l.map fun i => vs.getD i Value.none) (l.map fun i => ds.getD i [])
  | [], _ => .nil
  | i :: l, hl => by
    obtain ⟨v, e1, r1⟩ := h.get (List.getElem?_eq_getElem (hl i (.head _)))
    refine .cons ?_ (h.pick l fun j hj => hl j (.tail _ hj))
    simpa [List.getD, e1, List.getElem?_eq_getElem (hl i (.head _))] using r1
theorem All2.rev {R : Value → D → Prop} {vs : List Value} {ds : List D} (h : All2 R vs ds) (b : Bool) : All2 R (katRev b vs) (katRev b ds) := by
  unfold katRev; split
  · exact h.reverse
  · exact h
theorem sortB_small {b : Bool} {ds : List D} (h : ds.length < 2) : sortB b ds = ds := by
  unfold sortB sortD
  rw [if_pos (by rw [kat_len]; exact h)]
  unfold katRev; split <;> simp

theorem sort_tree {b : Bool} {P : PySem.Fin → Shared → Prop} (S : St h₀ L h m ls ob nw) (U : At a k ds ls g) (hk : k ≠ .i) (hz : ds.length < 64) (hu : A.units + 2 < cLine)
    (q : ∀ h', St h₀ L h' m (g (sortB b ds)) ob nw → P (.done (.ret .none)) (mk s h' tk)) : wpAny (model prog w) A (sortTree a b) P E (mk s h tk) := by
  obtain ⟨vs, c, pre, post, N, ha, h1, h2, hc⟩ := S.open U
  have z := N (a, listOf vs.toArray c) (List.mem_append_right _ (.head _))
  have hlen := ha.len
  have ho : (mk s h tk).heap.get? a = some (seqObj "list" vs.toArray c) := z.1
  unfold sortTree
  refine wpAny_bind (listItems_at ho rfl ?_)
  refine wpAny_bind (listUpdate_at ho rfl ?_ (by rw [List.size_toArray, sizeLine_eq]; lia) (Nat.zero_le _))
  obtain ⟨e1, ho1⟩ : ∃ e1, (h.update a (Obj.mapSeq fun _ => (#[] : Array Value))).get? a = some (seqObj "list" #[] e1) := ⟨_, get?_update_seq ho fun _ => #[]⟩
  refine wpAny_bind (seqEpoch_at ho1 rfl ?_)
  refine wpAny_bind (wpAny_newTuple ?_ (by show vs.length ≤ _; rw [sizeLine_eq]; lia))
  refine wpAny_bind (wpAny_newList ?_ (Nat.zero_le _))
  refine wpAny_holding ?_
  have S1 : St h₀ L (h.update a (Obj.mapSeq fun _ => (#[] : Array Value))) m (g []) ob nw :=
    hc _ m [] e1 [] (S.fr.change (Heap.SameBut.update ..) z.2.1 z.2.2) (news_set N h1 h2 (Heap.SameBut.update ..) ho1) .nil
  have S6 : St h₀ L (((h.update a (Obj.mapSeq fun _ => (#[] : Array Value))).push (seqObj "tuple" vs.toArray 0)).push (seqObj "list" #[] 0)) m (g []) ob nw :=
    (S1.grown fun _ _ e => Heap.get?_push_of_some _ e).grown fun _ _ e => Heap.get?_push_of_some _ e
  have ho6 : (((h.update a (Obj.mapSeq fun _ => (#[] : Array Value))).push (seqObj "tuple" vs.toArray 0)).push (seqObj "list" #[] 0)).get? a = some (seqObj "list" #[] e1) := Heap.get?_push_of_some _ (Heap.get?_push_of_some _ ho1)
  show wpAny (model prog w) A _ P E (mk s (((h.update a (Obj.mapSeq fun _ => (#[] : Array Value))).push (seqObj "tuple" vs.toArray 0)).push (seqObj "list" #[] 0)) tk)
  generalize (((h.update a (Obj.mapSeq fun _ => (#[] : Array Value))).push (seqObj "tuple" vs.toArray 0)).push (seqObj "list" #[] 0)) = h6 at S6 ho6
  obtain ⟨vs6, c6, pre6, post6, N6, ha6, x1, x2, hc6⟩ := S6.open (U.again [])
  have hv6 : vs6 = [] := by cases ha6; rfl
  subst hv6
  have z6 := N6 (a, listOf #[] c6) (List.mem_append_right _ (.head _))
  have fin : ∀ out : List Value, All2 (RelIn nw k) out (sortB b ds) → P (.done (.ret .none)) (mk s (h6.update a (Obj.mapSeq fun _ => out.toArray)) tk) := fun out hout => by
    obtain ⟨c2, hc2⟩ : ∃ c2, (h6.update a (Obj.mapSeq fun _ => out.toArray)).get? a = some (seqObj "list" out.toArray c2) := ⟨_, get?_update_seq ho6 fun _ => out.toArray⟩
    exact q _ (hc6 _ m out c2 _ (S6.fr.change (Heap.SameBut.update ..) z6.2.1 z6.2.2) (news_set N6 x1 x2 (Heap.SameBut.update ..) hc2) hout)
  dsimp only
  have step : ∀ t : Sem PySem.Fin, wpAny (model prog w) A t P E (mk s h6 tk) → wpAny (model prog w) A (if b = true then (do let _ ← rule "list.sort.reverse"; t) else t) P E (mk s h6 tk) := by
    intro t ht
    split
    · exact wpAny_bind (wpAny_rule ht)
    · exact ht
  refine step _ ?_
  have hsz : vs.toArray.size = vs.length := by simp
  by_cases hl2 : vs.toArray.size < 2
  · rw [if_pos hl2, if_pos hl2]
    refine wpAny_bind (wpAny_pure ?_)
    rw [StateT.run_pure]
    refine wpAny_bind (wpAny_pure ?_)
    dsimp only
    have hout : (if b = true then (Array.map (fun x => x.2) (arrOf (SortSt.mk' general' (if b = true then (vs.toArray.zip vs.toArray).reverse else vs.toArray.zip vs.toArray) #[] 7 none))).reverse
        else Array.map (fun x => x.2) (arrOf (SortSt.mk' general' (if b = true then (vs.toArray.zip vs.toArray).reverse else vs.toArray.zip vs.toArray) #[] 7 none))) = vs.toArray := by
      have e : (Array.map (fun x : Keyed => x.2) (vs.toArray.zip vs.toArray)) = vs.toArray := by
        apply Array.toList_inj.mp
        simp only [Array.toList_map, Array.toList_zip]
        rw [List.map_snd_zip] <;> simp
      cases b with
      | false => exact e
      | true =>
        show (Array.map (fun x : Keyed => x.2) (vs.toArray.zip vs.toArray).reverse).reverse = _
        rw [Array.map_reverse, Array.reverse_reverse]; exact e
    refine wpAny_bind (seqEpoch_at ho6 rfl ?_)
    refine wpAny_bind (listUpdate_at ho6 rfl ?_ (Nat.zero_le _) (by rw [hout, hsz, sizeLine_eq]; lia))
    simp only [bne_self_eq_false, Bool.false_eq_true, if_false]
    rw [hout]
    exact wpAny_pure (fin vs (by rw [sortB_small (by lia)]; exact ha))
  · rw [if_neg hl2, if_neg hl2]
    refine wpAny_bind (kind_of S6 ha (by lia) hk ?_)
    have hpairs := kat_pairs b (ks := vs) (vs := vs) rfl
    rw [hpairs]
    have hl' : (katRev b vs).length = vs.length := kat_len b vs
    have hd' : (katRev b ds).length = ds.length := kat_len b ds
    have hr' := ha.rev b
    obtain ⟨lt, hlt⟩ : ∃ lt : Nat → Nat → Bool, lt = fun i j => llt ((katRev b ds).getD i []) ((katRev b ds).getD j []) := ⟨_, rfl⟩
    refine wpAny_bind (wpAny_mono (kat_run (A := A) (E := E) (s := mk s h6 tk) (κ := kindS k) (ks := katRev b vs) (vs := katRev b vs)
      (Q := fun st' s' => s' = mk s h6 tk ∧ failedOf st' = none ∧ arrOf st' = (ev lt (kas_sort (katRev b ds).length)).map (kas_item ((katRev b vs).toArray.zip (katRev b vs).toArray)))
      (G := fun p s' => s' = mk s h6 tk ∧ p = ev lt (kas_sort (katRev b ds).length)) rfl (by lia) (by lia)
      (fun p st' s' a1 a2 a3 a4 => ⟨a4.1, a3, by rw [a2, a4.2]⟩) ?_) ?_ fun _ _ e => e)
    · refine asked (N := (katRev b vs).length) (lt := lt) (fun i j hi hj C hC => ?_) _ (inr_sort (by lia)) ⟨rfl, by rw [hr'.len]⟩
      obtain ⟨d, e1, r1⟩ := hr'.get' (List.getElem?_eq_getElem hi)
      obtain ⟨d', e2, r2⟩ := hr'.get' (List.getElem?_eq_getElem hj)
      unfold kas_ask
      rw [show (katRev b vs).getD i Value.none = (katRev b vs)[i] by simp [List.getD, List.getElem?_eq_getElem hi], show (katRev b vs).getD j Value.none = (katRev b vs)[j] by simp [List.getD, List.getElem?_eq_getElem hj]]
      refine keyLt_of S6 hu r1 r2 ?_
      rw [hlt] at hC
      simpa [List.getD, e1, e2] using hC
    · rintro ⟨⟨⟩, st'⟩ s' ⟨rfl, hf, har⟩
      dsimp only
      have hout := kat_snds (ks := katRev b vs) (vs := katRev b vs) rfl har
      have hU := sort_ev (llt_swo (katRev b ds)) (N := (katRev b ds).length) (by lia)
      rw [← hlt] at hU
      rw [hout]
      refine wpAny_bind (seqEpoch_at ho6 rfl ?_)
      refine wpAny_bind (listUpdate_at ho6 rfl ?_ (Nat.zero_le _) ?_)
      · rw [hf]
        simp only [bne_self_eq_false, Bool.false_eq_true, if_false]
        rw [kat_outs]
        refine wpAny_pure (fin _ ?_)
        have := (hr'.pick (ev lt (kas_sort (katRev b ds).length)).toList fun i hi => by have := hU.perm.mem_iff.mp hi; simpa using this).rev b
        unfold sortB sortD
        rw [if_neg (by lia), ← hlt]
        exact this
      · rw [kat_outs]
        rw [List.size_toArray, kat_len, List.length_map, Array.length_toList, hU.size, sizeLine_eq]; lia

theorem r_sort {kw : List (Str × Value)} {b : Bool} {Q : Value → Shared → Prop} (S : St h₀ L h m ls ob nw) (U : At a k ds ls g) (hk : k ≠ .i) (hz : ds.length < 64) (hu : A.units + 3 < cLine)
    (he : Builtin.«list.sort» ⟨[.ref a], kw⟩ = sortTree a b) (hargs : argsOk "list.sort" ⟨[.ref a], kw⟩)
    (q : ∀ h', St h₀ L h' m (g (sortB b ds)) ob nw → Q .none (mk s h' tk)) : wpAny (model prog w) A (call (.builtin "list.sort") [.ref a] kw) Q E (mk s h tk) := by
  obtain ⟨vs, n, ho, _⟩ := S.isList U
  refine wpAny_call_entry_kw slot_list_sort (s := mk s h tk) ⟨_, ho, rfl⟩ entry_list_sort ?_ hargs
  show wpAny (model prog w) A.in1 (Builtin.«list.sort» ⟨[.ref a], kw⟩) _ _ _
  rw [he]
  exact sort_tree S U hk hz (by show A.units + 1 + 2 < cLine; lia) fun h' S' => ⟨_, rfl, q h' S'⟩
end
end

section
set_option autoImplicit false
set_option maxRecDepth 100000

section
variable {prog : Program} {w : World} {A : Around} {E : Value → Shared → Prop} {s : Shared} {h : Heap} {tk : Nat} {h₀ : Base} {L : Addr} {m : Str → Option Value} {ls : List Ent} {ob nw : Led}

/-- a name stored in the comprehension's own dict -/
theorem k_store {env : Env} {scope : Scope} {cl : List (Str × Addr)} {C : Addr} {oC : Obj} {mc : Str → Option Value} {x : Str} {v : Value} {Q : Unit → Shared → Prop} (S : St h₀ L h m ls ((C, oC) :: ob) nw) (hc : LCg.NsObj oC mc) (hx : scope.names.lookup x = some .local) (hk : scope.kind = .function)
    (q : ∀ h' tk' oC', LCg.NsObj oC' (upd mc x v) → St h₀ L h' m ls ((C, oC') :: ob) nw → Q () (mk s h' tk')) : wpAny (model prog w) A (storeName (compEnvC scope cl C env) x v) Q E (mk s h tk) := by
  refine wpAny_storeName_local (s := mk s h tk) (env := compEnvC scope cl C env) (m := mc) (lookup_relabel_local hx) (hc.ns (S.getO .head)) (fun h' hn hs => ?_) (by simp [compEnvC, relabel, hk])
  obtain ⟨o', ho', hno⟩ := LCg.ns_obj hn
  exact q h' _ o' hno (S.turned .head hs ho')
/-- a name read from it -/
theorem k_load {env : Env} {scope : Scope} {cl : List (Str × Addr)} {C : Addr} {oC : Obj} {mc : Str → Option Value} {x : Str} {px : Pos} {v : Value} {Q : Value → Shared → Prop} (S : St h₀ L h m ls ((C, oC) :: ob) nw) (hc : LCg.NsObj oC mc) (hx : scope.names.lookup x = some .local) (hk : scope.kind = .function) (hv : mc x = some v)
    (q : Q v (mk s h tk)) (hd : (x == ("__debug__" : Str)) = false := by decide) : wpAny (model prog w) A (eval (.Name x px) (compEnvC scope cl C env)) Q E (mk s h tk) :=
  wpAny_Name (wpAny_loadName_local (s := mk s h tk) (env := compEnvC scope cl C env) hk (lookup_relabel_local hx) (hc.ns (S.getO .head)) hv q) hd

theorem comp_tail {elt iter : PySem.Expr} {x y : Str} {px py tp pos : Pos} {c : Nat} {scope : Scope} {cl : List (Str × Addr)} {env : Env} {I : Addr} {n : Nat} {kd : Kd} {RR : Value → Addr → Result → Shared → Prop} (hh : A.handled = none)
    (Inv : Nat → List D → List Ent → Led → Led → Prop) (Fin : List D → List Ent → Led → Led → Prop)
    (S : St h₀ L h m ls ob nw) (h0 : Inv 0 [] ls ob nw) (hsz : ∀ i out ls ob nw, Inv i out ls ob nw → out.length < 1000)
    (again : ∀ h tk ls' ob' (Q' : Value → Shared → Prop) E', St h₀ L h m (ls' :: ls) (ob' :: ob) nw → Q' (.ref I) (mk s h tk) → wpAny (model prog w) A (pyIter (.ref I)) Q' E' (mk s h tk))
    (turn : ∀ i h tk D C oC out ls ob nw E', i < n → Inv i out ls ob nw → St h₀ L h m ((D, kd, out) :: ls) ((C, oC) :: ob) nw →
      wpAny (model prog w) A (pyNext (.ref I)) (fun r s₁ => ∃ T, r = some (.ref T) ∧ wpAny (model prog w) A (letOwnedTupleGo (.Tuple [.Name x px, .Name y py] c tp) (.ref I) (.ref T)) (fun _ s₂ =>
        ∃ h₂ tk₂ v1 v2 e ob₂ nw₂, s₂ = mk s h₂ tk₂ ∧ h₂.get? T = some (tupOf [v1, v2] e) ∧ St h₀ L h₂ m ((D, kd, out) :: ls) ((C, oC) :: ob₂) nw₂ ∧
          ∀ h₃ tk₃ oC' mc, LCg.NsObj oC' mc → mc x = some v1 → mc y = some v2 → St h₀ L h₃ m ((D, kd, out) :: ls) ((C, oC') :: ob₂) nw₂ →
            wpAny (model prog w) A (eval elt (compEnvC scope cl C env)) (fun v s₄ => ∃ h₄ tk₄ ls₄ ob₄ nw₄ d, s₄ = mk s h₄ tk₄ ∧ RelIn nw₄ kd v d ∧ St h₀ L h₄ m ((D, kd, out) :: ls₄) ((C, oC') :: ob₄) nw₄ ∧ Inv (i + 1) (out ++ [d]) ls₄ ob₄ nw₄) E' (mk s h₃ tk₃)) E' s₁) E' (mk s h tk))
    (fin : ∀ h tk D C oC out ls ob nw E', Inv n out ls ob nw → St h₀ L h m ((D, kd, out) :: ls) ((C, oC) :: ob) nw →
      wpAny (model prog w) A (pyNext (.ref I)) (fun r s₁ => r = none ∧ ∃ h₁ tk₁ ob₁, s₁ = mk s h₁ tk₁ ∧ St h₀ L h₁ m ((D, kd, out) :: ls) ((C, oC) :: ob₁) nw ∧ Fin out ls ob₁ nw) E' (mk s h tk))
    (exit : ∀ h tk D C oC mc out ls ob nw, Fin out ls ob nw → LCg.NsObj oC mc → St h₀ L h m ((D, kd, out) :: ls) ((C, oC) :: ob) nw → RR (.ref D) C (.ok .next) (mk s h tk))
    (hxy : x ≠ y) (hx : scope.names.lookup x = some .local) (hy : scope.names.lookup y = some .local)
    (hcell : ∀ z ∈ scope.names, z.2 ≠ .cell) (hkind : scope.kind = .function) :
    wpAny (model prog w) A (newList []) (fun acc s₃ => wpAny (model prog w) A (newFunctionEnv scope env.globals cl [] env.qual none .none (some env)) (fun cenv s₄ =>
        codeAny (model prog w) A (.compStart (.ListComp elt [⟨.Tuple [.Name x px, .Name y py] c tp, iter, [], 0⟩] scope pos) 0 (.ref I) acc { cenv with scope := relabel scope env }) (RR acc cenv.locals) s₄) E s₃) E (mk s h tk) := by
  refine r_newL (k := kd) (ds := []) S .nil fun D h1 S1 => ?_
  refine wpAny_newFunctionEnv (s := mk s h1 tk) hcell (by intro z hz; cases hz) (fun h2 hns hsb => ?_) hkind
  have hns' : h2.Ns h1.objs.size (fun _ => none) := hns
  have hsb' : Heap.SameBut h1.objs.size (h1.push { cls := .type "dict", data := .dict #[] }) h2 := hsb
  obtain ⟨oC, hoC, hnC⟩ := LCg.ns_obj hns'
  have keep : ∀ b o, h1.get? b = some o → h2.get? b = some o := fun b o e => hsb'.extBut b o (Nat.ne_of_lt (Heap.lt_size e)) (Heap.get?_push_of_some _ e)
  have S2 := S1.addO keep (Nat.le_refl _) hoC
  show codeAny (model prog w) A (.compStart _ 0 (.ref I) (.ref D) (compEnvC scope cl h1.objs.size env)) _ (mk s h2 (tk + 0))
  obtain ⟨C, hC⟩ : ∃ C, C = h1.objs.size := ⟨_, rfl⟩
  rw [← hC] at S2
  have loop : codeAny (model prog w) A (.compLoop (.ListComp elt [⟨.Tuple [.Name x px, .Name y py] c tp, iter, [], 0⟩] scope pos) 0 (.ref I) (.ref D) (compEnvC scope cl C env))
      (RR (.ref D) C) (mk s h2 (tk + 0)) := by
    refine LCp.codeAny_compLoop_pair (fun k s' => ∃ h' tk' i out ls' ob' nw' oC mc, s' = mk s h' tk' ∧ LCg.NsObj oC mc ∧ St h₀ L h' m ((D, kd, out) :: ls') ((C, oC) :: ob') nw' ∧ Inv i out ls' ob' nw' ∧ i ≤ n ∧ k = n + 1 - i) ?_ (n + 1)
      ⟨h2, _, 0, [], ls, ob, nw, oC, _, rfl, hnC, S2, h0, Nat.zero_le _, rfl⟩
    rintro k s' ⟨h', tk', i, out, ls', ob', nw', oC, mc, rfl, hnc, S', hI, hi, rfl⟩
    by_cases hlt : i < n
    · refine wpAny_mono (turn i h' tk' D C oC out ls' ob' nw' (fun _ _ => False) hlt hI S') (fun r s₁ hr => ?_) fun _ _ x => x.elim
      obtain ⟨T, rfl, hr⟩ := hr
      dsimp only
      refine wpAny_mono hr (fun _ s₂ hq => ?_) fun _ _ x => x.elim
      obtain ⟨h₂, tk₂, v1, v2, e, ob₂, nw₂, rfl, hT, S₂, go⟩ := hq
      refine r_unpack S₂ hh hT rfl rfl fun h₃ S₃ => ?_
      refine assignInOrder_cons (wpAny_assign_Name (k_store S₃ hnc hx hkind fun h₄ tk₄ oC₄ hn₄ S₄ => ?_))
      refine assignInOrder_cons (wpAny_assign_Name (k_store S₄ hn₄ hy hkind fun h₅ tk₅ oC₅ hn₅ S₅ => assignInOrder_nil ?_))
      refine wpAny_mono (go h₅ tk₅ oC₅ _ hn₅ (upd_ne hxy upd_eq) upd_eq S₅) (fun v s₄ hv => ?_) fun _ _ x => x.elim
      obtain ⟨h₆, tk₆, ls₆, ob₆, nw₆, d, rfl, hrel, S₆, hI₆⟩ := hv
      refine r_append S₆ .head (by have := hsz _ _ _ _ _ hI; lia) hrel fun h₇ S₇ => ?_
      exact ⟨n + 1 - (i + 1), by lia, h₇, tk₆, i + 1, out ++ [d], ls₆, ob₆, nw₆, oC₅, _, rfl, hn₅, S₇, hI₆, hlt, rfl⟩
    · have e : i = n := by lia
      subst e
      refine wpAny_mono (fin h' tk' D C oC out ls' ob' nw' (fun _ _ => False) hI S') (fun r s₁ hr => ?_) fun _ _ x => x.elim
      obtain ⟨rfl, h₁, tk₁, ob₁, rfl, S₁, hF⟩ := hr
      dsimp only
      exact exit h₁ tk₁ D C oC mc out ls' ob₁ nw' hF hnc S₁
  subst hC
  exact codeAny_compStart_list loop (again _ _ _ _ _ _ S2 loop)

/-- what follows a comprehension's value -/
theorem comp_val {oC : Obj} {mc : Str → Option Value} {kd : Kd} {out : List D} {D C : Addr} {Q : Value → Shared → Prop} (hc : LCg.NsObj oC mc) (S : St h₀ L h m ((D, kd, out) :: ls) ((C, oC) :: ob) nw) (q : ∀ h', St h₀ L h' m ((D, kd, out) :: ls) ob nw → Q (.ref D) (mk s h' tk)) :
    compPost (model prog w) A E none Q (.ref D) C (.ok .next) (mk s h tk) := ⟨mc, hc.ns (S.getO .head), fun h' hs => q h' (S.lost hs.extBut)⟩
/-- a comprehension's value stored at once -/
theorem comp_use {oC : Obj} {mc : Str → Option Value} {kd : Kd} {out : List D} {D C : Addr} {QN : Shared → Prop} {name : Str} {scope : Scope} {f : Addr} {cd : Value} {cl : List (Str × Addr)} {y : Str} {py : Pos} (hc : LCg.NsObj oC mc) (S : St h₀ L h m ((D, kd, out) :: ls) ((C, oC) :: ob) nw)
    (q : ∀ h' tk', St h₀ L h' (upd m y (.ref D)) ((D, kd, out) :: ls) ob nw → QN (mk s h' tk')) (hk : scope.kind = .function := by rfl) (hl : (envX name scope L f cd cl).kindOf y = some .local := by rfl) :
    compPost (model prog w) A E (some (assign (.Name y py) (envX name scope L f cd cl))) (fun _ s' => QN s') (.ref D) C (.ok .next) (mk s h tk) := by
  show wpAny (model prog w) A (assign (.Name y py) (envX name scope L f cd cl) (.ref D)) _ _ _
  refine wpAny_assign_Name (r_store S (fun h2 tk2 S2 => ?_) hk hl)
  exact ⟨mc, hc.ns (S2.getO .head), fun h' hs => q h' tk2 (S2.lost hs.extBut)⟩
theorem a_comp {elt iter target : PySem.Expr} {y : Str} {py pos spos : Pos} {scope : Scope} {cl : List (Str × Addr)} {env : Env} {Q : Flow → Shared → Prop}
    (hsw : swapsWith (.ListComp elt [⟨target, iter, [], 0⟩] scope pos) (some (.Name y py)) spos.line env = pure true) (hclos : closureFor scope env = pure cl)
    (hnames : ∀ z ∈ scope.names, z.2 = .local → scope.names.lookup z.1 = some .local)
    (h : wpAny (model prog w) A (eval iter env) (fun x s₁ => wpAny (model prog w) A (pyIter x) (fun it s₂ => wpAny (model prog w) A (newList []) (fun acc s₃ => wpAny (model prog w) A (newFunctionEnv scope env.globals cl [] env.qual none .none (some env)) (fun cenv s₄ =>
        codeAny (model prog w) A (.compStart (.ListComp elt [⟨target, iter, [], 0⟩] scope pos) 0 it acc { cenv with scope := relabel scope env }) (compPost (model prog w) A E (some (assign (.Name y py) env)) (fun _ s' => Q .next s') acc cenv.locals) s₄) E s₃) E s₂) E s₁) E s)
    (hkind : scope.kind = .function := by rfl) (hs : ∀ x, foldedSetIterable iter env x = pure x := by intro _; rfl) :
    wpAny (model prog w) A (exec (.Assign [.Name y py] (.ListComp elt [⟨target, iter, [], 0⟩] scope pos) spos) env) Q E s := by
  rw [exec_Assign_Name_used _ _ _ _ hsw]
  refine wpAny_bind (wpAny_standAt (wpAny_bind ?_))
  show wpAny _ A (do let _ ← comprehension (.ListComp elt [⟨target, iter, [], 0⟩] scope pos) scope env _ (newList []) false (eval iter env) (some (assign (.Name y py) env))) _ _ s
  exact wpAny_bind (wpAny_mono (wpAny_comprehension_free (use := some (assign (.Name y py) env)) (Q := fun _ s' => Q .next s') rfl hs hclos hkind hnames h) (fun _ s' hq => wpAny_pure (wpAny_pure hq)) fun _ _ e => e)
theorem e_comp {elt iter target : PySem.Expr} {pos : Pos} {scope : Scope} {cl : List (Str × Addr)} {env : Env} {Q : Value → Shared → Prop}
    (hclos : closureFor scope env = pure cl) (hnames : ∀ z ∈ scope.names, z.2 = .local → scope.names.lookup z.1 = some .local)
    (h : wpAny (model prog w) A (eval iter env) (fun x s₁ => wpAny (model prog w) A (pyIter x) (fun it s₂ => wpAny (model prog w) A (newList []) (fun acc s₃ => wpAny (model prog w) A (newFunctionEnv scope env.globals cl [] env.qual none .none (some env)) (fun cenv s₄ =>
        codeAny (model prog w) A (.compStart (.ListComp elt [⟨target, iter, [], 0⟩] scope pos) 0 it acc { cenv with scope := relabel scope env }) (compPost (model prog w) A E none Q acc cenv.locals) s₄) E s₃) E s₂) E s₁) E s)
    (hkind : scope.kind = .function := by rfl) (hs : ∀ x, foldedSetIterable iter env x = pure x := by intro _; rfl) :
    wpAny (model prog w) A (eval (.ListComp elt [⟨target, iter, [], 0⟩] scope pos) env) Q E s := by
  rw [eval_ListComp]
  exact wpAny_comprehension_free (use := none) rfl hs hclos hkind hnames h
end
end

section
set_option autoImplicit false
set_option maxRecDepth 100000

abbrev zo (TI TO : Addr) (f0 : Value) : Obj := { cls := .type "zip", dict := none, data := .fields #[f0, .bool false, .bool false, .ref TI, .ref TO], slots := #[] }
abbrev po (a b : Value) : Obj := { cls := .type "tuple", data := .seq #[a, b] }

section
variable {prog : Program} {w : World} {A : Around} {E : Value → Shared → Prop} {s : Shared}
theorem nextOf_range_item {it : Addr} {x left step : Int} {Q : Value → Shared → Prop} (hit : IsRangeIter s.heap it x left step) (hleft : 0 < left)
    (hQ : ∀ h', IsRangeIter h' it (x + step) (left - 1) step → Heap.SameBut it s.heap h' → Q (.int x s.toks) { s with heap := h', toks := s.toks + 1 }) :
    wpAny (model prog w) A (Builtin.SmallTypes.nextOf (.ref it)) Q E s := by
  have hT : s.TypeIs (.ref it) "range_iterator" := ⟨_, hit, rfl⟩
  unfold Builtin.SmallTypes.nextOf
  refine wpAny_bind (wpAny_callSpecial?_slot (name := Str.ofString "__next__") hT F.slot_range_iterator_next
    (call_meets F.slot_range_iterator_next hT F.entry_range_iterator_next (F.args_range_iterator_next_1 _) (AutoRange.range_iterator___next___range_iterator_1 it x left step (by lia)) ⟨hit, ?_⟩))
  exact wpAny_pure (hQ _ (Heap.get?_update_self _ (Heap.get?_update_self _ hit rfl) rfl) ((Heap.SameBut.update ..).trans (Heap.SameBut.update ..)))
theorem nextOf_range_end {it : Addr} {x left step : Int} {Q : Value → Shared → Prop} (hh : A.handled = none) (hit : IsRangeIter s.heap it x left step) (hleft : left ≤ 0)
    (hE : ∀ h' e, (∀ b o, s.heap.get? b = some o → h'.get? b = some o) → s.heap.objs.size ≤ e → (∃ o, h'.get? e = some o ∧ o.cls = .type "StopIteration") → E (.ref e) { s with heap := h' }) : wpAny (model prog w) A (Builtin.SmallTypes.nextOf (.ref it)) Q E s := by
  have hT : s.TypeIs (.ref it) "range_iterator" := ⟨_, hit, rfl⟩
  unfold Builtin.SmallTypes.nextOf
  refine wpAny_bind (wpAny_callSpecial?_slot (name := Str.ofString "__next__") hT F.slot_range_iterator_next
    (wpAny_call_entry F.slot_range_iterator_next hT F.entry_range_iterator_next ?_ (F.args_range_iterator_next_1 _)))
  show wpAny _ _ (field (.ref it) 0 >>= _) _ _ s
  refine wpAny_bind (wpAny_field hit rfl (x := rawInt x) rfl ?_)
  show wpAny _ _ (field (.ref it) 1 >>= _) _ _ s
  refine wpAny_bind (wpAny_field hit rfl (x := rawInt left) rfl ?_)
  show wpAny _ _ (field (.ref it) 2 >>= _) _ _ s
  refine wpAny_bind (wpAny_field hit rfl (x := rawInt step) rfl ?_)
  show wpAny _ _ (if left ≤ 0 then _ else _) _ _ s
  rw [if_pos hleft]
  refine wpAny_bind (wpAny_rule ?_)
  refine wpAny_bind ?_
  show wpAny _ _ (newExc (.type "StopIteration") [] >>= _) _ _ _
  refine wpAny_bind ?_
  simp only [newExc, newTuple]
  refine wpAny_bind (wpAny_newObj_type ?_ (by size_fits))
  refine wpAny_bind (m := firstArgMember _ _) (wpAny_of_eq (a := Value.none) (by first | rfl | (simp only [firstArgMember]; rfl)) ?_)
  refine wpAny_newObj_type ?_ (by size_fits)
  simp only [raiseNew]
  refine wpAny_bind (wpAny_handled ?_)
  first | rw [show A.in1.handled = none from hh] | rw [hh]
  refine wpAny_bind (wpAny_pure (wpAny_throw ?_))
  refine hE _ _ (fun b o e => Heap.get?_push_of_some _ (Heap.get?_push_of_some _ e)) ?_ ⟨_, Heap.get?_push_size _ rfl, rfl⟩
  rw [Heap.size_push]; exact Nat.le_succ _
end

section
variable {prog : Program} {w : World} {A : Around} {E : Value → Shared → Prop} {s : Shared} {h : Heap} {tk : Nat} {h₀ : Base} {L : Addr} {m : Str → Option Value} {ls : List Ent} {ob nw : Led} {k : Kd} {ds : List D} {g : List D → List Ent}

theorem St.listAt {l : Addr} (S : St h₀ L h m ls ob nw) (U : At l k ds ls g) {j : Nat} {d : D} (hd : ds[j]? = some d) : ∃ items v, h.IsList l items ∧ items[j]? = some v ∧ RelIn nw k v d := by
  obtain ⟨vs, n, hl, hr⟩ := S.isList U
  obtain ⟨v, e, r⟩ := hr.get hd
  exact ⟨vs.toArray, v, PySem.IsL.isList (n := n) hl, by simpa using e, r⟩

theorem zip_turn {z TI TO i1 I l : Addr} {C : Addr} {oC oI : Obj} {a b : Value} {x left step : Int} {j : Nat} {d : D} {elts : List PySem.Expr} {c : Nat} {tp : Pos} {Q : Option Value → Shared → Prop}
    (S : St h₀ L h m ls ((C, oC) :: (z, zo TI TO .none) :: (TO, po a b) :: (i1, riObj x left step) :: (I, oI) :: ob) nw) (hTI : (TI, po (.ref i1) (.ref I)) ∈ nw) (hoI : IsLI oI l j) (U : At l k ds ls g) (hd : ds[j]? = some d) (hleft : 0 < left)
    (q : ∀ T s₁, wpAny (model prog w) A (letOwnedTupleGo (.Tuple elts c tp) (.ref z) (.ref T)) (fun _ s₂ => ∃ h₂ tk₂ t v oI', s₂ = mk s h₂ tk₂ ∧ h₂.get? T = some (tupOf [.int x t, v] 0) ∧ RelIn nw k v d ∧ IsLI oI' l (j + 1) ∧
      St h₀ L h₂ m ls ((C, oC) :: (z, zo TI TO .none) :: (TO, po (.int x t) v) :: (i1, riObj (x + step) (left - 1) step) :: (I, oI') :: ob) nw) E s₁ → Q (some (.ref T)) s₁) :
    wpAny (model prog w) A (pyNext (.ref z)) Q E (mk s h tk) := by
  have hz : IsZip h z TI TO .none := S.getO (.tail .head)
  have hT : (mk s h tk).TypeIs (.ref z) "zip" := ⟨_, hz, rfl⟩
  have hti : h.get? TI = some (po (.ref i1) (.ref I)) := S.gets _ hTI
  unfold pyNext
  refine wpAny_bind (wpAny_attempt (wpAny_callSpecial?_slot (name := Str.ofString "__next__") hT F.slot_zip_next
    (wpAny_call_entry F.slot_zip_next hT F.entry_zip_next ?_ (F.args_zip_next_1 _))))
  show wpAny _ _ (field (.ref z) 2 >>= _) _ _ _
  refine wpAny_bind (wpAny_field hz rfl (x := .bool false) rfl ?_)
  show wpAny _ _ (field (.ref z) 3 >>= _) _ _ _
  refine wpAny_bind (wpAny_field hz rfl (x := .ref TI) rfl ?_)
  refine wpAny_bind (wpAny_seqItems hti rfl ?_)
  show wpAny _ _ (Builtin.SmallTypes.ownedTupleIsFree (.ref z) >>= _) _ _ _
  refine wpAny_bind ?_
  unfold Builtin.SmallTypes.ownedTupleIsFree
  refine wpAny_bind (wpAny_field hz rfl (x := .none) rfl (wpAny_pure ?_))
  simp only [if_true]
  refine wpAny_bind (wpAny_rule ?_)
  refine wpAny_bind (wpAny_field hz rfl (x := .ref TO) rfl ?_)
  refine wpAny_bind (wpAny_setField_rec hz (by simp) fun h₁ hz₁ hs₁ => ?_)
  have S1 : St h₀ L h₁ m ls ((C, oC) :: (z, zo TI TO .ellipsis) :: (TO, po a b) :: (i1, riObj x left step) :: (I, oI) :: ob) nw := S.turned (.tail .head) hs₁ hz₁
  refine wpAny_bind ?_
  simp only [List.zipIdx_cons, List.zipIdx_nil, List.forIn_cons, List.forIn_nil]
  refine wpAny_bind (wpAny_bind (wpAny_onRaise ?_))
  show wpAny _ _ (Builtin.SmallTypes.nextOf (.ref i1) >>= _) _ _ _
  refine wpAny_bind (nextOf_range_item (s := mk s h₁ tk) (S1.getO (.tail (.tail (.tail .head)))) hleft fun h₂ hi₂ hs₂ => wpAny_pure ?_)
  have S2 : St h₀ L h₂ m ls ((C, oC) :: (z, zo TI TO .ellipsis) :: (TO, po a b) :: (i1, riObj (x + step) (left - 1) step) :: (I, oI) :: ob) nw := S1.turned (.tail (.tail (.tail .head))) hs₂ hi₂
  have hTO₂ : IsPair h₂ TO a b := S2.getO (.tail (.tail .head))
  refine wpAny_bind (wpAny_seqItems hTO₂ rfl ?_)
  refine wpAny_bind (wpAny_updateSeq_pair (s := mk s h₂ (tk + 1)) hTO₂ fun h₃ hTO₃ hs₃ => ?_)
  have S3 : St h₀ L h₃ m ls ((C, oC) :: (z, zo TI TO .ellipsis) :: (TO, po (.int x tk) b) :: (i1, riObj (x + step) (left - 1) step) :: (I, oI) :: ob) nw := S2.turned (.tail (.tail .head)) hs₃ hTO₃
  refine wpAny_bind (wpAny_letGo (wpAny_pure ?_))
  refine wpAny_bind (wpAny_bind (wpAny_onRaise ?_))
  show wpAny _ _ (Builtin.SmallTypes.nextOf (.ref I) >>= _) _ _ _
  obtain ⟨items, v, hl, hv, hr⟩ := S3.listAt U hd
  refine wpAny_bind (wpAny_nextOf_list_item (s := mk s h₃ (tk + 1)) ⟨oI, S3.getO (.tail (.tail (.tail (.tail .head)))), hoI.1, hoI.2⟩ hl hv fun h₄ hi₄ hs₄ => wpAny_pure ?_)
  obtain ⟨oI', g1, g2, g3⟩ := hi₄
  have S4 : St h₀ L h₄ m ls ((C, oC) :: (z, zo TI TO .ellipsis) :: (TO, po (.int x tk) b) :: (i1, riObj (x + step) (left - 1) step) :: (I, oI') :: ob) nw := S3.turned (.tail (.tail (.tail (.tail .head)))) hs₄ g1
  have hTO₄ : IsPair h₄ TO (.int x tk) b := S4.getO (.tail (.tail .head))
  refine wpAny_bind (wpAny_seqItems hTO₄ rfl ?_)
  refine wpAny_bind (wpAny_updateSeq_pair (s := mk s h₄ (tk + 1)) hTO₄ fun h₅ hTO₅ hs₅ => ?_)
  have S5 : St h₀ L h₅ m ls ((C, oC) :: (z, zo TI TO .ellipsis) :: (TO, po (.int x tk) v) :: (i1, riObj (x + step) (left - 1) step) :: (I, oI') :: ob) nw := S4.turned (.tail (.tail .head)) hs₅ hTO₅
  refine wpAny_bind (wpAny_letGo (wpAny_pure (wpAny_pure ?_)))
  have hTO₅' : IsPair h₅ TO (.int x tk) v := S5.getO (.tail (.tail .head))
  refine wpAny_bind (wpAny_seqItems hTO₅' rfl ?_)
  refine wpAny_bind (wpAny_newTuple ?_)
  have S6 : St h₀ L (h₅.push (po (.int x tk) v)) m ls ((C, oC) :: (z, zo TI TO .ellipsis) :: (TO, po (.int x tk) v) :: (i1, riObj (x + step) (left - 1) step) :: (I, oI') :: ob) nw := S5.grown fun _ _ e => Heap.get?_push_of_some _ e
  have hT6 : (h₅.push (po (.int x tk) v)).get? h₅.objs.size = some (po (.int x tk) v) := Heap.get?_push_size _ rfl
  have hzT : h₅.objs.size ≠ z := Nat.ne_of_gt (Heap.lt_size (S5.getO (.tail .head)))
  show wpAny _ _ (Builtin.SmallTypes.ownedTupleHandOut (.ref z) (.ref h₅.objs.size) >>= _) _ _ _
  refine wpAny_bind ?_
  unfold Builtin.SmallTypes.ownedTupleHandOut
  have hz₆ : IsZip (h₅.push (po (.int x tk) v)) z TI TO .ellipsis := S6.getO (.tail .head)
  refine wpAny_bind (wpAny_setField_rec (s := mk s (h₅.push (po (.int x tk) v)) (tk + 1)) hz₆ (by simp) fun h₇ hz₇ hs₇ => ?_)
  have S7 : St h₀ L h₇ m ls ((C, oC) :: (z, zo TI TO (rawInt h₅.objs.size)) :: (TO, po (.int x tk) v) :: (i1, riObj (x + step) (left - 1) step) :: (I, oI') :: ob) nw := S6.turned (.tail .head) hs₇ hz₇
  have hz₇' : IsZip h₇ z TI TO (rawInt h₅.objs.size) := S7.getO (.tail .head)
  refine wpAny_setField_rec (s := mk s h₇ (tk + 1)) hz₇' (by simp) fun h₈ hz₈ hs₈ => ?_
  have S8 : St h₀ L h₈ m ls ((C, oC) :: (z, zo TI TO (rawInt h₅.objs.size)) :: (TO, po (.int x tk) v) :: (i1, riObj (x + step) (left - 1) step) :: (I, oI') :: ob) nw := S7.turned (.tail .head) hs₈ hz₈
  have hT8 : h₈.get? h₅.objs.size = some (po (.int x tk) v) := hs₈.extBut _ _ hzT (hs₇.extBut _ _ hzT hT6)
  refine wpAny_pure ⟨_, rfl, wpAny_pure ?_⟩
  refine q h₅.objs.size _ ?_
  refine wpAny_letOwnedTupleGo_zip (s := mk s h₈ (tk + 1)) (S8.getO (.tail .head)) fun h₉ hz₉ hs₉ => ?_
  exact ⟨h₉, tk + 1, tk, v, oI', rfl, hs₉.extBut _ _ hzT hT8, hr, ⟨g2, g3⟩, S8.turned (.tail .head) hs₉ hz₉⟩

theorem zip_stop {z TI TO i1 I : Addr} {C : Addr} {oC oI : Obj} {a b : Value} {x left step : Int} {Q : Option Value → Shared → Prop} (hh : A.handled = none)
    (S : St h₀ L h m ls ((C, oC) :: (z, zo TI TO .none) :: (TO, po a b) :: (i1, riObj x left step) :: (I, oI) :: ob) nw) (hTI : (TI, po (.ref i1) (.ref I)) ∈ nw) (hleft : left ≤ 0)
    (q : ∀ h₁, St h₀ L h₁ m ls ((C, oC) :: (z, zo TI TO .none) :: (TO, po a b) :: (i1, riObj x left step) :: (I, oI) :: ob) nw → Q none (mk s h₁ tk)) :
    wpAny (model prog w) A (pyNext (.ref z)) Q E (mk s h tk) := by
  have hz : IsZip h z TI TO .none := S.getO (.tail .head)
  have hT : (mk s h tk).TypeIs (.ref z) "zip" := ⟨_, hz, rfl⟩
  have hti : h.get? TI = some (po (.ref i1) (.ref I)) := S.gets _ hTI
  unfold pyNext
  refine wpAny_bind (wpAny_attempt (wpAny_callSpecial?_slot (name := Str.ofString "__next__") hT F.slot_zip_next
    (wpAny_call_entry F.slot_zip_next hT F.entry_zip_next ?_ (F.args_zip_next_1 _))))
  show wpAny _ _ (field (.ref z) 2 >>= _) _ _ _
  refine wpAny_bind (wpAny_field hz rfl (x := .bool false) rfl ?_)
  show wpAny _ _ (field (.ref z) 3 >>= _) _ _ _
  refine wpAny_bind (wpAny_field hz rfl (x := .ref TI) rfl ?_)
  refine wpAny_bind (wpAny_seqItems hti rfl ?_)
  show wpAny _ _ (Builtin.SmallTypes.ownedTupleIsFree (.ref z) >>= _) _ _ _
  refine wpAny_bind ?_
  unfold Builtin.SmallTypes.ownedTupleIsFree
  refine wpAny_bind (wpAny_field hz rfl (x := .none) rfl (wpAny_pure ?_))
  simp only [if_true]
  refine wpAny_bind (wpAny_rule ?_)
  refine wpAny_bind (wpAny_field hz rfl (x := .ref TO) rfl ?_)
  refine wpAny_bind (wpAny_setField_rec hz (by simp) fun h₁ hz₁ hs₁ => ?_)
  have S1 : St h₀ L h₁ m ls ((C, oC) :: (z, zo TI TO .ellipsis) :: (TO, po a b) :: (i1, riObj x left step) :: (I, oI) :: ob) nw := S.turned (.tail .head) hs₁ hz₁
  refine wpAny_bind ?_
  simp only [List.zipIdx_cons, List.zipIdx_nil, List.forIn_cons, List.forIn_nil]
  refine wpAny_bind (wpAny_bind (wpAny_onRaise ?_))
  show wpAny _ _ (Builtin.SmallTypes.nextOf (.ref i1) >>= _) _ _ _
  refine wpAny_bind (nextOf_range_end (s := mk s h₁ tk) hh (S1.getO (.tail (.tail (.tail .head)))) hleft fun h₂ e hk he hoe => ?_)
  have S2 := S1.grown hk
  obtain ⟨oe, hoe, hce⟩ := hoe
  have hez : e ≠ z := Nat.ne_of_gt (Nat.lt_of_lt_of_le (Heap.lt_size (S1.getO (.tail .head))) he)
  have hz₂ : IsZip h₂ z TI TO .ellipsis := S2.getO (.tail .head)
  refine wpAny_setField_rec (s := mk s h₂ tk) hz₂ (by simp) fun h₃ hz₃ hs₃ => ?_
  have S3 : St h₀ L h₃ m ls ((C, oC) :: (z, zo TI TO .none) :: (TO, po a b) :: (i1, riObj x left step) :: (I, oI) :: ob) nw := S2.turned (.tail .head) hs₃ hz₃
  refine wpAny_bind (wpAny_isInstance (T := "StopIteration") (b := true) ⟨oe, hs₃.extBut _ _ hez hoe, hce⟩ isSubtype_stop ?_)
  exact wpAny_pure (q h₃ S3)

theorem meets_zip_ri (r I l : Addr) (j : Nat) (a b c : Int) (t u v : Tok) (hsm : Builtin.Range.small a b c = true) :
    Meets (Builtin.«zip.__new__» ⟨[.type "zip", .ref r, .ref I], []⟩) (fun _ R s => IsRange s.heap r a b c t u v ∧ s.heap.IsListIter I l j ∧
      R (.ok (.ret (.ref (s.heap.objs.size + 3)))) { s with heap := (((s.heap.push (riObj a (Builtin.Range.rangeSize a b c) c)).push (po (.ref s.heap.objs.size) (.ref I))).push (po .none .none)).push (zo (s.heap.objs.size + 1) (s.heap.objs.size + 2) .none) }) :=
  .of_wp fun prog w A R s h => by
    obtain ⟨hp, g, d, tk, os⟩ := s; obtain ⟨hl1, hl2, h⟩ := h
    have hsub := sub_zip
    have hL1 : IsRange (Shared.heap ⟨hp, g, d, tk, os⟩) r a b c t u v := hl1
    have hL2 : Heap.IsListIter (Shared.heap ⟨hp.push { cls := .type "range_iterator", data := .fields #[rawInt a, rawInt (Builtin.Range.rangeSize a b c), rawInt c] }, g, d, tk, os⟩) I l j := by
      obtain ⟨o, e1, e2, e3⟩ := hl2
      exact ⟨o, Heap.get?_push_of_some _ e1, e2, e3⟩
    wp_walk using wpAny_pyIter_range hL1 hsm, wpAny_pyIter_listiter hL2
    refine ⟨_, rfl, ?_⟩
    simp only [Heap.size_push]
    exact h

theorem r_zip {r I l : Addr} {oI : Obj} {j n : Nat} {a b c : Int} {t u v : Tok} {Q : Value → Shared → Prop} (S : St h₀ L h m ls ((r, rgObj a b c t u v) :: (I, oI) :: ob) nw) (hoI : IsLI oI l j) (hsm : Builtin.Range.small a b c = true) (hn : Builtin.Range.rangeSize a b c = (n : Int))
    (q : ∀ z TI TO i1 h', St h₀ L h' m ls ((z, zo TI TO .none) :: (TO, po .none .none) :: (i1, riObj a n c) :: (I, oI) :: ob) ((TI, po (.ref i1) (.ref I)) :: nw) → Q (.ref z) (mk s h' tk)) :
    wpAny (model prog w) A (call (.type "zip") [.ref r, .ref I]) Q E (mk s h tk) := by
  refine callType_new F.called_zip (by decide) (F.typeCall_zip_2 _ _) (F.newCall_zip_2 _ _) (fun obj => F.args_object_init_3 obj _ _) F.entry_zip_new
    (meets_zip_ri r I l j a b c t u v hsm) ⟨S.getO .head, ⟨oI, S.getO (.tail .head), hoI.1, hoI.2⟩, ?_⟩
  rw [hn]
  have S0 := S.dropO
  have S1 : St h₀ L (h.push (riObj a n c)) m ls ((h.objs.size, riObj a n c) :: (I, oI) :: ob) nw := S0.addO (fun _ _ e => Heap.get?_push_of_some _ e) (Nat.le_refl _) (Heap.get?_push_size _ rfl)
  have z1 : (h.push (riObj a n c)).objs.size = h.objs.size + 1 := Heap.size_push ..
  have S2 : St h₀ L ((h.push (riObj a n c)).push (po (.ref h.objs.size) (.ref I))) m ls ((h.objs.size, riObj a n c) :: (I, oI) :: ob) ((h.objs.size + 1, po (.ref h.objs.size) (.ref I)) :: nw) :=
    S1.addN (fun _ _ e => Heap.get?_push_of_some _ e) (Nat.le_of_eq z1) (by rw [← z1]; exact Heap.get?_push_size _ rfl)
  have z2 : ((h.push (riObj a n c)).push (po (.ref h.objs.size) (.ref I))).objs.size = h.objs.size + 2 := by rw [Heap.size_push, z1]
  have S3 : St h₀ L (((h.push (riObj a n c)).push (po (.ref h.objs.size) (.ref I))).push (po .none .none)) m ls ((h.objs.size + 2, po .none .none) :: (h.objs.size, riObj a n c) :: (I, oI) :: ob) ((h.objs.size + 1, po (.ref h.objs.size) (.ref I)) :: nw) :=
    S2.addO (fun _ _ e => Heap.get?_push_of_some _ e) (Nat.le_of_eq z2) (by rw [← z2]; exact Heap.get?_push_size _ rfl)
  have z3 : (((h.push (riObj a n c)).push (po (.ref h.objs.size) (.ref I))).push (po .none .none)).objs.size = h.objs.size + 3 := by rw [Heap.size_push, z2]
  have S4 := S3.addO (a := h.objs.size + 3) (o := zo (h.objs.size + 1) (h.objs.size + 2) .none) (fun _ _ e => Heap.get?_push_of_some (zo (h.objs.size + 1) (h.objs.size + 2) .none) e) (Nat.le_of_eq z3) (by rw [← z3]; exact Heap.get?_push_size _ rfl)
  exact ⟨⟨_, S4.getO .head, rfl⟩, q _ _ _ _ _ S4⟩

theorem St.dropOs {x : Addr × Obj} (S : St h₀ L h m ls (x :: ob) nw) : St h₀ L h m ls ob nw := S.dropO
theorem r_pyIterL {l : Addr} {Q : Value → Shared → Prop} (S : St h₀ L h m ls ob nw) (U : At l k ds ls g) (q : ∀ I oI h', IsLI oI l 0 → St h₀ L h' m ls ((I, oI) :: ob) nw → Q (.ref I) (mk s h' tk)) : wpAny (model prog w) A (pyIter (.ref l)) Q E (mk s h tk) := by
  obtain ⟨vs, n, hl, hr⟩ := S.isList U
  refine wpAny_pyIter_list (s := mk s h tk) (PySem.IsL.isList (n := n) hl) ?_
  exact q _ _ _ ⟨rfl, rfl⟩ (S.addO (fun _ _ e => Heap.get?_push_of_some _ e) (Nat.le_refl _) (Heap.get?_push_size _ rfl))
theorem r_pyIterLI {I l : Addr} {oI : Obj} {j : Nat} {gO : Obj → Led} {Q : Value → Shared → Prop} (S : St h₀ L h m ls ob nw) (UO : AtO I oI ob gO) (hoI : IsLI oI l j) (q : Q (.ref I) (mk s h tk)) : wpAny (model prog w) A (pyIter (.ref I)) Q E (mk s h tk) :=
  wpAny_pyIter_listiter (s := mk s h tk) ⟨oI, S.getO UO, hoI.1, hoI.2⟩ q
theorem r_iter {l : Addr} {Q : Value → Shared → Prop} (S : St h₀ L h m ls ob nw) (U : At l k ds ls g) (q : ∀ I oI h', IsLI oI l 0 → St h₀ L h' m ls ((I, oI) :: ob) nw → Q (.ref I) (mk s h' tk)) : wpAny (model prog w) A (call (.builtin "iter") [.ref l]) Q E (mk s h tk) := by
  refine Calls.call_function_entry (id := "iter") (b := Builtin.«iter») (by decide +kernel) (by decide +kernel) (entryFor_of_tree (by kernel_rfl)) (by unfold argsOk; kernel_rfl) ?_
  show wpAny (model prog w) _ (do let it ← pyIter (.ref l); ret it) _ _ _
  exact wpAny_bind (r_pyIterL S U fun I oI h' ho S' => wpAny_pure ⟨_, rfl, q I oI h' ho S'⟩)
end
end

section
set_option autoImplicit false
set_option maxRecDepth 100000

section
variable {prog : Program} {w : World} {A : Around} {E : Value → Shared → Prop} {s : Shared}
theorem tup_gt_eq (a b : Value) : Builtin.«tuple.__gt__» ⟨[a, b], []⟩ = (do
  if !(← isInstance b (.type "tuple")) then return ← ret .notImplemented
  let xs ← Builtin.Tuple.tupleItemsOf a
  let ys ← Builtin.Tuple.tupleItemsOf b
  for (x, y) in xs.toList.zip ys.toList do
    if !(← eqBool x y) then
      rule "tuple.compare.by-the-first-pair-that-differs"
      return ← ret (← richCompare .Gt x y)
  ret (.bool (decide (xs.size > ys.size)))) := rfl
theorem tup_gt_tree {R : Value → Value → Bool → Bool → Prop} {a b : Addr} {xs ys : List Value} {n n' : Nat} {e l : Bool} {P : PySem.Fin → Shared → Prop}
    (ha : s.heap.get? a = some (tupOf xs n)) (hb : s.heap.get? b = some (tupOf ys n')) (hc : CmpL R xs ys e l)
    (hR : ∀ x y e l, R x y e l → (∀ Q : Bool → Shared → Prop, Q e s → wpAny (model prog w) A (eqBool x y) Q E s) ∧ (∀ Q : Value → Shared → Prop, Q (.bool (!e && !l)) s → wpAny (model prog w) A (richCompare .Gt x y) Q E s))
    (h : P (.done (.ret (.bool (!e && !l)))) s) : wpAny (model prog w) A (Builtin.«tuple.__gt__» ⟨[.ref a, .ref b], []⟩) P E s := by
  rw [tup_gt_eq]
  refine wpAny_bind (wpAny_isInstance (T := "tuple") ⟨_, hb, rfl⟩ isSubtype_tuple_tuple ?_)
  simp only [Bool.not_true, Bool.false_eq_true, if_false]
  refine wpAny_bind (wpAny_tupleItemsOf ha rfl ?_)
  refine wpAny_bind (wpAny_tupleItemsOf hb rfl ?_)
  refine wpAny_bind ?_
  refine wpAny_forIn_list _
    (fun rest r s' => r.1 = none ∧ s' = s ∧ ∃ xs' ys' e' l', rest = List.zip xs' ys' ∧ CmpL R xs' ys' e' l' ∧ (!e' && !l') = (!e && !l))
    _ ?_ ?_ _ _ ⟨rfl, rfl, xs, ys, e, l, rfl, hc, rfl⟩
  · rintro ⟨u, v⟩ rest r s' ⟨hr, rfl, xs', ys', e', l', hz, hc', hel⟩
    cases hc' with
    | nil => simp at hz
    | @cons x y xs'' ys'' e1 l1 e2 l2 h1 h2 =>
      simp only [List.zip_cons_cons, List.cons.injEq, Prod.mk.injEq] at hz
      obtain ⟨⟨rfl, rfl⟩, rfl⟩ := hz
      refine wpAny_bind ((hR _ _ _ _ h1).1 _ ?_)
      cases e1 with
      | true =>
        simp only [Bool.not_true, Bool.false_eq_true, if_false, if_true, Bool.true_and] at hel ⊢
        exact wpAny_pure ⟨rfl, rfl, xs'', ys'', e2, _, rfl, h2, hel⟩
      | false =>
        simp only [Bool.not_false, if_true, Bool.false_eq_true, if_false, Bool.false_and, Bool.true_and] at hel ⊢
        refine wpAny_bind (wpAny_rule (wpAny_bind ((hR _ _ _ _ h1).2 _ ?_)))
        refine wpAny_bind (wpAny_pure (wpAny_pure (wpAny_pure ?_)))
        simp only [Bool.not_false, Bool.true_and]
        rw [hel]; exact h
  · rintro ⟨r1, r2⟩ s' ⟨hr, rfl, xs', ys', e', l', hz, hc', hel⟩
    simp only at hr
    subst hr
    refine wpAny_pure ?_
    have hl : (!e' && !l') = false := by
      cases hc' with
      | nil => rfl
      | cons _ _ => simp at hz
    have hsz : decide (xs.toArray.size > ys.toArray.size) = false := by
      have := hc.len
      simp [this]
    show P (.done (.ret (.bool (decide (xs.toArray.size > ys.toArray.size))))) s'
    rw [hsz, ← hl, hel]; exact h
end

section
variable {prog : Program} {w : World} {A : Around} {E : Value → Shared → Prop} {s : Shared} {h : Heap} {tk : Nat} {h₀ : Base} {L : Addr} {m : Str → Option Value} {ls : List Ent} {ob nw : Led} {k : Kd} {ds : List D} {g : List D → List Ent}

theorem r_gtP {v v' : Value} {d d' : D} {Q : Value → Shared → Prop} (S : St h₀ L h m ls ob nw) (hu : A.units + 2 < cLine) (h1 : RelIn nw .p v d) (h2 : RelIn nw .p v' d') (q : Q (.bool (llt d' d)) (mk s h tk)) :
    wpAny (model prog w) A (richCompare .Gt v v') Q E (mk s h tk) := by
  obtain ⟨a, n, x, t, y, u, rfl, m1, rfl⟩ := h1
  obtain ⟨a', n', x', t', y', u', rfl, m2, rfl⟩ := h2
  have hn := S.gets
  have c := CmpL.cons (R := Cmp h 0) (cmpI h 0 x x' t t') (.cons (cmpI h 0 y y' u u') .nil)
  refine wpAny_richCompare_same_room (op := .Gt) (T := "tuple") (s := mk s h tk) ⟨_, hn _ m1, rfl⟩ ⟨_, hn _ m2, rfl⟩ F.slot_tuple_gt
    (wpAny_call_entry F.slot_tuple_gt ⟨_, hn _ m1, rfl⟩ F.entry_tuple_gt (tup_gt_tree (s := mk s h tk) (hn _ m1) (hn _ m2) c (fun x y e l hc => ⟨fun Q hq => (cmp_all 0 (by show A.units + 1 + 0 < cLine; lia) hc).1 Q hq, fun Q hq => ?_⟩) ⟨_, rfl, (fun e => nomatch e), ?_⟩) (F.args_tuple_gt_2 _ _)) (by lia)
  · obtain ⟨x, t, y, u, rfl, rfl, rfl, rfl⟩ := hc
    refine gt_int ?_
    have : (!decide (x = y) && !decide (x < y)) = decide (x > y) := by
      by_cases e1 : x = y
      · simp [e1]
      · by_cases e2 : x < y
        · simp [e1, e2]; lia
        · simp [e1, e2]; lia
    rw [this] at hq; exact hq
  · have : (!(decide (x = x') && (decide (y = y') && true)) && !(if decide (x = x') = true then (if decide (y = y') = true then false else decide (y < y')) else decide (x < x'))) = llt [x', y'] [x, y] := by
      by_cases e1 : x = x'
      · subst e1
        by_cases e2 : y = y'
        · simp [llt, e2]
        · simp only [llt, e2, Ne.symm e2]; rw [Bool.eq_iff_iff]; simp; lia
      · simp only [llt, e1, Ne.symm e1]; rw [Bool.eq_iff_iff]; simp; lia
    rw [this]; exact q

theorem St.swapO {x y : Addr × Obj} (S : St h₀ L h m ls (x :: y :: ob) nw) : St h₀ L h m ls (y :: x :: ob) nw := by
  obtain ⟨rs, fs, hr, hf, N⟩ := S.led
  have hp : (adr ls (x :: y :: ob) h₀).Perm (adr ls (y :: x :: ob) h₀) := by
    unfold adr
    exact List.Perm.append_left _ (List.Perm.append_right _ (by simpa using List.Perm.swap y.1 x.1 (ob.map (·.1))))
  refine ⟨S.fr, ⟨rs, fs, hr, hf, fun p hp => N p ?_⟩, hp.nodup_iff.mp S.apart.1, fun a ha p hp' => S.apart.2 a (hp.mem_iff.mpr ha) p hp'⟩
  rcases List.mem_append.mp hp with hp | hp
  · exact List.mem_append_left _ hp
  · rcases List.mem_append.mp hp with hp | hp
    · refine List.mem_append_right _ (List.mem_append_left _ ?_)
      rcases List.mem_cons.mp hp with rfl | hp
      · exact .tail _ (.head _)
      · rcases List.mem_cons.mp hp with rfl | hp
        · exact .head _
        · exact .tail _ (.tail _ hp)
    · exact List.mem_append_right _ (List.mem_append_right _ hp)

/-- the best so far -/
def best (bt : D → D → Bool) (b : D) (ds : List D) : D := ds.foldl (fun b d => if bt d b then d else b) b

theorem drop_cons {ds : List D} {j : Nat} {d : D} (h : ds[j]? = some d) : ds.drop j = d :: ds.drop (j + 1) := by
  obtain ⟨hl, e⟩ := List.getElem?_eq_some_iff.mp h
  rw [List.drop_eq_getElem_cons hl, e]


theorem r_ltP {v v' : Value} {d d' : D} {Q : Value → Shared → Prop} (S : St h₀ L h m ls ob nw) (hu : A.units + 2 < cLine) (h1 : RelIn nw .p v d) (h2 : RelIn nw .p v' d') (q : Q (.bool (llt d d')) (mk s h tk)) :
    wpAny (model prog w) A (richCompare .Lt v v') Q E (mk s h tk) := (cmp_all 2 hu (cmpK S.gets h1 h2)).2.2 Q q

theorem min_loop {I B l : Addr} {dflt : Value} {res : D} {R : Result → Shared → Prop} (hh : A.handled = none) (hu : A.units + 3 < cLine) (U : At l .p ds ls g)
    (hR : ∀ v h' tk', RelIn nw .p v res → St h₀ L h' m ls ob nw → R (.ok (.ret v)) (mk s h' tk')) :
    ∀ (r j : Nat) (db : D) (vb : Value) (c : Nat) (oI : Obj) (h : Heap) (tk : Nat), ds.length - j = r → j ≤ ds.length → IsLI oI l j → RelIn nw .p vb db → best llt db (ds.drop j) = res →
      St h₀ L h m ls ((I, oI) :: (B, seqObj "list" #[vb, vb] c) :: ob) nw → codeAny (model prog w) A (.builtin "min.loop" ⟨[.ref I, .none, .ref B], [(Str.ofString "default", dflt)]⟩) R (mk s h tk) := by
  have hname : (toString "min" ++ toString ".loop" : String) = "min.loop" := by decide
  intro r
  induction r with
  | zero =>
    intro j db vb c oI h tk hr hj ho hvb hb S
    have hj' : j = ds.length := by lia
    subst hj'
    have hres : db = res := by rw [← hb]; simp [best]
    subst hres
    obtain ⟨vs, n, hl, hrel⟩ := S.isList U
    have hvs := hrel.len
    refine codeAny_builtin PySem.F.entry_min_loop ?_
    rw [Around.under_plainId PySem.F.plain_min_loop _]
    show wpAny _ A.in1 (seqItems? (.ref B) >>= _) _ _ _
    refine wpAny_bind (wpAny_seqItems (S.getO (.tail .head)) rfl ?_)
    show wpAny _ A.in1 (tryCatch (pyNext (.ref I)) _ >>= _) _ _ _
    refine wpAny_bind (wpAny_tryCatch (wpAny_pyNext_list_end (s := mk s h tk) hh ⟨oI, S.getO .head, ho.1, ho.2⟩ (PySem.IsL.isList (n := n) hl) (by simp; lia) fun h₁ he₁ => ?_))
    have S1 := S.lost he₁
    show wpAny _ A.in1 (updateSeq B (fun _ => #[]) >>= _) _ _ _
    refine wpAny_bind ?_
    refine wpAny_updateSeq (s := mk s h₁ tk) (S1.getO .head) rfl (wpAny_bind (wpAny_letGo (wpAny_pure ?_)))
    exact hR vb _ tk hvb (S1.lost (Heap.SameBut.update ..).extBut)
  | succ r ih =>
    intro j db vb c oI h tk hr hj ho hvb hb S
    have hlt : j < ds.length := by lia
    obtain ⟨d, hd⟩ : ∃ d, ds[j]? = some d := ⟨_, List.getElem?_eq_getElem hlt⟩
    obtain ⟨items, v, hl, hv, hr1⟩ := S.listAt U hd
    rw [drop_cons hd] at hb
    refine codeAny_builtin PySem.F.entry_min_loop ?_
    rw [Around.under_plainId PySem.F.plain_min_loop _]
    show wpAny _ A.in1 (seqItems? (.ref B) >>= _) _ _ _
    refine wpAny_bind (wpAny_seqItems (S.getO (.tail .head)) rfl ?_)
    show wpAny _ A.in1 (tryCatch (pyNext (.ref I)) _ >>= _) _ _ _
    refine wpAny_bind (wpAny_tryCatch (wpAny_pyNext_list_item (s := mk s h tk) ⟨oI, S.getO .head, ho.1, ho.2⟩ hl hv fun h₁ hit₁ hs₁ => ?_))
    obtain ⟨o1, g1, g2, g3⟩ := hit₁
    have S1 : St h₀ L h₁ m ls ((I, o1) :: (B, seqObj "list" #[vb, vb] c) :: ob) nw := S.turned .head hs₁ g1
    show wpAny _ A.in1 (pure v >>= _) _ _ _
    refine wpAny_bind (wpAny_pure ?_)
    show wpAny _ A.in1 (tryCatch (holding [v, v] (richCompare .Lt v vb >>= _)) _ >>= _) _ _ _
    refine wpAny_bind (wpAny_tryCatch (wpAny_holding (wpAny_bind (r_ltP S1 (by show A.units + 1 + 2 < cLine; lia) hr1 hvb ?_))))
    refine wpAny_bind (wpAny_holding (wpAny_truthy_bool ?_))
    refine wpAny_bind (wpAny_letGo (wpAny_pure ?_))
    have hb2 : best llt (if llt d db then d else db) (ds.drop (j + 1)) = res := hb
    by_cases hc : llt d db = true
    · rw [if_pos hc] at hb2
      have hc' : llt d db = true := hc
      rw [if_pos hc']
      obtain ⟨c2, hc2⟩ : ∃ c2, (h₁.update B (Obj.mapSeq fun _ => #[v, v])).get? B = some (seqObj "list" #[v, v] c2) := ⟨_, get?_update_seq (S1.getO (.tail .head)) fun _ => #[v, v]⟩
      refine wpAny_bind ?_
      refine wpAny_updateSeq (s := mk s h₁ tk) (S1.getO (.tail .head)) rfl (wpAny_bind (wpAny_letGo ?_))
      rw [hname]
      exact wpAny_pure ⟨plainId_quiet PySem.F.plain_min_loop _, ih (j + 1) d v c2 o1 _ tk (by lia) (by lia) ⟨g2, g3⟩ hr1 hb2 (S1.turned (.tail .head) (Heap.SameBut.update ..) hc2)⟩
    · rw [if_neg hc] at hb2
      have hc' : ¬ llt d db = true := hc
      rw [if_neg hc']
      refine wpAny_bind (wpAny_letGo ?_)
      rw [hname]
      exact wpAny_pure ⟨plainId_quiet PySem.F.plain_min_loop _, ih (j + 1) db vb c o1 _ tk (by lia) (by lia) ⟨g2, g3⟩ hvb hb2 S1⟩

theorem kw_min (a d : Value) : argsOk "min" ⟨[a], [(Str.ofString "default", d), (Str.ofString "key", .none)]⟩ := by unfold argsOk; kernel_rfl
/-- min of an iterator, with a default and no key -/
theorem r_min {I l : Addr} {oI : Obj} {dflt : Value} {Q : Value → Shared → Prop} (hh : A.handled = none) (hu : A.units + 3 < cLine) (S : St h₀ L h m ls ((I, oI) :: ob) nw) (ho : IsLI oI l 0) (U : At l .p ds ls g)
    (q0 : ds = [] → ∀ h' tk', St h₀ L h' m ls ob nw → Q dflt (mk s h' tk'))
    (q : ∀ d ds' v h' tk', ds = d :: ds' → RelIn nw .p v (best llt d ds') → St h₀ L h' m ls ob nw → Q v (mk s h' tk')) :
    wpAny (model prog w) A (call (.builtin "min") [.ref I] [(Str.ofString "default", dflt), (Str.ofString "key", .none)]) Q E (mk s h tk) := by
  have hname : (toString "min" ++ toString ".loop" : String) = "min.loop" := by decide
  refine kmk_tree PySem.F.kind_min PySem.F.plain_min PySem.F.entry_min (kw_min _ _) ?_
  show wpAny _ A.in1 (Builtin.Builtins.bindParams "min" ["key", "default"] 0 ⟨[], [(Str.ofString "default", dflt), (Str.ofString "key", .none)]⟩ >>= _) _ _ _
  refine wpAny_bind (wpAny_of_eq (show Builtin.Builtins.bindParams "min" ["key", "default"] 0 ⟨[], [(Str.ofString "default", dflt), (Str.ofString "key", .none)]⟩ = pure [some .none, some dflt] from rfl) ?_)
  refine wpAny_bind (wpAny_pure ?_)
  refine wpAny_bind (r_pyIterLI S .head ho ?_)
  refine wpAny_bind (wpAny_newList ?_ (Nat.zero_le _))
  rw [hname]
  have S0 : St h₀ L (h.push (seqObj "list" #[] 0)) m ls ((h.objs.size, seqObj "list" #[] 0) :: (I, oI) :: ob) nw := S.addO (fun _ _ e => Heap.get?_push_of_some _ e) (Nat.le_refl _) (Heap.get?_push_size _ rfl)
  have S1 := S0.swapO
  refine wpAny_pure ⟨plainId_quiet PySem.F.plain_min_loop _, ?_⟩
  show codeAny (model prog w) A (.builtin "min.loop" ⟨[.ref I, .none, .ref h.objs.size], [(Str.ofString "default", dflt)]⟩) _ (mk s (h.push (seqObj "list" #[] 0)) tk)
  generalize h.push (seqObj "list" #[] 0) = h1 at S1
  generalize h.objs.size = B at S1
  refine codeAny_builtin PySem.F.entry_min_loop ?_
  rw [Around.under_plainId PySem.F.plain_min_loop _]
  show wpAny _ A.in1 (seqItems? (.ref B) >>= _) _ _ _
  refine wpAny_bind (wpAny_seqItems (S1.getO (.tail .head)) rfl ?_)
  show wpAny _ A.in1 (tryCatch (pyNext (.ref I)) _ >>= _) _ _ _
  cases ds with
  | nil =>
    obtain ⟨vs, n, hl, hrel⟩ := S1.isList U
    have hvs : vs = [] := by cases hrel; rfl
    subst hvs
    refine wpAny_bind (wpAny_tryCatch (wpAny_pyNext_list_end (s := mk s h1 tk) hh ⟨oI, S1.getO .head, ho.1, ho.2⟩ (PySem.IsL.isList (n := n) hl) (by simp) fun h₁ he₁ => ?_))
    have S2 := (S1.lost he₁).dropO
    show wpAny _ A.in1 (rule _ >>= _) _ _ _
    exact wpAny_bind (wpAny_rule (wpAny_pure (q0 rfl _ _ S2)))
  | cons d ds' =>
    obtain ⟨items, v, hl, hv, hr1⟩ := S1.listAt U (j := 0) (d := d) rfl
    refine wpAny_bind (wpAny_tryCatch (wpAny_pyNext_list_item (s := mk s h1 tk) ⟨oI, S1.getO .head, ho.1, ho.2⟩ hl hv fun h₁ hit₁ hs₁ => ?_))
    obtain ⟨o1, g1, g2, g3⟩ := hit₁
    have S2 : St h₀ L h₁ m ls ((I, o1) :: (B, seqObj "list" #[] 0) :: ob) nw := S1.turned .head hs₁ g1
    show wpAny _ A.in1 (pure v >>= _) _ _ _
    refine wpAny_bind (wpAny_pure ?_)
    show wpAny _ A.in1 (updateSeq B (fun _ => #[v, v]) >>= _) _ _ _
    obtain ⟨c2, hc2⟩ : ∃ c2, (h₁.update B (Obj.mapSeq fun _ => #[v, v])).get? B = some (seqObj "list" #[v, v] c2) := ⟨_, get?_update_seq (S2.getO (.tail .head)) fun _ => #[v, v]⟩
    refine wpAny_bind ?_
    refine wpAny_updateSeq (s := mk s h₁ tk) (S2.getO (.tail .head)) rfl ?_
    rw [hname]
    exact wpAny_pure ⟨plainId_quiet PySem.F.plain_min_loop _, min_loop hh hu U (fun v h' tk' hv S' => q d ds' v h' tk' rfl hv S') _ 1 d v c2 o1 _ tk rfl (by simp) ⟨g2, g3⟩ hr1 rfl (S2.turned (.tail .head) (Heap.SameBut.update ..) hc2)⟩

theorem max_loop {I B l : Addr} {dflt : Value} {res : D} {R : Result → Shared → Prop} (hh : A.handled = none) (hu : A.units + 3 < cLine) (U : At l .p ds ls g)
    (hR : ∀ v h' tk', RelIn nw .p v res → St h₀ L h' m ls ob nw → R (.ok (.ret v)) (mk s h' tk')) :
    ∀ (r j : Nat) (db : D) (vb : Value) (c : Nat) (oI : Obj) (h : Heap) (tk : Nat), ds.length - j = r → j ≤ ds.length → IsLI oI l j → RelIn nw .p vb db → best gtl db (ds.drop j) = res →
      St h₀ L h m ls ((I, oI) :: (B, seqObj "list" #[vb, vb] c) :: ob) nw → codeAny (model prog w) A (.builtin "max.loop" ⟨[.ref I, .none, .ref B], [(Str.ofString "default", dflt)]⟩) R (mk s h tk) := by
  have hname : (toString "max" ++ toString ".loop" : String) = "max.loop" := by decide
  intro r
  induction r with
  | zero =>
    intro j db vb c oI h tk hr hj ho hvb hb S
    have hj' : j = ds.length := by lia
    subst hj'
    have hres : db = res := by rw [← hb]; simp [best]
    subst hres
    obtain ⟨vs, n, hl, hrel⟩ := S.isList U
    have hvs := hrel.len
    refine codeAny_builtin PySem.F.entry_max_loop ?_
    rw [Around.under_plainId PySem.F.plain_max_loop _]
    show wpAny _ A.in1 (seqItems? (.ref B) >>= _) _ _ _
    refine wpAny_bind (wpAny_seqItems (S.getO (.tail .head)) rfl ?_)
    show wpAny _ A.in1 (tryCatch (pyNext (.ref I)) _ >>= _) _ _ _
    refine wpAny_bind (wpAny_tryCatch (wpAny_pyNext_list_end (s := mk s h tk) hh ⟨oI, S.getO .head, ho.1, ho.2⟩ (PySem.IsL.isList (n := n) hl) (by simp; lia) fun h₁ he₁ => ?_))
    have S1 := S.lost he₁
    show wpAny _ A.in1 (updateSeq B (fun _ => #[]) >>= _) _ _ _
    refine wpAny_bind ?_
    refine wpAny_updateSeq (s := mk s h₁ tk) (S1.getO .head) rfl (wpAny_bind (wpAny_letGo (wpAny_pure ?_)))
    exact hR vb _ tk hvb (S1.lost (Heap.SameBut.update ..).extBut)
  | succ r ih =>
    intro j db vb c oI h tk hr hj ho hvb hb S
    have hlt : j < ds.length := by lia
    obtain ⟨d, hd⟩ : ∃ d, ds[j]? = some d := ⟨_, List.getElem?_eq_getElem hlt⟩
    obtain ⟨items, v, hl, hv, hr1⟩ := S.listAt U hd
    rw [drop_cons hd] at hb
    refine codeAny_builtin PySem.F.entry_max_loop ?_
    rw [Around.under_plainId PySem.F.plain_max_loop _]
    show wpAny _ A.in1 (seqItems? (.ref B) >>= _) _ _ _
    refine wpAny_bind (wpAny_seqItems (S.getO (.tail .head)) rfl ?_)
    show wpAny _ A.in1 (tryCatch (pyNext (.ref I)) _ >>= _) _ _ _
    refine wpAny_bind (wpAny_tryCatch (wpAny_pyNext_list_item (s := mk s h tk) ⟨oI, S.getO .head, ho.1, ho.2⟩ hl hv fun h₁ hit₁ hs₁ => ?_))
    obtain ⟨o1, g1, g2, g3⟩ := hit₁
    have S1 : St h₀ L h₁ m ls ((I, o1) :: (B, seqObj "list" #[vb, vb] c) :: ob) nw := S.turned .head hs₁ g1
    show wpAny _ A.in1 (pure v >>= _) _ _ _
    refine wpAny_bind (wpAny_pure ?_)
    show wpAny _ A.in1 (tryCatch (holding [v, v] (richCompare .Gt v vb >>= _)) _ >>= _) _ _ _
    refine wpAny_bind (wpAny_tryCatch (wpAny_holding (wpAny_bind (r_gtP S1 (by show A.units + 1 + 2 < cLine; lia) hr1 hvb ?_))))
    refine wpAny_bind (wpAny_holding (wpAny_truthy_bool ?_))
    refine wpAny_bind (wpAny_letGo (wpAny_pure ?_))
    have hb2 : best gtl (if gtl d db then d else db) (ds.drop (j + 1)) = res := hb
    by_cases hc : gtl d db = true
    · rw [if_pos hc] at hb2
      have hc' : llt db d = true := hc
      rw [if_pos hc']
      obtain ⟨c2, hc2⟩ : ∃ c2, (h₁.update B (Obj.mapSeq fun _ => #[v, v])).get? B = some (seqObj "list" #[v, v] c2) := ⟨_, get?_update_seq (S1.getO (.tail .head)) fun _ => #[v, v]⟩
      refine wpAny_bind ?_
      refine wpAny_updateSeq (s := mk s h₁ tk) (S1.getO (.tail .head)) rfl (wpAny_bind (wpAny_letGo ?_))
      rw [hname]
      exact wpAny_pure ⟨plainId_quiet PySem.F.plain_max_loop _, ih (j + 1) d v c2 o1 _ tk (by lia) (by lia) ⟨g2, g3⟩ hr1 hb2 (S1.turned (.tail .head) (Heap.SameBut.update ..) hc2)⟩
    · rw [if_neg hc] at hb2
      have hc' : ¬ llt db d = true := hc
      rw [if_neg hc']
      refine wpAny_bind (wpAny_letGo ?_)
      rw [hname]
      exact wpAny_pure ⟨plainId_quiet PySem.F.plain_max_loop _, ih (j + 1) db vb c o1 _ tk (by lia) (by lia) ⟨g2, g3⟩ hvb hb2 S1⟩

theorem kw_max (a d : Value) : argsOk "max" ⟨[a], [(Str.ofString "default", d), (Str.ofString "key", .none)]⟩ := by unfold argsOk; kernel_rfl
/-- max of an iterator, with a default and no key -/
theorem r_max {I l : Addr} {oI : Obj} {dflt : Value} {Q : Value → Shared → Prop} (hh : A.handled = none) (hu : A.units + 3 < cLine) (S : St h₀ L h m ls ((I, oI) :: ob) nw) (ho : IsLI oI l 0) (U : At l .p ds ls g)
    (q0 : ds = [] → ∀ h' tk', St h₀ L h' m ls ob nw → Q dflt (mk s h' tk'))
    (q : ∀ d ds' v h' tk', ds = d :: ds' → RelIn nw .p v (best gtl d ds') → St h₀ L h' m ls ob nw → Q v (mk s h' tk')) :
    wpAny (model prog w) A (call (.builtin "max") [.ref I] [(Str.ofString "default", dflt), (Str.ofString "key", .none)]) Q E (mk s h tk) := by
  have hname : (toString "max" ++ toString ".loop" : String) = "max.loop" := by decide
  refine kmk_tree PySem.F.kind_max PySem.F.plain_max PySem.F.entry_max (kw_max _ _) ?_
  show wpAny _ A.in1 (Builtin.Builtins.bindParams "max" ["key", "default"] 0 ⟨[], [(Str.ofString "default", dflt), (Str.ofString "key", .none)]⟩ >>= _) _ _ _
  refine wpAny_bind (wpAny_of_eq (show Builtin.Builtins.bindParams "max" ["key", "default"] 0 ⟨[], [(Str.ofString "default", dflt), (Str.ofString "key", .none)]⟩ = pure [some .none, some dflt] from rfl) ?_)
  refine wpAny_bind (wpAny_pure ?_)
  refine wpAny_bind (r_pyIterLI S .head ho ?_)
  refine wpAny_bind (wpAny_newList ?_ (Nat.zero_le _))
  rw [hname]
  have S0 : St h₀ L (h.push (seqObj "list" #[] 0)) m ls ((h.objs.size, seqObj "list" #[] 0) :: (I, oI) :: ob) nw := S.addO (fun _ _ e => Heap.get?_push_of_some _ e) (Nat.le_refl _) (Heap.get?_push_size _ rfl)
  have S1 := S0.swapO
  refine wpAny_pure ⟨plainId_quiet PySem.F.plain_max_loop _, ?_⟩
  show codeAny (model prog w) A (.builtin "max.loop" ⟨[.ref I, .none, .ref h.objs.size], [(Str.ofString "default", dflt)]⟩) _ (mk s (h.push (seqObj "list" #[] 0)) tk)
  generalize h.push (seqObj "list" #[] 0) = h1 at S1
  generalize h.objs.size = B at S1
  refine codeAny_builtin PySem.F.entry_max_loop ?_
  rw [Around.under_plainId PySem.F.plain_max_loop _]
  show wpAny _ A.in1 (seqItems? (.ref B) >>= _) _ _ _
  refine wpAny_bind (wpAny_seqItems (S1.getO (.tail .head)) rfl ?_)
  show wpAny _ A.in1 (tryCatch (pyNext (.ref I)) _ >>= _) _ _ _
  cases ds with
  | nil =>
    obtain ⟨vs, n, hl, hrel⟩ := S1.isList U
    have hvs : vs = [] := by cases hrel; rfl
    subst hvs
    refine wpAny_bind (wpAny_tryCatch (wpAny_pyNext_list_end (s := mk s h1 tk) hh ⟨oI, S1.getO .head, ho.1, ho.2⟩ (PySem.IsL.isList (n := n) hl) (by simp) fun h₁ he₁ => ?_))
    have S2 := (S1.lost he₁).dropO
    show wpAny _ A.in1 (rule _ >>= _) _ _ _
    exact wpAny_bind (wpAny_rule (wpAny_pure (q0 rfl _ _ S2)))
  | cons d ds' =>
    obtain ⟨items, v, hl, hv, hr1⟩ := S1.listAt U (j := 0) (d := d) rfl
    refine wpAny_bind (wpAny_tryCatch (wpAny_pyNext_list_item (s := mk s h1 tk) ⟨oI, S1.getO .head, ho.1, ho.2⟩ hl hv fun h₁ hit₁ hs₁ => ?_))
    obtain ⟨o1, g1, g2, g3⟩ := hit₁
    have S2 : St h₀ L h₁ m ls ((I, o1) :: (B, seqObj "list" #[] 0) :: ob) nw := S1.turned .head hs₁ g1
    show wpAny _ A.in1 (pure v >>= _) _ _ _
    refine wpAny_bind (wpAny_pure ?_)
    show wpAny _ A.in1 (updateSeq B (fun _ => #[v, v]) >>= _) _ _ _
    obtain ⟨c2, hc2⟩ : ∃ c2, (h₁.update B (Obj.mapSeq fun _ => #[v, v])).get? B = some (seqObj "list" #[v, v] c2) := ⟨_, get?_update_seq (S2.getO (.tail .head)) fun _ => #[v, v]⟩
    refine wpAny_bind ?_
    refine wpAny_updateSeq (s := mk s h₁ tk) (S2.getO (.tail .head)) rfl ?_
    rw [hname]
    exact wpAny_pure ⟨plainId_quiet PySem.F.plain_max_loop _, max_loop hh hu U (fun v h' tk' hv S' => q d ds' v h' tk' rfl hv S') _ 1 d v c2 o1 _ tk rfl (by simp) ⟨g2, g3⟩ hr1 rfl (S2.turned (.tail .head) (Heap.SameBut.update ..) hc2)⟩
end
end

section
set_option autoImplicit false
set_option maxRecDepth 100000

section
variable {X : Pg} {mg mb : Str → Option Value} {prog : Program} {w : World} {A : Around} {E : Value → Shared → Prop} {s : Shared} {h : Heap} {tk : Nat} {h₀ : Base} {L : Addr} {m : Str → Option Value} {ls : List Ent} {ob nw : Led}

theorem St.putN {a : Addr} {o : Obj} (S : St h₀ L h m ls ob nw) (ho : h.get? a = some o) (hL : a ≠ L) (hB : h₀.hB.get? a = none) (hadr : a ∉ adr ls ob h₀) : St h₀ L h m ls ob ((a, o) :: nw) := by
  obtain ⟨rs, fs, hr, hf, N⟩ := S.led
  refine ⟨S.fr, ⟨rs, fs, hr.mono fun p hp => .tail _ hp, hf, fun p hp => ?_⟩, S.apart.1, fun b hb p hp => ?_⟩
  · rcases List.mem_append.mp hp with hp | hp
    · exact N p (List.mem_append_left _ hp)
    · rcases List.mem_append.mp hp with hp | hp
      · exact N p (List.mem_append_right _ (List.mem_append_left _ hp))
      · rcases List.mem_append.mp hp with hp | hp
        · exact N p (List.mem_append_right _ (List.mem_append_right _ (List.mem_append_left _ hp)))
        · rcases List.mem_cons.mp hp with rfl | hp
          · exact ⟨ho, hL, hB⟩
          · exact N p (List.mem_append_right _ (List.mem_append_right _ (List.mem_append_right _ hp)))
  · rcases List.mem_cons.mp hp with rfl | hp
    · exact fun e => by
        have e' : a = b := e
        subst e'
        exact hadr hb
    · exact S.apart.2 b hb p hp

theorem call_fd {k i : Nat} {args : Args} {binds : List (Str × Value)} {kn : Str} {Q : Value → Shared → Prop} (C : Cx X mg mb A h₀ L (k + 1)) (S : St h₀ L h m ls ob nw) (hi : i ∈ X.ks)
    (hbind : ∀ (s : Shared) pm code doc dA o n, s.heap.get? dA = some o → o.data = .seq #[Value.none] n → BindsTo s { Calls.docDef (nm X.P i) (pr X.P i) (bd X.P i) (sc X.P i) pm code doc with defaults := .ref dA } args binds)
    (hkind : ∀ n, ∀ x ∈ binds, (sc X.P i).names.lookup x.1 = some .local ∨ ((sc X.P i).names.lookup x.1 = some .cell ∧ ((cellsFrom n (sc X.P i).names []).lookup x.1).isSome = true))
    (hcells : ∀ n, cellsFrom n (sc X.P i).names [] = [(kn, n)])
    (q : ∀ g L' h₁ tk code oc, Cx X mg mb (A.deeper (envX (nm X.P i) (sc X.P i) L' (fa X.P mg i) code [(kn, L' + 1)])) g L' k →
      oc.data = .cell (bindC (envX (nm X.P i) (sc X.P i) L' (fa X.P mg i) code [(kn, L' + 1)]).kindOf binds (fun _ => none) kn) →
      St g L' h₁ (bindL (envX (nm X.P i) (sc X.P i) L' (fa X.P mg i) code [(kn, L' + 1)]).kindOf binds fun _ => none) ls ob ((L' + 1, oc) :: nw) →
      wpAny (model prog w) (A.deeper (envX (nm X.P i) (sc X.P i) L' (fa X.P mg i) code [(kn, L' + 1)])) (execs (bd X.P i) (envX (nm X.P i) (sc X.P i) L' (fa X.P mg i) code [(kn, L' + 1)]))
        (fun fl s' => Back s h₀ L m g L' Q (retOf fl) s') (fun _ _ => False) (mk s h₁ tk))
    (hco : (sc X.P i).isCoroutine = false := by rfl) (hgen : (sc X.P i).isGenerator = false := by rfl) (hk : (sc X.P i).kind = .function := by rfl) :
    wpAny (model prog w) A (call (.ref (fa X.P mg i)) args.pos args.kw) Q E (mk s h tk) := by
  obtain ⟨env, outer, hA, hf, hke, hout⟩ := C.below
  obtain ⟨_, o, pm, code, doc, dA, dO, dn, h2, h3, h4, h5, h6⟩ := (C.gd.keeps S.fr.keep).fd i hi
  obtain ⟨rs, fs, hr, hfu, N⟩ := S.led
  obtain ⟨oL, es, ep, hgL, hdL, hskL, hmL⟩ := S.fr.ns
  have hd := C.depth
  have hu := C.units
  have hLlt : L < h.objs.size := Heap.lt_size hgL
  refine wpAny_call (codeAny_call_function (s := mk s h tk) (by show _ < 1000; lia) h2 h3 hco hgen rfl h4 (hbind (mk s h tk) pm code doc dA dO dn h5 h6 _ _ _ _ ?_))
  refine wpAny_newFunctionEnv_cells hk (hkind _) fun env' he s' x => ?_
  have he' : env' = envX (nm X.P i) (sc X.P i) h.objs.size (fa X.P mg i) code [(kn, h.objs.size + 1)] := by
    rw [he]
    show newEnv _ _ _ (cellsFrom (h.objs.size + 1) (sc X.P i).names []) _ _ _ _ _ = _
    rw [hcells]; rfl
  clear he
  subst he'
  refine ⟨(C.gd.nolimit.keeps S.fr.keep).keeps x.toInCall.keep, codeAny_func ?_⟩
  obtain ⟨h₁, tk₁, rfl, _⟩ := x.done
  have hns' : h₁.Ns h.objs.size (bindL (envX (nm X.P i) (sc X.P i) h.objs.size (fa X.P mg i) code [(kn, h.objs.size + 1)]).kindOf binds fun _ => none) := x.toInCall.ns
  have hk₁' : ∀ b o, h.get? b = some o → h₁.get? b = some o := x.toInCall.keep
  obtain ⟨oc, hoc, hocd⟩ := x.cell kn (h.objs.size + 1) (by simp [List.lookup])
  have C' : Cx X mg mb (A.deeper (envX (nm X.P i) (sc X.P i) h.objs.size (fa X.P mg i) code [(kn, h.objs.size + 1)])) ⟨h₀.hB, (L, oL) :: h₀.frs⟩ h.objs.size k :=
    ⟨C.gd, ⟨_, env :: outer, by show Option.map _ A.frames = _; rw [hA]; rfl, rfl, hk, .cons ⟨by rw [hke]; decide, hf, es, ep, hdL⟩ hout⟩, by show A.depth + 1 + k < 900; lia, by show A.units + 3 + 3 * k < 9000; lia, C.handled⟩
  have hp1 : (adr ls ob ⟨h₀.hB, (L, oL) :: h₀.frs⟩).Perm (L :: adr ls ob h₀) := by
    unfold adr
    exact (List.Perm.append_left _ List.perm_middle).trans List.perm_middle
  have S' : St ⟨h₀.hB, (L, oL) :: h₀.frs⟩ h.objs.size h₁ (bindL (envX (nm X.P i) (sc X.P i) h.objs.size (fa X.P mg i) code [(kn, h.objs.size + 1)]).kindOf binds fun _ => none) ls ob nw := by
    refine ⟨⟨hns', fun b o e => hk₁' b o (S.fr.keep b o e), Nat.le_trans S.fr.above (Nat.le_of_lt hLlt)⟩, ⟨rs, (L, oL) :: fs, hr, .cons ⟨rfl, oL.slots, rfl⟩ hfu, fun p hp => ?_⟩, ?_, ?_⟩
    · by_cases hpL : p = (L, oL)
      · subst hpL
        exact ⟨hk₁' _ _ hgL, Nat.ne_of_lt hLlt, Heap.get?_none_of_le S.fr.above⟩
      · have hp' : p ∈ rs ++ (ob ++ (fs ++ nw)) := by
          rcases List.mem_append.mp hp with hp | hp
          · exact List.mem_append_left _ hp
          · rcases List.mem_append.mp hp with hp | hp
            · exact List.mem_append_right _ (List.mem_append_left _ hp)
            · rcases List.mem_cons.mp hp with hp | hp
              · exact absurd hp hpL
              · exact List.mem_append_right _ (List.mem_append_right _ hp)
        exact ⟨hk₁' _ _ (N p hp').1, Nat.ne_of_lt (Heap.lt_size (N p hp').1), (N p hp').2.2⟩
    · exact hp1.nodup_iff.mpr (List.nodup_cons.mpr ⟨fun q => (S.low.1 L q).2 rfl, S.apart.1⟩)
    · intro b hb p hp
      rcases List.mem_cons.mp (hp1.mem_iff.mp hb) with rfl | hb
      · exact (S.news p hp).2.1
      · exact S.apart.2 b hb p hp
  have S'' := S'.putN (a := h.objs.size + 1) (o := oc) hoc (Nat.succ_ne_self _) (Heap.get?_none_of_le (Nat.le_trans S.fr.above (Nat.le_trans (Nat.le_of_lt hLlt) (Nat.le_succ _)))) (fun hm => by
    rcases List.mem_cons.mp (hp1.mem_iff.mp hm) with e | hm
    · have := hLlt; rw [← e] at this; exact absurd this (Nat.not_lt.mpr (Nat.le_succ _))
    · have := (S.low.1 _ hm).1; exact absurd this (Nat.not_lt.mpr (Nat.le_succ _)))
  refine wpAny_mono (q ⟨h₀.hB, (L, oL) :: h₀.frs⟩ h.objs.size h₁ tk₁ code oc C' hocd S'') (fun fl s' hb => ?_) fun e s' hr => hr.elim
  obtain ⟨h', tk', m', ls', ob', nw', rfl, S3, hq⟩ := hb
  exact hq (S3.back hdL hskL hmL S.fr.above)

/-- the cell's name -/
theorem r_loadK {name : Str} {scope : Scope} {f : Addr} {cd : Value} {kn : Str} {c : Addr} {oc : Obj} {v : Value} {pos : Pos} {Q : Value → Shared → Prop} (S : St h₀ L h m ls ob nw) (hc : (c, oc) ∈ nw) (hd : oc.data = .cell (some v)) (q : Q v (mk s h tk))
    (hk : scope.kind = .function := by rfl) (hl : (envX name scope L f cd [(kn, c)]).kindOf kn = some .cell := by rfl) (hdb : (kn == ("__debug__" : Str)) = false := by decide) :
    wpAny (model prog w) A (eval (.Name kn pos) (envX name scope L f cd [(kn, c)])) Q E (mk s h tk) :=
  wpAny_Name (wpAny_loadName_cell hk hl (c := c) (by simp [List.lookup]) ⟨oc, S.gets _ hc, hd⟩ q) hdb

/-- a def with a default by its name, arguments by place -/
theorem r_callD {k : Nat} (i : Nat) {name : Str} {scope : Scope} {f : Addr} {cd : Value} {cl : List (Str × Addr)} {x : Str} {np pos : Pos} {e : PySem.Expr} {rest : List PySem.Expr} {Q : Value → Shared → Prop} (C : Cx X mg mb A h₀ L k) (S : St h₀ L h m ls ob nw) (hi : i ∈ X.ks) (hx : nm X.P i = x)
    (q : wpAny (model prog w) A (spliced (backTo pos (starEach (e :: rest) (envX name scope L f cd cl)))) (fun vs s₁ => (∀ b o, h₀.hB.get? b = some o → s₁.heap.get? b = some o) ∧ wpAny (model prog w) A (call (.ref (fa X.P mg i)) vs) Q E s₁) E (mk s h tk))
    (he : starEach (e :: rest) (envX name scope L f cd cl) = (false, eval e (envX name scope L f cd cl)) :: starEach rest (envX name scope L f cd cl) := by rfl)
    (hk : scope.kind = .function := by rfl) (hl : (envX name scope L f cd cl).kindOf x = some .globalImplicit := by rfl) (hd : (x == ("__debug__" : Str)) = false := by decide) :
    wpAny (model prog w) A (eval (.Call (.Name x np) (e :: rest) [] pos) (envX name scope L f cd cl)) Q E (mk s h tk) := by
  obtain ⟨hmg, o, pm, code, doc, dA, dO, dn, h2, h3, h4, h5, h6⟩ := C.gd.fd i hi
  subst hx
  refine Call_ (Calls.Name_function_global hk hl (Calls.loadGlobal_global (s := mk s h tk) (env := envX name scope L f cd cl) (C.gd.g.keeps S.fr.keep) hmg ?_) hd)
  exact callWith_def (o := o) h3 (wpAny_mono q (fun vs s₁ hq => ⟨hq.1 _ _ h2, hq.2⟩) fun _ _ x => x) he
end
end

section
set_option autoImplicit false
set_option maxRecDepth 100000

def pickD (ds : List D) (lo hi st : Option Int) : List D := (sliceRange (sliceBounds lo hi st ds.length).1 (sliceBounds lo hi st ds.length).2.1 (sliceBounds lo hi st ds.length).2.2).filterMap (ds[·]?)
theorem All2.idx {R : Value → D → Prop} {vs : List Value} {ds : List D} (h : All2 R vs ds) : ∀ l : List Nat, All2 R (l.filterMap (vs[·]?)) (l.filterMap (ds[·]?))
  | [] => .nil
  | i :: l => by
    have ih := h.idx l
    cases e : ds[i]? with
    | none =>
      have : vs[i]? = none := by
        have := h.len
        have h1 := List.getElem?_eq_none_iff.mp e
        exact List.getElem?_eq_none_iff.mpr (by lia)
      simp [e, this]; exact ih
    | some d =>
      obtain ⟨v, e1, r⟩ := h.get e
      simp [e, e1]; exact .cons r ih

theorem pick_upto (ds : List D) {y : Int} (h : 0 ≤ y) : pickD ds none (some y) none = ds.take y.toNat := by
  have e : sliceBounds none (some y) none ds.length = (((0 : Nat) : Int), ((min y.toNat ds.length : Nat) : Int), 1) := by
    simp only [sliceBounds, Option.getD_none, show (1 : Int) > 0 by decide, if_true, if_neg (show ¬ (y < 0) by lia)]
    congr 1
    congr 1
    lia
  unfold pickD
  rw [e]
  simp only [sliceRange_one]
  rw [← kmk_take_min]
  have : ∀ n, n ≤ ds.length → ((List.range (n - 0)).map (0 + ·)).filterMap (ds[·]?) = ds.take n := by
    intro n hn
    simp only [Nat.sub_zero, Nat.zero_add, List.map_id']
    refine List.ext_getElem? fun i => ?_
    induction n with
    | zero => simp
    | succ n ih =>
      rw [List.range_succ, List.filterMap_append]
      have hl : ((List.range n).filterMap (ds[·]?)).length = n := by
        rw [List.length_filterMap_eq_countP]
        rw [List.countP_eq_length.mpr]
        · simp
        · intro a ha; have := List.mem_range.mp ha; simp [show a < ds.length by lia]
      have hn' : ds[n]? = some ds[n] := List.getElem?_eq_getElem (by lia)
      by_cases hi : i < n
      · rw [List.getElem?_append_left (by lia), ih (by lia)]
        simp [List.getElem?_take, hi, show i < n + 1 by lia]
      · rw [List.getElem?_append_right (by lia), hl]
        by_cases hi2 : i = n
        · subst hi2; simp [hn', List.getElem?_take]
        · have : 1 ≤ i - n := by lia
          simp [hn', List.getElem?_take, show ¬ i < n + 1 by lia]
          lia
  exact this _ (by lia)

theorem pick_back (ds : List D) : pickD ds none none (some (-1)) = ds.reverse := by
  have e : sliceBounds none none (some (-1)) ds.length = ((ds.length : Int) - 1, -1, -1) := by
    simp [sliceBounds]
  unfold pickD
  rw [e]
  unfold sliceRange
  by_cases h0 : ds.length = 0
  · have : ds = [] := List.length_eq_zero_iff.mp h0
    subst this; simp
  · have hc : (if (-1 : Int) > 0 then (if (ds.length : Int) - 1 < -1 then (-1 - ((ds.length : Int) - 1) + -1 - 1) / -1 else 0) else (if (ds.length : Int) - 1 > -1 then ((ds.length : Int) - 1 - -1 - -1 - 1) / (- -1) else 0)).toNat = ds.length := by
      rw [if_neg (by decide), if_pos (by lia)]
      simp
    simp only [hc]
    have key : ∀ n, n ≤ ds.length → ((List.range n).map fun (k : Nat) => ((ds.length : Int) - 1 + -1 * (k : Int)).toNat).filterMap (ds[·]?) = ds.reverse.take n := by
      intro n hn
      induction n with
      | zero => simp
      | succ n ih =>
        rw [List.range_succ, List.map_append, List.filterMap_append, ih (by lia), List.take_add_one]
        congr 1
        rw [show ds.reverse[n]? = some ds[ds.length - 1 - n] by rw [List.getElem?_reverse (by lia)]; exact List.getElem?_eq_getElem (by lia)]
        simp only [List.map_cons, List.map_nil, List.filterMap_cons, List.filterMap_nil]
        rw [show ((ds.length : Int) - 1 + -1 * (n : Int)).toNat = ds.length - 1 - n by lia, List.getElem?_eq_getElem (by lia)]
        rfl
    rw [key _ (Nat.le_refl _), List.take_of_length_le (by simp)]

section
variable {X : Pg} {mg mb : Str → Option Value} {prog : Program} {w : World} {A : Around} {E : Value → Shared → Prop} {s : Shared} {h : Heap} {tk : Nat} {h₀ : Base} {L : Addr} {m : Str → Option Value} {ls : List Ent} {ob nw : Led} {l : Addr} {k : Kd} {ds : List D} {g : List D → List Ent} {Q : Value → Shared → Prop}

theorem r_slice {value : PySem.Expr} {a b c : Option PySem.Expr} {p : Pos} {vl vu vs : Value} {lo hi st : Option Int} (S : St h₀ L h m ls ob nw) (U : At l k ds ls g) (pl : IsPart vl lo) (pu : IsPart vu hi) (ps : IsPart vs st) (h0 : st ≠ some 0) (hz : ds.length < 1000)
    {ops : List Value} (hsub : subscripted (.Slice a b c p) false (.ref l) (.ref h.objs.size) = operate ops (getItem (.ref l) (.ref h.objs.size)))
    (q : ∀ D h', St h₀ L h' m ((D, k, pickD ds lo hi st) :: ls) ob nw → Q (.ref D) (mk s h' tk)) :
    wpAny (model prog w) A (subscriptTail value (.Slice a b c p) (.ref l) (.ref h.objs.size)) Q E (mk s (h.push { cls := .type "slice", data := .fields #[vl, vu, vs] }) tk) := by
  obtain ⟨xs, n, hl, hr⟩ := S.isList U
  have hlen := hr.len
  have S1 := S.grown fun _ _ e => Heap.get?_push_of_some ({ cls := .type "slice", data := .fields #[vl, vu, vs] } : Obj) e
  have hl1 : (mk s (h.push { cls := .type "slice", data := .fields #[vl, vu, vs] }) tk).heap.IsList l xs.toArray := (PySem.IsL.isList (n := n) hl).push _
  have go : wpAny (model prog w) A (getItem (.ref l) (.ref h.objs.size)) Q E (mk s (h.push { cls := .type "slice", data := .fields #[vl, vu, vs] }) tk) := by
    refine wpAny_getItem_list_slice hl1 (Heap.IsSliceOf.new ..) pl pu ps h0 ?_ (by rw [sizeLine_eq]; simp; lia)
    have hp : slicePick xs.toArray lo hi st = ((sliceRange (sliceBounds lo hi st ds.length).1 (sliceBounds lo hi st ds.length).2.1 (sliceBounds lo hi st ds.length).2.2).filterMap (xs[·]?)).toArray := by
      unfold slicePick
      rw [List.size_toArray, hlen]
      congr 1
      congr 1
      funext i
      simp
    rw [hp]
    exact q _ _ (S1.addL (fun _ _ e => Heap.get?_push_of_some _ e) (Nat.le_refl _) (Heap.get?_push_size _ rfl) (hr.idx _))
  unfold subscriptTail
  refine wpAny_bind ?_
  rw [getitemInPython_of_ne hl1.typeIs.not_modules]
  refine wpAny_bind (wpAny_specialOf hl1.typeIs list_getitem_lookup ?_)
  have fin : wpAny (model prog w) A (subscripted (.Slice a b c p) false (.ref l) (.ref h.objs.size)) (fun r s₃ => wpAny (model prog w) A (letTemporaryGo value (.ref l) r >>= fun _ => pure r) Q E s₃) E (mk s (h.push { cls := .type "slice", data := .fields #[vl, vu, vs] }) tk) := by
    rw [hsub]
    exact wpAny_operating (wpAny_mono go (fun r s₃ h₃ => wpAny_bind (wpAny_letTemporaryGo (wpAny_pure h₃))) fun _ _ x => x)
  first
    | exact wpAny_pure (wpAny_bind fin)
    | exact wpAny_bind (wpAny_pure (wpAny_bind fin))
    | exact wpAny_bind fin

theorem r_sorted {kw : List (Str × Value)} {b : Bool} (S : St h₀ L h m ls ob nw) (U : At l k ds ls g) (hk : k ≠ .i) (hz : ds.length < 64) (hu : A.units + 4 < cLine)
    (he : ∀ a, Builtin.«list.sort» ⟨[.ref a], kw⟩ = sortTree a b) (ha1 : argsOk "sorted" ⟨[.ref l], kw⟩) (ha2 : ∀ a, argsOk "list.sort" ⟨[.ref a], kw⟩)
    (q : ∀ D h', St h₀ L h' m ((D, k, sortB b ds) :: ls) ob nw → Q (.ref D) (mk s h' tk)) : wpAny (model prog w) A (call (.builtin "sorted") [.ref l] kw) Q E (mk s h tk) := by
  obtain ⟨vs, n, hl, hr⟩ := S.isList U
  have hlen := hr.len
  refine call_function_entry_kw kind_sorted plain_sorted entry_sorted ha1 ?_
  unfold Builtin.«sorted»
  refine wpAny_bind (m := checkCount "sorted" 1 1 _) (wpAny_pure ?_)
  refine wpAny_bind (collect_list (s := mk s h tk) (PySem.IsL.isList (n := n) hl) ?_ (by rw [sizeLine_eq]; lia))
  refine wpAny_bind (wpAny_newList ?_ (by rw [sizeLine_eq]; lia))
  have keep : ∀ b o, h.get? b = some o → ((h.push (seqObj "list" #[] 0)).update h.objs.size (Obj.mapSeq (· ++ vs.toArray))).get? b = some o := fun b o e => by
    have hlt : b < h.objs.size := Heap.lt_size e
    rw [Heap.get?_update_ne _ _ _ _ (Nat.ne_of_lt hlt), Heap.get?_push_ne _ _ _ (Nat.ne_of_lt hlt)]
    exact e
  have S1 := S.grown keep
  have S2 := S1.addL (k := k) (ds := ds) (vs := vs) (n := 0) (a := ((h.push (seqObj "list" #[] 0)).update h.objs.size (Obj.mapSeq (· ++ vs.toArray))).objs.size)
    (h' := ((h.push (seqObj "list" #[] 0)).update h.objs.size (Obj.mapSeq (· ++ vs.toArray))).push (seqObj "list" vs.toArray 0)) (fun _ _ e => Heap.get?_push_of_some _ e) (Nat.le_refl _) (Heap.get?_push_size _ rfl) hr
  refine wpAny_bind (wpAny_holding (r_sort S2 .head hk hz (by show A.units + 1 + 3 < cLine; lia) (he _) (ha2 _) fun h' S' => wpAny_pure ⟨_, rfl, q _ h' S'⟩))

theorem mro_object' : mroOf (.type "object") = pure [.type "object"] := by rw [mroOf_type]; kernel_rfl
theorem lookup_object_new' : typeLookup (.type "object") "__new__" = pure (some (.builtin "object.__new__")) := by rw [typeLookup_type, builtinLookup_eq_fast]; kernel_rfl
theorem called_object : TypeCalled "object" "object.__new__" "object.__init__" :=
  ⟨by decide +kernel, by decide +kernel, ⟨_, _, mro_object'⟩, madeBy_type mro_object' lookup_object_new' (by decide +kernel), by decide +kernel, by rw [isSubtype_type]; kernel_rfl, PySem.F.slot_object_init⟩
abbrev objO : Obj := { cls := .type "object", data := .plain }
theorem meets_object_new : Meets (Builtin.«object.__new__» ⟨[.type "object"], []⟩) (fun _ R s => R (.ok (.ret (.ref s.heap.objs.size))) { s with heap := s.heap.push objO }) :=
  .of_wp fun prog w A R s h => by
    obtain ⟨hp, g, d, tk, os⟩ := s
    have hl := lookup_object_new'
    have hm := called_object.made
    have hsub := called_object.sub
    show wpAny _ _ (Bind.madeHere "object.__new__" (.type "object") >>= _) _ _ _
    refine wpAny_bind ?_
    unfold Bind.madeHere
    refine wpAny_bind (wpAny_of_eq (show Bind.staticBase (.type "object") = pure (.type "object") by first | rfl | kernel_rfl) ?_)
    refine wpAny_bind (wpAny_of_eq hm ?_)
    rw [if_neg (by decide +kernel)]
    refine wpAny_pure ?_
    have hd : typeHasDict (.type "object") = false := by decide +kernel
    have hdel : diesByItsTypesDel "object" = false := by decide +kernel
    show wpAny _ _ (if typeHasDict (.type "object") = true then _ else _) _ _ _
    rw [hd]
    simp only [Bool.false_eq_true, if_false]
    refine wpAny_bind (wpAny_pure ?_)
    refine wpAny_bind (wpAny_newObj_type ?_ (by size_fits))
    show wpAny _ _ (if diesByItsTypesDel "object" = true then _ else _) _ _ _
    rw [hdel]
    simp only [Bool.false_eq_true, if_false]
    exact wpAny_pure ⟨_, rfl, h⟩

theorem object_init1 (self : Value) : Meets (Builtin.«object.__init__» ⟨[self], []⟩) (fun _ R s => R (.ok (.ret .none)) s) :=
  .of_wp fun prog w A R s h => wpAny_pure ⟨_, rfl, h⟩
theorem r_object (S : St h₀ L h m ls ob nw) (q : ∀ O h', St h₀ L h' m ls ((O, objO) :: ob) nw → Q (.ref O) (mk s h' tk)) : wpAny (model prog w) A (call (.type "object") []) Q E (mk s h tk) := by
  refine callType_meets (Q₁ := fun obj s₁ => s₁.TypeIs obj "object" ∧ Q obj s₁) called_object (by kernel_rfl) (by kernel_rfl) (entryFor_of_tree (b := Builtin.«object.__new__») (by kernel_rfl)) PySem.F.entry_object_init meets_object_new ?_ fun obj _ hq =>
    ⟨hq.1, (by unfold argsOk; kernel_rfl), _, object_init1 _, rfl, hq.2⟩
  have S1 := S.addO (fun _ _ e => Heap.get?_push_of_some objO e) (Nat.le_refl _) (Heap.get?_push_size _ rfl)
  exact ⟨⟨_, S1.getO .head, rfl⟩, q _ _ S1⟩

/-- a built-in function by its name, with keywords -/
theorem r_callBK {q : Nat} {id : String} {name : Str} {scope : Scope} {f : Addr} {cd : Value} {cl : List (Str × Addr)} {x : Str} {np pos : Pos} {e : PySem.Expr} {rest : List PySem.Expr} {kws : List Keyword} (C : Cx X mg mb A h₀ L q) (S : St h₀ L h m ls ob nw) (hx : x ∈ X.free) (hv : bootBuiltins x = some (.builtin id))
    (qq : wpAny (model prog w) A (spliced (backTo pos (starEach (e :: rest) (envX name scope L f cd cl)))) (fun vs s₁ => wpAny (model prog w) A (evalAll ((backToKw pos (keywordEach kws (envX name scope L f cd cl))).map (·.2)))
      (fun kvs s₂ => wpAny (model prog w) A (call (.builtin id) vs (((backToKw pos (keywordEach kws (envX name scope L f cd cl))).filterMap (·.1)).zip kvs)) Q E s₂) E s₁) E (mk s h tk))
    (hn : x ≠ "__name__" := by decide +kernel)
    (he : eval (.Call (.Name x np) (e :: rest) kws pos) (envX name scope L f cd cl) = (do callWith pos (← eval (.Name x np) (envX name scope L f cd cl)) [] (backTo pos (starEach (e :: rest) (envX name scope L f cd cl))) (backToKw pos (keywordEach kws (envX name scope L f cd cl)))) := by rfl)
    (he2 : backTo pos (starEach (e :: rest) (envX name scope L f cd cl)) = (false, eval e (envX name scope L f cd cl)) :: backTo pos (starEach rest (envX name scope L f cd cl)) := by rfl)
    (hplain : (backTo pos (starEach (e :: rest) (envX name scope L f cd cl))).any (·.1) = false := by rfl)
    (hall : (backToKw pos (keywordEach kws (envX name scope L f cd cl))).all (·.1.isSome) = true := by rfl)
    (hkw : (backToKw pos (keywordEach kws (envX name scope L f cd cl))).any (·.1.isNone) = false := by rfl)
    (hk : scope.kind = .function := by rfl) (hl : (envX name scope L f cd cl).kindOf x = some .globalImplicit := by rfl) (hd : (x == ("__debug__" : Str)) = false := by decide) :
    wpAny (model prog w) A (eval (.Call (.Name x np) (e :: rest) kws pos) (envX name scope L f cd cl)) Q E (mk s h tk) := by
  rw [he]
  exact wpAny_bind (r_blt C S hx hv (callWith_kw qq he2 hplain hall hkw) hn hk hl hd)

/-- a method with keywords alone -/
theorem callWith_mk {env : Env} {pos : Pos} {id : String} {first : List Value} {kws : List Keyword}
    (qq : wpAny (model prog w) A (evalAll ((backToKw pos (keywordEach kws env)).map (·.2))) (fun kvs s₂ => wpAny (model prog w) A (call (.builtin id) first (((backToKw pos (keywordEach kws env)).filterMap (·.1)).zip kvs)) Q E s₂) E (mk s h tk))
    (hall : (backToKw pos (keywordEach kws env)).all (·.1.isSome) = true := by rfl)
    (hkw : (backToKw pos (keywordEach kws env)).any (·.1.isNone) = false := by rfl) :
    wpAny (model prog w) A (callWith pos (.builtin id) first (backTo pos (starEach [] env)) (backToKw pos (keywordEach kws env))) Q E (mk s h tk) := by
  refine callWith_builtin_kwB rfl hkw (evalArgs_kw2_nil hall (wpAny_mono qq (fun kvs s₂ hh => ?_) fun _ _ x => x))
  simpa using hh

theorem r_isO {O : Addr} {gO : Obj → Led} {v : Value} {d : D} (S : St h₀ L h m ls ob nw) (UO : AtO O objO ob gO) (hv : RelIn nw .p v d) (q : Q (.bool false) (mk s h tk)) : wpAny (model prog w) A (compareOp .Is v (.ref O)) Q E (mk s h tk) := by
  obtain ⟨a, n, x, t, y, u, rfl, m1, rfl⟩ := hv
  have g1 := S.gets _ m1
  have g2 := S.getO UO
  have hne : a ≠ O := by
    intro e; subst e
    have := Option.some.inj (g2.symm.trans g1)
    have := congrArg Obj.data this
    cases this
  show wpAny (model prog w) A (do return .bool (← isSame (.ref a) (.ref O))) Q E _
  refine wpAny_bind ?_
  show wpAny (model prog w) A (if (a == O) = true then pure true else _) _ E _
  rw [if_neg (by simpa using hne)]
  refine wpAny_bind (wpAny_load (s := mk s h tk) g1 (wpAny_bind (wpAny_load g2 ?_)))
  exact wpAny_pure (wpAny_pure q)
theorem Cx.u4 {k : Nat} (C : Cx X mg mb A h₀ L k) : A.units + 4 < cLine := by
  have := C.units; show _ < 9900; lia
theorem St.swapL {x y : Ent} (S : St h₀ L h m (x :: y :: ls) ob nw) : St h₀ L h m (y :: x :: ls) ob nw := by
  obtain ⟨rs, fs, hr, hf, N⟩ := S.led
  have hp : (adr (x :: y :: ls) ob h₀).Perm (adr (y :: x :: ls) ob h₀) := by
    unfold adr
    exact List.Perm.append_right _ (by simpa using List.Perm.swap y.1 x.1 (ls.map (·.1)))
  obtain _ | ⟨r1, hr⟩ := hr
  rename_i a rs
  obtain _ | ⟨r2, hr⟩ := hr
  rename_i b rs
  refine ⟨S.fr, ⟨b :: a :: rs, fs, .cons r2 (.cons r1 hr), hf, fun p hp => N p ?_⟩, hp.nodup_iff.mp S.apart.1, fun c hc p hp' => S.apart.2 c (hp.mem_iff.mpr hc) p hp'⟩
  rcases List.mem_append.mp hp with hp | hp
  · refine List.mem_append_left _ ?_
    rcases List.mem_cons.mp hp with rfl | hp
    · exact .tail _ (.head _)
    · rcases List.mem_cons.mp hp with rfl | hp
      · exact .head _
      · exact .tail _ (.tail _ hp)
  · exact List.mem_append_right _ hp
end
end

section
set_option autoImplicit false

def Sd (lt : D → D → Bool) (l : List D) : Prop := l.Pairwise fun a b => lt b a = false
theorem Sd.uniq {lt : D → D → Bool} (T : Tot lt) : ∀ {a b : List D}, Sd lt a → Sd lt b → a.Perm b → a = b
  | [], b, _, _, p => by have := p.length_eq; simp at this; exact (List.length_eq_zero_iff.mp this.symm).symm
  | x :: a, [], _, _, p => by have := p.length_eq; simp at this
  | x :: a, y :: b, ha, hb, p => by
    have hxy : x = y := by
      have hx : x ∈ y :: b := p.mem_iff.mp (.head _)
      have hy : y ∈ x :: a := p.mem_iff.mpr (.head _)
      rcases List.mem_cons.mp hx with e | hx
      · exact e
      · rcases List.mem_cons.mp hy with e | hy
        · exact e.symm
        · exact T.tri _ _ ((List.pairwise_cons.mp hb).1 x hx) ((List.pairwise_cons.mp ha).1 y hy)
    subst hxy
    rw [Sd.uniq T (List.pairwise_cons.mp ha).2 (List.pairwise_cons.mp hb).2 p.cons_inv]
/-- what the last number does not change -/
def App (lt : D → D → Bool) : Prop := ∀ (d d' : D) (z z' : Int), d.length = 2 → d'.length = 2 → lt (d ++ [z]) (d' ++ [z']) = false → lt d d' = false
theorem app_llt : App llt := fun d d' z z' h1 h2 h => by
  rw [llt_append_one (by lia)] at h
  split at h
  · rename_i e; subst e; exact llt_tot.irr _
  · exact h
theorem app_gtl : App gtl := fun d d' z z' h1 h2 h => app_llt d' d z' z h2 h1 h

/-- the pair of a pair with its number -/
def fst2 (e : D) : D := e.take 2
theorem fst2_app {d : D} {z : Int} (h : d.length = 2) : fst2 (d ++ [z]) = d := by unfold fst2; rw [List.take_append_of_le_length (by lia), List.take_of_length_le (by lia)]
def Nd (res : List D) : Prop := ∀ e ∈ res, ∃ d z, d.length = 2 ∧ e = d ++ [z]

structure Few (lt : D → D → Bool) (res seen : List D) : Prop where
  nd : Nd res
  hp : Hp (fun a b => lt b a) 0 res
  part : ∃ rest, ((res.map fst2) ++ rest).Perm seen ∧ ∀ r ∈ rest, ∀ m ∈ res.map fst2, lt r m = false

theorem Few.top {lt : D → D → Bool} (T : Tot lt) (P : App lt) {res seen : List D} (F : Few lt res seen) (h0 : 0 < res.length) : ∀ x ∈ res.map fst2, lt (fst2 (res.getD 0 [])) x = false := by
  intro x hx
  obtain ⟨e, he, rfl⟩ := List.mem_map.mp hx
  have Tf : Tot (fun a b => lt b a) := ⟨T.irr, fun _ _ _ h1 h2 => T.tr _ _ _ h2 h1, fun _ _ h1 h2 => T.tri _ _ h2 h1⟩
  have h1 : lt (res.getD 0 []) e = false := root_least_mem Tf F.hp he
  obtain ⟨d, z, hd, rfl⟩ := F.nd e he
  obtain ⟨d', z', hd', e'⟩ := F.nd _ (getD0_mem h0)
  rw [e'] at h1 ⊢
  rw [fst2_app hd, fst2_app hd']
  exact P _ _ _ _ hd' hd h1

theorem Few.keep {lt : D → D → Bool} (T : Tot lt) (P : App lt) {res seen : List D} {x : D} (F : Few lt res seen) (h0 : 0 < res.length) (hx : lt x (fst2 (res.getD 0 [])) = false) : Few lt res (seen ++ [x]) := by
  obtain ⟨rest, p, hr⟩ := F.part
  refine ⟨F.nd, F.hp, rest ++ [x], ?_, fun r hr' m hm => ?_⟩
  · rw [← List.append_assoc]; exact p.append_right _
  · rcases List.mem_append.mp hr' with hr' | hr'
    · exact hr r hr' m hm
    · have e : r = x := by simpa using hr'
      subst e
      exact T.le_tr (F.top T P h0 m hm) hx

theorem Few.swap {lt : D → D → Bool} (T : Tot lt) (P : App lt) {res seen : List D} {x : D} {z : Int} (F : Few lt res seen) (h0 : 0 < res.length) (hl : x.length = 2) (hx : lt x (fst2 (res.getD 0 [])) = true) : Few lt (hrepl (fun a b => lt b a) res (x ++ [z])) (seen ++ [x]) := by
  have Tf : Tot (fun a b => lt b a) := ⟨T.irr, fun _ _ _ h1 h2 => T.tr _ _ _ h2 h1, fun _ _ h1 h2 => T.tri _ _ h2 h1⟩
  obtain ⟨rest, p, hr⟩ := F.part
  have pm := hrepl_perm (lt := fun a b => lt b a) (d := x ++ [z]) h0
  have sub : ∀ e ∈ hrepl (fun a b => lt b a) res (x ++ [z]), e = x ++ [z] ∨ e ∈ res := fun e he => by
    rcases List.mem_cons.mp (pm.mem_iff.mp (.tail _ he)) with h | h
    · exact .inl h
    · exact .inr h
  have sub2 : ∀ m ∈ (hrepl (fun a b => lt b a) res (x ++ [z])).map fst2, m = x ∨ m ∈ res.map fst2 := fun m hm => by
    obtain ⟨e, he, rfl⟩ := List.mem_map.mp hm
    rcases sub e he with rfl | h
    · exact .inl (fst2_app hl)
    · exact .inr (List.mem_map_of_mem h)
  refine ⟨fun e he => ?_, hrepl_hp Tf h0 F.hp, fst2 (res.getD 0 []) :: rest, ?_, fun r hr' m hm => ?_⟩
  · rcases sub e he with rfl | h
    · exact ⟨x, z, hl, rfl⟩
    · exact F.nd e h
  · have pm2 := pm.map fst2
    simp only [List.map_cons, fst2_app hl] at pm2
    refine (List.perm_middle.trans ((pm2.append_right rest).trans ?_))
    rw [List.cons_append]
    exact (p.cons x).trans (List.perm_append_comm (l₁ := [x]) (l₂ := seen))
  · rcases List.mem_cons.mp hr' with rfl | hr'
    · rcases sub2 m hm with rfl | hm
      · exact T.asym hx
      · exact F.top T P h0 m hm
    · rcases sub2 m hm with rfl | hm
      · have h1 := hr r hr' (fst2 (res.getD 0 [])) (List.mem_map_of_mem (getD0_mem h0))
        cases q : lt r m with
        | false => rfl
        | true => have := T.tr _ _ _ q hx; rw [this] at h1; cases h1
      · exact hr r hr' m hm

theorem Few.start {lt : D → D → Bool} {res seen : List D} (nd : Nd res) (pm : (res.map fst2).Perm seen) : Few lt (heapify (fun a b => lt b a) res) seen ∨ ¬ Tot lt := by
  by_cases T : Tot lt
  · have Tf : Tot (fun a b => lt b a) := ⟨T.irr, fun _ _ _ h1 h2 => T.tr _ _ _ h2 h1, fun _ _ h1 h2 => T.tri _ _ h2 h1⟩
    refine .inl ⟨fun e he => nd e (heapify_perm.mem_iff.mp he), heapify_hp Tf, [], ?_, fun r hr => nomatch hr⟩
    rw [List.append_nil]
    exact (heapify_perm.map fst2).trans pm
  · exact .inr T

theorem Few.done {lt : D → D → Bool} (T : Tot lt) {res ds out srt : List D} (F : Few lt res ds) (ho : Sd lt out) (hop : out.Perm (res.map fst2)) (hs : Sd lt srt) (hsp : srt.Perm ds) : srt.take res.length = out := by
  obtain ⟨rest, p, hr⟩ := F.part
  -- the rest in order
  have sr : ∃ r', Sd lt r' ∧ r'.Perm rest := by
    have : ∀ l : List D, ∃ r', Sd lt r' ∧ r'.Perm l := by
      intro l
      induction l with
      | nil => exact ⟨[], .nil, .refl _⟩
      | cons x l ih =>
        obtain ⟨r', h1, h2⟩ := ih
        have ins : ∀ l : List D, Sd lt l → ∃ l', Sd lt l' ∧ l'.Perm (x :: l) := by
          intro l hl
          induction l with
          | nil => exact ⟨[x], List.pairwise_singleton _ _, .refl _⟩
          | cons y l ih2 =>
            cases hxy : lt y x with
            | true =>
              obtain ⟨l', a1, a2⟩ := ih2 (List.pairwise_cons.mp hl).2
              refine ⟨y :: l', List.pairwise_cons.mpr ⟨fun w hw => ?_, a1⟩, (a2.cons y).trans (List.Perm.swap x y l)⟩
              rcases List.mem_cons.mp (a2.mem_iff.mp hw) with rfl | hw
              · exact T.asym hxy
              · exact (List.pairwise_cons.mp hl).1 w hw
            | false =>
              refine ⟨x :: y :: l, List.pairwise_cons.mpr ⟨fun w hw => ?_, hl⟩, .refl _⟩
              rcases List.mem_cons.mp hw with rfl | hw
              · exact hxy
              · exact T.le_tr hxy ((List.pairwise_cons.mp hl).1 w hw)
        obtain ⟨l', b1, b2⟩ := ins r' h1
        exact ⟨l', b1, b2.trans (h2.cons x)⟩
    exact this rest
  obtain ⟨r', h1, h2⟩ := sr
  have he : srt = out ++ r' := by
    refine Sd.uniq T hs (List.pairwise_append.mpr ⟨ho, h1, fun a ha b hb => hr b (h2.mem_iff.mp hb) a (hop.mem_iff.mp ha)⟩) ?_
    exact hsp.trans (p.symm.trans ((hop.symm.append h2.symm)))
  rw [he, List.take_append_of_le_length (by rw [hop.length_eq]; simp), List.take_of_length_le (by rw [hop.length_eq]; simp)]

theorem Sd.map {lt : D → D → Bool} (P : App lt) {l : List D} (h : Sd lt l) (nd : Nd l) : Sd lt (l.map fst2) := by
  unfold Sd at h ⊢
  rw [List.pairwise_map]
  refine List.Pairwise.imp_of_mem (fun {a b} ha hb hab => ?_) h
  obtain ⟨d, z, hd, rfl⟩ := nd a ha
  obtain ⟨d', z', hd', rfl⟩ := nd b hb
  rw [fst2_app hd, fst2_app hd']
  exact P _ _ _ _ hd' hd hab

theorem best_mem {bt : D → D → Bool} : ∀ (ds : List D) (b : D), best bt b ds ∈ b :: ds
  | [], b => .head _
  | d :: ds, b => by
    unfold best
    rw [List.foldl_cons]
    have := best_mem (bt := bt) ds (if bt d b then d else b)
    unfold best at this
    rcases List.mem_cons.mp this with h | h
    · rw [h]; split
      · exact .tail _ (.head _)
      · exact .head _
    · exact .tail _ (.tail _ h)
theorem best_least {bt : D → D → Bool} (T : Tot bt) : ∀ (ds : List D) (b : D), ∀ x ∈ b :: ds, bt x (best bt b ds) = false
  | [], b, x, hx => by
    have : x = b := by simpa using hx
    subst this; exact T.irr _
  | d :: ds, b, x, hx => by
    have ih := best_least T ds (if bt d b then d else b)
    have he : best bt b (d :: ds) = best bt (if bt d b then d else b) ds := rfl
    rw [he]
    have h0 := ih _ (.head _)
    rcases List.mem_cons.mp hx with rfl | hx
    · split at h0
      · rename_i hc
        cases q : bt x (best bt (if bt d x then d else x) ds) with
        | false => rfl
        | true => have := T.tr _ _ _ hc q; rw [if_pos hc] at this; rw [this] at h0; cases h0
      · rename_i hc; rw [if_neg hc]; exact h0
    · rcases List.mem_cons.mp hx with rfl | hx
      · split at h0
        · rename_i hc; rw [if_pos hc]; exact h0
        · rename_i hc
          rw [if_neg hc]
          exact T.le_tr h0 (by simpa using hc)
      · exact ih x (.tail _ hx)
theorem one_few {lt : D → D → Bool} (T : Tot lt) {d : D} {ds srt : List D} (hs : Sd lt srt) (hp : srt.Perm (d :: ds)) : srt.take 1 = [best lt d ds] := by
  cases srt with
  | nil => have := hp.length_eq; simp at this
  | cons x t =>
    have hb := best_mem (bt := lt) ds d
    have hl := best_least T ds d
    have : best lt d ds = x := by
      rcases List.mem_cons.mp (hp.mem_iff.mpr hb) with h | h
      · exact h
      · exact T.tri _ _ ((List.pairwise_cons.mp hs).1 _ h) (hl x (hp.mem_iff.mp (.head _)))
    rw [this]; rfl
theorem sortB_sd (ds : List D) : Sd gtl (sortB true ds) := by
  show List.Pairwise _ (List.reverse _)
  rw [List.pairwise_reverse]
  exact sortD_srt _
end

section
set_option autoImplicit false
set_option maxRecDepth 100000

section
variable {X : Pg} {mg mb : Str → Option Value} {prog : Program} {w : World} {A : Around} {E : Value → Shared → Prop} {s : Shared} {h : Heap} {tk : Nat} {h₀ : Base} {L : Addr} {m : Str → Option Value} {ls : List Ent} {ob nw : Led} {k : Kd} {ds : List D} {g : List D → List Ent}

/-- an empty list is of any kind -/
theorem St.reK {a : Addr} {k k' : Kd} (S : St h₀ L h m ((a, k, []) :: ls) ob nw) : St h₀ L h m ((a, k', []) :: ls) ob nw := by
  obtain ⟨rs, fs, hr, hf, N⟩ := S.led
  obtain _ | ⟨⟨e1, vs, n, e2, e3⟩, hr⟩ := hr
  have e4 : vs = [] := by cases e3; rfl
  subst e4
  exact ⟨S.fr, ⟨_, fs, .cons ⟨e1, [], n, e2, .nil⟩ hr, hf, N⟩, S.apart⟩

/-- the pair of a numbered pair -/
theorem r_fst {value slice : PySem.Expr} {v : Value} {e : D} {t : Tok} {Q : Value → Shared → Prop} (S : St h₀ L h m ls ob nw) (hv : RelIn nw .pi v e) (q : ∀ v₁, RelIn nw .p v₁ (fst2 e) → Q v₁ (mk s h tk))
    (hs : ∀ a, subscripted slice false (.ref a) (.int 0 t) = operate [.ref a, .int 0 t] (getItem (.ref a) (.int 0 t)) := by intro _; with_unfolding_all rfl) :
    wpAny (model prog w) A (subscriptTail value slice v (.int 0 t)) Q E (mk s h tk) := by
  obtain ⟨a, n, v₁, d₁, z, u, rfl, m1, p1, rfl⟩ := hv
  have g1 := S.gets _ m1
  have hT : (mk s h tk).TypeIs (.ref a) "tuple" := ⟨_, g1, rfl⟩
  have go : wpAny (model prog w) A (getItem (.ref a) (.int 0 t)) Q E (mk s h tk) := by
    refine PySem.P.getItem_tuple (s := mk s h tk) (items := [v₁, .int z u].toArray) (n := n) (k := 0) (y := v₁) g1 (by decide) (by decide) rfl rfl (q v₁ ?_)
    rw [fst2_app p1.len]; exact p1
  unfold subscriptTail
  refine wpAny_bind ?_
  rw [getitemInPython_of_ne hT.not_modules]
  refine wpAny_bind (wpAny_specialOf hT F.slot_tuple_getitem.lookup ?_)
  have fin : wpAny (model prog w) A (subscripted slice false (.ref a) (.int 0 t)) (fun r s₃ => wpAny (model prog w) A (letTemporaryGo value (.ref a) r >>= fun _ => pure r) Q E s₃) E (mk s h tk) := by
    rw [hs]
    exact wpAny_operating (wpAny_mono go (fun r s₃ h₃ => wpAny_bind (wpAny_letTemporaryGo (wpAny_pure h₃))) fun _ _ x => x)
  first
    | exact wpAny_pure (wpAny_bind fin)
    | exact wpAny_bind (wpAny_pure (wpAny_bind fin))
    | exact wpAny_bind fin

/-- a def that a local name holds -/
theorem r_callV {q i : Nat} {name : Str} {scope : Scope} {f : Addr} {cd : Value} {cl : List (Str × Addr)} {x : Str} {np pos : Pos} {e : PySem.Expr} {rest : List PySem.Expr} {Q : Value → Shared → Prop} (C : Cx X mg mb A h₀ L q) (S : St h₀ L h m ls ob nw) (hi : i ∈ X.js) (hx : m x = some (.ref (fa X.P mg i)))
    (qq : wpAny (model prog w) A (spliced (backTo pos (starEach (e :: rest) (envX name scope L f cd cl)))) (fun vs s₁ => (∀ b o, h₀.hB.get? b = some o → s₁.heap.get? b = some o) ∧ wpAny (model prog w) A (call (.ref (fa X.P mg i)) vs) Q E s₁) E (mk s h tk))
    (he : starEach (e :: rest) (envX name scope L f cd cl) = (false, eval e (envX name scope L f cd cl)) :: starEach rest (envX name scope L f cd cl) := by rfl)
    (hk : scope.kind = .function := by rfl) (hl : (envX name scope L f cd cl).kindOf x = some .local := by rfl) (hd : (x == ("__debug__" : Str)) = false := by decide) :
    wpAny (model prog w) A (eval (.Call (.Name x np) (e :: rest) [] pos) (envX name scope L f cd cl)) Q E (mk s h tk) := by
  refine Call_ (r_load S hx ?_ hk hl hd)
  obtain ⟨_, o, pm, code, doc, h2, h3, h4⟩ := C.gd.fn i hi
  exact callWith_def (o := o) h3 (wpAny_mono qq (fun vs s₁ hq => ⟨hq.1 _ _ h2, hq.2⟩) fun _ _ x => x) he

/-- a list's iterator owns no tuple -/
theorem owned_list {elts : List PySem.Expr} {c : Nat} {pos : Pos} {I T : Addr} {oI : Obj} {l : Addr} {j : Nat} {Q : Unit → Shared → Prop} (ho : h.get? I = some oI) (hoI : IsLI oI l j) (q : Q () (mk s h tk)) :
    wpAny (model prog w) A (letOwnedTupleGo (.Tuple elts c pos) (.ref I) (.ref T)) Q E (mk s h tk) := by
  unfold letOwnedTupleGo
  refine wpAny_bind (wpAny_load (s := mk s h tk) ho ?_)
  rw [hoI.1, hoI.2]
  show wpAny _ _ (if (["enumerate", "zip", "dict_itemiterator", "dict_reverseitemiterator", "odict_iterator", "itertools.zip_longest", "itertools.pairwise"].contains "list_iterator" && _) = true then _ else _) Q E _
  rw [if_neg (by simp)]
  exact wpAny_pure q
end

/-- numbered pairs -/
def numd (f : Nat → Int) (ds : List D) : List D := ds.mapIdx fun j d => d ++ [f j]
theorem numd_snoc {f : Nat → Int} {ds : List D} {i : Nat} {d : D} (hd : ds[i]? = some d) : numd f (ds.take (i + 1)) = numd f (ds.take i) ++ [d ++ [f i]] := by
  obtain ⟨hl, e⟩ := List.getElem?_eq_some_iff.mp hd
  unfold numd
  rw [List.take_add_one, hd]
  simp only [Option.toList_some, List.mapIdx_append, List.mapIdx_cons, List.mapIdx_nil, List.length_take, Nat.min_eq_left (Nat.le_of_lt hl), Nat.zero_add]
theorem numd_len {f : Nat → Int} {ds : List D} : (numd f ds).length = ds.length := by simp [numd]
theorem numd_nd {f : Nat → Int} {ds : List D} (h2 : ∀ d ∈ ds, d.length = 2) : Nd (numd f ds) := fun e he => by
  obtain ⟨i, hi, e'⟩ := List.getElem_of_mem he
  have hi' : i < ds.length := by rw [numd_len] at hi; exact hi
  refine ⟨ds[i], f i, h2 _ (List.getElem_mem hi'), ?_⟩
  rw [← e']; simp [numd]
theorem numd_fst {f : Nat → Int} {ds : List D} (h2 : ∀ d ∈ ds, d.length = 2) : (numd f ds).map fst2 = ds := by
  refine List.ext_getElem (by simp [numd_len]) fun i h1 h3 => ?_
  simp only [List.getElem_map, numd, List.getElem_mapIdx]
  exact fst2_app (h2 _ (List.getElem_mem h3))
theorem All2.len2 {nw : Led} {vs : List Value} {ds : List D} (h : All2 (RelIn nw .p) vs ds) : ∀ d ∈ ds, d.length = 2 := by
  induction h with
  | nil => intro d hd; cases hd
  | cons h1 _ ih =>
    intro d hd
    rcases List.mem_cons.mp hd with rfl | hd
    · exact RelP.len h1
    · exact ih d hd
end

section
set_option autoImplicit false
set_option maxRecDepth 10000

section
variable {X : Pg} {mg mb : Str → Option Value} {prog : Program} {w : World} {A : Around} {E : Value → Shared → Prop} {s : Shared} {h : Heap} {tk : Nat} {h₀ : Base} {L : Addr} {m : Str → Option Value} {ls : List Ent} {ob nw : Led}
/-- a built-in type by its name, no arguments -/
theorem r_callT0 {k : Nat} {T : String} {name : Str} {scope : Scope} {f : Addr} {cd : Value} {cl : List (Str × Addr)} {x : Str} {np pos : Pos} {Q : Value → Shared → Prop} (C : Cx X mg mb A h₀ L k) (S : St h₀ L h m ls ob nw) (hx : x ∈ X.free) (hv : bootBuiltins x = some (.type T))
    (q : wpAny (model prog w) A (call (.type T) []) Q E (mk s h tk))
    (hn : x ≠ "__name__" := by decide +kernel)
    (hk : scope.kind = .function := by rfl) (hl : (envX name scope L f cd cl).kindOf x = some .globalImplicit := by rfl) (hd : (x == ("__debug__" : Str)) = false := by decide) :
    wpAny (model prog w) A (eval (.Call (.Name x np) [] [] pos) (envX name scope L f cd cl)) Q E (mk s h tk) :=
  Call_ (r_blt C S hx hv (PyProof.Rows.callWith_type rfl (evalArgs_kw2_nil (kws := []) rfl (evalAll_nil q))) hn hk hl hd)
end

variable {mg mb : Str → Option Value} {prog : Program} {w : World} {A : Around} {E : Value → Shared → Prop} {s : Shared} {h : Heap} {tk : Nat} {h₀ : Base} {L : Addr} {m : Str → Option Value} {ls : List Ent} {ob nw : Led} {l : Addr} {ds : List D} {g : List D → List Ent}


set_option maxHeartbeats 8000000 in
theorem c_nsmallest {q : Nat} {n : Int} {t : Tok} {Q : Value → Shared → Prop} (C : Cx X1 mg mb A h₀ L (q + 4)) (S : St h₀ L h m ls ob nw) (U : At l .p ds ls g) (hz : ds.length < 60) (hn : -1 ≤ n ∧ n < 64)
    (ret : ∀ h' tk D nw', (∀ p ∈ nw, p ∈ nw') → St h₀ L h' m ((D, .p, (sortD ds).take n.toNat) :: ls) ob nw' → Q (.ref D) (mk s h' tk)) :
    wpAny (model prog w) A (call (.ref (fa X1.P mg 13)) [.int n t, .ref l]) Q E (mk s h tk) := by
  refine call_fd (i := 13) (args := ⟨[.int n t, .ref l], []⟩) (binds := [(Str.ofString "n", .int n t), (Str.ofString "iterable", .ref l), (Str.ofString "key", .none)]) (kn := Str.ofString "key") C S (by decide) (fun s pm code doc dA o dn ho hd => BindsTo.of_defaults rfl ho hd rfl rfl) (fun n x hx => ?_) (fun n => rfl) fun g₁ L' h₁ tk code oc C' hoc S' => ?_
  · rcases List.mem_cons.mp hx with rfl | hx
    · exact .inl rfl
    · rcases List.mem_cons.mp hx with rfl | hx
      · exact .inl rfl
      · rcases List.mem_cons.mp hx with rfl | hx
        · exact .inr ⟨rfl, rfl⟩
        · cases hx
  · replace hoc : oc.data = .cell (some .none) := hoc
    generalize hm : bindL (envX (nm X1.P 13) (sc X1.P 13) L' (fa X1.P mg 13) code [(Str.ofString "key", L' + 1)]).kindOf _ (fun _ => none) = m₁ at S'
    have e1 : m₁ (Str.ofString "n") = some (.int n t) := by rw [← hm]; rfl
    have e2 : m₁ (Str.ofString "iterable") = some (.ref l) := by rw [← hm]; rfl
    clear hm
    refine wpAny_execs_cons ?_
    walk_at "if1"
    walk_at "gs"
    by_cases h1 : n = 1
    · subst h1
      rw [if_pos (by rfl)]
      walk_at "gs"
      refine r_callB C' S' (by decide) rfl ?_
      walk_at "gs"
      refine r_iter S' U fun I oI h2 hoI S2 => ?_
      walk_at "gs"
      refine r_callT0 C' (by with_reducible assumption) (by decide) rfl ?_
      refine r_object (by with_reducible assumption) fun O h3 S3 => ?_
      walk_at "gs"
      refine r_callBK C' (by with_reducible assumption) (by decide) rfl ?_
      walk_at "gs"
      refine kws_cons ?_
      walk_at "gs"
      refine kws_cons ?_
      refine r_loadK (kn := Str.ofString "key") (by with_reducible assumption) (.head _) hoc ?_
      refine kws_nil ?_
      rename St _ _ _ (upd _ (Str.ofString "sentinel") _) _ _ _ => S4
      refine r_min C'.handled C'.u3 S4.swapO hoI U (fun hd h5 tk5 S5 => ?_) fun d ds' v h5 tk5 hd hv S5 => ?_
      · walk_at "gs"
        refine IfExp_ ?_
        walk_at "gs"
        refine wpAny_is_ref_self ?_
        walk_at "gs"
        simp only [if_true]
        refine PyProof.Rows.List_ (args_nil ?_)
        refine r_newL (k := .p) (ds := []) (by with_reducible assumption) .nil fun l6 h6 S6 => ?_
        walk_at "gs"
        refine Back.intro S6.dropO fun S7 => ret _ _ _ ((L' + 1, oc) :: nw) (fun p hp => .tail _ hp) ?_
        subst hd
        exact S7
      · walk_at "gs"
        refine IfExp_ ?_
        walk_at "gs"
        refine r_isO (by with_reducible assumption) .head hv ?_
        walk_at "gs"
        simp only [Bool.false_eq_true, if_false]
        walk_at "gs"
        refine r_newL (k := .p) (ds := [best llt d ds']) (by with_reducible assumption) (.cons hv .nil) fun l6 h6 S6 => ?_
        walk_at "gs"
        refine Back.intro S6.dropO fun S7 => ret _ _ _ ((L' + 1, oc) :: nw) (fun p hp => .tail _ hp) ?_
        have hp : (sortD ds).Perm (d :: ds') := by rw [← hd]; exact sortD_perm ds
        rw [show ((1 : Int).toNat) = 1 from rfl, one_few llt_tot (sortD_srt ds) hp]
        exact S7
    · rw [if_neg (by simpa using h1)]
      walk_at "gs"
      refine wpAny_Try_except ?_
      walk_at "gs"
      refine r_callB C' S' (by decide) rfl ?_
      walk_at "gs"
      refine r_len S' U (by lia) fun tl _ => ?_
      walk_at "gs"
      walk_at "if1"
      walk_at "gs"
      by_cases h2 : n ≥ ds.length
      · rw [if_pos (by simpa using h2)]
        walk_at "gs"
        refine r_callBK C' (by with_reducible assumption) (by decide) rfl ?_
        walk_at "gs"
        refine kws_cons ?_
        refine r_loadK (kn := Str.ofString "key") (by with_reducible assumption) (.head _) hoc ?_
        refine kws_nil ?_
        refine r_sorted (b := false) (by with_reducible assumption) U (by intro e; cases e) (by lia) C'.u4 (fun a => sort_key a) (by unfold argsOk; kernel_rfl) (fun a => by unfold argsOk; kernel_rfl) fun D h3 S3 => ?_
        refine wpAny_Slice ?_
        refine evalPart_none_step (evalPart_some_step ?_)
        walk_at "gs"
        refine evalPart_none_step ?_
        refine r_slice S3 .head .none (.int _ _) .none (by simp) (by rw [show sortB false ds = sortD ds from rfl, sortD_len]; lia) rfl fun D2 h4 S4 => ?_
        walk_at "gs"
        refine Back.intro S4.swapL.dropL fun S7 => ret _ _ _ ((L' + 1, oc) :: nw) (fun p hp => .tail _ hp) ?_
        rw [pick_upto _ (by lia), show sortB false ds = sortD ds from rfl] at S7
        exact S7
      · rw [if_neg (by simpa using h2)]
        walk_at "gs"
        walk_at "if1"
        walk_at "gs"
        refine r_loadK (kn := Str.ofString "key") (by with_reducible assumption) (.head _) hoc ?_
        walk_at "gs"
        simp only [if_true]
        walk_at "gs"
        refine r_callB C' (by with_reducible assumption) (by decide) rfl ?_
        walk_at "gs"
        refine r_iter (by with_reducible assumption) U fun I oI h3 hoI S3 => ?_
        walk_at "gs"
        rename St _ _ _ (upd _ (Str.ofString "it") _) _ _ _ => S4
        obtain ⟨N, hN⟩ : ∃ N : Nat, N = n.toNat := ⟨_, rfl⟩
        obtain ⟨vs0, c0, _, hr0⟩ := S.isList U
        have hl2 := hr0.len2
        have hNl : N ≤ ds.length := by lia
        refine a_comp rfl (closureFor_none (by decide)) (by decide) ?_
        refine r_callT C' S4 (by decide) rfl ?_
        walk_at "gs"
        refine r_callT C' S4 (by decide) rfl ?_
        walk_at "gs"
        refine r_range1 S4 fun r h5 tk5 t1 t2 S5 => ?_
        walk_at "gs"
        refine r_zip (n := N) S5 hoI (small_one (by lia) (by lia) (by lia) (by lia)) (by rw [rangeSize_one]; split <;> lia) fun z TI TO i1 h6 S6 => ?_
        refine wpAny_pyIter_zip (s := mk s h6 _) (S6.getO .head) ?_
        refine comp_tail (n := N) (kd := .pi) C'.handled
          (fun i out ls' ob' nw' => i ≤ N ∧ ls' = ls ∧ out = numd (fun j => (j : Int)) (ds.take i) ∧ (∀ p ∈ (TI, po (.ref i1) (.ref I)) :: (L' + 1, oc) :: nw, p ∈ nw') ∧ ∃ a b oI, IsLI oI l i ∧ ob' = (z, zo TI TO .none) :: (TO, po a b) :: (i1, riObj (0 + (i : Int) * 1) ((N : Int) - i) 1) :: (I, oI) :: ob)
          (fun out ls' ob' nw' => ls' = ls ∧ out = numd (fun j => (j : Int)) (ds.take N) ∧ (∀ p ∈ (TI, po (.ref i1) (.ref I)) :: (L' + 1, oc) :: nw, p ∈ nw') ∧ ∃ a b oI x y, IsLI oI l N ∧ ob' = (z, zo TI TO .none) :: (TO, po a b) :: (i1, riObj x y 1) :: (I, oI) :: ob)
          S6 ⟨Nat.zero_le _, rfl, by simp [numd], fun p hp => hp, .none, .none, oI, hoI, by simp⟩ ?_ ?_ ?_ ?_ ?_ (by decide +kernel) rfl rfl (by decide) rfl
        · rintro i out ls' ob' nw' ⟨hi, rfl, rfl, _⟩
          rw [numd_len]; simp; lia
        · intro h tk ls' ob' Q' E' S7 q'
          exact wpAny_pyIter_zip (s := mk s h tk) (S7.getO (.tail .head)) q'
        · rintro i h tk D C oC out ls' ob' nw' E' hi ⟨hiN, rfl, rfl, hsub, a, b, oI, hoI, rfl⟩ S7
          obtain ⟨d, hd⟩ : ∃ d, ds[i]? = some d := ⟨_, List.getElem?_eq_getElem (by lia)⟩
          refine zip_turn S7 (hsub _ (.head _)) hoI (.tail U) hd (by lia) fun T s₁ go => ⟨T, rfl, wpAny_mono go (fun _ s₂ hq => ?_) fun _ _ x => x⟩
          obtain ⟨h₂, tk₂, t, v, oI', rfl, hT, hr, ho', S₂⟩ := hq
          refine ⟨h₂, tk₂, _, v, 0, _, _, rfl, hT, S₂, fun h₃ tk₃ oC' mc hnc hx hy S₃ => ?_⟩
          refine PyProof.Rows.Tuple_ (args_cons (k_load S₃ hnc rfl rfl hy (args_cons (k_load S₃ hnc rfl rfl hx (args_nil ?_)))))
          refine r_tupN S₃ fun a4 h₄ S₄ => ⟨h₄, _, _, _, _, d ++ [((i : Nat) : Int)], rfl, ⟨a4, 0, v, d, _, t, rfl, .head _, hr.mono fun p hp => .tail _ hp, by simp⟩, S₄, by lia, rfl, (numd_snoc hd).symm, fun p hp => .tail _ (hsub p hp), .int (0 + (i : Int) * 1) t, v, oI', ho', ?_⟩
          rw [show (0 : Int) + (i : Int) * 1 + 1 = 0 + ((i + 1 : Nat) : Int) * 1 by lia, show (N : Int) - (i : Int) - 1 = (N : Int) - ((i + 1 : Nat) : Int) by lia]
        · rintro h tk D C oC out ls' ob' nw' E' ⟨hiN, rfl, rfl, hsub, a, b, oI, hoI, rfl⟩ S7
          exact zip_stop C'.handled S7 (hsub _ (.head _)) (by lia) fun h₁ S₁ => ⟨rfl, h₁, _, _, rfl, S₁, rfl, rfl, hsub, a, b, oI, _, _, hoI, rfl⟩
        · rintro h7 tk7 D7 C7 oC7 mc7 out7 ls7 ob7 nw7 ⟨rfl, rfl, hsub, a, b, oI, x, y, hoI, rfl⟩ hnc7 S7
          refine comp_use (name := nm X1.P 13) (scope := sc X1.P 13) (f := fa X1.P mg 13) (cd := code) (cl := [(Str.ofString "key", L' + 1)]) (y := Str.ofString "result") hnc7 S7 fun h8 tk8 S8 => ?_
          have S9 := S8.dropO.dropO.dropO
          clear S8 S7
          walk_at "gs"
          walk_at "if1"
          walk_at "gs"
          have hlen0 : (numd (fun j => (j : Int)) (ds.take N)).length = N := by rw [numd_len]; simp; lia
          refine r_truthy S9 .head (by lia) fun tk9 => ?_
          rw [hlen0]
          by_cases hN0 : N = 0
          · rw [decide_eq_false (by lia)]
            simp only [Bool.not_false, if_true]
            walk_at "gs"
            refine Back.intro S9.dropO fun S10 => ret _ _ _ nw7 (fun p hp => hsub p (.tail _ (.tail _ hp))) ?_
            subst hN0
            rw [show n.toNat = 0 by lia]
            exact St.reK S10
          · rw [decide_eq_true (by lia)]
            simp only [Bool.not_true, Bool.false_eq_true, if_false]
            walk_at "gs"
            have hN2 : 2 ≤ N := by lia
            refine r_callF 8 C' S9 (by decide) rfl ?_
            walk_at "gs"
            refine ⟨S9.fr.keep, c_heapify_max C' S9 .head (by lia) fun h10 tk10 S10 => ?_⟩
            obtain ⟨res, hres⟩ : ∃ res, res = heapify gtl (numd (fun j => (j : Int)) (ds.take N)) := ⟨_, rfl⟩
            rw [← hres] at S10
            have hrl : res.length = N := by rw [hres, heapify_len, hlen0]
            have F0 : Few llt res (ds.take N) := by
              rcases Few.start (lt := llt) (res := numd (fun j => (j : Int)) (ds.take N)) (seen := ds.take N) (numd_nd fun d hd => hl2 d (List.mem_of_mem_take hd)) (by rw [numd_fst fun d hd => hl2 d (List.mem_of_mem_take hd)]) with hF | hF
              · rw [hres]; exact hF
              · exact absurd llt_tot hF
            clear hres S9
            walk_at "gs"
            obtain ⟨e0, he0⟩ : ∃ e0, res[0]? = some e0 := ⟨_, List.getElem?_eq_getElem (by lia)⟩
            have he0' : res.getD 0 [] = e0 := by simp [List.getD, he0]
            refine r_sub (n := 0) S10 .head rfl he0 (by lia) fun v0 hv0 => ?_
            walk_at "gs"
            refine r_fst S10 hv0 fun vt hvt => ?_
            walk_at "gs"
            refine r_def (i := 7) C' (by with_reducible assumption) (by decide) rfl ?_
            walk_at "gs"
            rename St _ _ _ (upd _ (Str.ofString "_heapreplace") _) _ _ _ => S11
            refine r_for ?_
            walk_at "gs"
            refine r_pyIterLI S11 .head hoI ?_
            refine r_forL (i₀ := N) (n := ds.length) C'.handled S11 hoI hNl
              (fun i m' ls' nw' => (∀ p ∈ nw7, p ∈ nw') ∧ m' (Str.ofString "result") = some (.ref D7) ∧ m' (Str.ofString "_heapreplace") = some (.ref (fa X1.P mg 7)) ∧ ∃ (o : Int) (to : Tok) (vt : Value) (res : List D), m' (Str.ofString "order") = some (.int o to) ∧ m' (Str.ofString "top") = some vt ∧
                RelIn nw' .p vt (fst2 (res.getD 0 [])) ∧ ls' = (D7, .pi, res) :: ls7 ∧ res.length = N ∧ Few llt res (ds.take i))
              ⟨fun p hp => hp, by walk_at "lk", by walk_at "lk", n, _, vt, res, by walk_at "lk", by walk_at "lk", he0' ▸ hvt, rfl, hrl, F0⟩
              (fun i nw' v => ∃ d, ds[i]? = some d ∧ RelIn nw' .p v d) ?_ ?_ ?_ ?_
            · rintro i h' m' ls' nw' o hi ⟨hs', _, _, o', to', vt', res', _, _, _, rfl, _, _⟩ S12
              obtain ⟨d, hd⟩ : ∃ d, ds[i]? = some d := ⟨_, List.getElem?_eq_getElem hi⟩
              obtain ⟨items, v, hI, hv, hr⟩ := S12.listAt (.tail U) hd
              exact ⟨items, v, hI, hv, d, hd, hr⟩
            · rintro h' m' ls' nw' o ⟨hs', _, _, o', to', vt', res', _, _, _, rfl, _, _⟩ S12
              obtain ⟨vs, c, hI, hr⟩ := S12.isList (.tail U)
              refine ⟨vs.toArray, PySem.IsL.isList (n := c) hI, ?_⟩
              have := hr.len
              simp; lia
            · rintro i h12 tk12 m12 ls12 nw12 v o hi ⟨hs', f1, f2, o', to', vt', res', f3, f4, hvt', rfl, hrl', F'⟩ ⟨d, hd, hv⟩ S12
              have htk : ds.take (i + 1) = ds.take i ++ [d] := by rw [List.take_add_one, hd]; rfl
              have hdl : d.length = 2 := hl2 d (List.mem_of_getElem? hd)
              walk_at "gs"
              walk_at "if1"
              walk_at "gs"
              refine r_lt S12 C'.u2 hv hvt' ?_
              walk_at "gs"
              by_cases hlt : llt d (fst2 (res'.getD 0 [])) = true
              · rw [if_pos hlt]
                walk_at "gs"
                refine r_callV (i := 7) C' S12 (by decide) (by walk_at "lk") ?_
                walk_at "gs"
                refine r_tupN S12 fun a13 h13 S13 => ?_
                walk_at "gs"
                have hv13 : RelIn ((a13, tupOf [v, .int o' to'] 0) :: nw12) .pi (.ref a13) (d ++ [o']) := ⟨a13, 0, v, d, o', to', rfl, .head _, RelIn.mono (k := .p) hv fun p hp => .tail _ hp, rfl⟩
                refine ⟨S13.fr.keep, c_heapreplace_max C' S13 .head hv13 (by lia) (by lia) fun h14 tk14 v14 hv14 S14 => ?_⟩
                have F14 := F'.swap llt_tot app_llt (z := o') (by lia) hdl hlt
                obtain ⟨res2, hres2⟩ : ∃ res2, res2 = hrepl gtl res' (d ++ [o']) := ⟨_, rfl⟩
                have hrl2 : res2.length = N := by rw [hres2, hrepl_len]; exact hrl'
                replace F14 : Few llt res2 (ds.take (i + 1)) := by rw [htk, hres2]; exact F14
                rw [← hres2] at S14
                clear hres2
                obtain ⟨a14, n14, w14, d14, z14, u14, rfl, _⟩ := hv14
                walk_at "gs"
                refine Assign_Tuple ?_
                walk_at "gs"
                obtain ⟨e2, he2⟩ : ∃ e2, res2[0]? = some e2 := ⟨_, List.getElem?_eq_getElem (by lia)⟩
                have he2' : res2.getD 0 [] = e2 := by simp [List.getD, he2]
                refine r_sub (n := 0) S14 .head rfl he2 (by lia) fun v15 hv15 => ?_
                obtain ⟨a15, n15, v16, d16, z16, u16, rfl, m16, p16, rfl⟩ := hv15
                refine r_unpack S14 C'.handled (S14.gets _ m16) rfl rfl fun h16 S16 => ?_
                refine assignInOrder_cons (wpAny_assign_Name (r_store S16 fun h17 tk17 S17 => ?_))
                refine assignInOrder_cons (wpAny_assign_Name (r_store S17 fun h18 tk18 S18 => assignInOrder_nil ?_))
                walk_at "gs"
                refine i_iadd fun _ _ => ?_
                walk_at "gs"
                refine TurnEnd.next (by with_reducible assumption) ⟨fun p hp => .tail _ (hs' p hp), by walk_at "lk", by walk_at "lk", _, _, v16, res2, by walk_at "lk", by walk_at "lk", ?_, rfl, hrl2, F14⟩
                rw [he2', fst2_app p16.len]; exact p16
              · rw [if_neg hlt]
                walk_at "gs"
                refine TurnEnd.next (by with_reducible assumption) ⟨hs', by walk_at "lk", by walk_at "lk", _, _, vt', res', by walk_at "lk", by walk_at "lk", hvt', rfl, hrl', ?_⟩
                rw [htk]
                exact F'.keep llt_tot app_llt (by lia) (by simpa using hlt)
            · rintro h12 tk12 m12 ls12 nw12 ⟨hs', f1, f2, o', to', vt', res', f3, f4, hvt', rfl, hrl', F'⟩ S12
              rw [List.take_length] at F'
              walk_at "gs"
              refine r_method S12 .head slot_list_sort PySem.F.type_list_sort ?_
              walk_at "gs"
              refine r_sort (kw := []) (b := false) S12 .head (by intro e; cases e) (by lia) C'.u3 (sort_none _) (args_list_sort _) fun h13 S13 => ?_
              rw [show sortB false res' = sortD res' from rfl] at S13
              have hsl : (sortD res').length = N := by rw [sortD_len]; exact hrl'
              have hnd : Nd (sortD res') := fun e he => F'.nd e ((sortD_perm res').mem_iff.mp he)
              walk_at "gs"
              refine e_comp (closureFor_none (by decide)) (by decide) ?_
              walk_at "gs"
              refine r_pyIterL S13 .head fun I2 oI2 h14 hoI2 S14 => ?_
              refine comp_tail (n := N) (kd := .p) C'.handled
                (fun i out ls' ob' nw' => i ≤ N ∧ nw' = nw12 ∧ ls' = (D7, .pi, sortD res') :: ls7 ∧ out = ((sortD res').take i).map fst2 ∧ ∃ oI, IsLI oI D7 i ∧ ob' = (I2, oI) :: ob)
                (fun out ls' ob' nw' => nw' = nw12 ∧ ls' = (D7, .pi, sortD res') :: ls7 ∧ out = (sortD res').map fst2 ∧ ob' = ob)
                S14 ⟨Nat.zero_le _, rfl, rfl, by simp, oI2, hoI2, rfl⟩ ?_ ?_ ?_ ?_ ?_ (by decide +kernel) rfl rfl (by decide) rfl
              · rintro i out ls' ob' nw' ⟨hi, rfl, rfl, rfl, _⟩
                simp; lia
              · intro h tk ls' ob' Q' E' S15 q'
                exact r_pyIterLI S15 (.tail .head) hoI2 q'
              · rintro i h15 tk15 D15 C15 oC15 out ls' ob' nw' E' hi ⟨hiN, rfl, rfl, rfl, oI, hoI3, rfl⟩ S15
                obtain ⟨e, he⟩ : ∃ e, (sortD res')[i]? = some e := ⟨_, List.getElem?_eq_getElem (by lia)⟩
                obtain ⟨items, v, hI, hv, hr⟩ := S15.listAt (.tail .head) he
                refine wpAny_pyNext_list_item (s := mk s h15 tk15) ⟨oI, S15.getO (.tail .head), hoI3.1, hoI3.2⟩ hI hv fun h16 hit16 hs16 => ?_
                obtain ⟨o16, g1, g2, g3⟩ := hit16
                have S16 := S15.turned (.tail .head) hs16 g1
                obtain ⟨a17, n17, v17, d17, z17, u17, rfl, m17, p17, rfl⟩ := hr
                refine ⟨a17, rfl, owned_list g1 ⟨g2, g3⟩ ⟨h16, tk15, v17, .int z17 u17, n17, _, _, rfl, S16.gets _ m17, S16, fun h18 tk18 oC' mc hnc hx hy S18 => ?_⟩⟩
                refine k_load S18 hnc rfl rfl hx ⟨h18, tk18, _, _, _, d17, rfl, p17, S18, by lia, rfl, rfl, ?_, o16, ⟨g2, g3⟩, rfl⟩
                rw [List.take_add_one, he, List.map_append]
                simp [fst2_app p17.len]
              · rintro h15 tk15 D15 C15 oC15 out ls' ob' nw' E' ⟨hiN, rfl, rfl, rfl, oI, hoI3, rfl⟩ S15
                obtain ⟨vs, c, hI, hr⟩ := S15.isList (.tail .head)
                have hvl := hr.len
                refine wpAny_pyNext_list_end (s := mk s h15 tk15) C'.handled ⟨oI, S15.getO (.tail .head), hoI3.1, hoI3.2⟩ (PySem.IsL.isList (n := c) hI) (by simp; lia) fun h16 he16 => ?_
                refine ⟨rfl, h16, tk15, ob, rfl, S15.swapO.lost he16, rfl, rfl, ?_, rfl⟩
                rw [List.take_of_length_le (by lia)]
              · rintro h15 tk15 D15 C15 oC15 mc15 out ls' ob' nw' ⟨rfl, rfl, rfl, rfl⟩ hnc15 S15
                refine comp_val hnc15 S15 fun h16 S16 => ?_
                walk_at "gs"
                refine Back.intro S16.swapL.dropL fun S17 => ret _ _ _ nw' (fun p hp => hs' p (hsub p (.tail _ (.tail _ hp)))) ?_
                have hd := F'.done llt_tot (out := (sortD res').map fst2) (srt := sortD ds) (Sd.map app_llt (sortD_srt res') hnd) ((sortD_perm res').map fst2) (sortD_srt ds) (sortD_perm ds)
                rw [show n.toNat = res'.length by lia, hd]
                exact S17
end

section
set_option autoImplicit false
set_option maxRecDepth 10000

section
variable {prog : Program} {w : World} {A : Around} {E : Value → Shared → Prop} {s : Shared} {h : Heap} {tk : Nat} {h₀ : Base} {L : Addr} {m : Str → Option Value} {ls : List Ent} {ob nw : Led}
theorem i_neg {x : Int} {t : Tok} {QV : Value → Shared → Prop} (q : ∀ t tk, QV (.int (-x) t) (mk s h tk)) : wpAny (model prog w) A (unaryOp .USub (.int x t)) QV E (mk s h tk) := neg_int (q _ _)
theorem r_range3 {a b c : Int} {t u v : Tok} {QV : Value → Shared → Prop} (S : St h₀ L h m ls ob nw) (hc : c ≠ 0) (hs : c.natAbs < 1073741824) (q : ∀ r h' tk', St h₀ L h' m ls ((r, rgObj a b c t u v) :: ob) nw → QV (.ref r) (mk s h' tk')) :
    wpAny (model prog w) A (call (.type "range") [.int a t, .int b u, .int c v]) QV E (mk s h tk) :=
  PySem.call_range_3 (s := mk s h tk) hc (q _ _ _ (S.addO (fun _ _ e => Heap.get?_push_of_some _ e) (Nat.le_refl _) (Heap.get?_push_size _ rfl))) (Or.inl (PyProof.noPylong_small hs))
theorem rangeSize_back {n : Int} {N : Nat} (h : n.toNat = N) : Builtin.Range.rangeSize 0 (-n) (-1) = (N : Int) := by
  unfold Builtin.Range.rangeSize
  rw [if_neg (by decide)]
  split
  · simp only [Int.neg_neg, Int.ediv_one]; lia
  · lia
theorem small_back {n : Int} (h : -1000 < n ∧ n < 1000) : Builtin.Range.small 0 (-n) (-1) = true := by
  unfold Builtin.Range.small
  rw [rangeSize_back (N := n.toNat) rfl]
  simp only [Builtin.Range.rangeFitsLong, Bool.and_eq_true, Bool.or_eq_true, decide_eq_true_eq, beq_iff_eq, show ¬ ((-1 : Int) > 0) by decide, if_false]
  lia
end

variable {mg mb : Str → Option Value} {prog : Program} {w : World} {A : Around} {E : Value → Shared → Prop} {s : Shared} {h : Heap} {tk : Nat} {h₀ : Base} {L : Addr} {m : Str → Option Value} {ls : List Ent} {ob nw : Led} {l : Addr} {ds : List D} {g : List D → List Ent}


set_option maxHeartbeats 8000000 in
theorem c_nlargest {q : Nat} {n : Int} {t : Tok} {Q : Value → Shared → Prop} (C : Cx X1 mg mb A h₀ L (q + 4)) (S : St h₀ L h m ls ob nw) (U : At l .p ds ls g) (hz : ds.length < 60) (hn : -1 ≤ n ∧ n < 64)
    (ret : ∀ h' tk D nw', (∀ p ∈ nw, p ∈ nw') → St h₀ L h' m ((D, .p, (sortB true ds).take n.toNat) :: ls) ob nw' → Q (.ref D) (mk s h' tk)) :
    wpAny (model prog w) A (call (.ref (fa X1.P mg 14)) [.int n t, .ref l]) Q E (mk s h tk) := by
  refine call_fd (i := 14) (args := ⟨[.int n t, .ref l], []⟩) (binds := [(Str.ofString "n", .int n t), (Str.ofString "iterable", .ref l), (Str.ofString "key", .none)]) (kn := Str.ofString "key") C S (by decide) (fun s pm code doc dA o dn ho hd => BindsTo.of_defaults rfl ho hd rfl rfl) (fun n x hx => ?_) (fun n => rfl) fun g₁ L' h₁ tk code oc C' hoc S' => ?_
  · rcases List.mem_cons.mp hx with rfl | hx
    · exact .inl rfl
    · rcases List.mem_cons.mp hx with rfl | hx
      · exact .inl rfl
      · rcases List.mem_cons.mp hx with rfl | hx
        · exact .inr ⟨rfl, rfl⟩
        · cases hx
  · replace hoc : oc.data = .cell (some .none) := hoc
    generalize hm : bindL (envX (nm X1.P 14) (sc X1.P 14) L' (fa X1.P mg 14) code [(Str.ofString "key", L' + 1)]).kindOf _ (fun _ => none) = m₁ at S'
    have e1 : m₁ (Str.ofString "n") = some (.int n t) := by rw [← hm]; rfl
    have e2 : m₁ (Str.ofString "iterable") = some (.ref l) := by rw [← hm]; rfl
    clear hm
    refine wpAny_execs_cons ?_
    walk_at "if1"
    walk_at "gs"
    by_cases h1 : n = 1
    · subst h1
      rw [if_pos (by rfl)]
      walk_at "gs"
      refine r_callB C' S' (by decide) rfl ?_
      walk_at "gs"
      refine r_iter S' U fun I oI h2 hoI S2 => ?_
      walk_at "gs"
      refine r_callT0 C' (by with_reducible assumption) (by decide) rfl ?_
      refine r_object (by with_reducible assumption) fun O h3 S3 => ?_
      walk_at "gs"
      refine r_callBK C' (by with_reducible assumption) (by decide) rfl ?_
      walk_at "gs"
      refine kws_cons ?_
      walk_at "gs"
      refine kws_cons ?_
      refine r_loadK (kn := Str.ofString "key") (by with_reducible assumption) (.head _) hoc ?_
      refine kws_nil ?_
      rename St _ _ _ (upd _ (Str.ofString "sentinel") _) _ _ _ => S4
      refine r_max C'.handled C'.u3 S4.swapO hoI U (fun hd h5 tk5 S5 => ?_) fun d ds' v h5 tk5 hd hv S5 => ?_
      · walk_at "gs"
        refine IfExp_ ?_
        walk_at "gs"
        refine wpAny_is_ref_self ?_
        walk_at "gs"
        simp only [if_true]
        refine PyProof.Rows.List_ (args_nil ?_)
        refine r_newL (k := .p) (ds := []) (by with_reducible assumption) .nil fun l6 h6 S6 => ?_
        walk_at "gs"
        refine Back.intro S6.dropO fun S7 => ret _ _ _ ((L' + 1, oc) :: nw) (fun p hp => .tail _ hp) ?_
        subst hd
        exact S7
      · walk_at "gs"
        refine IfExp_ ?_
        walk_at "gs"
        refine r_isO (by with_reducible assumption) .head hv ?_
        walk_at "gs"
        simp only [Bool.false_eq_true, if_false]
        walk_at "gs"
        refine r_newL (k := .p) (ds := [best gtl d ds']) (by with_reducible assumption) (.cons hv .nil) fun l6 h6 S6 => ?_
        walk_at "gs"
        refine Back.intro S6.dropO fun S7 => ret _ _ _ ((L' + 1, oc) :: nw) (fun p hp => .tail _ hp) ?_
        have hp : (sortB true ds).Perm (d :: ds') := by rw [← hd]; exact sortB_perm true ds
        rw [show ((1 : Int).toNat) = 1 from rfl, one_few gtl_tot (sortB_sd ds) hp]
        exact S7
    · rw [if_neg (by simpa using h1)]
      walk_at "gs"
      refine wpAny_Try_except ?_
      walk_at "gs"
      refine r_callB C' S' (by decide) rfl ?_
      walk_at "gs"
      refine r_len S' U (by lia) fun tl _ => ?_
      walk_at "gs"
      walk_at "if1"
      walk_at "gs"
      by_cases h2 : n ≥ ds.length
      · rw [if_pos (by simpa using h2)]
        walk_at "gs"
        refine r_callBK C' (by with_reducible assumption) (by decide) rfl ?_
        walk_at "gs"
        refine kws_cons ?_
        refine r_loadK (kn := Str.ofString "key") (by with_reducible assumption) (.head _) hoc ?_
        refine kws_cons ?_
        walk_at "gs"
        refine kws_nil ?_
        refine r_sorted (b := true) (by with_reducible assumption) U (by intro e; cases e) (by lia) C'.u4 (fun a => sort_keyRev a) (by unfold argsOk; kernel_rfl) (fun a => by unfold argsOk; kernel_rfl) fun D h3 S3 => ?_
        refine wpAny_Slice ?_
        refine evalPart_none_step (evalPart_some_step ?_)
        walk_at "gs"
        refine evalPart_none_step ?_
        refine r_slice S3 .head .none (.int _ _) .none (by simp) (by rw [(sortB_perm true ds).length_eq]; lia) rfl fun D2 h4 S4 => ?_
        walk_at "gs"
        refine Back.intro S4.swapL.dropL fun S7 => ret _ _ _ ((L' + 1, oc) :: nw) (fun p hp => .tail _ hp) ?_
        rw [pick_upto _ (by lia)] at S7
        exact S7
      · rw [if_neg (by simpa using h2)]
        walk_at "gs"
        walk_at "if1"
        walk_at "gs"
        refine r_loadK (kn := Str.ofString "key") (by with_reducible assumption) (.head _) hoc ?_
        walk_at "gs"
        simp only [if_true]
        walk_at "gs"
        refine r_callB C' (by with_reducible assumption) (by decide) rfl ?_
        walk_at "gs"
        refine r_iter (by with_reducible assumption) U fun I oI h3 hoI S3 => ?_
        walk_at "gs"
        rename St _ _ _ (upd _ (Str.ofString "it") _) _ _ _ => S4
        obtain ⟨N, hN⟩ : ∃ N : Nat, N = n.toNat := ⟨_, rfl⟩
        obtain ⟨vs0, c0, _, hr0⟩ := S.isList U
        have hl2 := hr0.len2
        have hNl : N ≤ ds.length := by lia
        refine a_comp rfl (closureFor_none (by decide)) (by decide) ?_
        refine r_callT C' S4 (by decide) rfl ?_
        walk_at "gs"
        refine r_callT C' S4 (by decide) rfl ?_
        walk_at "gs"
        refine UnaryOp_ ?_
        walk_at "gs"
        refine i_neg fun _ _ => ?_
        walk_at "gs"
        refine UnaryOp_ ?_
        walk_at "gs"
        refine i_neg fun _ _ => ?_
        walk_at "gs"
        refine r_range3 S4 (by decide) (by decide) fun r h5 tk5 S5 => ?_
        walk_at "gs"
        refine r_zip (n := N) S5 hoI (small_back (by lia)) (rangeSize_back (by lia)) fun z TI TO i1 h6 S6 => ?_
        refine wpAny_pyIter_zip (s := mk s h6 _) (S6.getO .head) ?_
        refine comp_tail (n := N) (kd := .pi) C'.handled
          (fun i out ls' ob' nw' => i ≤ N ∧ ls' = ls ∧ out = numd (fun j => -(j : Int)) (ds.take i) ∧ (∀ p ∈ (TI, po (.ref i1) (.ref I)) :: (L' + 1, oc) :: nw, p ∈ nw') ∧ ∃ a b oI, IsLI oI l i ∧ ob' = (z, zo TI TO .none) :: (TO, po a b) :: (i1, riObj (0 + (i : Int) * -1) ((N : Int) - i) (-1)) :: (I, oI) :: ob)
          (fun out ls' ob' nw' => ls' = ls ∧ out = numd (fun j => -(j : Int)) (ds.take N) ∧ (∀ p ∈ (TI, po (.ref i1) (.ref I)) :: (L' + 1, oc) :: nw, p ∈ nw') ∧ ∃ a b oI x y, IsLI oI l N ∧ ob' = (z, zo TI TO .none) :: (TO, po a b) :: (i1, riObj x y (-1)) :: (I, oI) :: ob)
          S6 ⟨Nat.zero_le _, rfl, by simp [numd], fun p hp => hp, .none, .none, oI, hoI, by simp⟩ ?_ ?_ ?_ ?_ ?_ (by decide +kernel) rfl rfl (by decide) rfl
        · rintro i out ls' ob' nw' ⟨hi, rfl, rfl, _⟩
          rw [numd_len]; simp; lia
        · intro h tk ls' ob' Q' E' S7 q'
          exact wpAny_pyIter_zip (s := mk s h tk) (S7.getO (.tail .head)) q'
        · rintro i h tk D C oC out ls' ob' nw' E' hi ⟨hiN, rfl, rfl, hsub, a, b, oI, hoI, rfl⟩ S7
          obtain ⟨d, hd⟩ : ∃ d, ds[i]? = some d := ⟨_, List.getElem?_eq_getElem (by lia)⟩
          refine zip_turn S7 (hsub _ (.head _)) hoI (.tail U) hd (by lia) fun T s₁ go => ⟨T, rfl, wpAny_mono go (fun _ s₂ hq => ?_) fun _ _ x => x⟩
          obtain ⟨h₂, tk₂, t, v, oI', rfl, hT, hr, ho', S₂⟩ := hq
          refine ⟨h₂, tk₂, _, v, 0, _, _, rfl, hT, S₂, fun h₃ tk₃ oC' mc hnc hx hy S₃ => ?_⟩
          refine PyProof.Rows.Tuple_ (args_cons (k_load S₃ hnc rfl rfl hy (args_cons (k_load S₃ hnc rfl rfl hx (args_nil ?_)))))
          refine r_tupN S₃ fun a4 h₄ S₄ => ⟨h₄, _, _, _, _, d ++ [-((i : Nat) : Int)], rfl, ⟨a4, 0, v, d, _, t, rfl, .head _, hr.mono fun p hp => .tail _ hp, by rw [show (0 : Int) + (i : Int) * -1 = -(i : Int) by lia]⟩, S₄, by lia, rfl, (numd_snoc hd).symm, fun p hp => .tail _ (hsub p hp), .int (0 + (i : Int) * -1) t, v, oI', ho', ?_⟩
          rw [show (0 : Int) + (i : Int) * -1 + -1 = 0 + ((i + 1 : Nat) : Int) * -1 by lia, show (N : Int) - (i : Int) - 1 = (N : Int) - ((i + 1 : Nat) : Int) by lia]
        · rintro h tk D C oC out ls' ob' nw' E' ⟨hiN, rfl, rfl, hsub, a, b, oI, hoI, rfl⟩ S7
          exact zip_stop C'.handled S7 (hsub _ (.head _)) (by lia) fun h₁ S₁ => ⟨rfl, h₁, _, _, rfl, S₁, rfl, rfl, hsub, a, b, oI, _, _, hoI, rfl⟩
        · rintro h7 tk7 D7 C7 oC7 mc7 out7 ls7 ob7 nw7 ⟨rfl, rfl, hsub, a, b, oI, x, y, hoI, rfl⟩ hnc7 S7
          refine comp_use (name := nm X1.P 14) (scope := sc X1.P 14) (f := fa X1.P mg 14) (cd := code) (cl := [(Str.ofString "key", L' + 1)]) (y := Str.ofString "result") hnc7 S7 fun h8 tk8 S8 => ?_
          have S9 := S8.dropO.dropO.dropO
          clear S8 S7
          walk_at "gs"
          walk_at "if1"
          walk_at "gs"
          have hlen0 : (numd (fun j => -(j : Int)) (ds.take N)).length = N := by rw [numd_len]; simp; lia
          refine r_truthy S9 .head (by lia) fun tk9 => ?_
          rw [hlen0]
          by_cases hN0 : N = 0
          · rw [decide_eq_false (by lia)]
            simp only [Bool.not_false, if_true]
            walk_at "gs"
            refine Back.intro S9.dropO fun S10 => ret _ _ _ nw7 (fun p hp => hsub p (.tail _ (.tail _ hp))) ?_
            subst hN0
            rw [show n.toNat = 0 by lia]
            exact St.reK S10
          · rw [decide_eq_true (by lia)]
            simp only [Bool.not_true, Bool.false_eq_true, if_false]
            walk_at "gs"
            have hN2 : 2 ≤ N := by lia
            refine r_callF 5 C' S9 (by decide) rfl ?_
            walk_at "gs"
            refine ⟨S9.fr.keep, c_heapify C' S9 .head (by lia) fun h10 tk10 S10 => ?_⟩
            obtain ⟨res, hres⟩ : ∃ res, res = heapify llt (numd (fun j => -(j : Int)) (ds.take N)) := ⟨_, rfl⟩
            rw [← hres] at S10
            have hrl : res.length = N := by rw [hres, heapify_len, hlen0]
            have F0 : Few gtl res (ds.take N) := by
              rcases Few.start (lt := gtl) (res := numd (fun j => -(j : Int)) (ds.take N)) (seen := ds.take N) (numd_nd fun d hd => hl2 d (List.mem_of_mem_take hd)) (by rw [numd_fst fun d hd => hl2 d (List.mem_of_mem_take hd)]) with hF | hF
              · rw [hres]; exact hF
              · exact absurd gtl_tot hF
            clear hres S9
            walk_at "gs"
            obtain ⟨e0, he0⟩ : ∃ e0, res[0]? = some e0 := ⟨_, List.getElem?_eq_getElem (by lia)⟩
            have he0' : res.getD 0 [] = e0 := by simp [List.getD, he0]
            refine r_sub (n := 0) S10 .head rfl he0 (by lia) fun v0 hv0 => ?_
            walk_at "gs"
            refine r_fst S10 hv0 fun vt hvt => ?_
            walk_at "gs"
            refine UnaryOp_ ?_
            walk_at "gs"
            refine i_neg fun _ _ => ?_
            walk_at "gs"
            refine r_def (i := 3) C' (by with_reducible assumption) (by decide) rfl ?_
            walk_at "gs"
            rename St _ _ _ (upd _ (Str.ofString "_heapreplace") _) _ _ _ => S11
            refine r_for ?_
            walk_at "gs"
            refine r_pyIterLI S11 .head hoI ?_
            refine r_forL (i₀ := N) (n := ds.length) C'.handled S11 hoI hNl
              (fun i m' ls' nw' => (∀ p ∈ nw7, p ∈ nw') ∧ m' (Str.ofString "result") = some (.ref D7) ∧ m' (Str.ofString "_heapreplace") = some (.ref (fa X1.P mg 3)) ∧ ∃ (o : Int) (to : Tok) (vt : Value) (res : List D), m' (Str.ofString "order") = some (.int o to) ∧ m' (Str.ofString "top") = some vt ∧
                RelIn nw' .p vt (fst2 (res.getD 0 [])) ∧ ls' = (D7, .pi, res) :: ls7 ∧ res.length = N ∧ Few gtl res (ds.take i))
              ⟨fun p hp => hp, by walk_at "lk", by walk_at "lk", -n, _, vt, res, by walk_at "lk", by walk_at "lk", he0' ▸ hvt, rfl, hrl, F0⟩
              (fun i nw' v => ∃ d, ds[i]? = some d ∧ RelIn nw' .p v d) ?_ ?_ ?_ ?_
            · rintro i h' m' ls' nw' o hi ⟨hs', _, _, o', to', vt', res', _, _, _, rfl, _, _⟩ S12
              obtain ⟨d, hd⟩ : ∃ d, ds[i]? = some d := ⟨_, List.getElem?_eq_getElem hi⟩
              obtain ⟨items, v, hI, hv, hr⟩ := S12.listAt (.tail U) hd
              exact ⟨items, v, hI, hv, d, hd, hr⟩
            · rintro h' m' ls' nw' o ⟨hs', _, _, o', to', vt', res', _, _, _, rfl, _, _⟩ S12
              obtain ⟨vs, c, hI, hr⟩ := S12.isList (.tail U)
              refine ⟨vs.toArray, PySem.IsL.isList (n := c) hI, ?_⟩
              have := hr.len
              simp; lia
            · rintro i h12 tk12 m12 ls12 nw12 v o hi ⟨hs', f1, f2, o', to', vt', res', f3, f4, hvt', rfl, hrl', F'⟩ ⟨d, hd, hv⟩ S12
              have htk : ds.take (i + 1) = ds.take i ++ [d] := by rw [List.take_add_one, hd]; rfl
              have hdl : d.length = 2 := hl2 d (List.mem_of_getElem? hd)
              walk_at "gs"
              walk_at "if1"
              walk_at "gs"
              refine r_lt S12 C'.u2 hvt' hv ?_
              walk_at "gs"
              by_cases hlt : gtl d (fst2 (res'.getD 0 [])) = true
              · rw [if_pos (show llt (fst2 (res'.getD 0 [])) d = true from hlt)]
                walk_at "gs"
                refine r_callV (i := 3) C' S12 (by decide) (by walk_at "lk") ?_
                walk_at "gs"
                refine r_tupN S12 fun a13 h13 S13 => ?_
                walk_at "gs"
                have hv13 : RelIn ((a13, tupOf [v, .int o' to'] 0) :: nw12) .pi (.ref a13) (d ++ [o']) := ⟨a13, 0, v, d, o', to', rfl, .head _, RelIn.mono (k := .p) hv fun p hp => .tail _ hp, rfl⟩
                refine ⟨S13.fr.keep, c_heapreplace C' S13 .head hv13 (by lia) (by lia) fun h14 tk14 v14 hv14 S14 => ?_⟩
                have F14 := F'.swap gtl_tot app_gtl (z := o') (by lia) hdl hlt
                obtain ⟨res2, hres2⟩ : ∃ res2, res2 = hrepl llt res' (d ++ [o']) := ⟨_, rfl⟩
                have hrl2 : res2.length = N := by rw [hres2, hrepl_len]; exact hrl'
                replace F14 : Few gtl res2 (ds.take (i + 1)) := by rw [htk, hres2]; exact F14
                rw [← hres2] at S14
                clear hres2
                obtain ⟨a14, n14, w14, d14, z14, u14, rfl, _⟩ := hv14
                walk_at "gs"
                refine Assign_Tuple ?_
                walk_at "gs"
                obtain ⟨e2, he2⟩ : ∃ e2, res2[0]? = some e2 := ⟨_, List.getElem?_eq_getElem (by lia)⟩
                have he2' : res2.getD 0 [] = e2 := by simp [List.getD, he2]
                refine r_sub (n := 0) S14 .head rfl he2 (by lia) fun v15 hv15 => ?_
                obtain ⟨a15, n15, v16, d16, z16, u16, rfl, m16, p16, rfl⟩ := hv15
                refine r_unpack S14 C'.handled (S14.gets _ m16) rfl rfl fun h16 S16 => ?_
                refine assignInOrder_cons (wpAny_assign_Name (r_store S16 fun h17 tk17 S17 => ?_))
                refine assignInOrder_cons (wpAny_assign_Name (r_store S17 fun h18 tk18 S18 => assignInOrder_nil ?_))
                walk_at "gs"
                refine i_isub fun _ _ => ?_
                walk_at "gs"
                refine TurnEnd.next (by with_reducible assumption) ⟨fun p hp => .tail _ (hs' p hp), by walk_at "lk", by walk_at "lk", _, _, v16, res2, by walk_at "lk", by walk_at "lk", ?_, rfl, hrl2, F14⟩
                rw [he2', fst2_app p16.len]; exact p16
              · rw [if_neg (show ¬ llt (fst2 (res'.getD 0 [])) d = true from hlt)]
                walk_at "gs"
                refine TurnEnd.next (by with_reducible assumption) ⟨hs', by walk_at "lk", by walk_at "lk", _, _, vt', res', by walk_at "lk", by walk_at "lk", hvt', rfl, hrl', ?_⟩
                rw [htk]
                exact F'.keep gtl_tot app_gtl (by lia) (by simpa using hlt)
            · rintro h12 tk12 m12 ls12 nw12 ⟨hs', f1, f2, o', to', vt', res', f3, f4, hvt', rfl, hrl', F'⟩ S12
              rw [List.take_length] at F'
              walk_at "gs"
              refine methodCall_KW ?_
              walk_at "gs"
              refine r_method S12 .head slot_list_sort PySem.F.type_list_sort ?_
              refine callWith_mk ?_
              refine kws_cons ?_
              walk_at "gs"
              refine kws_nil ?_
              refine r_sort (b := true) S12 .head (by intro e; cases e) (by lia) C'.u3 (sort_rev _) (args_list_sort_rev _ _) fun h13 S13 => ?_
              have hsl : (sortB true res').length = N := by rw [(sortB_perm true res').length_eq]; exact hrl'
              have hnd : Nd (sortB true res') := fun e he => F'.nd e ((sortB_perm true res').mem_iff.mp he)
              walk_at "gs"
              refine e_comp (closureFor_none (by decide)) (by decide) ?_
              walk_at "gs"
              refine r_pyIterL S13 .head fun I2 oI2 h14 hoI2 S14 => ?_
              refine comp_tail (n := N) (kd := .p) C'.handled
                (fun i out ls' ob' nw' => i ≤ N ∧ nw' = nw12 ∧ ls' = (D7, .pi, sortB true res') :: ls7 ∧ out = ((sortB true res').take i).map fst2 ∧ ∃ oI, IsLI oI D7 i ∧ ob' = (I2, oI) :: ob)
                (fun out ls' ob' nw' => nw' = nw12 ∧ ls' = (D7, .pi, sortB true res') :: ls7 ∧ out = (sortB true res').map fst2 ∧ ob' = ob)
                S14 ⟨Nat.zero_le _, rfl, rfl, by simp, oI2, hoI2, rfl⟩ ?_ ?_ ?_ ?_ ?_ (by decide +kernel) rfl rfl (by decide) rfl
              · rintro i out ls' ob' nw' ⟨hi, rfl, rfl, rfl, _⟩
                simp; lia
              · intro h tk ls' ob' Q' E' S15 q'
                exact r_pyIterLI S15 (.tail .head) hoI2 q'
              · rintro i h15 tk15 D15 C15 oC15 out ls' ob' nw' E' hi ⟨hiN, rfl, rfl, rfl, oI, hoI3, rfl⟩ S15
                obtain ⟨e, he⟩ : ∃ e, (sortB true res')[i]? = some e := ⟨_, List.getElem?_eq_getElem (by lia)⟩
                obtain ⟨items, v, hI, hv, hr⟩ := S15.listAt (.tail .head) he
                refine wpAny_pyNext_list_item (s := mk s h15 tk15) ⟨oI, S15.getO (.tail .head), hoI3.1, hoI3.2⟩ hI hv fun h16 hit16 hs16 => ?_
                obtain ⟨o16, g1, g2, g3⟩ := hit16
                have S16 := S15.turned (.tail .head) hs16 g1
                obtain ⟨a17, n17, v17, d17, z17, u17, rfl, m17, p17, rfl⟩ := hr
                refine ⟨a17, rfl, owned_list g1 ⟨g2, g3⟩ ⟨h16, tk15, v17, .int z17 u17, n17, _, _, rfl, S16.gets _ m17, S16, fun h18 tk18 oC' mc hnc hx hy S18 => ?_⟩⟩
                refine k_load S18 hnc rfl rfl hx ⟨h18, tk18, _, _, _, d17, rfl, p17, S18, by lia, rfl, rfl, ?_, o16, ⟨g2, g3⟩, rfl⟩
                rw [List.take_add_one, he, List.map_append]
                simp [fst2_app p17.len]
              · rintro h15 tk15 D15 C15 oC15 out ls' ob' nw' E' ⟨hiN, rfl, rfl, rfl, oI, hoI3, rfl⟩ S15
                obtain ⟨vs, c, hI, hr⟩ := S15.isList (.tail .head)
                have hvl := hr.len
                refine wpAny_pyNext_list_end (s := mk s h15 tk15) C'.handled ⟨oI, S15.getO (.tail .head), hoI3.1, hoI3.2⟩ (PySem.IsL.isList (n := c) hI) (by simp; lia) fun h16 he16 => ?_
                refine ⟨rfl, h16, tk15, ob, rfl, S15.swapO.lost he16, rfl, rfl, ?_, rfl⟩
                rw [List.take_of_length_le (by lia)]
              · rintro h15 tk15 D15 C15 oC15 mc15 out ls' ob' nw' ⟨rfl, rfl, rfl, rfl⟩ hnc15 S15
                refine comp_val hnc15 S15 fun h16 S16 => ?_
                walk_at "gs"
                refine Back.intro S16.swapL.dropL fun S17 => ret _ _ _ nw' (fun p hp => hs' p (hsub p (.tail _ (.tail _ hp)))) ?_
                have hd := F'.done gtl_tot (out := (sortB true res').map fst2) (srt := sortB true ds) (Sd.map app_gtl (sortB_sd res') hnd) ((sortB_perm true res').map fst2) (sortB_sd ds) (sortB_perm true ds)
                rw [show n.toNat = res'.length by lia, hd]
                exact S17
end

section
set_option autoImplicit false
set_option maxRecDepth 10000

section
variable {prog : Program} {w : World} {A : Around} {E : Value → Shared → Prop} {s : Shared} {h : Heap} {tk : Nat} {h₀ : Base} {L : Addr} {m : Str → Option Value} {ls : List Ent} {ob nw : Led} {l : Addr} {k : Kd} {ds : List D} {g : List D → List Ent} {Q : Value → Shared → Prop}
theorem r_listCopy (S : St h₀ L h m ls ob nw) (U : At l k ds ls g) (hz : ds.length < 1000) (q : ∀ B h', St h₀ L h' m ((B, k, ds) :: ls) ob nw → Q (.ref B) (mk s h' tk)) : wpAny (model prog w) A (call (.type "list") [.ref l]) Q E (mk s h tk) := by
  obtain ⟨vs, n, hl, hr⟩ := S.isList U
  have hlen := hr.len
  refine call_list_seq (hsz := by rw [sizeLine_eq]; simp; lia) (s := mk s h tk) l (.inl rfl) hl rfl rfl fun h' c' hk hD => ?_
  exact q _ h' (S.addL hk (Nat.le_refl _) hD hr)
theorem r_max2 {a b : Int} {t u : Tok} (hh : A.handled = none) (S : St h₀ L h m ls ob nw) (q : ∀ h' tk' t', St h₀ L h' m ls ob nw → Q (.int (max a b) t') (mk s h' tk')) : wpAny (model prog w) A (call (.builtin "max") [.int a t, .int b u]) Q E (mk s h tk) := by
  refine max_two_ints (s := mk s h tk) hh fun h' tk' hk => ?_
  have S' := S.grown hk
  by_cases hc : b > a
  · rw [if_pos hc]
    have := q h' tk' u S'
    rwa [show max a b = b by lia] at this
  · rw [if_neg hc]
    have := q h' tk' t S'
    rwa [show max a b = a by lia] at this
end
theorem Ok.sorted {hs rs : List D} (h : Ok hs rs) : sortD hs = rs := Sd.uniq llt_tot (sortD_srt hs) h.sr ((sortD_perm hs).trans h.pm)
theorem Ok.turned {hs rs : List D} (h : Ok hs rs) : sortB true hs = rs.reverse :=
  Sd.uniq gtl_tot (sortB_sd hs) (by show List.Pairwise _ _; rw [List.pairwise_reverse]; exact h.sr) ((sortB_perm true hs).trans (h.pm.trans (List.reverse_perm rs).symm))

variable {mg mb : Str → Option Value} {prog : Program} {w : World} {A : Around} {E : Value → Shared → Prop} {s : Shared} {h : Heap} {tk : Nat} {h₀ : Base} {L : Addr} {m : Str → Option Value} {ls : List Ent} {ob nw : Led} {a b : Addr} {k : Kd} {hs rs : List D} {G : List D → List D → List Ent} {QV : Value → Shared → Prop}


set_option maxHeartbeats 8000000 in
theorem c_few {q : Nat} {kd n : Int} {t t' : Tok} {Q : Value → Shared → Prop} (C : Cx X1 mg mb A h₀ L (q + 5)) (T : Two a b G) (S : St h₀ L h m (G hs rs) ob nw) (hk : kd = 8 ∨ kd = 9) (hz : hs.length < 60) (hn : -1 ≤ n ∧ n < 64) (hok : Ok hs rs)
    (ret : ∀ h' tk nw', (∀ p ∈ nw, p ∈ nw') → St h₀ L h' m (G hs rs) ob nw' → Q (.bool true) (mk s h' tk)) :
    wpAny (model prog w) A (call (.ref (fa X1.P mg 22)) [.int kd t, .ref a, .ref b, .int n t']) Q E (mk s h tk) := by
  have hlen := hok.pm.length_eq
  refine call_fn (i := 22) C S (by decide) (fun _ _ _ => rfl) (locs rfl) fun g₁ L' h₁ tk code C' S' => ?_
  generalize hm : (fun y => (bindsOf X1 22 [.int kd t, .ref a, .ref b, .int n t']).reverse.lookup y) = m₁ at S'
  have e1 : m₁ (Str.ofString "kind") = some (.int kd t) := by rw [← hm]; rfl
  have e2 : m₁ (Str.ofString "heap") = some (.ref a) := by rw [← hm]; rfl
  have e3 : m₁ (Str.ofString "row") = some (.ref b) := by rw [← hm]; rfl
  have e4 : m₁ (Str.ofString "wish") = some (.int n t') := by rw [← hm]; rfl
  clear hm
  refine wpAny_execs_cons ?_
  walk_at "gs"
  refine r_callT C' S' (by decide) rfl ?_
  walk_at "gs"
  refine r_listCopy S' (T.fst _ _) (by lia) fun B h2 S2 => ?_
  walk_at "gs"
  walk_at "if1"
  walk_at "gs"
  rename St _ _ _ (upd _ (Str.ofString "before") _) _ _ _ => S3
  by_cases h8 : kd = 8
  · subst h8
    rw [if_pos (by rfl)]
    walk_at "gs"
    refine r_callD 13 C' S3 (by decide) rfl ?_
    walk_at "gs"
    refine ⟨S3.fr.keep, c_nsmallest C' S3 (.tail (T.fst _ _)) hz hn fun h4 tk4 D4 nw4 hs4 S4 => ?_⟩
    walk_at "gs"
    refine wpAny_Slice ?_
    refine evalPart_none_step (evalPart_some_step ?_)
    rename St _ _ _ (upd _ (Str.ofString "told") _) _ _ _ => S5
    refine r_callB C' S5 (by decide) rfl ?_
    walk_at "gs"
    refine r_max2 C'.handled S5 fun h6 tk6 t6 S6 => ?_
    refine evalPart_none_step ?_
    refine r_slice S6 (.tail (.tail (T.snd _ _))) .none (.int _ _) .none (by simp) (by lia) rfl fun D7 h7 S7 => ?_
    rw [pick_upto _ (by lia)] at S7
    walk_at "gs"
    rename St _ _ _ (upd _ (Str.ofString "due") _) _ _ _ => S8
    refine r_eqL S8 (.tail .head) .head C'.u3 ?_
    rw [decide_eq_true (by rw [hok.sorted, show n.toNat = (max n 0).toNat by lia])]
    walk_at "gs"
    simp only [if_true]
    walk_at "gs"
    refine r_eqL S8 (.tail (.tail (.tail (T.fst _ _)))) (.tail (.tail .head)) C'.u3 ?_
    rw [decide_eq_true rfl]
    walk_at "gs"
    exact Back.intro S8.dropL.dropL.dropL (ret _ _ _ hs4)
  · have h9 : kd = 9 := by lia
    rw [if_neg (by simpa using h8)]
    walk_at "gs"
    refine r_callD 14 C' S3 (by decide) rfl ?_
    walk_at "gs"
    refine ⟨S3.fr.keep, c_nlargest C' S3 (.tail (T.fst _ _)) hz hn fun h4 tk4 D4 nw4 hs4 S4 => ?_⟩
    walk_at "gs"
    refine wpAny_Slice ?_
    refine evalPart_none_step (evalPart_none_step (evalPart_some_step ?_))
    refine UnaryOp_ ?_
    walk_at "gs"
    refine i_neg fun _ _ => ?_
    rename St _ _ _ (upd _ (Str.ofString "told") _) _ _ _ => S5
    refine r_slice S5 (.tail (.tail (T.snd _ _))) .none .none (.int _ _) (by simp) (by lia) rfl fun R h6 S6 => ?_
    rw [pick_back] at S6
    refine wpAny_Slice ?_
    refine evalPart_none_step (evalPart_some_step ?_)
    refine r_callB C' S6 (by decide) rfl ?_
    walk_at "gs"
    refine r_max2 C'.handled S6 fun h7 tk7 t7 S7 => ?_
    refine evalPart_none_step ?_
    refine r_slice S7 .head .none (.int _ _) .none (by simp) (by simp; lia) rfl fun D8 h8 S8 => ?_
    rw [pick_upto _ (by lia)] at S8
    walk_at "gs"
    rename St _ _ _ (upd _ (Str.ofString "due") _) _ _ _ => S9
    refine r_eqL S9 (.tail (.tail .head)) .head C'.u3 ?_
    rw [decide_eq_true (by rw [hok.turned, show n.toNat = (max n 0).toNat by lia])]
    walk_at "gs"
    simp only [if_true]
    walk_at "gs"
    refine r_eqL S9 (.tail (.tail (.tail (.tail (T.fst _ _))))) (.tail (.tail (.tail .head))) C'.u3 ?_
    rw [decide_eq_true rfl]
    walk_at "gs"
    exact Back.intro S9.dropL.dropL.dropL.dropL (ret _ _ _ hs4)
end

section
set_option autoImplicit false
set_option maxRecDepth 10000

theorem first_at {l : D} : ∀ {rs : List D}, l ∈ rs → ∃ j : Nat, rs[j]? = some l ∧ ∀ i : Nat, i < j → rs[i]? ≠ some l
  | x :: rs, h => by
    by_cases e : x = l
    · subst e; exact ⟨0, rfl, fun i hi => by lia⟩
    · rcases List.mem_cons.mp h with h | h
      · exact absurd h.symm e
      · obtain ⟨j, h1, h2⟩ := first_at h
        refine ⟨j + 1, by simpa using h1, fun i hi => ?_⟩
        cases i with
        | zero => simpa using e
        | succ i => simpa using h2 i (by lia)
/-- four lists of one state -/
structure Four (a b c e : Addr) (G : List D → List D → List D → List D → List Ent) : Prop where
  p1 : ∀ x y z w, At a .p x (G x y z w) fun x' => G x' y z w
  p2 : ∀ x y z w, At b .p y (G x y z w) fun y' => G x y' z w
  p3 : ∀ x y z w, At c .p z (G x y z w) fun z' => G x y z' w
  p4 : ∀ x y z w, At e .p w (G x y z w) fun w' => G x y z w'
theorem Four.two {a b c e : Addr} {G : List D → List D → List D → List D → List Ent} (F : Four a b c e G) (z w : List D) : Two a b (fun x y => G x y z w) := ⟨fun x y => F.p1 x y z w, fun x y => F.p2 x y z w⟩

variable {mg mb : Str → Option Value} {prog : Program} {w : World} {A : Around} {E : Value → Shared → Prop} {s : Shared} {h : Heap} {tk : Nat} {h₀ : Base} {L : Addr} {m : Str → Option Value} {ls : List Ent} {ob nw : Led} {a b c e : Addr} {k : Kd} {hs rs hs2 rs2 : List D} {G : List D → List D → List D → List D → List Ent} {QV : Value → Shared → Prop}


set_option maxHeartbeats 8000000 in
theorem c_call {q : Nat} {kd n : Int} {t t' : Tok} {v : Value} {d : D} {Q : Value → Shared → Prop} (C : Cx X1 mg mb A h₀ L (q + 6)) (T : Four a b c e G) (S : St h₀ L h m (G hs rs hs2 rs2) ob nw) (hv : RelIn nw .p v d) (hk : 0 ≤ kd ∧ kd < 13) (hz : hs.length + hs2.length < 59) (hn : -1 ≤ n ∧ n < 64) (hok : Ok hs rs) (hok2 : Ok hs2 rs2)
    (ret : ∀ h' tk nw' hs' rs' hs2' rs2', (∀ p ∈ nw, p ∈ nw') → Ok hs' rs' → Ok hs2' rs2' → hs'.length + hs2'.length ≤ hs.length + hs2.length + 1 → St h₀ L h' m (G hs' rs' hs2' rs2') ob nw' → Q (.bool true) (mk s h' tk)) :
    wpAny (model prog w) A (call (.ref (fa X1.P mg 23)) [.int kd t, .ref a, .ref b, .ref c, .ref e, v, .int n t']) Q E (mk s h tk) := by
  have hlen := hok.pm.length_eq
  have hlen2 := hok2.pm.length_eq
  refine call_fn (i := 23) C S (by decide) (fun _ _ _ => rfl) (locs rfl) fun g₁ L' h₁ tk code C' S' => ?_
  generalize hm : (fun y => (bindsOf X1 23 [.int kd t, .ref a, .ref b, .ref c, .ref e, v, .int n t']).reverse.lookup y) = m₁ at S'
  have e1 : m₁ (Str.ofString "kind") = some (.int kd t) := by rw [← hm]; rfl
  have e2 : m₁ (Str.ofString "heap") = some (.ref a) := by rw [← hm]; rfl
  have e3 : m₁ (Str.ofString "row") = some (.ref b) := by rw [← hm]; rfl
  have e4 : m₁ (Str.ofString "spare") = some (.ref c) := by rw [← hm]; rfl
  have e5 : m₁ (Str.ofString "spare_row") = some (.ref e) := by rw [← hm]; rfl
  have e6 : m₁ (Str.ofString "pair") = some v := by rw [← hm]; rfl
  have e7 : m₁ (Str.ofString "wish") = some (.int n t') := by rw [← hm]; rfl
  clear hm
  refine wpAny_execs_cons ?_
  walk_at "if1"
  walk_at "gs"
  by_cases c1 : kd < 3
  · rw [if_pos (decide_eq_true c1)]
    walk_at "gs"
    refine r_callF 17 C' S' (by decide) rfl ?_
    walk_at "gs"
    refine ⟨S'.fr.keep, c_lay C' S' (T.p2 _ _ _ _) hv (by lia) fun h2 tk2 S2 => ?_⟩
    walk_at "gs"
    refine r_callF 1 C' S2 (by decide) rfl ?_
    walk_at "gs"
    refine ⟨S2.fr.keep, c_heappush C' S2 (T.p1 _ _ _ _) hv (by lia) fun h3 tk3 S3 => ?_⟩
    walk_at "gs"
    exact Back.intro S3 (ret _ _ _ _ _ _ _ (fun p hp => hp) hok.push hok2 (by rw [hpush_len]; lia))
  rw [if_neg (by simpa using c1)]
  walk_at "gs"
  walk_at "if1"
  walk_at "gs"
  by_cases c2 : kd < 6
  · rw [if_pos (decide_eq_true c2)]
    walk_at "gs"
    refine r_callF 20 C' S' (by decide) rfl ?_
    walk_at "gs"
    refine ⟨S'.fr.keep, c_least C' (T.two hs2 rs2) S' hv (by lia) (by lia) hok fun h2 tk2 hs' rs' ok' hl' S2 => ?_⟩
    walk_at "gs"
    exact Back.intro S2 (ret _ _ _ _ _ _ _ (fun p hp => hp) ok' hok2 (by lia))
  rw [if_neg (by simpa using c2)]
  walk_at "gs"
  walk_at "if1"
  walk_at "gs"
  by_cases c3 : kd = 6
  · rw [if_pos (by simpa using c3)]
    walk_at "gs"
    refine r_callF 17 C' S' (by decide) rfl ?_
    walk_at "gs"
    refine ⟨S'.fr.keep, c_lay C' S' (T.p2 _ _ _ _) hv (by lia) fun h2 tk2 S2 => ?_⟩
    walk_at "gs"
    refine r_method S2 (T.p1 _ _ _ _) PySem.F.slot_list_insert PySem.F.type_list_insert ?_
    walk_at "gs"
    refine r_insert (i := 0) S2 (T.p1 _ _ _ _) rfl (by lia) (by lia) hv fun h3 S3 => ?_
    walk_at "gs"
    refine r_method S3 (T.p1 _ _ _ _) PySem.F.slot_list_reverse PySem.F.type_list_reverse ?_
    walk_at "gs"
    refine r_reverse S3 (T.p1 _ _ _ _) (by simp; lia) fun h4 S4 => ?_
    walk_at "gs"
    refine r_callF 5 C' S4 (by decide) rfl ?_
    walk_at "gs"
    refine ⟨S4.fr.keep, c_heapify C' S4 (T.p1 _ _ _ _) (by simp; lia) fun h5 tk5 S5 => ?_⟩
    walk_at "gs"
    refine Back.intro S5 (ret _ _ _ _ _ _ _ (fun p hp => hp) (.make ?_ (lay_srt hok.sr)) hok2 (by rw [heapify_len]; simp; lia))
    refine (List.reverse_perm _).trans ?_
    simpa using (hok.pm.cons d).trans (lay_perm rs d).symm
  rw [if_neg (by simpa using c3)]
  walk_at "gs"
  walk_at "if1"
  walk_at "gs"
  by_cases c4 : kd = 7
  · rw [if_pos (by simpa using c4)]
    walk_at "gs"
    refine r_while (fun n s' => ∃ h' tk' x z, s' = mk s h' tk' ∧ St g₁ L' h' m₁ (G x rs z rs2) ob nw ∧ (x ++ z).Perm (hs ++ hs2) ∧ n = z.length)
      (fun s' => ∃ h' tk' x, s' = mk s h' tk' ∧ St g₁ L' h' m₁ (G x rs [] rs2) ob nw ∧ x.Perm (hs ++ hs2)) hs2.length
      ⟨_, _, hs, hs2, rfl, S', .refl _, rfl⟩ ?_ ?_
    · rintro n s' ⟨h', tk', x, z, rfl, S3, pm, rfl⟩
      have hxz : x.length + z.length = hs.length + hs2.length := by have := pm.length_eq; simpa using this
      walk_at "gs"
      refine r_truthy S3 (T.p3 _ _ _ _) (by lia) fun tk4 => ?_
      rcases List.eq_nil_or_concat z with rfl | ⟨z', y, rfl⟩
      · rw [decide_eq_false (by simp)]
        simp only [Bool.false_eq_true, if_false]
        exact ⟨_, _, x, rfl, S3, by simpa using pm⟩
      · rw [List.concat_eq_append] at *
        rw [decide_eq_true (by simp)]
        simp only [if_true]
        walk_at "gs"
        refine r_method S3 (T.p1 _ _ _ _) PySem.F.slot_list_append PySem.F.type_list_append ?_
        walk_at "gs"
        refine r_method S3 (T.p3 _ _ _ _) PySem.F.slot_list_pop PySem.F.type_list_pop ?_
        walk_at "gs"
        refine r_pop S3 (T.p3 _ _ _ _) rfl (by lia) fun h5 v5 hv5 S5 => ?_
        walk_at "gs"
        refine r_append S5 (T.p1 _ _ _ _) (by lia) hv5 fun h6 S6 => ?_
        walk_at "gs"
        refine ⟨z'.length, by simp, _, _, _, z', rfl, S6, ?_, rfl⟩
        refine List.Perm.trans ?_ pm
        rw [List.append_assoc]
        exact List.Perm.append_left _ List.perm_append_comm
    · rintro s' ⟨h', tk', x, rfl, S3, pm⟩
      have hx : x.length = hs.length + hs2.length := by have := pm.length_eq; simpa using this
      walk_at "gs"
      refine r_while (fun n s' => ∃ h' tk' y z, s' = mk s h' tk' ∧ St g₁ L' h' m₁ (G x y [] z) ob nw ∧ (y ++ z).Perm (rs ++ rs2) ∧ Srt y ∧ n = z.length)
        (fun s' => ∃ h' tk' y, s' = mk s h' tk' ∧ St g₁ L' h' m₁ (G x y [] []) ob nw ∧ y.Perm (rs ++ rs2) ∧ Srt y) rs2.length
        ⟨_, _, rs, rs2, rfl, S3, .refl _, hok.sr, rfl⟩ ?_ ?_
      · rintro n s' ⟨h', tk', y, z, rfl, S4, pm4, sr4, rfl⟩
        have hxz : y.length + z.length = rs.length + rs2.length := by have := pm4.length_eq; simpa using this
        walk_at "gs"
        refine r_truthy S4 (T.p4 _ _ _ _) (by lia) fun tk4 => ?_
        rcases List.eq_nil_or_concat z with rfl | ⟨z', u, rfl⟩
        · rw [decide_eq_false (by simp)]
          simp only [Bool.false_eq_true, if_false]
          exact ⟨_, _, y, rfl, S4, by simpa using pm4, sr4⟩
        · rw [List.concat_eq_append] at *
          rw [decide_eq_true (by simp)]
          simp only [if_true]
          walk_at "gs"
          refine r_callF 17 C' S4 (by decide) rfl ?_
          walk_at "gs"
          refine r_method S4 (T.p4 _ _ _ _) PySem.F.slot_list_pop PySem.F.type_list_pop ?_
          walk_at "gs"
          refine r_pop S4 (T.p4 _ _ _ _) rfl (by lia) fun h5 v5 hv5 S5 => ?_
          walk_at "gs"
          simp at hxz
          refine ⟨S5.fr.keep, c_lay C' S5 (T.p2 _ _ _ _) hv5 (by lia) fun h6 tk6 S6 => ?_⟩
          walk_at "gs"
          refine ⟨z'.length, by simp, _, _, _, z', rfl, S6, ?_, lay_srt sr4, rfl⟩
          refine List.Perm.trans ?_ pm4
          refine ((lay_perm y u).append_right z').trans ?_
          refine List.Perm.trans ?_ (List.Perm.append_left y (List.perm_append_comm (l₁ := [u]) (l₂ := z')))
          exact List.perm_middle.symm
      · rintro s' ⟨h', tk', y, rfl, S4, pm4, sr4⟩
        walk_at "gs"
        refine r_callF 5 C' S4 (by decide) rfl ?_
        walk_at "gs"
        refine ⟨S4.fr.keep, c_heapify C' S4 (T.p1 _ _ _ _) (by lia) fun h5 tk5 S5 => ?_⟩
        walk_at "gs"
        refine Back.intro S5 (ret _ _ _ _ _ _ _ (fun p hp => hp) (.make (pm.trans ((hok.pm.append hok2.pm).trans pm4.symm)) sr4) ⟨fun j i _ _ hi => by simp at hi, .refl _, .nil⟩ (by rw [heapify_len]; simp; lia))
  rw [if_neg (by simpa using c4)]
  walk_at "gs"
  walk_at "if1"
  walk_at "gs"
  by_cases c5 : kd < 10
  · rw [if_pos (decide_eq_true c5)]
    walk_at "gs"
    refine r_callF 22 C' S' (by decide) rfl ?_
    walk_at "gs"
    refine ⟨S'.fr.keep, c_few C' (T.two hs2 rs2) S' (by lia) (by lia) hn hok fun h2 tk2 nw2 hs2 S2 => ?_⟩
    walk_at "gs"
    exact Back.intro S2 (ret _ _ _ _ _ _ _ hs2 hok hok2 (by lia))
  rw [if_neg (by simpa using c5)]
  walk_at "gs"
  walk_at "if1"
  walk_at "gs"
  by_cases c6 : kd = 10
  · rw [if_pos (by simpa using c6)]
    walk_at "gs"
    walk_at "if1"
    walk_at "gs"
    refine r_isNil S' (T.p1 _ _ _ _) C'.u3 fun h2 S2 => ?_
    walk_at "gs"
    rcases List.eq_nil_or_concat hs with rfl | ⟨hs', l, rfl⟩
    · have hr : rs = [] := by simpa using hok.pm
      subst hr
      simp only [decide_true, if_true]
      walk_at "gs"
      refine r_isNil S2 (T.p2 _ _ _ _) C'.u3 fun h3 S3 => ?_
      walk_at "gs"
      exact Back.intro S3 (ret _ _ _ _ _ _ _ (fun p hp => hp) hok hok2 (by lia))
    · rw [List.concat_eq_append] at *
      rw [if_neg (by simp)]
      walk_at "gs"
      refine r_method S2 (T.p1 _ _ _ _) PySem.F.slot_list_pop PySem.F.type_list_pop ?_
      walk_at "gs"
      refine r_pop S2 (T.p1 _ _ _ _) rfl (by lia) fun h3 v3 hv3 S3 => ?_
      walk_at "gs"
      walk_at "if1"
      walk_at "gs"
      rename St _ _ _ (upd _ (Str.ofString "last") _) _ _ _ => S4
      have hmem : l ∈ rs := hok.pm.mem_iff.mp (by simp)
      refine r_notin S4 (T.p2 _ _ _ _) hv3 C'.u3 ?_
      rw [decide_eq_true hmem]
      walk_at "gs"
      simp only [Bool.not_true, Bool.false_eq_true, if_false]
      walk_at "gs"
      refine r_method S4 (T.p2 _ _ _ _) PySem.F.slot_list_remove PySem.F.type_list_remove ?_
      walk_at "gs"
      obtain ⟨j, hj, hno⟩ := first_at hmem
      refine r_remove S4 (T.p2 _ _ _ _) hv3 C'.u3 (by lia) hj hno fun h5 S5 => ?_
      walk_at "gs"
      refine Back.intro S5 (ret _ _ _ _ _ _ _ (fun p hp => hp) (hok.lose hj) hok2 (by simp; lia))
  · rw [if_neg (by simpa using c6)]
    walk_at "gs"
    refine r_callF 21 C' S' (by decide) rfl ?_
    walk_at "gs"
    refine ⟨S'.fr.keep, c_greatest C' (T.two hs2 rs2) S' hv (by lia) (by lia) hok fun h2 tk2 hs' rs' ok' hl' S2 => ?_⟩
    walk_at "gs"
    exact Back.intro S2 (ret _ _ _ _ _ _ _ (fun p hp => hp) ok' hok2 (by lia))
end

section
set_option autoImplicit false
set_option maxRecDepth 100000

section
variable {prog : Program} {w : World} {A : Around} {E : Value → Shared → Prop} {s : Shared} {h : Heap} {tk : Nat} {h₀ : Base} {L : Addr} {m : Str → Option Value} {ls : List Ent} {ob nw : Led} {l l2 : Addr} {k : Kd} {ds ds2 : List D} {g g2 : List D → List Ent} {Q : Value → Shared → Prop}

/-- a slice of a list that lies in the base -/
theorem r_sliceB {value : PySem.Expr} {a b c : Option PySem.Expr} {p : Pos} {vl vu vs : Value} {lo hi st : Option Int} {xs : List Value} (S : St h₀ L h m ls ob nw) (hl : h₀.hB.IsList l xs.toArray) (hr : All2 (RelIn nw k) xs ds) (pl : IsPart vl lo) (pu : IsPart vu hi) (ps : IsPart vs st) (h0 : st ≠ some 0) (hz : ds.length < 1000)
    {ops : List Value} (hsub : subscripted (.Slice a b c p) false (.ref l) (.ref h.objs.size) = operate ops (getItem (.ref l) (.ref h.objs.size)))
    (q : ∀ D h', St h₀ L h' m ((D, k, pickD ds lo hi st) :: ls) ob nw → Q (.ref D) (mk s h' tk)) :
    wpAny (model prog w) A (subscriptTail value (.Slice a b c p) (.ref l) (.ref h.objs.size)) Q E (mk s (h.push { cls := .type "slice", data := .fields #[vl, vu, vs] }) tk) := by
  have hlen := hr.len
  have hl0 : h.IsList l xs.toArray := by
    obtain ⟨o, e1, e2⟩ := hl
    exact ⟨o, S.fr.keep _ _ e1, e2⟩
  have S1 := S.grown fun _ _ e => Heap.get?_push_of_some ({ cls := .type "slice", data := .fields #[vl, vu, vs] } : Obj) e
  have hl1 : (mk s (h.push { cls := .type "slice", data := .fields #[vl, vu, vs] }) tk).heap.IsList l xs.toArray := hl0.push _
  have go : wpAny (model prog w) A (getItem (.ref l) (.ref h.objs.size)) Q E (mk s (h.push { cls := .type "slice", data := .fields #[vl, vu, vs] }) tk) := by
    refine wpAny_getItem_list_slice hl1 (Heap.IsSliceOf.new ..) pl pu ps h0 ?_ (by rw [sizeLine_eq]; simp; lia)
    have hp : slicePick xs.toArray lo hi st = ((sliceRange (sliceBounds lo hi st ds.length).1 (sliceBounds lo hi st ds.length).2.1 (sliceBounds lo hi st ds.length).2.2).filterMap (xs[·]?)).toArray := by
      unfold slicePick
      rw [List.size_toArray, hlen]
      congr 1
      congr 1
      funext i
      simp
    rw [hp]
    exact q _ _ (S1.addL (fun _ _ e => Heap.get?_push_of_some _ e) (Nat.le_refl _) (Heap.get?_push_size _ rfl) (hr.idx _))
  unfold subscriptTail
  refine wpAny_bind ?_
  rw [getitemInPython_of_ne hl1.typeIs.not_modules]
  refine wpAny_bind (wpAny_specialOf hl1.typeIs list_getitem_lookup ?_)
  have fin : wpAny (model prog w) A (subscripted (.Slice a b c p) false (.ref l) (.ref h.objs.size)) (fun r s₃ => wpAny (model prog w) A (letTemporaryGo value (.ref l) r >>= fun _ => pure r) Q E s₃) E (mk s (h.push { cls := .type "slice", data := .fields #[vl, vu, vs] }) tk) := by
    rw [hsub]
    exact wpAny_operating (wpAny_mono go (fun r s₃ h₃ => wpAny_bind (wpAny_letTemporaryGo (wpAny_pure h₃))) fun _ _ x => x)
  first
    | exact wpAny_pure (wpAny_bind fin)
    | exact wpAny_bind (wpAny_pure (wpAny_bind fin))
    | exact wpAny_bind fin

/-- two lists put together -/
theorem r_addL (S : St h₀ L h m ls ob nw) (U : At l k ds ls g) (U2 : At l2 k ds2 ls g2) (hz : ds.length + ds2.length < 1000) (q : ∀ D h', St h₀ L h' m ((D, k, ds ++ ds2) :: ls) ob nw → Q (.ref D) (mk s h' tk)) :
    wpAny (model prog w) A (binaryOp .Add (.ref l) (.ref l2)) Q E (mk s h tk) := by
  obtain ⟨xs, n, hl, hr⟩ := S.isList U
  obtain ⟨ys, n2, hl2, hr2⟩ := S.isList U2
  have e1 := hr.len
  have e2 := hr2.len
  refine PySem.P.add_list (s := mk s h tk) (items := xs.toArray) (items2 := ys.toArray) hl hl2 ?_ (by rw [sizeLine_eq]; simp; lia)
  have : xs.toArray ++ ys.toArray = (xs ++ ys).toArray := by simp
  rw [this]
  exact q _ _ (S.addL (fun _ _ e => Heap.get?_push_of_some _ e) (Nat.le_refl _) (Heap.get?_push_size _ rfl) (hr.append hr2))

/-- an item of a list of other values -/
theorem r_subO {value slice : PySem.Expr} {a : Addr} {xs : List Value} {n : Nat} {gO : Obj → Led} {i : Int} {j : Nat} {t : Tok} {v : Value} (S : St h₀ L h m ls ob nw) (UO : AtO a (listOf xs.toArray n) ob gO) (hi : i = (j : Int)) (hv : xs[j]? = some v) (hz : xs.length < 1000) (q : Q v (mk s h tk))
    (hs : subscripted slice false (.ref a) (.int i t) = operate [.ref a, .int i t] (getItem (.ref a) (.int i t)) := by with_unfolding_all rfl) :
    wpAny (model prog w) A (subscriptTail value slice (.ref a) (.int i t)) Q E (mk s h tk) := by
  have hl1 : (mk s h tk).heap.IsList a xs.toArray := PySem.IsL.isList (n := n) (S.getO UO)
  obtain ⟨hj, _⟩ := List.getElem?_eq_some_iff.mp hv
  have go : wpAny (model prog w) A (getItem (.ref a) (.int i t)) Q E (mk s h tk) := by
    subst hi
    exact wpAny_getItem_list hl1 (by lia) (by lia) (by simpa using hv) q
  exact tail_any hl1.typeIs slot_list_getitem.lookup go hs
end
end

section
set_option autoImplicit false
set_option maxRecDepth 100000

structure Six where
  a0 : Addr
  b0 : Addr
  a1 : Addr
  b1 : Addr
  a2 : Addr
  b2 : Addr
  ca : Addr
  cs : List D
def Six.hv (Z : Six) : List Value := [.ref Z.a0, .ref Z.a1, .ref Z.a2]
def Six.rv (Z : Six) : List Value := [.ref Z.b0, .ref Z.b1, .ref Z.b2]
def Six.g (Z : Six) (x0 y0 x1 y1 x2 y2 : List D) : List Ent := [(Z.b2, .p, y2), (Z.b1, .p, y1), (Z.b0, .p, y0), (Z.a2, .p, x2), (Z.a1, .p, x1), (Z.a0, .p, x0), (Z.ca, .i, Z.cs)]
def Inv6 (Z : Six) (P : Nat → List D → List D → Prop) (N : Nat) (ls : List Ent) : Prop :=
  ∃ x0 y0 x1 y1 x2 y2, ls = Z.g x0 y0 x1 y1 x2 y2 ∧ P 0 x0 y0 ∧ P 1 x1 y1 ∧ P 2 x2 y2 ∧ x0.length + x1.length + x2.length ≤ N
theorem Inv6.cells {Z : Six} {P : Nat → List D → List D → Prop} {N : Nat} {ls : List Ent} (h : Inv6 Z P N ls) : ∃ g, At Z.ca .i Z.cs ls g := by
  obtain ⟨x0, y0, x1, y1, x2, y2, rfl, _⟩ := h
  exact ⟨_, .tail (.tail (.tail (.tail (.tail (.tail .head)))))⟩
/-- one heap with its row -/
theorem Inv6.at {Z : Six} {P : Nat → List D → List D → Prop} {N : Nat} {ls : List Ent} (h : Inv6 Z P N ls) (j : Nat) (hj : j < 3) :
    ∃ a b x y G, Two a b G ∧ Z.hv[j]? = some (.ref a) ∧ Z.rv[j]? = some (.ref b) ∧ ls = G x y ∧ P j x y ∧ x.length ≤ N ∧
      ∀ (P' : Nat → List D → List D → Prop) x' y' N', P' j x' y' → (∀ i u v, i ≠ j → P i u v → P' i u v) → N + x'.length ≤ N' + x.length → Inv6 Z P' N' (G x' y') := by
  obtain ⟨x0, y0, x1, y1, x2, y2, rfl, p0, p1, p2, hN⟩ := h
  have hj' : j = 0 ∨ j = 1 ∨ j = 2 := by lia
  rcases hj' with rfl | rfl | rfl
  · exact ⟨Z.a0, Z.b0, x0, y0, fun x y => Z.g x y x1 y1 x2 y2, ⟨fun x y => .tail (.tail (.tail (.tail (.tail .head)))), fun x y => .tail (.tail .head)⟩, rfl, rfl, rfl, p0, by lia,
      fun P' x' y' N' h1 h2 h3 => ⟨x', y', x1, y1, x2, y2, rfl, h1, h2 1 _ _ (by decide) p1, h2 2 _ _ (by decide) p2, by lia⟩⟩
  · exact ⟨Z.a1, Z.b1, x1, y1, fun x y => Z.g x0 y0 x y x2 y2, ⟨fun x y => .tail (.tail (.tail (.tail .head))), fun x y => .tail .head⟩, rfl, rfl, rfl, p1, by lia,
      fun P' x' y' N' h1 h2 h3 => ⟨x0, y0, x', y', x2, y2, rfl, h2 0 _ _ (by decide) p0, h1, h2 2 _ _ (by decide) p2, by lia⟩⟩
  · exact ⟨Z.a2, Z.b2, x2, y2, fun x y => Z.g x0 y0 x1 y1 x y, ⟨fun x y => .tail (.tail (.tail .head)), fun x y => .head⟩, rfl, rfl, rfl, p2, by lia,
      fun P' x' y' N' h1 h2 h3 => ⟨x0, y0, x1, y1, x', y', rfl, h2 0 _ _ (by decide) p0, h2 1 _ _ (by decide) p1, h1, by lia⟩⟩
/-- a heap with its row, and the next one -/
theorem Inv6.at2 {Z : Six} {N : Nat} {ls : List Ent} (h : Inv6 Z (fun _ => Ok) N ls) (j j2 : Nat) (hj : j < 3) (hj2 : j2 = (j + 1) % 3) :
    ∃ a b c e x y z u G, Four a b c e G ∧ Z.hv[j]? = some (.ref a) ∧ Z.rv[j]? = some (.ref b) ∧ Z.hv[j2]? = some (.ref c) ∧ Z.rv[j2]? = some (.ref e) ∧ ls = G x y z u ∧ Ok x y ∧ Ok z u ∧ x.length + z.length ≤ N ∧
      ∀ x' y' z' u' N', Ok x' y' → Ok z' u' → N + (x'.length + z'.length) ≤ N' + (x.length + z.length) → Inv6 Z (fun _ => Ok) N' (G x' y' z' u') := by
  obtain ⟨x0, y0, x1, y1, x2, y2, rfl, p0, p1, p2, hN⟩ := h
  have hj' : j = 0 ∨ j = 1 ∨ j = 2 := by lia
  rcases hj' with rfl | rfl | rfl
  · subst hj2
    exact ⟨Z.a0, Z.b0, Z.a1, Z.b1, x0, y0, x1, y1, fun x y z u => Z.g x y z u x2 y2, ⟨fun x y z u => .tail (.tail (.tail (.tail (.tail .head)))), fun x y z u => .tail (.tail .head), fun x y z u => .tail (.tail (.tail (.tail .head))), fun x y z u => .tail .head⟩, rfl, rfl, rfl, rfl, rfl, p0, p1, by lia,
      fun x' y' z' u' N' h1 h2 h3 => ⟨x', y', z', u', x2, y2, rfl, h1, h2, p2, by lia⟩⟩
  · subst hj2
    exact ⟨Z.a1, Z.b1, Z.a2, Z.b2, x1, y1, x2, y2, fun x y z u => Z.g x0 y0 x y z u, ⟨fun x y z u => .tail (.tail (.tail (.tail .head))), fun x y z u => .tail .head, fun x y z u => .tail (.tail (.tail .head)), fun x y z u => .head⟩, rfl, rfl, rfl, rfl, rfl, p1, p2, by lia,
      fun x' y' z' u' N' h1 h2 h3 => ⟨x0, y0, x', y', z', u', rfl, p0, h1, h2, by lia⟩⟩
  · subst hj2
    exact ⟨Z.a2, Z.b2, Z.a0, Z.b0, x2, y2, x0, y0, fun x y z u => Z.g z u x1 y1 x y, ⟨fun x y z u => .tail (.tail (.tail .head)), fun x y z u => .head, fun x y z u => .tail (.tail (.tail (.tail (.tail .head)))), fun x y z u => .tail (.tail .head)⟩, rfl, rfl, rfl, rfl, rfl, p2, p0, by lia,
      fun x' y' z' u' N' h1 h2 h3 => ⟨z', u', x1, y1, x', y', rfl, h2, p1, h1, by lia⟩⟩

section
variable {prog : Program} {w : World} {A : Around} {E : Value → Shared → Prop} {s : Shared} {h : Heap} {tk : Nat} {h₀ : Base} {L : Addr} {m : Str → Option Value} {ls : List Ent} {ob nw : Led} {Q : Value → Shared → Prop}
/-- != of pairs -/
theorem r_neP {v v' : Value} {d d' : D} (S : St h₀ L h m ls ob nw) (hu : A.units + 2 < cLine) (h1 : RelIn nw .p v d) (h2 : RelIn nw .p v' d') (q : Q (.bool (!decide (d = d'))) (mk s h tk)) : wpAny (model prog w) A (compareOp .NotEq v v') Q E (mk s h tk) := by
  obtain ⟨a, n, x, t, y, u, rfl, m1, rfl⟩ := h1
  obtain ⟨a', n', x', t', y', u', rfl, m2, rfl⟩ := h2
  have g1 := S.gets _ m1
  have g2 := S.gets _ m2
  refine SeqAt.RcNeAt.tuples (s := mk s h tk) (items := #[.int x t, .int y u]) (items2 := #[.int x' t', .int y' u']) (e := fun j => if j = 0 then decide (x = x') else decide (y = y')) ⟨_, g1, rfl, n, rfl⟩ ⟨_, g2, rfl, n', rfl⟩ (by lia) (fun j hj1 hj2 => ?_) prog w E Q ?_
  · have hj : j = 0 ∨ j = 1 := by simp at hj1; lia
    rcases hj with rfl | rfl
    · exact fun _ _ _ Q hq => (cmp_all 0 (by show A.units + 1 + 0 < cLine; lia) (cmpI _ 0 x x' t t')).1 Q hq
    · exact fun _ _ _ Q hq => (cmp_all 0 (by show A.units + 1 + 0 < cLine; lia) (cmpI _ 0 y y' u u')).1 Q hq
  · have : (!((List.range (min (#[Value.int x t, .int y u] : Array Value).size (#[Value.int x' t', .int y' u'] : Array Value).size)).all (fun j => if j = 0 then decide (x = x') else decide (y = y')) && (#[Value.int x t, .int y u] : Array Value).size == (#[Value.int x' t', .int y' u'] : Array Value).size)) = !decide ([x, y] = [x', y']) := by
      by_cases e1 : x = x' <;> by_cases e2 : y = y' <;> simp [e1, e2, List.range, List.range.loop]
    rw [this]; exact q
end
end

section
set_option autoImplicit false
set_option maxRecDepth 10000

def sing (ns : List Int) : List D := ns.map fun x => [x]
theorem sing_get {ns : List Int} {i : Nat} {x : Int} (h : ns[i]? = some x) : (sing ns)[i]? = some [x] := by simp [sing, h]
theorem All2.sing {nw : Led} {vs : List Value} {ns : List Int} (h : IntsAre vs ns) : All2 (RelIn nw .i) vs (sing ns) := by
  induction h with
  | nil => exact .nil
  | cons n t _ ih => exact .cons ⟨n, t, rfl, rfl⟩ ih

section
variable {prog : Program} {w : World} {A : Around} {E : Value → Shared → Prop} {s : Shared} {h : Heap} {tk : Nat} {h₀ : Base} {L : Addr} {m : Str → Option Value} {ls : List Ent} {ob nw : Led} {Q : Value → Shared → Prop}
theorem r_pyIterO {a : Addr} {xs : List Value} {n : Nat} {gO : Obj → Led} (S : St h₀ L h m ls ob nw) (UO : AtO a (listOf xs.toArray n) ob gO) (q : ∀ I oI h', IsLI oI a 0 → St h₀ L h' m ls ((I, oI) :: ob) nw → Q (.ref I) (mk s h' tk)) : wpAny (model prog w) A (pyIter (.ref a)) Q E (mk s h tk) := by
  refine wpAny_pyIter_list (s := mk s h tk) (PySem.IsL.isList (n := n) (S.getO UO)) ?_
  exact q _ _ _ ⟨rfl, rfl⟩ (S.addO (fun _ _ e => Heap.get?_push_of_some _ e) (Nat.le_refl _) (Heap.get?_push_size _ rfl))
end
variable {mg mb : Str → Option Value} {prog : Program} {w : World} {A : Around} {E : Value → Shared → Prop} {s : Shared} {h : Heap} {tk : Nat} {h₀ : Base} {L : Addr} {m : Str → Option Value} {ls : List Ent} {ob nw : Led} {k : Kd} {ns : List Int} {vs : List Value} {l f : Addr} {cd : Value}


set_option maxHeartbeats 8000000 in
theorem c_law {q : Nat} {Q : Flow → Shared → Prop} (C : Cx X1 mg mb A h₀ L (q + 8)) (S : St h₀ L h m [] [] []) (e1 : m (Str.ofString "script") = some (.ref l)) (hl : h₀.hB.IsList l vs.toArray) (hi : IntsAre vs ns) (hz : ns.length < 100)
    (ret : ∀ h' tk m' ls' ob' nw', St h₀ L h' m' ls' ob' nw' → Q (.ret (.bool true)) (mk s h' tk)) :
    wpAny (model prog w) A (execs (bd X1.P 24) (envX (nm X1.P 24) (sc X1.P 24) L f cd [])) Q (fun _ _ => False) (mk s h tk) := by
  have hir : All2 (RelIn [] .i) vs (sing ns) := All2.sing hi
  refine wpAny_execs_cons ?_
  walk_at "gs"
  refine wpAny_Slice ?_
  refine evalPart_none_step (evalPart_some_step ?_)
  walk_at "gs"
  refine evalPart_none_step ?_
  refine r_sliceB (k := .i) S hl hir .none (.int _ _) .none (by simp) (by simp [sing]; lia) rfl fun D1 h2 S2 => ?_
  rw [pick_upto _ (by decide)] at S2
  walk_at "gs"
  refine r_newL (k := .i) (ds := sing [202, 246, 165, 577, 133]) S2 (.cons ⟨_, _, rfl, rfl⟩ (.cons ⟨_, _, rfl, rfl⟩ (.cons ⟨_, _, rfl, rfl⟩ (.cons ⟨_, _, rfl, rfl⟩ (.cons ⟨_, _, rfl, rfl⟩ .nil))))) fun D2 h3 S3 => ?_
  refine r_addL S3 (.tail .head) .head (by simp [sing]; lia) fun D3 h4 S4 => ?_
  have S5 := S4.swapL.dropL.swapL.dropL
  clear S4 S3 S2
  obtain ⟨cs, hcs⟩ : ∃ cs : List Int, cs = ns.take 24 ++ [202, 246, 165, 577, 133] := ⟨_, rfl⟩
  rw [show (sing ns).take (Int.toNat 24) ++ sing [202, 246, 165, 577, 133] = sing cs by rw [hcs]; simp [sing, List.map_take]] at S5
  have hcl : cs.length ≤ 29 := by rw [hcs]; simp; lia
  clear hcs
  walk_at "gs"
  rename St _ _ _ (upd _ (Str.ofString "cells") _) _ _ _ => S6
  refine PyProof.Rows.List_ (args_nil (r_newL (k := .p) (ds := []) S6 .nil fun a0 h7 S7 => ?_))
  walk_at "gs"
  refine PyProof.Rows.List_ (args_nil (r_newL (k := .p) (ds := []) S7 .nil fun a1 h8 S8 => ?_))
  walk_at "gs"
  refine PyProof.Rows.List_ (args_nil (r_newL (k := .p) (ds := []) S8 .nil fun a2 h9 S9 => ?_))
  walk_at "gs"
  refine r_newLO S9 fun ha h10 S10 => ?_
  walk_at "gs"
  rename St _ _ _ (upd _ (Str.ofString "heaps") _) _ _ _ => S11
  refine PyProof.Rows.List_ (args_nil (r_newL (k := .p) (ds := []) S11 .nil fun b0 h7 S12 => ?_))
  walk_at "gs"
  refine PyProof.Rows.List_ (args_nil (r_newL (k := .p) (ds := []) S12 .nil fun b1 h8 S13 => ?_))
  walk_at "gs"
  refine PyProof.Rows.List_ (args_nil (r_newL (k := .p) (ds := []) S13 .nil fun b2 h9 S14 => ?_))
  walk_at "gs"
  refine r_newLO S14 fun ra h15 S15 => ?_
  walk_at "gs"
  rename St _ _ _ (upd _ (Str.ofString "rows") _) _ _ _ => S16
  obtain ⟨Z, hZ⟩ : ∃ Z : Six, Z = ⟨a0, b0, a1, b1, a2, b2, D3, sing cs⟩ := ⟨_, rfl⟩
  have zc : Z.ca = D3 := by rw [hZ]
  have zs : Z.cs = sing cs := by rw [hZ]
  have i0 : Inv6 Z (fun _ x y => x.Perm y ∧ Srt y) 0 [(b2, .p, []), (b1, .p, []), (b0, .p, []), (a2, .p, []), (a1, .p, []), (a0, .p, []), (D3, .i, sing cs)] :=
    ⟨[], [], [], [], [], [], by rw [hZ]; rfl, ⟨.refl _, .nil⟩, ⟨.refl _, .nil⟩, ⟨.refl _, .nil⟩, by simp⟩
  have hob : [(ra, listOf [Value.ref b0, .ref b1, .ref b2].toArray 0), (ha, listOf [Value.ref a0, .ref a1, .ref a2].toArray 0)] = [(ra, listOf Z.rv.toArray 0), (ha, listOf Z.hv.toArray 0)] := by rw [hZ]; rfl
  rw [hob] at S16
  have hsl : (sing cs).length = cs.length := by simp [sing]
  refine r_for ?_
  refine r_callT C S16 (by decide) rfl ?_
  walk_at "gs"
  refine r_callB C S16 (by decide) rfl ?_
  walk_at "gs"
  refine r_len S16 (.tail (.tail (.tail (.tail (.tail (.tail .head)))))) (by lia) fun tl _ => ?_
  rw [hsl]
  walk_at "gs"
  refine r_range1 S16 fun r h17 tk17 t1 t2 S17 => ?_
  refine r_iterRange' (n := cs.length) S17 (by lia) (by lia) (by lia) fun I h18 S18 => ?_
  refine r_forR (n := cs.length) C.handled S18 (fun i m' ls' nw' => m' (Str.ofString "cells") = some (.ref Z.ca) ∧ m' (Str.ofString "heaps") = some (.ref ha) ∧ m' (Str.ofString "rows") = some (.ref ra) ∧ Inv6 Z (fun _ x y => x.Perm y ∧ Srt y) i ls')
    ⟨by rw [zc]; walk_at "lk", by walk_at "lk", by walk_at "lk", i0⟩ ?_ ?_
  · rintro i h19 tk19 m19 ls19 nw19 t19 o19 hi ⟨f1, f2, f3, J⟩ S19
    rw [show (0 : Int) + (i : Int) * 1 = (i : Int) by lia] at S19
    obtain ⟨gc, Uc⟩ := J.cells
    obtain ⟨a, b, x, y, G, T, ga, gb, rfl, ⟨pm, sr⟩, hN, back⟩ := J.at (i % 3) (by lia)
    obtain ⟨n, hn⟩ : ∃ n, cs[i]? = some n := ⟨_, List.getElem?_eq_getElem hi⟩
    walk_at "gs"
    refine r_callF 16 C S19 (by decide) rfl ?_
    walk_at "gs"
    refine r_sub S19 Uc rfl (by rw [zs]; exact sing_get hn) (by rw [zs]; lia) fun v20 hv20 => ?_
    obtain ⟨n', t20, rfl, hn'⟩ := hv20
    walk_at "gs"
    refine ⟨S19.fr.keep, c_pair C S19 fun h21 tk21 nw21 v21 hs21 hv21 S21 => ?_⟩
    walk_at "gs"
    rename St _ _ _ (upd _ (Str.ofString "pair") _) _ _ _ => S22
    refine i_mod (by decide) fun _ _ => ?_
    refine r_subO (j := i % 3) S22 (.tail (.tail .head)) (by lia) ga (by show 3 < 1000; decide) ?_
    refine r_method S22 (T.fst _ _) PySem.F.slot_list_append PySem.F.type_list_append ?_
    walk_at "gs"
    refine r_append S22 (T.fst _ _) (by lia) hv21 fun h23 S23 => ?_
    walk_at "gs"
    refine r_callF 17 C S23 (by decide) rfl ?_
    walk_at "gs"
    refine i_mod (by decide) fun _ _ => ?_
    refine r_subO (j := i % 3) S23 (.tail .head) (by lia) gb (by show 3 < 1000; decide) ?_
    walk_at "gs"
    refine ⟨S23.fr.keep, c_lay C S23 (T.snd _ _) hv21 (by rw [← pm.length_eq]; lia) fun h24 tk24 S24 => ?_⟩
    walk_at "gs"
    refine TurnEnd.next S24 ⟨by walk_at "lk", by walk_at "lk", by walk_at "lk", back _ _ _ _ ⟨?_, lay_srt sr⟩ (fun _ _ _ _ h => h) (by simp; lia)⟩
    exact (List.perm_append_comm (l₁ := x) (l₂ := [_])).trans ((pm.cons _).trans (lay_perm y _).symm)
  · rintro h19 tk19 m19 ls19 nw19 ⟨f1, f2, f3, J⟩ S19
    walk_at "gs"
    refine r_for ?_
    walk_at "gs"
    refine r_pyIterO S19 (.tail .head) fun I2 oI2 h20 hoI2 S20 => ?_
    refine r_forL (i₀ := 0) (n := 3) C.handled S20 hoI2 (by lia) (fun i m' ls' nw' => m' (Str.ofString "cells") = some (.ref Z.ca) ∧ m' (Str.ofString "heaps") = some (.ref ha) ∧ m' (Str.ofString "rows") = some (.ref ra) ∧ Inv6 Z (fun j x y => (j < i → Ok x y) ∧ x.Perm y ∧ Srt y) cs.length ls')
      ⟨f1, f2, f3, ?_⟩ (fun i nw' v => Z.hv[i]? = some v) ?_ ?_ ?_ ?_
    · obtain ⟨x0, y0, x1, y1, x2, y2, e, p0, p1, p2, hN⟩ := J
      exact ⟨x0, y0, x1, y1, x2, y2, e, ⟨fun h => by lia, p0⟩, ⟨fun h => by lia, p1⟩, ⟨fun h => by lia, p2⟩, hN⟩
    · rintro i h' m' ls' nw' o hi _ S21
      obtain ⟨v, hv⟩ : ∃ v, Z.hv[i]? = some v := ⟨_, List.getElem?_eq_getElem hi⟩
      exact ⟨Z.hv.toArray, v, PySem.IsL.isList (n := 0) (S21.getO (.tail (.tail .head))), by simpa using hv, hv⟩
    · rintro h' m' ls' nw' o _ S21
      exact ⟨Z.hv.toArray, PySem.IsL.isList (n := 0) (S21.getO (.tail (.tail .head))), by simp [Six.hv]⟩
    · rintro i h21 tk21 m21 ls21 nw21 v o hi ⟨f1, f2, f3, J⟩ hv S21
      obtain ⟨a, b, x, y, G, T, ga, gb, rfl, ⟨_, pm, sr⟩, hN, back⟩ := J.at i hi
      rw [ga] at hv
      cases hv
      walk_at "gs"
      walk_at "if1"
      walk_at "gs"
      refine r_callF 5 C S21 (by decide) rfl ?_
      walk_at "gs"
      refine ⟨S21.fr.keep, c_heapify C S21 (T.fst _ _) (by lia) fun h22 tk22 S22 => ?_⟩
      have hok : Ok (heapify llt x) y := .make pm sr
      walk_at "gs"
      simp only [Bool.false_eq_true, if_false]
      walk_at "gs"
      refine r_callF 18 C S22 (by decide) rfl ?_
      walk_at "gs"
      refine ⟨S22.fr.keep, c_least_up C S22 (T.fst _ _) (by rw [heapify_len]; lia) hok.hp fun h23 tk23 S23 => ?_⟩
      walk_at "gs"
      simp only [Bool.not_true, Bool.false_eq_true, if_false]
      walk_at "gs"
      simp only [Bool.false_eq_true, if_false]
      walk_at "gs"
      exact TurnEnd.next S23 ⟨by walk_at "lk", by walk_at "lk", by walk_at "lk", back _ _ _ _ ⟨fun _ => hok, hok.pm, sr⟩ (fun j u v hj h => ⟨fun hj' => h.1 (by lia), h.2⟩) (by rw [heapify_len]; exact Nat.le_refl _)⟩
    · rintro h21 tk21 m21 ls21 nw21 ⟨f1, f2, f3, J⟩ S21
      have J2 : Inv6 Z (fun _ => Ok) cs.length ls21 := by
        obtain ⟨x0, y0, x1, y1, x2, y2, e, p0, p1, p2, hN⟩ := J
        exact ⟨x0, y0, x1, y1, x2, y2, e, p0.1 (by lia), p1.1 (by lia), p2.1 (by lia), hN⟩
      clear J
      walk_at "gs"
      refine r_for ?_
      refine r_callT C S21 (by decide) rfl ?_
      walk_at "gs"
      refine r_callB C S21 (by decide) rfl ?_
      walk_at "gs"
      obtain ⟨gc, Uc⟩ := J2.cells
      refine r_len S21 Uc (by rw [zs]; lia) fun tl _ => ?_
      rw [zs, hsl]
      walk_at "gs"
      refine r_range1 S21 fun r3 h22 tk22 t3 t4 S22 => ?_
      refine r_iterRange' (n := cs.length) S22 (by lia) (by lia) (by lia) fun I3 h23 S23 => ?_
      refine r_forR (n := cs.length) C.handled S23 (fun i m' ls' nw' => m' (Str.ofString "cells") = some (.ref Z.ca) ∧ m' (Str.ofString "heaps") = some (.ref ha) ∧ m' (Str.ofString "rows") = some (.ref ra) ∧ Inv6 Z (fun _ => Ok) (cs.length + i) ls')
        ⟨f1, f2, f3, J2⟩ ?_ ?_
      · rintro i h24 tk24 m24 ls24 nw24 t24 o24 hi ⟨f1, f2, f3, J⟩ S24
        rw [show (0 : Int) + (i : Int) * 1 = (i : Int) by lia] at S24
        obtain ⟨gc, Uc⟩ := J.cells
        obtain ⟨n, hn⟩ : ∃ n, cs[i]? = some n := ⟨_, List.getElem?_eq_getElem hi⟩
        obtain ⟨j, hj⟩ : ∃ j : Nat, n / 13 % 3 = (j : Int) := ⟨(n / 13 % 3).toNat, by lia⟩
        have hj3 : j < 3 := by lia
        obtain ⟨a, b, c, e, x, y, z, u, G, F4, ga, gb, gc', ge, rfl, ok1, ok2, hN, back⟩ := J.at2 j ((j + 1) % 3) hj3 rfl
        walk_at "gs"
        refine r_sub S24 Uc rfl (by rw [zs]; exact sing_get hn) (by rw [zs]; lia) fun v25 hv25 => ?_
        obtain ⟨n', t25, rfl, hn'⟩ := hv25
        cases hn'
        walk_at "gs"
        refine i_fdiv (by decide) fun _ _ => ?_
        walk_at "gs"
        refine i_mod (by decide) fun _ _ => ?_
        rw [hj]
        walk_at "gs"
        refine i_mod (by decide) fun _ _ => ?_
        walk_at "gs"
        rename St _ _ _ (upd _ (Str.ofString "after") _) _ _ _ => S26
        refine r_subO (j := j) S26 (.tail (.tail .head)) rfl ga (by show 3 < 1000; decide) ?_
        walk_at "gs"
        refine i_fdiv (by decide) fun _ _ => ?_
        walk_at "gs"
        rename St _ _ _ (upd _ (Str.ofString "heap") _) _ _ _ => S27
        refine r_callB C S27 (by decide) rfl ?_
        walk_at "gs"
        refine r_len S27 (F4.p1 _ _ _ _) (by lia) fun tl _ => ?_
        walk_at "gs"
        refine i_mod (by lia) fun _ _ => ?_
        walk_at "gs"
        rename St _ _ _ (upd _ (Str.ofString "wish") _) _ _ _ => S28
        refine r_callF 16 C S28 (by decide) rfl ?_
        walk_at "gs"
        refine UnaryOp_ ?_
        walk_at "gs"
        refine i_neg fun _ _ => ?_
        walk_at "gs"
        refine ⟨S28.fr.keep, c_pair C S28 fun h29 tk29 nw29 v29 hs29 hv29 S29 => ?_⟩
        walk_at "gs"
        walk_at "if1"
        walk_at "gs"
        rename St _ _ _ (upd _ (Str.ofString "pair") _) _ _ _ => S30
        refine r_callF 23 C S30 (by decide) rfl ?_
        walk_at "gs"
        refine i_mod (by decide) fun _ _ => ?_
        walk_at "gs"
        refine r_subO (j := j) S30 (.tail .head) rfl gb (by show 3 < 1000; decide) ?_
        walk_at "gs"
        refine r_subO (j := (j + 1) % 3) S30 (.tail (.tail .head)) (by lia) gc' (by show 3 < 1000; decide) ?_
        walk_at "gs"
        refine r_subO (j := (j + 1) % 3) S30 (.tail .head) (by lia) ge (by show 3 < 1000; decide) ?_
        walk_at "gs"
        have hmod : 0 ≤ n / 39 % ((x.length : Int) + 3) ∧ n / 39 % ((x.length : Int) + 3) < (x.length : Int) + 3 := ⟨Int.emod_nonneg _ (by lia), Int.emod_lt_of_pos _ (by lia)⟩
        refine ⟨S30.fr.keep, c_call C F4 S30 hv29 (by lia) (by lia) (by lia) ok1 ok2 fun h31 tk31 nw31 x' y' z' u' hs31 ok1' ok2' hl' S31 => ?_⟩
        walk_at "gs"
        simp only [Bool.not_true, Bool.false_eq_true, if_false]
        walk_at "gs"
        walk_at "if1"
        walk_at "gs"
        refine r_callF 18 C S31 (by decide) rfl ?_
        walk_at "gs"
        refine ⟨S31.fr.keep, c_least_up C S31 (F4.p1 _ _ _ _) (by lia) ok1'.hp fun h32 tk32 S32 => ?_⟩
        walk_at "gs"
        simp only [Bool.not_true, Bool.false_eq_true, if_false]
        walk_at "gs"
        exact TurnEnd.next S32 ⟨by walk_at "lk", by walk_at "lk", by walk_at "lk", back _ _ _ _ _ ok1' ok2' (by lia)⟩
      · rintro h24 tk24 m24 ls24 nw24 ⟨f1, f2, f3, J⟩ S24
        walk_at "gs"
        refine r_for ?_
        refine r_callT C S24 (by decide) rfl ?_
        walk_at "gs"
        refine r_range1 S24 fun r4 h25 tk25 t5 t6 S25 => ?_
        refine r_iterRange' (n := 3) S25 (by decide) (by decide) (by decide) fun I4 h26 S26 => ?_
        refine r_forR (n := 3) C.handled S26 (fun i m' ls' nw' => m' (Str.ofString "heaps") = some (.ref ha) ∧ m' (Str.ofString "rows") = some (.ref ra) ∧ Inv6 Z (fun j x y => j < i ∨ Ok x y) (cs.length + cs.length) ls')
          ⟨f2, f3, ?_⟩ ?_ ?_
        · obtain ⟨x0, y0, x1, y1, x2, y2, e, p0, p1, p2, hN⟩ := J
          exact ⟨x0, y0, x1, y1, x2, y2, e, .inr p0, .inr p1, .inr p2, hN⟩
        · rintro i h27 tk27 m27 ls27 nw27 t27 o27 hi ⟨f2, f3, J⟩ S27
          rw [show (0 : Int) + (i : Int) * 1 = (i : Int) by lia] at S27
          obtain ⟨a, b, x, y, G, T, ga, gb, rfl, hP, hN, back⟩ := J.at i hi
          have ok : Ok x y := by
            rcases hP with h | h
            · lia
            · exact h
          walk_at "gs"
          refine r_for ?_
          walk_at "gs"
          refine r_subO (j := i) S27 (.tail .head) rfl gb (by show 3 < 1000; decide) ?_
          refine r_pyIterL S27 (T.snd _ _) fun I5 oI5 h28 hoI5 S28 => ?_
          refine r_forL (i₀ := 0) (n := y.length) C.handled S28 hoI5 (by lia) (fun k m' ls' nw' => m' (Str.ofString "heaps") = some (.ref ha) ∧ m' (Str.ofString "rows") = some (.ref ra) ∧ (∃ t, m' (Str.ofString "at") = some (.int (i : Int) t)) ∧ ∃ x', ls' = G x' y ∧ Ok x' (y.drop k) ∧ x'.length ≤ x.length)
            ⟨by walk_at "lk", by walk_at "lk", ⟨_, by walk_at "lk"⟩, x, rfl, ok, Nat.le_refl _⟩ (fun k nw' v => ∃ d, y[k]? = some d ∧ RelIn nw' .p v d) ?_ ?_ ?_ ?_
          · rintro k h' m' ls' nw' o hk ⟨_, _, _, x', rfl, _, _⟩ S29
            obtain ⟨d, hd⟩ : ∃ d, y[k]? = some d := ⟨_, List.getElem?_eq_getElem hk⟩
            obtain ⟨items, v, hI, hv, hr⟩ := S29.listAt (T.snd _ _) hd
            exact ⟨items, v, hI, hv, d, hd, hr⟩
          · rintro h' m' ls' nw' o ⟨_, _, _, x', rfl, _, _⟩ S29
            obtain ⟨vs, c, hI, hr⟩ := S29.isList (T.snd _ _)
            refine ⟨vs.toArray, PySem.IsL.isList (n := c) hI, ?_⟩
            have := hr.len
            simp; lia
          · rintro k h29 tk29 m29 ls29 nw29 v o hk ⟨f4, f5, ⟨t6, f6⟩, x', rfl, okx, hlx⟩ ⟨d, hd, hv⟩ S29
            rw [drop_cons hd] at okx
            have h0 : 0 < x'.length := by rw [okx.pm.length_eq]; simp
            walk_at "gs"
            walk_at "if1"
            walk_at "gs"
            refine r_subO (j := i) S29 (.tail (.tail (.tail .head))) rfl ga (by show 3 < 1000; decide) ?_
            refine r_isNil S29 (T.fst _ _) C.u3 fun h30 S30 => ?_
            rw [decide_eq_false (by intro e; rw [e] at h0; simp at h0)]
            walk_at "gs"
            simp only [Bool.false_eq_true, if_false]
            walk_at "gs"
            refine r_callF 2 C S30 (by decide) rfl ?_
            walk_at "gs"
            refine r_subO (j := i) S30 (.tail (.tail (.tail .head))) rfl ga (by show 3 < 1000; decide) ?_
            walk_at "gs"
            refine ⟨S30.fr.keep, c_heappop C S30 (T.fst _ _) h0 (by lia) fun h31 tk31 v31 hv31 S31 => ?_⟩
            walk_at "gs"
            refine r_neP S31 C.u2 hv31 hv ?_
            rw [okx.root, decide_eq_true rfl]
            walk_at "gs"
            simp only [Bool.not_true, Bool.false_eq_true, if_false]
            walk_at "gs"
            simp only [Bool.false_eq_true, if_false]
            walk_at "gs"
            exact TurnEnd.next S31 ⟨by walk_at "lk", by walk_at "lk", ⟨_, by walk_at "lk"⟩, _, rfl, okx.pop, by rw [hpop_len h0]; lia⟩
          · rintro h29 tk29 m29 ls29 nw29 ⟨f4, f5, ⟨t6, f6⟩, x', rfl, okx, hlx⟩ S29
            rw [List.drop_length] at okx
            have hx0 : x' = [] := by simpa using okx.pm
            subst hx0
            walk_at "gs"
            walk_at "if1"
            walk_at "gs"
            refine r_subO (j := i) S29 (.tail (.tail .head)) rfl ga (by show 3 < 1000; decide) ?_
            refine r_isNotNil S29 (T.fst _ _) C.u3 fun h30 S30 => ?_
            rw [decide_eq_true rfl]
            walk_at "gs"
            simp only [Bool.not_true, Bool.false_eq_true, if_false]
            walk_at "gs"
            exact TurnEnd.next S30 ⟨by walk_at "lk", by walk_at "lk", back _ _ _ _ (.inl (by lia)) (fun j u v hj h => h.imp (fun h => by lia) id) (by simp)⟩
        · rintro h27 tk27 m27 ls27 nw27 _ S27
          walk_at "gs"
          exact ret _ _ _ _ _ _ S27
end

end
end Mine
section
set_option autoImplicit false
set_option maxRecDepth 100000
namespace Mine
theorem start_st {h h₁ : Heap} {L : Addr} {m : Str → Option Value} (F : Fr h L h₁ m) (N : News h L h₁ []) : St ⟨h, []⟩ L h₁ m [] [] [] :=
  ⟨F, ⟨[], [], .nil, .nil, N⟩, List.nodup_nil, fun _ ha => nomatch ha⟩
theorem start_cx {X : Pg} {h : Heap} {L f : Addr} {mg mb : Str → Option Value} {name : Str} {scope : Scope} {cd : Value} (G : Gd X.P X.js X.ks X.free mg mb h) (hk : scope.kind = .function) : Cx X mg mb (callerA.deeper (envOf name scope L f cd)) ⟨h, []⟩ L 20 where
  gd := G
  below := ⟨_, [], rfl, rfl, hk, .nil⟩
  depth := by show callerA.depth + 1 + 20 < 900; decide
  units := by show callerA.units + 3 + 3 * 20 < 9000; decide
  handled := rfl
def law1 : DefRec := ⟨nm X1.P 24, pr X1.P 24, bd X1.P 24, sc X1.P 24, ⟨275,0,303,15⟩⟩
theorem gd1 {mean : ExcName → Option Value} {mg mb : Str → Option Value} {h : Heap} (T : Top vw (looseW vw [Str.ofString "nsmallest", Str.ofString "nlargest"]) mean mg mb h) (Y : Says1 X1.P X1.ks h) : Gd X1.P X1.js X1.ks X1.free mg mb h :=
  gd_of (js' := [1,2,3,4,5,6,7,8,9,10,11,12,16,17,18,19,20,21,22,23,24]) T Y (by kernel_rfl) (by decide) (by kernel_rfl)
end Mine

set_option maxHeartbeats 8000000 in
theorem PySem.Challenge.cw_du0011_01_holds : PySem.Challenge.rw_du0011_01.Holds := by
  w_on
  refine holds_law Mine.ws fun said => ?_
  refine holds_open (q := Mine.vw) (d := Mine.law1) (kwd := []) (XP := XL Mine.vw []) (YP := Hook.says (Mine.hk1 Mine.X1.P Mine.X1.ks)) Mine.left1 (Hook.of (Mine.hk1 Mine.X1.P Mine.X1.ks)) (Hook.keeps (Mine.hk1 Mine.X1.P Mine.X1.ks)) (fun s e => xl_of s (Bool.and_eq_true_iff.mp e).1) XL.keeps (by kernel_rfl) (by kernel_rfl) (by rfl) (fun s e => recFacts_of (Bool.and_eq_true_iff.mp e).2) (by rfl) said (by decide +kernel) ⟨rfl, rfl, rfl, rfl, rfl, by decide +kernel⟩ ?hw ?hc
  case hw => w_witness2
  intro w s₀ s₁ mg mb G Y fa o pm cd doc dV kV ho hd hcd hD hmg hg args vals as hpre hlay hrd hwl hlo
  refine Ground.open G ?_
  intro T B D TE TW
  clear hmg
  wrow_args hpre hlay hrd hwl hlo
  refine enter_call ?_
  w_top on
  refine codeAny_mono ?_ (fun _ _ g => GoodW.toG g)
  w_call any ho hd hcd hD T F
  clear hd
  k_drop
  rename Top _ _ _ _ _ _ => T
  rename Fr _ _ _ _ => F
  rename News _ _ _ _ => N
  rename IntsAre _ _ => hI
  rename Heap.IsList _ _ _ => hL
  rename ¬ (63 : Int) < _ => hc
  refine wpAny_mono (Mine.c_law (q := 12) (s := _) (Mine.start_cx (X := Mine.X1) (Mine.gd1 T Y) rfl) (Mine.start_st F N) rfl hL hI (by lia) (Q := fun fl s' => fl = .ret (.bool true) ∧ s'.gens = #[] ∧ s'.os = _ ∧ ∃ m', Fr _ _ s'.heap m') fun h' tk m' ls' ob' nw' S => ⟨rfl, by assumption, rfl, m', S.fr⟩) (fun fl s' hq => ?_) (fun _ _ x => x.elim)
  obtain ⟨rfl, hg, ho, m', F'⟩ := hq
  refine goodW_bool F' hg (raisesW_false ?_) ?_ ho
  · wrow_none_raised
  · kc_post
end
