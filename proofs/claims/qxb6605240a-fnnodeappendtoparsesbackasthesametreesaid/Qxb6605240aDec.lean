/-
  THE PLAIN DECODER: what zzDecodeCanonical reads, by places. No Go here.
-/
import Derived.Test.Qxb6605240aPlain
namespace Go.Proofs.Qxb6605240a.Plain

/-- The value of a lowercase hex digit. -/
def lhex (c : Int) : Option Int := if 48 ≤ c ∧ c ≤ 57 then some (c - 48) else if 97 ≤ c ∧ c ≤ 102 then some (c - 87) else none

/-- What a control escape may stand for. -/
def ctl (v : Int) : Bool := decide (v < 32) && !(v == 8) && !(v == 9) && !(v == 10) && !(v == 12) && !(v == 13)

/-- The \u00xx escape at place i. -/
def uniAt (xs : List Int) (i : Nat) : Option (Int × Nat) :=
  if xs.length ≤ i + 5 then none
  else if nth xs (i + 2) ≠ 48 then none
  else if nth xs (i + 3) ≠ 48 then none
  else match lhex (nth xs (i + 4)), lhex (nth xs (i + 5)) with
    | some x, some y => if ctl (x * 16 + y) then some (x * 16 + y, 6) else none
    | _, _ => none

/-- The short escape d stands for. -/
def short (d : Int) : Option Int :=
  if d = 34 then some 34 else if d = 92 then some 92 else if d = 98 then some 8 else if d = 102 then some 12
  else if d = 110 then some 10 else if d = 114 then some 13 else if d = 116 then some 9 else none

/-- One byte read at place i: the byte, and how many places it took. -/
def stepAt (xs : List Int) (i : Nat) : Option (Int × Nat) :=
  if nth xs i = 34 then none
  else if nth xs i < 32 then none
  else if nth xs i ≠ 92 then some (nth xs i, 1)
  else if xs.length ≤ i + 1 then none
  else match short (nth xs (i + 1)) with
    | some c => some (c, 2)
    | none => if nth xs (i + 1) = 117 then uniAt xs i else none

theorem short_117 : short 117 = none := by decide

theorem uniAt_le {xs : List Int} {i : Nat} {c : Int} {n : Nat} (h : uniAt xs i = some (c, n)) : 1 ≤ n ∧ i + n ≤ xs.length := by
  unfold uniAt at h
  split at h
  · cases h
  split at h
  · cases h
  split at h
  · cases h
  split at h
  · split at h
    · simp only [Option.some.injEq, Prod.mk.injEq] at h; omega
    · cases h
  · cases h

theorem stepAt_le {xs : List Int} {i : Nat} {c : Int} {n : Nat} (hi : i < xs.length) (h : stepAt xs i = some (c, n)) : 1 ≤ n ∧ i + n ≤ xs.length := by
  unfold stepAt at h
  split at h
  · cases h
  split at h
  · cases h
  split at h
  · simp only [Option.some.injEq, Prod.mk.injEq] at h; omega
  split at h
  · cases h
  split at h
  · simp only [Option.some.injEq, Prod.mk.injEq] at h; omega
  split at h
  · exact uniAt_le h
  · cases h

def D : Nat → List Int → Nat → Option (List Int)
  | 0, xs, i => if xs.length ≤ i then some [] else none
  | f + 1, xs, i => if xs.length ≤ i then some [] else
      match stepAt xs i with
      | none => none
      | some (c, n) => (D f xs (i + n)).map (c :: ·)

theorem D_fuel (xs : List Int) : ∀ f g i, xs.length - i ≤ f → xs.length - i ≤ g → D f xs i = D g xs i := by
  intro f
  induction f with
  | zero =>
    intro g i hf hg
    have h : xs.length ≤ i := by omega
    cases g with
    | zero => rfl
    | succ g => simp [D, h]
  | succ f ih =>
    intro g i hf hg
    by_cases h : xs.length ≤ i
    · cases g with
      | zero => simp [D, h]
      | succ g => simp [D, h]
    · cases g with
      | zero => omega
      | succ g =>
        simp only [D, h, if_false]
        cases hs : stepAt xs i with
        | none => rfl
        | some cn =>
          obtain ⟨c, n⟩ := cn
          have := stepAt_le (by omega) hs
          simp only
          rw [ih g (i + n) (by omega) (by omega)]

/-- What is read from place i on. -/
def decFrom (xs : List Int) (i : Nat) : Option (List Int) := D (xs.length - i) xs i
def decod (xs : List Int) : Option (List Int) := decFrom xs 0

theorem decFrom_end {xs : List Int} {i : Nat} (h : xs.length ≤ i) : decFrom xs i = some [] := by
  unfold decFrom; rw [show xs.length - i = 0 from by omega]; simp [D, h]

theorem decFrom_none {xs : List Int} {i : Nat} (h : i < xs.length) (hs : stepAt xs i = none) : decFrom xs i = none := by
  unfold decFrom
  obtain ⟨f, hf⟩ : ∃ f, xs.length - i = f + 1 := ⟨xs.length - i - 1, by omega⟩
  rw [hf]
  simp only [D, hs]
  rw [if_neg (by omega)]

theorem decFrom_some {xs : List Int} {i : Nat} {c : Int} {n : Nat} (h : i < xs.length) (hs : stepAt xs i = some (c, n)) : decFrom xs i = (decFrom xs (i + n)).map (c :: ·) := by
  unfold decFrom
  obtain ⟨f, hf⟩ : ∃ f, xs.length - i = f + 1 := ⟨xs.length - i - 1, by omega⟩
  have hl := stepAt_le h hs
  rw [hf]
  simp only [D, hs]
  rw [if_neg (by omega), D_fuel xs f (xs.length - (i + n)) (i + n) (by omega) (by omega)]

/-- The state of the reader: acc has been read, what is left begins at i. -/
def Sofar (xs : List Int) (i : Nat) (acc : List Int) : Prop := i ≤ xs.length ∧ acc.length ≤ i ∧ decod xs = (decFrom xs i).map (acc ++ ·)

theorem Sofar.start (xs : List Int) : Sofar xs 0 [] := ⟨Nat.zero_le _, Nat.le_refl _, by unfold decod; cases decFrom xs 0 <;> simp⟩

theorem Sofar.next {xs : List Int} {i : Nat} {acc : List Int} {c : Int} {n : Nat} (h : Sofar xs i acc) (hi : i < xs.length) (hs : stepAt xs i = some (c, n)) : Sofar xs (i + n) (acc ++ [c]) := by
  have hl := stepAt_le hi hs
  refine ⟨hl.2, ?_, ?_⟩
  · have := h.2.1; simp only [List.length_append, List.length_cons, List.length_nil]; omega
  · rw [h.2.2, decFrom_some hi hs]
    cases decFrom xs (i + n) <;> simp

theorem Sofar.stop {xs : List Int} {i : Nat} {acc : List Int} (h : Sofar xs i acc) (hi : i < xs.length) (hs : stepAt xs i = none) : decod xs = none := by
  rw [h.2.2, decFrom_none hi hs]; rfl

theorem Sofar.done {xs : List Int} {i : Nat} {acc : List Int} (h : Sofar xs i acc) (hi : xs.length ≤ i) : decod xs = some acc := by
  rw [h.2.2, decFrom_end hi]; simp

/-! ### the plain law: the decoder reads back what AppendString wrote -/

theorem lhex_hexd {n : Int} (h0 : 0 ≤ n) (h1 : n < 16) : lhex (hexd n) = some n := by
  unfold lhex hexd
  by_cases h : n < 10
  · rw [if_pos h, if_pos (by omega)]; congr 1; omega
  · rw [if_neg h, if_neg (by omega), if_pos (by omega)]; congr 1; omega

theorem nth_at (p r : List Int) (j : Nat) : nth (p ++ r) (p.length + j) = nth r j := by
  rw [nth_right (by omega), Nat.add_sub_cancel_left]

theorem step_esc (p r : List Int) (c : Int) (h0 : 0 ≤ c) : stepAt (p ++ (esc c ++ r)) p.length = some (c, (esc c).length) := by
  have n0 := nth_at p (esc c ++ r) 0
  have n1 := nth_at p (esc c ++ r) 1
  have n2 := nth_at p (esc c ++ r) 2
  have n3 := nth_at p (esc c ++ r) 3
  have n4 := nth_at p (esc c ++ r) 4
  have n5 := nth_at p (esc c ++ r) 5
  rw [Nat.add_zero] at n0
  have hl : (p ++ (esc c ++ r)).length = p.length + ((esc c).length + r.length) := by simp
  unfold stepAt uniAt
  rw [n0, n1, n2, n3, n4, n5, hl]
  by_cases e1 : c = 34
  · subst e1; simp [esc, nth, short]; omega
  by_cases e2 : c = 92
  · subst e2; simp [esc, nth, short]; omega
  by_cases e3 : c = 8
  · subst e3; simp [esc, nth, short]; omega
  by_cases e4 : c = 12
  · subst e4; simp [esc, nth, short]; omega
  by_cases e5 : c = 10
  · subst e5; simp [esc, nth, short]; omega
  by_cases e6 : c = 13
  · subst e6; simp [esc, nth, short]; omega
  by_cases e7 : c = 9
  · subst e7; simp [esc, nth, short]; omega
  by_cases e8 : c < 32
  · have a1 := lhex_hexd (n := c / 16) (by omega) (by omega)
    have a2 := lhex_hexd (n := c % 16) (by omega) (by omega)
    have a3 : c / 16 * 16 + c % 16 = c := by omega
    have a4 : ctl c = true := by simp [ctl, e3, e4, e5, e6, e7, e8]
    simp only [esc, e1, e2, e3, e4, e5, e6, e7, e8, if_false, if_true, nth, List.cons_append, List.nil_append, List.getD_cons_zero, List.getD_cons_succ, List.length_cons, List.length_nil, a1, a2, a3, a4, short_117]
    simp
    omega
  · simp only [esc, e1, e2, e3, e4, e5, e6, e7, e8, if_false, nth, List.cons_append, List.nil_append, List.getD_cons_zero, List.length_cons, List.length_nil]
    rw [if_pos (by simpa using e2)]

theorem decFrom_body (l : List Int) : ∀ p, (∀ c ∈ l, 0 ≤ c) → decFrom (p ++ body l) p.length = some l := by
  induction l with
  | nil => intro p _; exact decFrom_end (by simp [body])
  | cons c l ih =>
    intro p h
    have e : body (c :: l) = esc c ++ body l := by simp [body]
    have he := esc_length c
    rw [e, decFrom_some (by simp; omega) (step_esc p (body l) c (h c (by simp)))]
    have := ih (p ++ esc c) (fun x hx => h x (by simp [hx]))
    rw [List.append_assoc, List.length_append] at this
    rw [this]; rfl

theorem decod_body (l : List Int) (h : ∀ c ∈ l, 0 ≤ c) : decod (body l) = some l := by
  have := decFrom_body l [] h
  simpa [decod] using this

end Go.Proofs.Qxb6605240a.Plain
