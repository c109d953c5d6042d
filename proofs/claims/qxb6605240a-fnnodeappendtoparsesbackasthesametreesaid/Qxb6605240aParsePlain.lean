/-
  THE PLAIN PART OF THE PARSER: where things lie in the text that appendTo wrote.
-/
import Derived.Test.Qxb6605240aSok
import Derived.Test.Qxb6605240aApt
namespace Go.Proofs.Qxb6605240a
open Go.RowKit Plain

def Follow (c : List Int) : Prop := c = [] ∨ ∃ h r, c = h :: r ∧ (h = 44 ∨ h = 93 ∨ h = 125)

def tailJ (f : Nat → List Int) : Nat → Nat → List Int
  | _, 0 => []
  | j, d + 1 => 44 :: (f j ++ tailJ f (j + 1) d)

theorem tailJ_snoc (f : Nat → List Int) : ∀ d j, tailJ f j (d + 1) = tailJ f j d ++ (44 :: f (j + d)) := by
  intro d
  induction d with
  | zero => intro j; simp [tailJ]
  | succ d ih =>
    intro j
    have h := ih (j + 1)
    simp only [tailJ] at h ⊢
    rw [h, show j + 1 + d = j + (d + 1) from by omega]
    simp

theorem joinTo_tail (f : Nat → List Int) (k : Nat) : ∀ d, joinTo f (k + 1 + d) = joinTo f (k + 1) ++ tailJ f (k + 1) d := by
  intro d
  induction d with
  | zero => simp [tailJ]
  | succ d ih =>
    rw [tailJ_snoc, show k + 1 + (d + 1) = (k + 1 + d) + 1 from by omega]
    rw [show joinTo f (k + 1 + d + 1) = joinTo f (k + 1 + d) ++ ((if k + 1 + d = 0 then [] else [44]) ++ f (k + 1 + d)) from rfl, if_neg (by omega), ih]
    simp

def sep (k : Nat) : List Int := if k = 0 then [] else [44]

theorem joinTo_at (f : Nat → List Int) (m k : Nat) (h : k < m) : joinTo f m = joinTo f k ++ (sep k ++ (f k ++ tailJ f (k + 1) (m - (k + 1)))) := by
  have h1 := joinTo_tail f k (m - (k + 1))
  rw [show k + 1 + (m - (k + 1)) = m from by omega] at h1
  rw [h1, show joinTo f (k + 1) = joinTo f k ++ ((if k = 0 then [] else [44]) ++ f k) from rfl]
  simp [sep]

theorem tail_last (f : Nat → List Int) (m k : Nat) (h : k + 1 = m) (q : Int) (c : List Int) : tailJ f (k + 1) (m - (k + 1)) ++ q :: c = q :: c := by
  rw [show m - (k + 1) = 0 from by omega]; rfl
theorem tail_more (f : Nat → List Int) (m k : Nat) (h : k + 1 < m) (q : Int) (c : List Int) : ∃ r, tailJ f (k + 1) (m - (k + 1)) ++ q :: c = 44 :: r := by
  obtain ⟨d, hd⟩ : ∃ d, m - (k + 1) = d + 1 := ⟨m - (k + 1) - 1, by omega⟩
  rw [hd]
  exact ⟨_, rfl⟩
theorem tail_follow (f : Nat → List Int) (m k : Nat) (h : k < m) (q : Int) (c : List Int) (hq : q = 93 ∨ q = 125) : Follow (tailJ f (k + 1) (m - (k + 1)) ++ q :: c) := by
  by_cases e : k + 1 = m
  · rw [tail_last f m k e]; exact .inr ⟨q, c, rfl, .inr hq⟩
  · obtain ⟨r, hr⟩ := tail_more f m k (by omega) q c
    rw [hr]; exact .inr ⟨44, r, rfl, .inl rfl⟩

/-- The first byte of what is written for a tree. -/
theorem enc_head {n : Nat} {T : Tr} (h : dom n T = true) : ∃ q r, enc n T = q :: r ∧ q ≠ 93 ∧ q ≠ 125 := by
  cases n with
  | zero => cases h
  | succ n =>
    by_cases h1 : T.kind = 1
    · rw [enc_arr h1]; exact ⟨_, _, rfl, by omega, by omega⟩
    · by_cases h2 : T.kind = 2
      · rw [enc_obj h2]; exact ⟨_, _, rfl, by omega, by omega⟩
      · rw [enc_sca h1 h2]
        rw [dom_sca h1 h2] at h
        have h0 := sok_ne h
        obtain ⟨q, r, hq⟩ : ∃ q r, T.text = q :: r := by
          cases ht : T.text with
          | nil => rw [ht] at h0; simp at h0
          | cons q r => exact ⟨q, r, rfl⟩
        refine ⟨q, r, hq, ?_⟩
        have hq0 : nth T.text 0 = q := by rw [hq]; exact nth_zero
        by_cases h34 : nth T.text 0 = 34
        · rw [hq0] at h34; omega
        · rw [sok_bare h0 h34] at h
          have hb := (allTo_iff _ _).1 h 0 h0
          rw [hq0] at hb
          refine ⟨fun e => ?_, fun e => ?_⟩
          · rw [e] at hb; revert hb; decide
          · rw [e] at hb; revert hb; decide

/-! ### the end of a string -/
def hexy (c : Int) : Prop := c ≠ 92 ∧ c ≠ 34
theorem lhex_hexy {c x : Int} (h : lhex c = some x) : hexy c := by
  unfold lhex at h
  unfold hexy
  split at h
  · omega
  · split at h
    · omega
    · cases h

theorem uniAt_some {xs : List Int} {i : Nat} {r : Int × Nat} (h : uniAt xs i = some r) : i + 5 < xs.length ∧ nth xs (i + 2) = 48 ∧ nth xs (i + 3) = 48 ∧ hexy (nth xs (i + 4)) ∧ hexy (nth xs (i + 5)) ∧ r.2 = 6 := by
  unfold uniAt at h
  split at h
  · cases h
  rename_i a1
  split at h
  · cases h
  rename_i a2
  split at h
  · cases h
  rename_i a3
  cases h4 : lhex (nth xs (i + 4)) with
  | none => rw [h4] at h; cases h
  | some x =>
    cases h5 : lhex (nth xs (i + 5)) with
    | none => rw [h4, h5] at h; cases h
    | some y =>
      rw [h4, h5] at h
      simp only at h
      split at h
      · cases h
        exact ⟨by omega, by omega, by omega, lhex_hexy h4, lhex_hexy h5, rfl⟩
      · cases h

theorem stepAt_some {xs : List Int} {i : Nat} {r : Int × Nat} (h : stepAt xs i = some r) :
    (r.2 = 1 ∧ nth xs i ≠ 34 ∧ nth xs i ≠ 92) ∨ (r.2 = 2 ∧ nth xs i = 92 ∧ i + 1 < xs.length) ∨ (r.2 = 6 ∧ nth xs i = 92 ∧ i + 5 < xs.length ∧ nth xs (i + 2) = 48 ∧ nth xs (i + 3) = 48 ∧ hexy (nth xs (i + 4)) ∧ hexy (nth xs (i + 5))) := by
  by_cases h34 : nth xs i = 34
  · rw [st_quote h34] at h; cases h
  by_cases hlo : nth xs i < 32
  · rw [st_low h34 hlo] at h; cases h
  by_cases h92 : nth xs i = 92
  · rw [st_bs h92] at h
    split at h
    · cases h
    rename_i hl
    cases hs : short (nth xs (i + 1)) with
    | some c =>
      rw [hs] at h
      cases h
      exact .inr (.inl ⟨rfl, h92, by omega⟩)
    | none =>
      rw [hs] at h
      simp only at h
      split at h
      · obtain ⟨g1, g2, g3, g4, g5, g6⟩ := uniAt_some h
        exact .inr (.inr ⟨g6, h92, g1, g2, g3, g4, g5⟩)
      · cases h
  · rw [st_plain h34 hlo h92] at h
    cases h
    exact .inl ⟨rfl, h34, h92⟩

theorem strEnd_inner (xs a inner c : List Int) (hx : xs = a ++ (inner ++ 34 :: c)) : ∀ f i, inner.length - i ≤ f → i ≤ inner.length → decFrom inner i ≠ none → strEnd xs (a.length + i) = some (a.length + inner.length + 1) := by
  have hl : xs.length = a.length + (inner.length + (c.length + 1)) := by rw [hx]; simp
  have hn : ∀ j, j < inner.length → nth xs (a.length + j) = nth inner j := fun j hj => by rw [hx, nth_at, nth_left hj]
  have hq : nth xs (a.length + inner.length) = 34 := by rw [hx, nth_at, nth_right (Nat.le_refl _), Nat.sub_self]; exact nth_zero
  intro f
  induction f with
  | zero =>
    intro i h1 h2 _
    have e : i = inner.length := by omega
    rw [e, strEnd_step (by omega), hq]
    rfl
  | succ f ih =>
    intro i h1 h2 h3
    by_cases e : i = inner.length
    · rw [e, strEnd_step (by omega), hq]; rfl
    have hi : i < inner.length := by omega
    cases hs : stepAt inner i with
    | none => exact absurd (decFrom_none hi hs) h3
    | some r =>
      obtain ⟨ch, n⟩ := r
      have hd := decFrom_some hi hs
      have hle := stepAt_le hi hs
      have h4 : decFrom inner (i + n) ≠ none := by
        intro e4
        rw [e4] at hd
        exact h3 hd
      have hi' := ih (i + n) (by omega) (by omega) h4
      rcases stepAt_some hs with ⟨g1, g2, g3⟩ | ⟨g1, g2, g3⟩ | ⟨g1, g2, g3, g4, g5, g6, g7⟩
      · simp only at g1
        subst g1
        rw [strEnd_step (by omega), hn i hi, if_neg g3, if_neg g2]
        exact hi'
      · simp only at g1
        subst g1
        rw [strEnd_step (by omega), hn i hi, if_pos g2]
        exact hi'
      · simp only at g1
        subst g1
        rw [strEnd_step (by omega), hn i hi, if_pos g2, Nat.add_assoc, strEnd_step (by omega), hn (i + 2) (by omega), g4, if_neg (by omega), if_neg (by omega)]
        rw [Nat.add_assoc, Nat.add_assoc, strEnd_step (by omega), hn (i + (2 + 1)) (by omega), show i + (2 + 1) = i + 3 from rfl, g5, if_neg (by omega), if_neg (by omega)]
        rw [Nat.add_assoc, Nat.add_assoc, strEnd_step (by omega), hn (i + (3 + 1)) (by omega), show i + (3 + 1) = i + 4 from rfl, if_neg g6.1, if_neg g6.2]
        rw [Nat.add_assoc, Nat.add_assoc, strEnd_step (by omega), hn (i + (4 + 1)) (by omega), show i + (4 + 1) = i + 5 from rfl, if_neg g7.1, if_neg g7.2]
        exact hi'

theorem strEnd_at (xs a inner c : List Int) (hx : xs = a ++ (34 :: (inner ++ 34 :: c))) (hd : (decod inner).isSome = true) : strEnd xs (a.length + 1) = some (a.length + inner.length + 2) := by
  have h := strEnd_inner xs (a ++ [34]) inner c (by rw [hx]; simp) inner.length 0 (by omega) (Nat.zero_le _) (fun e => by
    have e2 : decod inner = none := e
    rw [e2] at hd; cases hd)
  simp only [List.length_append, List.length_cons, List.length_nil, Nat.add_zero, Nat.zero_add] at h
  rw [h]
  congr 1
  omega

/-- A quoted text, taken apart. -/
theorem text_split {t : List Int} (h0 : nth t 0 = 34) (h1 : 2 ≤ t.length) (h2 : nth t (t.length - 1) = 34) : t = 34 :: (inside t ++ [34]) := by
  cases t with
  | nil => simp at h1
  | cons q r =>
    have hq : q = 34 := h0
    subst hq
    congr 1
    have hr : r ≠ [] := by intro e; rw [e] at h1; simp at h1
    have hrl : 1 ≤ r.length := by simp only [List.length_cons] at h1; omega
    have e1 : inside (34 :: r) = r.dropLast := by
      unfold inside
      simp only [List.drop_succ_cons, List.drop_zero, List.length_cons]
      rw [List.dropLast_eq_take]
      congr 1
    have e2 : r.getLast hr = 34 := by
      have h3 : nth (34 :: r) ((34 :: r).length - 1) = nth r (r.length - 1) := by
        rw [List.length_cons, show r.length + 1 - 1 = (r.length - 1) + 1 from by omega, nth_cons]
      rw [h3] at h2
      unfold nth at h2
      rw [List.getLast_eq_getElem]
      have hlt : r.length - 1 < r.length := by omega
      rw [List.getD_eq_getElem?_getD, List.getElem?_eq_getElem hlt] at h2
      simpa using h2
    rw [e1, ← e2]
    exact (List.dropLast_concat_getLast hr).symm

end Go.Proofs.Qxb6605240a
