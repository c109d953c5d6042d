/-
  THE PLAIN FUNCTIONS ON TREES: what appendTo writes; the law's domain; weights.
-/
import Derived.Test.Qxb6605240aTree
import Derived.Test.Qxb6605240aDec
namespace Go.Proofs.Qxb6605240a.Plain

def joinTo (f : Nat → List Int) : Nat → List Int
  | 0 => []
  | k + 1 => joinTo f k ++ ((if k = 0 then [] else [44]) ++ f k)

def sumTo (g : Nat → Nat) : Nat → Nat
  | 0 => 0
  | k + 1 => sumTo g k + g k

def allTo (p : Nat → Bool) : Nat → Bool
  | 0 => true
  | k + 1 => allTo p k && p k

theorem sumTo_le (g : Nat → Nat) {k m : Nat} (h : k ≤ m) : sumTo g k ≤ sumTo g m := by
  induction m with
  | zero => rw [show k = 0 from by omega]; exact Nat.le_refl _
  | succ m ih =>
    by_cases e : k = m + 1
    · rw [e]; exact Nat.le_refl _
    · have := ih (by omega); simp only [sumTo]; omega

theorem allTo_iff (p : Nat → Bool) (m : Nat) : allTo p m = true ↔ ∀ i, i < m → p i = true := by
  induction m with
  | zero => simp [allTo]
  | succ m ih =>
    simp only [allTo, Bool.and_eq_true, ih]
    constructor
    · rintro ⟨h1, h2⟩ i hi
      by_cases e : i = m
      · rw [e]; exact h2
      · exact h1 i (by omega)
    · intro h; exact ⟨fun i hi => h i (by omega), h m (by omega)⟩

/-- A byte of a bare token. -/
def bare (c : Int) : Bool := !(decide (c ≤ 32) || c == 34 || c == 92 || c == 91 || c == 93 || c == 123 || c == 125 || c == 44 || c == 58)

/-- The inside of a quoted text. -/
def inside (t : List Int) : List Int := (t.drop 1).take (t.length - 2)

/-- The domain of a scalar's text. -/
def sok (t : List Int) : Bool :=
  if t.length = 0 then false
  else if nth t 0 = 34 then (if t.length < 2 then false else if nth t (t.length - 1) = 34 then (decod (inside t)).isSome else false)
  else allTo (fun i => bare (nth t i)) t.length

/-- What appendTo writes. -/
def enc : Nat → Tr → List Int
  | 0, _ => []
  | n + 1, T =>
    if T.kind = 1 then 91 :: (joinTo (fun i => enc n (T.el i)) T.elems.length ++ [93])
    else if T.kind = 2 then 123 :: (joinTo (fun i => quo (sb (T.nm i)) ++ 58 :: enc n (T.vl i)) T.mems.length ++ [125])
    else T.text

def dom : Nat → Tr → Bool
  | 0, _ => false
  | n + 1, T =>
    if T.kind = 1 then allTo (fun i => dom n (T.el i)) T.elems.length
    else if T.kind = 2 then allTo (fun i => dom n (T.vl i)) T.mems.length
    else sok T.text

def wt : Nat → Tr → Nat
  | 0, _ => 1
  | n + 1, T => 1 + T.text.length + T.elems.length + sumTo (fun i => wt n (T.el i)) T.elems.length + T.mems.length + sumTo (fun i => (T.nm i).size + wt n (T.vl i)) T.mems.length

theorem joinTo_length (f : Nat → List Int) (g : Nat → Nat) (a : Nat) (m : Nat) (h : ∀ i, i < m → (f i).length ≤ 8 * g i + a) : ∀ k, k ≤ m → (joinTo f k).length ≤ k * (a + 1) + 8 * sumTo g k := by
  intro k
  induction k with
  | zero => intro _; simp [joinTo]
  | succ k ih =>
    intro hk
    have h1 := ih (by omega)
    have h2 := h k (by omega)
    have h3 : (if k = 0 then ([] : List Int) else [44]).length ≤ 1 := by split <;> simp
    simp only [joinTo, sumTo, List.length_append]
    rw [Nat.succ_mul]
    omega

theorem quo_le (s : ByteArray) : (quo (sb s)).length ≤ 6 * s.size + 2 := by
  have h := (body_length (sb s)).2
  rw [sb_length] at h
  rw [quo_length]; omega

theorem enc_length : ∀ n T, (enc n T).length ≤ 8 * wt n T := by
  intro n
  induction n with
  | zero => intro T; simp [enc]
  | succ n ih =>
    intro T
    simp only [enc, wt]
    split
    · have h := joinTo_length (fun i => enc n (T.el i)) (fun i => wt n (T.el i)) 0 T.elems.length (fun i _ => ih _) _ (Nat.le_refl _)
      simp only [List.length_cons, List.length_append, List.length_nil]
      omega
    · split
      · have h := joinTo_length (fun i => quo (sb (T.nm i)) ++ 58 :: enc n (T.vl i)) (fun i => (T.nm i).size + wt n (T.vl i)) 3 T.mems.length (fun i _ => by
          have h1 := ih (T.vl i)
          have h2 := quo_le (T.nm i)
          simp only [List.length_cons, List.length_append]
          omega) _ (Nat.le_refl _)
        simp only [List.length_cons, List.length_append, List.length_nil]
        omega
      · omega

theorem sok_ne {t : List Int} (h : sok t = true) : 0 < t.length := by
  unfold sok at h
  split at h
  · cases h
  · omega

end Go.Proofs.Qxb6605240a.Plain
