/-
  THE PLAIN FUNCTIONS of seat b6600492a: bytes of a string by place, leading digits, the value of digits. No Go here.
-/
namespace Go.Proofs.Qxb6600492a.Plain

/-- The byte at place k, as a number. -/
def byt (s : ByteArray) (k : Nat) : Int := if h : k < s.size then ((s[k].toNat : Nat) : Int) else 0

theorem byt_at {s : ByteArray} {k : Nat} (h : k < s.size) : byt s k = ((s[k].toNat : Nat) : Int) := by unfold byt; rw [dif_pos h]
theorem byt_bd (s : ByteArray) (k : Nat) : 0 ≤ byt s k ∧ byt s k ≤ 255 := by
  unfold byt
  split
  · have := (s[k]).toNat_lt; omega
  · omega

/-- What is left of s from place k on. -/
def cutAt (s : ByteArray) (k : Nat) : ByteArray := s.extract k s.size

theorem cutAt_size (s : ByteArray) (k : Nat) : (cutAt s k).size = s.size - k := by unfold cutAt; simp
theorem cutAt_zero (s : ByteArray) : cutAt s 0 = s := by unfold cutAt; simp
theorem cutAt_cutAt (s : ByteArray) (k j : Nat) : cutAt (cutAt s k) j = cutAt s (k + j) := by
  unfold cutAt
  apply ByteArray.ext
  simp [ByteArray.data_extract, Array.extract_extract]
  congr 1
  omega
theorem cutAt_byt (s : ByteArray) (k j : Nat) : byt (cutAt s k) j = byt s (k + j) := by
  unfold byt
  by_cases h : k + j < s.size
  · rw [dif_pos (by rw [cutAt_size]; omega), dif_pos h]
    unfold cutAt
    simp [ByteArray.getElem_extract]
  · rw [dif_neg (by rw [cutAt_size]; omega), dif_neg h]

def isD (c : Int) : Prop := 48 ≤ c ∧ c ≤ 57

/-- L is the number of leading digits of s. -/
def IsLead (s : ByteArray) (L : Nat) : Prop := L ≤ s.size ∧ (∀ j, j < L → isD (byt s j)) ∧ (L < s.size → ¬ isD (byt s L))

theorem lead_from (s : ByteArray) : ∀ f k, k ≤ s.size → s.size - k ≤ f → (∀ j, j < k → isD (byt s j)) → ∃ L, k ≤ L ∧ IsLead s L := by
  intro f
  induction f with
  | zero => intro k h1 h2 h3; exact ⟨k, Nat.le_refl _, h1, h3, fun h => by omega⟩
  | succ f ih =>
    intro k h1 h2 h3
    by_cases h4 : k < s.size
    · by_cases h5 : isD (byt s k)
      · obtain ⟨L, h6, h7⟩ := ih (k + 1) (by omega) (by omega) (fun j hj => by
          by_cases e : j = k
          · rw [e]; exact h5
          · exact h3 j (by omega))
        exact ⟨L, by omega, h7⟩
      · exact ⟨k, Nat.le_refl _, h1, h3, fun _ => h5⟩
    · exact ⟨k, Nat.le_refl _, h1, h3, fun h => absurd h h4⟩

theorem lead_ex (s : ByteArray) : ∃ L, IsLead s L := by
  obtain ⟨L, _, h⟩ := lead_from s s.size 0 (Nat.zero_le _) (by omega) (fun j hj => by omega)
  exact ⟨L, h⟩

theorem lead_unique {s : ByteArray} {L M : Nat} (h1 : IsLead s L) (h2 : IsLead s M) : L = M := by
  obtain ⟨a1, a2, a3⟩ := h1
  obtain ⟨b1, b2, b3⟩ := h2
  by_cases h : L < M
  · exact absurd (b2 L h) (a3 (by omega))
  · by_cases h' : M < L
    · exact absurd (a2 M h') (b3 (by omega))
    · omega

/-- The value of the first k digits. -/
def val (s : ByteArray) : Nat → Int
  | 0 => 0
  | k + 1 => val s k * 10 + (byt s k - 48)

theorem pow_pos (n : Nat) : (1 : Int) ≤ 10 ^ n := by
  induction n with
  | zero => simp
  | succ n ih => rw [Int.pow_succ]; omega

theorem val_bd (s : ByteArray) : ∀ k, (∀ j, j < k → isD (byt s j)) → 0 ≤ val s k ∧ val s k < 10 ^ k := by
  intro k
  induction k with
  | zero => intro _; simp [val]
  | succ k ih =>
    intro h
    have h1 := ih (fun j hj => h j (by omega))
    have h2 := h k (by omega)
    unfold isD at h2
    rw [Int.pow_succ]
    simp only [val]
    omega

theorem pow_le {m n : Nat} (h : m ≤ n) : (10 : Int) ^ m ≤ 10 ^ n := by
  induction n with
  | zero => rw [show m = 0 from by omega]; exact Int.le_refl _
  | succ n ih =>
    by_cases e : m = n + 1
    · rw [e]; exact Int.le_refl _
    · have := ih (by omega)
      have := pow_pos n
      rw [Int.pow_succ]; omega

/-- Are the first k bytes all '0'? -/
def allz (s : ByteArray) : Nat → Bool
  | 0 => true
  | k + 1 => allz s k && (byt s k == 48)

theorem allz_iff (s : ByteArray) (k : Nat) : allz s k = true ↔ ∀ j, j < k → byt s j = 48 := by
  induction k with
  | zero => simp [allz]
  | succ k ih =>
    simp only [allz, Bool.and_eq_true, beq_iff_eq]
    rw [ih]
    constructor
    · rintro ⟨h1, h2⟩ j hj
      by_cases e : j = k
      · rw [e]; exact h2
      · exact h1 j (by omega)
    · intro h; exact ⟨fun j hj => h j (by omega), h k (by omega)⟩

theorem val_zero_iff (s : ByteArray) (k : Nat) (h : ∀ j, j < k → isD (byt s j)) : (val s k == 0) = allz s k := by
  induction k with
  | zero => rfl
  | succ k ih =>
    have h1 := ih (fun j hj => h j (by omega))
    have h2 := val_bd s k (fun j hj => h j (by omega))
    have h3 := h k (by omega)
    unfold isD at h3
    simp only [val, allz]
    rw [← h1, Bool.eq_iff_iff]
    simp only [Bool.and_eq_true, beq_iff_eq]
    omega

/-- Does v lie in [least, most]? -/
def inR (least most v : Int) : Bool := decide (least ≤ v) && decide (v ≤ most)
theorem inR_low {least most v : Int} (h : v < least) : inR least most v = false := by unfold inR; rw [decide_eq_false (by omega)]; rfl
theorem inR_high {least most v : Int} (h : most < v) : inR least most v = false := by unfold inR; rw [decide_eq_false (p := v ≤ most) (by omega), Bool.and_false]
theorem inR_in {least most v : Int} (h1 : ¬ v < least) (h2 : ¬ most < v) : inR least most v = true := by unfold inR; rw [decide_eq_true (by omega), decide_eq_true (by omega)]; rfl

end Go.Proofs.Qxb6600492a.Plain
