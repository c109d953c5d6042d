/-
  THE PLAIN FUNCTIONS of seat b6605240a: what AppendString writes, in lists of numbers. No Go here.
-/
namespace Go.Proofs.Qxb6605240a.Plain

/-- The lowercase hex digit of n (n < 16). -/
def hexd (n : Int) : Int := if n < 10 then 48 + n else 87 + n

/-- What AppendString writes for one byte. -/
def esc (c : Int) : List Int :=
  if c = 34 then [92, 34] else if c = 92 then [92, 92] else if c = 8 then [92, 98] else if c = 12 then [92, 102]
  else if c = 10 then [92, 110] else if c = 13 then [92, 114] else if c = 9 then [92, 116]
  else if c < 32 then [92, 117, 48, 48, hexd (c / 16), hexd (c % 16)] else [c]

/-- The inside of the quoted text. -/
def body (l : List Int) : List Int := l.flatMap esc

/-- The bytes of a string as numbers. -/
def sb (s : ByteArray) : List Int := s.data.toList.map fun c => (c.toNat : Int)

theorem sb_length (s : ByteArray) : (sb s).length = s.size := by simp [sb]

theorem body_append (a b : List Int) : body (a ++ b) = body a ++ body b := by simp [body]
theorem body_nil : body [] = [] := rfl
theorem body_one (c : Int) : body [c] = esc c := by simp [body]

theorem esc_length (c : Int) : 1 ≤ (esc c).length ∧ (esc c).length ≤ 6 := by
  unfold esc; repeat' split
  all_goals simp

theorem body_length (l : List Int) : l.length ≤ (body l).length ∧ (body l).length ≤ 6 * l.length := by
  induction l with
  | nil => simp [body]
  | cons c l ih =>
    have h := esc_length c
    have e : body (c :: l) = esc c ++ body l := by simp [body]
    rw [e]; simp only [List.length_append, List.length_cons]; omega

/-- The first k bytes of s. -/
def pre (s : ByteArray) (k : Nat) : List Int := (sb s).take k

theorem pre_zero (s : ByteArray) : pre s 0 = [] := by simp [pre]
theorem pre_all (s : ByteArray) (k : Nat) (h : s.size ≤ k) : pre s k = sb s := by
  unfold pre; exact List.take_of_length_le (by rw [sb_length]; exact h)
theorem pre_succ (s : ByteArray) (k : Nat) (h : k < s.size) : pre s (k + 1) = pre s k ++ [((s[k]).toNat : Int)] := by
  unfold pre
  rw [List.take_succ_eq_append_getElem (by rw [sb_length]; exact h)]
  congr 1
  simp only [sb, List.getElem_map]
  rfl
theorem pre_length (s : ByteArray) (k : Nat) (h : k ≤ s.size) : (pre s k).length = k := by
  unfold pre; rw [List.length_take, sb_length]; omega

theorem sb_bounds (s : ByteArray) : ∀ c ∈ sb s, 0 ≤ c ∧ c ≤ 255 := by
  intro c hc
  simp only [sb, List.mem_map] at hc
  obtain ⟨u, _, rfl⟩ := hc
  have := u.toNat_lt
  omega

/-- The j-th number of a list: a name of its own, which the walk leaves standing. -/
def nth (l : List Int) (j : Nat) : Int := l.getD j 0

theorem nth_left {a b : List Int} {i : Nat} (h : i < a.length) : nth (a ++ b) i = nth a i := by
  unfold nth; simp [List.getElem?_append, h]
theorem nth_right {a b : List Int} {i : Nat} (h : a.length ≤ i) : nth (a ++ b) i = nth b (i - a.length) := by
  unfold nth; rw [List.getD_eq_getElem?_getD, List.getElem?_append_right h]; simp
theorem nth_cons {a : Int} {b : List Int} {i : Nat} : nth (a :: b) (i + 1) = nth b i := by unfold nth; simp
theorem nth_zero {a : Int} {b : List Int} : nth (a :: b) 0 = a := by unfold nth; simp

/-- The quoted text. -/
def quo (l : List Int) : List Int := 34 :: (body l ++ [34])

theorem quo_length (l : List Int) : (quo l).length = (body l).length + 2 := by simp [quo]
theorem quo_first (l : List Int) : nth (quo l) 0 = 34 := nth_zero
theorem quo_last (l : List Int) : nth (quo l) ((quo l).length - 1) = 34 := by
  rw [quo_length]; unfold quo
  show nth (34 :: (body l ++ [34])) ((body l).length + 1) = 34
  rw [nth_cons, nth_right (Nat.le_refl _), Nat.sub_self, nth_zero]

/-- AppendString cut at k: the three laws that the loops read. -/
theorem cut_length (xs a b : List Int) : (xs ++ quo (a ++ b)).length + 2 = xs.length + (quo a).length + (quo b).length := by
  rw [List.length_append, quo_length, quo_length, quo_length, body_append, List.length_append]; omega
theorem cut_first (xs q : List Int) (i : Nat) (h : i < xs.length) : nth (xs ++ q) i = nth xs i := nth_left h
theorem cut_second (xs a b : List Int) (i : Nat) (h : i + 1 < (quo a).length) : nth (xs ++ quo (a ++ b)) (xs.length + i) = nth (quo a) i := by
  rw [nth_right (by omega), Nat.add_sub_cancel_left]
  rw [quo_length] at h
  unfold quo
  cases i with
  | zero => rw [nth_zero, nth_zero]
  | succ i => rw [nth_cons, nth_cons, body_append, List.append_assoc, nth_left (by omega), nth_left (by omega)]
theorem cut_third (xs a b : List Int) (i : Nat) : nth (xs ++ quo (a ++ b)) (xs.length + ((quo a).length - 1) + i) = nth (quo b) (i + 1) := by
  rw [nth_right (by omega)]
  rw [quo_length]
  rw [show xs.length + ((body a).length + 2 - 1) + i - xs.length = ((body a).length + i) + 1 from by omega]
  unfold quo
  rw [nth_cons, nth_cons, body_append, List.append_assoc, nth_right (by omega), Nat.add_sub_cancel_left]

theorem sb_extract (s : ByteArray) (a b : Nat) : sb (s.extract a b) = ((sb s).take b).drop a := by
  simp [sb, List.map_drop, List.map_take, ByteArray.data_extract, Array.toList_extract, List.extract_eq_take_drop, List.drop_take]

theorem sb_cut (s : ByteArray) (k : Nat) : sb (s.extract 0 k) ++ sb (s.extract k s.size) = sb s := by
  rw [sb_extract, sb_extract, List.drop_zero, List.take_of_length_le (l := sb s) (i := s.size) (by rw [sb_length]; exact Nat.le_refl _), List.take_append_drop]

end Go.Proofs.Qxb6605240a.Plain
