/-
  ZZFractionIsZero, zzLeadingDigits, zzIsDigit, zzAllDigits, and the length bounds.
-/
import Derived.Test.Qxb6600492aZZ
namespace Go.Proofs.Qxb6600492a
open Go.RowKit Plain

set_option maxHeartbeats 400000 in
theorem zz_frac (rest : ByteArray) (ok Z : Bool) (R : ByteArray) (O : Bool) (w : World)
    (H : Hid (∀ w b, St w b rest ok → Calls Try.prog 31 #[.pointer (some ⟨b, 0, none⟩)] w fun e w' => e = .returned (.bool Z) ∧ St w' b R O ∧ Below b w w')) :
    Calls Try.prog 21 #[.string rest, .bool ok] w fun e w' => e = .returned (.tuple #[.bool Z, .string R, .bool O]) ∧ Below w.heap.size w w' := by
  have hst : St (w.alloc (.cells #[.string rest, .bool ok] 47)) w.heap.size rest ok := heap_alloc_new w _
  go_enter Try.func21, Try.ntmps21
  go_wp2_with fail
  refine (H.out _ _ hst).mono ?_
  rintro e w1 ⟨rfl, hst1, hb1⟩
  have h1 := hst1.rest
  have h2 := hst1.ok
  go_wp2
  go_quiet (fail)
  go_wp2
  go_ret3
  exact ⟨rfl, below_drewN (((Below.refl _ w).alloc (Nat.le_refl _) _).trans hb1) _⟩

theorem isdig_yes (c : Int) (w : World) (h : isD c) : Calls Try.prog 24 #[.int .u8 c] w fun e w' => e = .returned (.bool true) ∧ w' = w := by
  obtain ⟨h1, h2⟩ := h
  have d1 : decide (48 ≤ c) = true := by simpa using h1
  go_enter Try.func24, Try.ntmps24
  go_wp2
  go_ret
  exact ⟨rfl, rfl⟩

theorem isdig_no (c : Int) (w : World) (h : ¬ isD c) : Calls Try.prog 24 #[.int .u8 c] w fun e w' => e = .returned (.bool false) ∧ w' = w := by
  unfold isD at h
  by_cases h1 : 48 ≤ c
  · have d1 : decide (48 ≤ c) = true := by simpa using h1
    have h2 : ¬ c ≤ 57 := fun h2 => h ⟨h1, h2⟩
    clear h
    go_enter Try.func24, Try.ntmps24
    go_wp2
    go_ret
    exact ⟨rfl, rfl⟩
  · have d1 : decide (48 ≤ c) = false := by simpa using h1
    clear h
    go_enter Try.func24, Try.ntmps24
    go_wp2
    go_ret
    exact ⟨rfl, rfl⟩

/-- zzLeadingDigits. -/
theorem lead_any (s : ByteArray) (w : World) (L : Nat) (hs : s.size ≤ 1073741824) (hL : IsLead s L) : Calls Try.prog 12 #[.string s] w fun e w' => e = .returned (.int .i64 L) ∧ w' = w := by
  have HL : Hid (IsLead s L) := hL
  have hLs : L ≤ s.size := hL.1
  clear hL
  go_enter Try.func12, Try.ntmps12
  go_wp2
  go_loop [3] (fun i => ∃ k : Nat, k ≤ L ∧ i = .int .i64 k) (fun i => L - (intOf i).toNat)
  case atStart => exact ⟨0, Nat.zero_le _, rfl⟩
  case round =>
    obtain ⟨k, hk, rfl⟩ := hrel
    by_cases hlt : k < L
    · have hks : k < s.size := by omega
      have d1 : decide ((k : Int) < (s.size : Int)) = true := by simp; omega
      have HD : Hid (isD ((s[k].toNat : Nat) : Int)) := show isD _ by rw [← byt_at hks]; exact HL.out.2.1 k hlt
      go_wp2_with (go_at_call 24; refine (isdig_yes _ _ HD.out).mono ?_; rintro e w ⟨rfl, rfl⟩)
      go_round
      case rel => exact ⟨k + 1, by omega, by go_num⟩
      case measure => simp [intOf]; omega
    · obtain rfl : k = L := by omega
      by_cases hks : k < s.size
      · have d1 : decide ((k : Int) < (s.size : Int)) = true := by simp; omega
        have HD : Hid (¬ isD ((s[k].toNat : Nat) : Int)) := show ¬ isD _ by rw [← byt_at hks]; exact HL.out.2.2 hks
        go_wp2_with (go_at_call 24; refine (isdig_no _ _ HD.out).mono ?_; rintro e w ⟨rfl, rfl⟩)
        go_ret
        exact ⟨rfl, rfl⟩
      · have d1 : decide ((k : Int) < (s.size : Int)) = false := by simp; omega
        go_wp2
        go_ret
        exact ⟨rfl, rfl⟩

theorem alldig (s : ByteArray) (w : World) (L : Nat) (B : Bool) (hs : s.size ≤ 1073741824) (hL : IsLead s L) (hB : ((L : Int) == (s.size : Int)) = B) : Calls Try.prog 23 #[.string s] w fun e w' => e = .returned (.bool B) ∧ w' = w := by
  have HL : Hid (IsLead s L) := hL
  clear hL
  go_enter Try.func23, Try.ntmps23
  go_wp2_with (go_at_call 12; refine (lead_any s _ L hs HL.out).mono ?_; rintro e w ⟨rfl, rfl⟩)
  go_ret
  exact ⟨rfl, rfl⟩

/-! ### the length bounds -/
theorem bytes10_yes (s : ByteArray) (ok : Bool) (n a b : Int) (w : World) (h : s.size ≤ 1048576) : Calls Try.prog 10 #[.string s, .bool ok, .int .i64 n, .int .i64 a, .int .i64 b] w fun e w' => e = .returned (.bool true) ∧ w' = w := by
  go_enter Try.func10, Try.ntmps10
  go_wp2
  go_ret
  exact ⟨rfl, rfl⟩
theorem bytes10_no (s : ByteArray) (ok : Bool) (n a b : Int) (w : World) (h : ¬ s.size ≤ 1048576) : Calls Try.prog 10 #[.string s, .bool ok, .int .i64 n, .int .i64 a, .int .i64 b] w fun e w' => e = .returned (.bool false) ∧ w' = w := by
  go_enter Try.func10, Try.ntmps10
  go_wp2
  go_ret
  exact ⟨rfl, rfl⟩
theorem bytes13_yes (s : ByteArray) (v n a b : Int) (w : World) (h : s.size ≤ 1048576) : Calls Try.prog 13 #[.int .i64 v, .int .i64 n, .string s, .int .i64 a, .int .i64 b] w fun e w' => e = .returned (.bool true) ∧ w' = w := by
  go_enter Try.func13, Try.ntmps13
  go_wp2
  go_ret
  exact ⟨rfl, rfl⟩
theorem bytes13_no (s : ByteArray) (v n a b : Int) (w : World) (h : ¬ s.size ≤ 1048576) : Calls Try.prog 13 #[.int .i64 v, .int .i64 n, .string s, .int .i64 a, .int .i64 b] w fun e w' => e = .returned (.bool false) ∧ w' = w := by
  go_enter Try.func13, Try.ntmps13
  go_wp2
  go_ret
  exact ⟨rfl, rfl⟩
theorem bytes20_yes (s : ByteArray) (ok : Bool) (w : World) (h : s.size ≤ 1048576) : Calls Try.prog 20 #[.string s, .bool ok] w fun e w' => e = .returned (.bool true) ∧ w' = w := by
  go_enter Try.func20, Try.ntmps20
  go_wp2
  go_ret
  exact ⟨rfl, rfl⟩
theorem bytes20_no (s : ByteArray) (ok : Bool) (w : World) (h : ¬ s.size ≤ 1048576) : Calls Try.prog 20 #[.string s, .bool ok] w fun e w' => e = .returned (.bool false) ∧ w' = w := by
  go_enter Try.func20, Try.ntmps20
  go_wp2
  go_ret
  exact ⟨rfl, rfl⟩
theorem bytes22_yes (d s : ByteArray) (w : World) (h : d.size + s.size ≤ 1048576) : Calls Try.prog 22 #[.string d, .string s] w fun e w' => e = .returned (.bool true) ∧ w' = w := by
  go_enter Try.func22, Try.ntmps22
  go_wp2
  go_ret
  exact ⟨rfl, rfl⟩
theorem bytes22_no (d s : ByteArray) (w : World) (h : ¬ d.size + s.size ≤ 1048576) : Calls Try.prog 22 #[.string d, .string s] w fun e w' => e = .returned (.bool false) ∧ w' = w := by
  by_cases h1 : d.size ≤ 1048576
  · by_cases h2 : s.size ≤ 1048576
    · go_enter Try.func22, Try.ntmps22
      go_wp2
      go_ret
      exact ⟨rfl, rfl⟩
    · go_enter Try.func22, Try.ntmps22
      go_wp2
      go_ret
      exact ⟨rfl, rfl⟩
  · go_enter Try.func22, Try.ntmps22
    go_wp2
    go_ret
    exact ⟨rfl, rfl⟩
theorem bytes25_yes (d s : ByteArray) (m : Int) (w : World) (h : d.size + s.size ≤ 1048576) : Calls Try.prog 25 #[.string d, .int .i64 m, .string s] w fun e w' => e = .returned (.bool true) ∧ w' = w := by
  go_enter Try.func25, Try.ntmps25
  go_wp2
  go_ret
  exact ⟨rfl, rfl⟩
theorem bytes25_no (d s : ByteArray) (m : Int) (w : World) (h : ¬ d.size + s.size ≤ 1048576) : Calls Try.prog 25 #[.string d, .int .i64 m, .string s] w fun e w' => e = .returned (.bool false) ∧ w' = w := by
  by_cases h1 : d.size ≤ 1048576
  · by_cases h2 : s.size ≤ 1048576
    · go_enter Try.func25, Try.ntmps25
      go_wp2
      go_ret
      exact ⟨rfl, rfl⟩
    · go_enter Try.func25, Try.ntmps25
      go_wp2
      go_ret
      exact ⟨rfl, rfl⟩
  · go_enter Try.func25, Try.ntmps25
    go_wp2
    go_ret
    exact ⟨rfl, rfl⟩

end Go.Proofs.Qxb6600492a
