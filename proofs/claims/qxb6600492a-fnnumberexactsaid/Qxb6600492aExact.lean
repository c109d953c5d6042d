/-
  FnNumberExact: the walk.
-/
import Derived.Test.Qxb6600492aSmall
namespace Go.Proofs.Qxb6600492a
open Go.RowKit Plain

theorem cut_same (s : ByteArray) (k : Nat) : ((cutAt s k).toList == (s.extract k s.size).toList) = true := by unfold cutAt; simp

/-- A reader that is not well. -/
theorem exact_bad (s : ByteArray) (n least most : Int) (w : World) (hs : s.size ≤ 1048576) (hn : n ≤ 18) :
    Calls Try.prog 3 #[.string s, .bool false, .int .i64 n, .int .i64 least, .int .i64 most] w fun e w' => e = .returned (.bool true) ∧ Below w.heap.size w w' := by
  have H : Hid (∀ w b, St w b s false → Calls Try.prog 29 #[.pointer (some ⟨b, 0, none⟩), .int .i64 n, .int .i64 least, .int .i64 most] w fun e w' => e = .returned (.int .i64 0) ∧ St w' b s false ∧ Below b w w') := fun w b h => number_bad w b s n least most h
  go_enter Try.func3, Try.ntmps3
  go_wp2_with (first | (go_at_call 10; refine (bytes10_yes _ _ _ _ _ _ hs).mono ?_; rintro e w ⟨rfl, rfl⟩) | (go_at_call 11; refine (zz_number s false n least most 0 s false _ H).mono ?_; rintro e w1 ⟨rfl, hb1⟩))
  go_ret
  exact ⟨rfl, by assumption⟩

/-- n is zero or less. -/
theorem exact_none (s : ByteArray) (n least most : Int) (w : World) (hs : s.size ≤ 1048576) (hn : n ≤ 0) :
    Calls Try.prog 3 #[.string s, .bool true, .int .i64 n, .int .i64 least, .int .i64 most] w fun e w' => e = .returned (.bool true) ∧ Below w.heap.size w w' := by
  obtain ⟨O, hO⟩ : ∃ O, inR least most 0 = O := ⟨_, rfl⟩
  have H : Hid (∀ w b, St w b s true → Calls Try.prog 29 #[.pointer (some ⟨b, 0, none⟩), .int .i64 n, .int .i64 least, .int .i64 most] w fun e w' => e = .returned (.int .i64 0) ∧ St w' b s O ∧ Below b w w') := fun w b h => by
    obtain ⟨L, hL⟩ := lead_ex s
    have := number_ok w b s n least most L h hL (by omega) (by omega)
    rw [show n.toNat = 0 from by omega, cutAt_zero] at this
    rw [← hO]
    exact this
  by_cases h1 : least ≤ 0
  · have d1 : decide (least ≤ 0) = true := by simpa using h1
    by_cases h2 : 0 ≤ most
    · have d2 : decide (0 ≤ most) = true := by simpa using h2
      obtain rfl : O = true := by rw [← hO]; exact inR_in (by omega) (by omega)
      clear hO
      go_enter Try.func3, Try.ntmps3
      go_wp2_with (first | (go_at_call 10; refine (bytes10_yes _ _ _ _ _ _ hs).mono ?_; rintro e w ⟨rfl, rfl⟩) | (go_at_call 11; refine (zz_number s true n least most 0 s true _ H).mono ?_; rintro e w1 ⟨rfl, hb1⟩))
      go_ret
      exact ⟨rfl, by assumption⟩
    · have d2 : decide (0 ≤ most) = false := by simpa using h2
      obtain rfl : O = false := by rw [← hO]; exact inR_high (by omega)
      clear hO
      go_enter Try.func3, Try.ntmps3
      go_wp2_with (first | (go_at_call 10; refine (bytes10_yes _ _ _ _ _ _ hs).mono ?_; rintro e w ⟨rfl, rfl⟩) | (go_at_call 11; refine (zz_number s true n least most 0 s false _ H).mono ?_; rintro e w1 ⟨rfl, hb1⟩))
      go_ret
      exact ⟨rfl, by assumption⟩
  · have d1 : decide (least ≤ 0) = false := by simpa using h1
    obtain rfl : O = false := by rw [← hO]; exact inR_low (by omega)
    clear hO
    go_enter Try.func3, Try.ntmps3
    go_wp2_with (first | (go_at_call 10; refine (bytes10_yes _ _ _ _ _ _ hs).mono ?_; rintro e w ⟨rfl, rfl⟩) | (go_at_call 11; refine (zz_number s true n least most 0 s false _ H).mono ?_; rintro e w1 ⟨rfl, hb1⟩))
    go_ret
    exact ⟨rfl, by assumption⟩

/-- Fewer than n leading digits. -/
theorem exact_short (s : ByteArray) (n least most : Int) (w : World) (hs : s.size ≤ 1048576) (hn0 : 0 < n) (hn : n ≤ 18) (L : Nat) (hL : IsLead s L) (hnL : (L : Int) < n) :
    Calls Try.prog 3 #[.string s, .bool true, .int .i64 n, .int .i64 least, .int .i64 most] w fun e w' => e = .returned (.bool true) ∧ Below w.heap.size w w' := by
  have H : Hid (∀ w b, St w b s true → Calls Try.prog 29 #[.pointer (some ⟨b, 0, none⟩), .int .i64 n, .int .i64 least, .int .i64 most] w fun e w' => e = .returned (.int .i64 0) ∧ St w' b (cutAt s L) false ∧ Below b w w') := fun w b h => number_short w b s n least most L h hL hn hnL
  have HL : Hid (IsLead s L) := hL
  have hLs := hL.1
  have hc := cut_same s L
  clear hL
  go_enter Try.func3, Try.ntmps3
  go_wp2_with (first | (go_at_call 10; refine (bytes10_yes _ _ _ _ _ _ hs).mono ?_; rintro e w ⟨rfl, rfl⟩) | (go_at_call 11; refine (zz_number s true n least most 0 (cutAt s L) false _ H).mono ?_; rintro e w1 ⟨rfl, hb1⟩) | (go_at_call 12; refine (lead_any s _ L (by omega) HL.out).mono ?_; rintro e w1 ⟨rfl, rfl⟩))
  go_ret
  exact ⟨rfl, by assumption⟩

theorem round_num (V N W P d : Int) (hv : V = (N * 10 + d) * P + W) (h0 : 0 ≤ W) (h1 : W < P) (hd0 : 0 ≤ d) (hd9 : d ≤ 9) (hP : P ≤ 100000000000000000) :
    V = N * (P * 10) + (W + d * P) ∧ 0 ≤ W + d * P ∧ W + d * P < P * 10 ∧ wrap64 (W + wrap64 (d * P)) = W + d * P := by
  have a1 : 0 ≤ d * P := Int.mul_nonneg hd0 (by omega)
  have a2 : d * P ≤ 9 * P := Int.mul_le_mul_of_nonneg_right hd9 (by omega)
  have a3 : (N * 10 + d) * P = N * (P * 10) + d * P := by rw [Int.add_mul, Int.mul_assoc, Int.mul_comm 10 P]
  generalize d * P = X at *
  have a4 : wrap64 X = X := by unfold wrap64; omega
  refine ⟨by rw [hv, a3]; omega, by omega, by omega, ?_⟩
  rw [a4]; unfold wrap64; omega

set_option maxHeartbeats 1000000 in
/-- n digits or more. -/
theorem exact_full (s : ByteArray) (n : Nat) (least most : Int) (w : World) (hs : s.size ≤ 1048576) (hn0 : 0 < n) (hn : n ≤ 18) (L : Nat) (hL : IsLead s L) (hnL : n ≤ L) :
    Calls Try.prog 3 #[.string s, .bool true, .int .i64 n, .int .i64 least, .int .i64 most] w fun e w' => e = .returned (.bool true) ∧ Below w.heap.size w w' := by
  obtain ⟨O, hO⟩ : ∃ O, inR least most (val s n) = O := ⟨_, rfl⟩
  have H : Hid (∀ w b, St w b s true → Calls Try.prog 29 #[.pointer (some ⟨b, 0, none⟩), .int .i64 n, .int .i64 least, .int .i64 most] w fun e w' => e = .returned (.int .i64 (val s n)) ∧ St w' b (cutAt s n) O ∧ Below b w w') := fun w b h => by
    have := number_ok w b s n least most L h hL (by omega) (by omega)
    rw [Int.toNat_natCast, hO] at this
    exact this
  have HO : Hid (inR least most (val s n) = O) := hO
  have HL : Hid (IsLead s L) := hL
  have hLs := hL.1
  have hc := cut_same s n
  clear hL hO
  have d8 : decide ((1048576 : Int) < (s.size : Int)) = false := by simp; omega
  have d9 : decide ((18 : Int) < (n : Int)) = false := by simp; omega
  have d10 : decide ((n : Int) ≤ 0) = false := by simp; omega
  have d11 : decide ((L : Int) < (n : Int)) = false := by simp; omega
  go_enter Try.func3, Try.ntmps3
  go_wp2_with (first | (go_at_call 10; refine (bytes10_yes _ _ _ _ _ _ hs).mono ?_; rintro e w ⟨rfl, rfl⟩) | (go_at_call 11; refine (zz_number s true n least most (val s n) (cutAt s n) O _ H).mono ?_; rintro e w1 ⟨rfl, hb1⟩) | (go_at_call 12; refine (lead_any s _ L (by omega) HL.out).mono ?_; rintro e w1 ⟨rfl, rfl⟩))
  go_loop [15, 16, 17] (fun want p i => ∃ (q : Nat) (W P : Int), q ≤ n ∧ want = .int .i64 W ∧ p = .int .i64 P ∧ i = .int .i64 ((q : Int) - 1) ∧ Hid (P = 10 ^ (n - q)) ∧ Hid (val s n = val s q * P + W) ∧ 0 ≤ W ∧ W < P) (fun _ _ i => (intOf i + 1).toNat)
  case atStart => exact ⟨n, 0, 1, Nat.le_refl _, rfl, rfl, rfl, show (1 : Int) = _ by rw [Nat.sub_self]; rfl, show _ = _ by omega, by omega, by omega⟩
  case round =>
    obtain ⟨q, W, P, hq, rfl, rfl, rfl, HP, HV, hW0, hW1⟩ := hrel
    cases q with
    | zero =>
      have hvW : val s n = W := by have := HV.out; simp only [val] at this; omega
      have t1 : (val s n == W) = true := by rw [hvW]; simp
      rw [hvW] at HO
      clear hvW HV HP
      by_cases h1 : least ≤ W
      · have e1 : decide (least ≤ W) = true := by simpa using h1
        by_cases h2 : W ≤ most
        · have e2 : decide (W ≤ most) = true := by simpa using h2
          have hO : O = true := by rw [← HO.out]; exact inR_in (by omega) (by omega)
          go_wp2
          go_ret
          exact ⟨rfl, by assumption⟩
        · have e2 : decide (W ≤ most) = false := by simpa using h2
          have hO : O = false := by rw [← HO.out]; exact inR_high (by omega)
          go_wp2
          go_ret
          exact ⟨rfl, by assumption⟩
      · have e1 : decide (least ≤ W) = false := by simpa using h1
        have hO : O = false := by rw [← HO.out]; exact inR_low (by omega)
        go_wp2
        go_ret
        exact ⟨rfl, by assumption⟩
    | succ r =>
      have e : (((r + 1 : Nat) : Int) - 1) = (r : Int) := by omega
      rw [e]
      have hP1 : P ≤ 100000000000000000 := by
        have h1 : (10 : Int) ^ (n - (r + 1)) ≤ 10 ^ 17 := pow_le (by omega)
        rw [HP.out]; omega
      have hrs : r < s.size := by omega
      have hD := HL.out.2.1 r (by omega)
      rw [byt_at hrs] at hD
      have hd1 : 48 ≤ ((s[r].toNat : Nat) : Int) := hD.1
      have hd2 : ((s[r].toNat : Nat) : Int) ≤ 57 := hD.2
      clear hD
      have HR : Hid (val s n = val s r * (P * 10) + (W + (((s[r].toNat : Nat) : Int) - 48) * P) ∧ 0 ≤ W + (((s[r].toNat : Nat) : Int) - 48) * P ∧ W + (((s[r].toNat : Nat) : Int) - 48) * P < P * 10 ∧ wrap64 (W + wrap64 ((((s[r].toNat : Nat) : Int) - 48) * P)) = W + (((s[r].toNat : Nat) : Int) - 48) * P) := by
        have hv := HV.out
        simp only [val] at hv
        rw [byt_at hrs] at hv
        exact round_num _ _ _ _ _ hv hW0 hW1 (by omega) (by omega) hP1
      have HQ : Hid (P * 10 = 10 ^ (n - r)) := show _ = _ by rw [HP.out, ← Int.pow_succ]; congr 1; omega
      go_wp2
      go_round
      case rel => exact ⟨r, W + (((s[r].toNat : Nat) : Int) - 48) * P, P * 10, by omega, by rw [HR.out.2.2.2], rfl, rfl, HQ, HR.out.1, HR.out.2.1, HR.out.2.2.1⟩
      case measure => simp [intOf]

/-- The ways out ahead of the law's own work. -/
theorem exact_early (s : ByteArray) (ok : Bool) (n least most : Int) (w : World) (h : ¬ (s.size ≤ 1048576 ∧ n ≤ 18)) :
    Calls Try.prog 3 #[.string s, .bool ok, .int .i64 n, .int .i64 least, .int .i64 most] w fun e w' => e = .returned (.bool true) ∧ w' = w := by
  by_cases hs : s.size ≤ 1048576
  · have hn : ¬ n ≤ 18 := fun hn => h ⟨hs, hn⟩
    go_enter Try.func3, Try.ntmps3
    go_wp2_with (go_at_call 10; refine (bytes10_yes _ _ _ _ _ _ hs).mono ?_; rintro e w ⟨rfl, rfl⟩)
    go_ret
    exact ⟨rfl, rfl⟩
  · go_enter Try.func3, Try.ntmps3
    go_wp2_with (go_at_call 10; refine (bytes10_no _ _ _ _ _ _ hs).mono ?_; rintro e w ⟨rfl, rfl⟩)
    go_ret
    exact ⟨rfl, rfl⟩

end Go.Proofs.Qxb6600492a
