/-
  FnNumberReadsPaddedDecimal: the walk.
-/
import Derived.Test.Qxb6600492aPad
namespace Go.Proofs.Qxb6600492a
open Go.RowKit Plain

/-- number on n padded digits and whatever text behind them. -/
theorem number_padded (Z suffix : ByteArray) (n : Nat) (v least most : Int) (hn : n ≤ 18) (hz : Z.size = n) (hd : ∀ j, j < n → isD (byt Z j)) (hv : val Z n = v) (O : Bool) (hO : inR least most v = O) :
    ∀ w b, St w b (Z ++ suffix) true → Calls Try.prog 29 #[.pointer (some ⟨b, 0, none⟩), .int .i64 n, .int .i64 least, .int .i64 most] w fun e w' => e = .returned (.int .i64 v) ∧ St w' b suffix O ∧ Below b w w' := by
  intro w b h
  obtain ⟨L, hL⟩ := lead_ex (Z ++ suffix)
  have e : ∀ j, j < n → byt (Z ++ suffix) j = byt Z j := fun j hj => byt_left (by omega)
  have hnL : n ≤ L := lead_ge hL (by rw [append_size]; omega) (fun j hj => by rw [e j hj]; exact hd j hj)
  have := number_ok w b (Z ++ suffix) n least most L h hL (by omega) (by omega)
  rw [Int.toNat_natCast, val_congr n e, hv, hO] at this
  rw [show cutAt (Z ++ suffix) n = suffix from by rw [← hz]; exact cutAt_append Z suffix] at this
  exact this

set_option maxHeartbeats 1000000 in
theorem padlaw (v : Int) (n : Nat) (suffix : ByteArray) (least most : Int) (w : World) (hs : suffix.size ≤ 524288) (hn1 : 1 ≤ n) (hn : n ≤ 18) (hv0 : 0 ≤ v) (hv : v < 10 ^ n) :
    Calls Try.prog 4 #[.int .i64 v, .int .i64 n, .string suffix, .int .i64 least, .int .i64 most] w fun e w' => e = .returned (.bool true) ∧ Below w.heap.size w w' := by
  obtain ⟨T, hT⟩ : ∃ T, T = (10 : Int) ^ n := ⟨_, rfl⟩
  have HV : Hid (v < 10 ^ n) := hv
  have hvT : v < T := by rw [hT]; exact hv
  have HT : Hid (10 ^ n = T) := hT.symm
  clear hT hv
  have d1 : decide ((524288 : Int) < (suffix.size : Int)) = false := by simp; omega
  have d2 : decide ((n : Int) < 1) = false := by simp; omega
  have d3 : decide (v < 0) = false := by simp; omega
  go_enter Try.func4, Try.ntmps4
  go_wp2_with (first | (go_at_call 13; refine (bytes13_yes _ _ _ _ _ _ (by omega)).mono ?_; rintro e w ⟨rfl, rfl⟩) | (go_at_call 14; refine (pow10_any n _ hn).mono ?_; rw [HT.out]; rintro e w ⟨rfl, rfl⟩))
  refine (padded_any v n w hn hv0 HV.out).mono ?_
  rintro e w1 ⟨Z, rfl, hz, hdz, hvz, hb1⟩
  obtain ⟨O, hO⟩ : ∃ O, inR least most v = O := ⟨_, rfl⟩
  have H : Hid (∀ w b, St w b (Z ++ suffix) true → Calls Try.prog 29 #[.pointer (some ⟨b, 0, none⟩), .int .i64 n, .int .i64 least, .int .i64 most] w fun e w' => e = .returned (.int .i64 v) ∧ St w' b suffix O ∧ Below b w w') := number_padded Z suffix n v least most hn hz hdz hvz O hO
  have HO : Hid (inR least most v = O) := hO
  have hzs : Z.size ≤ 18 := by omega
  have hsum : Z.size + suffix.size ≤ 9223372036854775807 := by omega
  have HB : Hid (Below w.heap.size w w1) := hb1
  clear hO hz hdz hvz hb1
  go_wp2_with fail
  refine (zz_number (Z ++ suffix) true n least most v suffix O _ H).mono ?_
  rintro e w2 ⟨rfl, hb2⟩
  have HB2 : Hid (Below w.heap.size w w2) := HB.out.trans (hb2.mono HB.out.size)
  clear hb2
  by_cases h1 : least ≤ v
  · have e1 : decide (least ≤ v) = true := by simpa using h1
    by_cases h2 : v ≤ most
    · have e2 : decide (v ≤ most) = true := by simpa using h2
      have hO : O = true := by rw [← HO.out]; exact inR_in (by omega) (by omega)
      go_wp2
      go_ret
      exact ⟨rfl, HB2.out⟩
    · have e2 : decide (v ≤ most) = false := by simpa using h2
      have hO : O = false := by rw [← HO.out]; exact inR_high (by omega)
      go_wp2
      go_ret
      exact ⟨rfl, HB2.out⟩
  · have e1 : decide (least ≤ v) = false := by simpa using h1
    have hO : O = false := by rw [← HO.out]; exact inR_low (by omega)
    go_wp2
    go_ret
    exact ⟨rfl, HB2.out⟩

/-- The ways out ahead of the law's own work. -/
theorem pad_early (v n : Int) (suffix : ByteArray) (least most : Int) (w : World) (h : ¬ (suffix.size ≤ 524288 ∧ 1 ≤ n ∧ n ≤ 18)) :
    Calls Try.prog 4 #[.int .i64 v, .int .i64 n, .string suffix, .int .i64 least, .int .i64 most] w fun e w' => e = .returned (.bool true) ∧ w' = w := by
  by_cases h0 : suffix.size ≤ 1048576
  · by_cases h1 : suffix.size ≤ 524288
    · by_cases h2 : 1 ≤ n
      · have h3 : ¬ n ≤ 18 := fun h3 => h ⟨h1, h2, h3⟩
        have d2 : decide (n < 1) = false := by simp; omega
        clear h
        go_enter Try.func4, Try.ntmps4
        go_wp2_with (go_at_call 13; refine (bytes13_yes _ _ _ _ _ _ (by omega)).mono ?_; rintro e w ⟨rfl, rfl⟩)
        go_ret
        exact ⟨rfl, rfl⟩
      · have d2 : decide (n < 1) = true := by simp; omega
        clear h
        go_enter Try.func4, Try.ntmps4
        go_wp2_with (go_at_call 13; refine (bytes13_yes _ _ _ _ _ _ (by omega)).mono ?_; rintro e w ⟨rfl, rfl⟩)
        go_ret
        exact ⟨rfl, rfl⟩
    · clear h
      go_enter Try.func4, Try.ntmps4
      go_wp2_with (go_at_call 13; refine (bytes13_yes _ _ _ _ _ _ (by omega)).mono ?_; rintro e w ⟨rfl, rfl⟩)
      go_ret
      exact ⟨rfl, rfl⟩
  · clear h
    go_enter Try.func4, Try.ntmps4
    go_wp2_with (go_at_call 13; refine (bytes13_no _ _ _ _ _ _ h0).mono ?_; rintro e w ⟨rfl, rfl⟩)
    go_ret
    exact ⟨rfl, rfl⟩

theorem pad_range (v : Int) (n : Nat) (suffix : ByteArray) (least most : Int) (w : World) (hs : suffix.size ≤ 524288) (hn1 : 1 ≤ n) (hn : n ≤ 18) (h : ¬ (0 ≤ v ∧ v < 10 ^ n)) :
    Calls Try.prog 4 #[.int .i64 v, .int .i64 n, .string suffix, .int .i64 least, .int .i64 most] w fun e w' => e = .returned (.bool true) ∧ w' = w := by
  obtain ⟨T, hT⟩ : ∃ T, T = (10 : Int) ^ n := ⟨_, rfl⟩
  rw [← hT] at h
  have HT : Hid (10 ^ n = T) := hT.symm
  clear hT
  have d2 : decide ((n : Int) < 1) = false := by simp; omega
  by_cases h0 : 0 ≤ v
  · have h1 : ¬ v < T := fun h1 => h ⟨h0, h1⟩
    have d3 : decide (v < 0) = false := by simp; omega
    clear h
    go_enter Try.func4, Try.ntmps4
    go_wp2_with (first | (go_at_call 13; refine (bytes13_yes _ _ _ _ _ _ (by omega)).mono ?_; rintro e w ⟨rfl, rfl⟩) | (go_at_call 14; refine (pow10_any n _ hn).mono ?_; rw [HT.out]; rintro e w ⟨rfl, rfl⟩))
    go_ret
    exact ⟨rfl, rfl⟩
  · have d3 : decide (v < 0) = true := by simp; omega
    clear h
    go_enter Try.func4, Try.ntmps4
    go_wp2_with (go_at_call 13; refine (bytes13_yes _ _ _ _ _ _ (by omega)).mono ?_; rintro e w ⟨rfl, rfl⟩)
    go_ret
    exact ⟨rfl, rfl⟩

end Go.Proofs.Qxb6600492a
