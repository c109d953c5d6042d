/-
  FnFractionIsZeroExact: the walk.
-/
import Derived.Test.Qxb6600492aBytes
namespace Go.Proofs.Qxb6600492a
open Go.RowKit Plain

theorem cut_same' (s : ByteArray) (k : Nat) : ((cutAt s k).toList == (s.extract k s.size).toList) = true := by unfold cutAt; simp

set_option maxHeartbeats 400000 in
theorem fx_bad (s : ByteArray) (w : World) (hs : s.size ≤ 1048576) :
    Calls Try.prog 6 #[.string s, .bool false] w fun e w' => e = .returned (.bool true) ∧ Below w.heap.size w w' := by
  have H : Hid (∀ w b, St w b s false → Calls Try.prog 31 #[.pointer (some ⟨b, 0, none⟩)] w fun e w' => e = .returned (.bool true) ∧ St w' b s false ∧ Below b w w') := fun w b h => frac_bad w b s h
  go_enter Try.func6, Try.ntmps6
  go_wp2_with (first | (go_at_call 20; refine (bytes20_yes _ _ _ hs).mono ?_; rintro e w ⟨rfl, rfl⟩) | (go_at_call 21; refine (zz_frac s false true s false _ H).mono ?_; rintro e w1 ⟨rfl, hb1⟩))
  go_ret
  exact ⟨rfl, by assumption⟩

set_option maxHeartbeats 400000 in
theorem fx_empty (s : ByteArray) (w : World) (hs : s.size = 0) :
    Calls Try.prog 6 #[.string s, .bool true] w fun e w' => e = .returned (.bool true) ∧ Below w.heap.size w w' := by
  have H : Hid (∀ w b, St w b s true → Calls Try.prog 31 #[.pointer (some ⟨b, 0, none⟩)] w fun e w' => e = .returned (.bool true) ∧ St w' b s true ∧ Below b w w') := fun w b h => frac_none w b s h (fun h => by omega)
  have hE := empty_yes hs
  have hs' : s.size ≤ 1048576 := by omega
  clear hs
  go_enter Try.func6, Try.ntmps6
  go_wp2_with (first | (go_at_call 20; refine (bytes20_yes _ _ _ hs').mono ?_; rintro e w ⟨rfl, rfl⟩) | (go_at_call 21; refine (zz_frac s true true s true _ H).mono ?_; rintro e w1 ⟨rfl, hb1⟩))
  go_ret
  exact ⟨rfl, by assumption⟩

set_option maxHeartbeats 400000 in
theorem fx_nodot (s : ByteArray) (w : World) (hs : s.size ≤ 1048576) (h0 : 0 < s.size) (hd : ¬ byt s 0 = 46) :
    Calls Try.prog 6 #[.string s, .bool true] w fun e w' => e = .returned (.bool true) ∧ Below w.heap.size w w' := by
  have H : Hid (∀ w b, St w b s true → Calls Try.prog 31 #[.pointer (some ⟨b, 0, none⟩)] w fun e w' => e = .returned (.bool true) ∧ St w' b s true ∧ Below b w w') := fun w b h => frac_none w b s h (fun _ => hd)
  have hE := empty_no h0
  have t0 : (((s[0].toNat : Nat) : Int) != 46) = true := by rw [← byt_at h0]; simpa using hd
  clear hd
  go_enter Try.func6, Try.ntmps6
  go_wp2_with (first | (go_at_call 20; refine (bytes20_yes _ _ _ hs).mono ?_; rintro e w ⟨rfl, rfl⟩) | (go_at_call 21; refine (zz_frac s true true s true _ H).mono ?_; rintro e w1 ⟨rfl, hb1⟩))
  go_ret
  exact ⟨rfl, by assumption⟩

set_option maxHeartbeats 1000000 in
theorem fx_frac (s : ByteArray) (w : World) (hs : s.size ≤ 1048576) (h0 : 0 < s.size) (hd : byt s 0 = 46) :
    Calls Try.prog 6 #[.string s, .bool true] w fun e w' => e = .returned (.bool true) ∧ Below w.heap.size w w' := by
  obtain ⟨L, hL⟩ := lead_ex (cutAt s 1)
  obtain ⟨Z, hZ⟩ : ∃ Z, allz (cutAt s 1) L = Z := ⟨_, rfl⟩
  obtain ⟨O, hO⟩ : ∃ O, decide (0 < L) = O := ⟨_, rfl⟩
  have H : Hid (∀ w b, St w b s true → Calls Try.prog 31 #[.pointer (some ⟨b, 0, none⟩)] w fun e w' => e = .returned (.bool Z) ∧ St w' b (cutAt (cutAt s 1) L) O ∧ Below b w w') := fun w b h => by
    have := frac_some w b s L h h0 (by omega) hd hL
    rw [hZ, hO] at this
    exact this
  have hE := empty_no h0
  have t0 : (((s[0].toNat : Nat) : Int) != 46) = false := by rw [← byt_at h0, hd]; rfl
  have HT : Hid (cutAt s 1 = s.extract 1 s.size) := rfl
  have hTs : (cutAt s 1).size ≤ 1048576 := by rw [cutAt_size]; omega
  have HO : Hid (decide (0 < L) = O) := hO
  have HZ : Hid (allz (cutAt s 1) L = Z) := hZ
  have HL : Hid (IsLead (cutAt s 1) L) := hL
  have d8 : decide ((1048576 : Int) < (s.size : Int)) = false := by simp; omega
  clear hd hO hZ hL
  go_enter Try.func6, Try.ntmps6
  go_wp2_with (first | (go_at_call 20; refine (bytes20_yes _ _ _ hs).mono ?_; rintro e w ⟨rfl, rfl⟩) | (go_at_call 21; refine (zz_frac s true Z (cutAt (cutAt s 1) L) O _ H).mono ?_; rintro e w1 ⟨rfl, hb1⟩))
  rw [← HT.out]
  clear H
  generalize cutAt s 1 = T at *
  have hLT := HL.out.1
  refine (lead_any T _ L (by omega) HL.out).mono ?_
  rintro e w1 ⟨rfl, rfl⟩
  go_wp2
  go_loop [10, 11] (fun z i => ∃ j : Nat, j ≤ L ∧ z = .bool (allz T j) ∧ i = .int .i64 j) (fun _ i => L - (intOf i).toNat)
  case atStart => exact ⟨0, Nat.zero_le _, rfl, rfl⟩
  case round =>
    obtain ⟨j, hj, rfl, rfl⟩ := hrel
    by_cases hlt : j < L
    · have hjs : j < T.size := by omega
      have HA : Hid (allz T (j + 1) = (allz T j && (byt T j == 48))) := rfl
      by_cases h48 : byt T j = 48
      · have t1 : (((T[j].toNat : Nat) : Int) != 48) = false := by rw [← byt_at hjs, h48]; rfl
        have HA2 : Hid (allz T (j + 1) = allz T j) := show _ = _ by rw [HA.out, h48]; simp
        clear h48
        go_wp2
        go_round
        case rel => exact ⟨j + 1, by omega, by rw [HA2.out], by go_num⟩
        case measure => simp [intOf]; omega
      · have t1 : (((T[j].toNat : Nat) : Int) != 48) = true := by rw [← byt_at hjs]; simpa using h48
        have HA2 : Hid (allz T (j + 1) = false) := show _ = _ by rw [HA.out, show (byt T j == 48) = false from by simpa using h48, Bool.and_false]
        clear h48
        go_wp2
        go_round
        case rel => exact ⟨j + 1, by omega, by rw [HA2.out], by go_num⟩
        case measure => simp [intOf]; omega
    · obtain rfl : j = L := by omega
      have hzz : allz T j = Z := HZ.out
      have hc := cut_same' T j
      by_cases hj0 : 0 < j
      · have hO : O = true := by rw [← HO.out]; exact decide_eq_true hj0
        have e1 : decide ((0 : Int) < (j : Int)) = true := by simp; omega
        go_wp2
        go_ret
        exact ⟨rfl, by assumption⟩
      · have hO : O = false := by rw [← HO.out]; exact decide_eq_false hj0
        have e1 : decide ((0 : Int) < (j : Int)) = false := by simp; omega
        go_wp2
        go_ret
        exact ⟨rfl, by assumption⟩

theorem fx_early (s : ByteArray) (ok : Bool) (w : World) (h : ¬ s.size ≤ 1048576) :
    Calls Try.prog 6 #[.string s, .bool ok] w fun e w' => e = .returned (.bool true) ∧ w' = w := by
  go_enter Try.func6, Try.ntmps6
  go_wp2_with (go_at_call 20; refine (bytes20_no _ _ _ h).mono ?_; rintro e w ⟨rfl, rfl⟩)
  go_ret
  exact ⟨rfl, rfl⟩

end Go.Proofs.Qxb6600492a
