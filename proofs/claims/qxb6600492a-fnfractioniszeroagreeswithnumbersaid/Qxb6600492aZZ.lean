/-
  ZZNumber, ZZFractionIsZero, strings.HasPrefix at ".", fractionIsZero, zzLeadingDigits, zzIsDigit, zzAllDigits.
-/
import Derived.Test.Qxb6600492aText
namespace Go.Proofs.Qxb6600492a
open Go.RowKit Plain

set_option maxHeartbeats 400000 in
theorem zz_number (rest : ByteArray) (ok : Bool) (n least most V : Int) (R : ByteArray) (O : Bool) (w : World)
    (H : Hid (∀ w b, St w b rest ok → Calls Try.prog 29 #[.pointer (some ⟨b, 0, none⟩), .int .i64 n, .int .i64 least, .int .i64 most] w fun e w' => e = .returned (.int .i64 V) ∧ St w' b R O ∧ Below b w w')) :
    Calls Try.prog 11 #[.string rest, .bool ok, .int .i64 n, .int .i64 least, .int .i64 most] w fun e w' => e = .returned (.tuple #[.int .i64 V, .string R, .bool O]) ∧ Below w.heap.size w w' := by
  have hst : St (w.alloc (.cells #[.string rest, .bool ok] 47)) w.heap.size rest ok := heap_alloc_new w _
  go_enter Try.func11, Try.ntmps11
  go_wp2_with fail
  refine (H.out _ _ hst).mono ?_
  rintro e w1 ⟨rfl, hst1, hb1⟩
  have h1 := hst1.rest
  have h2 := hst1.ok
  go_wp2
  go_quiet (fail)
  go_wp2
  go_ret3
  exact ⟨rfl, below_drewN (((Below.refl _ w).alloc (Nat.le_refl _) _).trans hb1) _⟩

theorem first_list (s : ByteArray) (h : 0 < s.size) : (s.extract 0 1).toList = [s[0]] := by
  rw [Lib.toList_data, ByteArray.data_extract, Array.toList_extract, List.extract_eq_take_drop]
  have hl : 0 < s.data.toList.length := by rw [Array.length_toList]; exact h
  rw [List.drop_zero, List.take_one, List.head?_eq_getElem?, List.getElem?_eq_getElem hl]
  rfl

theorem dot_eq (s : ByteArray) (h : 0 < s.size) : ((s.extract 0 1).toList == [46]) = (byt s 0 == 46) := by
  rw [first_list s h, byt_at h, Bool.eq_iff_iff]
  simp only [List.cons_beq_cons, beq_self_eq_true, Bool.and_true, beq_iff_eq]
  constructor
  · intro e; rw [e]; rfl
  · intro e
    apply UInt8.toNat_inj.1
    have : s[0].toNat = 46 := by omega
    rw [this]; rfl

/-- strings.HasPrefix(s, "."). -/
theorem hasdot_yes (s : ByteArray) (w : World) (h0 : 0 < s.size) (h : byt s 0 = 46) : Calls Try.prog 34 #[.string s, .string ⟨#[46]⟩] w fun e w' => e = .returned (.bool true) ∧ w' = w := by
  have hd : ((s.extract 0 1).toList == [46]) = true := by rw [dot_eq s h0, h]; rfl
  clear h
  go_enter Try.func34, Try.ntmps34
  go_wp2
  go_ret
  exact ⟨rfl, rfl⟩

theorem hasdot_no (s : ByteArray) (w : World) (h : 0 < s.size → ¬ byt s 0 = 46) : Calls Try.prog 34 #[.string s, .string ⟨#[46]⟩] w fun e w' => e = .returned (.bool false) ∧ w' = w := by
  by_cases h0 : 0 < s.size
  · have hd : ((s.extract 0 1).toList == [46]) = false := by rw [dot_eq s h0]; simpa using h h0
    clear h
    have d1 : decide ((1 : Int) ≤ (s.size : Int)) = true := by simp; omega
    go_enter Try.func34, Try.ntmps34
    go_wp2
    go_ret
    exact ⟨rfl, rfl⟩
  · have d1 : decide ((1 : Int) ≤ (s.size : Int)) = false := by simp; omega
    clear h
    go_enter Try.func34, Try.ntmps34
    go_wp2
    go_ret
    exact ⟨rfl, rfl⟩

/-! ### fractionIsZero -/
set_option maxHeartbeats 400000 in
theorem frac_bad (w : World) (b : Nat) (s : ByteArray) (h : St w b s false) :
    Calls Try.prog 31 #[.pointer (some ⟨b, 0, none⟩)] w fun e w' => e = .returned (.bool true) ∧ St w' b s false ∧ Below b w w' := by
  have h1 := h.rest
  have h2 := h.ok
  go_enter Try.func31, Try.ntmps31
  go_wp2
  go_ret
  exact ⟨rfl, h, Below.refl _ _⟩

set_option maxHeartbeats 400000 in
theorem frac_none (w : World) (b : Nat) (s : ByteArray) (h : St w b s true) (hd : 0 < s.size → ¬ byt s 0 = 46) :
    Calls Try.prog 31 #[.pointer (some ⟨b, 0, none⟩)] w fun e w' => e = .returned (.bool true) ∧ St w' b s true ∧ Below b w w' := by
  have h1 := h.rest
  have h2 := h.ok
  have HD : Hid (0 < s.size → ¬ byt s 0 = 46) := hd
  clear hd
  go_enter Try.func31, Try.ntmps31
  go_wp2_with (go_at_call 34; refine (hasdot_no s _ HD.out).mono ?_; rintro e w ⟨rfl, rfl⟩)
  go_ret
  exact ⟨rfl, h, Below.refl _ _⟩

/-- What the next digit is, behind k digits of T, of which L lead. -/
def Next (T : ByteArray) (L k : Nat) (d : Int) (o : Bool) (b : Nat) (w : World) : Prop :=
  (k < L ∧ d = byt T k - 48 ∧ o = true ∧ St w b (cutAt T (k + 1)) true) ∨ (k = L ∧ d = 0 ∧ o = false ∧ St w b (cutAt T L) true)

theorem digit_next (w : World) (b : Nat) (T : ByteArray) (L k : Nat) (h : St w b (cutAt T k) true) (hL : IsLead T L) (hk : k ≤ L) :
    Calls Try.prog 32 #[.pointer (some ⟨b, 0, none⟩)] w fun e w' => ∃ d o, e = .returned (.tuple #[.int .i64 d, .bool o]) ∧ Next T L k d o b w' ∧ Below b w w' := by
  by_cases hlt : k < L
  · refine (digit_at w b T k h (by have := hL.1; omega) (hL.2.1 k hlt)).mono ?_
    rintro e w' ⟨rfl, h1, h2⟩
    exact ⟨_, _, rfl, .inl ⟨hlt, rfl, rfl, h1⟩, h2⟩
  · obtain rfl : k = L := by omega
    refine (digit_no w b T k true h (fun _ hs => hL.2.2 hs)).mono ?_
    rintro e w' ⟨rfl, rfl⟩
    exact ⟨_, _, rfl, .inr ⟨rfl, rfl, rfl, h⟩, Below.refl _ _⟩

set_option maxHeartbeats 2000000 in
theorem frac_some (w : World) (b : Nat) (s : ByteArray) (L : Nat) (h : St w b s true) (h0 : 0 < s.size) (hm : s.size ≤ 1073741824) (hd : byt s 0 = 46) (hL : IsLead (cutAt s 1) L) :
    Calls Try.prog 31 #[.pointer (some ⟨b, 0, none⟩)] w fun e w' => e = .returned (.bool (allz (cutAt s 1) L)) ∧ St w' b (cutAt (cutAt s 1) L) (decide (0 < L)) ∧ Below b w w' := by
  have h1 := h.rest
  have h2 := h.ok
  have h3 := h.free 0
  have HL : Hid (IsLead (cutAt s 1) L) := hL
  have HD : Hid (byt s 0 = 46) := hd
  have hst : St (w.setCell ⟨b, 0, none⟩ (.string (s.extract 1 s.size))) b (cutAt (cutAt s 1) 0) true := by rw [cutAt_zero]; exact h.setRest (cutAt s 1)
  have hb0 : Below b w (w.setCell ⟨b, 0, none⟩ (.string (s.extract 1 s.size))) := (Below.refl b w).setCell (p := ⟨b, 0, none⟩) (Nat.le_refl _) _
  have hlm : L ≤ 1073741824 := by have := hL.1; rw [cutAt_size] at this; omega
  clear hd hL
  generalize hT : cutAt s 1 = T at HL hst ⊢
  clear hT
  go_enter Try.func31, Try.ntmps31
  go_wp2_with (go_at_call 34; refine (hasdot_yes s _ h0 HD.out).mono ?_; rintro e w ⟨rfl, rfl⟩)
  refine (digit_next _ b T L 0 hst HL.out (Nat.zero_le _)).mono ?_
  rintro e w1 ⟨d, o, rfl, hN1, hb1⟩
  have hB1 : Below b w w1 := hb0.trans hb1
  clear hst hb0 hb1 h1 h2 h3 h
  go_wp2
  go_loopw [3, 4, 5, 6] (fun n z dg okk wr => ∃ (k : Nat) (d : Int) (o : Bool), k ≤ L ∧ n = .int .i64 k ∧ z = .bool (allz T k) ∧ dg = .int .i64 d ∧ okk = .bool o ∧ Next T L k d o b wr ∧ Below b w wr) (fun n _ _ _ _ => L - (intOf n).toNat)
  case atStart => exact ⟨0, d, o, Nat.zero_le _, rfl, rfl, rfl, rfl, hN1, hB1⟩
  case round =>
    clear hN1 hB1
    obtain ⟨k, d, o, hk, rfl, rfl, rfl, rfl, hN, hnx⟩ := hrel
    rcases hN with ⟨hlt, rfl, rfl, hst⟩ | ⟨rfl, rfl, rfl, hst⟩
    · have HZ : Hid (allz T (k + 1) = (allz T k && (byt T k == 48))) := rfl
      by_cases h48 : byt T k = 48
      · have t0 : (byt T k - 48 == 0) = true := by rw [h48]; rfl
        have H48 : Hid (byt T k = 48) := h48
        clear h48
        cases hz : allz T k with
        | true =>
          have HZZ : Hid (allz T (k + 1) = true) := show _ = _ by rw [HZ.out, hz, H48.out]; rfl
          go_wp2_with fail
          refine (digit_next _ b T L (k + 1) hst HL.out (by omega)).mono ?_
          rintro e w2 ⟨d2, o2, rfl, hN2, hb2⟩
          go_wp2
          go_roundw
          case rel => exact ⟨k + 1, d2, o2, by omega, by go_num, by rw [HZZ.out], rfl, rfl, hN2, hnx.trans hb2⟩
          case measure => simp [intOf]; omega
        | false =>
          have HZZ : Hid (allz T (k + 1) = false) := show _ = _ by rw [HZ.out, hz]; rfl
          go_wp2_with fail
          refine (digit_next _ b T L (k + 1) hst HL.out (by omega)).mono ?_
          rintro e w2 ⟨d2, o2, rfl, hN2, hb2⟩
          go_wp2
          go_roundw
          case rel => exact ⟨k + 1, d2, o2, by omega, by go_num, by rw [HZZ.out], rfl, rfl, hN2, hnx.trans hb2⟩
          case measure => simp [intOf]; omega
      · have t0 : (byt T k - 48 == 0) = false := by rw [beq_eq_false_iff_ne]; omega
        have HZZ : Hid (allz T (k + 1) = false) := show _ = _ by rw [HZ.out, show (byt T k == 48) = false from by simpa using h48, Bool.and_false]
        clear h48
        cases hz : allz T k with
        | true =>
          go_wp2_with fail
          refine (digit_next _ b T L (k + 1) hst HL.out (by omega)).mono ?_
          rintro e w2 ⟨d2, o2, rfl, hN2, hb2⟩
          go_wp2
          go_roundw
          case rel => exact ⟨k + 1, d2, o2, by omega, by go_num, by rw [HZZ.out], rfl, rfl, hN2, hnx.trans hb2⟩
          case measure => simp [intOf]; omega
        | false =>
          go_wp2_with fail
          refine (digit_next _ b T L (k + 1) hst HL.out (by omega)).mono ?_
          rintro e w2 ⟨d2, o2, rfl, hN2, hb2⟩
          go_wp2
          go_roundw
          case rel => exact ⟨k + 1, d2, o2, by omega, by go_num, by rw [HZZ.out], rfl, rfl, hN2, hnx.trans hb2⟩
          case measure => simp [intOf]; omega
    · have h1 := hst.ok
      have h2 := hst.free 1
      by_cases hk0 : k = 0
      · have t0 : ((k : Int) == 0) = true := by rw [hk0]; rfl
        have HR : Hid (decide (0 < k) = false) := show _ = _ by rw [hk0]; rfl
        clear hk0
        go_wp2
        go_ret
        refine ⟨rfl, ?_, hnx.setCell (p := ⟨b, 1, none⟩) (Nat.le_refl _) _⟩
        first | exact hst.setOk false | (rw [HR.out]; exact hst.setOk false)
      · have t0 : ((k : Int) == 0) = false := by rw [beq_eq_false_iff_ne]; omega
        have HR : Hid (decide (0 < k) = true) := decide_eq_true (by omega)
        clear hk0
        go_wp2
        go_ret
        refine ⟨rfl, ?_, hnx⟩
        first | exact hst | (rw [HR.out]; exact hst)

end Go.Proofs.Qxb6600492a
