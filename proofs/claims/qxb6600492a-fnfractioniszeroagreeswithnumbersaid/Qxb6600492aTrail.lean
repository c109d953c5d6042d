/-
  FnFractionTrailingZerosChangeNothing and FnFractionIsZeroAgreesWithNumber: the walks.
-/
import Derived.Test.Qxb6600492aPad
namespace Go.Proofs.Qxb6600492a
open Go.RowKit Plain

theorem lead_append {a b : ByteArray} {L : Nat} (ha : ∀ j, j < a.size → isD (byt a j)) (hb : IsLead b L) : IsLead (a ++ b) (a.size + L) := by
  obtain ⟨h1, h2, h3⟩ := hb
  refine ⟨by rw [append_size]; omega, fun j hj => ?_, fun hj => ?_⟩
  · by_cases h : j < a.size
    · rw [byt_left h]; exact ha j h
    · rw [byt_right (by omega)]; exact h2 _ (by omega)
  · rw [byt_right (by omega), Nat.add_sub_cancel_left]
    exact h3 (by rw [append_size] at hj; omega)

theorem allz_append (a b : ByteArray) (k : Nat) : allz (a ++ b) (a.size + k) = (allz a a.size && allz b k) := by
  rw [Bool.eq_iff_iff, Bool.and_eq_true, allz_iff, allz_iff, allz_iff]
  constructor
  · intro h
    refine ⟨fun j hj => ?_, fun j hj => ?_⟩
    · have := h j (by omega); rw [byt_left hj] at this; exact this
    · have := h (a.size + j) (by omega); rw [byt_right (by omega), Nat.add_sub_cancel_left] at this; exact this
  · rintro ⟨h1, h2⟩ j hj
    by_cases h : j < a.size
    · rw [byt_left h]; exact h1 j h
    · rw [byt_right (by omega)]; exact h2 _ (by omega)

theorem cutAt_more (a b : ByteArray) (k : Nat) : cutAt (a ++ b) (a.size + k) = cutAt b k := by
  rw [← cutAt_cutAt, cutAt_append]

theorem alldig_of {d : ByteArray} {L : Nat} (hL : IsLead d L) (h : L = d.size) : ∀ j, j < d.size → isD (byt d j) := fun j hj => hL.2.1 j (by omega)

theorem dot_byt (T : ByteArray) : byt ((⟨#[46]⟩ : ByteArray) ++ T) 0 = 46 := by
  rw [byt_left (by decide)]; rfl
theorem dot_cut (T : ByteArray) : cutAt ((⟨#[46]⟩ : ByteArray) ++ T) 1 = T := cutAt_append (⟨#[46]⟩ : ByteArray) T

/-- fractionIsZero on ".", digits d and whatever text behind them. -/
theorem frac_text (s d X : ByteArray) (hs : s = (⟨#[46]⟩ : ByteArray) ++ (d ++ X)) (hm : s.size ≤ 1073741824) (hd1 : 1 ≤ d.size) (hd : ∀ j, j < d.size → isD (byt d j)) (L : Nat) (hL : IsLead X L) :
    ∀ w b, St w b s true → Calls Try.prog 31 #[.pointer (some ⟨b, 0, none⟩)] w fun e w' => e = .returned (.bool (allz d d.size && allz X L)) ∧ St w' b (cutAt X L) true ∧ Below b w w' := by
  intro w b h
  have h1 := frac_some w b s (d.size + L) h (by rw [hs, append_size]; simp; omega) hm (by rw [hs]; exact dot_byt _) (by rw [hs, dot_cut]; exact lead_append hd hL)
  rw [show cutAt s 1 = d ++ X from by rw [hs]; exact dot_cut _, allz_append, cutAt_more, decide_eq_true (by omega : 0 < d.size + L)] at h1
  exact h1

theorem zeros_lead {Z X : ByteArray} {m L : Nat} (hz : Z.size = m) (h48 : ∀ j, j < m → byt Z j = 48) (hL : IsLead X L) : IsLead (Z ++ X) (m + L) := by
  rw [← hz]
  exact lead_append (fun j hj => by rw [h48 j (by omega)]; unfold isD; omega) hL

theorem zeros_allz {Z X : ByteArray} {m L : Nat} (hz : Z.size = m) (h48 : ∀ j, j < m → byt Z j = 48) : allz (Z ++ X) (m + L) = allz X L := by
  rw [← hz, allz_append, (allz_iff Z Z.size).2 (fun j hj => h48 j (by omega)), Bool.true_and]

theorem zeros_cut {Z X : ByteArray} {m L : Nat} (hz : Z.size = m) : cutAt (Z ++ X) (m + L) = cutAt X L := by rw [← hz, cutAt_more]

set_option maxHeartbeats 1000000 in
theorem trail (d suffix : ByteArray) (m : Nat) (w : World) (hd1 : 1 ≤ d.size) (hd2 : d.size ≤ 131072) (hs : suffix.size ≤ 131072) (hm : m ≤ 65536) (hL : IsLead d d.size) :
    Calls Try.prog 8 #[.string d, .int .i64 m, .string suffix] w fun e w' => e = .returned (.bool true) ∧ Below w.heap.size w w' := by
  obtain ⟨L, hX⟩ := lead_ex suffix
  obtain ⟨A, hA⟩ : ∃ A, (allz d d.size && allz suffix L) = A := ⟨_, rfl⟩
  have hD := alldig_of hL rfl
  have sz1 : ((⟨#[46]⟩ : ByteArray) ++ d).size = 1 + d.size := by rw [append_size]; rfl
  have H1 : Hid (∀ w b, St w b ((⟨#[46]⟩ : ByteArray) ++ d ++ suffix) true → Calls Try.prog 31 #[.pointer (some ⟨b, 0, none⟩)] w fun e w' => e = .returned (.bool A) ∧ St w' b (cutAt suffix L) true ∧ Below b w w') := fun w b h => by
    have := frac_text _ d suffix (append_assoc' _ _ _) (by rw [append_size, sz1]; omega) hd1 hD L hX w b h
    rw [hA] at this
    exact this
  have H2 : Hid (∀ Z : ByteArray, Z.size = m → (∀ j, j < m → byt Z j = 48) → ∀ w b, St w b ((⟨#[46]⟩ : ByteArray) ++ d ++ Z ++ suffix) true → Calls Try.prog 31 #[.pointer (some ⟨b, 0, none⟩)] w fun e w' => e = .returned (.bool A) ∧ St w' b (cutAt suffix L) true ∧ Below b w w') := fun Z hz h48 w b h => by
    have := frac_text _ d (Z ++ suffix) (by rw [append_assoc', append_assoc']) (by rw [append_size, append_size, sz1]; omega) hd1 hD (m + L) (zeros_lead hz h48 hX) w b h
    rw [zeros_allz hz h48, zeros_cut hz, hA] at this
    exact this
  have HL : Hid (IsLead d d.size) := hL
  have t0 : ((d.size : Int) == (d.size : Int)) = true := by simp
  have d1 : decide ((131072 : Int) < (d.size : Int)) = false := by simp; omega
  have d2 : decide ((131072 : Int) < (suffix.size : Int)) = false := by simp; omega
  have d3 : decide ((m : Int) < 0) = false := by simp
  have d4 : decide ((d.size : Int) < 1) = false := by simp; omega
  clear hL hX hA hD
  go_enter Try.func8, Try.ntmps8
  go_wp2_with (first | (go_at_call 25; refine (bytes25_yes _ _ _ _ (by omega)).mono ?_; rintro e w ⟨rfl, rfl⟩) | (go_at_call 23; refine (alldig d _ d.size true (by omega) HL.out t0).mono ?_; rintro e w ⟨rfl, rfl⟩))
  refine (zz_frac _ true A (cutAt suffix L) true _ H1).mono ?_
  rintro e w1 ⟨rfl, hb1⟩
  go_wp2_with fail
  refine (zeros_any m _ hm).mono ?_
  rintro e w2 ⟨Z, rfl, hz, h48, hb2⟩
  have HZ : Hid (Z.size = m ∧ ∀ j, j < m → byt Z j = 48) := ⟨hz, h48⟩
  have hzm : Z.size ≤ 65536 := by omega
  have sz2 : ((⟨#[46]⟩ : ByteArray) ++ d ++ Z).size ≤ 1048576 := by rw [append_size, append_size]; have : (⟨#[46]⟩ : ByteArray).size = 1 := rfl; omega
  have HB2 : Hid (Below w.heap.size w w2) := hb1.trans (hb2.mono hb1.size)
  clear hz h48 hb1 hb2
  go_wp2_with fail
  refine (zz_frac _ true A (cutAt suffix L) true _ (H2.out Z HZ.out.1 HZ.out.2)).mono ?_
  rintro e w3 ⟨rfl, hb3⟩
  have HB3 : Hid (Below w.heap.size w w3) := HB2.out.trans (hb3.mono HB2.out.size)
  clear hb3
  go_wp2
  go_ret
  exact ⟨rfl, HB3.out⟩

/-- The ways out ahead of the law's own work. -/
theorem trail_early (d suffix : ByteArray) (m : Int) (w : World) (h : ¬ (d.size ≤ 131072 ∧ suffix.size ≤ 131072 ∧ 0 ≤ m ∧ m ≤ 65536 ∧ 1 ≤ d.size ∧ IsLead d d.size)) :
    Calls Try.prog 8 #[.string d, .int .i64 m, .string suffix] w fun e w' => e = .returned (.bool true) ∧ w' = w := by
  by_cases h0 : d.size + suffix.size ≤ 1048576
  case neg =>
    clear h
    go_enter Try.func8, Try.ntmps8
    go_wp2_with (go_at_call 25; refine (bytes25_no _ _ _ _ h0).mono ?_; rintro e w ⟨rfl, rfl⟩)
    go_ret
    exact ⟨rfl, rfl⟩
  by_cases h1 : d.size ≤ 131072
  case neg =>
    clear h
    go_enter Try.func8, Try.ntmps8
    go_wp2_with (go_at_call 25; refine (bytes25_yes _ _ _ _ h0).mono ?_; rintro e w ⟨rfl, rfl⟩)
    go_ret
    exact ⟨rfl, rfl⟩
  by_cases h2 : suffix.size ≤ 131072
  case neg =>
    clear h
    go_enter Try.func8, Try.ntmps8
    go_wp2_with (go_at_call 25; refine (bytes25_yes _ _ _ _ h0).mono ?_; rintro e w ⟨rfl, rfl⟩)
    go_ret
    exact ⟨rfl, rfl⟩
  by_cases h3 : 0 ≤ m
  case neg =>
    have d3 : decide (m < 0) = true := by simp; omega
    clear h
    go_enter Try.func8, Try.ntmps8
    go_wp2_with (go_at_call 25; refine (bytes25_yes _ _ _ _ h0).mono ?_; rintro e w ⟨rfl, rfl⟩)
    go_ret
    exact ⟨rfl, rfl⟩
  have d3 : decide (m < 0) = false := by simp; omega
  by_cases h4 : m ≤ 65536
  case neg =>
    clear h
    go_enter Try.func8, Try.ntmps8
    go_wp2_with (go_at_call 25; refine (bytes25_yes _ _ _ _ h0).mono ?_; rintro e w ⟨rfl, rfl⟩)
    go_ret
    exact ⟨rfl, rfl⟩
  by_cases h5 : 1 ≤ d.size
  case neg =>
    have d5 : decide ((d.size : Int) < 1) = true := by simp; omega
    clear h
    go_enter Try.func8, Try.ntmps8
    go_wp2_with (go_at_call 25; refine (bytes25_yes _ _ _ _ h0).mono ?_; rintro e w ⟨rfl, rfl⟩)
    go_ret
    exact ⟨rfl, rfl⟩
  have d5 : decide ((d.size : Int) < 1) = false := by simp; omega
  obtain ⟨L, hL⟩ := lead_ex d
  have h6 : ¬ L = d.size := fun e => h ⟨h1, h2, h3, h4, h5, e ▸ hL⟩
  have t0 : ((L : Int) == (d.size : Int)) = false := by rw [beq_eq_false_iff_ne]; omega
  have HL : Hid (IsLead d L) := hL
  clear h h6 hL
  go_enter Try.func8, Try.ntmps8
  go_wp2_with (first | (go_at_call 25; refine (bytes25_yes _ _ _ _ h0).mono ?_; rintro e w ⟨rfl, rfl⟩) | (go_at_call 23; refine (alldig d _ L false (by omega) HL.out t0).mono ?_; rintro e w ⟨rfl, rfl⟩))
  go_ret
  exact ⟨rfl, rfl⟩

end Go.Proofs.Qxb6600492a
