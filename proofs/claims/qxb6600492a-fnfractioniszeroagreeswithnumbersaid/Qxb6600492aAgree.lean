/-
  FnFractionIsZeroAgreesWithNumber: the walk.
-/
import Derived.Test.Qxb6600492aTrail
namespace Go.Proofs.Qxb6600492a
open Go.RowKit Plain

theorem inR_zero (v : Int) : inR 0 0 v = (v == 0) := by
  unfold inR
  rw [Bool.eq_iff_iff, Bool.and_eq_true, decide_eq_true_eq, decide_eq_true_eq, beq_iff_eq]
  omega

set_option maxHeartbeats 1000000 in
theorem agree (d suffix : ByteArray) (w : World) (hd1 : 1 ≤ d.size) (hd2 : d.size ≤ 18) (hs : suffix.size ≤ 524288) (hL : IsLead d d.size) (hX : 0 < suffix.size → ¬ isD (byt suffix 0)) :
    Calls Try.prog 7 #[.string d, .string suffix] w fun e w' => e = .returned (.bool true) ∧ Below w.heap.size w w' := by
  have hD := alldig_of hL rfl
  have hX0 : IsLead suffix 0 := ⟨Nat.zero_le _, fun j hj => by omega, hX⟩
  have sz1 : ((⟨#[46]⟩ : ByteArray) ++ d).size = 1 + d.size := by rw [append_size]; rfl
  obtain ⟨V, hV⟩ : ∃ V, val d d.size = V := ⟨_, rfl⟩
  obtain ⟨A, hA⟩ : ∃ A, allz d d.size = A := ⟨_, rfl⟩
  have hVA : (V == 0) = A := by rw [← hV, ← hA]; exact val_zero_iff d d.size hD
  have H1 : Hid (∀ w b, St w b ((⟨#[46]⟩ : ByteArray) ++ d ++ suffix) true → Calls Try.prog 31 #[.pointer (some ⟨b, 0, none⟩)] w fun e w' => e = .returned (.bool A) ∧ St w' b suffix true ∧ Below b w w') := fun w b h => by
    have := frac_text _ d suffix (append_assoc' _ _ _) (by rw [append_size, sz1]; omega) hd1 hD 0 hX0 w b h
    rw [hA, cutAt_zero, show allz suffix 0 = true from rfl, Bool.and_true] at this
    exact this
  have H2 : Hid (∀ w b, St w b (d ++ suffix) true → Calls Try.prog 29 #[.pointer (some ⟨b, 0, none⟩), .int .i64 d.size, .int .i64 0, .int .i64 0] w fun e w' => e = .returned (.int .i64 V) ∧ St w' b suffix A ∧ Below b w w') := fun w b h => by
    obtain ⟨L, hL2⟩ := lead_ex (d ++ suffix)
    have hnL : d.size ≤ L := lead_ge hL2 (by rw [append_size]; omega) (fun j hj => by rw [byt_left hj]; exact hD j hj)
    have := number_ok w b (d ++ suffix) d.size 0 0 L h hL2 (by omega) (by omega)
    rw [Int.toNat_natCast, val_congr d.size (fun j hj => byt_left hj), hV, inR_zero, hVA, cutAt_append] at this
    exact this
  have HL : Hid (IsLead d d.size) := hL
  have t0 : ((d.size : Int) == (d.size : Int)) = true := by simp
  have d1 : decide ((18 : Int) < (d.size : Int)) = false := by simp; omega
  have d2 : decide ((524288 : Int) < (suffix.size : Int)) = false := by simp; omega
  have d4 : decide ((d.size : Int) < 1) = false := by simp; omega
  have HX : Hid (0 < suffix.size → ¬ isD (byt suffix 0)) := hX
  clear hL hX hA hD hX0 hV
  by_cases hs0 : 0 < suffix.size
  · have hE := empty_no hs0
    have HN : Hid (¬ isD ((suffix[0].toNat : Nat) : Int)) := show ¬ _ by rw [← byt_at hs0]; exact HX.out hs0
    go_enter Try.func7, Try.ntmps7
    go_wp2_with (first | (go_at_call 22; refine (bytes22_yes _ _ _ (by omega)).mono ?_; rintro e w ⟨rfl, rfl⟩) | (go_at_call 23; refine (alldig d _ d.size true (by omega) HL.out t0).mono ?_; rintro e w ⟨rfl, rfl⟩) | (go_at_call 24; refine (isdig_no _ _ HN.out).mono ?_; rintro e w ⟨rfl, rfl⟩))
    refine (zz_frac _ true A suffix true _ H1).mono ?_
    rintro e w1 ⟨rfl, hb1⟩
    go_wp2_with fail
    refine (zz_number _ true _ 0 0 V suffix A _ H2).mono ?_
    rintro e w2 ⟨rfl, hb2⟩
    have HB : Hid (Below w.heap.size w w2) := hb1.trans (hb2.mono hb1.size)
    clear hb1 hb2
    cases A with
    | true =>
      go_wp2
      go_ret
      exact ⟨rfl, HB.out⟩
    | false =>
      go_wp2
      go_ret
      exact ⟨rfl, HB.out⟩
  · have hE := empty_yes (s := suffix) (by omega)
    go_enter Try.func7, Try.ntmps7
    go_wp2_with (first | (go_at_call 22; refine (bytes22_yes _ _ _ (by omega)).mono ?_; rintro e w ⟨rfl, rfl⟩) | (go_at_call 23; refine (alldig d _ d.size true (by omega) HL.out t0).mono ?_; rintro e w ⟨rfl, rfl⟩))
    refine (zz_frac _ true A suffix true _ H1).mono ?_
    rintro e w1 ⟨rfl, hb1⟩
    go_wp2_with fail
    refine (zz_number _ true _ 0 0 V suffix A _ H2).mono ?_
    rintro e w2 ⟨rfl, hb2⟩
    have HB : Hid (Below w.heap.size w w2) := hb1.trans (hb2.mono hb1.size)
    clear hb1 hb2
    cases A with
    | true =>
      go_wp2
      go_ret
      exact ⟨rfl, HB.out⟩
    | false =>
      go_wp2
      go_ret
      exact ⟨rfl, HB.out⟩

/-- The ways out ahead of the law's own work. -/
theorem agree_early (d suffix : ByteArray) (w : World) (h : ¬ (d.size ≤ 18 ∧ suffix.size ≤ 524288 ∧ 1 ≤ d.size ∧ IsLead d d.size ∧ (0 < suffix.size → ¬ isD (byt suffix 0)))) :
    Calls Try.prog 7 #[.string d, .string suffix] w fun e w' => e = .returned (.bool true) ∧ w' = w := by
  by_cases h0 : d.size + suffix.size ≤ 1048576
  case neg =>
    clear h
    go_enter Try.func7, Try.ntmps7
    go_wp2_with (go_at_call 22; refine (bytes22_no _ _ _ h0).mono ?_; rintro e w ⟨rfl, rfl⟩)
    go_ret
    exact ⟨rfl, rfl⟩
  by_cases h1 : d.size ≤ 18
  case neg =>
    clear h
    go_enter Try.func7, Try.ntmps7
    go_wp2_with (go_at_call 22; refine (bytes22_yes _ _ _ h0).mono ?_; rintro e w ⟨rfl, rfl⟩)
    go_ret
    exact ⟨rfl, rfl⟩
  by_cases h2 : suffix.size ≤ 524288
  case neg =>
    clear h
    go_enter Try.func7, Try.ntmps7
    go_wp2_with (go_at_call 22; refine (bytes22_yes _ _ _ h0).mono ?_; rintro e w ⟨rfl, rfl⟩)
    go_ret
    exact ⟨rfl, rfl⟩
  by_cases h5 : 1 ≤ d.size
  case neg =>
    have d5 : decide ((d.size : Int) < 1) = true := by simp; omega
    clear h
    go_enter Try.func7, Try.ntmps7
    go_wp2_with (go_at_call 22; refine (bytes22_yes _ _ _ h0).mono ?_; rintro e w ⟨rfl, rfl⟩)
    go_ret
    exact ⟨rfl, rfl⟩
  have d5 : decide ((d.size : Int) < 1) = false := by simp; omega
  obtain ⟨L, hL⟩ := lead_ex d
  by_cases h6 : L = d.size
  case neg =>
    have t0 : ((L : Int) == (d.size : Int)) = false := by rw [beq_eq_false_iff_ne]; omega
    have HL : Hid (IsLead d L) := hL
    clear h h6 hL
    go_enter Try.func7, Try.ntmps7
    go_wp2_with (first | (go_at_call 22; refine (bytes22_yes _ _ _ h0).mono ?_; rintro e w ⟨rfl, rfl⟩) | (go_at_call 23; refine (alldig d _ L false (by omega) HL.out t0).mono ?_; rintro e w ⟨rfl, rfl⟩))
    go_ret
    exact ⟨rfl, rfl⟩
  subst h6
  have hx : ¬ (0 < suffix.size → ¬ isD (byt suffix 0)) := fun hx => h ⟨h1, h2, h5, hL, hx⟩
  have hs0 : 0 < suffix.size := by
    by_cases e : 0 < suffix.size
    · exact e
    · exact absurd (fun e2 => absurd e2 e) hx
  have hdg : isD (byt suffix 0) := by
    by_cases e : isD (byt suffix 0)
    · exact e
    · exact absurd (fun _ => e) hx
  have hE := empty_no hs0
  have HN : Hid (isD ((suffix[0].toNat : Nat) : Int)) := show isD _ by rw [← byt_at hs0]; exact hdg
  have t0 : ((d.size : Int) == (d.size : Int)) = true := by simp
  have HL : Hid (IsLead d d.size) := hL
  clear h hL hx hdg
  go_enter Try.func7, Try.ntmps7
  go_wp2_with (first | (go_at_call 22; refine (bytes22_yes _ _ _ h0).mono ?_; rintro e w ⟨rfl, rfl⟩) | (go_at_call 23; refine (alldig d _ d.size true (by omega) HL.out t0).mono ?_; rintro e w ⟨rfl, rfl⟩) | (go_at_call 24; refine (isdig_yes _ _ HN.out).mono ?_; rintro e w ⟨rfl, rfl⟩))
  go_ret
  exact ⟨rfl, rfl⟩

end Go.Proofs.Qxb6600492a
