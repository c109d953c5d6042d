/-
  FnAppendStringDecodesBackAsCanonicalJSONString: the walk.
-/
import Derived.Test.Qxb6605240aBackReads
import Derived.Test.Qxb6605240aDecWalk
namespace Go.Proofs.Qxb6605240a
open Go.RowKit Plain

theorem app_cap (B : Nat) (v : Value) (xs : List Int) (s : ByteArray) (w : World) (ys : List Int) (hy : ys = xs ++ quo (sb s)) (hs : s.size ≤ 1048576) (hx : xs.length ≤ 1073741824) (hB : B ≤ w.heap.size) (hd : Dst B w v xs) :
    Calls Try.prog 8 #[v, .string s] w fun e w' => ∃ b off cap, e = .returned (.slice (some ⟨b, off, none⟩) ys.length cap) ∧ HasAt w' b off ys ∧ (ys.length ≤ cap ∧ cap ≤ maxLen) ∧ Below B w w' := by
  subst hy
  refine (app_quo B v xs s w hs hx hB hd).mono ?_
  rintro e w' ⟨v', rfl, h1, h2⟩
  obtain ⟨ao, cap, rfl, _, hh | ⟨b, off, rfl, hc⟩, h3, h4⟩ := h1.has
  · exact absurd (congrArg List.length hh) (by simp [quo])
  · exact ⟨b, off, cap, rfl, hc, ⟨h3, h4⟩, h2⟩

theorem dec_yes (w : World) (b off cap : Nat) (xs ys : List Int) (hl : xs.length ≤ 1073741824) (hx : HasAt w b off xs) (h : decod xs = some ys) :
    Calls Try.prog 10 #[.slice (some ⟨b, off, none⟩) xs.length cap] w fun e w' => ∃ ao c, e = .returned (.tuple #[.slice ao ys.length c, .bool true]) ∧ Has w' ao ys ∧ Below w.heap.size w w' := by
  refine (dec_at w b off cap xs hl hx).mono ?_
  rintro e w' (⟨h1, _, _⟩ | ⟨zs, v, h1, rfl, h2, h3⟩)
  · rw [h] at h1; cases h1
  · rw [h] at h1
    cases h1
    obtain ⟨ao, c, rfl, _, h4, _, _⟩ := h2.has
    exact ⟨ao, c, rfl, h4, h3⟩

theorem backs (xs : List Int) (s : ByteArray) (W Y : List Int) (hW : W = xs ++ quo (sb s)) (hY : Y = body (sb s)) :
    W.length = xs.length + Y.length + 2 ∧ (∀ j, j < xs.length → nth W j = nth xs j) ∧ (∀ j, j < Y.length → nth W (xs.length + 1 + j) = nth Y j) ∧ nth W xs.length = 34 ∧ nth W (W.length - 1) = 34 := by
  subst hW; subst hY
  have e : ∀ j, nth (xs ++ quo (sb s)) (xs.length + j) = nth (quo (sb s)) j := fun j => by rw [nth_right (by omega), Nat.add_sub_cancel_left]
  refine ⟨by rw [List.length_append, quo_length]; omega, fun j hj => nth_left hj, fun j hj => ?_, ?_, ?_⟩
  · rw [Nat.add_assoc, e, Nat.add_comm 1 j]; unfold quo; rw [nth_cons, nth_left hj]
  · have := e 0; rw [Nat.add_zero] at this; rw [this, quo_first]
  · have h := quo_last (sb s)
    have hl := quo_length (sb s)
    have := e ((quo (sb s)).length - 1)
    rw [h] at this
    rw [← this]
    congr 1
    rw [List.length_append]; omega

set_option maxHeartbeats 1000000 in
theorem back_some (a : Addr) (cap : Nat) (xs : List Int) (s : ByteArray) (w : World) (hx : Has w (some a) xs) (hl : xs.length ≤ 65536) (hs : s.size ≤ 65536) :
    Calls Try.prog 3 #[.slice (some a) xs.length cap, .string s] w fun e w' => e = .returned (.bool true) ∧ Below w.heap.size w w' := by
  obtain ⟨W, HW⟩ : ∃ W, Hid (W = xs ++ quo (sb s)) := ⟨xs ++ quo (sb s), rfl⟩
  obtain ⟨Y, HY⟩ : ∃ Y, Hid (Y = body (sb s)) := ⟨body (sb s), rfl⟩
  obtain ⟨f1, f2, f3, f4, f5⟩ := backs xs s W Y HW.out HY.out
  have FX : Hid (∀ j, j < (xs.length : Nat) → nth W j = nth xs j) := f2
  have FY : Hid (∀ j, j < Y.length → nth W (xs.length + 1 + j) = nth Y j) := f3
  have GA : Hid (nth W (xs.length) = 34) := f4
  have GB : Hid (nth W (W.length - 1) = 34) := f5
  have HD : Hid (decod Y = some (sb s)) := show decod Y = _ by rw [HY.out]; exact decod_body _ (fun c hc => (sb_bounds s c hc).1)
  have hy1 : Y.length ≤ 393216 := by
    have := (body_length (sb s)).2; rw [sb_length] at this; rw [HY.out]; omega
  have hW1 : W.length ≤ xs.length + Y.length + 2 := by omega
  have hW2 : xs.length + Y.length + 2 ≤ W.length := by omega
  clear f1 f2 f3 f4 f5
  have d1 : decide ((65536 : Int) < (xs.length : Int)) = false := by simp; omega
  have d2 : decide ((65536 : Int) < (s.size : Int)) = false := by simp; omega
  go_enter Try.func3, Try.ntmps3
  go_wp2_with (go_at_call 6; refine (bytes6_yes _ _ _ _ _ (by omega)).mono ?_; rintro e w ⟨rfl, rfl⟩)
  refine (clone_some w a cap xs (by omega) hx).mono ?_
  rintro e w1 ⟨g, rfl, hx1, hb1⟩
  clear hx
  go_wp2_with fail
  refine (app_cap w1.heap.size _ xs s w1 W HW.out (by omega) (by omega) (Nat.le_refl _) (hx1.has.dst (fun h => by cases h))).mono ?_
  rintro e w2 ⟨bW, oW, cW, rfl, hcW, hcap, hb2⟩
  unfold maxLen at hcap
  have B02 : Below w.heap.size w w2 := hb1.trans (hb2.mono hb1.size)
  have HB2 : Hid (Below w.heap.size w w2) := B02
  have hx2 : HasAt w2 g 0 xs := hx1.later hb2
  clear hx1
  clear hb1 hb2 B02
  go_wp2_with fail
  refine (prefix_any w2 bW oW cW _ _ W xs hcW hx2.has (by omega) (by omega) FX.out).mono ?_
  rintro e w3 ⟨rfl, hb3⟩
  have hW3 : HasAt w3 bW oW W := hcW.later hb3
  have ca : w3.cell? ⟨bW, oW + xs.length, none⟩ = some (.int .u8 34) := by have := hW3 (xs.length) (by omega); rw [GA.out] at this; exact this
  have cb : w3.cell? ⟨bW, oW + (W.length - 1), none⟩ = some (.int .u8 34) := by have := hW3 (W.length - 1) (by omega); rw [GB.out] at this; exact this
  have hY3 : HasAt w3 bW (oW + (xs.length + 1)) Y := fun j hj => by
    have := hW3 (xs.length + 1 + j) (by omega)
    rw [FY.out j hj] at this
    rw [Nat.add_assoc]; exact this
  have i1 : (xs.length : Int) < (W.length : Int) := by omega
  have HB3 : Hid (Below w.heap.size w w3) := HB2.out.trans (hb3.mono HB2.out.size)
  clear hW3 hcW hb3
  go_wp2_with fail
  rw [show W.length - 1 - (xs.length + 1) = Y.length from by omega]
  refine (dec_yes w3 bW _ _ Y (sb s) (by omega) hY3 HD.out).mono ?_
  rintro e w4 ⟨a4, c4, rfl, hs4, hb4⟩
  have HB4 : Hid (Below w.heap.size w w4) := HB3.out.trans (hb4.mono HB3.out.size)
  clear hb4
  go_wp2_with fail
  refine (eqs_any w4 a4 c4 s (by omega) hs4).mono ?_
  rintro e w5 ⟨rfl, hb5⟩
  go_wp2
  go_ret
  exact ⟨rfl, HB4.out.trans (hb5.mono HB4.out.size)⟩

set_option maxHeartbeats 1000000 in
theorem back_nil (cap : Nat) (s : ByteArray) (w : World) (hs : s.size ≤ 65536) :
    Calls Try.prog 3 #[.slice none 0 cap, .string s] w fun e w' => e = .returned (.bool true) ∧ Below w.heap.size w w' := by
  obtain ⟨W, HW⟩ : ∃ W, Hid (W = [] ++ quo (sb s)) := ⟨[] ++ quo (sb s), rfl⟩
  obtain ⟨Y, HY⟩ : ∃ Y, Hid (Y = body (sb s)) := ⟨body (sb s), rfl⟩
  obtain ⟨f1, f2, f3, f4, f5⟩ := backs [] s W Y HW.out HY.out
  have FX : Hid (∀ j, j < (0 : Nat) → nth W j = nth [] j) := f2
  have FY : Hid (∀ j, j < Y.length → nth W (0 + 1 + j) = nth Y j) := f3
  have GA : Hid (nth W (0) = 34) := f4
  have GB : Hid (nth W (W.length - 1) = 34) := f5
  have HD : Hid (decod Y = some (sb s)) := show decod Y = _ by rw [HY.out]; exact decod_body _ (fun c hc => (sb_bounds s c hc).1)
  have hy1 : Y.length ≤ 393216 := by
    have := (body_length (sb s)).2; rw [sb_length] at this; rw [HY.out]; omega
  have hW1 : W.length ≤ 0 + Y.length + 2 := by rw [List.length_nil] at f1; omega
  have hW2 : 0 + Y.length + 2 ≤ W.length := by rw [List.length_nil] at f1; omega
  clear f1 f2 f3 f4 f5
  have d2 : decide ((65536 : Int) < (s.size : Int)) = false := by simp; omega
  go_enter Try.func3, Try.ntmps3
  go_wp2_with (go_at_call 6; refine (bytes6_yes _ _ _ _ _ (by omega)).mono ?_; rintro e w ⟨rfl, rfl⟩)
  refine (clone_nil w cap).mono ?_
  rintro e w1 ⟨rfl, hw⟩
  subst hw
  have hb1 : Below w1.heap.size w1 w1 := Below.refl _ _
  go_wp2_with fail
  refine (app_cap w1.heap.size _ [] s w1 W HW.out (by omega) (by simp) (Nat.le_refl _) (Dst.nil _ _)).mono ?_
  rintro e w2 ⟨bW, oW, cW, rfl, hcW, hcap, hb2⟩
  unfold maxLen at hcap
  have B02 : Below w1.heap.size w1 w2 := hb1.trans (hb2.mono hb1.size)
  have HB2 : Hid (Below w1.heap.size w1 w2) := B02
  skip
  clear hb1 hb2 B02
  go_wp2_with fail
  refine (prefix_any w2 bW oW cW _ _ W [] hcW (.inl rfl) (by simp) (by omega) FX.out).mono ?_
  rintro e w3 ⟨rfl, hb3⟩
  have hW3 : HasAt w3 bW oW W := hcW.later hb3
  have ca : w3.cell? ⟨bW, oW, none⟩ = some (.int .u8 34) := by have := hW3 (0) (by omega); rw [GA.out] at this; exact this
  have cb : w3.cell? ⟨bW, oW + (W.length - 1), none⟩ = some (.int .u8 34) := by have := hW3 (W.length - 1) (by omega); rw [GB.out] at this; exact this
  have hY3 : HasAt w3 bW (oW + (1)) Y := fun j hj => by
    have := hW3 (0 + 1 + j) (by omega)
    rw [FY.out j hj] at this
    rw [Nat.add_assoc]; exact this
  have i1 : (0 : Int) < (W.length : Int) := by omega
  have HB3 : Hid (Below w1.heap.size w1 w3) := HB2.out.trans (hb3.mono HB2.out.size)
  clear hW3 hcW hb3
  go_wp2_with fail
  rw [show W.length - 1 - (1) = Y.length from by omega]
  refine (dec_yes w3 bW _ _ Y (sb s) (by omega) hY3 HD.out).mono ?_
  rintro e w4 ⟨a4, c4, rfl, hs4, hb4⟩
  have HB4 : Hid (Below w1.heap.size w1 w4) := HB3.out.trans (hb4.mono HB3.out.size)
  clear hb4
  go_wp2_with fail
  refine (eqs_any w4 a4 c4 s (by omega) hs4).mono ?_
  rintro e w5 ⟨rfl, hb5⟩
  go_wp2
  go_ret
  exact ⟨rfl, HB4.out.trans (hb5.mono HB4.out.size)⟩


/-- The ways out ahead of the law's own work. -/
theorem back_early (ao : Option Addr) (n cap : Nat) (s : ByteArray) (w : World) (h : ¬ (n ≤ 65536 ∧ s.size ≤ 65536)) :
    Calls Try.prog 3 #[.slice ao n cap, .string s] w fun e w' => e = .returned (.bool true) ∧ w' = w := by
  by_cases h0 : n + s.size ≤ 1048576
  · by_cases h1 : n ≤ 65536
    · have h2 : ¬ s.size ≤ 65536 := fun h2 => h ⟨h1, h2⟩
      go_enter Try.func3, Try.ntmps3
      go_wp2_with (go_at_call 6; refine (bytes6_yes _ _ _ _ _ (by omega)).mono ?_; rintro e w ⟨rfl, rfl⟩)
      go_ret
      exact ⟨rfl, rfl⟩
    · go_enter Try.func3, Try.ntmps3
      go_wp2_with (go_at_call 6; refine (bytes6_yes _ _ _ _ _ (by omega)).mono ?_; rintro e w ⟨rfl, rfl⟩)
      go_ret
      exact ⟨rfl, rfl⟩
  · go_enter Try.func3, Try.ntmps3
    go_wp2_with (go_at_call 6; refine (bytes6_no _ _ _ _ _ h0).mono ?_; rintro e w ⟨rfl, rfl⟩)
    go_ret
    exact ⟨rfl, rfl⟩

end Go.Proofs.Qxb6605240a
