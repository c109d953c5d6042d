/-
  FnAppendStringSplitsAtEveryByte: the walk.
-/
import Derived.Test.Qxb6605240aApp
import Derived.Test.Qxb6605240aRead
namespace Go.Proofs.Qxb6605240a
open Go.RowKit Plain

theorem app_at (B : Nat) (v : Value) (xs : List Int) (s : ByteArray) (w : World) (ys : List Int) (hy : ys = xs ++ quo (sb s)) (hs : s.size ≤ 1048576) (hx : xs.length ≤ 1073741824) (hB : B ≤ w.heap.size) (hd : Dst B w v xs) :
    Calls Try.prog 8 #[v, .string s] w fun e w' => ∃ b off cap, e = .returned (.slice (some ⟨b, off, none⟩) ys.length cap) ∧ HasAt w' b off ys ∧ Below B w w' := by
  subst hy
  refine (app_quo B v xs s w hs hx hB hd).mono ?_
  rintro e w' ⟨v', rfl, h1, h2⟩
  obtain ⟨ao, cap, rfl, _, hh | ⟨b, off, rfl, hc⟩, _, _⟩ := h1.has
  · exact absurd (congrArg List.length hh) (by simp [quo])
  · exact ⟨b, off, cap, rfl, hc, h2⟩

theorem cuts (xs : List Int) (s : ByteArray) (k : Nat) (W L R : List Int) (hW : W = xs ++ quo (sb s)) (hL : L = [] ++ quo (sb (s.extract 0 k))) (hR : R = [] ++ quo (sb (s.extract k s.size))) :
    W.length + 2 = xs.length + L.length + R.length ∧ 2 ≤ L.length ∧ (∀ j, j < xs.length → nth W j = nth xs j) ∧ (∀ j, j + 1 < L.length → nth W (xs.length + j) = nth L j) ∧
    (∀ j, nth W (xs.length + (L.length - 1) + j) = nth R (j + 1)) ∧ nth L 0 = 34 ∧ nth L (L.length - 1) = 34 ∧ nth R 0 = 34 ∧ nth R (R.length - 1) = 34 := by
  rw [List.nil_append] at hL hR
  subst hW; subst hL; subst hR
  rw [← sb_cut s k]
  exact ⟨cut_length _ _ _, by rw [quo_length]; omega, fun j hj => cut_first _ _ j hj, fun j hj => cut_second _ _ _ j hj, fun j => cut_third _ _ _ j, quo_first _, quo_last _, quo_first _, quo_last _⟩

theorem quo_bound (s : ByteArray) : 2 ≤ (quo (sb s)).length ∧ (quo (sb s)).length ≤ 6 * s.size + 2 := by
  have h := body_length (sb s)
  rw [sb_length] at h
  rw [quo_length]; omega

set_option maxHeartbeats 2000000 in
theorem split_some (a : Addr) (cap : Nat) (xs : List Int) (s : ByteArray) (k : Nat) (w : World) (hx : Has w (some a) xs) (hl : xs.length ≤ 65536)
    (hs : s.size ≤ 65536) (hk : k ≤ s.size) :
    Calls Try.prog 4 #[.slice (some a) xs.length cap, .string s, .int .i64 k] w fun e w' => e = .returned (.bool true) ∧ Below w.heap.size w w' := by
  obtain ⟨W, HW⟩ : ∃ W, Hid (W = xs ++ quo (sb s)) := ⟨xs ++ quo (sb s), rfl⟩
  obtain ⟨L, HL⟩ : ∃ L, Hid (L = [] ++ quo (sb (s.extract 0 k))) := ⟨[] ++ quo (sb (s.extract 0 k)), rfl⟩
  obtain ⟨R, HR⟩ : ∃ R, Hid (R = [] ++ quo (sb (s.extract k s.size))) := ⟨[] ++ quo (sb (s.extract k s.size)), rfl⟩
  have F := cuts xs s k W L R HW.out HL.out HR.out
  obtain ⟨f1, f2, f3, f4, f5, f6, f7, f8, f9⟩ := F
  have FX : Hid (∀ j, j < (xs.length : Nat) → nth W j = nth xs j) := f3
  have FL : Hid (∀ j, j + 1 < L.length → nth W (xs.length + j) = nth L j) := f4
  have FR : Hid (∀ j, nth W (xs.length + (L.length - 1) + j) = nth R (j + 1)) := f5
  have G1 : Hid (nth L 0 = 34 ∧ nth L (L.length - 1) = 34 ∧ nth R 0 = 34 ∧ nth R (R.length - 1) = 34) := ⟨f6, f7, f8, f9⟩
  have hlL : 2 ≤ L.length ∧ L.length ≤ 524288 ∧ 2 ≤ R.length ∧ R.length ≤ 524288 := by
    have l1 := HL.out; have r1 := HR.out
    have := quo_bound (s.extract 0 k); have := quo_bound (s.extract k s.size)
    have e1 : (s.extract 0 k).size ≤ 65536 := by simp; omega
    have e2 : (s.extract k s.size).size ≤ 65536 := by simp; omega
    rw [l1, r1, List.nil_append, List.nil_append]; omega
  have hne : ((W.length : Int) != (xs.length : Int) + (L.length : Int) + (R.length : Int) - 2) = false := by
    rw [bne_eq_false_iff_eq]; omega
  obtain ⟨q1, q2, q3, q4⟩ := hlL
  have hW1 : W.length + 2 ≤ xs.length + L.length + R.length := by omega
  have hW2 : xs.length + L.length + R.length ≤ W.length + 2 := by omega
  clear f1 f2 f3 f4 f5 f6 f7 f8 f9
  have d1 : decide ((65536 : Int) < (xs.length : Int)) = false := by simp; omega
  have d2 : decide ((65536 : Int) < (s.size : Int)) = false := by simp; omega
  have d3 : decide ((k : Int) < 0) = false := by simp
  go_enter Try.func4, Try.ntmps4
  go_wp2_with (go_at_call 12; refine (bytes12_yes _ _ _ _ _ _ (by omega)).mono ?_; rintro e w ⟨rfl, rfl⟩)
  refine (clone_some w a cap xs (by omega) hx).mono ?_
  rintro e w1 ⟨g, rfl, hx1, hb1⟩
  clear hx
  go_wp2_with fail
  refine (app_at w1.heap.size _ xs s w1 W HW.out (by omega) (by omega) (Nat.le_refl _) (hx1.has.dst (fun h => by cases h))).mono ?_
  rintro e w2 ⟨bW, oW, cW, rfl, hcW, hb2⟩
  go_wp2_with fail
  refine (app_at w2.heap.size _ [] (s.extract 0 k) w2 L HL.out (by simp; omega) (by simp) (Nat.le_refl _) (Dst.nil _ _)).mono ?_
  rintro e w3 ⟨bL, oL, cL, rfl, hcL, hb3⟩
  go_wp2_with fail
  refine (app_at w3.heap.size _ [] (s.extract k s.size) w3 R HR.out (by simp; omega) (by simp) (Nat.le_refl _) (Dst.nil _ _)).mono ?_
  rintro e w4 ⟨bR, oR, cR, rfl, hcR, hb4⟩
  have B34 : Below w3.heap.size w3 w4 := hb4
  have B24 : Below w2.heap.size w2 w4 := hb3.trans (hb4.mono hb3.size)
  have B14 : Below w1.heap.size w1 w4 := hb2.trans (B24.mono hb2.size)
  have B04 : Below w.heap.size w w4 := hb1.trans (B14.mono hb1.size)
  have HB : Hid (Below w.heap.size w w4) := B04
  have hW4 : HasAt w4 bW oW W := hcW.later B24
  have hL4 : HasAt w4 bL oL L := hcL.later hb4
  have hx4 : HasAt w4 g 0 xs := hx1.later B14
  clear hx1
  clear hcW hcL hb1 hb2 hb3 hb4 B34 B24 B14 B04
  go_wp2_with fail
  refine (quoted_yes w4 bL oL L.length cL q1 (by omega) ?_ ?_).mono ?_
  · have := hL4 0 (by omega); rw [G1.out.1] at this; simpa using this
  · have := hL4 (L.length - 1) (by omega); rw [G1.out.2.1] at this; exact this
  rintro e w4 ⟨rfl, rfl⟩
  go_wp2_with fail
  refine (quoted_yes w4 bR oR R.length cR q3 (by omega) ?_ ?_).mono ?_
  · have := hcR 0 (by omega); rw [G1.out.2.2.1] at this; simpa using this
  · have := hcR (R.length - 1) (by omega); rw [G1.out.2.2.2] at this; exact this
  rintro e w4 ⟨rfl, rfl⟩
  go_wp2
  go_loopw [10, 11] (fun p i wr => ∃ j : Nat, j ≤ xs.length ∧ p = .int .i64 j ∧ i = .int .i64 j ∧ Below w4.heap.size w4 wr) (fun _ i _ => xs.length - (intOf i).toNat)
  case atStart => exact ⟨0, Nat.zero_le _, rfl, rfl, Below.refl _ _⟩
  case round =>
    obtain ⟨j, hj, rfl, rfl, hnx⟩ := hrel
    by_cases hlt : j < xs.length
    · have c1 := (hW4.later hnx) j (by omega)
      have c2 := (hx4.later hnx) j hlt
      rw [Nat.zero_add] at c2
      have t1 : (nth W j != nth xs j) = false := by rw [FX.out j hlt]; simp
      have i1 : (j : Int) < (W.length : Int) := by omega
      have i2 : (j : Int) < (xs.length : Int) := by omega
      go_wp2
      go_quiet (fail)
      go_wp2
      go_roundw
      case rel => exact ⟨j + 1, by omega, by go_num, by go_num, below_drewN hnx _⟩
      case measure => simp [intOf]; omega
    · obtain rfl : j = xs.length := by omega
      have HN1 : Hid (Below w4.heap.size w4 wr) := hnx
      clear hnx
      go_wp2
      go_loopw [10, 12] (fun p i wr => ∃ j q : Nat, q = xs.length + j ∧ j + 1 ≤ L.length ∧ p = .int .i64 q ∧ i = .int .i64 j ∧ Below w4.heap.size w4 wr) (fun _ i _ => L.length - (intOf i).toNat)
      case atStart => exact ⟨0, xs.length, rfl, by omega, rfl, rfl, HN1.out⟩
      case round =>
        obtain ⟨j, q, hq, hj, rfl, rfl, hnx⟩ := hrel
        have HQ : Hid (q = xs.length + j) := hq
        have hq1 : q ≤ xs.length + j := by omega
        have hq2 : xs.length + j ≤ q := by omega
        clear hq
        by_cases hlt2 : j + 1 < L.length
        · have c1 := (hW4.later hnx) q (by omega)
          have c2 := (hL4.later hnx) j (by omega)
          have t1 : (nth W q != nth L j) = false := by rw [HQ.out, FL.out j hlt2]; simp
          have i1 : (q : Int) < (W.length : Int) := by omega
          have i2 : (j : Int) < (L.length : Int) := by omega
          go_wp2
          go_quiet (fail)
          go_wp2
          go_roundw
          case rel => exact ⟨j + 1, q + 1, by omega, by omega, by go_num, by go_num, below_drewN hnx _⟩
          case measure => simp [intOf]; omega
        · have HN2 : Hid (Below w4.heap.size w4 wr) := hnx
          clear hnx HN1
          have hq3 : q + 1 ≤ xs.length + L.length := by omega
          have hq4 : xs.length + L.length ≤ q + 1 := by omega
          clear HQ
          go_wp2
          go_loopw [10, 13] (fun p i wr => ∃ j q : Nat, q + 2 = xs.length + L.length + j ∧ 1 ≤ j ∧ j ≤ R.length ∧ p = .int .i64 q ∧ i = .int .i64 j ∧ Below w4.heap.size w4 wr) (fun _ i _ => R.length - (intOf i).toNat)
          case atStart => exact ⟨1, q, by omega, by omega, by omega, rfl, rfl, HN2.out⟩
          case round =>
            obtain ⟨j, q, hq, hj1, hj2, rfl, rfl, hnx⟩ := hrel
            have HQ : Hid (q = xs.length + (L.length - 1) + (j - 1)) := show q = _ by omega
            have hq5 : q + 2 ≤ xs.length + L.length + j := by omega
            clear hq
            by_cases hlt3 : j < R.length
            · have c1 := (hW4.later hnx) q (by omega)
              have c2 := (HasAt.later hcR hnx) j (by omega)
              have t1 : (nth W q != nth R j) = false := by rw [HQ.out, FR.out (j - 1), show j - 1 + 1 = j from by omega]; simp
              have i1 : (q : Int) < (W.length : Int) := by omega
              have i2 : (j : Int) < (R.length : Int) := by omega
              go_wp2
              go_quiet (fail)
              go_wp2
              go_roundw
              case rel => exact ⟨j + 1, q + 1, by have := HQ.out; omega, by omega, by omega, by go_num, by go_num, below_drewN hnx _⟩
              case measure => simp [intOf]; omega
            · go_wp2
              go_ret
              exact ⟨rfl, HB.out.trans (hnx.mono HB.out.size)⟩

end Go.Proofs.Qxb6605240a
