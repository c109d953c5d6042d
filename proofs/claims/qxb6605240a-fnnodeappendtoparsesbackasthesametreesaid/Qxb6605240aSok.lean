/-
  zzScalarTextOK walked: it answers 'sok'.
-/
import Derived.Test.Qxb6605240aSmalls
namespace Go.Proofs.Qxb6605240a
open Go.RowKit Plain

theorem bare_false {c : Int} : bare c = false ↔ c ≤ 32 ∨ c = 34 ∨ c = 92 ∨ c = 91 ∨ c = 93 ∨ c = 123 ∨ c = 125 ∨ c = 44 ∨ c = 58 := by
  unfold bare
  simp only [Bool.not_eq_false', Bool.or_eq_true, decide_eq_true_eq, beq_iff_eq]
  omega
theorem bare_true {c : Int} (h0 : ¬ c ≤ 32) (h1 : ¬ c = 34) (h2 : ¬ c = 92) (h3 : ¬ c = 91) (h4 : ¬ c = 93) (h5 : ¬ c = 123) (h6 : ¬ c = 125) (h7 : ¬ c = 44) (h8 : ¬ c = 58) : bare c = true := by
  rw [← Bool.not_eq_false, bare_false]
  omega

theorem sok_empty {t : List Int} (h : t.length = 0) : sok t = false := by unfold sok; rw [if_pos h]
theorem sok_one {t : List Int} (h : 0 < t.length) (h0 : nth t 0 = 34) (h1 : t.length < 2) : sok t = false := by unfold sok; rw [if_neg (by omega), if_pos h0, if_pos h1]
theorem sok_open {t : List Int} (h0 : nth t 0 = 34) (h1 : 2 ≤ t.length) (h2 : ¬ nth t (t.length - 1) = 34) : sok t = false := by unfold sok; rw [if_neg (by omega), if_pos h0, if_neg (by omega), if_neg h2]
theorem sok_str {t : List Int} (h0 : nth t 0 = 34) (h1 : 2 ≤ t.length) (h2 : nth t (t.length - 1) = 34) : sok t = (decod (inside t)).isSome := by unfold sok; rw [if_neg (by omega), if_pos h0, if_neg (by omega), if_pos h2]
theorem sok_bare {t : List Int} (h : 0 < t.length) (h0 : ¬ nth t 0 = 34) : sok t = allTo (fun i => bare (nth t i)) t.length := by unfold sok; rw [if_neg (by omega), if_neg h0]
theorem sok_bad {t : List Int} {j : Nat} (_hA : ∀ i, i < j → bare (nth t i) = true) (hlt : j < t.length) (h0 : ¬ nth t 0 = 34) (hb : bare (nth t j) = false) : sok t = false := by
  rw [sok_bare (by omega) h0, Bool.eq_false_iff]
  intro h
  have := (allTo_iff _ _).1 h j hlt
  rw [hb] at this
  cases this
theorem sok_good {t : List Int} (hA : ∀ i, i < t.length → bare (nth t i) = true) (h : 0 < t.length) (h0 : ¬ nth t 0 = 34) : sok t = true := by
  rw [sok_bare h h0]; exact (allTo_iff _ _).2 hA

theorem inside_length {t : List Int} (h : 2 ≤ t.length) : (inside t).length = t.length - 2 := by
  unfold inside; rw [List.length_take, List.length_drop]; omega
theorem inside_nth {t : List Int} {j : Nat} (h : j < t.length - 2) : nth (inside t) j = nth t (1 + j) := by
  unfold inside nth
  rw [List.getD_eq_getElem?_getD, List.getElem?_take, if_pos h, List.getElem?_drop, List.getD_eq_getElem?_getD]

set_option maxHeartbeats 400000 in
theorem sok_len0 (w : World) (ao : Option Addr) (cap : Nat) : Calls Try.prog 21 #[.slice ao 0 cap] w fun e w' => e = .returned (.bool false) ∧ Below w.heap.size w w' := by
  go_enter Try.func21, Try.ntmps21
  go_wp2
  go_ret
  exact ⟨rfl, Below.refl _ _⟩

set_option maxHeartbeats 1000000 in
theorem sok_quoted (w : World) (b o cap : Nat) (t : List Int) (ht : HasAt w b o t) (hm : t.length ≤ 1048576) (hc : t.length ≤ cap) (hc2 : cap ≤ maxLen) (h0 : 0 < t.length) (hq : nth t 0 = 34) :
    Calls Try.prog 21 #[.slice (some ⟨b, o, none⟩) t.length cap] w fun e w' => e = .returned (.bool (sok t)) ∧ Below w.heap.size w w' := by
  unfold maxLen at hc2
  have tl : ((t.length : Int) == 0) = false := by rw [beq_eq_false_iff_ne]; omega
  have k0 := ht 0 h0
  rw [Nat.add_zero] at k0
  have b0 : (nth t 0 == 34) = true := by simp [hq]
  have H0 : Hid (nth t 0 = 34) := hq
  clear hq
  by_cases h1 : t.length < 2
  · have HF : Hid (sok t = false) := sok_one h0 H0.out h1
    rw [show t.length = 1 from by omega, HF.out]
    clear tl h1 h0 hm hc
    go_enter Try.func21, Try.ntmps21
    go_wp2
    go_ret
    exact ⟨rfl, Below.refl _ _⟩
  · have d1 : decide ((t.length : Int) < 2) = false := by simp; omega
    have k1 := ht (t.length - 1) (by omega)
    have i1 : ((t.length : Int) - 1) < (t.length : Int) := by omega
    by_cases h2 : nth t (t.length - 1) = 34
    · have b1 : (nth t (t.length - 1) != 34) = false := by simp [h2]
      have HS : Hid (sok t = (decod (inside t)).isSome) := sok_str H0.out (by omega) h2
      have HI : Hid (HasAt w b (o + 1) (inside t)) := fun j hj => by
        rw [inside_length (by omega)] at hj
        have := ht (1 + j) (by omega)
        rw [inside_nth hj, Nat.add_assoc]
        exact this
      have hil := inside_length (t := t) (by omega)
      have HIL : Hid ((inside t).length = t.length - 2) := hil
      have hc1 : 1 < cap := by omega
      have h22 : 2 ≤ t.length := by omega
      clear h2 hil
      go_enter Try.func21, Try.ntmps21
      go_wp2_with fail
      rw [show t.length - 1 - 1 = (inside t).length from by rw [HIL.out]; omega]
      refine (dec_at w b (o + 1) _ (inside t) (by rw [HIL.out]; omega) HI.out).mono ?_
      rintro e w1 (⟨g1, rfl, hb1⟩ | ⟨ys, v, g1, rfl, _, hb1⟩)
      · have HG : Hid (sok t = false) := show _ = _ by rw [HS.out, g1]; rfl
        clear g1
        go_wp2
        go_ret
        exact ⟨by rw [HG.out]; rfl, hb1⟩
      · have HG : Hid (sok t = true) := show _ = _ by rw [HS.out, g1]; rfl
        clear g1
        go_wp2
        go_ret
        exact ⟨by rw [HG.out]; rfl, hb1⟩
    · have b1 : (nth t (t.length - 1) != 34) = true := by simp [h2]
      have HF : Hid (sok t = false) := sok_open H0.out (by omega) h2
      clear h2
      go_enter Try.func21, Try.ntmps21
      go_wp2
      go_ret
      exact ⟨by rw [HF.out]; rfl, Below.refl _ _⟩

set_option maxHeartbeats 2000000 in
theorem sok_token (w : World) (b o cap : Nat) (t : List Int) (ht : HasAt w b o t) (hm : t.length ≤ 1048576) (h0 : 0 < t.length) (hq : ¬ nth t 0 = 34) :
    Calls Try.prog 21 #[.slice (some ⟨b, o, none⟩) t.length cap] w fun e w' => e = .returned (.bool (sok t)) ∧ Below w.heap.size w w' := by
  have tl : ((t.length : Int) == 0) = false := by rw [beq_eq_false_iff_ne]; omega
  have k0 := ht 0 h0
  rw [Nat.add_zero] at k0
  have b0 : (nth t 0 == 34) = false := by simpa using hq
  have H0 : Hid (¬ nth t 0 = 34) := hq
  clear hq
  go_enter Try.func21, Try.ntmps21
  go_wp2
  go_loop [5] (fun i => ∃ j : Nat, j ≤ t.length ∧ i = .int .i64 j ∧ Hid (∀ i, i < j → bare (nth t i) = true)) (fun i => t.length - (intOf i).toNat)
  case atStart => exact ⟨0, Nat.zero_le _, rfl, fun i hi => by omega⟩
  case round =>
    obtain ⟨j, hj, rfl, HA⟩ := hrel
    by_cases hlt : j < t.length
    case neg =>
      have hjt : j = t.length := by omega
      subst hjt
      have HF : Hid (sok t = true) := sok_good HA.out h0 H0.out
      go_wp2
      go_ret
      exact ⟨by rw [HF.out]; rfl, Below.refl _ _⟩
    have k1 := ht j hlt
    have i1 : (j : Int) < (t.length : Int) := by omega
    by_cases hlo : nth t j ≤ 32
    case pos =>
      have d0 : decide (nth t j ≤ 32) = true := by simpa using hlo
      have HF : Hid (sok t = false) := sok_bad HA.out hlt H0.out (by rw [bare_false]; exact .inl hlo)
      go_wp2
      go_ret
      exact ⟨by rw [HF.out]; rfl, Below.refl _ _⟩
    have d0 : decide (nth t j ≤ 32) = false := by simpa using hlo
    have HLO : Hid (¬ nth t j ≤ 32) := hlo
    clear hlo
    by_cases h34 : nth t j = 34
    case pos =>
      have b34 : (nth t j == 34) = true := by simp [h34]
      have H34 : Hid (nth t j = 34) := h34
      clear h34
      have HF : Hid (sok t = false) := sok_bad HA.out hlt H0.out (by rw [bare_false]; have := H34.out; omega)
      go_wp2
      go_ret
      exact ⟨by rw [HF.out]; rfl, Below.refl _ _⟩
    have b34 : (nth t j == 34) = false := by simpa using h34
    have H34 : Hid (¬ nth t j = 34) := h34
    clear h34
    by_cases h92 : nth t j = 92
    case pos =>
      have b92 : (nth t j == 92) = true := by simp [h92]
      have H92 : Hid (nth t j = 92) := h92
      clear h92
      have HF : Hid (sok t = false) := sok_bad HA.out hlt H0.out (by rw [bare_false]; have := H92.out; omega)
      go_wp2
      go_ret
      exact ⟨by rw [HF.out]; rfl, Below.refl _ _⟩
    have b92 : (nth t j == 92) = false := by simpa using h92
    have H92 : Hid (¬ nth t j = 92) := h92
    clear h92
    by_cases h91 : nth t j = 91
    case pos =>
      have b91 : (nth t j == 91) = true := by simp [h91]
      have H91 : Hid (nth t j = 91) := h91
      clear h91
      have HF : Hid (sok t = false) := sok_bad HA.out hlt H0.out (by rw [bare_false]; have := H91.out; omega)
      go_wp2
      go_ret
      exact ⟨by rw [HF.out]; rfl, Below.refl _ _⟩
    have b91 : (nth t j == 91) = false := by simpa using h91
    have H91 : Hid (¬ nth t j = 91) := h91
    clear h91
    by_cases h93 : nth t j = 93
    case pos =>
      have b93 : (nth t j == 93) = true := by simp [h93]
      have H93 : Hid (nth t j = 93) := h93
      clear h93
      have HF : Hid (sok t = false) := sok_bad HA.out hlt H0.out (by rw [bare_false]; have := H93.out; omega)
      go_wp2
      go_ret
      exact ⟨by rw [HF.out]; rfl, Below.refl _ _⟩
    have b93 : (nth t j == 93) = false := by simpa using h93
    have H93 : Hid (¬ nth t j = 93) := h93
    clear h93
    by_cases h123 : nth t j = 123
    case pos =>
      have b123 : (nth t j == 123) = true := by simp [h123]
      have H123 : Hid (nth t j = 123) := h123
      clear h123
      have HF : Hid (sok t = false) := sok_bad HA.out hlt H0.out (by rw [bare_false]; have := H123.out; omega)
      go_wp2
      go_ret
      exact ⟨by rw [HF.out]; rfl, Below.refl _ _⟩
    have b123 : (nth t j == 123) = false := by simpa using h123
    have H123 : Hid (¬ nth t j = 123) := h123
    clear h123
    by_cases h125 : nth t j = 125
    case pos =>
      have b125 : (nth t j == 125) = true := by simp [h125]
      have H125 : Hid (nth t j = 125) := h125
      clear h125
      have HF : Hid (sok t = false) := sok_bad HA.out hlt H0.out (by rw [bare_false]; have := H125.out; omega)
      go_wp2
      go_ret
      exact ⟨by rw [HF.out]; rfl, Below.refl _ _⟩
    have b125 : (nth t j == 125) = false := by simpa using h125
    have H125 : Hid (¬ nth t j = 125) := h125
    clear h125
    by_cases h44 : nth t j = 44
    case pos =>
      have b44 : (nth t j == 44) = true := by simp [h44]
      have H44 : Hid (nth t j = 44) := h44
      clear h44
      have HF : Hid (sok t = false) := sok_bad HA.out hlt H0.out (by rw [bare_false]; have := H44.out; omega)
      go_wp2
      go_ret
      exact ⟨by rw [HF.out]; rfl, Below.refl _ _⟩
    have b44 : (nth t j == 44) = false := by simpa using h44
    have H44 : Hid (¬ nth t j = 44) := h44
    clear h44
    by_cases h58 : nth t j = 58
    case pos =>
      have b58 : (nth t j == 58) = true := by simp [h58]
      have H58 : Hid (nth t j = 58) := h58
      clear h58
      have HF : Hid (sok t = false) := sok_bad HA.out hlt H0.out (by rw [bare_false]; have := H58.out; omega)
      go_wp2
      go_ret
      exact ⟨by rw [HF.out]; rfl, Below.refl _ _⟩
    have b58 : (nth t j == 58) = false := by simpa using h58
    have H58 : Hid (¬ nth t j = 58) := h58
    clear h58
    have HB : Hid (bare (nth t j) = true) := bare_true HLO.out H34.out H92.out H91.out H93.out H123.out H125.out H44.out H58.out
    go_wp2
    go_round
    case rel => exact ⟨j + 1, by omega, by go_num, fun i hi => by
        by_cases e : i = j
        · rw [e]; exact HB.out
        · exact HA.out i (by omega)⟩
    case measure => simp [intOf]; omega

/-- zzScalarTextOK. -/
theorem sok_any (S : Nat → Prop) (w : World) (c : Value) (t : List Int) (ht : TextS S w c t) (hm : t.length ≤ 1048576) : Calls Try.prog 21 #[c] w fun e w' => e = .returned (.bool (sok t)) ∧ Below w.heap.size w w' := by
  obtain ⟨ao, cap, rfl, k1, k2, h0 | ⟨b, o, rfl, hb, hh⟩⟩ := ht
  · subst h0
    exact sok_len0 w ao cap
  · by_cases h0 : t.length = 0
    · rw [sok_empty h0, h0]; exact sok_len0 w _ cap
    · by_cases hq : nth t 0 = 34
      · exact sok_quoted w b o cap t hh hm k1 k2 (by omega) hq
      · exact sok_token w b o cap t hh hm (by omega) hq

end Go.Proofs.Qxb6605240a
