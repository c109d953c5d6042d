/-
  zzBytesEqual (where it answers true; it only reads), zzStringEnd.
-/
import Derived.Test.Qxb6605240aTreeEnc
import Derived.Test.Qxb6605240aDecWalk
namespace Go.Proofs.Qxb6605240a
open Go.RowKit Plain

theorem beq_empty (w : World) (a1 a2 : Option Addr) (c1 c2 : Nat) : Calls Try.prog 25 #[.slice a1 0 c1, .slice a2 0 c2] w fun e w' => e = .returned (.bool true) ∧ ∃ m, w' = w.drewN m := by
  go_enter Try.func25, Try.ntmps25
  go_wp2
  refine wp_loop_rounds 1 ?_
  rw [rounds_succ]
  go_wp2
  go_ret
  exact ⟨rfl, 0, rfl⟩

theorem beq_at (w : World) (b o c1 b2 o2 c2 : Nat) (xs : List Int) (h1 : HasAt w b o xs) (h2 : HasAt w b2 o2 xs) (hm : xs.length ≤ 1073741824) :
    Calls Try.prog 25 #[.slice (some ⟨b, o, none⟩) xs.length c1, .slice (some ⟨b2, o2, none⟩) xs.length c2] w fun e w' => e = .returned (.bool true) ∧ ∃ m, w' = w.drewN m := by
  have t0 : ((xs.length : Int) != (xs.length : Int)) = false := by simp
  go_enter Try.func25, Try.ntmps25
  go_wp2
  go_loopw [5] (fun i wr => ∃ (j m : Nat), j ≤ xs.length ∧ i = .int .i64 j ∧ wr = w.drewN m) (fun i _ => xs.length - (intOf i).toNat)
  case atStart => exact ⟨0, 0, Nat.zero_le _, rfl, rfl⟩
  case round =>
    obtain ⟨j, m, hj, rfl, rfl⟩ := hrel
    by_cases hlt : j < xs.length
    · have k1 := h1 j hlt
      have k2 := h2 j hlt
      have t1 : (nth xs j != nth xs j) = false := by simp
      have i1 : (j : Int) < (xs.length : Int) := by omega
      go_wp2
      go_quiet (fail)
      go_wp2
      go_roundw
      case rel => exact ⟨j + 1, _, by omega, by go_num, rfl⟩
      case measure => simp [intOf]; omega
    · go_wp2
      go_ret
      exact ⟨rfl, m, rfl⟩

/-- The string's end: from place i on. -/
def SE : Nat → List Int → Nat → Option Nat
  | 0, _, _ => none
  | f + 1, xs, i => if xs.length ≤ i then none else if nth xs i = 92 then SE f xs (i + 2) else if nth xs i = 34 then some (i + 1) else SE f xs (i + 1)

theorem SE_fuel (xs : List Int) : ∀ f g i, xs.length < i + f → xs.length < i + g → SE f xs i = SE g xs i := by
  intro f
  induction f with
  | zero =>
    intro g i h1 h2
    cases g with
    | zero => rfl
    | succ g => simp only [SE]; rw [if_pos (by omega)]
  | succ f ih =>
    intro g i h1 h2
    by_cases h : xs.length ≤ i
    · simp only [SE]; rw [if_pos h]
      cases g with
      | zero => rfl
      | succ g => simp only [SE]; rw [if_pos h]
    · cases g with
      | zero => omega
      | succ g =>
        simp only [SE]
        rw [if_neg h, if_neg h, ih g (i + 2) (by omega) (by omega), ih g (i + 1) (by omega) (by omega)]

def strEnd (xs : List Int) (i : Nat) : Option Nat := SE (xs.length + 1) xs i

theorem strEnd_step {xs : List Int} {i : Nat} (h : i < xs.length) : strEnd xs i = if nth xs i = 92 then strEnd xs (i + 2) else if nth xs i = 34 then some (i + 1) else strEnd xs (i + 1) := by
  unfold strEnd
  conv => lhs; unfold SE
  rw [if_neg (by omega), SE_fuel xs xs.length (xs.length + 1) (i + 2) (by omega) (by omega), SE_fuel xs xs.length (xs.length + 1) (i + 1) (by omega) (by omega)]

theorem strEnd_past {xs : List Int} {i : Nat} (h : xs.length ≤ i) : strEnd xs i = none := by
  unfold strEnd; unfold SE; rw [if_pos h]

set_option maxHeartbeats 400000 in
theorem send_any (w : World) (b o cap p e : Nat) (xs : List Int) (hx : HasAt w b o xs) (hm : xs.length ≤ 1073741824) (hp : p < xs.length) (he : strEnd xs (p + 1) = some e) :
    Calls Try.prog 24 #[.slice (some ⟨b, o, none⟩) xs.length cap, .int .i64 p] w fun ee w' => ee = .returned (.tuple #[.int .i64 e, .bool true]) ∧ w' = w := by
  have HE : Hid (strEnd xs (p + 1) = some e) := he
  clear he
  go_enter Try.func24, Try.ntmps24
  go_wp2
  go_loop [6] (fun i => ∃ j : Nat, i = .int .i64 j ∧ j ≤ xs.length + 1 ∧ Hid (strEnd xs j = some e)) (fun i => xs.length + 2 - (intOf i).toNat)
  case atStart => exact ⟨p + 1, by go_num, by omega, HE⟩
  case round =>
    obtain ⟨j, rfl, hj, HJ⟩ := hrel
    by_cases hlt : j < xs.length
    · have k1 := hx j hlt
      have i1 : (j : Int) < (xs.length : Int) := by omega
      have HS := strEnd_step hlt
      have HS2 : Hid (strEnd xs j = if nth xs j = 92 then strEnd xs (j + 2) else if nth xs j = 34 then some (j + 1) else strEnd xs (j + 1)) := HS
      clear HS
      by_cases h92 : nth xs j = 92
      · have t1 : (nth xs j == 92) = true := by simp [h92]
        have HN : Hid (strEnd xs (j + 2) = some e) := show _ = _ by have := HS2.out; rw [if_pos h92] at this; rw [← this]; exact HJ.out
        clear h92
        go_wp2
        go_round
        case rel => exact ⟨j + 2, by go_num, by omega, HN⟩
        case measure => simp [intOf]; omega
      · have t1 : (nth xs j == 92) = false := by simpa using h92
        by_cases h34 : nth xs j = 34
        · have t2 : (nth xs j == 34) = true := by simp [h34]
          have HN : j + 1 = e := by have := HS2.out; rw [if_neg h92, if_pos h34, HJ.out] at this; simpa using this.symm
          subst HN
          clear h92 h34
          go_wp2
          go_ret2
          exact ⟨by simp, rfl⟩
        · have t2 : (nth xs j == 34) = false := by simpa using h34
          have HN : Hid (strEnd xs (j + 1) = some e) := show _ = _ by have := HS2.out; rw [if_neg h92, if_neg h34] at this; rw [← this]; exact HJ.out
          clear h92 h34
          go_wp2
          go_round
          case rel => exact ⟨j + 1, by go_num, by omega, HN⟩
          case measure => simp [intOf]; omega
    · have hf := HJ.out
      rw [strEnd_past (by omega)] at hf
      cases hf

end Go.Proofs.Qxb6605240a
