/-
  zzHasPrefix, zzBytesEqualString and the length bound of FnAppendStringDecodesBack..: where they answer true.
-/
import Derived.Test.Qxb6605240aRead
import Derived.Test.Qxb6605240aApp
namespace Go.Proofs.Qxb6605240a
open Go.RowKit Plain

theorem bytes6_yes (ao : Option Addr) (n cap : Nat) (s : ByteArray) (w : World) (h : n + s.size ≤ 1048576) :
    Calls Try.prog 6 #[.slice ao n cap, .string s] w fun e w' => e = .returned (.bool true) ∧ w' = w := by
  go_enter Try.func6, Try.ntmps6
  go_wp2
  go_ret
  exact ⟨rfl, rfl⟩

theorem bytes6_no (ao : Option Addr) (n cap : Nat) (s : ByteArray) (w : World) (h : ¬ n + s.size ≤ 1048576) :
    Calls Try.prog 6 #[.slice ao n cap, .string s] w fun e w' => e = .returned (.bool false) ∧ w' = w := by
  by_cases h1 : n ≤ 1048576
  · by_cases h2 : s.size ≤ 1048576
    · go_enter Try.func6, Try.ntmps6
      go_wp2
      go_ret
      exact ⟨rfl, rfl⟩
    · go_enter Try.func6, Try.ntmps6
      go_wp2
      go_ret
      exact ⟨rfl, rfl⟩
  · go_enter Try.func6, Try.ntmps6
    go_wp2
    go_ret
    exact ⟨rfl, rfl⟩

/-- zzHasPrefix(b, p) where p is empty. -/
theorem prefix_empty (w : World) (ab ap : Option Addr) (n cb cp : Nat) : Calls Try.prog 9 #[.slice ab n cb, .slice ap 0 cp] w fun e w' => e = .returned (.bool true) ∧ Below w.heap.size w w' := by
  go_enter Try.func9, Try.ntmps9
  go_wp2
  refine wp_loop_rounds 1 ?_
  rw [rounds_succ]
  go_wp2
  go_ret
  exact ⟨rfl, Below.refl _ _⟩

/-- zzHasPrefix(b, p) where p is a prefix of b. -/
theorem prefix_at (w : World) (b off cb bp op cp : Nat) (ys xs : List Int) (hy : HasAt w b off ys) (hx : HasAt w bp op xs) (hl : xs.length ≤ ys.length) (hm : ys.length ≤ 1073741824) (he : Hid (∀ j, j < xs.length → nth ys j = nth xs j)) :
    Calls Try.prog 9 #[.slice (some ⟨b, off, none⟩) ys.length cb, .slice (some ⟨bp, op, none⟩) xs.length cp] w fun e w' => e = .returned (.bool true) ∧ Below w.heap.size w w' := by
  have d0 : decide ((ys.length : Int) < (xs.length : Int)) = false := by simp; omega
  go_enter Try.func9, Try.ntmps9
  go_wp2
  go_loopw [5] (fun i wr => ∃ j : Nat, j ≤ xs.length ∧ i = .int .i64 j ∧ Below w.heap.size w wr) (fun i _ => xs.length - (intOf i).toNat)
  case atStart => exact ⟨0, Nat.zero_le _, rfl, Below.refl _ _⟩
  case round =>
    obtain ⟨j, hj, rfl, hnx⟩ := hrel
    by_cases hlt : j < xs.length
    · have c1 := (hy.later hnx) j (by omega)
      have c2 := (hx.later hnx) j hlt
      have t1 : (nth ys j != nth xs j) = false := by rw [he.out j hlt]; simp
      have i1 : (j : Int) < (ys.length : Int) := by omega
      have i2 : (j : Int) < (xs.length : Int) := by omega
      go_wp2
      go_quiet (fail)
      go_wp2
      go_roundw
      case rel => exact ⟨j + 1, by omega, by go_num, below_drewN hnx _⟩
      case measure => simp [intOf]; omega
    · go_wp2
      go_ret
      exact ⟨rfl, hnx⟩

theorem prefix_any (w : World) (b off cb : Nat) (ap : Option Addr) (cp : Nat) (ys xs : List Int) (hy : HasAt w b off ys) (hx : Has w ap xs) (hl : xs.length ≤ ys.length) (hm : ys.length ≤ 1073741824) (he : ∀ j, j < xs.length → nth ys j = nth xs j) :
    Calls Try.prog 9 #[.slice (some ⟨b, off, none⟩) ys.length cb, .slice ap xs.length cp] w fun e w' => e = .returned (.bool true) ∧ Below w.heap.size w w' := by
  rcases hx with rfl | ⟨bp, op, rfl, hc⟩
  · exact prefix_empty w _ ap _ cb cp
  · exact prefix_at w b off cb bp op cp ys xs hy hc hl hm he

theorem sb_nth (s : ByteArray) (j : Nat) (h : j < s.size) : nth (sb s) j = ((s[j].toNat : Nat) : Int) := by
  unfold nth sb
  rw [List.getD_eq_getElem?_getD, List.getElem?_map, List.getElem?_eq_getElem (by simpa using h)]
  rfl

theorem eqs_empty (w : World) (ab : Option Addr) (cb : Nat) (s : ByteArray) (h : s.size = 0) : Calls Try.prog 11 #[.slice ab 0 cb, .string s] w fun e w' => e = .returned (.bool true) ∧ Below w.heap.size w w' := by
  have t0 : ((0 : Int) != (s.size : Int)) = false := by rw [h]; rfl
  clear h
  go_enter Try.func11, Try.ntmps11
  go_wp2
  refine wp_loop_rounds 1 ?_
  rw [rounds_succ]
  go_wp2
  go_ret
  exact ⟨rfl, Below.refl _ _⟩

theorem eqs_at (w : World) (b off cb : Nat) (s : ByteArray) (ys : List Int) (hs : s.size ≤ 1073741824) (hy : HasAt w b off ys) (he : ys = sb s) :
    Calls Try.prog 11 #[.slice (some ⟨b, off, none⟩) ys.length cb, .string s] w fun e w' => e = .returned (.bool true) ∧ Below w.heap.size w w' := by
  have hl : ys.length = s.size := by rw [he, sb_length]
  have t0 : ((ys.length : Int) != (s.size : Int)) = false := by rw [hl]; simp
  have l1 : ys.length ≤ s.size := by omega
  have l2 : s.size ≤ ys.length := by omega
  have HE : Hid (ys = sb s) := he
  clear hl he
  go_enter Try.func11, Try.ntmps11
  go_wp2
  go_loopw [5] (fun i wr => ∃ j : Nat, j ≤ ys.length ∧ i = .int .i64 j ∧ Below w.heap.size w wr) (fun i _ => ys.length - (intOf i).toNat)
  case atStart => exact ⟨0, Nat.zero_le _, rfl, Below.refl _ _⟩
  case round =>
    obtain ⟨j, hj, rfl, hnx⟩ := hrel
    by_cases hlt : j < ys.length
    · have c1 := (hy.later hnx) j (by omega)
      have hjs : j < s.size := by omega
      have t1 : (nth ys j != ((s[j].toNat : Nat) : Int)) = false := by rw [HE.out, sb_nth s j hjs]; simp
      have i1 : (j : Int) < (ys.length : Int) := by omega
      have i2 : (j : Int) < (s.size : Int) := by omega
      go_wp2
      go_quiet (fail)
      go_wp2
      go_roundw
      case rel => exact ⟨j + 1, by omega, by go_num, below_drewN hnx _⟩
      case measure => simp [intOf]; omega
    · go_wp2
      go_ret
      exact ⟨rfl, hnx⟩

theorem eqs_any (w : World) (ab : Option Addr) (cb : Nat) (s : ByteArray) (hs : s.size ≤ 1073741824) (hy : Has w ab (sb s)) :
    Calls Try.prog 11 #[.slice ab (sb s).length cb, .string s] w fun e w' => e = .returned (.bool true) ∧ Below w.heap.size w w' := by
  rcases hy with h | ⟨b, off, rfl, hc⟩
  · have hz : s.size = 0 := by rw [← sb_length, h]; rfl
    rw [h]
    exact eqs_empty w ab cb s hz
  · exact eqs_at w b off cb s (sb s) hs hc rfl

end Go.Proofs.Qxb6605240a
