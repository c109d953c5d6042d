/-
  zzPow10, zzPadded, zzZeros walked.
-/
import Derived.Test.Qxb6600492aBytes
namespace Go.Proofs.Qxb6600492a
open Go.RowKit Plain

theorem pow10_any (n : Nat) (w : World) (hn : n ≤ 18) : Calls Try.prog 14 #[.int .i64 n] w fun e w' => e = .returned (.int .i64 (10 ^ n)) ∧ w' = w := by
  obtain ⟨X, hX⟩ : ∃ X, X = (10 : Int) ^ n := ⟨_, rfl⟩
  rw [← hX]
  have HX : Hid (X = 10 ^ n) := hX
  clear hX
  go_enter Try.func14, Try.ntmps14
  go_wp2
  go_loop [3, 4] (fun p i => ∃ (k : Nat) (P : Int), k ≤ n ∧ p = .int .i64 P ∧ i = .int .i64 k ∧ Hid (P = 10 ^ k)) (fun _ i => n - (intOf i).toNat)
  case atStart => exact ⟨0, 1, Nat.zero_le _, rfl, rfl, rfl⟩
  case round =>
    obtain ⟨k, P, hk, rfl, rfl, HP⟩ := hrel
    by_cases hlt : k < n
    · have h1 : (10 : Int) ^ k ≤ 10 ^ 17 := pow_le (by omega)
      have h2 : P ≤ 100000000000000000 := by rw [HP.out]; omega
      have h3 : 1 ≤ P := by rw [HP.out]; exact pow_pos k
      clear h1
      have HQ : Hid (P * 10 = 10 ^ (k + 1)) := show _ = _ by rw [HP.out, ← Int.pow_succ]
      go_wp2
      go_round
      case rel => exact ⟨k + 1, P * 10, by omega, rfl, by go_num, HQ⟩
      case measure => simp [intOf]; omega
    · obtain rfl : k = n := by omega
      have hPX : P = X := by rw [HP.out, HX.out]
      subst hPX
      go_wp2
      go_ret
      exact ⟨rfl, rfl⟩

set_option maxHeartbeats 400000 in
theorem zeros_any (m : Nat) (w : World) (hm : m ≤ 65536) :
    Calls Try.prog 26 #[.int .i64 m] w fun e w' => ∃ Z, e = .returned (.string Z) ∧ Z.size = m ∧ (∀ j, j < m → byt Z j = 48) ∧ Below w.heap.size w w' := by
  obtain ⟨i0, hi, hz0, hz1, hz2⟩ := info_parts Try.info5
  go_enter Try.func26, Try.ntmps26
  go_wp2_with (at_make; refine wpList_make_full _ rfl _ _ 42 rfl w.heap.size 5 i0 (.int .u8 0) 1 Try.underlying42 hi hz0 hz1 _ _ _ _ m rfl rfl rfl rfl ?b2 ?b3 (Nat.le_refl _) ?_)
  case b2 => rw [hz2]; omega
  case b3 => unfold maxLen; omega
  intro w1 ho hg
  have hr1 : Row w1 w.heap.size (List.replicate m 0) := made_row ho (by rw [Nat.mul_one]; rfl)
  have hb1 : Below w.heap.size w w1 := (Below.refl _ _).grown hg (Nat.le_refl _) (fun k hk => by cases hk)
  clear ho hg hi hz0 hz1 hz2
  go_wp2
  go_loopw [4] (fun i wr => ∃ (k : Nat) (xs : List Int), k ≤ m ∧ i = .int .i64 k ∧ Row wr w.heap.size xs ∧ Hid (xs.length = m ∧ ∀ j, j < k → xs.getD j 0 = 48) ∧ Below w.heap.size w wr) (fun i _ => m - (intOf i).toNat)
  case atStart => exact ⟨0, List.replicate m 0, Nat.zero_le _, rfl, hr1, ⟨by simp, fun j hj => by omega⟩, hb1⟩
  case round =>
    clear hr1 hb1
    obtain ⟨k, xs, hk, rfl, hrow, HX, hnx⟩ := hrel
    by_cases hlt : k < m
    · have c1 := hrow.cell k (by rw [HX.out.1]; exact hlt)
      have c2 := hrow.free k
      have i1 : (k : Int) < (m : Int) := by omega
      have HX2 : Hid ((xs.set k 48).length = m ∧ ∀ j, j < k + 1 → (xs.set k 48).getD j 0 = 48) := by
        refine ⟨by rw [List.length_set]; exact HX.out.1, fun j hj => ?_⟩
        by_cases e : j = k
        · subst e; simp [HX.out.1, hlt]
        · have := HX.out.2 j (by omega)
          simp only [List.getD_eq_getElem?_getD] at this ⊢
          rw [List.getElem?_set, if_neg (fun h => e h.symm)]; exact this
      go_wp2
      go_roundw
      case rel => exact ⟨k + 1, xs.set k 48, by omega, by go_num, hrow.set k 48, HX2, hnx.setCell (p := ⟨w.heap.size, k, none⟩) (Nat.le_refl _) _⟩
      case measure => simp [intOf]; omega
    · have hcv := hrow.string HX.out.1 m
      have HF : Hid ((strOfNums xs).size = m ∧ ∀ j, j < m → byt (strOfNums xs) j = 48) := by
        refine ⟨by rw [strOfNums_size]; exact HX.out.1, fun j hj => ?_⟩
        have h48 := HX.out.2 j (by omega)
        rw [strOf_byt xs j (by rw [HX.out.1]; exact hj) (by omega) (by omega), h48]
      clear HX
      go_wp2
      go_ret
      exact ⟨_, rfl, HF.out.1, HF.out.2, hnx⟩

theorem set_drop {xs : List Int} {q : Nat} (c : Int) (h : q < xs.length) : (xs.set q c).drop q = c :: xs.drop (q + 1) := by
  rw [List.drop_eq_getElem_cons (by rw [List.length_set]; exact h), List.getElem_set_self, List.drop_set_of_lt (by omega)]

theorem pad_step {xs : List Int} {q : Nat} {X v : Int} (h : q < xs.length) (hv : horner X (xs.drop (q + 1)) = v) : horner (X / 10) ((xs.set q (48 + X % 10)).drop q) = v := by
  rw [set_drop _ h]
  unfold horner at hv ⊢
  rw [List.foldl_cons, ← hv]
  congr 1
  omega

/-- The digits laid so far, from place q on; X is what is left to write. -/
def Padded (xs : List Int) (n q : Nat) (X v : Int) : Prop := xs.length = n ∧ (∀ j, q ≤ j → j < n → isD (xs.getD j 0)) ∧ horner X (xs.drop q) = v ∧ 0 ≤ X ∧ X < 10 ^ q

theorem Padded.step {xs : List Int} {n q : Nat} {X v : Int} (h : Padded xs n (q + 1) X v) (hq : q < n) : Padded (xs.set q (48 + X % 10)) n q (X / 10) v := by
  obtain ⟨h1, h2, h3, h4, h5⟩ := h
  refine ⟨by rw [List.length_set]; exact h1, fun j hj hn => ?_, pad_step (by omega) h3, by omega, ?_⟩
  · by_cases e : j = q
    · subst e
      unfold isD
      simp [h1, hq]
      omega
    · have := h2 j (by omega) hn
      simp only [List.getD_eq_getElem?_getD] at this ⊢
      rw [List.getElem?_set, if_neg (fun h => e h.symm)]; exact this
  · rw [Int.pow_succ] at h5; omega

theorem Padded.done {xs : List Int} {n : Nat} {X v : Int} (h : Padded xs n 0 X v) : (strOfNums xs).size = n ∧ (∀ j, j < n → isD (byt (strOfNums xs) j)) ∧ val (strOfNums xs) n = v := by
  obtain ⟨h1, h2, h3, h4, h5⟩ := h
  have e : ∀ j, j < xs.length → byt (strOfNums xs) j = xs.getD j 0 := fun j hj => by
    have := h2 j (Nat.zero_le _) (by omega)
    unfold isD at this
    exact strOf_byt xs j hj (by omega) (by omega)
  refine ⟨by rw [strOfNums_size]; exact h1, fun j hj => by rw [e j (by omega)]; exact h2 j (Nat.zero_le _) hj, ?_⟩
  have hX : X = 0 := by simp at h5; omega
  rw [hX] at h3
  rw [val_take _ xs e n (by omega), List.take_of_length_le (by omega), ← h3, List.drop_zero]

set_option maxHeartbeats 400000 in
theorem padded_any (v : Int) (n : Nat) (w : World) (hn : n ≤ 18) (hv0 : 0 ≤ v) (hv : v < 10 ^ n) :
    Calls Try.prog 15 #[.int .i64 v, .int .i64 n] w fun e w' => ∃ Z, e = .returned (.string Z) ∧ Z.size = n ∧ (∀ j, j < n → isD (byt Z j)) ∧ val Z n = v ∧ Below w.heap.size w w' := by
  obtain ⟨i0, hi, hz0, hz1, hz2⟩ := info_parts Try.info5
  have hvm : v ≤ 1000000000000000000 := by
    have h1 : (10 : Int) ^ n ≤ 10 ^ 18 := pow_le hn
    omega
  have HV : Hid (v < 10 ^ n) := hv
  clear hv
  go_enter Try.func15, Try.ntmps15
  go_wp2_with (at_make; refine wpList_make_full _ rfl _ _ 42 rfl w.heap.size 5 i0 (.int .u8 0) 1 Try.underlying42 hi hz0 hz1 _ _ _ _ n rfl rfl rfl rfl ?b2 ?b3 (Nat.le_refl _) ?_)
  case b2 => rw [hz2]; omega
  case b3 => unfold maxLen; omega
  intro w1 ho hg
  have hr1 : Row w1 w.heap.size (List.replicate n 0) := made_row ho (by rw [Nat.mul_one]; rfl)
  have hb1 : Below w.heap.size w w1 := (Below.refl _ _).grown hg (Nat.le_refl _) (fun k hk => by cases hk)
  have hp1 : Padded (List.replicate n 0) n n v v := ⟨by simp, fun j h1 h2 => by omega, by rw [List.drop_eq_nil_of_le (by simp)]; rfl, hv0, HV.out⟩
  clear ho hg hi hz0 hz1 hz2
  go_wp2
  go_loopw [6, 7] (fun x i wr => ∃ (q : Nat) (X : Int) (xs : List Int), x = .int .i64 X ∧ i = .int .i64 ((q : Int) - 1) ∧ q ≤ n ∧ Row wr w.heap.size xs ∧ Padded xs n q X v ∧ X ≤ v ∧ Below w.heap.size w wr) (fun _ i _ => (intOf i + 1).toNat)
  case atStart => exact ⟨n, v, List.replicate n 0, rfl, rfl, Nat.le_refl _, hr1, hp1, by omega, hb1⟩
  case round =>
    clear hr1 hb1 hp1
    obtain ⟨q, X, xs, rfl, rfl, hq, hrow, hp, hXv, hnx⟩ := hrel
    have hX0 : 0 ≤ X := hp.2.2.2.1
    cases q with
    | zero =>
      have hcv := hrow.string hp.1 n
      have HF := hp.done
      have HG : Hid ((strOfNums xs).size = n ∧ (∀ j, j < n → isD (byt (strOfNums xs) j)) ∧ val (strOfNums xs) n = v) := HF
      clear HF hp
      go_wp2
      go_ret
      exact ⟨_, rfl, HG.out.1, HG.out.2.1, HG.out.2.2, hnx⟩
    | succ r =>
      have e : (((r + 1 : Nat) : Int) - 1) = (r : Int) := by omega
      rw [e]
      have c1 := hrow.cell r (by rw [hp.1]; omega)
      have c2 := hrow.free r
      have i1 : (r : Int) < (n : Int) := by omega
      have hp2 := hp.step (by omega)
      clear hp
      go_wp2
      go_roundw
      case rel => exact ⟨r, X / 10, xs.set r (48 + X % 10), rfl, rfl, by omega, hrow.set r (48 + X % 10), hp2, by omega, hnx.setCell (p := ⟨w.heap.size, r, none⟩) (Nat.le_refl _) _⟩
      case measure => simp [intOf]

end Go.Proofs.Qxb6600492a
