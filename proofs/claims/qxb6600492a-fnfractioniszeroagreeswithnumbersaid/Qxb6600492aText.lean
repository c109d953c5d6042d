/-
  The reader instantText walked: digit, number, fractionIsZero, and the two thin converters.
-/
import Derived.Test.Qxb6600492aProg
import Derived.Test.Qxb6600492aPlain
import Derived.WalkKit
import Derived.WalkSpells
import Derived.WalkLawsBesides
import Derived.Deep.QuietTactic
import Derived.BigQuiet
import Derived.Lib.Strings
namespace Go.Proofs.Qxb6600492a
open Go.RowKit Plain

/-- The reader lies in block b: the text left, and whether it is well. -/
def St (w : World) (b : Nat) (s : ByteArray) (ok : Bool) : Prop := w.heap[b]? = some (.cells #[.string s, .bool ok] 47 (0, 0))

theorem St.rest {w : World} {b : Nat} {s : ByteArray} {ok : Bool} (h : St w b s ok) : w.cell? ⟨b, 0, none⟩ = some (.string s) := by
  unfold St at h; simp [World.cell?, h]
theorem St.ok {w : World} {b : Nat} {s : ByteArray} {ok : Bool} (h : St w b s ok) : w.cell? ⟨b, 1, none⟩ = some (.bool ok) := by
  unfold St at h; simp [World.cell?, h]
theorem St.free {w : World} {b : Nat} {s : ByteArray} {ok : Bool} (h : St w b s ok) (j : Nat) : w.frozen? ⟨b, j, none⟩ = false := by
  unfold St at h; simp [World.frozen?, h]
theorem St.setRest {w : World} {b : Nat} {s : ByteArray} {ok : Bool} (h : St w b s ok) (t : ByteArray) : St (w.setCell ⟨b, 0, none⟩ (.string t)) b t ok := by
  unfold St at h ⊢
  simp only [World.setCell, Array.getElem?_modify, if_true, h]
  rfl
theorem St.setOk {w : World} {b : Nat} {s : ByteArray} {ok : Bool} (h : St w b s ok) (k : Bool) : St (w.setCell ⟨b, 1, none⟩ (.bool k)) b s k := by
  unfold St at h ⊢
  simp only [World.setCell, Array.getElem?_modify, if_true, h]
  rfl

set_option maxHeartbeats 400000 in
theorem digit_bad (w : World) (b : Nat) (s : ByteArray) (h : St w b s false) :
    Calls Try.prog 32 #[.pointer (some ⟨b, 0, none⟩)] w fun e w' => e = .returned (.tuple #[.int .i64 0, .bool false]) ∧ w' = w := by
  have h1 := h.rest
  have h2 := h.ok
  go_enter Try.func32, Try.ntmps32
  go_wp2
  go_ret2
  exact ⟨rfl, rfl⟩

theorem empty_yes {s : ByteArray} (h : s.size = 0) : s.toList.isEmpty = true := by
  rw [Lib.toList_data]
  exact List.isEmpty_iff.2 (List.eq_nil_of_length_eq_zero (by rw [Array.length_toList]; exact h))
theorem empty_no {s : ByteArray} (h : 0 < s.size) : s.toList.isEmpty = false := by
  rw [Lib.toList_data, Bool.eq_false_iff]
  intro e
  have e2 := List.isEmpty_iff.1 e
  have e3 : s.data.toList.length = 0 := by rw [e2]; rfl
  rw [Array.length_toList] at e3
  have e4 : s.size = 0 := e3
  omega

set_option maxHeartbeats 400000 in
theorem digit_empty (w : World) (b : Nat) (s : ByteArray) (h : St w b s true) (hs : s.size = 0) :
    Calls Try.prog 32 #[.pointer (some ⟨b, 0, none⟩)] w fun e w' => e = .returned (.tuple #[.int .i64 0, .bool false]) ∧ w' = w := by
  have h1 := h.rest
  have h2 := h.ok
  have hE := empty_yes hs
  clear hs
  go_enter Try.func32, Try.ntmps32
  go_wp2
  go_ret2
  exact ⟨rfl, rfl⟩

set_option maxHeartbeats 400000 in
theorem digit_other (w : World) (b : Nat) (s : ByteArray) (h : St w b s true) (hs : 0 < s.size) (hd : ¬ (48 ≤ ((s[0].toNat : Nat) : Int) ∧ ((s[0].toNat : Nat) : Int) ≤ 57)) :
    Calls Try.prog 32 #[.pointer (some ⟨b, 0, none⟩)] w fun e w' => e = .returned (.tuple #[.int .i64 0, .bool false]) ∧ w' = w := by
  have h1 := h.rest
  have h2 := h.ok
  have hE := empty_no hs
  by_cases hlo : ((s[0].toNat : Nat) : Int) < 48
  · have d1 : decide (((s[0].toNat : Nat) : Int) < 48) = true := by simpa using hlo
    clear hd
    go_enter Try.func32, Try.ntmps32
    go_wp2
    go_ret2
    exact ⟨rfl, rfl⟩
  · have d1 : decide (((s[0].toNat : Nat) : Int) < 48) = false := by simpa using hlo
    have d2 : decide ((57 : Int) < ((s[0].toNat : Nat) : Int)) = true := by simp; omega
    have d3 : (57 : Int) < ((s[0].toNat : Nat) : Int) := by omega
    clear hd
    go_enter Try.func32, Try.ntmps32
    go_wp2
    go_ret2
    exact ⟨rfl, rfl⟩

set_option maxHeartbeats 400000 in
theorem digit_yes (w : World) (b : Nat) (s : ByteArray) (h : St w b s true) (hs : 0 < s.size) (hlo : 48 ≤ ((s[0].toNat : Nat) : Int)) (hhi : ((s[0].toNat : Nat) : Int) ≤ 57) :
    Calls Try.prog 32 #[.pointer (some ⟨b, 0, none⟩)] w fun e w' => e = .returned (.tuple #[.int .i64 (((s[0].toNat : Nat) : Int) - 48), .bool true]) ∧ w' = w.setCell ⟨b, 0, none⟩ (.string (s.extract 1 s.size)) := by
  have h1 := h.rest
  have h2 := h.ok
  have h3 := h.free 0
  have hE := empty_no hs
  have d1 : decide (((s[0].toNat : Nat) : Int) < 48) = false := by simp; omega
  have d2 : decide ((57 : Int) < ((s[0].toNat : Nat) : Int)) = false := by simp; omega
  go_enter Try.func32, Try.ntmps32
  go_wp2
  go_ret2
  exact ⟨rfl, rfl⟩

/-! ### digit, at a place of the text -/
theorem byt_cut {s : ByteArray} {k : Nat} (h : 0 < (cutAt s k).size) : (((cutAt s k)[0].toNat : Nat) : Int) = byt s k := by
  have := cutAt_byt s k 0
  rw [byt_at h] at this
  exact this

/-- One digit read at place k. -/
theorem digit_at (w : World) (b : Nat) (s : ByteArray) (k : Nat) (h : St w b (cutAt s k) true) (hk : k < s.size) (hd : isD (byt s k)) :
    Calls Try.prog 32 #[.pointer (some ⟨b, 0, none⟩)] w fun e w' => e = .returned (.tuple #[.int .i64 (byt s k - 48), .bool true]) ∧ St w' b (cutAt s (k + 1)) true ∧ Below b w w' := by
  have hs : 0 < (cutAt s k).size := by rw [cutAt_size]; omega
  have e := byt_cut hs
  unfold isD at hd
  refine (digit_yes w b (cutAt s k) h hs (by rw [e]; exact hd.1) (by rw [e]; exact hd.2)).mono ?_
  rintro e' w' ⟨rfl, rfl⟩
  refine ⟨by rw [e], ?_, (Below.refl b w).setCell (p := ⟨b, 0, none⟩) (Nat.le_refl _) _⟩
  rw [← cutAt_cutAt]
  exact h.setRest (cutAt (cutAt s k) 1)

/-- No digit at place k, or the reader is not well. -/
theorem digit_no (w : World) (b : Nat) (s : ByteArray) (k : Nat) (ok : Bool) (h : St w b (cutAt s k) ok) (hd : ok = true → k < s.size → ¬ isD (byt s k)) :
    Calls Try.prog 32 #[.pointer (some ⟨b, 0, none⟩)] w fun e w' => e = .returned (.tuple #[.int .i64 0, .bool false]) ∧ w' = w := by
  cases ok with
  | false => exact digit_bad w b _ h
  | true =>
    by_cases hk : k < s.size
    · have hs : 0 < (cutAt s k).size := by rw [cutAt_size]; omega
      have e := byt_cut hs
      exact digit_other w b _ h hs (by rw [e]; exact hd rfl hk)
    · exact digit_empty w b _ h (by rw [cutAt_size]; omega)

/-! ### number -/
set_option maxHeartbeats 1000000 in
theorem number_ok (w : World) (b : Nat) (s : ByteArray) (n least most : Int) (L : Nat) (h : St w b s true) (hL : IsLead s L) (hn : n ≤ 18) (hnL : n ≤ L) :
    Calls Try.prog 29 #[.pointer (some ⟨b, 0, none⟩), .int .i64 n, .int .i64 least, .int .i64 most] w fun e w' => e = .returned (.int .i64 (val s n.toNat)) ∧ St w' b (cutAt s n.toNat) (inR least most (val s n.toNat)) ∧ Below b w w' := by
  have HL : Hid (IsLead s L) := hL
  have h0 : St w b (cutAt s 0) true := by rw [cutAt_zero]; exact h
  clear h hL
  go_enter Try.func29, Try.ntmps29
  go_wp2
  go_loopw [9, 10] (fun v i wr => ∃ k : Nat, (k : Int) ≤ max 0 n ∧ v = .int .i64 (val s k) ∧ i = .int .i64 k ∧ St wr b (cutAt s k) true ∧ Below b w wr) (fun _ i _ => (n - intOf i).toNat)
  case atStart => exact ⟨0, by simp; omega, rfl, rfl, h0, Below.refl _ _⟩
  case round =>
    obtain ⟨k, hk, rfl, rfl, hst, hnx⟩ := hrel
    have hvb := val_bd s k (fun j hj => HL.out.2.1 j (by omega))
    have hpw : (10 : Int) ^ k ≤ 10 ^ 18 := pow_le (by omega)
    have hv1 : 0 ≤ val s k := hvb.1
    have hv2 : val s k ≤ 999999999999999999 := by have := hvb.2; omega
    by_cases hlt : (k : Int) < n
    · have hkL : k < L := by omega
      have hks : k < s.size := by have := HL.out.1; omega
      have hD := HL.out.2.1 k hkL
      have hpw2 : (10 : Int) ^ k ≤ 10 ^ 17 := pow_le (by omega)
      have hv3 : val s k ≤ 99999999999999999 := by have := hvb.2; omega
      have HV : Hid (val s (k + 1) = val s k * 10 + (byt s k - 48)) := rfl
      generalize val s k = V at *
      have hd1 : 48 ≤ byt s k := hD.1
      have hd2 : byt s k ≤ 57 := hD.2
      clear hvb hpw hpw2 hv2
      go_wp2_with (go_at_call 32; refine (digit_at _ b s k hst hks hD).mono ?_; rintro e w2 ⟨rfl, hst2, hb2⟩)
      go_roundw
      case rel => exact ⟨k + 1, by omega, by rw [HV.out], by go_num, hst2, hnx.trans hb2⟩
      case measure => simp [intOf]; omega
    · have hkn : k = n.toNat := by omega
      subst hkn
      have h1 := hst.ok
      have h2 := hst.free 1
      clear hvb hpw
      by_cases hlo : val s n.toNat < least
      · have d1 : decide (val s n.toNat < least) = true := by simpa using hlo
        have HR : Hid (inR least most (val s n.toNat) = false) := inR_low hlo
        go_wp2
        go_ret
        refine ⟨rfl, ?_, hnx.setCell (p := ⟨b, 1, none⟩) (Nat.le_refl _) _⟩
        rw [HR.out]
        exact hst.setOk false
      · have d1 : decide (val s n.toNat < least) = false := by simpa using hlo
        by_cases hhi : most < val s n.toNat
        · have HR : Hid (inR least most (val s n.toNat) = false) := inR_high hhi
          go_wp2
          go_ret
          refine ⟨rfl, ?_, hnx.setCell (p := ⟨b, 1, none⟩) (Nat.le_refl _) _⟩
          rw [HR.out]
          exact hst.setOk false
        · have HR : Hid (inR least most (val s n.toNat) = true) := inR_in hlo hhi
          go_wp2
          go_ret
          refine ⟨rfl, ?_, hnx⟩
          rw [HR.out]
          exact hst

set_option maxHeartbeats 1000000 in
theorem number_short (w : World) (b : Nat) (s : ByteArray) (n least most : Int) (L : Nat) (h : St w b s true) (hL : IsLead s L) (hn : n ≤ 18) (hnL : (L : Int) < n) :
    Calls Try.prog 29 #[.pointer (some ⟨b, 0, none⟩), .int .i64 n, .int .i64 least, .int .i64 most] w fun e w' => e = .returned (.int .i64 0) ∧ St w' b (cutAt s L) false ∧ Below b w w' := by
  have HL : Hid (IsLead s L) := hL
  have h0 : St w b (cutAt s 0) true := by rw [cutAt_zero]; exact h
  clear h hL
  go_enter Try.func29, Try.ntmps29
  go_wp2
  go_loopw [9, 10] (fun v i wr => ∃ k : Nat, k ≤ L ∧ v = .int .i64 (val s k) ∧ i = .int .i64 k ∧ St wr b (cutAt s k) true ∧ Below b w wr) (fun _ i _ => (n - intOf i).toNat)
  case atStart => exact ⟨0, Nat.zero_le _, rfl, rfl, h0, Below.refl _ _⟩
  case round =>
    obtain ⟨k, hk, rfl, rfl, hst, hnx⟩ := hrel
    have hvb := val_bd s k (fun j hj => HL.out.2.1 j (by omega))
    have hlt : (k : Int) < n := by omega
    have hpw2 : (10 : Int) ^ k ≤ 10 ^ 17 := pow_le (by omega)
    have hv1 : 0 ≤ val s k := hvb.1
    have hv3 : val s k ≤ 99999999999999999 := by have := hvb.2; omega
    have HV : Hid (val s (k + 1) = val s k * 10 + (byt s k - 48)) := rfl
    generalize val s k = V at *
    clear hvb hpw2
    by_cases hkL : k < L
    · have hks : k < s.size := by have := HL.out.1; omega
      have hD := HL.out.2.1 k hkL
      have hd1 : 48 ≤ byt s k := hD.1
      have hd2 : byt s k ≤ 57 := hD.2
      go_wp2_with (go_at_call 32; refine (digit_at _ b s k hst hks hD).mono ?_; rintro e w2 ⟨rfl, hst2, hb2⟩)
      go_roundw
      case rel => exact ⟨k + 1, by omega, by rw [HV.out], by go_num, hst2, hnx.trans hb2⟩
      case measure => simp [intOf]; omega
    · obtain rfl : k = L := by omega
      have h1 := hst.ok
      have h2 := hst.free 1
      go_wp2_with (go_at_call 32; refine (digit_no _ b s k true hst (fun _ hs => HL.out.2.2 hs)).mono ?_; rintro e wr ⟨rfl, rfl⟩)
      go_ret
      exact ⟨rfl, hst.setOk false, hnx.setCell (p := ⟨b, 1, none⟩) (Nat.le_refl _) _⟩

set_option maxHeartbeats 1000000 in
theorem number_bad (w : World) (b : Nat) (s : ByteArray) (n least most : Int) (h : St w b s false) :
    Calls Try.prog 29 #[.pointer (some ⟨b, 0, none⟩), .int .i64 n, .int .i64 least, .int .i64 most] w fun e w' => e = .returned (.int .i64 0) ∧ St w' b s false ∧ Below b w w' := by
  have h1 := h.ok
  have h2 := h.free 1
  have h3 : St w b (cutAt s 0) false := by rw [cutAt_zero]; exact h
  by_cases hn : 0 < n
  · go_enter Try.func29, Try.ntmps29
    go_wp2
    refine wp_loop_rounds 1 ?_
    rw [rounds_succ]
    go_wp2_with (go_at_call 32; refine (digit_no _ b s 0 false h3 (fun e => by cases e)).mono ?_; rintro e w ⟨rfl, rfl⟩)
    go_ret
    exact ⟨rfl, h.setOk false, (Below.refl _ _).setCell (p := ⟨b, 1, none⟩) (Nat.le_refl _) _⟩
  · by_cases hlo : 0 < least
    · have d1 : decide (0 < least) = true := by simpa using hlo
      go_enter Try.func29, Try.ntmps29
      go_wp2
      refine wp_loop_rounds 1 ?_
      rw [rounds_succ]
      go_wp2
      go_ret
      exact ⟨rfl, h.setOk false, (Below.refl _ _).setCell (p := ⟨b, 1, none⟩) (Nat.le_refl _) _⟩
    · have d1 : decide (0 < least) = false := by simpa using hlo
      by_cases hhi : most < 0
      · go_enter Try.func29, Try.ntmps29
        go_wp2
        refine wp_loop_rounds 1 ?_
        rw [rounds_succ]
        go_wp2
        go_ret
        exact ⟨rfl, h.setOk false, (Below.refl _ _).setCell (p := ⟨b, 1, none⟩) (Nat.le_refl _) _⟩
      · go_enter Try.func29, Try.ntmps29
        go_wp2
        refine wp_loop_rounds 1 ?_
        rw [rounds_succ]
        go_wp2
        go_ret
        exact ⟨rfl, h, Below.refl _ _⟩

end Go.Proofs.Qxb6600492a
