/-
  (*node).appendTo walked: it writes 'enc'.
-/
import Derived.Test.Qxb6605240aTreeEnc
import Derived.Test.Qxb6605240aApp
namespace Go.Proofs.Qxb6605240a
open Go.RowKit Plain

/-- What is claimed of appendTo at depth n. -/
def AptSaid (n : Nat) : Prop := ∀ (T : Tr) (B b o : Nat) (v : Value) (xs : List Int) (w : World), At (· < B) n w b o T → B ≤ w.heap.size → dom n T = true → wt n T ≤ 1048576 → xs.length + 8 * wt n T ≤ 1073741824 → Dst B w v xs →
  Calls Try.prog 23 #[.pointer (some ⟨b, o, none⟩), v] w fun e w' => ∃ v', e = .returned v' ∧ OwnB B w' v' (xs ++ enc n T) ∧ Below B w w'

theorem enc_arr {n : Nat} {T : Tr} (h : T.kind = 1) : enc (n + 1) T = 91 :: (joinTo (fun i => enc n (T.el i)) T.elems.length ++ [93]) := by simp only [enc]; rw [if_pos h]
theorem enc_obj {n : Nat} {T : Tr} (h : T.kind = 2) : enc (n + 1) T = 123 :: (joinTo (fun i => quo (sb (T.nm i)) ++ 58 :: enc n (T.vl i)) T.mems.length ++ [125]) := by simp only [enc]; rw [if_neg (by omega), if_pos h]
theorem enc_sca {n : Nat} {T : Tr} (h1 : ¬ T.kind = 1) (h2 : ¬ T.kind = 2) : enc (n + 1) T = T.text := by simp only [enc]; rw [if_neg h1, if_neg h2]
theorem dom_arr {n : Nat} {T : Tr} (h : T.kind = 1) : dom (n + 1) T = allTo (fun i => dom n (T.el i)) T.elems.length := by simp only [dom]; rw [if_pos h]
theorem dom_obj {n : Nat} {T : Tr} (h : T.kind = 2) : dom (n + 1) T = allTo (fun i => dom n (T.vl i)) T.mems.length := by simp only [dom]; rw [if_neg (by omega), if_pos h]
theorem dom_sca {n : Nat} {T : Tr} (h1 : ¬ T.kind = 1) (h2 : ¬ T.kind = 2) : dom (n + 1) T = sok T.text := by simp only [dom]; rw [if_neg h1, if_neg h2]

theorem wt_el {n : Nat} {T : Tr} {k : Nat} (hk : k < T.elems.length) : wt n (T.el k) + sumTo (fun i => wt n (T.el i)) k ≤ sumTo (fun i => wt n (T.el i)) T.elems.length := by
  have := sumTo_le (fun i => wt n (T.el i)) (k := k + 1) (m := T.elems.length) hk
  simp only [sumTo] at this
  omega

set_option maxHeartbeats 1000000 in
theorem apt_arr (n : Nat) (ih : AptSaid n) (T : Tr) (B b o cap eb eo : Nat) (c1 c3 v : Value) (xs : List Int) (w : World)
    (hk : T.kind = 1) (hbB : b < B) (hf : Four w b o (.int .u8 T.kind) c1 (.slice (some ⟨eb, eo, none⟩) T.elems.length cap) c3) (heb : eb < B)
    (hP : ∀ i, i < T.elems.length → ∃ d0 d1 d2 d3, Four w eb (eo + i * 4) d0 d1 d2 d3 ∧ NodeS (· < B) n w d0 d1 d2 d3 (T.el i))
    (hB : B ≤ w.heap.size) (hd : dom (n + 1) T = true) (hw : wt (n + 1) T ≤ 1048576) (hx : xs.length + 8 * wt (n + 1) T ≤ 1073741824) (hD : Dst B w v xs) :
    Calls Try.prog 23 #[.pointer (some ⟨b, o, none⟩), v] w fun e w' => ∃ v', e = .returned v' ∧ OwnB B w' v' (xs ++ enc (n + 1) T) ∧ Below B w w' := by
  have IH : Hid (AptSaid n) := ih
  have HP : Hid (∀ i, i < T.elems.length → At (· < B) n w eb (eo + i * 4) (T.el i)) := fun i hi => by
    obtain ⟨d0, d1, d2, d3, h1, h2⟩ := hP i hi
    exact ⟨heb, d0, d1, d2, d3, h1, h2⟩
  have HDM : Hid (∀ i, i < T.elems.length → dom n (T.el i) = true) := (allTo_iff _ _).1 ((dom_arr hk).symm.trans hd)
  have HW : Hid (wt (n + 1) T = 1 + T.text.length + T.elems.length + sumTo (fun i => wt n (T.el i)) T.elems.length + T.mems.length + sumTo (fun i => (T.nm i).size + wt n (T.vl i)) T.mems.length) := rfl
  have HE : Hid (enc (n + 1) T = 91 :: (joinTo (fun i => enc n (T.el i)) T.elems.length ++ [93])) := enc_arr hk
  have hml : T.elems.length ≤ 1048576 := by have := HW.out; omega
  have hxl : xs.length ≤ 1073741820 := by have := HW.out; omega
  obtain ⟨f0, f1, f2, f3⟩ := hf
  have hk1 : (T.kind == 1) = true := by simp [hk]
  clear ih hP hd hk f1 f3
  go_enter Try.func23, Try.ntmps23
  go_wp2_with (at_builtin; refine wpList_append_dst _ rfl _ _ rfl B v xs rfl (hD.alloc _) ⟨w.heap.size, 0, none⟩ 1 1 [91] rfl rfl ?c1 (by decide) ?c2 ?c3 ?_)
  case c1 => first | exact news_at w [91] | exact fun _ _ h => h
  case c2 => omega
  case c3 => first | omega | (simp; omega)
  intro v1 w1 ho1 hb1
  have hB1 : Below B w w1 := ((Below.refl B w).alloc hB _).trans hb1
  have ho : OwnB B w1 v1 (xs ++ [91] ++ joinTo (fun i => enc n (T.el i)) 0) := by simpa [joinTo] using ho1
  have g2 : w1.cell? ⟨b, o + 2, none⟩ = some (.slice (some ⟨eb, eo, none⟩) T.elems.length cap) := (hB1.cell (p := ⟨b, o + 2, none⟩) hbB).trans f2
  clear ho1 hb1 hD
  go_wp2_with fail
  go_loopw [1, 27] (fun v i wr => ∃ k : Nat, k ≤ T.elems.length ∧ i = .int .i64 k ∧ OwnB B wr v (xs ++ [91] ++ joinTo (fun i => enc n (T.el i)) k) ∧ Below B w wr) (fun _ i _ => T.elems.length - (intOf i).toNat)
  case atStart => exact ⟨0, Nat.zero_le _, rfl, ho, hB1⟩
  case round =>
    clear ho hB1 g2
    obtain ⟨k, hk, rfl, hown, hnx⟩ := hrel
    have hsz := hnx.size
    have g2 : wr.cell? ⟨b, o + 2, none⟩ = some (.slice (some ⟨eb, eo, none⟩) T.elems.length cap) := (hnx.cell (p := ⟨b, o + 2, none⟩) hbB).trans f2
    have hjl := joinTo_length (fun i => enc n (T.el i)) (fun i => wt n (T.el i)) 0 T.elems.length (fun i _ => enc_length _ _) k hk
    have hjs := sumTo_le (fun i => wt n (T.el i)) hk
    have hlen : (xs ++ [91] ++ joinTo (fun i => enc n (T.el i)) k).length ≤ 1073741824 := by
      simp only [List.length_append, List.length_cons, List.length_nil]
      have := HW.out
      omega
    obtain ⟨L, hL⟩ : ∃ L, L = xs ++ [91] ++ joinTo (fun i => enc n (T.el i)) k := ⟨_, rfl⟩
    rw [← hL] at hown hlen
    by_cases hlt : k < T.elems.length
    · have HA : Hid (At (· < B) n wr eb (eo + k * 4) (T.el k)) := (HP.out k hlt).below hnx
      have HM := HDM.out k hlt
      have hwe := wt_el (n := n) hlt
      have hwk : wt n (T.el k) ≤ 1048576 := by have := HW.out; omega
      have hLk : L.length + 1 + 8 * wt n (T.el k) ≤ 1073741824 := by
        rw [hL]
        simp only [List.length_append, List.length_cons, List.length_nil]
        have := HW.out
        omega
      have HLL : Hid (L = xs ++ [91] ++ joinTo (fun i => enc n (T.el i)) k) := hL
      clear hL hjl hjs hwe
      have i1 : (k : Int) < (T.elems.length : Int) := by omega
      by_cases h0 : k = 0
      · have d0 : decide ((0 : Int) < (k : Int)) = false := by simp; omega
        have HJ : Hid (xs ++ [91] ++ joinTo (fun i => enc n (T.el i)) (k + 1) = L ++ enc n (T.el k)) := show _ = _ by rw [HLL.out]; simp [joinTo, h0]
        have h0' : (k : Int) ≤ 0 := by omega
        clear h0
        go_wp2_with fail
        refine (IH.out (T.el k) B eb (eo + k * 4) _ L wr HA.out (by omega) HM hwk (by omega) hown.dst).mono ?_
        rintro e w3 ⟨v3, rfl, ho3, hb4⟩
        rw [← HJ.out] at ho3
        have hb5 : Below B w w3 := hnx.trans hb4
        clear hb4 hown hnx
        go_wp2_with fail
        go_roundw
        case rel => exact ⟨k + 1, by omega, by go_num, ho3, hb5⟩
        case measure => simp [intOf]; omega
      · have d0 : decide ((0 : Int) < (k : Int)) = true := by simp; omega
        have HJ : Hid (xs ++ [91] ++ joinTo (fun i => enc n (T.el i)) (k + 1) = L ++ [44] ++ enc n (T.el k)) := show _ = _ by rw [HLL.out]; simp [joinTo, h0]
        have h0' : 0 < (k : Int) := by omega
        clear h0
        go_wp2_with (at_builtin; refine wpList_append_dst _ rfl _ _ rfl B _ L rfl (hown.allocd _) ⟨wr.heap.size, 0, none⟩ 1 1 [44] rfl rfl ?c1 (by decide) ?c2 ?c3 ?_)
        case c1 => first | exact news_at wr [44] | exact fun _ _ h => h
        case c2 => omega
        case c3 => first | omega | (simp; omega)
        intro v2 w2 ho2 hb2
        have hb3 : Below B wr w2 := ((Below.refl B wr).alloc (by omega) _).trans hb2
        have g3 : w2.cell? ⟨b, o + 2, none⟩ = some (.slice (some ⟨eb, eo, none⟩) T.elems.length cap) := (hb3.cell (p := ⟨b, o + 2, none⟩) hbB).trans g2
        have hsz3 := hb3.size
        have HA2 : Hid (At (· < B) n w2 eb (eo + k * 4) (T.el k)) := HA.out.below hb3
        clear hb2 HA
        go_wp2_with fail
        refine (IH.out (T.el k) B eb (eo + k * 4) _ (L ++ [44]) w2 HA2.out (by omega) HM hwk (by simp; omega) ho2.dst).mono ?_
        rintro e w3 ⟨v3, rfl, ho3, hb4⟩
        rw [← HJ.out] at ho3
        have hb5 : Below B w w3 := (hnx.trans hb3).trans hb4
        clear hb4 hown hnx hb3 ho2
        go_wp2_with fail
        go_roundw
        case rel => exact ⟨k + 1, by omega, by go_num, ho3, hb5⟩
        case measure => simp [intOf]; omega
    · have hkl : k = T.elems.length := by omega
      subst hkl
      have HJ : Hid (L ++ [93] = xs ++ enc (n + 1) T) := show _ = _ by rw [hL, HE.out]; simp
      clear hL hjl hjs
      go_wp2_with (at_builtin; refine wpList_append_dst _ rfl _ _ rfl B _ L rfl (hown.allocd _) ⟨wr.heap.size, 0, none⟩ 1 1 [93] rfl rfl ?c1 (by decide) ?c2 ?c3 ?_)
      case c1 => first | exact news_at wr [93] | exact fun _ _ h => h
      case c2 => omega
      case c3 => first | omega | (simp; omega)
      intro v2 w2 ho2 hb2
      have hb3 : Below B w w2 := (hnx.alloc (by omega) _).trans hb2
      rw [HJ.out] at ho2
      clear hb2
      go_wp2_with fail
      go_ret
      exact ⟨_, rfl, ho2, hb3⟩

end Go.Proofs.Qxb6605240a
