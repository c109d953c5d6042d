/-
  (*node).appendTo walked: objects.
-/
import Derived.Test.Qxb6605240aApt
namespace Go.Proofs.Qxb6605240a
open Go.RowKit Plain

theorem wt_vl {n : Nat} {T : Tr} {k : Nat} (hk : k < T.mems.length) : (T.nm k).size + wt n (T.vl k) + sumTo (fun i => (T.nm i).size + wt n (T.vl i)) k ≤ sumTo (fun i => (T.nm i).size + wt n (T.vl i)) T.mems.length := by
  have := sumTo_le (fun i => (T.nm i).size + wt n (T.vl i)) (k := k + 1) (m := T.mems.length) hk
  simp only [sumTo] at this
  omega

set_option maxHeartbeats 2000000 in
theorem apt_obj (n : Nat) (ih : AptSaid n) (T : Tr) (B b o cap mb mo : Nat) (c1 c2 v : Value) (xs : List Int) (w : World)
    (hk : T.kind = 2) (hbB : b < B) (hf : Four w b o (.int .u8 T.kind) c1 c2 (.slice (some ⟨mb, mo, none⟩) T.mems.length cap)) (hmb : mb < B)
    (hN : ∀ i, i < T.mems.length → w.cell? ⟨mb, mo + i * 7, none⟩ = some (.string (T.nm i)))
    (hP : ∀ i, i < T.mems.length → At (· < B) n w mb (mo + i * 7 + 3) (T.vl i))
    (hB : B ≤ w.heap.size) (hd : dom (n + 1) T = true) (hw : wt (n + 1) T ≤ 1048576) (hx : xs.length + 8 * wt (n + 1) T ≤ 1073741824) (hD : Dst B w v xs) :
    Calls Try.prog 23 #[.pointer (some ⟨b, o, none⟩), v] w fun e w' => ∃ v', e = .returned v' ∧ OwnB B w' v' (xs ++ enc (n + 1) T) ∧ Below B w w' := by
  have IH : Hid (AptSaid n) := ih
  have HP : Hid (∀ i, i < T.mems.length → At (· < B) n w mb (mo + i * 7 + 3) (T.vl i)) := hP
  have HN : Hid (∀ i, i < T.mems.length → w.cell? ⟨mb, mo + i * 7, none⟩ = some (.string (T.nm i))) := hN
  have HDM : Hid (∀ i, i < T.mems.length → dom n (T.vl i) = true) := (allTo_iff _ _).1 ((dom_obj hk).symm.trans hd)
  have HW : Hid (wt (n + 1) T = 1 + T.text.length + T.elems.length + sumTo (fun i => wt n (T.el i)) T.elems.length + T.mems.length + sumTo (fun i => (T.nm i).size + wt n (T.vl i)) T.mems.length) := rfl
  have HE : Hid (enc (n + 1) T = 123 :: (joinTo (fun i => quo (sb (T.nm i)) ++ 58 :: enc n (T.vl i)) T.mems.length ++ [125])) := enc_obj hk
  have hml : T.mems.length ≤ 1048576 := by have := HW.out; omega
  have hxl : xs.length ≤ 1073741820 := by have := HW.out; omega
  obtain ⟨f0, f1, f2, f3⟩ := hf
  have hk1 : (T.kind == 1) = false := by simp [hk]
  have hk2 : (T.kind == 2) = true := by simp [hk]
  clear ih hP hN hd hk f1 f2
  go_enter Try.func23, Try.ntmps23
  go_wp2_with (at_builtin; refine wpList_append_dst _ rfl _ _ rfl B v xs rfl (hD.alloc _) ⟨w.heap.size, 0, none⟩ 1 1 [123] rfl rfl ?c1 (by decide) ?c2 ?c3 ?_)
  case c1 => first | exact news_at w [123] | exact fun _ _ h => h
  case c2 => omega
  case c3 => first | omega | (simp; omega)
  intro v1 w1 ho1 hb1
  have hB1 : Below B w w1 := ((Below.refl B w).alloc hB _).trans hb1
  have ho : OwnB B w1 v1 (xs ++ [123] ++ joinTo (fun i => quo (sb (T.nm i)) ++ 58 :: enc n (T.vl i)) 0) := by simpa [joinTo] using ho1
  have g2 : w1.cell? ⟨b, o + 3, none⟩ = some (.slice (some ⟨mb, mo, none⟩) T.mems.length cap) := (hB1.cell (p := ⟨b, o + 3, none⟩) hbB).trans f3
  clear ho1 hb1 hD
  go_wp2_with fail
  go_loopw [1, 57] (fun v i wr => ∃ k : Nat, k ≤ T.mems.length ∧ i = .int .i64 k ∧ OwnB B wr v (xs ++ [123] ++ joinTo (fun i => quo (sb (T.nm i)) ++ 58 :: enc n (T.vl i)) k) ∧ Below B w wr) (fun _ i _ => T.mems.length - (intOf i).toNat)
  case atStart => exact ⟨0, Nat.zero_le _, rfl, ho, hB1⟩
  case round =>
    clear ho hB1 g2
    obtain ⟨k, hk, rfl, hown, hnx⟩ := hrel
    have hsz := hnx.size
    have g2 : wr.cell? ⟨b, o + 3, none⟩ = some (.slice (some ⟨mb, mo, none⟩) T.mems.length cap) := (hnx.cell (p := ⟨b, o + 3, none⟩) hbB).trans f3
    have hjl := joinTo_length (fun i => quo (sb (T.nm i)) ++ 58 :: enc n (T.vl i)) (fun i => (T.nm i).size + wt n (T.vl i)) 3 T.mems.length (fun i _ => by
          have h1 := enc_length n (T.vl i)
          have h2 := quo_le (T.nm i)
          simp only [List.length_cons, List.length_append]
          omega) k hk
    have hjs := sumTo_le (fun i => (T.nm i).size + wt n (T.vl i)) hk
    have hlen : (xs ++ [123] ++ joinTo (fun i => quo (sb (T.nm i)) ++ 58 :: enc n (T.vl i)) k).length ≤ 1073741824 := by
      simp only [List.length_append, List.length_cons, List.length_nil]
      have := HW.out
      omega
    obtain ⟨L, hL⟩ : ∃ L, L = xs ++ [123] ++ joinTo (fun i => quo (sb (T.nm i)) ++ 58 :: enc n (T.vl i)) k := ⟨_, rfl⟩
    rw [← hL] at hown hlen
    by_cases hlt : k < T.mems.length
    · have gN : wr.cell? ⟨mb, mo + k * 7, none⟩ = some (.string (T.nm k)) := (hnx.cell (p := ⟨mb, mo + k * 7, none⟩) hmb).trans (HN.out k hlt)
      have HM := HDM.out k hlt
      have hwe := wt_vl (n := n) hlt
      have hq := quo_le (T.nm k)
      have hwk : wt n (T.vl k) ≤ 1048576 := by have := HW.out; omega
      have hnk : (T.nm k).size ≤ 1048576 := by have := HW.out; omega
      have hLk : L.length + 2 + (quo (sb (T.nm k))).length + 8 * wt n (T.vl k) ≤ 1073741824 := by
        rw [hL]
        simp only [List.length_append, List.length_cons, List.length_nil]
        have := HW.out
        omega
      have HLL : Hid (L = xs ++ [123] ++ joinTo (fun i => quo (sb (T.nm i)) ++ 58 :: enc n (T.vl i)) k) := hL
      clear hL hjl hjs hwe hq
      have i1 : (k : Int) < (T.mems.length : Int) := by omega
      by_cases h0 : k = 0
      · have h0' : (k : Int) ≤ 0 := by omega
        have HJ : Hid (xs ++ [123] ++ joinTo (fun i => quo (sb (T.nm i)) ++ 58 :: enc n (T.vl i)) (k + 1) = L ++ (quo (sb (T.nm k)) ++ 58 :: enc n (T.vl k))) := show _ = _ by rw [HLL.out]; simp [joinTo, h0]
        clear h0
        go_wp2_with fail
        refine (app_quo B _ L (T.nm k) wr (by omega) (by omega) (by omega) hown.dst).mono ?_
        rintro e w3 ⟨v3, rfl, ho3, hb4⟩
        have hsz4 := hb4.size
        have hb5 : Below B w w3 := hnx.trans hb4
        have g5 : w3.cell? ⟨b, o + 3, none⟩ = some (.slice (some ⟨mb, mo, none⟩) T.mems.length cap) := (hb5.cell (p := ⟨b, o + 3, none⟩) hbB).trans f3
        have hl3 : (L ++ quo (sb (T.nm k))).length + 1 + 8 * wt n (T.vl k) ≤ 1073741824 := by simp only [List.length_append]; omega
        obtain ⟨L3, hL3⟩ : ∃ L3, L3 = L ++ quo (sb (T.nm k)) := ⟨_, rfl⟩
        rw [← hL3] at ho3 hl3
        have HL3 : Hid (L3 = L ++ quo (sb (T.nm k))) := hL3
        clear hL3 hb4
        go_wp2_with (at_builtin; refine wpList_append_dst _ rfl _ _ rfl B _ L3 rfl (ho3.allocd _) ⟨w3.heap.size, 0, none⟩ 1 1 [58] rfl rfl ?c1a (by decide) ?c2a ?c3a ?_)
        case c1a => first | exact news_at w3 [58] | exact fun _ _ h => h
        case c2a => omega
        case c3a => first | omega | (simp; omega)
        intro v4 w4 ho4 hb6
        have hb7 : Below B w w4 := (hb5.alloc (by omega) _).trans hb6
        have hsz7 := hb7.size
        have g7 : w4.cell? ⟨b, o + 3, none⟩ = some (.slice (some ⟨mb, mo, none⟩) T.mems.length cap) := (hb7.cell (p := ⟨b, o + 3, none⟩) hbB).trans f3
        have HA : Hid (At (· < B) n w4 mb (mo + k * 7 + 3) (T.vl k)) := (HP.out k hlt).below hb7
        clear hb6 g5
        go_wp2_with fail
        refine (IH.out (T.vl k) B mb (mo + k * 7 + 3) _ (L3 ++ [58]) w4 HA.out (by omega) HM hwk (by simp; omega) ho4.dst).mono ?_
        rintro e w5 ⟨v5, rfl, ho5, hb8⟩
        rw [show L3 ++ [58] ++ enc n (T.vl k) = xs ++ [123] ++ joinTo (fun i => quo (sb (T.nm i)) ++ 58 :: enc n (T.vl i)) (k + 1) from by rw [HJ.out, HL3.out]; simp] at ho5
        have hb9 : Below B w w5 := hb7.trans hb8
        clear hb8 hb7 hb5 ho4 ho3
        go_wp2_with fail
        go_roundw
        case rel => exact ⟨k + 1, by omega, by go_num, ho5, hb9⟩
        case measure => simp [intOf]; omega
      · have h0' : 0 < (k : Int) := by omega
        have HJ : Hid (xs ++ [123] ++ joinTo (fun i => quo (sb (T.nm i)) ++ 58 :: enc n (T.vl i)) (k + 1) = L ++ [44] ++ (quo (sb (T.nm k)) ++ 58 :: enc n (T.vl k))) := show _ = _ by rw [HLL.out]; simp [joinTo, h0]
        clear h0
        go_wp2_with (at_builtin; refine wpList_append_dst _ rfl _ _ rfl B _ L rfl (hown.allocd _) ⟨wr.heap.size, 0, none⟩ 1 1 [44] rfl rfl ?c1 (by decide) ?c2 ?c3 ?_)
        case c1 => first | exact news_at wr [44] | exact fun _ _ h => h
        case c2 => omega
        case c3 => first | omega | (simp; omega)
        intro v2 w2 ho2 hb2
        have hb3 : Below B wr w2 := ((Below.refl B wr).alloc (by omega) _).trans hb2
        have g3 : w2.cell? ⟨b, o + 3, none⟩ = some (.slice (some ⟨mb, mo, none⟩) T.mems.length cap) := (hb3.cell (p := ⟨b, o + 3, none⟩) hbB).trans g2
        have gN2 : w2.cell? ⟨mb, mo + k * 7, none⟩ = some (.string (T.nm k)) := (hb3.cell (p := ⟨mb, mo + k * 7, none⟩) hmb).trans gN
        have hsz3 := hb3.size
        have hL44 : (L ++ [44]).length = L.length + 1 := by simp
        clear hb2
        go_wp2_with fail
        refine (app_quo B _ (L ++ [44]) (T.nm k) w2 (by omega) (by rw [hL44]; omega) (by omega) ho2.dst).mono ?_
        rintro e w3 ⟨v3, rfl, ho3, hb4⟩
        have hsz4 := hb4.size
        have hb5 : Below B w w3 := (hnx.trans hb3).trans hb4
        have g5 : w3.cell? ⟨b, o + 3, none⟩ = some (.slice (some ⟨mb, mo, none⟩) T.mems.length cap) := (hb5.cell (p := ⟨b, o + 3, none⟩) hbB).trans f3
        have hl3 : ((L ++ [44]) ++ quo (sb (T.nm k))).length + 1 + 8 * wt n (T.vl k) ≤ 1073741824 := by simp only [List.length_append, List.length_cons, List.length_nil]; omega
        obtain ⟨L3, hL3⟩ : ∃ L3, L3 = (L ++ [44]) ++ quo (sb (T.nm k)) := ⟨_, rfl⟩
        rw [← hL3] at ho3 hl3
        have HL3 : Hid (L3 = (L ++ [44]) ++ quo (sb (T.nm k))) := hL3
        clear hL3 hb4
        go_wp2_with (at_builtin; refine wpList_append_dst _ rfl _ _ rfl B _ L3 rfl (ho3.allocd _) ⟨w3.heap.size, 0, none⟩ 1 1 [58] rfl rfl ?c1b (by decide) ?c2b ?c3b ?_)
        case c1b => first | exact news_at w3 [58] | exact fun _ _ h => h
        case c2b => omega
        case c3b => first | omega | (simp; omega)
        intro v4 w4 ho4 hb6
        have hb7 : Below B w w4 := (hb5.alloc (by omega) _).trans hb6
        have hsz7 := hb7.size
        have g7 : w4.cell? ⟨b, o + 3, none⟩ = some (.slice (some ⟨mb, mo, none⟩) T.mems.length cap) := (hb7.cell (p := ⟨b, o + 3, none⟩) hbB).trans f3
        have HA : Hid (At (· < B) n w4 mb (mo + k * 7 + 3) (T.vl k)) := (HP.out k hlt).below hb7
        clear hb6 g5
        go_wp2_with fail
        refine (IH.out (T.vl k) B mb (mo + k * 7 + 3) _ (L3 ++ [58]) w4 HA.out (by omega) HM hwk (by simp; omega) ho4.dst).mono ?_
        rintro e w5 ⟨v5, rfl, ho5, hb8⟩
        rw [show L3 ++ [58] ++ enc n (T.vl k) = xs ++ [123] ++ joinTo (fun i => quo (sb (T.nm i)) ++ 58 :: enc n (T.vl i)) (k + 1) from by rw [HJ.out, HL3.out]; simp] at ho5
        have hb9 : Below B w w5 := hb7.trans hb8
        clear hb8 hb7 hb5 ho4 ho3
        go_wp2_with fail
        go_roundw
        case rel => exact ⟨k + 1, by omega, by go_num, ho5, hb9⟩
        case measure => simp [intOf]; omega
    · have hkl : k = T.mems.length := by omega
      subst hkl
      have HJ : Hid (L ++ [125] = xs ++ enc (n + 1) T) := show _ = _ by rw [hL, HE.out]; simp
      clear hL hjl hjs
      go_wp2_with (at_builtin; refine wpList_append_dst _ rfl _ _ rfl B _ L rfl (hown.allocd _) ⟨wr.heap.size, 0, none⟩ 1 1 [125] rfl rfl ?c1 (by decide) ?c2 ?c3 ?_)
      case c1 => first | exact news_at wr [125] | exact fun _ _ h => h
      case c2 => omega
      case c3 => first | omega | (simp; omega)
      intro v2 w2 ho2 hb2
      have hb3 : Below B w w2 := (hnx.alloc (by omega) _).trans hb2
      rw [HJ.out] at ho2
      clear hb2
      go_wp2_with fail
      go_ret
      exact ⟨_, rfl, ho2, hb3⟩

end Go.Proofs.Qxb6605240a
