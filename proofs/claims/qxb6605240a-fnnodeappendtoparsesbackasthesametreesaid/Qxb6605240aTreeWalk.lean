/-
  ZZAppendNodeTo, and FnNodeAppendToParsesBackAsTheSameTree: the walk.
-/
import Derived.Test.Qxb6605240aParseAll
import Derived.Test.Qxb6605240aAptAll
import Derived.Test.Qxb6605240aTb
import Derived.Test.Qxb6605240aToJNil
import Derived.Test.Qxb6605240aNofNil
namespace Go.Proofs.Qxb6605240a
open Go.RowKit Plain

theorem node_boxed {S : Nat → Prop} {n : Nat} {w : World} {c0 c1 c2 c3 : Value} {T : Tr} (t : TypeId) (h : NodeS S n w c0 c1 c2 c3 T) (hS : ∀ b, S b → b < w.heap.size) :
    At (· < w.heap.size + 1) n (w.alloc (.cells #[c0, c1, c2, c3] t)) w.heap.size 0 T := by
  have hb := Blk.new w [c0, c1, c2, c3] t
  exact ⟨Nat.lt_succ_self _, c0, c1, c2, c3, ⟨hb.cell 0, hb.cell 1, hb.cell 2, hb.cell 3⟩, h.carry (same_new _ hS) (fun b hb => Nat.lt_succ_of_lt (hS b hb))⟩

set_option maxHeartbeats 1000000 in
theorem append_node (n : Nat) (T : Tr) (B b o : Nat) (ao : Option Addr) (xs : List Int) (w : World) (hA : At (· < B) n w b o T) (hB : B ≤ w.heap.size) (hd : dom n T = true) (hw : wt n T ≤ 1048576) (hl : xs.length ≤ 65536) (hno : ao = none → xs = []) (hx : Has w ao xs) :
    Calls Try.prog 17 #[.pointer (some ⟨b, o, none⟩), .slice ao xs.length xs.length] w fun e w' => ∃ bW oW cW, e = .returned (.slice (some ⟨bW, oW, none⟩) (xs ++ enc n T).length cW) ∧ HasAt w' bW oW (xs ++ enc n T) ∧ ((xs ++ enc n T).length ≤ cW ∧ cW ≤ maxLen) ∧ Below w.heap.size w w' := by
  have HA : Hid (At (· < B) n w b o T) := hA
  have HX : Hid (Has w ao xs) := hx
  have HNO : Hid (ao = none → xs = []) := hno
  have HD : Hid (dom n T = true) := hd
  clear hA hx hno hd
  go_enter Try.func17, Try.ntmps17
  go_wp2_with fail
  refine (nof_any n T B b o w HA.out hB hw).mono ?_
  rintro e w1 ⟨a1, k1, a2, k2, a3, k3, rfl, hN, hb1⟩
  have s1 := hb1.size
  have HN : Hid (At (· < w1.heap.size + 1) n (w1.alloc (.cells #[.int .u8 T.kind, .slice a1 T.text.length k1, .slice a2 T.elems.length k2, .slice a3 T.mems.length k3] 62)) w1.heap.size 0 T) := node_boxed 62 hN (fun b h => by unfold Rg at h; omega)
  clear hN
  go_wp2_with fail
  refine (apt_any n T (w1.heap.size + 1) w1.heap.size 0 _ xs _ HN.out (by simp) HD.out hw (by omega) (Has.dst ((HX.out.later hb1).later ((Below.refl _ _).alloc (Nat.le_refl _) _)) HNO.out)).mono ?_
  rintro e w3 ⟨v', rfl, ho, hb3⟩
  have HO : Hid (∃ bW oW cW, v' = .slice (some ⟨bW, oW, none⟩) (xs ++ enc n T).length cW ∧ HasAt w3 bW oW (xs ++ enc n T) ∧ ((xs ++ enc n T).length ≤ cW ∧ cW ≤ maxLen)) := by
    obtain ⟨ao', cap, rfl, _, hh | ⟨bW, oW, rfl, hc⟩, h3, h4⟩ := ho.has
    · obtain ⟨q, r, hq, _⟩ := enc_head HD.out
      rw [hq] at hh
      simp at hh
    · exact ⟨bW, oW, cap, rfl, hc, h3, h4⟩
  have HB3 : Hid (Below w.heap.size w w3) := (hb1.alloc hb1.size _).trans (hb3.mono (by omega))
  clear ho hb3
  go_wp2_with fail
  go_ret
  obtain ⟨bW, oW, cW, e1, e2, e3⟩ := HO.out
  exact ⟨bW, oW, cW, congrArg Ending.returned e1, e2, e3, HB3.out⟩

set_option maxHeartbeats 1000000 in
theorem tree_early (c0 c1 c2 c3 : Value) (ao : Option Addr) (m cap : Nat) (w : World) (h : 65536 < m) :
    Calls Try.prog 5 #[.agg #[c0, c1, c2, c3], .slice ao m cap] w fun e w' => e = .returned (.bool true) ∧ Below w.heap.size w w' := by
  have d1 : decide ((65536 : Int) < (m : Int)) = true := by simp; omega
  go_enter Try.func5, Try.ntmps5
  go_wp2_with fail
  go_ret
  exact ⟨rfl, (Below.refl _ w).alloc (Nat.le_refl _) _⟩

set_option maxHeartbeats 4000000 in
theorem tree_walk (n : Nat) (T : Tr) (c0 c1 c2 c3 : Value) (ao : Option Addr) (cap : Nat) (xs : List Int) (w : World) (hN : NodeS (· < w.heap.size) n w c0 c1 c2 c3 T) (hl : xs.length ≤ 65536) (hno : ao = none → xs = []) (hx : Has w ao xs) :
    Calls Try.prog 5 #[.agg #[c0, c1, c2, c3], .slice ao xs.length cap] w fun e w' => e = .returned (.bool true) ∧ Below w.heap.size w w' := by
  have HA : Hid (At (· < w.heap.size + 1) n (w.alloc (.cells #[c0, c1, c2, c3] 34)) w.heap.size 0 T) := node_boxed 34 hN (fun _ h => h)
  have HX : Hid (Has w ao xs) := hx
  have HNO : Hid (ao = none → xs = []) := hno
  have d1 : decide ((65536 : Int) < (xs.length : Int)) = false := by simp; omega
  have hb1 : Below w.heap.size w (w.alloc (.cells #[c0, c1, c2, c3] 34)) := (Below.refl _ w).alloc (Nat.le_refl _) _
  have hs1 : (w.alloc (.cells #[c0, c1, c2, c3] 34)).heap.size = w.heap.size + 1 := by simp
  clear hN hx hno
  go_enter Try.func5, Try.ntmps5
  go_wp2_with fail
  generalize hw1 : w.alloc (.cells #[c0, c1, c2, c3] 34) = w1 at *
  clear hw1
  refine (tb_any n T (w.heap.size + 1) w.heap.size 0 w1 (1048576 - xs.length) HA.out (by omega) (by omega)).mono ?_
  rintro e w1 ⟨⟨r, rfl, hr⟩, rfl⟩
  rcases hr with rfl | ⟨hr0, hrw⟩
  · go_wp2_with fail
    go_ret
    exact ⟨rfl, hb1⟩
  have hw : wt n T ≤ 1048576 := by omega
  have dr : decide (r < 0) = false := by simp; omega
  clear hrw
  go_wp2_with fail
  refine (dom_any n T (w.heap.size + 1) w.heap.size 0 w1 HA.out (by omega) hw).mono ?_
  rintro e w2 ⟨rfl, hb2⟩
  obtain ⟨d, hd⟩ : ∃ d, d = dom n T := ⟨_, rfl⟩
  rw [← hd]
  have hb02 : Below w.heap.size w w2 := hb1.trans (hb2.mono hb1.size)
  cases d with
  | false =>
    clear hd
    go_wp2_with fail
    go_ret
    exact ⟨rfl, hb02⟩
  | true =>
    have HD : Hid (dom n T = true) := hd.symm
    have s2 := hb2.size
    have HA2 : Hid (At (· < w.heap.size + 1) n w2 w.heap.size 0 T) := HA.out.below (hb2.mono (by omega))
    clear hd HA
    go_wp2_with fail
    refine (clone_any w2 ao cap xs (by omega) HNO.out (HX.out.later hb02)).mono ?_
    rintro e w3 ⟨ao', rfl, hno3, hx3, hb3⟩
    have s3 := hb3.size
    have hb03 : Below w.heap.size w w3 := hb02.trans (hb3.mono hb02.size)
    have HA3 : Hid (At (· < w.heap.size + 1) n w3 w.heap.size 0 T) := HA2.out.below (hb3.mono (by omega))
    have HNO3 : Hid (ao' = none → xs = []) := hno3
    have HX3 : Hid (Has w3 ao' xs) := hx3
    clear hno3 hx3 hb3 hb02 HA2 hb2
    go_wp2_with fail
    refine (toj_any n T (w.heap.size + 1) w.heap.size 0 w3 HA3.out (by omega) hw).mono ?_
    rintro e w4 ⟨a1, k1, a2, k2, a3, k3, rfl, hN4, hb4⟩
    have s4 := hb4.size
    have HJ : Hid (At (· < w4.heap.size + 1) n (w4.alloc (.cells #[.int .u8 T.kind, .slice a1 T.text.length k1, .slice a2 T.elems.length k2, .slice a3 T.mems.length k3] 41)) w4.heap.size 0 T) := node_boxed 41 hN4 (fun b h => by unfold Rg at h; omega)
    have hb5 : Below w3.heap.size w3 (w4.alloc (.cells #[.int .u8 T.kind, .slice a1 T.text.length k1, .slice a2 T.elems.length k2, .slice a3 T.mems.length k3] 41)) := hb4.alloc hb4.size _
    have s5 : (w4.alloc (.cells #[.int .u8 T.kind, .slice a1 T.text.length k1, .slice a2 T.elems.length k2, .slice a3 T.mems.length k3] 41)).heap.size = w4.heap.size + 1 := by simp
    clear hN4 hb4
    go_wp2_with fail
    generalize hw5 : w4.alloc (.cells #[.int .u8 T.kind, .slice a1 T.text.length k1, .slice a2 T.elems.length k2, .slice a3 T.mems.length k3] 41) = w5 at *
    clear hw5
    have hb05 : Below w.heap.size w w5 := hb03.trans (hb5.mono hb03.size)
    have HX5 : Hid (Has w5 ao' xs) := HX3.out.later hb5
    have HA5 : Hid (At (· < w.heap.size + 1) n w5 w.heap.size 0 T) := HA3.out.below (hb5.mono (by omega))
    refine (append_node n T (w4.heap.size + 1) w4.heap.size 0 ao' xs w5 HJ.out (by omega) HD.out hw hl HNO3.out HX5.out).mono ?_
    obtain ⟨W, hW⟩ : ∃ W, W = xs ++ enc n T := ⟨_, rfl⟩
    rw [← hW]
    rintro e w6 ⟨bW, oW, cW, rfl, hcW, hcap, hb6⟩
    have s6 := hb6.size
    have hb06 : Below w.heap.size w w6 := hb05.trans (hb6.mono hb05.size)
    have HX6 : Hid (Has w6 ao' xs) := HX5.out.later hb6
    have HA6 : Hid (At (· < w.heap.size + 1) n w6 w.heap.size 0 T) := HA5.out.below (hb6.mono (by omega))
    have hWl : W.length = xs.length + (enc n T).length := by rw [hW]; simp
    have hel := enc_length n T
    have hne : 0 < (enc n T).length := by obtain ⟨q, r, g1, _⟩ := enc_head HD.out; rw [g1]; simp
    have hpre : Hid (∀ j, j < xs.length → nth W j = nth xs j) := fun j hj => by rw [hW, nth_left hj]
    have HW : Hid (W = xs ++ (enc n T ++ [])) := show W = _ by rw [hW, List.append_nil]
    have HWL : Hid (W.length = xs.length + (enc n T).length) := hWl
    have HCW : Hid (HasAt w6 bW oW W) := hcW
    have hWm : W.length ≤ 1073741824 := by omega
    have hxW : xs.length ≤ W.length := by omega
    have hW0 : 0 < W.length := by omega
    clear hW hWl hel hne hcW hb6 hb5 hb03 hb05
    go_wp2_with fail
    refine (prefix_any w6 bW oW cW ao' _ W xs HCW.out HX6.out (by omega) hWm hpre.out).mono ?_
    rintro e w7 ⟨rfl, hb7⟩
    have s7 := hb7.size
    have hb07 : Below w.heap.size w w7 := hb06.trans (hb7.mono hb06.size)
    have HA7 : Hid (At (· < w.heap.size + 1) n w7 w.heap.size 0 T) := HA6.out.below (hb7.mono (by omega))
    have HC7 : Hid (HasAt w7 bW oW W) := HCW.out.later hb7
    clear HCW HX6 HA6 hb06 hb7
    obtain ⟨X, hX⟩ : ∃ X, X = strip n T := ⟨_, rfl⟩
    have HP : Hid (Calls Try.prog 18 #[.slice (some ⟨bW, oW, none⟩) W.length cW, .int .i64 xs.length] w7 fun e w' => ∃ a1 k1 a2 k2 a3 k3, e = .returned (.tuple #[.agg #[.int .u8 X.kind, .slice a1 X.text.length k1, .slice a2 X.elems.length k2, .slice a3 X.mems.length k3], .int .i64 (W.length : Nat), .bool true]) ∧
      NodeS (Rg w7.heap.size w7.heap.size w'.heap.size) n w' (.int .u8 X.kind) (.slice a1 X.text.length k1) (.slice a2 X.elems.length k2) (.slice a3 X.mems.length k3) X ∧ Below w7.heap.size w7 w') := by
      have h := parse_any n T w7.heap.size bW oW cW xs.length W xs [] w7 HW.out rfl (.inl rfl) HD.out hw hWm HC7.out hcap.1 hcap.2 (cell_lt (HC7.out 0 hW0)) (Nat.le_refl _)
      rw [← HWL.out] at h
      rw [hX]
      exact h
    have HXX : Hid (X = strip n T) := hX
    clear hX
    go_wp2_with fail
    refine HP.out.mono ?_
    rintro e w8 ⟨a1, k1, a2, k2, a3, k3, rfl, hN8, hb8⟩
    have s8 := hb8.size
    have hb08 : Below w.heap.size w w8 := hb07.trans (hb8.mono hb07.size)
    have HA8 : Hid (At (· < w.heap.size + 1) n w8 w.heap.size 0 T) := HA7.out.below (hb8.mono (by omega))
    have HG : Hid (At (· < w8.heap.size + 1) n (w8.alloc (.cells #[.int .u8 X.kind, .slice a1 X.text.length k1, .slice a2 X.elems.length k2, .slice a3 X.mems.length k3] 34)) w8.heap.size 0 X) := node_boxed 34 hN8 (fun b h => by unfold Rg at h; omega)
    have hb09 : Below w.heap.size w (w8.alloc (.cells #[.int .u8 X.kind, .slice a1 X.text.length k1, .slice a2 X.elems.length k2, .slice a3 X.mems.length k3] 34)) := hb08.alloc (by omega) _
    have HA9 : Hid (At (· < w.heap.size + 1) n (w8.alloc (.cells #[.int .u8 X.kind, .slice a1 X.text.length k1, .slice a2 X.elems.length k2, .slice a3 X.mems.length k3] 34)) w.heap.size 0 T) := HA8.out.carry (same_new _ (fun b h => by omega)) (fun _ h => h)
    clear hN8 hb8 hb08 HP HC7
    go_wp2_with fail
    refine (same_any n _ _ T w.heap.size 0 w8.heap.size 0 _ HA9.out (by rw [← HXX.out]; exact HG.out) hw).mono ?_
    rintro e w9 ⟨rfl, k9, rfl⟩
    go_wp2_with fail
    go_ret
    exact ⟨rfl, ⟨hb09.os, hb09.tape, hb09.output, hb09.size, hb09.block⟩⟩

end Go.Proofs.Qxb6605240a
