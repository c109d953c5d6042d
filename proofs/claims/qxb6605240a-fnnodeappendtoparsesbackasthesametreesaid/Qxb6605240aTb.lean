/-
  zzTreeBytes walked: -1, or what is left of the budget: at most the budget less the tree's weight.
-/
import Derived.Test.Qxb6605240aDom
namespace Go.Proofs.Qxb6605240a
open Go.RowKit Plain

def TbPost (n : Nat) (T : Tr) (bud : Int) (e : Ending) : Prop := ∃ r : Int, e = .returned (.int .i64 r) ∧ (r = -1 ∨ (0 ≤ r ∧ r + wt n T ≤ bud))
theorem TbPost.no {n : Nat} {T : Tr} {bud : Int} : TbPost n T bud (.returned (.int .i64 (-1))) := ⟨-1, rfl, .inl rfl⟩
theorem TbPost.yes {n : Nat} {T : Tr} {bud r : Int} (h0 : 0 ≤ r) (h : r + wt n T ≤ bud) : TbPost n T bud (.returned (.int .i64 r)) := ⟨r, rfl, .inr ⟨h0, h⟩⟩

def TbSaid (n : Nat) : Prop := ∀ (T : Tr) (B b o : Nat) (w : World) (bud : Int), At (· < B) n w b o T → 0 ≤ bud → bud ≤ 1048576 →
  Calls Try.prog 14 #[.pointer (some ⟨b, o, none⟩), .int .i64 bud] w fun e w' => TbPost n T bud e ∧ w' = w

set_option maxRecDepth 100000 in
set_option maxHeartbeats 4000000 in
theorem tb_succ (n : Nat) (ih : TbSaid n) : TbSaid (n + 1) := by
  intro T B b o w bud ha hb0 hb1
  have IH : Hid (TbSaid n) := ih
  have HW : Hid (wt (n + 1) T = 1 + T.text.length + T.elems.length + sumTo (fun i => wt n (T.el i)) T.elems.length + T.mems.length + sumTo (fun i => (T.nm i).size + wt n (T.vl i)) T.mems.length) := rfl
  obtain ⟨hbB, c0, c1, c2, c3, ⟨f0, f1, f2, f3⟩, rfl, h2, h3, h4⟩ := ha
  obtain ⟨ta, tcap, rfl, htc, htm, _⟩ := h2
  obtain ⟨ea, ecap, rfl, hec, hem, _, herow⟩ := h3
  obtain ⟨ma, mcap, rfl, hmc, hmm, _, hmrow⟩ := h4
  unfold maxLen at htm hem hmm
  have HER : Hid (T.elems.length = 0 ∨ ∃ b o, ea = some ⟨b, o, none⟩ ∧ b < B ∧ ∀ i, i < T.elems.length → At (· < B) n w b (o + i * 4) (T.el i)) := by
    rcases herow with h0 | ⟨eb, eo, r1, r2, r3⟩
    · exact .inl h0
    · exact .inr ⟨eb, eo, r1, r2, fun i hi => by
        obtain ⟨d0, d1, d2, d3, g1, g2⟩ := r3 i hi
        exact ⟨r2, d0, d1, d2, d3, g1, g2⟩⟩
  have HMR : Hid (T.mems.length = 0 ∨ ∃ b o, ma = some ⟨b, o, none⟩ ∧ b < B ∧ ∀ i, i < T.mems.length → w.cell? ⟨b, o + i * 7, none⟩ = some (.string (T.nm i)) ∧ (T.nm i).size ≤ maxLen ∧ (∃ ka kl kc, kl ≤ maxLen ∧ w.cell? ⟨b, o + i * 7 + 1, none⟩ = some (.slice ka kl kc)) ∧ At (· < B) n w b (o + i * 7 + 3) (T.vl i)) := by
    rcases hmrow with h0 | ⟨mb, mo, r1, r2, r3⟩
    · exact .inl h0
    · exact .inr ⟨mb, mo, r1, r2, fun i hi => by
        obtain ⟨k1, k2, k3, _, d0, d1, d2, d3, g1, g2⟩ := r3 i hi
        exact ⟨k1, k2, k3, r2, d0, d1, d2, d3, g1, g2⟩⟩
  clear ih herow hmrow
  by_cases g1 : bud < 1
  case pos =>
    have d1 : decide (bud < 1) = true := by simpa using g1
    go_enter Try.func14, Try.ntmps14
    go_wp2_with fail
    go_ret
    exact ⟨TbPost.no, rfl⟩
  have d1 : decide (bud < 1) = false := by simpa using g1
  by_cases g2 : bud - 1 < (T.text.length : Int)
  case pos =>
    go_enter Try.func14, Try.ntmps14
    go_wp2_with fail
    go_ret
    exact ⟨TbPost.no, rfl⟩
  by_cases g3 : bud - 1 - (T.text.length : Int) < (T.elems.length : Int)
  case pos =>
    go_enter Try.func14, Try.ntmps14
    go_wp2_with fail
    go_ret
    exact ⟨TbPost.no, rfl⟩
  go_enter Try.func14, Try.ntmps14
  go_wp2_with fail
  go_loopw [1, 47] (fun x i wr => ∃ (k : Nat) (X : Int), k ≤ T.elems.length ∧ x = .int .i64 X ∧ i = .int .i64 k ∧ 0 ≤ X ∧ X + (sumTo (fun i => wt n (T.el i)) k : Nat) ≤ bud - 1 - (T.text.length : Int) - (T.elems.length : Int) ∧ Hid (wr = w)) (fun _ i _ => T.elems.length - (intOf i).toNat)
  case atStart => exact ⟨0, _, Nat.zero_le _, rfl, rfl, by omega, by simp [sumTo], rfl⟩
  case round =>
    obtain ⟨k, X, hk, rfl, rfl, hX0, hX1, HWR⟩ := hrel
    have hwr := HWR.out
    subst hwr
    by_cases hlt : k < T.elems.length
    · obtain ⟨eb, eo, rfl, heb, hAk⟩ := row_at (S := (· < B)) (size := 4) (P := fun i b o => At (· < B) n _ b o (T.el i)) hlt HER.out
      have HAt : Hid (At (· < B) n wr eb (eo + k * 4) (T.el k)) := hAk
      have HS : Hid (sumTo (fun i => wt n (T.el i)) (k + 1) = sumTo (fun i => wt n (T.el i)) k + wt n (T.el k)) := rfl
      have i1 : (k : Int) < (T.elems.length : Int) := by omega
      clear hAk
      generalize sumTo (fun i => wt n (T.el i)) k = Sk at *
      go_wp2_with fail
      refine (IH.out (T.el k) B eb (eo + k * 4) wr X HAt.out hX0 (by omega)).mono ?_
      rintro e w2 ⟨⟨r, rfl, hr⟩, rfl⟩
      rcases hr with rfl | ⟨hr0, hr1⟩
      · go_wp2_with fail
        go_ret
        exact ⟨TbPost.no, rfl⟩
      · go_wp2_with fail
        go_roundw
        case rel => exact ⟨k + 1, r, by omega, rfl, by go_num, hr0, by rw [HS.out]; omega, by first | exact rfl | exact trivial⟩
        case measure => simp [intOf]; omega
    · have hkl : k = T.elems.length := by omega
      subst hkl
      have HE1 : Hid (X + (sumTo (fun i => wt n (T.el i)) T.elems.length : Nat) ≤ bud - 1 - (T.text.length : Int) - (T.elems.length : Int)) := hX1
      have hX2 : X ≤ 1048576 := by omega
      clear hX1
      by_cases g4 : X < (T.mems.length : Int)
      · go_wp2_with fail
        go_ret
        exact ⟨TbPost.no, rfl⟩
      · go_wp2_with fail
        go_loopw [1, 80] (fun x i wx => ∃ (k : Nat) (Y : Int), k ≤ T.mems.length ∧ x = .int .i64 Y ∧ i = .int .i64 k ∧ 0 ≤ Y ∧ Y + (sumTo (fun i => (T.nm i).size + wt n (T.vl i)) k : Nat) ≤ X - (T.mems.length : Int) ∧ Hid (wx = wr)) (fun _ i _ => T.mems.length - (intOf i).toNat)
        case atStart => exact ⟨0, _, Nat.zero_le _, rfl, rfl, by omega, by simp [sumTo], rfl⟩
        case round =>
          obtain ⟨k, Y, hk, rfl, rfl, hY0, hY1, HWX⟩ := hrel
          have hwx := HWX.out
          subst hwx
          by_cases hlt : k < T.mems.length
          · obtain ⟨mb, mo, rfl, hmb, k1, k2, ⟨ka, kl, kc, k3, k4⟩, hAk⟩ := row_at (S := (· < B)) (size := 7) (P := fun i b o => _root_.Go.World.cell? _ ⟨b, o, none⟩ = some (.string (T.nm i)) ∧ (T.nm i).size ≤ maxLen ∧ (∃ ka kl kc, kl ≤ maxLen ∧ _root_.Go.World.cell? _ ⟨b, o + 1, none⟩ = some (.slice ka kl kc)) ∧ At (· < B) n _ b (o + 3) (T.vl i)) hlt HMR.out
            have HAt : Hid (At (· < B) n wr mb (mo + k * 7 + 3) (T.vl k)) := hAk
            have HS : Hid (sumTo (fun i => (T.nm i).size + wt n (T.vl i)) (k + 1) = sumTo (fun i => (T.nm i).size + wt n (T.vl i)) k + ((T.nm k).size + wt n (T.vl k))) := rfl
            have i1 : (k : Int) < (T.mems.length : Int) := by omega
            unfold maxLen at k2 k3
            clear hAk
            generalize sumTo (fun i => (T.nm i).size + wt n (T.vl i)) k = Sk at *
            by_cases g5 : Y < ((T.nm k).size : Int)
            · go_wp2_with fail
              go_ret
              exact ⟨TbPost.no, rfl⟩
            · by_cases g6 : (Y - ((T.nm k).size : Int)) / 2 < (kl : Int)
              · go_wp2_with fail
                go_ret
                exact ⟨TbPost.no, rfl⟩
              · go_wp2_with fail
                refine (IH.out (T.vl k) B mb (mo + k * 7 + 3) wr (Y - ((T.nm k).size : Int) - 2 * (kl : Int)) HAt.out (by omega) (by omega)).mono ?_
                rintro e w2 ⟨⟨r, rfl, hr⟩, rfl⟩
                rcases hr with rfl | ⟨hr0, hr1⟩
                · go_wp2_with fail
                  go_ret
                  exact ⟨TbPost.no, rfl⟩
                · go_wp2_with fail
                  go_roundw
                  case rel => exact ⟨k + 1, r, by omega, rfl, by go_num, hr0, by rw [HS.out]; omega, by first | exact rfl | exact trivial⟩
                  case measure => simp [intOf]; omega
          · have hkl : k = T.mems.length := by omega
            subst hkl
            have HX : Hid (Y + wt (n + 1) T ≤ bud) := show _ ≤ _ by rw [HW.out]; have := HE1.out; omega
            go_wp2_with fail
            go_ret
            exact ⟨TbPost.yes hY0 HX.out, rfl⟩

theorem tb_any : ∀ n, TbSaid n := by
  intro n
  induction n with
  | zero => intro T B b o w bud ha; obtain ⟨_, _, _, _, _, _, h⟩ := ha; exact h.elim
  | succ n ih => exact tb_succ n ih

end Go.Proofs.Qxb6605240a
