/-
  zzScalarsInDomain walked: it answers 'dom'.
-/
import Derived.Test.Qxb6605240aSok
import Derived.Test.Qxb6605240aApt
namespace Go.Proofs.Qxb6605240a
open Go.RowKit Plain

def DomSaid (n : Nat) : Prop := ∀ (T : Tr) (B b o : Nat) (w : World), At (· < B) n w b o T → B ≤ w.heap.size → wt n T ≤ 1048576 →
  Calls Try.prog 15 #[.pointer (some ⟨b, o, none⟩)] w fun e w' => e = .returned (.bool (dom n T)) ∧ Below w.heap.size w w'

theorem allTo_false {p : Nat → Bool} {m k : Nat} (hk : k < m) (h : p k = false) : allTo p m = false := by
  rw [Bool.eq_false_iff]
  intro e
  have := (allTo_iff p m).1 e k hk
  rw [h] at this
  cases this

theorem wt_vl' {n : Nat} {T : Tr} {k : Nat} (hk : k < T.mems.length) : (T.nm k).size + wt n (T.vl k) + sumTo (fun i => (T.nm i).size + wt n (T.vl i)) k ≤ sumTo (fun i => (T.nm i).size + wt n (T.vl i)) T.mems.length := by
  have := sumTo_le (fun i => (T.nm i).size + wt n (T.vl i)) (k := k + 1) (m := T.mems.length) hk
  simp only [sumTo] at this
  omega

theorem row_at {S : Nat → Prop} {ao : Option Addr} {m size k : Nat} {P : Nat → Nat → Nat → Prop} (hk : k < m) (h : m = 0 ∨ ∃ b o, ao = some ⟨b, o, none⟩ ∧ S b ∧ ∀ i, i < m → P i b (o + i * size)) :
    ∃ b o, ao = some ⟨b, o, none⟩ ∧ S b ∧ P k b (o + k * size) := by
  rcases h with h0 | ⟨b, o, h1, h2, h3⟩
  · omega
  · exact ⟨b, o, h1, h2, h3 k hk⟩

set_option maxHeartbeats 1000000 in
theorem dom_succ (n : Nat) (ih : DomSaid n) : DomSaid (n + 1) := by
  intro T B b o w ha hB hw
  have IH : Hid (DomSaid n) := ih
  have HW : Hid (wt (n + 1) T = 1 + T.text.length + T.elems.length + sumTo (fun i => wt n (T.el i)) T.elems.length + T.mems.length + sumTo (fun i => (T.nm i).size + wt n (T.vl i)) T.mems.length) := rfl
  obtain ⟨hbB, c0, c1, c2, c3, ⟨f0, f1, f2, f3⟩, rfl, h2, h3, h4⟩ := ha
  clear ih
  by_cases hk1 : T.kind = 1
  · have e1 : (T.kind == 1) = true := by simp [hk1]
    have HD : Hid (dom (n + 1) T = allTo (fun i => dom n (T.el i)) T.elems.length) := dom_arr hk1
    obtain ⟨ao, cap, rfl, _, _, _, hrow⟩ := h3
    have HR : Hid (T.elems.length = 0 ∨ ∃ b o, ao = some ⟨b, o, none⟩ ∧ b < B ∧ ∀ i, i < T.elems.length → At (· < B) n w b (o + i * 4) (T.el i)) := by
      rcases hrow with h0 | ⟨eb, eo, r1, r2, r3⟩
      · exact .inl h0
      · exact .inr ⟨eb, eo, r1, r2, fun i hi => by
          obtain ⟨d0, d1, d2, d3, g1, g2⟩ := r3 i hi
          exact ⟨r2, d0, d1, d2, d3, g1, g2⟩⟩
    have hml : T.elems.length ≤ 1048576 := by have := HW.out; omega
    clear hk1 hrow h2 h4 f1 f3
    go_enter Try.func15, Try.ntmps15
    go_wp2_with fail
    go_loopw [21] (fun i wr => ∃ k : Nat, k ≤ T.elems.length ∧ i = .int .i64 k ∧ Hid (∀ i, i < k → dom n (T.el i) = true) ∧ Below w.heap.size w wr) (fun i _ => T.elems.length - (intOf i).toNat)
    case atStart => exact ⟨0, Nat.zero_le _, rfl, fun i hi => by omega, Below.refl _ _⟩
    case round =>
      obtain ⟨k, hk, rfl, HA, hnx⟩ := hrel
      have hsz := hnx.size
      have g2 : wr.cell? ⟨b, o + 2, none⟩ = some (.slice ao T.elems.length cap) := (hnx.cell (p := ⟨b, o + 2, none⟩) (by show b < _; omega)).trans f2
      by_cases hlt : k < T.elems.length
      · obtain ⟨eb, eo, rfl, heb, hAk⟩ := row_at (S := (· < B)) (size := 4) (P := fun i b o => At (· < B) n w b o (T.el i)) hlt HR.out
        have HAt : Hid (At (· < B) n wr eb (eo + k * 4) (T.el k)) := At.below hAk (hnx.mono hB)
        have hwk : wt n (T.el k) ≤ 1048576 := by have := HW.out; have := wt_el (n := n) hlt; omega
        have i1 : (k : Int) < (T.elems.length : Int) := by omega
        clear hAk
        go_wp2_with fail
        refine (IH.out (T.el k) B eb (eo + k * 4) wr HAt.out (by omega) hwk).mono ?_
        rintro e w2 ⟨rfl, hb2⟩
        have hb3 : Below w.heap.size w w2 := hnx.trans (hb2.mono hsz)
        clear hb2
        cases hd : dom n (T.el k) with
        | true =>
          have HA2 : Hid (∀ i, i < k + 1 → dom n (T.el i) = true) := fun i hi => by
            by_cases e : i = k
            · rw [e]; exact hd
            · exact HA.out i (by omega)
          go_wp2_with fail
          go_roundw
          case rel => exact ⟨k + 1, by omega, by go_num, HA2, hb3⟩
          case measure => simp [intOf]; omega
        | false =>
          have HF : Hid (dom (n + 1) T = false) := show _ = _ by rw [HD.out]; exact allTo_false hlt hd
          go_wp2_with fail
          go_ret
          exact ⟨by rw [HF.out]; rfl, hb3⟩
      · have hkl : k = T.elems.length := by omega
        subst hkl
        have HF : Hid (dom (n + 1) T = true) := show _ = _ by rw [HD.out]; exact (allTo_iff _ _).2 HA.out
        go_wp2_with fail
        go_ret
        exact ⟨by rw [HF.out]; rfl, hnx⟩
  · have e1 : (T.kind == 1) = false := by simpa using hk1
    by_cases hk2 : T.kind = 2
    · have e2 : (T.kind == 2) = true := by simp [hk2]
      have HD : Hid (dom (n + 1) T = allTo (fun i => dom n (T.vl i)) T.mems.length) := dom_obj hk2
      obtain ⟨ao, cap, rfl, _, _, _, hrow⟩ := h4
      have HR : Hid (T.mems.length = 0 ∨ ∃ b o, ao = some ⟨b, o, none⟩ ∧ b < B ∧ ∀ i, i < T.mems.length → At (· < B) n w b (o + i * 7 + 3) (T.vl i)) := by
        rcases hrow with h0 | ⟨mb, mo, r1, r2, r3⟩
        · exact .inl h0
        · exact .inr ⟨mb, mo, r1, r2, fun i hi => by
            obtain ⟨_, _, _, _, d0, d1, d2, d3, g1, g2⟩ := r3 i hi
            exact ⟨r2, d0, d1, d2, d3, g1, g2⟩⟩
      have hml : T.mems.length ≤ 1048576 := by have := HW.out; omega
      clear hk1 hk2 hrow h2 h3 f1 f2
      go_enter Try.func15, Try.ntmps15
      go_wp2_with fail
      go_loopw [40] (fun i wr => ∃ k : Nat, k ≤ T.mems.length ∧ i = .int .i64 k ∧ Hid (∀ i, i < k → dom n (T.vl i) = true) ∧ Below w.heap.size w wr) (fun i _ => T.mems.length - (intOf i).toNat)
      case atStart => exact ⟨0, Nat.zero_le _, rfl, fun i hi => by omega, Below.refl _ _⟩
      case round =>
        obtain ⟨k, hk, rfl, HA, hnx⟩ := hrel
        have hsz := hnx.size
        have g2 : wr.cell? ⟨b, o + 3, none⟩ = some (.slice ao T.mems.length cap) := (hnx.cell (p := ⟨b, o + 3, none⟩) (by show b < _; omega)).trans f3
        by_cases hlt : k < T.mems.length
        · obtain ⟨mb, mo, rfl, hmb, hAk⟩ := row_at (S := (· < B)) (size := 7) (P := fun i b o => At (· < B) n w b (o + 3) (T.vl i)) hlt HR.out
          have HAt : Hid (At (· < B) n wr mb (mo + k * 7 + 3) (T.vl k)) := At.below hAk (hnx.mono hB)
          have hwk : wt n (T.vl k) ≤ 1048576 := by have := HW.out; have := wt_vl' (n := n) hlt; omega
          have i1 : (k : Int) < (T.mems.length : Int) := by omega
          clear hAk
          go_wp2_with fail
          refine (IH.out (T.vl k) B mb (mo + k * 7 + 3) wr HAt.out (by omega) hwk).mono ?_
          rintro e w2 ⟨rfl, hb2⟩
          have hb3 : Below w.heap.size w w2 := hnx.trans (hb2.mono hsz)
          clear hb2
          cases hd : dom n (T.vl k) with
          | true =>
            have HA2 : Hid (∀ i, i < k + 1 → dom n (T.vl i) = true) := fun i hi => by
              by_cases e : i = k
              · rw [e]; exact hd
              · exact HA.out i (by omega)
            go_wp2_with fail
            go_roundw
            case rel => exact ⟨k + 1, by omega, by go_num, HA2, hb3⟩
            case measure => simp [intOf]; omega
          | false =>
            have HF : Hid (dom (n + 1) T = false) := show _ = _ by rw [HD.out]; exact allTo_false hlt hd
            go_wp2_with fail
            go_ret
            exact ⟨by rw [HF.out]; rfl, hb3⟩
        · have hkl : k = T.mems.length := by omega
          subst hkl
          have HF : Hid (dom (n + 1) T = true) := show _ = _ by rw [HD.out]; exact (allTo_iff _ _).2 HA.out
          go_wp2_with fail
          go_ret
          exact ⟨by rw [HF.out]; rfl, hnx⟩
    · have e2 : (T.kind == 2) = false := by simpa using hk2
      have HD : Hid (dom (n + 1) T = sok T.text) := dom_sca hk1 hk2
      have HT : Hid (TextS (· < B) w c1 T.text) := h2
      have htl : T.text.length ≤ 1048576 := by have := HW.out; omega
      clear hk1 hk2 h2 h3 h4 f2 f3
      go_enter Try.func15, Try.ntmps15
      go_wp2_with fail
      refine (sok_any _ w c1 T.text HT.out htl).mono ?_
      rintro e w2 ⟨rfl, hb2⟩
      go_wp2_with fail
      go_ret
      exact ⟨by rw [HD.out]; rfl, hb2⟩

theorem dom_any : ∀ n, DomSaid n := by
  intro n
  induction n with
  | zero => intro T B b o w ha; obtain ⟨_, _, _, _, _, _, h⟩ := ha; exact h.elim
  | succ n ih => exact dom_succ n ih

end Go.Proofs.Qxb6605240a
