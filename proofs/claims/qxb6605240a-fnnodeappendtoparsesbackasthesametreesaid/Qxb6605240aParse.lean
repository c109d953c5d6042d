/-
  zzParseValue walked: scalars.
-/
import Derived.Test.Qxb6605240aParsePlain
import Derived.Test.Qxb6605240aStrip
import Derived.Test.Qxb6605240aCopy
namespace Go.Proofs.Qxb6605240a
open Go.RowKit Plain

/-- How the parser ends, where it reads what was written. -/
def ParsePost (n : Nat) (T : Tr) (B p : Nat) (w : World) (e : Ending) (w' : World) : Prop :=
  ∃ a1 k1 a2 k2 a3 k3, e = .returned (.tuple #[.agg #[.int .u8 (strip n T).kind, .slice a1 (strip n T).text.length k1, .slice a2 (strip n T).elems.length k2, .slice a3 (strip n T).mems.length k3], .int .i64 (p : Nat), .bool true]) ∧
    NodeS (Rg B w.heap.size w'.heap.size) n w' (.int .u8 (strip n T).kind) (.slice a1 (strip n T).text.length k1) (.slice a2 (strip n T).elems.length k2) (.slice a3 (strip n T).mems.length k3) (strip n T) ∧ Below w.heap.size w w'

def ParseSaid (n : Nat) : Prop := ∀ (T : Tr) (B bO oO cO pos : Nat) (out a c : List Int) (w : World), out = a ++ (enc n T ++ c) → a.length = pos → Follow c → dom n T = true → wt n T ≤ 1048576 →
  out.length ≤ 1073741824 → HasAt w bO oO out → out.length ≤ cO → cO ≤ maxLen → bO < B → B ≤ w.heap.size →
  Calls Try.prog 18 #[.slice (some ⟨bO, oO, none⟩) out.length cO, .int .i64 pos] w fun e w' => ParsePost n T B (pos + (enc n T).length) w e w'

theorem sca_post {n : Nat} {T : Tr} {B bO oO cO pos : Nat} {out a c : List Int} {w w' : World} (hk1 : ¬ T.kind = 1) (hk2 : ¬ T.kind = 2) (ho : out = a ++ (T.text ++ c)) (ha : a.length = pos) (hO : HasAt w bO oO out) (hc : out.length ≤ cO) (hc2 : cO ≤ maxLen) (hb : bO < B) (hB : B ≤ w.heap.size) (hbel : Below w.heap.size w w') :
    ParsePost (n + 1) T B (pos + T.text.length) w (.returned (.tuple #[.agg #[.int .u8 0, .slice (some ⟨bO, oO + pos, none⟩) T.text.length (cO - pos), .slice none 0 0, .slice none 0 0], .int .i64 ((pos + T.text.length : Nat) : Int), .bool true])) w' := by
  unfold ParsePost
  rw [strip_sca hk1 hk2]
  have hl : out.length = pos + (T.text.length + c.length) := by rw [ho, ← ha]; simp
  refine ⟨_, _, none, 0, none, 0, rfl, ⟨rfl, ⟨_, _, rfl, by show T.text.length ≤ _; omega, by unfold maxLen at hc2 ⊢; omega, .inr ⟨bO, oO + pos, rfl, .inl hb, fun j hj => ?_⟩⟩, row_nil _ 4 _ 0 rfl, row_nil _ 7 _ 0 rfl⟩, hbel⟩
  have hj' : j < T.text.length := hj
  have h1 := (hbel.cell (p := ⟨bO, oO + (pos + j), none⟩) (by show bO < _; omega)).trans (hO (pos + j) (by omega))
  have h2 : nth out (pos + j) = nth T.text j := by rw [ho, ← ha, nth_at, nth_left hj']
  rw [h2] at h1
  rw [Nat.add_assoc]
  exact h1

set_option maxRecDepth 100000 in
set_option maxHeartbeats 4000000 in
theorem parse_str (n : Nat) (T : Tr) (B bO oO cO pos : Nat) (out a c : List Int) (w : World) (hk1 : ¬ T.kind = 1) (hk2 : ¬ T.kind = 2) (ho : out = a ++ (T.text ++ c)) (ha : a.length = pos) (hq : nth T.text 0 = 34) (h2 : 2 ≤ T.text.length)
    (he : strEnd out (pos + 1) = some (pos + T.text.length)) (hm : out.length ≤ 1073741824) (hO : HasAt w bO oO out) (hc : out.length ≤ cO) (hc2 : cO ≤ maxLen) (hb : bO < B) (hB : B ≤ w.heap.size) :
    Calls Try.prog 18 #[.slice (some ⟨bO, oO, none⟩) out.length cO, .int .i64 pos] w fun e w' => ParsePost (n + 1) T B (pos + T.text.length) w e w' := by
  have hl : out.length = pos + (T.text.length + c.length) := by rw [ho, ← ha]; simp
  have HP := fun (w' : World) (h : Below w.heap.size w w') => sca_post (n := n) hk1 hk2 ho ha hO hc hc2 hb hB h
  have HPH : Hid (∀ (w' : World), Below w.heap.size w w' → ParsePost (n + 1) T B (pos + T.text.length) w (.returned (.tuple #[.agg #[.int .u8 0, .slice (some ⟨bO, oO + pos, none⟩) T.text.length (cO - pos), .slice none 0 0, .slice none 0 0], .int .i64 ((pos + T.text.length : Nat) : Int), .bool true])) w') := HP
  have hn0 : nth out pos = 34 := by rw [ho, ← ha]; have := nth_at a (T.text ++ c) 0; rw [Nat.add_zero] at this; rw [this, nth_left (by omega)]; exact hq
  have k0 := hO pos (by omega)
  rw [hn0] at k0
  have hpl : pos + T.text.length ≤ out.length := by omega
  have hbw : bO < w.heap.size := by omega
  have d0 : decide ((pos : Int) < 0) = false := by simp
  have i0 : (pos : Int) < (out.length : Int) := by omega
  have hcp : pos < cO := by omega
  have HO : Hid (HasAt w bO oO out) := hO
  have HE : Hid (strEnd out (pos + 1) = some (pos + T.text.length)) := he
  unfold maxLen at hc2
  clear HP ho ha hq hO he hl hn0 hk1 hk2
  go_enter Try.func18, Try.ntmps18
  go_wp2_with (go_at_call 24; refine (send_any _ bO oO cO pos (pos + T.text.length) out (by exact HO.out.later (((Below.refl _ w).alloc (Nat.le_refl _) _).alloc (by simp) _)) hm (by omega) HE.out).mono ?_; rintro e w1 ⟨rfl, rfl⟩)
  refine bodyPost_ret (v := .tuple #[.agg #[.int .u8 0, .slice (some ⟨bO, oO + pos, none⟩) T.text.length (cO - pos), .slice none 0 0, .slice none 0 0], .int .i64 ((pos + T.text.length : Nat) : Int), .bool true]) (by simp [results, Try.results18, go_sem]) rfl (HPH.out _ (((Below.refl _ w).alloc (Nat.le_refl _) _).alloc (by simp) _))

set_option maxRecDepth 100000 in
set_option maxHeartbeats 4000000 in
theorem parse_tok (n : Nat) (T : Tr) (B bO oO cO pos : Nat) (out a c : List Int) (w : World) (hk1 : ¬ T.kind = 1) (hk2 : ¬ T.kind = 2) (ho : out = a ++ (T.text ++ c)) (ha : a.length = pos) (hF : Follow c) (h0 : 0 < T.text.length)
    (hbare : ∀ i, i < T.text.length → bare (nth T.text i) = true) (hm : out.length ≤ 1073741824) (hO : HasAt w bO oO out) (hc : out.length ≤ cO) (hc2 : cO ≤ maxLen) (hb : bO < B) (hB : B ≤ w.heap.size) :
    Calls Try.prog 18 #[.slice (some ⟨bO, oO, none⟩) out.length cO, .int .i64 pos] w fun e w' => ParsePost (n + 1) T B (pos + T.text.length) w e w' := by
  have hl : out.length = pos + (T.text.length + c.length) := by rw [ho, ← ha]; simp
  have HPH : Hid (∀ (w' : World), Below w.heap.size w w' → ParsePost (n + 1) T B (pos + T.text.length) w (.returned (.tuple #[.agg #[.int .u8 0, .slice (some ⟨bO, oO + pos, none⟩) T.text.length (cO - pos), .slice none 0 0, .slice none 0 0], .int .i64 ((pos + T.text.length : Nat) : Int), .bool true])) w') := fun (w' : World) (h : Below w.heap.size w w') => sca_post (n := n) hk1 hk2 ho ha hO hc hc2 hb hB h
  have hnt : ∀ j, j < T.text.length → nth out (pos + j) = nth T.text j := fun j hj => by rw [ho, ← ha, nth_at, nth_left hj]
  have HB : Hid (∀ j, j < T.text.length → ¬ (nth out (pos + j) = 44 ∨ nth out (pos + j) = 93 ∨ nth out (pos + j) = 125 ∨ nth out (pos + j) = 91 ∨ nth out (pos + j) = 123 ∨ nth out (pos + j) = 34)) := fun j hj h => by
    have h1 := hbare j hj
    rw [← hnt j hj] at h1
    have h2 : bare (nth out (pos + j)) = false := by rw [bare_false]; omega
    rw [h2] at h1; cases h1
  have HF : Hid (pos + T.text.length < out.length → (nth out (pos + T.text.length) = 44 ∨ nth out (pos + T.text.length) = 93 ∨ nth out (pos + T.text.length) = 125)) := fun hlt => by
    rcases hF with rfl | ⟨q, r, rfl, hq⟩
    · simp at hl; omega
    · have e : nth out (pos + T.text.length) = q := by rw [ho, ← ha, nth_at, nth_right (Nat.le_refl _), Nat.sub_self]; exact nth_zero
      rw [e]; exact hq
  have k0 := hO pos (by omega)
  have h00 := HB.out 0 h0
  rw [Nat.add_zero] at h00
  have t1 : (nth out pos == 91) = false := by rw [beq_eq_false_iff_ne]; omega
  have t2 : (nth out pos == 123) = false := by rw [beq_eq_false_iff_ne]; omega
  have t3 : (nth out pos == 34) = false := by rw [beq_eq_false_iff_ne]; omega
  have hpl : pos + T.text.length ≤ out.length := by omega
  have hbw : bO < w.heap.size := by omega
  have d0 : decide ((pos : Int) < 0) = false := by simp
  have i0 : (pos : Int) < (out.length : Int) := by omega
  have hcp : pos < cO := by omega
  have HO : Hid (HasAt w bO oO out) := hO
  unfold maxLen at hc2
  clear ho ha hO hl hk1 hk2 hF hbare hnt h00
  go_enter Try.func18, Try.ntmps18
  go_wp2_with fail
  go_loop [1] (fun p => ∃ j : Nat, j ≤ T.text.length ∧ p = .int .i64 ((pos + j : Nat) : Int)) (fun p => (pos + T.text.length) - (intOf p).toNat)
  case atStart => exact ⟨0, Nat.zero_le _, rfl⟩
  case round =>
    obtain ⟨j, hj, rfl⟩ := hrel
    obtain ⟨q, hq⟩ : ∃ q, q = pos + j := ⟨_, rfl⟩
    rw [← hq]
    have HQ : Hid (q = pos + j) := hq
    have hq1 : q ≤ pos + j := by omega
    have hq2 : pos + j ≤ q := by omega
    clear hq
    by_cases hlt : j < T.text.length
    · have hqo : q < out.length := by omega
      have iq : (q : Int) < (out.length : Int) := by omega
      have dq : decide ((q : Int) < (out.length : Int)) = true := by simp; omega
      have kq := HO.out q hqo
      have hbb := HB.out j hlt
      rw [← HQ.out] at hbb
      have u1 : (nth out q != 44) = true := by rw [bne_iff_ne]; omega
      have u2 : (nth out q != 93) = true := by rw [bne_iff_ne]; omega
      have u3 : (nth out q != 125) = true := by rw [bne_iff_ne]; omega
      clear hbb
      go_wp2_with fail
      go_round
      case rel => exact ⟨j + 1, by omega, by rw [HQ.out]; go_num⟩
      case measure => simp [intOf]; omega
    · have hje : j = T.text.length := by omega
      subst hje
      have tq : ((q : Int) == (pos : Int)) = false := by rw [beq_eq_false_iff_ne]; omega
      by_cases hqo : q < out.length
      · have iq : (q : Int) < (out.length : Int) := by omega
        have dq : decide ((q : Int) < (out.length : Int)) = true := by simp; omega
        have kq := HO.out q hqo
        have hff := HF.out (by omega)
        rw [← HQ.out] at hff
        have HPQ : Hid (pos + T.text.length = q) := HQ.out.symm
        rcases hff with h | h | h
        · have u1 : (nth out q != 44) = false := by rw [h]; rfl
          clear h
          go_wp2_with fail
          refine bodyPost_ret (v := .tuple #[.agg #[.int .u8 0, .slice (some ⟨bO, oO + pos, none⟩) T.text.length (cO - pos), .slice none 0 0, .slice none 0 0], .int .i64 ((pos + T.text.length : Nat) : Int), .bool true]) (by rw [HQ.out]; simp [results, Try.results18, go_sem]) rfl (HPH.out _ (((Below.refl _ w).alloc (Nat.le_refl _) _).alloc (by simp) _))
        · have u1 : (nth out q != 44) = true := by rw [h]; rfl
          have u2 : (nth out q != 93) = false := by rw [h]; rfl
          clear h
          go_wp2_with fail
          refine bodyPost_ret (v := .tuple #[.agg #[.int .u8 0, .slice (some ⟨bO, oO + pos, none⟩) T.text.length (cO - pos), .slice none 0 0, .slice none 0 0], .int .i64 ((pos + T.text.length : Nat) : Int), .bool true]) (by rw [HQ.out]; simp [results, Try.results18, go_sem]) rfl (HPH.out _ (((Below.refl _ w).alloc (Nat.le_refl _) _).alloc (by simp) _))
        · have u1 : (nth out q != 44) = true := by rw [h]; rfl
          have u2 : (nth out q != 93) = true := by rw [h]; rfl
          have u3 : (nth out q != 125) = false := by rw [h]; rfl
          clear h
          go_wp2_with fail
          refine bodyPost_ret (v := .tuple #[.agg #[.int .u8 0, .slice (some ⟨bO, oO + pos, none⟩) T.text.length (cO - pos), .slice none 0 0, .slice none 0 0], .int .i64 ((pos + T.text.length : Nat) : Int), .bool true]) (by rw [HQ.out]; simp [results, Try.results18, go_sem]) rfl (HPH.out _ (((Below.refl _ w).alloc (Nat.le_refl _) _).alloc (by simp) _))
      · have dq : decide ((q : Int) < (out.length : Int)) = false := by simp; omega
        have iq : q ≤ out.length := by omega
        go_wp2_with fail
        refine bodyPost_ret (v := .tuple #[.agg #[.int .u8 0, .slice (some ⟨bO, oO + pos, none⟩) T.text.length (cO - pos), .slice none 0 0, .slice none 0 0], .int .i64 ((pos + T.text.length : Nat) : Int), .bool true]) (by rw [HQ.out]; simp [results, Try.results18, go_sem]) rfl (HPH.out _ (((Below.refl _ w).alloc (Nat.le_refl _) _).alloc (by simp) _))

end Go.Proofs.Qxb6605240a
