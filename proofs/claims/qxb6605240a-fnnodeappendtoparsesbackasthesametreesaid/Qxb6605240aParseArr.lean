/-
  zzParseValue walked: arrays.
-/
import Derived.Test.Qxb6605240aRow
namespace Go.Proofs.Qxb6605240a
open Go.RowKit Plain

theorem row_form {w : World} {M e size k : Nat} {v : Value} {xs : List Value} (h : w.ownsRow M e size v (k + 1) xs) : ∃ g cap, v = .slice (some ⟨g, 0, none⟩) (k + 1) cap := by
  rcases h.2 with ⟨_, h2⟩ | ⟨g, cap, cur, rfl, _⟩
  · omega
  · exact ⟨g, cap, rfl⟩

theorem nth_at0 (p r : List Int) : nth (p ++ r) p.length = nth r 0 := nth_at p r 0

set_option maxRecDepth 100000 in
set_option maxHeartbeats 4000000 in
theorem parse_arr0 (n : Nat) (T : Tr) (B bO oO cO pos : Nat) (out a c : List Int) (w : World) (hk : T.kind = 1) (h0 : T.elems.length = 0) (ho : out = a ++ (enc (n + 1) T ++ c)) (ha : a.length = pos) (hm : out.length ≤ 1073741824) (hO : HasAt w bO oO out) (hb : bO < B) (hB : B ≤ w.heap.size) :
    Calls Try.prog 18 #[.slice (some ⟨bO, oO, none⟩) out.length cO, .int .i64 pos] w fun e w' => ParsePost (n + 1) T B (pos + (enc (n + 1) T).length) w e w' := by
  have hen : enc (n + 1) T = [91, 93] := by rw [enc_arr hk, h0]; rfl
  rw [hen] at ho ⊢
  have hl : out.length = pos + (2 + c.length) := by rw [ho, ← ha]; simp; omega
  have HPH : Hid (∀ (w' : World), Below w.heap.size w w' → ParsePost (n + 1) T B (pos + 2) w (.returned (.tuple #[.agg #[.int .u8 1, .slice none 0 0, .slice none 0 0, .slice none 0 0], .int .i64 ((pos + 2 : Nat) : Int), .bool true])) w') := fun w' h => none_end 1 (.inl ⟨hk, rfl, h0⟩) h
  have k0 := hO pos (by omega)
  have n0 : nth out pos = 91 := by rw [ho, ← ha]; have := nth_at a ([91, 93] ++ c) 0; rw [Nat.add_zero] at this; rw [this]; exact nth_zero
  have k1 := hO (pos + 1) (by omega)
  have n1 : nth out (pos + 1) = 93 := by rw [ho, ← ha, nth_at]; exact nth_cons.trans nth_zero
  rw [n0] at k0
  rw [n1] at k1
  have hbw : bO < w.heap.size := by omega
  have d0 : decide ((pos : Int) < 0) = false := by simp
  have i0 : (pos : Int) < (out.length : Int) := by omega
  have i1 : (pos : Int) + 1 < (out.length : Int) := by omega
  clear ho ha hO hen n0 n1 hl
  go_enter Try.func18, Try.ntmps18
  go_wp2_with fail
  refine bodyPost_ret (v := .tuple #[.agg #[.int .u8 1, .slice none 0 0, .slice none 0 0, .slice none 0 0], .int .i64 ((pos + 2 : Nat) : Int), .bool true]) ?_ rfl (HPH.out _ ?_)
  · simp [results, Try.results18, go_sem]; omega
  · exact ((Below.refl _ w).alloc (Nat.le_refl _) _).alloc (by simp) _

set_option maxRecDepth 100000 in
set_option maxHeartbeats 8000000 in
theorem parse_arr (n : Nat) (ih : ParseSaid n) (T : Tr) (B bO oO cO pos : Nat) (out a c : List Int) (w : World) (hk : T.kind = 1) (h0 : 0 < T.elems.length) (ho : out = a ++ (enc (n + 1) T ++ c)) (ha : a.length = pos) (hd : dom (n + 1) T = true) (hw : wt (n + 1) T ≤ 1048576) (hm : out.length ≤ 1073741824) (hO : HasAt w bO oO out) (hc : out.length ≤ cO) (hc2 : cO ≤ maxLen) (hb : bO < B) (hB : B ≤ w.heap.size) :
    Calls Try.prog 18 #[.slice (some ⟨bO, oO, none⟩) out.length cO, .int .i64 pos] w fun e w' => ParsePost (n + 1) T B (pos + (enc (n + 1) T).length) w e w' := by
  have HW : Hid (wt (n + 1) T = 1 + T.text.length + T.elems.length + sumTo (fun i => wt n (T.el i)) T.elems.length + T.mems.length + sumTo (fun i => (T.nm i).size + wt n (T.vl i)) T.mems.length) := rfl
  have hen : enc (n + 1) T = 91 :: (joinTo (fun i => enc n (T.el i)) T.elems.length ++ [93]) := enc_arr hk
  obtain ⟨F, hF⟩ : ∃ F, F = fun i => enc n (T.el i) := ⟨_, rfl⟩
  rw [← hF] at hen
  obtain ⟨m, hmm⟩ : ∃ m, m = T.elems.length := ⟨_, rfl⟩
  have hmb : m ≤ 1048576 := by have := HW.out; omega
  rw [← hmm] at hen h0
  rw [hen] at ho ⊢
  have hl : out.length = pos + ((91 :: (joinTo F m ++ [93])).length + c.length) := by rw [ho, ← ha]; simp only [List.length_append]
  obtain ⟨pE, hpE⟩ : ∃ pE, pE = pos + (91 :: (joinTo F m ++ [93])).length := ⟨_, rfl⟩
  rw [← hpE]
  have hl2 : pE ≤ out.length := by omega
  have hd' : ∀ i, i < m → dom n (T.el i) = true := by rw [dom_arr hk] at hd; rw [hmm]; exact (allTo_iff _ _).1 hd
  have HPH : Hid (∀ (wE : World) (v x0 x1 x2 x3 : Value), Arr n T B (w.heap.size + 2) m wE v → Below w.heap.size w wE →
      ParsePost (n + 1) T B pE w (.returned (.tuple #[.agg #[.int .u8 1, .slice none 0 0, v, .slice none 0 0], .int .i64 (pE : Nat), .bool true])) ((((wE.setCell ⟨w.heap.size, 0, none⟩ x0).setCell ⟨w.heap.size, 0 + 1, none⟩ x1).setCell ⟨w.heap.size, 0 + 2, none⟩ x2).setCell ⟨w.heap.size, 0 + 3, none⟩ x3)) := fun wE v x0 x1 x2 x3 hA hb => arr_end hk (by rw [← hmm]; exact hA) hb hB (by omega)
  -- where the k-th element lies
  have HK : Hid (∀ k, k < m → ∃ q r, q = posOf pos F k ∧ r = q + (F k).length ∧ r < out.length ∧ pos < q ∧ q < r ∧ nth out q ≠ 93 ∧
      (∀ wr, Below w.heap.size w wr → Calls Try.prog 18 #[.slice (some ⟨bO, oO, none⟩) out.length cO, .int .i64 q] wr fun e w' => ParsePost n (T.el k) B r wr e w') ∧
      ((k + 1 = m ∧ nth out r = 93 ∧ r + 1 = pE) ∨ (k + 1 < m ∧ nth out r = 44 ∧ r + 1 = posOf pos F (k + 1)))) := fun k hk => by
    obtain ⟨e1, e2⟩ := thing_at ho hk
    rw [ha] at e2
    have hdk := hd' k hk
    obtain ⟨q, r, g1, g2, _⟩ := enc_head hdk
    have hFk : F k = enc n (T.el k) := by rw [hF]
    have hlen : 0 < (F k).length := by rw [hFk, g1]; simp
    have hq : nth out (posOf pos F k) = q := by
      rw [e1, ← e2]
      rw [nth_at0, hFk, g1]
      exact nth_zero
    have hc18 : ∀ wr, Below w.heap.size w wr → Calls Try.prog 18 #[.slice (some ⟨bO, oO, none⟩) out.length cO, .int .i64 (posOf pos F k)] wr fun e w' => ParsePost n (T.el k) B (posOf pos F k + (F k).length) wr e w' := fun wr hbr => by
      rw [hFk]
      refine ih (T.el k) B bO oO cO (posOf pos F k) out _ _ wr (by rw [hFk] at e1; exact e1) e2 (tail_follow F m k hk 93 c (.inl rfl)) hdk ?_ hm (hO.later hbr) hc hc2 hb (by have := hbr.size; omega)
      have := HW.out; have := wt_el (n := n) (T := T) (k := k) (by omega); omega
    refine ⟨posOf pos F k, _, rfl, rfl, ?_, by unfold posOf; omega, by omega, by rw [hq]; exact g2, hc18, ?_⟩
    · by_cases e : k + 1 = m
      · have := (after_last ho e).2.1; rw [ha] at this; exact this
      · have := (after_more ho (show k + 1 < m by omega)).2.1; rw [ha] at this; exact this
    · by_cases e : k + 1 = m
      · have := after_last ho e; rw [ha] at this; exact .inl ⟨e, this.1, by rw [hpE]; exact this.2.2⟩
      · have := after_more ho (show k + 1 < m by omega); rw [ha] at this; exact .inr ⟨by omega, this.1, this.2.2⟩
  have k0 := hO pos (by simp at hl; omega)
  have n0 : nth out pos = 91 := by rw [ho, ← ha]; rw [nth_at0]; exact nth_zero
  rw [n0] at k0
  obtain ⟨q0, r0, hq0, _, hr0, hpq0, hqr0, hn0, _⟩ := HK.out 0 h0
  have hq0' : q0 = pos + 1 := by rw [hq0]; simp [posOf, joinTo, sep]
  have hq00 : posOf pos F 0 = pos + 1 := by rw [← hq0', hq0]
  have HQ0 : Hid (posOf pos F 0 = pos + 1) := hq00
  clear hq00
  rw [hq0'] at hn0
  have k1 := hO (pos + 1) (by omega)
  have t1 : (nth out (pos + 1) == 93) = false := by rw [beq_eq_false_iff_ne]; exact hn0
  have hbw : bO < w.heap.size := by omega
  have d0 : decide ((pos : Int) < 0) = false := by simp
  have i0 : (pos : Int) < (out.length : Int) := by omega
  have i1 : (pos : Int) + 1 < (out.length : Int) := by omega
  have HO : Hid (HasAt w bO oO out) := hO
  have dp : decide ((out.length : Int) ≤ (pos : Int)) = false := by simp; omega
  have dp2 : decide (out.length ≤ pos) = false := by simp; omega
  obtain ⟨ti, hti, hz0, hz1, hz2⟩ := info_parts Try.info34
  clear ho ha hO hen n0 hl hn0 hq0 hq0' hpq0 hqr0 hr0 hd hd' hpE hF ih hw
  go_enter Try.func18, Try.ntmps18
  go_wp2_with fail
  have A2 : Blk (((w.alloc (.cells #[.int .u8 0, .slice none 0 0, .slice none 0 0, .slice none 0 0] 34)).alloc (.cells #[.int .u8 1, .slice none 0 0, .slice none 0 0, .slice none 0 0] 34))) w.heap.size [.int .u8 0, .slice none 0 0, .slice none 0 0, .slice none 0 0] 34 := (Blk.new w _ _).past _
  have A3 : Blk (((w.alloc (.cells #[.int .u8 0, .slice none 0 0, .slice none 0 0, .slice none 0 0] 34)).alloc (.cells #[.int .u8 1, .slice none 0 0, .slice none 0 0, .slice none 0 0] 34))) (w.heap.size + 1) [.int .u8 1, .slice none 0 0, .slice none 0 0, .slice none 0 0] 34 := by
    have h := Blk.new (w.alloc (.cells #[.int .u8 0, .slice none 0 0, .slice none 0 0, .slice none 0 0] 34)) [.int .u8 1, .slice none 0 0, .slice none 0 0, .slice none 0 0] 34
    rw [World.size_alloc] at h; exact h
  have A4 : Below w.heap.size w (((w.alloc (.cells #[.int .u8 0, .slice none 0 0, .slice none 0 0, .slice none 0 0] 34)).alloc (.cells #[.int .u8 1, .slice none 0 0, .slice none 0 0, .slice none 0 0] 34))) := ((Below.refl _ w).alloc (Nat.le_refl _) _).alloc (by simp) _
  have A5 : w.heap.size + 2 ≤ (((w.alloc (.cells #[.int .u8 0, .slice none 0 0, .slice none 0 0, .slice none 0 0] 34)).alloc (.cells #[.int .u8 1, .slice none 0 0, .slice none 0 0, .slice none 0 0] 34))).heap.size := by simp
  go_loopw [1] (fun p wr => ∃ (k : Nat) (v : Value), k < m ∧ p = .int .i64 ((posOf pos F k : Nat) : Int) ∧ Blk wr w.heap.size [.int .u8 0, .slice none 0 0, .slice none 0 0, .slice none 0 0] 34 ∧
      Blk wr (w.heap.size + 1) [.int .u8 1, .slice none 0 0, v, .slice none 0 0] 34 ∧ Arr n T B (w.heap.size + 2) k wr v ∧ Below w.heap.size w wr ∧ w.heap.size + 2 ≤ wr.heap.size) (fun p _ => out.length - (intOf p).toNat)
  case atStart => exact ⟨0, _, h0, by rw [HQ0.out]; rfl, A2, A3, arr_start n T B _ _, A4, A5⟩
  case round =>
    clear A2 A3 A4 A5 k0 k1 t1 i0 i1 d0
    obtain ⟨k, v, hk, rfl, b2, b3, ⟨xs, hown, hE⟩, hnx, hsz⟩ := hrel
    obtain ⟨q, r, hq, hr, hro, hpq, hqr, _, hcall, hend⟩ := HK.out k hk
    obtain ⟨X, hX⟩ : ∃ X, X = strip n (T.el k) := ⟨_, rfl⟩
    have HC : Hid (Calls Try.prog 18 #[.slice (some ⟨bO, oO, none⟩) out.length cO, .int .i64 q] wr fun e w' => ∃ a1 k1 a2 k2 a3 k3, e = .returned (.tuple #[.agg #[.int .u8 X.kind, .slice a1 X.text.length k1, .slice a2 X.elems.length k2, .slice a3 X.mems.length k3], .int .i64 (r : Nat), .bool true]) ∧
      NodeS (Rg B wr.heap.size w'.heap.size) n w' (.int .u8 X.kind) (.slice a1 X.text.length k1) (.slice a2 X.elems.length k2) (.slice a3 X.mems.length k3) X ∧ Below wr.heap.size wr w') := by
      rw [hX]; exact hcall wr hnx
    have HX : Hid (X = strip n (T.el k)) := hX
    have HE : Hid (∀ i, i < k → ∃ d0 d1 d2 d3, xs[i * 4]? = some d0 ∧ xs[i * 4 + 1]? = some d1 ∧ xs[i * 4 + 2]? = some d2 ∧ xs[i * 4 + 3]? = some d3 ∧ NodeS (Sv B (w.heap.size + 2) wr v) n wr d0 d1 d2 d3 (strip n (T.el i))) := hE
    have HND : Hid ((k + 1 = m ∧ nth out r = 93 ∧ r + 1 = pE) ∨ (k + 1 < m ∧ nth out r = 44 ∧ r + 1 = posOf pos F (k + 1))) := hend
    rw [← hq]
    have HQ : Hid (q = posOf pos F k) := hq
    have iq : (q : Int) < (out.length : Int) := by omega
    have ir : (r : Int) < (out.length : Int) := by omega
    have dr : decide ((out.length : Int) ≤ (r : Int)) = false := by simp; omega
    clear hq hr hcall hend hX hE
    go_wp2_with fail
    refine HC.out.mono ?_
    rintro e w2 ⟨a1, q1, a2, q2, a3, q3, rfl, hN, hb2⟩
    have s2 := hb2.size
    have c2 : w2.cell? ⟨w.heap.size + 1, 2, none⟩ = some v := ((b3.below hb2 (by omega)).cell 2)
    have l2 : w.heap.size + 1 < w2.heap.size := by omega
    have hown2 := row_later hown hb2
    go_wp2_with (at_builtin; refine wpList_append_row _ rfl _ _ 31 rfl (w.heap.size + 2) 34 ti _ 4 80 Try.underlying31 hti hz0 hz1 hz2 rfl (by decide) v k xs rfl ?d1 ⟨w2.heap.size + 1, 0, none⟩ 1 [.int .u8 X.kind, .slice a1 X.text.length q1, .slice a2 X.elems.length q2, .slice a3 X.mems.length q3] rfl rfl ?d2 ?d3 (by omega) (by decide) ?d4 ?_)
    case d1 => exact (hown2.alloc _).alloc _
    case d2 => have h := row_news (w2.alloc (.cells #[.int .u8 X.kind, .slice a1 X.text.length q1, .slice a2 X.elems.length q2, .slice a3 X.mems.length q3] 34)) [.int .u8 X.kind, .slice a1 X.text.length q1, .slice a2 X.elems.length q2, .slice a3 X.mems.length q3] 34; rw [World.size_alloc] at h; exact h
    case d3 => intro u hu; simp only [List.mem_cons, List.not_mem_nil, or_false] at hu; rcases hu with rfl | rfl | rfl | rfl <;> rfl
    case d4 => simp; omega
    intro v' w4 ho4 hg hv
    obtain ⟨g4, cap4, rfl⟩ := row_form ho4
    have hb23 : Below w2.heap.size w2 ((w2.alloc (.cells #[.int .u8 X.kind, .slice a1 X.text.length q1, .slice a2 X.elems.length q2, .slice a3 X.mems.length q3] 34)).alloc (.cells #[.int .u8 X.kind, .slice a1 X.text.length q1, .slice a2 X.elems.length q2, .slice a3 X.mems.length q3] 34)) := ((Below.refl _ w2).alloc (Nat.le_refl _) _).alloc (by simp) _
    have keep : ∀ b, b < w.heap.size + 2 → w4.heap[b]? = wr.heap[b]? := fun b hb => ((hg.block b (by simp; omega) (fun e => by have := (hown2.lt b e.symm).1; omega)).trans (hb23.block b (by omega))).trans (hb2.block b (by omega))
    have B2 := b2.carry (keep _ (by omega))
    have B3 := b3.carry (keep _ (by omega))
    have hsz4 : w.heap.size + 2 ≤ w4.heap.size := by have := hg.size; simp at this; omega
    have hb4 : Below w.heap.size w w4 := hnx.trans ((hb2.mono (by omega)).trans ((hb23.mono (by omega)).grown hg (by simp; omega) (fun g e => by have := (hown2.lt g e).1; omega)))
    have hst := arr_step (j := 2) (bN := w.heap.size + 1) HX.out hown HE.out hb2 hb23 hN ho4 hg (fun g e => by have := hv g e; simp only [World.size_alloc]; exact this) ⟨by omega, by omega⟩ hsz
    have HST : Hid (Arr n T B (w.heap.size + 2) (k + 1) (w4.setCell ⟨w.heap.size + 1, 2, none⟩ (.slice (some ⟨g4, 0, none⟩) (k + 1) cap4)) (.slice (some ⟨g4, 0, none⟩) (k + 1) cap4)) := hst
    have HB4 : Hid (Below w.heap.size w (w4.setCell ⟨w.heap.size + 1, 2, none⟩ (.slice (some ⟨g4, 0, none⟩) (k + 1) cap4))) := hb4.setCell (p := ⟨w.heap.size + 1, 2, none⟩) (by show w.heap.size ≤ w.heap.size + 1; omega) _
    have kr : w4.cell? ⟨bO, oO + r, none⟩ = some (.int .u8 (nth out r)) := HO.out.later hb4 r hro
    have p0 : w4.cell? ⟨w.heap.size + 1, 0, none⟩ = some (.int .u8 1) := B3.cell 0
    have p1 : w4.cell? ⟨w.heap.size + 1, 1, none⟩ = some (.slice none 0 0) := B3.cell 1
    have p2 : w4.cell? ⟨w.heap.size + 1, 2, none⟩ = some v := B3.cell 2
    have p3 : w4.cell? ⟨w.heap.size + 1, 3, none⟩ = some (.slice none 0 0) := B3.cell 3
    have z2 := B3.free 2
    have r0 : w4.cell? ⟨w.heap.size, 0, none⟩ = some (.int .u8 0) := B2.cell 0
    have r1 : w4.cell? ⟨w.heap.size, 1, none⟩ = some (.slice none 0 0) := B2.cell 1
    have r2 : w4.cell? ⟨w.heap.size, 2, none⟩ = some (.slice none 0 0) := B2.cell 2
    have r3 : w4.cell? ⟨w.heap.size, 3, none⟩ = some (.slice none 0 0) := B2.cell 3
    have s0 := B2.free 0
    have s1 := B2.free 1
    have s2' := B2.free 2
    have s3 := B2.free 3
    clear hst hb4 keep hb23 hg hv ho4 hown2 hN hb2 c2 l2 s2 hnx b2 b3 hown
    rcases HND.out with ⟨e1, e2, e3⟩ | ⟨e1, e2, e3⟩
    · have u1 : (nth out r == 93) = true := by rw [e2]; rfl
      have HE1 : Hid (k + 1 = m) := e1
      have HE3 : Hid (r + 1 = pE) := e3
      clear e1 e2 e3
      go_wp2_with fail
      refine bodyPost_ret (v := .tuple #[.agg #[.int .u8 1, .slice none 0 0, .slice (some ⟨g4, 0, none⟩) (k + 1) cap4, .slice none 0 0], .int .i64 (pE : Nat), .bool true]) ?e1 rfl ?e2
      case e1 => rw [← HE3.out]; simp [results, Try.results18, go_sem, r0, r1, r2, r3]
      case e2 => exact HPH.out _ _ _ _ _ _ (by rw [← HE1.out]; exact HST.out) HB4.out
    · have u1 : (nth out r == 93) = false := by rw [e2]; rfl
      have u2 : (nth out r != 44) = false := by rw [e2]; rfl
      have HE3 : Hid (r + 1 = posOf pos F (k + 1)) := e3
      clear e2 e3
      go_wp2_with fail
      go_roundw
      case rel => exact ⟨k + 1, _, e1, by rw [← HE3.out]; go_num, B2.other _ (by show w.heap.size ≠ w.heap.size + 1; omega), B3.set 2 _, HST.out, HB4.out, by simpa [World.setCell] using hsz4⟩
      case measure => simp [intOf]; omega

end Go.Proofs.Qxb6605240a
