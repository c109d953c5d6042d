/-
  zzParseValue walked: objects.
-/
import Derived.Test.Qxb6605240aRowM
namespace Go.Proofs.Qxb6605240a
open Go.RowKit Plain

set_option maxRecDepth 100000 in
set_option maxHeartbeats 4000000 in
theorem parse_obj0 (n : Nat) (T : Tr) (B bO oO cO pos : Nat) (out a c : List Int) (w : World) (hk : T.kind = 2) (h0 : T.mems.length = 0) (ho : out = a ++ (enc (n + 1) T ++ c)) (ha : a.length = pos) (hm : out.length ≤ 1073741824) (hO : HasAt w bO oO out) (hb : bO < B) (hB : B ≤ w.heap.size) :
    Calls Try.prog 18 #[.slice (some ⟨bO, oO, none⟩) out.length cO, .int .i64 pos] w fun e w' => ParsePost (n + 1) T B (pos + (enc (n + 1) T).length) w e w' := by
  have hen : enc (n + 1) T = [123, 125] := by rw [enc_obj hk, h0]; rfl
  rw [hen] at ho ⊢
  have hl : out.length = pos + (2 + c.length) := by rw [ho, ← ha]; simp; omega
  have HPH : Hid (∀ (w' : World), Below w.heap.size w w' → ParsePost (n + 1) T B (pos + 2) w (.returned (.tuple #[.agg #[.int .u8 2, .slice none 0 0, .slice none 0 0, .slice none 0 0], .int .i64 ((pos + 2 : Nat) : Int), .bool true])) w') := fun w' h => none_end 2 (.inr ⟨hk, rfl, h0⟩) h
  have k0 := hO pos (by omega)
  have n0 : nth out pos = 123 := by rw [ho, ← ha]; have := nth_at a ([123, 125] ++ c) 0; rw [Nat.add_zero] at this; rw [this]; exact nth_zero
  have k1 := hO (pos + 1) (by omega)
  have n1 : nth out (pos + 1) = 125 := by rw [ho, ← ha, nth_at]; exact nth_cons.trans nth_zero
  rw [n0] at k0
  rw [n1] at k1
  have hbw : bO < w.heap.size := by omega
  have d0 : decide ((pos : Int) < 0) = false := by simp
  have i0 : (pos : Int) < (out.length : Int) := by omega
  have i1 : (pos : Int) + 1 < (out.length : Int) := by omega
  clear ho ha hO hen n0 n1 hl
  go_enter Try.func18, Try.ntmps18
  go_wp2_with fail
  refine bodyPost_ret (v := .tuple #[.agg #[.int .u8 2, .slice none 0 0, .slice none 0 0, .slice none 0 0], .int .i64 ((pos + 2 : Nat) : Int), .bool true]) ?_ rfl (HPH.out _ ?_)
  · simp [results, Try.results18, go_sem]; omega
  · exact ((Below.refl _ w).alloc (Nat.le_refl _) _).alloc (by simp) _

set_option maxRecDepth 100000 in
set_option maxHeartbeats 8000000 in
theorem parse_obj (n : Nat) (ih : ParseSaid n) (T : Tr) (B bO oO cO pos : Nat) (out a c : List Int) (w : World) (hk : T.kind = 2) (h0 : 0 < T.mems.length) (ho : out = a ++ (enc (n + 1) T ++ c)) (ha : a.length = pos) (hd : dom (n + 1) T = true) (hw : wt (n + 1) T ≤ 1048576) (hm : out.length ≤ 1073741824) (hO : HasAt w bO oO out) (hc : out.length ≤ cO) (hc2 : cO ≤ maxLen) (hb : bO < B) (hB : B ≤ w.heap.size) :
    Calls Try.prog 18 #[.slice (some ⟨bO, oO, none⟩) out.length cO, .int .i64 pos] w fun e w' => ParsePost (n + 1) T B (pos + (enc (n + 1) T).length) w e w' := by
  have HW : Hid (wt (n + 1) T = 1 + T.text.length + T.elems.length + sumTo (fun i => wt n (T.el i)) T.elems.length + T.mems.length + sumTo (fun i => (T.nm i).size + wt n (T.vl i)) T.mems.length) := rfl
  have hen : enc (n + 1) T = 123 :: (joinTo (fun i => quo (sb (T.nm i)) ++ 58 :: enc n (T.vl i)) T.mems.length ++ [125]) := enc_obj hk
  obtain ⟨F, hF⟩ : ∃ F, F = fun i => quo (sb (T.nm i)) ++ 58 :: enc n (T.vl i) := ⟨_, rfl⟩
  rw [← hF] at hen
  obtain ⟨m, hmm⟩ : ∃ m, m = T.mems.length := ⟨_, rfl⟩
  have hmb : m ≤ 1048576 := by have := HW.out; omega
  have hnms : ∀ i, i < T.mems.length → (T.nm i).size ≤ maxLen := fun i hi => by
    have := HW.out; have := wt_vl' (n := n) hi; unfold maxLen; omega
  rw [← hmm] at hen h0
  rw [hen] at ho ⊢
  have hl : out.length = pos + ((123 :: (joinTo F m ++ [125])).length + c.length) := by rw [ho, ← ha]; simp only [List.length_append]
  obtain ⟨pE, hpE⟩ : ∃ pE, pE = pos + (123 :: (joinTo F m ++ [125])).length := ⟨_, rfl⟩
  rw [← hpE]
  have hl2 : pE ≤ out.length := by omega
  have hd' : ∀ i, i < m → dom n (T.vl i) = true := by rw [dom_obj hk] at hd; rw [hmm]; exact (allTo_iff _ _).1 hd
  have HPH : Hid (∀ (wE : World) (v x0 x1 x2 x3 : Value), Mms n T B (w.heap.size + 2) m wE v → Below w.heap.size w wE →
      ParsePost (n + 1) T B pE w (.returned (.tuple #[.agg #[.int .u8 2, .slice none 0 0, .slice none 0 0, v], .int .i64 (pE : Nat), .bool true])) ((((wE.setCell ⟨w.heap.size, 0, none⟩ x0).setCell ⟨w.heap.size, 0 + 1, none⟩ x1).setCell ⟨w.heap.size, 0 + 2, none⟩ x2).setCell ⟨w.heap.size, 0 + 3, none⟩ x3)) := fun wE v x0 x1 x2 x3 hA hb => mms_end hk (by rw [← hmm]; exact hA) hb hB (by omega) hnms
  -- where the k-th member lies
  have HK : Hid (∀ k, k < m → ∃ q e r L, q = posOf pos F k ∧ L = (body (sb (T.nm k))).length ∧ e = q + L + 2 ∧ r < out.length ∧ pos < q ∧ e + 1 < r ∧ nth out q = 34 ∧ nth out e = 58 ∧ strEnd out (q + 1) = some e ∧
      (∀ wr, Below w.heap.size w wr → HasAt wr bO (oO + (q + 1)) (body (sb (T.nm k)))) ∧
      (∀ wr, Below w.heap.size w wr → Calls Try.prog 18 #[.slice (some ⟨bO, oO, none⟩) out.length cO, .int .i64 ((e + 1 : Nat) : Int)] wr fun e w' => ParsePost n (T.vl k) B r wr e w') ∧
      ((k + 1 = m ∧ nth out r = 125 ∧ r + 1 = pE) ∨ (k + 1 < m ∧ nth out r = 44 ∧ r + 1 = posOf pos F (k + 1)))) := fun k hk => by
    obtain ⟨e1, e2⟩ := thing_at ho hk
    rw [ha] at e2
    have hdk := hd' k hk
    obtain ⟨A, hA⟩ : ∃ A, A = a ++ 123 :: (joinTo F k ++ sep k) := ⟨_, rfl⟩
    obtain ⟨tl, htl⟩ : ∃ tl, tl = tailJ F (k + 1) (m - (k + 1)) ++ 125 :: c := ⟨_, rfl⟩
    obtain ⟨bd, hbd⟩ : ∃ bd, bd = body (sb (T.nm k)) := ⟨_, rfl⟩
    have hfol : Follow tl := by rw [htl]; exact tail_follow F m k hk 125 c (.inr rfl)
    rw [← hA, ← htl] at e1
    rw [← hA] at e2
    have hFk : F k = 34 :: (bd ++ 34 :: 58 :: enc n (T.vl k)) := by rw [hF, hbd]; simp [quo]
    have hFl : (F k).length = bd.length + 3 + (enc n (T.vl k)).length := by rw [hFk]; simp; omega
    have f1 : out = A ++ (34 :: (bd ++ 34 :: (58 :: (enc n (T.vl k) ++ tl)))) := by rw [e1, hFk]; simp
    have f2 : out = (A ++ (34 :: bd)) ++ (34 :: (58 :: (enc n (T.vl k) ++ tl))) := by rw [f1]; simp
    have f3 : out = (A ++ (34 :: (bd ++ [34, 58]))) ++ (enc n (T.vl k) ++ tl) := by rw [f1]; simp
    have hlen : 0 < (enc n (T.vl k)).length := by obtain ⟨q, r, g1, _⟩ := enc_head hdk; rw [g1]; simp
    have hds : (decod bd).isSome = true := by rw [hbd, decod_body _ (fun c hc => (sb_bounds _ c hc).1)]; rfl
    have hse := strEnd_at out A bd _ f1 hds
    rw [e2] at hse
    have hq34 : nth out (posOf pos F k) = 34 := by rw [← e2]; conv => lhs; rw [f1]
                                                   rw [nth_at0]; exact nth_zero
    have hcol : nth out (posOf pos F k + bd.length + 2) = 58 := by
      have hx : posOf pos F k + bd.length + 2 = (A ++ (34 :: bd)).length + 1 := by simp [e2]; omega
      rw [hx]
      conv => lhs; rw [f2]
      rw [nth_at]; exact nth_cons.trans nth_zero
    have hbody : ∀ wr, Below w.heap.size w wr → HasAt wr bO (oO + (posOf pos F k + 1)) bd := fun wr hbr j hj => by
      have hx : nth out (posOf pos F k + 1 + j) = nth bd j := by
        rw [Nat.add_assoc, ← e2]
        conv => lhs; rw [f1]
        rw [nth_at, Nat.add_comm 1 j, nth_cons, nth_left hj]
      have hj' : posOf pos F k + 1 + j < out.length := by rw [f1]; simp [← e2]; omega
      have h1 := hO.later hbr (posOf pos F k + 1 + j) hj'
      rw [hx] at h1
      rw [Nat.add_assoc]
      exact h1
    have hc18 : ∀ wr, Below w.heap.size w wr → Calls Try.prog 18 #[.slice (some ⟨bO, oO, none⟩) out.length cO, .int .i64 ((posOf pos F k + bd.length + 2 + 1 : Nat) : Int)] wr fun e w' => ParsePost n (T.vl k) B (posOf pos F k + (F k).length) wr e w' := fun wr hbr => by
      have h18 := ih (T.vl k) B bO oO cO (posOf pos F k + bd.length + 2 + 1) out _ _ wr f3 (by simp [← e2]; omega) hfol hdk (by have := HW.out; have := wt_vl' (n := n) (T := T) (k := k) (by omega); omega) hm (hO.later hbr) hc hc2 hb (by have := hbr.size; omega)
      rw [hFl, show posOf pos F k + (bd.length + 3 + (enc n (T.vl k)).length) = posOf pos F k + bd.length + 2 + 1 + (enc n (T.vl k)).length from by omega]
      exact h18
    refine ⟨posOf pos F k, posOf pos F k + bd.length + 2, posOf pos F k + (F k).length, bd.length, rfl, by rw [hbd], rfl, ?_, by unfold posOf; omega, by omega, hq34, hcol, hse, by rw [← hbd]; exact hbody, hc18, ?_⟩
    · by_cases e : k + 1 = m
      · have := (after_last ho e).2.1; rw [ha] at this; exact this
      · have := (after_more ho (show k + 1 < m by omega)).2.1; rw [ha] at this; exact this
    · by_cases e : k + 1 = m
      · have := after_last ho e; rw [ha] at this; exact .inl ⟨e, this.1, by rw [hpE]; exact this.2.2⟩
      · have := after_more ho (show k + 1 < m by omega); rw [ha] at this; exact .inr ⟨by omega, this.1, this.2.2⟩
  have k0 := hO pos (by simp at hl; omega)
  have n0 : nth out pos = 123 := by rw [ho, ← ha]; rw [nth_at0]; exact nth_zero
  rw [n0] at k0
  obtain ⟨q0, e0, r0, L0, hq0, _, hee, hr0, hpq0, hqr0, hn0, _⟩ := HK.out 0 h0
  have hq0' : q0 = pos + 1 := by rw [hq0]; simp [posOf, joinTo, sep]
  have hq00 : posOf pos F 0 = pos + 1 := by rw [← hq0', hq0]
  have HQ0 : Hid (posOf pos F 0 = pos + 1) := hq00
  clear hq00
  rw [hq0'] at hn0
  have k1 := hO (pos + 1) (by omega)
  have t1 : (nth out (pos + 1) == 125) = false := by rw [hn0]; rfl
  have hbw : bO < w.heap.size := by omega
  have d0 : decide ((pos : Int) < 0) = false := by simp
  have i0 : (pos : Int) < (out.length : Int) := by omega
  have i1 : (pos : Int) + 1 < (out.length : Int) := by omega
  have HO : Hid (HasAt w bO oO out) := hO
  have dp : decide ((out.length : Int) ≤ (pos : Int)) = false := by simp; omega
  have dp2 : decide (out.length ≤ pos) = false := by simp; omega
  obtain ⟨ti, hti, hz0, hz1, hz2⟩ := info_parts Try.info55
  clear ho ha hO hen n0 hl hn0 hq0 hq0' hpq0 hqr0 hr0 hd hd' hpE hF ih hw hee
  go_enter Try.func18, Try.ntmps18
  go_wp2_with fail
  have A2 : Blk (((w.alloc (.cells #[.int .u8 0, .slice none 0 0, .slice none 0 0, .slice none 0 0] 34)).alloc (.cells #[.int .u8 2, .slice none 0 0, .slice none 0 0, .slice none 0 0] 34))) w.heap.size [.int .u8 0, .slice none 0 0, .slice none 0 0, .slice none 0 0] 34 := (Blk.new w _ _).past _
  have A3 : Blk (((w.alloc (.cells #[.int .u8 0, .slice none 0 0, .slice none 0 0, .slice none 0 0] 34)).alloc (.cells #[.int .u8 2, .slice none 0 0, .slice none 0 0, .slice none 0 0] 34))) (w.heap.size + 1) [.int .u8 2, .slice none 0 0, .slice none 0 0, .slice none 0 0] 34 := by
    have h := Blk.new (w.alloc (.cells #[.int .u8 0, .slice none 0 0, .slice none 0 0, .slice none 0 0] 34)) [.int .u8 2, .slice none 0 0, .slice none 0 0, .slice none 0 0] 34
    rw [World.size_alloc] at h; exact h
  have A4 : Below w.heap.size w (((w.alloc (.cells #[.int .u8 0, .slice none 0 0, .slice none 0 0, .slice none 0 0] 34)).alloc (.cells #[.int .u8 2, .slice none 0 0, .slice none 0 0, .slice none 0 0] 34))) := ((Below.refl _ w).alloc (Nat.le_refl _) _).alloc (by simp) _
  have A5 : w.heap.size + 2 ≤ (((w.alloc (.cells #[.int .u8 0, .slice none 0 0, .slice none 0 0, .slice none 0 0] 34)).alloc (.cells #[.int .u8 2, .slice none 0 0, .slice none 0 0, .slice none 0 0] 34))).heap.size := by simp
  go_loopw [1] (fun p wr => ∃ (k : Nat) (v : Value), k < m ∧ p = .int .i64 ((posOf pos F k : Nat) : Int) ∧ Blk wr w.heap.size [.int .u8 0, .slice none 0 0, .slice none 0 0, .slice none 0 0] 34 ∧
      Blk wr (w.heap.size + 1) [.int .u8 2, .slice none 0 0, .slice none 0 0, v] 34 ∧ Mms n T B (w.heap.size + 2) k wr v ∧ Below w.heap.size w wr ∧ w.heap.size + 2 ≤ wr.heap.size) (fun p _ => out.length - (intOf p).toNat)
  case atStart => exact ⟨0, _, h0, by rw [HQ0.out]; rfl, A2, A3, mms_start n T B _ _, A4, A5⟩
  case round =>
    clear A2 A3 A4 A5 k0 k1 t1 i0 i1 d0
    obtain ⟨k, v, hk, rfl, b2, b3, ⟨xs, hown, hE⟩, hnx, hsz⟩ := hrel
    obtain ⟨q, e, r, L, hq, hL, he, hro, hpq, hqr, hn34, hn58, hse, hhas, hcall, hend⟩ := HK.out k hk
    obtain ⟨X, hX⟩ : ∃ X, X = strip n (T.vl k) := ⟨_, rfl⟩
    obtain ⟨nm, hnm⟩ : ∃ nm, nm = T.nm k := ⟨_, rfl⟩
    have HC : Hid (∀ wo, Below w.heap.size w wo → Calls Try.prog 18 #[.slice (some ⟨bO, oO, none⟩) out.length cO, .int .i64 ((e : Int) + 1)] wo fun e w' => ∃ a1 k1 a2 k2 a3 k3, e = .returned (.tuple #[.agg #[.int .u8 X.kind, .slice a1 X.text.length k1, .slice a2 X.elems.length k2, .slice a3 X.mems.length k3], .int .i64 (r : Nat), .bool true]) ∧
      NodeS (Rg B wo.heap.size w'.heap.size) n w' (.int .u8 X.kind) (.slice a1 X.text.length k1) (.slice a2 X.elems.length k2) (.slice a3 X.mems.length k3) X ∧ Below wo.heap.size wo w') := by
      rw [hX]; intro wo h; have h2 := hcall wo h; rw [Int.natCast_add] at h2; exact h2
    have HD : Hid (∀ cap, Calls Try.prog 10 #[.slice (some ⟨bO, oO + (q + 1), none⟩) L cap] wr fun e w' => ∃ ao l c, e = .returned (.tuple #[.slice ao l c, .bool true]) ∧ (∀ w2, Below w'.heap.size w' w2 → (convert 22 9 (.slice ao l c)).run Try.prog w2 = .ok (.string nm) w2) ∧ Below wr.heap.size wr w') := by
      rw [hL, ← hnm]
      intro cap
      exact dec_name wr bO (oO + (q + 1)) cap nm (by rw [hnm, ← hL]; omega) (by rw [hnm]; exact hhas wr hnx)
    have HSE : Hid (strEnd out (q + 1) = some e) := hse
    have HX : Hid (X = strip n (T.vl k)) := hX
    have HNM : Hid (nm = T.nm k) := hnm
    have HE : Hid (∀ i, i < k → xs[i * 7]? = some (.string (T.nm i)) ∧ xs[i * 7 + 1]? = some (.slice none 0 0) ∧ xs[i * 7 + 2]? = some (.int .i64 0) ∧
      ∃ d0 d1 d2 d3, xs[i * 7 + 3]? = some d0 ∧ xs[i * 7 + 4]? = some d1 ∧ xs[i * 7 + 5]? = some d2 ∧ xs[i * 7 + 6]? = some d3 ∧ NodeS (Sv B (w.heap.size + 2) wr v) n wr d0 d1 d2 d3 (strip n (T.vl i))) := hE
    have HND : Hid ((k + 1 = m ∧ nth out r = 125 ∧ r + 1 = pE) ∨ (k + 1 < m ∧ nth out r = 44 ∧ r + 1 = posOf pos F (k + 1))) := hend
    rw [← hq]
    have HQ : Hid (q = posOf pos F k) := hq
    have HEE : Hid (e = q + L + 2) := he
    have hel : q + L + 2 ≤ e := by omega
    have heu : e ≤ q + L + 2 := by omega
    have iq : (q : Int) < (out.length : Int) := by omega
    have ie : (e : Int) < (out.length : Int) := by omega
    have ir : (r : Int) < (out.length : Int) := by omega
    have dr : decide ((out.length : Int) ≤ (r : Int)) = false := by simp; omega
    have dr2 : decide (out.length ≤ r) = false := by simp; omega
    have de : decide ((out.length : Int) ≤ (e : Int)) = false := by simp; omega
    have de2 : decide (out.length ≤ e) = false := by simp; omega
    have kq : wr.cell? ⟨bO, oO + q, none⟩ = some (.int .u8 34) := by have := HO.out.later hnx q (by omega); rw [hn34] at this; exact this
    clear hq hcall hend hX hE hhas hse hn34 he hL hnm
    go_wp2_with fail
    refine (send_any wr bO oO cO q e out (HO.out.later hnx) hm (by omega) HSE.out).mono ?_
    rintro ee wr ⟨rfl, rfl⟩
    go_wp2_with fail
    have hL2 : e - 1 - (q + 1) = L := by omega
    rw [hL2]
    refine (HD.out _).mono ?_
    rintro ee wo ⟨na, nl, nc, rfl, hcv, hbo⟩
    have hnxo : Below w.heap.size w wo := hnx.trans (hbo.mono hnx.size)
    have so := hbo.size
    have ke : wo.cell? ⟨bO, oO + e, none⟩ = some (.int .u8 58) := by have := HO.out.later hnxo e (by omega); rw [hn58] at this; exact this
    have HCV : Hid (∀ w2, Below wo.heap.size wo w2 → (convert 22 9 (.slice na nl nc)).run Try.prog w2 = .ok (.string nm) w2) := hcv
    clear hcv hL2 kq hn58
    go_wp2_with fail
    refine (HC.out wo hnxo).mono ?_
    rintro ee w2 ⟨a1, q1, a2, q2, a3, q3, rfl, hN, hb2⟩
    have s2 := hb2.size
    have hbo2 : Below wr.heap.size wr w2 := hbo.trans (hb2.mono hbo.size)
    have c2 : w2.cell? ⟨w.heap.size + 1, 3, none⟩ = some v := ((b3.below hbo2 (by omega)).cell 3)
    have l2 : w.heap.size + 1 < w2.heap.size := by omega
    have hown2 := row_later hown hbo2
    have kcv := HCV.out (w2.alloc (.cells #[.int .u8 X.kind, .slice a1 X.text.length q1, .slice a2 X.elems.length q2, .slice a3 X.mems.length q3] 34)) (hb2.alloc hb2.size _)
    go_wp2_with (at_builtin; refine wpList_append_row _ rfl _ _ 32 rfl (w.heap.size + 2) 55 ti _ 7 128 Try.underlying32 hti hz0 hz1 hz2 rfl (by decide) v k xs rfl ?d1 ⟨w2.heap.size + 1, 0, none⟩ 1 [.string nm, .slice none 0 0, .int .i64 0, .int .u8 X.kind, .slice a1 X.text.length q1, .slice a2 X.elems.length q2, .slice a3 X.mems.length q3] rfl rfl ?d2 ?d3 (by omega) (by decide) ?d4 ?_)
    case d1 => exact (hown2.alloc _).alloc _
    case d2 => have h := row_news (w2.alloc (.cells #[.int .u8 X.kind, .slice a1 X.text.length q1, .slice a2 X.elems.length q2, .slice a3 X.mems.length q3] 34)) [.string nm, .slice none 0 0, .int .i64 0, .int .u8 X.kind, .slice a1 X.text.length q1, .slice a2 X.elems.length q2, .slice a3 X.mems.length q3] 55; rw [World.size_alloc] at h; exact h
    case d3 => intro u hu; simp only [List.mem_cons, List.not_mem_nil, or_false] at hu; rcases hu with rfl | rfl | rfl | rfl | rfl | rfl | rfl <;> rfl
    case d4 => simp; omega
    intro v' w4 ho4 hg hv
    obtain ⟨g4, cap4, rfl⟩ := row_form ho4
    have hb23 : Below w2.heap.size w2 ((w2.alloc (.cells #[.int .u8 X.kind, .slice a1 X.text.length q1, .slice a2 X.elems.length q2, .slice a3 X.mems.length q3] 34)).alloc (.cells #[.string nm, .slice none 0 0, .int .i64 0, .int .u8 X.kind, .slice a1 X.text.length q1, .slice a2 X.elems.length q2, .slice a3 X.mems.length q3] 55)) := ((Below.refl _ w2).alloc (Nat.le_refl _) _).alloc (by simp) _
    have keep : ∀ b, b < w.heap.size + 2 → w4.heap[b]? = wr.heap[b]? := fun b hb => ((hg.block b (by simp; omega) (fun e => by have := (hown2.lt b e.symm).1; omega)).trans (hb23.block b (by omega))).trans (hbo2.block b (by omega))
    have B2 := b2.carry (keep _ (by omega))
    have B3 := b3.carry (keep _ (by omega))
    have hsz4 : w.heap.size + 2 ≤ w4.heap.size := by have := hg.size; simp at this; omega
    have hb4 : Below w.heap.size w w4 := hnx.trans ((hbo2.mono (by omega)).trans ((hb23.mono (by omega)).grown hg (by simp; omega) (fun g e => by have := (hown2.lt g e).1; omega)))
    have hst := mms_step (j := 3) (bN := w.heap.size + 1) HX.out HNM.out hown HE.out hbo hb2 hb23 hN ho4 hg (fun g e => by have := hv g e; simp only [World.size_alloc]; exact this) ⟨by omega, by omega⟩ hsz
    have HST : Hid (Mms n T B (w.heap.size + 2) (k + 1) (w4.setCell ⟨w.heap.size + 1, 3, none⟩ (.slice (some ⟨g4, 0, none⟩) (k + 1) cap4)) (.slice (some ⟨g4, 0, none⟩) (k + 1) cap4)) := hst
    have HB4 : Hid (Below w.heap.size w (w4.setCell ⟨w.heap.size + 1, 3, none⟩ (.slice (some ⟨g4, 0, none⟩) (k + 1) cap4))) := hb4.setCell (p := ⟨w.heap.size + 1, 3, none⟩) (by show w.heap.size ≤ w.heap.size + 1; omega) _
    have kr : w4.cell? ⟨bO, oO + r, none⟩ = some (.int .u8 (nth out r)) := HO.out.later hb4 r hro
    have p0 : w4.cell? ⟨w.heap.size + 1, 0, none⟩ = some (.int .u8 2) := B3.cell 0
    have p1 : w4.cell? ⟨w.heap.size + 1, 1, none⟩ = some (.slice none 0 0) := B3.cell 1
    have p2 : w4.cell? ⟨w.heap.size + 1, 2, none⟩ = some (.slice none 0 0) := B3.cell 2
    have p3 : w4.cell? ⟨w.heap.size + 1, 3, none⟩ = some v := B3.cell 3
    have z2 := B3.free 3
    have r0 : w4.cell? ⟨w.heap.size, 0, none⟩ = some (.int .u8 0) := B2.cell 0
    have r1 : w4.cell? ⟨w.heap.size, 1, none⟩ = some (.slice none 0 0) := B2.cell 1
    have r2 : w4.cell? ⟨w.heap.size, 2, none⟩ = some (.slice none 0 0) := B2.cell 2
    have r3 : w4.cell? ⟨w.heap.size, 3, none⟩ = some (.slice none 0 0) := B2.cell 3
    have s0 := B2.free 0
    have s1 := B2.free 1
    have s2' := B2.free 2
    have s3 := B2.free 3
    clear hst hb4 keep hb23 hg hv ho4 hown2 hN hb2 c2 l2 s2 hnx b2 b3 hown kcv HCV hbo hbo2 hnxo ke so HD HC
    rcases HND.out with ⟨e1, e2, e3⟩ | ⟨e1, e2, e3⟩
    · have u1 : (nth out r == 125) = true := by rw [e2]; rfl
      have HE1 : Hid (k + 1 = m) := e1
      have HE3 : Hid (r + 1 = pE) := e3
      clear e1 e2 e3
      go_wp2_with fail
      refine bodyPost_ret (v := .tuple #[.agg #[.int .u8 2, .slice none 0 0, .slice none 0 0, (.slice (some ⟨g4, 0, none⟩) (k + 1) cap4)], .int .i64 (pE : Nat), .bool true]) ?e1 rfl ?e2
      case e1 => rw [← HE3.out]; simp [results, Try.results18, go_sem, r0, r1, r2, r3]
      case e2 => exact HPH.out _ _ _ _ _ _ (by rw [← HE1.out]; exact HST.out) HB4.out
    · have u1 : (nth out r == 125) = false := by rw [e2]; rfl
      have u2 : (nth out r != 44) = false := by rw [e2]; rfl
      have HE3 : Hid (r + 1 = posOf pos F (k + 1)) := e3
      clear e2 e3
      go_wp2_with fail
      go_roundw
      case rel => exact ⟨k + 1, _, e1, by rw [← HE3.out]; go_num, B2.other _ (by show w.heap.size ≠ w.heap.size + 1; omega), B3.set 3 _, HST.out, HB4.out, by simpa [World.setCell] using hsz4⟩
      case measure => simp [intOf]; omega

end Go.Proofs.Qxb6605240a
