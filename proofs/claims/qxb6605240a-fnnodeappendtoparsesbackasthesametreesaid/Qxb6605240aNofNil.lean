/-
  zzNodeOf walked: no elements; all of it.
-/
import Derived.Test.Qxb6605240aNof
namespace Go.Proofs.Qxb6605240a
open Go.RowKit Plain

set_option maxHeartbeats 8000000 in
theorem nof_nil (n : Nat) (ih : NofSaid n) (T : Tr) (B b o : Nat) (w : World) (ta : Option Addr) (tcap : Nat) (ecap : Nat) (ma : Option Addr) (mcap : Nat)
    (hbB : b < B) (hB : B ≤ w.heap.size) (hw : wt (n + 1) T ≤ 1048576) (hE0 : T.elems.length = 0)
    (hf : Four w b o (.int .u8 T.kind) (.slice ta T.text.length tcap) (.slice none 0 ecap) (.slice ma T.mems.length mcap))
    (hT : TextS (· < B) w (.slice ta T.text.length tcap) T.text) (hMno : ma = none → T.mems.length = 0) (hMR : T.mems.length = 0 ∨ ∃ b o, ma = some ⟨b, o, none⟩ ∧ b < B ∧ ∀ i, i < T.mems.length → MmP n T (· < B) w i b (o + i * 7)) :
    Calls Try.prog 22 #[.pointer (some ⟨b, o, none⟩)] w fun e w' => ∃ a1 k1 a2 k2 a3 k3, e = .returned (.agg #[.int .u8 T.kind, .slice a1 T.text.length k1, .slice a2 T.elems.length k2, .slice a3 T.mems.length k3]) ∧ NodeS (Rg B w.heap.size w'.heap.size) (n + 1) w' (.int .u8 T.kind) (.slice a1 T.text.length k1) (.slice a2 T.elems.length k2) (.slice a3 T.mems.length k3) T ∧ Below w.heap.size w w' := by
  have IH : Hid (NofSaid n) := ih
  have HE0 : Hid (T.elems.length = 0) := hE0
  have HW : Hid (wt (n + 1) T = 1 + T.text.length + T.elems.length + sumTo (fun i => wt n (T.el i)) T.elems.length + T.mems.length + sumTo (fun i => (T.nm i).size + wt n (T.vl i)) T.mems.length) := rfl
  obtain ⟨f0, f1, f2, f3⟩ := hf
  have hlt : b < w.heap.size := by omega
  have hn := fun (w : World) => run_neq_slice_nil_any (P := Try.prog) w 38 41 none 0 ecap 0 0 Try.underlying38
  have HMR : Hid (T.mems.length = 0 ∨ ∃ b o, ma = some ⟨b, o, none⟩ ∧ b < B ∧ ∀ i, i < T.mems.length → MmP n T (· < B) w i b (o + i * 7)) := hMR
  have HT : Hid (TextS (· < B) w (.slice ta T.text.length tcap) T.text) := hT
  have HMN : Hid (ma = none → T.mems.length = 0) := hMno
  have hmm : T.mems.length ≤ 1048576 := by have := HW.out; omega
  clear ih hMR hT hMno hE0
  have A2 : Blk (((w.alloc (.cells #[.int .u8 0, .slice none 0 0, .slice none 0 0, .slice none 0 0] 62)).alloc (.cells #[.int .u8 T.kind, .slice ta T.text.length tcap, .slice none 0 0, .slice none 0 0] 62)).drew) w.heap.size [.int .u8 0, .slice none 0 0, .slice none 0 0, .slice none 0 0] 62 := (Blk.new w _ _).past _
  have A3 : Blk (((w.alloc (.cells #[.int .u8 0, .slice none 0 0, .slice none 0 0, .slice none 0 0] 62)).alloc (.cells #[.int .u8 T.kind, .slice ta T.text.length tcap, .slice none 0 0, .slice none 0 0] 62)).drew) (w.heap.size + 1) [.int .u8 T.kind, .slice ta T.text.length tcap, .slice none 0 0, .slice none 0 0] 62 := by have h := Blk.new (w.alloc (.cells #[.int .u8 0, .slice none 0 0, .slice none 0 0, .slice none 0 0] 62)) [.int .u8 T.kind, .slice ta T.text.length tcap, .slice none 0 0, .slice none 0 0] 62; rw [World.size_alloc] at h; exact h
  have hA : Below w.heap.size w (((w.alloc (.cells #[.int .u8 0, .slice none 0 0, .slice none 0 0, .slice none 0 0] 62)).alloc (.cells #[.int .u8 T.kind, .slice ta T.text.length tcap, .slice none 0 0, .slice none 0 0] 62)).drew) := (((Below.refl _ w).alloc (Nat.le_refl _) _).alloc (by simp) _).drew
  have hAs : w.heap.size + 2 ≤ (((w.alloc (.cells #[.int .u8 0, .slice none 0 0, .slice none 0 0, .slice none 0 0] 62)).alloc (.cells #[.int .u8 T.kind, .slice ta T.text.length tcap, .slice none 0 0, .slice none 0 0] 62)).drew).heap.size := by simp
  go_enter Try.func22, Try.ntmps22
  go_wp2_with fail
  go_region
  generalize ((w.alloc (.cells #[.int .u8 0, .slice none 0 0, .slice none 0 0, .slice none 0 0] 62)).alloc (.cells #[.int .u8 T.kind, .slice ta T.text.length tcap, .slice none 0 0, .slice none 0 0] 62)).drew = wr at *
  have b2 := A2
  have b3 := A3
  have hnx := hA
  have hsz := hAs
  have qA2 : wr.cell? ⟨b, o + 2, none⟩ = some (.slice none 0 ecap) := (hA.cell (p := ⟨b, o + 2, none⟩) hlt).trans f2
  have HRE : Hid (RowS (Rg B (w.heap.size + 2) wr.heap.size) (.slice none T.elems.length 0) T.elems.length 4 (ElP n T (Rg B (w.heap.size + 2) wr.heap.size) wr)) := row_nil _ 4 _ _ HE0.out
  clear A2 A3 hA hAs
  have g3 : wr.cell? ⟨b, o + 3, none⟩ = some (.slice ma T.mems.length mcap) := (hnx.cell (p := ⟨b, o + 3, none⟩) hlt).trans f3
  have hn2 := fun (w : World) => run_neq_slice_nil_any (P := Try.prog) w 39 57 ma T.mems.length mcap 0 0 Try.underlying39
  have p0 : wr.cell? ⟨w.heap.size + 1, 0, none⟩ = _ := b3.cell 0
  have p1 : wr.cell? ⟨w.heap.size + 1, 1, none⟩ = _ := b3.cell 1
  have p2 : wr.cell? ⟨w.heap.size + 1, 2, none⟩ = _ := b3.cell 2
  have p3 : wr.cell? ⟨w.heap.size + 1, 3, none⟩ = _ := b3.cell 3
  have r0 : wr.cell? ⟨w.heap.size, 0, none⟩ = _ := b2.cell 0
  have r1 : wr.cell? ⟨w.heap.size, 1, none⟩ = _ := b2.cell 1
  have r2 : wr.cell? ⟨w.heap.size, 2, none⟩ = _ := b2.cell 2
  have r3 : wr.cell? ⟨w.heap.size, 3, none⟩ = _ := b2.cell 3
  have s0 := b2.free 0
  have s1 := b2.free 1
  have s2 := b2.free 2
  have s3 := b2.free 3
  have t3 := b3.free 3
  simp only [List.getElem?_cons_zero, List.getElem?_cons_succ] at p0 p1 p2 p3 r0 r1 r2 r3
  cases ma with
  | none =>
    have hm0 : T.mems.length = 0 := HMN.out rfl
    have HF : Hid (NodeS (Rg B w.heap.size wr.heap.size) (n + 1) ((((wr.setCell ⟨w.heap.size, 0, none⟩ (.int .u8 T.kind)).setCell ⟨w.heap.size, 0 + 1, none⟩ (.slice ta T.text.length tcap)).setCell ⟨w.heap.size, 0 + 2, none⟩ (.slice none 0 0)).setCell ⟨w.heap.size, 0 + 3, none⟩ (.slice none 0 0)) (.int .u8 T.kind) (.slice ta T.text.length tcap) (.slice none T.elems.length 0) (.slice none T.mems.length 0) T) :=
      node_end HT.out hnx hB HRE.out (row_nil (Rg B (w.heap.size + 2) 0) 7 _ _ hm0) (Nat.le_refl _) (Nat.zero_le _) ⟨by omega, by omega⟩ (by omega)
    have HM0 : Hid (T.mems.length = 0) := hm0
    clear hm0
    go_wp2_with fail
    refine bodyPost_ret (v := .agg #[.int .u8 T.kind, .slice ta T.text.length tcap, .slice none 0 0, .slice none 0 0]) (by simp [results, Try.results22, go_sem, r0, r1, r2, r3]) rfl ⟨ta, tcap, none, 0, none, 0, by rw [HM0.out, HE0.out], ?_, ?_⟩
    · have h := HF.out
      rw [← size_set4 wr w.heap.size 0] at h
      exact h
    · exact Below.set4 (p := 0) hnx (Nat.le_refl _) _ _ _ _
  | some m0 =>
    obtain ⟨i1, hi, hz0, hz1, hz2⟩ := info_parts Try.info67
    have hnx0 := hnx
    obtain ⟨wE, hwE⟩ : ∃ wE, wE = wr := ⟨_, rfl⟩
    subst hwE
    go_wp2_with (at_make; refine wpList_make_full _ rfl _ _ 60 rfl wE.heap.size 67 i1 _ 7 Try.underlying60 hi hz0 hz1 _ _ _ _ T.mems.length rfl rfl rfl rfl ?d2 ?d3 (Nat.le_refl _) ?_)
    case d2 => rw [hz2]; omega
    case d3 => unfold maxLen; omega
    intro w5 ho hg
    obtain ⟨cur1, hc1, hcl1⟩ := made_blk ho
    have hb5 : Below wE.heap.size wE w5 := (Below.refl _ _).grown hg (Nat.le_refl _) (fun k hk => by cases hk)
    have b25 := b2.below hb5 (by omega)
    have b35 := b3.below hb5 (by omega)
    have hB5 : Below w.heap.size w w5 := hnx.trans (hb5.mono hnx.size)
    have p3' : w5.cell? ⟨w.heap.size + 1, 3, none⟩ = some (.slice none 0 0) := b35.cell 3
    have t3' := b35.free 3
    have g3' : w5.cell? ⟨b, o + 3, none⟩ = some (.slice (some m0) T.mems.length mcap) := (hB5.cell (p := ⟨b, o + 3, none⟩) hlt).trans f3
    have KG : Blk (w5.setCell ⟨w.heap.size + 1, 3, none⟩ (.slice (some ⟨wE.heap.size, 0, none⟩) T.mems.length T.mems.length)) wE.heap.size cur1 67 := hc1.other _ (by show _ ≠ w.heap.size + 1; omega)
    have K2 : Blk (w5.setCell ⟨w.heap.size + 1, 3, none⟩ (.slice (some ⟨wE.heap.size, 0, none⟩) T.mems.length T.mems.length)) w.heap.size [.int .u8 0, .slice none 0 0, .slice none 0 0, .slice none 0 0] 62 := b25.other _ (by show _ ≠ w.heap.size + 1; omega)
    have K3 := b35.set 3 (.slice (some ⟨wE.heap.size, 0, none⟩) T.mems.length T.mems.length)
    have hB6 : Below w.heap.size w (w5.setCell ⟨w.heap.size + 1, 3, none⟩ (.slice (some ⟨wE.heap.size, 0, none⟩) T.mems.length T.mems.length)) := hB5.setCell (p := ⟨w.heap.size + 1, 3, none⟩) (by show _ ≤ w.heap.size + 1; omega) _
    have HRE2 : Hid (RowS (Rg B (w.heap.size + 2) wE.heap.size) (.slice none T.elems.length 0) T.elems.length 4 (ElP n T (Rg B (w.heap.size + 2) wE.heap.size) (w5.setCell ⟨w.heap.size + 1, 3, none⟩ (.slice (some ⟨wE.heap.size, 0, none⟩) T.mems.length T.mems.length)))) := HRE.out.imp (fun _ h => h) (fun i b o hb hp => (hp.carry (fun b h => hb5.block b (by unfold Rg at h; omega)) (fun _ h => h) hb).carry (fun b h => Below.heap_setCell _ _ _ _ (by show b ≠ w.heap.size + 1; unfold Rg at h; omega)) (fun _ h => h) hb)
    have hs5 := hb5.size
    clear ho hg hi hz0 hz1 hz2 hc1 b25 b35 hB5 HRE b2 b3 p0 p1 p2 p3 r0 r1 r2 r3 s0 s1 s2 s3 t3 g3 hnx
    go_wp2_with fail
    generalize w5.setCell ⟨w.heap.size + 1, 3, none⟩ (.slice (some ⟨wE.heap.size, 0, none⟩) T.mems.length T.mems.length) = ws at *
    clear p3' t3' g3'
    go_loopw [66] (fun i wr => ∃ k : Nat, k ≤ T.mems.length ∧ i = .int .i64 k ∧ Below wE.heap.size ws wr ∧ Mems n T B (wE.heap.size + 1) wE.heap.size 67 k wr) (fun i _ => T.mems.length - (intOf i).toNat)
    case atStart => exact ⟨0, Nat.zero_le _, rfl, Below.refl _ _, ⟨cur1, KG, hcl1, fun i hi => by omega⟩⟩
    case round =>
      obtain ⟨k, hk, rfl, hnx, ⟨cur, bg, hcl, hE⟩⟩ := hrel
      have hsz := bg.lt
      have hwsz := hnx.size
      have B2 := K2.below hnx (by omega)
      have B3 := K3.below hnx (by omega)
      have hB7 : Below w.heap.size w wr := hB6.trans (hnx.mono (by omega))
      by_cases hlt2 : k < T.mems.length
      · obtain ⟨mb, mo, hea, hmb, hMk⟩ := row_at (S := (· < B)) (size := 7) (P := fun i b o => MmP n T (· < B) w i b o) hlt2 HMR.out
        cases hea
        have hMr : MmP n T (· < B) wr k mb (mo + k * 7) := hMk.carry (Below.same_lt (hB7.mono hB)) (fun _ h => h) hmb
        obtain ⟨m1, m2, ⟨ka, kl, kc, m3, m4⟩, ⟨q, m5⟩, e0, e1, e2, e3, hF, hN⟩ := hMr
        have HA : Hid (At (· < B) n wr mb (mo + k * 7 + 3) (T.vl k)) := ⟨hmb, e0, e1, e2, e3, hF, hN⟩
        have hwk : wt n (T.vl k) ≤ 1048576 := by have := HW.out; have := wt_vl' (n := n) hlt2; omega
        have i1 : (k : Int) < (T.mems.length : Int) := by omega
        have g3 : wr.cell? ⟨b, o + 3, none⟩ = some (.slice (some ⟨mb, mo, none⟩) T.mems.length mcap) := (hB7.cell (p := ⟨b, o + 3, none⟩) hlt).trans f3
        have HEE : Hid (Mems n T B (wE.heap.size + 1) wE.heap.size 67 k wr) := ⟨cur, bg, hcl, hE⟩
        clear hMk hF hN hE
        go_wp2_with fail
        refine (IH.out (T.vl k) B mb (mo + k * 7 + 3) wr HA.out (by omega) hwk).mono ?_
        rintro e w2 ⟨a1, q1, a2, q2, a3, q3, rfl, hN2, hb2⟩
        go_wp2_with fail
        have hb3 : Below wr.heap.size wr (w2.alloc (.cells #[.int .u8 (T.vl k).kind, .slice a1 (T.vl k).text.length q1, .slice a2 (T.vl k).elems.length q2, .slice a3 (T.vl k).mems.length q3] 62)) := hb2.alloc hb2.size _
        have bv : Blk (w2.alloc (.cells #[.int .u8 (T.vl k).kind, .slice a1 (T.vl k).text.length q1, .slice a2 (T.vl k).elems.length q2, .slice a3 (T.vl k).mems.length q3] 62)) w2.heap.size [.int .u8 (T.vl k).kind, .slice a1 (T.vl k).text.length q1, .slice a2 (T.vl k).elems.length q2, .slice a3 (T.vl k).mems.length q3] 62 := Blk.new w2 _ _
        have hN3 : NodeS (Rg B wr.heap.size (w2.alloc (.cells #[.int .u8 (T.vl k).kind, .slice a1 (T.vl k).text.length q1, .slice a2 (T.vl k).elems.length q2, .slice a3 (T.vl k).mems.length q3] 62)).heap.size) n (w2.alloc (.cells #[.int .u8 (T.vl k).kind, .slice a1 (T.vl k).text.length q1, .slice a2 (T.vl k).elems.length q2, .slice a3 (T.vl k).mems.length q3] 62)) (.int .u8 (T.vl k).kind) (.slice a1 (T.vl k).text.length q1) (.slice a2 (T.vl k).elems.length q2) (.slice a3 (T.vl k).mems.length q3) (T.vl k) := hN2.carry (same_new _ (fun b h => by have := hb2.size; unfold Rg at h; omega)) (fun b h => by unfold Rg at h ⊢; simp; omega)
        generalize w2.alloc (.cells #[.int .u8 (T.vl k).kind, .slice a1 (T.vl k).text.length q1, .slice a2 (T.vl k).elems.length q2, .slice a3 (T.vl k).mems.length q3] 62) = w3 at *
        have bg3 := bg.below hb3 (by omega)
        have B33 := B3.below hb3 (by omega)
        have v0 : w3.cell? ⟨w2.heap.size, 0, none⟩ = some (.int .u8 (T.vl k).kind) := bv.cell 0
        have v1 : w3.cell? ⟨w2.heap.size, 1, none⟩ = some (.slice a1 (T.vl k).text.length q1) := bv.cell 1
        have v2 : w3.cell? ⟨w2.heap.size, 2, none⟩ = some (.slice a2 (T.vl k).elems.length q2) := bv.cell 2
        have v3 : w3.cell? ⟨w2.heap.size, 3, none⟩ = some (.slice a3 (T.vl k).mems.length q3) := bv.cell 3
        have o1 : w3.cell? ⟨mb, mo + k * 7, none⟩ = some (.string (T.nm k)) := (hb3.cell (p := ⟨mb, mo + k * 7, none⟩) (by show mb < _; omega)).trans m1
        have o2 : w3.cell? ⟨mb, mo + k * 7 + 1, none⟩ = some (.slice ka kl kc) := (hb3.cell (p := ⟨mb, mo + k * 7 + 1, none⟩) (by show mb < _; omega)).trans m4
        have o3 : w3.cell? ⟨mb, mo + k * 7 + 2, none⟩ = some (.int .i64 q) := (hb3.cell (p := ⟨mb, mo + k * 7 + 2, none⟩) (by show mb < _; omega)).trans m5
        have j3 : w3.cell? ⟨w.heap.size + 1, 3, none⟩ = some (.slice (some ⟨wE.heap.size, 0, none⟩) T.mems.length T.mems.length) := B33.cell 3
        obtain ⟨x0, y0⟩ : ∃ x, w3.cell? ⟨wE.heap.size, k * 7, none⟩ = some x := ⟨_, (bg3.cell _).trans (List.getElem?_eq_getElem (by omega))⟩
        obtain ⟨x1, y1⟩ : ∃ x, w3.cell? ⟨wE.heap.size, k * 7 + 1, none⟩ = some x := ⟨_, (bg3.cell _).trans (List.getElem?_eq_getElem (by omega))⟩
        obtain ⟨x2, y2⟩ : ∃ x, w3.cell? ⟨wE.heap.size, k * 7 + 2, none⟩ = some x := ⟨_, (bg3.cell _).trans (List.getElem?_eq_getElem (by omega))⟩
        obtain ⟨x3, y3⟩ : ∃ x, w3.cell? ⟨wE.heap.size, k * 7 + 3, none⟩ = some x := ⟨_, (bg3.cell _).trans (List.getElem?_eq_getElem (by omega))⟩
        obtain ⟨x4, y4⟩ : ∃ x, w3.cell? ⟨wE.heap.size, k * 7 + 4, none⟩ = some x := ⟨_, (bg3.cell _).trans (List.getElem?_eq_getElem (by omega))⟩
        obtain ⟨x5, y5⟩ : ∃ x, w3.cell? ⟨wE.heap.size, k * 7 + 5, none⟩ = some x := ⟨_, (bg3.cell _).trans (List.getElem?_eq_getElem (by omega))⟩
        obtain ⟨x6, y6⟩ : ∃ x, w3.cell? ⟨wE.heap.size, k * 7 + 6, none⟩ = some x := ⟨_, (bg3.cell _).trans (List.getElem?_eq_getElem (by omega))⟩
        have z0 := bg3.free (k * 7)
        have z1 := bg3.free (k * 7 + 1)
        have z2 := bg3.free (k * 7 + 2)
        have z3 := bg3.free (k * 7 + 3)
        have z4 := bg3.free (k * 7 + 4)
        have z5 := bg3.free (k * 7 + 5)
        have z6 := bg3.free (k * 7 + 6)
        have HST : Hid (Mems n T B (wE.heap.size + 1) wE.heap.size 67 (k + 1) (set7 w3 wE.heap.size (k * 7) (.string (T.nm k)) (.slice ka kl kc) (.int .i64 q) (.int .u8 (T.vl k).kind) (.slice a1 (T.vl k).text.length q1) (.slice a2 (T.vl k).elems.length q2) (.slice a3 (T.vl k).mems.length q3))) := mems_step HEE.out hlt2 hb3 hN3 m2 m3 (by omega) (by omega) (by omega)
        have HBW : Hid (Below wE.heap.size ws w3) := hnx.trans (hb3.mono (by omega))
        clear hb2 hN2 hN3 bv bg bg3 B2 B3 B33 hcl m1 m4 m5 g3 HEE hb3 K2 K3 KG hB6 hB7 hnx
        go_region
        all_goals
          go_wp2_with fail
          go_roundw
          case rel => exact ⟨k + 1, by omega, by go_num, (Below.set7 (p := k * 7) HBW.out (Nat.le_refl _) _ _ _ _ _ _ _).drew, HST.out.drew⟩
          case measure => simp [intOf]; omega
      · have hkl : k = T.mems.length := by omega
        subst hkl
        have HRM : Hid (RowS (Rg B (w.heap.size + 2) wr.heap.size) (.slice (some ⟨wE.heap.size, 0, none⟩) T.mems.length T.mems.length) T.mems.length 7 (MmP n T (Rg B (w.heap.size + 2) wr.heap.size) wr)) := row_mems ⟨cur, bg, hcl, hE⟩ (by omega) (by omega) (by unfold maxLen; omega)
        have HRE3 : Hid (RowS (Rg B (w.heap.size + 2) wE.heap.size) (.slice none T.elems.length 0) T.elems.length 4 (ElP n T (Rg B (w.heap.size + 2) wE.heap.size) wr)) := HRE2.out.imp (fun _ h => h) (fun i b o hb hp => hp.carry (fun b h => hnx.block b (by unfold Rg at h; omega)) (fun _ h => h) hb)
        have p0 : wr.cell? ⟨w.heap.size + 1, 0, none⟩ = some (.int .u8 T.kind) := B3.cell 0
        have p1 : wr.cell? ⟨w.heap.size + 1, 1, none⟩ = some (.slice ta T.text.length tcap) := B3.cell 1
        have p2 : wr.cell? ⟨w.heap.size + 1, 2, none⟩ = some (.slice none 0 0) := B3.cell 2
        have p3 : wr.cell? ⟨w.heap.size + 1, 3, none⟩ = some (.slice (some ⟨wE.heap.size, 0, none⟩) T.mems.length T.mems.length) := B3.cell 3
        have r0 : wr.cell? ⟨w.heap.size, 0, none⟩ = some (.int .u8 0) := B2.cell 0
        have r1 : wr.cell? ⟨w.heap.size, 1, none⟩ = some (.slice none 0 0) := B2.cell 1
        have r2 : wr.cell? ⟨w.heap.size, 2, none⟩ = some (.slice none 0 0) := B2.cell 2
        have r3 : wr.cell? ⟨w.heap.size, 3, none⟩ = some (.slice none 0 0) := B2.cell 3
        have s0 := B2.free 0
        have s1 := B2.free 1
        have s2 := B2.free 2
        have s3 := B2.free 3
        have HF : Hid (NodeS (Rg B w.heap.size wr.heap.size) (n + 1) ((((wr.setCell ⟨w.heap.size, 0, none⟩ (.int .u8 T.kind)).setCell ⟨w.heap.size, 0 + 1, none⟩ (.slice ta T.text.length tcap)).setCell ⟨w.heap.size, 0 + 2, none⟩ (.slice none 0 0)).setCell ⟨w.heap.size, 0 + 3, none⟩ (.slice (some ⟨wE.heap.size, 0, none⟩) T.mems.length T.mems.length)) (.int .u8 T.kind) (.slice ta T.text.length tcap) (.slice none T.elems.length 0) (.slice (some ⟨wE.heap.size, 0, none⟩) T.mems.length T.mems.length) T) :=
          node_end HT.out hB7 hB HRE3.out HRM.out (by omega) (Nat.le_refl _) ⟨by omega, by omega⟩ (by omega)
        have HB7 : Hid (Below w.heap.size w wr) := hB7
        clear hE bg hcl B2 B3 K2 K3 KG hB6 hB7 hnx
        go_wp2_with fail
        refine bodyPost_ret (v := .agg #[.int .u8 T.kind, .slice ta T.text.length tcap, .slice none 0 0, .slice (some ⟨wE.heap.size, 0, none⟩) T.mems.length T.mems.length]) (by simp [results, Try.results22, go_sem, r0, r1, r2, r3]) rfl ⟨ta, tcap, none, 0, _, _, by rw [HE0.out], ?_, ?_⟩
        · have h := HF.out
          rw [← size_set4 wr w.heap.size 0] at h
          exact h
        · exact Below.set4 (p := 0) HB7.out (Nat.le_refl _) _ _ _ _

theorem nof_any : ∀ n, NofSaid n := by
  intro n
  induction n with
  | zero => intro T B b o w ha; obtain ⟨_, _, _, _, _, _, h⟩ := ha; exact h.elim
  | succ n ih =>
    intro T B b o w ha hB hw
    obtain ⟨hb, c0, c1, c2, c3, hf, rfl, h2, h3, h4⟩ := ha
    have hT := h2
    obtain ⟨ta, tcap, rfl, _, _, _⟩ := h2
    obtain ⟨ea, ecap, rfl, _, _, heno, herow⟩ := h3
    obtain ⟨ma, mcap, rfl, _, _, hmno, hmrow⟩ := h4
    cases ea with
    | none =>
      have h0 := heno rfl
      rw [h0] at hf
      exact nof_nil n ih T B b o w ta tcap ecap ma mcap hb hB hw h0 hf hT hmno hmrow
    | some e0 =>
      refine nof_made n ih T B b o w ta tcap e0 ecap ma mcap hb hB hw hf hT hmno hmrow ?_
      rcases herow with h0 | ⟨eb, eo, r1, r2, r3⟩
      · exact .inl h0
      · exact .inr ⟨eb, eo, r1, r2, fun i hi => by
          obtain ⟨d0, d1, d2, d3, g1, g2⟩ := r3 i hi
          exact ⟨r2, d0, d1, d2, d3, g1, g2⟩⟩

end Go.Proofs.Qxb6605240a
