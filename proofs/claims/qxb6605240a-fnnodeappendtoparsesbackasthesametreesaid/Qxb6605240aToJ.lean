/-
  zzToJ walked: a copy of the tree in new memory.
-/
import Derived.Test.Qxb6605240aCopy
import Derived.BigRegion
namespace Go.Proofs.Qxb6605240a
open Go.RowKit Plain

set_option maxHeartbeats 8000000 in
theorem toj_made (n : Nat) (ih : ToJSaid n) (T : Tr) (B b o : Nat) (w : World) (ta : Option Addr) (tcap : Nat) (ea : Addr) (ecap : Nat) (ma : Option Addr) (mcap : Nat)
    (hbB : b < B) (hB : B ≤ w.heap.size) (hw : wt (n + 1) T ≤ 1048576)
    (hf : Four w b o (.int .u8 T.kind) (.slice ta T.text.length tcap) (.slice (some ea) T.elems.length ecap) (.slice ma T.mems.length mcap))
    (hT : TextS (· < B) w (.slice ta T.text.length tcap) T.text) (hMno : ma = none → T.mems.length = 0) (hMR : T.mems.length = 0 ∨ ∃ b o, ma = some ⟨b, o, none⟩ ∧ b < B ∧ ∀ i, i < T.mems.length → MmP n T (· < B) w i b (o + i * 7))
    (hER : T.elems.length = 0 ∨ ∃ b o, some ea = some ⟨b, o, none⟩ ∧ b < B ∧ ∀ i, i < T.elems.length → At (· < B) n w b (o + i * 4) (T.el i)) :
    Calls Try.prog 16 #[.pointer (some ⟨b, o, none⟩)] w fun e w' => ∃ a1 k1 a2 k2 a3 k3, e = .returned (.agg #[.int .u8 T.kind, .slice a1 T.text.length k1, .slice a2 T.elems.length k2, .slice a3 T.mems.length k3]) ∧ NodeS (Rg B w.heap.size w'.heap.size) (n + 1) w' (.int .u8 T.kind) (.slice a1 T.text.length k1) (.slice a2 T.elems.length k2) (.slice a3 T.mems.length k3) T ∧ Below w.heap.size w w' := by
  have IH : Hid (ToJSaid n) := ih
  have HER : Hid (T.elems.length = 0 ∨ ∃ b o, some ea = some ⟨b, o, none⟩ ∧ b < B ∧ ∀ i, i < T.elems.length → At (· < B) n w b (o + i * 4) (T.el i)) := hER
  have HW : Hid (wt (n + 1) T = 1 + T.text.length + T.elems.length + sumTo (fun i => wt n (T.el i)) T.elems.length + T.mems.length + sumTo (fun i => (T.nm i).size + wt n (T.vl i)) T.mems.length) := rfl
  obtain ⟨f0, f1, f2, f3⟩ := hf
  have hlt : b < w.heap.size := by omega
  have hml : T.elems.length ≤ 1048576 := by have := HW.out; omega
  have hn := fun (w : World) => run_neq_slice_nil_any (P := Try.prog) w 31 34 (some ea) T.elems.length ecap 0 0 Try.underlying31
  have HMR : Hid (T.mems.length = 0 ∨ ∃ b o, ma = some ⟨b, o, none⟩ ∧ b < B ∧ ∀ i, i < T.mems.length → MmP n T (· < B) w i b (o + i * 7)) := hMR
  have HT : Hid (TextS (· < B) w (.slice ta T.text.length tcap) T.text) := hT
  have HMN : Hid (ma = none → T.mems.length = 0) := hMno
  have hmm : T.mems.length ≤ 1048576 := by have := HW.out; omega
  clear ih hER hMR hT hMno
  obtain ⟨i0, hi, hz0, hz1, hz2⟩ := info_parts Try.info41
  go_enter Try.func16, Try.ntmps16
  go_wp2_with (at_make; refine wpList_make_full _ rfl _ _ 38 rfl (w.heap.size + 2) 41 i0 _ 4 Try.underlying38 hi hz0 hz1 _ _ _ _ T.elems.length rfl rfl rfl rfl ?b2 ?b3 ?b4 ?_)
  case b2 => rw [hz2]; omega
  case b3 => unfold maxLen; omega
  case b4 => simp
  intro w1 ho hg
  obtain ⟨cur0, hc0, hcl0⟩ := made_blk ho
  have hb1 : Below (w.heap.size + 2) _ w1 := (Below.refl _ _).grown hg (by simp) (fun k hk => by cases hk)
  have hB1 : Below w.heap.size w w1 := (((Below.refl _ w).alloc (Nat.le_refl _) _).alloc (by simp) _).trans (hb1.mono (by omega))
  have k2 : Blk w1 w.heap.size [.int .u8 0, .slice none 0 0, .slice none 0 0, .slice none 0 0] 41 := ((Blk.new w _ _).past _).below hb1 (by omega)
  have k3 : Blk w1 (w.heap.size + 1) [.int .u8 T.kind, .slice ta T.text.length tcap, .slice none 0 0, .slice none 0 0] 41 := Blk.below (by have := Blk.new (w.alloc (.cells #[.int .u8 0, .slice none 0 0, .slice none 0 0, .slice none 0 0] 41)) [.int .u8 T.kind, .slice ta T.text.length tcap, .slice none 0 0, .slice none 0 0] 41; simpa using this) hb1 (by omega)
  have hs1 := hb1.size
  clear ho hg hi hz0 hz1 hz2 hb1
  have j2 : w1.cell? ⟨w.heap.size + 1, 2, none⟩ = some (.slice none 0 0) := k3.cell 2
  have j2f := k3.free 2
  have g2 : w1.cell? ⟨b, o + 2, none⟩ = some (.slice (some ea) T.elems.length ecap) := (hB1.cell (p := ⟨b, o + 2, none⟩) hlt).trans f2
  go_wp2_with fail
  have K2 : Blk (w1.setCell ⟨w.heap.size + 1, 2, none⟩ (.slice (some ⟨w.heap.size + 1 + 1, 0, none⟩) T.elems.length T.elems.length)) w.heap.size [.int .u8 0, .slice none 0 0, .slice none 0 0, .slice none 0 0] 41 := k2.other _ (by show _ ≠ w.heap.size + 1; omega)
  have K3 := k3.set 2 (.slice (some ⟨w.heap.size + 1 + 1, 0, none⟩) T.elems.length T.elems.length)
  have KG : Blk (w1.setCell ⟨w.heap.size + 1, 2, none⟩ (.slice (some ⟨w.heap.size + 1 + 1, 0, none⟩) T.elems.length T.elems.length)) (w.heap.size + 1 + 1) cur0 41 := hc0.other _ (by show _ ≠ w.heap.size + 1; omega)
  have hB2 : Below w.heap.size w (w1.setCell ⟨w.heap.size + 1, 2, none⟩ (.slice (some ⟨w.heap.size + 1 + 1, 0, none⟩) T.elems.length T.elems.length)) := hB1.setCell (p := ⟨w.heap.size + 1, 2, none⟩) (by show _ ≤ w.heap.size + 1; omega) _
  go_loopw [35] (fun i wr => ∃ k : Nat, k ≤ T.elems.length ∧ i = .int .i64 k ∧ Blk wr w.heap.size [.int .u8 0, .slice none 0 0, .slice none 0 0, .slice none 0 0] 41 ∧
      Blk wr (w.heap.size + 1) [.int .u8 T.kind, .slice ta T.text.length tcap, .slice (some ⟨w.heap.size + 1 + 1, 0, none⟩) T.elems.length T.elems.length, .slice none 0 0] 41 ∧
      Elems n T B (w.heap.size + 3) (w.heap.size + 1 + 1) 41 k wr ∧ Below w.heap.size w wr) (fun i _ => T.elems.length - (intOf i).toNat)
  case atStart => exact ⟨0, Nat.zero_le _, rfl, K2, K3, ⟨cur0, KG, hcl0, fun i hi => by omega⟩, hB2⟩
  case round =>
    clear K2 K3 KG hB2 j2 j2f g2 k2 k3 hc0 hs1
    obtain ⟨k, hk, rfl, b2, b3, ⟨cur, bg, hcl, hE⟩, hnx⟩ := hrel
    have hsz := bg.lt
    by_cases hlt2 : k < T.elems.length
    · obtain ⟨eb, eo, hea, heb, hAk⟩ := row_at (S := (· < B)) (size := 4) (P := fun i b o => At (· < B) n w b o (T.el i)) hlt2 HER.out
      cases hea
      have HA : Hid (At (· < B) n wr eb (eo + k * 4) (T.el k)) := hAk.below (hnx.mono hB)
      have HE : Hid (∀ i, i < k → ∃ d0 d1 d2 d3, cur[i * 4]? = some d0 ∧ cur[i * 4 + 1]? = some d1 ∧ cur[i * 4 + 2]? = some d2 ∧ cur[i * 4 + 3]? = some d3 ∧ NodeS (Rg B (w.heap.size + 3) wr.heap.size) n wr d0 d1 d2 d3 (T.el i)) := hE
      have hwk : wt n (T.el k) ≤ 1048576 := by have := HW.out; have := wt_el (n := n) hlt2; omega
      have i1 : (k : Int) < (T.elems.length : Int) := by omega
      have g2 : wr.cell? ⟨b, o + 2, none⟩ = some (.slice (some ⟨eb, eo, none⟩) T.elems.length ecap) := (hnx.cell (p := ⟨b, o + 2, none⟩) hlt).trans f2
      have j2 : wr.cell? ⟨w.heap.size + 1, 2, none⟩ = some (.slice (some ⟨w.heap.size + 1 + 1, 0, none⟩) T.elems.length T.elems.length) := b3.cell 2
      obtain ⟨x0, hx0⟩ : ∃ x, cur[k * 4]? = some x := ⟨_, List.getElem?_eq_getElem (by omega)⟩
      obtain ⟨x1, hx1⟩ : ∃ x, cur[k * 4 + 1]? = some x := ⟨_, List.getElem?_eq_getElem (by omega)⟩
      obtain ⟨x2, hx2⟩ : ∃ x, cur[k * 4 + 2]? = some x := ⟨_, List.getElem?_eq_getElem (by omega)⟩
      obtain ⟨x3, hx3⟩ : ∃ x, cur[k * 4 + 3]? = some x := ⟨_, List.getElem?_eq_getElem (by omega)⟩
      have hgr : w.heap.size + 1 + 1 < wr.heap.size := hsz
      clear hAk hE
      go_wp2_with fail
      go_region_with (go_at_call 16; go_must (refine (IH.out (T.el k) B eb (eo + k * 4) _ (by exact HA.out.carry (Same.drewN' _ wr 1) (fun _ h => h)) (by simp; omega) hwk).mono ?_; rintro e w2 ⟨a1, q1, a2, q2, a3, q3, rfl, hN, hb2⟩; have bg2 := Blk.below (w := wr.drew) bg hb2 (by show w.heap.size + 1 + 1 < wr.heap.size; omega); have y0 := (bg2.cell (k * 4)).trans hx0; have y1 := (bg2.cell (k * 4 + 1)).trans hx1; have y2 := (bg2.cell (k * 4 + 2)).trans hx2; have y3 := (bg2.cell (k * 4 + 3)).trans hx3; have z0 := bg2.free (k * 4); have z1 := bg2.free (k * 4 + 1); have z2 := bg2.free (k * 4 + 2); have z3 := bg2.free (k * 4 + 3); have g3 : w2.cell? ⟨w.heap.size + 1, 2, none⟩ = some (.slice (some ⟨w.heap.size + 1 + 1, 0, none⟩) T.elems.length T.elems.length) := (hb2.cell (p := ⟨w.heap.size + 1, 2, none⟩) (by show w.heap.size + 1 < wr.heap.size; omega)).trans j2))
      all_goals
        have hb3 : Below wr.heap.size wr w2 := of_drew hb2
        have HS := elems_step bg2 hcl hlt2 HE.out hb3 hN (by omega) (by omega) (by omega)
        have HS2 : Hid (Elems n T B (w.heap.size + 3) (w.heap.size + 1 + 1) 41 (k + 1) ((((w2.setCell ⟨w.heap.size + 1 + 1, k * 4, none⟩ (.int .u8 (T.el k).kind)).setCell ⟨w.heap.size + 1 + 1, k * 4 + 1, none⟩ (.slice a1 (T.el k).text.length q1)).setCell ⟨w.heap.size + 1 + 1, k * 4 + 2, none⟩ (.slice a2 (T.el k).elems.length q2)).setCell ⟨w.heap.size + 1 + 1, k * 4 + 3, none⟩ (.slice a3 (T.el k).mems.length q3))) := HS
        have HB2 := b2.below hb3 (by omega)
        have HB3 := b3.below hb3 (by omega)
        have HNX : Hid (Below w.heap.size w w2) := hnx.trans (hb3.mono hnx.size)
        clear HS hb2 hb3 hN bg2
        go_wp2_with fail
        go_roundw
        case rel => exact ⟨k + 1, by omega, by go_num, HB2.other4 _ _ _ _ (by omega), HB3.other4 _ _ _ _ (by omega), HS2, Below.set4 HNX.out (by omega) _ _ _ _⟩
        case measure => simp [intOf]; omega
    · have hkl : k = T.elems.length := by omega
      subst hkl
      have HRE : Hid (RowS (Rg B (w.heap.size + 2) wr.heap.size) (.slice (some ⟨w.heap.size + 1 + 1, 0, none⟩) T.elems.length T.elems.length) T.elems.length 4 (ElP n T (Rg B (w.heap.size + 2) wr.heap.size) wr)) := row_elems ⟨cur, bg, hcl, hE⟩ (by omega) (by omega) (by unfold maxLen; omega)
      have g3 : wr.cell? ⟨b, o + 3, none⟩ = some (.slice ma T.mems.length mcap) := (hnx.cell (p := ⟨b, o + 3, none⟩) hlt).trans f3
      have hn2 := fun (w : World) => run_neq_slice_nil_any (P := Try.prog) w 32 55 ma T.mems.length mcap 0 0 Try.underlying32
      have p0 : wr.cell? ⟨w.heap.size + 1, 0, none⟩ = _ := b3.cell 0
      have p1 : wr.cell? ⟨w.heap.size + 1, 1, none⟩ = _ := b3.cell 1
      have p2 : wr.cell? ⟨w.heap.size + 1, 2, none⟩ = _ := b3.cell 2
      have p3 : wr.cell? ⟨w.heap.size + 1, 3, none⟩ = _ := b3.cell 3
      have r0 : wr.cell? ⟨w.heap.size, 0, none⟩ = _ := b2.cell 0
      have r1 : wr.cell? ⟨w.heap.size, 1, none⟩ = _ := b2.cell 1
      have r2 : wr.cell? ⟨w.heap.size, 2, none⟩ = _ := b2.cell 2
      have r3 : wr.cell? ⟨w.heap.size, 3, none⟩ = _ := b2.cell 3
      have s0 := b2.free 0
      have s1 := b2.free 1
      have s2 := b2.free 2
      have s3 := b2.free 3
      have t3 := b3.free 3
      simp only [List.getElem?_cons_zero, List.getElem?_cons_succ] at p0 p1 p2 p3 r0 r1 r2 r3
      clear hE bg hcl
      cases ma with
      | none =>
        have hm0 : T.mems.length = 0 := HMN.out rfl
        have HF : Hid (NodeS (Rg B w.heap.size wr.heap.size) (n + 1) ((((wr.setCell ⟨w.heap.size, 0, none⟩ (.int .u8 T.kind)).setCell ⟨w.heap.size, 0 + 1, none⟩ (.slice ta T.text.length tcap)).setCell ⟨w.heap.size, 0 + 2, none⟩ (.slice (some ⟨w.heap.size + 1 + 1, 0, none⟩) T.elems.length T.elems.length)).setCell ⟨w.heap.size, 0 + 3, none⟩ (.slice none 0 0)) (.int .u8 T.kind) (.slice ta T.text.length tcap) (.slice (some ⟨w.heap.size + 1 + 1, 0, none⟩) T.elems.length T.elems.length) (.slice none T.mems.length 0) T) :=
          node_end HT.out hnx hB HRE.out (row_nil (Rg B (w.heap.size + 2) 0) 7 _ _ hm0) (Nat.le_refl _) (Nat.zero_le _) ⟨by omega, by omega⟩ (by omega)
        have HM0 : Hid (T.mems.length = 0) := hm0
        clear hm0
        go_wp2_with fail
        refine bodyPost_ret (v := .agg #[.int .u8 T.kind, .slice ta T.text.length tcap, .slice (some ⟨w.heap.size + 1 + 1, 0, none⟩) T.elems.length T.elems.length, .slice none 0 0]) (by simp [results, Try.results16, go_sem, r0, r1, r2, r3]) rfl ⟨ta, tcap, _, _, none, 0, by rw [HM0.out], ?_, ?_⟩
        · have h := HF.out
          rw [← size_set4 wr w.heap.size 0] at h
          exact h
        · exact Below.set4 (p := 0) hnx (Nat.le_refl _) _ _ _ _
      | some m0 =>
        obtain ⟨i1, hi, hz0, hz1, hz2⟩ := info_parts Try.info57
        have hnx0 := hnx
        obtain ⟨wE, hwE⟩ : ∃ wE, wE = wr := ⟨_, rfl⟩
        subst hwE
        go_wp2_with (at_make; refine wpList_make_full _ rfl _ _ 39 rfl wE.heap.size 57 i1 _ 7 Try.underlying39 hi hz0 hz1 _ _ _ _ T.mems.length rfl rfl rfl rfl ?d2 ?d3 (Nat.le_refl _) ?_)
        case d2 => rw [hz2]; omega
        case d3 => unfold maxLen; omega
        intro w5 ho hg
        obtain ⟨cur1, hc1, hcl1⟩ := made_blk ho
        have hb5 : Below wE.heap.size wE w5 := (Below.refl _ _).grown hg (Nat.le_refl _) (fun k hk => by cases hk)
        have b25 := b2.below hb5 (by omega)
        have b35 := b3.below hb5 (by omega)
        have hB5 : Below w.heap.size w w5 := hnx.trans (hb5.mono hnx.size)
        have p3' : w5.cell? ⟨w.heap.size + 1, 3, none⟩ = some (.slice none 0 0) := b35.cell 3
        have t3' := b35.free 3
        have g3' : w5.cell? ⟨b, o + 3, none⟩ = some (.slice (some m0) T.mems.length mcap) := (hB5.cell (p := ⟨b, o + 3, none⟩) hlt).trans f3
        have KG : Blk (w5.setCell ⟨w.heap.size + 1, 3, none⟩ (.slice (some ⟨wE.heap.size, 0, none⟩) T.mems.length T.mems.length)) wE.heap.size cur1 57 := hc1.other _ (by show _ ≠ w.heap.size + 1; omega)
        have K2 : Blk (w5.setCell ⟨w.heap.size + 1, 3, none⟩ (.slice (some ⟨wE.heap.size, 0, none⟩) T.mems.length T.mems.length)) w.heap.size [.int .u8 0, .slice none 0 0, .slice none 0 0, .slice none 0 0] 41 := b25.other _ (by show _ ≠ w.heap.size + 1; omega)
        have K3 := b35.set 3 (.slice (some ⟨wE.heap.size, 0, none⟩) T.mems.length T.mems.length)
        have hB6 : Below w.heap.size w (w5.setCell ⟨w.heap.size + 1, 3, none⟩ (.slice (some ⟨wE.heap.size, 0, none⟩) T.mems.length T.mems.length)) := hB5.setCell (p := ⟨w.heap.size + 1, 3, none⟩) (by show _ ≤ w.heap.size + 1; omega) _
        have HRE2 : Hid (RowS (Rg B (w.heap.size + 2) wE.heap.size) (.slice (some ⟨w.heap.size + 1 + 1, 0, none⟩) T.elems.length T.elems.length) T.elems.length 4 (ElP n T (Rg B (w.heap.size + 2) wE.heap.size) (w5.setCell ⟨w.heap.size + 1, 3, none⟩ (.slice (some ⟨wE.heap.size, 0, none⟩) T.mems.length T.mems.length)))) := HRE.out.imp (fun _ h => h) (fun i b o hb hp => (hp.carry (fun b h => hb5.block b (by unfold Rg at h; omega)) (fun _ h => h) hb).carry (fun b h => Below.heap_setCell _ _ _ _ (by show b ≠ w.heap.size + 1; unfold Rg at h; omega)) (fun _ h => h) hb)
        have hs5 := hb5.size
        clear ho hg hi hz0 hz1 hz2 hc1 b25 b35 hB5 HRE b2 b3 p0 p1 p2 p3 r0 r1 r2 r3 s0 s1 s2 s3 t3 g3 hnx
        go_wp2_with fail
        generalize w5.setCell ⟨w.heap.size + 1, 3, none⟩ (.slice (some ⟨wE.heap.size, 0, none⟩) T.mems.length T.mems.length) = ws at *
        clear p3' t3' g3'
        go_loopw [67] (fun i wr => ∃ k : Nat, k ≤ T.mems.length ∧ i = .int .i64 k ∧ Below wE.heap.size ws wr ∧ Mems n T B (wE.heap.size + 1) wE.heap.size 57 k wr) (fun i _ => T.mems.length - (intOf i).toNat)
        case atStart => exact ⟨0, Nat.zero_le _, rfl, Below.refl _ _, ⟨cur1, KG, hcl1, fun i hi => by omega⟩⟩
        case round =>
          obtain ⟨k, hk, rfl, hnx, ⟨cur, bg, hcl, hE⟩⟩ := hrel
          have hsz := bg.lt
          have hwsz := hnx.size
          have B2 := K2.below hnx (by omega)
          have B3 := K3.below hnx (by omega)
          have hB7 : Below w.heap.size w wr := hB6.trans (hnx.mono (by omega))
          by_cases hlt2 : k < T.mems.length
          · obtain ⟨mb, mo, hea, hmb, hMk⟩ := row_at (S := (· < B)) (size := 7) (P := fun i b o => MmP n T (· < B) w i b o) hlt2 HMR.out
            cases hea
            have hMr : MmP n T (· < B) wr k mb (mo + k * 7) := hMk.carry (Below.same_lt (hB7.mono hB)) (fun _ h => h) hmb
            obtain ⟨m1, m2, ⟨ka, kl, kc, m3, m4⟩, ⟨q, m5⟩, e0, e1, e2, e3, hF, hN⟩ := hMr
            have HA : Hid (At (· < B) n wr mb (mo + k * 7 + 3) (T.vl k)) := ⟨hmb, e0, e1, e2, e3, hF, hN⟩
            have hwk : wt n (T.vl k) ≤ 1048576 := by have := HW.out; have := wt_vl' (n := n) hlt2; omega
            have i1 : (k : Int) < (T.mems.length : Int) := by omega
            have g3 : wr.cell? ⟨b, o + 3, none⟩ = some (.slice (some ⟨mb, mo, none⟩) T.mems.length mcap) := (hB7.cell (p := ⟨b, o + 3, none⟩) hlt).trans f3
            have HEE : Hid (Mems n T B (wE.heap.size + 1) wE.heap.size 57 k wr) := ⟨cur, bg, hcl, hE⟩
            clear hMk hF hN hE
            go_wp2_with fail
            refine (IH.out (T.vl k) B mb (mo + k * 7 + 3) wr HA.out (by omega) hwk).mono ?_
            rintro e w2 ⟨a1, q1, a2, q2, a3, q3, rfl, hN2, hb2⟩
            go_wp2_with fail
            have hb3 : Below wr.heap.size wr (w2.alloc (.cells #[.int .u8 (T.vl k).kind, .slice a1 (T.vl k).text.length q1, .slice a2 (T.vl k).elems.length q2, .slice a3 (T.vl k).mems.length q3] 41)) := hb2.alloc hb2.size _
            have bv : Blk (w2.alloc (.cells #[.int .u8 (T.vl k).kind, .slice a1 (T.vl k).text.length q1, .slice a2 (T.vl k).elems.length q2, .slice a3 (T.vl k).mems.length q3] 41)) w2.heap.size [.int .u8 (T.vl k).kind, .slice a1 (T.vl k).text.length q1, .slice a2 (T.vl k).elems.length q2, .slice a3 (T.vl k).mems.length q3] 41 := Blk.new w2 _ _
            have hN3 : NodeS (Rg B wr.heap.size (w2.alloc (.cells #[.int .u8 (T.vl k).kind, .slice a1 (T.vl k).text.length q1, .slice a2 (T.vl k).elems.length q2, .slice a3 (T.vl k).mems.length q3] 41)).heap.size) n (w2.alloc (.cells #[.int .u8 (T.vl k).kind, .slice a1 (T.vl k).text.length q1, .slice a2 (T.vl k).elems.length q2, .slice a3 (T.vl k).mems.length q3] 41)) (.int .u8 (T.vl k).kind) (.slice a1 (T.vl k).text.length q1) (.slice a2 (T.vl k).elems.length q2) (.slice a3 (T.vl k).mems.length q3) (T.vl k) := hN2.carry (same_new _ (fun b h => by have := hb2.size; unfold Rg at h; omega)) (fun b h => by unfold Rg at h ⊢; simp; omega)
            generalize w2.alloc (.cells #[.int .u8 (T.vl k).kind, .slice a1 (T.vl k).text.length q1, .slice a2 (T.vl k).elems.length q2, .slice a3 (T.vl k).mems.length q3] 41) = w3 at *
            have bg3 := bg.below hb3 (by omega)
            have B33 := B3.below hb3 (by omega)
            have v0 : w3.cell? ⟨w2.heap.size, 0, none⟩ = some (.int .u8 (T.vl k).kind) := bv.cell 0
            have v1 : w3.cell? ⟨w2.heap.size, 1, none⟩ = some (.slice a1 (T.vl k).text.length q1) := bv.cell 1
            have v2 : w3.cell? ⟨w2.heap.size, 2, none⟩ = some (.slice a2 (T.vl k).elems.length q2) := bv.cell 2
            have v3 : w3.cell? ⟨w2.heap.size, 3, none⟩ = some (.slice a3 (T.vl k).mems.length q3) := bv.cell 3
            have o1 : w3.cell? ⟨mb, mo + k * 7, none⟩ = some (.string (T.nm k)) := (hb3.cell (p := ⟨mb, mo + k * 7, none⟩) (by show mb < _; omega)).trans m1
            have o2 : w3.cell? ⟨mb, mo + k * 7 + 1, none⟩ = some (.slice ka kl kc) := (hb3.cell (p := ⟨mb, mo + k * 7 + 1, none⟩) (by show mb < _; omega)).trans m4
            have o3 : w3.cell? ⟨mb, mo + k * 7 + 2, none⟩ = some (.int .i64 q) := (hb3.cell (p := ⟨mb, mo + k * 7 + 2, none⟩) (by show mb < _; omega)).trans m5
            have j3 : w3.cell? ⟨w.heap.size + 1, 3, none⟩ = some (.slice (some ⟨wE.heap.size, 0, none⟩) T.mems.length T.mems.length) := B33.cell 3
            obtain ⟨x0, y0⟩ : ∃ x, w3.cell? ⟨wE.heap.size, k * 7, none⟩ = some x := ⟨_, (bg3.cell _).trans (List.getElem?_eq_getElem (by omega))⟩
            obtain ⟨x1, y1⟩ : ∃ x, w3.cell? ⟨wE.heap.size, k * 7 + 1, none⟩ = some x := ⟨_, (bg3.cell _).trans (List.getElem?_eq_getElem (by omega))⟩
            obtain ⟨x2, y2⟩ : ∃ x, w3.cell? ⟨wE.heap.size, k * 7 + 2, none⟩ = some x := ⟨_, (bg3.cell _).trans (List.getElem?_eq_getElem (by omega))⟩
            obtain ⟨x3, y3⟩ : ∃ x, w3.cell? ⟨wE.heap.size, k * 7 + 3, none⟩ = some x := ⟨_, (bg3.cell _).trans (List.getElem?_eq_getElem (by omega))⟩
            obtain ⟨x4, y4⟩ : ∃ x, w3.cell? ⟨wE.heap.size, k * 7 + 4, none⟩ = some x := ⟨_, (bg3.cell _).trans (List.getElem?_eq_getElem (by omega))⟩
            obtain ⟨x5, y5⟩ : ∃ x, w3.cell? ⟨wE.heap.size, k * 7 + 5, none⟩ = some x := ⟨_, (bg3.cell _).trans (List.getElem?_eq_getElem (by omega))⟩
            obtain ⟨x6, y6⟩ : ∃ x, w3.cell? ⟨wE.heap.size, k * 7 + 6, none⟩ = some x := ⟨_, (bg3.cell _).trans (List.getElem?_eq_getElem (by omega))⟩
            have z0 := bg3.free (k * 7)
            have z1 := bg3.free (k * 7 + 1)
            have z2 := bg3.free (k * 7 + 2)
            have z3 := bg3.free (k * 7 + 3)
            have z4 := bg3.free (k * 7 + 4)
            have z5 := bg3.free (k * 7 + 5)
            have z6 := bg3.free (k * 7 + 6)
            have HST : Hid (Mems n T B (wE.heap.size + 1) wE.heap.size 57 (k + 1) (set7 w3 wE.heap.size (k * 7) (.string (T.nm k)) (.slice ka kl kc) (.int .i64 q) (.int .u8 (T.vl k).kind) (.slice a1 (T.vl k).text.length q1) (.slice a2 (T.vl k).elems.length q2) (.slice a3 (T.vl k).mems.length q3))) := mems_step HEE.out hlt2 hb3 hN3 m2 m3 (by omega) (by omega) (by omega)
            have HBW : Hid (Below wE.heap.size ws w3) := hnx.trans (hb3.mono (by omega))
            clear hb2 hN2 hN3 bv bg bg3 B2 B3 B33 hcl m1 m4 m5 g3 HEE hb3 K2 K3 KG hB6 hB7 hnx
            go_region
            all_goals
              go_wp2_with fail
              go_roundw
              case rel => exact ⟨k + 1, by omega, by go_num, (Below.set7 (p := k * 7) HBW.out (Nat.le_refl _) _ _ _ _ _ _ _).drew, HST.out.drew⟩
              case measure => simp [intOf]; omega
          · have hkl : k = T.mems.length := by omega
            subst hkl
            have HRM : Hid (RowS (Rg B (w.heap.size + 2) wr.heap.size) (.slice (some ⟨wE.heap.size, 0, none⟩) T.mems.length T.mems.length) T.mems.length 7 (MmP n T (Rg B (w.heap.size + 2) wr.heap.size) wr)) := row_mems ⟨cur, bg, hcl, hE⟩ (by omega) (by omega) (by unfold maxLen; omega)
            have HRE3 : Hid (RowS (Rg B (w.heap.size + 2) wE.heap.size) (.slice (some ⟨w.heap.size + 1 + 1, 0, none⟩) T.elems.length T.elems.length) T.elems.length 4 (ElP n T (Rg B (w.heap.size + 2) wE.heap.size) wr)) := HRE2.out.imp (fun _ h => h) (fun i b o hb hp => hp.carry (fun b h => hnx.block b (by unfold Rg at h; omega)) (fun _ h => h) hb)
            have p0 : wr.cell? ⟨w.heap.size + 1, 0, none⟩ = some (.int .u8 T.kind) := B3.cell 0
            have p1 : wr.cell? ⟨w.heap.size + 1, 1, none⟩ = some (.slice ta T.text.length tcap) := B3.cell 1
            have p2 : wr.cell? ⟨w.heap.size + 1, 2, none⟩ = some (.slice (some ⟨w.heap.size + 1 + 1, 0, none⟩) T.elems.length T.elems.length) := B3.cell 2
            have p3 : wr.cell? ⟨w.heap.size + 1, 3, none⟩ = some (.slice (some ⟨wE.heap.size, 0, none⟩) T.mems.length T.mems.length) := B3.cell 3
            have r0 : wr.cell? ⟨w.heap.size, 0, none⟩ = some (.int .u8 0) := B2.cell 0
            have r1 : wr.cell? ⟨w.heap.size, 1, none⟩ = some (.slice none 0 0) := B2.cell 1
            have r2 : wr.cell? ⟨w.heap.size, 2, none⟩ = some (.slice none 0 0) := B2.cell 2
            have r3 : wr.cell? ⟨w.heap.size, 3, none⟩ = some (.slice none 0 0) := B2.cell 3
            have s0 := B2.free 0
            have s1 := B2.free 1
            have s2 := B2.free 2
            have s3 := B2.free 3
            have HF : Hid (NodeS (Rg B w.heap.size wr.heap.size) (n + 1) ((((wr.setCell ⟨w.heap.size, 0, none⟩ (.int .u8 T.kind)).setCell ⟨w.heap.size, 0 + 1, none⟩ (.slice ta T.text.length tcap)).setCell ⟨w.heap.size, 0 + 2, none⟩ (.slice (some ⟨w.heap.size + 1 + 1, 0, none⟩) T.elems.length T.elems.length)).setCell ⟨w.heap.size, 0 + 3, none⟩ (.slice (some ⟨wE.heap.size, 0, none⟩) T.mems.length T.mems.length)) (.int .u8 T.kind) (.slice ta T.text.length tcap) (.slice (some ⟨w.heap.size + 1 + 1, 0, none⟩) T.elems.length T.elems.length) (.slice (some ⟨wE.heap.size, 0, none⟩) T.mems.length T.mems.length) T) :=
              node_end HT.out hB7 hB HRE3.out HRM.out (by omega) (Nat.le_refl _) ⟨by omega, by omega⟩ (by omega)
            have HB7 : Hid (Below w.heap.size w wr) := hB7
            clear hE bg hcl B2 B3 K2 K3 KG hB6 hB7 hnx
            go_wp2_with fail
            refine bodyPost_ret (v := .agg #[.int .u8 T.kind, .slice ta T.text.length tcap, .slice (some ⟨w.heap.size + 1 + 1, 0, none⟩) T.elems.length T.elems.length, .slice (some ⟨wE.heap.size, 0, none⟩) T.mems.length T.mems.length]) (by simp [results, Try.results16, go_sem, r0, r1, r2, r3]) rfl ⟨ta, tcap, _, _, _, _, rfl, ?_, ?_⟩
            · have h := HF.out
              rw [← size_set4 wr w.heap.size 0] at h
              exact h
            · exact Below.set4 (p := 0) HB7.out (Nat.le_refl _) _ _ _ _

end Go.Proofs.Qxb6605240a
