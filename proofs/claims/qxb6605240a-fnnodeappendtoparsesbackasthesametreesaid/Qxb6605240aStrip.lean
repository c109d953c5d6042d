/-
  What the parser hands back for a tree: only what appendTo reads. zzSameTree walked.
-/
import Derived.Test.Qxb6605240aDom
namespace Go.Proofs.Qxb6605240a
open Go.RowKit Plain

def strip : Nat → Tr → Tr
  | 0, _ => Tr.leaf
  | n + 1, T =>
    if T.kind = 1 then ⟨1, [], (List.range T.elems.length).map (fun i => strip n (T.el i)), []⟩
    else if T.kind = 2 then ⟨2, [], [], (List.range T.mems.length).map (fun i => (T.nm i, strip n (T.vl i)))⟩
    else ⟨0, T.text, [], []⟩

theorem strip_arr {n : Nat} {T : Tr} (h : T.kind = 1) : strip (n + 1) T = ⟨1, [], (List.range T.elems.length).map (fun i => strip n (T.el i)), []⟩ := by simp only [strip]; rw [if_pos h]
theorem strip_obj {n : Nat} {T : Tr} (h : T.kind = 2) : strip (n + 1) T = ⟨2, [], [], (List.range T.mems.length).map (fun i => (T.nm i, strip n (T.vl i)))⟩ := by simp only [strip]; rw [if_neg (by omega), if_pos h]
theorem strip_sca {n : Nat} {T : Tr} (h1 : ¬ T.kind = 1) (h2 : ¬ T.kind = 2) : strip (n + 1) T = ⟨0, T.text, [], []⟩ := by simp only [strip]; rw [if_neg h1, if_neg h2]

theorem el_map (f : Nat → Tr) (m i : Nat) (h : i < m) (k : Int) (t : List Int) (ms : List (ByteArray × Tr)) : (Tr.mk k t ((List.range m).map f) ms).el i = f i := by
  simp [Tr.el, h]
theorem nm_map (f : Nat → ByteArray × Tr) (m i : Nat) (h : i < m) (k : Int) (t : List Int) (es : List Tr) : (Tr.mk k t es ((List.range m).map f)).nm i = (f i).1 := by
  simp [Tr.nm, h]
theorem vl_map (f : Nat → ByteArray × Tr) (m i : Nat) (h : i < m) (k : Int) (t : List Int) (es : List Tr) : (Tr.mk k t es ((List.range m).map f)).vl i = (f i).2 := by
  simp [Tr.vl, h]

theorem beq_any {S1 S2 : Nat → Prop} (w : World) (c1 c2 : Value) (xs : List Int) (h1 : TextS S1 w c1 xs) (h2 : TextS S2 w c2 xs) (hm : xs.length ≤ 1073741824) :
    Calls Try.prog 25 #[c1, c2] w fun e w' => e = .returned (.bool true) ∧ ∃ m, w' = w.drewN m := by
  obtain ⟨a1, k1, rfl, _, _, r1⟩ := h1
  obtain ⟨a2, k2, rfl, _, _, r2⟩ := h2
  by_cases h0 : xs = []
  · subst h0; exact beq_empty w a1 a2 k1 k2
  · rcases r1 with h | ⟨b, o, rfl, _, g1⟩
    · exact absurd h h0
    · rcases r2 with h | ⟨b2, o2, rfl, _, g2⟩
      · exact absurd h h0
      · exact beq_at w b o k1 b2 o2 k2 xs g1 g2 hm

theorem Same.drewN (S : Nat → Prop) (w : World) (m : Nat) : Same S w (w.drewN m) := fun _ _ => rfl
theorem At.drewN {S : Nat → Prop} {n b o : Nat} {w : World} {T : Tr} (h : At S n w b o T) (m : Nat) : At S n (w.drewN m) b o T := h.carry (Same.drewN S w m) (fun _ h => h)

theorem quiet_plus {f : FuncId} {args : Array Value} {w : World} {m n : Nat} {v : Value}
    (h : Calls Try.prog f args (w.drewN (m + n)) fun e w' => e = .returned v ∧ ∃ k, w' = (w.drewN (m + n)).drewN k) : Calls Try.prog f args (w.drewN (m + n)) fun e w'' => e = .returned v ∧ ∃ k, w'' = w.drewN (m + k) :=
  h.mono fun _ _ ⟨he, k, hk⟩ => ⟨he, n + k, by rw [hk, World.drewN_drewN, Nat.add_assoc]⟩

def SameSaid (n : Nat) : Prop := ∀ (S S' : Nat → Prop) (T : Tr) (b o b2 o2 : Nat) (w : World), At S n w b o T → At S' n w b2 o2 (strip n T) → wt n T ≤ 1048576 →
  Calls Try.prog 19 #[.pointer (some ⟨b, o, none⟩), .pointer (some ⟨b2, o2, none⟩)] w fun e w' => e = .returned (.bool true) ∧ ∃ m, w' = w.drewN m

set_option maxHeartbeats 2000000 in
theorem same_arr (n : Nat) (ih : SameSaid n) (S S' : Nat → Prop) (T : Tr) (b o b2 o2 : Nat) (w : World) (hk : T.kind = 1) (ha : At S (n + 1) w b o T) (hg : At S' (n + 1) w b2 o2 (strip (n + 1) T)) (hw : wt (n + 1) T ≤ 1048576) :
    Calls Try.prog 19 #[.pointer (some ⟨b, o, none⟩), .pointer (some ⟨b2, o2, none⟩)] w fun e w' => e = .returned (.bool true) ∧ ∃ m, w' = w.drewN m := by
  have IH : Hid (SameSaid n) := ih
  have HW : Hid (wt (n + 1) T = 1 + T.text.length + T.elems.length + sumTo (fun i => wt n (T.el i)) T.elems.length + T.mems.length + sumTo (fun i => (T.nm i).size + wt n (T.vl i)) T.mems.length) := rfl
  obtain ⟨hb, c0, c1, c2, c3, ⟨f0, f1, f2, f3⟩, rfl, _, h3, _⟩ := ha
  rw [strip_arr hk] at hg
  obtain ⟨hb2, x0, x1, x2, x3, ⟨y0, y1, y2, y3⟩, rfl, _, q3, _⟩ := hg
  obtain ⟨ea, ecap, rfl, hec, hem, _, herow⟩ := h3
  obtain ⟨ga, gcap, rfl, hgc, hgm, _, hgrow⟩ := q3
  have hgl : ((List.range T.elems.length).map (fun i => strip n (T.el i))).length = T.elems.length := by simp
  dsimp only at y0 y2 hgrow hgc
  rw [hgl] at y2 hgrow hgc
  have HER : Hid (T.elems.length = 0 ∨ ∃ b o, ea = some ⟨b, o, none⟩ ∧ S b ∧ ∀ i, i < T.elems.length → At S n w b (o + i * 4) (T.el i)) := by
    rcases herow with h0 | ⟨eb, eo, r1, r2, r3⟩
    · exact .inl h0
    · exact .inr ⟨eb, eo, r1, r2, fun i hi => by
        obtain ⟨d0, d1, d2, d3, g1, g2⟩ := r3 i hi
        exact ⟨r2, d0, d1, d2, d3, g1, g2⟩⟩
  have HGR : Hid (T.elems.length = 0 ∨ ∃ b o, ga = some ⟨b, o, none⟩ ∧ S' b ∧ ∀ i, i < T.elems.length → At S' n w b (o + i * 4) (strip n (T.el i))) := by
    rcases hgrow with h0 | ⟨eb, eo, r1, r2, r3⟩
    · exact .inl h0
    · exact .inr ⟨eb, eo, r1, r2, fun i hi => by
        obtain ⟨d0, d1, d2, d3, g1, g2⟩ := r3 i hi
        rw [el_map _ _ _ hi] at g2
        exact ⟨r2, d0, d1, d2, d3, g1, g2⟩⟩
  have hml : T.elems.length ≤ 1048576 := by have := HW.out; omega
  have e1 : (T.kind == 1) = true := by simp [hk]
  clear ih herow hgrow hk f1 f3 y1 y3
  go_enter Try.func19, Try.ntmps19
  go_wp2_with fail
  go_quiet (fail)
  go_wp2_with fail
  go_loopw [52] (fun i wr => ∃ k m : Nat, k ≤ T.elems.length ∧ i = .int .i64 k ∧ wr = w.drewN m) (fun i _ => T.elems.length - (intOf i).toNat)
  case atStart => exact ⟨0, _, Nat.zero_le _, rfl, rfl⟩
  case round =>
    obtain ⟨k, m, hk, rfl, rfl⟩ := hrel
    by_cases hlt : k < T.elems.length
    · obtain ⟨eb, eo, rfl, heb, hAk⟩ := row_at (S := S) (size := 4) (P := fun i b o => At S n w b o (T.el i)) hlt HER.out
      obtain ⟨gb, go, rfl, hgb, hGk⟩ := row_at (S := S') (size := 4) (P := fun i b o => At S' n w b o (strip n (T.el i))) hlt HGR.out
      have HA : Hid (∀ m, At S n (w.drewN m) eb (eo + k * 4) (T.el k)) := fun m => hAk.drewN m
      have HG : Hid (∀ m, At S' n (w.drewN m) gb (go + k * 4) (strip n (T.el k))) := fun m => hGk.drewN m
      have hwk : wt n (T.el k) ≤ 1048576 := by have := HW.out; have := wt_el (n := n) hlt; omega
      have i1 : (k : Int) < (T.elems.length : Int) := by omega
      clear hAk hGk
      go_wp2_with fail
      go_quiet ((go_at_call 19; exact quiet_plus (IH.out S S' (T.el k) _ _ _ _ _ (HA.out _) (HG.out _) hwk)))
      go_wp2_with fail
      go_roundw
      case rel => exact ⟨k + 1, _, by omega, by go_num, rfl⟩
      case measure => simp [intOf]; omega
    · go_wp2_with fail
      go_ret
      exact ⟨rfl, _, rfl⟩

set_option maxHeartbeats 4000000 in
theorem same_obj (n : Nat) (ih : SameSaid n) (S S' : Nat → Prop) (T : Tr) (b o b2 o2 : Nat) (w : World) (hk : T.kind = 2) (ha : At S (n + 1) w b o T) (hg : At S' (n + 1) w b2 o2 (strip (n + 1) T)) (hw : wt (n + 1) T ≤ 1048576) :
    Calls Try.prog 19 #[.pointer (some ⟨b, o, none⟩), .pointer (some ⟨b2, o2, none⟩)] w fun e w' => e = .returned (.bool true) ∧ ∃ m, w' = w.drewN m := by
  have IH : Hid (SameSaid n) := ih
  have HW : Hid (wt (n + 1) T = 1 + T.text.length + T.elems.length + sumTo (fun i => wt n (T.el i)) T.elems.length + T.mems.length + sumTo (fun i => (T.nm i).size + wt n (T.vl i)) T.mems.length) := rfl
  obtain ⟨hb, c0, c1, c2, c3, ⟨f0, f1, f2, f3⟩, rfl, _, _, h4⟩ := ha
  rw [strip_obj hk] at hg
  obtain ⟨hb2, x0, x1, x2, x3, ⟨y0, y1, y2, y3⟩, rfl, _, _, q4⟩ := hg
  obtain ⟨ea, ecap, rfl, hec, hem, _, herow⟩ := h4
  obtain ⟨ga, gcap, rfl, hgc, hgm, _, hgrow⟩ := q4
  have hgl : ((List.range T.mems.length).map (fun i => (T.nm i, strip n (T.vl i)))).length = T.mems.length := by simp
  dsimp only at y0 y3 hgrow hgc
  rw [hgl] at y3 hgrow hgc
  have HER : Hid (T.mems.length = 0 ∨ ∃ b o, ea = some ⟨b, o, none⟩ ∧ S b ∧ ∀ i, i < T.mems.length → w.cell? ⟨b, o + i * 7, none⟩ = some (.string (T.nm i)) ∧ At S n w b (o + i * 7 + 3) (T.vl i)) := by
    rcases herow with h0 | ⟨eb, eo, r1, r2, r3⟩
    · exact .inl h0
    · exact .inr ⟨eb, eo, r1, r2, fun i hi => by
        obtain ⟨k1, _, _, _, d0, d1, d2, d3, g1, g2⟩ := r3 i hi
        exact ⟨k1, r2, d0, d1, d2, d3, g1, g2⟩⟩
  have HGR : Hid (T.mems.length = 0 ∨ ∃ b o, ga = some ⟨b, o, none⟩ ∧ S' b ∧ ∀ i, i < T.mems.length → w.cell? ⟨b, o + i * 7, none⟩ = some (.string (T.nm i)) ∧ At S' n w b (o + i * 7 + 3) (strip n (T.vl i))) := by
    rcases hgrow with h0 | ⟨eb, eo, r1, r2, r3⟩
    · exact .inl h0
    · exact .inr ⟨eb, eo, r1, r2, fun i hi => by
        obtain ⟨k1, _, _, _, d0, d1, d2, d3, g1, g2⟩ := r3 i hi
        rw [nm_map _ _ _ hi] at k1
        rw [vl_map _ _ _ hi] at g2
        exact ⟨k1, r2, d0, d1, d2, d3, g1, g2⟩⟩
  have hml : T.mems.length ≤ 1048576 := by have := HW.out; omega
  have e1 : (T.kind == 1) = false := by simp [hk]
  have e2 : (T.kind == 2) = true := by simp [hk]
  clear ih herow hgrow hk f1 f2 y1 y2
  go_enter Try.func19, Try.ntmps19
  go_wp2_with fail
  go_quiet (fail)
  go_wp2_with fail
  go_loopw [95] (fun i wr => ∃ k m : Nat, k ≤ T.mems.length ∧ i = .int .i64 k ∧ wr = w.drewN m) (fun i _ => T.mems.length - (intOf i).toNat)
  case atStart => exact ⟨0, _, Nat.zero_le _, rfl, rfl⟩
  case round =>
    obtain ⟨k, m, hk, rfl, rfl⟩ := hrel
    by_cases hlt : k < T.mems.length
    · obtain ⟨eb, eo, rfl, heb, hn1, hAk⟩ := row_at (S := S) (size := 7) (P := fun i b o => w.cell? ⟨b, o, none⟩ = some (.string (T.nm i)) ∧ At S n w b (o + 3) (T.vl i)) hlt HER.out
      obtain ⟨gb, go, rfl, hgb, hn2, hGk⟩ := row_at (S := S') (size := 7) (P := fun i b o => w.cell? ⟨b, o, none⟩ = some (.string (T.nm i)) ∧ At S' n w b (o + 3) (strip n (T.vl i))) hlt HGR.out
      have HA : Hid (∀ m, At S n (w.drewN m) eb (eo + k * 7 + 3) (T.vl k)) := fun m => hAk.drewN m
      have HG : Hid (∀ m, At S' n (w.drewN m) gb (go + k * 7 + 3) (strip n (T.vl k))) := fun m => hGk.drewN m
      have hwk : wt n (T.vl k) ≤ 1048576 := by have := HW.out; have := wt_vl' (n := n) hlt; omega
      have i1 : (k : Int) < (T.mems.length : Int) := by omega
      have t1 : ((T.nm k).toList != (T.nm k).toList) = false := by simp
      clear hAk hGk
      go_wp2_with fail
      go_quiet (fail)
      go_wp2_with fail
      go_quiet ((go_at_call 19; exact quiet_plus (IH.out S S' (T.vl k) _ _ _ _ _ (HA.out _) (HG.out _) hwk)))
      go_wp2_with fail
      go_roundw
      case rel => exact ⟨k + 1, _, by omega, by go_num, rfl⟩
      case measure => simp [intOf]; omega
    · go_wp2_with fail
      go_ret
      exact ⟨rfl, _, rfl⟩

set_option maxHeartbeats 1000000 in
theorem same_sca (n : Nat) (S S' : Nat → Prop) (T : Tr) (b o b2 o2 : Nat) (w : World) (hk1 : ¬ T.kind = 1) (hk2 : ¬ T.kind = 2) (ha : At S (n + 1) w b o T) (hg : At S' (n + 1) w b2 o2 (strip (n + 1) T)) (hw : wt (n + 1) T ≤ 1048576) :
    Calls Try.prog 19 #[.pointer (some ⟨b, o, none⟩), .pointer (some ⟨b2, o2, none⟩)] w fun e w' => e = .returned (.bool true) ∧ ∃ m, w' = w.drewN m := by
  have HW : Hid (wt (n + 1) T = 1 + T.text.length + T.elems.length + sumTo (fun i => wt n (T.el i)) T.elems.length + T.mems.length + sumTo (fun i => (T.nm i).size + wt n (T.vl i)) T.mems.length) := rfl
  obtain ⟨hb, c0, c1, c2, c3, ⟨f0, f1, f2, f3⟩, rfl, h2, _, _⟩ := ha
  rw [strip_sca hk1 hk2] at hg
  obtain ⟨hb2, x0, x1, x2, x3, ⟨y0, y1, y2, y3⟩, rfl, q2, _, _⟩ := hg
  dsimp only at y0 q2
  have HT : Hid (TextS S w c1 T.text) := h2
  have HQ : Hid (TextS S' w x1 T.text) := q2
  have htl : T.text.length ≤ 1073741824 := by have := HW.out; omega
  have e1 : (T.kind == 1) = false := by simpa using hk1
  have e2 : (T.kind == 2) = false := by simpa using hk2
  clear hk1 hk2 f2 f3 y2 y3 h2 q2
  go_enter Try.func19, Try.ntmps19
  go_wp2_with fail
  go_quiet ((go_at_call 25; exact Calls.quiet_of (beq_any _ c1 x1 T.text (HT.out.carry (Same.drewN S w _) (fun _ h => h)) (HQ.out.carry (Same.drewN S' w _) (fun _ h => h)) htl)))
  go_wp2_with fail
  go_ret
  exact ⟨rfl, _, rfl⟩

theorem same_any : ∀ n, SameSaid n := by
  intro n
  induction n with
  | zero => intro S S' T b o b2 o2 w ha; obtain ⟨_, _, _, _, _, _, h⟩ := ha; exact h.elim
  | succ n ih =>
    intro S S' T b o b2 o2 w ha hg hw
    by_cases hk1 : T.kind = 1
    · exact same_arr n ih S S' T b o b2 o2 w hk1 ha hg hw
    · by_cases hk2 : T.kind = 2
      · exact same_obj n ih S S' T b o b2 o2 w hk2 ha hg hw
      · exact same_sca n S S' T b o b2 o2 w hk1 hk2 ha hg hw

end Go.Proofs.Qxb6605240a
