/-
  Members in the making; a member's name, read back.
-/
import Derived.Test.Qxb6605240aParseArr
import Derived.Test.Qxb6605240aBackWalk
import Derived.Laws.BytesArg
namespace Go.Proofs.Qxb6605240a
open Go.RowKit Plain

/-- k members are parsed: they lie in the row v. -/
def Mms (n : Nat) (T : Tr) (B M k : Nat) (w : World) (v : Value) : Prop :=
  ∃ xs, w.ownsRow M 55 7 v k xs ∧ ∀ i, i < k → xs[i * 7]? = some (.string (T.nm i)) ∧ xs[i * 7 + 1]? = some (.slice none 0 0) ∧ xs[i * 7 + 2]? = some (.int .i64 0) ∧
    ∃ d0 d1 d2 d3, xs[i * 7 + 3]? = some d0 ∧ xs[i * 7 + 4]? = some d1 ∧ xs[i * 7 + 5]? = some d2 ∧ xs[i * 7 + 6]? = some d3 ∧ NodeS (Sv B M w v) n w d0 d1 d2 d3 (strip n (T.vl i))

theorem mms_start (n : Nat) (T : Tr) (B M : Nat) (w : World) : Mms n T B M 0 w (.slice none 0 0) := ⟨[], World.ownsRow_nil w M 55 7, fun i hi => by omega⟩

theorem mms_step {n : Nat} {T : Tr} {B M k bN j : Nat} {wr wo w2 w3 w4 : World} {v v' : Value} {xs : List Value} {c0 c1 c2 c3 : Value} {X : Tr} {nm : ByteArray} (hX : X = strip n (T.vl k)) (hnm : nm = T.nm k) (hown : wr.ownsRow M 55 7 v k xs)
    (hE : ∀ i, i < k → xs[i * 7]? = some (.string (T.nm i)) ∧ xs[i * 7 + 1]? = some (.slice none 0 0) ∧ xs[i * 7 + 2]? = some (.int .i64 0) ∧
      ∃ d0 d1 d2 d3, xs[i * 7 + 3]? = some d0 ∧ xs[i * 7 + 4]? = some d1 ∧ xs[i * 7 + 5]? = some d2 ∧ xs[i * 7 + 6]? = some d3 ∧ NodeS (Sv B M wr v) n wr d0 d1 d2 d3 (strip n (T.vl i)))
    (hbo : Below wr.heap.size wr wo) (hb : Below wo.heap.size wo w2) (hb3 : Below w2.heap.size w2 w3) (hN : NodeS (Rg B wo.heap.size w2.heap.size) n w2 c0 c1 c2 c3 X)
    (ho4 : w4.ownsRow M 55 7 v' (k + 1) (xs ++ [.string nm, .slice none 0 0, .int .i64 0, c0, c1, c2, c3])) (hg : w3.grownBy w4 v.ownBlock)
    (hv : ∀ g, v'.ownBlock = some g → v.ownBlock = some g ∨ w3.heap.size ≤ g) (hbN : B ≤ bN ∧ bN < M) (hM : M ≤ wr.heap.size) :
    Mms n T B M (k + 1) (w4.setCell ⟨bN, j, none⟩ v') v' := by
  have s0 := hbo.size
  have s1 := hb.size
  have s2 := hb3.size
  have hvl := hown.lt
  have hxl : xs.length = k * 7 := hown.1
  obtain ⟨q1, q2⟩ := sv_any (S := Sv B M wr v) (bN := bN) (j := j) (wo := wr) (fun b h => by
    obtain ⟨e1, e2, e3⟩ := h
    exact ⟨((hb3.block b (by omega)).trans (hb.block b (by omega))).trans (hbo.block b e2), e1, by omega, e3⟩) hg hv hbN
  obtain ⟨p1, p2⟩ := sv_any (S := Rg B wo.heap.size w2.heap.size) (bN := bN) (j := j) (wo := w2) (B := B) (M := M) (fun b h => by
    have h' : b < B ∨ (wo.heap.size ≤ b ∧ b < w2.heap.size) := h
    refine ⟨hb3.block b (by omega), by omega, by omega, fun e => ?_⟩
    have := hvl b e
    omega) hg hv hbN
  refine ⟨_, row_set ho4 hbN.2, fun i hi => ?_⟩
  by_cases e : i = k
  · subst e
    rw [← hnm, ← hX]
    refine ⟨?_, ?_, ?_, c0, c1, c2, c3, ?_, ?_, ?_, ?_, hN.carry p1 p2⟩
    · rw [List.getElem?_append_right (by omega), hxl, Nat.sub_self]; rfl
    · rw [List.getElem?_append_right (by omega), hxl, Nat.add_sub_cancel_left]; rfl
    · rw [List.getElem?_append_right (by omega), hxl, Nat.add_sub_cancel_left]; rfl
    · rw [List.getElem?_append_right (by omega), hxl, Nat.add_sub_cancel_left]; rfl
    · rw [List.getElem?_append_right (by omega), hxl, Nat.add_sub_cancel_left]; rfl
    · rw [List.getElem?_append_right (by omega), hxl, Nat.add_sub_cancel_left]; rfl
    · rw [List.getElem?_append_right (by omega), hxl, Nat.add_sub_cancel_left]; rfl
  · obtain ⟨f0, f1, f2, d0, d1, d2, d3, e0, e1, e2, e3, hd⟩ := hE i (by omega)
    refine ⟨?_, ?_, ?_, d0, d1, d2, d3, ?_, ?_, ?_, ?_, hd.carry q1 q2⟩
    · rw [List.getElem?_append_left (by omega)]; exact f0
    · rw [List.getElem?_append_left (by omega)]; exact f1
    · rw [List.getElem?_append_left (by omega)]; exact f2
    · rw [List.getElem?_append_left (by omega)]; exact e0
    · rw [List.getElem?_append_left (by omega)]; exact e1
    · rw [List.getElem?_append_left (by omega)]; exact e2
    · rw [List.getElem?_append_left (by omega)]; exact e3

/-- The parsed object, handed back. -/
theorem mms_end {n : Nat} {T : Tr} {B p : Nat} {w wE : World} {v x0 x1 x2 x3 : Value} (hk : T.kind = 2) (hA : Mms n T B (w.heap.size + 2) T.mems.length wE v) (hb : Below w.heap.size w wE) (hB : B ≤ w.heap.size) (hpos : 0 < T.mems.length) (hnms : ∀ i, i < T.mems.length → (T.nm i).size ≤ maxLen) :
    ParsePost (n + 1) T B p w (.returned (.tuple #[.agg #[.int .u8 2, .slice none 0 0, .slice none 0 0, v], .int .i64 (p : Nat), .bool true])) ((((wE.setCell ⟨w.heap.size, 0, none⟩ x0).setCell ⟨w.heap.size, 0 + 1, none⟩ x1).setCell ⟨w.heap.size, 0 + 2, none⟩ x2).setCell ⟨w.heap.size, 0 + 3, none⟩ x3) := by
  obtain ⟨xs, ho, hE⟩ := hA
  have hxl : xs.length = T.mems.length * 7 := ho.1
  obtain ⟨h1, ⟨_, h2⟩ | ⟨g, cap, cur, rfl, h2, h3, h4, h5, h6, h7⟩⟩ := ho
  · omega
  have hgl : g < wE.heap.size := (Array.getElem?_eq_some_iff.1 h3).1
  have hSub : ∀ b, Sv B (w.heap.size + 2) wE (.slice (some ⟨g, 0, none⟩) T.mems.length cap) b → Rg B w.heap.size wE.heap.size b := fun b h => by
    obtain ⟨q1, q2, _⟩ := h
    show b < B ∨ (w.heap.size ≤ b ∧ b < wE.heap.size)
    omega
  have hno : ¬ Sv B (w.heap.size + 2) wE (.slice (some ⟨g, 0, none⟩) T.mems.length cap) w.heap.size := fun h => by
    obtain ⟨q1, _⟩ := h
    omega
  have hs := hb.size
  have cell : ∀ j, j < T.mems.length * 7 → ((((wE.setCell ⟨w.heap.size, 0, none⟩ x0).setCell ⟨w.heap.size, 0 + 1, none⟩ x1).setCell ⟨w.heap.size, 0 + 2, none⟩ x2).setCell ⟨w.heap.size, 0 + 3, none⟩ x3).cell? ⟨g, j, none⟩ = xs[j]? := fun j hj => by
    have e1 : Same (· = g) wE ((((wE.setCell ⟨w.heap.size, 0, none⟩ x0).setCell ⟨w.heap.size, 0 + 1, none⟩ x1).setCell ⟨w.heap.size, 0 + 2, none⟩ x2).setCell ⟨w.heap.size, 0 + 3, none⟩ x3) := Same.set4 (S := (· = g)) (p := 0) (by show ¬ w.heap.size = g; omega) x0 x1 x2 x3
    rw [e1.cell rfl, World.ownsRow.cellAt (xs := xs) (base := w.heap.size + 2) (e := 55) (size := 7) ⟨h1, .inr ⟨g, cap, cur, rfl, h2, h3, h4, h5, h6, h7⟩⟩ j hj]
  unfold ParsePost
  rw [strip_obj hk]
  have hml : ((List.range T.mems.length).map (fun i => (T.nm i, strip n (T.vl i)))).length = T.mems.length := by simp
  refine ⟨none, 0, none, 0, some ⟨g, 0, none⟩, cap, by simp only [hml, List.length_nil], ?_, Below.set4 (p := 0) hb (Nat.le_refl _) _ _ _ _⟩
  refine ⟨rfl, ⟨none, 0, rfl, Nat.le_refl _, Nat.zero_le _, .inl rfl⟩, row_nil _ 4 _ 0 rfl, ⟨_, _, rfl, by simp only [hml]; exact h4, h5, fun e => by (cases e), .inr ⟨g, 0, rfl, ?_, fun i hi => ?_⟩⟩⟩
  · rw [size_set4]; show g < B ∨ _; omega
  · simp only [hml] at hi
    obtain ⟨f0, f1, f2, d0, d1, d2, d3, e0, e1, e2, e3, hd⟩ := hE i hi
    rw [nm_map _ _ _ hi, vl_map _ _ _ hi]
    refine ⟨?_, hnms i hi, ⟨none, 0, 0, Nat.zero_le _, ?_⟩, ⟨0, ?_⟩, d0, d1, d2, d3, ⟨?_, ?_, ?_, ?_⟩, ?_⟩
    · rw [cell _ (by omega), Nat.zero_add]; exact f0
    · rw [cell _ (by omega), Nat.zero_add]; exact f1
    · rw [cell _ (by omega), Nat.zero_add]; exact f2
    · rw [cell _ (by omega), Nat.zero_add]; exact e0
    · rw [cell _ (by omega), Nat.zero_add]; exact e1
    · rw [cell _ (by omega), Nat.zero_add]; exact e2
    · rw [cell _ (by omega), Nat.zero_add]; exact e3
    · rw [size_set4]
      exact hd.carry (Same.set4 (p := 0) hno x0 x1 x2 x3) hSub

theorem str_sb (s : ByteArray) : strOfNums (sb s) = s := by
  have h : (strOfNums (sb s)).data = s.data := by
    apply Array.ext'
    rw [strOfNums_data]
    unfold sb
    rw [List.map_map]
    conv => rhs; rw [← List.map_id s.data.toList]
    apply List.map_congr_left
    intro c _
    simp
  cases s; cases hs : strOfNums (sb _)
  simp_all

/-- A name decoded: what string(name) then is. -/
theorem dec_name (w : World) (b off cap : Nat) (nm : ByteArray) (hl : (body (sb nm)).length ≤ 1073741824) (hx : HasAt w b off (body (sb nm))) :
    Calls Try.prog 10 #[.slice (some ⟨b, off, none⟩) (body (sb nm)).length cap] w fun e w' => ∃ ao l c, e = .returned (.tuple #[.slice ao l c, .bool true]) ∧ (∀ w2, Below w'.heap.size w' w2 → (convert 22 9 (.slice ao l c)).run Try.prog w2 = .ok (.string nm) w2) ∧ Below w.heap.size w w' := by
  refine (dec_at w b off cap (body (sb nm)) hl hx).mono ?_
  have hd : decod (body (sb nm)) = some (sb nm) := decod_body _ (fun c hc => (sb_bounds nm c hc).1)
  rintro e w' (⟨h1, _, _⟩ | ⟨zs, v, h1, rfl, h2, h3⟩)
  · rw [hd] at h1; cases h1
  · rw [hd] at h1
    cases h1
    have h2' := h2
    obtain ⟨q1, ⟨rfl, q2⟩ | ⟨g, cap', cur, rfl, _⟩⟩ := h2
    · refine ⟨none, 0, 0, rfl, fun w2 _ => ?_, h3⟩
      have e1 := run_convert_bytes_nil (P := Try.prog) w2 22 5 Try.underlying22 Try.underlying5 0 0 9 Try.underlying9
      rw [e1]
      have hz : sb nm = [] := List.eq_nil_of_length_eq_zero q2
      have : nm = strOfNums [] := by rw [← hz, str_sb]
      rw [this]; rfl
    · refine ⟨_, _, _, rfl, fun w2 hb => ?_, h3⟩
      obtain ⟨ao, cap2, e1, _, hh, _⟩ := OwnB.has h2'
      cases e1
      have e2 := run_convert_bytes_arg (P := Try.prog) w2 22 5 Try.underlying22 Try.underlying5 g 0 (sb nm).length cap' (sb nm) rfl (fun i hi => by
        rcases hh with h | ⟨b', off', h, hc⟩
        · rw [h] at hi; simp at hi
        · cases h
          exact (hb.cell (p := ⟨g, 0 + i, none⟩) (cell_lt (hc i hi))).trans (hc i hi)) 9 Try.underlying9
      rw [e2, str_sb]

end Go.Proofs.Qxb6605240a
