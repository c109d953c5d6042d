/-
  A row in the making: elements (members) that are appended one by one, each with the blocks of its own.
-/
import Derived.Test.Qxb6605240aParse
namespace Go.Proofs.Qxb6605240a
open Go.RowKit Plain

theorem Try.info34 : (Try.prog.info? 34).map (fun i => (i.zero, i.size, i.bytes)) = some (some (.agg #[.int .u8 0, .slice none 0 0, .slice none 0 0, .slice none 0 0]), 4, 80) := by kernel_rfl
theorem Try.info55 : (Try.prog.info? 55).map (fun i => (i.zero, i.size, i.bytes)) = some (some (.agg #[.string ByteArray.empty, .slice none 0 0, .int .i64 0, .int .u8 0, .slice none 0 0, .slice none 0 0, .slice none 0 0]), 7, 128) := by kernel_rfl

/-- One more thing of 'size' cells is appended to the call's own row. -/
theorem run_append_row (w : World) (M : Nat) (t ty e : TypeId) (i : TypeInfo) (z : Value) (size bytes : Nat) (ht : Try.prog.underlying t = some (.slice e)) (hi : Try.prog.info? e = some i) (hz : i.zero = some z)
    (hsize : i.size = size) (hby : i.bytes = bytes) (hzs : z.cells.size = size) (hsz : 0 < size) (v : Value) (k : Nat) (xs : List Value) (hown : w.ownsRow M e size v k xs)
    (ad : Addr) (c : Nat) (news : List Value) (hl : news.length = size) (hnews : ∀ j u, news[j]? = some u → w.cell? (ad.add j) = some u) (h1 : ∀ u ∈ news, u.oneCell' = true)
    (hk : k ≤ 1048576) (hb : bytes ≤ 1024) (hM : M ≤ w.heap.size) :
    ∃ v' w', (Builtin.append_ #[t, t] ty #[v, .slice (some ad) 1 c]).run Try.prog w = .ok v' w' ∧ w'.ownsRow M e size v' (k + 1) (xs ++ news) ∧ w.grownBy w' v.ownBlock ∧ (∀ g, v'.ownBlock = some g → v.ownBlock = some g ∨ w.heap.size ≤ g) := by
  have hl' : news.length = 1 * size := by omega
  have h63 : k + 1 ≤ maxLen := by unfold maxLen; omega
  have hbytes : (k + 1) * bytes ≤ 140737488355328 := by
    have : (k + 1) * bytes ≤ 1048577 * 1024 := Nat.mul_le_mul (by omega) hb
    omega
  rcases hown.2 with ⟨rfl, rfl⟩ | ⟨g, cap, cur, rfl, h2, h3, h4, h5, h6, h7⟩
  · have hx : xs = [] := List.eq_nil_of_length_eq_zero (by simpa using hown.1)
    subst hx
    obtain ⟨v', w', hrun, r1, r2, _⟩ := run_append_own (P := Try.prog) w w.heap.size t ty e i z size bytes ht hi hz hsize hby hzs hsz (.slice none 0 0) 0 [] (World.ownsRow_nil w _ e size) ad 1 c news hl' hnews h1 h63 hbytes (Nat.le_refl _)
    exact ⟨v', w', hrun, ownsRow_base r1 hM, r2, fun g hg => .inr (r1.lt g hg).1⟩
  · by_cases hroom : k + 1 ≤ cap
    · obtain ⟨w', hrun, r1, r2⟩ := run_append_fits (P := Try.prog) w M t ty e i size ht hi hsize g k cap xs hown ad 1 c news hl' hnews h1 hroom
      exact ⟨_, w', hrun, r1, r2, fun g' hg => .inl hg⟩
    · obtain ⟨v', w', hrun, r1, r2⟩ := run_append_arg_grows (P := Try.prog) w t ty e i z size bytes ht hi hz hsize hby hzs hsz ⟨g, 0, none⟩ k cap xs hown.1 (hown.cells (g := g) rfl) ad 1 c news hl' hnews (by omega) h63 hbytes
      exact ⟨v', w', hrun, ownsRow_base r1 hM, ⟨r2.os, r2.tape, r2.output, r2.size, fun k hk _ => r2.block k hk (fun e => by cases e)⟩, fun g' hg => .inr (r1.lt g' hg).1⟩

theorem wpList_append_row (w : World) {ops : Array Oper} {rest : List Oper} {o : Oper} {a : Act} {Q : Exit → Act → World → Prop} (hg : o.guard = none) (s x : Operand) (t : TypeId)
    (hop : o.op = .call { callee := .builtin .append, args := #[s, x], argTypes := #[t, t] }) (M : Nat) (e : TypeId) (i : TypeInfo) (z : Value) (size bytes : Nat) (ht : Try.prog.underlying t = some (.slice e)) (hi : Try.prog.info? e = some i) (hz : i.zero = some z)
    (hsize : i.size = size) (hby : i.bytes = bytes) (hzs : z.cells.size = size) (hsz : 0 < size) (v : Value) (k : Nat) (xs : List Value) (hs : a.eval s = v) (hown : w.ownsRow M e size v k xs)
    (ad : Addr) (c : Nat) (news : List Value) (hx : a.eval x = .slice (some ad) 1 c) (hl : news.length = size) (hnews : ∀ j u, news[j]? = some u → w.cell? (ad.add j) = some u) (h1 : ∀ u ∈ news, u.oneCell' = true)
    (hk : k ≤ 1048576) (hb : bytes ≤ 1024) (hM : M ≤ w.heap.size)
    (hK : ∀ v' w', w'.ownsRow M e size v' (k + 1) (xs ++ news) → w.grownBy w' v.ownBlock → (∀ g, v'.ownBlock = some g → v.ownBlock = some g ∨ w.heap.size ≤ g) → wpList Try.prog ops Q rest (a.put o.dst v') w') : wpList Try.prog ops Q (o :: rest) a w := by
  refine wpList_plain hg fun K hK' => ?_
  obtain ⟨v', w', hrun, r1, r2, r3⟩ := run_append_row w M t o.type e i z size bytes ht hi hz hsize hby hzs hsz v k xs hown ad c news hl hnews h1 hk hb hM
  unfold Oper.wp
  simp [execOp, hop, resolve, invoke, builtin, hs, hx, hrun, Result.andThen]
  exact hK' _ _ (hK v' w' r1 r2 r3)

/-- The new block's own cells. -/
theorem row_news (w : World) (l : List Value) (t : TypeId) : ∀ j u, l[j]? = some u → (w.alloc (.cells l.toArray t)).cell? ((⟨w.heap.size, 0, none⟩ : Addr).add j) = some u := by
  intro j u hu
  rw [add_at, Nat.zero_add, World.cell?_alloc_new]
  simpa using hu

/-- The blocks that the things of a row in the making may lie in: old ones, or new ones that are not the row's own. -/
def Sv (B M : Nat) (w : World) (v : Value) (b : Nat) : Prop := (b < B ∨ M ≤ b) ∧ b < w.heap.size ∧ v.ownBlock ≠ some b

theorem sv_any {S : Nat → Prop} {B M bN j : Nat} {wo w3 w4 : World} {v v' : Value} (h3 : ∀ b, S b → w3.heap[b]? = wo.heap[b]? ∧ (b < B ∨ M ≤ b) ∧ b < w3.heap.size ∧ v.ownBlock ≠ some b)
    (hg : w3.grownBy w4 v.ownBlock) (hv : ∀ g, v'.ownBlock = some g → v.ownBlock = some g ∨ w3.heap.size ≤ g) (hbN : B ≤ bN ∧ bN < M) :
    Same S wo (w4.setCell ⟨bN, j, none⟩ v') ∧ ∀ b, S b → Sv B M (w4.setCell ⟨bN, j, none⟩ v') v' b := by
  have hsz : (w4.setCell ⟨bN, j, none⟩ v').heap.size = w4.heap.size := by simp [World.setCell]
  refine ⟨fun b hb => ?_, fun b hb => ?_⟩
  · obtain ⟨e1, e2, e3, e4⟩ := h3 b hb
    rw [Below.heap_setCell _ _ _ _ (by show b ≠ bN; omega), hg.block b e3 (fun e => e4 e.symm), e1]
  · obtain ⟨e1, e2, e3, e4⟩ := h3 b hb
    refine ⟨e2, by rw [hsz]; have := hg.size; omega, fun e => ?_⟩
    rcases hv b e with h | h
    · exact e4 h
    · omega

/-- k elements are parsed: they lie in the row v. -/
def Arr (n : Nat) (T : Tr) (B M k : Nat) (w : World) (v : Value) : Prop :=
  ∃ xs, w.ownsRow M 34 4 v k xs ∧ ∀ i, i < k → ∃ d0 d1 d2 d3, xs[i * 4]? = some d0 ∧ xs[i * 4 + 1]? = some d1 ∧ xs[i * 4 + 2]? = some d2 ∧ xs[i * 4 + 3]? = some d3 ∧ NodeS (Sv B M w v) n w d0 d1 d2 d3 (strip n (T.el i))

theorem arr_start (n : Nat) (T : Tr) (B M : Nat) (w : World) : Arr n T B M 0 w (.slice none 0 0) := ⟨[], World.ownsRow_nil w M 34 4, fun i hi => by omega⟩

theorem row_set {w : World} {M e size k bN j : Nat} {v u : Value} {xs : List Value} (h : w.ownsRow M e size v k xs) (hbN : bN < M) : (w.setCell ⟨bN, j, none⟩ u).ownsRow M e size v k xs := by
  obtain ⟨h1, h2 | ⟨g, cap, cur, r1, r2, r3, r4⟩⟩ := h
  · exact ⟨h1, .inl h2⟩
  · exact ⟨h1, .inr ⟨g, cap, cur, r1, r2, by rw [Below.heap_setCell _ _ _ _ (by show g ≠ bN; omega)]; exact r3, r4⟩⟩

theorem row_later {w w' : World} {M e size k : Nat} {v : Value} {xs : List Value} (h : w.ownsRow M e size v k xs) (hb : Below w.heap.size w w') : w'.ownsRow M e size v k xs := by
  obtain ⟨h1, h2 | ⟨g, cap, cur, r1, r2, r3, r4⟩⟩ := h
  · exact ⟨h1, .inl h2⟩
  · have hg : g < w.heap.size := (Array.getElem?_eq_some_iff.1 r3).1
    exact ⟨h1, .inr ⟨g, cap, cur, r1, r2, by rw [hb.block g hg]; exact r3, r4⟩⟩

theorem arr_step {n : Nat} {T : Tr} {B M k bN j : Nat} {wr w2 w3 w4 : World} {v v' : Value} {xs : List Value} {c0 c1 c2 c3 : Value} {X : Tr} (hX : X = strip n (T.el k)) (hown : wr.ownsRow M 34 4 v k xs)
    (hE : ∀ i, i < k → ∃ d0 d1 d2 d3, xs[i * 4]? = some d0 ∧ xs[i * 4 + 1]? = some d1 ∧ xs[i * 4 + 2]? = some d2 ∧ xs[i * 4 + 3]? = some d3 ∧ NodeS (Sv B M wr v) n wr d0 d1 d2 d3 (strip n (T.el i)))
    (hb : Below wr.heap.size wr w2) (hb3 : Below w2.heap.size w2 w3) (hN : NodeS (Rg B wr.heap.size w2.heap.size) n w2 c0 c1 c2 c3 X) (ho4 : w4.ownsRow M 34 4 v' (k + 1) (xs ++ [c0, c1, c2, c3])) (hg : w3.grownBy w4 v.ownBlock)
    (hv : ∀ g, v'.ownBlock = some g → v.ownBlock = some g ∨ w3.heap.size ≤ g) (hbN : B ≤ bN ∧ bN < M) (hM : M ≤ wr.heap.size) :
    Arr n T B M (k + 1) (w4.setCell ⟨bN, j, none⟩ v') v' := by
  have s1 := hb.size
  have s2 := hb3.size
  have hvl := hown.lt
  have hxl : xs.length = k * 4 := hown.1
  obtain ⟨q1, q2⟩ := sv_any (S := Sv B M wr v) (bN := bN) (j := j) (wo := wr) (fun b h => by
    obtain ⟨e1, e2, e3⟩ := h
    exact ⟨(hb3.block b (by omega)).trans (hb.block b e2), e1, by omega, e3⟩) hg hv hbN
  obtain ⟨p1, p2⟩ := sv_any (S := Rg B wr.heap.size w2.heap.size) (bN := bN) (j := j) (wo := w2) (B := B) (M := M) (fun b h => by
    have h' : b < B ∨ (wr.heap.size ≤ b ∧ b < w2.heap.size) := h
    refine ⟨hb3.block b (by omega), by omega, by omega, fun e => ?_⟩
    have := hvl b e
    omega) hg hv hbN
  refine ⟨_, row_set ho4 hbN.2, fun i hi => ?_⟩
  by_cases e : i = k
  · subst e
    refine ⟨c0, c1, c2, c3, ?_, ?_, ?_, ?_, ?_⟩
    · rw [List.getElem?_append_right (by omega), hxl, Nat.sub_self]; rfl
    · rw [List.getElem?_append_right (by omega), hxl, Nat.add_sub_cancel_left]; rfl
    · rw [List.getElem?_append_right (by omega), hxl, Nat.add_sub_cancel_left]; rfl
    · rw [List.getElem?_append_right (by omega), hxl, Nat.add_sub_cancel_left]; rfl
    · rw [← hX]; exact hN.carry p1 p2
  · obtain ⟨d0, d1, d2, d3, e0, e1, e2, e3, hd⟩ := hE i (by omega)
    refine ⟨d0, d1, d2, d3, ?_, ?_, ?_, ?_, hd.carry q1 q2⟩
    · rw [List.getElem?_append_left (by omega)]; exact e0
    · rw [List.getElem?_append_left (by omega)]; exact e1
    · rw [List.getElem?_append_left (by omega)]; exact e2
    · rw [List.getElem?_append_left (by omega)]; exact e3

/-- The parsed array, handed back. -/
theorem arr_end {n : Nat} {T : Tr} {B p : Nat} {w wE : World} {v x0 x1 x2 x3 : Value} (hk : T.kind = 1) (hA : Arr n T B (w.heap.size + 2) T.elems.length wE v) (hb : Below w.heap.size w wE) (hB : B ≤ w.heap.size) (hpos : 0 < T.elems.length) :
    ParsePost (n + 1) T B p w (.returned (.tuple #[.agg #[.int .u8 1, .slice none 0 0, v, .slice none 0 0], .int .i64 (p : Nat), .bool true])) ((((wE.setCell ⟨w.heap.size, 0, none⟩ x0).setCell ⟨w.heap.size, 0 + 1, none⟩ x1).setCell ⟨w.heap.size, 0 + 2, none⟩ x2).setCell ⟨w.heap.size, 0 + 3, none⟩ x3) := by
  obtain ⟨xs, ho, hE⟩ := hA
  have hxl : xs.length = T.elems.length * 4 := ho.1
  obtain ⟨h1, ⟨_, h2⟩ | ⟨g, cap, cur, rfl, h2, h3, h4, h5, h6, h7⟩⟩ := ho
  · omega
  have hgl : g < wE.heap.size := (Array.getElem?_eq_some_iff.1 h3).1
  have hSub : ∀ b, Sv B (w.heap.size + 2) wE (.slice (some ⟨g, 0, none⟩) T.elems.length cap) b → Rg B w.heap.size wE.heap.size b := fun b h => by
    obtain ⟨q1, q2, _⟩ := h
    show b < B ∨ (w.heap.size ≤ b ∧ b < wE.heap.size)
    omega
  have hno : ¬ Sv B (w.heap.size + 2) wE (.slice (some ⟨g, 0, none⟩) T.elems.length cap) w.heap.size := fun h => by
    obtain ⟨q1, _⟩ := h
    omega
  have hs := hb.size
  have cell : ∀ j, j < T.elems.length * 4 → ((((wE.setCell ⟨w.heap.size, 0, none⟩ x0).setCell ⟨w.heap.size, 0 + 1, none⟩ x1).setCell ⟨w.heap.size, 0 + 2, none⟩ x2).setCell ⟨w.heap.size, 0 + 3, none⟩ x3).cell? ⟨g, j, none⟩ = xs[j]? := fun j hj => by
    have e1 : Same (· = g) wE ((((wE.setCell ⟨w.heap.size, 0, none⟩ x0).setCell ⟨w.heap.size, 0 + 1, none⟩ x1).setCell ⟨w.heap.size, 0 + 2, none⟩ x2).setCell ⟨w.heap.size, 0 + 3, none⟩ x3) := Same.set4 (S := (· = g)) (p := 0) (by show ¬ w.heap.size = g; omega) x0 x1 x2 x3
    rw [e1.cell rfl, World.ownsRow.cellAt (xs := xs) (base := w.heap.size + 2) (e := 34) (size := 4) ⟨h1, .inr ⟨g, cap, cur, rfl, h2, h3, h4, h5, h6, h7⟩⟩ j hj]
  unfold ParsePost
  rw [strip_arr hk]
  have hml : ((List.range T.elems.length).map (fun i => strip n (T.el i))).length = T.elems.length := by simp
  refine ⟨none, 0, some ⟨g, 0, none⟩, cap, none, 0, by simp only [hml, List.length_nil], ?_, Below.set4 (p := 0) hb (Nat.le_refl _) _ _ _ _⟩
  refine ⟨rfl, ⟨none, 0, rfl, Nat.le_refl _, Nat.zero_le _, .inl rfl⟩, ⟨_, _, rfl, by simp only [hml]; exact h4, h5, fun e => by (cases e), .inr ⟨g, 0, rfl, ?_, fun i hi => ?_⟩⟩, row_nil _ 7 _ 0 rfl⟩
  · rw [size_set4]; show g < B ∨ _; omega
  · simp only [hml] at hi
    obtain ⟨d0, d1, d2, d3, e0, e1, e2, e3, hd⟩ := hE i hi
    refine ⟨d0, d1, d2, d3, ⟨?_, ?_, ?_, ?_⟩, ?_⟩
    · rw [cell _ (by omega), Nat.zero_add]; exact e0
    · rw [cell _ (by omega), Nat.zero_add]; exact e1
    · rw [cell _ (by omega), Nat.zero_add]; exact e2
    · rw [cell _ (by omega), Nat.zero_add]; exact e3
    · rw [el_map _ _ _ hi, size_set4]
      exact hd.carry (Same.set4 (p := 0) hno x0 x1 x2 x3) hSub

/-- No element, no member. -/
theorem none_end {n : Nat} {T : Tr} {B p : Nat} {w wE : World} (q : Int) (hk : (T.kind = 1 ∧ q = 1 ∧ T.elems.length = 0) ∨ (T.kind = 2 ∧ q = 2 ∧ T.mems.length = 0)) (hb : Below w.heap.size w wE) :
    ParsePost (n + 1) T B p w (.returned (.tuple #[.agg #[.int .u8 q, .slice none 0 0, .slice none 0 0, .slice none 0 0], .int .i64 (p : Nat), .bool true])) wE := by
  unfold ParsePost
  have e : strip (n + 1) T = ⟨q, [], [], []⟩ := by
    rcases hk with ⟨h1, rfl, h2⟩ | ⟨h1, rfl, h2⟩
    · rw [strip_arr h1, h2]; rfl
    · rw [strip_obj h1, h2]; rfl
  rw [e]
  exact ⟨none, 0, none, 0, none, 0, rfl, ⟨rfl, ⟨none, 0, rfl, Nat.le_refl _, Nat.zero_le _, .inl rfl⟩, row_nil _ 4 _ 0 rfl, row_nil _ 7 _ 0 rfl⟩, hb⟩

/-! ### where the k-th thing lies -/
def posOf (pos : Nat) (f : Nat → List Int) (k : Nat) : Nat := pos + 1 + (joinTo f k).length + (sep k).length

theorem thing_at {out a c : List Int} {f : Nat → List Int} {m k : Nat} {q0 q1 : Int} (ho : out = a ++ ((q0 :: (joinTo f m ++ [q1])) ++ c)) (hk : k < m) :
    out = (a ++ q0 :: (joinTo f k ++ sep k)) ++ (f k ++ (tailJ f (k + 1) (m - (k + 1)) ++ q1 :: c)) ∧ (a ++ q0 :: (joinTo f k ++ sep k)).length = posOf a.length f k := by
  refine ⟨?_, ?_⟩
  · rw [ho, joinTo_at f m k hk]; simp
  · unfold posOf; simp; omega

theorem after_last {out a c : List Int} {f : Nat → List Int} {m k : Nat} {q0 q1 : Int} (ho : out = a ++ ((q0 :: (joinTo f m ++ [q1])) ++ c)) (hk : k + 1 = m) :
    nth out (posOf a.length f k + (f k).length) = q1 ∧ posOf a.length f k + (f k).length < out.length ∧ posOf a.length f k + (f k).length + 1 = a.length + (q0 :: (joinTo f m ++ [q1])).length := by
  obtain ⟨h1, h2⟩ := thing_at ho (show k < m by omega)
  have hj := joinTo_at f m k (by omega)
  rw [show m - (k + 1) = 0 from by omega] at hj h1
  refine ⟨?_, ?_, ?_⟩
  · rw [h1, ← h2, nth_at, nth_right (Nat.le_refl _), Nat.sub_self]; exact nth_zero
  · rw [h1]; simp only [List.length_append, List.length_cons] at h2 ⊢; omega
  · rw [hj]; unfold posOf; simp [tailJ]; omega

theorem after_more {out a c : List Int} {f : Nat → List Int} {m k : Nat} {q0 q1 : Int} (ho : out = a ++ ((q0 :: (joinTo f m ++ [q1])) ++ c)) (hk : k + 1 < m) :
    nth out (posOf a.length f k + (f k).length) = 44 ∧ posOf a.length f k + (f k).length < out.length ∧ posOf a.length f k + (f k).length + 1 = posOf a.length f (k + 1) := by
  obtain ⟨h1, h2⟩ := thing_at ho (show k < m by omega)
  obtain ⟨r, hr⟩ := tail_more f m k hk q1 c
  rw [hr] at h1
  refine ⟨?_, ?_, ?_⟩
  · rw [h1, ← h2, nth_at, nth_right (Nat.le_refl _), Nat.sub_self]; exact nth_zero
  · rw [h1]; simp only [List.length_append, List.length_cons] at h2 ⊢; omega
  · unfold posOf
    rw [show joinTo f (k + 1) = joinTo f k ++ ((if k = 0 then [] else [44]) ++ f k) from rfl, show sep (k + 1) = [44] from if_neg (by omega)]
    simp [sep]; omega

end Go.Proofs.Qxb6605240a
