/-
  FROM THE ROW's READING TO THE PLAIN TREE: a value of the node's type that can be read as data is a tree in memory.
-/
import Derived.Test.Qxb6605240aTreeWalk
import Derived.Deep.Slices
namespace Go.Proofs.Qxb6605240a
open Go.RowKit Plain Go.ChangeShapes Go.WideShapes

theorem Try.cells34 : Try.prog.cellsOf 34 = 4 := by kernel_rfl
theorem Try.cells5 : Try.prog.cellsOf 5 = 1 := by kernel_rfl
theorem Try.cells22 : Try.prog.cellsOf 22 = 1 := by kernel_rfl
theorem Try.cells31 : Try.prog.cellsOf 31 = 1 := by kernel_rfl
theorem Try.cells32 : Try.prog.cellsOf 32 = 1 := by kernel_rfl
theorem Try.cells55 : Try.prog.cellsOf 55 = 7 := by kernel_rfl
theorem Try.cells9 : Try.prog.cellsOf 9 = 1 := by kernel_rfl
theorem Try.cells53 : Try.prog.cellsOf 53 = 1 := by kernel_rfl
theorem Try.cells3 : Try.prog.cellsOf 3 = 1 := by kernel_rfl

instance : Inhabited Tr := ⟨Tr.leaf⟩

section
variable {H : Type} {en : TypeId × Value → H} {W : World} {spare : Nat → Bool} {held : Bool}

theorem row_read {t e : TypeId} {s fuel : Nat} {cs : List Value} {x : DataW H × List MemPlace} (ht : Try.prog.underlying t = some (.slice e)) (hs : Try.prog.cellsOf e = s) (hs0 : 0 < s) (h : DataW.trod en Try.prog W 0 spare held fuel t cs = some x) :
    ∃ ao m cap, cs = [.slice ao m cap] ∧ m ≤ cap ∧ cap ≤ maxLen ∧ (ao = none → m = 0) ∧ (m = 0 ∨ ∃ b o, ao = some ⟨b, o, none⟩ ∧ b < W.heap.size ∧
      ∀ i, i < m → ∃ cs', cs'.length = s ∧ (∀ j, j < s → W.cell? ⟨b, o + i * s + j, none⟩ = cs'[j]?) ∧ ∃ y n, n < fuel ∧ DataW.trod en Try.prog W 0 spare held n e cs' = some y) := by
  rcases DataW.trod_slice ht h with ⟨rfl, _⟩ | ⟨a, len, cap, elems, rest, n, rfl, rfl, _, _, hl, hm, hlen, hel, _⟩
  · exact ⟨none, 0, 0, rfl, Nat.le_refl _, Nat.zero_le _, fun _ => rfl, .inl rfl⟩
  refine ⟨some a, len, cap, rfl, hl, hm, fun e => by (cases e), ?_⟩
  by_cases h0 : len = 0
  · exact .inl h0
  have each : ∀ i, i < len → ∃ cs' y, cs'.length = s ∧ (∀ j, j < s → W.cell? (a.add (i * s + j)) = cs'[j]?) ∧ DataW.trod en Try.prog W 0 spare held n e cs' = some y := fun i hi => by
    have h1 := hel i hi
    rw [List.getElem?_eq_getElem (by omega), hs] at h1
    obtain ⟨cs', h2, h3⟩ := Option.bind_eq_some_iff.1 h1
    obtain ⟨_, h4, h5⟩ := World.cells?_some h2
    exact ⟨cs', _, h4, fun j hj => by rw [← Deep.add_add]; exact h5 j hj, h3⟩
  obtain ⟨b, o, spot⟩ := a
  obtain ⟨cs0, y0, g1, g2, g3⟩ := each 0 (by omega)
  have c0 := g2 0 hs0
  rw [List.getElem?_eq_getElem (by omega)] at c0
  have hspot : spot = none := by simpa [Addr.add] using World.cell?_spot c0
  subst hspot
  rw [add_at] at c0
  refine .inr ⟨b, o, rfl, cell_lt c0, fun i hi => ?_⟩
  obtain ⟨cs', y, g1, g2, g3⟩ := each i hi
  refine ⟨cs', g1, fun j hj => ?_, y, n, by omega, g3⟩
  have := g2 j hj
  rw [add_at, ← Nat.add_assoc] at this
  exact this

theorem text_read {fuel : Nat} {cs : List Value} {x : DataW H × List MemPlace} (h : DataW.trod en Try.prog W 0 spare held fuel 22 cs = some x) : ∃ c xs, cs = [c] ∧ TextS (· < W.heap.size) W c xs := by
  obtain ⟨ao, m, cap, rfl, h1, h2, _, h3⟩ := row_read Try.underlying22 Try.cells5 (by decide) h
  rcases h3 with rfl | ⟨b, o, rfl, hb, hE⟩
  · exact ⟨_, [], rfl, ao, cap, rfl, h1, h2, .inl rfl⟩
  obtain ⟨z, hz⟩ := Deep.choose_lt (α := Int) (n := m) (p := fun i z => W.cell? ⟨b, o + i, none⟩ = some (.int .u8 z)) (fun i hi => by
    obtain ⟨cs', g1, g2, y, n, _, g3⟩ := hE i hi
    obtain ⟨z, rfl, _, _⟩ := DataW.trod_int Try.underlying5 g3
    have := g2 0 (by decide)
    rw [Nat.mul_one, Nat.add_zero] at this
    exact ⟨z, this⟩)
  have hl : ((List.range m).map z).length = m := by simp
  refine ⟨_, (List.range m).map z, rfl, _, cap, by rw [hl], by rw [hl]; exact h1, h2, .inr ⟨b, o, rfl, hb, fun j hj => ?_⟩⟩
  rw [hl] at hj
  rw [hz j hj]
  simp [nth, hj]

theorem NodeS.up {S : Nat → Prop} {w : World} : ∀ {n : Nat} {c0 c1 c2 c3 : Value} {T : Tr}, NodeS S n w c0 c1 c2 c3 T → NodeS S (n + 1) w c0 c1 c2 c3 T := by
  intro n
  induction n with
  | zero => intro c0 c1 c2 c3 T h; exact h.elim
  | succ n ih =>
    intro c0 c1 c2 c3 T h
    obtain ⟨h1, h2, h3, h4⟩ := h
    refine ⟨h1, h2, h3.imp (fun _ h => h) fun i b o _ hp => ?_, h4.imp (fun _ h => h) fun i b o _ hp => ?_⟩
    · obtain ⟨d0, d1, d2, d3, hf, hd⟩ := hp
      exact ⟨d0, d1, d2, d3, hf, ih hd⟩
    · obtain ⟨k1, k2, k3, k5, d0, d1, d2, d3, hf, hd⟩ := hp
      exact ⟨k1, k2, k3, k5, d0, d1, d2, d3, hf, ih hd⟩

theorem NodeS.le {S : Nat → Prop} {w : World} {n m : Nat} (hnm : n ≤ m) {c0 c1 c2 c3 : Value} {T : Tr} (h : NodeS S n w c0 c1 c2 c3 T) : NodeS S m w c0 c1 c2 c3 T := by
  induction hnm with
  | refl => exact h
  | step _ ih => exact ih.up

theorem list4 {cs : List Value} (h : cs.length = 4) : ∃ c0 c1 c2 c3, cs = [c0, c1, c2, c3] := by
  match cs, h with
  | [c0, c1, c2, c3], _ => exact ⟨c0, c1, c2, c3, rfl⟩
theorem list7 {cs : List Value} (h : cs.length = 7) : ∃ c0 c1 c2 c3 c4 c5 c6, cs = [c0, c1, c2, c3, c4, c5, c6] := by
  match cs, h with
  | [c0, c1, c2, c3, c4, c5, c6], _ => exact ⟨c0, c1, c2, c3, c4, c5, c6, rfl⟩

theorem struct_field {fs : Array Field} {t : TypeId} {fuel : Nat} {cs : List Value} {x : DataW H × List MemPlace} (ht : Try.prog.underlying t = some (.struct fs)) (h : DataW.trod en Try.prog W 0 spare held fuel t cs = some x) :
    cs.length = Try.prog.cellsOf t ∧ ∃ n, fuel = n + 1 ∧ ∀ (i : Nat) (f : Field), fs[i]? = some f → ∃ y, DataW.trod en Try.prog W 0 spare held n f.type ((cs.drop f.offset).take (Try.prog.cellsOf f.type)) = some y := by
  obtain ⟨xs, n, h1, _, h2, h3, h4⟩ := DataW.trod_struct ht h
  refine ⟨h2, n, h1, fun i f hf => ?_⟩
  have h5 := h4 i f hf
  have hi : i < fs.size := (Array.getElem?_eq_some_iff.1 hf).1
  rw [List.getElem?_eq_getElem (by omega)] at h5
  exact ⟨_, h5⟩

theorem node_read : ∀ (fuel : Nat) (cs : List Value) (x : DataW H × List MemPlace), DataW.trod en Try.prog W 0 spare held fuel 34 cs = some x → ∃ c0 c1 c2 c3 T, cs = [c0, c1, c2, c3] ∧ NodeS (· < W.heap.size) fuel W c0 c1 c2 c3 T := by
  intro fuel
  induction fuel using Nat.strongRecOn with
  | ind fuel ih =>
    intro cs x h
    obtain ⟨hlen, n, rfl, hf⟩ := struct_field Try.underlying34 h
    rw [Try.cells34] at hlen
    obtain ⟨c0, c1, c2, c3, rfl⟩ := list4 hlen
    obtain ⟨y0, g0⟩ := hf 0 _ rfl
    have f0 : DataW.trod en Try.prog W 0 spare held n 5 (([c0, c1, c2, c3].drop 0).take (Try.prog.cellsOf 5)) = some y0 := g0
    obtain ⟨y1, g1⟩ := hf 1 _ rfl
    have f1 : DataW.trod en Try.prog W 0 spare held n 22 (([c0, c1, c2, c3].drop 1).take (Try.prog.cellsOf 22)) = some y1 := g1
    obtain ⟨y2, g2⟩ := hf 2 _ rfl
    have f2 : DataW.trod en Try.prog W 0 spare held n 31 (([c0, c1, c2, c3].drop 2).take (Try.prog.cellsOf 31)) = some y2 := g2
    obtain ⟨y3, g3⟩ := hf 3 _ rfl
    have f3 : DataW.trod en Try.prog W 0 spare held n 32 (([c0, c1, c2, c3].drop 3).take (Try.prog.cellsOf 32)) = some y3 := g3
    rw [Try.cells5] at f0
    rw [Try.cells22] at f1
    rw [Try.cells31] at f2
    rw [Try.cells32] at f3
    simp only [List.drop_succ_cons, List.drop_zero, List.take_succ_cons, List.take_zero] at f0 f1 f2 f3
    clear g0 g1 g2 g3 hf
    obtain ⟨k, e0, _, _⟩ := DataW.trod_int Try.underlying5 f0
    cases e0
    obtain ⟨c1', tx, e1, hT⟩ := text_read f1
    cases e1
    obtain ⟨ea, em, ecap, e2, he1, he2, he3, he4⟩ := row_read Try.underlying31 Try.cells34 (by decide) f2
    cases e2
    obtain ⟨ma, mm, mcap, e3, hm1, hm2, hm3, hm4⟩ := row_read Try.underlying32 Try.cells55 (by decide) f3
    cases e3
    -- the elements
    have hE : ∃ Te : Nat → Tr, em = 0 ∨ ∃ b o, ea = some ⟨b, o, none⟩ ∧ b < W.heap.size ∧ ∀ i, i < em → ∃ d0 d1 d2 d3, Four W b (o + i * 4) d0 d1 d2 d3 ∧ NodeS (· < W.heap.size) n W d0 d1 d2 d3 (Te i) := by
      rcases he4 with h0 | ⟨b, o, rfl, hb, hE⟩
      · exact ⟨fun _ => Tr.leaf, .inl h0⟩
      obtain ⟨Te, hTe⟩ := Deep.choose_lt (α := Tr) (n := em) (p := fun i T => ∃ d0 d1 d2 d3, Four W b (o + i * 4) d0 d1 d2 d3 ∧ NodeS (· < W.heap.size) n W d0 d1 d2 d3 T) (fun i hi => by
        obtain ⟨cs', g1, g2, y, n', hn', g3⟩ := hE i hi
        obtain ⟨d0, d1, d2, d3, T, rfl, hN⟩ := ih n' (by omega) cs' y g3
        exact ⟨T, d0, d1, d2, d3, ⟨g2 0 (by decide), g2 1 (by decide), g2 2 (by decide), g2 3 (by decide)⟩, hN.le (by omega)⟩)
      exact ⟨Te, .inr ⟨b, o, rfl, hb, hTe⟩⟩
    -- the members
    have hM : ∃ (Nm : Nat → ByteArray) (Tv : Nat → Tr), mm = 0 ∨ ∃ b o, ma = some ⟨b, o, none⟩ ∧ b < W.heap.size ∧ ∀ i, i < mm →
        (W.cell? ⟨b, o + i * 7, none⟩ = some (.string (Nm i)) ∧ (Nm i).size ≤ maxLen ∧ (∃ ka kl kc, kl ≤ maxLen ∧ W.cell? ⟨b, o + i * 7 + 1, none⟩ = some (.slice ka kl kc)) ∧ (∃ q, W.cell? ⟨b, o + i * 7 + 2, none⟩ = some (.int .i64 q)) ∧
        ∃ d0 d1 d2 d3, Four W b (o + i * 7 + 3) d0 d1 d2 d3 ∧ NodeS (· < W.heap.size) n W d0 d1 d2 d3 (Tv i)) := by
      rcases hm4 with h0 | ⟨b, o, rfl, hb, hE⟩
      · exact ⟨fun _ => ByteArray.empty, fun _ => Tr.leaf, .inl h0⟩
      obtain ⟨P, hP⟩ := Deep.choose_lt (α := ByteArray × Tr) (n := mm) (p := fun i T => W.cell? ⟨b, o + i * 7, none⟩ = some (.string T.1) ∧ T.1.size ≤ maxLen ∧ (∃ ka kl kc, kl ≤ maxLen ∧ W.cell? ⟨b, o + i * 7 + 1, none⟩ = some (.slice ka kl kc)) ∧ (∃ q, W.cell? ⟨b, o + i * 7 + 2, none⟩ = some (.int .i64 q)) ∧
        ∃ d0 d1 d2 d3, Four W b (o + i * 7 + 3) d0 d1 d2 d3 ∧ NodeS (· < W.heap.size) n W d0 d1 d2 d3 T.2) (fun i hi => by
        obtain ⟨cs', g1, g2, y, n', hn', g3⟩ := hE i hi
        obtain ⟨hlen7, n2, rfl, hg⟩ := struct_field Try.underlying55 g3
        obtain ⟨p0, p1, p2, p3, p4, p5, p6, rfl⟩ := list7 g1
        obtain ⟨z0, u0⟩ := hg 0 _ rfl
        have q0 : DataW.trod en Try.prog W 0 spare held n2 9 (([p0, p1, p2, p3, p4, p5, p6].drop 0).take (Try.prog.cellsOf 9)) = some z0 := u0
        obtain ⟨z1, u1⟩ := hg 1 _ rfl
        have q1 : DataW.trod en Try.prog W 0 spare held n2 53 (([p0, p1, p2, p3, p4, p5, p6].drop 1).take (Try.prog.cellsOf 53)) = some z1 := u1
        obtain ⟨z2, u2⟩ := hg 2 _ rfl
        have q2 : DataW.trod en Try.prog W 0 spare held n2 3 (([p0, p1, p2, p3, p4, p5, p6].drop 2).take (Try.prog.cellsOf 3)) = some z2 := u2
        obtain ⟨z3, u3⟩ := hg 3 _ rfl
        have q3 : DataW.trod en Try.prog W 0 spare held n2 34 (([p0, p1, p2, p3, p4, p5, p6].drop 3).take (Try.prog.cellsOf 34)) = some z3 := u3
        rw [Try.cells9] at q0
        rw [Try.cells53] at q1
        rw [Try.cells3] at q2
        rw [Try.cells34] at q3
        simp only [List.drop_succ_cons, List.drop_zero, List.take_succ_cons, List.take_zero] at q0 q1 q2 q3
        clear u0 u1 u2 u3 hg
        obtain ⟨s, r0, _, hs⟩ := DataW.trod_string Try.underlying9 q0
        cases r0
        obtain ⟨z, r2, _, _⟩ := DataW.trod_int Try.underlying3 q2
        cases r2
        obtain ⟨d0, d1, d2, d3, T, r3, hN⟩ := ih n2 (by omega) _ _ q3
        cases r3
        have hkey : ∃ ka kl kc, kl ≤ maxLen ∧ p1 = .slice ka kl kc := by
          rcases DataW.trod_slice Try.underlying53 q1 with ⟨r1, _⟩ | ⟨a, len, cap, elems, rest, n3, _, r1, _, _, hl, hm, _⟩
          · cases r1; exact ⟨none, 0, 0, Nat.zero_le _, rfl⟩
          · cases r1; exact ⟨some a, len, cap, by omega, rfl⟩
        obtain ⟨ka, kl, kc, hkl, rfl⟩ := hkey
        exact ⟨(s, T), g2 0 (by decide), hs, ⟨ka, kl, kc, hkl, g2 1 (by decide)⟩, ⟨z, g2 2 (by decide)⟩, p3, p4, p5, p6, ⟨g2 3 (by decide), g2 4 (by decide), g2 5 (by decide), g2 6 (by decide)⟩, hN.le (by omega)⟩)
      exact ⟨fun i => (P i).1, fun i => (P i).2, .inr ⟨b, o, rfl, hb, hP⟩⟩
    obtain ⟨Te, hE⟩ := hE
    obtain ⟨Nm, Tv, hM⟩ := hM
    have l1 : ((List.range em).map Te).length = em := by simp
    have l2 : ((List.range mm).map (fun i => (Nm i, Tv i))).length = mm := by simp
    refine ⟨_, _, _, _, ⟨k, tx, (List.range em).map Te, (List.range mm).map (fun i => (Nm i, Tv i))⟩, rfl, rfl, hT, ⟨ea, ecap, by simp only [l1], by simp only [l1]; exact he1, he2, by simp only [l1]; exact he3, ?_⟩, ⟨ma, mcap, by simp only [l2], by simp only [l2]; exact hm1, hm2, by simp only [l2]; exact hm3, ?_⟩⟩
    · simp only [l1]
      rcases hE with h0 | ⟨b, o, rfl, hb, hE⟩
      · exact .inl h0
      · refine .inr ⟨b, o, rfl, hb, fun i hi => ?_⟩
        rw [el_map _ _ _ hi]
        exact hE i hi
    · simp only [l2]
      rcases hM with h0 | ⟨b, o, rfl, hb, hM⟩
      · exact .inl h0
      · refine .inr ⟨b, o, rfl, hb, fun i hi => ?_⟩
        rw [nm_map _ _ _ hi, vl_map _ _ _ hi]
        exact hM i hi

end

end Go.Proofs.Qxb6605240a
