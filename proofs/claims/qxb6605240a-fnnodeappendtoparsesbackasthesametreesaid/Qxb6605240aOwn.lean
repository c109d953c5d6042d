/-
  A slice of bytes that is appended to: as it came in (full: no spare room), or the call's own row. One law for each append on the road.
-/
import Derived.Test.Qxb6605240aProg
import Derived.Test.Qxb6605240aPlain
import Derived.WalkKit
import Derived.WalkSpells
import Derived.WalkLawsBesides
import Derived.ArgAppend
namespace Go.Proofs.Qxb6605240a
open Go.RowKit

theorem Try.info5 : (Try.prog.info? 5).map (fun i => (i.zero, i.size, i.bytes)) = some (some (.int .u8 0), 1, 1) := by kernel_rfl

/-- Cells that hold bytes. -/
def bs (l : List Int) : List Value := l.map (Value.int .u8)

theorem bs_append (a b : List Int) : bs (a ++ b) = bs a ++ bs b := by simp [bs]
theorem bs_length (a : List Int) : (bs a).length = a.length := by simp [bs]
theorem bs_one (a : List Int) : ∀ u ∈ bs a, u.oneCell' = true := by
  intro u hu
  simp only [bs, List.mem_map] at hu
  obtain ⟨n, _, rfl⟩ := hu
  rfl
theorem bs_get (a : List Int) (j : Nat) (h : j < a.length) : (bs a)[j]? = some (.int .u8 (a.getD j 0)) := by
  simp [bs, h]

/-- The slice v holds the bytes xs; it is full, or it is a row of the call's own (blocks from B on). -/
def Dst (B : Nat) (w : World) (v : Value) (xs : List Int) : Prop :=
  (∃ ao, v = .slice ao xs.length xs.length ∧ (ao = none → xs = []) ∧ ∀ b, ao = some b → ∀ j u, (bs xs)[j]? = some u → w.cell? (b.add j) = some u) ∨
  w.ownsRow B 5 1 v xs.length (bs xs)

theorem ownsRow_base {w : World} {B B' : Nat} {e : TypeId} {size : Nat} {v : Value} {n : Nat} {xs : List Value} (h : w.ownsRow B e size v n xs) (hB : B' ≤ B) : w.ownsRow B' e size v n xs := by
  obtain ⟨h1, h2 | ⟨g, cap, cur, r1, r2, r3⟩⟩ := h
  · exact ⟨h1, .inl h2⟩
  · exact ⟨h1, .inr ⟨g, cap, cur, r1, by omega, r3⟩⟩

theorem cell_lt {w : World} {p : Addr} {u : Value} (h : w.cell? p = some u) : p.block < w.heap.size := by
  by_cases hb : p.block < w.heap.size
  · exact hb
  · exfalso
    unfold World.cell? at h
    have hn : w.heap[p.block]? = none := by simp; omega
    simp [hn] at h

theorem Dst.own {B : Nat} {w : World} {v : Value} {xs : List Int} (h : w.ownsRow B 5 1 v xs.length (bs xs)) : Dst B w v xs := .inr h

theorem Dst.nil (B : Nat) (w : World) : Dst B w (.slice none 0 0) [] := .inl ⟨none, rfl, fun _ => rfl, fun _ h => by cases h⟩

theorem Dst.alloc {B : Nat} {w : World} {v : Value} {xs : List Int} (h : Dst B w v xs) (o : Obj) : Dst B (w.alloc o) v xs := by
  rcases h with ⟨ao, rfl, h2, h3⟩ | h
  · exact .inl ⟨ao, rfl, h2, fun b hb j u hu => by
      have hc := h3 b hb j u hu
      exact (World.cell?_alloc_lt _ _ _ (cell_lt hc)).trans hc⟩
  · exact .inr (h.alloc o)

theorem Dst.drew {B : Nat} {w : World} {v : Value} {xs : List Int} (h : Dst B w v xs) : Dst B w.drew v xs := h

/-- The call's own row v (blocks from B on) holds the bytes ys. -/
def OwnB (B : Nat) (w : World) (v : Value) (ys : List Int) : Prop := w.ownsRow B 5 1 v ys.length (bs ys)

theorem OwnB.dst {B : Nat} {w : World} {v : Value} {xs : List Int} (h : OwnB B w v xs) : Dst B w v xs := .inr h

theorem OwnB.allocd {B : Nat} {w : World} {v : Value} {xs : List Int} (h : OwnB B w v xs) (o : Obj) : Dst B (w.alloc o) v xs := .inr (World.ownsRow.alloc h o)

theorem add_at (b off j : Nat) : (⟨b, off, none⟩ : Addr).add j = ⟨b, off + j, none⟩ := by
  unfold Addr.add; split <;> simp_all

/-- The new block's own cells. -/
theorem news_at (w : World) (l : List Int) : ∀ j u, (bs l)[j]? = some u → (w.alloc (.cells (bs l).toArray 5)).cell? ((⟨w.heap.size, 0, none⟩ : Addr).add j) = some u := by
  intro j u hu
  rw [add_at, Nat.zero_add, World.cell?_alloc_new]
  simpa using hu

theorem run_append_dst (w : World) (B : Nat) (ty : TypeId) (v : Value) (xs : List Int) (hd : Dst B w v xs) (ad : Addr) (m c : Nat) (ys : List Int) (hm : ys.length = m)
    (hc : ∀ j u, (bs ys)[j]? = some u → w.cell? (ad.add j) = some u) (hpos : 0 < m) (hb : xs.length + m ≤ 1099511627776) (hB : B ≤ w.heap.size) :
    ∃ v' w', (Builtin.append_ #[22, 22] ty #[v, .slice (some ad) m c]).run Try.prog w = .ok v' w' ∧ OwnB B w' v' (xs ++ ys) ∧ Below B w w' := by
  unfold OwnB
  obtain ⟨i0, hi, hz0, hz1, hz2⟩ := info_parts Try.info5
  have hn : (bs ys).length = m * 1 := by rw [bs_length, hm, Nat.mul_one]
  have e : (xs ++ ys).length = xs.length + m := by rw [List.length_append, hm]
  rw [e, bs_append]
  rcases hd with ⟨ao, rfl, h2, h3⟩ | hown
  · cases ao with
    | some b =>
      obtain ⟨v', w', hrun, r1, r2⟩ := run_append_arg_grows (P := Try.prog) w 22 ty 5 i0 (.int .u8 0) 1 1 Try.underlying22 hi hz0 hz1 hz2 rfl (by decide) b xs.length xs.length (bs xs) (by rw [bs_length, Nat.mul_one]) (h3 b rfl) ad m c (bs ys) hn hc (by omega) (by unfold maxLen; omega) (by omega)
      exact ⟨v', w', hrun, ownsRow_base r1 hB, (Below.refl _ _).grown r2 hB (fun k hk => by cases hk)⟩
    | none =>
      obtain rfl := h2 rfl
      obtain ⟨v', w', hrun, r1, r2, _⟩ := run_append_own (P := Try.prog) w w.heap.size 22 ty 5 i0 (.int .u8 0) 1 1 Try.underlying22 hi hz0 hz1 hz2 rfl (by decide) (.slice none 0 0) 0 [] (World.ownsRow_nil w _ 5 1) ad m c (bs ys) hn hc (bs_one ys) (by unfold maxLen; simp at hb; omega) (by simp at hb; omega) (Nat.le_refl _)
      exact ⟨v', w', hrun, by simpa [bs] using ownsRow_base r1 hB, (Below.refl _ _).grown r2 hB (fun k hk => by cases hk)⟩
  · obtain ⟨v', w', hrun, r1, r2, _⟩ := run_append_own (P := Try.prog) w B 22 ty 5 i0 (.int .u8 0) 1 1 Try.underlying22 hi hz0 hz1 hz2 rfl (by decide) v xs.length (bs xs) hown ad m c (bs ys) hn hc (bs_one ys) (by unfold maxLen; omega) (by omega) hB
    exact ⟨v', w', hrun, r1, (Below.refl _ _).grown r2 hB (fun k hk => (hown.lt k hk).1)⟩

theorem wpList_append_dst (w : World) {ops : Array Oper} {rest : List Oper} {o : Oper} {a : Act} {Q : Exit → Act → World → Prop} (hg : o.guard = none) (s x : Operand)
    (hop : o.op = .call { callee := .builtin .append, args := #[s, x], argTypes := #[22, 22] }) (B : Nat) (v : Value) (xs : List Int) (hs : a.eval s = v) (hd : Dst B w v xs)
    (ad : Addr) (m c : Nat) (ys : List Int) (hx : a.eval x = .slice (some ad) m c) (hm : ys.length = m) (hc : ∀ j u, (bs ys)[j]? = some u → w.cell? (ad.add j) = some u) (hpos : 0 < m)
    (hb : xs.length + m ≤ 1099511627776) (hB : B ≤ w.heap.size)
    (hK : ∀ v' w', OwnB B w' v' (xs ++ ys) → Below B w w' → wpList Try.prog ops Q rest (a.put o.dst v') w') : wpList Try.prog ops Q (o :: rest) a w := by
  refine wpList_plain hg fun K hK' => ?_
  obtain ⟨v', w', hrun, r1, r2⟩ := run_append_dst w B o.type v xs hd ad m c ys hm hc hpos hb hB
  unfold Oper.wp
  simp [execOp, hop, resolve, invoke, builtin, hs, hx, hrun, Result.andThen]
  exact hK' _ _ (hK v' w' r1 r2)

theorem step_append_dst {ops : Array Oper} {o : Oper} {a : Act} {w : World} {K : Act → World → Prop} {Q : Exit → Act → World → Prop} {E : Prop} (hg : o.guard = none) (s x : Operand)
    (hop : o.op = .call { callee := .builtin .append, args := #[s, x], argTypes := #[22, 22] }) (B : Nat) (v : Value) (xs : List Int) (hs : a.eval s = v) (hd : Dst B w v xs)
    (ad : Addr) (m c : Nat) (ys : List Int) (hx : a.eval x = .slice (some ad) m c) (hm : ys.length = m) (hc : ∀ j u, (bs ys)[j]? = some u → w.cell? (ad.add j) = some u) (hpos : 0 < m)
    (hb : xs.length + m ≤ 1099511627776) (hB : B ≤ w.heap.size)
    (hK : ∀ v' w', OwnB B w' v' (xs ++ ys) → Below B w w' → K (a.put o.dst v') w') :
    if Region.wanted o (yielded ops a.tmps) = true then Oper.wp Try.prog o a w K Q else E := by
  have hw : Region.wanted o (yielded ops a.tmps) = true := by simp [Region.wanted, hg]
  rw [if_pos hw]
  obtain ⟨v', w', hrun, r1, r2⟩ := run_append_dst w B o.type v xs hd ad m c ys hm hc hpos hb hB
  unfold Oper.wp
  simp [execOp, hop, resolve, invoke, builtin, hs, hx, hrun, Result.andThen]
  exact hK v' w' r1 r2

theorem and15 (c : Int) (h0 : 0 ≤ c) (h1 : c < 256) : bits .and .u8 c 15 = c % 16 := by
  have h := bits_mask .u8 8 (by decide) (fun n a b => wraps_u8 n a b) 4 (by decide) c h0 (by simpa using h1)
  simpa using h

theorem hex_at (q : Int) (h0 : 0 ≤ q) (h1 : q < 16) (h : q.toNat < ({ data := #[48, 49, 50, 51, 52, 53, 54, 55, 56, 57, 97, 98, 99, 100, 101, 102] } : ByteArray).size) :
    (((({ data := #[48, 49, 50, 51, 52, 53, 54, 55, 56, 57, 97, 98, 99, 100, 101, 102] } : ByteArray)[q.toNat]'h).toNat : Nat) : Int) = Plain.hexd q := by
  have hq : q = 0 ∨ q = 1 ∨ q = 2 ∨ q = 3 ∨ q = 4 ∨ q = 5 ∨ q = 6 ∨ q = 7 ∨ q = 8 ∨ q = 9 ∨ q = 10 ∨ q = 11 ∨ q = 12 ∨ q = 13 ∨ q = 14 ∨ q = 15 := by omega
  rcases hq with rfl | rfl | rfl | rfl | rfl | rfl | rfl | rfl | rfl | rfl | rfl | rfl | rfl | rfl | rfl | rfl <;> rfl

end Go.Proofs.Qxb6605240a
