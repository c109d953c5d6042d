/-
  Slices of bytes that are only read: 'Has'; zzCloneBytes, zzQuoted, the two length bounds.
-/
import Derived.Test.Qxb6605240aOwn
import Derived.Laws.CopyOwn
import Derived.Deep.QuietTactic
import Derived.BigQuiet
namespace Go.Proofs.Qxb6605240a
open Go.RowKit Plain

/-- Behind the address ao lie the bytes xs. -/
def Has (w : World) (ao : Option Addr) (xs : List Int) : Prop :=
  xs = [] ∨ ∃ b off, ao = some ⟨b, off, none⟩ ∧ ∀ j, j < xs.length → w.cell? ⟨b, off + j, none⟩ = some (.int .u8 (nth xs j))

theorem has_take {w : World} {x : Addr} {zs : List Int} {n : Nat} (hc : ∀ i, i < zs.length → w.cell? (x.add i) = some (.int .u8 (zs.getD i 0))) (hn : n ≤ zs.length) : Has w (some x) (zs.take n) := by
  by_cases h0 : n = 0
  · subst h0; exact .inl (by simp)
  · obtain ⟨b, off, spot⟩ := x
    have h1 := hc 0 (by omega)
    have hspot : spot = none := by simpa [Addr.add] using World.cell?_spot h1
    subst hspot
    refine .inr ⟨b, off, rfl, fun j hj => ?_⟩
    rw [List.length_take] at hj
    have h2 := hc j (by omega)
    rw [add_at] at h2
    rw [h2]
    unfold nth
    rw [List.getD_eq_getElem?_getD, List.getD_eq_getElem?_getD, List.getElem?_take, if_pos (by omega)]

theorem Has.later {w w' : World} {ao : Option Addr} {xs : List Int} (h : Has w ao xs) (hb : Below w.heap.size w w') : Has w' ao xs := by
  rcases h with rfl | ⟨b, off, rfl, hc⟩
  · exact .inl rfl
  · exact .inr ⟨b, off, rfl, fun j hj => (hb.cell (p := ⟨b, off + j, none⟩) (cell_lt (hc j hj))).trans (hc j hj)⟩

theorem Has.dst {B : Nat} {w : World} {ao : Option Addr} {xs : List Int} (h : Has w ao xs) (hn : ao = none → xs = []) : Dst B w (.slice ao xs.length xs.length) xs := by
  refine .inl ⟨ao, rfl, hn, fun b hb j u hu => ?_⟩
  rcases h with rfl | ⟨b', off, rfl, hc⟩
  · simp [bs] at hu
  · cases hb
    have hj : j < xs.length := by
      have := (List.getElem?_eq_some_iff.1 hu).1
      rw [bs_length] at this; exact this
    rw [add_at, hc j hj]
    rw [bs_get xs j hj] at hu
    exact hu

theorem OwnB.has {B : Nat} {w : World} {v : Value} {ys : List Int} (h : OwnB B w v ys) : ∃ ao cap, v = .slice ao ys.length cap ∧ (ao = none → ys = []) ∧ Has w ao ys ∧ ys.length ≤ cap ∧ cap ≤ maxLen := by
  obtain ⟨h1, ⟨h2, h3⟩ | ⟨g, cap, cur, rfl, h4, h5, h6, h7, h8, h9⟩⟩ := h
  · have e : ys = [] := List.eq_nil_of_length_eq_zero h3
    subst e
    exact ⟨none, 0, h2, fun _ => rfl, .inl rfl, Nat.le_refl _, Nat.zero_le _⟩
  · refine ⟨some ⟨g, 0, none⟩, cap, rfl, fun e => (by cases e), .inr ⟨g, 0, rfl, fun j hj => ?_⟩, h6, h7⟩
    rw [Nat.zero_add]
    have hcell : w.cell? ⟨g, j, none⟩ = cur[j]? := by simp [World.cell?, h5]
    rw [hcell]
    have hb := bs_get ys j hj
    rw [← h9, List.getElem?_take, if_pos (by omega)] at hb
    simpa [nth] using hb

theorem Try.size5 : (Try.prog.info? 5).map (·.size) = some 1 := by kernel_rfl

theorem own_row {w : World} {B g n : Nat} {xs : List Value} (h : w.ownsRow B 5 1 (.slice (some ⟨g, 0, none⟩) n n) n xs) : ∃ cur : List Value, w.heap[g]? = some (.cells cur.toArray 5 (0, 0)) ∧ cur.length = n := by
  obtain ⟨h1, ⟨h2, h3⟩ | ⟨g', cap, cur, h2, h4, h5, h6, h7, h8, h9⟩⟩ := h
  · cases h2
  · cases h2
    exact ⟨cur.toList, by simpa using h5, by simpa using h8⟩

theorem has_cells {w : World} {a : Addr} {xs : List Int} (h : Has w (some a) xs) : ∀ j v, (bs xs)[j]? = some v → w.cell? (a.add j) = some v := by
  intro j u hu
  rcases h with rfl | ⟨b', off, hb, hc⟩
  · simp [bs] at hu
  · cases hb
    have hj : j < xs.length := by
      have := (List.getElem?_eq_some_iff.1 hu).1
      rw [bs_length] at this; exact this
    rw [add_at, hc j hj]
    rw [bs_get xs j hj] at hu
    exact hu

theorem row_cells {w : World} {g : Nat} {cur : List Value} {xs : List Int} (h : w.heap[g]? = some (.cells (splice cur 0 (bs xs)).toArray 5 (0, 0))) (hl : cur.length = xs.length) :
    ∀ j, j < xs.length → w.cell? ⟨g, 0 + j, none⟩ = some (.int .u8 (nth xs j)) := by
  intro j hj
  have e : splice cur 0 (bs xs) = bs xs := by
    unfold splice
    rw [bs_length, List.drop_eq_nil_of_le (by omega)]; simp
  rw [e] at h
  have hcell : w.cell? ⟨g, 0 + j, none⟩ = (bs xs)[j]? := by simp [World.cell?, h]
  rw [hcell, bs_get xs j hj]; rfl

/-- From b, off on lie the bytes xs. -/
def HasAt (w : World) (b off : Nat) (xs : List Int) : Prop := ∀ j, j < xs.length → w.cell? ⟨b, off + j, none⟩ = some (.int .u8 (nth xs j))

theorem HasAt.later {w w' : World} {b off : Nat} {xs : List Int} (h : HasAt w b off xs) (hb : Below w.heap.size w w') : HasAt w' b off xs :=
  fun j hj => (hb.cell (p := ⟨b, off + j, none⟩) (cell_lt (h j hj))).trans (h j hj)

theorem HasAt.has {w : World} {b off : Nat} {xs : List Int} (h : HasAt w b off xs) : Has w (some ⟨b, off, none⟩) xs := .inr ⟨b, off, rfl, h⟩

theorem clone_nil (w : World) (cap : Nat) : Calls Try.prog 7 #[.slice none 0 cap] w fun e w' => e = .returned (.slice none 0 0) ∧ w' = w := by
  have hn := fun (w : World) => Lib.run_eql_slice_nil (P := Try.prog) w 22 5 none 0 cap 0 0 Try.underlying22
  go_enter Try.func7, Try.ntmps7
  go_wp2
  go_ret
  exact ⟨rfl, rfl⟩

set_option maxHeartbeats 400000 in
theorem clone_some (w : World) (a : Addr) (cap : Nat) (xs : List Int) (hl : xs.length ≤ 1048576) (hx : Has w (some a) xs) :
    Calls Try.prog 7 #[.slice (some a) xs.length cap] w fun e w' => ∃ g, e = .returned (.slice (some ⟨g, 0, none⟩) xs.length xs.length) ∧ HasAt w' g 0 xs ∧ Below w.heap.size w w' := by
  have hn := fun (w : World) => Lib.run_eql_slice_nil (P := Try.prog) w 22 5 (some a) xs.length cap 0 0 Try.underlying22
  obtain ⟨i0, hi, hz0, hz1, hz2⟩ := info_parts Try.info5
  go_enter Try.func7, Try.ntmps7
  go_wp2_with (at_make; refine wpList_make_full _ rfl _ _ 22 rfl w.heap.size 5 i0 (.int .u8 0) 1 Try.underlying22 hi hz0 hz1 _ _ _ _ xs.length rfl rfl rfl rfl ?b2 ?b3 (Nat.le_refl _) ?_)
  case b2 => rw [hz2]; omega
  case b3 => unfold maxLen; omega
  intro w1 ho hg
  obtain ⟨cur, hcur, hcl⟩ := own_row ho
  have hb1 : Below w.heap.size w w1 := (Below.refl _ _).grown hg (Nat.le_refl _) (fun k hk => by cases hk)
  have hx1 : Has w1 (some a) xs := hx.later hb1
  clear ho hg hx
  go_wp2_with (refine wpList_copy_splice rfl (.tmp 9) (.tmp 10) 22 22 rfl 5 Try.underlying22 Try.size5 _ _ _ _ _ _ rfl rfl w.heap.size 0 cur 5 hcur (bs xs) ?n ?pos ?fit (bs_one xs) w.heap.size w hb1 (Nat.le_refl _) ?_)
  case n => rw [bs_length]; exact (Nat.min_self _).symm
  case pos => intro _; exact has_cells hx1
  case fit => rw [bs_length, hcl]; omega
  intro w2 HG hb2
  go_wp2
  go_ret
  exact ⟨w.heap.size, rfl, row_cells HG.out hcl, hb2⟩

set_option maxHeartbeats 400000 in
theorem clone_any (w : World) (ao : Option Addr) (cap : Nat) (xs : List Int) (hl : xs.length ≤ 1048576) (hno : ao = none → xs = []) (hx : Has w ao xs) :
    Calls Try.prog 7 #[.slice ao xs.length cap] w fun e w' => ∃ ao', e = .returned (.slice ao' xs.length xs.length) ∧ (ao' = none → xs = []) ∧ Has w' ao' xs ∧ Below w.heap.size w w' := by
  cases ao with
  | none =>
    obtain rfl := hno rfl
    refine (clone_nil w cap).mono ?_
    rintro e w' ⟨rfl, rfl⟩
    exact ⟨none, rfl, fun _ => rfl, .inl rfl, Below.refl _ _⟩
  | some a =>
    refine (clone_some w a cap xs hl hx).mono ?_
    rintro e w' ⟨g, rfl, h1, h2⟩
    exact ⟨_, rfl, fun h => (by cases h), h1.has, h2⟩

/-- zzBytes_FnAppendStringSplitsAtEveryByte. -/
theorem bytes12_yes (ao : Option Addr) (n cap : Nat) (s : ByteArray) (k : Int) (w : World) (h : n + s.size ≤ 1048576) :
    Calls Try.prog 12 #[.slice ao n cap, .string s, .int .i64 k] w fun e w' => e = .returned (.bool true) ∧ w' = w := by
  go_enter Try.func12, Try.ntmps12
  go_wp2
  go_ret
  exact ⟨rfl, rfl⟩

theorem bytes12_no (ao : Option Addr) (n cap : Nat) (s : ByteArray) (k : Int) (w : World) (h : ¬ n + s.size ≤ 1048576) :
    Calls Try.prog 12 #[.slice ao n cap, .string s, .int .i64 k] w fun e w' => e = .returned (.bool false) ∧ w' = w := by
  by_cases h1 : n ≤ 1048576
  · by_cases h2 : s.size ≤ 1048576
    · go_enter Try.func12, Try.ntmps12
      go_wp2
      go_ret
      exact ⟨rfl, rfl⟩
    · go_enter Try.func12, Try.ntmps12
      go_wp2
      go_ret
      exact ⟨rfl, rfl⟩
  · go_enter Try.func12, Try.ntmps12
    go_wp2
    go_ret
    exact ⟨rfl, rfl⟩

/-- zzQuoted of a text that is quoted. -/
theorem quoted_yes (w : World) (b off n cap : Nat) (hn : 2 ≤ n) (hm : n ≤ 1073741824) (h0 : w.cell? ⟨b, off, none⟩ = some (.int .u8 34)) (h1 : w.cell? ⟨b, off + (n - 1), none⟩ = some (.int .u8 34)) :
    Calls Try.prog 13 #[.slice (some ⟨b, off, none⟩) n cap] w fun e w' => e = .returned (.bool true) ∧ w' = w := by
  go_enter Try.func13, Try.ntmps13
  go_wp2
  go_ret
  exact ⟨rfl, rfl⟩

end Go.Proofs.Qxb6605240a
