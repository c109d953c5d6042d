/-
  Strings put together and made of bytes: the plain part. Rows of bytes in a block.
-/
import Derived.Test.Qxb6600492aSmall
import Derived.Laws.BytesArg
namespace Go.Proofs.Qxb6600492a
open Go.RowKit Plain

/-! ### places of a ++ b -/
theorem append_size (a b : ByteArray) : (a ++ b).size = a.size + b.size := ByteArray.size_append
theorem byt_left {a b : ByteArray} {j : Nat} (h : j < a.size) : byt (a ++ b) j = byt a j := by
  rw [byt_at h, byt_at (by rw [append_size]; omega), ByteArray.getElem_append_left h]
theorem byt_right {a b : ByteArray} {j : Nat} (h : a.size ≤ j) : byt (a ++ b) j = byt b (j - a.size) := by
  by_cases h2 : j < (a ++ b).size
  · have h3 : j - a.size < b.size := by rw [append_size] at h2; omega
    rw [byt_at h2, byt_at h3, ByteArray.getElem_append_right h]
  · unfold byt
    rw [dif_neg h2, dif_neg (by rw [append_size] at h2; omega)]

theorem byt_ext {a b : ByteArray} (hs : a.size = b.size) (h : ∀ j, j < a.size → byt a j = byt b j) : a = b := by
  apply ByteArray.ext
  apply Array.ext
  · exact hs
  · intro i h1 h2
    have h3 : i < a.size := h1
    have h4 : i < b.size := h2
    have := h i h3
    rw [byt_at h3, byt_at h4] at this
    apply UInt8.toNat_inj.1
    have e : a[i].toNat = b[i].toNat := by omega
    exact e

theorem cutAt_append (a b : ByteArray) : cutAt (a ++ b) a.size = b := by
  apply byt_ext
  · rw [cutAt_size, append_size]; omega
  · intro j _
    rw [cutAt_byt, byt_right (by omega), Nat.add_sub_cancel_left]

theorem append_assoc' (a b c : ByteArray) : a ++ b ++ c = a ++ (b ++ c) := by
  apply byt_ext
  · simp only [append_size]; omega
  · intro j _
    by_cases h1 : j < a.size
    · rw [byt_left (by rw [append_size]; omega), byt_left h1, byt_left h1]
    · rw [byt_right (a := a) (by omega)]
      by_cases h2 : j < a.size + b.size
      · rw [byt_left (by rw [append_size]; omega), byt_right (by omega), byt_left (by omega)]
      · rw [byt_right (by rw [append_size]; omega), append_size, byt_right (by omega)]
        congr 1; omega

theorem val_congr {s t : ByteArray} (k : Nat) (h : ∀ j, j < k → byt s j = byt t j) : val s k = val t k := by
  induction k with
  | zero => rfl
  | succ k ih =>
    simp only [val]
    rw [ih (fun j hj => h j (by omega)), h k (by omega)]

theorem allz_congr {s t : ByteArray} (k : Nat) (h : ∀ j, j < k → byt s j = byt t j) : allz s k = allz t k := by
  induction k with
  | zero => rfl
  | succ k ih =>
    simp only [allz]
    rw [ih (fun j hj => h j (by omega)), h k (by omega)]

/-- The first n bytes are digits: at least n lead. -/
theorem lead_ge {s : ByteArray} {L n : Nat} (hL : IsLead s L) (hn : n ≤ s.size) (h : ∀ j, j < n → isD (byt s j)) : n ≤ L := by
  obtain ⟨a1, a2, a3⟩ := hL
  by_cases h1 : L < n
  · exact absurd (h L h1) (a3 (by omega))
  · omega

/-! ### strings of numbers -/
theorem strOf_byt (xs : List Int) (j : Nat) (h : j < xs.length) (h0 : 0 ≤ xs.getD j 0) (h1 : xs.getD j 0 ≤ 255) : byt (strOfNums xs) j = xs.getD j 0 := by
  have hs : j < (strOfNums xs).size := by rw [strOfNums_size]; exact h
  rw [byt_at hs]
  have e : (strOfNums xs)[j] = UInt8.ofNat (xs.getD j 0).toNat := by
    show ((xs.map fun n => UInt8.ofNat n.toNat).toArray)[j]'(by simpa using h) = _
    simp [h]
  rw [e]
  generalize xs.getD j 0 = c at h0 h1
  have : (UInt8.ofNat c.toNat).toNat = c.toNat := by
    rw [UInt8.toNat_ofNat']; exact Nat.mod_eq_of_lt (by omega)
  rw [this]; omega

/-- Digits read from the left, onto A. -/
def horner (A : Int) (l : List Int) : Int := l.foldl (fun a c => a * 10 + (c - 48)) A

theorem val_take (s : ByteArray) (xs : List Int) (hs : ∀ j, j < xs.length → byt s j = xs.getD j 0) : ∀ k, k ≤ xs.length → val s k = horner 0 (xs.take k) := by
  intro k
  induction k with
  | zero => intro _; rfl
  | succ k ih =>
    intro hk
    rw [List.take_succ_eq_append_getElem (by omega)]
    unfold horner
    rw [List.foldl_append]
    simp only [List.foldl_cons, List.foldl_nil, val]
    rw [ih (by omega), hs k (by omega)]
    unfold horner
    simp [show k < xs.length from by omega]

/-- A block of bytes. -/
def Row (w : World) (g : Nat) (xs : List Int) : Prop := w.heap[g]? = some (.cells (xs.map (Value.int .u8)).toArray 5 (0, 0))

theorem Row.cell {w : World} {g : Nat} {xs : List Int} (h : Row w g xs) (j : Nat) (hj : j < xs.length) : w.cell? ⟨g, j, none⟩ = some (.int .u8 (xs.getD j 0)) := by
  unfold Row at h; simp [World.cell?, h, hj]
theorem Row.free {w : World} {g : Nat} {xs : List Int} (h : Row w g xs) (j : Nat) : w.frozen? ⟨g, j, none⟩ = false := by
  unfold Row at h; simp [World.frozen?, h]
theorem Row.set {w : World} {g : Nat} {xs : List Int} (h : Row w g xs) (j : Nat) (c : Int) : Row (w.setCell ⟨g, j, none⟩ (.int .u8 c)) g (xs.set j c) := by
  unfold Row at h ⊢
  simp only [World.setCell, Array.getElem?_modify, if_true, h]
  simp

theorem Try.info5 : (Try.prog.info? 5).map (fun i => (i.zero, i.size, i.bytes)) = some (some (.int .u8 0), 1, 1) := by kernel_rfl

theorem Row.string {w : World} {g n : Nat} {xs : List Int} (h : Row w g xs) (hn : xs.length = n) (c : Nat) : (convert 42 9 (.slice (some ⟨g, 0, none⟩) n c)).run Try.prog w = .ok (.string (strOfNums xs)) w :=
  run_convert_bytes_arg w 42 5 Try.underlying42 Try.underlying5 g 0 n c xs hn (fun i hi => by rw [Nat.zero_add]; exact h.cell i (by omega)) 9 Try.underlying9

theorem made_row {w w' : World} {g n : Nat} {xs : List Value} (h : w'.ownsRow w.heap.size 5 1 (.slice (some ⟨g, 0, none⟩) n n) n xs) (hx : xs = (madeCells (Value.int .u8 0).cells (n * 1)).toList) : Row w' g (List.replicate n 0) := by
  obtain ⟨h1, ⟨h2, h3⟩ | ⟨g', cap, cur, h2, h4, h5, h6, h7, h8, h9⟩⟩ := h
  · cases h2
  · cases h2
    unfold Row
    rw [h5]
    have e : cur.toList = xs := by rw [← h9]; exact (List.take_of_length_le (by rw [Array.length_toList, h8]; exact Nat.le_refl _)).symm
    have e2 : cur = xs.toArray := by rw [← e]
    rw [e2, hx]
    congr 2
    simp [madeCells, Value.cells]
    have hm : (fun x : Nat => ([Value.int IntKind.u8 0][x % 1]?).getD default) = fun _ => Value.int .u8 0 := by funext x; rw [Nat.mod_one]; rfl
    rw [hm]
    have hr : List.map (fun _ : Nat => Value.int IntKind.u8 0) (List.range n) = List.replicate n (Value.int .u8 0) := List.eq_replicate_iff.2 ⟨by simp, fun b hb => by obtain ⟨_, _, rfl⟩ := List.mem_map.1 hb; rfl⟩
    rw [hr]
    exact List.toArray_replicate _ _

end Go.Proofs.Qxb6600492a
