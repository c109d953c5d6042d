/-
  Blocks of known cells: structs in memory that the call itself laid.
-/
import Derived.Test.Qxb6605240aDom
namespace Go.Proofs.Qxb6605240a
open Go.RowKit Plain

/-- Block b holds the cells cs (of type t); none is frozen. -/
def Blk (w : World) (b : Nat) (cs : List Value) (t : TypeId) : Prop := w.heap[b]? = some (.cells cs.toArray t (0, 0))

theorem Blk.lt {w : World} {b : Nat} {cs : List Value} {t : TypeId} (h : Blk w b cs t) : b < w.heap.size := by
  unfold Blk at h
  exact (Array.getElem?_eq_some_iff.1 h).1
theorem Blk.cell {w : World} {b : Nat} {cs : List Value} {t : TypeId} (h : Blk w b cs t) (j : Nat) : w.cell? ⟨b, j, none⟩ = cs[j]? := by
  unfold Blk at h; simp [World.cell?, h]
theorem Blk.free {w : World} {b : Nat} {cs : List Value} {t : TypeId} (h : Blk w b cs t) (j : Nat) : w.frozen? ⟨b, j, none⟩ = false := by
  unfold Blk at h; simp [World.frozen?, h]
theorem Blk.set {w : World} {b : Nat} {cs : List Value} {t : TypeId} (h : Blk w b cs t) (j : Nat) (v : Value) : Blk (w.setCell ⟨b, j, none⟩ v) b (cs.set j v) t := by
  unfold Blk at h ⊢
  simp only [World.setCell, Array.getElem?_modify, if_true, h]
  simp
theorem Blk.other {w : World} {b : Nat} {cs : List Value} {t : TypeId} (h : Blk w b cs t) {a : Addr} (v : Value) (hne : b ≠ a.block) : Blk (w.setCell a v) b cs t := by
  unfold Blk at h ⊢
  rw [Below.heap_setCell _ _ _ _ hne]; exact h
theorem Blk.carry {w w' : World} {b : Nat} {cs : List Value} {t : TypeId} (h : Blk w b cs t) (hb : w'.heap[b]? = w.heap[b]?) : Blk w' b cs t := by
  unfold Blk at h ⊢; rw [hb]; exact h
theorem Blk.below {B : Nat} {w w' : World} {b : Nat} {cs : List Value} {t : TypeId} (h : Blk w b cs t) (hB : Below B w w') (hb : b < B) : Blk w' b cs t := h.carry (hB.block b hb)
theorem Blk.new (w : World) (cs : List Value) (t : TypeId) : Blk (w.alloc (.cells cs.toArray t)) w.heap.size cs t := heap_alloc_new w _
theorem Blk.past {w : World} {b : Nat} {cs : List Value} {t : TypeId} (h : Blk w b cs t) (o : Obj) : Blk (w.alloc o) b cs t := by
  unfold Blk at h ⊢
  rw [Below.heap_alloc _ _ _ (Blk.lt h)]; exact h

end Go.Proofs.Qxb6605240a
