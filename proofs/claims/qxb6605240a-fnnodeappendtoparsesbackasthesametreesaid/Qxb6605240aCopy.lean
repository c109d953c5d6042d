/-
  Copies of a tree: the laws that zzToJ and zzNodeOf share.
-/
import Derived.Test.Qxb6605240aBlk
import Derived.Deep.RegionWith
namespace Go.Proofs.Qxb6605240a
open Go.RowKit Plain

/-- Old blocks, or new ones from lo to hi. -/
def Rg (B lo hi b : Nat) : Prop := b < B ∨ (lo ≤ b ∧ b < hi)

def ToJSaid (n : Nat) : Prop := ∀ (T : Tr) (B b o : Nat) (w : World), At (· < B) n w b o T → B ≤ w.heap.size → wt n T ≤ 1048576 →
  Calls Try.prog 16 #[.pointer (some ⟨b, o, none⟩)] w fun e w' => ∃ a1 k1 a2 k2 a3 k3, e = .returned (.agg #[.int .u8 T.kind, .slice a1 T.text.length k1, .slice a2 T.elems.length k2, .slice a3 T.mems.length k3]) ∧ NodeS (Rg B w.heap.size w'.heap.size) n w' (.int .u8 T.kind) (.slice a1 T.text.length k1) (.slice a2 T.elems.length k2) (.slice a3 T.mems.length k3) T ∧ Below w.heap.size w w'

theorem Try.info41 : (Try.prog.info? 41).map (fun i => (i.zero, i.size, i.bytes)) = some (some (.agg #[.int .u8 0, .slice none 0 0, .slice none 0 0, .slice none 0 0]), 4, 80) := by kernel_rfl
theorem Try.info57 : (Try.prog.info? 57).map (fun i => (i.zero, i.size, i.bytes)) = some (some (.agg #[.string ByteArray.empty, .slice none 0 0, .int .i64 0, .int .u8 0, .slice none 0 0, .slice none 0 0, .slice none 0 0]), 7, 128) := by kernel_rfl

theorem made_blk {w' : World} {B g m sz : Nat} {t : TypeId} {z : Array Value} (h : w'.ownsRow B t sz (.slice (some ⟨g, 0, none⟩) m m) m (madeCells z (m * sz)).toList) : ∃ cur : List Value, Blk w' g cur t ∧ cur.length = m * sz := by
  obtain ⟨h1, ⟨h2, h3⟩ | ⟨g', cap, cur, h2, h4, h5, h6, h7, h8, h9⟩⟩ := h
  · cases h2
  · cases h2
    exact ⟨cur.toList, by unfold Blk; simpa using h5, by simpa using h8⟩

theorem Same.drewN' (S : Nat → Prop) (w : World) (m : Nat) : Same S w (w.drewN m) := fun _ _ => rfl

/-- The elements copied so far: k of them, in block g. -/
def Elems (n : Nat) (T : Tr) (B M g t k : Nat) (w : World) : Prop :=
  ∃ cur : List Value, Blk w g cur t ∧ cur.length = T.elems.length * 4 ∧ ∀ i, i < k → ∃ d0 d1 d2 d3, cur[i * 4]? = some d0 ∧ cur[i * 4 + 1]? = some d1 ∧ cur[i * 4 + 2]? = some d2 ∧ cur[i * 4 + 3]? = some d3 ∧ NodeS (Rg B M w.heap.size) n w d0 d1 d2 d3 (T.el i)

theorem Blk.other4 {w : World} {b g p : Nat} {cs : List Value} {t : TypeId} (h : Blk w b cs t) (c0 c1 c2 c3 : Value) (hne : b ≠ g) :
    Blk ((((w.setCell ⟨g, p, none⟩ c0).setCell ⟨g, p + 1, none⟩ c1).setCell ⟨g, p + 2, none⟩ c2).setCell ⟨g, p + 3, none⟩ c3) b cs t :=
  (((h.other _ hne).other _ hne).other _ hne).other _ hne
theorem Below.set4 {B : Nat} {a w : World} (h : Below B a w) {g p : Nat} (hg : B ≤ g) (c0 c1 c2 c3 : Value) :
    Below B a ((((w.setCell ⟨g, p, none⟩ c0).setCell ⟨g, p + 1, none⟩ c1).setCell ⟨g, p + 2, none⟩ c2).setCell ⟨g, p + 3, none⟩ c3) :=
  (((h.setCell (p := ⟨g, p, none⟩) hg c0).setCell (p := ⟨g, p + 1, none⟩) hg c1).setCell (p := ⟨g, p + 2, none⟩) hg c2).setCell (p := ⟨g, p + 3, none⟩) hg c3
theorem Same.set4 {S : Nat → Prop} {w : World} {g p : Nat} (hg : ¬ S g) (c0 c1 c2 c3 : Value) :
    Same S w ((((w.setCell ⟨g, p, none⟩ c0).setCell ⟨g, p + 1, none⟩ c1).setCell ⟨g, p + 2, none⟩ c2).setCell ⟨g, p + 3, none⟩ c3) := fun b hb => by
  have hne : b ≠ g := fun e => hg (e ▸ hb)
  rw [Below.heap_setCell _ _ _ _ hne, Below.heap_setCell _ _ _ _ hne, Below.heap_setCell _ _ _ _ hne, Below.heap_setCell _ _ _ _ hne]
theorem size_set4 (w : World) (g p : Nat) (c0 c1 c2 c3 : Value) : ((((w.setCell ⟨g, p, none⟩ c0).setCell ⟨g, p + 1, none⟩ c1).setCell ⟨g, p + 2, none⟩ c2).setCell ⟨g, p + 3, none⟩ c3).heap.size = w.heap.size := by simp [World.setCell]

theorem of_drew {w w2 : World} (h : Below w.drew.heap.size w.drew w2) : Below w.heap.size w w2 := ⟨h.os, h.tape, h.output, h.size, h.block⟩

theorem elems_step {n : Nat} {T : Tr} {B M g t k : Nat} {wr w2 : World} {cur : List Value} {c0 c1 c2 c3 : Value} (bg2 : Blk w2 g cur t) (hcl : cur.length = T.elems.length * 4) (hk : k < T.elems.length)
    (hE : ∀ i, i < k → ∃ d0 d1 d2 d3, cur[i * 4]? = some d0 ∧ cur[i * 4 + 1]? = some d1 ∧ cur[i * 4 + 2]? = some d2 ∧ cur[i * 4 + 3]? = some d3 ∧ NodeS (Rg B M wr.heap.size) n wr d0 d1 d2 d3 (T.el i))
    (hb : Below wr.heap.size wr w2) (hN : NodeS (Rg B wr.heap.size w2.heap.size) n w2 c0 c1 c2 c3 (T.el k)) (hM : M ≤ wr.heap.size) (hgM : g < M) (hBg : B ≤ g) :
    Elems n T B M g t (k + 1) ((((w2.setCell ⟨g, k * 4, none⟩ c0).setCell ⟨g, k * 4 + 1, none⟩ c1).setCell ⟨g, k * 4 + 2, none⟩ c2).setCell ⟨g, k * 4 + 3, none⟩ c3) := by
  have hs := hb.size
  have hng : ¬ Rg B M w2.heap.size g := by unfold Rg; omega
  refine ⟨_, (((bg2.set (k * 4) c0).set (k * 4 + 1) c1).set (k * 4 + 2) c2).set (k * 4 + 3) c3, by simp only [List.length_set]; exact hcl, fun i hi => ?_⟩
  rw [size_set4]
  by_cases e : i = k
  · subst e
    refine ⟨c0, c1, c2, c3, ?_, ?_, ?_, ?_, ?_⟩
    · simp [List.getElem?_set, hcl]; omega
    · simp [List.getElem?_set, hcl]; omega
    · simp [List.getElem?_set, hcl]; omega
    · simp [List.getElem?_set, hcl]; omega
    · exact (hN.mono (S' := Rg B M w2.heap.size) (fun b h => by unfold Rg at h ⊢; omega)).carry (Same.set4 hng c0 c1 c2 c3) (fun _ h => h)
  · obtain ⟨d0, d1, d2, d3, e0, e1, e2, e3, hd⟩ := hE i (by omega)
    refine ⟨d0, d1, d2, d3, ?_, ?_, ?_, ?_, ?_⟩
    · rw [List.getElem?_set, if_neg (by omega), List.getElem?_set, if_neg (by omega), List.getElem?_set, if_neg (by omega), List.getElem?_set, if_neg (by omega)]; exact e0
    · rw [List.getElem?_set, if_neg (by omega), List.getElem?_set, if_neg (by omega), List.getElem?_set, if_neg (by omega), List.getElem?_set, if_neg (by omega)]; exact e1
    · rw [List.getElem?_set, if_neg (by omega), List.getElem?_set, if_neg (by omega), List.getElem?_set, if_neg (by omega), List.getElem?_set, if_neg (by omega)]; exact e2
    · rw [List.getElem?_set, if_neg (by omega), List.getElem?_set, if_neg (by omega), List.getElem?_set, if_neg (by omega), List.getElem?_set, if_neg (by omega)]; exact e3
    · have h1 : NodeS (Rg B M w2.heap.size) n w2 d0 d1 d2 d3 (T.el i) := hd.carry (fun b h => hb.block b (by unfold Rg at h; omega)) (fun b h => by unfold Rg at h ⊢; omega)
      exact h1.carry (Same.set4 hng c0 c1 c2 c3) (fun _ h => h)

/-- Elements as a row. -/
def ElP (n : Nat) (T : Tr) (S : Nat → Prop) (w : World) (i b o : Nat) : Prop := ∃ d0 d1 d2 d3, Four w b o d0 d1 d2 d3 ∧ NodeS S n w d0 d1 d2 d3 (T.el i)
/-- Members as a row. -/
def MmP (n : Nat) (T : Tr) (S : Nat → Prop) (w : World) (i b o : Nat) : Prop :=
  w.cell? ⟨b, o, none⟩ = some (.string (T.nm i)) ∧ (T.nm i).size ≤ maxLen ∧ (∃ ka kl kc, kl ≤ maxLen ∧ w.cell? ⟨b, o + 1, none⟩ = some (.slice ka kl kc)) ∧ (∃ q, w.cell? ⟨b, o + 2, none⟩ = some (.int .i64 q)) ∧
      ∃ d0 d1 d2 d3, Four w b (o + 3) d0 d1 d2 d3 ∧ NodeS S n w d0 d1 d2 d3 (T.vl i)

theorem ElP.carry {n : Nat} {T : Tr} {S S' : Nat → Prop} {w w' : World} (h : Same S w w') (hS : ∀ b, S b → S' b) {i b o : Nat} (hb : S b) (hp : ElP n T S w i b o) : ElP n T S' w' i b o := by
  obtain ⟨d0, d1, d2, d3, hf, hd⟩ := hp
  exact ⟨d0, d1, d2, d3, hf.carry h hb, hd.carry h hS⟩
theorem MmP.carry {n : Nat} {T : Tr} {S S' : Nat → Prop} {w w' : World} (h : Same S w w') (hS : ∀ b, S b → S' b) {i b o : Nat} (hb : S b) (hp : MmP n T S w i b o) : MmP n T S' w' i b o := by
  obtain ⟨k1, k2, ⟨ka, kl, kc, k3, k4⟩, ⟨q, k5⟩, d0, d1, d2, d3, hf, hd⟩ := hp
  exact ⟨(h.cell hb).trans k1, k2, ⟨ka, kl, kc, k3, (h.cell hb).trans k4⟩, ⟨q, (h.cell hb).trans k5⟩, d0, d1, d2, d3, hf.carry h hb, hd.carry h hS⟩

theorem row_nil (S : Nat → Prop) (size : Nat) (P : Nat → Nat → Nat → Prop) (m : Nat) (h : m = 0) : RowS S (.slice none m 0) m size P := by
  subst h
  exact ⟨none, 0, rfl, Nat.le_refl _, Nat.zero_le _, fun _ => rfl, .inl rfl⟩

theorem row_elems {n : Nat} {T : Tr} {B M g t lo : Nat} {w : World} (h : Elems n T B M g t T.elems.length w) (hlo : lo ≤ g) (hg : g < M) (hm : T.elems.length ≤ maxLen) :
    RowS (Rg B lo w.heap.size) (.slice (some ⟨g, 0, none⟩) T.elems.length T.elems.length) T.elems.length 4 (ElP n T (Rg B lo w.heap.size) w) := by
  obtain ⟨cur, hb, hl, hE⟩ := h
  have hlt := hb.lt
  refine ⟨_, _, rfl, Nat.le_refl _, hm, fun e => by (cases e), .inr ⟨g, 0, rfl, by unfold Rg; omega, fun i hi => ?_⟩⟩
  obtain ⟨d0, d1, d2, d3, e0, e1, e2, e3, hd⟩ := hE i hi
  refine ⟨d0, d1, d2, d3, ⟨?_, ?_, ?_, ?_⟩, hd.mono (fun b h => by unfold Rg at h ⊢; omega)⟩
  · rw [Nat.zero_add, hb.cell]; exact e0
  · rw [Nat.zero_add, hb.cell]; exact e1
  · rw [Nat.zero_add, hb.cell]; exact e2
  · rw [Nat.zero_add, hb.cell]; exact e3

/-- The members copied so far: k of them, in block g. -/
def Mems (n : Nat) (T : Tr) (B M g t k : Nat) (w : World) : Prop :=
  ∃ cur : List Value, Blk w g cur t ∧ cur.length = T.mems.length * 7 ∧ ∀ i, i < k → cur[i * 7]? = some (.string (T.nm i)) ∧ (T.nm i).size ≤ maxLen ∧ (∃ ka kl kc, kl ≤ maxLen ∧ cur[i * 7 + 1]? = some (.slice ka kl kc)) ∧ (∃ q, cur[i * 7 + 2]? = some (.int .i64 q)) ∧
    ∃ d0 d1 d2 d3, cur[i * 7 + 3]? = some d0 ∧ cur[i * 7 + 3 + 1]? = some d1 ∧ cur[i * 7 + 3 + 2]? = some d2 ∧ cur[i * 7 + 3 + 3]? = some d3 ∧ NodeS (Rg B M w.heap.size) n w d0 d1 d2 d3 (T.vl i)

theorem row_mems {n : Nat} {T : Tr} {B M g t lo : Nat} {w : World} (h : Mems n T B M g t T.mems.length w) (hlo : lo ≤ g) (hg : g < M) (hm : T.mems.length ≤ maxLen) :
    RowS (Rg B lo w.heap.size) (.slice (some ⟨g, 0, none⟩) T.mems.length T.mems.length) T.mems.length 7 (MmP n T (Rg B lo w.heap.size) w) := by
  obtain ⟨cur, hb, hl, hE⟩ := h
  have hlt := hb.lt
  refine ⟨_, _, rfl, Nat.le_refl _, hm, fun e => by (cases e), .inr ⟨g, 0, rfl, by unfold Rg; omega, fun i hi => ?_⟩⟩
  obtain ⟨k1, k2, ⟨ka, kl, kc, k3, k4⟩, ⟨q, k5⟩, d0, d1, d2, d3, e0, e1, e2, e3, hd⟩ := hE i hi
  rw [Nat.zero_add]
  exact ⟨(hb.cell _).trans k1, k2, ⟨ka, kl, kc, k3, (hb.cell _).trans k4⟩, ⟨q, (hb.cell _).trans k5⟩, d0, d1, d2, d3, ⟨(hb.cell _).trans e0, (hb.cell _).trans e1, (hb.cell _).trans e2, (hb.cell _).trans e3⟩, hd.mono (fun b h => by unfold Rg at h ⊢; omega)⟩

theorem node_end {n : Nat} {T : Tr} {B lo hi hi2 g p : Nat} {w wE : World} {ta : Option Addr} {tcap : Nat} {v2 v3 x0 x1 x2 x3 : Value} (hT : TextS (· < B) w (.slice ta T.text.length tcap) T.text) (hnx : Below w.heap.size w wE) (hB : B ≤ w.heap.size)
    (hRE : RowS (Rg B lo hi) v2 T.elems.length 4 (ElP n T (Rg B lo hi) wE)) (hRM : RowS (Rg B lo hi2) v3 T.mems.length 7 (MmP n T (Rg B lo hi2) wE)) (h1 : hi ≤ wE.heap.size) (h2 : hi2 ≤ wE.heap.size) (hg : B ≤ g ∧ g < lo) (hlo : w.heap.size ≤ lo) :
    NodeS (Rg B w.heap.size wE.heap.size) (n + 1) ((((wE.setCell ⟨g, p, none⟩ x0).setCell ⟨g, p + 1, none⟩ x1).setCell ⟨g, p + 2, none⟩ x2).setCell ⟨g, p + 3, none⟩ x3) (.int .u8 T.kind) (.slice ta T.text.length tcap) v2 v3 T := by
  have n1 : ¬ Rg B lo hi g := by unfold Rg; omega
  have n2 : ¬ Rg B lo hi2 g := by unfold Rg; omega
  have n3 : ¬ (g < B) := by omega
  refine ⟨rfl, ?_, ?_, ?_⟩
  · exact ((hT.carry (Below.same_lt (hnx.mono hB)) (fun _ h => h)).carry (Same.set4 (S := (· < B)) n3 x0 x1 x2 x3) (fun b h => by unfold Rg; omega))
  · exact hRE.imp (fun b h => by unfold Rg at h ⊢; omega) (fun i b o hb hp => hp.carry (Same.set4 n1 x0 x1 x2 x3) (fun b h => by unfold Rg at h ⊢; omega) hb)
  · exact hRM.imp (fun b h => by unfold Rg at h ⊢; omega) (fun i b o hb hp => hp.carry (Same.set4 n2 x0 x1 x2 x3) (fun b h => by unfold Rg at h ⊢; omega) hb)

def set7 (w : World) (g p : Nat) (c0 c1 c2 c3 c4 c5 c6 : Value) : World :=
  ((((((w.setCell ⟨g, p, none⟩ c0).setCell ⟨g, p + 1, none⟩ c1).setCell ⟨g, p + 2, none⟩ c2).setCell ⟨g, p + 3, none⟩ c3).setCell ⟨g, p + 4, none⟩ c4).setCell ⟨g, p + 5, none⟩ c5).setCell ⟨g, p + 6, none⟩ c6

theorem Blk.other7 {w : World} {b g p : Nat} {cs : List Value} {t : TypeId} (h : Blk w b cs t) (c0 c1 c2 c3 c4 c5 c6 : Value) (hne : b ≠ g) : Blk (set7 w g p c0 c1 c2 c3 c4 c5 c6) b cs t :=
  ((((((h.other _ hne).other _ hne).other _ hne).other _ hne).other _ hne).other _ hne).other _ hne
theorem Below.set7 {B : Nat} {a w : World} (h : Below B a w) {g p : Nat} (hg : B ≤ g) (c0 c1 c2 c3 c4 c5 c6 : Value) : Below B a (set7 w g p c0 c1 c2 c3 c4 c5 c6) :=
  ((((((h.setCell (p := ⟨g, p, none⟩) hg c0).setCell (p := ⟨g, p + 1, none⟩) hg c1).setCell (p := ⟨g, p + 2, none⟩) hg c2).setCell (p := ⟨g, p + 3, none⟩) hg c3).setCell (p := ⟨g, p + 4, none⟩) hg c4).setCell (p := ⟨g, p + 5, none⟩) hg c5).setCell (p := ⟨g, p + 6, none⟩) hg c6
theorem Same.set7 {S : Nat → Prop} {w : World} {g p : Nat} (hg : ¬ S g) (c0 c1 c2 c3 c4 c5 c6 : Value) : Same S w (set7 w g p c0 c1 c2 c3 c4 c5 c6) := fun b hb => by
  have hne : b ≠ g := fun e => hg (e ▸ hb)
  unfold Qxb6605240a.set7
  rw [Below.heap_setCell _ _ _ _ hne, Below.heap_setCell _ _ _ _ hne, Below.heap_setCell _ _ _ _ hne, Below.heap_setCell _ _ _ _ hne, Below.heap_setCell _ _ _ _ hne, Below.heap_setCell _ _ _ _ hne, Below.heap_setCell _ _ _ _ hne]
theorem size_set7 (w : World) (g p : Nat) (c0 c1 c2 c3 c4 c5 c6 : Value) : (set7 w g p c0 c1 c2 c3 c4 c5 c6).heap.size = w.heap.size := by simp [set7, World.setCell]

theorem set7_get (cur : List Value) (p : Nat) (c0 c1 c2 c3 c4 c5 c6 : Value) (hp : p + 6 < cur.length) (j : Nat) :
    (((((((cur.set p c0).set (p + 1) c1).set (p + 2) c2).set (p + 3) c3).set (p + 4) c4).set (p + 5) c5).set (p + 6) c6)[j]? =
      if j = p then some c0 else if j = p + 1 then some c1 else if j = p + 2 then some c2 else if j = p + 3 then some c3 else if j = p + 4 then some c4 else if j = p + 5 then some c5 else if j = p + 6 then some c6 else cur[j]? := by
  by_cases h6 : j = p + 6
  · subst h6
    rw [List.getElem?_set_self (by first | omega | (simp only [List.length_set]; omega))]
    rw [if_neg (by omega), if_neg (by omega), if_neg (by omega), if_neg (by omega), if_neg (by omega), if_neg (by omega), if_pos rfl]
  rw [List.getElem?_set_ne (fun h => h6 h.symm)]
  by_cases h5 : j = p + 5
  · subst h5
    rw [List.getElem?_set_self (by first | omega | (simp only [List.length_set]; omega))]
    rw [if_neg (by omega), if_neg (by omega), if_neg (by omega), if_neg (by omega), if_neg (by omega), if_pos rfl]
  rw [List.getElem?_set_ne (fun h => h5 h.symm)]
  by_cases h4 : j = p + 4
  · subst h4
    rw [List.getElem?_set_self (by first | omega | (simp only [List.length_set]; omega))]
    rw [if_neg (by omega), if_neg (by omega), if_neg (by omega), if_neg (by omega), if_pos rfl]
  rw [List.getElem?_set_ne (fun h => h4 h.symm)]
  by_cases h3 : j = p + 3
  · subst h3
    rw [List.getElem?_set_self (by first | omega | (simp only [List.length_set]; omega))]
    rw [if_neg (by omega), if_neg (by omega), if_neg (by omega), if_pos rfl]
  rw [List.getElem?_set_ne (fun h => h3 h.symm)]
  by_cases h2 : j = p + 2
  · subst h2
    rw [List.getElem?_set_self (by first | omega | (simp only [List.length_set]; omega))]
    rw [if_neg (by omega), if_neg (by omega), if_pos rfl]
  rw [List.getElem?_set_ne (fun h => h2 h.symm)]
  by_cases h1 : j = p + 1
  · subst h1
    rw [List.getElem?_set_self (by first | omega | (simp only [List.length_set]; omega))]
    rw [if_neg (by omega), if_pos rfl]
  rw [List.getElem?_set_ne (fun h => h1 h.symm)]
  by_cases h0 : j = p
  · subst h0
    rw [List.getElem?_set_self (by first | omega | (simp only [List.length_set]; omega))]
    rw [if_pos rfl]
  rw [List.getElem?_set_ne (fun h => h0 h.symm)]
  rw [if_neg h0, if_neg h1, if_neg h2, if_neg h3, if_neg h4, if_neg h5, if_neg h6]

theorem mems_step {n : Nat} {T : Tr} {B M g t k kl : Nat} {ka : Option Addr} {kc : Nat} {q : Int} {wr w3 : World} {c0 c1 c2 c3 : Value} (hE : Mems n T B M g t k wr) (hk : k < T.mems.length)
    (hb : Below wr.heap.size wr w3) (hN : NodeS (Rg B wr.heap.size w3.heap.size) n w3 c0 c1 c2 c3 (T.vl k)) (hnm : (T.nm k).size ≤ maxLen) (hkl : kl ≤ maxLen) (hM : M ≤ wr.heap.size) (hgM : g < M) (hBg : B ≤ g) :
    Mems n T B M g t (k + 1) (set7 w3 g (k * 7) (.string (T.nm k)) (.slice ka kl kc) (.int .i64 q) c0 c1 c2 c3) := by
  obtain ⟨cur, bg, hcl, hE⟩ := hE
  have hs := hb.size
  have hng : ¬ Rg B M w3.heap.size g := by unfold Rg; omega
  have bg3 := bg.below hb (by omega)
  refine ⟨_, ((((((bg3.set (k * 7) _).set (k * 7 + 1) _).set (k * 7 + 2) _).set (k * 7 + 3) c0).set (k * 7 + 4) c1).set (k * 7 + 5) c2).set (k * 7 + 6) c3, by simp only [List.length_set]; exact hcl, fun i hi => ?_⟩
  rw [size_set7]
  have hp : k * 7 + 6 < cur.length := by omega
  simp only [set7_get cur (k * 7) _ _ _ c0 c1 c2 c3 hp]
  by_cases e : i = k
  · subst e
    refine ⟨by rw [if_pos rfl], hnm, ⟨ka, kl, kc, hkl, by rw [if_neg (by omega), if_pos rfl]⟩, ⟨q, by rw [if_neg (by omega), if_neg (by omega), if_pos rfl]⟩, c0, c1, c2, c3, ?_, ?_, ?_, ?_, ?_⟩
    · rw [if_neg (by omega), if_neg (by omega), if_neg (by omega), if_pos rfl]
    · rw [if_neg (by omega), if_neg (by omega), if_neg (by omega), if_neg (by omega), if_pos (by omega)]
    · rw [if_neg (by omega), if_neg (by omega), if_neg (by omega), if_neg (by omega), if_neg (by omega), if_pos (by omega)]
    · rw [if_neg (by omega), if_neg (by omega), if_neg (by omega), if_neg (by omega), if_neg (by omega), if_neg (by omega), if_pos (by omega)]
    · exact (hN.mono (S' := Rg B M w3.heap.size) (fun b h => by unfold Rg at h ⊢; omega)).carry (Same.set7 hng _ _ _ c0 c1 c2 c3) (fun _ h => h)
  · obtain ⟨k1, k2, ⟨ka', kl', kc', k3, k4⟩, ⟨q', k5⟩, d0, d1, d2, d3, e0, e1, e2, e3, hd⟩ := hE i (by omega)
    have hne : ∀ j j', j < 7 → j' < 7 → i * 7 + j ≠ k * 7 + j' := fun j j' h1 h2 => by omega
    refine ⟨?_, k2, ⟨ka', kl', kc', k3, ?_⟩, ⟨q', ?_⟩, d0, d1, d2, d3, ?_, ?_, ?_, ?_, ?_⟩
    · rw [if_neg (by omega), if_neg (by omega), if_neg (by omega), if_neg (by omega), if_neg (by omega), if_neg (by omega), if_neg (by omega)]; exact k1
    · rw [if_neg (by omega), if_neg (by omega), if_neg (by omega), if_neg (by omega), if_neg (by omega), if_neg (by omega), if_neg (by omega)]; exact k4
    · rw [if_neg (by omega), if_neg (by omega), if_neg (by omega), if_neg (by omega), if_neg (by omega), if_neg (by omega), if_neg (by omega)]; exact k5
    · rw [if_neg (by omega), if_neg (by omega), if_neg (by omega), if_neg (by omega), if_neg (by omega), if_neg (by omega), if_neg (by omega)]; exact e0
    · rw [if_neg (by omega), if_neg (by omega), if_neg (by omega), if_neg (by omega), if_neg (by omega), if_neg (by omega), if_neg (by omega)]; exact e1
    · rw [if_neg (by omega), if_neg (by omega), if_neg (by omega), if_neg (by omega), if_neg (by omega), if_neg (by omega), if_neg (by omega)]; exact e2
    · rw [if_neg (by omega), if_neg (by omega), if_neg (by omega), if_neg (by omega), if_neg (by omega), if_neg (by omega), if_neg (by omega)]; exact e3
    · have h1 : NodeS (Rg B M w3.heap.size) n w3 d0 d1 d2 d3 (T.vl i) := hd.carry (fun b h => hb.block b (by unfold Rg at h; omega)) (fun b h => by unfold Rg at h ⊢; omega)
      exact h1.carry (Same.set7 hng _ _ _ c0 c1 c2 c3) (fun _ h => h)

theorem Mems.drew {n : Nat} {T : Tr} {B M g t k : Nat} {w : World} (h : Mems n T B M g t k w) : Mems n T B M g t k w.drew := by
  obtain ⟨cur, bg, hcl, hE⟩ := h
  refine ⟨cur, bg, hcl, fun i hi => ?_⟩
  obtain ⟨k1, k2, k3, k5, d0, d1, d2, d3, e0, e1, e2, e3, hd⟩ := hE i hi
  exact ⟨k1, k2, k3, k5, d0, d1, d2, d3, e0, e1, e2, e3, NodeS.carry (S := Rg B M w.heap.size) (S' := Rg B M w.drew.heap.size) (w := w) (w' := w.drew) (fun _ _ => rfl) (fun _ h => h) hd⟩

theorem same_new {S : Nat → Prop} {w : World} (o : Obj) (h : ∀ b, S b → b < w.heap.size) : Same S w (w.alloc o) := fun b hb => Below.heap_alloc w o b (h b hb)

end Go.Proofs.Qxb6605240a
