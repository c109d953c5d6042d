/-
  TREES: the plain tree, and a tree in memory. S: the blocks that the tree may lie in.
-/
import Derived.Test.Qxb6605240aRead
namespace Go.Proofs.Qxb6605240a
open Go.RowKit Plain

/-- A node as plain data: what the law's functions read of it (a member: its name and its value). -/
structure Tr where
  kind : Int
  text : List Int
  elems : List Tr
  mems : List (ByteArray × Tr)

def Tr.leaf : Tr := ⟨0, [], [], []⟩
/-- The i-th element, the i-th member. -/
def Tr.el (T : Tr) (i : Nat) : Tr := T.elems.getD i Tr.leaf
def Tr.nm (T : Tr) (i : Nat) : ByteArray := (T.mems.getD i (ByteArray.empty, Tr.leaf)).1
def Tr.vl (T : Tr) (i : Nat) : Tr := (T.mems.getD i (ByteArray.empty, Tr.leaf)).2

/-- Four cells lie from b, o on. -/
def Four (w : World) (b o : Nat) (c0 c1 c2 c3 : Value) : Prop :=
  w.cell? ⟨b, o, none⟩ = some c0 ∧ w.cell? ⟨b, o + 1, none⟩ = some c1 ∧ w.cell? ⟨b, o + 2, none⟩ = some c2 ∧ w.cell? ⟨b, o + 3, none⟩ = some c3

/-- The bytes of a node's text. -/
def TextS (S : Nat → Prop) (w : World) (c : Value) (xs : List Int) : Prop :=
  ∃ ao cap, c = .slice ao xs.length cap ∧ xs.length ≤ cap ∧ cap ≤ maxLen ∧ (xs = [] ∨ ∃ b o, ao = some ⟨b, o, none⟩ ∧ S b ∧ HasAt w b o xs)

/-- A row of m things, each of 'size' cells; the i-th is told by P. -/
def RowS (S : Nat → Prop) (c : Value) (m size : Nat) (P : Nat → Nat → Nat → Prop) : Prop :=
  ∃ ao cap, c = .slice ao m cap ∧ m ≤ cap ∧ cap ≤ maxLen ∧ (ao = none → m = 0) ∧ (m = 0 ∨ ∃ b o, ao = some ⟨b, o, none⟩ ∧ S b ∧ ∀ i, i < m → P i b (o + i * size))

/-- The four cells c0 .. c3 are a node that reads as T. -/
def NodeS (S : Nat → Prop) : Nat → World → Value → Value → Value → Value → Tr → Prop
  | 0, _, _, _, _, _, _ => False
  | n + 1, w, c0, c1, c2, c3, T =>
    c0 = .int .u8 T.kind ∧ TextS S w c1 T.text ∧
    RowS S c2 T.elems.length 4 (fun i b o => ∃ d0 d1 d2 d3, Four w b o d0 d1 d2 d3 ∧ NodeS S n w d0 d1 d2 d3 (T.el i)) ∧
    RowS S c3 T.mems.length 7 (fun i b o => w.cell? ⟨b, o, none⟩ = some (.string (T.nm i)) ∧ (T.nm i).size ≤ maxLen ∧ (∃ ka kl kc, kl ≤ maxLen ∧ w.cell? ⟨b, o + 1, none⟩ = some (.slice ka kl kc)) ∧ (∃ q, w.cell? ⟨b, o + 2, none⟩ = some (.int .i64 q)) ∧
      ∃ d0 d1 d2 d3, Four w b (o + 3) d0 d1 d2 d3 ∧ NodeS S n w d0 d1 d2 d3 (T.vl i))

/-- A node lies at b, o. -/
def At (S : Nat → Prop) (n : Nat) (w : World) (b o : Nat) (T : Tr) : Prop := S b ∧ ∃ c0 c1 c2 c3, Four w b o c0 c1 c2 c3 ∧ NodeS S n w c0 c1 c2 c3 T

/-- w' holds in the blocks of S what w held. -/
def Same (S : Nat → Prop) (w w' : World) : Prop := ∀ b, S b → w'.heap[b]? = w.heap[b]?

theorem Same.cell {S : Nat → Prop} {w w' : World} (h : Same S w w') {b o : Nat} (hb : S b) : w'.cell? ⟨b, o, none⟩ = w.cell? ⟨b, o, none⟩ := World.cell?_of_block (w := w) (h b hb)

theorem Four.carry {S : Nat → Prop} {w w' : World} (h : Same S w w') {b o : Nat} (hb : S b) {c0 c1 c2 c3 : Value} (hf : Four w b o c0 c1 c2 c3) : Four w' b o c0 c1 c2 c3 :=
  ⟨(h.cell hb).trans hf.1, (h.cell hb).trans hf.2.1, (h.cell hb).trans hf.2.2.1, (h.cell hb).trans hf.2.2.2⟩

theorem TextS.carry {S S' : Nat → Prop} {w w' : World} (h : Same S w w') (hS : ∀ b, S b → S' b) {c : Value} {xs : List Int} (ht : TextS S w c xs) : TextS S' w' c xs := by
  obtain ⟨ao, cap, rfl, k1, k2, h0 | ⟨b, o, rfl, hb, hh⟩⟩ := ht
  · exact ⟨ao, cap, rfl, k1, k2, .inl h0⟩
  · exact ⟨_, cap, rfl, k1, k2, .inr ⟨b, o, rfl, hS b hb, fun j hj => (h.cell hb).trans (hh j hj)⟩⟩

theorem RowS.imp {S S' : Nat → Prop} {c : Value} {m size : Nat} {P Q : Nat → Nat → Nat → Prop} (h : RowS S c m size P) (hS : ∀ b, S b → S' b) (hPQ : ∀ i b o, S b → P i b o → Q i b o) : RowS S' c m size Q := by
  obtain ⟨ao, cap, rfl, h1, h2, h3, h0 | ⟨b, o, rfl, hb, hh⟩⟩ := h
  · exact ⟨ao, cap, rfl, h1, h2, h3, .inl h0⟩
  · exact ⟨_, cap, rfl, h1, h2, h3, .inr ⟨b, o, rfl, hS b hb, fun i hi => hPQ i b _ hb (hh i hi)⟩⟩

theorem NodeS.carry {S S' : Nat → Prop} {w w' : World} (h : Same S w w') (hS : ∀ b, S b → S' b) : ∀ {n : Nat} {c0 c1 c2 c3 : Value} {T : Tr}, NodeS S n w c0 c1 c2 c3 T → NodeS S' n w' c0 c1 c2 c3 T := by
  intro n
  induction n with
  | zero => intro c0 c1 c2 c3 T hn; exact hn.elim
  | succ n ih =>
    intro c0 c1 c2 c3 T hn
    obtain ⟨h1, h2, h3, h4⟩ := hn
    refine ⟨h1, h2.carry h hS, h3.imp hS fun i b o hb hp => ?_, h4.imp hS fun i b o hb hp => ?_⟩
    · obtain ⟨d0, d1, d2, d3, hf, hd⟩ := hp
      exact ⟨d0, d1, d2, d3, hf.carry h hb, ih hd⟩
    · obtain ⟨k1, k2, ⟨ka, kl, kc, k3, k4⟩, ⟨q, k5⟩, d0, d1, d2, d3, hf, hd⟩ := hp
      exact ⟨(h.cell hb).trans k1, k2, ⟨ka, kl, kc, k3, (h.cell hb).trans k4⟩, ⟨q, (h.cell hb).trans k5⟩, d0, d1, d2, d3, hf.carry h hb, ih hd⟩

theorem Same.refl (S : Nat → Prop) (w : World) : Same S w w := fun _ _ => rfl
theorem NodeS.mono {S S' : Nat → Prop} {w : World} (hS : ∀ b, S b → S' b) {n : Nat} {c0 c1 c2 c3 : Value} {T : Tr} (h : NodeS S n w c0 c1 c2 c3 T) : NodeS S' n w c0 c1 c2 c3 T := NodeS.carry (Same.refl S w) hS h
theorem At.carry {S S' : Nat → Prop} {w w' : World} (h : Same S w w') (hS : ∀ b, S b → S' b) {n b o : Nat} {T : Tr} (ha : At S n w b o T) : At S' n w' b o T := by
  obtain ⟨hb, c0, c1, c2, c3, hf, hn⟩ := ha
  exact ⟨hS b hb, c0, c1, c2, c3, hf.carry h hb, hn.carry h hS⟩

theorem Below.same_lt {B : Nat} {w w' : World} (h : Below B w w') : Same (· < B) w w' := fun b hb => h.block b hb
theorem At.below {B n b o : Nat} {w w' : World} {T : Tr} (ha : At (· < B) n w b o T) (h : Below B w w') : At (· < B) n w' b o T := ha.carry (Below.same_lt h) (fun _ h => h)

end Go.Proofs.Qxb6605240a
