/-
  (*node).appendTo walked: empty arrays and objects, scalars; all of it.
-/
import Derived.Test.Qxb6605240aAptObj
namespace Go.Proofs.Qxb6605240a
open Go.RowKit Plain

set_option maxHeartbeats 1000000 in
theorem apt_none (T : Tr) (B b o cap : Nat) (ao : Option Addr) (c1 c2 c3 v : Value) (xs : List Int) (w : World) (q1 q2 : Int)
    (hk : (T.kind = 1 ∧ c2 = .slice ao 0 cap ∧ q1 = 91 ∧ q2 = 93) ∨ (T.kind = 2 ∧ c3 = .slice ao 0 cap ∧ q1 = 123 ∧ q2 = 125)) (hbB : b < B) (hf : Four w b o (.int .u8 T.kind) c1 c2 c3)
    (hB : B ≤ w.heap.size) (hx : xs.length ≤ 1073741824) (hD : Dst B w v xs) :
    Calls Try.prog 23 #[.pointer (some ⟨b, o, none⟩), v] w fun e w' => ∃ v', e = .returned v' ∧ OwnB B w' v' (xs ++ [q1] ++ [q2]) ∧ Below B w w' := by
  obtain ⟨f0, f1, f2, f3⟩ := hf
  rcases hk with ⟨hk, rfl, rfl, rfl⟩ | ⟨hk, rfl, rfl, rfl⟩
  · have hk1 : (T.kind == 1) = true := by simp [hk]
    clear hk f1 f3
    go_enter Try.func23, Try.ntmps23
    go_wp2_with (at_builtin; refine wpList_append_dst _ rfl _ _ rfl B v xs rfl (hD.alloc _) ⟨w.heap.size, 0, none⟩ 1 1 [91] rfl rfl ?c1 (by decide) ?c2 ?c3 ?_)
    case c1 => first | exact news_at w [91] | exact fun _ _ h => h
    case c2 => omega
    case c3 => first | omega | (simp; omega)
    intro v1 w1 ho1 hb1
    have hB1 : Below B w w1 := ((Below.refl B w).alloc hB _).trans hb1
    have hs1 := hB1.size
    have g2 : w1.cell? ⟨b, o + 2, none⟩ = some (.slice ao 0 cap) := (hB1.cell (p := ⟨b, o + 2, none⟩) hbB).trans f2
    clear hb1
    go_wp2_with fail
    refine wp_loop_rounds 1 ?_
    rw [rounds_succ]
    go_wp2_with (at_builtin; refine wpList_append_dst _ rfl _ _ rfl B _ (xs ++ [91]) rfl (ho1.allocd _) ⟨w1.heap.size, 0, none⟩ 1 1 [93] rfl rfl ?c4 (by decide) ?c5 ?c6 ?_)
    case c4 => first | exact news_at w1 [93] | exact fun _ _ h => h
    case c5 => simp; omega
    case c6 => first | omega | (simp; omega)
    intro v2 w2 ho2 hb2
    have hb3 : Below B w w2 := (hB1.alloc (by omega) _).trans hb2
    clear hb2
    go_wp2_with fail
    go_ret
    exact ⟨_, rfl, by simpa using ho2, hb3⟩
  · have hk1 : (T.kind == 1) = false := by simp [hk]
    have hk2 : (T.kind == 2) = true := by simp [hk]
    clear hk f1 f2
    go_enter Try.func23, Try.ntmps23
    go_wp2_with (at_builtin; refine wpList_append_dst _ rfl _ _ rfl B v xs rfl (hD.alloc _) ⟨w.heap.size, 0, none⟩ 1 1 [123] rfl rfl ?c1 (by decide) ?c2 ?c3 ?_)
    case c1 => first | exact news_at w [123] | exact fun _ _ h => h
    case c2 => omega
    case c3 => first | omega | (simp; omega)
    intro v1 w1 ho1 hb1
    have hB1 : Below B w w1 := ((Below.refl B w).alloc hB _).trans hb1
    have hs1 := hB1.size
    have g2 : w1.cell? ⟨b, o + 3, none⟩ = some (.slice ao 0 cap) := (hB1.cell (p := ⟨b, o + 3, none⟩) hbB).trans f3
    clear hb1
    go_wp2_with fail
    refine wp_loop_rounds 1 ?_
    rw [rounds_succ]
    go_wp2_with (at_builtin; refine wpList_append_dst _ rfl _ _ rfl B _ (xs ++ [123]) rfl (ho1.allocd _) ⟨w1.heap.size, 0, none⟩ 1 1 [125] rfl rfl ?c4 (by decide) ?c5 ?c6 ?_)
    case c4 => first | exact news_at w1 [125] | exact fun _ _ h => h
    case c5 => simp; omega
    case c6 => first | omega | (simp; omega)
    intro v2 w2 ho2 hb2
    have hb3 : Below B w w2 := (hB1.alloc (by omega) _).trans hb2
    clear hb2
    go_wp2_with fail
    go_ret
    exact ⟨_, rfl, by simpa using ho2, hb3⟩

set_option maxHeartbeats 1000000 in
theorem apt_sca (T : Tr) (B b o cap tb to : Nat) (c2 c3 v : Value) (xs : List Int) (w : World) (hk1 : ¬ T.kind = 1) (hk2 : ¬ T.kind = 2)
    (hf : Four w b o (.int .u8 T.kind) (.slice (some ⟨tb, to, none⟩) T.text.length cap) c2 c3) (ht : HasAt w tb to T.text) (h0 : 0 < T.text.length)
    (hB : B ≤ w.heap.size) (hx : xs.length + T.text.length ≤ 1073741824) (hD : Dst B w v xs) :
    Calls Try.prog 23 #[.pointer (some ⟨b, o, none⟩), v] w fun e w' => ∃ v', e = .returned v' ∧ OwnB B w' v' (xs ++ T.text) ∧ Below B w w' := by
  obtain ⟨f0, f1, f2, f3⟩ := hf
  have e1 : (T.kind == 1) = false := by simpa using hk1
  have e2 : (T.kind == 2) = false := by simpa using hk2
  have hc := has_cells ht.has
  clear hk1 hk2 f2 f3
  go_enter Try.func23, Try.ntmps23
  go_wp2_with (at_builtin; refine wpList_append_dst _ rfl _ _ rfl B v xs rfl hD ⟨tb, to, none⟩ T.text.length cap T.text rfl rfl hc h0 ?c2 hB ?_)
  case c2 => omega
  intro v1 w1 ho1 hb1
  go_wp2_with fail
  go_ret
  exact ⟨_, rfl, ho1, hb1⟩

/-- appendTo, at whatever depth. -/
theorem apt_any : ∀ n, AptSaid n := by
  intro n
  induction n with
  | zero => intro T B b o v xs w ha; obtain ⟨_, _, _, _, _, _, h⟩ := ha; exact h.elim
  | succ n ih =>
    intro T B b o v xs w ha hB hd hw hx hD
    have hwt : wt (n + 1) T = 1 + T.text.length + T.elems.length + sumTo (fun i => wt n (T.el i)) T.elems.length + T.mems.length + sumTo (fun i => (T.nm i).size + wt n (T.vl i)) T.mems.length := rfl
    obtain ⟨hb, c0, c1, c2, c3, hf, rfl, h2, h3, h4⟩ := ha
    by_cases hk1 : T.kind = 1
    · obtain ⟨ao, cap, rfl, _, _, _, h0 | ⟨eb, eo, rfl, hS, hP⟩⟩ := h3
      · have := apt_none T B b o cap ao c1 _ c3 v xs w 91 93 (.inl ⟨hk1, by rw [h0], rfl, rfl⟩) hb hf hB (by omega) hD
        rw [enc_arr hk1, h0]
        simpa [joinTo] using this
      · exact apt_arr n ih T B b o cap eb eo c1 c3 v xs w hk1 hb hf hS hP hB hd hw hx hD
    · by_cases hk2 : T.kind = 2
      · obtain ⟨ao, cap, rfl, _, _, _, h0 | ⟨mb, mo, rfl, hS, hP⟩⟩ := h4
        · have := apt_none T B b o cap ao c1 c2 _ v xs w 123 125 (.inr ⟨hk2, by rw [h0], rfl, rfl⟩) hb hf hB (by omega) hD
          rw [enc_obj hk2, h0]
          simpa [joinTo] using this
        · exact apt_obj n ih T B b o cap mb mo c1 c2 v xs w hk2 hb hf hS (fun i hi => (hP i hi).1) (fun i hi => by
            obtain ⟨_, _, _, _, d0, d1, d2, d3, g1, g2⟩ := hP i hi
            exact ⟨hS, d0, d1, d2, d3, g1, g2⟩) hB hd hw hx hD
      · have hs := sok_ne ((dom_sca (n := n) hk1 hk2).symm.trans hd)
        obtain ⟨ao, cap, rfl, _, _, h0 | ⟨tb, to, rfl, hS, ht⟩⟩ := h2
        · rw [h0] at hs; simp at hs
        · rw [enc_sca hk1 hk2]
          exact apt_sca T B b o cap tb to c2 c3 v xs w hk1 hk2 hf ht hs hB (by omega) hD

end Go.Proofs.Qxb6605240a
