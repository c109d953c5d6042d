/-
  zzParseValue: every value, by induction on its depth.
-/
import Derived.Test.Qxb6605240aParseObj
namespace Go.Proofs.Qxb6605240a
open Go.RowKit Plain

theorem parse_any : ∀ n, ParseSaid n := by
  intro n
  induction n with
  | zero => intro T B bO oO cO pos out a c w _ _ _ hd; cases hd
  | succ n ih =>
    intro T B bO oO cO pos out a c w ho ha hF hd hw hm hO hc hc2 hb hB
    by_cases h1 : T.kind = 1
    · by_cases h0 : T.elems.length = 0
      · exact parse_arr0 n T B bO oO cO pos out a c w h1 h0 ho ha hm hO hb hB
      · exact parse_arr n ih T B bO oO cO pos out a c w h1 (by omega) ho ha hd hw hm hO hc hc2 hb hB
    by_cases h2 : T.kind = 2
    · by_cases h0 : T.mems.length = 0
      · exact parse_obj0 n T B bO oO cO pos out a c w h2 h0 ho ha hm hO hb hB
      · exact parse_obj n ih T B bO oO cO pos out a c w h2 (by omega) ho ha hd hw hm hO hc hc2 hb hB
    rw [dom_sca h1 h2] at hd
    rw [enc_sca h1 h2] at ho ⊢
    have hl0 := sok_ne hd
    by_cases hq : nth T.text 0 = 34
    · have hl2 : 2 ≤ T.text.length := by
        rcases Nat.lt_or_ge T.text.length 2 with h | h
        · rw [sok_one hl0 hq h] at hd; cases hd
        · exact h
      have hla : nth T.text (T.text.length - 1) = 34 := by
        by_cases h : nth T.text (T.text.length - 1) = 34
        · exact h
        · rw [sok_open hq hl2 h] at hd; cases hd
      rw [sok_str hq hl2 hla] at hd
      have hs := text_split hq hl2 hla
      have hsl : T.text.length = (inside T.text).length + 2 := by
        have h := congrArg List.length hs
        simp at h
        omega
      have he := strEnd_at out a (inside T.text) c (by rw [ho]; conv => lhs; rw [hs]
                                                       simp) hd
      rw [ha] at he
      exact parse_str n T B bO oO cO pos out a c w h1 h2 ho ha hq hl2 (by rw [he, hsl]; congr 1) hm hO hc hc2 hb hB
    · rw [sok_bare hl0 hq] at hd
      exact parse_tok n T B bO oO cO pos out a c w h1 h2 ho ha hF hl0 ((allTo_iff _ _).1 hd) hm hO hc hc2 hb hB

end Go.Proofs.Qxb6605240a
