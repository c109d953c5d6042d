import Derived.Test.Qxb6605240aOwn
import Derived.Deep.RegionLaw
namespace Go.Proofs.Qxb6605240a
open Go.RowKit Plain

theorem esc_plain {c : Int} (h1 : ¬ c = 34) (h2 : ¬ c = 92) (h3 : 32 ≤ c) : esc c = [c] := by
  unfold esc
  rw [if_neg h1, if_neg h2, if_neg (by omega), if_neg (by omega), if_neg (by omega), if_neg (by omega), if_neg (by omega), if_neg (by omega)]

theorem esc_ctl {c : Int} (h1 : ¬ c = 34) (h2 : ¬ c = 92) (h3 : ¬ c = 8) (h4 : ¬ c = 12) (h5 : ¬ c = 10) (h6 : ¬ c = 13) (h7 : ¬ c = 9) (h8 : c < 32) :
    esc c = [92, 117, 48, 48, hexd (c / 16), hexd (c % 16)] := by
  unfold esc
  rw [if_neg h1, if_neg h2, if_neg h3, if_neg h4, if_neg h5, if_neg h6, if_neg h7, if_pos h8]

theorem last_own {B : Nat} {w : World} {v : Value} {xs : List Int} {s : ByteArray} {k : Nat} {L : List Int} (hL : xs ++ [34] ++ body (pre s k) = L) (hk : s.size ≤ k)
    (h : OwnB B w v (L ++ [34])) : OwnB B w v (xs ++ 34 :: (body (sb s) ++ [34])) := by
  rw [← hL, pre_all s k hk] at h
  simpa using h

theorem next_own {B : Nat} {w : World} {v : Value} {xs : List Int} {s : ByteArray} {k : Nat} {L ys : List Int} (hL : xs ++ [34] ++ body (pre s k) = L) (hlt : k < s.size)
    (he : esc ((s[k].toNat : Nat) : Int) = ys) (h : OwnB B w v (L ++ ys)) : OwnB B w v (xs ++ [34] ++ body (pre s (k + 1))) := by
  rw [pre_succ s k hlt, body_append, body_one, he, ← List.append_assoc, hL]; exact h

set_option maxHeartbeats 2000000 in
theorem app_any (B : Nat) (v : Value) (xs : List Int) (s : ByteArray) (w : World) (hs : s.size ≤ 1048576) (hx : xs.length ≤ 1073741824) (hB : B ≤ w.heap.size) (hd : Dst B w v xs) :
    Calls Try.prog 8 #[v, .string s] w fun e w' => ∃ v', e = .returned v' ∧ OwnB B w' v' (xs ++ ([34] ++ body (sb s) ++ [34])) ∧ Below B w w' := by
  go_enter Try.func8, Try.ntmps8
  go_wp2_with (at_builtin; refine wpList_append_dst _ rfl _ _ rfl B v xs rfl (hd.alloc _) ⟨w.heap.size, 0, none⟩ 1 1 [34] rfl rfl ?c1 (by decide) ?c2 ?c3 ?_)
  case c1 => exact news_at w [34]
  case c2 => omega
  case c3 => simp; omega
  intro v1 w1 ho1 hb1
  have hB1 : Below B w w1 := ((Below.refl B w).alloc hB _).trans hb1
  have hs1 := hB1.size
  have ho : OwnB B w1 v1 (xs ++ [34] ++ body (pre s 0)) := by simpa [pre_zero, body_nil] using ho1
  clear ho1 hb1 hd
  go_wp2
  go_loopw [0, 5] (fun v i wr => ∃ k : Nat, k ≤ s.size ∧ i = .int .i64 k ∧ OwnB B wr v (xs ++ [34] ++ body (pre s k)) ∧ Below B w wr)
    (fun _ i _ => s.size - (intOf i).toNat)
  case atStart => exact ⟨0, Nat.zero_le _, rfl, ho, hB1⟩
  case round =>
    obtain ⟨k, hk, rfl, hown, hnx⟩ := hrel
    have hsz := hnx.size
    clear ho hB1 hs1
    have hpl := pre_length s k hk
    have hbl := (body_length (pre s k)).2
    have hlen : (xs ++ [34] ++ body (pre s k)).length ≤ 1082130432 := by simp only [List.length_append, List.length_cons, List.length_nil]; omega
    clear hbl hpl
    generalize hL : xs ++ [34] ++ body (pre s k) = L at hown hlen
    have HL : Hid (xs ++ [34] ++ body (pre s k) = L) := hL
    clear hL
    by_cases hlt : k < s.size
    · by_cases h34 : ((s[k].toNat : Nat) : Int) = 34
      · have b34 : (((s[k].toNat : Nat) : Int) == 34) = true := by simp [h34]
        have H34 : Hid (((s[k].toNat : Nat) : Int) = 34) := h34
        clear h34
        go_wp2_with (at_builtin; refine wpList_append_dst _ rfl _ _ rfl B _ L rfl (hown.allocd _) ⟨wr.heap.size, 0, none⟩ 2 2 [92, ((s[k].toNat : Nat) : Int)] rfl rfl ?c1 (by decide) ?c2 ?c3 ?_)
        case c1 => exact news_at wr [92, ((s[k].toNat : Nat) : Int)]
        case c2 => omega
        case c3 => simp; omega
        intro v2 w2 ho2 hb2
        have ho3 := next_own HL.out hlt (ys := [92, ((s[k].toNat : Nat) : Int)]) (by rw [H34.out]; decide) ho2
        have hb3 : Below B w w2 := (hnx.alloc (by omega) _).trans hb2
        clear ho2 hb2 hown hnx
        go_wp2
        go_roundw
        case rel => exact ⟨k + 1, by omega, by go_num, ho3, hb3⟩
        case measure => simp [intOf]; omega
      · have b34 : (((s[k].toNat : Nat) : Int) == 34) = false := by simpa using h34
        have H34 : Hid (¬ ((s[k].toNat : Nat) : Int) = 34) := h34
        clear h34
        by_cases h92 : ((s[k].toNat : Nat) : Int) = 92
        · have b92 : (((s[k].toNat : Nat) : Int) == 92) = true := by simp [h92]
          have H92 : Hid (((s[k].toNat : Nat) : Int) = 92) := h92
          clear h92
          go_wp2_with (at_builtin; refine wpList_append_dst _ rfl _ _ rfl B _ L rfl (hown.allocd _) ⟨wr.heap.size, 0, none⟩ 2 2 [92, ((s[k].toNat : Nat) : Int)] rfl rfl ?c1 (by decide) ?c2 ?c3 ?_)
          case c1 => exact news_at wr [92, ((s[k].toNat : Nat) : Int)]
          case c2 => omega
          case c3 => simp; omega
          intro v2 w2 ho2 hb2
          have ho3 := next_own HL.out hlt (ys := [92, ((s[k].toNat : Nat) : Int)]) (by rw [H92.out]; decide) ho2
          have hb3 : Below B w w2 := (hnx.alloc (by omega) _).trans hb2
          clear ho2 hb2 hown hnx
          go_wp2
          go_roundw
          case rel => exact ⟨k + 1, by omega, by go_num, ho3, hb3⟩
          case measure => simp [intOf]; omega
        · have b92 : (((s[k].toNat : Nat) : Int) == 92) = false := by simpa using h92
          have H92 : Hid (¬ ((s[k].toNat : Nat) : Int) = 92) := h92
          clear h92
          by_cases h8 : ((s[k].toNat : Nat) : Int) = 8
          · have b8 : (((s[k].toNat : Nat) : Int) == 8) = true := by simp [h8]
            have H8 : Hid (((s[k].toNat : Nat) : Int) = 8) := h8
            clear h8
            go_wp2_with (at_builtin; refine wpList_append_dst _ rfl _ _ rfl B _ L rfl (hown.allocd _) ⟨wr.heap.size, 0, none⟩ 2 2 [92, 98] rfl rfl ?c1 (by decide) ?c2 ?c3 ?_)
            case c1 => exact news_at wr [92, 98]
            case c2 => omega
            case c3 => simp; omega
            intro v2 w2 ho2 hb2
            have ho3 := next_own HL.out hlt (ys := [92, 98]) (by rw [H8.out]; decide) ho2
            have hb3 : Below B w w2 := (hnx.alloc (by omega) _).trans hb2
            clear ho2 hb2 hown hnx
            go_wp2
            go_roundw
            case rel => exact ⟨k + 1, by omega, by go_num, ho3, hb3⟩
            case measure => simp [intOf]; omega
          · have b8 : (((s[k].toNat : Nat) : Int) == 8) = false := by simpa using h8
            have H8 : Hid (¬ ((s[k].toNat : Nat) : Int) = 8) := h8
            clear h8
            by_cases h12 : ((s[k].toNat : Nat) : Int) = 12
            · have b12 : (((s[k].toNat : Nat) : Int) == 12) = true := by simp [h12]
              have H12 : Hid (((s[k].toNat : Nat) : Int) = 12) := h12
              clear h12
              go_wp2_with (at_builtin; refine wpList_append_dst _ rfl _ _ rfl B _ L rfl (hown.allocd _) ⟨wr.heap.size, 0, none⟩ 2 2 [92, 102] rfl rfl ?c1 (by decide) ?c2 ?c3 ?_)
              case c1 => exact news_at wr [92, 102]
              case c2 => omega
              case c3 => simp; omega
              intro v2 w2 ho2 hb2
              have ho3 := next_own HL.out hlt (ys := [92, 102]) (by rw [H12.out]; decide) ho2
              have hb3 : Below B w w2 := (hnx.alloc (by omega) _).trans hb2
              clear ho2 hb2 hown hnx
              go_wp2
              go_roundw
              case rel => exact ⟨k + 1, by omega, by go_num, ho3, hb3⟩
              case measure => simp [intOf]; omega
            · have b12 : (((s[k].toNat : Nat) : Int) == 12) = false := by simpa using h12
              have H12 : Hid (¬ ((s[k].toNat : Nat) : Int) = 12) := h12
              clear h12
              by_cases h10 : ((s[k].toNat : Nat) : Int) = 10
              · have b10 : (((s[k].toNat : Nat) : Int) == 10) = true := by simp [h10]
                have H10 : Hid (((s[k].toNat : Nat) : Int) = 10) := h10
                clear h10
                go_wp2_with (at_builtin; refine wpList_append_dst _ rfl _ _ rfl B _ L rfl (hown.allocd _) ⟨wr.heap.size, 0, none⟩ 2 2 [92, 110] rfl rfl ?c1 (by decide) ?c2 ?c3 ?_)
                case c1 => exact news_at wr [92, 110]
                case c2 => omega
                case c3 => simp; omega
                intro v2 w2 ho2 hb2
                have ho3 := next_own HL.out hlt (ys := [92, 110]) (by rw [H10.out]; decide) ho2
                have hb3 : Below B w w2 := (hnx.alloc (by omega) _).trans hb2
                clear ho2 hb2 hown hnx
                go_wp2
                go_roundw
                case rel => exact ⟨k + 1, by omega, by go_num, ho3, hb3⟩
                case measure => simp [intOf]; omega
              · have b10 : (((s[k].toNat : Nat) : Int) == 10) = false := by simpa using h10
                have H10 : Hid (¬ ((s[k].toNat : Nat) : Int) = 10) := h10
                clear h10
                by_cases h13 : ((s[k].toNat : Nat) : Int) = 13
                · have b13 : (((s[k].toNat : Nat) : Int) == 13) = true := by simp [h13]
                  have H13 : Hid (((s[k].toNat : Nat) : Int) = 13) := h13
                  clear h13
                  go_wp2_with (at_builtin; refine wpList_append_dst _ rfl _ _ rfl B _ L rfl (hown.allocd _) ⟨wr.heap.size, 0, none⟩ 2 2 [92, 114] rfl rfl ?c1 (by decide) ?c2 ?c3 ?_)
                  case c1 => exact news_at wr [92, 114]
                  case c2 => omega
                  case c3 => simp; omega
                  intro v2 w2 ho2 hb2
                  have ho3 := next_own HL.out hlt (ys := [92, 114]) (by rw [H13.out]; decide) ho2
                  have hb3 : Below B w w2 := (hnx.alloc (by omega) _).trans hb2
                  clear ho2 hb2 hown hnx
                  go_wp2
                  go_roundw
                  case rel => exact ⟨k + 1, by omega, by go_num, ho3, hb3⟩
                  case measure => simp [intOf]; omega
                · have b13 : (((s[k].toNat : Nat) : Int) == 13) = false := by simpa using h13
                  have H13 : Hid (¬ ((s[k].toNat : Nat) : Int) = 13) := h13
                  clear h13
                  by_cases h9 : ((s[k].toNat : Nat) : Int) = 9
                  · have b9 : (((s[k].toNat : Nat) : Int) == 9) = true := by simp [h9]
                    have H9 : Hid (((s[k].toNat : Nat) : Int) = 9) := h9
                    clear h9
                    go_wp2_with (at_builtin; refine wpList_append_dst _ rfl _ _ rfl B _ L rfl (hown.allocd _) ⟨wr.heap.size, 0, none⟩ 2 2 [92, 116] rfl rfl ?c1 (by decide) ?c2 ?c3 ?_)
                    case c1 => exact news_at wr [92, 116]
                    case c2 => omega
                    case c3 => simp; omega
                    intro v2 w2 ho2 hb2
                    have ho3 := next_own HL.out hlt (ys := [92, 116]) (by rw [H9.out]; decide) ho2
                    have hb3 : Below B w w2 := (hnx.alloc (by omega) _).trans hb2
                    clear ho2 hb2 hown hnx
                    go_wp2
                    go_roundw
                    case rel => exact ⟨k + 1, by omega, by go_num, ho3, hb3⟩
                    case measure => simp [intOf]; omega
                  · have b9 : (((s[k].toNat : Nat) : Int) == 9) = false := by simpa using h9
                    have H9 : Hid (¬ ((s[k].toNat : Nat) : Int) = 9) := h9
                    clear h9
                    by_cases h32 : ((s[k].toNat : Nat) : Int) < 32
                    · have hq : 0 ≤ ((s[k].toNat : Nat) : Int) / 16 ∧ ((s[k].toNat : Nat) : Int) / 16 < 16 := by omega
                      have hr : 0 ≤ ((s[k].toNat : Nat) : Int) % 16 ∧ ((s[k].toNat : Nat) : Int) % 16 < 16 := by omega
                      have hand := and15 ((s[k].toNat : Nat) : Int) (by omega) (by omega)
                      have hx1 := hex_at (((s[k].toNat : Nat) : Int) / 16) hq.1 hq.2
                      have hx2 := hex_at (((s[k].toNat : Nat) : Int) % 16) hr.1 hr.2
                      go_wp2
                      go_region_law (refine step_append_dst rfl _ _ rfl B _ L rfl (by exact hown.allocd _) ⟨wr.heap.size, 0, none⟩ 6 6 [92, 117, 48, 48, hexd (((s[k].toNat : Nat) : Int) / 16), hexd (((s[k].toNat : Nat) : Int) % 16)] rfl rfl (by exact news_at wr _) (by decide) (by omega) (by simp; omega) ?_; intro v2 w2 ho2 hb2)
                      all_goals
                        have ho3 := next_own HL.out hlt (esc_ctl H34.out H92.out H8.out H12.out H10.out H13.out H9.out (by omega)) ho2
                        have hb3 : Below B w w2 := (hnx.drew.alloc (by simp; omega) _).trans hb2
                        clear ho2 hb2 hown hnx
                        go_wp2
                        go_roundw
                        case rel => exact ⟨k + 1, by omega, by go_num, ho3, hb3⟩
                        case measure => simp [intOf]; omega
                    · have hge : 32 ≤ ((s[k].toNat : Nat) : Int) := by omega
                      clear h32
                      go_wp2_with (at_builtin; refine wpList_append_dst _ rfl _ _ rfl B _ L rfl (hown.allocd _) ⟨wr.heap.size, 0, none⟩ 1 1 [((s[k].toNat : Nat) : Int)] rfl rfl ?c1 (by decide) ?c2 ?c3 ?_)
                      case c1 => exact news_at wr [((s[k].toNat : Nat) : Int)]
                      case c2 => omega
                      case c3 => simp; omega
                      intro v2 w2 ho2 hb2
                      have ho3 := next_own HL.out hlt (esc_plain H34.out H92.out (by omega)) ho2
                      have hb3 : Below B w w2 := (hnx.alloc (by omega) _).trans hb2
                      clear ho2 hb2 hown hnx
                      go_wp2
                      go_roundw
                      case rel => exact ⟨k + 1, by omega, by go_num, ho3, hb3⟩
                      case measure => simp [intOf]; omega
    · go_wp2_with (at_builtin; refine wpList_append_dst _ rfl _ _ rfl B _ L rfl (hown.allocd _) ⟨wr.heap.size, 0, none⟩ 1 1 [34] rfl rfl ?c1 (by decide) ?c2 ?c3 ?_)
      case c1 => exact news_at wr [34]
      case c2 => omega
      case c3 => simp; omega
      intro v2 w2 ho2 hb2
      have ho3 := last_own HL.out (by omega) ho2
      have hb3 : Below B w w2 := (hnx.alloc (by omega) _).trans hb2
      clear ho2 hb2 hown hnx
      go_wp2
      go_ret
      exact ⟨_, rfl, ho3, hb3⟩

/-- AppendString(dst, s) is dst and the quoted text of s. -/
theorem app_quo (B : Nat) (v : Value) (xs : List Int) (s : ByteArray) (w : World) (hs : s.size ≤ 1048576) (hx : xs.length ≤ 1073741824) (hB : B ≤ w.heap.size) (hd : Dst B w v xs) :
    Calls Try.prog 8 #[v, .string s] w fun e w' => ∃ v', e = .returned v' ∧ OwnB B w' v' (xs ++ quo (sb s)) ∧ Below B w w' := by
  refine (app_any B v xs s w hs hx hB hd).mono ?_
  rintro e w' ⟨v', rfl, h1, h2⟩
  exact ⟨v', rfl, by simpa [quo] using h1, h2⟩

end Go.Proofs.Qxb6605240a
