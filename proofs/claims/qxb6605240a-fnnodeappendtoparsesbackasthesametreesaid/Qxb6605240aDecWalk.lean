/-
  zzDecodeCanonical walked: it reads as the plain decoder does.
-/
import Derived.Test.Qxb6605240aRead
import Derived.Test.Qxb6605240aDec
namespace Go.Proofs.Qxb6605240a
open Go.RowKit Plain

/-- zzLowerHex. -/
theorem lhex_yes (c x : Int) (w : World) (h : lhex c = some x) : Calls Try.prog 20 #[.int .u8 c] w fun e w' => e = .returned (.tuple #[.int .i64 x, .bool true]) ∧ w' = w := by
  unfold lhex at h
  by_cases h1 : 48 ≤ c ∧ c ≤ 57
  · rw [if_pos h1] at h
    obtain ⟨h2, h3⟩ := h1
    have hx : x = c - 48 := by simpa using h.symm
    subst hx
    clear h
    have d1 : decide (48 ≤ c) = true := by simpa using h2
    go_enter Try.func20, Try.ntmps20
    go_wp2
    go_ret2
    exact ⟨rfl, rfl⟩
  · rw [if_neg h1] at h
    by_cases h2 : 97 ≤ c ∧ c ≤ 102
    · rw [if_pos h2] at h
      obtain ⟨h3, h4⟩ := h2
      have hx : x = c - 97 + 10 := by have := Option.some.inj h; omega
      subst hx
      clear h h1
      have d1 : decide (48 ≤ c) = true := by simp; omega
      have d2 : decide (97 ≤ c) = true := by simpa using h3
      go_enter Try.func20, Try.ntmps20
      go_wp2
      go_ret2
      exact ⟨rfl, rfl⟩
    · rw [if_neg h2] at h; cases h

theorem lhex_no (c : Int) (w : World) (h : lhex c = none) : Calls Try.prog 20 #[.int .u8 c] w fun e w' => e = .returned (.tuple #[.int .i64 0, .bool false]) ∧ w' = w := by
  unfold lhex at h
  by_cases h1 : 48 ≤ c ∧ c ≤ 57
  · rw [if_pos h1] at h; cases h
  rw [if_neg h1] at h
  by_cases h2 : 97 ≤ c ∧ c ≤ 102
  · rw [if_pos h2] at h; cases h
  clear h
  by_cases h3 : 48 ≤ c
  · have d1 : decide (48 ≤ c) = true := by simpa using h3
    by_cases h4 : 97 ≤ c
    · have d2 : decide (97 ≤ c) = true := by simpa using h4
      have d3 : ¬ c ≤ 57 := by omega
      have d4 : ¬ c ≤ 102 := by omega
      clear h1 h2
      go_enter Try.func20, Try.ntmps20
      go_wp2
      go_ret2
      exact ⟨rfl, rfl⟩
    · have d2 : decide (97 ≤ c) = false := by simpa using h4
      have d3 : ¬ c ≤ 57 := by omega
      clear h1 h2
      go_enter Try.func20, Try.ntmps20
      go_wp2
      go_ret2
      exact ⟨rfl, rfl⟩
  · have d1 : decide (48 ≤ c) = false := by simpa using h3
    have d2 : decide (97 ≤ c) = false := by simp; omega
    clear h1 h2
    go_enter Try.func20, Try.ntmps20
    go_wp2
    go_ret2
    exact ⟨rfl, rfl⟩

theorem lhex_bd {c x : Int} (h : lhex c = some x) : 0 ≤ x ∧ x ≤ 15 := by
  unfold lhex at h
  split at h
  · have := Option.some.inj h; omega
  · split at h
    · have := Option.some.inj h; omega
    · cases h

theorem st_quote {xs : List Int} {i : Nat} (h : nth xs i = 34) : stepAt xs i = none := by unfold stepAt; rw [if_pos h]
theorem st_low {xs : List Int} {i : Nat} (h : ¬ nth xs i = 34) (h2 : nth xs i < 32) : stepAt xs i = none := by unfold stepAt; rw [if_neg h, if_pos h2]
theorem st_plain {xs : List Int} {i : Nat} (h : ¬ nth xs i = 34) (h2 : ¬ nth xs i < 32) (h3 : ¬ nth xs i = 92) : stepAt xs i = some (nth xs i, 1) := by unfold stepAt; rw [if_neg h, if_neg h2, if_pos h3]
theorem st_bs {xs : List Int} {i : Nat} (h : nth xs i = 92) : stepAt xs i = if xs.length ≤ i + 1 then none else match short (nth xs (i + 1)) with
    | some c => some (c, 2)
    | none => if nth xs (i + 1) = 117 then uniAt xs i else none := by
  unfold stepAt; rw [if_neg (by omega), if_neg (by omega), if_neg (by omega)]; rfl
theorem st_cut {xs : List Int} {i : Nat} (h : nth xs i = 92) (h2 : xs.length ≤ i + 1) : stepAt xs i = none := by rw [st_bs h, if_pos h2]
theorem st_short {xs : List Int} {i : Nat} {c : Int} (h : nth xs i = 92) (h2 : ¬ xs.length ≤ i + 1) (h3 : short (nth xs (i + 1)) = some c) : stepAt xs i = some (c, 2) := by rw [st_bs h, if_neg h2, h3]
theorem st_other {xs : List Int} {i : Nat} (h : nth xs i = 92) (h2 : ¬ xs.length ≤ i + 1) (h3 : short (nth xs (i + 1)) = none) (h4 : ¬ nth xs (i + 1) = 117) : stepAt xs i = none := by rw [st_bs h, if_neg h2, h3]; exact if_neg h4
theorem st_uni {xs : List Int} {i : Nat} (h : nth xs i = 92) (h2 : ¬ xs.length ≤ i + 1) (h4 : nth xs (i + 1) = 117) : stepAt xs i = uniAt xs i := by rw [st_bs h, if_neg h2, h4]; rfl
theorem short_no {d : Int} (h1 : ¬ d = 34) (h2 : ¬ d = 92) (h3 : ¬ d = 98) (h4 : ¬ d = 102) (h5 : ¬ d = 110) (h6 : ¬ d = 114) (h7 : ¬ d = 116) : short d = none := by
  unfold short; rw [if_neg h1, if_neg h2, if_neg h3, if_neg h4, if_neg h5, if_neg h6, if_neg h7]
theorem un_cut {xs : List Int} {i : Nat} (h : xs.length ≤ i + 5) : uniAt xs i = none := by unfold uniAt; rw [if_pos h]
theorem un_2 {xs : List Int} {i : Nat} (h : ¬ xs.length ≤ i + 5) (h2 : ¬ nth xs (i + 2) = 48) : uniAt xs i = none := by unfold uniAt; rw [if_neg h, if_pos h2]
theorem un_3 {xs : List Int} {i : Nat} (h : ¬ xs.length ≤ i + 5) (h2 : nth xs (i + 2) = 48) (h3 : ¬ nth xs (i + 3) = 48) : uniAt xs i = none := by unfold uniAt; rw [if_neg h, if_neg (by omega), if_pos h3]
theorem un_all {xs : List Int} {i : Nat} (h : ¬ xs.length ≤ i + 5) (h2 : nth xs (i + 2) = 48) (h3 : nth xs (i + 3) = 48) : uniAt xs i = match lhex (nth xs (i + 4)), lhex (nth xs (i + 5)) with
    | some x, some y => if ctl (x * 16 + y) then some (x * 16 + y, 6) else none
    | _, _ => none := by unfold uniAt; rw [if_neg h, if_neg (by omega), if_neg (by omega)]; rfl
theorem un_4 {xs : List Int} {i : Nat} (h : ¬ xs.length ≤ i + 5) (h2 : nth xs (i + 2) = 48) (h3 : nth xs (i + 3) = 48) (h4 : lhex (nth xs (i + 4)) = none) : uniAt xs i = none := by rw [un_all h h2 h3, h4]
theorem un_5 {xs : List Int} {i : Nat} (h : ¬ xs.length ≤ i + 5) (h2 : nth xs (i + 2) = 48) (h3 : nth xs (i + 3) = 48) (h4 : lhex (nth xs (i + 5)) = none) : uniAt xs i = none := by
  rw [un_all h h2 h3, h4]; cases lhex (nth xs (i + 4)) <;> rfl
theorem un_6 {xs : List Int} {i : Nat} {x y v : Int} (h : ¬ xs.length ≤ i + 5) (h2 : nth xs (i + 2) = 48) (h3 : nth xs (i + 3) = 48) (h4 : lhex (nth xs (i + 4)) = some x) (h5 : lhex (nth xs (i + 5)) = some y) (hv : v = x * 16 + y) :
    uniAt xs i = if ctl v then some (v, 6) else none := by rw [un_all h h2 h3, h4, h5, hv]
theorem ctl_big {v : Int} (h : 32 ≤ v) : ctl v = false := by unfold ctl; rw [decide_eq_false (by omega)]; rfl
theorem ctl_ok {v : Int} (h : ¬ 32 ≤ v) (h1 : ¬ v = 8) (h2 : ¬ v = 9) (h3 : ¬ v = 10) (h4 : ¬ v = 12) (h5 : ¬ v = 13) : ctl v = true := by
  unfold ctl; simp [h1, h2, h3, h4, h5]; omega

/-- How zzDecodeCanonical ends. -/
def DecPost (xs : List Int) (w : World) (e : Ending) (w' : World) : Prop :=
  (decod xs = none ∧ e = .returned (.tuple #[.slice none 0 0, .bool false]) ∧ Below w.heap.size w w') ∨
  ∃ ys v, decod xs = some ys ∧ e = .returned (.tuple #[v, .bool true]) ∧ OwnB w.heap.size w' v ys ∧ Below w.heap.size w w'

theorem DecPost.no {xs : List Int} {w w' : World} (h : decod xs = none) (hb : Below w.heap.size w w') : DecPost xs w (.returned (.tuple #[.slice none 0 0, .bool false])) w' := .inl ⟨h, rfl, hb⟩
theorem DecPost.yes {xs ys : List Int} {v : Value} {w w' : World} (h : decod xs = some ys) (ho : OwnB w.heap.size w' v ys) (hb : Below w.heap.size w w') : DecPost xs w (.returned (.tuple #[v, .bool true])) w' := .inr ⟨ys, v, h, rfl, ho, hb⟩

set_option maxRecDepth 100000 in
set_option maxHeartbeats 8000000 in
theorem dec_at (w : World) (b off cap : Nat) (xs : List Int) (hl : xs.length ≤ 1073741824) (hx : HasAt w b off xs) :
    Calls Try.prog 10 #[.slice (some ⟨b, off, none⟩) xs.length cap] w fun e w' => DecPost xs w e w' := by
  obtain ⟨i0, hi, hz0, hz1, hz2⟩ := info_parts Try.info5
  go_enter Try.func10, Try.ntmps10
  go_wp2_with (at_make; refine wpList_make_own _ rfl _ _ 22 rfl w.heap.size 5 i0 (.int .u8 0) 1 Try.underlying22 hi hz0 hz1 _ _ _ xs.length rfl rfl rfl ?b2 ?b3 (Nat.le_refl _) ?_)
  case b2 => rw [hz2]; omega
  case b3 => unfold maxLen; omega
  intro w1 ho hg
  have ho1 : OwnB w.heap.size w1 (.slice (some ⟨w.heap.size, 0, none⟩) 0 xs.length) [] := ho
  have hb1 : Below w.heap.size w w1 := (Below.refl _ _).grown hg (Nat.le_refl _) (fun k hk => by cases hk)
  clear ho hg hi hz0 hz1 hz2
  go_wp2
  go_loopw [4, 5] (fun v i wr => ∃ (k : Nat) (acc : List Int), i = .int .i64 k ∧ Hid (Sofar xs k acc) ∧ OwnB w.heap.size wr v acc ∧ Below w.heap.size w wr) (fun _ i _ => xs.length - (intOf i).toNat)
  case atStart => exact ⟨0, [], rfl, Sofar.start xs, ho1, hb1⟩
  case round =>
    obtain ⟨i, acc, rfl, HA, hown, hnx⟩ := hrel
    clear ho1 hb1
    have hil := HA.out.1
    have hal := HA.out.2.1
    have hsz := hnx.size
    by_cases hlt : i < xs.length
    case neg =>
      have HS : Hid (decod xs = some acc) := HA.out.done (by omega)
      go_wp2
      go_ret2
      exact DecPost.yes HS.out hown hnx
    have c0 := (hx.later hnx) i hlt
    have j0 : (i : Int) < (xs.length : Int) := by omega
    by_cases h0 : nth xs i = 34
    · have b0 : (nth xs i == 34) = true := by simp [h0]
      have H0 : Hid (nth xs i = 34) := h0
      clear h0
      have HS : Hid (decod xs = none) := HA.out.stop hlt (st_quote H0.out)
      go_wp2
      go_ret2
      exact DecPost.no HS.out hnx
    · have b0 : (nth xs i == 34) = false := by simpa using h0
      have H0 : Hid (¬ nth xs i = 34) := h0
      clear h0
      by_cases hlo : nth xs i < 32
      · have d0 : decide (nth xs i < 32) = true := by simpa using hlo
        have HS : Hid (decod xs = none) := HA.out.stop hlt (st_low H0.out hlo)
        go_wp2
        go_ret2
        exact DecPost.no HS.out hnx
      · have d0 : decide (nth xs i < 32) = false := by simpa using hlo
        have HLO : Hid (¬ nth xs i < 32) := hlo
        clear hlo
        by_cases h92 : nth xs i = 92
        case neg =>
          have b92 : (nth xs i != 92) = true := by simp [h92]
          have H92 : Hid (¬ nth xs i = 92) := h92
          clear h92
          have HS : Hid (Sofar xs (i + 1) (acc ++ [nth xs i])) := HA.out.next hlt (st_plain H0.out HLO.out H92.out)
          clear HA
          go_wp2_with (at_builtin; refine wpList_append_dst _ rfl _ _ rfl w.heap.size _ acc rfl (hown.allocd _) ⟨wr.heap.size, 0, none⟩ 1 1 [nth xs i] rfl rfl ?c1 (by decide) ?c2 ?c3 ?_)
          case c1 => first | exact news_at wr [nth xs i] | exact fun _ _ h => h
          case c2 => omega
          case c3 => first | omega | (simp; omega)
          intro v2 w2 ho2 hb2
          have hb3 : Below w.heap.size w w2 := (hnx.alloc (by omega) _).trans hb2
          clear hb2 hown hnx
          go_wp2
          go_roundw
          case rel => exact ⟨i + 1, acc ++ [nth xs i], by go_num, HS, ho2, hb3⟩
          case measure => simp [intOf]; omega
        have b92 : (nth xs i != 92) = false := by simp [h92]
        have H92 : Hid (nth xs i = 92) := h92
        clear h92
        by_cases h1 : xs.length ≤ i + 1
        case pos =>
          have HS : Hid (decod xs = none) := HA.out.stop hlt (st_cut H92.out h1)
          go_wp2
          go_ret2
          exact DecPost.no HS.out hnx
        have c1 := (hx.later hnx) (i + 1) (by omega)
        have j1 : ((i : Int) + 1) < (xs.length : Int) := by omega
        by_cases he34 : nth xs (i + 1) = 34
        · have be34 : (nth xs (i + 1) == 34) = true := by simp [he34]
          have He34 : Hid (nth xs (i + 1) = 34) := he34
          clear he34
          have HS : Hid (Sofar xs (i + 2) (acc ++ [34])) := HA.out.next hlt (st_short H92.out h1 (by rw [He34.out]; decide))
          clear HA
          go_wp2_with (at_builtin; refine wpList_append_dst _ rfl _ _ rfl w.heap.size _ acc rfl (hown.allocd _) ⟨wr.heap.size, 0, none⟩ 1 1 [34] rfl rfl ?c1 (by decide) ?c2 ?c3 ?_)
          case c1 => first | exact news_at wr [34] | exact fun _ _ h => h
          case c2 => omega
          case c3 => first | omega | (simp; omega)
          intro v2 w2 ho2 hb2
          have hb3 : Below w.heap.size w w2 := (hnx.alloc (by omega) _).trans hb2
          clear hb2 hown hnx
          go_wp2
          go_roundw
          case rel => exact ⟨i + 2, acc ++ [34], by go_num, HS, ho2, hb3⟩
          case measure => simp [intOf]; omega
        · have be34 : (nth xs (i + 1) == 34) = false := by simpa using he34
          have He34 : Hid (¬ nth xs (i + 1) = 34) := he34
          clear he34
          by_cases he92 : nth xs (i + 1) = 92
          · have be92 : (nth xs (i + 1) == 92) = true := by simp [he92]
            have He92 : Hid (nth xs (i + 1) = 92) := he92
            clear he92
            have HS : Hid (Sofar xs (i + 2) (acc ++ [92])) := HA.out.next hlt (st_short H92.out h1 (by rw [He92.out]; decide))
            clear HA
            go_wp2_with (at_builtin; refine wpList_append_dst _ rfl _ _ rfl w.heap.size _ acc rfl (hown.allocd _) ⟨wr.heap.size, 0, none⟩ 1 1 [92] rfl rfl ?c1 (by decide) ?c2 ?c3 ?_)
            case c1 => first | exact news_at wr [92] | exact fun _ _ h => h
            case c2 => omega
            case c3 => first | omega | (simp; omega)
            intro v2 w2 ho2 hb2
            have hb3 : Below w.heap.size w w2 := (hnx.alloc (by omega) _).trans hb2
            clear hb2 hown hnx
            go_wp2
            go_roundw
            case rel => exact ⟨i + 2, acc ++ [92], by go_num, HS, ho2, hb3⟩
            case measure => simp [intOf]; omega
          · have be92 : (nth xs (i + 1) == 92) = false := by simpa using he92
            have He92 : Hid (¬ nth xs (i + 1) = 92) := he92
            clear he92
            by_cases he98 : nth xs (i + 1) = 98
            · have be98 : (nth xs (i + 1) == 98) = true := by simp [he98]
              have He98 : Hid (nth xs (i + 1) = 98) := he98
              clear he98
              have HS : Hid (Sofar xs (i + 2) (acc ++ [8])) := HA.out.next hlt (st_short H92.out h1 (by rw [He98.out]; decide))
              clear HA
              go_wp2_with (at_builtin; refine wpList_append_dst _ rfl _ _ rfl w.heap.size _ acc rfl (hown.allocd _) ⟨wr.heap.size, 0, none⟩ 1 1 [8] rfl rfl ?c1 (by decide) ?c2 ?c3 ?_)
              case c1 => first | exact news_at wr [8] | exact fun _ _ h => h
              case c2 => omega
              case c3 => first | omega | (simp; omega)
              intro v2 w2 ho2 hb2
              have hb3 : Below w.heap.size w w2 := (hnx.alloc (by omega) _).trans hb2
              clear hb2 hown hnx
              go_wp2
              go_roundw
              case rel => exact ⟨i + 2, acc ++ [8], by go_num, HS, ho2, hb3⟩
              case measure => simp [intOf]; omega
            · have be98 : (nth xs (i + 1) == 98) = false := by simpa using he98
              have He98 : Hid (¬ nth xs (i + 1) = 98) := he98
              clear he98
              by_cases he102 : nth xs (i + 1) = 102
              · have be102 : (nth xs (i + 1) == 102) = true := by simp [he102]
                have He102 : Hid (nth xs (i + 1) = 102) := he102
                clear he102
                have HS : Hid (Sofar xs (i + 2) (acc ++ [12])) := HA.out.next hlt (st_short H92.out h1 (by rw [He102.out]; decide))
                clear HA
                go_wp2_with (at_builtin; refine wpList_append_dst _ rfl _ _ rfl w.heap.size _ acc rfl (hown.allocd _) ⟨wr.heap.size, 0, none⟩ 1 1 [12] rfl rfl ?c1 (by decide) ?c2 ?c3 ?_)
                case c1 => first | exact news_at wr [12] | exact fun _ _ h => h
                case c2 => omega
                case c3 => first | omega | (simp; omega)
                intro v2 w2 ho2 hb2
                have hb3 : Below w.heap.size w w2 := (hnx.alloc (by omega) _).trans hb2
                clear hb2 hown hnx
                go_wp2
                go_roundw
                case rel => exact ⟨i + 2, acc ++ [12], by go_num, HS, ho2, hb3⟩
                case measure => simp [intOf]; omega
              · have be102 : (nth xs (i + 1) == 102) = false := by simpa using he102
                have He102 : Hid (¬ nth xs (i + 1) = 102) := he102
                clear he102
                by_cases he110 : nth xs (i + 1) = 110
                · have be110 : (nth xs (i + 1) == 110) = true := by simp [he110]
                  have He110 : Hid (nth xs (i + 1) = 110) := he110
                  clear he110
                  have HS : Hid (Sofar xs (i + 2) (acc ++ [10])) := HA.out.next hlt (st_short H92.out h1 (by rw [He110.out]; decide))
                  clear HA
                  go_wp2_with (at_builtin; refine wpList_append_dst _ rfl _ _ rfl w.heap.size _ acc rfl (hown.allocd _) ⟨wr.heap.size, 0, none⟩ 1 1 [10] rfl rfl ?c1 (by decide) ?c2 ?c3 ?_)
                  case c1 => first | exact news_at wr [10] | exact fun _ _ h => h
                  case c2 => omega
                  case c3 => first | omega | (simp; omega)
                  intro v2 w2 ho2 hb2
                  have hb3 : Below w.heap.size w w2 := (hnx.alloc (by omega) _).trans hb2
                  clear hb2 hown hnx
                  go_wp2
                  go_roundw
                  case rel => exact ⟨i + 2, acc ++ [10], by go_num, HS, ho2, hb3⟩
                  case measure => simp [intOf]; omega
                · have be110 : (nth xs (i + 1) == 110) = false := by simpa using he110
                  have He110 : Hid (¬ nth xs (i + 1) = 110) := he110
                  clear he110
                  by_cases he114 : nth xs (i + 1) = 114
                  · have be114 : (nth xs (i + 1) == 114) = true := by simp [he114]
                    have He114 : Hid (nth xs (i + 1) = 114) := he114
                    clear he114
                    have HS : Hid (Sofar xs (i + 2) (acc ++ [13])) := HA.out.next hlt (st_short H92.out h1 (by rw [He114.out]; decide))
                    clear HA
                    go_wp2_with (at_builtin; refine wpList_append_dst _ rfl _ _ rfl w.heap.size _ acc rfl (hown.allocd _) ⟨wr.heap.size, 0, none⟩ 1 1 [13] rfl rfl ?c1 (by decide) ?c2 ?c3 ?_)
                    case c1 => first | exact news_at wr [13] | exact fun _ _ h => h
                    case c2 => omega
                    case c3 => first | omega | (simp; omega)
                    intro v2 w2 ho2 hb2
                    have hb3 : Below w.heap.size w w2 := (hnx.alloc (by omega) _).trans hb2
                    clear hb2 hown hnx
                    go_wp2
                    go_roundw
                    case rel => exact ⟨i + 2, acc ++ [13], by go_num, HS, ho2, hb3⟩
                    case measure => simp [intOf]; omega
                  · have be114 : (nth xs (i + 1) == 114) = false := by simpa using he114
                    have He114 : Hid (¬ nth xs (i + 1) = 114) := he114
                    clear he114
                    by_cases he116 : nth xs (i + 1) = 116
                    · have be116 : (nth xs (i + 1) == 116) = true := by simp [he116]
                      have He116 : Hid (nth xs (i + 1) = 116) := he116
                      clear he116
                      have HS : Hid (Sofar xs (i + 2) (acc ++ [9])) := HA.out.next hlt (st_short H92.out h1 (by rw [He116.out]; decide))
                      clear HA
                      go_wp2_with (at_builtin; refine wpList_append_dst _ rfl _ _ rfl w.heap.size _ acc rfl (hown.allocd _) ⟨wr.heap.size, 0, none⟩ 1 1 [9] rfl rfl ?c1 (by decide) ?c2 ?c3 ?_)
                      case c1 => first | exact news_at wr [9] | exact fun _ _ h => h
                      case c2 => omega
                      case c3 => first | omega | (simp; omega)
                      intro v2 w2 ho2 hb2
                      have hb3 : Below w.heap.size w w2 := (hnx.alloc (by omega) _).trans hb2
                      clear hb2 hown hnx
                      go_wp2
                      go_roundw
                      case rel => exact ⟨i + 2, acc ++ [9], by go_num, HS, ho2, hb3⟩
                      case measure => simp [intOf]; omega
                    · have be116 : (nth xs (i + 1) == 116) = false := by simpa using he116
                      have He116 : Hid (¬ nth xs (i + 1) = 116) := he116
                      clear he116
                      by_cases hu : nth xs (i + 1) = 117
                      case neg =>
                        have bu : (nth xs (i + 1) == 117) = false := by simpa using hu
                        have HU : Hid (¬ nth xs (i + 1) = 117) := hu
                        clear hu
                        have HS : Hid (decod xs = none) := HA.out.stop hlt (st_other H92.out h1 (short_no He34.out He92.out He98.out He102.out He110.out He114.out He116.out) HU.out)
                        go_wp2
                        go_ret2
                        exact DecPost.no HS.out hnx
                      have bu : (nth xs (i + 1) == 117) = true := by simp [hu]
                      have HU : Hid (nth xs (i + 1) = 117) := hu
                      clear hu
                      by_cases h5 : xs.length ≤ i + 5
                      case pos =>
                        have HS : Hid (decod xs = none) := HA.out.stop hlt ((st_uni H92.out h1 HU.out).trans (un_cut h5))
                        go_wp2
                        go_ret2
                        exact DecPost.no HS.out hnx
                      have c2 := (hx.later hnx) (i + 2) (by omega)
                      have c3 := (hx.later hnx) (i + 3) (by omega)
                      have c4 := (hx.later hnx) (i + 4) (by omega)
                      have c5 := (hx.later hnx) (i + 5) (by omega)
                      by_cases hz2 : nth xs (i + 2) = 48
                      case neg =>
                        have bz2 : (nth xs (i + 2) != 48) = true := by simp [hz2]
                        have Hz2 : Hid (¬ nth xs (i + 2) = 48) := hz2
                        clear hz2
                        have HS : Hid (decod xs = none) := HA.out.stop hlt ((st_uni H92.out h1 HU.out).trans (un_2 h5 Hz2.out))
                        go_wp2
                        go_ret2
                        exact DecPost.no HS.out hnx
                      have bz2 : (nth xs (i + 2) != 48) = false := by simp [hz2]
                      have Hz2 : Hid (nth xs (i + 2) = 48) := hz2
                      clear hz2
                      by_cases hz3 : nth xs (i + 3) = 48
                      case neg =>
                        have bz3 : (nth xs (i + 3) != 48) = true := by simp [hz3]
                        have Hz3 : Hid (¬ nth xs (i + 3) = 48) := hz3
                        clear hz3
                        have HS : Hid (decod xs = none) := HA.out.stop hlt ((st_uni H92.out h1 HU.out).trans (un_3 h5 Hz2.out Hz3.out))
                        go_wp2
                        go_ret2
                        exact DecPost.no HS.out hnx
                      have bz3 : (nth xs (i + 3) != 48) = false := by simp [hz3]
                      have Hz3 : Hid (nth xs (i + 3) = 48) := hz3
                      clear hz3
                      cases hx4 : lhex (nth xs (i + 4)) with
                      | none =>
                        have HX4 : Hid (lhex (nth xs (i + 4)) = none) := hx4
                        clear hx4
                        have HS : Hid (decod xs = none) := HA.out.stop hlt ((st_uni H92.out h1 HU.out).trans (un_4 h5 Hz2.out Hz3.out HX4.out))
                        cases hx5 : lhex (nth xs (i + 5)) with
                        | none =>
                          have HX5 : Hid (lhex (nth xs (i + 5)) = none) := hx5
                          clear hx5
                          go_wp2_with fail
                          refine (lhex_no _ _ HX4.out).mono ?_
                          rintro e wr ⟨rfl, rfl⟩
                          go_wp2_with fail
                          refine (lhex_no _ _ HX5.out).mono ?_
                          rintro e wr ⟨rfl, rfl⟩
                          go_wp2
                          go_ret2
                          exact DecPost.no HS.out hnx
                        | some y =>
                          have HX5 : Hid (lhex (nth xs (i + 5)) = some y) := hx5
                          clear hx5
                          go_wp2_with fail
                          refine (lhex_no _ _ HX4.out).mono ?_
                          rintro e wr ⟨rfl, rfl⟩
                          go_wp2_with fail
                          refine (lhex_yes _ _ _ HX5.out).mono ?_
                          rintro e wr ⟨rfl, rfl⟩
                          go_wp2
                          go_ret2
                          exact DecPost.no HS.out hnx
                      | some x =>
                        have HX4 : Hid (lhex (nth xs (i + 4)) = some x) := hx4
                        have hx1 := lhex_bd hx4
                        clear hx4
                        cases hx5 : lhex (nth xs (i + 5)) with
                        | none =>
                          have HX5 : Hid (lhex (nth xs (i + 5)) = none) := hx5
                          clear hx5
                          have HS : Hid (decod xs = none) := HA.out.stop hlt ((st_uni H92.out h1 HU.out).trans (un_5 h5 Hz2.out Hz3.out HX5.out))
                          go_wp2_with fail
                          refine (lhex_yes _ _ _ HX4.out).mono ?_
                          rintro e wr ⟨rfl, rfl⟩
                          go_wp2_with fail
                          refine (lhex_no _ _ HX5.out).mono ?_
                          rintro e wr ⟨rfl, rfl⟩
                          go_wp2
                          go_ret2
                          exact DecPost.no HS.out hnx
                        | some y =>
                          have HX5 : Hid (lhex (nth xs (i + 5)) = some y) := hx5
                          have hy1 := lhex_bd hx5
                          clear hx5
                          obtain ⟨v, hv⟩ : ∃ v, v = x * 16 + y := ⟨_, rfl⟩
                          have HV : Hid (v = x * 16 + y) := hv
                          have hv0 : 0 ≤ v ∧ v ≤ 255 := by omega
                          have hvr : x * 16 + y = v := hv.symm
                          clear hv
                          have HU2 : Hid (stepAt xs i = if ctl v then some (v, 6) else none) := ((st_uni H92.out h1 HU.out).trans (un_6 h5 Hz2.out Hz3.out HX4.out HX5.out HV.out))
                          go_wp2_with fail
                          refine (lhex_yes _ _ _ HX4.out).mono ?_
                          rintro e wr ⟨rfl, rfl⟩
                          go_wp2_with fail
                          refine (lhex_yes _ _ _ HX5.out).mono ?_
                          rintro e wr ⟨rfl, rfl⟩
                          by_cases hbig : 32 ≤ v
                          case pos =>
                            have HC : Hid (ctl v = false) := ctl_big hbig
                            have HS : Hid (decod xs = none) := HA.out.stop hlt (by rw [HU2.out, HC.out]; rfl)
                            have dv : decide (32 ≤ v) = true := by simpa using hbig
                            go_wp2
                            go_ret2
                            exact DecPost.no HS.out hnx
                          have dv : decide (32 ≤ v) = false := by simpa using hbig
                          by_cases hv8 : v = 8
                          case pos =>
                            have bv8 : (v == 8) = true := by simp [hv8]
                            have HS : Hid (decod xs = none) := HA.out.stop hlt (by rw [HU2.out, hv8]; rfl)
                            clear hv8
                            go_wp2
                            go_ret2
                            exact DecPost.no HS.out hnx
                          have bv8 : (v == 8) = false := by simpa using hv8
                          have Hv8 : Hid (¬ v = 8) := hv8
                          clear hv8
                          by_cases hv9 : v = 9
                          case pos =>
                            have bv9 : (v == 9) = true := by simp [hv9]
                            have HS : Hid (decod xs = none) := HA.out.stop hlt (by rw [HU2.out, hv9]; rfl)
                            clear hv9
                            go_wp2
                            go_ret2
                            exact DecPost.no HS.out hnx
                          have bv9 : (v == 9) = false := by simpa using hv9
                          have Hv9 : Hid (¬ v = 9) := hv9
                          clear hv9
                          by_cases hv10 : v = 10
                          case pos =>
                            have bv10 : (v == 10) = true := by simp [hv10]
                            have HS : Hid (decod xs = none) := HA.out.stop hlt (by rw [HU2.out, hv10]; rfl)
                            clear hv10
                            go_wp2
                            go_ret2
                            exact DecPost.no HS.out hnx
                          have bv10 : (v == 10) = false := by simpa using hv10
                          have Hv10 : Hid (¬ v = 10) := hv10
                          clear hv10
                          by_cases hv12 : v = 12
                          case pos =>
                            have bv12 : (v == 12) = true := by simp [hv12]
                            have HS : Hid (decod xs = none) := HA.out.stop hlt (by rw [HU2.out, hv12]; rfl)
                            clear hv12
                            go_wp2
                            go_ret2
                            exact DecPost.no HS.out hnx
                          have bv12 : (v == 12) = false := by simpa using hv12
                          have Hv12 : Hid (¬ v = 12) := hv12
                          clear hv12
                          by_cases hv13 : v = 13
                          case pos =>
                            have bv13 : (v == 13) = true := by simp [hv13]
                            have HS : Hid (decod xs = none) := HA.out.stop hlt (by rw [HU2.out, hv13]; rfl)
                            clear hv13
                            go_wp2
                            go_ret2
                            exact DecPost.no HS.out hnx
                          have bv13 : (v == 13) = false := by simpa using hv13
                          have Hv13 : Hid (¬ v = 13) := hv13
                          clear hv13
                          have HC : Hid (ctl v = true) := ctl_ok hbig Hv8.out Hv9.out Hv10.out Hv12.out Hv13.out
                          have HS : Hid (Sofar xs (i + 6) (acc ++ [v])) := HA.out.next hlt (by rw [HU2.out, HC.out]; rfl)
                          clear HA
                          go_wp2_with (at_builtin; refine wpList_append_dst _ rfl _ _ rfl w.heap.size _ acc rfl (hown.allocd _) ⟨wr.heap.size, 0, none⟩ 1 1 [v] rfl rfl ?c1 (by decide) ?c2 ?c3 ?_)
                          case c1 => first | exact news_at wr [v] | exact fun _ _ h => h
                          case c2 => omega
                          case c3 => first | omega | (simp; omega)
                          intro v2 w2 ho2 hb2
                          have hb3 : Below w.heap.size w w2 := (hnx.alloc (by omega) _).trans hb2
                          clear hb2 hown hnx
                          go_wp2
                          go_roundw
                          case rel => exact ⟨i + 6, acc ++ [v], by go_num, HS, ho2, hb3⟩
                          case measure => simp [intOf]; omega

end Go.Proofs.Qxb6605240a
