/- The law's walk. -/
import Derived.Test.Qxb6616717aNew
namespace Go.Proofs.Qxb6616717a
open Go.RowKit

set_option maxRecDepth 20000 in
set_option maxHeartbeats 1000000 in
theorem walk_in (c r k : Nat) (hc1 : 1 ≤ c) (hc2 : c ≤ 1000) (hr1 : 1 ≤ r) (hr2 : r ≤ 1000) (hk : k ≤ 65536) (w : World) :
    Calls Try.prog 3 #[.int .i64 (c : Int), .int .i64 (r : Int), .int .i64 (k : Int)] w fun e w' => e = .returned (.bool true) ∧ Grown w w' := by
  go_enter Try.func3, Try.ntmps3
  go_wp2_with fail
  refine (new_any c r hc1 hc2 hr1 hr2 _).mono ?_
  rintro e w1 ⟨rfl, hs, hg⟩
  have HS : Hid (Scr w1 w.heap.size 0 false ∧ Grown w w1) := ⟨hs, hg⟩
  clear hs hg
  go_wp2_with fail
  go_loopw [8] (fun x wr => ∃ j : Nat, j ≤ k ∧ x = .int .i64 (j : Int) ∧ Scr wr w.heap.size (min j 23) (decide (24 ≤ j)) ∧ Grown w wr) (fun x _ => k - (intOf x).toNat)
  case atStart => exact ⟨0, Nat.zero_le _, rfl, by simpa using HS.out.1, HS.out.2⟩
  case round =>
    obtain ⟨j, hj, rfl, hs, hg⟩ := hrel
    clear HS
    by_cases hlt : j < k
    · have HJ : Hid (Scr wr w.heap.size (min j 23) (decide (24 ≤ j)) ∧ Grown w wr) := ⟨hs, hg⟩
      clear hs hg
      go_wp2_with fail
      refine (next_any w w.heap.size j _ (Nat.le_refl _) HJ.out.1 HJ.out.2).mono ?_
      rintro e w2 ⟨rfl, hs2, hg2⟩
      have H2 : Hid (Scr w2 w.heap.size (min (j + 1) 23) (decide (24 ≤ j + 1)) ∧ Grown w w2) := ⟨hs2, hg2⟩
      clear hs2 hg2
      go_wp2
      go_roundw
      case rel => exact ⟨j + 1, by omega, by go_num, H2.out.1, H2.out.2⟩
      case measure => simp [intOf]; omega
    · obtain rfl : j = k := by omega
      by_cases h23 : j ≤ 23
      · have e1 : min j 23 = j := by omega
        have e2 : decide (24 ≤ j) = false := by simp; omega
        rw [e1, e2] at hs
        have HJ : Hid (Scr wr w.heap.size j false ∧ Grown w wr) := ⟨hs, hg⟩
        clear hs hg e1 e2
        go_wp2_with fail
        refine (nparams_any w.heap.size j _ HJ.out.1.np).mono ?_
        rintro e w2 ⟨rfl, rfl⟩
        go_wp2_with fail
        refine (invalid_any w.heap.size false _ HJ.out.1.inv).mono ?_
        rintro e w2 ⟨rfl, rfl⟩
        go_wp2_with fail
        go_loop [10] (fun x => ∃ i : Nat, i ≤ 24 ∧ x = .int .i64 (i : Int)) (fun x => 24 - (intOf x).toNat)
        case atStart => exact ⟨0, by omega, rfl⟩
        case round =>
          obtain ⟨i, hi, rfl⟩ := hrel
          by_cases hlt2 : i < 24
          · have hp := HJ.out.1.par i hlt2
            by_cases h0 : i = 0
            · have e : parAt j i = 0 := by unfold parAt; rw [if_neg (by omega)]
              rw [e] at hp
              have hi1 : ¬ (1 ≤ i) := by omega
              have HP : Hid (wr.cell? ⟨w.heap.size, 31 + i, none⟩ = some (.int .i64 0)) := hp
              clear hp e h0
              go_wp2_with fail
              refine (param_any w.heap.size i hlt2 0 _ HP.out).mono ?_
              rintro e w2 ⟨rfl, rfl⟩
              go_wp2
              go_round
              case rel => exact ⟨i + 1, by omega, by go_num⟩
              case measure => simp [intOf]; omega
            · have hi1 : 1 ≤ i := by omega
              by_cases h1 : i ≤ j
              · have e : parAt j i = -1 := by unfold parAt; rw [if_pos (by omega)]
                rw [e] at hp
                have HP : Hid (wr.cell? ⟨w.heap.size, 31 + i, none⟩ = some (.int .i64 (-1))) := hp
                clear hp e h0
                go_wp2_with fail
                refine (param_any w.heap.size i hlt2 (-1) _ HP.out).mono ?_
                rintro e w2 ⟨rfl, rfl⟩
                go_wp2
                go_round
                case rel => exact ⟨i + 1, by omega, by go_num⟩
                case measure => simp [intOf]; omega
              · have e : parAt j i = 0 := by unfold parAt; rw [if_neg (by omega)]
                rw [e] at hp
                have HP : Hid (wr.cell? ⟨w.heap.size, 31 + i, none⟩ = some (.int .i64 0)) := hp
                clear hp e h0
                go_wp2_with fail
                refine (param_any w.heap.size i hlt2 0 _ HP.out).mono ?_
                rintro e w2 ⟨rfl, rfl⟩
                go_wp2
                go_round
                case rel => exact ⟨i + 1, by omega, by go_num⟩
                case measure => simp [intOf]; omega
          · go_wp2
            go_ret
            exact ⟨rfl, HJ.out.2⟩
      · have e1 : min j 23 = 23 := by omega
        have e2 : decide (24 ≤ j) = true := by simp; omega
        rw [e1, e2] at hs
        have hd : (!decide ((24 : Int) ≤ (j : Int))) = false := by simp; omega
        have HJ : Hid (Scr wr w.heap.size 23 true ∧ Grown w wr) := ⟨hs, hg⟩
        clear hs hg e1 e2
        go_wp2_with fail
        refine (nparams_any w.heap.size 23 _ HJ.out.1.np).mono ?_
        rintro e w2 ⟨rfl, rfl⟩
        go_wp2_with fail
        refine (invalid_any w.heap.size true _ HJ.out.1.inv).mono ?_
        rintro e w2 ⟨rfl, rfl⟩
        go_wp2_with fail
        go_loop [10] (fun x => ∃ i : Nat, i ≤ 24 ∧ x = .int .i64 (i : Int)) (fun x => 24 - (intOf x).toNat)
        case atStart => exact ⟨0, by omega, rfl⟩
        case round =>
          obtain ⟨i, hi, rfl⟩ := hrel
          by_cases hlt2 : i < 24
          · have hp := HJ.out.1.par i hlt2
            by_cases h0 : i = 0
            · have e : parAt 23 i = 0 := by unfold parAt; rw [if_neg (by omega)]
              rw [e] at hp
              have hi1 : ¬ (1 ≤ i) := by omega
              have HP : Hid (wr.cell? ⟨w.heap.size, 31 + i, none⟩ = some (.int .i64 0)) := hp
              clear hp e h0
              go_wp2_with fail
              refine (param_any w.heap.size i hlt2 0 _ HP.out).mono ?_
              rintro e w2 ⟨rfl, rfl⟩
              go_wp2
              go_round
              case rel => exact ⟨i + 1, by omega, by go_num⟩
              case measure => simp [intOf]; omega
            · have hi1 : 1 ≤ i := by omega
              by_cases h1 : i ≤ 23
              · have e : parAt 23 i = -1 := by unfold parAt; rw [if_pos (by omega)]
                rw [e] at hp
                have HP : Hid (wr.cell? ⟨w.heap.size, 31 + i, none⟩ = some (.int .i64 (-1))) := hp
                clear hp e h0
                go_wp2_with fail
                refine (param_any w.heap.size i hlt2 (-1) _ HP.out).mono ?_
                rintro e w2 ⟨rfl, rfl⟩
                go_wp2
                go_round
                case rel => exact ⟨i + 1, by omega, by go_num⟩
                case measure => simp [intOf]; omega
              · exact absurd (show i ≤ 23 by omega) h1
          · go_wp2
            go_ret
            exact ⟨rfl, HJ.out.2⟩

theorem walk_out (c r k : Int) (h : c < 1 ∨ 1000 < c ∨ r < 1 ∨ 1000 < r ∨ k < 0 ∨ 65536 < k) (w : World) :
    Calls Try.prog 3 #[.int .i64 c, .int .i64 r, .int .i64 k] w fun e w' => e = .returned (.bool true) ∧ Grown w w' := by
  by_cases c1 : c < 1
  · go_enter Try.func3, Try.ntmps3
    go_wp2
    go_ret
    exact ⟨rfl, Grown.refl _⟩
  by_cases c2 : 1000 < c
  · go_enter Try.func3, Try.ntmps3
    go_wp2
    go_ret
    exact ⟨rfl, Grown.refl _⟩
  by_cases c3 : r < 1
  · go_enter Try.func3, Try.ntmps3
    go_wp2
    go_ret
    exact ⟨rfl, Grown.refl _⟩
  by_cases c4 : 1000 < r
  · go_enter Try.func3, Try.ntmps3
    go_wp2
    go_ret
    exact ⟨rfl, Grown.refl _⟩
  by_cases c5 : k < 0
  · go_enter Try.func3, Try.ntmps3
    go_wp2
    go_ret
    exact ⟨rfl, Grown.refl _⟩
  have c6 : 65536 < k := by omega
  go_enter Try.func3, Try.ntmps3
  go_wp2
  go_ret
  exact ⟨rfl, Grown.refl _⟩

/-- THE LAW'S WALK, AT EVERY INPUT. -/
theorem law_walk (c r k : Int) (w : World) :
    Calls Try.prog 3 #[.int .i64 c, .int .i64 r, .int .i64 k] w fun e w' => e = .returned (.bool true) ∧ Grown w w' := by
  by_cases h : c < 1 ∨ 1000 < c ∨ r < 1 ∨ 1000 < r ∨ k < 0 ∨ 65536 < k
  · exact walk_out c r k h w
  · obtain ⟨c', rfl⟩ : ∃ n : Nat, c = n := ⟨c.toNat, by omega⟩
    obtain ⟨r', rfl⟩ : ∃ n : Nat, r = n := ⟨r.toNat, by omega⟩
    obtain ⟨k', rfl⟩ : ∃ n : Nat, k = n := ⟨k.toNat, by omega⟩
    exact walk_in c' r' k' (by omega) (by omega) (by omega) (by omega) (by omega) w

end Go.Proofs.Qxb6616717a
