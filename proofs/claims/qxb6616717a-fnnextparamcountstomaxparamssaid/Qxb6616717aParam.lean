/- The walks of ZZnextParam, ZZnparams, ZZinvalid, ZZparam over a screen that lies in a block of its own. -/
import Derived.Test.Qxb6616717aProg
import Derived.WalkKit
import Derived.WalkSpells
import Derived.WalkLawsBesides
import Derived.RegionTactic
import Derived.BigRegion
namespace Go.Proofs.Qxb6616717a
open Go.RowKit

/-- The parameter at place j of a screen with n parameters opened. -/
def parAt (n j : Nat) : Int := if 1 ≤ j ∧ j ≤ n then -1 else 0

/-- The screen in block B: n parameters opened, 'invalid' iv. -/
structure Scr (wr : World) (B n : Nat) (iv : Bool) : Prop where
  np : wr.cell? ⟨B, 55, none⟩ = some (.int .i64 (n : Int))
  inv : wr.cell? ⟨B, 59, none⟩ = some (.bool iv)
  par : ∀ j, j < 24 → wr.cell? ⟨B, 31 + j, none⟩ = some (.int .i64 (parAt n j))
  frozen : ∀ i, wr.frozen? ⟨B, i, none⟩ = false

theorem nparams_any (B n : Nat) (w : World) (h : w.cell? ⟨B, 55, none⟩ = some (.int .i64 (n : Int))) :
    Calls Try.prog 6 #[.pointer (some ⟨B, 0, none⟩)] w fun e w' => e = .returned (.int .i64 (n : Int)) ∧ w = w' := by
  go_enter Try.func6, Try.ntmps6
  go_wp2
  go_ret
  exact ⟨rfl, rfl⟩

theorem invalid_any (B : Nat) (b : Bool) (w : World) (h : w.cell? ⟨B, 59, none⟩ = some (.bool b)) :
    Calls Try.prog 7 #[.pointer (some ⟨B, 0, none⟩)] w fun e w' => e = .returned (.bool b) ∧ w = w' := by
  go_enter Try.func7, Try.ntmps7
  go_wp2
  go_ret
  exact ⟨rfl, rfl⟩

theorem param_any (B j : Nat) (hj : j < 24) (x : Int) (w : World) (h : w.cell? ⟨B, 31 + j, none⟩ = some (.int .i64 x)) :
    Calls Try.prog 8 #[.pointer (some ⟨B, 0, none⟩), .int .i64 (j : Int)] w fun e w' => e = .returned (.int .i64 x) ∧ w = w' := by
  go_enter Try.func8, Try.ntmps8
  go_wp2
  go_ret
  exact ⟨rfl, rfl⟩

theorem next_full (B : Nat) (w : World) (b : Bool) (h : w.cell? ⟨B, 55, none⟩ = some (.int .i64 23)) (hi : w.cell? ⟨B, 59, none⟩ = some (.bool b)) (hf : w.frozen? ⟨B, 59, none⟩ = false) :
    Calls Try.prog 5 #[.pointer (some ⟨B, 0, none⟩)] w fun e w' => e = .returned (.tuple #[]) ∧ w' = w.setCell ⟨B, 59, none⟩ (.bool true) := by
  go_enter Try.func5, Try.ntmps5
  go_wp2
  exact bodyPost_ret (v := .tuple #[]) (results_none (fn := Try.f11) rfl _ _ _) rfl (by
    go_wp2
    go_end0
    exact ⟨rfl, rfl⟩)

theorem next_room (B n : Nat) (hn : n < 23) (v : Value) (w : World) (h : w.cell? ⟨B, 55, none⟩ = some (.int .i64 (n : Int))) (hv : w.cell? ⟨B, 31 + (n + 1), none⟩ = some v) (hf : w.frozen? ⟨B, 55, none⟩ = false) (hf2 : w.frozen? ⟨B, 31 + (n + 1), none⟩ = false) :
    Calls Try.prog 5 #[.pointer (some ⟨B, 0, none⟩)] w fun e w' => e = .returned (.tuple #[]) ∧ w' = ((w.setCell ⟨B, 55, none⟩ (.int .i64 ((n : Int) + 1))).setCell ⟨B, 31 + (n + 1), none⟩ (.int .i64 (-1))).drew := by
  have hv' : ∀ x, (w.setCell ⟨B, 55, none⟩ x).cell? ⟨B, 31 + (n + 1), none⟩ = some v := fun x => by
    rw [World.cell?_setCell_other _ _ _ _ (fun h => by injection h; omega)]; exact hv
  go_enter Try.func5, Try.ntmps5
  go_wp2
  go_region
  go_end0
  go_wp2
  go_end0
  exact ⟨rfl, rfl⟩

theorem scr_full {w : World} {B : Nat} {iv : Bool} (h : Scr w B 23 iv) : Scr (w.setCell ⟨B, 59, none⟩ (.bool true)) B 23 true := by
  have off : ∀ i, i ≠ 59 → (w.setCell ⟨B, 59, none⟩ (.bool true)).cell? ⟨B, i, none⟩ = w.cell? ⟨B, i, none⟩ := fun i hi => World.cell?_setCell_other _ _ _ _ (fun h => hi (by injection h; omega))
  refine ⟨?_, World.cell?_setCell_same' _ _ _ (by rw [h.inv]; rfl), fun j hj => ?_, fun i => ?_⟩
  · rw [off _ (by omega)]; exact h.np
  · rw [off _ (by omega)]; exact h.par j hj
  · rw [World.frozen?_setCell]; exact h.frozen i

theorem scr_room {w : World} {B n : Nat} {iv : Bool} (h : Scr w B n iv) (hn : n < 23) :
    Scr ((w.setCell ⟨B, 55, none⟩ (.int .i64 ((n : Int) + 1))).setCell ⟨B, 31 + (n + 1), none⟩ (.int .i64 (-1))).drew B (n + 1) iv := by
  have off1 : ∀ i, i ≠ 55 → (w.setCell ⟨B, 55, none⟩ (.int .i64 ((n : Int) + 1))).cell? ⟨B, i, none⟩ = w.cell? ⟨B, i, none⟩ := fun i hi => World.cell?_setCell_other _ _ _ _ (fun h => hi (by injection h; omega))
  have off2 : ∀ i, i ≠ 31 + (n + 1) → (((w.setCell ⟨B, 55, none⟩ (.int .i64 ((n : Int) + 1))).setCell ⟨B, 31 + (n + 1), none⟩ (.int .i64 (-1))).drew).cell? ⟨B, i, none⟩ = (w.setCell ⟨B, 55, none⟩ (.int .i64 ((n : Int) + 1))).cell? ⟨B, i, none⟩ :=
    fun i hi => World.cell?_setCell_other _ _ _ _ (fun h => hi (by injection h; omega))
  refine ⟨?_, ?_, fun j hj => ?_, fun i => ?_⟩
  · rw [off2 _ (by omega), World.cell?_setCell_same' _ _ _ (by rw [h.np]; rfl)]
    rfl
  · rw [off2 _ (by omega), off1 _ (by omega)]; exact h.inv
  · by_cases e : j = n + 1
    · subst e
      have : (((w.setCell ⟨B, 55, none⟩ (.int .i64 ((n : Int) + 1))).setCell ⟨B, 31 + (n + 1), none⟩ (.int .i64 (-1))).drew).cell? ⟨B, 31 + (n + 1), none⟩ = some (.int .i64 (-1)) :=
        World.cell?_setCell_same' _ _ _ (by rw [off1 _ (by omega), h.par _ hj]; rfl)
      rw [this]
      unfold parAt
      rw [if_pos (by omega)]
    · rw [off2 _ (by omega), off1 _ (by omega), h.par j hj]
      unfold parAt
      by_cases c : 1 ≤ j ∧ j ≤ n
      · rw [if_pos c, if_pos (by omega)]
      · rw [if_neg c, if_neg (by omega)]
  · show ((w.setCell ⟨B, 55, none⟩ (.int .i64 ((n : Int) + 1))).setCell ⟨B, 31 + (n + 1), none⟩ (.int .i64 (-1))).frozen? _ = false
    rw [World.frozen?_setCell, World.frozen?_setCell]; exact h.frozen i

/-- ZZnextParam, on every screen: one parameter more, or 'invalid' where 23 are open. -/
theorem next_any (w0 : World) (B k : Nat) (w : World) (hB : w0.heap.size ≤ B) (hS : Scr w B (min k 23) (decide (24 ≤ k))) (hg : Grown w0 w) :
    Calls Try.prog 5 #[.pointer (some ⟨B, 0, none⟩)] w fun e w' => e = .returned (.tuple #[]) ∧ Scr w' B (min (k + 1) 23) (decide (24 ≤ k + 1)) ∧ Grown w0 w' := by
  by_cases hk : k < 23
  · have e1 : min k 23 = k := by omega
    have e2 : min (k + 1) 23 = k + 1 := by omega
    have d1 : decide (24 ≤ k) = false := by simp; omega
    have d2 : decide (24 ≤ k + 1) = false := by simp; omega
    rw [e1, d1] at hS
    rw [e2, d2]
    refine (next_room B k hk _ w hS.np (hS.par (k + 1) (by omega)) (hS.frozen _) (hS.frozen _)).mono ?_
    rintro e w' ⟨rfl, rfl⟩
    exact ⟨rfl, scr_room hS hk, ((hg.setCell hB _).setCell hB _).drew⟩
  · have e1 : min k 23 = 23 := by omega
    have e2 : min (k + 1) 23 = 23 := by omega
    have d2 : decide (24 ≤ k + 1) = true := by simp; omega
    rw [e1] at hS
    rw [e2, d2]
    refine (next_full B w _ hS.np hS.inv (hS.frozen _)).mono ?_
    rintro e w' ⟨rfl, rfl⟩
    exact ⟨rfl, scr_full hS, hg.setCell hB _⟩

end Go.Proofs.Qxb6616717a
