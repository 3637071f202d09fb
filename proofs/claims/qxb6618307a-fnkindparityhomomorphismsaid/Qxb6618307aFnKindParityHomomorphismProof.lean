/- The proof of 'Rows.FnKindParityHomomorphismSaid'. The frame is the guide's shell; the plain law, the callees' contracts and the walk are typed by hand. -/
import Derived.Test.Qxb6618307aRows
import Derived.WalkKit
import Derived.ProofKit
import Derived.OpenShut
import Derived.ShutString
namespace Go.Proofs.Qxb6618307a.fnKindParityHomomorphism
open Go.ChangeShapes Go.WideShapes Go.ChangeAt Go.RowKit
open Go.ChangeMaps (open_string shut_string)
set_option linter.unusedVariables false      -- a walk need not use every 'w<i>' (that an integer argument fits its kind)

theorem own : ownKnob Try.prog.godebug = none := by kernel_rfl

/-! ### THE PLAIN LAW: parities, wraps and all -/
theorem tmod_emod (k : Int) : k.tmod 2 = 0 ↔ k % 2 = 0 :=
  ⟨fun h => Int.emod_eq_zero_of_dvd (Int.dvd_of_tmod_eq_zero h), fun h => Int.tmod_eq_zero_of_dvd (Int.dvd_of_emod_eq_zero h)⟩
theorem even_sum (a b : Int) : wrap64 (a + b) % 2 = (a % 2 + b % 2) % 2 := by unfold wrap64; omega
theorem even_next (a : Int) : wrap64 (a + 1) % 2 = (a % 2 + 1) % 2 := by unfold wrap64; omega

/-! ### THE CALLEES -/
theorem kind_up (k : Int) (h : k % 2 = 0) (w : World) :
    Calls Try.prog 4 #[.int .i64 k] w fun e w' => e = .returned (.string ⟨#[117, 112]⟩) ∧ w' = w := by
  have h1 : k.tmod 2 = 0 := (tmod_emod k).2 h
  clear h
  go_enter Try.func4, Try.ntmps4
  go_wp2
  go_ret
  exact ⟨rfl, rfl⟩
theorem kind_down (k : Int) (h : k % 2 = 1) (w : World) :
    Calls Try.prog 4 #[.int .i64 k] w fun e w' => e = .returned (.string ⟨#[100, 111, 119, 110]⟩) ∧ w' = w := by
  have h1 : ¬ k.tmod 2 = 0 := fun hh => by have := (tmod_emod k).1 hh; omega
  clear h
  go_enter Try.func4, Try.ntmps4
  go_wp2
  go_ret
  exact ⟨rfl, rfl⟩

/-! ### STEP 1: THE WALK -/
theorem walk (a0 : Int) (a1 : Int) (w0 : (Lit.int .i64 a0).wf = true) (w1 : (Lit.int .i64 a1).wf = true) (w : World) :
    Calls Try.prog 3 #[.int .i64 a0, .int .i64 a1] w fun e w' => e = .returned (.bool true) ∧ Grown w w' := by
  have hs := even_sum a0 a1
  have hn := even_next a0
  rcases Int.emod_two_eq a0 with ha | ha <;> rcases Int.emod_two_eq a1 with hb | hb
  · have s : wrap64 (a0 + a1) % 2 = 0 := by omega
    have n : wrap64 (a0 + 1) % 2 = 1 := by omega
    clear hs hn
    go_enter Try.func3, Try.ntmps3
    go_wp2_with fail
    refine (kind_up a0 ha _).mono ?_
    rintro e w' ⟨rfl, rfl⟩
    go_wp2_with fail
    refine (kind_up a1 hb _).mono ?_
    rintro e w' ⟨rfl, rfl⟩
    go_wp2_with fail
    refine (kind_up _ s _).mono ?_
    rintro e w' ⟨rfl, rfl⟩
    go_wp2_with fail
    refine (kind_down _ n _).mono ?_
    rintro e w' ⟨rfl, rfl⟩
    go_wp2
    go_ret
    exact ⟨rfl, Grown.refl _⟩
  · have s : wrap64 (a0 + a1) % 2 = 1 := by omega
    have n : wrap64 (a0 + 1) % 2 = 1 := by omega
    clear hs hn
    go_enter Try.func3, Try.ntmps3
    go_wp2_with fail
    refine (kind_up a0 ha _).mono ?_
    rintro e w' ⟨rfl, rfl⟩
    go_wp2_with fail
    refine (kind_down a1 hb _).mono ?_
    rintro e w' ⟨rfl, rfl⟩
    go_wp2_with fail
    refine (kind_down _ s _).mono ?_
    rintro e w' ⟨rfl, rfl⟩
    go_wp2_with fail
    refine (kind_down _ n _).mono ?_
    rintro e w' ⟨rfl, rfl⟩
    go_wp2
    go_ret
    exact ⟨rfl, Grown.refl _⟩
  · have s : wrap64 (a0 + a1) % 2 = 1 := by omega
    have n : wrap64 (a0 + 1) % 2 = 0 := by omega
    clear hs hn
    go_enter Try.func3, Try.ntmps3
    go_wp2_with fail
    refine (kind_down a0 ha _).mono ?_
    rintro e w' ⟨rfl, rfl⟩
    go_wp2_with fail
    refine (kind_up a1 hb _).mono ?_
    rintro e w' ⟨rfl, rfl⟩
    go_wp2_with fail
    refine (kind_down _ s _).mono ?_
    rintro e w' ⟨rfl, rfl⟩
    go_wp2_with fail
    refine (kind_up _ n _).mono ?_
    rintro e w' ⟨rfl, rfl⟩
    go_wp2
    go_ret
    exact ⟨rfl, Grown.refl _⟩
  · have s : wrap64 (a0 + a1) % 2 = 0 := by omega
    have n : wrap64 (a0 + 1) % 2 = 0 := by omega
    clear hs hn
    go_enter Try.func3, Try.ntmps3
    go_wp2_with fail
    refine (kind_down a0 ha _).mono ?_
    rintro e w' ⟨rfl, rfl⟩
    go_wp2_with fail
    refine (kind_down a1 hb _).mono ?_
    rintro e w' ⟨rfl, rfl⟩
    go_wp2_with fail
    refine (kind_up _ s _).mono ?_
    rintro e w' ⟨rfl, rfl⟩
    go_wp2_with fail
    refine (kind_up _ n _).mono ?_
    rintro e w' ⟨rfl, rfl⟩
    go_wp2
    go_ret
    exact ⟨rfl, Grown.refl _⟩

/-! ### THE ROW's STEP: WRITTEN OUT: LEAVE IT -/
set_option maxRecDepth 100000 in
theorem lifted (os : Os) (started : os.Started) (H : Type) (enc : TypeId × Value → H) :
    ReturnsInHanded {} Try.checked os 3 .any (Rows.fnKindParityHomomorphismSpec.pre6 enc Try.prog Try.f3 Rows.fnKindParityHomomorphismRow.domain false) (Rows.fnKindParityHomomorphismSpec.post enc Try.prog Try.f3 false true false false) := by
  refine returnsInHanded_of_change (C := Try.checked) own started (by kernel_rfl) Try.func3
    (ChangeSpec.witness6 (enc := enc) (C := Try.checked) false ⟨#[], #[.int .i64 0, .int .i64 0], []⟩ 8 (by kernel_rfl) (by kernel_rfl) (by kernel_rfl) (by kernel_rfl)) ?_
  intro W base args ds gs before hval0 hW hcnd _
  have hval : ∀ (j : Nat) t v, Try.f3.params[j]? = some t → args[j]? = some v → Value.okWide Try.prog W .any base t v := hval0
  have hW' := hW
  obtain ⟨p, q, hA0, hV, rfl, hfz, hnd⟩ := hW
  have hA : DataW.TrodAll enc Try.prog W 0 (fun _ => true) true Try.f3.params.toList args.toList ds p := hA0
  rw [Try.params3] at hA hval
  obtain ⟨v0, vs0, d0, ds0, p0, q0, hargs, rfl, rfl, h0, r0⟩ := trodAll_cons hA
  obtain ⟨v1, vs1, d1, ds1, p1, q1, rfl, rfl, rfl, h1, r1⟩ := trodAll_cons r0
  obtain ⟨rfl, rfl, rfl⟩ := trodAll_nil r1
  obtain rfl : args = #[v0, v1] := by cases args; simp_all
  obtain ⟨rfl, rfl⟩ := trodVars_none hV
  obtain ⟨a0, rfl, rfl, rfl, w0⟩ := open_int Try.underlying3 (hval 0 3 v0 rfl rfl) h0
  obtain ⟨a1, rfl, rfl, rfl, w1⟩ := open_int Try.underlying3 (hval 1 3 v1 rfl rfl) h1
  clear hA0 hval0
  simp only [List.append_nil] at hW'
  refine (walk a0 a1 w0 w1 W).mono fun e W' ⟨he, hg⟩ => ?_
  subst he
  exact ⟨_, rfl, post_of_same (pa := []) (pv := []) hW' (fun _ _ _ => (trodAll_cons_mk (shut_bool Try.underlying4 _) trodAll_mk0)) (fun sp _ => (trodAll_cons_mk (shut_int Try.underlying3 w0) (trodAll_cons_mk (shut_int Try.underlying3 w1) trodAll_mk0))) (fun _ _ => rfl) rfl
    (hg.frame _) hg.2.1 (ok_one (by kernel_rfl) rfl (okWide_bool_mk Try.underlying4 _))⟩

theorem over : Rows.fnKindParityHomomorphismRow.holds Try.pinned (OpenSpec.ofChange Rows.fnKindParityHomomorphismSpec) :=
  OpenClaim.holds_of_wide 3 Try.f3 rfl rfl rfl rfl rfl rfl rfl ⟨rfl, rfl, rfl, rfl, rfl⟩ rfl rfl rfl rfl rfl (by kernel_rfl) Try.func3 (by kernel_rfl)
    (of_decide_eq_true (by kernel_rfl)) (by unfold Func.isWrapper; first | (rw [if_pos (by decide +kernel)]; kernel_rfl) | (rw [if_neg (by decide +kernel)]; exact ⟨rfl, rfl⟩))
    (fun os started H enc _ => lifted os started H enc)

/-- ████ THE STATEMENT ████ -/
theorem proved : Rows.FnKindParityHomomorphismSaid :=
  over
end Go.Proofs.Qxb6618307a.fnKindParityHomomorphism
