/- The walks of ZZnewLeadReplay and ZZleading: for every F. -/
import Derived.Test.Qxb6615203aFmtFacts
import Derived.WalkKit
import Derived.WalkSpells
import Derived.WalkLawsBesides
import Derived.Outline
namespace Go.Proofs.Qxb6615203aFmt
open Go.RowKit Go.Extern.Stop Go.Stop Go.Extern
attribute [local go_sem] Tryf.call9 Tryf.guard Tryf.fmt0 Tryf.fmt0r Tryf.op2_100 Tryf.op9_115

/-- WHAT fmt IS ASKED. -/
def reading (word : List UInt8) (a : Int) : List (List UInt8) :=
  [[37, 115, 32, 114, 101, 99, 111, 114, 100, 101, 100, 32, 97, 116, 32, 98, 121, 116, 101, 32, 37, 100], Tryf.shape9, FmtStop.pack word, Tryf.shape2, digits 8 (a % 18446744073709551616).toNat]

theorem new_replay (k a : Int) (w : World) :
    Calls Tryf.prog 5 #[.int .u8 k, .int .i64 a] w fun e w' => e = .returned (.pointer (some ⟨w.heap.size + 1, 0, none⟩)) ∧
      w'.cell? ⟨w.heap.size, 0, none⟩ = some (.int .u8 k) ∧ w'.cell? ⟨w.heap.size + 1, 2, none⟩ = some (.pointer (some ⟨w.heap.size, 0, none⟩)) ∧
      w'.cell? ⟨w.heap.size + 1, 3, none⟩ = some (.int .i64 a) ∧ Grown w w' ∧ w'.tape = w.tape := by
  go_enter Tryf.func5, Tryf.ntmps5
  go_wp2
  go_ret
  refine ⟨rfl, ?_, ?_, ?_, ?_, rfl⟩
  · go_simp
  · go_simp
  · go_simp
  · repeat (first | exact Grown.refl _ | apply Grown.drew | apply Grown.alloc)

theorem lead_commit (F : Interp) (a : Int) (b1 b2 : Nat) (w : World) (hF : F.answers w.tape) (h1 : w.cell? ⟨b2, 2, none⟩ = some (.pointer (some ⟨b1, 0, none⟩))) (h2 : w.cell? ⟨b1, 0, none⟩ = some (.int .u8 3)) (h3 : w.cell? ⟨b2, 3, none⟩ = some (.int .i64 a)) :
    Calls Tryf.prog 4 #[.pointer (some ⟨b2, 0, none⟩)] w fun e w' => e = .returned (.string (FmtStop.textOf (F "fmt.Sprintf" (reading [99, 111, 109, 109, 105, 116] a) 0))) ∧ Grown w w' ∧ w'.tape = w.tape := by
  have hF' := answers_open hF
  go_enter Tryf.func4, Tryf.ntmps4
  go_wp2
  go_ret
  exact ⟨rfl, by repeat (first | exact Grown.refl _ | apply Grown.drew | apply Grown.alloc), rfl⟩

theorem lead_delay (F : Interp) (a : Int) (b1 b2 : Nat) (w : World) (hF : F.answers w.tape) (h1 : w.cell? ⟨b2, 2, none⟩ = some (.pointer (some ⟨b1, 0, none⟩))) (h2 : w.cell? ⟨b1, 0, none⟩ = some (.int .u8 7)) (h3 : w.cell? ⟨b2, 3, none⟩ = some (.int .i64 a)) :
    Calls Tryf.prog 4 #[.pointer (some ⟨b2, 0, none⟩)] w fun e w' => e = .returned (.string (FmtStop.textOf (F "fmt.Sprintf" (reading [100, 101, 108, 97, 121] a) 0))) ∧ Grown w w' ∧ w'.tape = w.tape := by
  have hF' := answers_open hF
  go_enter Tryf.func4, Tryf.ntmps4
  go_wp2
  go_ret
  exact ⟨rfl, by repeat (first | exact Grown.refl _ | apply Grown.drew | apply Grown.alloc), rfl⟩

end Go.Proofs.Qxb6615203aFmt
