/- The law's walk, fmt's text told. -/
import Derived.Test.Qxb6615203aFmtLead
import Derived.Test.Qxb6615203aFmtItoa
import Derived.Stop.JoinedTold
import Derived.Stop.Texts
import Derived.Stop.FmtTextKit
namespace Go.Proofs.Qxb6615203aFmt
open Go.RowKit Go.Extern.Stop Go.Stop Go.Extern Go.Kit

def mid : List UInt8 := [32, 114, 101, 99, 111, 114, 100, 101, 100, 32, 97, 116, 32, 98, 121, 116, 101, 32]
def leadText (word : List UInt8) (a : Int) : ByteArray := ⟨(word ++ mid ++ Lib.itoa a).toArray⟩

theorem t_parse : (FmtText.parse [37, 115, 32, 114, 101, 99, 111, 114, 100, 101, 100, 32, 97, 116, 32, 98, 121, 116, 101, 32, 37, 100]).map FmtText.glue = some [.verb {} 115, .lit [32, 114, 101, 99, 111, 114, 100, 101, 100, 32, 97, 116, 32, 98, 121, 116, 101, 32], .verb {} 100] := by rfl

theorem t_text (word : List UInt8) (a : Int) (hs : word.length < 2 ^ 64) (hw : (Lit.int .i64 a).wf = true) : FmtText.text "fmt.Sprintf" (reading word a) = some (word ++ mid ++ Lib.itoa a) := by
  have hi := FmtText.operand_int_at (sh := Tryf.shape2) (k := .i64) rfl rfl a hw
  have hn := FmtText.operand_str_at (sh := Tryf.shape9) rfl rfl word hs
  rw [reading, FmtText.text_sprintf_glued t_parse (FmtText.operands_cons hn (FmtText.operands_cons hi FmtText.operands_nil))]
  simp [FmtText.render, FmtText.printArg_d _ _ hw, FmtText.printArg_s_str, mid]

/-- fmt's text, told. -/
theorem told_text (F : Interp) (word : List UInt8) (a : Int) (hs : word.length < 2 ^ 32) (hw : (Lit.int .i64 a).wf = true) :
    FmtStop.textOf (F.told "fmt.Sprintf" (reading word a) 0) = leadText word a := by
  have l1 := FmtText.itoa_length_le hw
  have ht := told_string F (t_text word a (by omega) hw) (by simp [mid]; omega)
  have e := textOf_list F.told "fmt.Sprintf" (reading word a)
  rw [ht] at e
  unfold leadText
  rw [← e]

theorem lead3 (F : Interp) (a : Int) (hw : (Lit.int .i64 a).wf = true) (b1 b2 : Nat) (w : World) (hF : F.told.answers w.tape) (h1 : w.cell? ⟨b2, 2, none⟩ = some (.pointer (some ⟨b1, 0, none⟩))) (h2 : w.cell? ⟨b1, 0, none⟩ = some (.int .u8 3)) (h3 : w.cell? ⟨b2, 3, none⟩ = some (.int .i64 a)) :
    Calls Tryf.prog 4 #[.pointer (some ⟨b2, 0, none⟩)] w fun e w' => e = .returned (.string (leadText [99, 111, 109, 109, 105, 116] a)) ∧ Grown w w' ∧ w'.tape = w.tape := by
  have := lead_commit F.told a b1 b2 w hF h1 h2 h3
  rw [told_text F _ a (by decide) hw] at this
  exact this
theorem lead7 (F : Interp) (a : Int) (hw : (Lit.int .i64 a).wf = true) (b1 b2 : Nat) (w : World) (hF : F.told.answers w.tape) (h1 : w.cell? ⟨b2, 2, none⟩ = some (.pointer (some ⟨b1, 0, none⟩))) (h2 : w.cell? ⟨b1, 0, none⟩ = some (.int .u8 7)) (h3 : w.cell? ⟨b2, 3, none⟩ = some (.int .i64 a)) :
    Calls Tryf.prog 4 #[.pointer (some ⟨b2, 0, none⟩)] w fun e w' => e = .returned (.string (leadText [100, 101, 108, 97, 121] a)) ∧ Grown w w' ∧ w'.tape = w.tape := by
  have := lead_delay F.told a b1 b2 w hF h1 h2 h3
  rw [told_text F _ a (by decide) hw] at this
  exact this

theorem grown_trans {a b c : World} (h : Grown a b) (k : Grown b c) : Grown a c :=
  ⟨World.keptBut_trans h.1 k.1, fun x => (k.2.1 x).trans (h.2.1 x), Nat.le_trans h.2.2 k.2.2⟩

/-! ### THE PLAIN LAW: the numeral tells its number -/
def val : List UInt8 → Nat := List.foldl (fun r c => r * 10 + (c.toNat - 48)) 0

theorem val_digits (u : Nat) : val (Lib.decDigits u) = u := by
  induction u using Nat.strongRecOn with
  | _ u ih =>
    by_cases h : u < 10
    · rw [Lib.decDigits_one h]; simp [val]; omega
    · rw [Lib.decDigits.eq_def u, dif_neg h]
      have := ih (u / 10) (by omega)
      unfold val at this ⊢
      rw [List.foldl_append, this]
      simp; omega

theorem digits_inj {u v : Nat} (h : Lib.decDigits u = Lib.decDigits v) : u = v := by
  rw [← val_digits u, h, val_digits v]

theorem digits_not_minus (u : Nat) : ∀ c ∈ Lib.decDigits u, c ≠ 45 := by
  induction u using Nat.strongRecOn with
  | _ u ih =>
    have hd : ∀ d, d < 10 → UInt8.ofNat (48 + d) ≠ 45 := by decide
    by_cases h : u < 10
    · rw [Lib.decDigits_one h]; intro c hc; rw [List.mem_singleton] at hc; subst hc; exact hd u h
    · rw [Lib.decDigits.eq_def u, dif_neg h]
      intro c hc
      rcases List.mem_append.1 hc with hc | hc
      · exact ih (u / 10) (by omega) c hc
      · rw [List.mem_singleton] at hc; subst hc; exact hd (u % 10) (by omega)

theorem itoa_inj {a b : Int} (h : Lib.itoa a = Lib.itoa b) : a = b := by
  unfold Lib.itoa at h
  by_cases ha : a < 0 <;> by_cases hb : b < 0
  · rw [if_pos ha, if_pos hb] at h
    have := digits_inj (List.cons.inj h).2
    omega
  · rw [if_pos ha, if_neg hb] at h
    exact absurd rfl (digits_not_minus b.toNat 45 (by rw [← h]; simp))
  · rw [if_neg ha, if_pos hb] at h
    exact absurd rfl (digits_not_minus a.toNat 45 (by rw [h]; simp))
  · rw [if_neg ha, if_neg hb] at h
    have := digits_inj h
    omega

/-- Two texts of one word are one exactly where their offsets are. -/
theorem lead_eq (word : List UInt8) (a b : Int) : ((leadText word a).toList == (leadText word b).toList) = (a == b) := by
  rw [Bool.eq_iff_iff, beq_iff_eq, beq_iff_eq]
  constructor
  · intro h
    unfold leadText at h
    rw [ByteArray.toList_mk, ByteArray.toList_mk] at h
    exact itoa_inj (List.append_cancel_left h)
  · intro h; rw [h]

def numText (a : Int) : ByteArray := ⟨(Lib.itoa a).toArray⟩
theorem numText_size {a : Int} (hw : (Lit.int .i64 a).wf = true) : (numText a).size ≤ 21 := by
  have := FmtText.itoa_length_le hw
  simpa [numText, ByteArray.size] using this

theorem lead_is (word : List UInt8) (a : Int) : ((leadText word a).toList == ((⟨word.toArray⟩ : ByteArray) ++ ⟨mid.toArray⟩ ++ numText a).toList) = true := by
  rw [numText, ByteArray.mk_append_mk, ByteArray.mk_append_mk, leadText]
  simp

theorem itoa_text (v : Int) (hv : (Lit.int .i64 v).wf = true) (w : World) :
    Calls Tryf.prog 6 #[.int .i64 v] w fun e w' => e = .returned (.string (numText v)) ∧ Grown w w' := itoa_any v hv w

set_option maxHeartbeats 400000 in
theorem walk3 (F : Interp) (a b : Int) (wa : (Lit.int .i64 a).wf = true) (wb : (Lit.int .i64 b).wf = true) (w : World) (hF : F.told.answers w.tape) :
    Calls Tryf.prog 3 #[.int .u8 3, .int .i64 a, .int .i64 b] w fun e w' => e = .returned (.bool true) ∧ Grown w w' := by
  have hE := lead_eq [99, 111, 109, 109, 105, 116] a b
  have hA := lead_is [99, 111, 109, 109, 105, 116] a
  have hB := lead_is [99, 111, 109, 109, 105, 116] b
  unfold mid at hA hB
  have sA := numText_size wa
  have sB := numText_size wb
  go_enter Tryf.func3, Tryf.ntmps3
  go_wp2_with fail
  refine (new_replay _ a _).mono ?_
  rintro e w1 ⟨rfl, c1, c2, c3, g1, t1⟩
  go_wp2_with fail
  refine (lead3 F a wa _ _ _ (by rw [t1]; exact hF) c2 c1 c3).mono ?_
  rintro e w2 ⟨rfl, g2, t2⟩
  clear c1 c2 c3
  go_wp2_with fail
  refine (new_replay _ b _).mono ?_
  rintro e w3 ⟨rfl, c1, c2, c3, g3, t3⟩
  go_wp2_with fail
  refine (lead3 F b wb _ _ _ (by rw [t3, t2, t1]; exact hF) c2 c1 c3).mono ?_
  rintro e w4 ⟨rfl, g4, t4⟩
  clear c1 c2 c3 t1 t2 t3 t4
  go_wp2_with fail
  refine (itoa_text a wa _).mono ?_
  rintro e w5 ⟨rfl, g5⟩
  go_wp2_with fail
  refine (itoa_text b wb _).mono ?_
  rintro e w6 ⟨rfl, g6⟩
  go_wp2_with fail
  go_ret
  exact ⟨rfl, grown_trans g1 (grown_trans g2 (grown_trans g3 (grown_trans g4 (grown_trans g5 g6))))⟩

set_option maxHeartbeats 400000 in
theorem walk7 (F : Interp) (a b : Int) (wa : (Lit.int .i64 a).wf = true) (wb : (Lit.int .i64 b).wf = true) (w : World) (hF : F.told.answers w.tape) :
    Calls Tryf.prog 3 #[.int .u8 7, .int .i64 a, .int .i64 b] w fun e w' => e = .returned (.bool true) ∧ Grown w w' := by
  have hE := lead_eq [100, 101, 108, 97, 121] a b
  have hA := lead_is [100, 101, 108, 97, 121] a
  have hB := lead_is [100, 101, 108, 97, 121] b
  unfold mid at hA hB
  have sA := numText_size wa
  have sB := numText_size wb
  go_enter Tryf.func3, Tryf.ntmps3
  go_wp2_with fail
  refine (new_replay _ a _).mono ?_
  rintro e w1 ⟨rfl, c1, c2, c3, g1, t1⟩
  go_wp2_with fail
  refine (lead7 F a wa _ _ _ (by rw [t1]; exact hF) c2 c1 c3).mono ?_
  rintro e w2 ⟨rfl, g2, t2⟩
  clear c1 c2 c3
  go_wp2_with fail
  refine (new_replay _ b _).mono ?_
  rintro e w3 ⟨rfl, c1, c2, c3, g3, t3⟩
  go_wp2_with fail
  refine (lead7 F b wb _ _ _ (by rw [t3, t2, t1]; exact hF) c2 c1 c3).mono ?_
  rintro e w4 ⟨rfl, g4, t4⟩
  clear c1 c2 c3 t1 t2 t3 t4
  go_wp2_with fail
  refine (itoa_text a wa _).mono ?_
  rintro e w5 ⟨rfl, g5⟩
  go_wp2_with fail
  refine (itoa_text b wb _).mono ?_
  rintro e w6 ⟨rfl, g6⟩
  go_wp2_with fail
  go_ret
  exact ⟨rfl, grown_trans g1 (grown_trans g2 (grown_trans g3 (grown_trans g4 (grown_trans g5 g6))))⟩

theorem walk_other (k a b : Int) (h3 : (k != 3) = true) (h7 : (k != 7) = true) (w : World) :
    Calls Tryf.prog 3 #[.int .u8 k, .int .i64 a, .int .i64 b] w fun e w' => e = .returned (.bool true) ∧ Grown w w' := by
  go_enter Tryf.func3, Tryf.ntmps3
  go_wp2
  go_ret
  exact ⟨rfl, Grown.refl _⟩

/-- THE LAW'S WALK, AT EVERY INPUT, fmt's text told. -/
theorem walk (F : Interp) (k a b : Int) (wa : (Lit.int .i64 a).wf = true) (wb : (Lit.int .i64 b).wf = true) (w : World) (hF : F.told.answers w.tape) :
    Calls Tryf.prog 3 #[.int .u8 k, .int .i64 a, .int .i64 b] w fun e w' => e = .returned (.bool true) ∧ Grown w w' := by
  by_cases h3 : k = 3
  · subst h3; exact walk3 F a b wa wb w hF
  · by_cases h7 : k = 7
    · subst h7; exact walk7 F a b wa wb w hF
    · exact walk_other k a b (by simpa using h3) (by simpa using h7) w

end Go.Proofs.Qxb6615203aFmt
