/- zzItoa: the text writes the decimal numeral: 'Lib.itoa' of every int64. -/
import Derived.Test.Qxb6615203aFmtProg
import Derived.WalkKit
import Derived.WalkSpells
import Derived.WalkLawsBesides
import Derived.Lib.ItoaLen
import Derived.Laws.IdiomStrings
namespace Go.Proofs.Qxb6615203aFmt
open Go.RowKit

/-- The loop's relation, without the frame: n: what is left of the number; q: where the digits begin; suf: the digits laid. -/
structure Laid (w : World) (u0 n q : Nat) (suf : List UInt8) (wr : World) : Prop where
  len : q + suf.length = 20
  zero : n = 0 → suf = Lib.decDigits u0
  more : n ≠ 0 → Lib.decDigits n ++ suf = Lib.decDigits u0
  le : n ≤ u0
  any : ∀ i, i < 20 → ∃ v, wr.cell? ⟨w.heap.size, i, none⟩ = some v
  cell : ∀ j (h : j < suf.length), wr.cell? ⟨w.heap.size, q + j, none⟩ = some (.int .u8 (suf[j].toNat : Int))
  frozen : ∀ i, wr.frozen? ⟨w.heap.size, i, none⟩ = false
  grown : Grown w wr

theorem wrap_neg_neg (u0 : Nat) (h1 : 1 ≤ u0) (h2 : u0 ≤ 9223372036854775808) : IntKind.u64.wrap (-IntKind.u64.wrap (-(u0 : Int))) = u0 := by
  simp [IntKind.wrap, IntKind.bits, IntKind.signed]; omega

def zeros20 : Array Value := #[Value.int .u8 0, Value.int .u8 0, Value.int .u8 0, Value.int .u8 0, Value.int .u8 0, Value.int .u8 0, Value.int .u8 0, Value.int .u8 0, Value.int .u8 0, Value.int .u8 0, Value.int .u8 0, Value.int .u8 0, Value.int .u8 0, Value.int .u8 0, Value.int .u8 0, Value.int .u8 0, Value.int .u8 0, Value.int .u8 0, Value.int .u8 0, Value.int .u8 0]
theorem zeros20_at (i : Nat) (h : i < 20) : zeros20[i]? = some (.int .u8 0) := by
  have e : zeros20 = Array.replicate 20 (.int .u8 0) := rfl
  rw [e, Array.getElem?_replicate, if_pos h]

/-- The relation at the loop's start. -/
theorem laid_start (w : World) (u0 : Nat) (h1 : 1 ≤ u0) : Laid w u0 u0 20 [] (w.alloc (.cells zeros20 53)) where
  len := rfl
  zero h := by omega
  more _ := by simp
  le := Nat.le_refl _
  any i hi := ⟨_, by rw [World.cell?_alloc_new, zeros20_at i hi]⟩
  cell j h := by simp at h
  frozen i := World.frozen?_alloc_new _ _ _ _
  grown := (Grown.refl w).alloc _ _

theorem digits_pos (n : Nat) : 1 ≤ (Lib.decDigits n).length := by rw [Lib.decDigits_length]; exact Lib.nDigits_pos n

/-- There is room for one digit more wherever a digit is left. -/
theorem laid_room {w wr : World} {u0 n q : Nat} {suf : List UInt8} (L : Laid w u0 n q suf wr) (h2 : u0 ≤ 9223372036854775808) (hn : 0 < n) : 1 ≤ q := by
  have e := congrArg List.length (L.more (by omega))
  rw [List.length_append] at e
  have d := digits_pos n
  have d2 := Lib.nDigits_le20 u0 (by omega)
  rw [Lib.decDigits_length u0] at e
  have := L.len
  omega

theorem laid_some {w wr : World} {u0 n q : Nat} {suf : List UInt8} (L : Laid w u0 n q suf wr) (hn : n = 0) : q < 20 := by
  have e := L.zero hn
  have d := digits_pos u0
  rw [← e] at d
  have := L.len
  omega

/-- One round. -/
theorem laid_step {w wr : World} {u0 n p : Nat} {suf : List UInt8} (L : Laid w u0 n (p + 1) suf wr) (hn : 0 < n) :
    Laid w u0 (n / 10) p (UInt8.ofNat (48 + n % 10) :: suf) (wr.setCell ⟨w.heap.size, p, none⟩ (.int .u8 (48 + (n : Int) % 10))) := by
  have hlen := L.len
  have ev : ((UInt8.ofNat (48 + n % 10)).toNat : Int) = 48 + (n : Int) % 10 := by simp; omega
  obtain ⟨v, hv⟩ := L.any p (by omega)
  have hat : (wr.setCell ⟨w.heap.size, p, none⟩ (.int .u8 (48 + (n : Int) % 10))).cell? ⟨w.heap.size, p, none⟩ = some (.int .u8 (48 + (n : Int) % 10)) := World.cell?_setCell_same' _ _ _ (by rw [hv]; rfl)
  have hoff : ∀ i, i ≠ p → (wr.setCell ⟨w.heap.size, p, none⟩ (.int .u8 (48 + (n : Int) % 10))).cell? ⟨w.heap.size, i, none⟩ = wr.cell? ⟨w.heap.size, i, none⟩ := fun i hi => World.cell?_setCell_other _ _ _ _ (fun h => hi (by injection h; omega))
  have hmore := L.more (by omega)
  refine ⟨by simp; omega, ?_, ?_, by have := L.le; omega, ?_, ?_, ?_, ?_⟩
  · intro h0
    have h10 : n < 10 := by omega
    rw [← hmore, Lib.decDigits_one h10, Nat.mod_eq_of_lt h10]
    rfl
  · intro h0
    have h10 : ¬ n < 10 := by omega
    rw [← hmore, Lib.decDigits.eq_def n, dif_neg h10]
    simp
  · intro i hi
    by_cases e : i = p
    · subst e; exact ⟨_, hat⟩
    · rw [hoff i e]; exact L.any i hi
  · intro j hj
    cases j with
    | zero => simp only [Nat.add_zero, List.getElem_cons_zero]; rw [hat, ev]
    | succ j =>
      rw [hoff _ (by omega)]
      have := L.cell j (by simpa using hj)
      rw [show p + (j + 1) = p + 1 + j by omega, this]
      simp
  · intro i; rw [World.frozen?_setCell]; exact L.frozen i
  · exact L.grown.setCell (Nat.le_refl _) _

/-- 'buf[p:]', as the walk asks for it. -/
theorem slice_buf (B q : Nat) (hq : q < 20) (W : World) :
    (Instr.sliceAt 53 (.pointer (some ⟨B, 0, none⟩)) (some (.int .i64 (q : Int))) none none).run Tryf.prog W = .ok (.slice (some ⟨B, q, none⟩) (20 - q) (20 - q)) W := by
  have hal : Tryf.prog.arrayLen 53 = 20 := by kernel_rfl
  have hel : Tryf.prog.elem 53 = 5 := by kernel_rfl
  have hsz : ∀ W, (sizeOf 5).run Tryf.prog W = .ok 1 W := fun W => by kernel_rfl
  rw [run_sliceAt_array_l W 53 ⟨B, 0, none⟩ (by rw [hal, hel]; exact Tryf.underlying53) .i64 (q : Int) (by omega) (by rw [hal]; omega), hal, hel, hsz]
  simp only [Result.andThen, slicedAt, Int.toNat_natCast, Nat.mul_one]
  rw [if_neg (by omega), Lib.add_plain]
  simp

/-- 'string(buf[p:])'. -/
theorem text_buf {w wr : World} {u0 n q : Nat} {suf : List UInt8} (L : Laid w u0 n q suf wr) :
    (convert 36 9 (.slice (some ⟨w.heap.size, q, none⟩) (20 - q) (20 - q))).run Tryf.prog wr = .ok (.string ⟨suf.toArray⟩) wr := by
  have hl : 20 - q = suf.length := by have := L.len; omega
  have := run_convert_bytes_back (P := Tryf.prog) wr 36 9 5 ⟨w.heap.size, q, none⟩ (20 - q) suf Tryf.underlying36 Tryf.underlying5 Tryf.underlying9 (fun j hj => by rw [Lib.add_plain]; exact L.cell j hj)
  rw [← hl] at this
  exact this

set_option maxRecDepth 20000 in
set_option maxHeartbeats 400000 in
theorem itoa_pos (u0 : Nat) (h1 : 1 ≤ u0) (h2 : u0 ≤ 9223372036854775807) (w : World) :
    Calls Tryf.prog 6 #[.int .i64 u0] w fun e w' => e = .returned (.string ⟨(Lib.itoa u0).toArray⟩) ∧ Grown w w' := by
  go_enter Tryf.func6, Tryf.ntmps6
  go_wp2
  go_loopw [4, 6] (fun u p wr => ∃ (n q : Nat) (suf : List UInt8), u = .int .u64 n ∧ p = .int .i64 q ∧ Laid w u0 n q suf wr) (fun u _ _ => (intOf u).toNat)
  case atStart => exact ⟨u0, 20, [], rfl, rfl, laid_start w u0 h1⟩
  case round =>
    obtain ⟨n, q, suf, rfl, rfl, L⟩ := hrel
    by_cases hn : n = 0
    · have hn0 : ¬ (0 < n) := by omega
      have hq2 : q < 20 := laid_some L hn
      have hsl := slice_buf w.heap.size q hq2
      have hcv := text_buf L
      have HL : Hid (Laid w u0 n q suf wr) := L
      have HN : Hid (n = 0) := hn
      clear L hn
      go_wp2
      go_ret
      refine ⟨?_, HL.out.grown⟩
      rw [Lib.itoa_nonneg, ← HL.out.zero HN.out]
      rfl
    · have hn0 : 0 < n := by omega
      have hq : 1 ≤ q := laid_room L (by omega) hn0
      have hq2 : q ≤ 20 := by have := L.len; omega
      have hle := L.le
      obtain ⟨p, rfl⟩ : ∃ p, q = p + 1 := ⟨q - 1, by omega⟩
      obtain ⟨v, hv⟩ := L.any p (by omega)
      have hfz := L.frozen p
      go_wp2
      go_roundw
      case rel => exact ⟨n / 10, p, _, by go_num, rfl, laid_step L hn0⟩
      case measure => simp [intOf]; omega

set_option maxRecDepth 20000 in
set_option maxHeartbeats 400000 in
theorem itoa_neg (u0 : Nat) (h1 : 1 ≤ u0) (h2 : u0 ≤ 9223372036854775808) (w : World) :
    Calls Tryf.prog 6 #[.int .i64 (-(u0 : Int))] w fun e w' => e = .returned (.string ⟨(Lib.itoa (-(u0 : Int))).toArray⟩) ∧ Grown w w' := by
  go_enter Tryf.func6, Tryf.ntmps6
  go_wp2
  go_loopw [4, 6] (fun u p wr => ∃ (n q : Nat) (suf : List UInt8), u = .int .u64 n ∧ p = .int .i64 q ∧ Laid w u0 n q suf wr) (fun u _ _ => (intOf u).toNat)
  case atStart => exact ⟨u0, 20, [], by rw [wrap_neg_neg u0 h1 h2], rfl, laid_start w u0 h1⟩
  case round =>
    obtain ⟨n, q, suf, rfl, rfl, L⟩ := hrel
    by_cases hn : n = 0
    · have hn0 : ¬ (0 < n) := by omega
      have hq2 : q < 20 := laid_some L hn
      have hsl := slice_buf w.heap.size q hq2
      have hcv := text_buf L
      have hls : suf.length ≤ 20 := by have := L.len; omega
      have HL : Hid (Laid w u0 n q suf wr) := L
      have HN : Hid (n = 0) := hn
      clear L hn
      go_wp2
      go_ret
      refine ⟨?_, HL.out.grown⟩
      rw [Lib.itoa_neg u0 h1, ← HL.out.zero HN.out]
      rfl
    · have hn0 : 0 < n := by omega
      have hq : 1 ≤ q := laid_room L (by omega) hn0
      have hq2 : q ≤ 20 := by have := L.len; omega
      have hle := L.le
      obtain ⟨p, rfl⟩ : ∃ p, q = p + 1 := ⟨q - 1, by omega⟩
      obtain ⟨v, hv⟩ := L.any p (by omega)
      have hfz := L.frozen p
      go_wp2
      go_roundw
      case rel => exact ⟨n / 10, p, _, by go_num, rfl, laid_step L hn0⟩
      case measure => simp [intOf]; omega

theorem itoa_zero (w : World) :
    Calls Tryf.prog 6 #[.int .i64 0] w fun e w' => e = .returned (.string ⟨(Lib.itoa 0).toArray⟩) ∧ Grown w w' := by
  have hz : Lib.itoa 0 = [48] := by decide +kernel
  rw [hz]
  go_enter Tryf.func6, Tryf.ntmps6
  go_wp2
  go_ret
  exact ⟨rfl, Grown.refl _⟩

/-- zzItoa AT EVERY int64. -/
theorem itoa_any (v : Int) (hv : (Lit.int .i64 v).wf = true) (w : World) :
    Calls Tryf.prog 6 #[.int .i64 v] w fun e w' => e = .returned (.string ⟨(Lib.itoa v).toArray⟩) ∧ Grown w w' := by
  have hb : -9223372036854775808 ≤ v ∧ v ≤ 9223372036854775807 := by simpa [Lit.wf, IntKind.min, IntKind.max, IntKind.bits, IntKind.signed] using hv
  rcases Int.lt_trichotomy v 0 with h | h | h
  · obtain ⟨u, rfl⟩ : ∃ u : Nat, v = -(u : Int) := ⟨v.natAbs, by omega⟩
    exact itoa_neg u (by omega) (by omega) w
  · subst h; exact itoa_zero w
  · obtain ⟨u, rfl⟩ : ∃ u : Nat, v = (u : Int) := ⟨v.natAbs, by omega⟩
    exact itoa_pos u (by omega) (by omega) w

end Go.Proofs.Qxb6615203aFmt
