/- The walks of resetTabs: a row of tab stops of the call's own. -/
import Derived.Test.Qxb6616717aParam
import Derived.Laws.MakeOwn
import Derived.Laws.EntriesVeiled
namespace Go.Proofs.Qxb6616717a
open Go.RowKit

def lineCells (n : Nat) : Array Value := madeCells (Value.agg #[.slice none 0 0, .map none, .int .u16 0, .int .u16 0, .bool false]).cells (n * 5)
def tabCells (n : Nat) : Array Value := madeCells (Value.bool false).cells (n * 1)

theorem info69 : (Try.prog.info? 69).map (fun i => (i.zero, i.size, i.bytes)) = some (some (.agg #[.slice none 0 0, .map none, .int .u16 0, .int .u16 0, .bool false]), 5, 40) := by kernel_rfl
theorem info4 : (Try.prog.info? 4).map (fun i => (i.zero, i.size, i.bytes)) = some (some (.bool false), 1, 1) := by kernel_rfl

theorem make_lines (n : Nat) (hn : n ≤ 1000) (w : World) :
    (Instr.makeSlice 30 (.int .i64 (n : Int)) (.int .i64 (n : Int))).run Try.prog w = .ok (.slice (some ⟨w.heap.size, 0, none⟩) n n) (w.alloc (.cells (lineCells n) 69)) := by
  obtain ⟨i, hi, hz, hs, hb⟩ := info_parts info69
  have := run_make (P := Try.prog) w 30 69 i _ Try.underlying30 hi hz .i64 .i64 (n : Int) (n : Int) (by omega) (by omega) (by rw [hb]; omega) (by omega)
  rw [hs] at this
  simp only [Int.toNat_natCast] at this
  exact this
theorem make_tabs (n : Nat) (hn : n ≤ 1000) (w : World) :
    (Instr.makeSlice 39 (.int .i64 (n : Int)) (.int .i64 (n : Int))).run Try.prog w = .ok (.slice (some ⟨w.heap.size, 0, none⟩) n n) (w.alloc (.cells (tabCells n) 4)) := by
  obtain ⟨i, hi, hz, hs, hb⟩ := info_parts info4
  have := run_make (P := Try.prog) w 39 4 i _ Try.underlying39 hi hz .i64 .i64 (n : Int) (n : Int) (by omega) (by omega) (by rw [hb]; omega) (by omega)
  rw [hs] at this
  simp only [Int.toNat_natCast] at this
  exact this
theorem tab_some (n i : Nat) (h : i < n) : ∃ v, (tabCells n)[i]? = some v := by
  have hz : i < (tabCells n).size := by unfold tabCells; rw [size_madeCells]; omega
  exact ⟨_, Array.getElem?_eq_getElem hz⟩

/-- The screen in block B while it is laid: nothing of w0 has turned; c: its columns. -/
structure Base (w0 w : World) (B c : Nat) : Prop where
  scr : Scr w B 0 false
  cols : w.cell? ⟨B, 0, none⟩ = some (.int .i64 (c : Int))
  some23 : ∃ v, w.cell? ⟨B, 23, none⟩ = some v
  some24 : ∃ v, w.cell? ⟨B, 24, none⟩ = some v
  some25 : ∃ v, w.cell? ⟨B, 25, none⟩ = some v
  grown : Grown w0 w
  lo : w0.heap.size ≤ B
  hi : B < w.heap.size

theorem Base.of {w0 w w' : World} {B c : Nat} (h : Base w0 w B c) (hc : ∀ i, i ≠ 25 → w'.cell? ⟨B, i, none⟩ = w.cell? ⟨B, i, none⟩) (h25 : ∃ v, w'.cell? ⟨B, 25, none⟩ = some v)
    (hg : Grown w0 w') (hf : ∀ i, w'.frozen? ⟨B, i, none⟩ = w.frozen? ⟨B, i, none⟩) (hs : w.heap.size ≤ w'.heap.size) : Base w0 w' B c where
  scr := ⟨by rw [hc _ (by omega)]; exact h.scr.np, by rw [hc _ (by omega)]; exact h.scr.inv, fun j hj => by rw [hc _ (by omega)]; exact h.scr.par j hj, fun i => by rw [hf]; exact h.scr.frozen i⟩
  cols := by rw [hc _ (by omega)]; exact h.cols
  some23 := by rw [hc _ (by omega)]; exact h.some23
  some24 := by rw [hc _ (by omega)]; exact h.some24
  some25 := h25
  grown := hg
  lo := h.lo
  hi := Nat.lt_of_lt_of_le h.hi hs

/-- A new block. -/
theorem Base.alloc {w0 w : World} {B c : Nat} (h : Base w0 w B c) (cs : Array Value) (t : TypeId) : Base w0 (w.alloc (.cells cs t)) B c := by
  have hc : ∀ i, (w.alloc (.cells cs t)).cell? ⟨B, i, none⟩ = w.cell? ⟨B, i, none⟩ := fun i => World.cell?_alloc_old _ _ _ (by have := h.hi; simp; omega)
  exact h.of (fun i _ => hc i) (by rw [hc]; exact h.some25) (h.grown.alloc _ _) (fun i => frozen?_alloc_cells _ _ _ _) (by simp)

/-- A store into another block of the call's own. -/
theorem Base.setOther {w0 w : World} {B c T i : Nat} (h : Base w0 w B c) (hT : T ≠ B) (hlo : w0.heap.size ≤ T) (v : Value) : Base w0 (w.setCell ⟨T, i, none⟩ v) B c := by
  have hc : ∀ j, (w.setCell ⟨T, i, none⟩ v).cell? ⟨B, j, none⟩ = w.cell? ⟨B, j, none⟩ := fun j => World.cell?_setCell_other _ _ _ _ (fun e => hT (by injection e))
  exact h.of (fun j _ => hc j) (by rw [hc]; exact h.some25) (h.grown.setCell hlo v) (fun j => World.frozen?_setCell _ _ _ _) (by simp [World.setCell])

/-- A store into the field 'tabs'. -/
theorem Base.set25 {w0 w : World} {B c : Nat} (h : Base w0 w B c) (v : Value) : Base w0 (w.setCell ⟨B, 25, none⟩ v) B c := by
  obtain ⟨u, hu⟩ := h.some25
  exact h.of (fun j hj => World.cell?_setCell_other _ _ _ _ (fun e => hj (by injection e; omega))) ⟨_, World.cell?_setCell_same' _ _ _ (by rw [hu]; rfl)⟩ (h.grown.setCell h.lo v) (fun j => World.frozen?_setCell _ _ _ _) (by simp [World.setCell])

/-- The tabs' own row T. -/
structure Tabs (wr : World) (B T c : Nat) : Prop where
  at25 : wr.cell? ⟨B, 25, none⟩ = some (.slice (some ⟨T, 0, none⟩) c c)
  cell : ∀ i, i < c → ∃ v, wr.cell? ⟨T, i, none⟩ = some v
  frozen : ∀ i, wr.frozen? ⟨T, i, none⟩ = false

theorem Tabs.set {wr : World} {B T c k : Nat} (h : Tabs wr B T c) (hT : T ≠ B) (v : Value) : Tabs (wr.setCell ⟨T, k, none⟩ v) B T c := by
  refine ⟨by rw [World.cell?_setCell_other _ _ _ _ (fun e => hT (by injection e))]; exact h.at25, fun i hi => ?_, fun i => by rw [World.frozen?_setCell]; exact h.frozen i⟩
  obtain ⟨u, hu⟩ := h.cell i hi
  exact cell?_setCell_some hu

theorem tabs_start {w0 w : World} {B c : Nat} (h : Base w0 w B c) :
    Tabs ((w.alloc (.cells (tabCells c) 4)).setCell ⟨B, 25, none⟩ (.slice (some ⟨w.heap.size, 0, none⟩) c c)) B w.heap.size c := by
  have h1 := h.alloc (tabCells c) 4
  obtain ⟨u, hu⟩ := h1.some25
  refine ⟨World.cell?_setCell_same' _ _ _ (by rw [hu]; rfl), fun i hi => ?_, fun i => ?_⟩
  · obtain ⟨v, hv⟩ := tab_some c i hi
    rw [World.cell?_setCell_other _ _ _ _ (fun e => by injection e; have := h.hi; omega), World.cell?_alloc_new]
    exact ⟨v, hv⟩
  · rw [World.frozen?_setCell]; exact World.frozen?_alloc_new _ _ _ _

set_option maxRecDepth 20000 in
set_option maxHeartbeats 400000 in
theorem tabs_any (w0 w : World) (B c : Nat) (h : Base w0 w B c) (hc : c ≤ 1000) :
    Calls Try.prog 12 #[.pointer (some ⟨B, 0, none⟩)] w fun e w' => e = .returned (.tuple #[]) ∧ Base w0 w' B c := by
  have hm2 := make_tabs c hc
  have hcol := h.cols
  have hne : B ≠ w.heap.size := by have := h.hi; omega
  have hcol2 : ∀ o, (w.alloc o).cell? ⟨B, 0, none⟩ = some (.int .i64 (c : Int)) := fun o => by rw [World.cell?_alloc_old _ _ _ (by simpa using hne)]; exact hcol
  have h25 : ∃ v, (w.alloc (.cells (tabCells c) 4)).cell? ⟨B, 25, none⟩ = some v := (h.alloc _ _).some25
  obtain ⟨v25, h25⟩ := h25
  have hf25 := (h.alloc (tabCells c) 4).scr.frozen 25
  have HB : Hid (Base w0 w B c) := h
  clear h
  go_enter Try.func12, Try.ntmps12
  go_wp2
  go_loopw [2] (fun x wr => ∃ k : Nat, k ≤ c + 8 ∧ x = .int .i64 (k : Int) ∧ Base w0 wr B c ∧ Tabs wr B w.heap.size c) (fun x _ => c + 8 - (intOf x).toNat)
  case atStart => exact ⟨8, by omega, rfl, (HB.out.alloc _ _).set25 _, tabs_start HB.out⟩
  case round =>
    obtain ⟨k, hk, rfl, hb, ht⟩ := hrel
    have hcr := hb.cols
    have hat := ht.at25
    by_cases hlt : k < c
    · obtain ⟨v, hv⟩ := ht.cell k hlt
      have hfz := ht.frozen k
      have Hb : Hid (Base w0 wr B c) := hb
      have Ht : Hid (Tabs wr B w.heap.size c) := ht
      clear hb ht
      go_wp2
      go_roundw
      case rel => exact ⟨k + 8, by omega, by go_num, Hb.out.setOther (Ne.symm hne) (Nat.le_trans HB.out.lo (Nat.le_of_lt HB.out.hi)) _, Ht.out.set (Ne.symm hne) _⟩
      case measure => simp [intOf]; omega
    · have Hb : Hid (Base w0 wr B c) := hb
      clear hb ht
      go_wp2
      go_end0
      exact ⟨rfl, Hb.out⟩
end Go.Proofs.Qxb6616717a
