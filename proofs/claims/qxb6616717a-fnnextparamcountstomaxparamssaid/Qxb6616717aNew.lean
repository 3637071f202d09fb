/- The walks of reset and New: a new screen has no parameter opened. -/
import Derived.Test.Qxb6616717aTabs
import Derived.Laws.Tables
namespace Go.Proofs.Qxb6616717a
open Go.RowKit

/-- 'Screen{}', as the program builds it. -/
def scrZ : Array Value := #[.int .i64 0, .int .i64 0, .slice none 0 0, .slice none 0 0, .slice none 0 0, .int .i64 0, .int .i64 0, .int .i64 0, .slice none 0 0, .int .i64 0, .pointer none, .int .i64 0, .int .i64 0, .bool false, .int .u8 0, .int .u8 0, .bool false, .int .i64 0, .int .i64 0, .bool false, .int .u8 0, .int .u8 0, .bool false, .int .i64 0, .int .i64 0, .slice none 0 0, .bool false, .bool false, .int .i32 0, .bool false, .int .u8 0, .int .i64 0, .int .i64 0, .int .i64 0, .int .i64 0, .int .i64 0, .int .i64 0, .int .i64 0, .int .i64 0, .int .i64 0, .int .i64 0, .int .i64 0, .int .i64 0, .int .i64 0, .int .i64 0, .int .i64 0, .int .i64 0, .int .i64 0, .int .i64 0, .int .i64 0, .int .i64 0, .int .i64 0, .int .i64 0, .int .i64 0, .int .i64 0, .int .i64 0, .int .u8 0, .int .u8 0, .int .i64 0, .bool false, .bool false, .int .u8 0, .int .u8 0, .int .u8 0, .int .u8 0, .int .i64 0, .int .i64 0, .nilFunc, .int .i64 0, .slice none 0 0, .bool false, .bool false]
theorem scrZ_size : scrZ.size = 72 := rfl
theorem built_zero : Try.prog.built 48 [] = some scrZ := by kernel_rfl
/-- 'Screen{cols: c, rows: r, lines: .., autowrap: true}', as the program builds it. -/
def scrL (c r : Int) (a : Addr) (n m : Nat) : Array Value := #[.int .i64 c, .int .i64 r, .slice (some a) n m, .slice none 0 0, .slice none 0 0, .int .i64 0, .int .i64 0, .int .i64 0, .slice none 0 0, .int .i64 0, .pointer none, .int .i64 0, .int .i64 0, .bool false, .int .u8 0, .int .u8 0, .bool false, .int .i64 0, .int .i64 0, .bool false, .int .u8 0, .int .u8 0, .bool false, .int .i64 0, .int .i64 0, .slice none 0 0, .bool true, .bool false, .int .i32 0, .bool false, .int .u8 0, .int .i64 0, .int .i64 0, .int .i64 0, .int .i64 0, .int .i64 0, .int .i64 0, .int .i64 0, .int .i64 0, .int .i64 0, .int .i64 0, .int .i64 0, .int .i64 0, .int .i64 0, .int .i64 0, .int .i64 0, .int .i64 0, .int .i64 0, .int .i64 0, .int .i64 0, .int .i64 0, .int .i64 0, .int .i64 0, .int .i64 0, .int .i64 0, .int .i64 0, .int .u8 0, .int .u8 0, .int .i64 0, .bool false, .bool false, .int .u8 0, .int .u8 0, .int .u8 0, .int .u8 0, .int .i64 0, .int .i64 0, .nilFunc, .int .i64 0, .slice none 0 0, .bool false, .bool false]
theorem scrL_size (c r : Int) (a : Addr) (n m : Nat) : (scrL c r a n m).size = 72 := rfl
theorem built_new (c r : Int) (a : Addr) (n m : Nat) : Try.prog.built 48 [(0, .int .i64 c), (1, .int .i64 r), (2, .slice (some a) n m), (14, .bool true)] = some (scrL c r a n m) := by kernel_rfl
theorem scrL_par (c r : Int) (a : Addr) (n m : Nat) : ((scrL c r a n m).toList.drop 31).take 24 = List.replicate 24 (.int .i64 0) := rfl
theorem scrL_one (c r : Int) (a : Addr) (n m : Nat) : (scrL c r a n m).all (·.oneCell') = true := by kernel_rfl
theorem info48 : (Try.prog.info? 48).map (·.size) = some 72 := by kernel_rfl
theorem scrL_at (c r : Int) (a : Addr) (n m j : Nat) (h : j < 24) : (scrL c r a n m)[31 + j]? = some (.int .i64 0) := by
  have e := congrArg (fun l => l[j]?) (scrL_par c r a n m)
  simp only [List.getElem?_take, if_pos h, List.getElem?_drop, List.getElem?_replicate] at e
  rw [Array.getElem?_toList] at e
  exact e

theorem wp_zero {ops : Array Oper} {rest : List Oper} {o : Oper} {a : Act} {w : World} {Q : Exit → Act → World → Prop} (hg : o.guard = none) (ho : o.op = .build 48 #[])
    (h : wpList Try.prog ops Q rest (a.put o.dst (.agg scrZ)) w) : wpList Try.prog ops Q (o :: rest) a w := by
  refine wpList_build hg 48 #[] ho ?_ ?_
  · simp [built_zero]
  · simpa [built_zero] using h

theorem wp_new {ops : Array Oper} {rest : List Oper} {o : Oper} {a : Act} {w : World} {Q : Exit → Act → World → Prop} (hg : o.guard = none) (x y z : Operand) (k : Value) (ho : o.op = .build 48 #[(0, x), (1, y), (2, z), (14, .const k)])
    (c r : Int) (b : Addr) (n m : Nat) (hx : a.eval x = .int .i64 c) (hy : a.eval y = .int .i64 r) (hz : a.eval z = .slice (some b) n m) (hk : k = .bool true)
    (h : wpList Try.prog ops Q rest (a.put o.dst (.agg (scrL c r b n m))) w) : wpList Try.prog ops Q (o :: rest) a w := by
  have hkk : a.eval (.const k) = .bool true := hk
  have e : (#[(0, x), (1, y), (2, z), (14, Operand.const k)].map fun (i, x) => (i, a.eval x)).toList = [(0, .int .i64 c), (1, .int .i64 r), (2, .slice (some b) n m), (14, .bool true)] := by
    simp [hx, hy, hz, hkk]
  refine wpList_build hg 48 _ ho ?_ ?_
  · rw [e, built_new]; rfl
  · rw [e, built_new]; exact h

theorem wp_store {ops : Array Oper} {rest : List Oper} {o : Oper} {a : Act} {w : World} {Q : Exit → Act → World → Prop} (hgd : o.guard = none) (x y : Operand) (ho : o.op = .store 48 x y)
    (B : Nat) (c r : Int) (b : Addr) (n m : Nat) (hx : a.eval x = .pointer (some ⟨B, 0, none⟩)) (hy : a.eval y = .agg (scrL c r b n m))
    (old : Array Value) (hg : w.heap[B]? = some (.cells old 48 (0, 0))) (hold : old.size = 72)
    (h : wpList Try.prog ops Q rest (a.put o.dst undef) (w.setRow B (scrL c r b n m))) : wpList Try.prog ops Q (o :: rest) a w :=
  wpList_store_row hgd 48 x y ho B _ hx hy 48 old hg info48 hold (scrL_one _ _ _ _ _) h

/-- Behind the store of the new screen into block B. -/
theorem base_new {w0 w : World} {B c : Nat} {r : Int} {a : Addr} {n m : Nat} {old : Array Value} (hg : w.heap[B]? = some (.cells old 48 (0, 0))) (hgr : Grown w0 w) (hlo : w0.heap.size ≤ B) :
    Base w0 (w.setRow B (scrL c r a n m)) B c := by
  have hc : ∀ j, (w.setRow B (scrL c r a n m)).cell? ⟨B, j, none⟩ = (scrL c r a n m)[j]? := fun j => cell_setRow_same w B j old _ 48 (0, 0) hg
  have hb : B < w.heap.size := by
    rcases Nat.lt_or_ge B w.heap.size with h | h
    · exact h
    · rw [Array.getElem?_eq_none h] at hg; cases hg
  have hh := setRow_heap w B old (scrL c r a n m) 48 (0, 0) hg
  refine ⟨⟨by rw [hc]; rfl, by rw [hc]; rfl, fun j hj => ?_, fun i => ?_⟩, by rw [hc]; rfl, ⟨_, by rw [hc]; rfl⟩, ⟨_, by rw [hc]; rfl⟩, ⟨_, by rw [hc]; rfl⟩, ?_, hlo, by rw [setRow_size]; exact hb⟩
  · rw [hc, scrL_at _ _ _ _ _ j hj]; unfold parAt; rw [if_neg (by omega)]
  · simp [World.frozen?, hh]
  · obtain ⟨⟨h1, h2, h3⟩, hf, hs⟩ := hgr
    refine ⟨⟨h1, h2, fun i hi => ?_⟩, fun x => ?_, by rw [setRow_size]; exact hs⟩
    · rw [setRow_other w B i _ (by omega)]; exact h3 i hi
    · rw [← hf x]
      by_cases e : x.block = B
      · simp [World.frozen?, e, hh, hg]
      · simp [World.frozen?, setRow_other w B x.block _ e]

/-- A store into a field ahead of the parser. -/
theorem Scr.setOff {w : World} {B n i : Nat} {iv : Bool} (h : Scr w B n iv) (hi : i < 31) (v : Value) : Scr (w.setCell ⟨B, i, none⟩ v) B n iv := by
  have hc : ∀ j, j ≠ i → (w.setCell ⟨B, i, none⟩ v).cell? ⟨B, j, none⟩ = w.cell? ⟨B, j, none⟩ := fun j hj => World.cell?_setCell_other _ _ _ _ (fun e => hj (by injection e; omega))
  exact ⟨by rw [hc _ (by omega)]; exact h.np, by rw [hc _ (by omega)]; exact h.inv, fun j hj => by rw [hc _ (by omega)]; exact h.par j hj, fun j => by rw [World.frozen?_setCell]; exact h.frozen j⟩

set_option maxRecDepth 20000 in
set_option maxHeartbeats 400000 in
theorem reset_any (w0 w : World) (B c r : Nat) (hc : c ≤ 1000) (hr : r ≤ 1000) (old : Array Value) (ho : old.size = 72) (hg : w.heap[B]? = some (.cells old 48 (0, 0))) (hgr : Grown w0 w) (hlo : w0.heap.size ≤ B) :
    Calls Try.prog 10 #[.pointer (some ⟨B, 0, none⟩), .int .i64 (c : Int), .int .i64 (r : Int)] w fun e w' => e = .returned (.tuple #[]) ∧ Scr w' B 0 false ∧ Grown w0 w' := by
  have hm1 := make_lines r hr
  have hb : B < w.heap.size := by
    rcases Nat.lt_or_ge B w.heap.size with h | h
    · exact h
    · rw [Array.getElem?_eq_none h] at hg; cases hg
  have hgA : (w.alloc (.cells (lineCells r) 69)).heap[B]? = some (.cells old 48 (0, 0)) := by rw [Below.heap_alloc _ _ _ hb]; exact hg
  have HN : Hid (Base w0 ((w.alloc (.cells (lineCells r) 69)).setRow B (scrL (c : Int) (r : Int) ⟨w.heap.size, 0, none⟩ r r)) B c) := base_new hgA (hgr.alloc _ _) hlo
  go_enter Try.func10, Try.ntmps10
  go_wp2_with (first | (refine wp_new rfl (.tmp 7) (.tmp 8) (.tmp 10) _ rfl (c : Int) (r : Int) ⟨w.heap.size, 0, none⟩ r r rfl rfl rfl rfl ?_) | (refine wp_store rfl (.tmp 12) (.tmp 11) rfl B (c : Int) (r : Int) ⟨w.heap.size, 0, none⟩ r r rfl rfl old hgA ho ?_))
  refine (tabs_any w0 _ B c HN.out hc).mono ?_
  rintro e w1 ⟨rfl, h1⟩
  clear HN hgA hg hm1
  obtain ⟨v23, h23⟩ := h1.some23
  obtain ⟨v24, h24⟩ := h1.some24
  have f23 := h1.scr.frozen 23
  have f24 := h1.scr.frozen 24
  have H1 : Hid (Base w0 w1 B c) := h1
  clear h1
  go_wp2
  go_end0
  exact ⟨rfl, (H1.out.scr.setOff (by omega) _).setOff (by omega) _, (H1.out.grown.setCell hlo _).setCell hlo _⟩

theorem check_any (c r : Int) (hc1 : 1 ≤ c) (hc2 : c ≤ 1000) (hr1 : 1 ≤ r) (hr2 : r ≤ 1000) (w : World) :
    Calls Try.prog 9 #[.int .i64 c, .int .i64 r] w fun e w' => e = .returned (.tuple #[]) ∧ w' = w := by
  go_enter Try.func9, Try.ntmps9
  go_wp2
  go_end0
  exact ⟨rfl, rfl⟩

set_option maxRecDepth 20000 in
set_option maxHeartbeats 400000 in
theorem new_any (c r : Nat) (hc1 : 1 ≤ c) (hc2 : c ≤ 1000) (hr1 : 1 ≤ r) (hr2 : r ≤ 1000) (w : World) :
    Calls Try.prog 4 #[.int .i64 (c : Int), .int .i64 (r : Int)] w fun e w' => e = .returned (.pointer (some ⟨w.heap.size, 0, none⟩)) ∧ Scr w' w.heap.size 0 false ∧ Grown w w' := by
  go_enter Try.func4, Try.ntmps4
  go_wp2_with fail
  refine (check_any (c : Int) (r : Int) (by omega) (by omega) (by omega) (by omega) _).mono ?_
  rintro e w' ⟨rfl, rfl⟩
  go_wp2_with (refine wp_zero rfl rfl ?_)
  refine (reset_any w' _ _ c r hc2 hr2 scrZ scrZ_size (MapKept.heap_alloc w' _).1 ((Grown.refl _).alloc _ _) (Nat.le_refl _)).mono ?_
  rintro e w2 ⟨rfl, hs, hg⟩
  go_wp2
  go_ret
  exact ⟨rfl, hs, hg⟩
end Go.Proofs.Qxb6616717a
