/-
  (*transaction).spare (7), zzs2656czero (8), (*spares).take (9).
-/
import Derived.Test.YbulkbbzeBuild
import Derived.Laws.Tables
namespace Go.Proofs.Ybulkbbze
open Go.ChangeShapes Go.WideShapes Go.ChangeAt Go.RowKit Go.Shelf

theorem run_build_tx0 (w : World) : (Instr.build 63 #[]).run Yba.prog w = .ok (.agg (txCells 0)) w := by kernel_rfl

theorem Pool.same {w w' : World} {D base : Nat} {cs : Array Value} {v : Value} {n : Nat} {xs : List Value} (h : Pool w D base cs v n xs) (hD : w'.heap[D]? = w.heap[D]?) (hg : ∀ (g : Nat) (cur : Array Value), w.heap[g]? = some (.cells cur 38 (0, 0)) → w'.heap[g]? = w.heap[g]?) : Pool w' D base cs v n xs := by
  refine ⟨hD.trans h.blk, h.sz, h.fld, ⟨h.own.1, ?_⟩, h.lt⟩
  rcases h.own.2 with h' | ⟨g, cap, cur, h1, h2, h3, h4⟩
  · exact Or.inl h'
  · exact Or.inr ⟨g, cap, cur, h1, h2, (hg g cur h3).trans h3, h4⟩

theorem tx_ones : (txCells 0).all (·.oneCell') = true := by kernel_rfl
theorem info63 : (Yba.prog.info? 63).map (·.size) = some (txCells 0).size := by kernel_rfl

set_option maxRecDepth 100000 in
set_option maxHeartbeats 1600000 in
theorem spare_any (D base T : Nat) (cs tcs : Array Value) (v : Value) (n : Nat) (xs : List Value) (w : World) (hP : Pool w D base cs v n xs) (hb : base ≤ w.heap.size) (hn : n ≤ 300)
    (hT : w.heap[T]? = some (.cells tcs 63 (0, 0))) (hts : tcs.size = 23) (ht0 : tcs[0]? = some (.pointer (some ⟨D, 0, none⟩))) :
    Calls Yba.prog 7 #[.pointer (some ⟨T, 0, none⟩)] w fun e w' => e = .returned (.tuple #[]) ∧ ∃ cs' v', Pool w' D base cs' v' (n + 1) (xs ++ [.pointer (some ⟨T, 0, none⟩)]) ∧
      Fr D base (w.setRow T (txCells 0)) w' ∧ w'.heap[T]? = some (.cells (txCells 0) 63 (0, 0)) := by
  have hTD : D ≠ T := by
    intro e; subst e
    have := hP.blk
    rw [hT] at this
    cases this
  have hc0 : w.cell? ⟨T, 0, none⟩ = some (.pointer (some ⟨D, 0, none⟩)) := by rw [cell_of_row w T 0 tcs 63 (0, 0) hT, ht0]
  have hrow : (w.setRow T (txCells 0)).heap[T]? = some (.cells (txCells 0) 63 (0, 0)) := setRow_heap w T tcs _ 63 _ hT
  have hP1 : Pool (w.setRow T (txCells 0)) D base cs v n xs := hP.same (setRow_other w T D _ hTD) (fun g cur hg => setRow_other w T g _ (fun e => by subst e; rw [hT] at hg; cases hg))
  have hb1 : base ≤ (w.setRow T (txCells 0)).heap.size := by simpa [World.setRow] using hb
  have HC := put_any D base cs v n xs (some ⟨T, 0, none⟩) _ hP1 hb1 hn
  clear hP1 hb1
  go_enter Yba.func7, Yba.ntmps7
  go_wp2_with (first
    | (refine wpList_build0 _ rfl 63 rfl _ (run_build_tx0 _) ?_)
    | (refine wpList_store_row rfl 63 _ _ rfl T (txCells 0) rfl rfl 63 tcs hT info63 hts tx_ones ?_))
  refine HC.mono ?_
  rintro e w' ⟨rfl, cs', v', hP', hF'⟩
  go_wp2
  go_end0
  exact ⟨rfl, cs', v', hP', hF', hF'.typ T _ hrow (fun cur fz e => by cases e) (fun e => hTD e.symm)⟩

/-- what lies in a zero transaction's block. -/
theorem tx_cell (w : World) (T : Nat) (h : w.heap[T]? = some (.cells (txCells 0) 63 (0, 0))) (o : Nat) : w.cell? ⟨T, o, none⟩ = (txCells 0)[o]? := cell_of_row w T o (txCells 0) 63 (0, 0) h

theorem eq_slice (w : World) : (binOp .eql 30 (.slice none 0 0) (.slice none 0 0)).run Yba.prog w = .ok (.bool true) w := by kernel_rfl
theorem eq_float (w : World) : (binOp .eql 22 (.float .f64 0) (.float .f64 0)).run Yba.prog w = .ok (.bool true) w := by kernel_rfl
theorem eq_func (w : World) : (binOp .eql 61 .nilFunc .nilFunc).run Yba.prog w = .ok (.bool true) w := by kernel_rfl
theorem eq_counts0 (w : World) : (Op.equalIn 10000 37 (.agg #[.int .i64 0, .int .i64 0, .int .i64 0, .int .i64 0, .int .i64 0, .int .i64 0, .int .i64 0, .int .i64 0, .int .i64 0, .int .i64 0, .int .i64 0, .int .i64 0]) (.agg #[.int .i64 0, .int .i64 0, .int .i64 0, .int .i64 0, .int .i64 0, .int .i64 0, .int .i64 0, .int .i64 0, .int .i64 0, .int .i64 0, .int .i64 0, .int .i64 0])).run Yba.prog w = .ok true w := by kernel_rfl

set_option maxRecDepth 100000 in
set_option maxHeartbeats 1600000 in
theorem zero_any (T : Nat) (w : World) (h : w.heap[T]? = some (.cells (txCells 0) 63 (0, 0))) :
    Calls Yba.prog 8 #[.pointer (some ⟨T, 0, none⟩)] w fun e w' => e = .returned (.bool true) ∧ w' = w := by
  have c0 : w.cell? ⟨T, 0, none⟩ = some (.pointer none) := tx_cell w T h 0
  have c1 : w.cell? ⟨T, 1, none⟩ = some (.pointer none) := tx_cell w T h 1
  have c2 : w.cell? ⟨T, 2, none⟩ = some (.pointer none) := tx_cell w T h 2
  have c3 : w.cell? ⟨T, 3, none⟩ = some (.slice none 0 0) := tx_cell w T h 3
  have c4 : w.cell? ⟨T, 4, none⟩ = some (.bool false) := tx_cell w T h 4
  have c5 : w.cell? ⟨T, 5, none⟩ = some (.float .f64 0) := tx_cell w T h 5
  have c6 : w.cell? ⟨T, 6, none⟩ = some (.int .u64 0) := tx_cell w T h 6
  have c7 : w.cell? ⟨T, 7, none⟩ = some .nilFunc := tx_cell w T h 7
  have c8 : w.cell? ⟨T, 8, none⟩ = some (.int .i64 0) := tx_cell w T h 8
  have c9 : w.cell? ⟨T, 9, none⟩ = some (.int .i64 0) := tx_cell w T h 9
  have c10 : w.cell? ⟨T, 10, none⟩ = some (.int .i64 0) := tx_cell w T h 10
  have c11 : w.cell? ⟨T, 11, none⟩ = some (.int .i64 0) := tx_cell w T h 11
  have c12 : w.cell? ⟨T, 12, none⟩ = some (.int .i64 0) := tx_cell w T h 12
  have c13 : w.cell? ⟨T, 13, none⟩ = some (.int .i64 0) := tx_cell w T h 13
  have c14 : w.cell? ⟨T, 14, none⟩ = some (.int .i64 0) := tx_cell w T h 14
  have c15 : w.cell? ⟨T, 15, none⟩ = some (.int .i64 0) := tx_cell w T h 15
  have c16 : w.cell? ⟨T, 16, none⟩ = some (.int .i64 0) := tx_cell w T h 16
  have c17 : w.cell? ⟨T, 17, none⟩ = some (.int .i64 0) := tx_cell w T h 17
  have c18 : w.cell? ⟨T, 18, none⟩ = some (.int .i64 0) := tx_cell w T h 18
  have c19 : w.cell? ⟨T, 19, none⟩ = some (.int .i64 0) := tx_cell w T h 19
  have c20 : w.cell? ⟨T, 20, none⟩ = some (.pointer none) := tx_cell w T h 20
  have c21 : w.cell? ⟨T, 21, none⟩ = some (.bool false) := tx_cell w T h 21
  have c22 : w.cell? ⟨T, 22, none⟩ = some (.float .f64 0) := tx_cell w T h 22
  have e1 := eq_slice w
  have e2 := eq_float w
  have e3 := eq_func w
  have e4 := eq_counts0 w
  clear h
  go_enter Yba.func8, Yba.ntmps8
  go_wp2
  go_ret
  exact ⟨rfl, rfl⟩
end Go.Proofs.Ybulkbbze
