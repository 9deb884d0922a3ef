/-
  (*spares).take (9) at a pool that is not empty.
-/
import Derived.Test.YbulkbbzeSpare
namespace Go.Proofs.Ybulkbbze
open Go.ChangeShapes Go.WideShapes Go.ChangeAt Go.RowKit Go.Shelf

/-- the row behind the last element's stroke and the cut. -/
theorem own_cut {w : World} {base g n c : Nat} {xs : List Value} {x : Value} (h : w.ownsRow base 38 1 (.slice (some ⟨g, 0, none⟩) (n + 1) c) (n + 1) (xs ++ [x])) (u : Value) :
    (w.setCell ⟨g, n, none⟩ u).ownsRow base 38 1 (.slice (some ⟨g, 0, none⟩) n c) n xs := by
  have hl : xs.length = n := by have := h.1; simp at this; omega
  obtain ⟨h1, h2⟩ := (h.stored n u).1
  refine ⟨by omega, ?_⟩
  rcases h2 with ⟨h', _⟩ | ⟨g', cap, cur, h', h3, h4, h5, h6, h7, h8⟩
  · cases h'
  · cases h'
    refine Or.inr ⟨g, c, cur, rfl, h3, h4, by omega, h6, h7, ?_⟩
    have := congrArg (List.take n) h8
    rw [List.take_take] at this
    rw [show n * 1 = n from by omega]
    rw [show min n ((n + 1) * 1) = n from by omega] at this
    rw [this, List.take_set, List.set_eq_of_length_le (by simp; omega)]
    rw [← hl, List.take_left]

set_option maxRecDepth 100000 in
set_option maxHeartbeats 1600000 in
theorem take_any (D base : Nat) (cs : Array Value) (v : Value) (n : Nat) (xs : List Value) (q : Option Addr) (w : World) (hP : Pool w D base cs v (n + 1) (xs ++ [.pointer q])) (hb : base ≤ w.heap.size) (hn : n ≤ 300) :
    Calls Yba.prog 9 #[.pointer (some ⟨D, 56, none⟩)] w fun e w' => e = .returned (.tuple #[.pointer q, .bool true]) ∧ ∃ cs' v', Pool w' D base cs' v' n xs ∧ Fr D base w w' := by
  have hc := hP.cell
  have hf := hP.free
  have hlt := hP.lt_size
  have hl : xs.length = n := by have := hP.own.1; simp at this; omega
  rcases hP.own.2 with ⟨_, h⟩ | ⟨g, c, cur, rfl, hbg, hg, hnc, hcm, hcs, htk⟩
  · omega
  have hgD : g ≠ D := by have := hP.lt; omega
  have hcg : w.cell? ⟨g, n, none⟩ = some (.pointer q) := by rw [hP.own.cellAt n (by omega)]; simp [← hl]
  have hfg : w.frozen? ⟨g, n, none⟩ = false := hP.own.frozenAt n
  have hcut := own_cut hP.own (.pointer none)
  have hblk : (w.setCell ⟨g, n, none⟩ (.pointer none)).heap[D]? = w.heap[D]? := heap_setCell_other w ⟨g, n, none⟩ D _ (fun e => hgD e.symm)
  have hc2 : (w.setCell ⟨g, n, none⟩ (.pointer none)).cell? ⟨D, 56, none⟩ = some (.slice (some ⟨g, 0, none⟩) (n + 1) c) := (World.cell?_of_block hblk).trans hc
  have hf2 : (w.setCell ⟨g, n, none⟩ (.pointer none)).frozen? ⟨D, 56, none⟩ = false := (World.frozen?_of_block hblk).trans hf
  have hnz : (((n + 1 : Nat) : Int) == 0) = false := by rw [beq_eq_false_iff_ne]; omega
  unfold maxLen at hcm
  have HP := hP.put hblk hcut
  have hF : Fr D base w (w.setCell ⟨g, n, none⟩ (.pointer none)) := Fr.grown ((hP.own.stored n (.pointer none)).2) hb (fun g' h => by cases h; exact ⟨hbg, cur, hg⟩)
  clear hcut hcs htk hg
  go_enter Yba.func9, Yba.ntmps9
  go_wp2
  go_ret2
  exact ⟨rfl, _, _, HP, hF.trans (Fr.set D base _ 56 _)⟩
end Go.Proofs.Ybulkbbze
