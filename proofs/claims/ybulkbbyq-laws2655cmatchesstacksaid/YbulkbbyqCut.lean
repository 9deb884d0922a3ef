/-
  cut (5).
-/
import Derived.Test.YbulkbbyqSmall
namespace Go.Proofs.Ybulkbbyq
open Go.ChangeShapes Go.WideShapes Go.ChangeAt Go.RowKit Plain

/-- the stack's row, cut. -/
theorem StV.cutTo {w : World} {S : Nat} {vo vm : Value} {B : Nat} {L : Int} {bs : Nat} {os : List Opd} {n : Nat} {No : Nat → Prop} (h : StV w S vo vm B L bs os n No) : ∃ a c, vo = .slice a os.length c ∧ os.length ≤ c ∧ c ≤ maxLen ∧ ∀ j, j ≤ os.length → w.ownsRow B 35 3 (.slice a j c) (os.take j).length (ocells (os.take j)) := by
  have ho := h.ops
  rcases h.ops.2 with ⟨rfl, h0⟩ | ⟨g, cap, cur, rfl, _, _, hm, hc, _⟩
  · obtain rfl := List.length_eq_zero_iff.1 h0
    refine ⟨_, _, rfl, Nat.le_refl _, by simp [maxLen], fun j hj => ?_⟩
    obtain rfl : j = 0 := by simpa using hj
    exact World.ownsRow_nil _ _ _ _
  · refine ⟨_, _, rfl, hm, hc, fun j hj => ?_⟩
    have := cutRow (m := j) ho hj
    rw [ocells_take] at this
    rw [List.length_take, Nat.min_eq_left hj]
    exact this

set_option maxRecDepth 100000 in
theorem cut_lo (w : World) (S : Nat) (vo vm : Value) (B : Nat) (L : Int) (bs : Nat) (os : List Opd) (n : Nat) (No : Nat → Prop) (h : StV w S vo vm B L bs os n No) (hB : B ≤ w.heap.size) (d : Nat) (hd : d < bs) :
    Calls Yba.prog 5 #[.pointer (some ⟨S, 0, none⟩), .int .i64 d] w fun e w' => e = .returned (.tuple #[]) ∧ St w' S B L d [] n No ∧ Fr B S No w w' := by
  have h1 := h.c1
  have h2 := h.c2
  have f1 := h.free 1
  have f2 := h.free 2
  obtain ⟨a, m, c, rfl, hmc, hc, hown⟩ := h.none
  have hend : ∀ w' : World, w'.os = w.os → w'.tape = w.tape → w'.output = w.output → w'.heap = ((w.setCell ⟨S, 1, none⟩ (.int .i64 d)).setCell ⟨S, 2, none⟩ (.slice a 0 c)).heap → St w' S B L d [] n No ∧ Fr B S No w w' := by
    intro w' e1 e2 e3 e4
    have ho : ∀ (k : Nat), k ≠ S → w'.heap[k]? = w.heap[k]? := fun k hk => by rw [e4]; exact other2 w S _ _ k hk
    exact ⟨⟨_, _, h.put (.slice a 0 c) d [] hown (fun G hG => ginv_empty hG d) (by rw [e4]; exact heap_set2 w S _ _ _ _ _ _ h.blk) ho⟩, frS h hB e1 e2 e3 (by rw [e4]; simp) ho⟩
  have HE : Hid (∀ w' : World, w'.os = w.os → w'.tape = w.tape → w'.output = w.output → w'.heap = ((w.setCell ⟨S, 1, none⟩ (.int .i64 d)).setCell ⟨S, 2, none⟩ (.slice a 0 c)).heap → St w' S B L d [] n No ∧ Fr B S No w w') := hend
  clear h hend hown
  unfold maxLen at hc
  go_enter Yba.func5, Yba.ntmps5
  go_wp2
  go_region
  go_wp2
  try simp only [Exit.inBlock, Exit.then]
  refine bodyPost_ret (results_none rfl _ _ _) rfl ?_
  exact ⟨rfl, HE.out _ rfl rfl rfl rfl⟩

set_option maxRecDepth 100000 in
theorem cut_hi (w : World) (S : Nat) (vo vm : Value) (B : Nat) (L : Int) (bs : Nat) (os : List Opd) (n : Nat) (No : Nat → Prop) (h : StV w S vo vm B L bs os n No) (hB : B ≤ w.heap.size) (j : Nat) (hj : j ≤ os.length) (hb : bs + os.length ≤ 3000) :
    Calls Yba.prog 5 #[.pointer (some ⟨S, 0, none⟩), .int .i64 ((bs + j : Nat) : Int)] w fun e w' => e = .returned (.tuple #[]) ∧ St w' S B L bs (os.take j) n No ∧ Fr B S No w w' := by
  have h1 := h.c1
  have h2 := h.c2
  have f2 := h.free 2
  obtain ⟨a, c, rfl, hmc, hc, hown⟩ := h.cutTo
  have hend : ∀ w' : World, w'.os = w.os → w'.tape = w.tape → w'.output = w.output → w'.heap = (w.setCell ⟨S, 2, none⟩ (.slice a j c)).heap → St w' S B L bs (os.take j) n No ∧ Fr B S No w w' := by
    intro w' e1 e2 e3 e4
    have ho : ∀ (k : Nat), k ≠ S → w'.heap[k]? = w.heap[k]? := fun k hk => by rw [e4]; exact heap_setCell_other _ ⟨S, 2, none⟩ k _ hk
    exact ⟨⟨_, _, h.put (.slice a j c) bs (os.take j) (hown j hj) (fun G hG => ginv_cut hG j) (by rw [e4]; exact heap_set1 w S _ _ _ _ _ h.blk) ho⟩, frS h hB e1 e2 e3 (by rw [e4]; simp) ho⟩
  have HE : Hid (∀ w' : World, w'.os = w.os → w'.tape = w.tape → w'.output = w.output → w'.heap = (w.setCell ⟨S, 2, none⟩ (.slice a j c)).heap → St w' S B L bs (os.take j) n No ∧ Fr B S No w w') := hend
  clear h hend hown
  unfold maxLen at hc
  generalize os.length = m at *
  have hlt : decide (((bs + j : Nat) : Int) < (bs : Int)) = false := by simp; omega
  have hsub : ((bs + j : Nat) : Int) - (bs : Int) = (j : Int) := by omega
  have hjc : (j : Int) ≤ (c : Int) := by omega
  go_enter Yba.func5, Yba.ntmps5
  go_wp2
  go_region
  go_wp2
  go_end0
  exact ⟨rfl, HE.out _ rfl rfl rfl rfl⟩
end Go.Proofs.Ybulkbbyq
