/-
  The small functions: depth (9), own (10), at (12), reset (6), cut (5), settle (7).
-/
import Derived.Test.YbulkbbyqMem
import Derived.Test.YbulkbbyqRows
import Derived.WalkKit
import Derived.ProofKit
import Derived.OpenShut
import Derived.Deep.QuietTactic
import Derived.BigQuiet
import Derived.BigRegion
import Derived.Deep.RegionWith
import Derived.Deep.DeepCutAuto
import Derived.Laws.OwnMore
namespace Go.Proofs.Ybulkbbyq
open Go.ChangeShapes Go.WideShapes Go.ChangeAt Go.RowKit Plain

section
variable {w : World} {S : Nat} {vo vm : Value} {B : Nat} {L : Int} {bs : Nat} {os : List Opd}
theorem StB.c0 (h : StB w S vo vm B L bs os) : w.cell? ⟨S, 0, none⟩ = some (.int .i32 L) := by rw [cell_of_row w S 0 _ _ _ h.blk]; rfl
theorem StB.c1 (h : StB w S vo vm B L bs os) : w.cell? ⟨S, 1, none⟩ = some (.int .i64 bs) := by rw [cell_of_row w S 1 _ _ _ h.blk]; rfl
theorem StB.c2 (h : StB w S vo vm B L bs os) : w.cell? ⟨S, 2, none⟩ = some vo := by rw [cell_of_row w S 2 _ _ _ h.blk]; rfl
theorem StB.c3 (h : StB w S vo vm B L bs os) : w.cell? ⟨S, 3, none⟩ = some vm := by rw [cell_of_row w S 3 _ _ _ h.blk]; rfl
theorem StB.free (h : StB w S vo vm B L bs os) (j : Nat) : w.frozen? ⟨S, j, none⟩ = false := frozen_of_row w S j _ 27 h.blk
theorem StB.shape (h : StB w S vo vm B L bs os) : ∃ a c, vo = .slice a os.length c ∧ c ≤ maxLen := by
  rcases h.ops.2 with ⟨rfl, h0⟩ | ⟨g, cap, cur, rfl, _, _, _, hc, _⟩
  · rw [h0]; exact ⟨none, 0, rfl, by simp [maxLen]⟩
  · exact ⟨_, _, rfl, hc⟩
end
section
variable {w : World} {S : Nat} {vo vm : Value} {B : Nat} {L : Int} {bs : Nat} {os : List Opd} {n : Nat} {No : Nat → Prop}
theorem StV.c0 (h : StV w S vo vm B L bs os n No) : w.cell? ⟨S, 0, none⟩ = some (.int .i32 L) := h.toB.c0
theorem StV.c1 (h : StV w S vo vm B L bs os n No) : w.cell? ⟨S, 1, none⟩ = some (.int .i64 bs) := h.toB.c1
theorem StV.c2 (h : StV w S vo vm B L bs os n No) : w.cell? ⟨S, 2, none⟩ = some vo := h.toB.c2
theorem StV.c3 (h : StV w S vo vm B L bs os n No) : w.cell? ⟨S, 3, none⟩ = some vm := h.toB.c3
theorem StV.free (h : StV w S vo vm B L bs os n No) (j : Nat) : w.frozen? ⟨S, j, none⟩ = false := h.toB.free j
end

set_option maxRecDepth 100000 in
theorem depth_any (w : World) (S : Nat) (vo vm : Value) (B : Nat) (L : Int) (bs : Nat) (os : List Opd) (h : StB w S vo vm B L bs os) (hb : bs + os.length ≤ 3000) :
    Calls Yba.prog 9 #[.pointer (some ⟨S, 0, none⟩)] w fun e w' => e = .returned (.int .i64 (((bs + os.length : Nat) : Int))) ∧ ∃ i, w' = w.drewN i := by
  have h1 := h.c1
  have h2 := h.c2
  obtain ⟨a, c, rfl, hc⟩ := h.shape
  generalize os.length = m at *
  clear h
  go_enter Yba.func9, Yba.ntmps9
  go_wp2
  go_quiet (fail)
  go_wp2
  go_ret
  exact ⟨rfl, _, rfl⟩

set_option maxRecDepth 100000 in
theorem own_any (w : World) (S : Nat) (vo vm : Value) (B : Nat) (L : Int) (bs : Nat) (os : List Opd) (h : StB w S vo vm B L bs os) (hL : 1 ≤ L ∧ L ≤ 16) (k : Nat) (hk : k ≤ 3000) :
    Calls Yba.prog 10 #[.pointer (some ⟨S, 0, none⟩), .int .i64 k] w fun e w' => e = .returned (.int .i32 (L + (k : Int))) ∧ w' = w := by
  have h0 := h.c0
  clear h
  obtain ⟨hL1, hL2⟩ := hL
  go_enter Yba.func10, Yba.ntmps10
  go_wp2
  go_ret
  exact ⟨rfl, rfl⟩

/-- a new block S, all others as they were. -/
theorem StV.put {w w' : World} {S : Nat} {vo vm : Value} {B : Nat} {L : Int} {bs : Nat} {os : List Opd} {n : Nat} {No : Nat → Prop} (h : StV w S vo vm B L bs os n No) (vo' : Value) (bs' : Nat) (os' : List Opd) (hown : w.ownsRow B 35 3 vo' os'.length (ocells os')) (hi : ∀ G, GInv L bs os G → GInv L bs' os' G)
    (hS : w'.heap[S]? = some (.cells #[.int .i32 L, .int .i64 bs', vo', vm] 27 (0, 0))) (ho : ∀ (k : Nat), k ≠ S → w'.heap[k]? = w.heap[k]?) : StV w' S vo' vm B L bs' os' n No := by
  have hne : ∀ (g : Nat) (o : Obj), w.heap[g]? = some o → (∀ cs, o ≠ .cells cs 27 (0, 0)) → g ≠ S := fun g o hg hc e => by
    subst e
    rw [h.blk] at hg
    exact hc _ (Option.some.inj hg).symm
  refine ⟨h.low, hS, rowKept hown (fun g cs _ hg => ho g (hne g _ hg (fun cs' e => by cases e))), (h.map.inv hi).kept (fun M es c hM => ho M (hne M _ hM (fun cs' e => by cases e))) (fun g cs hg _ => ho g (hne g _ hg (fun cs' e => by cases e)))⟩

theorem frS {w w' : World} {S : Nat} {vo vm : Value} {B : Nat} {L : Int} {bs : Nat} {os : List Opd} {n : Nat} {No : Nat → Prop} (h : StV w S vo vm B L bs os n No) (hB : B ≤ w.heap.size) (h1 : w'.os = w.os) (h2 : w'.tape = w.tape) (h3 : w'.output = w.output) (hs : w.heap.size ≤ w'.heap.size) (ho : ∀ (k : Nat), k ≠ S → w'.heap[k]? = w.heap[k]?) : Fr B S No w w' :=
  Fr.one (row := some S) ⟨h1, h2, h3, hs, fun k _ hne => ho k (fun e => hne (by rw [e]))⟩ hB (fun k hk => by cases hk; exact ⟨h.low, .inl rfl⟩)

theorem heap_set2 (w : World) (S : Nat) (a b c d u v : Value) (h : w.heap[S]? = some (.cells #[a, b, c, d] 27 (0, 0))) : ((w.setCell ⟨S, 1, none⟩ u).setCell ⟨S, 2, none⟩ v).heap[S]? = some (.cells #[a, u, v, d] 27 (0, 0)) := by
  rw [heap_setCell_same _ S 2 #[a, u, c, d] 27 v (by rw [heap_setCell_same w S 1 #[a, b, c, d] 27 u h]; rfl)]
  rfl
theorem heap_set1 (w : World) (S : Nat) (a b c d v : Value) (h : w.heap[S]? = some (.cells #[a, b, c, d] 27 (0, 0))) : (w.setCell ⟨S, 2, none⟩ v).heap[S]? = some (.cells #[a, b, v, d] 27 (0, 0)) := by
  rw [heap_setCell_same w S 2 #[a, b, c, d] 27 v h]
  rfl
theorem other2 (w : World) (S : Nat) (u v : Value) (k : Nat) (hk : k ≠ S) : ((w.setCell ⟨S, 1, none⟩ u).setCell ⟨S, 2, none⟩ v).heap[k]? = w.heap[k]? := by
  rw [heap_setCell_other _ ⟨S, 2, none⟩ k v hk, heap_setCell_other _ ⟨S, 1, none⟩ k u hk]

/-- the stack's row, cut to nothing. -/
theorem StV.none {w : World} {S : Nat} {vo vm : Value} {B : Nat} {L : Int} {bs : Nat} {os : List Opd} {n : Nat} {No : Nat → Prop} (h : StV w S vo vm B L bs os n No) : ∃ a m c, vo = .slice a m c ∧ m ≤ c ∧ c ≤ maxLen ∧ w.ownsRow B 35 3 (.slice a 0 c) 0 [] := by
  have ho := h.ops
  rcases h.ops.2 with ⟨rfl, h0⟩ | ⟨g, cap, cur, rfl, _, _, hm, hc, _⟩
  · exact ⟨_, _, _, rfl, Nat.le_refl _, by simp [maxLen], World.ownsRow_nil _ _ _ _⟩
  · exact ⟨_, _, _, rfl, hm, hc, by simpa using cutRow (m := 0) ho (by omega)⟩

set_option maxRecDepth 100000 in
theorem reset_any (w : World) (S : Nat) (vo vm : Value) (B : Nat) (L : Int) (bs : Nat) (os : List Opd) (n : Nat) (No : Nat → Prop) (h : StV w S vo vm B L bs os n No) (hB : B ≤ w.heap.size) (d : Nat) :
    Calls Yba.prog 6 #[.pointer (some ⟨S, 0, Option.none⟩), .int .i64 d] w fun e w' => e = .returned (.tuple #[]) ∧ St w' S B L d [] n No ∧ Fr B S No w w' := by
  have h1 := h.c1
  have h2 := h.c2
  have f1 := h.free 1
  have f2 := h.free 2
  obtain ⟨a, m, c, rfl, hmc, hc, hown⟩ := h.none
  have hend : ∀ w' : World, w'.os = w.os → w'.tape = w.tape → w'.output = w.output → w'.heap = ((w.setCell ⟨S, 1, Option.none⟩ (.int .i64 d)).setCell ⟨S, 2, Option.none⟩ (.slice a 0 c)).heap → St w' S B L d [] n No ∧ Fr B S No w w' := by
    intro w' e1 e2 e3 e4
    have ho : ∀ (k : Nat), k ≠ S → w'.heap[k]? = w.heap[k]? := fun k hk => by rw [e4]; exact other2 w S _ _ k hk
    exact ⟨⟨_, _, h.put (.slice a 0 c) d [] hown (fun G hG => ginv_empty hG d) (by rw [e4]; exact heap_set2 w S _ _ _ _ _ _ h.blk) ho⟩, frS h hB e1 e2 e3 (by rw [e4]; simp) ho⟩
  have HE : Hid (∀ w' : World, w'.os = w.os → w'.tape = w.tape → w'.output = w.output → w'.heap = ((w.setCell ⟨S, 1, Option.none⟩ (.int .i64 d)).setCell ⟨S, 2, Option.none⟩ (.slice a 0 c)).heap → St w' S B L d [] n No ∧ Fr B S No w w') := hend
  clear h hend hown
  unfold maxLen at hc
  go_enter Yba.func6, Yba.ntmps6
  go_wp2
  go_region
  go_end0
  exact ⟨rfl, HE.out _ rfl rfl rfl rfl⟩
end Go.Proofs.Ybulkbbyq
