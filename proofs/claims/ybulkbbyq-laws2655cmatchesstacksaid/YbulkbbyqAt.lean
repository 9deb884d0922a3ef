/-
  at (12).
-/
import Derived.Test.YbulkbbyqCut
import Derived.Laws.Rows
import Derived.Laws.NewBlocks
namespace Go.Proofs.Ybulkbbyq
open Go.ChangeShapes Go.WideShapes Go.ChangeAt Go.RowKit Plain

theorem cellsAt {w : World} {base : Nat} {e : TypeId} {size g n c : Nat} {xs : List Value} (h : w.ownsRow base e size (.slice (some ⟨g, 0, none⟩) n c) n xs) (j : Nat) (u : Value) (hu : xs[j]? = some u) : w.cell? ⟨g, j, none⟩ = some u := by
  have := h.cells (g := g) rfl j u hu
  have hadd : (⟨g, 0, none⟩ : Addr).add j = ⟨g, j, none⟩ := by unfold Addr.add; split <;> simp_all
  rwa [hadd] at this

theorem cells35 : Yba.prog.cellsOf 35 = 3 := by kernel_rfl
def aggO (o : Opd) : Value := .agg #[.bool o.1, .int .i32 o.2.1, .int .i32 o.2.2]

set_option maxRecDepth 100000 in
theorem at_lo (w : World) (S : Nat) (vo vm : Value) (B : Nat) (L : Int) (bs : Nat) (os : List Opd) (h : StB w S vo vm B L bs os) (hL : 1 ≤ L ∧ L ≤ 16) (k : Nat) (hk : k < bs) (hb : bs ≤ 3000) :
    Calls Yba.prog 12 #[.pointer (some ⟨S, 0, none⟩), .int .i64 k] w fun e w' => e = .returned (aggO (false, 0, L + (k : Int))) ∧ Below w.heap.size w w' := by
  have hS := lt_of_heap h.blk
  have h' : ∀ o : Obj, StB (w.alloc o) S vo vm B L bs os := fun o => h.below ((Below.refl _ w).alloc (Nat.le_refl _) o)
  have h1 := h.c1
  have hO : Hid (∀ o : Obj, Calls Yba.prog 10 #[.pointer (some ⟨S, 0, none⟩), .int .i64 k] (w.alloc o) fun e w' => e = .returned (.int .i32 (L + (k : Int))) ∧ w' = w.alloc o) := fun o => own_any (w.alloc o) S vo vm B L bs os (h' o) hL k (by omega)
  clear h h'
  go_enter Yba.func12, Yba.ntmps12
  go_wp2_with (go_at_call 10; refine (hO.out _).mono ?_; rintro e w' ⟨rfl, rfl⟩)
  refine bodyPost_ret (results_cell_row (d := _) rfl _ _ w.heap.size 35 #[.bool false, .int .i32 0, .int .i32 (L + (k : Int))] (0, 0) rfl (heap_alloc_new _ _) Yba.underlying35 rfl (by kernel_rfl)) rfl ?_
  exact ⟨rfl, (Below.refl _ w).alloc (Nat.le_refl _) _⟩

theorem cell_alloc_old (w : World) (o : Obj) (a : Addr) (v : Value) (h : w.cell? a = some v) : (w.alloc o).cell? a = some v := by
  rw [World.cell?_alloc_lt _ _ _ (World.block_lt_of_cell? w a h)]
  exact h

set_option maxRecDepth 100000 in
theorem at_hi (w : World) (S : Nat) (vo vm : Value) (B : Nat) (L : Int) (bs : Nat) (os : List Opd) (h : StB w S vo vm B L bs os) (k : Nat) (o : Opd) (hk : bs ≤ k) (ho : os[k - bs]? = some o) (hb : bs + os.length ≤ 3000) :
    Calls Yba.prog 12 #[.pointer (some ⟨S, 0, none⟩), .int .i64 (k : Int)] w fun e w' => e = .returned (aggO o) ∧ Below w.heap.size w w' := by
  have hS := lt_of_heap h.blk
  have h1 := h.c1
  have h2 := h.c2
  have hi : k - bs < os.length := (List.getElem?_eq_some_iff.1 ho).1
  obtain ⟨c0, c1, c2⟩ := ocells_get os (k - bs) o ho
  have hown := h.ops
  rcases h.ops.2 with ⟨_, h0⟩ | ⟨g, c, cur, rfl, hbg, hg, hnc, hcm, hcs, htk⟩
  · omega
  have d0 := cellsAt hown _ _ c0
  have d1 := cellsAt hown _ _ c1
  have d2 := cellsAt hown _ _ c2
  have hG := lt_of_heap hg
  clear hown c0 c1 c2 hg htk hcs h ho
  generalize os.length = m at *
  have hlt : decide ((k : Int) < (bs : Int)) = false := by simp; omega
  have him : (k : Int) - (bs : Int) < (m : Int) := by omega
  unfold maxLen at hcm
  have e1 := cell_alloc_old w (.cells #[.bool false, .int .i32 0, .int .i32 0] 35) _ _ h1
  have e2 := cell_alloc_old w (.cells #[.bool false, .int .i32 0, .int .i32 0] 35) _ _ h2
  have e3 := cell_alloc_old w (.cells #[.bool false, .int .i32 0, .int .i32 0] 35) _ _ d0
  have e4 := cell_alloc_old w (.cells #[.bool false, .int .i32 0, .int .i32 0] 35) _ _ d1
  have e5 := cell_alloc_old w (.cells #[.bool false, .int .i32 0, .int .i32 0] 35) _ _ d2
  go_enter Yba.func12, Yba.ntmps12
  go_wp2
  go_region
  go_wp2
  refine bodyPost_ret (results_cell_row (d := _) rfl _ _ w.heap.size 35 #[.bool o.1, .int .i32 o.2.1, .int .i32 o.2.2] (0, 0) rfl (heap_alloc_new _ _) Yba.underlying35 rfl (by kernel_rfl)) rfl ?_
  exact ⟨rfl, ((Below.refl _ w).alloc (Nat.le_refl _) _).drew⟩

/-- at (12). -/
theorem at_any (w : World) (S : Nat) (vo vm : Value) (B : Nat) (L : Int) (bs : Nat) (os : List Opd) (h : StB w S vo vm B L bs os) (hL : 1 ≤ L ∧ L ≤ 16) (k : Nat) (hk : k < bs + os.length) (hb : bs + os.length ≤ 3000) :
    Calls Yba.prog 12 #[.pointer (some ⟨S, 0, none⟩), .int .i64 (k : Int)] w fun e w' => e = .returned (aggO (atOp L bs os k)) ∧ Below w.heap.size w w' := by
  unfold atOp
  by_cases hlt : k < bs
  · rw [if_pos hlt]
    exact at_lo w S vo vm B L bs os h hL k hlt (by omega)
  · rw [if_neg hlt]
    have hi : k - bs < os.length := by omega
    exact at_hi w S vo vm B L bs os h k _ (by omega) (by rw [List.getD, List.getElem?_eq_getElem hi]; rfl) hb
end Go.Proofs.Ybulkbbyq
