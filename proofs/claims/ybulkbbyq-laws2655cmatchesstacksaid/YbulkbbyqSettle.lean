/-
  settle (7).
-/
import Derived.Test.YbulkbbyqAt
import Derived.Deep.RegionHeldLaw
namespace Go.Proofs.Ybulkbbyq
open Go.ChangeShapes Go.WideShapes Go.ChangeAt Go.RowKit Plain

theorem StV.drew {w : World} {S : Nat} {vo vm : Value} {B : Nat} {L : Int} {bs : Nat} {os : List Opd} {n : Nat} {No : Nat → Prop} (h : StV w S vo vm B L bs os n No) : StV w.drew S vo vm B L bs os n No := h.below (Below.refl _ w).drew

/-- the row written, all else as it was. -/
theorem StV.row {w w' : World} {S : Nat} {vo vm : Value} {B : Nat} {L : Int} {bs : Nat} {os : List Opd} {n : Nat} {No : Nat → Prop} (h : StV w S vo vm B L bs os n No) (g : Nat) (hg : vo.ownBlock = some g) (os' : List Opd) (hown : w'.ownsRow B 35 3 vo os'.length (ocells os')) (hi : ∀ G, GInv L bs os G → GInv L bs os' G)
    (hgr : w.grownBy w' (some g)) : StV w' S vo vm B L bs os' n No := by
  obtain ⟨cs0, hb0⟩ : ∃ cs0, w.heap[g]? = some (.cells cs0 35 (0, 0)) := by
    rcases h.ops.2 with ⟨e, _⟩ | ⟨g', c, cur, e, _, hh, _⟩
    · rw [e] at hg; cases hg
    · rw [e] at hg; cases hg; exact ⟨cur, hh⟩
  have ho : ∀ (k : Nat) (o : Obj), w.heap[k]? = some o → (∀ cs, o ≠ .cells cs 35 (0, 0)) → w'.heap[k]? = w.heap[k]? := fun k o hk hc => hgr.block k (lt_of_heap hk) (fun e => by
    cases e
    rw [hb0] at hk
    exact hc _ (Option.some.inj hk).symm)
  exact ⟨h.low, (ho S _ h.blk (fun cs e => by cases e)).trans h.blk, hown, (h.map.inv hi).kept (fun M es c hM => ho M _ hM (fun cs e => by cases e)) (fun g cs hg _ => ho g _ hg (fun cs e => by cases e))⟩

set_option maxRecDepth 100000 in
theorem settle_any (w : World) (S : Nat) (vo vm : Value) (B : Nat) (L : Int) (bs : Nat) (os : List Opd) (n : Nat) (No : Nat → Prop) (h : StV w S vo vm B L bs os n No) (hB : B ≤ w.heap.size) (hL : 1 ≤ L ∧ L ≤ 16) (k : Nat) (hk : bs ≤ k) (hk' : k < bs + os.length) (hb : bs + os.length ≤ 3000) :
    Calls Yba.prog 7 #[.pointer (some ⟨S, 0, none⟩), .int .i64 (k : Int)] w fun e w' => e = .returned (.tuple #[]) ∧ St w' S B L bs (os.set (k - bs) (false, 0, L + (k : Int))) n No ∧ Fr B S No w w' := by
  have hS := lt_of_heap h.blk
  have h1 := h.c1
  have h2 := h.c2
  have hown := h.ops
  rcases h.ops.2 with ⟨_, h0⟩ | ⟨g, c, cur, rfl, hbg, hg, hnc, hcm, hcs, htk⟩
  · omega
  have hlen : (ocells os).length = os.length * 3 := ocells_length os
  obtain ⟨o, ho⟩ : ∃ o, os[k - bs]? = some o := ⟨_, List.getElem?_eq_getElem (by omega)⟩
  obtain ⟨c0, c1, c2⟩ := ocells_get os (k - bs) o ho
  have d0 := cellsAt hown _ _ c0
  have d1 := cellsAt hown _ _ c1
  have d2 := cellsAt hown _ _ c2
  have f0 := hown.frozenAt ((k - bs) * 3)
  have f1 := hown.frozenAt ((k - bs) * 3 + 1)
  have f2 := hown.frozenAt ((k - bs) * 3 + 2)
  have hO : Hid (Calls Yba.prog 10 #[.pointer (some ⟨S, 0, none⟩), .int .i64 k] w.drew fun e w' => e = .returned (.int .i32 (L + (k : Int))) ∧ w' = w.drew) := own_any w.drew S _ vm B L bs os h.drew.toB hL k (by omega)
  have hend : ∀ w' : World, w'.os = w.os → w'.tape = w.tape → w'.output = w.output → w'.heap = (((w.setCell ⟨g, (k - bs) * 3, none⟩ (.bool false)).setCell ⟨g, (k - bs) * 3 + 1, none⟩ (.int .i32 0)).setCell ⟨g, (k - bs) * 3 + 2, none⟩ (.int .i32 (L + (k : Int)))).heap →
      St w' S B L bs (os.set (k - bs) (false, 0, L + (k : Int))) n No ∧ Fr B S No w w' := by
    intro w' e1 e2 e3 e4
    obtain ⟨s1, g1⟩ := hown.stored ((k - bs) * 3) (.bool false)
    obtain ⟨s2, g2⟩ := s1.stored ((k - bs) * 3 + 1) (.int .i32 0)
    obtain ⟨s3, g3⟩ := s2.stored ((k - bs) * 3 + 2) (.int .i32 (L + (k : Int)))
    have gg := (g1.trans g2).trans g3
    have hgr : w.grownBy w' (some g) := ⟨e1, e2, e3, by rw [e4]; exact gg.size, fun i hi hne => by rw [e4]; exact gg.block i hi hne⟩
    refine ⟨⟨_, _, h.row g rfl _ ?_ (fun G hG => ginv_set hG (k - bs) (L + (k : Int)) (by omega)) hgr⟩, Fr.one hgr hB (fun i hi => by cases hi; exact ⟨hbg, .inr (.inl ⟨_, _, hg⟩)⟩)⟩
    rw [ocells_set, List.length_set]
    exact rowKept s3 (fun i cs _ _ => by rw [e4])
  have HE : Hid (∀ w' : World, w'.os = w.os → w'.tape = w.tape → w'.output = w.output → w'.heap = (((w.setCell ⟨g, (k - bs) * 3, none⟩ (.bool false)).setCell ⟨g, (k - bs) * 3 + 1, none⟩ (.int .i32 0)).setCell ⟨g, (k - bs) * 3 + 2, none⟩ (.int .i32 (L + (k : Int)))).heap →
      St w' S B L bs (os.set (k - bs) (false, 0, L + (k : Int))) n No ∧ Fr B S No w w') := hend
  have hne : g ≠ S := fun e => by subst e; rw [h.blk] at hg; cases hg
  clear hown c0 c1 c2 hg htk hcs h ho hend
  generalize os.length = m at *
  have hw : IntKind.i64.wrap ((k : Int) - (bs : Int)) = ((k - bs : Nat) : Int) := by
    rw [show (k : Int) - (bs : Int) = ((k - bs : Nat) : Int) from by omega]
    have : k - bs ≤ 3000 := by omega
    generalize k - bs = q at *
    rw [IntKind.wrap_i64]
    omega
  have hN : k - bs < m := by omega
  unfold maxLen at hcm
  go_enter Yba.func7, Yba.ntmps7
  go_wp2
  go_region_held (fun w' => w'.cell? ⟨S, 1, none⟩ = some (.int .i64 bs) ∧ w'.cell? ⟨S, 2, none⟩ = some (.slice (some ⟨g, 0, none⟩) m c)) (go_keep)
    (first | (go_at_call 10; refine hO.out.mono ?_; rintro e w' ⟨rfl, rfl⟩))
  all_goals (go_end0; exact ⟨rfl, HE.out _ rfl rfl rfl rfl⟩)
end Go.Proofs.Ybulkbbyq
