/-
  push (4) of an operand that is no local.
-/
import Derived.Test.YbulkbbyqSettle
import Derived.Deep.RegionLaw
namespace Go.Proofs.Ybulkbbyq
open Go.ChangeShapes Go.WideShapes Go.ChangeAt Go.RowKit Plain

theorem info35 : (Yba.prog.info? 35).map (fun i => (i.zero, i.size, i.bytes)) = some (some (.agg #[.bool false, .int .i32 0, .int .i32 0]), 3, 12) := by kernel_rfl
theorem info21 : (Yba.prog.info? 21).map (fun i => (i.zero, i.size, i.bytes)) = some (some (.int .i32 0), 1, 4) := by kernel_rfl
theorem ownsRow_drew {w : World} {base : Nat} {e : TypeId} {size : Nat} {v : Value} {n : Nat} {xs : List Value} (h : w.ownsRow base e size v n xs) : w.drew.ownsRow base e size v n xs := h
theorem grown_alloc {w w' : World} {o : Obj} {row : Option Nat} (h : ((w.alloc o).drew).grownBy w' row) : w.grownBy w' row :=
  ⟨h.os, h.tape, h.output, Nat.le_trans (by simp) h.size, fun k hk hne => (h.block k (by simp; omega) hne).trans (Below.heap_alloc w o k hk)⟩
/-- the stack's block behind an append to its row. -/
theorem far_blk {w w1 : World} {S B n : Nat} {vo : Value} {cs : Array Value} {xs : List Value} (hb : w.heap[S]? = some (.cells cs 27 (0, 0))) (ho : w.ownsRow B 35 3 vo n xs) (hg : w.grownBy w1 vo.ownBlock) : w1.heap[S]? = some (.cells cs 27 (0, 0)) := by
  rw [hg.block S (lt_of_heap hb) (fun e => ?_)]
  · exact hb
  · rcases ho.2 with ⟨e', _⟩ | ⟨g', c, cur, e', _, hh, _⟩
    · rw [e'] at e; cases e
    · rw [e'] at e; cases e; rw [hb] at hh; cases hh
theorem below_drewN {B : Nat} {a w : World} (h : Below B a w) (i : Nat) : Below B a (w.drewN i) := ⟨h.os, h.tape, h.output, h.size, h.block⟩
theorem grown_drew {w w' : World} {row : Option Nat} (h : w.drew.grownBy w' row) : w.grownBy w' row := ⟨h.os, h.tape, h.output, h.size, h.block⟩

/-- the stack ahead of the last statement of 'push': the map holds the new slot already. -/
structure Mid (w : World) (S Q : Nat) (vo vm : Value) (B : Nat) (L : Int) (bs : Nat) (os : List Opd) (o : Opd) (n : Nat) (No : Nat → Prop) : Prop where
  low : B ≤ S
  blk : w.heap[S]? = some (.cells #[.int .i32 L, .int .i64 bs, vo, vm] 27 (0, 0))
  ops : w.ownsRow B 35 3 vo os.length (ocells os)
  map : MapOk w B vm L bs (os ++ [o]) n No
  opd : w.heap[Q]? = some (.cells #[.bool o.1, .int .i32 o.2.1, .int .i32 o.2.2] 35 (0, 0))

theorem Grp.mono {w : World} {M base n n' : Nat} {No : Nat → Prop} {G : Int → List Int} (h : Grp w M base n No G) (hn : n ≤ n') : Grp w M base n' No G := by
  obtain ⟨D, ⟨es, clock, hb, F, hs, e, hbb, hlen, hap⟩, hm, hsh, hD⟩ := h
  exact ⟨D, ⟨es, clock, hb, F, Nat.le_trans hs hn, e, hbb, fun x hx zs ho => Nat.le_trans (hlen x hx zs ho) hn, hap⟩, hm, hsh, hD⟩
theorem MapOk.mono {w : World} {B : Nat} {vm : Value} {L : Int} {bs : Nat} {os : List Opd} {n n' : Nat} {No : Nat → Prop} (h : MapOk w B vm L bs os n No) (hn : n ≤ n') : MapOk w B vm L bs os n' No := by
  rcases h with h | ⟨M, G, e, hB, hg, hi⟩
  · exact .inl h
  · exact .inr ⟨M, G, e, hB, hg.mono hn, hi⟩

/-- ahead of the last statement where the map is as it was. -/
theorem Mid.of {w w' : World} {S : Nat} {vo vm : Value} {B : Nat} {L : Int} {bs : Nat} {os : List Opd} {n : Nat} {No : Nat → Prop} (h : StV w S vo vm B L bs os n No) (hb : Below w.heap.size w w') (o : Opd) (hi : o.1 = true ∨ L ≤ o.2.2) (hQ : w'.heap[w.heap.size]? = some (.cells #[.bool o.1, .int .i32 o.2.1, .int .i32 o.2.2] 35 (0, 0))) :
    Mid w' S w.heap.size vo vm B L bs os o (n + 1) No :=
  let h' := h.below hb
  ⟨h'.low, h'.blk, h'.ops, (h'.map.inv (fun _ hG => ginv_push_no hG o hi)).mono (Nat.le_succ _), hQ⟩

/-- behind the last statement. -/
theorem Mid.done {w w1 w' : World} {S Q : Nat} {vo vm : Value} {B : Nat} {L : Int} {bs : Nat} {os : List Opd} {o : Opd} {n : Nat} {No : Nat → Prop} (h : Mid w S Q vo vm B L bs os o n No) (hB : B ≤ w.heap.size) (v' : Value) (hown : w1.ownsRow B 35 3 v' (os.length + 1) (ocells os ++ [.bool o.1, .int .i32 o.2.1, .int .i32 o.2.2]))
    (hgr : w.grownBy w1 vo.ownBlock) (hh : w'.heap = (w1.setCell ⟨S, 2, none⟩ v').heap) (e1 : w'.os = w1.os) (e2 : w'.tape = w1.tape) (e3 : w'.output = w1.output) : St w' S B L bs (os ++ [o]) n No ∧ Fr B S No w w' := by
  have hrow : ∀ g, vo.ownBlock = some g → B ≤ g ∧ ∃ cs, w.heap[g]? = some (.cells cs 35 (0, 0)) := by
    intro g hg
    rcases h.ops.2 with ⟨e, _⟩ | ⟨g', c, cur, e, hb, hh, _⟩
    · rw [e] at hg; cases hg
    · rw [e] at hg; cases hg; exact ⟨hb, cur, hh⟩
  have ho : ∀ (k : Nat) (o : Obj), w.heap[k]? = some o → (∀ cs, o ≠ .cells cs 35 (0, 0)) → w1.heap[k]? = w.heap[k]? := fun k o hk hc => hgr.block k (lt_of_heap hk) (fun e => by
    obtain ⟨_, cs, hcs⟩ := hrow k e.symm
    rw [hcs] at hk
    exact hc _ (Option.some.inj hk).symm)
  have hS1 : w1.heap[S]? = some (.cells #[.int .i32 L, .int .i64 bs, vo, vm] 27 (0, 0)) := (ho S _ h.blk (fun cs e => by cases e)).trans h.blk
  have hne : ∀ (k : Nat) (o : Obj), w1.heap[k]? = some o → (∀ cs, o ≠ .cells cs 27 (0, 0)) → w'.heap[k]? = w1.heap[k]? := fun k o hk hc => by
    rw [hh]
    refine heap_setCell_other w1 ⟨S, 2, none⟩ k v' (fun e => ?_)
    simp only at e
    rw [e, hS1] at hk
    exact hc _ (Option.some.inj hk).symm
  have hlow : B ≤ S := h.low
  refine ⟨⟨v', vm, hlow, by rw [hh]; exact heap_set1 w1 S _ _ _ _ _ hS1, ?_, (h.map.kept (fun M es c hM => ?_) (fun g cs hg _ => ?_))⟩, ?_⟩
  · rw [ocells_append, List.length_append]
    exact rowKept hown (fun g cs _ hg => hne g _ hg (fun cs' e => by cases e))
  · have e := ho M _ hM (fun cs e => by cases e)
    rw [hne M _ (e.trans hM) (fun cs e => by cases e), e]
  · have e := ho g _ hg (fun cs e => by cases e)
    rw [hne g _ (e.trans hg) (fun cs e => by cases e), e]
  · have f1 : Fr B S No w w1 := Fr.one hgr hB (fun k hk => by
      obtain ⟨hb, cs, hcs⟩ := hrow k hk
      exact ⟨hb, .inr (.inl ⟨cs, _, hcs⟩)⟩)
    refine f1.trans (Fr.one (row := some S) ⟨e1, e2, e3, by rw [hh]; simp, fun k _ hk => ?_⟩ (Nat.le_trans hB hgr.size) (fun k hk => by cases hk; exact ⟨hlow, .inl rfl⟩))
    rw [hh]
    exact heap_setCell_other w1 ⟨S, 2, none⟩ k v' (fun e => hk (by simp only at e; rw [e]))

set_option maxRecDepth 100000 in
theorem push_no (w : World) (S : Nat) (vo vm : Value) (B : Nat) (L : Int) (bs : Nat) (os : List Opd) (n : Nat) (No : Nat → Prop) (h : StV w S vo vm B L bs os n No) (hB : B ≤ w.heap.size) (imm : Bool) (kk slot : Int) (hi0 : imm = true ∨ L ≤ slot) (hb : bs + os.length ≤ 3000) :
    Calls Yba.prog 4 #[.pointer (some ⟨S, 0, none⟩), aggO (imm, kk, slot)] w fun e w' => e = .returned (.tuple #[]) ∧ St w' S B L bs (os ++ [(imm, kk, slot)]) (n + 1) No ∧ Fr B S No w w' := by
  have hS := lt_of_heap h.blk
  have h0 := h.c0
  obtain ⟨i0, hi, hz0, hz1, hz2⟩ := info_parts info35
  unfold aggO
  have hd : imm = false → decide (slot < L) = false := fun e => by
    rcases hi0 with h | h
    · rw [e] at h; cases h
    · simp; omega
  have HI : Hid (imm = true ∨ L ≤ slot) := hi0
  clear hi0
  cases imm
  · have hd' := hd rfl
    clear hd
    go_enter Yba.func4, Yba.ntmps4
    go_wp2
    go_quiet (fail)
    go_upto_if 17 with fail
    go_cut [] (fun wc => ∃ vm', Mid wc S w.heap.size vo vm' B L bs os (false, kk, slot) (n + 1) No ∧ Fr B S No w wc)
    case first =>
      go_wp2_with fail
      go_meet
      have hb1 : Below w.heap.size w (((w.alloc (.cells #[.bool false, .int .i32 kk, .int .i32 slot] 35))).drewN nq) := below_drewN ((Below.refl _ w).alloc (Nat.le_refl _) _) nq
      exact ⟨vm, Mid.of h hb1 _ HI.out (heap_alloc_new _ _), Fr.below hb1 hB⟩
    case rest =>
      obtain ⟨vm', hM, hF⟩ := hcut
      clear h0 h
      have hown := hM.ops
      have hQ : ∀ j u, [Value.bool false, .int .i32 kk, .int .i32 slot][j]? = some u → wc.cell? ⟨w.heap.size, j, none⟩ = some u := fun j u hu => by
        rw [cell_of_row wc _ j _ _ _ hM.opd]
        simpa using hu
      have q0 := hQ 0 _ rfl
      have q1 := hQ 1 _ rfl
      have q2 := hQ 2 _ rfl
      have c2 : wc.cell? ⟨S, 2, none⟩ = some vo := by rw [cell_of_row wc S 2 _ _ _ hM.blk]; rfl
      have f2 : wc.frozen? ⟨S, 2, none⟩ = false := frozen_of_row wc S 2 _ 27 hM.blk
      obtain ⟨a, c, rfl⟩ : ∃ a c, vo = .slice a os.length c := by
        rcases hM.ops.2 with ⟨e, h0⟩ | ⟨g, cap, cur, e, _⟩
        · exact ⟨none, 0, by rw [e, h0]⟩
        · exact ⟨_, _, e⟩
      clear hQ
      have e2 := cell_alloc_old wc (.cells #[.bool false, .int .i32 kk, .int .i32 slot] 35) _ _ c2
      go_wp2
      go_region_law (refine step_append_lies _ rfl _ _ _ rfl B 35 i0 _ 3 12 Yba.underlying24 hi hz0 hz1 hz2 rfl (by decide) _ os.length (ocells os) rfl (ownsRow_drew (hown.alloc _)) _ 1 1 [.bool false, .int .i32 kk, .int .i32 slot] rfl rfl (World.news_of_block (heap_alloc_new wc _)) (by simp [Value.oneCell']) (by decide) (by unfold maxLen; omega) (by omega) (by simp; have := hF.bel.size; omega) _ rfl ?_; intro g cap w1 hown1 hgrow _ _; have hgr := grown_alloc hgrow; have hS1 := far_blk hM.blk hown hgr; have c2' : w1.cell? ⟨S, 2, none⟩ = some (.slice a os.length c) := (cell_of_row w1 S 2 _ _ _ hS1).trans rfl; have f2' := frozen_of_row w1 S 2 _ 27 hS1)
      all_goals
        go_end0
        have hD := hM.done (Nat.le_trans hB hF.bel.size) _ hown1 hgr rfl rfl rfl rfl
        exact ⟨rfl, hD.1, hF.trans hD.2⟩
  · clear hd
    go_enter Yba.func4, Yba.ntmps4
    go_wp2
    go_quiet (fail)
    go_upto_if 17 with fail
    go_cut [] (fun wc => ∃ vm', Mid wc S w.heap.size vo vm' B L bs os (true, kk, slot) (n + 1) No ∧ Fr B S No w wc)
    case first =>
      go_wp2_with fail
      go_meet
      have hb1 : Below w.heap.size w (((w.alloc (.cells #[.bool true, .int .i32 kk, .int .i32 slot] 35))).drewN nq) := below_drewN ((Below.refl _ w).alloc (Nat.le_refl _) _) nq
      exact ⟨vm, Mid.of h hb1 _ (.inl rfl) (heap_alloc_new _ _), Fr.below hb1 hB⟩
    case rest =>
      obtain ⟨vm', hM, hF⟩ := hcut
      clear h0 h
      have hown := hM.ops
      have hQ : ∀ j u, [Value.bool true, .int .i32 kk, .int .i32 slot][j]? = some u → wc.cell? ⟨w.heap.size, j, none⟩ = some u := fun j u hu => by
        rw [cell_of_row wc _ j _ _ _ hM.opd]
        simpa using hu
      have q0 := hQ 0 _ rfl
      have q1 := hQ 1 _ rfl
      have q2 := hQ 2 _ rfl
      have c2 : wc.cell? ⟨S, 2, none⟩ = some vo := by rw [cell_of_row wc S 2 _ _ _ hM.blk]; rfl
      have f2 : wc.frozen? ⟨S, 2, none⟩ = false := frozen_of_row wc S 2 _ 27 hM.blk
      obtain ⟨a, c, rfl⟩ : ∃ a c, vo = .slice a os.length c := by
        rcases hM.ops.2 with ⟨e, h0⟩ | ⟨g, cap, cur, e, _⟩
        · exact ⟨none, 0, by rw [e, h0]⟩
        · exact ⟨_, _, e⟩
      clear hQ
      have e2 := cell_alloc_old wc (.cells #[.bool true, .int .i32 kk, .int .i32 slot] 35) _ _ c2
      go_wp2
      go_region_law (refine step_append_lies _ rfl _ _ _ rfl B 35 i0 _ 3 12 Yba.underlying24 hi hz0 hz1 hz2 rfl (by decide) _ os.length (ocells os) rfl (ownsRow_drew (hown.alloc _)) _ 1 1 [.bool true, .int .i32 kk, .int .i32 slot] rfl rfl (World.news_of_block (heap_alloc_new wc _)) (by simp [Value.oneCell']) (by decide) (by unfold maxLen; omega) (by omega) (by simp; have := hF.bel.size; omega) _ rfl ?_; intro g cap w1 hown1 hgrow _ _; have hgr := grown_alloc hgrow; have hS1 := far_blk hM.blk hown hgr; have c2' : w1.cell? ⟨S, 2, none⟩ = some (.slice a os.length c) := (cell_of_row w1 S 2 _ _ _ hS1).trans rfl; have f2' := frozen_of_row w1 S 2 _ 27 hS1)
      all_goals
        go_end0
        have hD := hM.done (Nat.le_trans hB hF.bel.size) _ hown1 hgr rfl rfl rfl rfl
        exact ⟨rfl, hD.1, hF.trans hD.2⟩
end Go.Proofs.Ybulkbbyq
