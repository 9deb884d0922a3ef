/-
  The pool of spare transactions in memory: slices.Grow by the kit's contract, (*spares).put (10), (*spares).take (9).
-/
import Derived.Test.YbulkbbzeRows
import Derived.Test.YbulkbbzeShelf
import Derived.WalkKit
import Derived.ProofKit
import Derived.OpenShut
import Derived.Deep.QuietTactic
import Derived.BigQuiet
import Derived.Deep.RegionWith
import Derived.Deep.DeepCutAuto
import Derived.Laws.OwnMore
namespace Go.Proofs.Ybulkbbze
open Go.ChangeShapes Go.WideShapes Go.ChangeAt Go.RowKit Go.Shelf

/-- what a step of ours leaves alone: all below 'base' but the block D; every block that is no row of pointers. -/
structure Fr (D base : Nat) (w w' : World) : Prop where
  os : w'.os = w.os
  tape : w'.tape = w.tape
  output : w'.output = w.output
  size : w.heap.size ≤ w'.heap.size
  low : ∀ k, k < base → k ≠ D → w'.heap[k]? = w.heap[k]?
  typ : ∀ k o, w.heap[k]? = some o → (∀ cur fz, o ≠ .cells cur 38 fz) → k ≠ D → w'.heap[k]? = some o

theorem Fr.refl (D base : Nat) (w : World) : Fr D base w w := ⟨rfl, rfl, rfl, Nat.le_refl _, fun _ _ _ => rfl, fun _ _ h _ _ => h⟩
theorem Fr.trans {D base : Nat} {a b c : World} (h : Fr D base a b) (k : Fr D base b c) : Fr D base a c :=
  ⟨k.os.trans h.os, k.tape.trans h.tape, k.output.trans h.output, Nat.le_trans h.size k.size, fun i hi hd => (k.low i hi hd).trans (h.low i hi hd),
    fun i o ho ht hd => k.typ i o (h.typ i o ho ht hd) ht hd⟩

/-- the pool: block D is a db, its field holds the slice v, which owns the pointers xs. -/
structure Pool (w : World) (D base : Nat) (cs : Array Value) (v : Value) (n : Nat) (xs : List Value) : Prop where
  blk : w.heap[D]? = some (.cells cs 111 (0, 0))
  sz : cs.size = 64
  fld : cs[56]? = some v
  own : w.ownsRow base 38 1 v n xs
  lt : D < base

theorem Pool.cell {w : World} {D base : Nat} {cs : Array Value} {v : Value} {n : Nat} {xs : List Value} (h : Pool w D base cs v n xs) : w.cell? ⟨D, 56, none⟩ = some v := by
  rw [cell_of_row w D 56 cs 111 (0, 0) h.blk, h.fld]
theorem Pool.free {w : World} {D base : Nat} {cs : Array Value} {v : Value} {n : Nat} {xs : List Value} (h : Pool w D base cs v n xs) : w.frozen? ⟨D, 56, none⟩ = false :=
  frozen_of_row w D 56 cs 111 h.blk

theorem Pool.shape {w : World} {D base : Nat} {cs : Array Value} {v : Value} {n : Nat} {xs : List Value} (h : Pool w D base cs v n xs) : ∃ a c, v = .slice a n c := by
  rcases h.own.2 with ⟨rfl, rfl⟩ | ⟨g, cap, cur, rfl, _⟩
  · exact ⟨none, 0, rfl⟩
  · exact ⟨_, _, rfl⟩

theorem Pool.drewN {w : World} {D base : Nat} {cs : Array Value} {v : Value} {n : Nat} {xs : List Value} (h : Pool w D base cs v n xs) (i : Nat) : Pool (w.drewN i) D base cs v n xs := ⟨h.blk, h.sz, h.fld, h.own, h.lt⟩
theorem Fr.drewN (D base : Nat) (w : World) (i : Nat) : Fr D base w (w.drewN i) := ⟨rfl, rfl, rfl, Nat.le_refl _, fun _ _ _ => rfl, fun _ _ h _ _ => h⟩
theorem Fr.drewN_in {D base : Nat} {w w' : World} {i : Nat} (h : Fr D base (w.drewN i) w') : Fr D base w w' := (Fr.drewN D base w i).trans h
theorem Fr.set (D base : Nat) (w : World) (o : Nat) (v : Value) : Fr D base w (w.setCell ⟨D, o, none⟩ v) :=
  ⟨rfl, rfl, rfl, by simp, fun k _ hd => heap_setCell_other w ⟨D, o, none⟩ k v (fun e => hd e), fun k o' ho _ hd => (heap_setCell_other w ⟨D, o, none⟩ k v (fun e => hd e)).trans ho⟩
theorem Fr.grown {D base : Nat} {w w' : World} {row : Option Nat} (h : w.grownBy w' row) (hb : base ≤ w.heap.size) (hr : ∀ g, row = some g → base ≤ g ∧ ∃ cur, w.heap[g]? = some (.cells cur 38 (0, 0))) : Fr D base w w' :=
  ⟨h.os, h.tape, h.output, h.size, fun k hk _ => h.block k (by omega) (fun e => by have := (hr k e.symm).1; omega),
    fun k o ho ht _ => (h.block k (by
      rcases Nat.lt_or_ge k w.heap.size with h' | h'
      · exact h'
      · rw [Array.getElem?_eq_none h'] at ho; cases ho) (fun e => by
      obtain ⟨_, cur, hc⟩ := hr k e.symm
      rw [hc] at ho
      exact ht cur (0, 0) (Option.some.inj ho).symm)).trans ho⟩

theorem own_row {w : World} {base : Nat} {v : Value} {n : Nat} {xs : List Value} (h : w.ownsRow base 38 1 v n xs) : ∀ g, v.ownBlock = some g → base ≤ g ∧ ∃ cur, w.heap[g]? = some (.cells cur 38 (0, 0)) := by
  intro g hg
  rcases h.2 with ⟨rfl, _⟩ | ⟨g', cap, cur, rfl, hb, hh, _⟩
  · simp [Value.ownBlock] at hg
  · simp [Value.ownBlock] at hg
    subst hg
    exact ⟨hb, cur, hh⟩

theorem Pool.lt_size {w : World} {D base : Nat} {cs : Array Value} {v : Value} {n : Nat} {xs : List Value} (h : Pool w D base cs v n xs) : D < w.heap.size := by
  rcases Nat.lt_or_ge D w.heap.size with h' | h'
  · exact h'
  · have := h.blk; rw [Array.getElem?_eq_none h'] at this; cases this

/-- the slice in the field is stored anew, behind a step that left the block D alone. -/
theorem Pool.put {w w1 : World} {D base : Nat} {cs : Array Value} {v v1 : Value} {n n1 : Nat} {xs xs1 : List Value} (h : Pool w D base cs v n xs) (hblk : w1.heap[D]? = w.heap[D]?) (hown : w1.ownsRow base 38 1 v1 n1 xs1) :
    Pool (w1.setCell ⟨D, 56, none⟩ v1) D base (cs.setIfInBounds 56 v1) v1 n1 xs1 :=
  ⟨heap_setCell_same w1 D 56 cs 111 v1 (hblk.trans h.blk), by simp [h.sz], by rw [Array.getElem?_setIfInBounds]; simp [h.sz], ownsRow_setCell_below hown h.lt _, h.lt⟩

theorem info38 : (Yba.prog.info? 38).map (fun i => (i.zero, i.size, i.bytes)) = some (some (.pointer none), 1, 8) := by kernel_rfl

theorem grow_room (a : Option Addr) (l c n : Nat) (w : World) (h1 : l ≤ c) (h2 : c ≤ 9223372036854775807) (h3 : n ≤ 9223372036854775807) (h4 : l + n ≤ c) :
    Calls Yba.prog 11 #[.slice a l c, .int .i64 n] w fun e w' => e = .returned (.slice a l c) ∧ w' = w := Any8.slices_Grow_room Yba.growT a l c n w h1 h2 h3 h4

/-- Grow where there is no room, over an owned row. -/
theorem grow_row (base g n : Nat) (xs : List Value) (w : World) (hn : n ≤ 300) (hp : 0 < n) (hb : base ≤ w.heap.size) (hown : w.ownsRow base 38 1 (.slice (some ⟨g, 0, none⟩) n n) n xs) :
    Calls Yba.prog 11 #[.slice (some ⟨g, 0, none⟩) n n, .int .i64 n] w fun e w' => ∃ c, e = .returned (.slice (some ⟨w.heap.size, 0, none⟩) n c) ∧
      w'.ownsRow base 38 1 (.slice (some ⟨w.heap.size, 0, none⟩) n c) n xs ∧ w.grownBy w' none ∧ n < c := by
  obtain ⟨i0, hi, hz0, hz1, hz2⟩ := info_parts info38
  have hx : xs.length = n := by have := hown.1; omega
  refine (Any8.slices_Grow_grow Yba.growT i0 (.pointer none) hi hz0 (by omega) (some ⟨g, 0, none⟩) n n n xs w (Nat.le_refl _) (by omega) (by rw [hz2]; omega) (by omega) (by rw [hz1]; omega) (fun h => by cases h) (fun a ha j v hj => by cases ha; exact hown.cells rfl j v hj)).mono ?_
  rintro e w' ⟨rfl, rfl⟩
  have e38 : Yba.growT_ren.t 25 = 38 := rfl
  rw [e38]
  have hge := grownCap_ge w (n + n) n 38
  have hle := grownCap_le_maxLen w (n + n) n 38 (by unfold maxLen; omega)
  refine ⟨_, rfl, ⟨by omega, Or.inr ⟨w.heap.size, grownCap w (n + n) n 38, _, rfl, hb, heap_alloc_new w.drew _, by omega, hle, ?_, ?_⟩⟩, ⟨rfl, rfl, rfl, by simp, fun k hk _ => Below.heap_alloc w.drew _ k hk⟩, by omega⟩
  · simp only [Array.size_append, size_zeroCells, List.size_toArray]
    show xs.length + (n + n - n) * 1 + (grownCap w (n + n) n 38 - (n + n)) * 1 = grownCap w (n + n) n 38 * 1
    omega
  · simp [← hx]

set_option maxRecDepth 100000 in
set_option maxHeartbeats 1600000 in
theorem put_any (D base : Nat) (cs : Array Value) (v : Value) (n : Nat) (xs : List Value) (q : Option Addr) (w : World) (hP : Pool w D base cs v n xs) (hb : base ≤ w.heap.size) (hn : n ≤ 300) :
    Calls Yba.prog 10 #[.pointer (some ⟨D, 56, none⟩), .pointer q] w fun e w' => e = .returned (.tuple #[]) ∧ ∃ cs' v', Pool w' D base cs' v' (n + 1) (xs ++ [.pointer q]) ∧ Fr D base w w' := by
  have hc := hP.cell
  have hf := hP.free
  obtain ⟨i0, hi, hz0, hz1, hz2⟩ := info_parts info38
  obtain ⟨a, c, rfl⟩ := hP.shape
  go_enter Yba.func10, Yba.ntmps10
  go_wp2_with fail
  go_quiet (fail)
  go_upto_if 14 with fail
  go_cut [] (fun wc => ∃ cs' v', Pool wc D base cs' v' n xs ∧ Fr D base w wc)
  case first =>
    by_cases hnc : n = c
    · subst hnc
      have hlt := hP.lt_size
      rcases hP.own.2 with ⟨hs, hn0⟩ | ⟨g, cap, cur, hs, hbg, hg, hnc, hcm, hcs, htk⟩
      · obtain ⟨rfl, _⟩ : a = none ∧ True := by cases hs; exact ⟨rfl, trivial⟩
        subst hn0
        go_wp2_with fail
        go_region_with (go_at_call 11; refine (grow_room none 0 0 0 _ (by omega) (by omega) (by omega) (by omega)).mono ?_; rintro e w' ⟨rfl, rfl⟩)
        all_goals
          go_wp2_with fail
          go_meet
          exact ⟨_, _, Pool.put (w1 := w.drewN _) hP rfl hP.own, ((Fr.drewN D base w _).trans (Fr.set D base _ 56 _))⟩
      · obtain ⟨rfl, hcn⟩ : a = some ⟨g, 0, none⟩ ∧ n = cap := by cases hs; exact ⟨rfl, rfl⟩
        by_cases hn0 : n = 0
        · subst hn0
          go_wp2_with fail
          go_region_with (go_at_call 11; refine (grow_room _ 0 0 0 _ (by omega) (by omega) (by omega) (by omega)).mono ?_; rintro e w' ⟨rfl, rfl⟩)
          all_goals
            go_wp2_with fail
            go_meet
            exact ⟨_, _, Pool.put (w1 := w.drewN _) hP rfl hP.own, ((Fr.drewN D base w _).trans (Fr.set D base _ 56 _))⟩
        · have HG : Hid (∀ i, Calls Yba.prog 11 #[.slice (some ⟨g, 0, none⟩) n n, .int .i64 n] (w.drewN i) fun e w' => ∃ c, e = .returned (.slice (some ⟨w.heap.size, 0, none⟩) n c) ∧
              w'.ownsRow base 38 1 (.slice (some ⟨w.heap.size, 0, none⟩) n c) n xs ∧ w'.heap[D]? = w.heap[D]? ∧ Fr D base w w' ∧ w'.cell? ⟨D, 56, none⟩ = w.cell? ⟨D, 56, none⟩ ∧ w'.frozen? ⟨D, 56, none⟩ = w.frozen? ⟨D, 56, none⟩) := by
            intro i
            refine (grow_row base g n xs (w.drewN i) hn (by omega) hb hP.own).mono ?_
            rintro e w' ⟨c, rfl, ho, hgr, _⟩
            have hbl : w'.heap[D]? = w.heap[D]? := hgr.block D hlt (by simp)
            exact ⟨c, rfl, ho, hbl, (Fr.drewN D base w i).trans (Fr.grown hgr hb (fun g h => by cases h)), World.cell?_of_block hbl, World.frozen?_of_block hbl⟩
          clear hs hg hcs htk hcn hbg hcm hn0 hnc
          go_wp2_with fail
          go_region_with (go_at_call 11; refine (HG.out _).mono ?_; rintro e w1 ⟨c, rfl, ho1, hbl1, hfr1, hc1, hf1⟩; rw [hc] at hc1; rw [hf] at hf1)
          all_goals
            go_wp2_with fail
            go_meet
            exact ⟨_, _, hP.put hbl1 ho1, hfr1.trans (Fr.set D base _ 56 _)⟩
    · have hb1 : ((n : Int) == (c : Int)) = false := by rw [beq_eq_false_iff_ne]; omega
      go_wp2_with fail
      go_meet
      exact ⟨_, _, hP.drewN _, Fr.drewN _ _ _ _⟩
  case rest =>
    clear hc hf
    obtain ⟨cs1, v1, hP1, hF1⟩ := hcut
    have hc1 := hP1.cell
    have hf1 := hP1.free
    have hlt1 := hP1.lt_size
    have hb1 : base ≤ wc.heap.size := Nat.le_trans hb hF1.size
    obtain ⟨a1, c1, rfl⟩ := hP1.shape
    clear hP
    go_wp2_with (at_builtin; refine wpList_append_own _ rfl _ _ 27 rfl base 38 i0 (.pointer none) 1 8 Yba.underlying27 hi hz0 hz1 hz2 rfl (by decide) _ _ _ rfl (hP1.own.alloc _) ⟨wc.heap.size, 0, none⟩ 1 1 [.pointer q] rfl rfl ?k1 ?k2 ?k3 ?k4 ?k5 ?_)
    case k1 =>
      intro j u hj
      match j, hj with
      | 0, hj => simp at hj; subst hj; simp [Addr.add]
    case k2 => intro u hu; simp at hu; subst hu; rfl
    case k3 => unfold maxLen; omega
    case k4 => omega
    case k5 => simp; omega
    intro v2 w2 hown2 hgrow2 _
    obtain ⟨a2, c2, rfl⟩ : ∃ a c, v2 = .slice a (n + 1) c := by
      rcases hown2.2 with ⟨_, h⟩ | ⟨g, cap, cur, rfl, _⟩
      · omega
      · exact ⟨_, _, rfl⟩
    have hbl2 : w2.heap[D]? = wc.heap[D]? := (hgrow2.block D (by simp; omega) (fun e => by have := (own_row hP1.own D e.symm).1; have := hP1.lt; omega)).trans (Below.heap_alloc wc _ D hlt1)
    have hc2 : w2.cell? ⟨D, 56, none⟩ = some (.slice a1 n c1) := (World.cell?_of_block hbl2).trans hc1
    have hf2 : w2.frozen? ⟨D, 56, none⟩ = false := (World.frozen?_of_block hbl2).trans hf1
    have hF2 : Fr D base w w2 := hF1.trans (Fr.trans (Fr.grown (World.grownBy_alloc wc _ none) hb1 (fun g h => by cases h)) (Fr.grown hgrow2 (by simp; omega) (fun g h => by
      obtain ⟨h1, cur, h2⟩ := own_row hP1.own g h
      refine ⟨h1, cur, ?_⟩
      rw [Below.heap_alloc wc _ g (by
        rcases Nat.lt_or_ge g wc.heap.size with h' | h'
        · exact h'
        · rw [Array.getElem?_eq_none h'] at h2; cases h2)]
      exact h2)))
    have HP2 := hP1.put hbl2 hown2
    clear hown2 hgrow2 hbl2 hc1 hf1
    go_wp2
    go_end0
    exact ⟨rfl, _, _, HP2, hF2.trans (Fr.set D base _ 56 _)⟩
end Go.Proofs.Ybulkbbze
