/-
  LawS2656CZeroesAndKeeps (3): the walk.
-/
import Derived.Test.YbulkbbzeTake
import Derived.LaidEqlPtr
import Derived.Deep.WholeRow
import Derived.Laws.Rows
import Derived.WalkSmall
namespace Go.Proofs.Ybulkbbze
open Go.ChangeShapes Go.WideShapes Go.ChangeAt Go.RowKit Go.Shelf

theorem eq_int {P : Program} (d : Nat) (t : TypeId) (h : P.underlying t = some (.int .i64)) (x : Int) (w : World) : (Op.equalIn (d + 1) t (.int .i64 x) (.int .i64 x)).run P w = .ok true w := by
  simp [Op.equalIn, run_underlying h]
theorem eq_list {P : Program} (d : Nat) (e : TypeId) (he : P.underlying e = some (.int .i64)) (ha : ∀ w, (isAgg e).run P w = .ok false w) (cs : Array Value) (w : World) : ∀ (l : List Nat), (∀ i ∈ l, ∃ x, cs[i]? = some (.int .i64 x)) →
    (Sem.run P
          (forIn l ((none, ()) : Option Bool × Unit) fun i __s => do
            let __do_lift ← part e cs i
            let __do_lift_1 ← part e cs i
            let __do_lift ← Op.equalIn (d + 1) e __do_lift __do_lift_1
            if __do_lift = false then pure (ForInStep.done (some false, ())) else pure (ForInStep.yield (none, ())))
          w) = .ok (none, ()) w
  | [], _ => by simp
  | i :: l, h => by
    obtain ⟨x, hx⟩ := h i (by simp)
    have ih := eq_list d e he ha cs w l (fun j hj => h j (by simp [hj]))
    simp [part, ha, hx, eq_int d e he x]
    simpa [part, ha] using ih
theorem eq_arr {P : Program} (d : Nat) (t e : TypeId) (n : Nat) (h : P.underlying t = some (.array n e)) (he : P.underlying e = some (.int .i64)) (hs : ∀ w, (Go.sizeOf e).run P w = .ok 1 w) (ha : ∀ w, (isAgg e).run P w = .ok false w)
   (cs : Array Value) (hc : ∀ i, i < n → ∃ x, cs[i]? = some (.int .i64 x)) (w : World) : (Op.equalIn (d + 2) t (.agg cs) (.agg cs)).run P w = .ok true w := by
  have hl := eq_list d e he ha cs w (List.range' 0 n) (fun i hi => hc i (by simp [List.mem_range'] at hi; omega))
  unfold Op.equalIn
  simp [run_underlying h, hs]
  rw [hl]
  simp

/-- the counts that came in. -/
def cnt (x : Nat → Int) : Array Value := #[.int .i64 (x 0), .int .i64 (x 1), .int .i64 (x 2), .int .i64 (x 3), .int .i64 (x 4), .int .i64 (x 5), .int .i64 (x 6), .int .i64 (x 7), .int .i64 (x 8), .int .i64 (x 9), .int .i64 (x 10), .int .i64 (x 11)]

theorem info35 : (Yba.prog.info? 35).map (fun i => (i.zero, i.size, i.bytes)) = some (some (.agg #[.int .i64 0, .slice none 0 0, .bool false]), 3, 40) := by kernel_rfl

/-- what the walk asks of the slice of pages. -/
def Row64 (w : World) (a0 : Option Addr) (len cap : Nat) : Prop :=
  ∀ k, k < len → ∃ b off z, a0 = some ⟨b, off, none⟩ ∧ b < w.heap.size ∧ len ≤ cap ∧ w.cell? ⟨b, off + k, none⟩ = some (.int .i64 z)

theorem info24 (x : Nat → Int) : (Yba.prog.info? 24).map (·.size) = some (cnt x).size := by kernel_rfl
theorem info37 (x : Nat → Int) : (Yba.prog.info? 37).map (·.size) = some (cnt x).size := by kernel_rfl
theorem cnt_ones (x : Nat → Int) : (cnt x).all (·.oneCell') = true := by kernel_rfl

theorem Made.below {B : Nat} {w w' : World} {qs : List Nat} (h : Made B w qs) (hb : Below w.heap.size w w') : Made B w' qs := fun i q hq => ⟨(h i q hq).1, (hb.block q (lt_of_block (h i q hq).2)).trans (h i q hq).2⟩
theorem Pool.below {w w' : World} {D base : Nat} {cs : Array Value} {v : Value} {n : Nat} {xs : List Value} (h : Pool w D base cs v n xs) (hb : Below w.heap.size w w') : Pool w' D base cs v n xs :=
  h.same (hb.block D h.lt_size) (fun g _ hg => hb.block g (lt_of_block hg))

theorem cnt_at (x : Nat → Int) (i : Nat) (h : i < 12) : ∃ y, (cnt x)[i]? = some (.int .i64 y) := by
  match i, h with
  | 0, _ | 1, _ | 2, _ | 3, _ | 4, _ | 5, _ | 6, _ | 7, _ | 8, _ | 9, _ | 10, _ | 11, _ => exact ⟨_, rfl⟩
theorem eq_cnt (x : Nat → Int) (w : World) : (Op.equalIn 10000 37 (.agg #[.int .i64 (x 0), .int .i64 (x 1), .int .i64 (x 2), .int .i64 (x 3), .int .i64 (x 4), .int .i64 (x 5), .int .i64 (x 6), .int .i64 (x 7), .int .i64 (x 8), .int .i64 (x 9), .int .i64 (x 10), .int .i64 (x 11)]) (.agg #[.int .i64 (x 0), .int .i64 (x 1), .int .i64 (x 2), .int .i64 (x 3), .int .i64 (x 4), .int .i64 (x 5), .int .i64 (x 6), .int .i64 (x 7), .int .i64 (x 8), .int .i64 (x 9), .int .i64 (x 10), .int .i64 (x 11)])).run Yba.prog w = .ok true w :=
  eq_arr 9998 37 2 12 Yba.underlying37 Yba.underlying2 Yba.sizeOf2 Yba.isAgg2 (cnt x) (cnt_at x) w

theorem zsame_ptr_gen {P : Program} {tp te : TypeId} {j : TypeInfo} (a : Addr) (w : World) (hp : P.underlying tp = some (.pointer te)) (hte : P.info? te = some j) (d : Nat) :
    (Op.equalIn (d + 1) tp (.pointer (some a)) (.pointer (some a))).run P w = .ok true w := by
  simp [Op.equalIn, run_underlying hp, sizeOf, typeInfo, hte, run_sameAddr_same]
theorem zsame_ptr (a : Addr) (w : World) : (Op.equalIn 10000 38 (.pointer (some a)) (.pointer (some a))).run Yba.prog w = .ok true w := by
  obtain ⟨j, hj, _⟩ := Option.map_eq_some_iff.1 info63
  exact zsame_ptr_gen a w Yba.underlying38 hj 9999
theorem zneq_ptr (a : Addr) (w : World) : (binOp .neq 38 (.pointer (some a)) (.pointer (some a))).run Yba.prog w = .ok (.bool false) w := by
  simp only [binOp]
  simp [Op.equal, Op.maxDepth, zsame_ptr a w]
theorem zeql_ptr (a : Addr) (w : World) : (binOp .eql 38 (.pointer (some a)) (.pointer (some a))).run Yba.prog w = .ok (.bool true) w := by
  simp only [binOp]
  simp [Op.equal, Op.maxDepth, zsame_ptr a w]

/-- the k-th of the earlier pointers, in the longer row. -/
theorem ptr_early {w : World} {base g n c : Nat} {qs : List Nat} {u : Value} (h : w.ownsRow base 38 1 (.slice (some ⟨g, 0, none⟩) (n + 1) c) (n + 1) (ptrs qs ++ [u])) (k : Nat) (hk : k < n) : ∃ q, qs[k]? = some q ∧ w.cell? ⟨g, k, none⟩ = some (.pointer (some ⟨q, 0, none⟩)) := by
  have hl : qs.length = n := by have := h.1; simp [ptrs] at this; omega
  refine ⟨qs[k]'(by omega), by simp [show k < qs.length from by omega], ?_⟩
  rw [h.cellAt k (by omega), List.getElem?_append_left (by simp [ptrs]; omega)]
  simp [ptrs, show k < qs.length from by omega]
theorem ptr_last {w : World} {base g n c : Nat} {qs : List Nat} {u : Value} (h : w.ownsRow base 38 1 (.slice (some ⟨g, 0, none⟩) (n + 1) c) (n + 1) (ptrs qs ++ [u])) : w.cell? ⟨g, n, none⟩ = some u := by
  have hl : (ptrs qs).length = n := by have := h.1; simp at this; simp; omega
  rw [h.cellAt n (by omega), List.getElem?_append_right (by omega), hl]
  simp
theorem ptr_old {w : World} {base g n c : Nat} {qs : List Nat} (h : w.ownsRow base 38 1 (.slice (some ⟨g, 0, none⟩) n c) n (ptrs qs)) (k q : Nat) (hk : k < n) (hq : qs[k]? = some q) : w.cell? ⟨g, k, none⟩ = some (.pointer (some ⟨q, 0, none⟩)) := by
  rw [h.cellAt k (by omega)]
  simp [ptrs, hq]

theorem new3 (W : World) (a b c : Obj) : (((W.alloc a).alloc b).alloc c).heap[W.heap.size + 1 + 1]? = some c := by
  have := heap_alloc_new ((W.alloc a).alloc b) c
  simpa using this
theorem below3 (W : World) (a b c : Obj) : Below W.heap.size W (((W.alloc a).alloc b).alloc c) := (((Below.refl _ W).alloc (Nat.le_refl _) _).alloc (by simp) _).alloc (by simp; omega) _
theorem below3s (W : World) (a b c : Obj) (cs : Array Value) : Below W.heap.size W ((((W.alloc a).alloc b).alloc c).setRow (W.heap.size + 1 + 1) cs) :=
  (below3 W a b c).trans ⟨rfl, rfl, rfl, by simp [World.setRow], fun k hk => setRow_other _ _ k _ (by omega)⟩

set_option maxRecDepth 100000 in
set_option maxHeartbeats 1000000 in
theorem zwalk (prior : Nat) (hp : prior ≤ 255) (sub : Nat) (cr : Int) (x : Nat → Int) (par : Bool) (dec : Nat) (clo : Bool) (ap : Option Addr) (len cap : Nat) (w : World) (hrow : Row64 w ap len cap) :
    Calls Yba.prog 3 #[.int .u8 prior, .float .f64 sub, .int .u64 cr, .agg (cnt x), .bool par, .float .f64 dec, .bool clo, .slice ap len cap] w fun e w' => e = .returned (.bool true) ∧ Below w.heap.size w w' := by
  by_cases hll : (1024 : Int) < len
  · clear hrow
    go_enter Yba.func3, Yba.ntmps3
    go_wp2_with fail
    go_ret
    exact ⟨rfl, (Below.refl _ _).alloc (Nat.le_refl _) _⟩
  · obtain ⟨i5, hi5, hy0, hy1, hy2⟩ := info_parts info35
    have hc := build_any prior hp (w.alloc (.cells (cnt x) 24))
    simp only [World.size_alloc] at hc
    go_enter Yba.func3, Yba.ntmps3
    go_wp2_with fail
    refine hc.mono ?_
    clear hc
    rintro e w1 ⟨rfl, cs1, v1, qs, hP1, hO1, hB1, hs1, hM1⟩
    have hN1 : w1.heap[w.heap.size]? = some (.cells (cnt x) 24 (0, 0)) := (hB1.block _ (by omega)).trans (heap_alloc_new w _)
    have hBw : Below w.heap.size w w1 := ((Below.refl _ w).alloc (Nat.le_refl _) _).trans (hB1.mono (by omega))
    clear hB1
    go_wp2_with (at_make; refine wpList_make_own _ rfl _ _ 30 rfl w1.heap.size 35 i5 _ 3 Yba.underlying30 hi5 hy0 hy1 _ _ _ len rfl rfl rfl (by rw [hy2]; omega) (by unfold maxLen; omega) (Nat.le_refl _) ?_)
    intro w2 hS2 hg2
    have hB2 : Below w1.heap.size w1 w2 := (Below.refl _ _).grown hg2 (Nat.le_refl _) (fun k h => by cases h)
    clear hg2
    go_wp2
    go_loopw [19, 41] (fun sh si wr => ∃ (k : Nat) (xs : List Value), k ≤ len ∧ si = .int .i64 k ∧ sh = .slice (some ⟨w1.heap.size, 0, none⟩) k len ∧ wr.ownsRow w1.heap.size 35 3 (.slice (some ⟨w1.heap.size, 0, none⟩) k len) k xs ∧ Below w1.heap.size w1 wr) (fun _ si _ => len - (intOf si).toNat)
    case atStart => exact ⟨0, [], Nat.zero_le _, rfl, rfl, hS2, hB2⟩
    case round =>
      obtain ⟨k, xs, hk, rfl, rfl, hS, hB⟩ := hrel
      clear hS2 hB2
      by_cases hkl : k < len
      · obtain ⟨b, off, z, rfl, hxb, hlc, hcz⟩ := hrow k hkl
        have hck : wr.cell? ⟨b, off + k, none⟩ = some (.int .i64 z) := ((hB.cell (by exact (by have := hBw.size; show b < w1.heap.size; omega))).trans (hBw.cell (by exact hxb))).trans hcz
        clear hcz
        go_wp2_with (at_builtin; refine wpList_append_fits _ rfl (.tmp 46) (.tmp 52) 30 rfl w1.heap.size 35 i5 3 Yba.underlying30 hi5 hy1 w1.heap.size k len _ rfl ((hS.alloc _).alloc _) ⟨wr.heap.size + 1, 0, none⟩ 1 1 [.int .i64 k, .slice (some ⟨wr.heap.size, 0, none⟩) 1 1, .bool false] rfl rfl ?k1 ?k2 (by omega) ?_)
        case k1 =>
          intro t u ht
          match t, ht with
          | 0, ht => simp at ht; subst ht; simp [Addr.add]
          | 1, ht => simp at ht; subst ht; simp [Addr.add]
          | 2, ht => simp at ht; subst ht; simp [Addr.add]
        case k2 => intro u hu; simp at hu; rcases hu with rfl | rfl | rfl <;> rfl
        intro w3 hS3 hg3
        go_wp2
        go_roundw
        case rel => exact ⟨k + 1, _, by omega, by go_num, rfl, hS3, ((hB.alloc hB.size _).alloc (by have := hB.size; simp; omega) _).grown hg3 (by have := hB.size; simp; omega) (fun g h => by cases h; exact Nat.le_refl _)⟩
        case measure => simp [intOf]; omega
      · have hNr : wr.heap[w.heap.size]? = some (.cells (cnt x) 24 (0, 0)) := (hB.block _ (by omega)).trans hN1
        have hPr := hP1.below hB
        have hOr := owns_of_block hO1 (hB.block (w.heap.size + 1 + 1) (by omega))
        have hMr := hM1.below hB
        have hBr := hBw.trans (hB.mono hBw.size)
        have hsr : w.heap.size + 1 + 2 ≤ wr.heap.size := Nat.le_trans hs1 hB.size
        clear hrow hS hP1 hO1 hM1 hBw hB hN1
        have tok1 : True := trivial
        go_upto_region 13 with (first
          | (have _t := tok1; refine wpList_load_row rfl 24 _ rfl w.heap.size rfl 24 (cnt x) (0, 0) (.array 12 2) ?_ Yba.underlying24 rfl (info24 x) ?_; exact ((Below.heap_alloc wr _ _ (by omega)).trans hNr); clear tok1)
          | (refine wpList_store_row rfl 37 _ _ rfl wr.heap.size (cnt x) rfl rfl 37 _ (heap_alloc_new wr _) (info37 x) rfl (cnt_ones x) ?_; rw [World.setRow_alloc_new]))
        obtain ⟨W, hW⟩ : ∃ W, W = (wr.alloc (.cells (cnt x) 37)).alloc (.cells #[.int .i64 0] 3) := ⟨_, rfl⟩
        rw [← hW]
        have hBW : Below wr.heap.size wr W := by rw [hW]; exact ((Below.refl _ _).alloc (Nat.le_refl _) _).alloc (by simp) _
        have hsW : W.heap.size = wr.heap.size + 2 := by rw [hW]; simp
        have hSU : W.heap[wr.heap.size]? = some (.cells (cnt x) 37 (0, 0)) := by rw [hW, Below.heap_alloc _ _ _ (by simp)]; exact heap_alloc_new wr _
        have hC : W.heap[wr.heap.size + 1]? = some (.cells #[.int .i64 0] 3 (0, 0)) := by
          have := heap_alloc_new (wr.alloc (.cells (cnt x) 37)) (.cells #[.int .i64 0] 3)
          rw [hW]
          simpa using this
        have hNW : W.heap[w.heap.size]? = some (.cells (cnt x) 24 (0, 0)) := (hBW.block _ (by omega)).trans hNr
        have hPW := hPr.below hBW
        have hOW := owns_of_block hOr (hBW.block (w.heap.size + 1 + 1) (by omega))
        have hMW := hMr.below hBW
        have hBB := hBr.trans (hBW.mono hBr.size)
        clear hW hNr hPr hOr hMr hBr hBW
        obtain ⟨S, hS⟩ : ∃ S, S = wr.heap.size := ⟨_, rfl⟩
        rw [← hS] at hsW hSU hC hsr ⊢
        clear hS
        have nn : ∀ j, j < 12 → ∀ o1 o2, ((W.alloc o1).alloc o2).cell? ⟨w.heap.size, j, none⟩ = (cnt x)[j]? := by
          intro j _ o1 o2
          have h2 : ((W.alloc o1).alloc o2).heap[w.heap.size]? = some (.cells (cnt x) 24 (0, 0)) := by rw [Below.heap_alloc _ _ _ (by simp; omega), Below.heap_alloc _ _ _ (by omega)]; exact hNW
          exact cell_of_row _ _ _ _ _ _ h2
        have n0 : ∀ o1 o2, ((W.alloc o1).alloc o2).cell? ⟨w.heap.size, 0, none⟩ = some (.int .i64 (x 0)) := nn 0 (by omega)
        have n1 : ∀ o1 o2, ((W.alloc o1).alloc o2).cell? ⟨w.heap.size, 1, none⟩ = some (.int .i64 (x 1)) := nn 1 (by omega)
        have n2 : ∀ o1 o2, ((W.alloc o1).alloc o2).cell? ⟨w.heap.size, 2, none⟩ = some (.int .i64 (x 2)) := nn 2 (by omega)
        have n3 : ∀ o1 o2, ((W.alloc o1).alloc o2).cell? ⟨w.heap.size, 3, none⟩ = some (.int .i64 (x 3)) := nn 3 (by omega)
        have n4 : ∀ o1 o2, ((W.alloc o1).alloc o2).cell? ⟨w.heap.size, 4, none⟩ = some (.int .i64 (x 4)) := nn 4 (by omega)
        have n5 : ∀ o1 o2, ((W.alloc o1).alloc o2).cell? ⟨w.heap.size, 5, none⟩ = some (.int .i64 (x 5)) := nn 5 (by omega)
        have n6 : ∀ o1 o2, ((W.alloc o1).alloc o2).cell? ⟨w.heap.size, 6, none⟩ = some (.int .i64 (x 6)) := nn 6 (by omega)
        have n7 : ∀ o1 o2, ((W.alloc o1).alloc o2).cell? ⟨w.heap.size, 7, none⟩ = some (.int .i64 (x 7)) := nn 7 (by omega)
        have n8 : ∀ o1 o2, ((W.alloc o1).alloc o2).cell? ⟨w.heap.size, 8, none⟩ = some (.int .i64 (x 8)) := nn 8 (by omega)
        have n9 : ∀ o1 o2, ((W.alloc o1).alloc o2).cell? ⟨w.heap.size, 9, none⟩ = some (.int .i64 (x 9)) := nn 9 (by omega)
        have n10 : ∀ o1 o2, ((W.alloc o1).alloc o2).cell? ⟨w.heap.size, 10, none⟩ = some (.int .i64 (x 10)) := nn 10 (by omega)
        have n11 : ∀ o1 o2, ((W.alloc o1).alloc o2).cell? ⟨w.heap.size, 11, none⟩ = some (.int .i64 (x 11)) := nn 11 (by omega)
        have HsW : Hid (W.heap.size = S + 2) := hsW
        have HSU : Hid _ := hSU
        have HCC : Hid _ := hC
        have HNW : Hid _ := hNW
        clear nn hsW hSU hC hNW
        go_wp2_with fail
        refine (spare_any (w.heap.size + 1) (w.heap.size + 1 + 2) (W.heap.size + 1 + 1) cs1 _ v1 prior (ptrs qs) _ (hPW.below (below3 W _ _ _)) (by have := HsW.out; simp; omega) (by omega) (new3 W _ _ _) rfl rfl).mono ?_
        rintro e w6 ⟨rfl, cs6, v6, hP6, hF6, hT6⟩
        have hSW := HsW.out
        have hSU6 := hF6.typ S _ (((below3s W _ _ _ (txCells 0)).block S (by omega)).trans HSU.out) (fun cur fz e => by cases e) (by omega)
        have hC6 := hF6.typ (S + 1) _ (((below3s W _ _ _ (txCells 0)).block (S + 1) (by omega)).trans HCC.out) (fun cur fz e => by cases e) (by omega)
        have hN6 := hF6.typ w.heap.size _ (((below3s W _ _ _ (txCells 0)).block w.heap.size (by omega)).trans HNW.out) (fun cur fz e => by cases e) (by omega)
        have hO6 := owns_of_block hOW ((hF6.low (w.heap.size + 1 + 1) (by omega) (by omega)).trans ((below3s W _ _ _ (txCells 0)).block (w.heap.size + 1 + 1) (by omega)))
        have hM6 := (hMW.below (below3s W _ _ _ (txCells 0))).fr hF6 (by omega)
        have hB6 : Below w.heap.size w w6 := hBB.trans (((below3s W _ _ _ (txCells 0)).mono hBB.size).trans ((hF6.below (by omega)).mono (by omega)))
        have hcC : w6.cell? ⟨S + 1, 0, none⟩ = some (.int .i64 0) := cell_of_row w6 (S + 1) 0 _ 3 (0, 0) hC6
        have s0 : w6.cell? ⟨S, 0, none⟩ = some (.int .i64 (x 0)) := cell_of_row w6 S 0 (cnt x) 37 (0, 0) hSU6
        have s1 : w6.cell? ⟨S, 1, none⟩ = some (.int .i64 (x 1)) := cell_of_row w6 S 1 (cnt x) 37 (0, 0) hSU6
        have s2 : w6.cell? ⟨S, 2, none⟩ = some (.int .i64 (x 2)) := cell_of_row w6 S 2 (cnt x) 37 (0, 0) hSU6
        have s3 : w6.cell? ⟨S, 3, none⟩ = some (.int .i64 (x 3)) := cell_of_row w6 S 3 (cnt x) 37 (0, 0) hSU6
        have s4 : w6.cell? ⟨S, 4, none⟩ = some (.int .i64 (x 4)) := cell_of_row w6 S 4 (cnt x) 37 (0, 0) hSU6
        have s5 : w6.cell? ⟨S, 5, none⟩ = some (.int .i64 (x 5)) := cell_of_row w6 S 5 (cnt x) 37 (0, 0) hSU6
        have s6 : w6.cell? ⟨S, 6, none⟩ = some (.int .i64 (x 6)) := cell_of_row w6 S 6 (cnt x) 37 (0, 0) hSU6
        have s7 : w6.cell? ⟨S, 7, none⟩ = some (.int .i64 (x 7)) := cell_of_row w6 S 7 (cnt x) 37 (0, 0) hSU6
        have s8 : w6.cell? ⟨S, 8, none⟩ = some (.int .i64 (x 8)) := cell_of_row w6 S 8 (cnt x) 37 (0, 0) hSU6
        have s9 : w6.cell? ⟨S, 9, none⟩ = some (.int .i64 (x 9)) := cell_of_row w6 S 9 (cnt x) 37 (0, 0) hSU6
        have s10 : w6.cell? ⟨S, 10, none⟩ = some (.int .i64 (x 10)) := cell_of_row w6 S 10 (cnt x) 37 (0, 0) hSU6
        have s11 : w6.cell? ⟨S, 11, none⟩ = some (.int .i64 (x 11)) := cell_of_row w6 S 11 (cnt x) 37 (0, 0) hSU6
        have m0 : w6.cell? ⟨w.heap.size, 0, none⟩ = some (.int .i64 (x 0)) := cell_of_row w6 w.heap.size 0 (cnt x) 24 (0, 0) hN6
        have m1 : w6.cell? ⟨w.heap.size, 1, none⟩ = some (.int .i64 (x 1)) := cell_of_row w6 w.heap.size 1 (cnt x) 24 (0, 0) hN6
        have m2 : w6.cell? ⟨w.heap.size, 2, none⟩ = some (.int .i64 (x 2)) := cell_of_row w6 w.heap.size 2 (cnt x) 24 (0, 0) hN6
        have m3 : w6.cell? ⟨w.heap.size, 3, none⟩ = some (.int .i64 (x 3)) := cell_of_row w6 w.heap.size 3 (cnt x) 24 (0, 0) hN6
        have m4 : w6.cell? ⟨w.heap.size, 4, none⟩ = some (.int .i64 (x 4)) := cell_of_row w6 w.heap.size 4 (cnt x) 24 (0, 0) hN6
        have m5 : w6.cell? ⟨w.heap.size, 5, none⟩ = some (.int .i64 (x 5)) := cell_of_row w6 w.heap.size 5 (cnt x) 24 (0, 0) hN6
        have m6 : w6.cell? ⟨w.heap.size, 6, none⟩ = some (.int .i64 (x 6)) := cell_of_row w6 w.heap.size 6 (cnt x) 24 (0, 0) hN6
        have m7 : w6.cell? ⟨w.heap.size, 7, none⟩ = some (.int .i64 (x 7)) := cell_of_row w6 w.heap.size 7 (cnt x) 24 (0, 0) hN6
        have m8 : w6.cell? ⟨w.heap.size, 8, none⟩ = some (.int .i64 (x 8)) := cell_of_row w6 w.heap.size 8 (cnt x) 24 (0, 0) hN6
        have m9 : w6.cell? ⟨w.heap.size, 9, none⟩ = some (.int .i64 (x 9)) := cell_of_row w6 w.heap.size 9 (cnt x) 24 (0, 0) hN6
        have m10 : w6.cell? ⟨w.heap.size, 10, none⟩ = some (.int .i64 (x 10)) := cell_of_row w6 w.heap.size 10 (cnt x) 24 (0, 0) hN6
        have m11 : w6.cell? ⟨w.heap.size, 11, none⟩ = some (.int .i64 (x 11)) := cell_of_row w6 w.heap.size 11 (cnt x) 24 (0, 0) hN6
        have hTb : w.heap.size + 1 + 2 ≤ W.heap.size + 1 + 1 := by omega
        clear hF6 hBB hMW hOW hPW HsW HSU HCC HNW hSW hC6 hSU6 hN6 n0 n1 n2 n3 n4 n5 n6 n7 n8 n9 n10 n11 hsr
        generalize W.heap.size + 1 + 1 = T at hT6 hP6 hTb ⊢
        have e4 := eq_cnt x
        go_wp2_with (go_at_call 8; refine (zero_any _ _ hT6).mono ?_; rintro e w' ⟨rfl, rfl⟩)
        go_quiet (fail)
        clear s0 s1 s2 s3 s4 s5 s6 s7 s8 s9 s10 s11 m0 m1 m2 m3 m4 m5 m6 m7 m8 m9 m10 m11 e4 hT6 hcC
        have hc6 := hP6.cell
        rcases hP6.own.2 with ⟨_, h⟩ | ⟨g, c6, cur, rfl, hbg, hg, hnc, hcm, -, -⟩
        · omega
        clear hg
        unfold maxLen at hcm
        have hln : (((prior : Int) + 1) != (prior : Int) + 1) = false := by simp
        go_wp2
        go_loop [103] (fun si => ∃ k : Nat, k ≤ prior ∧ si = .int .i64 k) (fun si => prior - (intOf si).toNat)
        case atStart => exact ⟨0, Nat.zero_le _, rfl⟩
        case round =>
          obtain ⟨i, hi, rfl⟩ := hrel
          by_cases hip : i < prior
          · obtain ⟨q, hq, f1⟩ := ptr_early hP6.own i hip
            have f2 := ptr_old hO6 i q hip hq
            have f3 : w'.cell? ⟨q, 6, none⟩ = some (.int .u64 ((i : Int) + 1)) := cell_of_row w' q 6 _ 63 (0, 0) (hM6 i q hq).2
            have e7 := zneq_ptr ⟨q, 0, none⟩
            have e8 := zsame_ptr ⟨q, 0, none⟩
            clear hq
            go_wp2
            go_round
            case rel => exact ⟨i + 1, by omega, by go_num⟩
            case measure => simp [intOf]; omega
          · obtain rfl : i = prior := by omega
            have f1 := ptr_last hP6.own
            have e7 := zeql_ptr ⟨T, 0, none⟩
            have e8 := zsame_ptr ⟨T, 0, none⟩
            go_wp2
            go_ret
            exact ⟨rfl, below_drewN hB6 _⟩
end Go.Proofs.Ybulkbbze
