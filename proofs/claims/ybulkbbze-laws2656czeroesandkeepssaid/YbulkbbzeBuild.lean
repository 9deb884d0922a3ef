/-
  model.zzs2656cbuild (5): a new db whose pool holds 'prior' new transactions.
-/
import Derived.Test.YbulkbbzePool
namespace Go.Proofs.Ybulkbbze
open Go.ChangeShapes Go.WideShapes Go.ChangeAt Go.RowKit Go.Shelf

/-- a transaction's cells: all zero but 'created'. -/
def txCells (c : Int) : Array Value := #[.pointer none, .pointer none, .pointer none, .slice none 0 0, .bool false, .float .f64 0, .int .u64 c, .nilFunc,
  .int .i64 0, .int .i64 0, .int .i64 0, .int .i64 0, .int .i64 0, .int .i64 0, .int .i64 0, .int .i64 0, .int .i64 0, .int .i64 0, .int .i64 0, .int .i64 0, .pointer none, .bool false, .float .f64 0]

abbrev ptrs (qs : List Nat) : List Value := qs.map fun q => Value.pointer (some ⟨q, 0, none⟩)

/-- 'T{}' by an equation on its run. -/
theorem wpList_build0 {P : Program} (w : World) {ops : Array Oper} {rest : List Oper} {o : Oper} {a : Act} {Q : Exit → Act → World → Prop}
    (hg : o.guard = none) (t : TypeId) (hop : o.op = Op.build t #[]) (z : Value) (hrun : (Instr.build t #[]).run P w = .ok z w)
    (hK : wpList P ops Q rest (a.put o.dst z) w) : wpList P ops Q (o :: rest) a w := by
  refine wpList_plain hg fun K hK' => ?_
  unfold Oper.wp
  simp [execOp, hop, hrun, Result.andThen]
  exact hK' _ _ hK

/-- 'T{f: x, ..}' by an equation on its run. -/
theorem wpList_buildp {P : Program} (w : World) {ops : Array Oper} {rest : List Oper} {o : Oper} {a : Act} {Q : Exit → Act → World → Prop}
    (hg : o.guard = none) (t : TypeId) (ps : Array (Nat × Operand)) (hop : o.op = Op.build t ps) (vs : Array (Nat × Value)) (hvs : ps.map (fun p => (p.1, a.eval p.2)) = vs) (z : Value) (hrun : (Instr.build t vs).run P w = .ok z w)
    (hK : wpList P ops Q rest (a.put o.dst z) w) : wpList P ops Q (o :: rest) a w := by
  refine wpList_plain hg fun K hK' => ?_
  subst hvs
  unfold Oper.wp
  simp [execOp, hop, hrun, Result.andThen]
  exact hK' _ _ hK

/-- '&T{}': the box of a value, by an equation on its run. -/
theorem wpList_box {P : Program} (w : World) {ops : Array Oper} {rest : List Oper} {o : Oper} {a : Act} {Q : Exit → Act → World → Prop}
    (hg : o.guard = none) (t : TypeId) (x : Operand) (hop : o.op = Op.box t x) (z : Array Value) (hx : a.eval x = .agg z) (hrun : (Instr.box t (.agg z)).run P w = .ok (.pointer (some ⟨w.heap.size, 0, none⟩)) (w.alloc (.cells z t)))
    (hK : wpList P ops Q rest (a.put o.dst (.pointer (some ⟨w.heap.size, 0, none⟩))) (w.alloc (.cells z t))) : wpList P ops Q (o :: rest) a w := by
  refine wpList_plain hg fun K hK' => ?_
  unfold Oper.wp
  simp [execOp, hop, hx, hrun, Result.andThen]
  exact hK' _ _ hK

theorem run_build_tx (c : Int) (w : World) : (Instr.build 63 #[(6, .int .u64 c)]).run Yba.prog w = .ok (.agg (txCells c)) w := by kernel_rfl
theorem run_box_tx (c : Int) (w : World) : (Instr.box 63 (.agg (txCells c))).run Yba.prog w = .ok (.pointer (some ⟨w.heap.size, 0, none⟩)) (w.alloc (.cells (txCells c) 63)) := by kernel_rfl

/-- the transactions of the list qs lie in memory, the i-th with 'created' = i + 1. -/
def Made (B : Nat) (w : World) (qs : List Nat) : Prop := ∀ (i : Nat) (q : Nat), qs[i]? = some q → B + 2 ≤ q ∧ w.heap[q]? = some (.cells (txCells ((i : Int) + 1)) 63 (0, 0))

theorem Made.grown {B : Nat} {w w' : World} {qs : List Nat} {row : Option Nat} (h : Made B w qs) (hg : w.grownBy w' row) (hr : ∀ g, row = some g → g < B + 2) : Made B w' qs := by
  intro i q hq
  obtain ⟨h1, h2⟩ := h i q hq
  refine ⟨h1, (hg.block q (lt_of_block h2) (fun e => ?_)).trans h2⟩
  have := hr q e.symm
  omega

theorem Made.fr {B D base : Nat} {w w' : World} {qs : List Nat} (h : Made B w qs) (hg : Fr D base w w') (hD : D < B + 2) : Made B w' qs := by
  intro i q hq
  obtain ⟨h1, h2⟩ := h i q hq
  exact ⟨h1, hg.typ q _ h2 (fun cur fz e => by cases e) (by omega)⟩

theorem Made.snoc {B : Nat} {w : World} {qs : List Nat} (h : Made B w qs) (q : Nat) (h1 : B + 2 ≤ q) (h2 : w.heap[q]? = some (.cells (txCells ((qs.length : Int) + 1)) 63 (0, 0))) : Made B w (qs ++ [q]) := by
  intro i q' hq
  by_cases hi : i < qs.length
  · rw [List.getElem?_append_left hi] at hq
    exact h i q' hq
  · rw [List.getElem?_append_right (by omega)] at hq
    by_cases hi' : i - qs.length = 0
    · rw [hi'] at hq
      have e : i = qs.length := by omega
      simp at hq
      subst e
      subst hq
      exact ⟨h1, h2⟩
    · rw [List.getElem?_eq_none (by simp; omega)] at hq
      cases hq

theorem Pool.kept {w w' : World} {D base : Nat} {cs : Array Value} {v : Value} {n : Nat} {xs : List Value} {row : Option Nat} (h : Pool w D base cs v n xs) (hg : w.grownBy w' row) (hr : ∀ g, row = some g → g ≠ D ∧ g < base) : Pool w' D base cs v n xs :=
  ⟨(hg.block D h.lt_size (fun e => (hr D e.symm).1 rfl)).trans h.blk, h.sz, h.fld, h.own.kept hg (by
    cases hv : v.ownBlock with
    | none => exact Or.inl rfl
    | some g =>
      refine Or.inr (fun e => ?_)
      have h1 := (own_row h.own g hv).1
      have h2 := (hr g e.symm).2
      omega), h.lt⟩

theorem Fr.below {B base : Nat} {w w' : World} (h : Fr B base w w') (hb : B ≤ base) : Below B w w' := ⟨h.os, h.tape, h.output, h.size, fun k hk => h.low k (by omega) (by omega)⟩

/-- a new db's cells. -/
def dbZ : Array Value := #[.float .f64 0, .float .f64 0, .int .u64 0, .slice none 0 0, .slice none 0 0, .int .i64 0, .pointer none, .pointer none, .int .i64 0, .pointer none, .slice none 0 0, .slice none 0 0, .pointer none,
  .pointer none, .pointer none, .pointer none, .pointer none, .bool false, .bool false, .pointer none, .float .f64 0, .int .u64 0, .int .u64 0, .int .i64 0, .float .f64 0, .float .f64 0, .int .i64 0, .slice none 0 0, .int .i64 0,
  .int .u64 0, .pointer none, .slice none 0 0, .int .u64 0, .int .i64 0, .int .u64 0, .int .u64 0, .pointer none, .int .i64 0, .bool false, .int .u64 0, .slice none 0 0, .int .i64 0, .float .f64 0, .float .f64 0, .int .i64 0,
  .float .f64 0, .float .f64 0, .int .i64 0, .float .f64 0, .float .f64 0, .slice none 0 0, .slice none 0 0, .slice none 0 0, .slice none 0 0, .bool false, .slice none 0 0, .slice none 0 0, .slice none 0 0, .pointer none,
  .pointer none, .nilIface, .string ⟨#[]⟩, .float .f64 0, .bool false]
theorem run_build_db (w : World) : (Instr.build 111 #[]).run Yba.prog w = .ok (.agg dbZ) w := by kernel_rfl
theorem run_box_db (w : World) : (Instr.box 111 (.agg dbZ)).run Yba.prog w = .ok (.pointer (some ⟨w.heap.size, 0, none⟩)) (w.alloc (.cells dbZ 111)) := by kernel_rfl

theorem grown_trans {a b c : World} {row : Option Nat} (h : a.grownBy b row) (k : b.grownBy c row) : a.grownBy c row :=
  ⟨k.os.trans h.os, k.tape.trans h.tape, k.output.trans h.output, Nat.le_trans h.size k.size, fun i hi hr => (k.block i (Nat.lt_of_lt_of_le hi h.size) hr).trans (h.block i hi hr)⟩

theorem owns_of_block {w w' : World} {base g n c : Nat} {xs : List Value} (h : w.ownsRow base 38 1 (.slice (some ⟨g, 0, none⟩) n c) n xs) (hb : w'.heap[g]? = w.heap[g]?) : w'.ownsRow base 38 1 (.slice (some ⟨g, 0, none⟩) n c) n xs := by
  refine ⟨h.1, ?_⟩
  rcases h.2 with ⟨h', _⟩ | ⟨g', cap, cur, h', h1, h2, h3⟩
  · cases h'
  · cases h'
    exact Or.inr ⟨g, c, cur, rfl, h1, hb.trans h2, h3⟩

theorem ptrs_snoc (qs : List Nat) (q : Nat) : ptrs (qs ++ [q]) = ptrs qs ++ [.pointer (some ⟨q, 0, none⟩)] := by simp [ptrs]

set_option maxRecDepth 100000 in
set_option maxHeartbeats 1600000 in
theorem build_any (prior : Nat) (hp : prior ≤ 255) (w : World) :
    Calls Yba.prog 5 #[.int .u8 prior] w fun e w' => e = .returned (.tuple #[.pointer (some ⟨w.heap.size, 0, none⟩), .slice (some ⟨w.heap.size + 1, 0, none⟩) prior prior]) ∧ ∃ cs v qs,
      Pool w' w.heap.size (w.heap.size + 2) cs v prior (ptrs qs) ∧ w'.ownsRow (w.heap.size + 1) 38 1 (.slice (some ⟨w.heap.size + 1, 0, none⟩) prior prior) prior (ptrs qs) ∧ Below w.heap.size w w' ∧
      w.heap.size + 2 ≤ w'.heap.size ∧ Made w.heap.size w' qs := by
  obtain ⟨i0, hi, hz0, hz1, hz2⟩ := info_parts info38
  go_enter Yba.func5, Yba.ntmps5
  go_wp2_with (first | (refine wpList_build0 _ rfl 111 rfl _ (run_build_db _) ?_) | (refine wpList_box _ rfl 111 _ rfl dbZ rfl (run_box_db _) ?_) | (at_make; refine wpList_make_own _ rfl _ _ 27 rfl (w.heap.size + 1) 38 i0 (.pointer none) 1 Yba.underlying27 hi hz0 hz1 _ _ _ prior rfl rfl rfl (by rw [hz2]; omega) (by unfold maxLen; omega) (by simp) ?_))
  intro w0 hown0 hgrow0
  have hsz0 : w.heap.size + 2 ≤ w0.heap.size := by
    rcases hown0.2 with ⟨h, _⟩ | ⟨g, cap, cur, h, _, hh, _⟩
    · cases h
    · cases h
      have := lt_of_block hh
      omega
  have hP0 : Pool w0 w.heap.size (w.heap.size + 2) dbZ (.slice none 0 0) 0 (ptrs []) :=
    ⟨(hgrow0.block w.heap.size (by simp) (by simp)).trans (heap_alloc_new w _), by kernel_rfl, by kernel_rfl, World.ownsRow_nil _ _ _ _, by omega⟩
  have hB0 : Below w.heap.size w w0 := ((Below.refl _ w).alloc (Nat.le_refl _) _).grown hgrow0 (by simp) (fun k h => by cases h)
  go_wp2
  go_loopw [5, 6] (fun ol si wr => ∃ (k : Nat) (cs : Array Value) (v : Value) (qs : List Nat), k ≤ prior ∧ qs.length = k ∧ si = .int .i64 k ∧ ol = .slice (some ⟨w.heap.size + 1, 0, none⟩) k prior ∧
      wr.ownsRow (w.heap.size + 1) 38 1 (.slice (some ⟨w.heap.size + 1, 0, none⟩) k prior) k (ptrs qs) ∧ Pool wr w.heap.size (w.heap.size + 2) cs v k (ptrs qs) ∧ Below w.heap.size w wr ∧
      w.heap.size + 2 ≤ wr.heap.size ∧ Made w.heap.size wr qs) (fun _ si _ => prior - (intOf si).toNat)
  case atStart => exact ⟨0, _, _, [], Nat.zero_le _, rfl, rfl, rfl, hown0, hP0, hB0, hsz0, fun i q h => by simp at h⟩
  case round =>
    obtain ⟨k, cs, v, qs, hk, hql, rfl, rfl, hown, hP, hB, hsz, hM⟩ := hrel
    clear hown0 hgrow0 hsz0 hP0 hB0
    by_cases hkp : k < prior
    · go_wp2_with (first
        | (refine wpList_buildp _ rfl 63 _ rfl _ rfl _ (run_build_tx ((k : Int) + 1) _) ?_)
        | (refine wpList_box _ rfl 63 _ rfl (txCells ((k : Int) + 1)) rfl (run_box_tx _ _) ?_)
        | (at_builtin; refine wpList_append_fits _ rfl (.tmp 24) (.tmp 26) 27 rfl (w.heap.size + 1) 38 i0 1 Yba.underlying27 hi hz1 (w.heap.size + 1) k prior _ rfl ((hown.alloc _).alloc _) ⟨wr.heap.size + 1, 0, none⟩ 1 1 [.pointer (some ⟨wr.heap.size, 0, none⟩)] rfl rfl (by intro t u ht; match t, ht with | 0, ht => simp at ht; subst ht; simp [Addr.add]) (by intro u hu; simp at hu; subst hu; rfl) (by omega) ?_; intro w1 hown1 hgrow1))
      have hall : wr.grownBy w1 (some (w.heap.size + 1)) := grown_trans (grown_trans (World.grownBy_alloc wr _ _) (World.grownBy_alloc _ _ _)) hgrow1
      have hnew : w1.heap[wr.heap.size]? = some (.cells (txCells ((k : Int) + 1)) 63 (0, 0)) := by
        rw [hgrow1.block wr.heap.size (by simp; omega) (by simp; omega), Below.heap_alloc _ _ _ (by simp)]
        exact heap_alloc_new wr _
      have hP1 := hP.kept hall (fun g h => by cases h; exact ⟨by omega, by omega⟩)
      have hM1 : Made w.heap.size w1 (qs ++ [wr.heap.size]) := (hM.grown hall (fun g h => by cases h; omega)).snoc wr.heap.size hsz (by rw [hql]; exact hnew)
      have hB1 : Below w.heap.size w w1 := hB.grown hall hB.size (fun g h => by cases h; omega)
      have hs1 : w.heap.size + 2 ≤ w1.heap.size := Nat.le_trans hsz hall.size
      have hl1 : (qs ++ [wr.heap.size]).length = k + 1 := by simp [hql]
      rw [← ptrs_snoc] at hown1
      refine (put_any w.heap.size (w.heap.size + 2) cs v k (ptrs qs) (some ⟨wr.heap.size, 0, none⟩) w1 hP1 hs1 (by omega)).mono ?_
      rintro e w2 ⟨rfl, cs2, v2, hP2, hF2⟩
      rw [← ptrs_snoc] at hP2
      have hown2 := owns_of_block hown1 (hF2.low (w.heap.size + 1) (by omega) (by omega))
      have hM2 := hM1.fr hF2 (by omega)
      have hB2 := hB1.trans (hF2.below (by omega))
      have hs2 := Nat.le_trans hs1 hF2.size
      generalize qs ++ [wr.heap.size] = qs2 at hl1 hown2 hP2 hM2
      clear hall hnew hP1 hM1 hB1 hs1 hown1 hgrow1 hM hP hown
      go_wp2
      go_roundw
      case rel => exact ⟨k + 1, cs2, v2, qs2, by omega, hl1, by go_num, rfl, hown2, hP2, hB2, hs2, hM2⟩
      case measure => simp [intOf]; omega
    · obtain rfl : k = prior := by omega
      go_wp2
      go_ret2
      exact ⟨rfl, cs, v, qs, hP, hown, hB, hsz, hM⟩
end Go.Proofs.Ybulkbbze
