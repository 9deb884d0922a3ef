/-
  LawS2656CTakeGivesItBack: the walk and the row. The row's step is the kit's shell for this function, its end by 'Below'.
-/
import Derived.Test.YbulkbbzeRows
import Derived.Test.YbulkbbzeTake
import Derived.WalkKit
import Derived.ProofKit
import Derived.OpenShut
import Derived.ShutString
import Derived.ChangeOld
import Derived.Below
import Derived.LaidEqlPtr
namespace Go.Proofs.Ybulkbbze.lawS2656CTakeGivesItBack
open Go.ChangeShapes Go.WideShapes Go.ChangeAt Go.RowKit
open Go.ChangeMaps (open_string shut_string)
set_option linter.unusedVariables false      -- a walk need not use every 'w<i>' (that an integer argument fits its kind)

theorem own : ownKnob Yba.prog.godebug = none := by kernel_rfl

/-- the transaction that the law makes. -/
def txOf (B : Nat) (c : Int) (p : Bool) : Array Value := #[.pointer (some ⟨B, 0, none⟩), .pointer none, .pointer none, .slice none 0 0, .bool p, .float .f64 0, .int .u64 c, .nilFunc,
  .int .i64 0, .int .i64 0, .int .i64 0, .int .i64 0, .int .i64 0, .int .i64 0, .int .i64 0, .int .i64 0, .int .i64 0, .int .i64 0, .int .i64 0, .int .i64 0, .pointer none, .bool false, .float .f64 0]
theorem run_build_of (B : Nat) (c : Int) (p : Bool) (w : World) : (Instr.build 63 #[(0, .pointer (some ⟨B, 0, none⟩)), (6, .int .u64 c), (4, .bool p)]).run Yba.prog w = .ok (.agg (txOf B c p)) w := by kernel_rfl
theorem run_box_of (B : Nat) (c : Int) (p : Bool) (w : World) : (Instr.box 63 (.agg (txOf B c p))).run Yba.prog w = .ok (.pointer (some ⟨w.heap.size, 0, none⟩)) (w.alloc (.cells (txOf B c p) 63)) := by kernel_rfl

theorem same_ptr_gen {P : Program} {tp te : TypeId} {j : TypeInfo} (a : Addr) (w : World) (hp : P.underlying tp = some (.pointer te)) (hte : P.info? te = some j) (d : Nat) :
    (Op.equalIn (d + 1) tp (.pointer (some a)) (.pointer (some a))).run P w = .ok true w := by
  simp [Op.equalIn, run_underlying hp, sizeOf, typeInfo, hte, run_sameAddr_same]
theorem same_ptr (a : Addr) (w : World) : (Op.equalIn 10000 38 (.pointer (some a)) (.pointer (some a))).run Yba.prog w = .ok true w := by
  obtain ⟨j, hj, _⟩ := Option.map_eq_some_iff.1 info63
  exact same_ptr_gen a w Yba.underlying38 hj 9999
theorem neq_ptr (a : Addr) (w : World) : (binOp .neq 38 (.pointer (some a)) (.pointer (some a))).run Yba.prog w = .ok (.bool false) w := by
  simp only [binOp]
  simp [Op.equal, Op.maxDepth, same_ptr a w]

theorem below_made (w1 : World) (o : Obj) (cs : Array Value) (B : Nat) (hB : B ≤ w1.heap.size) : Below B w1 ((w1.alloc o).setRow w1.heap.size cs) :=
  ⟨rfl, rfl, rfl, by simp [World.setRow], fun k hk => (setRow_other _ w1.heap.size k _ (by omega)).trans (Below.heap_alloc w1 _ k (by omega))⟩

/-- an element of the row of pointers. -/
theorem ptr_at {w : World} {base g n c : Nat} {qs : List Nat} (h : w.ownsRow base 38 1 (.slice (some ⟨g, 0, none⟩) n c) n (ptrs qs)) (k : Nat) (hk : k < n) : w.cell? ⟨g, k, none⟩ = some (.pointer (some ⟨qs.getD k 0, 0, none⟩)) := by
  have hl : qs.length = n := by have := h.1; simp [ptrs] at this; omega
  rw [h.cellAt k (by omega)]
  simp [ptrs, List.getD, show k < qs.length from by omega]

set_option maxRecDepth 100000 in
set_option maxHeartbeats 1600000 in
theorem walk (prior : Nat) (hp : prior ≤ 255) (a1 : Int) (a2 : Bool) (w : World) :
    Calls Yba.prog 4 #[.int .u8 prior, .int .u64 a1, .bool a2] w fun e w' => e = .returned (.bool true) ∧ Below w.heap.size w w' := by
  go_enter Yba.func4, Yba.ntmps4
  go_wp2_with (go_at_call 5; refine (build_any prior hp _).mono ?_; rintro e w1 ⟨rfl, cs1, v1, qs, hP1, hO1, hB1, hs1, -⟩)
  go_wp2_with (first
    | (refine wpList_buildp _ rfl 63 _ rfl _ rfl _ (run_build_of w.heap.size a1 a2 _) ?_)
    | (refine wpList_box _ rfl 63 _ rfl (txOf w.heap.size a1 a2) rfl (run_box_of _ _ _ _) ?_))
  refine (spare_any w.heap.size (w.heap.size + 2) w1.heap.size cs1 _ v1 prior (ptrs qs) _ (hP1.kept (World.grownBy_alloc w1 _ none) (fun g h => by cases h)) (by simp; omega) (by omega) (heap_alloc_new w1 _) rfl rfl).mono ?_
  rintro e w2 ⟨rfl, cs2, v2, hP2, hF2, hT2⟩
  have hO2 := owns_of_block hO1 ((hF2.low (w.heap.size + 1) (by omega) (by omega)).trans ((setRow_other _ w1.heap.size (w.heap.size + 1) _ (by omega)).trans (Below.heap_alloc w1 _ _ (by omega))))
  have hB2 : Below w.heap.size w w2 := hB1.trans ((below_made w1 _ _ _ (by omega)).trans (hF2.below (by omega)))
  have hs2 : w.heap.size + 2 ≤ w2.heap.size := by have := hF2.size; simp [World.setRow] at this; omega
  clear hP1 hO1 hB1 hF2
  go_wp2_with fail
  refine (take_any w.heap.size (w.heap.size + 2) cs2 v2 prior (ptrs qs) _ _ hP2 hs2 (by omega)).mono ?_
  rintro e w3 ⟨rfl, cs3, v3, hP3, hF3⟩
  have hT3 := hF3.typ _ _ hT2 (fun cur fz e => by cases e) (by omega)
  have hO3 := owns_of_block hO2 (hF3.low (w.heap.size + 1) (by omega) (by omega))
  have hB3 := hB2.trans (hF3.below (by omega))
  clear hP2 hO2 hB2 hF3 hT2 hs2
  have hc3 := hP3.cell
  obtain ⟨a3, c3, rfl⟩ := hP3.shape
  have e5 := neq_ptr ⟨w1.heap.size, 0, none⟩ w3
  have e6 := same_ptr ⟨w1.heap.size, 0, none⟩ w3
  go_wp2_with (go_at_call 8; refine (zero_any _ _ hT3).mono ?_; rintro e w' ⟨rfl, rfl⟩)
  clear e5 e6 hT3
  go_loop [56] (fun si => ∃ k : Nat, k ≤ prior ∧ si = .int .i64 k) (fun si => prior - (intOf si).toNat)
  case atStart => exact ⟨0, Nat.zero_le _, rfl⟩
  case round =>
    obtain ⟨k, hk, rfl⟩ := hrel
    by_cases hkp : k < prior
    · rcases hP3.own.2 with ⟨_, h⟩ | ⟨g, c, cur, h, _⟩
      · omega
      obtain ⟨rfl, rfl⟩ : a3 = some ⟨g, 0, none⟩ ∧ c3 = c := by cases h; exact ⟨rfl, rfl⟩
      have f1 := ptr_at hP3.own k hkp
      have f2 := ptr_at hO3 k hkp
      generalize qs.getD k 0 = q at f1 f2
      have e7 := neq_ptr ⟨q, 0, none⟩ w'
      have e8 := same_ptr ⟨q, 0, none⟩ w'
      clear h
      go_wp2
      go_round
      case rel => exact ⟨k + 1, by omega, by go_num⟩
      case measure => simp [intOf]; omega
    · go_wp2
      go_ret
      exact ⟨rfl, hB3⟩

/-! ### THE ROW's STEP: WRITTEN OUT: LEAVE IT -/
set_option maxRecDepth 100000 in
theorem lifted (os : Os) (started : os.Started) (H : Type) (enc : TypeId × Value → H) :
    ReturnsInHanded {} Yba.checked os 4 .any (Rows.lawS2656CTakeGivesItBackSpec.pre6 enc Yba.prog Yba.f4 Rows.lawS2656CTakeGivesItBackRow.domain false) (Rows.lawS2656CTakeGivesItBackSpec.post enc Yba.prog Yba.f4 false true false false) := by
  refine returnsInHanded_of_change (C := Yba.checked) own started (by kernel_rfl) Yba.func4
    (ChangeSpec.witness6 (enc := enc) (C := Yba.checked) false ⟨#[], #[.int .u8 0, .int .u64 0, .bool false], []⟩ 8 (by kernel_rfl) (by kernel_rfl) (by kernel_rfl) (by kernel_rfl)) ?_
  intro W base args ds gs before hval0 hW hcnd _
  have hval : ∀ (j : Nat) t v, Yba.f4.params[j]? = some t → args[j]? = some v → Value.okWide Yba.prog W .any base t v := hval0
  have hW' := hW
  obtain ⟨p, q, hA0, hV, rfl, hfz, hnd⟩ := hW
  have hA : DataW.TrodAll enc Yba.prog W 0 (fun _ => true) true Yba.f4.params.toList args.toList ds p := hA0
  rw [Yba.params4] at hA hval
  obtain ⟨v0, vs0, d0, ds0, p0, q0, hargs, rfl, rfl, h0, r0⟩ := trodAll_cons hA
  obtain ⟨v1, vs1, d1, ds1, p1, q1, rfl, rfl, rfl, h1, r1⟩ := trodAll_cons r0
  obtain ⟨v2, vs2, d2, ds2, p2, q2, rfl, rfl, rfl, h2, r2⟩ := trodAll_cons r1
  obtain ⟨rfl, rfl, rfl⟩ := trodAll_nil r2
  obtain rfl : args = #[v0, v1, v2] := by cases args; simp_all
  obtain ⟨rfl, rfl⟩ := trodVars_none hV
  obtain ⟨a0, rfl, rfl, rfl, w0⟩ := open_int Yba.underlying5 (hval 0 5 v0 rfl rfl) h0
  obtain ⟨a1, rfl, rfl, rfl, w1⟩ := open_int Yba.underlying23 (hval 1 23 v1 rfl rfl) h1
  obtain ⟨a2, rfl, rfl, rfl⟩ := open_bool Yba.underlying4 (hval 2 4 v2 rfl rfl) h2
  have hb := bounds_u8 w0
  obtain ⟨n, rfl⟩ : ∃ n : Nat, a0 = n := ⟨a0.toNat, by omega⟩
  clear hA0 hval0
  refine (walk n (by omega) a1 a2 W).mono fun e W' ⟨he, bel⟩ => ?_
  subst he
  exact ⟨_, rfl, _, _, _, [], _, [], hW', trodAll_mk1 (shut_bool Yba.underlying4 _), (trodAll_cons_mk (shut_int Yba.underlying5 w0) (trodAll_cons_mk (shut_int Yba.underlying23 w1) (trodAll_cons_mk (shut_bool Yba.underlying4 _) trodAll_mk0))), rfl, bel.frame _, fun h => by cases h⟩

theorem over : Rows.lawS2656CTakeGivesItBackRow.holds Yba.pinned (OpenSpec.ofChange Rows.lawS2656CTakeGivesItBackSpec) :=
  OpenClaim.holds_of_wide 4 Yba.f4 rfl rfl rfl rfl rfl rfl rfl ⟨rfl, rfl, rfl, rfl, rfl⟩ rfl rfl rfl rfl rfl (by kernel_rfl) Yba.func4 (by kernel_rfl)
    (of_decide_eq_true (by kernel_rfl)) (by unfold Func.isWrapper; first | (rw [if_pos (by decide +kernel)]; kernel_rfl) | (rw [if_neg (by decide +kernel)]; exact ⟨rfl, rfl⟩))
    (fun os started H enc _ => lifted os started H enc)

/-- ████ THE STATEMENT ████ -/
theorem proved : Rows.LawS2656CTakeGivesItBackSaid :=
  over
#print axioms proved
end Go.Proofs.Ybulkbbze.lawS2656CTakeGivesItBack
