/-
  LawS2656CZeroesAndKeeps: the row.
-/
import Derived.Test.YbulkbbzeRows
import Derived.Test.YbulkbbzeZero
import Derived.WalkKit
import Derived.ProofKit
import Derived.OpenShut
import Derived.ShutString
import Derived.ChangeOld
import Derived.Below
import Derived.Laws.Cover2
namespace Go.Proofs.Ybulkbbze.lawS2656CZeroesAndKeeps
open Go.ChangeShapes Go.WideShapes Go.ChangeAt Go.RowKit

theorem own : ownKnob Yba.prog.godebug = none := by kernel_rfl
theorem laidOut : laidOutB Yba.prog = true := by kernel_rfl
theorem cells24 : Yba.prog.cellsOf 24 = 12 := by kernel_rfl
theorem cells2 : Yba.prog.cellsOf 2 = 1 := by kernel_rfl

/-- the i-th integer of an array of integers. -/
def nth (cs : Array Value) (i : Nat) : Int := match cs[i]? with
  | some (.int _ k) => k
  | _ => 0

theorem cnt_of (cs : Array Value) (hs : cs.size = 12) (h : ∀ i, i < 12 → ∃ k, cs[i]? = some (.int .i64 k)) : cs = cnt (nth cs) := by
  have hn : ∀ i, i < 12 → cs[i]? = some (.int .i64 (nth cs i)) := by
    intro i hi
    obtain ⟨k, hk⟩ := h i hi
    have e : nth cs i = k := by unfold nth; rw [hk]
    rw [e]
    exact hk
  apply Array.ext_getElem?
  intro i
  by_cases hi : i < 12
  · rw [hn i hi]
    match i, hi with
    | 0, _ | 1, _ | 2, _ | 3, _ | 4, _ | 5, _ | 6, _ | 7, _ | 8, _ | 9, _ | 10, _ | 11, _ => rfl
  · have hz : (cnt (nth cs)).size = 12 := rfl
    rw [Array.getElem?_eq_none (by omega), Array.getElem?_eq_none (by omega)]

set_option maxRecDepth 100000 in
/-- the array that came in, as twelve integers. -/
theorem open_cnt {H : Type} {enc : TypeId × Value → H} {W : World} {b0 : Nat} {sp : Nat → Bool} {hd : Bool} {v : Value} {d : DataW H} {ps : List MemPlace} {r : Reach} {b1 : Nat}
    (hv : Value.okWide Yba.prog W r b1 24 v) (h : DataW.Trod enc Yba.prog W b0 sp hd 24 v d ps) : ∃ y, v = .agg (cnt y) := by
  simp only [Value.okWide, Yba.underlying24] at hv
  obtain ⟨cs, rfl, hsz, _⟩ := hv
  rw [cells24] at hsz
  obtain ⟨fuel, hf⟩ := h
  obtain ⟨xs, m, rfl, _, _, hxn, hel⟩ := DataW.trod_array Yba.underlying24 hf
  refine ⟨nth cs, congrArg Value.agg (cnt_of cs hsz (fun i hi => ?_))⟩
  have hi' := hel i hi
  rw [List.getElem?_eq_getElem (by omega)] at hi'
  obtain ⟨k, e1, _, _⟩ := DataW.trod_int Yba.underlying2 hi'
  refine ⟨k, ?_⟩
  rw [cells2] at e1
  have e2 := congrArg (fun l => l[0]?) e1
  simpa [Value.cells, List.getElem?_take, List.getElem?_drop] using e2

set_option maxRecDepth 100000 in
theorem lifted (os : Os) (started : os.Started) (H : Type) (enc : TypeId × Value → H) :
    ReturnsInHanded {} Yba.checked os 3 .any (Rows.lawS2656CZeroesAndKeepsSpec.pre6 enc Yba.prog Yba.f3 Rows.lawS2656CZeroesAndKeepsRow.domain false) (Rows.lawS2656CZeroesAndKeepsSpec.post enc Yba.prog Yba.f3 false true false false) := by
  refine returnsInHanded_of_change (C := Yba.checked) own started (by kernel_rfl) Yba.func3
    (ChangeSpec.witness6 (enc := enc) (C := Yba.checked) false ⟨#[], #[.int .u8 0, .float .f64 0, .int .u64 0, .agg (cnt (fun _ => 0)), .bool false, .float .f64 0, .bool false, .slice none 0 0], []⟩ 8 (by kernel_rfl) (by kernel_rfl) (by kernel_rfl) (by kernel_rfl)) ?_
  intro W base args ds gs before hval0 hW hcnd _
  have hval : ∀ (j : Nat) t v, Yba.f3.params[j]? = some t → args[j]? = some v → Value.okWide Yba.prog W .any base t v := hval0
  have hW' := hW
  obtain ⟨p, q, hA0, hV, rfl, hfz, hnd⟩ := hW
  have hA : DataW.TrodAll enc Yba.prog W 0 (fun _ => true) true Yba.f3.params.toList args.toList ds p := hA0
  rw [Yba.params3] at hA hval
  obtain ⟨v0, vs0, d0, ds0, p0, q0, hargs, rfl, rfl, h0, r0⟩ := trodAll_cons hA
  obtain ⟨v1, vs1, d1, ds1, p1, q1, rfl, rfl, rfl, h1, r1⟩ := trodAll_cons r0
  obtain ⟨v2, vs2, d2, ds2, p2, q2, rfl, rfl, rfl, h2, r2⟩ := trodAll_cons r1
  obtain ⟨v3, vs3, d3, ds3, p3, q3, rfl, rfl, rfl, h3, r3⟩ := trodAll_cons r2
  obtain ⟨v4, vs4, d4, ds4, p4, q4, rfl, rfl, rfl, h4, r4⟩ := trodAll_cons r3
  obtain ⟨v5, vs5, d5, ds5, p5, q5, rfl, rfl, rfl, h5, r5⟩ := trodAll_cons r4
  obtain ⟨v6, vs6, d6, ds6, p6, q6, rfl, rfl, rfl, h6, r6⟩ := trodAll_cons r5
  obtain ⟨v7, vs7, d7, ds7, p7, q7, rfl, rfl, rfl, h7, r7⟩ := trodAll_cons r6
  obtain ⟨rfl, rfl, rfl⟩ := trodAll_nil r7
  obtain rfl : args = #[v0, v1, v2, v3, v4, v5, v6, v7] := by cases args; simp_all
  obtain ⟨rfl, rfl⟩ := trodVars_none hV
  obtain ⟨a0, rfl, rfl, rfl, w0⟩ := open_int Yba.underlying5 (hval 0 5 v0 rfl rfl) h0
  obtain ⟨a1, rfl, rfl, rfl, w1⟩ := open_float Yba.underlying22 (hval 1 22 v1 rfl rfl) h1
  obtain ⟨a2, rfl, rfl, rfl, w2⟩ := open_int Yba.underlying23 (hval 2 23 v2 rfl rfl) h2
  have k3 := h3
  have lt3 : ∀ x ∈ p3, x.block < W.heap.size := by obtain ⟨m, hm⟩ := k3; exact DataW.trod_lt m _ _ _ hm
  obtain ⟨x, rfl⟩ := open_cnt (hval 3 24 v3 rfl rfl) h3
  obtain ⟨a4, rfl, rfl, rfl⟩ := open_bool Yba.underlying4 (hval 4 4 v4 rfl rfl) h4
  obtain ⟨a5, rfl, rfl, rfl, w5⟩ := open_float Yba.underlying22 (hval 5 22 v5 rfl rfl) h5
  obtain ⟨a6, rfl, rfl, rfl⟩ := open_bool Yba.underlying4 (hval 6 4 v6 rfl rfl) h6
  obtain ⟨ap, len0, cap0, rfl⟩ := okWide_slice Yba.underlying25 (hval 7 25 v7 rfl rfl)
  have k7 := h7
  have lt7 : ∀ x ∈ p7, x.block < W.heap.size := by obtain ⟨m, hm⟩ := k7; exact DataW.trod_lt m _ _ _ hm
  have hrow : Row64 W ap len0 cap0 := by
    intro k hk
    obtain ⟨fuel, hf⟩ := h7
    rcases open_ints Yba.underlying25 Yba.underlying3 (by kernel_rfl) hf with ⟨hcs, _⟩ | ⟨y, l, c, zs, hcs, _, hl, hm, hz, _, hcell, hwz⟩
    · simp [Value.cells] at hcs
      omega
    · simp [Value.cells] at hcs
      obtain ⟨rfl, rfl, rfl⟩ := hcs
      have hzl : zs.length = cap0 := by simpa using hz
      obtain ⟨b, off, rfl, hc⟩ := ints_at hcell (by omega)
      have hck := hc k (by omega)
      exact ⟨b, off, zs.getD k 0, rfl, World.block_lt_of_cell? _ _ hck, hl, hck⟩
  have hb := bounds_u8 w0
  obtain ⟨n, rfl⟩ : ∃ n : Nat, a0 = n := ⟨a0.toNat, by omega⟩
  clear hA0 hval0
  refine (zwalk n (by omega) a1 a2 x a4 a5 a6 ap len0 cap0 W hrow).mono fun e W' ⟨he, bel⟩ => ?_
  subst he
  exact ⟨_, rfl, _, _, _, [], _, [], hW', trodAll_mk1 (shut_bool Yba.underlying4 _), (trodAll_cons_mk (shut_int Yba.underlying5 w0) (trodAll_cons_mk (shut_float Yba.underlying22 w1) (trodAll_cons_mk (shut_int Yba.underlying23 w2)
    (trodAll_cons_mk (Below.trod laidOut (by kernel_rfl) (of_decide_eq_true (by kernel_rfl)) k3 bel lt3) (trodAll_cons_mk (shut_bool Yba.underlying4 _) (trodAll_cons_mk (shut_float Yba.underlying22 w5) (trodAll_cons_mk (shut_bool Yba.underlying4 _)
    (trodAll_cons_mk (Below.trod laidOut (by kernel_rfl) (of_decide_eq_true (by kernel_rfl)) k7 bel lt7) trodAll_mk0)))))))), rfl, bel.frame _, fun h => by cases h⟩

theorem over : Rows.lawS2656CZeroesAndKeepsRow.holds Yba.pinned (OpenSpec.ofChange Rows.lawS2656CZeroesAndKeepsSpec) :=
  OpenClaim.holds_of_wide 3 Yba.f3 rfl rfl rfl rfl rfl rfl rfl ⟨rfl, rfl, rfl, rfl, rfl⟩ rfl rfl rfl rfl rfl (by kernel_rfl) Yba.func3 (by kernel_rfl)
    (of_decide_eq_true (by kernel_rfl)) (by unfold Func.isWrapper; first | (rw [if_pos (by decide +kernel)]; kernel_rfl) | (rw [if_neg (by decide +kernel)]; exact ⟨rfl, rfl⟩))
    (fun os started H enc _ => lifted os started H enc)

/-- THE STATEMENT -/
theorem proved : Rows.LawS2656CZeroesAndKeepsSaid := over
end Go.Proofs.Ybulkbbze.lawS2656CZeroesAndKeeps
