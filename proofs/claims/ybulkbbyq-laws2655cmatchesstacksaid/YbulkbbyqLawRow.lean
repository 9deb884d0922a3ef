/-
  LawS2655CMatchesStack: the row.
-/
import Derived.Test.YbulkbbyqRows
import Derived.Test.YbulkbbyqLaw
import Derived.WalkKit
import Derived.ProofKit
import Derived.OpenShut
import Derived.ShutString
import Derived.ChangeOld
import Derived.Below
import Derived.Laws.Cover2
import Derived.Deep.Slices
import Derived.Deep.SlicePairs
namespace Go.Proofs.Ybulkbbyq.lawS2655CMatchesStack
open Go.ChangeShapes Go.WideShapes Go.ChangeAt Go.RowKit

theorem own : ownKnob Yba.prog.godebug = none := by kernel_rfl
theorem laidOut : laidOutB Yba.prog = true := by kernel_rfl
theorem cells32 : Yba.prog.cellsOf 32 = 3 := by kernel_rfl
theorem cells5 : Yba.prog.cellsOf 5 = 1 := by kernel_rfl
theorem cells30 : Yba.prog.cellsOf 30 = 1 := by kernel_rfl

set_option maxRecDepth 100000 in
/-- the steps that came in. -/
theorem open_steps {H : Type} {enc : TypeId × Value → H} {W : World} {b0 : Nat} {sp : Nat → Bool} {hd : Bool} {ap : Option Addr} {len cap : Nat} {d : DataW H} {ps : List MemPlace}
    (h : DataW.Trod enc Yba.prog W b0 sp hd 22 (.slice ap len cap) d ps) : Steps W ap len := by
  obtain ⟨fuel, hf⟩ := h
  rcases Deep.open_slice Yba.underlying22 hf with ⟨hcs, _⟩ | ⟨a, l, c, m, n, D, Pl, hcs, hb, hl, hm, hmm, _, hx⟩
  · intro k hk
    simp [Value.cells] at hcs
    omega
  · simp [Value.cells] at hcs
    obtain ⟨rfl, rfl, rfl⟩ := hcs
    have hlm : len ≤ m := by rw [hmm]; split <;> omega
    intro k hk
    have hsp0 : a.spot = none := by
      obtain ⟨r0, k1, _⟩ := hx 0 (by omega)
      rw [cells32] at k1
      obtain ⟨_, kl, kc⟩ := World.cells?_some k1
      have k2 := kc 0 (by omega)
      obtain ⟨u, hu⟩ : ∃ u, r0[0]? = some u := ⟨_, List.getElem?_eq_getElem (by omega)⟩
      rw [Deep.add_add, hu] at k2
      exact World.cell?_spot k2
    obtain ⟨cs', h1, h2⟩ := hx k (by omega)
    rw [cells32] at h1
    obtain ⟨_, hlen, hcell⟩ := World.cells?_some h1
    obtain ⟨xs, _, _, _, _, hxl, hfd⟩ := DataW.trod_struct Yba.underlying32 h2
    match xs, hxl, cs', hlen with
    | [y0, y1, y2], _, [v0, v1, v2], _ =>
      have g0 := hfd 0 _ rfl
      have g1 := hfd 1 _ rfl
      have g2 := hfd 2 _ rfl
      simp [cells5, cells30] at g0 g1 g2
      have e0 := hcell 0 (by omega)
      have e1 := hcell 1 (by omega)
      have e2 := hcell 2 (by omega)
      rw [Deep.add_add] at e0 e1 e2
      simp at e0 e1 e2
      obtain ⟨b, off, spot⟩ := a
      have hspot : spot = none := hsp0
      subst hspot
      rw [Go.WideShapes.add_plain] at e0 e1 e2
      obtain ⟨z0, p0, _, w0⟩ := DataW.trod_int Yba.underlying5 g0
      obtain ⟨z1, p1, _, w1⟩ := DataW.trod_int Yba.underlying30 g1
      obtain ⟨z2, p2, _, w2⟩ := DataW.trod_int Yba.underlying30 g2
      have b0' := bounds_u8 w0
      have b1' := bounds_u16 w1
      have b2' := bounds_u16 w2
      simp at p0 p1 p2
      subst p0 p1 p2
      obtain ⟨n0, rfl⟩ := Int.eq_ofNat_of_zero_le b0'.1
      obtain ⟨n1, rfl⟩ := Int.eq_ofNat_of_zero_le b1'.1
      obtain ⟨n2, rfl⟩ := Int.eq_ofNat_of_zero_le b2'.1
      exact ⟨b, off, n0, n1, n2, rfl, World.block_lt_of_cell? _ _ e0, by omega, by omega, by omega, e0, e1, e2⟩

set_option maxRecDepth 100000 in
theorem lifted (os : Os) (started : os.Started) (H : Type) (enc : TypeId × Value → H) :
    ReturnsInHanded {} Yba.checked os 3 .any (Rows.lawS2655CMatchesStackSpec.pre6 enc Yba.prog Yba.f3 Rows.lawS2655CMatchesStackRow.domain false) (Rows.lawS2655CMatchesStackSpec.post enc Yba.prog Yba.f3 false true false false) := by
  refine returnsInHanded_of_change (C := Yba.checked) own started (by kernel_rfl) Yba.func3
    (ChangeSpec.witness6 (enc := enc) (C := Yba.checked) false ⟨#[], #[.int .u8 0, .slice none 0 0], []⟩ 8 (by kernel_rfl) (by kernel_rfl) (by kernel_rfl) (by kernel_rfl)) ?_
  intro W base args ds gs before hval0 hW hcnd _
  have hval : ∀ (j : Nat) t v, Yba.f3.params[j]? = some t → args[j]? = some v → Value.okWide Yba.prog W .any base t v := hval0
  have hW' := hW
  obtain ⟨p, q, hA0, hV, rfl, hfz, hnd⟩ := hW
  have hA : DataW.TrodAll enc Yba.prog W 0 (fun _ => true) true Yba.f3.params.toList args.toList ds p := hA0
  rw [Yba.params3] at hA hval
  obtain ⟨v0, vs0, d0, ds0, p0, q0, hargs, rfl, rfl, h0, r0⟩ := trodAll_cons hA
  obtain ⟨v1, vs1, d1, ds1, p1, q1, rfl, rfl, rfl, h1, r1⟩ := trodAll_cons r0
  obtain ⟨rfl, rfl, rfl⟩ := trodAll_nil r1
  obtain rfl : args = #[v0, v1] := by cases args; simp_all
  obtain ⟨rfl, rfl⟩ := trodVars_none hV
  obtain ⟨a0, rfl, rfl, rfl, w0⟩ := open_int Yba.underlying5 (hval 0 5 v0 rfl rfl) h0
  obtain ⟨ap, len0, cap0, rfl⟩ := okWide_slice Yba.underlying22 (hval 1 22 v1 rfl rfl)
  have k1 := h1
  have lt1 : ∀ x ∈ p1, x.block < W.heap.size := by obtain ⟨m, hm⟩ := k1; exact DataW.trod_lt m _ _ _ hm
  have hrow := open_steps h1
  have hb := bounds_u8 w0
  obtain ⟨n, rfl⟩ : ∃ n : Nat, a0 = n := ⟨a0.toNat, by omega⟩
  clear hA0 hval0
  refine (law_walk n (by omega) ap len0 cap0 W hrow).mono fun e W' ⟨he, bel⟩ => ?_
  subst he
  exact ⟨_, rfl, _, _, _, [], _, [], hW', trodAll_mk1 (shut_bool Yba.underlying4 _), (trodAll_cons_mk (shut_int Yba.underlying5 w0) (trodAll_cons_mk (Below.trod laidOut (by kernel_rfl) (of_decide_eq_true (by kernel_rfl)) k1 bel lt1) trodAll_mk0)), rfl, bel.frame _, fun h => by cases h⟩

theorem over : Rows.lawS2655CMatchesStackRow.holds Yba.pinned (OpenSpec.ofChange Rows.lawS2655CMatchesStackSpec) :=
  OpenClaim.holds_of_wide 3 Yba.f3 rfl rfl rfl rfl rfl rfl rfl ⟨rfl, rfl, rfl, rfl, rfl⟩ rfl rfl rfl rfl rfl (by kernel_rfl) Yba.func3 (by kernel_rfl)
    (of_decide_eq_true (by kernel_rfl)) (by unfold Func.isWrapper; first | (rw [if_pos (by decide +kernel)]; kernel_rfl) | (rw [if_neg (by decide +kernel)]; exact ⟨rfl, rfl⟩))
    (fun os started H enc _ => lifted os started H enc)

/-- THE STATEMENT -/
theorem proved : Rows.LawS2655CMatchesStackSaid := over
end Go.Proofs.Ybulkbbyq.lawS2655CMatchesStack
