/-
  LawS2649CRaw: the walk and the row. The row's step is the kit's shell for this function.
-/
import Derived.Test.YbulkbbvkRows
import Derived.Test.YbulkbbvkWalks
import Derived.WalkKit
import Derived.ProofKit
import Derived.OpenShut
import Derived.ShutString
namespace Go.Proofs.Ybulkbbvk.lawS2649CRaw
open Go.ChangeShapes Go.WideShapes Go.ChangeAt Go.RowKit
open Go.ChangeMaps (open_string shut_string)
set_option linter.unusedVariables false      -- a walk need not use every 'w<i>' (that an integer argument fits its kind)

theorem own : ownKnob Yba.prog.godebug = none := by kernel_rfl

/-! ### STEP 1: THE WALK: the Go text returns true. 'Grown w w'': the world has at most new blocks (Derived/RowKit3.lean). Part the cases AHEAD of 'go_enter' where a test parts the walk; take each callee by a contract of your own. -/
theorem walk (a0 : ByteArray) (a1 : Int) (a2 : Int) (w0 : a0.size ≤ maxLen) (w1 : (Lit.int .u64 a1).wf = true) (w2 : (Lit.int .u8 a2).wf = true) (w : World) :
    Calls Yba.prog 4 #[.string a0, .int .u64 a1, .int .u8 a2] w fun e w' => e = .returned (.bool true) ∧ Grown w w' := by
  unfold maxLen at w0
  have b1 := bounds_u64 w1
  have b2 := bounds_u8 w2
  by_cases hlt : (1024 : Int) < a0.size
  · go_enter Yba.func4, Yba.ntmps4
    go_wp2
    go_ret
    exact ⟨rfl, Grown.refl _⟩
  · have hm1 : 0 ≤ a2 % 4 := by omega
    have hm2 : a2 % 4 < 4 := by omega
    have hs1 : 0 ≤ a1 % ((a0.size : Int) + 1) := Int.emod_nonneg _ (by omega)
    have hs2 : a1 % ((a0.size : Int) + 1) < (a0.size : Int) + 1 := Int.emod_lt_of_pos _ (by omega)
    go_enter Yba.func4, Yba.ntmps4
    go_wp2_with fail
    refine (end_any a0 _ (by omega) (by omega) _).mono ?_
    rintro e w1 ⟨r0, rfl, rfl, hE0⟩
    have hr0 : ((r0 : Int) != (a0.size : Int) + a2 % 4) = false := by
      have h1 := hE0.ge
      have h2 := hE0.le
      rw [bne_eq_false_iff_eq]
      omega
    clear hE0
    go_wp2_with fail
    refine (end_any a0 _ (by omega) (by omega) _).mono ?_
    rintro e w2 ⟨r, rfl, rfl, hE⟩
    clear hr0
    obtain ⟨n, hn⟩ : ∃ n : Nat, a1 % ((a0.size : Int) + 1) = n := ⟨_, (Int.toNat_of_nonneg hs1).symm⟩
    rw [hn] at hs1 hs2 hE ⊢
    rw [Int.toNat_natCast] at hE
    clear hn
    have hge := hE.ge
    have hle : r ≤ a0.size := by have := hE.le; omega
    have hb1 : decide (r < n) = false := by simp; omega
    have hb2 : decide (a0.size < r) = false := by simp; omega
    go_wp2
    go_loop [10] (fun i => ∃ k : Nat, i = .int .i64 k ∧ n ≤ k ∧ k ≤ r) (fun i => r - (intOf i).toNat)
    case atStart => exact ⟨n, rfl, Nat.le_refl _, hge⟩
    case round =>
      obtain ⟨k, rfl, hk1, hk2⟩ := hrel
      by_cases hkr : k < r
      · have hks : k < a0.size := by omega
        have hd := hE.all k hk1 hkr hks
        have HD : Hid (digB (a0[k].toNat : Int) = true) := hd
        clear hd
        go_wp2_with (go_at_call 6; refine (zdigit_any _ _).mono ?_; rw [HD.out]; rintro e w' ⟨rfl, rfl⟩)
        go_round
        case rel => exact ⟨k + 1, by go_num, by omega, by omega⟩
        case measure => simp [intOf]; omega
      · by_cases hrs : r < a0.size
        · have HD : Hid (digB (a0[r].toNat : Int) = false) := hE.stop hrs
          go_wp2_with (go_at_call 6; refine (zdigit_any _ _).mono ?_; rw [HD.out]; rintro e w' ⟨rfl, rfl⟩)
          go_ret
          exact ⟨rfl, Grown.refl _⟩
        · go_wp2_with fail
          go_ret
          exact ⟨rfl, Grown.refl _⟩

/-! ### THE ROW's STEP: WRITTEN OUT: LEAVE IT -/
set_option maxRecDepth 100000 in
theorem lifted (os : Os) (started : os.Started) (H : Type) (enc : TypeId × Value → H) :
    ReturnsInHanded {} Yba.checked os 4 .any (Rows.lawS2649CRawSpec.pre6 enc Yba.prog Yba.f4 Rows.lawS2649CRawRow.domain false) (Rows.lawS2649CRawSpec.post enc Yba.prog Yba.f4 false true false false) := by
  refine returnsInHanded_of_change (C := Yba.checked) own started (by kernel_rfl) Yba.func4
    (ChangeSpec.witness6 (enc := enc) (C := Yba.checked) false ⟨#[], #[.string ByteArray.empty, .int .u64 0, .int .u8 0], []⟩ 8 (by kernel_rfl) (by kernel_rfl) (by kernel_rfl) (by kernel_rfl)) ?_
  intro W base args ds gs before hval0 hW hcnd _
  have hval : ∀ (j : Nat) t v, Yba.f4.params[j]? = some t → args[j]? = some v → Value.okWide Yba.prog W .any base t v := hval0
  have hW' := hW
  obtain ⟨p, q, hA0, hV, rfl, hfz, hnd⟩ := hW
  have hA : DataW.TrodAll enc Yba.prog W 0 (fun _ => true) true Yba.f4.params.toList args.toList ds p := hA0
  rw [Yba.params4] at hA hval
  obtain ⟨v0, vs0, d0, ds0, p0, q0, hargs, rfl, rfl, h0, r0⟩ := trodAll_cons hA
  obtain ⟨v1, vs1, d1, ds1, p1, q1, rfl, rfl, rfl, h1, r1⟩ := trodAll_cons r0
  obtain ⟨v2, vs2, d2, ds2, p2, q2, rfl, rfl, rfl, h2, r2⟩ := trodAll_cons r1
  obtain ⟨rfl, rfl, rfl⟩ := trodAll_nil r2
  obtain rfl : args = #[v0, v1, v2] := by cases args; simp_all
  obtain ⟨rfl, rfl⟩ := trodVars_none hV
  obtain ⟨a0, rfl, rfl, rfl, w0⟩ := open_string Yba.underlying9 (hval 0 9 v0 rfl rfl) h0
  obtain ⟨a1, rfl, rfl, rfl, w1⟩ := open_int Yba.underlying23 (hval 1 23 v1 rfl rfl) h1
  obtain ⟨a2, rfl, rfl, rfl, w2⟩ := open_int Yba.underlying5 (hval 2 5 v2 rfl rfl) h2
  clear hA0 hval0
  simp only [List.append_nil] at hW'
  refine (walk a0 a1 a2 w0 w1 w2 W).mono fun e W' ⟨he, hg⟩ => ?_
  subst he
  exact ⟨_, rfl, post_of_same (pa := []) (pv := []) hW' (fun _ _ _ => (trodAll_cons_mk (shut_bool Yba.underlying4 _) trodAll_mk0)) (fun sp _ => (trodAll_cons_mk (shut_string Yba.underlying9 w0) (trodAll_cons_mk (shut_int Yba.underlying23 w1) (trodAll_cons_mk (shut_int Yba.underlying5 w2) trodAll_mk0)))) (fun _ _ => rfl) rfl
    (hg.frame _) hg.2.1 (ok_one (by kernel_rfl) rfl (okWide_bool_mk Yba.underlying4 _))⟩

theorem over : Rows.lawS2649CRawRow.holds Yba.pinned (OpenSpec.ofChange Rows.lawS2649CRawSpec) :=
  OpenClaim.holds_of_wide 4 Yba.f4 rfl rfl rfl rfl rfl rfl rfl ⟨rfl, rfl, rfl, rfl, rfl⟩ rfl rfl rfl rfl rfl (by kernel_rfl) Yba.func4 (by kernel_rfl)
    (of_decide_eq_true (by kernel_rfl)) (by unfold Func.isWrapper; first | (rw [if_pos (by decide +kernel)]; kernel_rfl) | (rw [if_neg (by decide +kernel)]; exact ⟨rfl, rfl⟩))
    (fun os started H enc _ => lifted os started H enc)

/-- ████ THE STATEMENT ████ -/
theorem proved : Rows.LawS2649CRawSaid :=
  over
#print axioms proved
end Go.Proofs.Ybulkbbvk.lawS2649CRaw
