/-
  The three laws' walks: journal.LawS2648ARoundTrip (3), LawS2648ABuilt (4), LawS2648ARaw (5).
-/
import Derived.Test.YbulkbbuwDoorModel
import Derived.Lib.SmallJoins
import Derived.WalkSmall
namespace Go.Proofs.YbulkbbuwDoor
open Go.Shelf Go.RowKit Go.Sort

theorem var_on {P : Program} {W W' : World} {n : String} {cs : Array Value} (hv : W.var? P n = some cs) (h : Below W.heap.size W W') : W'.var? P n = some cs := by
  cases hg : P.globalNamed n with
  | none => unfold World.var? at hv; simp [hg] at hv
  | some g =>
    refine var?_below h hg ?_ hv
    rcases Nat.lt_or_ge g W.heap.size with h' | h'
    · exact h'
    · unfold World.var? at hv; simp [hg, Array.getElem?_eq_none h'] at hv

theorem dec_len (u : Nat) (hu : u ≤ 18446744073709551615) : (Lib.decDigits u).length ≤ 20 := by
  by_cases hu0 : u = 0
  · subst hu0; rw [Lib.decDigits_one (by omega)]; simp
  · have := Lib.numDigits_eq u (by omega) (by omega)
    rw [Lib.decDigits_length]
    split at this <;> omega

theorem Vars.on {w w' : World} (h : Vars w) (hb : Below w.heap.size w w') : Vars w' := by
  obtain ⟨ts, ps, hs⟩ := h.syn
  obtain ⟨tr, pr, hr⟩ := h.ran
  exact ⟨Lib.tabBelow_of_tabIs h.tab w' hb, ⟨ts, ps, var_on hs hb⟩, ⟨tr, pr, var_on hr hb⟩⟩

theorem pg_round (p : ByteArray) (u : Nat) (h : u ≤ 18446744073709551615) : pg (p ++ (⟨(Lib.decDigits u).toArray⟩ : ByteArray)).data.toList p.data.toList = (u, true) := by
  rw [Joins.data_append]
  have hp : Lib.hasPrefix (p.data.toList ++ Lib.decDigits u) p.data.toList = true := by
    rw [Lib.hasPrefix, List.isPrefixOf_iff_prefix]
    exact List.prefix_append _ _
  unfold pg Lib.trimPrefix
  rw [if_pos hp, if_pos hp, List.drop_left]
  exact Plain.pgd_dec u h

set_option maxHeartbeats 800000 in
theorem round_walk (p : ByteArray) (u : Nat) (hu : u ≤ 18446744073709551615) (w : World) (hv : Vars w) :
    Calls Ybad.prog 3 #[.string p, .int .u64 u] w fun e w' => e = .returned (.bool true) ∧ Below w.heap.size w w' := by
  by_cases hlt : (4096 : Int) < p.size
  · clear hv
    go_enter Ybad.func3, Ybad.ntmps3
    go_wp2
    go_ret
    exact ⟨rfl, Below.refl _ _⟩
  · have hle : p.size ≤ 4096 := by omega
    have htab := hv.tab
    have hdl := dec_len u hu
    have HV := Lib.hid hv
    clear hv
    have HT := Lib.hid htab
    clear htab
    go_enter Ybad.func3, Ybad.ntmps3
    go_wp2_with (go_at_call 7; refine (fmt_any u (by omega) _ HT.out).mono ?_; rintro e w1 ⟨rfl, k, os, rfl⟩)
    have hb1 : Below w.heap.size w (grow (w.drewN k) os) := Lib.below_grow _ w (Nat.le_refl _) k os
    have hc := gen_any (p ++ (⟨(Lib.decDigits u).toArray⟩ : ByteArray)) p (by
      have e : (p ++ (⟨(Lib.decDigits u).toArray⟩ : ByteArray)).size = p.size + (Lib.decDigits u).length := by
        rw [ByteArray.size_append]; rfl
      omega) _ (HV.out.on hb1)
    rw [pg_round p u hu] at hc
    refine hc.mono ?_
    rintro e w2 ⟨rfl, hb2⟩
    clear hc
    go_wp2
    go_ret
    exact ⟨rfl, hb1.trans (hb2.mono hb1.size)⟩

set_option maxHeartbeats 800000 in
theorem raw_walk (s p : ByteArray) (hs : s.size ≤ maxLen) (hp : p.size ≤ maxLen) (w : World) (hv : Vars w) :
    Calls Ybad.prog 5 #[.string s, .string p] w fun e w' => e = .returned (.bool true) ∧ Below w.heap.size w w' := by
  by_cases hlt : (4096 : Int) < s.size
  · clear hv
    go_enter Ybad.func5, Ybad.ntmps5
    go_wp2
    go_ret
    exact ⟨rfl, Below.refl _ _⟩
  · by_cases hlp : (4096 : Int) < p.size
    · clear hv
      go_enter Ybad.func5, Ybad.ntmps5
      go_wp2
      go_ret
      exact ⟨rfl, Below.refl _ _⟩
    · have hc := gen_any s p (by omega) w hv
      have hm := fun w => model_any s p hs hp w
      rcases hpg : pg s.data.toList p.data.toList with ⟨g, b⟩
      rw [hpg] at hc hm
      have HC := Lib.hid hc
      have HM := Lib.hid hm
      clear hc hm hpg hv
      go_enter Ybad.func5, Ybad.ntmps5
      go_wp2_with (first
        | (go_at_call 6; refine HC.out.mono ?_; rintro e w1 ⟨rfl, hb1⟩)
        | (go_at_call 8; refine (HM.out _).mono ?_; rintro e w2 ⟨rfl, n, rfl⟩))
      go_ret
      exact ⟨rfl, below_drewN hb1 n⟩
end Go.Proofs.YbulkbbuwDoor
