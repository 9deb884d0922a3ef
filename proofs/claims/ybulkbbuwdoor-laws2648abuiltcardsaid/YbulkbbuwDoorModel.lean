/-
  journal.zzs2648amodel (8): the plain model of parseGen, walked.
-/
import Derived.Test.YbulkbbuwDoorGen
import Derived.Deep.QuietTactic
import Derived.BigQuiet
namespace Go.Proofs.YbulkbbuwDoor
open Go.Shelf Go.RowKit Go.Sort

theorem ext_take (s p : ByteArray) : (s.extract 0 p.size).data.toList = s.data.toList.take p.size := by simp
theorem ext_drop (s p : ByteArray) : (s.extract p.size s.size).data.toList = s.data.toList.drop p.size := by
  simp
  rw [List.take_of_length_le]
  rw [List.length_drop]
  exact Nat.le_refl _

theorem pre_iff (s p : ByteArray) : ((s.extract 0 p.size).toList == p.toList) = Lib.hasPrefix s.data.toList p.data.toList := by
  rw [Bool.eq_iff_iff, beq_iff_eq, ByteArray.toList_eq, ByteArray.toList_eq, ext_take, Lib.hasPrefix, List.isPrefixOf_iff_prefix, List.prefix_iff_eq_take]
  exact eq_comm

theorem pg_pre (s p : ByteArray) (h : ((s.extract 0 p.size).toList == p.toList) = true) : pg s.data.toList p.data.toList = Plain.mdd (s.extract p.size s.size).data.toList := by
  rw [pre_iff] at h
  unfold pg Lib.trimPrefix
  rw [if_pos h, if_pos h, Plain.pgd_eq_mdd, ext_drop]
  rfl

theorem pg_not (s p : ByteArray) (h : ((s.extract 0 p.size).toList == p.toList) = false) : pg s.data.toList p.data.toList = (0, false) := by
  rw [pre_iff] at h
  unfold pg
  rw [if_neg (by rw [h]; exact Bool.false_ne_true)]

theorem pg_short (s p : ByteArray) (h : s.size < p.size) : pg s.data.toList p.data.toList = (0, false) := by
  apply pg_not
  rw [pre_iff, Lib.hasPrefix, Bool.eq_false_iff]
  intro hh
  have := (List.isPrefixOf_iff_prefix.1 hh).length_le
  have e1 : s.data.toList.length = s.size := rfl
  have e2 : p.data.toList.length = p.size := rfl
  omega

theorem ret_pair {a b : Int} {x y : Bool} (h : a = b) (h' : x = y) : Ending.returned (.tuple #[.int .u64 a, .bool x]) = .returned (.tuple #[.int .u64 b, .bool y]) := by rw [h, h']

set_option maxHeartbeats 800000 in
theorem model_any (s p : ByteArray) (hs : s.size ≤ maxLen) (hp : p.size ≤ maxLen) (w : World) :
    Calls Ybad.prog 8 #[.string s, .string p] w fun e w' => e = .returned (.tuple #[.int .u64 ((pg s.data.toList p.data.toList).1 : Nat), .bool (pg s.data.toList p.data.toList).2]) ∧ ∃ n, w' = w.drewN n := by
  unfold maxLen at hs hp
  by_cases hlt : s.size < p.size
  · rw [pg_short s p hlt]
    go_enter Ybad.func8, Ybad.ntmps8
    go_wp2
    go_ret2
    exact ⟨rfl, 0, rfl⟩
  · have hle : p.size ≤ s.size := by omega
    by_cases hpre : ((s.extract 0 p.size).toList == p.toList) = true
    · by_cases hz : s.size = p.size
      · have he : ((↑(s.size - p.size) : Int) == 0) = true := by rw [beq_iff_eq]; omega
        have hz0 : (s.extract p.size s.size).data.toList.length = 0 := by rw [ext_drop, List.length_drop]; have e1 : s.data.toList.length = s.size := rfl; omega
        rw [pg_pre s p hpre, Plain.mdd_nil _ hz0]
        clear hz0
        go_enter Ybad.func8, Ybad.ntmps8
        go_wp2
        go_ret2
        exact ⟨rfl, 0, rfl⟩
      · have he : ((↑(s.size - p.size) : Int) == 0) = false := by rw [beq_eq_false_iff_ne]; omega
        rw [pg_pre s p hpre]
        rcases hmm : Plain.mdd (s.extract p.size s.size).data.toList with ⟨g, b⟩
        have HM := Lib.hid hmm
        have hdz : (s.extract p.size s.size).size = s.size - p.size := by simp
        clear hmm
        go_enter Ybad.func8, Ybad.ntmps8
        go_wp2
        generalize s.extract p.size s.size = d at hdz HM ⊢
        have hdl : d.data.toList.length = d.size := rfl
        have hd0 : 0 < d.size := by omega
        have hdm : d.size ≤ 9223372036854775807 := by omega
        clear hpre hlt hle hz he hp hs hdz
        go_loop [7, 8] (fun v i => ∃ (k : Nat) (a : Int), i = .int .i64 k ∧ v = .int .u64 a ∧ k ≤ d.size ∧ 0 ≤ a ∧ a ≤ 18446744073709551615 ∧ Go.RowKit.Hid (Plain.Inv d.data.toList k a)) (fun _ i => d.size - (intOf i).toNat)
        case atStart => exact ⟨0, 0, rfl, rfl, Nat.zero_le _, by omega, by omega, Lib.hid (Plain.inv_start _)⟩
        case round =>
          obtain ⟨k, a, rfl, rfl, hk, ha0, ha1, HI⟩ := hrel
          by_cases hkd : k < d.size
          · by_cases hc1 : (d[k].toNat : Int) < 48
            · go_wp2
              go_ret2
              have hr := Plain.mdd_bad d.data.toList k a (by omega) HI.out (Or.inl hc1)
              rw [HM.out] at hr
              injection hr with e1 e2
              subst e1 e2
              exact ⟨rfl, 0, rfl⟩
            · by_cases hc2 : 57 < (d[k].toNat : Int)
              · go_wp2
                go_ret2
                have hr := Plain.mdd_bad d.data.toList k a (by omega) HI.out (Or.inr hc2)
                rw [HM.out] at hr
                injection hr with e1 e2
                subst e1 e2
                exact ⟨rfl, 0, rfl⟩
              · have hd1 : 48 ≤ (d[k].toNat : Int) := by omega
                have hd2 : (d[k].toNat : Int) ≤ 57 := by omega
                by_cases hov : (18446744073709551615 - ((d[k].toNat : Int) - 48)) / 10 < a
                · go_wp2
                  go_ret2
                  have hr := Plain.mdd_over d.data.toList k a (by omega) HI.out ha0 hd1 hd2 hov
                  rw [HM.out] at hr
                  injection hr with e1 e2
                  refine ⟨?_, 0, rfl⟩
                  rw [e1, e2, big_cast]
                  rfl
                · go_wp2
                  exact ⟨⟨k + 1, _, by go_num, rfl, by omega, by omega, by omega, Lib.hid (Plain.inv_step d.data.toList k a (by omega) HI.out ha0 hd1 hd2 hov)⟩, by simp [intOf]; omega⟩
          · have hkk : k = d.size := by omega
            have hr := Plain.mdd_end d.data.toList k a (by omega) (by omega) HI.out
            rw [HM.out] at hr
            injection hr with e1 e2
            have hga : (g : Int) = a := by omega
            have E2 := Lib.hid e2
            clear e1 e2
            by_cases h1 : d.size = 1
            · have hb1 : ((d.size : Int) == 1) = true := by rw [beq_iff_eq]; omega
              go_wp2
              go_quiet (fail)
              go_wp2
              go_ret2
              exact ⟨ret_pair hga.symm (by rw [E2.out, Plain.canon_one _ (by omega)]), _, rfl⟩
            · have hb1 : ((d.size : Int) == 1) = false := by rw [beq_eq_false_iff_ne]; omega
              go_wp2
              go_quiet (fail)
              go_wp2
              go_ret2
              exact ⟨ret_pair hga.symm (by rw [E2.out, Plain.canon_more _ (by omega)]; rfl), _, rfl⟩
    · have hpf : ((s.extract 0 p.size).toList == p.toList) = false := by simpa using hpre
      rw [pg_not s p hpf]
      clear hpre
      go_enter Ybad.func8, Ybad.ntmps8
      go_wp2
      go_ret2
      exact ⟨rfl, 0, rfl⟩
end Go.Proofs.YbulkbbuwDoor
