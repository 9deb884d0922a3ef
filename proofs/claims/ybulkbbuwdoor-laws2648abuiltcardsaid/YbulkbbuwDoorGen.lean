/-
  strconv.ParseUint(l, 10, 64) (10) by the kit's contracts, joined in two; journal.parseGen (6).
-/
import Derived.Test.YbulkbbuwDoorFmt
import Derived.Test.YbulkbbuwDoorPlain
import Derived.Lib.AppendIntMem
import Derived.Lib.AtoiErrMem
namespace Go.Proofs.YbulkbbuwDoor
open Go.Shelf Go.RowKit Go.Sort Go.Lib

/-- what the five listed variables give the road: the table of powers of ten, and two interface values. -/
structure Vars (w : World) : Prop where
  tab : Lib.TabIs Ybad.prog w powName .u64 Lib.pow10Tab
  syn : ∃ tp p, w.var? Ybad.prog "strconv.ErrSyntax" = some #[.iface tp p]
  ran : ∃ tp p, w.var? Ybad.prog "strconv.ErrRange" = some #[.iface tp p]

theorem big_cast : ((18446744073709551615 : Nat) : Int) = 18446744073709551615 := by omega

theorem parse_bad (s : ByteArray) (hlim : s.size ≤ 281474976710656) (hno : ∀ u, Lib.parseUintB 64 s.data.toList ≠ .ok u) (b : Nat → Bool) (w : World) (hv : Vars w) :
    Calls Ybad.prog 10 #[.string s, .int .i64 10, .int .i64 64] w fun e w' => ∃ N, e = .returned (.tuple #[.int .u64 ((Plain.pairOf b (Lib.parseUintB 64 s.data.toList)).1 : Nat), .iface 47 (.pointer (some ⟨N, 0, none⟩))]) ∧ Below w.heap.size w w' := by
  obtain ⟨ts, ps, hs⟩ := hv.syn
  obtain ⟨tr, pr, hr⟩ := hv.ran
  cases h : Lib.parseUintB 64 s.data.toList
  · exact absurd h (hno _)
  · refine (Any.strconv_ParseUint_10_at64_syntax_var Ybad.laysPu14 s hlim h ts ps w hs).mono ?_
    rintro e w' ⟨N, rfl, -, -, hb⟩
    exact ⟨N, rfl, hb⟩
  · refine (Any.strconv_ParseUint_10_at64_range_var Ybad.laysPu14 s hlim h tr pr w hr).mono ?_
    rintro e w' ⟨N, rfl, -, -, hb⟩
    refine ⟨N, ?_, hb⟩
    simp only [Plain.pairOf, big_cast]
    rfl

theorem bad_flag (l : List UInt8) (hno : ∀ u, Lib.parseUintB 64 l ≠ .ok u) (b : Nat → Bool) : (Plain.pairOf b (Lib.parseUintB 64 l)).2 = false := by
  cases h : Lib.parseUintB 64 l
  · exact absurd h (hno _)
  · rfl
  · rfl

/-- what parseGen computes. -/
def pg (s p : List UInt8) : Nat × Bool := if Lib.hasPrefix s p then Plain.pgd (Lib.trimPrefix s p) else (0, false)

theorem trim_le (s p : List UInt8) : (Lib.trimPrefix s p).length ≤ s.length := by
  unfold Lib.trimPrefix
  split
  · rw [List.length_drop]; omega
  · exact Nat.le_refl _

set_option maxHeartbeats 800000 in
theorem gen_any (s p : ByteArray) (hlim : s.size ≤ 281474976710656) (w : World) (hv : Vars w) :
    Calls Ybad.prog 6 #[.string s, .string p] w fun e w' => e = .returned (.tuple #[.int .u64 ((pg s.data.toList p.data.toList).1 : Nat), .bool (pg s.data.toList p.data.toList).2]) ∧ Below w.heap.size w w' := by
  by_cases hp : Lib.hasPrefix s.data.toList p.data.toList = true
  · have hpg : pg s.data.toList p.data.toList = Plain.pgd (Lib.trimPrefix s.data.toList p.data.toList) := by unfold pg; rw [if_pos hp]
    rw [hpg]
    have hle : (Lib.trimPrefix s.data.toList p.data.toList).length ≤ 281474976710656 := Nat.le_trans (trim_le _ _) hlim
    clear hpg
    generalize hl : Lib.trimPrefix s.data.toList p.data.toList = l at hle ⊢
    have HP := Lib.hid hp; have HL := Lib.hid hl; clear hp hl
    by_cases hok : ∃ u, Lib.parseUintB 64 l = .ok u
    · obtain ⟨u, hu⟩ := hok
      have hule : u ≤ 18446744073709551615 := Lib.parseUintB_le hu
      have htab := hv.tab
      have hpd : Plain.pgd l = (u, Lib.decDigits u == l) := by unfold Plain.pgd; rw [hu]; rfl
      rw [hpd]
      have HU := Lib.hid hu; clear hu hpd
      have hT := Lib.tabBelow_of_tabIs htab
      clear htab hv
      have HT := Lib.hid hT; clear hT
      go_enter Ybad.func6, Ybad.ntmps6
      go_wp2_with (go_at_call 9; refine (Ybad.strings_CutPrefix s p _).mono ?_; rw [HP.out, HL.out]; rintro e w' ⟨rfl, rfl⟩)
      refine (Ybad.strconv_ParseUint_10_at64_ok ⟨l.toArray⟩ (by simpa [ByteArray.size] using (by omega : l.length ≤ 9223372036854775806)) u (by simpa using HU.out) _).mono ?_
      rintro e w1 ⟨rfl, hw1⟩
      have hb1 : Below w'.heap.size w' w1 := by
        rcases hw1 with rfl | rfl
        · exact Below.refl _ _
        · exact Lib.bytesWorld_below _ _ _
      clear hw1
      go_wp2_with (go_at_call 7; refine (fmt_any u (by omega) _ (HT.out _ hb1)).mono ?_; rintro e w2 ⟨rfl, k, os, rfl⟩)
      go_ret2
      exact ⟨rfl, hb1.trans (Lib.below_grow _ _ hb1.size k os)⟩
    · have hno : ∀ u, Lib.parseUintB 64 l ≠ .ok u := fun u h => hok ⟨u, h⟩
      have hfl : (Plain.pgd l).2 = false := bad_flag l hno _
      have hbad := parse_bad ⟨l.toArray⟩ (by simpa [ByteArray.size] using hle) (by simpa using hno) (fun u => Lib.decDigits u == l) w hv
      have hpe : (Plain.pairOf (fun u => Lib.decDigits u == l) (Lib.parseUintB 64 (⟨l.toArray⟩ : ByteArray).data.toList)) = Plain.pgd l := by simp [Plain.pgd]
      rw [hpe] at hbad
      rw [hfl]
      generalize (Plain.pgd l).1 = g at hbad ⊢
      have HB := Lib.hid hbad
      clear hbad hpe hfl hno hok hv
      go_enter Ybad.func6, Ybad.ntmps6
      go_wp2_with (go_at_call 9; refine (Ybad.strings_CutPrefix s p _).mono ?_; rw [HP.out, HL.out]; rintro e w' ⟨rfl, rfl⟩)
      refine HB.out.mono ?_
      rintro e w1 ⟨N, rfl, hb1⟩
      go_wp2
      go_ret2
      exact ⟨rfl, hb1⟩
  · have hp' : Lib.hasPrefix s.data.toList p.data.toList = false := by simpa using hp
    have hpg : pg s.data.toList p.data.toList = (0, false) := by unfold pg; rw [if_neg hp]
    rw [hpg]
    have HP := Lib.hid hp'
    clear hp hp' hpg hv
    go_enter Ybad.func6, Ybad.ntmps6
    go_wp2_with (go_at_call 9; refine (Ybad.strings_CutPrefix s p _).mono ?_; rw [HP.out]; rintro e w' ⟨rfl, rfl⟩)
    go_ret2
    exact ⟨rfl, Below.refl _ _⟩
end Go.Proofs.YbulkbbuwDoor
