/-
  journal.LawS2648ABuilt (4): the walk. The bytes that the loop gathers are SOME bytes: nothing more is wanted of them.
-/
import Derived.Test.YbulkbbuwDoorLaws
namespace Go.Proofs.YbulkbbuwDoor
open Go.Shelf Go.RowKit

theorem info5 : (Ybad.prog.info? 5).map (fun i => (i.zero, i.size, i.bytes)) = some (some (.int .u8 0), 1, 1) := by kernel_rfl

/-- bytes as cells. -/
abbrev bcells (bs : List UInt8) : List Value := bs.map fun b => Value.int .u8 (b.toNat : Int)

set_option maxHeartbeats 1600000 in
theorem built_walk (w : World) (p : ByteArray) (hp : p.size ≤ maxLen) (a0 : Option Addr) (len cap : Nat)
    (hrow : ∀ k, k < len → ∃ b off z, a0 = some ⟨b, off, none⟩ ∧ b < w.heap.size ∧ len ≤ cap ∧ w.cell? ⟨b, off + k, none⟩ = some (.int .u8 z) ∧ 0 ≤ z ∧ z ≤ 255) (hv : Vars w) :
    Calls Ybad.prog 4 #[.string p, .slice a0 len cap] w fun e w' => e = .returned (.bool true) ∧ Below w.heap.size w w' := by
  by_cases hlt : (4096 : Int) < p.size
  · clear hv hrow
    go_enter Ybad.func4, Ybad.ntmps4
    go_wp2
    go_ret
    exact ⟨rfl, Below.refl _ _⟩
  · by_cases hll : (4096 : Int) < len
    · clear hv hrow
      go_enter Ybad.func4, Ybad.ntmps4
      go_wp2
      go_ret
      exact ⟨rfl, Below.refl _ _⟩
    · obtain ⟨i0, hi, hz0, hz1, hz2⟩ := info_parts info5
      have HV := Lib.hid hv
      have HR := Lib.hid hrow
      clear hv hrow
      go_enter Ybad.func4, Ybad.ntmps4
      go_wp2_with (at_make; refine wpList_make_own _ rfl _ _ 27 rfl w.heap.size 5 i0 (.int .u8 0) 1 Ybad.underlying27 hi hz0 hz1 _ _ _ len rfl rfl rfl (by rw [hz2]; omega) (by unfold maxLen; omega) (Nat.le_refl _) ?_)
      intro w0 hown0 hgrow0
      go_wp2
      go_loopw [5, 26] (fun out si wr => ∃ (k : Nat) (bs : List UInt8), k ≤ len ∧ si = .int .i64 k ∧ bs.length = k ∧ out = .slice (some ⟨w.heap.size, 0, none⟩) k len ∧
          wr.ownsRow w.heap.size 5 1 (.slice (some ⟨w.heap.size, 0, none⟩) k len) k (bcells bs) ∧ Below w.heap.size w wr) (fun _ si _ => len - (intOf si).toNat)
      case atStart => exact ⟨0, [], Nat.zero_le _, rfl, rfl, rfl, hown0, (Below.refl _ _).grown hgrow0 (Nat.le_refl _) (fun k h => by cases h)⟩
      case round =>
        obtain ⟨k, bs, hk, rfl, hbl, rfl, hown, hnx⟩ := hrel
        by_cases hkl : k < len
        · obtain ⟨b, off, z, rfl, hxb, hlc, hcz, hz⟩ := HR.out k hkl
          have hck : wr.cell? ⟨b, off + k, none⟩ = some (.int .u8 z) := (hnx.cell (by exact hxb)).trans hcz
          clear hcz
          have hm1 : 0 ≤ z % 11 := by omega
          have hm2 : z % 11 < 11 := by omega
          go_wp2_with (at_builtin; refine wpList_append_fits _ rfl (.tmp 30) (.tmp 35) 27 rfl w.heap.size 5 i0 1 Ybad.underlying27 hi hz1 w.heap.size k len _ rfl (hown.alloc _) ⟨wr.heap.size, 0, none⟩ 1 1 [.int .u8 ((({ data := #[48, 49, 50, 51, 52, 53, 54, 55, 56, 57, 120] } : ByteArray)[(z % 11).toNat]'(by show (z % 11).toNat < 11; omega)).toNat : Int)] rfl rfl (by intro t u ht; match t, ht with | 0, ht => simp at ht; subst ht; simp [Addr.add]) (by intro u hu; simp at hu; subst hu; rfl) (by omega) ?_; intro w1 hown1 hgrow1)
          go_roundw
          case rel => exact ⟨k + 1, bs ++ [_], by omega, by go_num, by simp [hbl], rfl, by simpa [bcells] using hown1, (hnx.alloc hnx.size _).grown hgrow1 (by simp; have := hnx.size; omega) (fun k hk => by cases hk; exact Nat.le_refl _)⟩
          case measure => simp [intOf]; omega
        · obtain rfl : k = len := by omega
          have hcv : (convert 27 9 (.slice (some ⟨w.heap.size, 0, none⟩) k k)).run Ybad.prog wr = .ok (.string ⟨bs.toArray⟩) wr := by
            have h := run_convert_bytes_back (P := Ybad.prog) wr 27 9 5 ⟨w.heap.size, 0, none⟩ k bs Ybad.underlying27 Ybad.underlying5 Ybad.underlying9 (fun j hj => hown.cells rfl j _ (by simp [bcells, hj]))
            rw [hbl] at h
            exact h
          have hvr := HV.out.on hnx
          have hsz : (p ++ (⟨bs.toArray⟩ : ByteArray)).size = p.size + bs.length := by rw [ByteArray.size_append]; rfl
          have hc := gen_any (p ++ (⟨bs.toArray⟩ : ByteArray)) p (by omega) wr hvr
          have hm := fun w => model_any (p ++ (⟨bs.toArray⟩ : ByteArray)) p (by unfold maxLen; omega) hp w
          rcases hpg : pg (p ++ (⟨bs.toArray⟩ : ByteArray)).data.toList p.data.toList with ⟨g, b⟩
          rw [hpg] at hc hm
          have HG := Lib.hid hc
          have HM := Lib.hid hm
          have hbs : bs.length ≤ 4096 := by omega
          clear hown0 hgrow0 hc hm hpg hvr hown hsz hbl
          go_wp2_with (first
            | (go_at_call 6; refine HG.out.mono ?_; rintro e w1 ⟨rfl, hb1⟩)
            | (go_at_call 8; refine (HM.out _).mono ?_; rintro e w2 ⟨rfl, n, rfl⟩))
          go_ret
          exact ⟨rfl, below_drewN (hnx.trans (hb1.mono hnx.size)) n⟩
end Go.Proofs.YbulkbbuwDoor
