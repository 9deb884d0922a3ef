/-
  LawS2649CSpan: the walk and the row. The row's step is the kit's shell for this function.
-/
import Derived.Test.YbulkbbvkRows
import Derived.Test.YbulkbbvkWalks
import Derived.Laws.OwnMore
import Derived.Laws.IdiomStrings
import Derived.WalkKit
import Derived.ProofKit
import Derived.OpenShut
import Derived.ShutString
import Derived.ChangeOld
import Derived.Below
namespace Go.Proofs.Ybulkbbvk.lawS2649CSpan
open Go.ChangeShapes Go.WideShapes Go.ChangeAt Go.RowKit
open Go.ChangeMaps (open_string shut_string)
set_option linter.unusedVariables false

theorem own : ownKnob Yba.prog.godebug = none := by kernel_rfl
theorem laidOut : laidOutB Yba.prog = true := by kernel_rfl

/-- WHAT THE WALK IS TOLD OF A SLICE OF INTEGERS THAT CAME IN: it is nil; or it leads to a row of 'cap' cells, the numbers 'zs' (the first 'len' are its elements, the rest its spare room), each fitting its kind. -/
def IsRow (k : IntKind) (w : World) (a : Option Addr) (len cap : Nat) (zs : List Int) : Prop :=
  (a = none ∧ len = 0 ∧ cap = 0 ∧ zs = []) ∨
  ∃ x, a = some x ∧ len ≤ cap ∧ cap ≤ maxLen ∧ zs.length = cap ∧ (∀ i, i < zs.length → w.cell? (x.add i) = some (.int k (zs.getD i 0))) ∧ ∀ n ∈ zs, (Lit.int k n).wf = true

theorem info5 : (Yba.prog.info? 5).map (fun i => (i.zero, i.size, i.bytes)) = some (some (.int .u8 0), 1, 1) := by kernel_rfl

/-- bytes as cells. -/
abbrev bcells (bs : List UInt8) : List Value := bs.map fun b => Value.int .u8 (b.toNat : Int)

theorem made_bytes (n : Nat) : (madeCells #[Value.int .u8 0] n).toList = bcells (List.replicate n 0) := by
  apply List.ext_getElem?
  intro i
  by_cases h : i < n
  · simp [madeCells, bcells, h, Nat.mod_one]
  · simp [madeCells, bcells, h]

theorem bcells_set (bs : List UInt8) (k : Nat) (c : UInt8) : (bcells bs).set k (.int .u8 (c.toNat : Int)) = bcells (bs.set k c) := by
  simp [bcells, List.map_set]

/-- what the walk asks of the slice that came in. -/
def Row8 (w : World) (a0 : Option Addr) (len cap : Nat) : Prop :=
  ∀ k, k < len → ∃ b off z, a0 = some ⟨b, off, none⟩ ∧ b < w.heap.size ∧ len ≤ cap ∧ w.cell? ⟨b, off + k, none⟩ = some (.int .u8 z) ∧ 0 ≤ z ∧ z ≤ 255

theorem row8_of {w : World} {a0 : Option Addr} {len cap : Nat} {zs : List Int} (h : IsRow .u8 w a0 len cap zs) : Row8 w a0 len cap := by
  intro k hk
  rcases h with ⟨_, hl, _, _⟩ | ⟨x, rfl, hl, _, hz, hcell, hwf⟩
  · omega
  · obtain ⟨b, off, rfl, hc⟩ := ints_at hcell (by omega)
    have hck := hc k (by omega)
    exact ⟨b, off, zs.getD k 0, rfl, World.block_lt_of_cell? _ _ hck, hl, hck, bounds_u8 (hwf _ (by simp [List.getD, show k < zs.length from by omega]))⟩

set_option maxHeartbeats 1600000 in
theorem walk8 (a0 : Option Addr) (len cap : Nat) (a1 : Int) (w : World) (hrow : Row8 w a0 len cap) (w1 : (Lit.int .u64 a1).wf = true) :
    Calls Yba.prog 3 #[.slice a0 len cap, .int .u64 a1] w fun e w' => e = .returned (.bool true) ∧ Below w.heap.size w w' := by
  have b1 := bounds_u64 w1
  by_cases hll : (1024 : Int) < len
  · clear hrow
    go_enter Yba.func3, Yba.ntmps3
    go_wp2
    go_ret
    exact ⟨rfl, Below.refl _ _⟩
  · obtain ⟨i0, hi, hz0, hz1, hz2⟩ := info_parts info5
    clear w1
    go_enter Yba.func3, Yba.ntmps3
    go_wp2_with (at_make; refine wpList_make_full _ rfl _ _ 22 rfl w.heap.size 5 i0 (.int .u8 0) 1 Yba.underlying22 hi hz0 hz1 _ _ _ _ len rfl rfl rfl rfl (by rw [hz2]; omega) (by unfold maxLen; omega) (Nat.le_refl _) ?_)
    intro w0 hown0 hgrow0
    rw [made_bytes] at hown0
    go_wp2
    go_loopw [21] (fun si wr => ∃ (k : Nat) (bs : List UInt8), k ≤ len ∧ si = .int .i64 k ∧ bs.length = len ∧
        wr.ownsRow w.heap.size 5 1 (.slice (some ⟨w.heap.size, 0, none⟩) len len) len (bcells bs) ∧ Below w.heap.size w wr) (fun si _ => len - (intOf si).toNat)
    case atStart => exact ⟨0, List.replicate len 0, Nat.zero_le _, rfl, by simp, hown0, (Below.refl _ _).grown hgrow0 (Nat.le_refl _) (fun k h => by cases h)⟩
    case round =>
      obtain ⟨k, bs, hk, rfl, hbl, hown, hnx⟩ := hrel
      by_cases hkl : k < len
      · obtain ⟨b, off, z, rfl, hxb, hlc, hcz, hz⟩ := hrow k hkl
        have hck : wr.cell? ⟨b, off + k, none⟩ = some (.int .u8 z) := (hnx.cell (by exact hxb)).trans hcz
        have hold : wr.cell? ⟨w.heap.size, k, none⟩ = some (.int .u8 ((bs[k]'(by omega)).toNat : Int)) := by rw [hown.cellAt k (by omega)]; simp [bcells, hbl, hkl]
        have hfz := hown.frozenAt k
        have hm1 : 0 ≤ z % 14 := by omega
        have hm2 : z % 14 < 14 := by omega
        clear hcz
        go_wp2
        have hst := (hown.stored k (.int .u8 ((({ data := #[48, 49, 50, 51, 52, 53, 54, 55, 56, 57, 97, 46, 32, 57] } : ByteArray)[(z % 14).toNat]'(by show (z % 14).toNat < 14; omega)).toNat : Int))).1
        rw [bcells_set] at hst
        exact ⟨⟨k + 1, _, by omega, by go_num, by rw [List.length_set]; exact hbl, hst, hnx.setCell (Nat.le_refl _) _⟩, by simp [intOf]; omega⟩
      · obtain rfl : k = len := by omega
        have hcv : (convert 22 9 (.slice (some ⟨w.heap.size, 0, none⟩) k k)).run Yba.prog wr = .ok (.string ⟨bs.toArray⟩) wr := by
          have h := run_convert_bytes_back (P := Yba.prog) wr 22 9 5 ⟨w.heap.size, 0, none⟩ k bs Yba.underlying22 Yba.underlying5 Yba.underlying9 (fun j hj => hown.cells rfl j _ (by simp [bcells, hj]))
          rw [hbl] at h
          exact h
        have hsz : (⟨bs.toArray⟩ : ByteArray).size = k := by rw [← hbl]; rfl
        obtain ⟨s, hs⟩ : ∃ s : ByteArray, s = ⟨bs.toArray⟩ := ⟨_, rfl⟩
        rw [← hs] at hcv hsz
        have hs1 : 0 ≤ a1 % ((s.size : Int) + 1) := Int.emod_nonneg _ (by omega)
        have hs2 : a1 % ((s.size : Int) + 1) < (s.size : Int) + 1 := Int.emod_lt_of_pos _ (by omega)
        have hs3 : s.size ≤ 1024 := by omega
        clear hs hsz hown hown0 hgrow0 hrow hbl
        go_wp2_with fail
        refine (end_any s _ (by omega) (by omega) _).mono ?_
        rintro e w2 ⟨r, rfl, rfl, hE⟩
        obtain ⟨n, hn⟩ : ∃ n : Nat, a1 % ((s.size : Int) + 1) = n := ⟨_, (Int.toNat_of_nonneg hs1).symm⟩
        rw [hn] at hs1 hs2 hE ⊢
        rw [Int.toNat_natCast] at hE
        clear hn
        have hge := hE.ge
        have hle : r ≤ s.size := by have := hE.le; omega
        have hb1 : decide (r < n) = false := by simp; omega
        have hb2 : decide (s.size < r) = false := by simp; omega
        clear hcv
        go_wp2
        go_loop [12] (fun i => ∃ k : Nat, i = .int .i64 k ∧ n ≤ k ∧ k ≤ r) (fun i => r - (intOf i).toNat)
        case atStart => exact ⟨n, rfl, Nat.le_refl _, hge⟩
        case round =>
          obtain ⟨k, rfl, hk1, hk2⟩ := hrel
          by_cases hkr : k < r
          · have hks : k < s.size := by omega
            have hd := hE.all k hk1 hkr hks
            have HD : Hid (digB (s[k].toNat : Int) = true) := hd
            clear hd
            go_wp2_with (go_at_call 6; refine (zdigit_any _ _).mono ?_; rw [HD.out]; rintro e w' ⟨rfl, rfl⟩)
            go_round
            case rel => exact ⟨k + 1, by go_num, by omega, by omega⟩
            case measure => simp [intOf]; omega
          · by_cases hrs : r < s.size
            · have HD : Hid (digB (s[r].toNat : Int) = false) := hE.stop hrs
              go_wp2_with (go_at_call 6; refine (zdigit_any _ _).mono ?_; rw [HD.out]; rintro e w' ⟨rfl, rfl⟩)
              go_ret
              exact ⟨rfl, hnx⟩
            · go_wp2_with fail
              go_ret
              exact ⟨rfl, hnx⟩

/-! ### THE ROW's STEP: WRITTEN OUT: LEAVE IT -/
set_option maxRecDepth 100000 in
theorem lifted (os : Os) (started : os.Started) (H : Type) (enc : TypeId × Value → H) :
    ReturnsInHanded {} Yba.checked os 3 .any (Rows.lawS2649CSpanSpec.pre6 enc Yba.prog Yba.f3 Rows.lawS2649CSpanRow.domain false) (Rows.lawS2649CSpanSpec.post enc Yba.prog Yba.f3 false true false false) := by
  refine returnsInHanded_of_change (C := Yba.checked) own started (by kernel_rfl) Yba.func3
    (ChangeSpec.witness6 (enc := enc) (C := Yba.checked) false ⟨#[], #[.slice none 0 0, .int .u64 0], []⟩ 8 (by kernel_rfl) (by kernel_rfl) (by kernel_rfl) (by kernel_rfl)) ?_
  intro W base args ds gs before hval0 hW hcnd _
  have hval : ∀ (j : Nat) t v, Yba.f3.params[j]? = some t → args[j]? = some v → Value.okWide Yba.prog W .any base t v := hval0
  have hW' := hW
  obtain ⟨p, q, hA0, hV, rfl, hfz, hnd⟩ := hW
  have hA : DataW.TrodAll enc Yba.prog W 0 (fun _ => true) true Yba.f3.params.toList args.toList ds p := hA0
  rw [Yba.params3] at hA hval
  obtain ⟨v0, vs0, d0, ds0, p0, q0, hargs, rfl, rfl, h0, r0⟩ := trodAll_cons hA
  obtain ⟨v1, vs1, d1, ds1, p1, q1, rfl, rfl, rfl, h1, r1⟩ := trodAll_cons r0
  obtain ⟨rfl, rfl, rfl⟩ := trodAll_nil r1
  obtain rfl : args = #[v0, v1] := by cases args; simp_all
  obtain ⟨rfl, rfl⟩ := trodVars_none hV
  obtain ⟨a0, len0, cap0, rfl⟩ := okWide_slice Yba.underlying22 (hval 0 22 v0 rfl rfl)
  have k0 := h0
  have lt0 : ∀ x ∈ p0, x.block < W.heap.size := by obtain ⟨m, hm⟩ := k0; exact DataW.trod_lt m _ _ _ hm
  obtain ⟨z0, w0⟩ : ∃ zs, IsRow .u8 W a0 len0 cap0 zs := by
    obtain ⟨fuel, hf⟩ := h0
    rcases open_ints Yba.underlying22 Yba.underlying5 (by kernel_rfl) hf with ⟨hcs, _⟩ | ⟨x, l, c, zs, hcs, _, hl, hm, hz, _, hcell, hwz⟩
    · simp [Value.cells] at hcs
      obtain ⟨rfl, rfl, rfl⟩ := hcs
      exact ⟨[], .inl ⟨rfl, rfl, rfl, rfl⟩⟩
    · simp [Value.cells] at hcs
      obtain ⟨rfl, rfl, rfl⟩ := hcs
      exact ⟨zs, .inr ⟨_, rfl, hl, hm, by simpa using hz, hcell, hwz⟩⟩
  obtain ⟨a1, rfl, rfl, rfl, w1⟩ := open_int Yba.underlying23 (hval 1 23 v1 rfl rfl) h1
  clear hA0 hval0
  refine (walk8 a0 len0 cap0 a1 W (row8_of w0) w1).mono fun e W' ⟨he, bel⟩ => ?_
  subst he
  exact ⟨_, rfl, _, _, _, [], _, [], hW', trodAll_mk1 (shut_bool Yba.underlying4 _), (trodAll_cons_mk (Below.trod laidOut (by kernel_rfl) (of_decide_eq_true (by kernel_rfl)) k0 bel lt0) (trodAll_cons_mk (shut_int Yba.underlying23 w1) trodAll_mk0)), rfl, bel.frame _, fun h => by cases h⟩

theorem over : Rows.lawS2649CSpanRow.holds Yba.pinned (OpenSpec.ofChange Rows.lawS2649CSpanSpec) :=
  OpenClaim.holds_of_wide 3 Yba.f3 rfl rfl rfl rfl rfl rfl rfl ⟨rfl, rfl, rfl, rfl, rfl⟩ rfl rfl rfl rfl rfl (by kernel_rfl) Yba.func3 (by kernel_rfl)
    (of_decide_eq_true (by kernel_rfl)) (by unfold Func.isWrapper; first | (rw [if_pos (by decide +kernel)]; kernel_rfl) | (rw [if_neg (by decide +kernel)]; exact ⟨rfl, rfl⟩))
    (fun os started H enc _ => lifted os started H enc)

/-- ████ THE STATEMENT ████ -/
theorem proved : Rows.LawS2649CSpanSaid := over
#print axioms proved
end Go.Proofs.Ybulkbbvk.lawS2649CSpan
