/-
  LawS2655CMatchesStack (3): the walk.
-/
import Derived.Test.YbulkbbyqInv
namespace Go.Proofs.Ybulkbbyq
open Go.ChangeShapes Go.WideShapes Go.ChangeAt Go.RowKit Plain

/-- the steps that came in. -/
def Steps (w : World) (ap : Option Addr) (len : Nat) : Prop := ∀ k, k < len → ∃ (b off op A C : Nat), ap = some ⟨b, off, none⟩ ∧ b < w.heap.size ∧ op < 256 ∧ A < 65536 ∧ C < 65536 ∧
  w.cell? ⟨b, off + k * 3, none⟩ = some (.int .u8 op) ∧ w.cell? ⟨b, off + k * 3 + 1, none⟩ = some (.int .u16 A) ∧ w.cell? ⟨b, off + k * 3 + 2, none⟩ = some (.int .u16 C)

theorem info4 : (Yba.prog.info? 4).map (fun i => (i.zero, i.size, i.bytes)) = some (some (.bool false), 1, 1) := by kernel_rfl

theorem push_any (w : World) (S : Nat) (B : Nat) (L : Int) (bs : Nat) (os : List Opd) (n : Nat) (No : Nat → Prop) (h : St w S B L bs os n No) (hB : B ≤ w.heap.size) (hL : 1 ≤ L ∧ L ≤ 16) (imm : Bool) (kk slot : Int) (hs0 : -1 ≤ slot) (hn : n ≤ 3000) (hb : bs + os.length ≤ 3000) (hNo : ∀ g, No g → g < w.heap.size) :
    Calls Yba.prog 4 #[.pointer (some ⟨S, 0, none⟩), .agg #[.bool imm, .int .i32 kk, .int .i32 slot]] w fun e w' => e = .returned (.tuple #[]) ∧ St w' S B L bs (os ++ [(imm, kk, slot)]) (n + 1) No ∧ Fr B S No w w' := by
  obtain ⟨vo, vm, h⟩ := h
  cases imm with
  | true => exact push_no w S vo vm B L bs os n No h hB true kk slot (.inl rfl) hb
  | false =>
    by_cases hsL : slot < L
    · exact push_loc w S vo vm B L bs os n No h hB kk slot hs0 hsL hL hn hb hNo
    · exact push_no w S vo vm B L bs os n No h hB false kk slot (.inr (by omega)) hb

theorem inv_push {w wr : World} {L : Int} {vi vs : Value} {bs : Nat} {os : List Opd} {o : Opd} {n : Nat} (h : Inv w wr L vi vs bs (os ++ [o]) n (bs + os.length + 1) (imOf bs os ++ [o.1]) (slOf L bs os ++ [o.2.2])) : Inv w wr L vi vs bs (os ++ [o]) n (bs + (os ++ [o]).length) (imOf bs (os ++ [o])) (slOf L bs (os ++ [o])) := by
  rw [im_push, sl_push, List.length_append]
  exact h

theorem mod_succ (A K : Nat) : (A : Int) % ((K : Int) + 1) = ((A % (K + 1) : Nat) : Int) := by simp
theorem mod_nat (A K : Nat) : (A : Int) % (K : Int) = ((A % K : Nat) : Int) := by simp
theorem cut_any (w : World) (S : Nat) (B : Nat) (L : Int) (bs : Nat) (os : List Opd) (n : Nat) (No : Nat → Prop) (h : St w S B L bs os n No) (hB : B ≤ w.heap.size) (d : Nat) (hd : d ≤ bs + os.length) (hb : bs + os.length ≤ 3000) :
    Calls Yba.prog 5 #[.pointer (some ⟨S, 0, none⟩), .int .i64 (d : Int)] w fun e w' => e = .returned (.tuple #[]) ∧ ∃ bs' os', St w' S B L bs' os' n No ∧ Fr B S No w w' ∧ bs' + os'.length = d ∧ imOf bs' os' = (imOf bs os).take d ∧ slOf L bs' os' = (slOf L bs os).take d := by
  obtain ⟨vo, vm, h⟩ := h
  by_cases hlt : d < bs
  · refine (cut_lo w S vo vm B L bs os n No h hB d hlt).mono ?_
    rintro e w' ⟨rfl, h1, h2⟩
    exact ⟨rfl, d, [], h1, h2, rfl, (im_cut_lo bs d os (by omega)).symm, (sl_cut_lo L bs d os (by omega)).symm⟩
  · have hc := cut_hi w S vo vm B L bs os n No h hB (d - bs) (by omega) hb
    rw [show bs + (d - bs) = d from by omega] at hc
    refine hc.mono ?_
    rintro e w' ⟨rfl, h1, h2⟩
    exact ⟨rfl, bs, _, h1, h2, by rw [List.length_take]; omega, (im_cut_hi bs d os (by omega)).symm, (sl_cut_hi L bs d os (by omega)).symm⟩

set_option maxRecDepth 100000 in
set_option maxHeartbeats 4000000 in
theorem law_walk (a0 : Nat) (ha : a0 < 256) (ap : Option Addr) (len cap : Nat) (w : World) (hrow : Steps w ap len) :
    Calls Yba.prog 3 #[.int .u8 a0, .slice ap len cap] w fun e w' => e = .returned (.bool true) ∧ Below w.heap.size w w' := by
  by_cases hlen : 1024 < len
  · go_enter Yba.func3, Yba.ntmps3
    go_wp2
    go_ret
    exact ⟨rfl, Below.refl _ _⟩
  · have hlf : decide ((1024 : Int) < (len : Int)) = false := by simp; omega
    go_enter Yba.func3, Yba.ntmps3
    go_wp2
    have hL : 1 ≤ (a0 : Int) % 16 + 1 ∧ (a0 : Int) % 16 + 1 ≤ 16 := by omega
    have hI0 : Inv w (w.alloc (.cells #[.int .i32 ((a0 : Int) % 16 + 1), .int .i64 0, .slice none 0 0, .map none] 27)) ((a0 : Int) % 16 + 1) (.slice none 0 0) (.slice none 0 0) 0 [] 0 0 [] [] :=
      ⟨⟨_, _, Nat.le_refl _, heap_alloc_new _ _, World.ownsRow_nil _ _ _ _, .inl ⟨rfl, ginv_none _⟩⟩, World.ownsRow_nil _ _ _ _, World.ownsRow_nil _ _ _ _, (Below.refl _ w).alloc (Nat.le_refl _) _⟩
    generalize (a0 : Int) % 16 + 1 = L at *
    obtain ⟨hL1, hL2⟩ := hL
    obtain ⟨i4, b4, z4, s4, y4⟩ := info_parts info4
    obtain ⟨i1, b1, z1, s1, y1⟩ := info_parts info21
    go_loopw [7, 8, 31] (fun vi vs si wr => ∃ (k bs : Nat) (os : List Opd) (n : Nat), k ≤ len ∧ si = .int .i64 k ∧ n ≤ k ∧ bs + os.length ≤ k + 7 ∧ Inv w wr L vi vs bs os n (bs + os.length) (imOf bs os) (slOf L bs os)) (fun _ _ si _ => len - (intOf si).toNat)
    case atStart => exact ⟨0, 0, [], 0, Nat.zero_le _, rfl, Nat.le_refl _, by simp, hI0⟩
    case round =>
      obtain ⟨k, bs, os, n, hk, rfl, hn, hd, hI⟩ := hrel
      generalize u7 = vi at *
      generalize u8 = vs at *
      clear hI0
      by_cases hkl : k < len
      · obtain ⟨b, off, op, A, C, rfl, hbl, hop, hA, hC, c0, c1, c2⟩ := hrow k hkl
        have e0 := (hI.bel.cell (p := ⟨b, off + k * 3, none⟩) hbl).trans c0
        have e1 := (hI.bel.cell (p := ⟨b, off + k * 3 + 1, none⟩) hbl).trans c1
        have e2 := (hI.bel.cell (p := ⟨b, off + k * 3 + 2, none⟩) hbl).trans c2
        clear c0 c1 c2
        have hIa := hI.alloc (.cells #[.int .u8 op, .int .u16 A, .int .u16 C] 32)
        rcases (by omega : op % 5 = 0 ∨ op % 5 = 1 ∨ op % 5 = 2 ∨ op % 5 = 3 ∨ op % 5 = 4) with h5 | h5 | h5 | h5 | h5
        · have h5' : (op : Int) % 5 = 0 := by omega
          have hm0 : 0 ≤ (A : Int) % (L + 3) := Int.emod_nonneg _ (by omega)
          have hm1 : (A : Int) % (L + 3) < L + 3 := Int.emod_lt_of_pos _ (by omega)
          go_wp2_with (first
            | (go_at_call 4; refine (push_any _ w.heap.size w.heap.size L bs os n (NoOf vs) hIa.st hIa.bel.size ⟨hL1, hL2⟩ _ _ _ (by omega) (by omega) (by omega) (fun g hg => lt_of_heap (rowBlk hIa.sl g hg).2.choose_spec)).mono ?_; rintro e w1 ⟨rfl, hst1, hF1⟩; have hIp := hIa.fr hst1 hF1)
            | (at_builtin; refine wpList_append_own_at _ rfl _ _ 28 rfl w.heap.size 4 i4 _ 1 1 Yba.underlying28 b4 z4 s4 y4 rfl (by decide) _ (bs + os.length) ((imOf bs os).map Value.bool) rfl (hIp.im.alloc _) _ 1 1 [_] rfl rfl (World.news_of_block (heap_alloc_new _ _)) (by simp [Value.oneCell']) (by unfold maxLen; omega) (by omega) (hIp.alloc _).bel.size ?_; intro vi1 w2 ho2 hg2 _ _; have hIA := (hIp.alloc _).flag hg2 ho2)
            | (at_builtin; refine wpList_append_own_at _ rfl _ _ 29 rfl w.heap.size 21 i1 _ 1 4 Yba.underlying29 b1 z1 s1 y1 rfl (by decide) _ (bs + os.length) ((slOf L bs os).map (Value.int .i32)) rfl (hIA.sl.alloc _) _ 1 1 [_] rfl rfl (World.news_of_block (heap_alloc_new _ _)) (by simp [Value.oneCell']) (by unfold maxLen; omega) (by omega) (hIA.alloc _).bel.size ?_; intro vs1 w3 ho3 hg3 _ ha3; have hI3 := (hIA.alloc _).slot hg3 ho3 ha3))
          go_roundw
          case rel =>
            refine ⟨k + 1, bs, _, n + 1, by omega, by go_num, by omega, ?_, inv_push hI3⟩
            rw [List.length_append]
            simp
            omega
          case measure => simp [intOf]; omega
        · have h5' : (op : Int) % 5 = 1 := by omega
          obtain ⟨ai, ci, rfl, hci, hcmi, _⟩ := rowShape hI.im
          obtain ⟨az, cz, rfl, hcz, hcmz, _⟩ := rowShape hI.sl
          unfold maxLen at hcmi hcmz
          obtain ⟨d, hdd, hdK⟩ : ∃ d : Nat, (A : Int) % (((bs + os.length : Nat) : Int) + 1) = (d : Int) ∧ d ≤ bs + os.length := ⟨A % (bs + os.length + 1), mod_succ _ _, by have := Nat.mod_lt A (show 0 < bs + os.length + 1 by omega); omega⟩
          have HC := Hid.mk1 (cut_any _ w.heap.size w.heap.size L bs os n _ hIa.st hIa.bel.size d hdK (by omega))
          generalize hKd : bs + os.length = K at *
          have hdci : (d : Int) ≤ (ci : Int) := by omega
          have hdcz : (d : Int) ≤ (cz : Int) := by omega
          go_wp2_with (go_at_call 5; refine HC.out.mono ?_; rintro e w1 ⟨rfl, bs1, os1, hst1, hF1, h11, h12, h13⟩; have hIp := ((hIa.fr hst1 hF1).cut d hdK))
          go_roundw
          case rel => exact ⟨k + 1, bs1, os1, n, by omega, by go_num, by omega, by omega, by rw [h11, h12, h13]; exact hIp⟩
          case measure => simp [intOf]; omega
        · have h5' : (op : Int) % 5 = 2 := by omega
          obtain ⟨ai, ci, rfl, hci, hcmi, _⟩ := rowShape hI.im
          obtain ⟨az, cz, rfl, hcz, hcmz, _⟩ := rowShape hI.sl
          unfold maxLen at hcmi hcmz
          obtain ⟨d, hdd, hdK⟩ : ∃ d : Nat, (A : Int) % 8 = (d : Int) ∧ d ≤ 7 := ⟨A % 8, by omega, by omega⟩
          have HC : Hid (Calls Yba.prog 6 #[.pointer (some ⟨w.heap.size, 0, none⟩), .int .i64 (d : Int)] (wr.alloc (.cells #[.int .u8 op, .int .u16 A, .int .u16 C] 32)) fun e w' => e = .returned (.tuple #[]) ∧ St w' w.heap.size w.heap.size L d [] n (NoOf (.slice az (bs + os.length) cz)) ∧ Fr w.heap.size w.heap.size (NoOf (.slice az (bs + os.length) cz)) (wr.alloc (.cells #[.int .u8 op, .int .u16 A, .int .u16 C] 32)) w') := by
            obtain ⟨vo, vm, hV⟩ := hIa.st
            exact reset_any _ w.heap.size vo vm w.heap.size L bs os n _ hV hIa.bel.size d
          generalize hKd : bs + os.length = K at *
          go_wp2_with (go_at_call 6; refine HC.out.mono ?_; rintro e w1 ⟨rfl, hst1, hF1⟩; have hIp := ((hIa.fr hst1 hF1).cut 0 (Nat.zero_le _)))
          go_loopw [7, 8, 15] (fun vi vs si wq => ∃ j : Nat, j ≤ d ∧ si = .int .i64 j ∧ Inv w wq L vi vs d [] n j (imOf j []) (slOf L j [])) (fun _ _ si _ => d - (intOf si).toNat)
          case atStart => exact ⟨0, Nat.zero_le _, rfl, hIp⟩
          case round =>
            obtain ⟨j, hjd, rfl, hJ⟩ := hrel
            clear hIp hst1 hF1 hIa hI
            by_cases hjl : j < d
            · go_wp2_with (first
                | (at_builtin; refine wpList_append_own_at _ rfl _ _ 28 rfl w.heap.size 4 i4 _ 1 1 Yba.underlying28 b4 z4 s4 y4 rfl (by decide) _ j ((imOf j []).map Value.bool) rfl (hJ.im.alloc _) _ 1 1 [_] rfl rfl (World.news_of_block (heap_alloc_new _ _)) (by simp [Value.oneCell']) (by unfold maxLen; omega) (by omega) (hJ.alloc _).bel.size ?_; intro vi1 w2 ho2 hg2 _ _; have hIA := (hJ.alloc _).flag hg2 ho2)
                | (at_builtin; refine wpList_append_own_at _ rfl _ _ 29 rfl w.heap.size 21 i1 _ 1 4 Yba.underlying29 b1 z1 s1 y1 rfl (by decide) _ j ((slOf L j []).map (Value.int .i32)) rfl (hIA.sl.alloc _) _ 1 1 [_] rfl rfl (World.news_of_block (heap_alloc_new _ _)) (by simp [Value.oneCell']) (by unfold maxLen; omega) (by omega) (hIA.alloc _).bel.size ?_; intro vs1 w3 ho3 hg3 _ ha3; have hI3 := (hIA.alloc _).slot hg3 ho3 ha3))
              go_roundw
              case rel => exact ⟨j + 1, by omega, by go_num, by rw [im_res, sl_res]; exact hI3⟩
              case measure => simp [intOf]; omega
            · obtain rfl : j = d := by omega
              go_wp2
              go_roundw
              case rel => exact ⟨k + 1, j, [], n, by omega, by go_num, by omega, by simp; omega, hJ⟩
              case measure => simp [intOf]; omega
        · have h5' : (op : Int) % 5 = 3 := by omega
          obtain ⟨vo, vm, hV⟩ := hIa.st
          have hc1 := hV.c1
          have hc2 := hV.c2
          obtain ⟨ao, co, rfl, _, _, _⟩ := rowShape hV.ops
          by_cases hos : 0 < os.length
          · obtain ⟨ai, ci, rfl, hci, hcmi, hai⟩ := rowShape hI.im
            obtain ⟨az, cz, rfl, hcz, hcmz, haz⟩ := rowShape hI.sl
            obtain ⟨gi, rfl⟩ := hai (by omega)
            obtain ⟨gz, rfl⟩ := haz (by omega)
            unfold maxLen at hcmi hcmz
            obtain ⟨d, hdd, hdK⟩ : ∃ d : Nat, (A : Int) % (os.length : Int) = (d : Int) ∧ d < os.length := ⟨A % os.length, mod_nat _ _, Nat.mod_lt _ hos⟩
            have HS : Hid (∀ i, Calls Yba.prog 7 #[.pointer (some ⟨w.heap.size, 0, none⟩), .int .i64 ((bs : Int) + (d : Int))] ((wr.alloc (.cells #[.int .u8 op, .int .u16 A, .int .u16 C] 32)).drewN i) fun e w' => e = .returned (.tuple #[]) ∧ St w' w.heap.size w.heap.size L bs (os.set d (false, 0, L + ((bs : Int) + (d : Int)))) n (NoOf (.slice (some ⟨gz, 0, none⟩) (bs + os.length) cz)) ∧ Fr w.heap.size w.heap.size (NoOf (.slice (some ⟨gz, 0, none⟩) (bs + os.length) cz)) ((wr.alloc (.cells #[.int .u8 op, .int .u16 A, .int .u16 C] 32)).drewN i) w') := fun i => by
              have := settle_any ((wr.alloc (.cells #[.int .u8 op, .int .u16 A, .int .u16 C] 32)).drewN i) w.heap.size _ vm w.heap.size L bs os n _ (hV.below (below_drewN (Below.refl _ _) i)) hIa.bel.size ⟨hL1, hL2⟩ (bs + d) (by omega) (by omega) (by omega)
              simp only [Int.natCast_add, Nat.add_sub_cancel_left] at this
              exact this
            obtain ⟨bi, hbi⟩ : ∃ b, (imOf bs os)[bs + d]? = some b := ⟨_, List.getElem?_eq_getElem (by rw [imOf_length]; omega)⟩
            obtain ⟨zi, hzi⟩ : ∃ b, (slOf L bs os)[bs + d]? = some b := ⟨_, List.getElem?_eq_getElem (by rw [slOf_length]; omega)⟩
            have HX := Hid.mk1 (And.intro hbi hzi)
            have hnn : gi ≠ gz := fun e => by
              subst e
              obtain ⟨_, c1, h1⟩ := rowBlk hI.im gi rfl
              obtain ⟨_, c2, h2⟩ := rowBlk hI.sl gi rfl
              rw [h1] at h2
              simp at h2
            have hnz : ((os.length : Int) == 0) = false := by rw [beq_eq_false_iff_ne]; omega
            have hHd := Hid.mk1 hd
            generalize hKd : bs + os.length = K at *
            have hf1 : decide ((K : Int) ≤ (bs : Int) + (d : Int)) = false := by simp; omega
            have hf2 : decide ((bs : Int) + (d : Int) < 0) = false := by simp; omega
            have hlt1 : (bs : Int) + (d : Int) < (K : Int) := by omega
            have hlt2 : 0 ≤ (bs : Int) + (d : Int) := by omega
            clear hbi hzi
            go_upto_region 37 with fail
            go_quiet (fail)
            go_wp2_with (go_at_call 7; refine (HS.out _).mono ?_; rintro e w1 ⟨rfl, hst1, hF1⟩; have hIp := (hIa.below (below_drewN (Below.refl _ _) _)).fr hst1 hF1; have x1 := cellsAt hIp.im (bs + d) (.bool bi) (by simp [HX.out.1]); have x2 := hIp.im.frozenAt (bs + d); have x3 := cellsAt hIp.sl (bs + d) (.int .i32 zi) (by simp [HX.out.2]); have x4 := hIp.sl.frozenAt (bs + d))
            go_roundw
            case rel =>
              refine ⟨k + 1, bs, os.set d (false, 0, L + ((bs : Int) + (d : Int))), n, by omega, by go_num, by omega, by rw [List.length_set]; omega, ?_⟩
              rw [im_set, sl_set, List.length_set, hKd]
              exact hIp.set (bs + d) false (L + ((bs : Int) + (d : Int)))
            case measure => simp [intOf]; omega
          · obtain rfl : os = [] := List.length_eq_zero_iff.1 (by omega)
            go_wp2
            go_roundw
            case rel => exact ⟨k + 1, bs, [], n, by omega, by go_num, by omega, by simp at hd ⊢; omega, hIa⟩
            case measure => simp [intOf]; omega
        · have h5' : (op : Int) % 5 = 4 := by omega
          have hm0 : 0 ≤ (A : Int) % (L + 2) := Int.emod_nonneg _ (by omega)
          have hm1 : (A : Int) % (L + 2) < L + 2 := Int.emod_lt_of_pos _ (by omega)
          go_wp2_with (go_at_call 8; refine (check_any _ w.heap.size w.heap.size L bs os n (NoOf vs) hIa.st hIa.bel.size ⟨hL1, hL2⟩ _ (by omega) (by omega) (by omega) (by omega) vi vs hIa.im hIa.sl (fun _ hg => hg)).mono ?_; rintro e w1 ⟨rfl, hst1, hF1⟩)
          go_roundw
          case rel => exact ⟨k + 1, bs, os, n + 1, by omega, by go_num, by omega, by omega, hIa.fr hst1 hF1⟩
          case measure => simp [intOf]; omega
      · obtain rfl : k = len := by omega
        go_wp2
        go_loopw [18] (fun sx wq => ∃ (x : Int) (n1 : Nat), -1 ≤ x ∧ x ≤ L + 1 ∧ sx = .int .i32 x ∧ (n1 : Int) ≤ k + x + 1 ∧ Inv w wq L vi vs bs os n1 (bs + os.length) (imOf bs os) (slOf L bs os)) (fun sx _ => (L + 1 - intOf sx).toNat)
        case atStart => exact ⟨-1, n, by omega, by omega, rfl, by omega, hI⟩
        case round =>
          obtain ⟨x, n1, hx1, hx2, rfl, hn1, hJ⟩ := hrel
          clear hI
          by_cases hxL : x ≤ L
          · go_wp2_with (go_at_call 8; refine (check_any _ w.heap.size w.heap.size L bs os n1 (NoOf vs) hJ.st hJ.bel.size ⟨hL1, hL2⟩ x hx1 hxL (by omega) (by omega) vi vs hJ.im hJ.sl (fun _ hg => hg)).mono ?_; rintro e w1 ⟨rfl, hst1, hF1⟩)
            go_roundw
            case rel => exact ⟨x + 1, n1 + 1, by omega, by omega, by go_num, by omega, hJ.fr hst1 hF1⟩
            case measure => simp [intOf]; omega
          · have hxf : decide (x ≤ L) = false := by simp; omega
            go_wp2
            go_ret
            exact ⟨rfl, hJ.bel⟩
end Go.Proofs.Ybulkbbyq
