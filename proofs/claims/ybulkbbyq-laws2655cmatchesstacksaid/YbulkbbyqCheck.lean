/-
  zzs2655ccheck (8).
-/
import Derived.Test.YbulkbbyqReaders
namespace Go.Proofs.Ybulkbbyq
open Go.ChangeShapes Go.WideShapes Go.ChangeAt Go.RowKit Plain

theorem readers_any (w : World) (S : Nat) (B : Nat) (L : Int) (bs : Nat) (os : List Opd) (n : Nat) (No : Nat → Prop) (h : St w S B L bs os n No) (hB : B ≤ w.heap.size) (hL : 1 ≤ L ∧ L ≤ 16) (x : Int) (hx : -1 ≤ x) (hx2 : x ≤ L) (hn : n ≤ 3000) (hb : bs + os.length ≤ 3000) :
    Calls Yba.prog 11 #[.pointer (some ⟨S, 0, none⟩), .int .i32 x] w fun e w' => ∃ v rb, e = .returned v ∧ w'.ownsInts rb 21 .i32 v (rdOf x L bs os) ∧ St w' S B L bs os (n + 1) No ∧ Fr B S No w w' := by
  obtain ⟨vo, vm, h⟩ := h
  have hmono : St w S B L bs os (n + 1) No := ⟨vo, vm, h.low, h.blk, h.ops, h.map.mono (Nat.le_succ _)⟩
  have hwf : (Lit.int .i32 x).wf = true := by
    apply WalkArith.wf_i32
    omega
  rcases h.map with ⟨rfl, hI⟩ | ⟨M, G, rfl, hBM, hG, hI⟩
  · refine (readers_short w S vo _ B L bs os n No h x none 0 (look_none x w)).mono ?_
    rintro e w' ⟨rfl, rfl⟩
    exact ⟨_, 0, rfl, by rw [rdOf_nil hI rfl]; exact World.ownsInts_nil _ _ _ _, hmono, Fr.refl _ _ _ _⟩
  · by_cases hp : 0 < (G x).length
    · have hxL : x < L := by
        rcases (by omega : x < L ∨ L ≤ x) with h | h
        · exact h
        · rw [hI.non x h] at hp; cases hp
      refine (readers_long w S vo M B L bs os n No G h hBM hG hI hL x hx hxL hn hb hp).mono ?_
      rintro e w' ⟨v, rfl, h1, h2, h3⟩
      exact ⟨v, M + 1, rfl, by unfold rdOf; rw [if_pos hxL]; exact h1, h2, h3⟩
    · have he : G x = [] := List.length_eq_zero_iff.1 (by omega)
      obtain ⟨v, hrun, hoi, _⟩ := hG.look (by unfold maxLen; omega) x hwf
      obtain ⟨a, c, rfl⟩ : ∃ a c, v = .slice a 0 c := by
        rcases hoi.1.2 with ⟨e, _⟩ | ⟨g, cap, cur, e, _⟩
        · exact ⟨none, 0, e⟩
        · exact ⟨_, _, by rw [e, he]; rfl⟩
      refine (readers_short w S vo _ B L bs os n No h x a c hrun).mono ?_
      rintro e w' ⟨rfl, rfl⟩
      exact ⟨_, 0, rfl, by rw [rdOf_nil hI he]; exact World.ownsInts_nil _ _ _ _, hmono, Fr.refl _ _ _ _⟩

theorem rowBelow {w w' : World} {base : Nat} {e : TypeId} {size : Nat} {v : Value} {n : Nat} {xs : List Value} (h : w.ownsRow base e size v n xs) (hb : Below w.heap.size w w') : w'.ownsRow base e size v n xs := rowKept h (fun g _ _ hg => hb.block g (lt_of_heap hg))

/-- the slice behind an owned list. -/
theorem rowShape {w : World} {base : Nat} {e : TypeId} {size : Nat} {v : Value} {n : Nat} {xs : List Value} (h : w.ownsRow base e size v n xs) : ∃ a c, v = .slice a n c ∧ n ≤ c ∧ c ≤ maxLen ∧ (0 < n → ∃ g, a = some ⟨g, 0, none⟩) := by
  rcases h.2 with ⟨e, h0⟩ | ⟨g, cap, cur, e, _, _, h1, h2, _⟩
  · subst h0
    exact ⟨none, 0, e, Nat.le_refl _, by simp [maxLen], fun h => by cases h⟩
  · exact ⟨_, cap, e, h1, h2, fun _ => ⟨g, rfl⟩⟩

theorem wantTo_len (x : Int) (im : List Bool) (sl : List Int) (k : Nat) : (wantTo x im sl k).length ≤ k := by
  unfold wantTo
  rw [List.length_map]
  exact Nat.le_trans (List.length_filter_le _ _) (by simp)

set_option maxRecDepth 100000 in
theorem check_any (w : World) (S : Nat) (B : Nat) (L : Int) (bs : Nat) (os : List Opd) (n : Nat) (No : Nat → Prop) (h : St w S B L bs os n No) (hB : B ≤ w.heap.size) (hL : 1 ≤ L ∧ L ≤ 16) (x : Int) (hx : -1 ≤ x) (hx2 : x ≤ L) (hn : n ≤ 3000) (hb : bs + os.length ≤ 3000)
    (vi vs : Value) (hvi : w.ownsRow B 4 1 vi (bs + os.length) ((imOf bs os).map Value.bool)) (hvs : w.ownsRow B 21 1 vs (bs + os.length) ((slOf L bs os).map (Value.int .i32))) (hNs : ∀ g, vs.ownBlock = some g → No g) :
    Calls Yba.prog 8 #[.pointer (some ⟨S, 0, none⟩), .int .i32 x, .int .i32 L, vi, vs] w fun e w' => e = .returned (.bool true) ∧ St w' S B L bs os (n + 1) No ∧ Fr B S No w w' := by
  have HR := Hid.mk1 (readers_any w S B L bs os n No h hB hL x hx hx2 hn hb)
  have hS27 : ∀ cs e, e ≠ 27 → w.heap[S]? = some (.cells cs e (0, 0)) → False := fun cs e he hh => by
    obtain ⟨vo, vm, h⟩ := h
    rw [h.blk] at hh
    simp at hh
    exact he hh.2.symm
  obtain ⟨ai, ci, rfl, hci, hcmi, hai⟩ := rowShape hvi
  obtain ⟨az, cs, rfl, hcs, hcms, haz⟩ := rowShape hvs
  obtain ⟨i1, hj, hy0, hy1, hy2⟩ := info_parts info21
  unfold maxLen at hcmi hcms
  generalize hK : bs + os.length = K at *
  go_enter Yba.func8, Yba.ntmps8
  go_upto_if 22 with (first | (go_at_call 11; refine HR.out.mono ?_; rintro e w1 ⟨v, rb, rfl, hgot, hst1, hF1⟩; obtain ⟨vo1, vm1, hV1⟩ := hst1; obtain ⟨ag, cg, rfl, hcg, hcmg, hag⟩ := rowShape hgot.1) | (go_at_call 9; refine (depth_any w1 S vo1 vm1 B L bs os hV1.toB (by omega)).mono ?_; rintro e w' ⟨rfl, i, rfl⟩))
  have hvi1 := rowBelow (hF1.row hvi (fun cs => hS27 cs 4 (by decide)) (by decide) (fun e => by cases e)) (below_drewN (Below.refl _ w1) i)
  have hvs1 := rowBelow (hF1.row hvs (fun cs => hS27 cs 21 (by decide)) (by decide) (fun _ => hNs)) (below_drewN (Below.refl _ w1) i)
  have hgot1 := rowBelow hgot.1 (below_drewN (Below.refl _ w1) i)
  have hSt := (show St w1 S B L bs os (n + 1) No from ⟨_, _, hV1⟩).below (below_drewN (Below.refl _ w1) i)
  have hFW : Fr B S No w (w1.drewN i) := hF1.trans (Fr.below (below_drewN (Below.refl _ w1) i) (Nat.le_trans hB hF1.bel.size))
  clear hvi hvs hgot hV1 hF1 h HR
  generalize w1.drewN i = W at *
  have hli : (imOf bs os).length = K := by rw [imOf_length]; exact hK
  have hls : (slOf L bs os).length = K := by rw [slOf_length]; exact hK
  have hrd : Hid (x < L → rdOf x L bs os = wantTo x (imOf bs os) (slOf L bs os) K) := fun hxL => by unfold rdOf; rw [if_pos hxL, ← hK, want_reads L bs os x hxL]
  have hrn : Hid (¬ x < L → rdOf x L bs os = []) := fun hxL => by unfold rdOf; rw [if_neg hxL]
  generalize imOf bs os = im at *
  generalize slOf L bs os = sl at *
  generalize rdOf x L bs os = l at *
  go_upto_if 25 with fail
  go_cut [12] (fun sw wc => Below W.heap.size W wc ∧ ∃ aw cw, sw = .slice aw l.length cw ∧ wc.ownsRow W.heap.size 21 1 (.slice aw l.length cw) l.length (l.map (Value.int .i32)))
  case first =>
    by_cases hxL : x < L
    · go_wp2
      go_loopw [12, 13] (fun sw si wr => ∃ (k : Nat) (aw : Option Addr) (cw : Nat), k ≤ K ∧ si = .int .i64 k ∧ sw = .slice aw (wantTo x im sl k).length cw ∧ wr.ownsRow W.heap.size 21 1 (.slice aw (wantTo x im sl k).length cw) (wantTo x im sl k).length ((wantTo x im sl k).map (Value.int .i32)) ∧ Below W.heap.size W wr) (fun _ si _ => K - (intOf si).toNat)
      case atStart => exact ⟨0, none, 0, Nat.zero_le _, rfl, rfl, World.ownsRow_nil _ _ _ _, Below.refl _ _⟩
      case round =>
        obtain ⟨k, aw, cw, hk, rfl, rfl, hw, hbel⟩ := hrel
        by_cases hkK : k < K
        · obtain ⟨gi, rfl⟩ := hai (by omega)
          obtain ⟨gs, rfl⟩ := haz (by omega)
          obtain ⟨bk, hbk⟩ : ∃ b, im[k]? = some b := ⟨_, List.getElem?_eq_getElem (by omega)⟩
          obtain ⟨sk, hsk⟩ : ∃ z, sl[k]? = some z := ⟨_, List.getElem?_eq_getElem (by omega)⟩
          have hc1 : wr.cell? ⟨gi, k, none⟩ = some (.bool bk) := cellsAt (rowBelow hvi1 hbel) k _ (by simp [hbk])
          have hc2 : wr.cell? ⟨gs, k, none⟩ = some (.int .i32 sk) := cellsAt (rowBelow hvs1 hbel) k _ (by simp [hsk])
          have hsucc := wantTo_succ x im sl k
          have hbk' : im.getD k false = bk := by rw [List.getD, hbk]; rfl
          have hsk' : sl.getD k 0 = sk := by rw [List.getD, hsk]; rfl
          rw [hbk', hsk'] at hsucc
          have hwl := wantTo_len x im sl k
          generalize htd : wantTo x im sl k = t at *
          obtain ⟨t', ht'⟩ : ∃ t', wantTo x im sl (k + 1) = t' := ⟨_, rfl⟩
          rw [ht'] at hsucc
          have htd' : True := trivial
          cases bk with
          | true =>
            have ht : t' = t := by rw [hsucc]; simp
            clear hsucc hbk' hsk' hbk hsk
            have HT := Hid.mk1 (And.intro ht' (And.intro ht hw))
            clear ht ht' htd htd'
            go_wp2
            go_roundw
            case rel =>
              obtain ⟨h1, h2, h3⟩ := HT.out
              exact ⟨k + 1, aw, cw, by omega, by go_num, by rw [h1, h2], by rw [h1, h2]; exact h3, hbel⟩
            case measure => simp [intOf]; omega
          | false =>
            by_cases hsx : sk = x
            · have ht : t' = t ++ [(k : Int)] := by rw [hsucc]; simp [hsx]
              subst hsx
              clear hsucc hbk' hsk' hbk hsk
              have HT := Hid.mk1 (And.intro ht' ht)
              clear ht ht' htd htd'
              have hbs := hbel.size
              go_wp2_with (at_builtin; refine wpList_append_own_at _ rfl _ _ _ rfl W.heap.size 21 i1 _ 1 4 Yba.underlying29 hj hy0 hy1 hy2 rfl (by decide) _ t.length (t.map (Value.int .i32)) rfl (hw.alloc _) _ 1 1 [.int .i32 k] rfl rfl (World.news_of_block (heap_alloc_new _ _)) (by simp [Value.oneCell']) (by unfold maxLen; omega) (by omega) (by simp; omega) ?_; intro v9 w9 hw9 hg9 _ _; obtain ⟨a9, c9, hv9, _, _, _⟩ := rowShape hw9; subst hv9)
              go_roundw
              case rel =>
                obtain ⟨h1, h2⟩ := HT.out
                have e1 : (wantTo sk im sl (k + 1)).length = t.length + 1 := by rw [h1, h2]; simp
                refine ⟨k + 1, a9, c9, by omega, by go_num, by rw [e1], ?_, (hbel.alloc hbel.size _).grown hg9 (by simp; omega) (fun g hg => (hw.lt g hg).1)⟩
                rw [e1, h1, h2, List.map_append]
                exact hw9
              case measure => simp [intOf]; omega
            · have ht : t' = t := by rw [hsucc]; simp [hsx]
              have hsx1 : (sk == x) = false := by simp [hsx]
              clear hsucc hbk' hsk' hbk hsk
              have HT := Hid.mk1 (And.intro ht' (And.intro ht hw))
              clear ht ht' htd htd'
              go_wp2
              go_roundw
              case rel =>
                obtain ⟨h1, h2, h3⟩ := HT.out
                exact ⟨k + 1, aw, cw, by omega, by go_num, by rw [h1, h2], by rw [h1, h2]; exact h3, hbel⟩
              case measure => simp [intOf]; omega
        · obtain rfl : k = K := by omega
          go_wp2
          go_meet
          rw [← hrd.out hxL] at hw
          exact ⟨hbel, aw, cw, by rw [hrd.out hxL], hw⟩
    · have hxf : decide (x < L) = false := by simp; omega
      go_wp2
      go_meet
      rw [hrn.out hxL]
      exact ⟨Below.refl _ _, none, 0, rfl, World.ownsRow_nil _ _ _ _⟩
  case rest =>
    obtain ⟨hbel, aw, cw, rfl, hw⟩ := hcut
    have hgotc := rowBelow hgot1 hbel
    have HE := Hid.mk1 (And.intro (hSt.below hbel) (hFW.trans (Fr.below hbel (Nat.le_trans hB hFW.bel.size))))
    obtain ⟨_, _, e9, hcw, hcmw, haw⟩ := rowShape hw
    cases e9
    unfold maxLen at hcmg hcmw
    clear hSt hFW hvi1 hvs1 hrd hrn hS27 hgot1
    go_wp2
    go_loopw [14] (fun si wr => ∃ (k nn : Nat), k ≤ l.length ∧ si = .int .i64 k ∧ wr = wc.drewN nn) (fun si _ => l.length - (intOf si).toNat)
    case atStart => exact ⟨0, 0, Nat.zero_le _, rfl, rfl⟩
    case round =>
      obtain ⟨k, nn, hk, rfl, rfl⟩ := hrel
      by_cases hkl : k < l.length
      · obtain ⟨gg, rfl⟩ := hag (by omega)
        obtain ⟨gw, rfl⟩ := haw (by omega)
        obtain ⟨z, hz⟩ : ∃ z, l[k]? = some z := ⟨_, List.getElem?_eq_getElem hkl⟩
        have hc1 : wc.cell? ⟨gg, k, none⟩ = some (.int .i32 z) := cellsAt hgotc k _ (by simp [hz])
        have hc2 : wc.cell? ⟨gw, k, none⟩ = some (.int .i32 z) := cellsAt hw k _ (by simp [hz])
        have hkI : (k : Int) < (l.length : Int) := by omega
        clear hz
        go_wp2
        go_quiet (fail)
        go_wp2
        go_roundw
        case rel => exact ⟨k + 1, _, by omega, by go_num, rfl⟩
        case measure => simp [intOf]; omega
      · obtain rfl : k = l.length := by omega
        go_wp2
        go_ret
        have hd := below_drewN (Below.refl wc.heap.size wc) nn
        exact ⟨rfl, HE.out.1.below hd, HE.out.2.trans (Fr.below hd (Nat.le_trans hB HE.out.2.bel.size))⟩
end Go.Proofs.Ybulkbbyq
