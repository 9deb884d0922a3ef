/-
  readers (11).
-/
import Derived.Test.YbulkbbyqFil
namespace Go.Proofs.Ybulkbbyq
open Go.ChangeShapes Go.WideShapes Go.ChangeAt Go.RowKit Plain

/-- what 'readers' answers. -/
def rdOf (x L : Int) (bs : Nat) (os : List Opd) : List Int := if x < L then reads x bs os else []

theorem rdOf_nil {x L : Int} {bs : Nat} {os : List Opd} {G : Int → List Int} (h : GInv L bs os G) (he : G x = []) : rdOf x L bs os = [] := by
  unfold rdOf
  split
  · rw [← live_reads L bs os G h x (by assumption), he]; rfl
  · rfl

set_option maxRecDepth 100000 in
theorem readers_short (w : World) (S : Nat) (vo vm : Value) (B : Nat) (L : Int) (bs : Nat) (os : List Opd) (n : Nat) (No : Nat → Prop) (h : StV w S vo vm B L bs os n No) (x : Int)
    (a : Option Addr) (c : Nat) (hrun : (Instr.lookup 25 vm (.int .i32 x) false).run Yba.prog w = .ok (.slice a 0 c) w) :
    Calls Yba.prog 11 #[.pointer (some ⟨S, 0, none⟩), .int .i32 x] w fun e w' => e = .returned (.slice none 0 0) ∧ w' = w := by
  have h3 := h.c3
  obtain ⟨q, rfl⟩ : ∃ q, vm = .map q := by
    rcases h.map with ⟨e, _⟩ | ⟨M, _, e, _⟩
    · exact ⟨_, e⟩
    · exact ⟨_, e⟩
  clear h
  go_enter Yba.func11, Yba.ntmps11
  go_wp2
  go_ret
  exact ⟨rfl, rfl⟩

theorem stB_list {w wr : World} {S : Nat} {vo vm : Value} {B base : Nat} {L : Int} {bs : Nat} {os : List Opd} {n : Nat} {No : Nat → Prop} {v : Value} {zs : List Int} (h : StV w S vo vm B L bs os n No) (ho : w.ownsInts base 21 .i32 v zs) (hg : w.grownBy wr v.ownBlock) : StB wr S vo vm B L bs os :=
  ⟨(other21 ho hg S _ h.blk (fun cs e => by cases e)).trans h.blk, rowKept h.ops (fun k _ _ hk => other21 ho hg k _ hk (fun cs e => by cases e))⟩

theorem row_at {wr w8 : World} {i base : Nat} {e : TypeId} {size : Nat} {v : Value} {n : Nat} {xs : List Value} (h : wr.ownsRow base e size v n xs) (hb : Below (wr.drewN i).heap.size (wr.drewN i) w8) : w8.ownsRow base e size v n xs :=
  rowKept h (fun g _ _ hg => hb.block g (lt_of_heap hg))
theorem grow_at {w wr w8 : World} {i : Nat} {row : Option Nat} (h : w.grownBy wr row) (hb : Below (wr.drewN i).heap.size (wr.drewN i) w8) : w.grownBy w8 row :=
  ⟨hb.os.trans h.os, hb.tape.trans h.tape, hb.output.trans h.output, Nat.le_trans h.size hb.size, fun k hk hne => (hb.block k (Nat.lt_of_lt_of_le hk h.size)).trans (h.block k hk hne)⟩

theorem readers_end {w wr w2 : World} {S : Nat} {vo : Value} {M B : Nat} {L : Int} {bs : Nat} {os : List Opd} {n : Nat} {No : Nat → Prop} {G : Int → List Int} {v v' : Value} {zs zs' : List Int}
    (h : StV w S vo (.map (some M)) B L bs os n No) (hBM : B ≤ M) (ho : w.ownsInts (M + 1) 21 .i32 v zs) (hno : ∀ g, v.ownBlock = some g → ¬ No g) {es : Array MapEntry} {clk : Nat} (hMb : w.heap[M]? = some (.map es clk)) (hgr : w.grownBy wr v.ownBlock)
    (ho' : wr.ownsInts (M + 1) 21 .i32 v' zs') (hG2 : Grp w2 M (M + 1) (n + 1) No G) (hgr2 : wr.grownBy w2 (some M)) (hI : GInv L bs os G) : w2.ownsInts (M + 1) 21 .i32 v' zs' ∧ St w2 S B L bs os (n + 1) No ∧ Fr B S No w w2 := by
  have hM1 : wr.heap[M]? = some (.map es clk) := (other21 ho hgr M _ hMb (fun cs e => by cases e)).trans hMb
  have o1 : ∀ (k : Nat) (o : Obj), w.heap[k]? = some o → (∀ cs, o ≠ .cells cs 21 (0, 0)) → wr.heap[k]? = w.heap[k]? := other21 ho hgr
  have o2 : ∀ (k : Nat) (o : Obj), w.heap[k]? = some o → (∀ cs, o ≠ .cells cs 21 (0, 0)) → (∀ es c, o ≠ .map es c) → w2.heap[k]? = w.heap[k]? := fun k o hk h1 h2 =>
    (otherMap hM1 hgr2 k o ((o1 k o hk h1).trans hk) h2).trans (o1 k o hk h1)
  refine ⟨⟨rowKept ho'.1 (fun g _ _ hg => otherMap hM1 hgr2 g _ hg (fun es c e => by cases e)), ho'.2⟩, ⟨vo, _, h.low, (o2 S _ h.blk (fun cs e => by cases e) (fun es c e => by cases e)).trans h.blk,
    rowKept h.ops (fun k cs _ hk => o2 k _ hk (fun cs e => by cases e) (fun es c e => by cases e)), .inr ⟨M, _, rfl, hBM, hG2, hI⟩⟩, Fr.list (n := 0) hBM (lt_of_heap hMb) ho hno hgr hgr2 hM1 rfl⟩

set_option maxRecDepth 100000 in
theorem readers_long (w : World) (S : Nat) (vo : Value) (M B : Nat) (L : Int) (bs : Nat) (os : List Opd) (n : Nat) (No : Nat → Prop) (G : Int → List Int) (h : StV w S vo (.map (some M)) B L bs os n No) (hBM : B ≤ M) (hG : Grp w M (M + 1) n No G) (hI : GInv L bs os G) (hL : 1 ≤ L ∧ L ≤ 16) (x : Int) (hx : -1 ≤ x) (hxL : x < L) (hn : n ≤ 3000) (hb : bs + os.length ≤ 3000) (hp : 0 < (G x).length) :
    Calls Yba.prog 11 #[.pointer (some ⟨S, 0, none⟩), .int .i32 x] w fun e w' => ∃ v, e = .returned v ∧ w'.ownsInts (M + 1) 21 .i32 v (reads x bs os) ∧ St w' S B L bs os (n + 1) No ∧ Fr B S No w w' := by
  have hwf : (Lit.int .i32 x).wf = true := by
    apply WalkArith.wf_i32
    omega
  have h3 := h.c3
  obtain ⟨i1, hj, hy0, hy1, hy2⟩ := info_parts info21
  obtain ⟨v, hrun, hoi, hlen, hno, hback⟩ := hG.look (by unfold maxLen; omega) x hwf
  have HB := Hid.mk1 hback
  clear hback
  have hrow := hoi.1
  have hzw := hoi.2
  rcases hrow.2 with ⟨_, h0⟩ | ⟨g, c, cur, rfl, hbg, hg, hlc, hcm, hcs, htk⟩
  · omega
  have hcm' := hcm
  unfold maxLen at hcm'
  obtain ⟨es, clk, hMb⟩ := hG.lt.2.2
  have hMl := hG.lt.1
  have hpos := hI.pos x
  have hread := live_reads L bs os G hI x hxL
  generalize hl : G x = l at *
  have hne0 : (((l.length : Nat) : Int) == 0) = false := by rw [beq_eq_false_iff_ne]; omega
  go_enter Yba.func11, Yba.ntmps11
  go_wp2
  go_loopw [6, 23] (fun sl si wr => ∃ (k m : Nat) (ys : List Int), k ≤ l.length ∧ si = .int .i64 k ∧ sl = .slice (some ⟨g, 0, none⟩) m c ∧ Fil l (live x bs os) k m ys ∧ wr.ownsRow (M + 1) 21 1 (.slice (some ⟨g, 0, none⟩) l.length c) l.length (ys.map (Value.int .i32)) ∧ w.grownBy wr (some g)) (fun _ si _ => l.length - (intOf si).toNat)
  case atStart => exact ⟨0, 0, l, Nat.zero_le _, rfl, rfl, Fil.zero _ _, hrow, ⟨rfl, rfl, rfl, Nat.le_refl _, fun _ _ _ => rfl⟩⟩
  case round =>
    obtain ⟨k, m, ys, hk, rfl, rfl, hfil, hwr, hgr⟩ := hrel
    have hB1 := stB_list h hoi hgr
    by_cases hkl : k < l.length
    · obtain ⟨z, hz⟩ : ∃ z, l[k]? = some z := ⟨_, List.getElem?_eq_getElem hkl⟩
      have hzm := List.mem_of_getElem? hz
      have hzb := bounds_i32 (hzw z hzm)
      obtain ⟨zn, rfl⟩ := Int.eq_ofNat_of_zero_le (hpos z hzm)
      have hcell : wr.cell? ⟨g, k, none⟩ = some (.int .i32 (zn : Int)) := cellsAt hwr k _ (by simp [hfil.get, hz])
      have hD := Hid.mk1 (depth_any wr S vo _ B L bs os hB1 hb)
      have hm := hfil.le
      by_cases hzd : zn < bs + os.length
      · have hlv := live_at L bs os zn x hxL hzd
        rcases ho : atOp L bs os zn with ⟨oi, ok, osl⟩
        rw [ho] at hlv
        have hA : Hid (∀ i, Calls Yba.prog 12 #[.pointer (some ⟨S, 0, none⟩), .int .i64 (zn : Int)] (wr.drewN i) fun e w' => e = .returned (.agg #[.bool oi, .int .i32 ok, .int .i32 osl]) ∧ Below (wr.drewN i).heap.size (wr.drewN i) w') := fun i => by
          have := at_any (wr.drewN i) S vo _ B L bs os (hB1.below (below_drewN (Below.refl _ _) i)) hL zn hzd hb
          rw [ho] at this
          exact this
        clear ho
        have hf1 : decide ((bs : Int) + os.length ≤ zn) = false := by simp; omega
        have hf2 : decide (bs + os.length ≤ zn) = false := by simp; omega
        cases oi with
        | true =>
          go_wp2_with (first | (go_at_call 9; refine hD.out.mono ?_; rintro e w' ⟨rfl, i, rfl⟩) | (go_at_call 12; refine (hA.out _).mono ?_; rintro e w8 ⟨rfl, hb8⟩; have row8 := row_at hwr hb8; have gr8 := grow_at hgr hb8))
          go_roundw
          case rel => exact ⟨k + 1, m, ys, by omega, by go_num, rfl, hfil.no hz (hlv.trans rfl), row8.alloc _, gr8.trans (World.grownBy_alloc _ _ _)⟩
          case measure => simp [intOf]; omega
        | false =>
          by_cases hsx : osl = x
          · subst hsx
            go_wp2_with (first | (go_at_call 9; refine hD.out.mono ?_; rintro e w' ⟨rfl, i, rfl⟩) | (go_at_call 12; refine (hA.out _).mono ?_; rintro e w8 ⟨rfl, hb8⟩; have row8 := row_at hwr hb8; have gr8 := grow_at hgr hb8) | (at_builtin; refine wpList_append_in _ rfl _ _ _ rfl (M + 1) 21 i1 Yba.underlying29 hj hy1 g m l.length c (ys.map (Value.int .i32)) rfl ((row8.alloc _).alloc _) _ _ (.int .i32 zn) rfl (World.news_of_block (heap_alloc2_new _ _ _)) rfl (by omega) ?_; intro w9 hw9 hg9))
            go_roundw
            case rel => exact ⟨k + 1, m + 1, ys.set m zn, by omega, by go_num, rfl, hfil.yes hz (hlv.trans (by simp [isX])), by rw [List.map_set]; exact hw9, ((gr8.trans (World.grownBy_alloc _ _ _)).trans (World.grownBy_alloc _ _ _)).trans hg9⟩
            case measure => simp [intOf]; omega
          · have hsx1 : (osl == x) = false := by simp [hsx]
            go_wp2_with (first | (go_at_call 9; refine hD.out.mono ?_; rintro e w' ⟨rfl, i, rfl⟩) | (go_at_call 12; refine (hA.out _).mono ?_; rintro e w8 ⟨rfl, hb8⟩; have row8 := row_at hwr hb8; have gr8 := grow_at hgr hb8))
            go_roundw
            case rel => exact ⟨k + 1, m, ys, by omega, by go_num, rfl, hfil.no hz (hlv.trans (by simp [isX, hsx])), row8.alloc _, gr8.trans (World.grownBy_alloc _ _ _)⟩
            case measure => simp [intOf]; omega
      · have hzd' : ((bs : Int) + os.length) ≤ zn := by omega
        go_wp2_with (go_at_call 9; refine hD.out.mono ?_; rintro e w' ⟨rfl, i, rfl⟩)
        go_roundw
        case rel => exact ⟨k + 1, m, ys, by omega, by go_num, rfl, hfil.no hz (by unfold live; simp; omega), hwr, ⟨hgr.os, hgr.tape, hgr.output, hgr.size, hgr.block⟩⟩
        case measure => simp [intOf]; omega
    · obtain rfl : k = l.length := by omega
      have hoi' : wr.ownsInts (M + 1) 21 .i32 (.slice (some ⟨g, 0, none⟩) m c) (reads x bs os) := by
        have hm := hfil.le
        have hc := cutRow (m := m) hwr hm
        have e1 : (reads x bs os).length = m := by rw [← hread, ← hfil.done, List.length_take, hfil.len]; omega
        rw [Nat.mul_one, ← List.map_take, hfil.done, hread] at hc
        refine ⟨by rw [e1]; exact hc, fun y hy => ?_⟩
        rw [← hread] at hy
        exact hzw y (List.mem_filter.1 hy).1
      have hrl : (reads x bs os).length ≤ l.length := by rw [← hread]; exact List.length_filter_le _ _
      obtain ⟨w2, hrun2, hG2, hgr2⟩ := HB.out wr _ _ hgr hoi' (by omega) (.inl rfl) hno
      have hc3 := hB1.c3
      have hEnd := readers_end h hBM hoi hno hMb hgr hoi' hG2 hgr2 (ginv_read hI x hxL)
      have HE := Hid.mk1 hEnd
      clear hEnd
      go_wp2
      go_ret
      exact ⟨_, rfl, HE.out⟩
end Go.Proofs.Ybulkbbyq
