/-
  push (4) of an operand that is a local.
-/
import Derived.Test.YbulkbbyqPushNo
import Derived.Maps.OwnOps
import Derived.WalkArith
import Derived.Deep.CutBlock
namespace Go.Proofs.Ybulkbbyq
open Go.ChangeShapes Go.WideShapes Go.ChangeAt Go.RowKit Plain

/-- ahead of the look-up: the map is there. -/
structure Rdy (w : World) (S Q : Nat) (vo : Value) (M B : Nat) (L : Int) (bs : Nat) (os : List Opd) (o : Opd) (n : Nat) (No : Nat → Prop) (G : Int → List Int) : Prop where
  st : StV w S vo (.map (some M)) B L bs os n No
  bm : B ≤ M
  grp : Grp w M (M + 1) n No G
  inv : GInv L bs os G
  opd : w.heap[Q]? = some (.cells #[.bool o.1, .int .i32 o.2.1, .int .i32 o.2.2] 35 (0, 0))

theorem eqg_map (q : Option Nat) (w : World) : (eqGuard BinOp.eql 25 (.tmp 21) (.const (.map none)) (.map q) (.map none)).run Yba.prog w = .ok () w := by
  cases q <;> kernel_rfl
theorem eq_map (q : Option Nat) (w : World) : (binOp BinOp.eql 25 (.map q) (.map none)).run Yba.prog w = .ok (.bool q.isNone) w := by
  cases q <;> kernel_rfl

theorem Hid.mk1 {p : Prop} (h : p) : Hid p := h
theorem mk_map (w : World) : (Instr.makeMap 25 none).run Yba.prog w = .ok (.map (some w.heap.size)) (w.alloc (.map #[] 0)) := by kernel_rfl

theorem heap_set3 (w : World) (S : Nat) (a b c d v : Value) (h : w.heap[S]? = some (.cells #[a, b, c, d] 27 (0, 0))) : (w.setCell ⟨S, 3, none⟩ v).heap[S]? = some (.cells #[a, b, c, v] 27 (0, 0)) := by
  rw [heap_setCell_same w S 3 #[a, b, c, d] 27 v h]
  rfl

theorem heap_set_alloc (w : World) (a : Addr) (v : Value) (o : Obj) (k : Nat) (hk : k ≠ a.block) : ((w.setCell a v).alloc o).heap[k]? = (w.alloc o).heap[k]? := by
  show ((w.setCell a v).heap.push o)[k]? = (w.heap.push o)[k]?
  rw [Array.getElem?_push, Array.getElem?_push, heap_setCell_other w a k v hk]
  simp [World.setCell]

theorem Rdy.made {w w' : World} {S Q : Nat} {vo : Value} {B : Nat} {L : Int} {bs : Nat} {os : List Opd} {o : Opd} {n : Nat} {No : Nat → Prop} (h : StV w S vo (.map none) B L bs os n No) (hB : B ≤ w.heap.size) (hI : GInv L bs os (fun _ => [])) (hQ : w.heap[Q]? = some (.cells #[.bool o.1, .int .i32 o.2.1, .int .i32 o.2.2] 35 (0, 0)))
    (hS' : w'.heap[S]? = some (.cells #[.int .i32 L, .int .i64 bs, vo, .map (some w.heap.size)] 27 (0, 0))) (ho : ∀ (k : Nat), k ≠ S → w'.heap[k]? = (w.alloc (.map #[] 0)).heap[k]?) (hsz : w.heap.size ≤ w'.heap.size) (e1 : w'.os = w.os) (e2 : w'.tape = w.tape) (e3 : w'.output = w.output) : Rdy w' S Q vo w.heap.size B L bs os o n No (fun _ => []) ∧ Fr B S No w w' := by
  have hSl := lt_of_heap h.blk
  have hol : ∀ (k : Nat), k < w.heap.size → k ≠ S → w'.heap[k]? = w.heap[k]? := fun k hk hne => (ho k hne).trans (Below.heap_alloc w _ k hk)
  have hne : ∀ (g : Nat) (o : Obj), w.heap[g]? = some o → (∀ cs, o ≠ .cells cs 27 (0, 0)) → g ≠ S := fun g o hg hc e => by
    subst e
    rw [h.blk] at hg
    exact hc _ (Option.some.inj hg).symm
  have hG0 : Grp (w.alloc (.map #[] 0)) w.heap.size (w.heap.size + 1) n No (fun _ => []) := (Grp.made w No).mono (Nat.zero_le _)
  have hb27 : (w.alloc (.map #[] 0)).heap[S]? = some (.cells #[.int .i32 L, .int .i64 bs, vo, .map none] 27 (0, 0)) := (Below.heap_alloc w _ S hSl).trans h.blk
  have hG : Grp w' w.heap.size (w.heap.size + 1) n No (fun _ => []) := hG0.kept (ho _ (by omega)) (fun g cs hg _ => ho g (fun e => by
    subst e
    rw [hb27] at hg
    cases hg))
  refine ⟨⟨⟨h.low, hS', rowKept h.ops (fun g cs _ hg => hol g (lt_of_heap hg) (hne g _ hg (fun cs e => by cases e))), .inr ⟨_, _, rfl, hB, hG, hI⟩⟩, hB, hG, hI, (hol Q (lt_of_heap hQ) (hne Q _ hQ (fun cs e => by cases e))).trans hQ⟩, ?_⟩
  exact Fr.one (row := some S) ⟨e1, e2, e3, hsz, fun k hk hne => hol k hk (fun e => hne (by rw [e]))⟩ hB (fun k hk => by cases hk; exact ⟨h.low, .inl rfl⟩)

theorem cellsOf' {w : World} {base : Nat} {e : TypeId} {size g n : Nat} {v : Value} {xs : List Value} (h : w.ownsRow base e size v n xs) (hv : v.ownBlock = some g) (j : Nat) (u : Value) (hu : xs[j]? = some u) : w.cell? ⟨g, j, none⟩ = some u := by
  have := h.cells (g := g) hv j u hu
  have hadd : (⟨g, 0, none⟩ : Addr).add j = ⟨g, j, none⟩ := by unfold Addr.add; split <;> simp_all
  rwa [hadd] at this

/-- the last element of an owned list, and the list without it. -/
theorem last_row {w : World} {base : Nat} {l : List Int} {a : Option Addr} {j c : Nat} {z : Int} (h : w.ownsInts base 21 .i32 (.slice a (j + 1) c) (l.take (j + 1))) (hl : (l.take (j + 1)).length = j + 1) (hz : l[j]? = some z) :
    ∃ g, a = some ⟨g, 0, none⟩ ∧ w.ownsInts base 21 .i32 (.slice (some ⟨g, 0, none⟩) j c) (l.take j) ∧ w.cell? ⟨g, j, none⟩ = some (.int .i32 z) ∧ c ≤ maxLen ∧ j + 1 ≤ c := by
  have h1 := h.1
  rw [hl] at h1
  rcases h1.2 with ⟨e, _⟩ | ⟨g, cap, cur, e, hbg, hg, hnc, hcm, hcs, htk⟩
  · cases e
  · simp only [Value.slice.injEq, true_and] at e
    obtain ⟨rfl, rfl⟩ := e
    refine ⟨g, rfl, ⟨?_, fun y hy => h.2 y ?_⟩, cellsOf' h1 rfl j _ ?_, hcm, hnc⟩
    · have hc := cutRow (m := j) h1 (by omega)
      have e1 : (l.take j).length = j := by simp at hl ⊢; omega
      rw [e1]
      have e2 : (((l.take (j + 1)).map (Value.int .i32)).take (j * 1)) = (l.take j).map (Value.int .i32) := by
        rw [Nat.mul_one, ← List.map_take, List.take_take, Nat.min_eq_left (by omega)]
      rw [e2] at hc
      exact hc
    · exact List.mem_of_mem_take (i := j) (by rw [List.take_take, Nat.min_eq_left (by omega)]; exact hy)
    · simp [hz]

/-- the blocks of other kinds behind a step that turned one list's row, then the map. -/
theorem other21 {w w1 : World} {base : Nat} {v : Value} {zs : List Int} (ho : w.ownsInts base 21 .i32 v zs) (hg : w.grownBy w1 v.ownBlock) (k : Nat) (o : Obj) (hk : w.heap[k]? = some o) (hc : ∀ cs, o ≠ .cells cs 21 (0, 0)) : w1.heap[k]? = w.heap[k]? :=
  hg.block k (lt_of_heap hk) (fun e => by
    rcases ho.1.2 with ⟨e', _⟩ | ⟨g', c, cur, e', _, hh, _⟩
    · rw [e'] at e; cases e
    · rw [e'] at e; cases e; rw [hk] at hh; exact hc cur (Option.some.inj hh))
theorem otherMap {w w1 : World} {M : Nat} {es : Array MapEntry} {c : Nat} (hM : w.heap[M]? = some (.map es c)) (hg : w.grownBy w1 (some M)) (k : Nat) (o : Obj) (hk : w.heap[k]? = some o) (hc : ∀ es c, o ≠ .map es c) : w1.heap[k]? = w.heap[k]? :=
  hg.block k (lt_of_heap hk) (fun e => by
    cases e
    rw [hM] at hk
    exact hc es c (Option.some.inj hk).symm)

/-- one list's row and the map turned: the stack. -/
theorem Fr.list {w w1 w2 : World} {S M B n : Nat} {No : Nat → Prop} {v : Value} {zs : List Int} (hB : B ≤ M) (hMl : M < w.heap.size) (ho : w.ownsInts (M + 1) 21 .i32 v zs) (hno : ∀ g, v.ownBlock = some g → ¬ No g) (hg : w.grownBy w1 v.ownBlock) (hg2 : w1.grownBy w2 (some M)) {es : Array MapEntry} {c : Nat} (hM : w1.heap[M]? = some (.map es c)) (_ : n = n) : Fr B S No w w2 := by
  refine (Fr.one hg (by omega) (fun k hk => ?_)).trans (Fr.one hg2 (by have := hg.size; omega) (fun k hk => by cases hk; exact ⟨hB, .inr (.inr (.inr ⟨_, _, hM⟩))⟩))
  have h1 := (ho.1.lt k hk).1
  refine ⟨by omega, .inr (.inr (.inl ?_))⟩
  rcases ho.1.2 with ⟨e', _⟩ | ⟨g', c, cur, e', _, hh, _⟩
  · rw [e'] at hk; cases hk
  · rw [e'] at hk; cases hk
    exact ⟨cur, _, hh, hno _ (by rw [e']; rfl)⟩

theorem push_store {w wc : World} {S Q : Nat} {vo : Value} {M B : Nat} {L : Int} {bs : Nat} {os : List Opd} {kk slot : Int} {n : Nat} {No : Nat → Prop} {G : Int → List Int} {v : Value} {a1 : Option Addr} {j c1 : Nat}
    (hst : StV wc S vo (.map (some M)) B L bs os n No) (hQ : wc.heap[Q]? = some (.cells #[.bool false, .int .i32 kk, .int .i32 slot] 35 (0, 0))) (hF : Fr B S No w wc) (hI : GInv L bs os G) (hBM : B ≤ M) {es : Array MapEntry} {clk : Nat} (hMb : wc.heap[M]? = some (.map es clk))
    (hsL : slot < L) (hb : bs + os.length ≤ 3000) (hNo : ∀ g, No g → g < w.heap.size)
    (HO : wc.ownsInts (M + 1) 21 .i32 v (G slot)) (hlen : (G slot).length ≤ n) (hno : ∀ g, v.ownBlock = some g → ¬ No g)
    (HB : ∀ (w1 : World) (v' : Value) (zs' : List Int), wc.grownBy w1 v.ownBlock → w1.ownsInts (M + 1) 21 .i32 v' zs' → zs'.length ≤ n + 1 → (v'.ownBlock = v.ownBlock ∨ ∃ g, v'.ownBlock = some g ∧ wc.heap.size ≤ g) → (∀ g, v'.ownBlock = some g → ¬ No g) →
        ∃ w2, (Instr.mapUpdate 25 (.map (some M)) (.int .i32 slot) v').run Yba.prog w1 = .ok () w2 ∧ Grp w2 M (M + 1) (n + 1) No (upd G slot zs') ∧ w1.grownBy w2 (some M))
    (hjl : j ≤ (G slot).length) (hob : (Value.slice a1 j c1).ownBlock = v.ownBlock) (hlo : ∀ y ∈ (G slot).take j, y < (bs : Int) + os.length) (hhi : ∀ y ∈ (G slot).drop j, (bs : Int) + os.length ≤ y)
    (w1 : World) (g cap : Nat) (hgr : wc.grownBy w1 (Value.slice a1 j c1).ownBlock) (hown : w1.ownsRow (M + 1) 21 1 (.slice (some ⟨g, 0, none⟩) (j + 1) cap) (j + 1) (((G slot).take j).map (Value.int .i32) ++ [.int .i32 ((bs : Int) + os.length)]))
    (hat : (Value.slice a1 j c1).ownBlock = some g ∨ wc.heap.size ≤ g) :
    ∃ w2, (Instr.mapUpdate 25 (.map (some M)) (.int .i32 slot) (.slice (some ⟨g, 0, none⟩) (j + 1) cap)).run Yba.prog w1 = .ok () w2 ∧ Mid w2 S Q vo (.map (some M)) B L bs os (false, kk, slot) (n + 1) No ∧ Fr B S No w w2 ∧
      w1.heap[S]? = wc.heap[S]? ∧ w1.heap[Q]? = wc.heap[Q]? ∧ w2.heap[S]? = wc.heap[S]? ∧ w2.heap[Q]? = wc.heap[Q]? := by
  rw [hob] at hgr hat
  have hzl : ((G slot).take j).length = j := by rw [List.length_take]; omega
  have hoi : w1.ownsInts (M + 1) 21 .i32 (.slice (some ⟨g, 0, none⟩) (j + 1) cap) ((G slot).take j ++ [(bs : Int) + os.length]) := by
    refine ⟨?_, fun z hz => ?_⟩
    · rw [List.length_append, hzl, List.map_append]
      exact hown
    · rcases List.mem_append.1 hz with hz | hz
      · exact HO.2 z (List.mem_of_mem_take hz)
      · simp at hz
        subst hz
        apply WalkArith.wf_i32
        omega
  obtain ⟨w2, hrun, hG2, hgr2⟩ := HB w1 _ _ hgr hoi (by rw [List.length_append, hzl]; simp; omega)
    (by rcases hat with h | h; exact .inl h.symm; exact .inr ⟨g, rfl, h⟩)
    (fun g' hg' hN => by
      cases hg'
      rcases hat with h | h
      · exact hno g h hN
      · have h1 := hNo g hN
        have h2 := hF.bel.size
        omega)
  have hM1 : w1.heap[M]? = some (.map es clk) := (other21 HO hgr M _ hMb (fun cs e => by cases e)).trans hMb
  have o1 : ∀ (k : Nat) (o : Obj), wc.heap[k]? = some o → (∀ cs, o ≠ .cells cs 21 (0, 0)) → w1.heap[k]? = wc.heap[k]? := other21 HO hgr
  have o2 : ∀ (k : Nat) (o : Obj), wc.heap[k]? = some o → (∀ cs, o ≠ .cells cs 21 (0, 0)) → (∀ es c, o ≠ .map es c) → w2.heap[k]? = wc.heap[k]? := fun k o hk h1 h2 =>
    (otherMap hM1 hgr2 k o ((o1 k o hk h1).trans hk) h2).trans (o1 k o hk h1)
  have s1 := o1 S _ hst.blk (fun cs e => by cases e)
  have s2 := o2 S _ hst.blk (fun cs e => by cases e) (fun es c e => by cases e)
  have q1 := o1 Q _ hQ (fun cs e => by cases e)
  have q2 := o2 Q _ hQ (fun cs e => by cases e) (fun es c e => by cases e)
  refine ⟨w2, hrun, ⟨hst.low, s2.trans hst.blk, rowKept hst.ops (fun k cs _ hk => o2 k _ hk (fun cs e => by cases e) (fun es c e => by cases e)), .inr ⟨M, _, rfl, hBM, hG2, ?_⟩, q2.trans hQ⟩, ?_, s1, q1, s2, q2⟩
  · exact ginv_push hI (false, kk, slot) hsL j hlo hhi
  · exact hF.trans (Fr.list (n := 0) hBM (lt_of_heap hMb) HO hno hgr hgr2 hM1 rfl)

def lenOf : Value → Nat
  | .slice _ n _ => n
  | _ => 0

set_option maxRecDepth 100000 in
theorem push_loc (w : World) (S : Nat) (vo vm : Value) (B : Nat) (L : Int) (bs : Nat) (os : List Opd) (n : Nat) (No : Nat → Prop) (h : StV w S vo vm B L bs os n No) (hB : B ≤ w.heap.size) (kk slot : Int) (hs0 : -1 ≤ slot) (hsL : slot < L) (hL : 1 ≤ L ∧ L ≤ 16) (hn : n ≤ 3000) (hb : bs + os.length ≤ 3000) (hNo : ∀ g, No g → g < w.heap.size) :
    Calls Yba.prog 4 #[.pointer (some ⟨S, 0, none⟩), aggO (false, kk, slot)] w fun e w' => e = .returned (.tuple #[]) ∧ St w' S B L bs (os ++ [(false, kk, slot)]) (n + 1) No ∧ Fr B S No w w' := by
  have hS := lt_of_heap h.blk
  have h0 := h.c0
  have h3 := h.c3
  have f3 := h.free 3
  obtain ⟨i0, hi, hz0, hz1, hz2⟩ := info_parts info35
  obtain ⟨i1, hj, hy0, hy1, hy2⟩ := info_parts info21
  obtain ⟨q, rfl⟩ : ∃ q, vm = .map q := by
    rcases h.map with ⟨e, _⟩ | ⟨M, _, e, _⟩
    · exact ⟨_, e⟩
    · exact ⟨_, e⟩
  have hE1 := eqg_map q
  have hE2 := eq_map q
  unfold aggO
  go_enter Yba.func4, Yba.ntmps4
  go_wp2
  go_quiet (fail)
  go_upto_if 17 with fail
  go_cut [] (fun wc => ∃ vm', Mid wc S w.heap.size vo vm' B L bs os (false, kk, slot) (n + 1) No ∧ Fr B S No w wc)
  case first =>
    go_upto_if 22 with fail
    go_cut [] (fun wd => ∃ M G, Rdy wd S w.heap.size vo M B L bs os (false, kk, slot) n No G ∧ Fr B S No w wd)
    case first =>
      rcases h.map with ⟨e, hI⟩ | ⟨M, G, e, hBM, hG, hI⟩ <;> cases e
      · have hMk := mk_map
        have hb1 : Below w.heap.size w ((w.alloc (.cells #[.bool false, .int .i32 kk, .int .i32 slot] 35)).drewN nq) := below_drewN ((Below.refl _ w).alloc (Nat.le_refl _) _) nq
        have hst := h.below hb1
        have HX := Hid.mk1 (Rdy.made (w' := (((w.alloc (.cells #[.bool false, .int .i32 kk, .int .i32 slot] 35)).drewN nq).setCell ⟨S, 3, none⟩ (.map (some (w.heap.size + 1)))).alloc (.map #[] 0)) (o := (false, kk, slot)) (Q := w.heap.size) hst (Nat.le_trans hB hb1.size) hI (heap_alloc_new _ _)
          ((Below.heap_alloc _ _ S (by simp; omega)).trans ((heap_set3 _ S _ _ _ _ _ hst.blk).trans (by simp))) (fun k hk => heap_set_alloc _ _ _ _ k hk) (by simp) rfl rfl rfl)
        clear hst
        go_wp2
        go_meet
        exact ⟨_, _, HX.out.1, (Fr.below hb1 hB).trans HX.out.2⟩
      · go_wp2
        go_meet
        have hb1 : Below w.heap.size w ((w.alloc (.cells #[.bool false, .int .i32 kk, .int .i32 slot] 35)).drewN nq) := below_drewN ((Below.refl _ w).alloc (Nat.le_refl _) _) nq
        have hst := h.below hb1
        exact ⟨M, G, ⟨hst, hBM, hG.kept (hb1.block M hG.lt.1) (fun g _ hg _ => hb1.block g (lt_of_heap hg)), hI, heap_alloc_new _ _⟩, Fr.below hb1 hB⟩
    case rest =>
      obtain ⟨M, G, hR, hF⟩ := hcut
      clear h0 h3 f3 h hE1 hE2
      have hwf : (Lit.int .i32 slot).wf = true := by
        apply WalkArith.wf_i32
        omega
      go_upto_region 5 with (go_at_call 9; refine (depth_any wc S vo _ B L bs os hR.st.toB hb).mono ?_; rintro e w' ⟨rfl, i, rfl⟩)
      have q2 : wc.cell? ⟨w.heap.size, 2, none⟩ = some (.int .i32 slot) := by rw [cell_of_row wc _ 2 _ _ _ hR.opd]; rfl
      have c3 := hR.st.c3
      obtain ⟨v, hrun, hoi, hlen, hno, hback⟩ := Grp.look (w := wc.drewN (i + 1)) (hR.grp.kept rfl (fun _ _ _ _ => rfl)) (by unfold maxLen; omega) slot hwf
      have HB := Hid.mk1 hback
      have HO := Hid.mk1 hoi
      clear hback hoi
      go_region
      have hst5 : StV (wc.drewN (i + 1)) S vo (.map (some M)) B L bs os n No := hR.st.below (below_drewN (Below.refl _ _) _)
      have hQ5 : (wc.drewN (i + 1)).heap[w.heap.size]? = some (.cells #[.bool false, .int .i32 kk, .int .i32 slot] 35 (0, 0)) := hR.opd
      have hF5 : Fr B S No w (wc.drewN (i + 1)) := hF.trans (Fr.below (below_drewN (Below.refl _ _) _) (Nat.le_trans hB hF.bel.size))
      have hI := hR.inv
      have hBM := hR.bm
      have hMlt : M < (wc.drewN (i + 1)).heap.size := hR.grp.lt.1
      have hMM := hR.grp.lt.2.2
      obtain ⟨es, clk, hMb⟩ : ∃ es c, (wc.drewN (i + 1)).heap[M]? = some (.map es c) := hMM
      clear hR hF c3 q2 hrun
      generalize wc.drewN (i + 1) = w5 at *
      obtain ⟨a, c, rfl⟩ : ∃ a c, v = .slice a (G slot).length c := by
        rcases HO.out.1.2 with ⟨e, h0⟩ | ⟨g, cap, cur, e, _⟩
        · exact ⟨none, 0, by rw [e, h0]⟩
        · exact ⟨_, _, e⟩
      go_upto_block 0 with fail
      go_cut [5] from 37 to 54 (fun sl w6 => w6 = w5 ∧ ∃ a1 c1 j, sl = .slice a1 j c1 ∧ j ≤ (G slot).length ∧ w5.ownsInts (M + 1) 21 .i32 (.slice a1 j c1) ((G slot).take j) ∧ (Value.slice a1 j c1).ownBlock = (Value.slice a (G slot).length c).ownBlock ∧ (∀ y ∈ (G slot).take j, y < (bs : Int) + os.length) ∧ ∀ y ∈ (G slot).drop j, (bs : Int) + os.length ≤ y)
      case first =>
        go_wp2
        go_loop [5] (fun sl => ∃ a1 c1 j, sl = .slice a1 j c1 ∧ j ≤ (G slot).length ∧ w5.ownsInts (M + 1) 21 .i32 (.slice a1 j c1) ((G slot).take j) ∧ (Value.slice a1 j c1).ownBlock = (Value.slice a (G slot).length c).ownBlock ∧ ∀ y ∈ (G slot).drop j, (bs : Int) + os.length ≤ y) (fun sl => lenOf sl)
        case atStart => exact ⟨a, c, _, rfl, Nat.le_refl _, by rw [List.take_length]; exact HO.out, rfl, fun y hy => by simp at hy⟩
        case round =>
          obtain ⟨a1, c1, j, rfl, hjl, hoj, hob, hd⟩ := hrel
          cases j with
          | zero =>
            go_wp2
            go_meet
            exact ⟨rfl, _, _, 0, rfl, hjl, hoj, hob, fun y hy => by simp at hy, hd⟩
          | succ j =>
            have hzl : ((G slot).take (j + 1)).length = j + 1 := by rw [List.length_take]; omega
            obtain ⟨z, hz⟩ : ∃ z, (G slot)[j]? = some z := ⟨_, List.getElem?_eq_getElem (by omega)⟩
            obtain ⟨g, rfl, hcut, hcell, hc1, hjc⟩ := last_row hoj hzl hz
            unfold maxLen at hc1
            by_cases hzt : (bs : Int) + os.length ≤ z
            · go_wp2
              go_round
              case rel => exact ⟨_, _, j, rfl, by omega, hcut, hob, drop_high _ _ _ _ hz hzt hd⟩
              case measure => simp [lenOf]
            · have hzf : decide ((bs : Int) + os.length ≤ z) = false := by simp; omega
              go_wp2
              go_meet
              exact ⟨rfl, _, _, j + 1, rfl, hjl, hoj, hob, take_low _ (hI.up slot hsL) _ _ _ hz (by omega), hd⟩
      case rest =>
        obtain ⟨rfl, a1, c1, j, rfl, hjl, hoj, hob, hlo, hhi⟩ := hcut
        have hzl : ((G slot).take j).length = j := by rw [List.length_take]; omega
        have hc3 := hst5.c3
        have hq2 : wc.cell? ⟨w.heap.size, 2, none⟩ = some (.int .i32 slot) := by rw [cell_of_row wc _ 2 _ _ _ hQ5]; rfl
        have hjo := hoj.1
        rw [hzl] at hjo
        have HP := Hid.mk1 (push_store hst5 hQ5 hF5 hI hBM hMb hsL hb hNo HO.out hlen hno HB.out hjl hob hlo hhi)
        go_upto_region 8 with fail
        go_region_held_law (fun w' => w'.cell? ⟨S, 3, none⟩ = some (.map (some M)) ∧ w'.cell? ⟨w.heap.size, 2, none⟩ = some (.int .i32 slot)) (first | go_keep | assumption)
          (first | (refine step_append_lies _ rfl _ _ _ rfl (M + 1) 21 i1 _ 1 4 Yba.underlying29 hj hy0 hy1 hy2 rfl (by decide) _ j (((G slot).take j).map (Value.int .i32)) rfl (ownsRow_drew (hjo.alloc _)) _ 1 1 [.int .i32 ((bs : Int) + os.length)] rfl rfl (World.news_of_block (heap_alloc_new wc _)) (by simp [Value.oneCell']) (by decide) (by unfold maxLen; omega) (by omega) (by simp; omega) _ rfl ?_; intro g cap w1 hown1 hgrow hat _; obtain ⟨w2, hrun2, hM2, hF2, s1, q1, s2, q2⟩ := HP.out w1 g cap (grown_alloc hgrow) hown1 (by rcases hat with h | h; exact .inl h; exact .inr (by rw [h]; simp)); have t1 : w1.cell? ⟨S, 3, none⟩ = some (.map (some M)) ∧ w1.cell? ⟨w.heap.size, 2, none⟩ = some (.int .i32 slot) := ⟨(World.cell?_of_block s1).trans hc3, (World.cell?_of_block q1).trans hq2⟩; have t2 : w2.cell? ⟨S, 3, none⟩ = some (.map (some M)) ∧ w2.cell? ⟨w.heap.size, 2, none⟩ = some (.int .i32 slot) := ⟨(World.cell?_of_block s2).trans hc3, (World.cell?_of_block q2).trans hq2⟩))
        go_wp2
        go_meet
        exact ⟨_, hM2, hF2⟩
  case rest =>
    obtain ⟨vm', hM, hF⟩ := hcut
    clear h0 h h3 f3 hE1 hE2
    have hown := hM.ops
    have hQ : ∀ j u, [Value.bool false, .int .i32 kk, .int .i32 slot][j]? = some u → wc.cell? ⟨w.heap.size, j, none⟩ = some u := fun j u hu => by
      rw [cell_of_row wc _ j _ _ _ hM.opd]
      simpa using hu
    have q0 := hQ 0 _ rfl
    have q1 := hQ 1 _ rfl
    have q2 := hQ 2 _ rfl
    have c2 : wc.cell? ⟨S, 2, none⟩ = some vo := by rw [cell_of_row wc S 2 _ _ _ hM.blk]; rfl
    have f2 : wc.frozen? ⟨S, 2, none⟩ = false := frozen_of_row wc S 2 _ 27 hM.blk
    obtain ⟨a, c, rfl⟩ : ∃ a c, vo = .slice a os.length c := by
      rcases hM.ops.2 with ⟨e, h0⟩ | ⟨g, cap, cur, e, _⟩
      · exact ⟨none, 0, by rw [e, h0]⟩
      · exact ⟨_, _, e⟩
    clear hQ
    have e2 := cell_alloc_old wc (.cells #[.bool false, .int .i32 kk, .int .i32 slot] 35) _ _ c2
    go_wp2
    go_region_law (refine step_append_lies _ rfl _ _ _ rfl B 35 i0 _ 3 12 Yba.underlying24 hi hz0 hz1 hz2 rfl (by decide) _ os.length (ocells os) rfl (ownsRow_drew (hown.alloc _)) _ 1 1 [.bool false, .int .i32 kk, .int .i32 slot] rfl rfl (World.news_of_block (heap_alloc_new wc _)) (by simp [Value.oneCell']) (by decide) (by unfold maxLen; omega) (by omega) (by simp; have := hF.bel.size; omega) _ rfl ?_; intro g cap w1 hown1 hgrow _ _; have hgr := grown_alloc hgrow; have hS1 := far_blk hM.blk hown hgr; have c2' : w1.cell? ⟨S, 2, none⟩ = some (.slice a os.length c) := (cell_of_row w1 S 2 _ _ _ hS1).trans rfl; have f2' := frozen_of_row w1 S 2 _ 27 hS1)
    all_goals
      go_end0
      have hD := hM.done (Nat.le_trans hB hF.bel.size) _ hown1 hgr rfl rfl rfl rfl
      exact ⟨rfl, hD.1, hF.trans hD.2⟩
end Go.Proofs.Ybulkbbyq
