/-
  The law's relation: the stack and the model's two lists. No walk.
-/
import Derived.Test.YbulkbbyqCheck
namespace Go.Proofs.Ybulkbbyq
open Go.ChangeShapes Go.WideShapes Go.ChangeAt Go.RowKit Plain

/-- a step that turns one row alone, none of the stack's. -/
theorem St.turn {w w' : World} {S B : Nat} {L : Int} {bs : Nat} {os : List Opd} {n : Nat} {No : Nat → Prop} {row : Option Nat} (h : St w S B L bs os n No) (hg : w.grownBy w' row) (hr : ∀ g, row = some g → ∃ cs e, w.heap[g]? = some (.cells cs e (0, 0)) ∧ (e = 4 ∨ (e = 21 ∧ No g))) : St w' S B L bs os n No := by
  obtain ⟨vo, vm, h⟩ := h
  have ho : ∀ (k : Nat) (o : Obj), w.heap[k]? = some o → (∀ cs, o ≠ .cells cs 4 (0, 0)) → (∀ cs, o = .cells cs 21 (0, 0) → ¬ No k) → w'.heap[k]? = w.heap[k]? := fun k o hk h4 h21 => hg.block k (lt_of_heap hk) (fun e => by
    obtain ⟨cs, t, hcs, ht⟩ := hr k e.symm
    rw [hcs] at hk
    have ek := Option.some.inj hk
    rcases ht with rfl | ⟨rfl, hN⟩
    · exact h4 cs ek.symm
    · exact h21 cs ek.symm hN)
  refine ⟨vo, vm, h.kept (ho S _ h.blk (fun cs e => by cases e) (fun cs e => by cases e)) (fun M es c hM => ho M _ hM (fun cs e => by cases e) (fun cs e => by cases e)) (fun g cs hg => ho g _ hg (fun cs e => by cases e) (fun cs e => by cases e)) (fun g cs hg hN => ho g _ hg (fun cs e => by cases e) (fun _ _ => hN))⟩
theorem St.reno {w : World} {S B : Nat} {L : Int} {bs : Nat} {os : List Opd} {n : Nat} {No No' : Nat → Prop} (h : St w S B L bs os n No) (hn : ∀ g, No' g → No g ∨ w.heap.size ≤ g) : St w S B L bs os n No' := by
  obtain ⟨vo, vm, h⟩ := h
  refine ⟨vo, vm, h.low, h.blk, h.ops, ?_⟩
  rcases h.map with h | ⟨M, G, e, hB, hg, hi⟩
  · exact .inl h
  · exact .inr ⟨M, G, e, hB, hg.reno hn, hi⟩
theorem St.alloc {w : World} {S B : Nat} {L : Int} {bs : Nat} {os : List Opd} {n : Nat} {No : Nat → Prop} (h : St w S B L bs os n No) (o : Obj) : St (w.alloc o) S B L bs os n No := h.below ((Below.refl _ w).alloc (Nat.le_refl _) o)
theorem St.no27 {w : World} {S B : Nat} {L : Int} {bs : Nat} {os : List Opd} {n : Nat} {No : Nat → Prop} (h : St w S B L bs os n No) (e : TypeId) (he : e ≠ 27) (cs : Array Value) : w.heap[S]? = some (.cells cs e (0, 0)) → False := fun hh => by
  obtain ⟨vo, vm, h⟩ := h
  rw [h.blk] at hh
  simp at hh
  exact he hh.2.symm

/-- the block of an owned row. -/
theorem rowBlk {w : World} {base : Nat} {e : TypeId} {size : Nat} {v : Value} {n : Nat} {xs : List Value} (h : w.ownsRow base e size v n xs) (g : Nat) (hg : v.ownBlock = some g) : base ≤ g ∧ ∃ cs, w.heap[g]? = some (.cells cs e (0, 0)) := by
  rcases h.2 with ⟨e, _⟩ | ⟨g', c, cur, e, hb, hh, _⟩
  · rw [e] at hg; cases hg
  · rw [e] at hg; cases hg; exact ⟨hb, cur, hh⟩
/-- an owned row of another type is kept. -/
theorem rowFar {w w' : World} {base base' : Nat} {e e' : TypeId} {size size' : Nat} {v v' : Value} {n n' : Nat} {xs xs' : List Value} (h : w.ownsRow base e size v n xs) (h' : w.ownsRow base' e' size' v' n' xs') (hg : w.grownBy w' v'.ownBlock) (hne : e ≠ e') : w'.ownsRow base e size v n xs :=
  rowKept h (fun g cs _ hh => hg.block g (lt_of_heap hh) (fun e1 => by
    obtain ⟨_, cs', hcs⟩ := rowBlk h' g e1.symm
    rw [hcs] at hh
    simp at hh
    exact hne hh.2.symm))

abbrev NoOf (vs : Value) : Nat → Prop := fun g => vs.ownBlock = some g

/-- THE RELATION. -/
structure Inv (w wr : World) (L : Int) (vi vs : Value) (bs : Nat) (os : List Opd) (n m : Nat) (ims : List Bool) (sls : List Int) : Prop where
  st : St wr w.heap.size w.heap.size L bs os n (NoOf vs)
  im : wr.ownsRow w.heap.size 4 1 vi m (ims.map Value.bool)
  sl : wr.ownsRow w.heap.size 21 1 vs m (sls.map (Value.int .i32))
  bel : Below w.heap.size w wr

/-- behind a step of the stack. -/
theorem Inv.fr {w wr w1 : World} {L : Int} {vi vs : Value} {bs bs' : Nat} {os os' : List Opd} {n n' m : Nat} {ims : List Bool} {sls : List Int} (h : Inv w wr L vi vs bs os n m ims sls) (hst : St w1 w.heap.size w.heap.size L bs' os' n' (NoOf vs)) (hF : Fr w.heap.size w.heap.size (NoOf vs) wr w1) : Inv w w1 L vi vs bs' os' n' m ims sls :=
  ⟨hst, hF.row h.im (h.st.no27 4 (by decide)) (by decide) (fun e => by cases e), hF.row h.sl (h.st.no27 21 (by decide)) (by decide) (fun _ _ hg => hg), h.bel.trans hF.bel⟩
theorem Inv.below {w wr w1 : World} {L : Int} {vi vs : Value} {bs : Nat} {os : List Opd} {n m : Nat} {ims : List Bool} {sls : List Int} (h : Inv w wr L vi vs bs os n m ims sls) (hb : Below wr.heap.size wr w1) : Inv w w1 L vi vs bs os n m ims sls :=
  ⟨h.st.below hb, rowBelow h.im hb, rowBelow h.sl hb, h.bel.trans (hb.mono h.bel.size)⟩
theorem Inv.alloc {w wr : World} {L : Int} {vi vs : Value} {bs : Nat} {os : List Opd} {n m : Nat} {ims : List Bool} {sls : List Int} (h : Inv w wr L vi vs bs os n m ims sls) (o : Obj) : Inv w (wr.alloc o) L vi vs bs os n m ims sls := h.below ((Below.refl _ wr).alloc (Nat.le_refl _) o)

/-- behind the append to the flags: the slots are as they were. -/
structure InvA (w wr : World) (L : Int) (vi vs : Value) (bs : Nat) (os : List Opd) (n m : Nat) (ims : List Bool) (sls : List Int) : Prop where
  st : St wr w.heap.size w.heap.size L bs os n (NoOf vs)
  im : wr.ownsRow w.heap.size 4 1 vi (m + 1) (ims.map Value.bool)
  sl : wr.ownsRow w.heap.size 21 1 vs m (sls.map (Value.int .i32))
  bel : Below w.heap.size w wr
theorem Inv.flag {w wr w2 : World} {L : Int} {vi vi' vs : Value} {bs : Nat} {os : List Opd} {n m : Nat} {ims : List Bool} {sls : List Int} {b : Bool} (h : Inv w wr L vi vs bs os n m ims sls) (hg : wr.grownBy w2 vi.ownBlock) (hown : w2.ownsRow w.heap.size 4 1 vi' (m + 1) (ims.map Value.bool ++ [.bool b])) : InvA w w2 L vi' vs bs os n m (ims ++ [b]) sls := by
  refine ⟨h.st.turn hg (fun g hgg => ?_), by rw [List.map_append]; exact hown, rowFar h.sl h.im hg (by decide), h.bel.grown hg h.bel.size (fun g hgg => (rowBlk h.im g hgg).1)⟩
  obtain ⟨_, cs, hcs⟩ := rowBlk h.im g hgg
  exact ⟨cs, 4, hcs, .inl rfl⟩
theorem InvA.alloc {w wr : World} {L : Int} {vi vs : Value} {bs : Nat} {os : List Opd} {n m : Nat} {ims : List Bool} {sls : List Int} (h : InvA w wr L vi vs bs os n m ims sls) (o : Obj) : InvA w (wr.alloc o) L vi vs bs os n m ims sls :=
  ⟨h.st.alloc o, h.im.alloc o, h.sl.alloc o, h.bel.alloc h.bel.size o⟩
theorem InvA.slot {w wr w2 : World} {L : Int} {vi vs vs' : Value} {bs : Nat} {os : List Opd} {n m : Nat} {ims : List Bool} {sls : List Int} {z : Int} (h : InvA w wr L vi vs bs os n m ims sls) (hg : wr.grownBy w2 vs.ownBlock) (hown : w2.ownsRow w.heap.size 21 1 vs' (m + 1) (sls.map (Value.int .i32) ++ [.int .i32 z])) (hat : vs'.ownBlock = vs.ownBlock ∨ vs'.ownBlock = some wr.heap.size) : Inv w w2 L vi vs' bs os n (m + 1) ims (sls ++ [z]) := by
  refine ⟨?_, rowFar h.im h.sl hg (by decide), by rw [List.map_append]; exact hown, h.bel.grown hg h.bel.size (fun g hgg => (rowBlk h.sl g hgg).1)⟩
  have h1 : St wr w.heap.size w.heap.size L bs os n (fun g => NoOf vs g ∨ g = wr.heap.size) := h.st.reno (fun g hN => by
    rcases hN with h | rfl
    · exact .inl h
    · exact .inr (Nat.le_refl _))
  have h2 := h1.turn hg (fun g hgg => by
    obtain ⟨_, cs, hcs⟩ := rowBlk h.sl g hgg
    exact ⟨cs, 21, hcs, .inr ⟨rfl, .inl hgg⟩⟩)
  refine h2.reno (fun g hN => .inl ?_)
  have hN' : vs'.ownBlock = some g := hN
  rcases hat with e | e
  · exact .inl (by show vs.ownBlock = some g; rw [← e]; exact hN')
  · right
    rw [e] at hN'
    exact (Option.some.inj hN').symm
/-- both lists cut. -/
theorem Inv.cut {w wr : World} {L : Int} {ai az : Option Addr} {ci cz : Nat} {bs : Nat} {os : List Opd} {n m : Nat} {ims : List Bool} {sls : List Int} (h : Inv w wr L (.slice ai m ci) (.slice az m cz) bs os n m ims sls) (j : Nat) (hj : j ≤ m) : Inv w wr L (.slice ai j ci) (.slice az j cz) bs os n j (ims.take j) (sls.take j) := by
  refine ⟨h.st.reno (fun g hN => .inl ?_), ?_, ?_, h.bel⟩
  · cases az <;> exact hN
  · rcases h.im.2 with ⟨e, h0⟩ | ⟨g, c, cur, e, _⟩
    · have hl := h.im.1
      subst h0
      obtain rfl : j = 0 := by omega
      cases e
      rw [List.take_zero]
      exact World.ownsRow_nil _ _ _ _
    · cases e
      have := cutRow (m := j) h.im hj
      rwa [Nat.mul_one, ← List.map_take] at this
  · rcases h.sl.2 with ⟨e, h0⟩ | ⟨g, c, cur, e, _⟩
    · have hl := h.sl.1
      subst h0
      obtain rfl : j = 0 := by omega
      cases e
      rw [List.take_zero]
      exact World.ownsRow_nil _ _ _ _
    · cases e
      have := cutRow (m := j) h.sl hj
      rwa [Nat.mul_one, ← List.map_take] at this
/-- one flag and one slot written. -/
theorem Inv.set {w wr : World} {L : Int} {gi gz ci cz : Nat} {bs : Nat} {os : List Opd} {n m : Nat} {ims : List Bool} {sls : List Int} (h : Inv w wr L (.slice (some ⟨gi, 0, none⟩) m ci) (.slice (some ⟨gz, 0, none⟩) m cz) bs os n m ims sls) (j : Nat) (b : Bool) (z : Int) :
    Inv w ((wr.setCell ⟨gi, j, none⟩ (.bool b)).setCell ⟨gz, j, none⟩ (.int .i32 z)) L (.slice (some ⟨gi, 0, none⟩) m ci) (.slice (some ⟨gz, 0, none⟩) m cz) bs os n m (ims.set j b) (sls.set j z) := by
  obtain ⟨s1, g1⟩ := h.im.stored j (.bool b)
  have r1 : (wr.setCell ⟨gi, j, none⟩ (.bool b)).ownsRow w.heap.size 21 1 (.slice (some ⟨gz, 0, none⟩) m cz) m (sls.map (Value.int .i32)) := rowFar h.sl h.im g1 (by decide)
  have t1 := h.st.turn g1 (fun g hgg => by
    obtain ⟨_, cs, hcs⟩ := rowBlk h.im g hgg
    exact ⟨cs, 4, hcs, .inl rfl⟩)
  obtain ⟨s2, g2⟩ := r1.stored j (.int .i32 z)
  have r2 := rowFar s1 r1 g2 (by decide)
  have t2 := t1.turn g2 (fun g hgg => by
    obtain ⟨_, cs, hcs⟩ := rowBlk r1 g hgg
    exact ⟨cs, 21, hcs, .inr ⟨rfl, hgg⟩⟩)
  refine ⟨t2, by rw [List.map_set]; exact r2, by rw [List.map_set]; exact s2, (h.bel.setCell ?_ _).setCell ?_ _⟩
  · exact (rowBlk h.im gi rfl).1
  · exact (rowBlk h.sl gz rfl).1
end Go.Proofs.Ybulkbbyq
