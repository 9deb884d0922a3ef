/-
  The stack in memory: the map of lists (Grp), the stack's block (St), what each step keeps (Fr). No walk.
-/
import Derived.Test.YbulkbbyqChecked
import Derived.Test.YbulkbbyqPlain
import Derived.Maps.GroupsBeside
import Derived.Deep.AppendLies
import Derived.Below
import Derived.KernelRfl
namespace Go.Proofs.Ybulkbbyq
open Go.RowKit Go.WideElems Go.Maps Plain

theorem zero29 (w : World) : (zeroValue 29).run Yba.prog w = .ok (.slice none 0 0) w := by kernel_rfl
theorem keys21 : Keyed Yba.prog 21 := int_keyed Yba.underlying21

/-- the integers of a slice's datum. -/
def items : DataW Unit → List Int
  | .slice xs _ => xs.map (fun d => match d with
    | .lit (.int _ z) => z
    | _ => 0)
  | _ => []

theorem items_row {w : World} {base : Nat} {v : Value} {zs : List Int} (h : w.ownsInts base 21 .i32 v zs) : items (rowDatum .i32 v zs) = zs := by
  rcases h.datum (H := Unit) with ⟨e, rfl⟩ | e
  · rw [e]; rfl
  · rw [e]
    show (List.map _ (ChangeShapes.lits IntKind.i32 zs)) = zs
    unfold ChangeShapes.lits
    rw [List.map_map]
    exact (List.map_congr_left (fun _ _ => rfl)).trans (List.map_id zs)

/-- BLOCK M IS A MAP WHOSE LIST AT x IS G x. -/
def Grp (w : World) (M base n : Nat) (No : Nat → Prop) (G : Int → List Int) : Prop :=
  ∃ D : DataW Unit, w.ownsGroups Yba.prog 21 base 21 .i32 M n D ∧ IsMap D ∧ w.Shuns M No ∧ ∀ x, (Lit.int .i32 x).wf = true → items (D.atKey (.int .i32 x) .nil) = G x

theorem Grp.lt {w : World} {M base n : Nat} {No : Nat → Prop} {G : Int → List Int} (h : Grp w M base n No G) : M < w.heap.size ∧ M < base ∧ ∃ es c, w.heap[M]? = some (.map es c) := by
  obtain ⟨D, ⟨es, c, hb, _, _, _, hbb, _⟩, _⟩ := h
  exact ⟨(Array.getElem?_eq_some_iff.1 hb).1, hbb, es, c, hb⟩

theorem Grp.kept {w w' : World} {M base n : Nat} {No : Nat → Prop} {G : Int → List Int} (h : Grp w M base n No G) (hM : w'.heap[M]? = w.heap[M]?)
    (hr : ∀ (g : Nat) cs, w.heap[g]? = some (.cells cs 21 (0, 0)) → ¬ No g → w'.heap[g]? = w.heap[g]?) : Grp w' M base n No G := by
  obtain ⟨D, ⟨es, clock, hb, F, hs, rfl, hbb, hlen, hap⟩, hm, hsh, hD⟩ := h
  have hk : ∀ x ∈ es.toList, ∀ zs, w.ownsInts base 21 .i32 x.val zs → w'.ownsInts base 21 .i32 x.val zs := by
    intro x hx zs ho
    refine ⟨⟨ho.1.1, ?_⟩, ho.2⟩
    rcases ho.1.2 with hn | ⟨g, cap, cur, hv, h1, hg, rest⟩
    · exact .inl hn
    · refine .inr ⟨g, cap, cur, hv, h1, ?_, rest⟩
      rw [hr g cur hg (hsh es clock hb x hx g (by rw [hv]; rfl))]
      exact hg
  have hst : ∀ x ∈ es.toList, ∀ z, rowElem (H := Unit) w base 21 .i32 x.val = some z → rowElem w' base 21 .i32 x.val = some z := fun x hx z hz => by
    obtain ⟨zs, ho, rfl⟩ := rowElem_inv hz
    exact rowElem_mk (hk x hx zs ho)
  obtain ⟨F1, hmap, _⟩ := F.stay hst
  refine ⟨_, ⟨es, clock, hM.trans hb, F1, hs, by rw [hmap], hbb, fun x hx zs ho => ?_, hap⟩, hm, fun es' c' hb' => hsh es' c' (hM.symm.trans hb'), hD⟩
  obtain ⟨y, hy⟩ := F.reads x hx
  obtain ⟨z, hz, _⟩ := rd_val hy
  obtain ⟨zs0, ho0, _⟩ := rowElem_inv hz
  rw [ho.unique (hk x hx zs0 ho0)]
  exact hlen x hx zs0 ho0

/-- another 'No'. -/
theorem Grp.reno {w : World} {M base n : Nat} {No No' : Nat → Prop} {G : Int → List Int} (h : Grp w M base n No G) (hn : ∀ g, No' g → No g ∨ w.heap.size ≤ g) : Grp w M base n No' G := by
  obtain ⟨D, ho, hm, hsh, hD⟩ := h
  exact ⟨D, ho, hm, hsh.reno ho hn, hD⟩

theorem Grp.made (w : World) (No : Nat → Prop) : Grp (w.alloc (.map #[] 0)) w.heap.size (w.heap.size + 1) 0 No (fun _ => []) :=
  ⟨.map [], World.ownsGroups_made w _ _ _ _, isMap_empty, World.Shuns_made w No, fun _ _ => rfl⟩

/-- THE LOOK-UP, AND THE WAY BACK. -/
theorem Grp.look {w : World} {M base n : Nat} {No : Nat → Prop} {G : Int → List Int} (h : Grp w M base n No G) (hn : n < maxLen) (x : Int) (hx : (Lit.int .i32 x).wf = true) :
    ∃ v, (Instr.lookup 25 (.map (some M)) (.int .i32 x) false).run Yba.prog w = .ok v w ∧ w.ownsInts base 21 .i32 v (G x) ∧ (G x).length ≤ n ∧ (∀ g, v.ownBlock = some g → ¬ No g) ∧
      ∀ (w1 : World) (v' : Value) (zs' : List Int), w.grownBy w1 v.ownBlock → w1.ownsInts base 21 .i32 v' zs' → zs'.length ≤ n + 1 → (v'.ownBlock = v.ownBlock ∨ ∃ g, v'.ownBlock = some g ∧ w.heap.size ≤ g) → (∀ g, v'.ownBlock = some g → ¬ No g) →
        ∃ w2, (Instr.mapUpdate 25 (.map (some M)) (.int .i32 x) v').run Yba.prog w1 = .ok () w2 ∧ Grp w2 M base (n + 1) No (upd G x zs') ∧ w1.grownBy w2 (some M) := by
  obtain ⟨D, hown, hm, hsh, hD⟩ := h
  have hkey : keyOf Yba.prog 21 (.int .i32 x) = some (.int .i32 x) := keyOf_int_mk Yba.underlying21 hx
  obtain ⟨v, zs, hrun, hat, hoi, hzl, hback⟩ := hown.at keys21 Yba.underlying25 (zero29 w) hn hkey
  have hG : zs = G x := by rw [← hD x hx, hat, items_row hoi]
  subst hG
  have hno : ∀ g, v.ownBlock = some g → ¬ No g := by
    obtain ⟨es, clock, hb, F, _⟩ := hown
    rcases Maps.fit_look false keys21 Yba.underlying25 (zero29 w) hb F hkey with ⟨hrun', _, _⟩ | ⟨e0, y, hm0, _, hrun', _, _, _⟩
    · rw [hrun] at hrun'
      obtain rfl : v = .slice none 0 0 := by simpa using hrun'
      intro g hg'
      cases hg'
    · rw [hrun] at hrun'
      obtain rfl : v = e0.val := by simpa using hrun'
      exact fun g hg' => hsh es clock hb e0 hm0 g hg'
  refine ⟨v, hrun, hoi, hzl, hno, fun w1 v' zs' hgr hown' hl' hloc hno' => ?_⟩
  obtain ⟨w2, hrun2, r1, r2⟩ := hback w1 v' zs' hgr hown' hl' hloc
  refine ⟨w2, hrun2, ⟨_, r1, hm.put _ _, ?_, fun y hy => ?_⟩, r2⟩
  · obtain ⟨es, clock, hb, F, hs, _, hbb, _⟩ := hown
    have hblt : M < w.heap.size := (Array.getElem?_eq_some_iff.1 hb).1
    have hb1 : w1.heap[M]? = some (.map es clock) := (hgr.block M hblt (fun e1 => by have := (hoi.1.lt M e1.symm).1; omega)).trans hb
    obtain ⟨es', clock', hb2, hwho⟩ := stored_who keys21 Yba.underlying25 hb1 F (Nat.lt_of_le_of_lt hs hn) hkey hrun2
    intro es2 clock2 hb2' y hy g hyg
    obtain ⟨rfl, rfl⟩ : es' = es2 ∧ clock' = clock2 := by rw [hb2] at hb2'; simpa using hb2'
    rcases hwho y hy with ⟨hy0, _⟩ | ⟨_, hval⟩
    · exact hsh es clock hb y hy0 g hyg
    · exact hno' g (hval ▸ hyg)
  · by_cases e : y = x
    · subst e
      rw [atKey_put_same hm (by trivial), upd_same, items_row hown']
    · rw [atKey_put_other (by simpa using e), upd_other _ _ _ _ e]
      exact hD y hy

/-- the cells of the operands. -/
def ocells : List Opd → List Value
  | [] => []
  | o :: os => .bool o.1 :: .int .i32 o.2.1 :: .int .i32 o.2.2 :: ocells os

theorem ocells_length : ∀ os, (ocells os).length = os.length * 3
  | [] => rfl
  | o :: os => by simp [ocells, ocells_length os]; omega
theorem ocells_append : ∀ os os', ocells (os ++ os') = ocells os ++ ocells os'
  | [], _ => rfl
  | o :: os, os' => by simp [ocells, ocells_append os os']
theorem ocells_take : ∀ (os : List Opd) (m : Nat), (ocells os).take (m * 3) = ocells (os.take m)
  | [], m => by simp [ocells]
  | o :: os, 0 => by simp [ocells]
  | o :: os, m + 1 => by
    rw [show (m + 1) * 3 = m * 3 + 1 + 1 + 1 from by omega, List.take_succ_cons]
    simp only [ocells, List.take_succ_cons, ocells_take os m]
theorem ocells_get : ∀ (os : List Opd) (i : Nat) (o : Opd), os[i]? = some o → (ocells os)[i * 3]? = some (.bool o.1) ∧ (ocells os)[i * 3 + 1]? = some (.int .i32 o.2.1) ∧ (ocells os)[i * 3 + 2]? = some (.int .i32 o.2.2)
  | [], i, o, h => by simp at h
  | a :: os, 0, o, h => by
    simp at h
    subst h
    simp [ocells]
  | a :: os, i + 1, o, h => by
    have ih := ocells_get os i o (by simpa using h)
    rw [show (i + 1) * 3 = i * 3 + 1 + 1 + 1 from by omega]
    simpa [ocells, Nat.add_assoc] using ih
theorem ocells_set : ∀ (os : List Opd) (i : Nat) (o : Opd), ocells (os.set i o) = (((ocells os).set (i * 3) (.bool o.1)).set (i * 3 + 1) (.int .i32 o.2.1)).set (i * 3 + 2) (.int .i32 o.2.2)
  | [], i, o => by simp [ocells]
  | a :: os, 0, o => by simp [ocells]
  | a :: os, i + 1, o => by
    have ih := ocells_set os i o
    rw [show (i + 1) * 3 = i * 3 + 1 + 1 + 1 from by omega]
    simp [ocells, ih, Nat.add_assoc]

/-- an own row, cut. -/
theorem cutRow {w : World} {base : Nat} {e : TypeId} {size g n cap m : Nat} {xs : List Value} (h : w.ownsRow base e size (.slice (some ⟨g, 0, none⟩) n cap) n xs) (hm : m ≤ n) :
    w.ownsRow base e size (.slice (some ⟨g, 0, none⟩) m cap) m (xs.take (m * size)) := by
  have hs : m * size ≤ n * size := Nat.mul_le_mul_right _ hm
  refine ⟨by rw [List.length_take, h.1]; omega, ?_⟩
  rcases h.2 with ⟨e1, _⟩ | ⟨g', cap', cur, e1, h1, h2, h3, h4, h5, h6⟩
  · cases e1
  · simp only [Value.slice.injEq, Option.some.injEq, Addr.mk.injEq, true_and, and_true] at e1
    obtain ⟨rfl, rfl⟩ := e1
    refine .inr ⟨_, _, cur, rfl, h1, h2, by omega, h4, h5, ?_⟩
    rw [← h6, List.take_take, Nat.min_eq_left hs]

/-- the map of a stack. -/
def MapOk (w : World) (B : Nat) (vm : Value) (L : Int) (bs : Nat) (os : List Opd) (n : Nat) (No : Nat → Prop) : Prop :=
  (vm = .map none ∧ GInv L bs os (fun _ => [])) ∨ ∃ M G, vm = .map (some M) ∧ B ≤ M ∧ Grp w M (M + 1) n No G ∧ GInv L bs os G

/-- THE STACK. -/
structure StV (w : World) (S : Nat) (vo vm : Value) (B : Nat) (L : Int) (bs : Nat) (os : List Opd) (n : Nat) (No : Nat → Prop) : Prop where
  low : B ≤ S
  blk : w.heap[S]? = some (.cells #[.int .i32 L, .int .i64 bs, vo, vm] 27 (0, 0))
  ops : w.ownsRow B 35 3 vo os.length (ocells os)
  map : MapOk w B vm L bs os n No
def St (w : World) (S B : Nat) (L : Int) (bs : Nat) (os : List Opd) (n : Nat) (No : Nat → Prop) : Prop := ∃ vo vm, StV w S vo vm B L bs os n No

theorem MapOk.kept {w w' : World} {B : Nat} {vm : Value} {L : Int} {bs : Nat} {os : List Opd} {n : Nat} {No : Nat → Prop} (h : MapOk w B vm L bs os n No) (hm : ∀ (M : Nat) es c, w.heap[M]? = some (.map es c) → w'.heap[M]? = w.heap[M]?)
    (hr : ∀ (g : Nat) cs, w.heap[g]? = some (.cells cs 21 (0, 0)) → ¬ No g → w'.heap[g]? = w.heap[g]?) : MapOk w' B vm L bs os n No := by
  rcases h with h | ⟨M, G, e, hB, hg, hi⟩
  · exact .inl h
  · obtain ⟨_, _, es, c, hM⟩ := hg.lt
    exact .inr ⟨M, G, e, hB, hg.kept (hm M es c hM) hr, hi⟩
theorem MapOk.inv {w : World} {B : Nat} {vm : Value} {L : Int} {bs bs' : Nat} {os os' : List Opd} {n : Nat} {No : Nat → Prop} (h : MapOk w B vm L bs os n No) (hi : ∀ G, GInv L bs os G → GInv L bs' os' G) : MapOk w B vm L bs' os' n No := by
  rcases h with ⟨e, h⟩ | ⟨M, G, e, hB, hg, h⟩
  · exact .inl ⟨e, hi _ h⟩
  · exact .inr ⟨M, G, e, hB, hg, hi _ h⟩
theorem rowKept {w w' : World} {base : Nat} {e : TypeId} {size : Nat} {v : Value} {n : Nat} {xs : List Value} (h : w.ownsRow base e size v n xs) (hr : ∀ (g : Nat) cs, v.ownBlock = some g → w.heap[g]? = some (.cells cs e (0, 0)) → w'.heap[g]? = w.heap[g]?) : w'.ownsRow base e size v n xs := by
  refine ⟨h.1, ?_⟩
  rcases h.2 with hn | ⟨g, cap, cur, hv, h1, hg, rest⟩
  · exact .inl hn
  · refine .inr ⟨g, cap, cur, hv, h1, ?_, rest⟩
    rw [hr g cur (by rw [hv]; rfl) hg]
    exact hg
theorem StV.kept {w w' : World} {S : Nat} {vo vm : Value} {B : Nat} {L : Int} {bs : Nat} {os : List Opd} {n : Nat} {No : Nat → Prop} (h : StV w S vo vm B L bs os n No) (hS : w'.heap[S]? = w.heap[S]?)
    (hm : ∀ (M : Nat) es c, w.heap[M]? = some (.map es c) → w'.heap[M]? = w.heap[M]?) (ho : ∀ (g : Nat) cs, w.heap[g]? = some (.cells cs 35 (0, 0)) → w'.heap[g]? = w.heap[g]?)
    (hr : ∀ (g : Nat) cs, w.heap[g]? = some (.cells cs 21 (0, 0)) → ¬ No g → w'.heap[g]? = w.heap[g]?) : StV w' S vo vm B L bs os n No :=
  ⟨h.low, hS.trans h.blk, rowKept h.ops (fun g cs _ hg => ho g cs hg), h.map.kept hm hr⟩
theorem lt_of_heap {w : World} {k : Nat} {o : Obj} (h : w.heap[k]? = some o) : k < w.heap.size := (Array.getElem?_eq_some_iff.1 h).1
theorem StV.below {w w' : World} {S : Nat} {vo vm : Value} {B : Nat} {L : Int} {bs : Nat} {os : List Opd} {n : Nat} {No : Nat → Prop} (h : StV w S vo vm B L bs os n No) (hb : Below w.heap.size w w') : StV w' S vo vm B L bs os n No :=
  h.kept (hb.block S (lt_of_heap h.blk)) (fun M _ _ hM => hb.block M (lt_of_heap hM)) (fun g _ hg => hb.block g (lt_of_heap hg)) (fun g _ hg _ => hb.block g (lt_of_heap hg))
theorem St.below {w w' : World} {S : Nat} {B : Nat} {L : Int} {bs : Nat} {os : List Opd} {n : Nat} {No : Nat → Prop} (h : St w S B L bs os n No) (hb : Below w.heap.size w w') : St w' S B L bs os n No := by
  obtain ⟨vo, vm, h⟩ := h
  exact ⟨vo, vm, h.below hb⟩

/-- the stack without its map. -/
structure StB (w : World) (S : Nat) (vo vm : Value) (B : Nat) (L : Int) (bs : Nat) (os : List Opd) : Prop where
  blk : w.heap[S]? = some (.cells #[.int .i32 L, .int .i64 bs, vo, vm] 27 (0, 0))
  ops : w.ownsRow B 35 3 vo os.length (ocells os)
theorem StV.toB {w : World} {S : Nat} {vo vm : Value} {B : Nat} {L : Int} {bs : Nat} {os : List Opd} {n : Nat} {No : Nat → Prop} (h : StV w S vo vm B L bs os n No) : StB w S vo vm B L bs os := ⟨h.blk, h.ops⟩
theorem StB.below {w w' : World} {S : Nat} {vo vm : Value} {B : Nat} {L : Int} {bs : Nat} {os : List Opd} (h : StB w S vo vm B L bs os) (hb : Below w.heap.size w w') : StB w' S vo vm B L bs os :=
  ⟨(hb.block S (lt_of_heap h.blk)).trans h.blk, rowKept h.ops (fun g _ _ hg => hb.block g (lt_of_heap hg))⟩

/-- WHAT A STEP OF THE STACK LEAVES ALONE. -/
structure Fr (B S : Nat) (No : Nat → Prop) (w w' : World) : Prop where
  bel : Below B w w'
  keep : ∀ (k : Nat) cs t f, w.heap[k]? = some (.cells cs t f) → k ≠ S → t ≠ 35 → (t = 21 → No k) → w'.heap[k]? = w.heap[k]?
theorem Fr.refl (B S : Nat) (No : Nat → Prop) (w : World) : Fr B S No w w := ⟨Below.refl _ _, fun _ _ _ _ _ _ _ _ => rfl⟩
theorem Fr.trans {B S : Nat} {No : Nat → Prop} {a b c : World} (h : Fr B S No a b) (k : Fr B S No b c) : Fr B S No a c :=
  ⟨h.bel.trans k.bel, fun i cs t f h1 h2 h3 h4 => by
    have e := h.keep i cs t f h1 h2 h3 h4
    rw [k.keep i cs t f (e.trans h1) h2 h3 h4, e]⟩
theorem Fr.below {B S : Nat} {No : Nat → Prop} {w w' : World} (h : Below w.heap.size w w') (hB : B ≤ w.heap.size) : Fr B S No w w' :=
  ⟨h.mono hB, fun k _ _ _ hk _ _ _ => h.block k (lt_of_heap hk)⟩
/-- one block alone has turned. -/
theorem Fr.one {B S : Nat} {No : Nat → Prop} {w w' : World} {row : Option Nat} (h : w.grownBy w' row) (hB : B ≤ w.heap.size) (hr : ∀ k, row = some k → B ≤ k ∧ (k = S ∨ (∃ cs f, w.heap[k]? = some (.cells cs 35 f)) ∨ (∃ cs f, w.heap[k]? = some (.cells cs 21 f) ∧ ¬ No k) ∨ ∃ es c, w.heap[k]? = some (.map es c))) : Fr B S No w w' := by
  refine ⟨(Below.refl B w).grown h hB (fun k hk => (hr k hk).1), fun k _ _ _ hk h1 h2 h3 => h.block k (lt_of_heap hk) (fun e => ?_)⟩
  rcases (hr k e.symm).2 with e1 | ⟨cs', f', e1⟩ | ⟨cs', f', e1, hn⟩ | ⟨es, c, e1⟩
  · exact h1 e1
  · rw [e1] at hk; simp at hk; exact h2 hk.2.1.symm
  · rw [e1] at hk; simp at hk; exact hn (h3 hk.2.1.symm)
  · rw [e1] at hk; cases hk
theorem Fr.row {B S : Nat} {No : Nat → Prop} {w w' : World} {base : Nat} {e : TypeId} {size : Nat} {v : Value} {n : Nat} {xs : List Value} (h : Fr B S No w w') (ho : w.ownsRow base e size v n xs) (hS : ∀ cs, w.heap[S]? = some (.cells cs e (0, 0)) → False) (he : e ≠ 35) (hN : e = 21 → ∀ g, v.ownBlock = some g → No g) : w'.ownsRow base e size v n xs :=
  rowKept ho (fun g cs hg hh => h.keep g cs e (0, 0) hh (fun e1 => hS cs (e1 ▸ hh)) he (fun e1 => hN e1 g hg))
end Go.Proofs.Ybulkbbyq
