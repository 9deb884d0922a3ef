/-
  The filter in place, plain; the append into an owned row; the look-up in a nil map.
-/
import Derived.Test.YbulkbbyqPush
namespace Go.Proofs.Ybulkbbyq
open Go.ChangeShapes Go.WideShapes Go.ChangeAt Go.RowKit Plain

/-- k elements have been looked at, m kept, in place. -/
structure Fil (l : List Int) (p : Int → Bool) (k m : Nat) (ys : List Int) : Prop where
  len : ys.length = l.length
  le : m ≤ k
  took : ys.take m = (l.take k).filter p
  rest : ys.drop k = l.drop k

theorem Fil.zero (l : List Int) (p : Int → Bool) : Fil l p 0 0 l := ⟨rfl, Nat.le_refl _, by simp, rfl⟩
theorem Fil.get {l : List Int} {p : Int → Bool} {k m : Nat} {ys : List Int} (h : Fil l p k m ys) : ys[k]? = l[k]? := by
  have := congrArg (fun t => t[0]?) h.rest
  simpa using this
theorem Fil.drop1 {l : List Int} {p : Int → Bool} {k m : Nat} {ys : List Int} (h : Fil l p k m ys) : ys.drop (k + 1) = l.drop (k + 1) := by
  have := congrArg (fun t => t.drop 1) h.rest
  simpa using this
theorem take_snoc (l : List Int) (k : Nat) (z : Int) (hz : l[k]? = some z) : l.take (k + 1) = l.take k ++ [z] := by
  rw [List.take_add_one, hz]
  rfl
theorem Fil.no {l : List Int} {p : Int → Bool} {k m : Nat} {ys : List Int} (h : Fil l p k m ys) {z : Int} (hz : l[k]? = some z) (hp : p z = false) : Fil l p (k + 1) m ys := by
  refine ⟨h.len, Nat.le_succ_of_le h.le, ?_, h.drop1⟩
  rw [take_snoc l k z hz, List.filter_append, h.took]
  simp [hp]
theorem Fil.yes {l : List Int} {p : Int → Bool} {k m : Nat} {ys : List Int} (h : Fil l p k m ys) {z : Int} (hz : l[k]? = some z) (hp : p z = true) : Fil l p (k + 1) (m + 1) (ys.set m z) := by
  have hk : k < l.length := (List.getElem?_eq_some_iff.1 hz).1
  have hm := h.le
  have hl := h.len
  refine ⟨by rw [List.length_set]; exact h.len, by omega, ?_, ?_⟩
  · rw [take_snoc l k z hz, List.filter_append, ← h.took]
    rw [take_snoc (ys.set m z) m z (by rw [List.getElem?_set]; simp; omega)]
    rw [List.take_set, List.set_eq_of_length_le (by simp; omega)]
    simp [hp]
  · rw [List.drop_set, if_pos (by omega)]
    exact h.drop1
theorem Fil.mlen {l : List Int} {p : Int → Bool} {k m : Nat} {ys : List Int} (h : Fil l p k m ys) : m ≤ k := h.le
theorem Fil.done {l : List Int} {p : Int → Bool} {m : Nat} {ys : List Int} (h : Fil l p l.length m ys) : ys.take m = l.filter p := by
  have := h.took
  rwa [List.take_length] at this

/-- append of one cell into a row that is owned further than the slice goes. -/
theorem wpList_append_in {P : Program} (w : World) {ops : Array Oper} {rest : List Oper} {o : Oper} {a : Act} {Q : Exit → Act → World → Prop}
    (hg : o.guard = none) (s x : Operand) (t : TypeId) (hop : o.op = Op.call { callee := Callee.builtin Builtin.append, args := #[s, x], argTypes := #[t, t] })
    (base : Nat) (e : TypeId) (i : TypeInfo) (h1 : P.underlying t = some (.slice e)) (h2 : P.info? e = some i) (h4 : i.size = 1)
    (g m len cap : Nat) (xs : List Value) (hs : a.eval s = .slice (some ⟨g, 0, none⟩) m cap) (hown : w.ownsRow base e 1 (.slice (some ⟨g, 0, none⟩) len cap) len xs) (ad : Addr) (c : Nat) (u : Value) (hx : a.eval x = .slice (some ad) 1 c)
    (hc : ∀ j v, [u][j]? = some v → w.cell? (ad.add j) = some v) (h1c : u.oneCell' = true) (hm : m < len)
    (hK : ∀ w', w'.ownsRow base e 1 (.slice (some ⟨g, 0, none⟩) len cap) len (xs.set m u) → w.grownBy w' (some g) → wpList P ops Q rest (a.put o.dst (.slice (some ⟨g, 0, none⟩) (m + 1) cap)) w') :
    wpList P ops Q (o :: rest) a w := by
  refine wpList_plain hg fun K hK' => ?_
  rcases hown.2 with ⟨h, _⟩ | ⟨g', cap', cur, h, hbg, hg, hnc, hcm, hcs, htake⟩
  · simp at h
  · simp only [Value.slice.injEq, Option.some.injEq, Addr.mk.injEq, and_true, true_and] at h
    obtain ⟨rfl, rfl⟩ := h
    have hr := run_append_room (P := P) w t o.type e i h1 h2 g m cap cur hg ad 1 c [u] (by rw [h4]; rfl) hc (by simpa using h1c) (by omega) (by rw [h4]; simp; omega)
    unfold Oper.wp
    simp [execOp, hop, resolve, invoke, builtin, hs, hx, hr, Result.andThen]
    refine hK' _ _ (hK _ ⟨by rw [List.length_set]; exact hown.1, .inr ⟨g, cap, _, rfl, hbg, setRow_heap w g cur _ e _ hg, hnc, hcm, ?_, ?_⟩⟩ ⟨rfl, rfl, rfl, by simp, fun k _ hk => setRow_other w g k _ (fun e => hk (by simp [e]))⟩)
    · rw [h4]
      simp only [List.size_toArray, List.length_append, List.length_take, List.length_drop, Array.length_toList, List.length_cons]
      omega
    · rw [h4, ← htake]
      have e1 : List.take (m * 1) cur.toList ++ u :: List.drop (m * 1 + 1) cur.toList = cur.toList.set m u := by
        rw [Nat.mul_one, List.set_eq_take_append_cons_drop, if_pos (by simp; omega)]
      rw [e1, List.take_set]

theorem look_none (x : Int) (w : World) : (Instr.lookup 25 (.map none) (.int .i32 x) false).run Yba.prog w = .ok (.slice none 0 0) w := by
  kernel_rfl
end Go.Proofs.Ybulkbbyq
