/-
  The plain side of the stack: operands, the model's two lists, which slots read a local. No Go in sight.
-/
namespace Go.Proofs.Ybulkbbyq.Plain

/-- an operand: imm, k, slot. -/
abbrev Opd := Bool × Int × Int

/-- is the operand the local x as it stands? -/
def isX (x : Int) (o : Opd) : Bool := !o.1 && o.2.2 == x

/-- the model's two lists. -/
def imOf (bs : Nat) (os : List Opd) : List Bool := List.replicate bs false ++ os.map (fun o => o.1)
def slOf (L : Int) (bs : Nat) (os : List Opd) : List Int := (List.range bs).map (fun (k : Nat) => L + (k : Int)) ++ os.map (fun o => o.2.2)

theorem imOf_length (bs : Nat) (os : List Opd) : (imOf bs os).length = bs + os.length := by simp [imOf]
theorem slOf_length (L : Int) (bs : Nat) (os : List Opd) : (slOf L bs os).length = bs + os.length := by simp [slOf]

/-- the slots of the operands that are the local x, rising; the first operand lies at 'b'. -/
def reads (x : Int) : Nat → List Opd → List Int
  | _, [] => []
  | b, o :: os => if isX x o = true then (b : Int) :: reads x (b + 1) os else reads x (b + 1) os

/-- rising lists. -/
def Up : List Int → Prop
  | [] => True
  | z :: l => (∀ y ∈ l, z < y) ∧ Up l

theorem up_filter (p : Int → Bool) : ∀ (l : List Int), Up l → Up (l.filter p)
  | [], _ => by simp [Up]
  | z :: l, h => by
    rw [List.filter_cons]
    split
    · exact ⟨fun y hy => h.1 y ((List.mem_filter.1 hy).1), up_filter p l h.2⟩
    · exact up_filter p l h.2

theorem up_take : ∀ (l : List Int) (j : Nat), Up l → Up (l.take j)
  | [], j, _ => by simp [Up]
  | z :: l, 0, _ => by simp [Up]
  | z :: l, j + 1, h => by
    rw [List.take_succ_cons]
    exact ⟨fun y hy => h.1 y (List.mem_of_mem_take hy), up_take l j h.2⟩

theorem up_snoc (t : Int) : ∀ (l : List Int), Up l → (∀ y ∈ l, y < t) → Up (l ++ [t])
  | [], _, _ => by simp [Up]
  | z :: l, h, ht => by
    rw [List.cons_append]
    refine ⟨fun y hy => ?_, up_snoc t l h.2 (fun y hy => ht y (by simp [hy]))⟩
    rcases List.mem_append.1 hy with hy | hy
    · exact h.1 y hy
    · simp at hy; subst hy; exact ht z (by simp)

/-- two rising lists with the same members are one. -/
theorem up_ext : ∀ (l m : List Int), Up l → Up m → (∀ y, y ∈ l ↔ y ∈ m) → l = m
  | [], [], _, _, _ => rfl
  | [], y :: m, _, _, h => by have := (h y).2 (by simp); simp at this
  | z :: l, [], _, _, h => by have := (h z).1 (by simp); simp at this
  | z :: l, y :: m, hl, hm, h => by
    have hzy : z = y := by
      have h1 := (h z).1 (by simp)
      have h2 := (h y).2 (by simp)
      rcases List.mem_cons.1 h1 with e | h1
      · exact e
      · rcases List.mem_cons.1 h2 with e | h2
        · exact e.symm
        · have a := hm.1 z h1
          have b := hl.1 y h2
          omega
    subst hzy
    rw [up_ext l m hl.2 hm.2 (fun u => ?_)]
    constructor
    · intro hu
      have := (h u).1 (by simp [hu])
      rcases List.mem_cons.1 this with e | h'
      · have := hl.1 u hu; omega
      · exact h'
    · intro hu
      have := (h u).2 (by simp [hu])
      rcases List.mem_cons.1 this with e | h'
      · have := hm.1 u hu; omega
      · exact h'

theorem reads_mem (x : Int) : ∀ (os : List Opd) (b : Nat) (y : Int), y ∈ reads x b os ↔ ∃ (i : Nat) (o : Opd), os[i]? = some o ∧ isX x o = true ∧ y = (b : Int) + (i : Int)
  | [], b, y => by simp [reads]
  | o :: os, b, y => by
    have ih := reads_mem x os (b + 1) y
    unfold reads
    constructor
    · intro h
      by_cases hx : isX x o = true
      · rw [if_pos hx] at h
        rcases List.mem_cons.1 h with e | h
        · exact ⟨0, o, by simp, hx, by omega⟩
        · obtain ⟨i, o', h1, h2, h3⟩ := ih.1 h
          exact ⟨i + 1, o', by simpa using h1, h2, by omega⟩
      · rw [if_neg hx] at h
        obtain ⟨i, o', h1, h2, h3⟩ := ih.1 h
        exact ⟨i + 1, o', by simpa using h1, h2, by omega⟩
    · rintro ⟨i, o', h1, h2, h3⟩
      match i, h1 with
      | 0, h1 =>
        simp at h1
        subst h1
        rw [if_pos h2]
        simp
        omega
      | i + 1, h1 =>
        have := ih.2 ⟨i, o', by simpa using h1, h2, by omega⟩
        split
        · exact List.mem_cons_of_mem _ this
        · exact this

theorem reads_up (x : Int) : ∀ (os : List Opd) (b : Nat), Up (reads x b os)
  | [], b => by simp [reads, Up]
  | o :: os, b => by
    unfold reads
    have ih := reads_up x os (b + 1)
    split
    · refine ⟨fun y hy => ?_, ih⟩
      obtain ⟨i, _, _, _, h⟩ := (reads_mem x os (b + 1) y).1 hy
      omega
    · exact ih

/-- THE INVARIANT OF byLocal: each list rises; it names every slot above the base whose operand is that local; locals from L on have none. -/
structure GInv (L : Int) (bs : Nat) (os : List Opd) (G : Int → List Int) : Prop where
  up : ∀ x, x < L → Up (G x)
  all : ∀ x, x < L → ∀ (i : Nat) (o : Opd), os[i]? = some o → isX x o = true → ((bs : Int) + (i : Int)) ∈ G x
  non : ∀ x, L ≤ x → G x = []
  pos : ∀ x, ∀ y ∈ G x, 0 ≤ y

/-- what 'readers' keeps: the members that are still on the stack and still that local. -/
def live (x : Int) (bs : Nat) (os : List Opd) (z : Int) : Bool :=
  decide (z < (bs : Int) + os.length) && decide ((bs : Int) ≤ z) && (match os[(z - bs).toNat]? with
    | some o => isX x o
    | none => false)

theorem live_iff (x : Int) (bs : Nat) (os : List Opd) (z : Int) : live x bs os z = true ↔ ∃ (i : Nat) (o : Opd), os[i]? = some o ∧ isX x o = true ∧ z = (bs : Int) + (i : Int) := by
  unfold live
  constructor
  · intro h
    simp only [Bool.and_eq_true, decide_eq_true_eq] at h
    obtain ⟨⟨h1, h2⟩, h3⟩ := h
    cases ho : os[(z - bs).toNat]? with
    | none => rw [ho] at h3; cases h3
    | some o => rw [ho] at h3; exact ⟨_, o, ho, h3, by omega⟩
  · rintro ⟨i, o, h1, h2, rfl⟩
    have hi : i < os.length := (List.getElem?_eq_some_iff.1 h1).1
    have e : ((bs : Int) + (i : Int) - (bs : Int)).toNat = i := by omega
    rw [e, h1]
    simp [h2, hi]
    omega

theorem live_reads (L : Int) (bs : Nat) (os : List Opd) (G : Int → List Int) (h : GInv L bs os G) (x : Int) (hx : x < L) : (G x).filter (live x bs os) = reads x bs os := by
  apply up_ext _ _ (up_filter _ _ (h.up x hx)) (reads_up x os bs)
  intro y
  rw [List.mem_filter, live_iff, reads_mem]
  constructor
  · exact fun h => h.2
  · rintro ⟨i, o, h1, h2, rfl⟩
    exact ⟨h.all x hx i o h1 h2, i, o, h1, h2, rfl⟩

/-- a list put at one local. -/
def upd (G : Int → List Int) (x : Int) (l : List Int) : Int → List Int := fun y => if y = x then l else G y
theorem upd_same (G : Int → List Int) (x : Int) (l : List Int) : upd G x l x = l := by simp [upd]
theorem upd_other (G : Int → List Int) (x y : Int) (l : List Int) (h : y ≠ x) : upd G x l y = G y := by simp [upd, h]

theorem ginv_none (L : Int) : GInv L 0 [] (fun _ => []) := ⟨fun _ _ => trivial, fun _ _ i o h => by simp at h, fun _ _ => rfl, fun _ y hy => by cases hy⟩

/-- behind 'readers'. -/
theorem ginv_read {L : Int} {bs : Nat} {os : List Opd} {G : Int → List Int} (h : GInv L bs os G) (x : Int) (hx : x < L) : GInv L bs os (upd G x (reads x bs os)) := by
  refine ⟨fun y hy => ?_, fun y hy i o h1 h2 => ?_, fun y hy => ?_, fun y z hz => ?_⟩
  · by_cases e : y = x
    · subst e; rw [upd_same]; exact reads_up _ _ _
    · rw [upd_other _ _ _ _ e]; exact h.up y hy
  · by_cases e : y = x
    · subst e; rw [upd_same]; exact (reads_mem _ _ _ _).2 ⟨i, o, h1, h2, rfl⟩
    · rw [upd_other _ _ _ _ e]; exact h.all y hy i o h1 h2
  · rw [upd_other _ _ _ _ (by omega)]; exact h.non y hy
  · by_cases e : y = x
    · subst e
      rw [upd_same] at hz
      obtain ⟨i, _, _, _, e⟩ := (reads_mem _ _ _ _).1 hz
      omega
    · rw [upd_other _ _ _ _ e] at hz; exact h.pos y z hz

/-- behind 'push' of an operand that is a local: the list cut to what lies below the top, and the top. -/
theorem ginv_push {L : Int} {bs : Nat} {os : List Opd} {G : Int → List Int} (h : GInv L bs os G) (o : Opd) (hx : o.2.2 < L) (j : Nat)
    (hlow : ∀ y ∈ (G o.2.2).take j, y < (bs : Int) + os.length) (hhigh : ∀ y ∈ (G o.2.2).drop j, (bs : Int) + os.length ≤ y) :
    GInv L bs (os ++ [o]) (upd G o.2.2 ((G o.2.2).take j ++ [(bs : Int) + os.length])) := by
  refine ⟨fun y hy => ?_, fun y hy i o' h1 h2 => ?_, fun y hy => ?_, fun y z hz => ?_⟩
  · by_cases e : y = o.2.2
    · subst e; rw [upd_same]; exact up_snoc _ _ (up_take _ _ (h.up _ hx)) hlow
    · rw [upd_other _ _ _ _ e]; exact h.up y hy
  · by_cases hi' : i < os.length
    · rw [List.getElem?_append_left hi'] at h1
      have hm := h.all y hy i o' h1 h2
      by_cases e : y = o.2.2
      · subst e
        rw [upd_same]
        rw [← List.take_append_drop j (G o.2.2)] at hm
        rcases List.mem_append.1 hm with hm | hm
        · exact List.mem_append_left _ hm
        · have := hhigh _ hm; omega
      · rw [upd_other _ _ _ _ e]; exact hm
    · rw [List.getElem?_append_right (by omega)] at h1
      have e0 : i - os.length = 0 := by
        rcases Nat.eq_zero_or_pos (i - os.length) with e | e
        · exact e
        · rw [List.getElem?_eq_none (by simp; omega)] at h1; cases h1
      rw [e0] at h1
      simp at h1
      subst h1
      have e : o.2.2 = y := by simp [isX] at h2; exact h2.2
      subst e
      rw [upd_same]
      exact List.mem_append_right _ (by simp; omega)
  · rw [upd_other _ _ _ _ (by omega)]; exact h.non y hy
  · by_cases e : y = o.2.2
    · subst e
      rw [upd_same] at hz
      rcases List.mem_append.1 hz with hz | hz
      · exact h.pos _ z (List.mem_of_mem_take hz)
      · simp at hz; omega
    · rw [upd_other _ _ _ _ e] at hz; exact h.pos y z hz

/-- behind 'push' of an operand that is no local. -/
theorem ginv_push_no {L : Int} {bs : Nat} {os : List Opd} {G : Int → List Int} (h : GInv L bs os G) (o : Opd) (hi : o.1 = true ∨ L ≤ o.2.2) : GInv L bs (os ++ [o]) G := by
  refine ⟨h.up, fun y hy i o' h1 h2 => ?_, h.non, h.pos⟩
  by_cases hi' : i < os.length
  · rw [List.getElem?_append_left hi'] at h1
    exact h.all y hy i o' h1 h2
  · rw [List.getElem?_append_right (by omega)] at h1
    have e0 : i - os.length = 0 := by
      rcases Nat.eq_zero_or_pos (i - os.length) with e | e
      · exact e
      · rw [List.getElem?_eq_none (by simp; omega)] at h1; cases h1
    rw [e0] at h1
    simp at h1
    subst h1
    simp [isX] at h2
    rcases hi with h' | h'
    · rw [h2.1] at h'; cases h'
    · omega

theorem ginv_cut {L : Int} {bs : Nat} {os : List Opd} {G : Int → List Int} (h : GInv L bs os G) (m : Nat) : GInv L bs (os.take m) G :=
  ⟨h.up, fun y hy i o h1 h2 => h.all y hy i o (by rw [List.getElem?_take] at h1; split at h1; exact h1; cases h1) h2, h.non, h.pos⟩
theorem ginv_empty {L : Int} {bs : Nat} {os : List Opd} {G : Int → List Int} (h : GInv L bs os G) (bs' : Nat) : GInv L bs' [] G := ⟨h.up, fun y hy i o h1 h2 => by simp at h1, h.non, h.pos⟩
theorem ginv_set {L : Int} {bs : Nat} {os : List Opd} {G : Int → List Int} (h : GInv L bs os G) (i : Nat) (s : Int) (hs : L ≤ s) : GInv L bs (os.set i (false, 0, s)) G := by
  refine ⟨h.up, fun y hy i' o h1 h2 => ?_, h.non, h.pos⟩
  rw [List.getElem?_set] at h1
  split at h1
  · split at h1
    · simp at h1; subst h1; simp [isX] at h2; omega
    · cases h1
  · exact h.all y hy i' o h1 h2

/-- the model's wanted list, gathered up to k. -/
def wantTo (x : Int) (im : List Bool) (sl : List Int) (k : Nat) : List Int := ((List.range k).filter (fun (i : Nat) => !(im.getD i false) && sl.getD i 0 == x)).map (fun (i : Nat) => (i : Int))
theorem wantTo_succ (x : Int) (im : List Bool) (sl : List Int) (k : Nat) : wantTo x im sl (k + 1) = wantTo x im sl k ++ (if (!(im.getD k false) && sl.getD k 0 == x) = true then [(k : Int)] else []) := by
  unfold wantTo
  rw [List.range_succ, List.filter_append, List.map_append]
  congr 1
  rw [List.filter_cons]
  split <;> simp_all

theorem wantTo_up (x : Int) (im : List Bool) (sl : List Int) : ∀ k, Up (wantTo x im sl k) ∧ ∀ y ∈ wantTo x im sl k, y < (k : Int)
  | 0 => by simp [wantTo, Up]
  | k + 1 => by
    have ih := wantTo_up x im sl k
    rw [wantTo_succ]
    split
    · refine ⟨up_snoc _ _ ih.1 ih.2, fun y hy => ?_⟩
      rcases List.mem_append.1 hy with hy | hy
      · have := ih.2 y hy; omega
      · simp at hy; omega
    · refine ⟨by simpa using ih.1, fun y hy => ?_⟩
      have := ih.2 y (by simpa using hy)
      omega

theorem want_reads (L : Int) (bs : Nat) (os : List Opd) (x : Int) (hx : x < L) : wantTo x (imOf bs os) (slOf L bs os) (bs + os.length) = reads x bs os := by
  apply up_ext _ _ (wantTo_up x _ _ _).1 (reads_up x os bs)
  intro y
  rw [reads_mem]
  unfold wantTo
  rw [List.mem_map]
  constructor
  · rintro ⟨i, hi, rfl⟩
    rw [List.mem_filter, List.mem_range] at hi
    obtain ⟨h1, h2⟩ := hi
    by_cases hb : i < bs
    · have e : (slOf L bs os).getD i 0 = L + (i : Int) := by
        unfold slOf
        rw [List.getD, List.getElem?_append_left (by simp; omega)]
        simp [hb]
      rw [e] at h2
      simp at h2
      omega
    · have hl : i - bs < os.length := by omega
      refine ⟨i - bs, os[i - bs], by simp [hl], ?_, by omega⟩
      have e1 : (imOf bs os).getD i false = os[i - bs].1 := by
        unfold imOf
        rw [List.getD, List.getElem?_append_right (by simp; omega)]
        simp [hl]
      have e2 : (slOf L bs os).getD i 0 = os[i - bs].2.2 := by
        unfold slOf
        rw [List.getD, List.getElem?_append_right (by simp; omega)]
        simp [hl]
      rw [e1, e2] at h2
      exact h2
  · rintro ⟨i, o, h1, h2, rfl⟩
    have hi : i < os.length := (List.getElem?_eq_some_iff.1 h1).1
    refine ⟨bs + i, List.mem_filter.2 ⟨List.mem_range.2 (by omega), ?_⟩, by omega⟩
    have e1 : (imOf bs os).getD (bs + i) false = o.1 := by
      unfold imOf
      rw [List.getD, List.getElem?_append_right (by simp)]
      simp [h1]
    have e2 : (slOf L bs os).getD (bs + i) 0 = o.2.2 := by
      unfold slOf
      rw [List.getD, List.getElem?_append_right (by simp)]
      simp [h1]
    rw [e1, e2]
    exact h2

/-! the model's lists behind each step -/
theorem im_push (bs : Nat) (os : List Opd) (o : Opd) : imOf bs (os ++ [o]) = imOf bs os ++ [o.1] := by simp [imOf]
theorem sl_push (L : Int) (bs : Nat) (os : List Opd) (o : Opd) : slOf L bs (os ++ [o]) = slOf L bs os ++ [o.2.2] := by simp [slOf]
theorem im_cut_hi (bs n : Nat) (os : List Opd) (h : bs ≤ n) : (imOf bs os).take n = imOf bs (os.take (n - bs)) := by
  unfold imOf
  rw [List.take_append, List.take_of_length_le (by simp; omega)]
  simp
theorem sl_cut_hi (L : Int) (bs n : Nat) (os : List Opd) (h : bs ≤ n) : (slOf L bs os).take n = slOf L bs (os.take (n - bs)) := by
  unfold slOf
  rw [List.take_append, List.take_of_length_le (by simp; omega)]
  simp
theorem im_cut_lo (bs n : Nat) (os : List Opd) (h : n ≤ bs) : (imOf bs os).take n = imOf n [] := by
  unfold imOf
  rw [List.take_append_of_le_length (by simp; omega)]
  simp [List.take_replicate, h]
theorem sl_cut_lo (L : Int) (bs n : Nat) (os : List Opd) (h : n ≤ bs) : (slOf L bs os).take n = slOf L n [] := by
  unfold slOf
  rw [List.take_append_of_le_length (by simp; omega), ← List.map_take, List.take_range]
  simp [Nat.min_eq_left h]
theorem im_res (k : Nat) : imOf (k + 1) [] = imOf k [] ++ [false] := by simp [imOf, List.replicate_succ']
theorem sl_res (L : Int) (k : Nat) : slOf L (k + 1) [] = slOf L k [] ++ [L + (k : Int)] := by simp [slOf, List.range_succ]
theorem im_set (bs i : Nat) (os : List Opd) (o : Opd) : imOf bs (os.set i o) = (imOf bs os).set (bs + i) o.1 := by
  unfold imOf
  rw [List.set_append_right _ _ (by simp)]
  simp [List.map_set]
theorem sl_set (L : Int) (bs i : Nat) (os : List Opd) (o : Opd) : slOf L bs (os.set i o) = (slOf L bs os).set (bs + i) o.2.2 := by
  unfold slOf
  rw [List.set_append_right _ _ (by simp)]
  simp [List.map_set]

/-- the operand that 'at' returns. -/
def atOp (L : Int) (bs : Nat) (os : List Opd) (k : Nat) : Opd := if k < bs then (false, 0, L + (k : Int)) else os.getD (k - bs) (false, 0, 0)
theorem live_at (L : Int) (bs : Nat) (os : List Opd) (k : Nat) (x : Int) (hx : x < L) (hk : k < bs + os.length) : live x bs os (k : Int) = isX x (atOp L bs os k) := by
  unfold live atOp
  by_cases hb : k < bs
  · rw [if_pos hb]
    have : decide ((bs : Int) ≤ (k : Int)) = false := by simp; omega
    rw [this]
    simp [isX]
    omega
  · rw [if_neg hb]
    have e : ((k : Int) - (bs : Int)).toNat = k - bs := by omega
    have hl : k - bs < os.length := by omega
    rw [e, List.getD, List.getElem?_eq_getElem hl]
    have h1 : decide ((bs : Int) ≤ (k : Int)) = true := by simp; omega
    have h2 : decide ((k : Int) < (bs : Int) + os.length) = true := by simp; omega
    rw [h1, h2]
    simp

/-- the cut of a rising list: below the last element that is too small all are. -/
theorem up_get_lt : ∀ (l : List Int), Up l → ∀ (i j : Nat) (y z : Int), i < j → l[i]? = some y → l[j]? = some z → y < z
  | [], _, i, j, y, z, _, h1, _ => by simp at h1
  | a :: l, h, 0, j + 1, y, z, _, h1, h2 => by
    simp at h1
    subst h1
    exact h.1 z (List.mem_of_getElem? (by simpa using h2))
  | a :: l, h, i + 1, j + 1, y, z, hij, h1, h2 => up_get_lt l h.2 i j y z (by omega) (by simpa using h1) (by simpa using h2)
  | a :: l, h, i, 0, y, z, hij, _, _ => by omega
theorem take_low (l : List Int) (h : Up l) (j : Nat) (z t : Int) (hz : l[j]? = some z) (ht : z < t) : ∀ y ∈ l.take (j + 1), y < t := by
  intro y hy
  obtain ⟨i, hi⟩ := List.mem_iff_getElem?.1 hy
  rw [List.getElem?_take] at hi
  split at hi
  · rcases Nat.lt_or_ge i j with hij | hij
    · have := up_get_lt l h i j y z hij hi hz
      omega
    · obtain rfl : i = j := by omega
      rw [hz] at hi
      cases hi
      exact ht
  · cases hi
theorem drop_high (l : List Int) (j : Nat) (z t : Int) (hz : l[j]? = some z) (ht : t ≤ z) (hd : ∀ y ∈ l.drop (j + 1), t ≤ y) : ∀ y ∈ l.drop j, t ≤ y := by
  intro y hy
  have hj : j < l.length := (List.getElem?_eq_some_iff.1 hz).1
  rw [List.drop_eq_getElem_cons hj] at hy
  rcases List.mem_cons.1 hy with e | hy
  · have e2 : l[j] = z := (List.getElem?_eq_some_iff.1 hz).2
    omega
  · exact hd y hy
end Go.Proofs.Ybulkbbyq.Plain
