/-
  The plain law of the three statements: no Go in sight. What strconv.ParseUint(l, 10, 64) accepts, whether FormatUint spells it back, against 'one digit, or no leading zero'.
-/
import Derived.Lib.ParseIntBCases
import Derived.Lib.ItoaNum
namespace Go.Proofs.YbulkbbuwDoor.Plain
open Go

/-- one digit more. -/
def step (a : Nat) (c : UInt8) : Nat := a * 10 + (c.toNat - 48)
theorem step_eq (a : Nat) (c : UInt8) : step a c = a * 10 + (c.toNat - 48) := by unfold step; exact Eq.refl _
/-- the value that a row of digits spells behind 'a'. -/
def val (a : Nat) (l : List UInt8) : Nat := l.foldl step a

/-- are all bytes decimal digits? -/
def digs : List UInt8 → Prop
  | [] => True
  | c :: r => (48 ≤ c.toNat ∧ c.toNat ≤ 57) ∧ digs r

theorem val_nil (a : Nat) : val a [] = a := by unfold val; exact List.foldl_nil
theorem val_cons (a : Nat) (c : UInt8) (r : List UInt8) : val a (c :: r) = val (step a c) r := by unfold val; exact List.foldl_cons
theorem val_snoc (c : UInt8) (l : List UInt8) (a : Nat) : val a (l ++ [c]) = step (val a l) c := by
  unfold val
  rw [List.foldl_append, List.foldl_cons, List.foldl_nil]

theorem digs_snoc (c : UInt8) : ∀ (l : List UInt8), digs (l ++ [c]) ↔ digs l ∧ (48 ≤ c.toNat ∧ c.toNat ≤ 57)
  | [] => by simp [digs]
  | d :: r => by simp only [List.cons_append, digs, digs_snoc c r, and_assoc]

theorem parse_ok (M : Nat) : ∀ (l : List UInt8) (a u : Nat), Lib.parseUintM M a l = .ok u → digs l ∧ u = val a l
  | [], a, u, h => by
    simp only [Lib.parseUintM] at h
    injection h with h
    exact ⟨trivial, by rw [val_nil]; exact h.symm⟩
  | c :: r, a, u, h => by
    simp only [Lib.parseUintM] at h
    split at h
    · rename_i hc
      split at h
      · cases h
      · split at h
        · cases h
        · have := parse_ok M r _ u h
          exact ⟨⟨hc, this.1⟩, by rw [val_cons, step_eq]; exact this.2⟩
    · cases h

theorem val_mono : ∀ (l : List UInt8) (a : Nat), a ≤ val a l
  | [], a => by rw [val_nil]; exact Nat.le_refl a
  | c :: r, a => by
    have := val_mono r (step a c)
    rw [val_cons]
    rw [step_eq] at this ⊢
    omega

theorem parse_mk (M : Nat) (hM : M ≤ 18446744073709551615) : ∀ (l : List UInt8) (a : Nat), digs l → val a l ≤ M → Lib.parseUintM M a l = .ok (val a l)
  | [], a, _, _ => by rw [val_nil]; simp only [Lib.parseUintM]
  | c :: r, a, hd, hv => by
    simp only [digs] at hd
    rw [val_cons, step_eq] at hv ⊢
    have hm := val_mono r (a * 10 + (c.toNat - 48))
    simp only [Lib.parseUintM]
    rw [if_pos hd.1, if_neg (by omega), if_neg (by omega)]
    exact parse_mk M hM r _ hd.2 hv

theorem ofNat_toNat (k : Nat) (h : k < 10) : (UInt8.ofNat (48 + k)).toNat = 48 + k := by
  rw [UInt8.toNat_ofNat']
  omega

theorem byte_back (c : UInt8) (h1 : 48 ≤ c.toNat) (_h2 : c.toNat ≤ 57) : UInt8.ofNat (48 + (c.toNat - 48)) = c := by
  rw [show 48 + (c.toNat - 48) = c.toNat from by omega]
  exact UInt8.ofNat_toNat

/-- decDigits spells a number, by digits alone, and the number is its value. -/
theorem dec_val (n : Nat) : ∀ u, u < n → digs (Lib.decDigits u) ∧ val 0 (Lib.decDigits u) = u ∧ Lib.decDigits u ≠ [] := by
  induction n with
  | zero => intro u h; omega
  | succ n ih =>
    intro u h
    rw [Lib.decDigits]
    split
    · rename_i hu
      have e := ofNat_toNat u hu
      refine ⟨⟨?_, trivial⟩, ?_, by simp⟩
      · omega
      · rw [val_cons, val_nil, step_eq]; omega
    · rename_i hu
      have hq := ih (u / 10) (by omega)
      have e := ofNat_toNat (u % 10) (by omega)
      refine ⟨(digs_snoc _ _).2 ⟨hq.1, by omega⟩, ?_, by simp⟩
      rw [val_snoc, hq.2.1, step_eq]
      omega

/-- decDigits of a number of two digits or more begins with no zero. -/
theorem dec_head (n : Nat) : ∀ u, u < n → 10 ≤ u → ∃ c r, Lib.decDigits u = c :: r ∧ c.toNat ≠ 48 ∧ r ≠ [] := by
  induction n with
  | zero => intro u h; omega
  | succ n ih =>
    intro u h h10
    rw [Lib.decDigits, dif_neg (by omega)]
    by_cases hq : u / 10 < 10
    · rw [Lib.decDigits_one hq]
      have e := ofNat_toNat (u / 10) hq
      exact ⟨_, _, rfl, by omega, by simp⟩
    · obtain ⟨c, r, hcr, hc, _⟩ := ih (u / 10) (by omega) (by omega)
      rw [hcr]
      exact ⟨c, _, rfl, hc, by simp⟩

/-- a row of digits that begins with no zero is spelt back; so is a single digit. -/
theorem spelt_one (c : UInt8) (h1 : 48 ≤ c.toNat) (h2 : c.toNat ≤ 57) : Lib.decDigits (val 0 [c]) = [c] := by
  have e : val 0 [c] = c.toNat - 48 := by rw [val_cons, val_nil, step_eq]; omega
  rw [e, Lib.decDigits_one (by omega), byte_back c h1 h2]

theorem spelt_aux (c : UInt8) (hc : 48 ≤ c.toNat ∧ c.toNat ≤ 57) (h0 : c.toNat ≠ 48) : ∀ (n : Nat) (r : List UInt8), r.length = n → digs r → Lib.decDigits (val 0 (c :: r)) = c :: r ∧ 1 ≤ val 0 (c :: r)
  | 0, r, hn, _ => by
    have : r = [] := List.length_eq_zero_iff.1 hn
    subst this
    refine ⟨spelt_one c hc.1 hc.2, ?_⟩
    rw [val_cons, val_nil, step_eq]
    omega
  | n + 1, r, hn, hd => by
    have hne : r ≠ [] := by intro h; rw [h] at hn; simp at hn
    have hr : r.dropLast ++ [r.getLast hne] = r := List.dropLast_concat_getLast hne
    have hd' : digs (r.dropLast ++ [r.getLast hne]) := by rw [hr]; exact hd
    have hdd := (digs_snoc _ _).1 hd'
    have ih := spelt_aux c hc h0 n r.dropLast (by rw [List.length_dropLast, hn]; rfl) hdd.1
    have hv : val 0 (c :: r) = val 0 (c :: r.dropLast) * 10 + ((r.getLast hne).toNat - 48) := by
      have := val_snoc (r.getLast hne) (c :: r.dropLast) 0
      rw [List.cons_append, hr, step_eq] at this
      exact this
    refine ⟨?_, by omega⟩
    rw [Lib.decDigits, dif_neg (by omega)]
    rw [show val 0 (c :: r) / 10 = val 0 (c :: r.dropLast) from by omega, show val 0 (c :: r) % 10 = (r.getLast hne).toNat - 48 from by omega, ih.1,
      byte_back _ hdd.2.1 hdd.2.2, List.cons_append, hr]

/-- the canonical spelling: one byte, or a first byte that is no zero. -/
def canon : List UInt8 → Bool
  | [] => false
  | [_] => true
  | c :: _ :: _ => decide (c.toNat ≠ 48)

theorem spelt (l : List UInt8) (hl : l ≠ []) (hd : digs l) : (Lib.decDigits (val 0 l) == l) = canon l := by
  match l, hl, hd with
  | [c], _, hd => simp only [digs] at hd; rw [spelt_one c hd.1.1 hd.1.2]; simp [canon]
  | c :: d :: r, _, hd =>
    by_cases h0 : c.toNat = 48
    · have hf : canon (c :: d :: r) = false := by simp [canon, h0]
      rw [hf]
      by_cases hv : val 0 (c :: d :: r) < 10
      · rw [Lib.decDigits_one hv]
        simp
      · obtain ⟨c', r', hcr, hc', _⟩ := dec_head (val 0 (c :: d :: r) + 1) (val 0 (c :: d :: r)) (by omega) (by omega)
        rw [hcr]
        have : c' ≠ c := by intro h; exact hc' (by rw [h]; exact h0)
        simp [this]
    · have ht : canon (c :: d :: r) = true := by simp [canon, h0]
      have hd' : (48 ≤ c.toNat ∧ c.toNat ≤ 57) ∧ digs (d :: r) := hd
      rw [ht, (spelt_aux c hd'.1 h0 _ (d :: r) rfl hd'.2).1]
      simp

/-- how ParseUint's end becomes the pair of numbers that parseGen hands on; 'b': what it says where the parse is well. -/
def pairOf (b : Nat → Bool) : Lib.NumEnd Nat → Nat × Bool
  | .ok u => (u, b u)
  | .range => (18446744073709551615, false)
  | _ => (0, false)

/-- does the parse end in a fault of the spelling? -/
def isSyn : Lib.NumEnd Nat → Bool
  | .ok _ => false
  | .range => false
  | _ => true

/-- what parseGen computes behind the leading string. -/
def pgd (l : List UInt8) : Nat × Bool := pairOf (fun u => Lib.decDigits u == l) (Lib.parseUintB 64 l)
/-- what the model computes behind the leading string. -/
def mdd (l : List UInt8) : Nat × Bool := pairOf (fun _ => canon l) (Lib.parseUintB 64 l)

theorem pgd_eq_mdd (l : List UInt8) : pgd l = mdd l := by
  unfold pgd mdd
  by_cases hl : l = []
  · subst hl; rfl
  · cases h : Lib.parseUintB 64 l with
    | ok u =>
      simp only [pairOf]
      unfold Lib.parseUintB at h
      rw [if_neg hl] at h
      obtain ⟨hd, hu⟩ := parse_ok _ l 0 u h
      rw [hu, spelt l hl hd]
    | _ => rfl

/-- the round trip. -/
theorem pgd_dec (u : Nat) (h : u ≤ 18446744073709551615) : pgd (Lib.decDigits u) = (u, true) := by
  obtain ⟨hd, hv, hne⟩ := dec_val (u + 1) u (by omega)
  have hp : Lib.parseUintB 64 (Lib.decDigits u) = .ok u := by
    unfold Lib.parseUintB
    rw [if_neg hne, parse_mk _ (by omega) _ 0 hd (by rw [hv]; omega), hv]
  unfold pgd
  rw [hp]
  simp [pairOf]

theorem pairOf_le (b : Nat → Bool) (l : List UInt8) : (pairOf b (Lib.parseUintB 64 l)).1 ≤ 18446744073709551615 := by
  cases h : Lib.parseUintB 64 l with
  | ok u => have := Lib.parseUintB_le h; simp only [pairOf]; omega
  | range => exact Nat.le_refl _
  | _ => exact Nat.zero_le _
end Go.Proofs.YbulkbbuwDoor.Plain
namespace Go.Proofs.YbulkbbuwDoor.Plain
open Go
/-- the model's loop, behind k bytes: what is still to be parsed. -/
def Inv (l : List UInt8) (k : Nat) (a : Int) : Prop := Lib.parseUintM (2 ^ 64 - 1) 0 l = Lib.parseUintM (2 ^ 64 - 1) a.toNat (l.drop k)

theorem inv_start (l : List UInt8) : Inv l 0 0 := by unfold Inv; rfl

theorem mdd_of (l : List UInt8) (hl : 0 < l.length) : mdd l = pairOf (fun _ => canon l) (Lib.parseUintM (2 ^ 64 - 1) 0 l) := by
  unfold mdd Lib.parseUintB
  rw [if_neg (by intro h; rw [h] at hl; simp at hl)]

theorem mdd_nil (l : List UInt8) (hl : l.length = 0) : mdd l = (0, false) := by
  rw [List.length_eq_zero_iff.1 hl]
  rfl

theorem drop_at (l : List UInt8) (k : Nat) (hk : k < l.length) : l.drop k = l[k] :: l.drop (k + 1) := List.drop_eq_getElem_cons hk

theorem mdd_bad (l : List UInt8) (k : Nat) (a : Int) (hk : k < l.length) (H : Inv l k a) (h : (l[k].toNat : Int) < 48 ∨ 57 < (l[k].toNat : Int)) : mdd l = (0, false) := by
  rw [mdd_of l (by omega)]
  unfold Inv at H
  rw [H, drop_at l k hk]
  simp only [Lib.parseUintM]
  rw [if_neg (by omega)]
  rfl

theorem mdd_over (l : List UInt8) (k : Nat) (a : Int) (hk : k < l.length) (H : Inv l k a) (h0 : 0 ≤ a) (h1 : 48 ≤ (l[k].toNat : Int)) (h2 : (l[k].toNat : Int) ≤ 57) (h : (18446744073709551615 - ((l[k].toNat : Int) - 48)) / 10 < a) : mdd l = (18446744073709551615, false) := by
  rw [mdd_of l (by omega)]
  unfold Inv at H
  rw [H, drop_at l k hk]
  simp only [Lib.parseUintM]
  rw [if_pos (by omega)]
  by_cases hc : 1844674407370955162 ≤ a.toNat
  · rw [if_pos hc]; rfl
  · rw [if_neg hc, if_pos (by omega)]; rfl

theorem inv_step (l : List UInt8) (k : Nat) (a : Int) (hk : k < l.length) (H : Inv l k a) (h0 : 0 ≤ a) (h1 : 48 ≤ (l[k].toNat : Int)) (h2 : (l[k].toNat : Int) ≤ 57) (h : ¬ (18446744073709551615 - ((l[k].toNat : Int) - 48)) / 10 < a) : Inv l (k + 1) (a * 10 + ((l[k].toNat : Int) - 48)) := by
  unfold Inv at *
  rw [H, drop_at l k hk]
  simp only [Lib.parseUintM]
  rw [if_pos (by omega), if_neg (by omega), if_neg (by omega)]
  rw [show (a * 10 + ((l[k].toNat : Int) - 48)).toNat = a.toNat * 10 + (l[k].toNat - 48) from by omega]

theorem mdd_end (l : List UInt8) (k : Nat) (a : Int) (hl : 0 < l.length) (hk : l.length ≤ k) (H : Inv l k a) : mdd l = (a.toNat, canon l) := by
  rw [mdd_of l hl]
  unfold Inv at H
  rw [H, List.drop_of_length_le hk]
  simp only [Lib.parseUintM]
  rfl

theorem canon_one (l : List UInt8) (h : l.length = 1) : canon l = true := by
  match l, h with
  | [c], _ => rfl

theorem canon_more (l : List UInt8) (h : 1 < l.length) : canon l = ((l[0].toNat : Int) != 48) := by
  match l, h with
  | c :: d :: r, _ =>
    simp only [canon, List.getElem_cons_zero]
    rw [Bool.eq_iff_iff]
    simp
    omega
end Go.Proofs.YbulkbbuwDoor.Plain
