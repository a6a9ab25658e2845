import Derived.Test.Qxb6600221aNamed
namespace Go.Proofs.Qxb6600221a
open Go.RowKit

/-! ### The order of strings -/
theorem bl_irrefl : ∀ x : List UInt8, Op.bytesLess x x = false
  | [] => rfl
  | a :: x => by simp [Op.bytesLess, bl_irrefl x]

theorem bl_le_trans : ∀ x y z : List UInt8, Op.bytesLess y x = false → Op.bytesLess z y = false → Op.bytesLess z x = false
  | [], _, z, _, _ => by cases z <;> rfl
  | _ :: _, [], _, h, _ => by simp [Op.bytesLess] at h
  | _ :: _, _ :: _, [], _, h => by simp [Op.bytesLess] at h
  | a :: x, b :: y, c :: z, h1, h2 => by
    have ih := bl_le_trans x y z
    simp only [Op.bytesLess, Bool.or_eq_false_iff, Bool.and_eq_false_iff, decide_eq_false_iff_not, beq_eq_false_iff_ne] at h1 h2 ⊢
    obtain ⟨h1a, h1b⟩ := h1
    obtain ⟨h2a, h2b⟩ := h2
    have e1 : a.toNat ≤ b.toNat := by simpa [UInt8.lt_iff_toNat_lt] using h1a
    have e2 : b.toNat ≤ c.toNat := by simpa [UInt8.lt_iff_toNat_lt] using h2a
    refine ⟨by simp [UInt8.lt_iff_toNat_lt]; omega, ?_⟩
    by_cases hca : c = a
    · subst hca
      obtain rfl : b = c := by apply UInt8.toNat_inj.1; omega
      right
      rcases h1b with h | h
      · exact absurd rfl h
      · rcases h2b with h' | h'
        · exact absurd rfl h'
        · exact ih h h'
    · exact .inl hca

theorem bl_tri : ∀ x y : List UInt8, Op.bytesLess x y = false → Op.bytesLess y x = false → x = y
  | [], [], _, _ => rfl
  | [], _ :: _, h, _ => by simp [Op.bytesLess] at h
  | _ :: _, [], _, h => by simp [Op.bytesLess] at h
  | a :: x, b :: y, h1, h2 => by
    have ih := bl_tri x y
    simp only [Op.bytesLess, Bool.or_eq_false_iff, Bool.and_eq_false_iff, decide_eq_false_iff_not, beq_eq_false_iff_ne] at h1 h2
    have e1 : b.toNat ≤ a.toNat := by simpa [UInt8.lt_iff_toNat_lt] using h1.1
    have e2 : a.toNat ≤ b.toNat := by simpa [UInt8.lt_iff_toNat_lt] using h2.1
    obtain rfl : a = b := by apply UInt8.toNat_inj.1; omega
    rcases h1.2 with h | h
    · exact absurd rfl h
    · rcases h2.2 with h' | h'
      · exact absurd rfl h'
      · rw [ih h h']

/-- a is at most b. -/
def leS (a b : ByteArray) : Prop := Op.bytesLess b.toList a.toList = false
theorem leS.trans {a b c : ByteArray} (h : leS a b) (k : leS b c) : leS a c := bl_le_trans _ _ _ h k
/-- Go's 'a > b' says no. -/
theorem leS_of_not_gt {a b : ByteArray} (h : (!(Op.bytesLess a.toList b.toList || a.toList == b.toList)) = false) : leS a b := by
  unfold leS
  simp only [Bool.not_eq_false', Bool.or_eq_true, beq_iff_eq] at h
  rcases h with h | h
  · cases hb : Op.bytesLess b.toList a.toList with
    | false => rfl
    | true =>
      exfalso
      -- a < b and b < a
      have h3 : Op.bytesLess b.toList a.toList = false := bl_asymm _ _ h
      rw [hb] at h3; cases h3
  · rw [h]; exact bl_irrefl _
where
  bl_asymm : ∀ x y : List UInt8, Op.bytesLess x y = true → Op.bytesLess y x = false
    | x, [], h => by cases x <;> simp [Op.bytesLess] at h
    | [], _ :: _, _ => rfl
    | a :: x, b :: y, h => by
      have ih := bl_asymm x y
      simp only [Op.bytesLess, Bool.or_eq_true, decide_eq_true_eq, Bool.and_eq_true, beq_iff_eq, Bool.or_eq_false_iff, Bool.and_eq_false_iff, decide_eq_false_iff_not, beq_eq_false_iff_ne] at h ⊢
      rcases h with h | ⟨rfl, h⟩
      · have h' : a.toNat < b.toNat := by simpa [UInt8.lt_iff_toNat_lt] using h
        exact ⟨by simp [UInt8.lt_iff_toNat_lt]; omega, .inl (by intro e; subst e; omega)⟩
      · exact ⟨by simp, .inr (ih h)⟩
/-- Go's 'a > b' says yes. -/
theorem leS_of_gt {a b : ByteArray} (h : (!(Op.bytesLess a.toList b.toList || a.toList == b.toList)) = true) : leS b a := by
  unfold leS
  simp only [Bool.not_eq_true', Bool.or_eq_false_iff] at h
  exact h.1

/-! ### The list holds the name, by its places -/
theorem hasB_iff (L : List ByteArray) (x : ByteArray) : hasB L x = true ↔ ∃ i, i < L.length ∧ (L.getD i ByteArray.empty).toList = x.toList := by
  unfold hasB
  rw [List.any_eq_true]
  constructor
  · rintro ⟨s, hs, e⟩
    obtain ⟨i, hi, rfl⟩ := List.getElem_of_mem hs
    exact ⟨i, hi, by simpa [List.getD, hi] using e⟩
  · rintro ⟨i, hi, e⟩
    exact ⟨L[i], List.getElem_mem hi, by simpa [List.getD, hi] using e⟩

theorem getD_set (L : List ByteArray) (i j : Nat) (v : ByteArray) (hj : j < L.length) : (L.set i v).getD j ByteArray.empty = if i = j then v else L.getD j ByteArray.empty := by
  simp only [List.getD, List.getElem?_set]
  by_cases h : i = j
  · subst h; simp [hj]
  · simp [h]

/-- The first m elements are in order. -/
def SortedTo (L : List ByteArray) (m : Nat) : Prop := ∀ p q, p < q → q < m → leS (L.getD p ByteArray.empty) (L.getD q ByteArray.empty)

/-! ### The inner loop: a hole at j, the value v in hand -/
structure Hole (ss L : List ByteArray) (i j : Nat) (v : ByteArray) : Prop where
  len : L.length = ss.length
  has : ∀ x, hasB (L.set j v) x = hasB ss x
  ord : ∀ p q, p < q → q ≤ i → p ≠ j → q ≠ j → leS (L.getD p ByteArray.empty) (L.getD q ByteArray.empty)
  big : ∀ q, j < q → q ≤ i → leS v (L.getD q ByteArray.empty)

theorem Hole.start {ss L : List ByteArray} {i : Nat} (hlen : L.length = ss.length) (hh : ∀ x, hasB L x = hasB ss x) (hs : SortedTo L i) (hi : i < L.length) : Hole ss L i i (L.getD i ByteArray.empty) := by
  refine ⟨hlen, fun x => ?_, fun p q hpq hq hp hq' => hs p q hpq (by omega), fun q h1 h2 => by omega⟩
  have e : L.set i (L.getD i ByteArray.empty) = L := by
    rw [show L.getD i ByteArray.empty = L[i] by simp [List.getD, hi]]
    exact List.set_getElem_self hi
  rw [e]; exact hh x

theorem Hole.step {ss L : List ByteArray} {i j : Nat} {v : ByteArray} (h : Hole ss L i j v) (hj : 0 < j) (hji : j ≤ i) (hi : i < L.length)
    (hg : (!(Op.bytesLess (L.getD (j - 1) ByteArray.empty).toList v.toList || (L.getD (j - 1) ByteArray.empty).toList == v.toList)) = true) :
    Hole ss (L.set j (L.getD (j - 1) ByteArray.empty)) i (j - 1) v := by
  have hge := leS_of_gt hg
  refine ⟨by simpa using h.len, fun x => ?_, fun p q hpq hq hp hq' => ?_, fun q h1 h2 => ?_⟩
  · rw [← h.has x]
    have e : ∀ k, k < L.length → ((L.set j (L.getD (j - 1) ByteArray.empty)).set (j - 1) v).getD k ByteArray.empty = (if j - 1 = k then v else if j = k then L.getD (j - 1) ByteArray.empty else L.getD k ByteArray.empty) := by
      intro k hk
      rw [getD_set _ _ _ _ (by simpa using hk), getD_set _ _ _ _ hk]
    have e2 : ∀ k, k < L.length → (L.set j v).getD k ByteArray.empty = if j = k then v else L.getD k ByteArray.empty := fun k hk => getD_set _ _ _ _ hk
    rw [Bool.eq_iff_iff, hasB_iff, hasB_iff]
    simp only [List.length_set]
    constructor
    · rintro ⟨k, hk, ek⟩
      rw [e k hk] at ek
      by_cases h1 : j - 1 = k
      · rw [if_pos h1] at ek
        exact ⟨j, by omega, by rw [e2 j (by omega), if_pos rfl]; exact ek⟩
      · rw [if_neg h1] at ek
        by_cases h2 : j = k
        · rw [if_pos h2] at ek
          exact ⟨j - 1, by omega, by rw [e2 _ (by omega), if_neg (by omega)]; exact ek⟩
        · rw [if_neg h2] at ek
          exact ⟨k, hk, by rw [e2 _ hk, if_neg h2]; exact ek⟩
    · rintro ⟨k, hk, ek⟩
      rw [e2 k hk] at ek
      by_cases h2 : j = k
      · rw [if_pos h2] at ek
        exact ⟨j - 1, by omega, by rw [e _ (by omega), if_pos rfl]; exact ek⟩
      · rw [if_neg h2] at ek
        by_cases h1 : j - 1 = k
        · exact ⟨j, by omega, by rw [e _ (by omega), if_neg (by omega), if_pos rfl, h1]; exact ek⟩
        · exact ⟨k, hk, by rw [e _ hk, if_neg h1, if_neg h2]; exact ek⟩
  · rw [getD_set _ _ _ _ (by omega), getD_set _ _ _ _ (by omega)]
    by_cases h1 : j = p
    · rw [if_pos h1, if_neg (by omega)]
      exact h.ord (j - 1) q (by omega) hq (by omega) (by omega)
    · rw [if_neg h1]
      by_cases h2 : j = q
      · rw [if_pos h2]
        exact h.ord p (j - 1) (by omega) (by omega) (by omega) (by omega)
      · rw [if_neg h2]
        exact h.ord p q hpq hq (by omega) (by omega)
  · rw [getD_set _ _ _ _ (by omega)]
    by_cases h3 : j = q
    · rw [if_pos h3]; exact hge
    · rw [if_neg h3]; exact h.big q (by omega) h2

theorem Hole.done {ss L : List ByteArray} {i j : Nat} {v : ByteArray} (h : Hole ss L i j v) (hji : j ≤ i) (hi : i < L.length)
    (hg : j = 0 ∨ (!(Op.bytesLess (L.getD (j - 1) ByteArray.empty).toList v.toList || (L.getD (j - 1) ByteArray.empty).toList == v.toList)) = false) :
    SortedTo (L.set j v) (i + 1) := by
  intro p q hpq hq
  rw [getD_set _ _ _ _ (by omega), getD_set _ _ _ _ (by omega)]
  by_cases h1 : j = p
  · rw [if_pos h1, if_neg (by omega)]
    exact h.big q (by omega) (by omega)
  · rw [if_neg h1]
    by_cases h2 : j = q
    · rw [if_pos h2]
      rcases hg with hg | hg
      · omega
      · have hle := leS_of_not_gt hg
        by_cases h3 : p = j - 1
        · rw [h3]; exact hle
        · exact (h.ord p (j - 1) (by omega) (by omega) (by omega) (by omega)).trans hle
    · rw [if_neg h2]
      exact h.ord p q hpq (by omega) (by omega) (by omega)

/-! ### The binary search -/
/-- All below lo are less than x; none from hi on is. -/
structure Mid (L : List ByteArray) (x : ByteArray) (lo hi : Nat) : Prop where
  low : ∀ p, p < lo → Op.bytesLess (L.getD p ByteArray.empty).toList x.toList = true
  high : ∀ p, hi ≤ p → p < L.length → Op.bytesLess (L.getD p ByteArray.empty).toList x.toList = false

theorem Mid.up {L : List ByteArray} {x : ByteArray} {lo hi m : Nat} (h : Mid L x lo hi) (hs : SortedTo L L.length) (hm : m < L.length)
    (hl : Op.bytesLess (L.getD m ByteArray.empty).toList x.toList = true) : Mid L x (m + 1) hi := by
  refine ⟨fun p hp => ?_, h.high⟩
  cases hc : Op.bytesLess (L.getD p ByteArray.empty).toList x.toList with
  | true => rfl
  | false =>
    by_cases hpm : p = m
    · subst hpm; rw [hc] at hl; cases hl
    · have h1 : leS x (L.getD p ByteArray.empty) := hc
      have h2 := h1.trans (hs p m (by omega) hm)
      unfold leS at h2
      rw [h2] at hl; cases hl

theorem Mid.down {L : List ByteArray} {x : ByteArray} {lo hi m : Nat} (h : Mid L x lo hi) (hs : SortedTo L L.length)
    (hl : Op.bytesLess (L.getD m ByteArray.empty).toList x.toList = false) : Mid L x lo m := by
  refine ⟨h.low, fun p hp hpl => ?_⟩
  by_cases hpm : p = m
  · subst hpm; exact hl
  · have h1 : leS x (L.getD m ByteArray.empty) := hl
    exact h1.trans (hs m p (by omega) hpl)

theorem Mid.found {L : List ByteArray} {x : ByteArray} {lo : Nat} (h : Mid L x lo lo) (hs : SortedTo L L.length) :
    hasB L x = (decide (lo < L.length) && ((L.getD lo ByteArray.empty).toList == x.toList)) := by
  rw [Bool.eq_iff_iff, hasB_iff]
  simp only [Bool.and_eq_true, decide_eq_true_eq, beq_iff_eq]
  constructor
  · rintro ⟨p, hp, e⟩
    have hlp : lo ≤ p := by
      rcases Nat.lt_or_ge p lo with h1 | h1
      · have := h.low p h1
        rw [e, bl_irrefl] at this; cases this
      · exact h1
    have hlo : lo < L.length := by omega
    refine ⟨hlo, ?_⟩
    by_cases hpl : p = lo
    · subst hpl; exact e
    · have h2 := hs lo p (by omega) hp
      unfold leS at h2
      rw [e] at h2
      exact bl_tri _ _ (h.high lo (Nat.le_refl _) hlo) h2
  · rintro ⟨h1, h2⟩
    exact ⟨lo, h1, h2⟩

end Go.Proofs.Qxb6600221a
