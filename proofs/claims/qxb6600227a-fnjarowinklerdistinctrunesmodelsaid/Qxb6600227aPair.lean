import Derived.Test.Qxb6600227aJLaws
import Derived.Test.Qxb6600227aSmall
namespace Go.Proofs.Qxb6600227a
open Go.RowKit

/-- No wildcard among the runes. -/
def Clean (a : List Int) : Prop := ∀ i, i < a.length → a.getD i 0 ≠ 65533

theorem sameC_clean {x y : Int} (h : x ≠ 65533) : sameC x y = (x == y) := by
  unfold sameC
  have : (x == 65533) = false := by simpa using h
  rw [this]; simp

/-- a's i-th rune is b's j-th, within the window. -/
def pairB (a b : List Int) (W i j : Nat) : Bool := (a.getD i 0 == b.getD j 0) && (decide (i ≤ j + W) && decide (j ≤ i + W))

theorem mstate_b (a b : List Int) (W : Nat) : ∀ i, i ≤ a.length → ∀ j, j < b.length → (mstate a b W i).2.getD j false = true → ∃ i', i' < i ∧ sameC (a.getD i' 0) (b.getD j 0) = true
  | 0, _, j, hj, h => by
    simp [mstate, List.getD, hj] at h
  | i + 1, hi, j, hj, h => by
    obtain ⟨f1, f2, _, _⟩ := mstate_facts a b W i (by omega)
    rw [mstate] at h
    cases ht : take1 a b W (mstate a b W i).2 i with
    | none =>
      rw [ht] at h
      obtain ⟨i', h1, h2⟩ := mstate_b a b W i (by omega) j hj h
      exact ⟨i', by omega, h2⟩
    | some q =>
      rw [ht] at h
      obtain ⟨g1, _, _, _, _⟩ := take1_some ht
      have h' : ((mstate a b W i).2.set q true).getD j false = true := h
      rw [getD_setB _ _ _ _ (by omega)] at h'
      by_cases e : q = j
      · subst e
        unfold hitB at g1
        simp only [Bool.and_eq_true] at g1
        exact ⟨i, by omega, g1.2⟩
      · rw [if_neg e] at h'
        obtain ⟨i', h1, h2⟩ := mstate_b a b W i (by omega) j hj h'
        exact ⟨i', by omega, h2⟩

/-- The state of the model's inner loop. -/
def Inn (a b : List Int) (W i : Nat) (aM bM : List Bool) (j : Nat) (A B : List Bool) (M : Nat) : Prop :=
  (∃ j', j' < j ∧ pairB a b W i j' = true ∧ A = aM.set i true ∧ B = bM.set j' true ∧ M = cnt aM + 1) ∨
  ((∀ j', j' < j → pairB a b W i j' = false) ∧ A = aM ∧ B = bM ∧ M = cnt aM)

theorem Inn.start (a b : List Int) (W i : Nat) (aM bM : List Bool) : Inn a b W i aM bM 0 aM bM (cnt aM) := .inr ⟨fun _ h => by omega, rfl, rfl, rfl⟩

theorem pairB_eq {a b : List Int} {W i j : Nat} (h : pairB a b W i j = true) : a.getD i 0 = b.getD j 0 ∧ i ≤ j + W ∧ j ≤ i + W := by
  unfold pairB at h
  simp only [Bool.and_eq_true, beq_iff_eq, decide_eq_true_eq] at h
  exact h

theorem Inn.hit {a b : List Int} {W i : Nat} {aM bM : List Bool} {j : Nat} {A B : List Bool} {M : Nat} (h : Inn a b W i aM bM j A B M) (hb : Distinct b) (hj : j < b.length) (hp : pairB a b W i j = true) :
    A = aM ∧ B = bM ∧ M = cnt aM ∧ Inn a b W i aM bM (j + 1) (A.set i true) (B.set j true) (M + 1) := by
  rcases h with ⟨j', h1, h2, _⟩ | ⟨_, rfl, rfl, rfl⟩
  · exact absurd ((pairB_eq h2).1.symm.trans (pairB_eq hp).1) (hb j' j h1 hj)
  · exact ⟨rfl, rfl, rfl, .inl ⟨j, by omega, hp, rfl, rfl, rfl⟩⟩

theorem Inn.miss {a b : List Int} {W i : Nat} {aM bM : List Bool} {j : Nat} {A B : List Bool} {M : Nat} (h : Inn a b W i aM bM j A B M) (hp : pairB a b W i j = false) : Inn a b W i aM bM (j + 1) A B M := by
  rcases h with ⟨j', h1, h2⟩ | ⟨h1, h2⟩
  · exact .inl ⟨j', by omega, h2⟩
  · refine .inr ⟨fun q hq => ?_, h2⟩
    by_cases e : q = j
    · rw [e]; exact hp
    · exact h1 q (by omega)

theorem Inn.lens {a b : List Int} {W i : Nat} {aM bM : List Bool} {j : Nat} {A B : List Bool} {M : Nat} (h : Inn a b W i aM bM j A B M) : A.length = aM.length ∧ B.length = bM.length ∧ M ≤ cnt aM + 1 := by
  rcases h with ⟨j', _, _, rfl, rfl, rfl⟩ | ⟨_, rfl, rfl, rfl⟩
  · simp
  · simp

theorem Inn.done {a b : List Int} {W i : Nat} {aM bM : List Bool} {A B : List Bool} {M : Nat} (h : Inn a b W i aM bM b.length A B M) (hi : i < a.length) (ha : Distinct a) (hb : Distinct b) (hc : Clean a) (hM : mstate a b W i = (aM, bM)) :
    mstate a b W (i + 1) = (A, B) ∧ M = cnt A := by
  obtain ⟨f1, f2, f3, f4⟩ := mstate_facts a b W i (by omega)
  have fb := mstate_b a b W i (by omega)
  rw [hM] at f1 f2 f4 fb
  simp only at f1 f2 f4 fb
  have hfree : ∀ j, j < b.length → a.getD i 0 = b.getD j 0 → bM.getD j false = false := by
    intro j hj e
    cases hb' : bM.getD j false with
    | false => rfl
    | true =>
      obtain ⟨i', h1, h2⟩ := fb j hj hb'
      rw [sameC_clean (hc i' (by omega))] at h2
      have h3 : a.getD i' 0 = b.getD j 0 := by simpa using h2
      exact absurd (h3.trans e.symm) (ha i' i h1 hi)
  have hitc : ∀ j, j < b.length → hitB a b bM i j = (a.getD i 0 == b.getD j 0) := by
    intro j hj
    unfold hitB
    rw [sameC_clean (hc i hi)]
    cases he : (a.getD i 0 == b.getD j 0) with
    | false => simp
    | true => rw [hfree j hj (by simpa using he)]; rfl
  rcases h with ⟨j', h1, h2, rfl, rfl, rfl⟩ | ⟨h1, rfl, rfl, rfl⟩
  · obtain ⟨e, w1, w2⟩ := pairB_eq h2
    refine ⟨mstate_hit hM (fun q hq1 hq2 => ?_) (by rw [hitc j' h1]; simpa using e) (by omega) h1 w2, ?_⟩
    · rw [hitc q (by omega)]
      cases he : (a.getD i 0 == b.getD q 0) with
      | false => rfl
      | true =>
        have he' : a.getD i 0 = b.getD q 0 := by simpa using he
        exact absurd (he'.symm.trans e) (hb q j' hq2 h1)
    · rw [cnt_set aM i (by omega) (f4 i (Nat.le_refl _))]
  · refine ⟨mstate_miss hM (min b.length (i + W + 1)) (fun q hq1 hq2 => ?_) (by omega), rfl⟩
    rw [hitc q (by omega)]
    have := h1 q (by omega)
    unfold pairB at this
    rw [decide_eq_true (show i ≤ q + W by omega), decide_eq_true (show q ≤ i + W by omega)] at this
    simpa using this

theorem PreOK.unique {a b : List Int} {p q : Nat} (h : PreOK a b p) (k : PreOK a b q) : p = q := by
  obtain ⟨a1, a2, a3, a4, a5⟩ := h
  obtain ⟨b1, b2, b3, b4, b5⟩ := k
  rcases Nat.lt_trichotomy p q with h | h | h
  · have h1 := a5 (by omega) (by omega) (by omega)
    rw [b4 p h] at h1; cases h1
  · exact h
  · have h1 := b5 (by omega) (by omega) (by omega)
    rw [a4 q h] at h1; cases h1

/-! ### The two rows of matched runes -/
theorem sel_mem : ∀ (xs : List Int) (ms : List Bool) (x : Int), x ∈ sel xs ms → x ∈ xs
  | [], _, _, h => by simp [sel] at h
  | _ :: _, [], _, h => by simp [sel] at h
  | y :: xs, m :: ms, x, h => by
    simp only [sel] at h
    split at h
    · rcases List.mem_cons.1 h with e | e
      · rw [e]; exact List.mem_cons_self
      · exact List.mem_cons_of_mem _ (sel_mem xs ms x e)
    · exact List.mem_cons_of_mem _ (sel_mem xs ms x h)

theorem sel_clean {a : List Int} {aM : List Bool} (hc : Clean a) (q : Nat) (hq : q < (sel a aM).length) : (sel a aM).getD q 0 ≠ 65533 := by
  have hm : (sel a aM).getD q 0 ∈ sel a aM := by
    rw [show (sel a aM).getD q 0 = (sel a aM)[q] by simp [List.getD, hq]]
    exact List.getElem_mem hq
  obtain ⟨i, hi, e⟩ := List.getElem_of_mem (sel_mem _ _ _ hm)
  rw [← e, show a[i] = a.getD i 0 by simp [List.getD, hi]]
  exact hc i hi

theorem mism_take (xs ys : List Int) (q : Nat) (h1 : q < xs.length) (h2 : q < ys.length) : mism (xs.take (q + 1)) (ys.take (q + 1)) = mism (xs.take q) (ys.take q) + (if sameC (xs.getD q 0) (ys.getD q 0) = true then 0 else 1) := by
  rw [List.take_succ_eq_append_getElem h1, List.take_succ_eq_append_getElem h2, mism_snoc _ _ _ _ (by simp; omega)]
  simp [List.getD, h1, h2]
end Go.Proofs.Qxb6600227a
