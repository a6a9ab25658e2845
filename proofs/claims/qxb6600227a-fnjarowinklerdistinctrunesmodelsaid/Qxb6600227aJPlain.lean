import Derived.Test.Qxb6600227aSame
namespace Go.Proofs.Qxb6600227a
open Go.RowKit

/-- The elements whose flag is set. -/
def sel : List Int → List Bool → List Int
  | x :: xs, m :: ms => if m then x :: sel xs ms else sel xs ms
  | _, _ => []
/-- How many flags are set. -/
def cnt : List Bool → Nat
  | [] => 0
  | m :: ms => (if m then 1 else 0) + cnt ms
/-- At how many places the two lists part. -/
def mism : List Int → List Int → Nat
  | x :: xs, y :: ys => (if sameC x y then 0 else 1) + mism xs ys
  | _, _ => 0

theorem cnt_le : ∀ ms : List Bool, cnt ms ≤ ms.length
  | [] => Nat.le_refl _
  | m :: ms => by have := cnt_le ms; simp only [cnt, List.length_cons]; split <;> omega

theorem cnt_replicate : ∀ n : Nat, cnt (List.replicate n false) = 0
  | 0 => rfl
  | n + 1 => by rw [List.replicate_succ]; simp [cnt, cnt_replicate n]

theorem cnt_set : ∀ (ms : List Bool) (i : Nat), i < ms.length → ms.getD i false = false → cnt (ms.set i true) = cnt ms + 1
  | [], i, h, _ => by simp at h
  | m :: ms, 0, _, hf => by
    simp at hf
    simp [cnt, hf]; omega
  | m :: ms, i + 1, h, hf => by
    have ih := cnt_set ms i (by simpa using h) (by simpa using hf)
    simp only [List.set_cons_succ, cnt, ih]; omega

theorem cnt_append : ∀ (xs ys : List Bool), cnt (xs ++ ys) = cnt xs + cnt ys
  | [], ys => by simp [cnt]
  | x :: xs, ys => by simp only [List.cons_append, cnt, cnt_append xs ys]; omega

theorem sel_length : ∀ (xs : List Int) (ms : List Bool), xs.length = ms.length → (sel xs ms).length = cnt ms
  | [], [], _ => rfl
  | [], _ :: _, h => by simp at h
  | _ :: _, [], h => by simp at h
  | x :: xs, m :: ms, h => by
    have ih := sel_length xs ms (by simpa using h)
    simp only [sel, cnt]
    split <;> simp [ih] ; omega

theorem sel_append : ∀ (xs : List Int) (ms : List Bool) (xs' : List Int) (ms' : List Bool), xs.length = ms.length → sel (xs ++ xs') (ms ++ ms') = sel xs ms ++ sel xs' ms'
  | [], [], _, _, _ => by simp [sel]
  | [], _ :: _, _, _, h => by simp at h
  | _ :: _, [], _, _, h => by simp at h
  | x :: xs, m :: ms, xs', ms', h => by
    have ih := sel_append xs ms xs' ms' (by simpa using h)
    simp only [List.cons_append, sel, ih]
    split <;> simp

theorem sel_snoc (xs : List Int) (ms : List Bool) (i : Nat) (h1 : i < xs.length) (h2 : i < ms.length) :
    sel (xs.take (i + 1)) (ms.take (i + 1)) = sel (xs.take i) (ms.take i) ++ (if ms.getD i false = true then [xs.getD i 0] else []) := by
  rw [List.take_succ_eq_append_getElem h1, List.take_succ_eq_append_getElem h2, sel_append _ _ _ _ (by simp; omega)]
  congr 1
  simp [sel, List.getD, h1, h2]

theorem cnt_snoc (ms : List Bool) (i : Nat) (h2 : i < ms.length) : cnt (ms.take (i + 1)) = cnt (ms.take i) + (if ms.getD i false = true then 1 else 0) := by
  rw [List.take_succ_eq_append_getElem h2, cnt_append]
  congr 1
  simp [cnt, List.getD, h2]

theorem cnt_take_le (ms : List Bool) (i : Nat) : cnt (ms.take i) ≤ cnt ms := by
  have h : cnt (ms.take i ++ ms.drop i) = cnt (ms.take i) + cnt (ms.drop i) := cnt_append _ _
  rw [List.take_append_drop] at h
  omega

theorem sel_whole (xs : List Int) (ms : List Bool) (j : Nat) (hl : xs.length = ms.length) (h : cnt (ms.take j) = cnt ms) : sel (xs.take j) (ms.take j) = sel xs ms := by
  have h1 : cnt (ms.take j ++ ms.drop j) = cnt (ms.take j) + cnt (ms.drop j) := cnt_append _ _
  rw [List.take_append_drop] at h1
  have h2 : sel (xs.take j ++ xs.drop j) (ms.take j ++ ms.drop j) = sel (xs.take j) (ms.take j) ++ sel (xs.drop j) (ms.drop j) := sel_append _ _ _ _ (by simp; omega)
  rw [List.take_append_drop, List.take_append_drop] at h2
  have h3 : (sel (xs.drop j) (ms.drop j)).length = cnt (ms.drop j) := sel_length _ _ (by simp; omega)
  have h4 : sel (xs.drop j) (ms.drop j) = [] := List.eq_nil_of_length_eq_zero (by omega)
  rw [h2, h4]; simp

theorem mism_snoc : ∀ (xs ys : List Int) (x y : Int), xs.length = ys.length → mism (xs ++ [x]) (ys ++ [y]) = mism xs ys + (if sameC x y = true then 0 else 1)
  | [], [], x, y, _ => by simp [mism]
  | [], _ :: _, _, _, h => by simp at h
  | _ :: _, [], _, _, h => by simp at h
  | x' :: xs, y' :: ys, x, y, h => by
    have ih := mism_snoc xs ys x y (by simpa using h)
    simp only [List.cons_append, mism, ih]; omega

theorem mism_le : ∀ (xs ys : List Int), mism xs ys ≤ xs.length
  | [], _ => by simp [mism]
  | _ :: _, [] => by simp [mism]
  | x :: xs, y :: ys => by
    have ih := mism_le xs ys
    simp only [mism, List.length_cons]; split <;> omega

/-! ### The greedy matching -/
/-- May a's i-th rune take b's j-th? -/
def hitB (a b : List Int) (bM : List Bool) (i j : Nat) : Bool := !bM.getD j false && sameC (a.getD i 0) (b.getD j 0)
/-- The first of c numbers from j on at which p holds. -/
def firstFrom (p : Nat → Bool) : (c j : Nat) → Option Nat
  | 0, _ => none
  | c + 1, j => if p j then some j else firstFrom p c (j + 1)

theorem firstFrom_none {p : Nat → Bool} : ∀ {c j : Nat}, (∀ q, j ≤ q → q < j + c → p q = false) → firstFrom p c j = none
  | 0, _, _ => rfl
  | c + 1, j, h => by
    rw [firstFrom, h j (by omega) (by omega)]
    exact firstFrom_none fun q h1 h2 => h q (by omega) (by omega)

theorem firstFrom_some {p : Nat → Bool} : ∀ {c j q : Nat}, (∀ r, j ≤ r → r < q → p r = false) → p q = true → j ≤ q → q < j + c → firstFrom p c j = some q
  | 0, _, _, _, _, _, _ => by omega
  | c + 1, j, q, h, hq, h1, h2 => by
    rw [firstFrom]
    by_cases e : j = q
    · subst e; rw [hq]; rfl
    · rw [h j (by omega) (by omega)]
      exact firstFrom_some (fun r h3 h4 => h r (by omega) h4) hq (by omega) (by omega)

theorem firstFrom_spec {p : Nat → Bool} : ∀ {c j q : Nat}, firstFrom p c j = some q → p q = true ∧ j ≤ q ∧ q < j + c ∧ ∀ r, j ≤ r → r < q → p r = false
  | 0, _, _, h => by simp [firstFrom] at h
  | c + 1, j, q, h => by
    rw [firstFrom] at h
    cases hp : p j with
    | true =>
      rw [hp] at h
      simp at h
      subst h
      exact ⟨hp, Nat.le_refl _, by omega, fun r h1 h2 => by omega⟩
    | false =>
      rw [hp] at h
      obtain ⟨h1, h2, h3, h4⟩ := firstFrom_spec (p := p) (c := c) (j := j + 1) (q := q) (by simpa using h)
      refine ⟨h1, by omega, by omega, fun r h5 h6 => ?_⟩
      by_cases e : r = j
      · rw [e]; exact hp
      · exact h4 r (by omega) h6

theorem firstFrom_no {p : Nat → Bool} : ∀ {c j : Nat}, firstFrom p c j = none → ∀ q, j ≤ q → q < j + c → p q = false
  | 0, _, _, _, _, _ => by omega
  | c + 1, j, h, q, h1, h2 => by
    rw [firstFrom] at h
    cases hp : p j with
    | true => rw [hp] at h; simp at h
    | false =>
      rw [hp] at h
      by_cases e : q = j
      · rw [e]; exact hp
      · exact firstFrom_no (p := p) (c := c) (j := j + 1) (by simpa using h) q (by omega) (by omega)

/-- Whom a's i-th rune takes, with window W. -/
def take1 (a b : List Int) (W : Nat) (bM : List Bool) (i : Nat) : Option Nat := firstFrom (hitB a b bM i) (min b.length (i + W + 1) - (i - W)) (i - W)
/-- The flags behind i rounds. -/
def mstate (a b : List Int) (W : Nat) : Nat → List Bool × List Bool
  | 0 => (List.replicate a.length false, List.replicate b.length false)
  | i + 1 => match take1 a b W (mstate a b W i).2 i with
    | none => mstate a b W i
    | some j => ((mstate a b W i).1.set i true, (mstate a b W i).2.set j true)

theorem getD_setB (L : List Bool) (i j : Nat) (v : Bool) (hj : j < L.length) : (L.set i v).getD j false = if i = j then v else L.getD j false := by
  simp only [List.getD, List.getElem?_set]
  by_cases h : i = j
  · subst h; simp [hj]
  · simp [h]

theorem take1_some {a b : List Int} {W : Nat} {bM : List Bool} {i j : Nat} (h : take1 a b W bM i = some j) : hitB a b bM i j = true ∧ i - W ≤ j ∧ j < b.length ∧ j ≤ i + W ∧ ∀ r, i - W ≤ r → r < j → hitB a b bM i r = false := by
  obtain ⟨h1, h2, h3, h4⟩ := firstFrom_spec h
  exact ⟨h1, h2, by omega, by omega, h4⟩

theorem mstate_facts (a b : List Int) (W : Nat) : ∀ i, i ≤ a.length → (mstate a b W i).1.length = a.length ∧ (mstate a b W i).2.length = b.length ∧ cnt (mstate a b W i).1 = cnt (mstate a b W i).2 ∧ (∀ j, i ≤ j → (mstate a b W i).1.getD j false = false)
  | 0, _ => by
    refine ⟨by simp [mstate], by simp [mstate], by simp [mstate, cnt_replicate], fun j _ => ?_⟩
    simp [mstate, List.getD, List.getElem?_replicate]
    split <;> rfl
  | i + 1, hi => by
    obtain ⟨h1, h2, h3, h4⟩ := mstate_facts a b W i (by omega)
    rw [mstate]
    cases ht : take1 a b W (mstate a b W i).2 i with
    | none => exact ⟨h1, h2, h3, fun j hj => h4 j (by omega)⟩
    | some j =>
      obtain ⟨g1, g2, g3, g4, _⟩ := take1_some ht
      have hbj : (mstate a b W i).2.getD j false = false := by
        unfold hitB at g1
        simp only [Bool.and_eq_true, Bool.not_eq_true'] at g1
        exact g1.1
      refine ⟨by simpa using h1, by simpa using h2, ?_, fun q hq => ?_⟩
      · show cnt ((mstate a b W i).1.set i true) = cnt ((mstate a b W i).2.set j true)
        rw [cnt_set _ _ (by omega) (h4 i (Nat.le_refl _)), cnt_set _ _ (by omega) hbj, h3]
      · show ((mstate a b W i).1.set i true).getD q false = false
        by_cases hql : q < (mstate a b W i).1.length
        · rw [getD_setB _ _ _ _ hql, if_neg (by omega)]
          exact h4 q (by omega)
        · simp [List.getD, hql]
end Go.Proofs.Qxb6600227a
