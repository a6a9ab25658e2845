import Derived.Test.Qxb6600227aZZJ
namespace Go.Proofs.Qxb6600227a
open Go.RowKit

theorem frac_le {p N D : Nat} (hp : p ≤ 4) (h : N ≤ D) : 10 * (N : Int) + (p : Int) * ((D : Int) - (N : Int)) ≤ 10 * (D : Int) ∧ 0 ≤ (p : Int) * ((D : Int) - (N : Int)) := by
  have e : (p : Int) * ((D : Int) - (N : Int)) = ((p * (D - N) : Nat) : Int) := by rw [Int.natCast_mul]; congr 1; omega
  have h1 : p * (D - N) ≤ 4 * (D - N) := Nat.mul_le_mul_right _ hp
  rw [e]; omega

/-- THE RANGE. -/
theorem JOK.range {a b : List Int} {num den : Int} (h : JOK a b num den) : 0 ≤ num ∧ num ≤ den ∧ 1 ≤ den := by
  obtain ⟨f1, f2, f3, _⟩ := mstate_facts a b (win a.length b.length) a.length (Nat.le_refl _)
  unfold JOK JRes at h
  rcases h with ⟨_, rfl, rfl⟩ | ⟨hm, p, N, D, hp, hN, hD, hle, rfl, rfl⟩
  · omega
  · have c1 := cnt_le (mstate a b (win a.length b.length) a.length).1
    have c2 := cnt_le (mstate a b (win a.length b.length) a.length).2
    have hf := frac_le hp.1 hle
    have hDp : 0 < D := by
      rw [hD]
      have h1 : 0 < a.length := by omega
      have h2 : 0 < b.length := by omega
      exact Nat.mul_pos (Nat.mul_pos (Nat.mul_pos (by omega) h1) h2) (by omega)
    omega

/-- THE REFUSAL. -/
theorem mstate_none (a b : List Int) (W : Nat) (h : ∀ i j, i < a.length → j < b.length → sameC (a.getD i 0) (b.getD j 0) = false) : ∀ i, i ≤ a.length → mstate a b W i = mstate a b W 0
  | 0, _ => rfl
  | i + 1, hi => by
    have ih := mstate_none a b W h i (by omega)
    have ht : take1 a b W (mstate a b W i).2 i = none := by
      refine firstFrom_none fun q h1 h2 => ?_
      unfold hitB
      rw [h i q (by omega) (by omega)]; simp
    rw [← ih]
    show (match take1 a b W (mstate a b W i).2 i with
      | none => mstate a b W i
      | some j => ((mstate a b W i).1.set i true, (mstate a b W i).2.set j true)) = _
    rw [ht]

theorem JOK.refusal {a b : List Int} {num den : Int} (h : JOK a b num den) (hn : ∀ i j, i < a.length → j < b.length → sameC (a.getD i 0) (b.getD j 0) = false) : num = 0 ∧ den = 1 := by
  unfold JOK JRes at h
  rw [mstate_none a b _ hn a.length (Nat.le_refl _)] at h
  rcases h with ⟨_, h1, h2⟩ | ⟨hm, _⟩
  · exact ⟨h1, h2⟩
  · exact absurd (by simp [mstate, cnt_replicate]) hm

/-! ### Two strings that are the same -/
theorem mstate_diag (a b : List Int) (W : Nat) (hl : a.length = b.length) (h : ∀ i, i < a.length → sameC (a.getD i 0) (b.getD i 0) = true) :
    ∀ i, i ≤ a.length → ∀ j, j < a.length → (mstate a b W i).1.getD j false = decide (j < i) ∧ (mstate a b W i).2.getD j false = decide (j < i)
  | 0, _, j, hj => by
    have hj2 : j < b.length := by omega
    simp [mstate, List.getD, hj, hj2]
  | i + 1, hi, j, hj => by
    have ih := mstate_diag a b W hl h i (by omega)
    obtain ⟨f1, f2, _, _⟩ := mstate_facts a b W i (by omega)
    have ht : take1 a b W (mstate a b W i).2 i = some i := by
      refine firstFrom_some (fun r h1 h2 => ?_) ?_ (by omega) (by omega)
      · unfold hitB
        rw [(ih r (by omega)).2, decide_eq_true h2]; simp
      · unfold hitB
        rw [(ih i (by omega)).2, h i (by omega)]; simp
    rw [mstate, ht]
    show ((mstate a b W i).1.set i true).getD j false = _ ∧ ((mstate a b W i).2.set i true).getD j false = _
    rw [getD_setB _ _ _ _ (by omega), getD_setB _ _ _ _ (by omega), (ih j hj).1, (ih j hj).2]
    by_cases e : i = j
    · subst e; simp
    · rw [if_neg e]
      have : (decide (j < i)) = decide (j < i + 1) := by
        apply decide_eq_decide.2; omega
      rw [this]; exact ⟨rfl, rfl⟩

theorem all_true : ∀ (ms : List Bool), (∀ j, j < ms.length → ms.getD j false = true) → ms = List.replicate ms.length true := by
  intro ms h
  apply List.ext_getElem (by simp)
  intro j h1 h2
  have := h j h1
  simpa [List.getD, h1] using this

theorem cnt_all (n : Nat) : cnt (List.replicate n true) = n := by
  induction n with
  | zero => rfl
  | succ n ih => rw [List.replicate_succ]; simp only [cnt, ih, if_true]; omega

theorem sel_all : ∀ (xs : List Int), sel xs (List.replicate xs.length true) = xs
  | [] => rfl
  | x :: xs => by rw [List.length_cons, List.replicate_succ]; simp [sel, sel_all xs]

theorem mism_zero : ∀ (xs ys : List Int), (∀ i, i < xs.length → i < ys.length → sameC (xs.getD i 0) (ys.getD i 0) = true) → mism xs ys = 0
  | [], _, _ => by simp [mism]
  | _ :: _, [], _ => by simp [mism]
  | x :: xs, y :: ys, h => by
    have h0 := h 0 (by simp) (by simp)
    have ih := mism_zero xs ys (fun i h1 h2 => by simpa using h (i + 1) (by simpa using h1) (by simpa using h2))
    simp at h0
    simp [mism, h0, ih]

theorem cube (n : Nat) : n * n * (n + n) + n * n * n = 3 * n * n * n := by
  rw [Nat.mul_add]
  have : 3 * n * n * n = 3 * (n * n * n) := by rw [Nat.mul_assoc 3 n n, Nat.mul_assoc 3 (n * n) n]
  omega

/-- TWO EQUAL STRINGS ARE WHOLLY SIMILAR. -/
theorem JOK.one {a b : List Int} {num den : Int} (h : JOK a b num den) (hl : a.length = b.length) (hp : 0 < a.length) (hs : ∀ i, i < a.length → sameC (a.getD i 0) (b.getD i 0) = true) : num = den ∧ 1 ≤ den := by
  refine ⟨?_, h.range.2.2⟩
  obtain ⟨f1, f2, f3, _⟩ := mstate_facts a b (win a.length b.length) a.length (Nat.le_refl _)
  have hd := mstate_diag a b (win a.length b.length) hl hs a.length (Nat.le_refl _)
  have eA : (mstate a b (win a.length b.length) a.length).1 = List.replicate a.length true := by
    have := all_true (mstate a b (win a.length b.length) a.length).1 (fun j hj => by rw [(hd j (by omega)).1]; simp; omega)
    rw [f1] at this; exact this
  have eB : (mstate a b (win a.length b.length) a.length).2 = List.replicate b.length true := by
    have := all_true (mstate a b (win a.length b.length) a.length).2 (fun j hj => by rw [(hd j (by omega)).2]; simp; omega)
    rw [f2] at this; exact this
  unfold JOK JRes at h
  rw [eA, eB, cnt_all, sel_all, sel_all, mism_zero a b (fun i h1 _ => hs i h1)] at h
  rcases h with ⟨h0, _⟩ | ⟨_, p, N, D, _, hN, hD, _, rfl, rfl⟩
  · omega
  · have e : N = D := by
      rw [hN, hD, ← hl]
      simpa using cube a.length
    rw [e]; simp
end Go.Proofs.Qxb6600227a
