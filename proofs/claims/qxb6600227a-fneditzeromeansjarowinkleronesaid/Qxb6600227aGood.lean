import Derived.Test.Qxb6600227aSame
namespace Go.Proofs.Qxb6600227a
open Go.RowKit

/-- What is known of the distance d of the first i runes of a from the first j runes of b. -/
def Good (a b : List Int) (i j : Nat) (d : Int) : Prop :=
  (i : Int) - j ≤ d ∧ (j : Int) - i ≤ d ∧ (d ≤ i ∨ d ≤ j) ∧ (d = 0 ↔ i = j ∧ ∀ k, k < i → sameC (a.getD k 0) (b.getD k 0) = true)

theorem Good.bounds {a b : List Int} {i j : Nat} {d : Int} (h : Good a b i j d) : 0 ≤ d ∧ (d ≤ i ∨ d ≤ j) := ⟨by have := h.1; have := h.2.1; omega, h.2.2.1⟩

theorem good_zero_left (a b : List Int) (j : Nat) : Good a b 0 j j :=
  ⟨by omega, by omega, by omega, ⟨fun h => ⟨by omega, fun k hk => by omega⟩, fun h => by omega⟩⟩

theorem good_zero_right (a b : List Int) (i : Nat) : Good a b i 0 i :=
  ⟨by omega, by omega, by omega, ⟨fun h => ⟨by omega, fun k hk => by omega⟩, fun h => by omega⟩⟩

theorem good_step {a b : List Int} {i j : Nat} {p1 r1 p0 c x : Int} (hp1 : Good a b i (j + 1) p1) (hr1 : Good a b (i + 1) j r1) (hp0 : Good a b i j p0)
    (hc : c = if sameC (a.getD i 0) (b.getD j 0) = true then 0 else 1)
    (h3 : x ≤ p0 + c) (hx : x = p1 + 1 ∨ x = r1 + 1 ∨ x = p0 + c) : Good a b (i + 1) (j + 1) x := by
  have b1 := hp1.bounds.1
  have b2 := hr1.bounds.1
  have b3 := hp0.bounds.1
  have hc0 : 0 ≤ c := by rw [hc]; split <;> omega
  have hc1 : c ≤ 1 := by rw [hc]; split <;> omega
  obtain ⟨p1a, p1b, _, _⟩ := hp1
  obtain ⟨r1a, r1b, _, _⟩ := hr1
  obtain ⟨p0a, p0b, p0c, p0z⟩ := hp0
  have hpos : x = 0 → p0 = 0 ∧ c = 0 := by
    intro hx0
    rcases hx with h | h | h <;> constructor <;> omega
  refine ⟨?_, ?_, ?_, ?_, ?_⟩
  · clear p0c hc; rcases hx with h | h | h <;> omega
  · clear p0c hc; rcases hx with h | h | h <;> omega
  · clear hc hx hpos; rcases p0c with h | h <;> omega
  · intro hx0
    obtain ⟨hp, hcc⟩ := hpos hx0
    obtain ⟨e, hs⟩ := p0z.1 hp
    refine ⟨by omega, fun k hk => ?_⟩
    by_cases hki : k < i
    · exact hs k hki
    · obtain rfl : k = i := by omega
      subst e
      by_cases hss : sameC (a.getD k 0) (b.getD k 0) = true
      · exact hss
      · rw [if_neg hss] at hc; omega
  · rintro ⟨e, hs⟩
    have hp : p0 = 0 := p0z.2 ⟨by omega, fun k hk => hs k (by omega)⟩
    have hij : i = j := by omega
    have := hs i (by omega)
    subst hij
    rw [if_pos this] at hc
    rw [hp, hc] at h3
    clear p0c
    rcases hx with h | h | h <;> omega

theorem good_swap {a b : List Int} {i j : Nat} {x o y : Int} (hx : Good a b (i + 2) (j + 2) x) (ho : Good a b i j o) (h1 : y ≤ x) (h2 : y ≤ o + 1) (hy : y = x ∨ y = o + 1) : Good a b (i + 2) (j + 2) y := by
  have b1 := hx.bounds.1
  have b2 := ho.bounds.1
  obtain ⟨xa, xb, xc, xz⟩ := hx
  obtain ⟨oa, ob, oc, oz⟩ := ho
  clear oc
  refine ⟨by clear xc; rcases hy with h | h <;> omega, by clear xc; rcases hy with h | h <;> omega, by clear hy; omega, ?_⟩
  rw [← xz]
  clear xc
  constructor
  · intro h; rcases hy with h' | h' <;> omega
  · intro h; rcases hy with h' | h' <;> omega

/-- The row P holds the distances of the first i runes of a. -/
def RowOK (a b : List Int) (i m : Nat) (P : List Int) : Prop := ∀ j, j < m → Good a b i j (P.getD j 0)

theorem getD_setI (L : List Int) (i j : Nat) (v : Int) (hj : j < L.length) : (L.set i v).getD j 0 = if i = j then v else L.getD j 0 := by
  simp only [List.getD, List.getElem?_set]
  by_cases h : i = j
  · subst h; simp [hj]
  · simp [h]

theorem ints_get (L : List Int) (k : Nat) (h : k < L.length) : (L.map (Value.int .i64))[k]? = some (.int .i64 (L.getD k 0)) := by
  simp [h, List.getD]

theorem ints_set (L : List Int) (k : Nat) (s : Int) : (L.map (Value.int .i64)).set k (.int .i64 s) = (L.set k s).map (Value.int .i64) := by
  rw [List.map_set]
end Go.Proofs.Qxb6600227a
