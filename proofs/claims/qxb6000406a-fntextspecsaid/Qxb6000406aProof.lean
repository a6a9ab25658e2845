import Derived.Test.Qxb6000406aLaw
import Derived.ProofKit
import Derived.ShutString
import Derived.ChangeOld
import Derived.SliceStrings
namespace Go.Proofs.Qxb6000406a
open Go.ChangeShapes Go.WideShapes Go.ChangeAt Go.RowKit
open Go.ChangeMaps (open_string shut_string)
set_option linter.unusedVariables false

theorem own : ownKnob Try.prog.godebug = none := by kernel_rfl
theorem laidOut : laidOutB Try.prog = true := by kernel_rfl

/-- A list, element by element. -/
theorem listOf {X : Type} (d : X) (p : Nat → X → Prop) (n : Nat) (h : ∀ i, i < n → ∃ x, p i x) : ∃ xs : List X, xs.length = n ∧ ∀ i, i < n → p i (xs.getD i d) := by
  induction n with
  | zero => exact ⟨[], rfl, fun i hi => by omega⟩
  | succ n ih =>
    obtain ⟨xs, hl, hx⟩ := ih (fun i hi => h i (by omega))
    obtain ⟨x, hxn⟩ := h n (by omega)
    refine ⟨xs ++ [x], by simp [hl], fun i hi => ?_⟩
    by_cases e : i < n
    · have : (xs ++ [x]).getD i d = xs.getD i d := by
        simp only [List.getD, List.getElem?_append_left (show i < xs.length by omega)]
      rw [this]; exact hx i e
    · obtain rfl : i = n := by omega
      have : (xs ++ [x]).getD i d = x := by
        rw [← hl]; simp [List.getD]
      rw [this]; exact hxn

section
variable {H : Type} {enc : TypeId × Value → H} {W : World}

/-- A slice that came in, its elements one cell each. -/
theorem open_cells {t e : TypeId} {fuel : Nat} {cs : List Value} {x : DataW H × List MemPlace} (ht : Try.prog.underlying t = some (.slice e)) (hc : Try.prog.cellsOf e = 1)
    (h : DataW.trod enc Try.prog W 0 (fun _ => true) true fuel t cs = some x) :
    ∃ (ao : Option Addr) (len cap : Nat), cs = [.slice ao len cap] ∧ len ≤ maxLen ∧
      ∀ i, i < len → ∃ (a : Addr) (n : Nat) (c : List Value) (y : DataW H × List MemPlace), ao = some a ∧ W.cells? 0 (a.add i) 1 = some c ∧ DataW.trod enc Try.prog W 0 (fun _ => true) true n e c = some y := by
  rcases DataW.trod_slice ht h with ⟨h0, _⟩ | ⟨a, len, cap, elems, rest, n, _, rfl, rfl, hb, hl, hm, hlen, hel, hsp, hns⟩
  · exact ⟨none, 0, 0, h0, Nat.zero_le _, fun i hi => by omega⟩
  · refine ⟨some a, len, cap, rfl, by omega, fun i hi => ?_⟩
    have hi' : i < elems.length := by omega
    have h1 := hel i hi
    rw [List.getElem?_eq_getElem hi', hc, Nat.mul_one, Option.bind_eq_some_iff] at h1
    obtain ⟨c, h2, h3⟩ := h1
    exact ⟨a, n, c, _, rfl, h2, h3⟩

theorem plain_addr {ao : Option Addr} {len : Nat} {f : Nat → Value} (h : ∀ i, i < len → ∃ a, ao = some a ∧ W.cell? (a.add i) = some (f i)) (hp : 0 < len) :
    ∃ b off, ao = some ⟨b, off, none⟩ ∧ ∀ i, i < len → W.cell? ⟨b, off + i, none⟩ = some (f i) := by
  obtain ⟨a, rfl, h0⟩ := h 0 hp
  obtain ⟨b, off, spot⟩ := a
  have hspot : spot = none := by simpa [Addr.add] using World.cell?_spot h0
  subst hspot
  refine ⟨b, off, rfl, fun i hi => ?_⟩
  obtain ⟨a, e, h1⟩ := h i hi
  cases e
  rw [add_plain] at h1
  exact h1

theorem open_sa {fuel : Nat} {cs : List Value} {x : DataW H × List MemPlace} (h : DataW.trod enc Try.prog W 0 (fun _ => true) true fuel 22 cs = some x) :
    ∃ (ao : Option Addr) (cap : Nat) (ss : List ByteArray), cs = [.slice ao ss.length cap] ∧ ss.length ≤ maxLen ∧ SA W ao ss := by
  obtain ⟨ao, len, cap, rfl, hm, hel⟩ := open_cells Try.underlying22 (by kernel_rfl) h
  obtain ⟨ss, hl, hs⟩ := listOf ByteArray.empty (fun i s => ∃ a, ao = some a ∧ W.cell? (a.add i) = some (.string s)) len (fun i hi => by
    obtain ⟨a, n, c, y, e, h1, h2⟩ := hel i hi
    obtain ⟨s, rfl, _, _⟩ := DataW.trod_string Try.underlying9 h2
    exact ⟨s, a, e, cell_of_cells?_one h1⟩)
  subst hl
  exact ⟨ao, cap, ss, rfl, hm, fun hp => plain_addr (f := fun i => .string (ss.getD i ByteArray.empty)) hs hp⟩

theorem open_ba {fuel : Nat} {cs : List Value} {x : DataW H × List MemPlace} (h : DataW.trod enc Try.prog W 0 (fun _ => true) true fuel 23 cs = some x) :
    ∃ (ao : Option Addr) (cap : Nat) (fs : List Bool), cs = [.slice ao fs.length cap] ∧ fs.length ≤ maxLen ∧ BA W ao fs := by
  obtain ⟨ao, len, cap, rfl, hm, hel⟩ := open_cells Try.underlying23 (by kernel_rfl) h
  obtain ⟨fs, hl, hs⟩ := listOf false (fun i s => ∃ a, ao = some a ∧ W.cell? (a.add i) = some (.bool s)) len (fun i hi => by
    obtain ⟨a, n, c, y, e, h1, h2⟩ := hel i hi
    obtain ⟨s, rfl, _⟩ := DataW.trod_bool Try.underlying4 h2
    exact ⟨s, a, e, cell_of_cells?_one h1⟩)
  subst hl
  exact ⟨ao, cap, fs, rfl, hm, fun hp => plain_addr (f := fun i => .bool (fs.getD i false)) hs hp⟩

end

set_option maxRecDepth 100000 in
theorem lifted3 (os : Os) (started : os.Started) (H : Type) (enc : TypeId × Value → H) :
    ReturnsInHanded {} Try.checked os 3 .any (Rows.fnTextSpecSpec.pre6 enc Try.prog Try.f3 Rows.fnTextSpecRow.domain false) (Rows.fnTextSpecSpec.post enc Try.prog Try.f3 false true false false) := by
  refine returnsInHanded_of_change (C := Try.checked) own started (by kernel_rfl) Try.func3
    (ChangeSpec.witness6 (enc := enc) (C := Try.checked) false ⟨#[], #[.slice none 0 0, .slice none 0 0, .slice none 0 0], []⟩ 8 (by kernel_rfl) (by kernel_rfl) (by kernel_rfl) (by kernel_rfl)) ?_
  intro W base args ds gs before hval0 hW hcnd _
  have hval : ∀ (j : Nat) t v, Try.f3.params[j]? = some t → args[j]? = some v → Value.okWide Try.prog W .any base t v := hval0
  have hW' := hW
  obtain ⟨p, q, hA0, hV, rfl, hfz, hnd⟩ := hW
  have hA : DataW.TrodAll enc Try.prog W 0 (fun _ => true) true Try.f3.params.toList args.toList ds p := hA0
  rw [Try.params3] at hA hval
  obtain ⟨v1, vs1, d1, ds1, p1, q1, hargs, rfl, rfl, h1, r1⟩ := trodAll_cons hA
  obtain ⟨v2, vs2, d2, ds2, p2, q2, rfl, rfl, rfl, h2, r2⟩ := trodAll_cons r1
  obtain ⟨v3, vs3, d3, ds3, p3, q3, rfl, rfl, rfl, h3, r3⟩ := trodAll_cons r2
  obtain ⟨rfl, rfl, rfl⟩ := trodAll_nil r3
  obtain rfl : args = #[v1, v2, v3] := by cases args; simp_all
  obtain ⟨rfl, rfl⟩ := trodVars_none hV
  obtain ⟨a1, len1, cap1, rfl⟩ := okWide_slice Try.underlying22 (hval 0 22 v1 rfl rfl)
  obtain ⟨a2, len2, cap2, rfl⟩ := okWide_slice Try.underlying22 (hval 1 22 v2 rfl rfl)
  obtain ⟨a3, len3, cap3, rfl⟩ := okWide_slice Try.underlying23 (hval 2 23 v3 rfl rfl)
  have k1 := h1
  have k2 := h2
  have k3 := h3
  have lt1 : ∀ x ∈ p1, x.block < W.heap.size := by obtain ⟨m, hm⟩ := k1; exact DataW.trod_lt m _ _ _ hm
  have lt2 : ∀ x ∈ p2, x.block < W.heap.size := by obtain ⟨m, hm⟩ := k2; exact DataW.trod_lt m _ _ _ hm
  have lt3 : ∀ x ∈ p3, x.block < W.heap.size := by obtain ⟨m, hm⟩ := k3; exact DataW.trod_lt m _ _ _ hm
  obtain ⟨f1, g1⟩ := h1
  obtain ⟨f2, g2⟩ := h2
  obtain ⟨f3, g3⟩ := h3
  obtain ⟨b1, c1, T, e1, m1, sT⟩ := open_sa g1
  obtain ⟨b2, c2, G, e2, m2, sG⟩ := open_sa g2
  obtain ⟨b3, c3, F, e3, m3, sF⟩ := open_ba g3
  simp [Value.cells] at e1 e2 e3
  obtain ⟨rfl, rfl, rfl⟩ := e1
  obtain ⟨rfl, rfl, rfl⟩ := e2
  obtain ⟨rfl, rfl, rfl⟩ := e3
  unfold maxLen at m1 m2
  clear hA0 hval0
  refine (law3 a1 a2 a3 cap1 cap2 cap3 _ _ _ T G F rfl rfl rfl (by omega) (by omega) W sT sG sF).mono fun e W' ⟨he, bel⟩ => ?_
  subst he
  exact ⟨_, rfl, _, _, _, [], _, [], hW', trodAll_mk1 (shut_bool Try.underlying4 _), (trodAll_mk3 (Below.trod laidOut (by kernel_rfl) (of_decide_eq_true (by kernel_rfl)) k1 bel lt1) (Below.trod laidOut (by kernel_rfl) (of_decide_eq_true (by kernel_rfl)) k2 bel lt2) (Below.trod laidOut (by kernel_rfl) (of_decide_eq_true (by kernel_rfl)) k3 bel lt3)), rfl, bel.frame _, fun h => by cases h⟩

theorem over3 : Rows.fnTextSpecRow.holds Try.pinned (OpenSpec.ofChange Rows.fnTextSpecSpec) :=
  OpenClaim.holds_of_wide 3 Try.f3 rfl rfl rfl rfl rfl rfl rfl ⟨rfl, rfl, rfl, rfl, rfl⟩ rfl rfl rfl rfl rfl (by kernel_rfl) Try.func3 (by kernel_rfl)
    (of_decide_eq_true (by kernel_rfl)) (by unfold Func.isWrapper; first | (rw [if_pos (by decide +kernel)]; kernel_rfl) | (rw [if_neg (by decide +kernel)]; exact ⟨rfl, rfl⟩))
    (fun os started H enc _ => lifted3 os started H enc)

theorem text_proved : Rows.FnTextSpecSaid := over3
end Go.Proofs.Qxb6000406a
