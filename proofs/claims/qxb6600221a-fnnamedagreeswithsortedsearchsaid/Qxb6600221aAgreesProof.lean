import Derived.Test.Qxb6600221aAgrees
import Derived.ProofKit
import Derived.ShutString
import Derived.ChangeOld
import Derived.SliceStrings
namespace Go.Proofs.Qxb6600221a
open Go.ChangeShapes Go.WideShapes Go.ChangeAt Go.RowKit
open Go.ChangeMaps (open_string shut_string)
set_option linter.unusedVariables false

theorem own : ownKnob Try.prog.godebug = none := by kernel_rfl
theorem laidOut : laidOutB Try.prog = true := by kernel_rfl

/-- A slice of strings that came in: nil, or its address is known, its elements lie there. -/
theorem open_strs_in {H : Type} {enc : TypeId × Value → H} {W : World} {a0 : Option Addr} {len cap fuel : Nat} {x : DataW H × List MemPlace}
    (hf : DataW.trod enc Try.prog W 0 (fun _ => true) true fuel 22 (Value.cells (.slice a0 len cap)).toList = some x) :
    (a0 = none ∧ len = 0 ∧ cap = 0) ∨
    ∃ (a : Addr) (ss : List ByteArray), a0 = some a ∧ ss.length = len ∧ len ≤ maxLen ∧ IsStrs W (.slice (some a) len cap) ss ∧ ∀ j v, (ss.map Value.string)[j]? = some v → W.cell? (a.add j) = some v := by
  rcases open_strings Try.underlying22 Try.underlying9 (by kernel_rfl) hf with ⟨hcs, _⟩ | ⟨a, l, c, ss, hcs, _, hl, hm, hz, _, hcell, _⟩
  · simp [Value.cells] at hcs
    exact .inl hcs
  · simp [Value.cells] at hcs
    obtain ⟨rfl, rfl, rfl⟩ := hcs
    simp only [if_true] at hz
    have hlen : (ss.take len).length = len := by simp; omega
    have hsrc : ∀ j v, ((ss.take len).map Value.string)[j]? = some v → W.cell? (a.add j) = some v := by
      intro j v hv
      have hj : j < len := by
        have h := (List.getElem?_eq_some_iff.1 hv).1
        simp at h; omega
      have hjs : j < ss.length := by omega
      have h2 := hcell j hjs
      have e : ((ss.take len).map Value.string)[j]? = some (.string (ss.getD j ByteArray.empty)) := by
        simp [hj, hjs, List.getD]
      rw [e] at hv
      rw [h2]; exact hv
    refine .inr ⟨a, ss.take len, rfl, hlen, by omega, ?_, hsrc⟩
    by_cases h0 : len = 0
    · subst h0
      exact .inl ⟨by simp, _, _, rfl⟩
    · obtain ⟨b, off, spot⟩ := a
      have h00 := hcell 0 (by omega)
      have hspot : spot = none := by simpa [Addr.add] using World.cell?_spot h00
      subst hspot
      refine .inr ⟨b, off, cap, by rw [hlen], fun j hj => ?_⟩
      have h3 := hsrc j _ (by rw [List.getElem?_map, List.getElem?_eq_getElem hj]; rfl)
      rw [add_plain] at h3
      rw [h3]
      simp only [List.getD, List.getElem?_eq_getElem hj, Option.getD_some]

/-- The whole walk. -/
theorem walkAgrees (a0 : Option Addr) (len cap : Nat) (x : ByteArray) (hx : x.size ≤ maxLen) (w : World)
    (h : (a0 = none ∧ len = 0 ∧ cap = 0) ∨ ∃ (a : Addr) (ss : List ByteArray), a0 = some a ∧ ss.length = len ∧ len ≤ maxLen ∧ IsStrs w (.slice (some a) len cap) ss ∧ ∀ j v, (ss.map Value.string)[j]? = some v → w.cell? (a.add j) = some v) :
    Calls Try.prog 3 #[.slice a0 len cap, .string x] w fun e w' => e = .returned (.bool true) ∧ Below w.heap.size w w' := by
  rcases h with ⟨rfl, rfl, rfl⟩ | ⟨a, ss, rfl, hl, hm, hS, hsrc⟩
  · exact agrees_nil x hx w
  · exact agrees_ne a cap ss x len hx hm w hS hl hsrc

set_option maxRecDepth 100000 in
theorem liftedAgrees (os : Os) (started : os.Started) (H : Type) (enc : TypeId × Value → H) :
    ReturnsInHanded {} Try.checked os 3 .any (Rows.fnNamedAgreesWithSortedSearchSpec.pre6 enc Try.prog Try.f3 Rows.fnNamedAgreesWithSortedSearchRow.domain false) (Rows.fnNamedAgreesWithSortedSearchSpec.post enc Try.prog Try.f3 false true false false) := by
  refine returnsInHanded_of_change (C := Try.checked) own started (by kernel_rfl) Try.func3
    (ChangeSpec.witness6 (enc := enc) (C := Try.checked) false ⟨#[], #[.slice none 0 0, .string ByteArray.empty], []⟩ 8 (by kernel_rfl) (by kernel_rfl) (by kernel_rfl) (by kernel_rfl)) ?_
  intro W base args ds gs before hval0 hW hcnd _
  have hval : ∀ (j : Nat) t v, Try.f3.params[j]? = some t → args[j]? = some v → Value.okWide Try.prog W .any base t v := hval0
  have hW' := hW
  obtain ⟨p, q, hA0, hV, rfl, hfz, hnd⟩ := hW
  have hA : DataW.TrodAll enc Try.prog W 0 (fun _ => true) true Try.f3.params.toList args.toList ds p := hA0
  rw [Try.params3] at hA hval
  obtain ⟨v0, vs0, d0, ds0, p0, q0, hargs, rfl, rfl, h0, r0⟩ := trodAll_cons hA
  obtain ⟨v1, vs1, d1, ds1, p1, q1, rfl, rfl, rfl, h1, r1⟩ := trodAll_cons r0
  obtain ⟨rfl, rfl, rfl⟩ := trodAll_nil r1
  obtain rfl : args = #[v0, v1] := by cases args; simp_all
  obtain ⟨rfl, rfl⟩ := trodVars_none hV
  obtain ⟨a0, len0, cap0, rfl⟩ := okWide_slice Try.underlying22 (hval 0 22 v0 rfl rfl)
  have k0 := h0
  have lt0 : ∀ x ∈ p0, x.block < W.heap.size := by obtain ⟨m, hm⟩ := k0; exact DataW.trod_lt m _ _ _ hm
  obtain ⟨a1, rfl, rfl, rfl, w1⟩ := open_string Try.underlying9 (hval 1 9 v1 rfl rfl) h1
  obtain ⟨fuel, hf⟩ := h0
  have w0 := open_strs_in hf
  clear hA0 hval0
  refine (walkAgrees a0 len0 cap0 a1 w1 W w0).mono fun e W' ⟨he, bel⟩ => ?_
  subst he
  exact ⟨_, rfl, _, _, _, [], _, [], hW', trodAll_mk1 (shut_bool Try.underlying4 _), (trodAll_mk2 (Below.trod laidOut (by kernel_rfl) (of_decide_eq_true (by kernel_rfl)) k0 bel lt0) (shut_string Try.underlying9 w1)), rfl, bel.frame _, fun h => by cases h⟩

theorem overAgrees : Rows.fnNamedAgreesWithSortedSearchRow.holds Try.pinned (OpenSpec.ofChange Rows.fnNamedAgreesWithSortedSearchSpec) :=
  OpenClaim.holds_of_wide 3 Try.f3 rfl rfl rfl rfl rfl rfl rfl ⟨rfl, rfl, rfl, rfl, rfl⟩ rfl rfl rfl rfl rfl (by kernel_rfl) Try.func3 (by kernel_rfl)
    (of_decide_eq_true (by kernel_rfl)) (by unfold Func.isWrapper; first | (rw [if_pos (by decide +kernel)]; kernel_rfl) | (rw [if_neg (by decide +kernel)]; exact ⟨rfl, rfl⟩))
    (fun os started H enc _ => liftedAgrees os started H enc)

theorem agrees_proved : Rows.FnNamedAgreesWithSortedSearchSaid := overAgrees
end Go.Proofs.Qxb6600221a
