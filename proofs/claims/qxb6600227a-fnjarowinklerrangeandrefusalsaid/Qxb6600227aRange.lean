import Derived.Test.Qxb6600227aJLaws
namespace Go.Proofs.Qxb6600227a
open Go.RowKit

set_option maxHeartbeats 1000000 in
set_option maxRecDepth 100000 in
theorem range_small (s1 s2 : ByteArray) (w1 : s1.size ≤ 1024) (w2 : s2.size ≤ 1024) (w : World) :
    Calls Try.prog 6 #[.string s1, .string s2] w fun e w' => e = .returned (.bool true) ∧ Below w.heap.size w w' := by
  have hl1 := length_runes s1
  have hl2 := length_runes s2
  have hed := fun w => zzjaro_any s1 s2 w1 w2 w
  generalize ha : runes s1 = a at *
  generalize hb : runes s2 = b at *
  have HA : Hid (runes s1 = a) := ha
  have HB : Hid (runes s2 = b) := hb
  have HED : Hid (∀ w, Calls Try.prog 16 #[.string s1, .string s2] w fun e w' => (∃ num den : Int, e = .returned (.tuple #[.int .u64 num, .int .u64 den]) ∧ JOK a b num den) ∧ Below w.heap.size w w') := hed
  clear ha hb hed
  go_enter Try.func6, Try.ntmps6
  go_wp2_with (first
    | (go_at_call 19; refine (zzb19 s1 s2 (by omega) (by omega) w).mono ?_; rintro e w' ⟨⟨t, rfl⟩, hw⟩; obtain rfl : w = w' := hw.symm)
    | (go_at_call 16; refine (HED.out _).mono ?_; rintro e w3 ⟨⟨num, den, rfl, hJ⟩, hb3⟩; have HJ : Hid (JOK a b num den) := hJ; obtain ⟨r1, r2, r3⟩ := hJ.range; clear hJ; have hd0 : (den == 0) = false := by simp; omega)
    | (refine wpList_runes rfl (.tmp 34) 9 23 rfl 21 Try.underlying9 Try.underlying23 Try.underlying21 s1 (by rfl) (by omega) ?_; rw [HA.out]; intro wa ca hRa hsa hba)
    | (refine wpList_runes rfl (.tmp 36) 9 23 rfl 21 Try.underlying9 Try.underlying23 Try.underlying21 s2 (by rfl) (by omega) ?_; rw [HB.out]; intro wb cb hRb hsb hbb))
  · go_ret
    exact ⟨rfl, Below.refl _ _⟩
  have hbe : Below w.heap.size w wb := by
    have h3 := hb3.size
    exact hb3.trans ((hba.mono (by omega)).trans (hbb.mono (by omega)))
  have hRa' : Runes wb w3.heap.size a := hRa.below hbb (by omega)
  have hRb' : Runes wb (w3.heap.size + 1) b := by rw [hsa] at hRb; exact hRb
  clear hRa hRb hsa hsb hba hbb hb3
  go_loopw [9] (fun iv wr => ∃ i : Nat, i ≤ a.length ∧ iv = .int .i64 i ∧ Hid (∀ i' j, i' < i → j < b.length → sameC (a.getD i' 0) (b.getD j 0) = false) ∧ Runes wr w3.heap.size a ∧ Runes wr (w3.heap.size + 1) b ∧ Below w.heap.size w wr)
    (fun iv _ => a.length - (intOf iv).toNat)
  case atStart => exact ⟨0, Nat.zero_le _, rfl, fun _ _ h => by omega, hRa', hRb', hbe⟩
  case round =>
    clear hRa' hRb' hbe
    obtain ⟨i, hi, rfl, hS, hRa, hRb, hbe⟩ := hrel
    by_cases hlt : i < a.length
    · have hlt' : (i : Int) < (a.length : Int) := by omega
      go_wp2
      go_loopw [10] (fun jv wr => ∃ j : Nat, j ≤ b.length ∧ jv = .int .i64 j ∧ Hid (∀ j', j' < j → sameC (a.getD i 0) (b.getD j' 0) = false) ∧ Runes wr w3.heap.size a ∧ Runes wr (w3.heap.size + 1) b ∧ Below w.heap.size w wr)
        (fun jv _ => b.length - (intOf jv).toNat)
      case atStart => exact ⟨0, Nat.zero_le _, rfl, fun _ h => by omega, hRa, hRb, hbe⟩
      case round =>
        clear hRa hRb hbe
        obtain ⟨j, hj, rfl, hT, hRa, hRb, hbe⟩ := hrel
        by_cases hltj : j < b.length
        · have hltj' : (j : Int) < (b.length : Int) := by omega
          have hca := hRa.2 i hlt
          have hcb := hRb.2 j hltj
          obtain ⟨x, hx⟩ : ∃ x, x = a.getD i 0 := ⟨_, rfl⟩
          obtain ⟨y, hy⟩ : ∃ y, y = b.getD j 0 := ⟨_, rfl⟩
          rw [← hx] at hca
          rw [← hy] at hcb
          have HX : Hid (x = a.getD i 0 ∧ y = b.getD j 0) := ⟨hx, hy⟩
          clear hx hy
          go_wp2
          go_quiet ((go_at_call 11; exact Calls.quiet_of_same (same11 _ _ _)))
          go_wp2
          · go_ret
            exact ⟨rfl, below_drewN' hbe _⟩
          · have hs : sameC x y = false := by assumption
            go_roundw
            case rel =>
              refine ⟨j + 1, by omega, by go_num, fun j' hj' => ?_, hRa, hRb, below_drewN' hbe _⟩
              by_cases h : j' < j
              · exact hT.out j' h
              · obtain rfl : j' = j := by omega
                rw [← HX.out.1, ← HX.out.2]; exact hs
            case measure => simp [intOf]; omega
        · go_wp2
          go_roundw
          case rel =>
            refine ⟨i + 1, by omega, by go_num, fun i' j' h1 h2 => ?_, hRa, hRb, hbe⟩
            by_cases h : i' < i
            · exact hS.out i' j' h h2
            · obtain rfl : i' = i := by omega
              exact hT.out j' (by omega)
          case measure => simp [intOf]; omega
    · obtain ⟨e1, e2⟩ := HJ.out.refusal (fun i' j h1 h2 => hS.out i' j (by omega) h2)
      have hn0 : (num == 0) = true := by simp [e1]
      have hd1 : (den == 1) = true := by simp [e2]
      clear e1 e2
      go_wp2
      go_ret
      exact ⟨rfl, hbe⟩

theorem range_large (s1 s2 : ByteArray) (w1 : s1.size ≤ maxLen) (w2 : s2.size ≤ maxLen) (h : 1024 < s1.size ∨ 1024 < s2.size) (w : World) :
    Calls Try.prog 6 #[.string s1, .string s2] w fun e w' => e = .returned (.bool true) ∧ Below w.heap.size w w' := by
  unfold maxLen at w1 w2
  rcases h with h | h
  all_goals
    go_enter Try.func6, Try.ntmps6
    go_wp2_with (first
      | (go_at_call 19; refine (zzb19 s1 s2 (by omega) (by omega) w).mono ?_; rintro e w' ⟨⟨t, rfl⟩, hw⟩; obtain rfl : w = w' := hw.symm)
      | fail)
    all_goals
      go_ret
      exact ⟨rfl, Below.refl _ _⟩

theorem range_any (s1 s2 : ByteArray) (w1 : s1.size ≤ maxLen) (w2 : s2.size ≤ maxLen) (w : World) :
    Calls Try.prog 6 #[.string s1, .string s2] w fun e w' => e = .returned (.bool true) ∧ Below w.heap.size w w' := by
  by_cases h1 : s1.size ≤ 1024
  · by_cases h2 : s2.size ≤ 1024
    · exact range_small s1 s2 h1 h2 w
    · exact range_large s1 s2 w1 w2 (by omega) w
  · exact range_large s1 s2 w1 w2 (by omega) w
end Go.Proofs.Qxb6600227a
