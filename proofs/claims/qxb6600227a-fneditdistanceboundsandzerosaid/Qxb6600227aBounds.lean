import Derived.Test.Qxb6600227aEdit
namespace Go.Proofs.Qxb6600227a
open Go.RowKit

/-- 'ZZeditDistance'. -/
theorem zzedit_any (s1 s2 : ByteArray) (w1 : s1.size ≤ 1024) (w2 : s2.size ≤ 1024) (w : World) :
    Calls Try.prog 10 #[.string s1, .string s2] w fun e w' => (∃ d : Int, e = .returned (.int .i64 d) ∧ Good (runes s1) (runes s2) (runes s1).length (runes s2).length d) ∧ Below w.heap.size w w' := by
  go_enter Try.func10, Try.ntmps10
  go_wp2_with (go_at_call 22; refine (edit_any s1 s2 w1 w2 w).mono ?_; rintro e w' ⟨⟨d, rfl, hg⟩, hb⟩)
  go_ret
  exact ⟨⟨d, rfl, hg⟩, hb⟩

set_option maxHeartbeats 400000 in
set_option maxRecDepth 100000 in
/-- The two rune lengths differ. -/
theorem bounds_ne (s1 s2 : ByteArray) (w1 : s1.size ≤ 1024) (w2 : s2.size ≤ 1024) (hne : (runes s1).length ≠ (runes s2).length) (w : World) :
    Calls Try.prog 3 #[.string s1, .string s2] w fun e w' => e = .returned (.bool true) ∧ Below w.heap.size w w' := by
  have hl1 := length_runes s1
  have hl2 := length_runes s2
  have hed := fun w => zzedit_any s1 s2 w1 w2 w
  generalize ha : runes s1 = a at *
  generalize hb : runes s2 = b at *
  have HA : Hid (runes s1 = a) := ha
  have HB : Hid (runes s2 = b) := hb
  have HED : Hid (∀ w, Calls Try.prog 10 #[.string s1, .string s2] w fun e w' => (∃ d : Int, e = .returned (.int .i64 d) ∧ Good a b a.length b.length d) ∧ Below w.heap.size w w') := hed
  have hq : ((a.length : Int) == (b.length : Int)) = false := by simp; omega
  clear ha hb hed
  have hcase : a.length < b.length ∨ b.length < a.length := by omega
  clear hne
  rcases hcase with hcase | hcase
  all_goals
    go_enter Try.func3, Try.ntmps3
    go_wp2_with (first
      | (go_at_call 9; refine (zzb9 s1 s2 (by omega) (by omega) w).mono ?_; rintro e w' ⟨⟨t, rfl⟩, hw⟩; obtain rfl : w = w' := hw.symm)
      | (refine wpList_runes rfl (.tmp 24) 9 23 rfl 21 Try.underlying9 Try.underlying23 Try.underlying21 s1 (by rfl) (by omega) ?_; rw [HA.out]; intro wa ca hRa hsa hba)
      | (refine wpList_runes rfl (.tmp 26) 9 23 rfl 21 Try.underlying9 Try.underlying23 Try.underlying21 s2 (by rfl) (by omega) ?_; rw [HB.out]; intro wb cb hRb hsb hbb)
      | (go_at_call 10; refine (HED.out _).mono ?_; rintro e w3 ⟨⟨d, rfl, hg⟩, hb3⟩; have hg1 := hg.1; have hg2 := hg.2.1; have hg3 := hg.2.2.1; clear hg))
    · go_ret
      exact ⟨rfl, Below.refl _ _⟩
    have hd : (d == 0) = false := by simp; omega
    refine wp_loop_rounds 1 ?_
    rw [rounds_succ]
    go_wp2
    go_ret
    exact ⟨rfl, (hba.trans (hbb.mono (by omega))).trans (hb3.mono (by omega))⟩

set_option maxHeartbeats 400000 in
set_option maxRecDepth 100000 in
/-- The two rune lengths are one. -/
theorem bounds_eq (s1 s2 : ByteArray) (w1 : s1.size ≤ 1024) (w2 : s2.size ≤ 1024) (n : Nat) (hn1 : (runes s1).length = n) (hn2 : (runes s2).length = n) (w : World) :
    Calls Try.prog 3 #[.string s1, .string s2] w fun e w' => e = .returned (.bool true) ∧ Below w.heap.size w w' := by
  have hl1 := length_runes s1
  have hl2 := length_runes s2
  have hed := fun w => zzedit_any s1 s2 w1 w2 w
  generalize ha : runes s1 = a at *
  generalize hb : runes s2 = b at *
  have HA : Hid (runes s1 = a) := ha
  have HB : Hid (runes s2 = b) := hb
  have HED : Hid (∀ w, Calls Try.prog 10 #[.string s1, .string s2] w fun e w' => (∃ d : Int, e = .returned (.int .i64 d) ∧ Good a b a.length b.length d) ∧ Below w.heap.size w w') := hed
  clear ha hb hed
  go_enter Try.func3, Try.ntmps3
  go_wp2_with (first
    | (go_at_call 9; refine (zzb9 s1 s2 (by omega) (by omega) w).mono ?_; rintro e w' ⟨⟨t, rfl⟩, hw⟩; obtain rfl : w = w' := hw.symm)
    | (refine wpList_runes rfl (.tmp 24) 9 23 rfl 21 Try.underlying9 Try.underlying23 Try.underlying21 s1 (by rfl) (by omega) ?_; rw [HA.out]; intro wa ca hRa hsa hba)
    | (refine wpList_runes rfl (.tmp 26) 9 23 rfl 21 Try.underlying9 Try.underlying23 Try.underlying21 s2 (by rfl) (by omega) ?_; rw [HB.out]; intro wb cb hRb hsb hbb)
    | (go_at_call 10; refine (HED.out _).mono ?_; rintro e w3 ⟨⟨d, rfl, hg⟩, hb3⟩; have hg1 := hg.1; have hg2 := hg.2.1; have hg3 := hg.2.2.1; have HZ : Hid (d = 0 ↔ a.length = b.length ∧ ∀ k, k < a.length → sameC (a.getD k 0) (b.getD k 0) = true) := hg.2.2.2; clear hg))
  · go_ret
    exact ⟨rfl, Below.refl _ _⟩
  have hRa' : Runes w3 w.heap.size a := (hRa.below hbb (by omega)).below hb3 (by omega)
  have hRb' : Runes w3 (w.heap.size + 1) b := by
    have h := hRb.below hb3 (by omega)
    rw [hsa] at h; exact h
  have hbe : Below w.heap.size w w3 := (hba.trans (hbb.mono (by omega))).trans (hb3.mono (by omega))
  clear hRa hRb hsa hsb hba hbb hb3
  go_loopw [12, 13] (fun zv iv wr => ∃ (k : Nat) (z : Bool), k ≤ n ∧ iv = .int .i64 k ∧ zv = .bool z ∧ Hid ((z = true → ∀ j, j < k → sameC (a.getD j 0) (b.getD j 0) = true) ∧ (z = false → ∃ j, j < n ∧ sameC (a.getD j 0) (b.getD j 0) = false)) ∧
      Runes wr w.heap.size a ∧ Runes wr (w.heap.size + 1) b ∧ Below w.heap.size w wr) (fun _ iv _ => n - (intOf iv).toNat)
  case atStart => exact ⟨0, true, Nat.zero_le _, rfl, rfl, ⟨fun _ j hj => by omega, fun h => by cases h⟩, hRa', hRb', hbe⟩
  case round =>
    clear hRa' hRb' hbe
    obtain ⟨k, z, hk, rfl, rfl, hz, hRa, hRb, hbe⟩ := hrel
    cases z with
    | false =>
      obtain ⟨j, hj, hjs⟩ := hz.out.2 rfl
      have hd : (d == 0) = false := by
        rw [Bool.eq_false_iff]
        intro h
        have h0 : d = 0 := by simpa using h
        have := (HZ.out.1 h0).2 j (by omega)
        rw [hjs] at this; cases this
      clear hz hjs hj
      go_wp2
      go_ret
      exact ⟨rfl, hbe⟩
    | true =>
      have hz' := hz.out.1 rfl
      by_cases hlt : k < n
      · have hca := hRa.2 k (by omega)
        have hcb := hRb.2 k (by omega)
        obtain ⟨x, hx⟩ : ∃ x, x = a.getD k 0 := ⟨_, rfl⟩
        obtain ⟨y, hy⟩ : ∃ y, y = b.getD k 0 := ⟨_, rfl⟩
        rw [← hx] at hca
        rw [← hy] at hcb
        have HX : Hid (x = a.getD k 0 ∧ y = b.getD k 0) := ⟨hx, hy⟩
        have HZ' : Hid (∀ j, j < k → sameC (a.getD j 0) (b.getD j 0) = true) := hz'
        have hlt' : (k : Int) < (n : Int) := by omega
        clear hx hy hz hz'
        go_wp2
        go_quiet ((go_at_call 11; exact Calls.quiet_of_same (same11 _ _ _)))
        go_wp2
        · have hs : sameC x y = false := by
            have : (!sameC x y) = true := by assumption
            simpa using this
          go_roundw
          case rel => exact ⟨k + 1, false, by omega, by go_num, rfl, ⟨(fun h => by cases h), fun _ => ⟨k, hlt, by rw [← HX.out.1, ← HX.out.2]; exact hs⟩⟩, hRa, hRb, ⟨hbe.os, hbe.tape, hbe.output, hbe.size, hbe.block⟩⟩
          case measure => simp [intOf]; omega
        · have hs : sameC x y = true := by
            have : (!sameC x y) = false := by assumption
            simpa using this
          go_roundw
          case rel =>
            refine ⟨k + 1, true, by omega, by go_num, rfl, ⟨fun _ j hj => ?_, fun h => by cases h⟩, hRa, hRb, ⟨hbe.os, hbe.tape, hbe.output, hbe.size, hbe.block⟩⟩
            by_cases hjk : j < k
            · exact HZ'.out j hjk
            · obtain rfl : j = k := by omega
              rw [← HX.out.1, ← HX.out.2]; exact hs
          case measure => simp [intOf]; omega
      · have hd : (d == 0) = true := by
          have : d = 0 := HZ.out.2 ⟨by omega, fun j hj => hz' j (by omega)⟩
          simpa using this
        have hdec : decide ((k : Int) < (n : Int)) = false := decide_eq_false (by omega)
        clear hz hz'
        go_wp2
        go_ret
        exact ⟨rfl, hbe⟩

theorem bounds_large (s1 s2 : ByteArray) (w1 : s1.size ≤ maxLen) (w2 : s2.size ≤ maxLen) (h : 1024 < s1.size ∨ 1024 < s2.size) (w : World) :
    Calls Try.prog 3 #[.string s1, .string s2] w fun e w' => e = .returned (.bool true) ∧ Below w.heap.size w w' := by
  unfold maxLen at w1 w2
  rcases h with h | h
  all_goals
    go_enter Try.func3, Try.ntmps3
    go_wp2_with (first
      | (go_at_call 9; refine (zzb9 s1 s2 (by omega) (by omega) w).mono ?_; rintro e w' ⟨⟨t, rfl⟩, hw⟩; obtain rfl : w = w' := hw.symm)
      | fail)
    all_goals
      go_ret
      exact ⟨rfl, Below.refl _ _⟩

theorem bounds_any (s1 s2 : ByteArray) (w1 : s1.size ≤ maxLen) (w2 : s2.size ≤ maxLen) (w : World) :
    Calls Try.prog 3 #[.string s1, .string s2] w fun e w' => e = .returned (.bool true) ∧ Below w.heap.size w w' := by
  by_cases h1 : s1.size ≤ 1024
  · by_cases h2 : s2.size ≤ 1024
    · by_cases h : (runes s1).length = (runes s2).length
      · exact bounds_eq s1 s2 h1 h2 _ h rfl w
      · exact bounds_ne s1 s2 h1 h2 h w
    · exact bounds_large s1 s2 w1 w2 (by omega) w
  · exact bounds_large s1 s2 w1 w2 (by omega) w
end Go.Proofs.Qxb6600227a
