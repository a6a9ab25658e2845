import Derived.Test.Qxb6600227aJLaws
import Derived.Test.Qxb6600227aEdit
namespace Go.Proofs.Qxb6600227a
open Go.RowKit

/-- 'ZZeditDistance'. -/
theorem zzedit_one (s1 s2 : ByteArray) (w1 : s1.size ≤ 1024) (w2 : s2.size ≤ 1024) (w : World) :
    Calls Try.prog 10 #[.string s1, .string s2] w fun e w' => (∃ d : Int, e = .returned (.int .i64 d) ∧ Good (runes s1) (runes s2) (runes s1).length (runes s2).length d) ∧ Below w.heap.size w w' := by
  go_enter Try.func10, Try.ntmps10
  go_wp2_with (go_at_call 22; refine (edit_any s1 s2 w1 w2 w).mono ?_; rintro e w' ⟨⟨d, rfl, hg⟩, hb⟩)
  go_ret
  exact ⟨⟨d, rfl, hg⟩, hb⟩

set_option maxHeartbeats 1000000 in
theorem one_small (s1 s2 : ByteArray) (w1 : s1.size ≤ 1024) (w2 : s2.size ≤ 1024) (w : World) :
    Calls Try.prog 8 #[.string s1, .string s2] w fun e w' => e = .returned (.bool true) ∧ Below w.heap.size w w' := by
  go_enter Try.func8, Try.ntmps8
  go_wp2_with (first
    | (go_at_call 21; refine (zzb21 s1 s2 (by omega) (by omega) w).mono ?_; rintro e w' ⟨⟨t, rfl⟩, hw⟩; obtain rfl : w = w' := hw.symm)
    | (go_at_call 10; refine (zzedit_one s1 s2 w1 w2 _).mono ?_; rintro e wq ⟨⟨d, rfl, hG⟩, hb2⟩)
    | fail)
  · go_ret
    exact ⟨rfl, Below.refl _ _⟩
  · go_ret
    exact ⟨rfl, Below.refl _ _⟩
  · go_ret
    exact ⟨rfl, hb2⟩
  · have hne : s1.toList.isEmpty = false := by assumption
    have hd : d = 0 := by
      have : (d != 0) = false := by assumption
      simpa using this
    have hpos : 0 < s1.size := by
      rcases Nat.eq_zero_or_pos s1.size with h | h
      · exfalso
        have e : s1 = ByteArray.empty := ByteArray.size_eq_zero_iff.1 h
        rw [e] at hne
        simp at hne
      · exact h
    obtain ⟨hl, hs⟩ := hG.2.2.2.1 hd
    refine (zzjaro_any s1 s2 w1 w2 wq).mono ?_
    rintro e w3 ⟨⟨num, den, rfl, hJ⟩, hb3⟩
    obtain ⟨e1, e2⟩ := hJ.one hl (runes_ne s1 hpos) hs
    have hd0 : (den != 0) = true := by simp; omega
    have hq : (num == den) = true := by simp [e1]
    clear hJ hs hG e1 hd hne
    go_wp2
    go_ret
    exact ⟨rfl, hb2.trans (hb3.mono hb2.size)⟩

theorem one_large (s1 s2 : ByteArray) (w1 : s1.size ≤ maxLen) (w2 : s2.size ≤ maxLen) (h : 1024 < s1.size ∨ 1024 < s2.size) (w : World) :
    Calls Try.prog 8 #[.string s1, .string s2] w fun e w' => e = .returned (.bool true) ∧ Below w.heap.size w w' := by
  unfold maxLen at w1 w2
  rcases h with h | h
  all_goals
    go_enter Try.func8, Try.ntmps8
    go_wp2_with (first
      | (go_at_call 21; refine (zzb21 s1 s2 (by omega) (by omega) w).mono ?_; rintro e w' ⟨⟨t, rfl⟩, hw⟩; obtain rfl : w = w' := hw.symm)
      | fail)
    all_goals
      go_ret
      exact ⟨rfl, Below.refl _ _⟩

theorem one_any (s1 s2 : ByteArray) (w1 : s1.size ≤ maxLen) (w2 : s2.size ≤ maxLen) (w : World) :
    Calls Try.prog 8 #[.string s1, .string s2] w fun e w' => e = .returned (.bool true) ∧ Below w.heap.size w w' := by
  by_cases h1 : s1.size ≤ 1024
  · by_cases h2 : s2.size ≤ 1024
    · exact one_small s1 s2 h1 h2 w
    · exact one_large s1 s2 w1 w2 (by omega) w
  · exact one_large s1 s2 w1 w2 (by omega) w
end Go.Proofs.Qxb6600227a
