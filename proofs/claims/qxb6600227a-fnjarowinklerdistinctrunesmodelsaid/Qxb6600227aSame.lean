import Derived.Test.Qxb6600227aRows
import Derived.Test.Qxb6600227aKit
import Derived.Deep.QuietTactic
import Derived.BigQuiet
namespace Go.Proofs.Qxb6600227a
open Go.RowKit

/-- A rune of the first string equals one of the second. -/
def sameC (x y : Int) : Bool := x == y || x == 65533

theorem same25 (x y : Int) (w : World) : Calls Try.prog 25 #[.int .i32 x, .int .i32 y] w fun e w' => e = .returned (.bool (sameC x y)) ∧ w' = w := by
  go_enter Try.func25, Try.ntmps25
  cases h1 : (x == y) with
  | true =>
    go_wp2
    go_ret
    exact ⟨by simp [sameC, h1], rfl⟩
  | false =>
    go_wp2
    all_goals
      go_ret
      exact ⟨by simp [sameC, h1], rfl⟩

theorem same11 (x y : Int) (w : World) : Calls Try.prog 11 #[.int .i32 x, .int .i32 y] w fun e w' => e = .returned (.bool (sameC x y)) ∧ w' = w := by
  go_enter Try.func11, Try.ntmps11
  cases h1 : (x == y) with
  | true =>
    go_wp2
    go_ret
    exact ⟨by simp [sameC, h1], rfl⟩
  | false =>
    go_wp2
    all_goals
      go_ret
      exact ⟨by simp [sameC, h1], rfl⟩

/-- The call returned some bool. -/
def IsBool (e : Ending) : Prop := ∃ t : Bool, e = .returned (.bool t)

theorem zzb9 (s1 s2 : ByteArray) (w1 : s1.size ≤ 9223372036854775807) (w2 : s2.size ≤ 9223372036854775807) (w : World) : Calls Try.prog 9 #[.string s1, .string s2] w fun e w' => IsBool e ∧ w' = w := by
  go_enter Try.func9, Try.ntmps9
  go_wp2
  all_goals
    go_ret
    exact ⟨⟨_, rfl⟩, rfl⟩
theorem zzb14 (s1 s2 : ByteArray) (w1 : s1.size ≤ 9223372036854775807) (w2 : s2.size ≤ 9223372036854775807) (w : World) : Calls Try.prog 14 #[.string s1, .string s2] w fun e w' => IsBool e ∧ w' = w := by
  go_enter Try.func14, Try.ntmps14
  go_wp2
  all_goals
    go_ret
    exact ⟨⟨_, rfl⟩, rfl⟩
theorem zzb19 (s1 s2 : ByteArray) (w1 : s1.size ≤ 9223372036854775807) (w2 : s2.size ≤ 9223372036854775807) (w : World) : Calls Try.prog 19 #[.string s1, .string s2] w fun e w' => IsBool e ∧ w' = w := by
  go_enter Try.func19, Try.ntmps19
  go_wp2
  all_goals
    go_ret
    exact ⟨⟨_, rfl⟩, rfl⟩
theorem zzb21 (s1 s2 : ByteArray) (w1 : s1.size ≤ 9223372036854775807) (w2 : s2.size ≤ 9223372036854775807) (w : World) : Calls Try.prog 21 #[.string s1, .string s2] w fun e w' => IsBool e ∧ w' = w := by
  go_enter Try.func21, Try.ntmps21
  go_wp2
  all_goals
    go_ret
    exact ⟨⟨_, rfl⟩, rfl⟩
end Go.Proofs.Qxb6600227a
