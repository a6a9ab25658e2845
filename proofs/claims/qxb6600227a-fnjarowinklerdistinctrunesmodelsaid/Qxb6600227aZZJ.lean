import Derived.Test.Qxb6600227aJaro
namespace Go.Proofs.Qxb6600227a
open Go.RowKit

/-- What jaroWinkler gives back. -/
def JOK (a b : List Int) (num den : Int) : Prop := JRes a b (mstate a b (win a.length b.length) a.length).1 (mstate a b (win a.length b.length) a.length).2 num den

theorem below_drewN' {B : Nat} {w w' : World} (h : Below B w w') (n : Nat) : Below B w (w'.drewN n) := ⟨h.os, h.tape, h.output, h.size, h.block⟩

set_option maxHeartbeats 400000 in
theorem zzjaro_any (s1 s2 : ByteArray) (w1 : s1.size ≤ 1024) (w2 : s2.size ≤ 1024) (w : World) :
    Calls Try.prog 16 #[.string s1, .string s2] w fun e w' => (∃ num den : Int, e = .returned (.tuple #[.int .u64 num, .int .u64 den]) ∧ JOK (runes s1) (runes s2) num den) ∧ Below w.heap.size w w' := by
  go_enter Try.func16, Try.ntmps16
  go_wp2_with (go_at_call 23; refine (jaro_any s1 s2 w1 w2 w).mono ?_; rintro e w' ⟨⟨num, den, rfl, hJ⟩, hb⟩)
  go_quiet (fail)
  go_wp2
  go_ret2
  exact ⟨⟨num, den, rfl, hJ⟩, below_drewN' (hb.alloc hb.size _) _⟩
end Go.Proofs.Qxb6600227a
