import Derived.Test.Qxb6600221aSort
namespace Go.Proofs.Qxb6600221a
open Go.RowKit

theorem Try.size9 : (Try.prog.info? 9).map (·.size) = some 1 := by kernel_rfl

theorem isStrs_of_blk {w : World} {g : Nat} {ss : List ByteArray} (h : Blk w g 9 (ss.map Value.string)) (n cap : Nat) (hn : ss.length = n) : IsStrs w (.slice (some ⟨g, 0, none⟩) n cap) ss := by
  subst hn
  refine .inr ⟨g, 0, cap, rfl, fun j hj => ?_⟩
  rw [Nat.zero_add]
  exact h.cell (strs_get ss j hj)

set_option maxHeartbeats 400000 in
theorem agrees_ne (a : Addr) (cap : Nat) (ss : List ByteArray) (x : ByteArray) (n : Nat) (hx : x.size ≤ maxLen) (hbig : n ≤ maxLen) (w : World)
    (h : IsStrs w (.slice (some a) n cap) ss) (hl : ss.length = n) (hsrc : ∀ j v, (ss.map Value.string)[j]? = some v → w.cell? (a.add j) = some v) :
    Calls Try.prog 3 #[.slice (some a) n cap, .string x] w fun e w' => e = .returned (.bool true) ∧ Below w.heap.size w w' := by
  unfold maxLen at hx hbig
  obtain ⟨i0, hi, hz0, hz1, hz2⟩ := info_parts Try.info9
  have hbl : ss.length ≤ 9223372036854775807 := by omega
  have hne := fun w : World => run_neq_slice_nil_any (P := Try.prog) w 22 9 (some a) n cap 0 0 Try.underlying22
  have HL : Hid (ss.length = n) := hl
  clear hl
  go_enter Try.func3, Try.ntmps3
  go_wp2_with (first
    | (go_at_call 6; refine (zzb6_any _ ss hbl x hx w h).mono ?_; rintro e w' ⟨⟨t, rfl⟩, hw⟩; obtain rfl : w = w' := hw.symm)
    | (go_at_call 7; refine (sbytes_any _ ss hbl _ h).mono ?_; rintro e w' ⟨⟨t2, rfl, h20, h21⟩, hw⟩; obtain rfl : w = w' := hw.symm)
    | (at_make; refine wpList_make_blk rfl (.tmp 27) (.tmp 27) 22 rfl 9 i0 _ Try.underlying22 hi hz0 hz1 rfl 16 hz2 .i64 .i64 _ _ n n rfl rfl rfl rfl (Nat.le_refl _) (by omega) (by omega) ?_; intro w1 hB1 hsz1 hb1)
    | (refine wpList_copy_blk rfl (.tmp 29) (.tmp 30) 22 22 rfl 9 Try.underlying22 Try.size9 _ n _ _ _ rfl rfl 9 _ hB1 (by simp) (ss.map Value.string) (by simpa using HL.out) ?hp (by simp [Value.oneCell']) _ (Nat.le_refl _) ?_; rotate_right; intro w2 hB2 hsz2 hb2)
    | fail)
  case hp =>
    intro _
    refine ⟨a, rfl, fun j v hv => ?_⟩
    have hc := hsrc j v hv
    rw [hb1.cell (World.block_lt_of_cell? _ _ hc)]; exact hc
  all_goals try (go_ret; exact ⟨rfl, Below.refl _ _⟩)
  have hn16 : (n : Int) ≤ 65536 := by assumption
  have hi1 := isStrs_of_blk hB2 n n HL.out
  refine (zznamed_any _ ss hbl x w2 hi1).mono ?_
  rintro e w' ⟨rfl, hw⟩
  obtain rfl : w2 = w' := hw.symm
  go_wp2_with fail
  refine (scopy_any _ ss (by have := HL.out; omega) w2 hi1).mono ?_
  rintro e w3 ⟨u, L, rfl, hb3, hLl, hi3, hS, hH⟩
  have HLL : Hid (L.length = ss.length) := hLl
  have HH : Hid (∀ x, hasB L x = hasB ss x) := hH
  clear hLl hH
  go_wp2_with fail
  refine (shas_any u L (by rw [HLL.out, HL.out]; omega) x w3 hi3 hS).mono ?_
  rintro e w' ⟨rfl, hw⟩
  obtain rfl : w3 = w' := hw.symm
  rw [HH.out]
  go_wp2
  go_ret
  refine ⟨by simp, (hb1.trans hb2).trans (hb3.mono ?_)⟩
  have h1 := hb1.size
  have h2 := hb2.size
  omega

set_option maxHeartbeats 400000 in
theorem agrees_nil (x : ByteArray) (hx : x.size ≤ maxLen) (w : World) :
    Calls Try.prog 3 #[.slice none 0 0, .string x] w fun e w' => e = .returned (.bool true) ∧ Below w.heap.size w w' := by
  unfold maxLen at hx
  have h : IsStrs w (.slice none 0 0) [] := .inl ⟨rfl, none, 0, rfl⟩
  have hne := fun w : World => run_neq_slice_nil_any (P := Try.prog) w 22 9 none 0 0 0 0 Try.underlying22
  go_enter Try.func3, Try.ntmps3
  go_wp2_with (first
    | (go_at_call 6; refine (zzb6_any _ [] (by simp) x hx w h).mono ?_; rintro e w' ⟨⟨t, rfl⟩, hw⟩; obtain rfl : w = w' := hw.symm)
    | (go_at_call 7; refine (sbytes_any _ [] (by simp) _ h).mono ?_; rintro e w' ⟨⟨t2, rfl, h20, h21⟩, hw⟩; obtain rfl : w = w' := hw.symm)
    | fail)
  all_goals try (go_ret; exact ⟨rfl, Below.refl _ _⟩)
  refine (zznamed_any _ [] (by simp) x w h).mono ?_
  rintro e w' ⟨rfl, hw⟩
  obtain rfl : w = w' := hw.symm
  go_wp2_with fail
  refine (scopy_any _ [] (by simp) w h).mono ?_
  rintro e w3 ⟨u, L, rfl, hb3, hLl, hi3, hS, hH⟩
  have HLL : Hid (L.length = ([] : List ByteArray).length) := hLl
  have HH : Hid (∀ x, hasB L x = hasB [] x) := hH
  clear hLl hH
  go_wp2_with fail
  refine (shas_any u L (by rw [HLL.out]; simp) x w3 hi3 hS).mono ?_
  rintro e w' ⟨rfl, hw⟩
  obtain rfl : w3 = w' := hw.symm
  rw [HH.out]
  go_wp2
  go_ret
  exact ⟨by simp, hb3⟩
end Go.Proofs.Qxb6600221a
