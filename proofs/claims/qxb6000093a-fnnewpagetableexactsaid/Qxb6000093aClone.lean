import Derived.Test.Qxb6000093aRows
import Derived.Test.Qxb6000093aKit
import Derived.Deep.DeepCutAuto
import Derived.Deep.QuietTactic
import Derived.BigQuiet
import Derived.RegionTactic
import Derived.BigRegion
namespace Go.Proofs.Qxb6000093a
open Go.RowKit

theorem Try.info9 : (Try.prog.info? 9).map (fun i => (i.zero, i.size, i.bytes)) = some (some (.string ByteArray.empty), 1, 16) := by kernel_rfl
theorem Try.info4 : (Try.prog.info? 4).map (fun i => (i.zero, i.size, i.bytes)) = some (some (.bool false), 1, 1) := by kernel_rfl
theorem Try.info28 : (Try.prog.info? 28).map (fun i => (i.zero, i.size, i.bytes)) = some (some (.slice none 0 0), 1, 24) := by kernel_rfl

set_option maxHeartbeats 400000 in
theorem cloneS_some (a : Addr) (cap n : Nat) (ss : List ByteArray) (hn : ss.length = n) (hbig : n ≤ 1048576) (w : World) (hS : SA w (some a) ss) :
    Calls Try.prog 12 #[.slice (some a) n cap] w fun e w' => e = .returned (.slice (some ⟨w.heap.size, 0, none⟩) n n) ∧ SA w' (some ⟨w.heap.size, 0, none⟩) ss ∧ Below w.heap.size w w' := by
  have HN : Hid (ss.length = n) := hn
  clear hn
  obtain ⟨i0, hi, hz0, hz1, hz2⟩ := info_parts Try.info9
  have hne := fun w : World => Lib.run_eql_slice_nil (P := Try.prog) w 28 9 (some a) n cap 0 0 Try.underlying28
  go_enter Try.func12, Try.ntmps12
  go_wp2_with (at_make; refine wpList_make_blk rfl (.tmp 8) (.tmp 8) 28 rfl 9 i0 _ Try.underlying28 hi hz0 hz1 rfl 16 hz2 .i64 .i64 _ _ n n rfl rfl rfl rfl (Nat.le_refl _) (by omega) (by omega) ?_; intro w1 hB1 hsz1 hb1)
  have HB1 : Hid (Blk w1 w.heap.size 9 ((List.replicate n ByteArray.empty).map Value.string)) := by unfold Hid; simpa using hB1
  clear hB1 hsz1 hne
  go_loopw [4] (fun i wr => ∃ k : Nat, k ≤ n ∧ i = .int .i64 k ∧ ∃ L : List ByteArray, L.length = n ∧ Hid (∀ j, j < k → L.getD j ByteArray.empty = ss.getD j ByteArray.empty) ∧ Blk wr w.heap.size 9 (L.map Value.string) ∧ Below w.heap.size w wr)
    (fun i _ => n - (intOf i).toNat)
  case atStart => exact ⟨0, Nat.zero_le _, rfl, List.replicate n ByteArray.empty, by simp, fun j hj => by omega, HB1.out, hb1⟩
  case round =>
    obtain ⟨k, hk, rfl, L, hL, hE, hB, hBe⟩ := hrel
    by_cases hlt : k < n
    · obtain ⟨b, off, hab, hc⟩ := hS (by have := HN.out; omega)
      obtain rfl : a = ⟨b, off, none⟩ := by simpa using hab
      have hcell : wr.cell? ⟨b, off + k, none⟩ = some (.string (ss.getD k ByteArray.empty)) := (hBe.cell (World.block_lt_of_cell? _ _ (hc k (by have := HN.out; omega)))).trans (hc k (by have := HN.out; omega))
      obtain ⟨s, hs⟩ : ∃ s, s = ss.getD k ByteArray.empty := ⟨_, rfl⟩
      rw [← hs] at hcell
      have HS : Hid (s = ss.getD k ByteArray.empty) := hs
      have hg := hB.cell (strs_get L k (by omega))
      have hf := hB.free k
      obtain ⟨s0, hs0⟩ : ∃ s0, s0 = L.getD k ByteArray.empty := ⟨_, rfl⟩
      rw [← hs0] at hg
      have HLn : Hid (L.length = n) := hL
      clear hs hc hs0 hL hS hab
      go_wp2
      have hB' := hB.set k (.string s)
      rw [strs_set] at hB'
      go_roundw
      case rel =>
        refine ⟨k + 1, by omega, by go_num, L.set k s, by simpa using HLn.out, ?_, hB', hBe.setCell (by exact Nat.le_refl _) _⟩
        intro j hj
        rw [getD_set _ _ _ _ (by have := HLn.out; omega)]
        by_cases h1 : k = j
        · rw [if_pos h1, ← h1]; exact HS.out
        · rw [if_neg h1]; exact hE.out j (by omega)
      case measure => simp [intOf]; omega
    · have eL : L = ss := ext_getD (by rw [hL, HN.out]) (fun j hj => hE.out j (by have := HN.out; omega))
      subst eL
      clear hE hL HB1 hb1
      go_wp2
      go_ret
      exact ⟨rfl, SA.of_blk hB, hBe⟩

set_option maxHeartbeats 400000 in
theorem cloneB_some (a : Addr) (cap n : Nat) (ss : List Bool) (hn : ss.length = n) (hbig : n ≤ 1048576) (w : World) (hS : BA w (some a) ss) :
    Calls Try.prog 13 #[.slice (some a) n cap] w fun e w' => e = .returned (.slice (some ⟨w.heap.size, 0, none⟩) n n) ∧ BA w' (some ⟨w.heap.size, 0, none⟩) ss ∧ Below w.heap.size w w' := by
  have HN : Hid (ss.length = n) := hn
  clear hn
  obtain ⟨i0, hi, hz0, hz1, hz2⟩ := info_parts Try.info4
  have hne := fun w : World => Lib.run_eql_slice_nil (P := Try.prog) w 29 4 (some a) n cap 0 0 Try.underlying29
  go_enter Try.func13, Try.ntmps13
  go_wp2_with (at_make; refine wpList_make_blk rfl (.tmp 8) (.tmp 8) 29 rfl 4 i0 _ Try.underlying29 hi hz0 hz1 rfl 1 hz2 .i64 .i64 _ _ n n rfl rfl rfl rfl (Nat.le_refl _) (by omega) (by omega) ?_; intro w1 hB1 hsz1 hb1)
  have HB1 : Hid (Blk w1 w.heap.size 4 ((List.replicate n false).map Value.bool)) := by unfold Hid; simpa using hB1
  clear hB1 hsz1 hne
  go_loopw [4] (fun i wr => ∃ k : Nat, k ≤ n ∧ i = .int .i64 k ∧ ∃ L : List Bool, L.length = n ∧ Hid (∀ j, j < k → L.getD j false = ss.getD j false) ∧ Blk wr w.heap.size 4 (L.map Value.bool) ∧ Below w.heap.size w wr)
    (fun i _ => n - (intOf i).toNat)
  case atStart => exact ⟨0, Nat.zero_le _, rfl, List.replicate n false, by simp, fun j hj => by omega, HB1.out, hb1⟩
  case round =>
    obtain ⟨k, hk, rfl, L, hL, hE, hB, hBe⟩ := hrel
    by_cases hlt : k < n
    · obtain ⟨b, off, hab, hc⟩ := hS (by have := HN.out; omega)
      obtain rfl : a = ⟨b, off, none⟩ := by simpa using hab
      have hcell : wr.cell? ⟨b, off + k, none⟩ = some (.bool (ss.getD k false)) := (hBe.cell (World.block_lt_of_cell? _ _ (hc k (by have := HN.out; omega)))).trans (hc k (by have := HN.out; omega))
      obtain ⟨s, hs⟩ : ∃ s, s = ss.getD k false := ⟨_, rfl⟩
      rw [← hs] at hcell
      have HS : Hid (s = ss.getD k false) := hs
      have hg := hB.cell (bools_get L k (by omega))
      have hf := hB.free k
      obtain ⟨s0, hs0⟩ : ∃ s0, s0 = L.getD k false := ⟨_, rfl⟩
      rw [← hs0] at hg
      have HLn : Hid (L.length = n) := hL
      clear hs hc hs0 hL hS hab
      go_wp2
      have hB' := hB.set k (.bool s)
      rw [bools_set] at hB'
      go_roundw
      case rel =>
        refine ⟨k + 1, by omega, by go_num, L.set k s, by simpa using HLn.out, ?_, hB', hBe.setCell (by exact Nat.le_refl _) _⟩
        intro j hj
        rw [getD_setB _ _ _ _ (by have := HLn.out; omega)]
        by_cases h1 : k = j
        · rw [if_pos h1, ← h1]; exact HS.out
        · rw [if_neg h1]; exact hE.out j (by omega)
      case measure => simp [intOf]; omega
    · have eL : L = ss := ext_getDB (by rw [hL, HN.out]) (fun j hj => hE.out j (by have := HN.out; omega))
      subst eL
      clear hE hL HB1 hb1
      go_wp2
      go_ret
      exact ⟨rfl, BA.of_blk hB, hBe⟩

/-- 'cloneStrings'. -/
theorem clone12 (ao : Option Addr) (cap n : Nat) (ss : List ByteArray) (hn : ss.length = n) (hbig : n ≤ 1048576) (w : World) (hS : SA w ao ss) :
    Calls Try.prog 12 #[.slice ao n cap] w fun e w' => ∃ (ao' : Option Addr) (cap' : Nat), e = .returned (.slice ao' n cap') ∧ SA w' ao' ss ∧ Below w.heap.size w w' := by
  cases ao with
  | some a =>
    refine (cloneS_some a cap n ss hn hbig w hS).mono fun e w' ⟨h1, h2, h3⟩ => ?_
    exact ⟨_, _, h1, h2, h3⟩
  | none =>
    have h0 : n = 0 := by
      rcases Nat.eq_zero_or_pos n with h | h
      · exact h
      · obtain ⟨b, off, e, _⟩ := hS (by omega)
        simp at e
    subst h0
    have hne := fun w : World => Lib.run_eql_slice_nil (P := Try.prog) w 28 9 none 0 cap 0 0 Try.underlying28
    go_enter Try.func12, Try.ntmps12
    go_wp2
    go_ret
    exact ⟨none, 0, rfl, hS, Below.refl _ _⟩

/-- 'cloneBools'. -/
theorem clone13 (ao : Option Addr) (cap n : Nat) (ss : List Bool) (hn : ss.length = n) (hbig : n ≤ 1048576) (w : World) (hS : BA w ao ss) :
    Calls Try.prog 13 #[.slice ao n cap] w fun e w' => ∃ (ao' : Option Addr) (cap' : Nat), e = .returned (.slice ao' n cap') ∧ BA w' ao' ss ∧ Below w.heap.size w w' := by
  cases ao with
  | some a =>
    refine (cloneB_some a cap n ss hn hbig w hS).mono fun e w' ⟨h1, h2, h3⟩ => ?_
    exact ⟨_, _, h1, h2, h3⟩
  | none =>
    have h0 : n = 0 := by
      rcases Nat.eq_zero_or_pos n with h | h
      · exact h
      · obtain ⟨b, off, e, _⟩ := hS (by omega)
        simp at e
    subst h0
    have hne := fun w : World => Lib.run_eql_slice_nil (P := Try.prog) w 29 4 none 0 cap 0 0 Try.underlying29
    go_enter Try.func13, Try.ntmps13
    go_wp2
    go_ret
    exact ⟨none, 0, rfl, hS, Below.refl _ _⟩
end Go.Proofs.Qxb6000093a
