import Derived.Test.Qxb6600221aRows
import Derived.Test.Qxb6600221aKit
namespace Go.Proofs.Qxb6600221a
open Go.RowKit

/-- The list holds the name. -/
def hasB (ss : List ByteArray) (x : ByteArray) : Bool := ss.any (fun s => s.toList == x.toList)

/-- A value that is a slice whose elements are the strings ss. -/
def IsStrs (w : World) (v : Value) (ss : List ByteArray) : Prop :=
  (ss = [] ∧ ∃ ao cap, v = .slice ao 0 cap) ∨
  ∃ b off cap, v = .slice (some ⟨b, off, none⟩) ss.length cap ∧ ∀ j, j < ss.length → w.cell? ⟨b, off + j, none⟩ = some (.string (ss.getD j ByteArray.empty))

theorem hasB_snoc (ss : List ByteArray) (x : ByteArray) (k : Nat) (h : k < ss.length) : hasB (ss.take (k + 1)) x = (hasB (ss.take k) x || (ss.getD k ByteArray.empty).toList == x.toList) := by
  unfold hasB
  rw [List.take_succ_eq_append_getElem h, List.any_append]
  simp [List.getD, h]

theorem hasB_hit (ss : List ByteArray) (x : ByteArray) (k : Nat) (h : k < ss.length) (e : ((ss.getD k ByteArray.empty).toList == x.toList) = true) : hasB ss x = true := by
  unfold hasB
  rw [List.any_eq_true]
  refine ⟨ss[k], List.getElem_mem h, ?_⟩
  simpa [List.getD, h] using e

set_option maxHeartbeats 400000 in
theorem named_at (b off cap : Nat) (ss : List ByteArray) (n : Nat) (hn : n = ss.length) (hbig : n ≤ 9223372036854775807) (x : ByteArray) (w : World)
    (hc : ∀ j, j < n → w.cell? ⟨b, off + j, none⟩ = some (.string (ss.getD j ByteArray.empty))) :
    Calls Try.prog 13 #[.slice (some ⟨b, off, none⟩) n cap, .string x] w fun e w' => e = .returned (.bool (hasB ss x)) ∧ w' = w := by
  have HN : Hid (n = ss.length) := hn
  clear hn
  go_enter Try.func13, Try.ntmps13
  go_wp2
  go_loop [9] (fun i => ∃ k : Nat, k ≤ n ∧ i = .int .i64 k ∧ Hid (hasB (ss.take k) x = false)) (fun i => n - (intOf i).toNat)
  case atStart => exact ⟨0, Nat.zero_le _, rfl, by simp [hasB, Hid]⟩
  case round =>
    obtain ⟨k, hk, rfl, hF⟩ := hrel
    by_cases hlt : k < n
    · have hcell := hc k hlt
      clear hc
      obtain ⟨s, hs⟩ : ∃ s, s = ss.getD k ByteArray.empty := ⟨_, rfl⟩
      rw [← hs] at hcell
      have HS : Hid (s = ss.getD k ByteArray.empty) := hs
      clear hs
      go_wp2
      · go_ret
        have e : (s.toList == x.toList) = true := by assumption
        exact ⟨by rw [hasB_hit ss x k (by have := HN.out; omega) (by rw [← HS.out]; exact e)]; rfl, rfl⟩
      · have e : (s.toList == x.toList) = false := by assumption
        have hT : hasB (ss.take (k + 1)) x = false := by rw [hasB_snoc ss x k (by have := HN.out; omega), hF.out, ← HS.out, e]; rfl
        go_round
        case rel => exact ⟨k + 1, by omega, by go_num, hT⟩
        case measure => simp [intOf]; omega
    · go_wp2
      go_ret
      have hT : hasB ss x = false := by
        have h1 := hF.out
        rwa [List.take_of_length_le (by have := HN.out; omega)] at h1
      exact ⟨by rw [hT]; rfl, rfl⟩

theorem named_empty (ao : Option Addr) (cap : Nat) (x : ByteArray) (w : World) :
    Calls Try.prog 13 #[.slice ao 0 cap, .string x] w fun e w' => e = .returned (.bool false) ∧ w' = w := by
  go_enter Try.func13, Try.ntmps13
  go_wp2
  refine wp_loop_rounds 1 ?_
  rw [rounds_succ]
  go_wp2
  go_ret
  exact ⟨rfl, rfl⟩

theorem named_any (v : Value) (ss : List ByteArray) (hbig : ss.length ≤ 9223372036854775807) (x : ByteArray) (w : World) (h : IsStrs w v ss) :
    Calls Try.prog 13 #[v, .string x] w fun e w' => e = .returned (.bool (hasB ss x)) ∧ w' = w := by
  rcases h with ⟨rfl, ao, cap, rfl⟩ | ⟨b, off, cap, rfl, hc⟩
  · exact named_empty ao cap x w
  · exact named_at b off cap ss _ rfl hbig x w hc

/-- 'plan.ZZnamed'. -/
theorem zznamed_any (v : Value) (ss : List ByteArray) (hbig : ss.length ≤ 9223372036854775807) (x : ByteArray) (w : World) (h : IsStrs w v ss) :
    Calls Try.prog 8 #[v, .string x] w fun e w' => e = .returned (.bool (hasB ss x)) ∧ w' = w := by
  go_enter Try.func8, Try.ntmps8
  go_wp2_with (go_at_call 13; refine (named_any v ss hbig x w h).mono ?_; rintro e w' ⟨rfl, rfl⟩)
  go_ret
  exact ⟨rfl, rfl⟩

/-- The call returned some bool. -/
def IsBool (e : Ending) : Prop := ∃ t : Bool, e = .returned (.bool t)

/-- 'stringsBytes': some number. -/
theorem sbytes_at (b off cap : Nat) (ss : List ByteArray) (n : Nat) (hbig : n ≤ 9223372036854775807) (w : World)
    (hc : ∀ j, j < n → w.cell? ⟨b, off + j, none⟩ = some (.string (ss.getD j ByteArray.empty))) :
    Calls Try.prog 7 #[.slice (some ⟨b, off, none⟩) n cap] w fun e w' => (∃ t : Int, e = .returned (.int .i64 t) ∧ 0 ≤ t ∧ t ≤ 2097168) ∧ w' = w := by
  go_enter Try.func7, Try.ntmps7
  go_wp2
  go_loop [3, 4] (fun t i => ∃ k : Nat, ∃ q : Int, k ≤ n ∧ i = .int .i64 k ∧ t = .int .i64 q ∧ 0 ≤ q ∧ q ≤ 1048576) (fun _ i => n - (intOf i).toNat)
  case atStart => exact ⟨0, 0, Nat.zero_le _, rfl, rfl, by omega, by omega⟩
  case round =>
    obtain ⟨k, q, hk, rfl, rfl, hq0, hq1⟩ := hrel
    by_cases hlt : k < n
    · have hcell := hc k hlt
      clear hc
      obtain ⟨s, hs⟩ : ∃ s, s = ss.getD k ByteArray.empty := ⟨_, rfl⟩
      rw [← hs] at hcell
      clear hs
      go_wp2
      · go_ret
        exact ⟨⟨_, rfl, by omega, by omega⟩, rfl⟩
      · go_ret
        exact ⟨⟨q + (16 + ↑s.size), rfl, by omega, by omega⟩, rfl⟩
      · go_round
        case rel => exact ⟨k + 1, _, by omega, by go_num, rfl, by omega, by omega⟩
        case measure => simp [intOf]; omega
    · go_wp2
      go_ret
      exact ⟨⟨q, rfl, hq0, by omega⟩, rfl⟩

theorem sbytes_empty (ao : Option Addr) (cap : Nat) (w : World) :
    Calls Try.prog 7 #[.slice ao 0 cap] w fun e w' => (∃ t : Int, e = .returned (.int .i64 t) ∧ 0 ≤ t ∧ t ≤ 2097168) ∧ w' = w := by
  go_enter Try.func7, Try.ntmps7
  go_wp2
  refine wp_loop_rounds 1 ?_
  rw [rounds_succ]
  go_wp2
  go_ret
  exact ⟨⟨0, rfl, by omega, by omega⟩, rfl⟩

theorem sbytes_any (v : Value) (ss : List ByteArray) (hbig : ss.length ≤ 9223372036854775807) (w : World) (h : IsStrs w v ss) :
    Calls Try.prog 7 #[v] w fun e w' => (∃ t : Int, e = .returned (.int .i64 t) ∧ 0 ≤ t ∧ t ≤ 2097168) ∧ w' = w := by
  rcases h with ⟨rfl, ao, cap, rfl⟩ | ⟨b, off, cap, rfl, hc⟩
  · exact sbytes_empty ao cap w
  · exact sbytes_at b off cap ss _ hbig w hc

/-- 'zzBytes_..': some bool. -/
theorem zzb12_at (b off cap : Nat) (ss : List ByteArray) (n : Nat) (x : ByteArray) (hx : x.size ≤ 9223372036854775807) (hbig : n ≤ 9223372036854775807) (w : World)
    (hc : ∀ j, j < n → w.cell? ⟨b, off + j, none⟩ = some (.string (ss.getD j ByteArray.empty))) :
    Calls Try.prog 12 #[.slice (some ⟨b, off, none⟩) n cap, .string x] w fun e w' => IsBool e ∧ w' = w := by
  go_enter Try.func12, Try.ntmps12
  go_wp2
  · go_ret
    exact ⟨⟨_, rfl⟩, rfl⟩
  go_loop [5, 6] (fun t i => ∃ k : Nat, ∃ q : Int, k ≤ n ∧ i = .int .i64 k ∧ t = .int .i64 q ∧ 0 ≤ q ∧ q ≤ 1048576) (fun _ i => n - (intOf i).toNat)
  case atStart => exact ⟨0, n, Nat.zero_le _, rfl, rfl, by omega, by omega⟩
  case round =>
    obtain ⟨k, q, hk, rfl, rfl, hq0, hq1⟩ := hrel
    by_cases hlt : k < n
    · have hcell := hc k hlt
      clear hc
      obtain ⟨s, hs⟩ : ∃ s, s = ss.getD k ByteArray.empty := ⟨_, rfl⟩
      rw [← hs] at hcell
      clear hs
      go_wp2
      · go_ret
        exact ⟨⟨_, rfl⟩, rfl⟩
      · go_ret
        exact ⟨⟨_, rfl⟩, rfl⟩
      · go_round
        case rel => exact ⟨k + 1, _, by omega, by go_num, rfl, by omega, by omega⟩
        case measure => simp [intOf]; omega
    · go_wp2
      all_goals
        go_ret
        exact ⟨⟨_, rfl⟩, rfl⟩

theorem zzb12_empty (ao : Option Addr) (cap : Nat) (x : ByteArray) (hx : x.size ≤ 9223372036854775807) (w : World) :
    Calls Try.prog 12 #[.slice ao 0 cap, .string x] w fun e w' => IsBool e ∧ w' = w := by
  go_enter Try.func12, Try.ntmps12
  go_wp2
  refine wp_loop_rounds 1 ?_
  rw [rounds_succ]
  go_wp2
  all_goals
    go_ret
    exact ⟨⟨_, rfl⟩, rfl⟩

theorem zzb12_any (v : Value) (ss : List ByteArray) (hbig : ss.length ≤ 9223372036854775807) (x : ByteArray) (hx : x.size ≤ 9223372036854775807) (w : World) (h : IsStrs w v ss) :
    Calls Try.prog 12 #[v, .string x] w fun e w' => IsBool e ∧ w' = w := by
  rcases h with ⟨rfl, ao, cap, rfl⟩ | ⟨b, off, cap, rfl, hc⟩
  · exact zzb12_empty ao cap x hx w
  · exact zzb12_at b off cap ss _ x hx hbig w hc

/-- 'zzBytes_..': some bool. -/
theorem zzb6_at (b off cap : Nat) (ss : List ByteArray) (n : Nat) (x : ByteArray) (hx : x.size ≤ 9223372036854775807) (hbig : n ≤ 9223372036854775807) (w : World)
    (hc : ∀ j, j < n → w.cell? ⟨b, off + j, none⟩ = some (.string (ss.getD j ByteArray.empty))) :
    Calls Try.prog 6 #[.slice (some ⟨b, off, none⟩) n cap, .string x] w fun e w' => IsBool e ∧ w' = w := by
  go_enter Try.func6, Try.ntmps6
  go_wp2
  · go_ret
    exact ⟨⟨_, rfl⟩, rfl⟩
  go_loop [5, 6] (fun t i => ∃ k : Nat, ∃ q : Int, k ≤ n ∧ i = .int .i64 k ∧ t = .int .i64 q ∧ 0 ≤ q ∧ q ≤ 1048576) (fun _ i => n - (intOf i).toNat)
  case atStart => exact ⟨0, n, Nat.zero_le _, rfl, rfl, by omega, by omega⟩
  case round =>
    obtain ⟨k, q, hk, rfl, rfl, hq0, hq1⟩ := hrel
    by_cases hlt : k < n
    · have hcell := hc k hlt
      clear hc
      obtain ⟨s, hs⟩ : ∃ s, s = ss.getD k ByteArray.empty := ⟨_, rfl⟩
      rw [← hs] at hcell
      clear hs
      go_wp2
      · go_ret
        exact ⟨⟨_, rfl⟩, rfl⟩
      · go_ret
        exact ⟨⟨_, rfl⟩, rfl⟩
      · go_round
        case rel => exact ⟨k + 1, _, by omega, by go_num, rfl, by omega, by omega⟩
        case measure => simp [intOf]; omega
    · go_wp2
      all_goals
        go_ret
        exact ⟨⟨_, rfl⟩, rfl⟩

theorem zzb6_empty (ao : Option Addr) (cap : Nat) (x : ByteArray) (hx : x.size ≤ 9223372036854775807) (w : World) :
    Calls Try.prog 6 #[.slice ao 0 cap, .string x] w fun e w' => IsBool e ∧ w' = w := by
  go_enter Try.func6, Try.ntmps6
  go_wp2
  refine wp_loop_rounds 1 ?_
  rw [rounds_succ]
  go_wp2
  all_goals
    go_ret
    exact ⟨⟨_, rfl⟩, rfl⟩

theorem zzb6_any (v : Value) (ss : List ByteArray) (hbig : ss.length ≤ 9223372036854775807) (x : ByteArray) (hx : x.size ≤ 9223372036854775807) (w : World) (h : IsStrs w v ss) :
    Calls Try.prog 6 #[v, .string x] w fun e w' => IsBool e ∧ w' = w := by
  rcases h with ⟨rfl, ao, cap, rfl⟩ | ⟨b, off, cap, rfl, hc⟩
  · exact zzb6_empty ao cap x hx w
  · exact zzb6_at b off cap ss _ x hx hbig w hc
end Go.Proofs.Qxb6600221a
