import Derived.Test.Qxb6000093aRowsV
namespace Go.Proofs.Qxb6000093a
open Go.RowKit

/-- Some bool; where it is b, p holds. -/
def BoolSays (e : Ending) (b : Bool) (p : Prop) : Prop := ∃ t : Bool, e = .returned (.bool t) ∧ (t = b → p)

set_option maxHeartbeats 2000000 in
set_option maxRecDepth 100000 in
/-- 'zzBytes_..'. -/
theorem zzb10 (cp : ByteArray) (a1 a2 a3 a4 : Option Addr) (c1 c2 c3 c4 n1 n2 n3 n4 : Nat) (N T : List ByteArray) (R : List RowV) (h1 : N.length = n1) (h2 : T.length = n2) (h4 : R.length = n4)
    (w : World) (hN : SA w a1 N) (hT : SA w a2 T) (hR : RA w a4 R) :
    Calls Try.prog 10 #[.string cp, .slice a1 n1 c1, .slice a2 n2 c2, .slice a3 n3 c3, .slice a4 n4 c4] w fun e w' => BoolSays e true (n1 ≤ 1048576 ∧ n4 ≤ 1048576) ∧ w' = w := by
  have H1 : Hid (N.length = n1) := h1
  have H2 : Hid (T.length = n2) := h2
  have H4 : Hid (R.length = n4) := h4
  clear h1 h2 h4
  go_enter Try.func10, Try.ntmps10
  go_wp2
  all_goals try (go_ret; exact ⟨⟨false, rfl, fun h => by cases h⟩, rfl⟩)
  have hn1 : (n1 : Int) ≤ 1048576 := by assumption
  go_loop [11, 12] (fun tv iv => ∃ (k : Nat) (q : Int), k ≤ n1 ∧ iv = .int .i64 k ∧ tv = .int .i64 q) (fun _ iv => n1 - (intOf iv).toNat)
  case atStart => exact ⟨0, _, Nat.zero_le _, rfl, rfl⟩
  case round =>
    obtain ⟨k, q, hk, rfl, rfl⟩ := hrel
    by_cases hlt : k < n1
    · obtain ⟨b, off, rfl, hc⟩ := hN (by have := H1.out; omega)
      have hcell := hc k (by have := H1.out; omega)
      obtain ⟨s, hs⟩ : ∃ s, s = N.getD k ByteArray.empty := ⟨_, rfl⟩
      rw [← hs] at hcell
      clear hs hc hN
      go_wp2
      · go_ret
        exact ⟨⟨false, rfl, fun h => by cases h⟩, rfl⟩
      · go_ret
        exact ⟨⟨false, rfl, fun h => by cases h⟩, rfl⟩
      · go_round
        case rel => exact ⟨k + 1, _, by omega, by go_num, rfl⟩
        case measure => simp [intOf]; omega
    · go_wp2
      all_goals try (go_ret; exact ⟨⟨false, rfl, fun h => by cases h⟩, rfl⟩)
      clear hlt
      go_loop [11, 13] (fun tv iv => ∃ (k : Nat) (q : Int), k ≤ n2 ∧ iv = .int .i64 k ∧ tv = .int .i64 q) (fun _ iv => n2 - (intOf iv).toNat)
      case atStart => exact ⟨0, _, Nat.zero_le _, rfl, rfl⟩
      case round =>
        obtain ⟨k2, q2, hk2, rfl, rfl⟩ := hrel
        by_cases hlt : k2 < n2
        · obtain ⟨b, off, rfl, hc⟩ := hT (by have := H2.out; omega)
          have hcell := hc k2 (by have := H2.out; omega)
          obtain ⟨s, hs⟩ : ∃ s, s = T.getD k2 ByteArray.empty := ⟨_, rfl⟩
          rw [← hs] at hcell
          clear hs hc hT
          go_wp2
          · go_ret
            exact ⟨⟨false, rfl, fun h => by cases h⟩, rfl⟩
          · go_ret
            exact ⟨⟨false, rfl, fun h => by cases h⟩, rfl⟩
          · go_round
            case rel => exact ⟨k2 + 1, _, by omega, by go_num, rfl⟩
            case measure => simp [intOf]; omega
        · go_wp2
          all_goals try (go_ret; exact ⟨⟨false, rfl, fun h => by cases h⟩, rfl⟩)
          have hn4 : (n4 : Int) ≤ 1048576 := by assumption
          clear hlt
          go_loop [11, 14] (fun tv iv => ∃ (k : Nat) (q : Int), k ≤ n4 ∧ iv = .int .i64 k ∧ tv = .int .i64 q) (fun _ iv => n4 - (intOf iv).toNat)
          case atStart => exact ⟨0, _, Nat.zero_le _, rfl, rfl⟩
          case round =>
            obtain ⟨k3, q3, hk3, rfl, rfl⟩ := hrel
            by_cases hlt : k3 < n4
            · obtain ⟨b, off, rfl, hc⟩ := hR.1 (by have := H4.out; omega)
              have hcell := hc k3 (by have := H4.out; omega)
              have hSA := hR.2 k3 (by have := H4.out; omega)
              obtain ⟨r, hr⟩ : ∃ r, r = R.getD k3 RowV.none := ⟨_, rfl⟩
              rw [← hr] at hcell hSA
              obtain ⟨ro, rc, rl⟩ := r
              simp only [RowV.val] at hcell hSA
              obtain ⟨rn, hrn⟩ : ∃ rn, rn = rl.length := ⟨_, rfl⟩
              rw [← hrn] at hcell
              have HRN : Hid (rn = rl.length) := hrn
              have HSA : Hid (SA w ro rl) := hSA
              clear hr hc hR hrn hSA
              go_wp2
              · go_ret
                exact ⟨⟨false, rfl, fun h => by cases h⟩, rfl⟩
              · go_ret
                exact ⟨⟨false, rfl, fun h => by cases h⟩, rfl⟩
              · go_loop [11, 15] (fun tv iv => ∃ (k : Nat) (q : Int), k ≤ rn ∧ iv = .int .i64 k ∧ tv = .int .i64 q) (fun _ iv => rn - (intOf iv).toNat)
                case atStart => exact ⟨0, _, Nat.zero_le _, rfl, rfl⟩
                case round =>
                  obtain ⟨k4, q4, hk4, rfl, rfl⟩ := hrel
                  by_cases hlt4 : k4 < rn
                  · obtain ⟨b', off', rfl, hc'⟩ := HSA.out (by have := HRN.out; omega)
                    have hcell' := hc' k4 (by have := HRN.out; omega)
                    obtain ⟨s, hs⟩ : ∃ s, s = rl.getD k4 ByteArray.empty := ⟨_, rfl⟩
                    rw [← hs] at hcell'
                    clear hs hc' HSA
                    go_wp2
                    · go_ret
                      exact ⟨⟨false, rfl, fun h => by cases h⟩, rfl⟩
                    · go_ret
                      exact ⟨⟨false, rfl, fun h => by cases h⟩, rfl⟩
                    · go_round
                      case rel => exact ⟨k4 + 1, _, by omega, by go_num, rfl⟩
                      case measure => simp [intOf]; omega
                  · go_wp2
                    go_round
                    case rel => exact ⟨k3 + 1, _, by omega, by go_num, rfl⟩
                    case measure => simp [intOf]; omega
            · go_wp2
              go_ret
              exact ⟨⟨true, rfl, fun _ => by omega⟩, rfl⟩

/-- Some int. -/
def IsInt (e : Ending) : Prop := ∃ t : Int, e = .returned (.int .i64 t)

set_option maxHeartbeats 2000000 in
set_option maxRecDepth 100000 in
/-- 'pageBytes'. -/
theorem pb11 (cp : ByteArray) (a1 a2 a3 a4 : Option Addr) (c1 c2 c3 c4 n1 n2 n3 n4 : Nat) (N T : List ByteArray) (R : List RowV) (h1 : N.length = n1) (h2 : T.length = n2) (h4 : R.length = n4) (b1 : n1 ≤ 9223372036854775807) (b2 : n2 ≤ 9223372036854775807) (b4 : n4 ≤ 9223372036854775807)
    (hrl : ∀ i, i < n4 → (R.getD i RowV.none).ss.length ≤ 9223372036854775807)
    (w : World) (hN : SA w a1 N) (hT : SA w a2 T) (hR : RA w a4 R) :
    Calls Try.prog 11 #[.string cp, .slice a1 n1 c1, .slice a2 n2 c2, .slice a3 n3 c3, .slice a4 n4 c4] w fun e w' => IsInt e ∧ w' = w := by
  have H1 : Hid (N.length = n1) := h1
  have H2 : Hid (T.length = n2) := h2
  have H4 : Hid (R.length = n4) := h4
  have HRL : Hid (∀ i, i < n4 → (R.getD i RowV.none).ss.length ≤ 9223372036854775807) := hrl
  clear h1 h2 h4 hrl
  go_enter Try.func11, Try.ntmps11
  go_wp2
  all_goals try (go_ret; exact ⟨⟨_, rfl⟩, rfl⟩)
  go_loop [11, 12] (fun tv iv => ∃ (k : Nat) (q : Int), k ≤ n1 ∧ iv = .int .i64 k ∧ tv = .int .i64 q) (fun _ iv => n1 - (intOf iv).toNat)
  case atStart => exact ⟨0, _, Nat.zero_le _, rfl, rfl⟩
  case round =>
    obtain ⟨k, q, hk, rfl, rfl⟩ := hrel
    by_cases hlt : k < n1
    · obtain ⟨b, off, rfl, hc⟩ := hN (by have := H1.out; omega)
      have hcell := hc k (by have := H1.out; omega)
      obtain ⟨s, hs⟩ : ∃ s, s = N.getD k ByteArray.empty := ⟨_, rfl⟩
      rw [← hs] at hcell
      clear hs hc hN
      go_wp2
      · go_ret
        exact ⟨⟨_, rfl⟩, rfl⟩
      · go_round
        case rel => exact ⟨k + 1, _, by omega, by go_num, rfl⟩
        case measure => simp [intOf]; omega
    · go_wp2
      clear hlt
      go_loop [11, 13] (fun tv iv => ∃ (k : Nat) (q : Int), k ≤ n2 ∧ iv = .int .i64 k ∧ tv = .int .i64 q) (fun _ iv => n2 - (intOf iv).toNat)
      case atStart => exact ⟨0, _, Nat.zero_le _, rfl, rfl⟩
      case round =>
        obtain ⟨k2, q2, hk2, rfl, rfl⟩ := hrel
        by_cases hlt : k2 < n2
        · obtain ⟨b, off, rfl, hc⟩ := hT (by have := H2.out; omega)
          have hcell := hc k2 (by have := H2.out; omega)
          obtain ⟨s, hs⟩ : ∃ s, s = T.getD k2 ByteArray.empty := ⟨_, rfl⟩
          rw [← hs] at hcell
          clear hs hc hT
          go_wp2
          · go_ret
            exact ⟨⟨_, rfl⟩, rfl⟩
          · go_round
            case rel => exact ⟨k2 + 1, _, by omega, by go_num, rfl⟩
            case measure => simp [intOf]; omega
        · go_wp2
          clear hlt
          go_loop [11, 14] (fun tv iv => ∃ (k : Nat) (q : Int), k ≤ n4 ∧ iv = .int .i64 k ∧ tv = .int .i64 q) (fun _ iv => n4 - (intOf iv).toNat)
          case atStart => exact ⟨0, _, Nat.zero_le _, rfl, rfl⟩
          case round =>
            obtain ⟨k3, q3, hk3, rfl, rfl⟩ := hrel
            by_cases hlt : k3 < n4
            · obtain ⟨b, off, rfl, hc⟩ := hR.1 (by have := H4.out; omega)
              have hcell := hc k3 (by have := H4.out; omega)
              have hSA := hR.2 k3 (by have := H4.out; omega)
              have hrl := HRL.out k3 hlt
              obtain ⟨r, hr⟩ : ∃ r, r = R.getD k3 RowV.none := ⟨_, rfl⟩
              rw [← hr] at hcell hSA hrl
              obtain ⟨ro, rc, rl⟩ := r
              simp only [RowV.val] at hcell hSA hrl
              obtain ⟨rn, hrn⟩ : ∃ rn, rn = rl.length := ⟨_, rfl⟩
              rw [← hrn] at hcell hrl
              have HRN : Hid (rn = rl.length) := hrn
              have HSA : Hid (SA w ro rl) := hSA
              clear hr hc hR hrn hSA
              go_wp2
              · go_ret
                exact ⟨⟨_, rfl⟩, rfl⟩
              · go_loop [11, 16] (fun tv iv => ∃ (k : Nat) (q : Int), k ≤ rn ∧ iv = .int .i64 k ∧ tv = .int .i64 q) (fun _ iv => rn - (intOf iv).toNat)
                case atStart => exact ⟨0, _, Nat.zero_le _, rfl, rfl⟩
                case round =>
                  obtain ⟨k4, q4, hk4, rfl, rfl⟩ := hrel
                  by_cases hlt4 : k4 < rn
                  · obtain ⟨b', off', rfl, hc'⟩ := HSA.out (by have := HRN.out; omega)
                    have hcell' := hc' k4 (by have := HRN.out; omega)
                    obtain ⟨s, hs⟩ : ∃ s, s = rl.getD k4 ByteArray.empty := ⟨_, rfl⟩
                    rw [← hs] at hcell'
                    clear hs hc' HSA
                    go_wp2
                    · go_ret
                      exact ⟨⟨_, rfl⟩, rfl⟩
                    · go_round
                      case rel => exact ⟨k4 + 1, _, by omega, by go_num, rfl⟩
                      case measure => simp [intOf]; omega
                  · go_wp2
                    go_round
                    case rel => exact ⟨k3 + 1, _, by omega, by go_num, rfl⟩
                    case measure => simp [intOf]; omega
            · go_wp2
              go_ret
              exact ⟨⟨_, rfl⟩, rfl⟩
end Go.Proofs.Qxb6000093a
