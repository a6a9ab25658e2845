import Derived.Test.Qxb6000406aRows
import Derived.Test.Qxb6000406aKit
namespace Go.Proofs.Qxb6000406a
open Go.RowKit

/-- Some bool; where it is b, p holds. -/
def BoolSays (e : Ending) (b : Bool) (p : Prop) : Prop := ∃ t : Bool, e = .returned (.bool t) ∧ (t = b → p)
def IsInt (e : Ending) : Prop := ∃ t : Int, e = .returned (.int .i64 t)

/-- The bytes of the first k strings. -/
def tot (T : List ByteArray) (k : Nat) : Nat := ((T.take k).map (·.size)).sum
theorem tot_zero (T : List ByteArray) : tot T 0 = 0 := rfl
theorem tot_succ (T : List ByteArray) (k : Nat) (h : k < T.length) : tot T (k + 1) = tot T k + (T.getD k ByteArray.empty).size := by
  have e : T.take (k + 1) = T.take k ++ [T.getD k ByteArray.empty] := by
    rw [List.take_succ_eq_append_getElem h]; simp [List.getD, h]
  unfold tot
  rw [e, List.map_append, List.sum_append]
  simp only [List.map_cons, List.map_nil, List.sum_cons, List.sum_nil, Nat.add_zero]

set_option maxHeartbeats 2000000 in
/-- 'strBytes'. -/
theorem sb9 (a1 : Option Addr) (c1 n1 : Nat) (T : List ByteArray) (h1 : T.length = n1) (b1 : n1 ≤ 9223372036854775807) (w : World) (hT : SA w a1 T) :
    Calls Try.prog 9 #[.slice a1 n1 c1] w fun e w' => IsInt e ∧ w' = w := by
  have H1 : Hid (T.length = n1) := h1
  clear h1
  go_enter Try.func9, Try.ntmps9
  go_wp2
  go_loop [3, 4] (fun tv iv => ∃ (k : Nat) (q : Int), k ≤ n1 ∧ iv = .int .i64 k ∧ tv = .int .i64 q) (fun _ iv => n1 - (intOf iv).toNat)
  case atStart => exact ⟨0, _, Nat.zero_le _, rfl, rfl⟩
  case round =>
    obtain ⟨k, q, hk, rfl, rfl⟩ := hrel
    by_cases hlt : k < n1
    · obtain ⟨b, off, rfl, hc⟩ := hT (by have := H1.out; omega)
      have hcell := hc k (by have := H1.out; omega)
      obtain ⟨s, hs⟩ : ∃ s, s = T.getD k ByteArray.empty := ⟨_, rfl⟩
      rw [← hs] at hcell
      clear hs hc hT
      go_wp2
      · go_ret
        exact ⟨⟨_, rfl⟩, rfl⟩
      · go_round
        case rel => exact ⟨k + 1, _, by omega, by go_num, rfl⟩
        case measure => simp [intOf]; omega
    · go_wp2
      go_ret
      exact ⟨⟨_, rfl⟩, rfl⟩

set_option maxHeartbeats 2000000 in
set_option maxRecDepth 100000 in
/-- 'zzBytes_..'. -/
theorem zzb8 (a1 a2 a3 : Option Addr) (c1 c2 c3 n1 n2 n3 : Nat) (T G : List ByteArray) (h1 : T.length = n1) (h2 : G.length = n2)
    (w : World) (hT : SA w a1 T) (hG : SA w a2 G) :
    Calls Try.prog 8 #[.slice a1 n1 c1, .slice a2 n2 c2, .slice a3 n3 c3] w fun e w' => BoolSays e true (n1 ≤ 1048576 ∧ tot T n1 ≤ 1048576) ∧ w' = w := by
  have H1 : Hid (T.length = n1) := h1
  have H2 : Hid (G.length = n2) := h2
  clear h1 h2
  go_enter Try.func8, Try.ntmps8
  go_wp2
  all_goals try (go_ret; exact ⟨⟨false, rfl, fun h => by cases h⟩, rfl⟩)
  have hn1 : (n1 : Int) ≤ 1048576 := by assumption
  go_loop [7, 8] (fun tv iv => ∃ (k q : Nat), k ≤ n1 ∧ iv = .int .i64 k ∧ tv = .int .i64 q ∧ q ≤ 1048576 ∧ Hid (q = n1 + tot T k)) (fun _ iv => n1 - (intOf iv).toNat)
  case atStart => exact ⟨0, n1, Nat.zero_le _, rfl, by go_num, by omega, by show _ = _; rw [tot_zero]; rfl⟩
  case round =>
    obtain ⟨k, q, hk, rfl, rfl, hq, hQ⟩ := hrel
    by_cases hlt : k < n1
    · obtain ⟨b, off, rfl, hc⟩ := hT (by have := H1.out; omega)
      have hcell := hc k (by have := H1.out; omega)
      have ht := tot_succ T k (by have := H1.out; omega)
      obtain ⟨s, hs⟩ : ∃ s, s = T.getD k ByteArray.empty := ⟨_, rfl⟩
      rw [← hs] at hcell ht
      have HT : Hid (tot T (k + 1) = tot T k + s.size) := ht
      clear hs hc hT ht
      by_cases hsz : (1048576 : Int) < s.size
      · go_wp2
        go_ret
        exact ⟨⟨false, rfl, fun h => by cases h⟩, rfl⟩
      have hsz' : s.size ≤ 1048576 := by omega
      go_wp2
      · go_ret
        exact ⟨⟨false, rfl, fun h => by cases h⟩, rfl⟩
      · go_round
        case rel => exact ⟨k + 1, q + s.size, by omega, by go_num, by go_num, by go_num, by show _ = _; rw [HT.out, hQ.out]; omega⟩
        case measure => simp [intOf]; omega
    · obtain rfl : k = n1 := by omega
      have HB : Hid (k ≤ 1048576 ∧ tot T k ≤ 1048576) := ⟨by omega, by have := hQ.out; omega⟩
      clear hlt
      go_wp2
      all_goals try (go_ret; exact ⟨⟨false, rfl, fun h => by cases h⟩, rfl⟩)
      go_loop [7, 9] (fun tv iv => ∃ (k : Nat) (q : Int), k ≤ n2 ∧ iv = .int .i64 k ∧ tv = .int .i64 q) (fun _ iv => n2 - (intOf iv).toNat)
      case atStart => exact ⟨0, _, Nat.zero_le _, rfl, rfl⟩
      case round =>
        obtain ⟨k2, q2, hk2, rfl, rfl⟩ := hrel
        by_cases hlt : k2 < n2
        · obtain ⟨b, off, rfl, hc⟩ := hG (by have := H2.out; omega)
          have hcell := hc k2 (by have := H2.out; omega)
          obtain ⟨s, hs⟩ : ∃ s, s = G.getD k2 ByteArray.empty := ⟨_, rfl⟩
          rw [← hs] at hcell
          clear hs hc hG
          go_wp2
          · go_ret
            exact ⟨⟨false, rfl, fun h => by cases h⟩, rfl⟩
          · go_ret
            exact ⟨⟨false, rfl, fun h => by cases h⟩, rfl⟩
          · go_round
            case rel => exact ⟨k2 + 1, _, by omega, by go_num, rfl⟩
            case measure => simp [intOf]; omega
        · go_wp2
          all_goals try (go_ret; exact ⟨⟨false, rfl, fun h => by cases h⟩, rfl⟩)
          go_ret
          exact ⟨⟨true, rfl, fun _ => HB.out⟩, rfl⟩
end Go.Proofs.Qxb6000406a
