import Derived.Test.Qxb6600227aSame
import Derived.RegionTactic
import Derived.BigRegion
namespace Go.Proofs.Qxb6600227a
open Go.RowKit

theorem below_drewNS {B : Nat} {w w' : World} (h : Below B w w') (n : Nat) : Below B w (w'.drewN n) := ⟨h.os, h.tape, h.output, h.size, h.block⟩

/-- Some bool; where it is b, p holds. -/
def BoolSays (e : Ending) (b : Bool) (p : Prop) : Prop := ∃ t : Bool, e = .returned (.bool t) ∧ (t = b → p)

/-- 'b1HasAny'. -/
theorem hasany13 (g cap n : Nat) (rs : List Int) (hn : rs.length = n) (hbig : n ≤ 1048576) (w : World) (hR : Runes w g rs) :
    Calls Try.prog 13 #[.slice (some ⟨g, 0, none⟩) n cap] w fun e w' => BoolSays e false (∀ i, i < n → rs.getD i 0 ≠ 65533) ∧ w' = w := by
  have HN : Hid (rs.length = n) := hn
  clear hn
  go_enter Try.func13, Try.ntmps13
  go_wp2
  go_loop [3] (fun iv => ∃ k : Nat, k ≤ n ∧ iv = .int .i64 k ∧ Hid (∀ i, i < k → rs.getD i 0 ≠ 65533)) (fun iv => n - (intOf iv).toNat)
  case atStart => exact ⟨0, Nat.zero_le _, rfl, fun i hi => by omega⟩
  case round =>
    obtain ⟨k, hk, rfl, hS⟩ := hrel
    by_cases hlt : k < n
    · have hc := hR.2 k (by have := HN.out; omega)
      obtain ⟨x, hx⟩ : ∃ x, x = rs.getD k 0 := ⟨_, rfl⟩
      rw [← hx] at hc
      have HX : Hid (x = rs.getD k 0) := hx
      clear hx
      go_wp2
      · go_ret
        exact ⟨⟨true, rfl, fun h => by cases h⟩, rfl⟩
      · have hne : (x == 65533) = false := by assumption
        go_round
        case rel =>
          refine ⟨k + 1, by omega, by go_num, fun i hi => ?_⟩
          by_cases h : i < k
          · exact hS.out i h
          · obtain rfl : i = k := by omega
            rw [← HX.out]; simpa using hne
        case measure => simp [intOf]; omega
    · go_wp2
      go_ret
      exact ⟨⟨false, rfl, fun _ i hi => hS.out i (by omega)⟩, rfl⟩

/-- No rune twice. -/
def Distinct (rs : List Int) : Prop := ∀ i j, i < j → j < rs.length → rs.getD i 0 ≠ rs.getD j 0

/-- 'b1Distinct'. -/
theorem distinct15 (g cap n : Nat) (rs : List Int) (hn : rs.length = n) (hbig : n ≤ 1048576) (w : World) (hR : Runes w g rs) :
    Calls Try.prog 15 #[.slice (some ⟨g, 0, none⟩) n cap] w fun e w' => BoolSays e true (Distinct rs) ∧ Below w.heap.size w w' := by
  have HN : Hid (rs.length = n) := hn
  clear hn
  go_enter Try.func15, Try.ntmps15
  go_wp2
  go_loopw [3] (fun iv wr => ∃ k : Nat, k ≤ n ∧ iv = .int .i64 k ∧ Hid (∀ i j, i < k → i < j → j < n → rs.getD i 0 ≠ rs.getD j 0) ∧ Below w.heap.size w wr) (fun iv _ => n - (intOf iv).toNat)
  case atStart => exact ⟨0, Nat.zero_le _, rfl, fun i j hi => by omega, Below.refl _ _⟩
  case round =>
    obtain ⟨k, hk, rfl, hS, hbe⟩ := hrel
    by_cases hlt : k < n
    · go_wp2
      go_loopw [4] (fun jv wr => ∃ j : Nat, k < j ∧ j ≤ n ∧ jv = .int .i64 j ∧ Hid (∀ q, k < q → q < j → rs.getD k 0 ≠ rs.getD q 0) ∧ Below w.heap.size w wr) (fun jv _ => n - (intOf jv).toNat)
      case atStart => exact ⟨k + 1, by omega, by omega, by go_num, fun q h1 h2 => by omega, hbe⟩
      case round =>
        clear hbe
        obtain ⟨j, hj1, hj2, rfl, hT, hbe⟩ := hrel
        by_cases hltj : j < n
        · have hRr := hR.below hbe hR.1
          have hc1 := hRr.2 k (by have := HN.out; omega)
          have hc2 := hRr.2 j (by have := HN.out; omega)
          obtain ⟨x, hx⟩ : ∃ x, x = rs.getD k 0 := ⟨_, rfl⟩
          obtain ⟨y, hy⟩ : ∃ y, y = rs.getD j 0 := ⟨_, rfl⟩
          rw [← hx] at hc1
          rw [← hy] at hc2
          have HX : Hid (x = rs.getD k 0 ∧ y = rs.getD j 0) := ⟨hx, hy⟩
          have hk' : (k : Int) < (n : Int) := by omega
          have hj' : (j : Int) < (n : Int) := by omega
          clear hx hy
          go_wp2
          go_quiet (fail)
          go_wp2
          · go_ret
            exact ⟨⟨false, rfl, fun h => by cases h⟩, below_drewNS hbe _⟩
          · have hne : (x == y) = false := by assumption
            go_roundw
            case rel =>
              refine ⟨j + 1, by omega, by omega, by go_num, fun q h1 h2 => ?_, below_drewNS hbe _⟩
              by_cases h : q < j
              · exact hT.out q h1 h
              · obtain rfl : q = j := by omega
                rw [← HX.out.1, ← HX.out.2]; simpa using hne
            case measure => simp [intOf]; omega
        · go_wp2
          go_roundw
          case rel =>
            refine ⟨k + 1, by omega, by go_num, fun i q h1 h2 h3 => ?_, hbe⟩
            by_cases h : i < k
            · exact hS.out i q h h2 h3
            · obtain rfl : i = k := by omega
              exact hT.out q h2 (by omega)
          case measure => simp [intOf]; omega
    · go_wp2
      go_ret
      exact ⟨⟨true, rfl, fun _ i j h1 h2 => hS.out i j (by have := HN.out; omega) h1 (by have := HN.out; omega)⟩, hbe⟩

/-- 'b1Gcd'. -/
theorem gcd24 (x y : Nat) (hx : x ≤ 1099511627776) (hy : y ≤ 1099511627776) (w : World) :
    Calls Try.prog 24 #[.int .u64 x, .int .u64 y] w fun e w' => e = .returned (.int .u64 (Nat.gcd x y)) ∧ Below w.heap.size w w' := by
  go_enter Try.func24, Try.ntmps24
  go_wp2
  go_loopw [0, 1] (fun xv yv wr => ∃ u v : Nat, xv = .int .u64 u ∧ yv = .int .u64 v ∧ u ≤ 1099511627776 ∧ v ≤ 1099511627776 ∧ Hid (Nat.gcd u v = Nat.gcd x y) ∧ Below w.heap.size w wr) (fun _ yv _ => (intOf yv).toNat)
  case atStart => exact ⟨x, y, rfl, rfl, hx, hy, rfl, Below.refl _ _⟩
  case round =>
    obtain ⟨u, v, rfl, rfl, hu, hv, hG, hbe⟩ := hrel
    by_cases hv0 : v = 0
    · subst hv0
      go_wp2
      go_ret
      have hg := hG.out
      rw [Nat.gcd_zero_right] at hg
      exact ⟨by rw [← hg]; rfl, hbe⟩
    · have hv' : (v : Int) ≠ 0 := by omega
      have hvb : ((v : Int) != 0) = true := by simp; omega
      have e : ((u : Int) % (v : Int)) = ((u % v : Nat) : Int) := by simp
      have hm : u % v < v := Nat.mod_lt _ (by omega)
      have hb : 0 ≤ (u : Int) % (v : Int) ∧ (u : Int) % (v : Int) ≤ 1099511627776 := by rw [e]; omega
      obtain ⟨hb1, hb2⟩ := hb
      have HE : Hid (((u : Int) % (v : Int)) = ((u % v : Nat) : Int)) := e
      clear e
      have hvp : (1 : Int) ≤ (v : Int) := by omega
      go_wp2
      go_quiet (fail)
      go_wp2
      go_roundw
      case rel =>
        refine ⟨v, u % v, rfl, by rw [HE.out], hv, by omega, ?_, below_drewNS hbe _⟩
        have h1 : Nat.gcd v (u % v) = Nat.gcd u v := by rw [Nat.gcd_comm v (u % v), ← Nat.gcd_rec v u, Nat.gcd_comm]
        exact h1.trans hG.out
      case measure =>
        simp only [intOf]
        rw [HE.out]
        omega

/-- The fraction x/y in its lowest terms. -/
def redN (x y : Nat) : Nat := x / Nat.gcd x y
def redD (x y : Nat) : Nat := y / Nat.gcd x y

set_option maxHeartbeats 400000 in
/-- 'b1Reduce'. -/
theorem reduce18 (x y : Nat) (hx : x ≤ 1099511627776) (hy : y ≤ 1099511627776) (w : World) :
    Calls Try.prog 18 #[.int .u64 x, .int .u64 y] w fun e w' => e = .returned (.tuple #[.int .u64 (redN x y), .int .u64 (redD x y)]) ∧ Below w.heap.size w w' := by
  have hg := fun w => gcd24 x y hx hy w
  have hN : (redN x y : Int) = (x : Int) / (Nat.gcd x y : Int) := by simp [redN]
  have hD : (redD x y : Int) = (y : Int) / (Nat.gcd x y : Int) := by simp [redD]
  have hNb : redN x y ≤ x := Nat.div_le_self _ _
  have hDb : redD x y ≤ y := Nat.div_le_self _ _
  have hz : Nat.gcd x y = 0 → x = 0 ∧ y = 0 := Nat.gcd_eq_zero_iff.1
  have hgb : Nat.gcd x y ≤ 1099511627776 := by
    by_cases h0 : x = 0
    · rw [h0, Nat.gcd_zero_left]; omega
    · exact Nat.le_trans (Nat.gcd_le_left _ (by omega)) hx
  generalize hgg : Nat.gcd x y = g at *
  generalize hrn : redN x y = rn at *
  generalize hrd : redD x y = rd at *
  have HG : Hid (∀ w, Calls Try.prog 24 #[.int .u64 x, .int .u64 y] w fun e w' => e = .returned (.int .u64 g) ∧ Below w.heap.size w w') := hg
  have HR : Hid (rn = redN x y ∧ rd = redD x y) := ⟨hrn.symm, hrd.symm⟩
  have HND : Hid ((rn : Int) = (x : Int) / (g : Int) ∧ (rd : Int) = (y : Int) / (g : Int)) := ⟨hN, hD⟩
  have b1 : 0 ≤ (x : Int) / (g : Int) ∧ (x : Int) / (g : Int) ≤ 1099511627776 := by rw [← hN]; omega
  have b2 : 0 ≤ (y : Int) / (g : Int) ∧ (y : Int) / (g : Int) ≤ 1099511627776 := by rw [← hD]; omega
  obtain ⟨b1a, b1b⟩ := b1
  obtain ⟨b2a, b2b⟩ := b2
  clear hg hgg hrn hrd hN hD
  by_cases h0 : g = 0
  · obtain ⟨rfl, rfl⟩ := hz h0
    have e1 : rn = 0 := by omega
    have e2 : rd = 0 := by omega
    subst h0 e1 e2
    go_enter Try.func18, Try.ntmps18
    go_wp2_with (go_at_call 24; refine (HG.out _).mono ?_; rintro e w' ⟨rfl, hb⟩)
    go_ret2
    exact ⟨rfl, hb⟩
  · have hgp : (1 : Int) ≤ (g : Int) := by omega
    have hgne : ((g : Int) == 0) = false := by simp; omega
    go_enter Try.func18, Try.ntmps18
    go_wp2_with (go_at_call 24; refine (HG.out _).mono ?_; rintro e w' ⟨rfl, hb⟩)
    go_quiet (fail)
    go_wp2
    go_ret2
    refine ⟨?_, below_drewNS hb _⟩
    rw [HND.out.1, HND.out.2]
    rfl

set_option maxHeartbeats 400000 in
/-- 'b1Add'. -/
theorem add17 (p1 q1 p2 q2 : Nat) (h1 : p1 * q2 + p2 * q1 ≤ 1099511627776) (h2 : q1 * q2 ≤ 1099511627776) (w : World) :
    Calls Try.prog 17 #[.int .u64 p1, .int .u64 q1, .int .u64 p2, .int .u64 q2] w fun e w' => e = .returned (.tuple #[.int .u64 (redN (p1 * q2 + p2 * q1) (q1 * q2)), .int .u64 (redD (p1 * q2 + p2 * q1) (q1 * q2))]) ∧ Below w.heap.size w w' := by
  have hr := fun w => reduce18 (p1 * q2 + p2 * q1) (q1 * q2) h1 h2 w
  have e1 : ((p1 * q2 + p2 * q1 : Nat) : Int) = (p1 : Int) * (q2 : Int) + (p2 : Int) * (q1 : Int) := by simp
  have e2 : ((q1 * q2 : Nat) : Int) = (q1 : Int) * (q2 : Int) := by simp
  have c1 : 0 ≤ (p1 : Int) * (q2 : Int) := by rw [← Int.natCast_mul]; omega
  have c2 : 0 ≤ (p2 : Int) * (q1 : Int) := by rw [← Int.natCast_mul]; omega
  have c3 : 0 ≤ (q1 : Int) * (q2 : Int) := by rw [← Int.natCast_mul]; omega
  have d1 : (p1 : Int) * (q2 : Int) + (p2 : Int) * (q1 : Int) ≤ 1099511627776 := by rw [← e1]; omega
  have d2 : (q1 : Int) * (q2 : Int) ≤ 1099511627776 := by rw [← e2]; omega
  rw [e1, e2] at hr
  generalize redN (p1 * q2 + p2 * q1) (q1 * q2) = rn at *
  generalize redD (p1 * q2 + p2 * q1) (q1 * q2) = rd at *
  have HR : Hid (∀ w, Calls Try.prog 18 #[.int .u64 ((p1 : Int) * (q2 : Int) + (p2 : Int) * (q1 : Int)), .int .u64 ((q1 : Int) * (q2 : Int))] w fun e w' => e = .returned (.tuple #[.int .u64 rn, .int .u64 rd]) ∧ Below w.heap.size w w') := hr
  clear hr e1 e2
  go_enter Try.func17, Try.ntmps17
  go_wp2_with (go_at_call 18; refine (HR.out _).mono ?_; rintro e w' ⟨rfl, hb⟩)
  go_ret2
  exact ⟨rfl, hb⟩
end Go.Proofs.Qxb6600227a
