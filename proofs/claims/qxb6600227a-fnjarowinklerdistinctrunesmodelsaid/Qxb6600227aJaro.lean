import Derived.Test.Qxb6600227aJPlain
import Derived.Deep.DeepCutAuto
import Derived.RegionTactic
import Derived.BigRegion
import Derived.Laws.ResultCell
namespace Go.Proofs.Qxb6600227a
open Go.RowKit

theorem Try.info4 : (Try.prog.info? 4).map (fun i => (i.zero, i.size, i.bytes)) = some (some (.bool false), 1, 1) := by kernel_rfl

/-- The state of the matching: the result's cell, the runes, the flags. -/
structure JEnv (w : World) (a b : List Int) (g0 g1 g2 g3 g4 : Nat) (aM bM : List Bool) (wr : World) : Prop where
  r0 : Blk wr g0 34 [.int .u64 0, .int .u64 0]
  ra : Runes wr g1 a
  rb : Runes wr g2 b
  bA : Blk wr g3 4 (aM.map Value.bool)
  bB : Blk wr g4 4 (bM.map Value.bool)
  be : Below w.heap.size w wr
  ne : w.heap.size ≤ g0 ∧ g0 < g1 ∧ g1 < g2 ∧ g2 < g3 ∧ g3 < g4

theorem bools_get (L : List Bool) (k : Nat) (h : k < L.length) : (L.map Value.bool)[k]? = some (.bool (L.getD k false)) := by
  simp [h, List.getD]

theorem bools_set (L : List Bool) (k : Nat) (s : Bool) : (L.map Value.bool).set k (.bool s) = (L.set k s).map Value.bool := by
  rw [List.map_set]

theorem Runes.setJ {w : World} {g g' : Nat} {rs : List Int} (h : Runes w g rs) (hne : g ≠ g') (i : Nat) (v : Value) : Runes (w.setCell ⟨g', i, none⟩ v) g rs := by
  refine ⟨by simpa [World.setCell] using h.1, fun j hj => ?_⟩
  rw [World.cell?_of_block (w := w) (Below.heap_setCell w ⟨g', i, none⟩ v g hne)]
  exact h.2 j hj

theorem JEnv.setA {w : World} {a b : List Int} {g0 g1 g2 g3 g4 : Nat} {aM bM : List Bool} {wr : World} (h : JEnv w a b g0 g1 g2 g3 g4 aM bM wr) (i : Nat) (v : Bool) :
    JEnv w a b g0 g1 g2 g3 g4 (aM.set i v) bM (wr.setCell ⟨g3, i, none⟩ (.bool v)) := by
  have hn := h.ne
  refine ⟨h.r0.setOther _ _ (by omega), h.ra.setJ (by omega) _ _, h.rb.setJ (by omega) _ _, ?_, h.bB.setOther _ _ (by omega), h.be.setCell (by show w.heap.size ≤ g3; omega) _, hn⟩
  rw [← bools_set]
  exact h.bA.set i _

theorem JEnv.setB {w : World} {a b : List Int} {g0 g1 g2 g3 g4 : Nat} {aM bM : List Bool} {wr : World} (h : JEnv w a b g0 g1 g2 g3 g4 aM bM wr) (i : Nat) (v : Bool) :
    JEnv w a b g0 g1 g2 g3 g4 aM (bM.set i v) (wr.setCell ⟨g4, i, none⟩ (.bool v)) := by
  have hn := h.ne
  refine ⟨h.r0.setOther _ _ (by omega), h.ra.setJ (by omega) _ _, h.rb.setJ (by omega) _ _, h.bA.setOther _ _ (by omega), ?_, h.be.setCell (by show w.heap.size ≤ g4; omega) _, hn⟩
  rw [← bools_set]
  exact h.bB.set i _

theorem JEnv.drewN {w : World} {a b : List Int} {g0 g1 g2 g3 g4 : Nat} {aM bM : List Bool} {wr : World} (h : JEnv w a b g0 g1 g2 g3 g4 aM bM wr) (n : Nat) :
    JEnv w a b g0 g1 g2 g3 g4 aM bM (wr.drewN n) := ⟨h.r0, h.ra, h.rb, h.bA, h.bB, ⟨h.be.os, h.be.tape, h.be.output, h.be.size, h.be.block⟩, h.ne⟩

/-- A common prefix of p runes, counted up to 4. -/
def PreOK (a b : List Int) (p : Nat) : Prop := p ≤ 4 ∧ p ≤ a.length ∧ p ≤ b.length ∧ (∀ q, q < p → sameC (a.getD q 0) (b.getD q 0) = true) ∧ (p < 4 → p < a.length → p < b.length → sameC (a.getD p 0) (b.getD p 0) = false)

/-- What jaroWinkler gives back, by the flags. -/
def JRes (a b : List Int) (aM bM : List Bool) (num den : Int) : Prop :=
  (cnt aM = 0 ∧ num = 0 ∧ den = 1) ∨
  (cnt aM ≠ 0 ∧ ∃ p N D : Nat, PreOK a b p ∧ N = cnt aM * cnt aM * (a.length + b.length) + (cnt aM - mism (sel a aM) (sel b bM) / 2) * a.length * b.length ∧ D = 3 * a.length * b.length * cnt aM ∧
    N ≤ D ∧ num = 10 * (N : Int) + (p : Int) * ((D : Int) - (N : Int)) ∧ den = 10 * (D : Int))

theorem mstate_hit {a b : List Int} {W i j : Nat} {aM bM : List Bool} (hM : mstate a b W i = (aM, bM)) (hN : ∀ q, i - W ≤ q → q < j → hitB a b bM i q = false) (hh : hitB a b bM i j = true)
    (h1 : i - W ≤ j) (h2 : j < b.length) (h3 : j ≤ i + W) : mstate a b W (i + 1) = (aM.set i true, bM.set j true) := by
  have ht : take1 a b W (mstate a b W i).2 i = some j := by
    rw [hM]
    exact firstFrom_some hN hh h1 (by omega)
  rw [mstate, ht, hM]

theorem mstate_miss {a b : List Int} {W i : Nat} {aM bM : List Bool} (hM : mstate a b W i = (aM, bM)) (j : Nat) (hN : ∀ q, i - W ≤ q → q < j → hitB a b bM i q = false)
    (h : ¬ (j < b.length ∧ j ≤ i + W)) : mstate a b W (i + 1) = (aM, bM) := by
  have ht : take1 a b W (mstate a b W i).2 i = none := by
    rw [hM]
    exact firstFrom_none fun q h1 h2 => hN q h1 (by omega)
  rw [mstate, ht, hM]

theorem cast_bound {x : Int} {y B : Nat} (e : x = (y : Int)) (h : y ≤ B) : 0 ≤ x ∧ x ≤ (B : Int) := by omega

theorem jarith (m n k o : Nat) (hm : m ≤ 1024) (hn : n ≤ 1024) (hk : k ≤ 1024) (ho : o ≤ m) :
    (0 ≤ (m : Int) * (m : Int) ∧ (m : Int) * (m : Int) ≤ 1048576) ∧
    (0 ≤ (m : Int) * (m : Int) * ((n : Int) + (k : Int)) ∧ (m : Int) * (m : Int) * ((n : Int) + (k : Int)) ≤ 2147483648) ∧
    (0 ≤ ((m : Int) - (o : Int) / 2) * (n : Int) ∧ ((m : Int) - (o : Int) / 2) * (n : Int) ≤ 1048576) ∧
    (0 ≤ ((m : Int) - (o : Int) / 2) * (n : Int) * (k : Int) ∧ ((m : Int) - (o : Int) / 2) * (n : Int) * (k : Int) ≤ 1073741824) ∧
    (0 ≤ 3 * (n : Int) * (k : Int) ∧ 3 * (n : Int) * (k : Int) ≤ 3145728) ∧
    (0 ≤ 3 * (n : Int) * (k : Int) * (m : Int) ∧ 3 * (n : Int) * (k : Int) * (m : Int) ≤ 3221225472) := by
  have e0 : (m : Int) - (o : Int) / 2 = ((m - o / 2 : Nat) : Int) := by omega
  rw [e0]
  have h1 : m * m ≤ 1024 * 1024 := Nat.mul_le_mul hm hm
  have h2 : m * m * (n + k) ≤ 1024 * 1024 * 2048 := Nat.mul_le_mul h1 (by omega)
  have h3 : (m - o / 2) * n ≤ 1024 * 1024 := Nat.mul_le_mul (by omega) hn
  have h4 : (m - o / 2) * n * k ≤ 1024 * 1024 * 1024 := Nat.mul_le_mul h3 hk
  have h5 : 3 * n * k ≤ 3 * 1024 * 1024 := Nat.mul_le_mul (by omega) hk
  have h6 : 3 * n * k * m ≤ 3 * 1024 * 1024 * 1024 := Nat.mul_le_mul h5 hm
  exact ⟨cast_bound (y := m * m) (B := 1048576) (by simp) h1, cast_bound (y := m * m * (n + k)) (B := 2147483648) (by simp) h2, cast_bound (y := (m - o / 2) * n) (B := 1048576) (by simp) h3,
    cast_bound (y := (m - o / 2) * n * k) (B := 1073741824) (by simp) h4, cast_bound (y := 3 * n * k) (B := 3145728) (by simp) h5, cast_bound (y := 3 * n * k * m) (B := 3221225472) (by simp) h6⟩

theorem num_le_den (m n k t : Nat) (h1 : m ≤ n) (h2 : m ≤ k) : m * m * (n + k) + (m - t) * n * k ≤ 3 * n * k * m := by
  have a1 : m * m * n ≤ m * k * n := Nat.mul_le_mul_right _ (Nat.mul_le_mul_left _ h2)
  have a2 : m * m * k ≤ m * n * k := Nat.mul_le_mul_right _ (Nat.mul_le_mul_left _ h1)
  have a3 : (m - t) * n * k ≤ m * n * k := Nat.mul_le_mul_right _ (Nat.mul_le_mul_right _ (by omega))
  have e1 : m * m * (n + k) = m * m * n + m * m * k := Nat.mul_add _ _ _
  have e2 : m * k * n = m * n * k := by rw [Nat.mul_assoc, Nat.mul_comm k n, ← Nat.mul_assoc]
  have e3 : 3 * n * k * m = 3 * (m * n * k) := by
    rw [Nat.mul_assoc 3 n k, Nat.mul_assoc 3 (n * k) m, Nat.mul_comm (n * k) m, ← Nat.mul_assoc m n k]
  rw [e1, e3]; omega

/-- The window. -/
def win (n k : Nat) : Nat := max n k / 2 - 1

set_option maxHeartbeats 4000000 in
set_option maxRecDepth 100000 in
theorem jaro_any (s1 s2 : ByteArray) (w1 : s1.size ≤ 1024) (w2 : s2.size ≤ 1024) (w : World) :
    Calls Try.prog 23 #[.string s1, .string s2] w fun e w' => (∃ num den : Int, e = .returned (.agg #[.int .u64 num, .int .u64 den]) ∧
      JRes (runes s1) (runes s2) (mstate (runes s1) (runes s2) (win (runes s1).length (runes s2).length) (runes s1).length).1 (mstate (runes s1) (runes s2) (win (runes s1).length (runes s2).length) (runes s1).length).2 num den) ∧ Below w.heap.size w w' := by
  have hl1 := length_runes s1
  have hl2 := length_runes s2
  generalize ha : runes s1 = a at *
  generalize hb : runes s2 = b at *
  have HA : Hid (runes s1 = a) := ha
  have HB : Hid (runes s2 = b) := hb
  clear ha hb
  have hWb : (win a.length b.length : Int) = max 0 ((max (a.length : Int) (b.length : Int)) / 2 - 1) := by unfold win; omega
  generalize hW : win a.length b.length = W at *
  clear hW
  have HW : Hid ((W : Int) = max 0 ((max (a.length : Int) (b.length : Int)) / 2 - 1)) := hWb
  have hWs : W ≤ 1024 := by omega
  clear hWb
  obtain ⟨i0, hi, hz0, hz1, hz2⟩ := info_parts Try.info4
  go_enter Try.func23, Try.ntmps23
  go_upto_region 2 with (first
    | (refine wpList_runes rfl (.tmp 25) 9 23 rfl 21 Try.underlying9 Try.underlying23 Try.underlying21 s1 (by rfl) (by omega) ?_; rw [HA.out]; intro wa ca hRa hsa hba)
    | (refine wpList_runes rfl (.tmp 27) 9 23 rfl 21 Try.underlying9 Try.underlying23 Try.underlying21 s2 (by rfl) (by omega) ?_; rw [HB.out]; intro wb cb hRb hsb hbb))
  go_cut [7] (fun v wq => v = .int .i64 (W : Int) ∧ wq = wb)
  case first =>
    go_wp2
    all_goals
      have hw := HW.out
      go_meet
      exact ⟨by congr 1; omega, rfl⟩
  case rest =>
    obtain ⟨rfl, hwc⟩ := hcut
    obtain rfl : wb = wc := hwc.symm
    go_upto_region 4 with (first
      | (at_make; refine wpList_make_blk rfl (.tmp 38) (.tmp 38) 30 rfl 4 i0 _ Try.underlying30 hi hz0 hz1 rfl 1 hz2 .i64 .i64 _ _ a.length a.length rfl rfl rfl rfl (Nat.le_refl _) (by omega) (by omega) ?_; intro wm hBm hszm hbm))
    go_cut [4, 5, 6, 8, 9] (fun v4 v5 v6 v8 v9 wq => ∃ g0 g1 g2 g3 g4 : Nat, v4 = .pointer (some ⟨g0, 0, none⟩) ∧ v5 = .slice (some ⟨g1, 0, none⟩) a.length ca ∧ v6 = .slice (some ⟨g2, 0, none⟩) b.length cb ∧
      v8 = .slice (some ⟨g3, 0, none⟩) a.length a.length ∧ v9 = .slice (some ⟨g4, 0, none⟩) b.length b.length ∧ JEnv w a b g0 g1 g2 g3 g4 (List.replicate a.length false) (List.replicate b.length false) wq)
    case first =>
      go_wp2_with (at_make; refine wpList_make_blk rfl (.tmp 41) (.tmp 41) 30 rfl 4 i0 _ Try.underlying30 hi hz0 hz1 rfl 1 hz2 .i64 .i64 _ _ b.length b.length rfl rfl rfl rfl (Nat.le_refl _) (by omega) (by omega) ?_; intro wn hBn hszn hbn)
      go_meet
      simp only [World.size_alloc] at hsa hRa hba
      have b1 : Below w.heap.size w wn := by
        refine ((((Below.refl w.heap.size w).alloc (Nat.le_refl _) _).trans (hba.mono ?_)).trans (hbb.mono ?_)).trans ((hbm.mono ?_).trans (hbn.mono ?_)) <;> omega
      have e0 : Blk wn w.heap.size 34 [.int .u64 0, .int .u64 0] := ((((Blk.new w _ 34).below hba (by omega)).below hbb (by omega)).below hbm (by omega)).below hbn (by omega)
      have e1 := ((hRa.below hbb (by omega)).below hbm (by omega)).below hbn (by omega)
      have e2 := (hRb.below hbm (by omega)).below hbn (by omega)
      have e3 := hBm.below hbn (by omega)
      have e4 := hBn
      have q2 : wa.heap.size = w.heap.size + 1 + 1 := by omega
      have q3 : wb.heap.size = w.heap.size + 1 + 1 + 1 := by omega
      have q4 : wm.heap.size = w.heap.size + 1 + 1 + 1 + 1 := by omega
      rw [q2] at e2
      rw [q3] at e3
      rw [q4] at e4
      exact ⟨_, _, _, _, _, rfl, rfl, rfl, rfl, rfl, ⟨e0, e1, e2, by rw [List.map_replicate]; exact e3, by rw [List.map_replicate]; exact e4, b1, by omega⟩⟩
    case rest =>
      clear hRa hsa hba hRb hsb hbb hBm hszm hbm hi hz0 hz1 hz2
      obtain ⟨g0, g1, g2, g3, g4, rfl, rfl, rfl, rfl, rfl, hE⟩ := hcut
      go_wp2
      go_loopw [10, 45] (fun mv iv wr => ∃ (i : Nat) (aM bM : List Bool), i ≤ a.length ∧ iv = .int .i64 i ∧ mv = .int .i64 (cnt aM) ∧ Hid (mstate a b W i = (aM, bM)) ∧ JEnv w a b g0 g1 g2 g3 g4 aM bM wr)
        (fun _ iv _ => a.length - (intOf iv).toNat)
      case atStart => exact ⟨0, _, _, Nat.zero_le _, rfl, by rw [cnt_replicate]; rfl, rfl, hE⟩
      case round =>
        clear hE
        obtain ⟨i, aM, bM, hi, rfl, rfl, hM, hE⟩ := hrel
        have hF := mstate_facts a b W i hi
        rw [hM.out] at hF
        obtain ⟨hla, hlb, hcc, hfa⟩ := hF
        simp only at hla hlb hcc hfa
        have HF : Hid (aM.length = a.length ∧ bM.length = b.length ∧ cnt aM = cnt bM ∧ ∀ j, i ≤ j → aM.getD j false = false) := ⟨hla, hlb, hcc, hfa⟩
        have hcl := cnt_le aM
        have hcb : cnt aM ≤ 1024 := by omega
        clear hcl hla hlb hcc hfa
        by_cases hlt : i < a.length
        · have hca := hE.ra.2 i hlt
          obtain ⟨x, hx⟩ : ∃ x, x = a.getD i 0 := ⟨_, rfl⟩
          rw [← hx] at hca
          have HX : Hid (x = a.getD i 0) := hx
          clear hx
          go_upto_region 9 with fail
          go_cut [13] (fun v wq => v = .int .i64 ((i - W : Nat) : Int) ∧ wq = wr)
          case first =>
            go_wp2
            all_goals
              go_meet
              exact ⟨by congr 1; omega, rfl⟩
          case rest =>
            obtain ⟨rfl, hwc⟩ := hcut
            obtain rfl : wr = wc := hwc.symm
            go_wp2
            go_loopw [10, 13] (fun mv jv wr => ∃ j : Nat, i - W ≤ j ∧ j ≤ 2048 ∧ jv = .int .i64 j ∧ mv = .int .i64 (cnt aM) ∧ Hid (∀ q, i - W ≤ q → q < j → hitB a b bM i q = false) ∧ JEnv w a b g0 g1 g2 g3 g4 aM bM wr)
              (fun _ jv _ => b.length - (intOf jv).toNat)
            case atStart => exact ⟨i - W, Nat.le_refl _, by omega, rfl, rfl, fun q h1 h2 => by omega, hE⟩
            case round =>
              clear hE hca
              obtain ⟨j, hj1, hj2, rfl, rfl, hN, hE⟩ := hrel
              by_cases hin : j < b.length ∧ j ≤ i + W
              · obtain ⟨hjb, hjw⟩ := hin
                have hbc := hE.bB.cell (bools_get bM j (by have := HF.out.2.1; omega))
                have hbf := hE.bB.free j
                have hrc := hE.rb.2 j hjb
                have hac := hE.bA.cell (bools_get aM i (by have := HF.out.1; omega))
                have haf := hE.bA.free i
                have hne34 : g3 ≠ g4 := by have := hE.ne; omega
                obtain ⟨y, hy⟩ : ∃ y, y = b.getD j 0 := ⟨_, rfl⟩
                obtain ⟨f, hf⟩ : ∃ f, f = bM.getD j false := ⟨_, rfl⟩
                obtain ⟨fa, hfa⟩ : ∃ fa, fa = aM.getD i false := ⟨_, rfl⟩
                rw [← hy] at hrc
                rw [← hf] at hbc
                rw [← hfa] at hac
                have HY : Hid (y = b.getD j 0 ∧ f = bM.getD j false) := ⟨hy, hf⟩
                clear hy hf hfa
                have hcmp : (j : Int) ≤ (b.length : Int) - 1 ∧ (j : Int) ≤ (i : Int) + (W : Int) := by omega
                obtain ⟨hcmp1, hcmp2⟩ := hcmp
                cases f with
                | true =>
                  go_wp2_with (go_at_call 25; refine (same25 _ _ _).mono ?_; rintro e w' ⟨rfl, rfl⟩)
                  go_roundw
                  case rel =>
                    refine ⟨j + 1, by omega, by omega, by go_num, rfl, fun q h1 h2 => ?_, hE⟩
                    by_cases hq : q < j
                    · exact hN.out q h1 hq
                    · obtain rfl : q = j := by omega
                      unfold hitB; rw [← HY.out.2]; rfl
                  case measure => simp [intOf]; omega
                | false =>
                  cases hs : sameC x y with
                  | true =>
                    have HS : Hid (sameC x y = true) := hs
                    go_wp2_with (go_at_call 25; refine (same25 _ _ _).mono ?_; rintro e w' ⟨rfl, rfl⟩)
                    have hE' := (hE.setA i true).setB j true
                    have hit : hitB a b bM i j = true := by
                      unfold hitB; rw [← HY.out.2, ← HY.out.1, ← HX.out, HS.out]; rfl
                    have hM' := mstate_hit hM.out hN.out hit hj1 hjb hjw
                    have hcn := cnt_set aM i (by have := HF.out.1; omega) (HF.out.2.2.2 i (Nat.le_refl _))
                    go_roundw
                    case rel => exact ⟨i + 1, _, _, by omega, by go_num, by rw [hcn]; go_num, hM', hE'⟩
                    case measure => simp [intOf]; omega
                  | false =>
                    have HS : Hid (sameC x y = false) := hs
                    go_wp2_with (go_at_call 25; refine (same25 _ _ _).mono ?_; rintro e w' ⟨rfl, rfl⟩)
                    go_roundw
                    case rel =>
                      refine ⟨j + 1, by omega, by omega, by go_num, rfl, fun q h1 h2 => ?_, hE⟩
                      by_cases hq : q < j
                      · exact hN.out q h1 hq
                      · obtain rfl : q = j := by omega
                        unfold hitB; rw [← HY.out.1, ← HX.out, HS.out]; simp
                    case measure => simp [intOf]; omega
              · go_wp2
                have hM' := mstate_miss hM.out j hN.out hin
                go_roundw
                case rel => exact ⟨i + 1, aM, bM, by omega, by go_num, rfl, hM', hE⟩
                case measure => simp [intOf]; omega
        · obtain rfl : i = a.length := by omega
          clear HW
          by_cases hm0 : cnt aM = 0
          · have hm0' : ((cnt aM : Int) == 0) = true := by simp [hm0]
            have HM0 : Hid (cnt aM = 0) := hm0
            have hr0 := hE.r0.cell (i := 0) (v := .int .u64 0) rfl
            have hr1 := hE.r0.cell (i := 1) (v := .int .u64 0) rfl
            have hf0 := hE.r0.free 0
            have hf1 := hE.r0.free 1
            clear hm0
            go_wp2
            have hB' := (hE.r0.set 0 (.int .u64 0)).set 1 (.int .u64 1)
            have c0 := hB'.cell (i := 0) (v := .int .u64 0) rfl
            have c1 := hB'.cell (i := 1) (v := .int .u64 1) rfl
            refine bodyPost_ret (v := .agg #[.int .u64 0, .int .u64 1]) (by simp [results, Try.results23, go_sem, c0, c1]) rfl ⟨⟨0, 1, rfl, ?_⟩, ?_⟩
            · rw [hM.out]
              exact .inl ⟨HM0.out, rfl, rfl⟩
            · have hn := hE.ne
              exact (hE.be.setCell (by show w.heap.size ≤ g0; omega) _).setCell (by show w.heap.size ≤ g0; omega) _
          · have hm0' : ((cnt aM : Int) == 0) = false := by simp; omega
            have hmp : 1 ≤ cnt aM := by omega
            clear hm0
            go_wp2
            have hla := HF.out.1
            have hlb := HF.out.2.1
            have hcc := HF.out.2.2.1
            have HFF : Hid (aM.length = a.length ∧ bM.length = b.length ∧ cnt aM = cnt bM) := ⟨hla, hlb, hcc⟩
            clear hla hlb hcc HF
            go_loop [14, 15, 92] (fun ov jv iv => ∃ i j o : Nat, i ≤ a.length ∧ j ≤ b.length ∧ o ≤ 1024 ∧ iv = .int .i64 i ∧ jv = .int .i64 j ∧ ov = .int .i64 o ∧ Hid (o = mism (sel (a.take i) (aM.take i)) (sel (b.take j) (bM.take j)) ∧ cnt (aM.take i) = cnt (bM.take j)))
              (fun _ _ iv => a.length - (intOf iv).toNat)
            case atStart => exact ⟨0, 0, 0, Nat.zero_le _, Nat.zero_le _, Nat.zero_le _, rfl, rfl, rfl, ⟨by simp [sel, mism], by simp [cnt]⟩⟩
            case round =>
              obtain ⟨i, j, o, hi, hj, ho, rfl, rfl, rfl, hO⟩ := hrel
              by_cases hlt : i < a.length
              · have hca := hE.ra.2 i hlt
                have hac := hE.bA.cell (bools_get aM i (by have := HFF.out.1; omega))
                obtain ⟨x, hx⟩ : ∃ x, x = a.getD i 0 := ⟨_, rfl⟩
                obtain ⟨fa, hfa⟩ : ∃ fa, fa = aM.getD i false := ⟨_, rfl⟩
                rw [← hx] at hca
                rw [← hfa] at hac
                have HX : Hid (x = a.getD i 0 ∧ fa = aM.getD i false) := ⟨hx, hfa⟩
                clear hx hfa
                cases fa with
                | false =>
                  go_wp2
                  go_round
                  case rel =>
                    refine ⟨i + 1, j, o, by omega, hj, ho, by go_num, rfl, rfl, ?_, ?_⟩
                    · rw [sel_snoc a aM i hlt (by have := HFF.out.1; omega), ← HX.out.2]; simpa using hO.out.1
                    · rw [cnt_snoc aM i (by have := HFF.out.1; omega), ← HX.out.2]; simpa using hO.out.2
                  case measure => simp [intOf]; omega
                | true =>
                  have hc1 := cnt_snoc aM i (by have := HFF.out.1; omega)
                  rw [← HX.out.2, if_pos rfl] at hc1
                  have hc2 := cnt_take_le aM (i + 1)
                  have HC : Hid (cnt (bM.take j) < cnt bM) := by
                    have h1 := HFF.out.2.2
                    have h2 := hO.out.2
                    unfold Hid; omega
                  clear hc1 hc2
                  go_wp2
                  go_loop [15] (fun jv => ∃ j2 : Nat, j2 ≤ b.length ∧ jv = .int .i64 j2 ∧ Hid (sel (b.take j2) (bM.take j2) = sel (b.take j) (bM.take j) ∧ cnt (bM.take j2) = cnt (bM.take j)))
                    (fun jv => b.length - (intOf jv).toNat)
                  case atStart => exact ⟨j, hj, rfl, rfl, rfl⟩
                  case round =>
                    obtain ⟨j2, hj2, rfl, hS⟩ := hrel
                    have hj2lt : j2 < b.length := by
                      rcases Nat.lt_or_ge j2 b.length with h | h
                      · exact h
                      · exfalso
                        have h1 := hS.out.2
                        rw [List.take_of_length_le (by have := HFF.out.2.1; omega)] at h1
                        have := HC.out
                        omega
                    have hbc := hE.bB.cell (bools_get bM j2 (by have := HFF.out.2.1; omega))
                    have hrc := hE.rb.2 j2 hj2lt
                    obtain ⟨y, hy⟩ : ∃ y, y = b.getD j2 0 := ⟨_, rfl⟩
                    obtain ⟨f, hf⟩ : ∃ f, f = bM.getD j2 false := ⟨_, rfl⟩
                    rw [← hy] at hrc
                    rw [← hf] at hbc
                    have HY : Hid (y = b.getD j2 0 ∧ f = bM.getD j2 false) := ⟨hy, hf⟩
                    clear hy hf
                    cases f with
                    | false =>
                      go_wp2
                      go_round
                      case rel =>
                        refine ⟨j2 + 1, by omega, by go_num, ?_, ?_⟩
                        · rw [sel_snoc b bM j2 hj2lt (by have := HFF.out.2.1; omega), ← HY.out.2, ← hS.out.1]; simp
                        · rw [cnt_snoc bM j2 (by have := HFF.out.2.1; omega), ← HY.out.2, ← hS.out.2]; simp
                      case measure => simp [intOf]; omega
                    | true =>
                      have hso : Hid (mism (sel (a.take (i + 1)) (aM.take (i + 1))) (sel (b.take (j2 + 1)) (bM.take (j2 + 1))) = o + (if sameC x y = true then 0 else 1) ∧ cnt (aM.take (i + 1)) = cnt (bM.take (j2 + 1))) := by
                        have h1 := HFF.out
                        have e1 : sel (a.take (i + 1)) (aM.take (i + 1)) = sel (a.take i) (aM.take i) ++ [x] := by
                          rw [sel_snoc a aM i hlt (by omega), ← HX.out.2, ← HX.out.1]; simp
                        have e2 : sel (b.take (j2 + 1)) (bM.take (j2 + 1)) = sel (b.take j) (bM.take j) ++ [y] := by
                          rw [sel_snoc b bM j2 hj2lt (by omega), ← HY.out.2, ← HY.out.1, hS.out.1]; simp
                        have e3 : (sel (a.take i) (aM.take i)).length = (sel (b.take j) (bM.take j)).length := by
                          rw [sel_length _ _ (by simp; omega), sel_length _ _ (by simp; omega)]; exact hO.out.2
                        refine ⟨?_, ?_⟩
                        · rw [e1, e2, mism_snoc _ _ _ _ e3, ← hO.out.1]
                        · rw [cnt_snoc aM i (by omega), cnt_snoc bM j2 (by omega), ← HX.out.2, ← HY.out.2, hS.out.2, hO.out.2]
                      have hle : o + 1 ≤ 1024 := by
                        have h1 := mism_le (sel (a.take i) (aM.take i)) (sel (b.take j) (bM.take j))
                        have h2 := HFF.out
                        rw [← hO.out.1, sel_length _ _ (by simp; omega)] at h1
                        have h3 := cnt_snoc aM i (by omega)
                        rw [← HX.out.2, if_pos rfl] at h3
                        have h4 := cnt_take_le aM (i + 1)
                        omega
                      cases hs : sameC x y with
                      | true =>
                        have HS : Hid (sameC x y = true) := hs
                        go_wp2_with (go_at_call 25; refine (same25 _ _ _).mono ?_; rintro e w' ⟨rfl, rfl⟩)
                        go_round
                        case rel => exact ⟨i + 1, j2 + 1, o, by omega, by omega, ho, by go_num, by go_num, rfl, by rw [hso.out.1, HS.out]; simp, hso.out.2⟩
                        case measure => simp [intOf]; omega
                      | false =>
                        have HS : Hid (sameC x y = false) := hs
                        go_wp2_with (go_at_call 25; refine (same25 _ _ _).mono ?_; rintro e w' ⟨rfl, rfl⟩)
                        go_round
                        case rel => exact ⟨i + 1, j2 + 1, o + 1, by omega, by omega, hle, by go_num, by go_num, by go_num, by rw [hso.out.1, HS.out]; simp, hso.out.2⟩
                        case measure => simp [intOf]; omega
              · obtain rfl : i = a.length := by omega
                have hmo : o ≤ cnt aM := by
                  have h1 := mism_le (sel (a.take a.length) (aM.take a.length)) (sel (b.take j) (bM.take j))
                  have h2 := HFF.out
                  rw [← hO.out.1, sel_length _ _ (by simp; omega)] at h1
                  have := cnt_take_le aM a.length
                  omega
                have hOO : Hid (o = mism (sel a aM) (sel b bM)) := by
                  have h1 := hO.out
                  have h2 := HFF.out
                  rw [List.take_of_length_le (Nat.le_refl _), List.take_of_length_le (by omega)] at h1
                  rw [sel_whole b bM j (by omega) (by rw [← h1.2]; exact h2.2.2)] at h1
                  exact h1.1
                have hma : cnt aM ≤ a.length := by have := cnt_le aM; have := HFF.out; omega
                have hmb : cnt aM ≤ b.length := by have := cnt_le bM; have := HFF.out; omega
                have hna : a.length ≤ 1024 := by omega
                have hnb : b.length ≤ 1024 := by omega
                clear hO hlt
                have hqq := jarith (cnt aM) a.length b.length o (by omega) hna hnb hmo
                obtain ⟨⟨q1a, q1b⟩, ⟨q2a, q2b⟩, ⟨q3a, q3b⟩, ⟨q4a, q4b⟩, ⟨q5a, q5b⟩, ⟨q6a, q6b⟩⟩ := hqq
                have hle := num_le_den (cnt aM) a.length b.length (o / 2) hma hmb
                have eN : ((cnt aM * cnt aM * (a.length + b.length) + (cnt aM - o / 2) * a.length * b.length : Nat) : Int) = (cnt aM : Int) * (cnt aM : Int) * ((a.length : Int) + (b.length : Int)) + ((cnt aM : Int) - (o : Int) / 2) * (a.length : Int) * (b.length : Int) := by
                  have e0 : (cnt aM : Int) - (o : Int) / 2 = ((cnt aM - o / 2 : Nat) : Int) := by omega
                  rw [e0]; simp
                have eD : ((3 * a.length * b.length * cnt aM : Nat) : Int) = 3 * (a.length : Int) * (b.length : Int) * (cnt aM : Int) := by simp
                obtain ⟨N, hN⟩ : ∃ N, N = cnt aM * cnt aM * (a.length + b.length) + (cnt aM - o / 2) * a.length * b.length := ⟨_, rfl⟩
                obtain ⟨D, hD⟩ : ∃ D, D = 3 * a.length * b.length * cnt aM := ⟨_, rfl⟩
                rw [← hN] at eN hle
                rw [← hD] at eD hle
                have HND : Hid (N = cnt aM * cnt aM * (a.length + b.length) + (cnt aM - o / 2) * a.length * b.length ∧ D = 3 * a.length * b.length * cnt aM) := ⟨hN, hD⟩
                have HEN : Hid ((N : Int) = (cnt aM : Int) * (cnt aM : Int) * ((a.length : Int) + (b.length : Int)) + ((cnt aM : Int) - (o : Int) / 2) * (a.length : Int) * (b.length : Int) ∧ (D : Int) = 3 * (a.length : Int) * (b.length : Int) * (cnt aM : Int)) := ⟨eN, eD⟩
                have hDb : D ≤ 3221225472 := by omega
                clear hN hD eN eD
                go_upto_region 32 with fail
                go_cut [22, 23] (fun v22 v23 wq => v22 = .int .u64 (N : Int) ∧ v23 = .int .u64 (D : Int) ∧ wq = wr)
                case first =>
                  go_wp2
                  go_meet
                  exact ⟨by rw [HEN.out.1], by rw [HEN.out.2], rfl⟩
                case rest =>
                  clear q1a q1b q2a q2b q3a q3b q4a q4b q5a q5b q6a q6b HEN
                  obtain ⟨rfl, rfl, hwc⟩ := hcut
                  obtain rfl : wr = wc := hwc.symm
                  go_wp2
                  go_loopw [24] (fun pv wr => ∃ p : Nat, p ≤ 4 ∧ p ≤ a.length ∧ p ≤ b.length ∧ pv = .int .i64 p ∧ Hid (∀ q, q < p → sameC (a.getD q 0) (b.getD q 0) = true) ∧ JEnv w a b g0 g1 g2 g3 g4 aM bM wr)
                    (fun pv _ => 4 - (intOf pv).toNat)
                  case atStart => exact ⟨0, by omega, by omega, by omega, rfl, fun q hq => by omega, hE⟩
                  case round =>
                    clear hE
                    obtain ⟨p, hp4, hpa, hpb, rfl, hS, hE⟩ := hrel
                    by_cases hin : p < 4 ∧ p < a.length ∧ p < b.length
                    · obtain ⟨h4, ha, hb⟩ := hin
                      have hca := hE.ra.2 p ha
                      have hcb := hE.rb.2 p hb
                      obtain ⟨x, hx⟩ : ∃ x, x = a.getD p 0 := ⟨_, rfl⟩
                      obtain ⟨y, hy⟩ : ∃ y, y = b.getD p 0 := ⟨_, rfl⟩
                      rw [← hx] at hca
                      rw [← hy] at hcb
                      have HX : Hid (x = a.getD p 0 ∧ y = b.getD p 0) := ⟨hx, hy⟩
                      have hmin : (p : Int) < (if (b.length : Int) < (if (a.length : Int) < 4 then (a.length : Int) else 4) then (b.length : Int) else (if (a.length : Int) < 4 then (a.length : Int) else 4)) := by split <;> (try split) <;> omega
                      clear hx hy
                      go_upto_region 34 with fail
                      go_cut [170] (fun v wq => v = .bool (sameC x y) ∧ JEnv w a b g0 g1 g2 g3 g4 aM bM wq)
                      case first =>
                        go_quiet ((go_at_call 25; exact Calls.quiet_of_same (same25 _ _ _)))
                        go_wp2
                        all_goals
                          go_meet
                          exact ⟨rfl, hE.drewN _⟩
                      case rest =>
                        clear hE hca hcb hmin
                        obtain ⟨rfl, hE⟩ := hcut
                        cases hs : sameC x y with
                        | true =>
                          have HS : Hid (sameC x y = true) := hs
                          go_wp2
                          go_roundw
                          case rel =>
                            refine ⟨p + 1, by omega, by omega, by omega, by go_num, fun q hq => ?_, hE⟩
                            by_cases h : q < p
                            · exact hS.out q h
                            · obtain rfl : q = p := by omega
                              rw [← HX.out.1, ← HX.out.2]; exact HS.out
                          case measure => simp [intOf]; omega
                        | false =>
                          have hPre : PreOK a b p := ⟨hp4, hpa, hpb, hS.out, fun _ _ _ => by rw [← HX.out.1, ← HX.out.2]; exact hs⟩
                          have hr0 := hE.r0.cell (i := 0) (v := .int .u64 0) rfl
                          have hr1 := hE.r0.cell (i := 1) (v := .int .u64 0) rfl
                          have hf0 := hE.r0.free 0
                          have hf1 := hE.r0.free 1
                          have hpd : 0 ≤ (p : Int) * ((D : Int) - (N : Int)) ∧ (p : Int) * ((D : Int) - (N : Int)) ≤ 12884901888 := by
                            have e : (p : Int) * ((D : Int) - (N : Int)) = ((p * (D - N) : Nat) : Int) := by rw [Int.natCast_mul]; congr 1; omega
                            have h : p * (D - N) ≤ 4 * 3221225472 := Nat.mul_le_mul hp4 (by omega)
                            rw [e]; omega
                          obtain ⟨hpd1, hpd2⟩ := hpd
                          go_wp2
                          have hB' := (hE.r0.set 0 (.int .u64 (10 * (N : Int) + (p : Int) * ((D : Int) - (N : Int))))).set 1 (.int .u64 (10 * (D : Int)))
                          have c0 := hB'.cell (i := 0) (v := .int .u64 (10 * (N : Int) + (p : Int) * ((D : Int) - (N : Int)))) rfl
                          have c1 := hB'.cell (i := 1) (v := .int .u64 (10 * (D : Int))) rfl
                          refine bodyPost_ret (v := .agg #[.int .u64 (10 * (N : Int) + (p : Int) * ((D : Int) - (N : Int))), .int .u64 (10 * (D : Int))]) (by simp [results, Try.results23, go_sem, c0, c1]) rfl ⟨⟨_, _, rfl, ?_⟩, ?_⟩
                          · rw [hM.out]
                            refine .inr ⟨by show cnt aM ≠ 0; omega, p, N, D, hPre, ?_, HND.out.2, hle, rfl, rfl⟩
                            rw [HND.out.1, hOO.out]
                          · have hn := hE.ne
                            exact (hE.be.setCell (by show w.heap.size ≤ g0; omega) _).setCell (by show w.heap.size ≤ g0; omega) _
                    · have hPre : PreOK a b p := ⟨hp4, hpa, hpb, hS.out, fun h1 h2 h3 => absurd ⟨h1, h2, h3⟩ hin⟩
                      have hmin : decide ((p : Int) < (if (b.length : Int) < (if (a.length : Int) < 4 then (a.length : Int) else 4) then (b.length : Int) else (if (a.length : Int) < 4 then (a.length : Int) else 4))) = false := decide_eq_false (by split <;> (try split) <;> omega)
                      go_upto_region 34 with fail
                      go_cut [170] (fun v wq => v = .bool false ∧ JEnv w a b g0 g1 g2 g3 g4 aM bM wq)
                      case first =>
                        go_quiet ((go_at_call 25; exact Calls.quiet_of_same (same25 _ _ _)))
                        go_wp2
                        all_goals
                          go_meet
                          exact ⟨rfl, hE.drewN _⟩
                      case rest =>
                        clear hE hmin
                        obtain ⟨rfl, hE⟩ := hcut
                        have hr0 := hE.r0.cell (i := 0) (v := .int .u64 0) rfl
                        have hr1 := hE.r0.cell (i := 1) (v := .int .u64 0) rfl
                        have hf0 := hE.r0.free 0
                        have hf1 := hE.r0.free 1
                        have hpd : 0 ≤ (p : Int) * ((D : Int) - (N : Int)) ∧ (p : Int) * ((D : Int) - (N : Int)) ≤ 12884901888 := by
                          have e : (p : Int) * ((D : Int) - (N : Int)) = ((p * (D - N) : Nat) : Int) := by rw [Int.natCast_mul]; congr 1; omega
                          have h : p * (D - N) ≤ 4 * 3221225472 := Nat.mul_le_mul hp4 (by omega)
                          rw [e]; omega
                        obtain ⟨hpd1, hpd2⟩ := hpd
                        go_wp2
                        have hB' := (hE.r0.set 0 (.int .u64 (10 * (N : Int) + (p : Int) * ((D : Int) - (N : Int))))).set 1 (.int .u64 (10 * (D : Int)))
                        have c0 := hB'.cell (i := 0) (v := .int .u64 (10 * (N : Int) + (p : Int) * ((D : Int) - (N : Int)))) rfl
                        have c1 := hB'.cell (i := 1) (v := .int .u64 (10 * (D : Int))) rfl
                        refine bodyPost_ret (v := .agg #[.int .u64 (10 * (N : Int) + (p : Int) * ((D : Int) - (N : Int))), .int .u64 (10 * (D : Int))]) (by simp [results, Try.results23, go_sem, c0, c1]) rfl ⟨⟨_, _, rfl, ?_⟩, ?_⟩
                        · rw [hM.out]
                          refine .inr ⟨by show cnt aM ≠ 0; omega, p, N, D, hPre, ?_, HND.out.2, hle, rfl, rfl⟩
                          rw [HND.out.1, hOO.out]
                        · have hn := hE.ne
                          exact (hE.be.setCell (by show w.heap.size ≤ g0; omega) _).setCell (by show w.heap.size ≤ g0; omega) _
end Go.Proofs.Qxb6600227a
