import Derived.Test.Qxb6600221aPlain
namespace Go.Proofs.Qxb6600221a
open Go.RowKit

set_option maxHeartbeats 400000 in
theorem shas_at (b off cap : Nat) (L : List ByteArray) (n : Nat) (hn : L.length = n) (hbig : n ≤ 65536) (x : ByteArray) (w : World) (hs : SortedTo L L.length)
    (hc : ∀ j, j < n → w.cell? ⟨b, off + j, none⟩ = some (.string (L.getD j ByteArray.empty))) :
    Calls Try.prog 9 #[.slice (some ⟨b, off, none⟩) n cap, .string x] w fun e w' => e = .returned (.bool (hasB L x)) ∧ w' = w := by
  have HN : Hid (L.length = n) := hn
  clear hn
  have HS : Hid (SortedTo L L.length) := hs
  clear hs
  go_enter Try.func9, Try.ntmps9
  go_wp2
  go_loop [5, 6] (fun lo hi => ∃ l h : Nat, l ≤ h ∧ h ≤ n ∧ lo = .int .i64 l ∧ hi = .int .i64 h ∧ Hid (Mid L x l h)) (fun lo hi => (intOf hi).toNat - (intOf lo).toNat)
  case atStart => exact ⟨0, n, Nat.zero_le _, Nat.le_refl _, rfl, rfl, ⟨fun p hp => by omega, fun p hp hp' => by have := HN.out; omega⟩⟩
  case round =>
    obtain ⟨l, h, hlh, hh, rfl, rfl, hM⟩ := hrel
    by_cases hlt : l < h
    · have hcell := hc (l + (h - l) / 2) (by omega)
      obtain ⟨s, hs⟩ : ∃ s, s = L.getD (l + (h - l) / 2) ByteArray.empty := ⟨_, rfl⟩
      rw [← hs] at hcell
      have HSS : Hid (s = L.getD (l + (h - l) / 2) ByteArray.empty) := hs
      clear hs hc
      go_wp2
      · have e : Op.bytesLess s.toList x.toList = true := by assumption
        have hM' := hM.out.up HS.out (m := l + (h - l) / 2) (by have := HN.out; omega) (by rw [← HSS.out]; exact e)
        go_round
        case rel => exact ⟨l + (h - l) / 2 + 1, h, by omega, hh, by go_num, rfl, hM'⟩
        case measure => simp only [intOf]; omega
      · have e : Op.bytesLess s.toList x.toList = false := by assumption
        have hM' := hM.out.down HS.out (m := l + (h - l) / 2) (by rw [← HSS.out]; exact e)
        go_round
        case rel => exact ⟨l, l + (h - l) / 2, by omega, by omega, rfl, by go_num, hM'⟩
        case measure => simp only [intOf]; omega
    · obtain rfl : l = h := by omega
      have hf := hM.out.found HS.out
      rw [HN.out] at hf
      by_cases hln : l < n
      · have hcell := hc l hln
        obtain ⟨s, hs⟩ : ∃ s, s = L.getD l ByteArray.empty := ⟨_, rfl⟩
        rw [← hs] at hcell hf
        have HF : Hid (hasB L x = (decide (l < n) && s.toList == x.toList)) := hf
        clear hs hc hf
        have hln' : (l : Int) < (n : Int) := by omega
        go_wp2
        all_goals
          go_ret
          refine ⟨?_, rfl⟩
          rw [HF.out]
          simp [hln]
      · have HF : Hid (hasB L x = (decide (l < n) && (L.getD l ByteArray.empty).toList == x.toList)) := hf
        clear hc hf
        have hd : decide ((l : Int) < (n : Int)) = false := decide_eq_false (by omega)
        go_wp2
        go_ret
        refine ⟨?_, rfl⟩
        rw [HF.out]
        simp [hln]

theorem shas_empty (ao : Option Addr) (cap : Nat) (x : ByteArray) (w : World) :
    Calls Try.prog 9 #[.slice ao 0 cap, .string x] w fun e w' => e = .returned (.bool false) ∧ w' = w := by
  go_enter Try.func9, Try.ntmps9
  go_wp2
  refine wp_loop_rounds 1 ?_
  rw [rounds_succ]
  go_wp2
  go_ret
  exact ⟨rfl, rfl⟩

/-- 'sortedHas' at a sorted slice. -/
theorem shas_any (v : Value) (L : List ByteArray) (hbig : L.length ≤ 65536) (x : ByteArray) (w : World) (h : IsStrs w v L) (hs : SortedTo L L.length) :
    Calls Try.prog 9 #[v, .string x] w fun e w' => e = .returned (.bool (hasB L x)) ∧ w' = w := by
  rcases h with ⟨rfl, ao, cap, rfl⟩ | ⟨b, off, cap, rfl, hc⟩
  · exact shas_empty ao cap x w
  · exact shas_at b off cap L _ rfl hbig x w hs hc

theorem Try.info9 : (Try.prog.info? 9).map (fun i => (i.zero, i.size, i.bytes)) = some (some (.string ByteArray.empty), 1, 16) := by kernel_rfl

theorem strs_get (L : List ByteArray) (k : Nat) (h : k < L.length) : (L.map Value.string)[k]? = some (.string (L.getD k ByteArray.empty)) := by
  simp [h, List.getD]

theorem strs_set (L : List ByteArray) (k : Nat) (s : ByteArray) : (L.map Value.string).set k (.string s) = (L.set k s).map Value.string := by
  rw [List.map_set]

theorem ext_getD {L M : List ByteArray} (hl : L.length = M.length) (h : ∀ j, j < M.length → L.getD j ByteArray.empty = M.getD j ByteArray.empty) : L = M := by
  apply List.ext_getElem hl
  intro j h1 h2
  have := h j h2
  simpa [List.getD, h1, h2] using this

set_option maxHeartbeats 1000000 in
theorem scopy_at (b off cap : Nat) (ss : List ByteArray) (n : Nat) (hn : ss.length = n) (hbig : n ≤ 65536) (w : World) (hb : 0 < n → b < w.heap.size)
    (hc : ∀ j, j < n → w.cell? ⟨b, off + j, none⟩ = some (.string (ss.getD j ByteArray.empty))) :
    Calls Try.prog 10 #[.slice (some ⟨b, off, none⟩) n cap] w fun e w' => e = .returned (.slice (some ⟨w.heap.size, 0, none⟩) n n) ∧
      Below w.heap.size w w' ∧ ∃ L : List ByteArray, L.length = n ∧ Blk w' w.heap.size 9 (L.map Value.string) ∧ SortedTo L L.length ∧ ∀ x, hasB L x = hasB ss x := by
  have HN : Hid (ss.length = n) := hn
  clear hn
  obtain ⟨i0, hi, hz0, hz1, hz2⟩ := info_parts Try.info9
  go_enter Try.func10, Try.ntmps10
  go_wp2_with (at_make; refine wpList_make_blk rfl (.tmp 9) (.tmp 9) 22 rfl 9 i0 _ Try.underlying22 hi hz0 hz1 rfl 16 hz2 .i64 .i64 _ _ n n rfl rfl rfl rfl (Nat.le_refl _) (by omega) (by omega) ?_; intro w1 hB1 hsz1 hb1)
  have HB1 : Hid (Blk w1 w.heap.size 9 ((List.replicate n ByteArray.empty).map Value.string)) := by unfold Hid; simpa using hB1
  clear hB1 hsz1
  go_loopw [4] (fun i wr => ∃ k : Nat, k ≤ n ∧ i = .int .i64 k ∧ ∃ L : List ByteArray, L.length = n ∧ Hid (∀ j, j < k → L.getD j ByteArray.empty = ss.getD j ByteArray.empty) ∧ Blk wr w.heap.size 9 (L.map Value.string) ∧ Below w.heap.size w wr)
    (fun i _ => n - (intOf i).toNat)
  case atStart => exact ⟨0, Nat.zero_le _, rfl, List.replicate n ByteArray.empty, by simp, fun j hj => by omega, HB1.out, hb1⟩
  case round =>
    obtain ⟨k, hk, rfl, L, hL, hE, hB, hBe⟩ := hrel
    by_cases hlt : k < n
    · have hcell : wr.cell? ⟨b, off + k, none⟩ = some (.string (ss.getD k ByteArray.empty)) := (hBe.cell (by exact hb (by omega))).trans (hc k hlt)
      obtain ⟨s, hs⟩ : ∃ s, s = ss.getD k ByteArray.empty := ⟨_, rfl⟩
      rw [← hs] at hcell
      have HS : Hid (s = ss.getD k ByteArray.empty) := hs
      have hg := hB.cell (strs_get L k (by omega))
      have hf := hB.free k
      obtain ⟨s0, hs0⟩ : ∃ s0, s0 = L.getD k ByteArray.empty := ⟨_, rfl⟩
      rw [← hs0] at hg
      have HLn : Hid (L.length = n) := hL
      clear hs hc hs0 hL
      go_wp2
      have hB' := hB.set k (.string s)
      rw [strs_set] at hB'
      go_roundw
      case rel =>
        refine ⟨k + 1, by omega, by go_num, L.set k s, by simpa using HLn.out, ?_, hB', hBe.setCell (by exact Nat.le_refl _) _⟩
        intro j hj
        rw [getD_set _ _ _ _ (by have := HLn.out; omega)]
        by_cases h1 : k = j
        · rw [if_pos h1, ← h1]; exact HS.out
        · rw [if_neg h1]; exact hE.out j (by omega)
      case measure => simp [intOf]; omega
    · obtain rfl : k = n := by omega
      have eL : L = ss := ext_getD (by rw [hL, HN.out]) (by rw [HN.out]; exact hE.out)
      subst eL
      clear hE hL hc HB1 hb1
      go_wp2
      go_loopw [5] (fun i wr => ∃ m : Nat, 1 ≤ m ∧ (m ≤ k ∨ m = 1) ∧ i = .int .i64 m ∧ ∃ M : List ByteArray, M.length = k ∧ Hid (SortedTo M m ∧ ∀ x, hasB M x = hasB L x) ∧ Blk wr w.heap.size 9 (M.map Value.string) ∧ Below w.heap.size w wr)
        (fun i _ => k + 1 - (intOf i).toNat)
      case atStart => exact ⟨1, by omega, .inr rfl, rfl, L, HN.out, ⟨fun p q _ _ => by omega, fun _ => rfl⟩, hB, hBe⟩
      case round =>
        obtain ⟨m, hm1, hm2, rfl, M, hM, hE, hB, hBe⟩ := hrel
        by_cases hlt : m < k
        · have hg := hB.cell (strs_get M m (by omega))
          obtain ⟨v, hv⟩ : ∃ v, v = M.getD m ByteArray.empty := ⟨_, rfl⟩
          rw [← hv] at hg
          have HV : Hid (v = M.getD m ByteArray.empty) := hv
          have HMn : Hid (M.length = k) := hM
          have hH : Hid (Hole L M m m v) := by rw [hv]; exact Hole.start (by rw [hM, HN.out]) hE.out.2 hE.out.1 (by omega)
          clear hv hM
          go_wp2
          clear hg hE HV
          go_loopw [7] (fun jv wr => ∃ j : Nat, j ≤ m ∧ jv = .int .i64 j ∧ ∃ M : List ByteArray, M.length = k ∧ Hid (Hole L M m j v) ∧ Blk wr w.heap.size 9 (M.map Value.string) ∧ Below w.heap.size w wr)
            (fun jv _ => (intOf jv).toNat)
          case atStart => exact ⟨m, Nat.le_refl _, rfl, M, HMn.out, hH, hB, hBe⟩
          case round =>
            clear hH hB hBe HMn
            obtain ⟨j, hjm, rfl, M, hM, hH, hB, hBe⟩ := hrel
            have hgj := hB.cell (strs_get M j (by omega))
            have hfj := hB.free j
            obtain ⟨sj, hsj⟩ : ∃ sj, sj = M.getD j ByteArray.empty := ⟨_, rfl⟩
            rw [← hsj] at hgj
            have HMn : Hid (M.length = k) := hM
            clear hsj hM
            by_cases hj0 : 0 < j
            · have hgp := hB.cell (strs_get M (j - 1) (by have := HMn.out; omega))
              obtain ⟨sp, hsp⟩ : ∃ sp, sp = M.getD (j - 1) ByteArray.empty := ⟨_, rfl⟩
              rw [← hsp] at hgp
              have HSP : Hid (sp = M.getD (j - 1) ByteArray.empty) := hsp
              clear hsp
              cases hcmp : (!(Op.bytesLess sp.toList v.toList || sp.toList == v.toList)) with
              | true =>
                have HC : Hid ((!(Op.bytesLess sp.toList v.toList || sp.toList == v.toList)) = true) := hcmp
                go_wp2
                have hB' := hB.set j (.string sp)
                rw [strs_set] at hB'
                have hH' := hH.out.step hj0 hjm (by have := HMn.out; omega) (by rw [← HSP.out]; exact HC.out)
                rw [← HSP.out] at hH'
                go_roundw
                case rel => exact ⟨j - 1, by omega, by go_num, M.set j sp, by simpa using HMn.out, hH', hB', hBe.setCell (by exact Nat.le_refl _) _⟩
                case measure => simp [intOf]; omega
              | false =>
                have HC : Hid ((!(Op.bytesLess sp.toList v.toList || sp.toList == v.toList)) = false) := hcmp
                go_wp2
                have hB' := hB.set j (.string v)
                rw [strs_set] at hB'
                have hD := hH.out.done hjm (by have := HMn.out; omega) (.inr (by rw [← HSP.out]; exact HC.out))
                go_roundw
                case rel => exact ⟨m + 1, by omega, by omega, by go_num, M.set j v, by simpa using HMn.out, ⟨hD, hH.out.has⟩, hB', hBe.setCell (by exact Nat.le_refl _) _⟩
                case measure => simp [intOf]; omega
            · obtain rfl : j = 0 := by omega
              go_wp2
              have hB' := hB.set 0 (.string v)
              rw [strs_set] at hB'
              have hD := hH.out.done hjm (by have := HMn.out; omega) (.inl rfl)
              go_roundw
              case rel => exact ⟨m + 1, by omega, by omega, by go_num, M.set 0 v, by simpa using HMn.out, ⟨hD, hH.out.has⟩, hB', hBe.setCell (by exact Nat.le_refl _) _⟩
              case measure => simp [intOf]; omega
        · go_wp2
          go_ret
          have hS : SortedTo M M.length := by
            intro p q h1 h2
            rcases hm2 with h | h
            · exact hE.out.1 p q h1 (by omega)
            · omega
          exact ⟨rfl, hBe, M, hM, hB, hS, hE.out.2⟩

theorem scopy_empty (ao : Option Addr) (cap : Nat) (w : World) :
    Calls Try.prog 10 #[.slice ao 0 cap] w fun e w' => e = .returned (.slice (some ⟨w.heap.size, 0, none⟩) 0 0) ∧ Below w.heap.size w w' := by
  obtain ⟨i0, hi, hz0, hz1, hz2⟩ := info_parts Try.info9
  go_enter Try.func10, Try.ntmps10
  go_wp2_with (at_make; refine wpList_make_blk rfl (.tmp 9) (.tmp 9) 22 rfl 9 i0 _ Try.underlying22 hi hz0 hz1 rfl 16 hz2 .i64 .i64 _ _ 0 0 rfl rfl rfl rfl (Nat.le_refl _) (by omega) (by omega) ?_; intro w1 hB1 hsz1 hb1)
  refine wp_loop_rounds 1 ?_
  rw [rounds_succ]
  go_wp2
  refine wp_loop_rounds 1 ?_
  rw [rounds_succ]
  go_wp2
  go_ret
  exact ⟨rfl, hb1⟩

/-- 'sortedCopy'. -/
theorem scopy_any (v : Value) (ss : List ByteArray) (hbig : ss.length ≤ 65536) (w : World) (h : IsStrs w v ss) :
    Calls Try.prog 10 #[v] w fun e w' => ∃ (u : Value) (L : List ByteArray), e = .returned u ∧ Below w.heap.size w w' ∧ L.length = ss.length ∧ IsStrs w' u L ∧ SortedTo L L.length ∧ ∀ x, hasB L x = hasB ss x := by
  rcases h with ⟨rfl, ao, cap, rfl⟩ | ⟨b, off, cap, rfl, hc⟩
  · refine (scopy_empty ao cap w).mono fun e w' ⟨he, hb⟩ => ?_
    exact ⟨_, [], he, hb, rfl, .inl ⟨rfl, _, _, rfl⟩, fun p q _ h => by simp at h, fun _ => rfl⟩
  · refine (scopy_at b off cap ss _ rfl hbig w (fun h0 => World.block_lt_of_cell? _ _ (hc 0 h0)) hc).mono fun e w' ⟨he, hb, L, hl, hB, hs, hx⟩ => ?_
    refine ⟨_, L, he, hb, hl, .inr ⟨_, 0, _, by rw [hl], fun j hj => ?_⟩, hs, hx⟩
    rw [Nat.zero_add]
    exact hB.cell (strs_get L j hj)
end Go.Proofs.Qxb6600221a
