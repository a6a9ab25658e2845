import Derived.Test.Qxb6600227aModelKit
namespace Go.Proofs.Qxb6600227a
open Go.RowKit

theorem Try.info21 : (Try.prog.info? 21).map (fun i => (i.zero, i.size, i.bytes)) = some (some (.int .i32 0), 1, 4) := by kernel_rfl

/-- What the reductions at the law's end do. -/
theorem model_calls (m n k o p N D : Nat) (num den : Int) (hm0 : 0 < m) (hmn : m ≤ n) (hmk : m ≤ k) (hn : n ≤ 1024) (hk : k ≤ 1024) (ho : o ≤ m) (hp : p ≤ 4)
    (hN : N = m * m * (n + k) + (m - o / 2) * n * k) (hD : D = 3 * n * k * m) (hle : N ≤ D) (hnum : num = 10 * (N : Int) + (p : Int) * ((D : Int) - (N : Int))) (hden : den = 10 * (D : Int)) :
    ∃ j1n j1d j2n j2d j3n j3d en ed : Nat, j2d ≤ 1073741824 ∧ j3d ≤ 3221225472 ∧ (0 ≤ (10 - (p : Int)) * (j3n : Int) ∧ (10 - (p : Int)) * (j3n : Int) ≤ 32212254720) ∧ (0 ≤ (p : Int) * (j3d : Int) ∧ (p : Int) * (j3d : Int) ≤ 12884901888) ∧
      (∀ w, Calls Try.prog 17 #[.int .u64 m, .int .u64 n, .int .u64 m, .int .u64 k] w fun e w' => e = .returned (.tuple #[.int .u64 j1n, .int .u64 j1d]) ∧ Below w.heap.size w w') ∧
      (∀ w, Calls Try.prog 17 #[.int .u64 j1n, .int .u64 j1d, .int .u64 ((m : Int) - (o : Int) / 2), .int .u64 m] w fun e w' => e = .returned (.tuple #[.int .u64 j2n, .int .u64 j2d]) ∧ Below w.heap.size w w') ∧
      (∀ w, Calls Try.prog 18 #[.int .u64 j2n, .int .u64 (3 * (j2d : Int))] w fun e w' => e = .returned (.tuple #[.int .u64 j3n, .int .u64 j3d]) ∧ Below w.heap.size w w') ∧
      (∀ w, Calls Try.prog 18 #[.int .u64 ((10 - (p : Int)) * (j3n : Int) + (p : Int) * (j3d : Int)), .int .u64 (10 * (j3d : Int))] w fun e w' => e = .returned (.tuple #[.int .u64 en, .int .u64 ed]) ∧ Below w.heap.size w w') ∧
      (∀ w, Calls Try.prog 18 #[.int .u64 num, .int .u64 den] w fun e w' => e = .returned (.tuple #[.int .u64 en, .int .u64 ed]) ∧ Below w.heap.size w w') := by
  have hm : m ≤ 1024 := by omega
  obtain ⟨j1n, h1n⟩ : ∃ x, x = redN (m * k + m * n) (n * k) := ⟨_, rfl⟩
  obtain ⟨j1d, h1d⟩ : ∃ x, x = redD (m * k + m * n) (n * k) := ⟨_, rfl⟩
  obtain ⟨j2n, h2n⟩ : ∃ x, x = redN (j1n * m + (m - o / 2) * j1d) (j1d * m) := ⟨_, rfl⟩
  obtain ⟨j2d, h2d⟩ : ∃ x, x = redD (j1n * m + (m - o / 2) * j1d) (j1d * m) := ⟨_, rfl⟩
  obtain ⟨j3n, h3n⟩ : ∃ x, x = redN j2n (3 * j2d) := ⟨_, rfl⟩
  obtain ⟨j3d, h3d⟩ : ∃ x, x = redD j2n (3 * j2d) := ⟨_, rfl⟩
  have hmf := model_frac m n k (o / 2) p j1n j1d j2n j2d j3n j3d N D hm0 (by omega) (by omega) (by omega) hN hD hle h1n h1d h2n h2d h3n h3d
  have a1 : m * k ≤ 1024 * 1024 := Nat.mul_le_mul hm hk
  have a2 : m * n ≤ 1024 * 1024 := Nat.mul_le_mul hm hn
  have a3 : n * k ≤ 1024 * 1024 := Nat.mul_le_mul hn hk
  have b1 : j1n ≤ 2097152 := by rw [h1n]; exact Nat.le_trans (redN_le _ _) (by omega)
  have b2 : j1d ≤ 1048576 := by rw [h1d]; exact Nat.le_trans (redD_le _ _) (by omega)
  have c1 : j1n * m ≤ 2097152 * 1024 := Nat.mul_le_mul b1 hm
  have c2 : (m - o / 2) * j1d ≤ 1024 * 1048576 := Nat.mul_le_mul (by omega) b2
  have c3 : j1d * m ≤ 1048576 * 1024 := Nat.mul_le_mul b2 hm
  have d1 : j2n ≤ 3221225472 := by rw [h2n]; exact Nat.le_trans (redN_le _ _) (by omega)
  have d2 : j2d ≤ 1073741824 := by rw [h2d]; exact Nat.le_trans (redD_le _ _) (by omega)
  have e1 : j3n ≤ 3221225472 := by rw [h3n]; exact Nat.le_trans (redN_le _ _) d1
  have e2 : j3d ≤ 3221225472 := by rw [h3d]; exact Nat.le_trans (redD_le _ _) (by omega)
  have f1 : (10 - p) * j3n ≤ 10 * 3221225472 := Nat.mul_le_mul (by omega) e1
  have f2 : p * j3d ≤ 4 * 3221225472 := Nat.mul_le_mul hp e2
  have q1 : (10 - (p : Int)) * (j3n : Int) = (((10 - p) * j3n : Nat) : Int) := by
    rw [Int.natCast_mul]; congr 1; omega
  have q2 : (p : Int) * (j3d : Int) = ((p * j3d : Nat) : Int) := by rw [Int.natCast_mul]
  have q3 : num = ((10 * N + p * (D - N) : Nat) : Int) := by
    rw [hnum]
    have : (p : Int) * ((D : Int) - (N : Int)) = ((p * (D - N) : Nat) : Int) := by rw [Int.natCast_mul]; congr 1; omega
    rw [this]; omega
  have q4 : den = ((10 * D : Nat) : Int) := by rw [hden]; omega
  have g1 : 3 * n * k * m ≤ 3 * 1024 * 1024 * 1024 := Nat.mul_le_mul (Nat.mul_le_mul (by omega) hk) hm
  have g2 : p * (D - N) ≤ 4 * (D - N) := Nat.mul_le_mul_right _ hp
  refine ⟨j1n, j1d, j2n, j2d, j3n, j3d, redN ((10 - p) * j3n + p * j3d) (10 * j3d), redD ((10 - p) * j3n + p * j3d) (10 * j3d), d2, e2, by rw [q1]; omega, by rw [q2]; omega, ?_, ?_, ?_, ?_, ?_⟩
  · intro w
    rw [h1n, h1d]
    exact addI _ _ _ _ m n m k rfl rfl rfl rfl (by omega) (by omega) w
  · intro w
    rw [h2n, h2d]
    exact addI _ _ _ _ j1n j1d (m - o / 2) m rfl rfl (by omega) rfl (by omega) (by omega) w
  · intro w
    rw [h3n, h3d]
    exact reduceI _ _ j2n (3 * j2d) rfl (by omega) (by omega) (by omega) w
  · intro w
    exact reduceI _ _ ((10 - p) * j3n + p * j3d) (10 * j3d) (by rw [q1, q2]; omega) (by omega) (by omega) (by omega) w
  · intro w
    rw [hmf.1, hmf.2]
    exact reduceI _ _ (10 * N + p * (D - N)) (10 * D) q3 q4 (by omega) (by omega) w

set_option maxHeartbeats 8000000 in
set_option maxRecDepth 100000 in
theorem model_small (s1 s2 : ByteArray) (w1 : s1.size ≤ 1024) (w2 : s2.size ≤ 1024) (w : World) :
    Calls Try.prog 5 #[.string s1, .string s2] w fun e w' => e = .returned (.bool true) ∧ Below w.heap.size w w' := by
  have hl1 := length_runes s1
  have hl2 := length_runes s2
  have hed := fun w => zzjaro_any s1 s2 w1 w2 w
  generalize ha : runes s1 = a at *
  generalize hb : runes s2 = b at *
  have HA : Hid (runes s1 = a) := ha
  have HB : Hid (runes s2 = b) := hb
  have HED : Hid (∀ w, Calls Try.prog 16 #[.string s1, .string s2] w fun e w' => (∃ num den : Int, e = .returned (.tuple #[.int .u64 num, .int .u64 den]) ∧ JOK a b num den) ∧ Below w.heap.size w w') := hed
  clear ha hb hed
  have hWb : (win a.length b.length : Int) = max 0 ((max (a.length : Int) (b.length : Int)) / 2 - 1) := by unfold win; omega
  obtain ⟨W, hW⟩ : ∃ W, W = win a.length b.length := ⟨_, rfl⟩
  rw [← hW] at hWb
  have HWW : Hid (W = win a.length b.length) := hW
  have HW : Hid ((W : Int) = max 0 ((max (a.length : Int) (b.length : Int)) / 2 - 1)) := hWb
  have hWs : W ≤ 1024 := by omega
  clear hWb hW
  obtain ⟨i0, hi, hz0, hz1, hz2⟩ := info_parts Try.info4
  obtain ⟨j0, hj, hy0, hy1, hy2⟩ := info_parts Try.info21
  go_enter Try.func5, Try.ntmps5
  go_wp2_with (first
    | (go_at_call 14; refine (zzb14 s1 s2 (by omega) (by omega) w).mono ?_; rintro e w' ⟨⟨t, rfl⟩, hw⟩; obtain rfl : w = w' := hw.symm)
    | (refine wpList_runes rfl (.tmp 43) 9 23 rfl 21 Try.underlying9 Try.underlying23 Try.underlying21 s1 (by rfl) (by omega) ?_; rw [HA.out]; intro wa ca hRa hsa hba)
    | (refine wpList_runes rfl (.tmp 45) 9 23 rfl 21 Try.underlying9 Try.underlying23 Try.underlying21 s2 (by rfl) (by omega) ?_; rw [HB.out]; intro wb cb hRb hsb hbb)
    | (go_at_call 13; refine (hasany13 _ _ _ a rfl (by omega) _ (hRa.below hbb (by omega))).mono ?_; rintro e w' ⟨⟨t1, rfl, hcl⟩, hw⟩; obtain rfl : wb = w' := hw.symm)
    | fail)
  all_goals try (go_ret; exact ⟨rfl, Below.refl _ _⟩)
  · go_ret
    exact ⟨rfl, hba.trans (hbb.mono (by omega))⟩
  have hcl' : Hid (Clean a) := hcl (by assumption)
  have hRa' : Runes wb w.heap.size a := hRa.below hbb (by omega)
  have hRb' : Runes wb (w.heap.size + 1) b := by rw [hsa] at hRb; exact hRb
  have hbe : Below w.heap.size w wb := hba.trans (hbb.mono (by omega))
  have hz : w.heap.size + 2 = wb.heap.size := by omega
  have HZ : Hid (w.heap.size + 2 = wb.heap.size) := hz
  clear hcl hRa hRb hsa hsb hba hbb hz
  refine (distinct15 _ _ _ a rfl (by omega) _ hRa').mono ?_
  rintro e wd ⟨⟨t2, rfl, hda⟩, hbd⟩
  cases t2 with
  | false =>
    go_wp2
    go_ret
    exact ⟨rfl, hbe.trans (hbd.mono (by have := HZ.out; omega))⟩
  | true =>
    have hda' : Hid (Distinct a) := hda rfl
    clear hda
    go_wp2_with fail
    refine (distinct15 _ _ _ b rfl (by omega) _ (hRb'.below hbd (by have := HZ.out; omega))).mono ?_
    rintro e we ⟨⟨t3, rfl, hdb⟩, hbde⟩
    have hsd := hbd.size
    cases t3 with
    | false =>
      go_wp2
      go_ret
      exact ⟨rfl, (hbe.trans (hbd.mono (by have := HZ.out; omega))).trans (hbde.mono (by have := HZ.out; omega))⟩
    | true =>
      have hdb' : Hid (Distinct b) := hdb rfl
      clear hdb
      go_upto_if 72 with (go_at_call 16; refine (HED.out _).mono ?_; rintro e wf ⟨⟨num, den, rfl, hJ⟩, hbf⟩; have HJ : Hid (JOK a b num den) := hJ; obtain ⟨r1, r2, r3⟩ := hJ.range; clear hJ; have hd0 : (den == 0) = false := by simp; omega)
      go_cut [11] from 69 to 73 (fun v wq => v = .int .i64 (max (a.length : Int) (b.length : Int)) ∧ wq = wf)
      case first =>
        go_wp2
        all_goals
          go_meet
          exact ⟨by congr 1; omega, rfl⟩
      case rest =>
        obtain ⟨rfl, hwc⟩ := hcut
        obtain rfl : wf = wc := hwc.symm
        obtain ⟨mx, hmx⟩ : ∃ mx : Int, mx = max (a.length : Int) (b.length : Int) := ⟨_, rfl⟩
        rw [← hmx]
        have hmx0 : 0 ≤ mx := by omega
        have hmx1 : mx ≤ 1024 := by omega
        have HWm : Hid ((W : Int) = max 0 (mx / 2 - 1)) := by rw [hmx]; exact HW.out
        clear hmx HW
        go_upto_if 78 with fail
        go_cut [11] from 74 to 78 (fun v wq => v = .int .i64 (W : Int) ∧ wq = wf)
        case first =>
          have hw := HWm.out
          go_wp2
          all_goals
            go_meet
            exact ⟨by congr 1; omega, rfl⟩
        case rest =>
          obtain ⟨rfl, hwc⟩ := hcut
          obtain rfl : wf = wc := hwc.symm
          go_upto_region 25 with (at_make; refine wpList_make_blk rfl (.tmp 79) (.tmp 79) 30 rfl 4 i0 _ Try.underlying30 hi hz0 hz1 rfl 1 hz2 .i64 .i64 _ _ a.length a.length (by rfl) (by rfl) rfl rfl (Nat.le_refl _) (by omega) (by omega) ?_; intro wm hBm hszm hbm)
          go_cut [5, 6, 12, 13] from 79 to 82 (fun v5 v6 v12 v13 wq => ∃ g1 g2 g3 g4 : Nat, v5 = .slice (some ⟨g1, 0, none⟩) a.length ca ∧ v6 = .slice (some ⟨g2, 0, none⟩) b.length cb ∧
            v12 = .slice (some ⟨g3, 0, none⟩) a.length a.length ∧ v13 = .slice (some ⟨g4, 0, none⟩) b.length b.length ∧ DEnv w a b g1 g2 g3 g4 (List.replicate a.length false) (List.replicate b.length false) wq)
          case first =>
            go_wp2_with (at_make; refine wpList_make_blk rfl (.tmp 81) (.tmp 81) 30 rfl 4 i0 _ Try.underlying30 hi hz0 hz1 rfl 1 hz2 .i64 .i64 _ _ b.length b.length (by rfl) (by rfl) rfl rfl (Nat.le_refl _) (by omega) (by omega) ?_; intro wn hBn hszn hbn)
            go_meet
            have hz := HZ.out
            have hse := hbde.size
            have hsf := hbf.size
            have b1 : Below w.heap.size w wn := by
              refine ((((hbe.trans (hbd.mono ?_)).trans (hbde.mono ?_)).trans (hbf.mono ?_)).trans (hbm.mono ?_)).trans (hbn.mono ?_) <;> omega
            have e1 := ((((hRa'.below hbd (by omega)).below hbde (by omega)).below hbf (by omega)).below hbm (by omega)).below hbn (by omega)
            have e2 := ((((hRb'.below hbd (by omega)).below hbde (by omega)).below hbf (by omega)).below hbm (by omega)).below hbn (by omega)
            have e3 := hBm.below hbn (by omega)
            have e4 := hBn
            rw [hszm] at e4
            exact ⟨_, _, _, _, rfl, rfl, rfl, rfl, ⟨e1, e2, by rw [List.map_replicate]; exact e3, by rw [List.map_replicate]; exact e4, b1, by omega⟩⟩
          case rest =>
            clear hRa' hRb' hbe HZ hbd hbde hsd hbf hBm hszm hbm hmx0 hmx1 HWm HA HB HED hi hz0 hz1 hz2
            obtain ⟨g1, g2, g3, g4, rfl, rfl, rfl, rfl, hE⟩ := hcut
            go_wp2
            go_loopw [14, 15] (fun mv iv wr => ∃ (i : Nat) (A B : List Bool), i ≤ a.length ∧ iv = .int .i64 i ∧ mv = .int .i64 (cnt A) ∧ Hid (mstate a b W i = (A, B)) ∧ DEnv w a b g1 g2 g3 g4 A B wr)
              (fun _ iv _ => a.length - (intOf iv).toNat)
            case atStart => exact ⟨0, _, _, Nat.zero_le _, rfl, by rw [cnt_replicate]; rfl, rfl, hE⟩
            case round =>
              clear hE
              obtain ⟨i, A, B, hi, rfl, rfl, hM, hE⟩ := hrel
              have hF := mstate_facts a b W i hi
              rw [hM.out] at hF
              simp only at hF
              have HF : Hid (A.length = a.length ∧ B.length = b.length ∧ cnt A = cnt B ∧ ∀ j, i ≤ j → A.getD j false = false) := hF
              have hcl := cnt_le A
              have hcb : cnt A ≤ 1024 := by omega
              clear hcl hF
              by_cases hlt : i < a.length
              · go_wp2
                go_loopw [14, 16] (fun mv jv wr => ∃ (j M : Nat) (A' B' : List Bool), j ≤ b.length ∧ M ≤ 1025 ∧ jv = .int .i64 j ∧ mv = .int .i64 M ∧ Hid (Inn a b W i A B j A' B' M) ∧ DEnv w a b g1 g2 g3 g4 A' B' wr)
                  (fun _ jv _ => b.length - (intOf jv).toNat)
                case atStart => exact ⟨0, cnt A, A, B, Nat.zero_le _, by omega, rfl, rfl, Inn.start a b W i A B, hE⟩
                case round =>
                  clear hE
                  obtain ⟨j, M, A', B', hj, hMb, rfl, rfl, hI, hE⟩ := hrel
                  have hlens := hI.out.lens
                  have HLn : Hid (A'.length = a.length ∧ B'.length = b.length) := ⟨hlens.1.trans HF.out.1, hlens.2.1.trans HF.out.2.1⟩
                  have hMc := hlens.2.2
                  clear hlens
                  by_cases hltj : j < b.length
                  · have hca := hE.ra.2 i hlt
                    have hcb' := hE.rb.2 j hltj
                    have hfa := hE.bA.cell (bools_get A' i (by have := HLn.out.1; omega))
                    have hfb := hE.bB.cell (bools_get B' j (by have := HLn.out.2; omega))
                    have hza := hE.bA.free i
                    have hzb := hE.bB.free j
                    have hne34 : g3 ≠ g4 := by have := hE.ne; omega
                    obtain ⟨x, hx⟩ : ∃ x, x = a.getD i 0 := ⟨_, rfl⟩
                    obtain ⟨y, hy⟩ : ∃ y, y = b.getD j 0 := ⟨_, rfl⟩
                    obtain ⟨fa, hfa'⟩ : ∃ fa, fa = A'.getD i false := ⟨_, rfl⟩
                    obtain ⟨fb, hfb'⟩ : ∃ fb, fb = B'.getD j false := ⟨_, rfl⟩
                    rw [← hx] at hca
                    rw [← hy] at hcb'
                    rw [← hfa'] at hfa
                    rw [← hfb'] at hfb
                    have HX : Hid (x = a.getD i 0 ∧ y = b.getD j 0) := ⟨hx, hy⟩
                    clear hx hy hfa' hfb'
                    have hi' : (i : Int) < (a.length : Int) := by omega
                    have hj' : (j : Int) < (b.length : Int) := by omega
                    cases hxy : (x == y) with
                    | false =>
                      have HP : Hid (pairB a b W i j = false) := by
                        unfold Hid pairB; rw [← HX.out.1, ← HX.out.2, hxy]; simp
                      go_wp2
                      go_quiet (fail)
                      go_wp2
                      go_roundw
                      case rel => exact ⟨j + 1, M, A', B', by omega, hMb, by go_num, rfl, hI.out.miss HP.out, hE.drewN _⟩
                      case measure => simp [intOf]; omega
                    | true =>
                      by_cases hin : i ≤ j + W ∧ j ≤ i + W
                      · have HP : Hid (pairB a b W i j = true) := by
                          unfold Hid pairB; rw [← HX.out.1, ← HX.out.2, hxy]; simp [hin]
                        obtain ⟨hin1, hin2⟩ := hin
                        have hh := hI.out.hit hdb'.out hltj HP.out
                        have HI' : Hid (Inn a b W i A B (j + 1) (A'.set i true) (B'.set j true) (M + 1)) := hh.2.2.2
                        have hM1 : M + 1 ≤ 1025 := by have := hh.2.2.1; omega
                        clear hh
                        by_cases hij : i < j
                        all_goals
                          go_wp2
                          go_quiet (fail)
                          go_wp2
                          go_roundw
                          case rel => exact ⟨j + 1, M + 1, _, _, by omega, hM1, by go_num, by go_num, HI'.out, ((hE.drewN _).setA i true).setB j true⟩
                          case measure => simp [intOf]; omega
                      · have HP : Hid (pairB a b W i j = false) := by
                          unfold Hid pairB
                          rw [Bool.and_eq_false_iff, Bool.and_eq_false_iff, decide_eq_false_iff_not, decide_eq_false_iff_not]
                          right; omega
                        by_cases hij : i < j
                        all_goals
                          go_wp2
                          go_quiet (fail)
                          go_wp2
                          go_roundw
                          case rel => exact ⟨j + 1, M, A', B', by omega, hMb, by go_num, rfl, hI.out.miss HP.out, hE.drewN _⟩
                          case measure => simp [intOf]; omega
                  · have hjb : j = b.length := by omega
                    have hd : mstate a b W (i + 1) = (A', B') ∧ M = cnt A' := by
                      have h := hI.out
                      rw [hjb] at h
                      exact h.done hlt hda'.out hdb'.out hcl'.out hM.out
                    have HD : Hid (mstate a b W (i + 1) = (A', B') ∧ M = cnt A') := hd
                    clear hd
                    go_wp2
                    go_roundw
                    case rel => exact ⟨i + 1, A', B', by omega, by go_num, by rw [HD.out.2], HD.out.1, hE⟩
                    case measure => simp [intOf]; omega
              · obtain rfl : i = a.length := by omega
                have hJR : JRes a b A B num den := by
                  have h := HJ.out
                  unfold JOK at h
                  rw [← HWW.out, hM.out] at h
                  exact h
                have HFF : Hid (A.length = a.length ∧ B.length = b.length ∧ cnt A = cnt B) := ⟨HF.out.1, HF.out.2.1, HF.out.2.2.1⟩
                by_cases hm0 : cnt A = 0
                · have hn0 : (num == 0) = true := by
                    rcases hJR with ⟨_, h, _⟩ | ⟨h, _⟩
                    · simp [h]
                    · exact absurd hm0 h
                  have hm0' : ((cnt A : Int) == 0) = true := by simp [hm0]
                  clear hm0 hJR
                  go_wp2
                  go_ret
                  exact ⟨rfl, hE.be⟩
                · have hQ : ∃ p N D : Nat, PreOK a b p ∧ N = cnt A * cnt A * (a.length + b.length) + (cnt A - mism (sel a A) (sel b B) / 2) * a.length * b.length ∧ D = 3 * a.length * b.length * cnt A ∧
                      N ≤ D ∧ num = 10 * (N : Int) + (p : Int) * ((D : Int) - (N : Int)) ∧ den = 10 * (D : Int) := by
                    rcases hJR with ⟨h, _⟩ | ⟨_, h⟩
                    · exact absurd h hm0
                    · exact h
                  have HQ : Hid (∃ p N D : Nat, PreOK a b p ∧ N = cnt A * cnt A * (a.length + b.length) + (cnt A - mism (sel a A) (sel b B) / 2) * a.length * b.length ∧ D = 3 * a.length * b.length * cnt A ∧
                      N ≤ D ∧ num = 10 * (N : Int) + (p : Int) * ((D : Int) - (N : Int)) ∧ den = 10 * (D : Int)) := hQ
                  have hm0' : ((cnt A : Int) == 0) = false := by simp; omega
                  have hmp : 1 ≤ cnt A := by omega
                  have hma : cnt A ≤ a.length := by have := cnt_le A; have := HFF.out; omega
                  have hmb : cnt A ≤ b.length := by have := cnt_le B; have := HFF.out; omega
                  clear hQ hJR hm0 HF HJ HWW hWs hM hlt
                  go_upto_region 44 with (at_make; refine wpList_make_blk rfl (.tmp 124) (.tmp 124) 23 rfl 21 j0 _ Try.underlying23 hj hy0 hy1 rfl 4 hy2 .i64 .i64 _ _ (cnt A) (cnt A) (by rfl) (by rfl) rfl rfl (Nat.le_refl _) (by omega) (by omega) ?_; intro wm hBm hszm hbm)
                  go_cut [18, 19] from 124 to 127 (fun v18 v19 wq => ∃ g5 g6 : Nat, v18 = .slice (some ⟨g5, 0, none⟩) (cnt A) (cnt A) ∧ v19 = .slice (some ⟨g6, 0, none⟩) (cnt A) (cnt A) ∧ SEnv w a b g1 g2 g3 g4 g5 g6 A B (List.replicate (cnt A) 0) (List.replicate (cnt A) 0) wq)
                  case first =>
                    go_wp2_with (at_make; refine wpList_make_blk rfl (.tmp 126) (.tmp 126) 23 rfl 21 j0 _ Try.underlying23 hj hy0 hy1 rfl 4 hy2 .i64 .i64 _ _ (cnt A) (cnt A) (by rfl) (by rfl) rfl rfl (Nat.le_refl _) (by omega) (by omega) ?_; intro wn hBn hszn hbn)
                    go_meet
                    have hlt4 := hE.bB.lt
                    have hn4 := hE.ne
                    have e4 := hBn
                    rw [hszm] at e4
                    exact ⟨_, _, rfl, rfl, ⟨(hE.below hbm (by omega) (by omega)).below hbn (by omega) (by omega), by rw [List.map_replicate]; exact hBm.below hbn (by omega), by rw [List.map_replicate]; exact e4, by omega⟩⟩
                  case rest =>
                    clear hE hBm hszm hbm hj hy0 hy1 hy2
                    obtain ⟨g5, g6, rfl, rfl, hE⟩ := hcut
                    go_wp2
                    go_loopw [20, 21] (fun pv iv wr => ∃ (i p : Nat) (SA : List Int), i ≤ a.length ∧ p ≤ cnt A ∧ iv = .int .i64 i ∧ pv = .int .i64 p ∧ Hid (SA.length = cnt A ∧ p = cnt (A.take i) ∧ SA.take p = sel (a.take i) (A.take i)) ∧ SEnv w a b g1 g2 g3 g4 g5 g6 A B SA (List.replicate (cnt A) 0) wr)
                      (fun _ iv _ => a.length - (intOf iv).toNat)
                    case atStart => exact ⟨0, 0, _, Nat.zero_le _, Nat.zero_le _, rfl, rfl, ⟨by simp, by simp [cnt], by simp [sel]⟩, hE⟩
                    case round =>
                      clear hE
                      obtain ⟨i, p, SA, hi, hp, rfl, rfl, hS, hE⟩ := hrel
                      by_cases hlt : i < a.length
                      · have hca := hE.d.ra.2 i hlt
                        have hfa := hE.d.bA.cell (bools_get A i (by have := HFF.out.1; omega))
                        obtain ⟨x, hx⟩ : ∃ x, x = a.getD i 0 := ⟨_, rfl⟩
                        obtain ⟨f, hf⟩ : ∃ f, f = A.getD i false := ⟨_, rfl⟩
                        rw [← hx] at hca
                        rw [← hf] at hfa
                        have HX : Hid (x = a.getD i 0 ∧ f = A.getD i false) := ⟨hx, hf⟩
                        have hcs := cnt_snoc A i (by have := HFF.out.1; omega)
                        have hss := sel_snoc a A i hlt (by have := HFF.out.1; omega)
                        rw [← hf] at hcs hss
                        rw [← hx] at hss
                        have hct := cnt_take_le A (i + 1)
                        have HCS : Hid (cnt (A.take (i + 1)) = cnt (A.take i) + (if f = true then 1 else 0) ∧ sel (a.take (i + 1)) (A.take (i + 1)) = sel (a.take i) (A.take i) ++ (if f = true then [x] else []) ∧ cnt (A.take (i + 1)) ≤ cnt A) := ⟨hcs, hss, hct⟩
                        clear hx hf hcs hss hct
                        cases f with
                        | false =>
                          go_wp2
                          go_roundw
                          case rel =>
                            refine ⟨i + 1, p, SA, by omega, hp, by go_num, rfl, ⟨hS.out.1, ?_, ?_⟩, hE⟩
                            · rw [HCS.out.1, hS.out.2.1]; simp
                            · rw [HCS.out.2.1, hS.out.2.2]; simp
                          case measure => simp [intOf]; omega
                        | true =>
                          have hplt : p < cnt A := by
                            have h1 := HCS.out.1
                            have h2 := HCS.out.2.2
                            have h3 := hS.out.2.1
                            simp only [if_true] at h1
                            omega
                          have hcp := hE.sA.cell (runesI_get SA p (by have := hS.out.1; omega))
                          have hfp := hE.sA.free p
                          obtain ⟨v0, hv0⟩ : ∃ v0, v0 = SA.getD p 0 := ⟨_, rfl⟩
                          rw [← hv0] at hcp
                          clear hv0
                          go_wp2
                          have hE' := hE.setSA p x
                          go_roundw
                          case rel =>
                            refine ⟨i + 1, p + 1, SA.set p x, by omega, by omega, by go_num, by go_num, ⟨by simpa using hS.out.1, ?_, ?_⟩, hE'⟩
                            · rw [HCS.out.1, hS.out.2.1]; simp
                            · rw [HCS.out.2.1, take_set_snoc SA p x (by have := hS.out.1; omega), hS.out.2.2]; simp
                          case measure => simp [intOf]; omega
                      · obtain rfl : i = a.length := by omega
                        have eSA : SA = sel a A := by
                          have h := hS.out
                          have hl := HFF.out.1
                          rw [List.take_of_length_le (Nat.le_refl _), List.take_of_length_le (by omega)] at h
                          have h2 := h.2.2
                          rw [h.2.1, List.take_of_length_le (by omega)] at h2
                          exact h2
                        subst eSA
                        clear hS hlt
                        go_wp2
                        go_loopw [20, 22] (fun pv jv wr => ∃ (j p : Nat) (SB : List Int), j ≤ b.length ∧ p ≤ cnt A ∧ jv = .int .i64 j ∧ pv = .int .i64 p ∧ Hid (SB.length = cnt A ∧ p = cnt (B.take j) ∧ SB.take p = sel (b.take j) (B.take j)) ∧ SEnv w a b g1 g2 g3 g4 g5 g6 A B (sel a A) SB wr)
                          (fun _ jv _ => b.length - (intOf jv).toNat)
                        case atStart => exact ⟨0, 0, _, Nat.zero_le _, Nat.zero_le _, rfl, rfl, ⟨by simp, by simp [cnt], by simp [sel]⟩, hE⟩
                        case round =>
                          clear hE
                          obtain ⟨j, p, SB, hj, hp, rfl, rfl, hS, hE⟩ := hrel
                          by_cases hlt : j < b.length
                          · have hcb := hE.d.rb.2 j hlt
                            have hfb := hE.d.bB.cell (bools_get B j (by have := HFF.out.2.1; omega))
                            obtain ⟨y, hy⟩ : ∃ y, y = b.getD j 0 := ⟨_, rfl⟩
                            obtain ⟨f, hf⟩ : ∃ f, f = B.getD j false := ⟨_, rfl⟩
                            rw [← hy] at hcb
                            rw [← hf] at hfb
                            have hcs := cnt_snoc B j (by have := HFF.out.2.1; omega)
                            have hss := sel_snoc b B j hlt (by have := HFF.out.2.1; omega)
                            rw [← hf] at hcs hss
                            rw [← hy] at hss
                            have hct := cnt_take_le B (j + 1)
                            rw [← HFF.out.2.2] at hct
                            have HCS : Hid (cnt (B.take (j + 1)) = cnt (B.take j) + (if f = true then 1 else 0) ∧ sel (b.take (j + 1)) (B.take (j + 1)) = sel (b.take j) (B.take j) ++ (if f = true then [y] else []) ∧ cnt (B.take (j + 1)) ≤ cnt A) := ⟨hcs, hss, hct⟩
                            clear hy hf hcs hss hct
                            cases f with
                            | false =>
                              go_wp2
                              go_roundw
                              case rel =>
                                refine ⟨j + 1, p, SB, by omega, hp, by go_num, rfl, ⟨hS.out.1, ?_, ?_⟩, hE⟩
                                · rw [HCS.out.1, hS.out.2.1]; simp
                                · rw [HCS.out.2.1, hS.out.2.2]; simp
                              case measure => simp [intOf]; omega
                            | true =>
                              have hplt : p < cnt A := by
                                have h1 := HCS.out.1
                                have h2 := HCS.out.2.2
                                have h3 := hS.out.2.1
                                simp only [if_true] at h1
                                omega
                              have hcp := hE.sB.cell (runesI_get SB p (by have := hS.out.1; omega))
                              have hfp := hE.sB.free p
                              obtain ⟨v0, hv0⟩ : ∃ v0, v0 = SB.getD p 0 := ⟨_, rfl⟩
                              rw [← hv0] at hcp
                              clear hv0
                              go_wp2
                              have hE' := hE.setSB p y
                              go_roundw
                              case rel =>
                                refine ⟨j + 1, p + 1, SB.set p y, by omega, by omega, by go_num, by go_num, ⟨by simpa using hS.out.1, ?_, ?_⟩, hE'⟩
                                · rw [HCS.out.1, hS.out.2.1]; simp
                                · rw [HCS.out.2.1, take_set_snoc SB p y (by have := hS.out.1; omega), hS.out.2.2]; simp
                              case measure => simp [intOf]; omega
                          · obtain rfl : j = b.length := by omega
                            have eSB : SB = sel b B := by
                              have h := hS.out
                              have hl := HFF.out
                              rw [List.take_of_length_le (Nat.le_refl _), List.take_of_length_le (by omega)] at h
                              have h2 := h.2.2
                              rw [h.2.1, List.take_of_length_le (by omega)] at h2
                              exact h2
                            subst eSB
                            have HLA : Hid ((sel a A).length = cnt A ∧ (sel b B).length = cnt A) := ⟨sel_length a A HFF.out.1.symm, (sel_length b B HFF.out.2.1.symm).trans HFF.out.2.2.symm⟩
                            clear hS hlt
                            go_wp2
                            go_loopw [23, 24] (fun ov qv wr => ∃ q o : Nat, q ≤ cnt A ∧ o ≤ q ∧ qv = .int .i64 q ∧ ov = .int .i64 o ∧ Hid (o = mism ((sel a A).take q) ((sel b B).take q)) ∧ SEnv w a b g1 g2 g3 g4 g5 g6 A B (sel a A) (sel b B) wr)
                              (fun _ qv _ => cnt A - (intOf qv).toNat)
                            case atStart => exact ⟨0, 0, Nat.zero_le _, Nat.le_refl _, rfl, rfl, by simp [Hid, mism], hE⟩
                            case round =>
                              clear hE
                              obtain ⟨q, o, hq, hoq, rfl, rfl, hO, hE⟩ := hrel
                              by_cases hlt : q < cnt A
                              · have hca := hE.sA.cell (runesI_get (sel a A) q (by have := HLA.out.1; omega))
                                have hcb := hE.sB.cell (runesI_get (sel b B) q (by have := HLA.out.2; omega))
                                have hsc := sameC_clean (y := (sel b B).getD q 0) (sel_clean (aM := A) hcl'.out q (by have := HLA.out.1; omega))
                                have hmt := mism_take (sel a A) (sel b B) q (by have := HLA.out.1; omega) (by have := HLA.out.2; omega)
                                rw [hsc] at hmt
                                obtain ⟨x, hx⟩ : ∃ x, x = (sel a A).getD q 0 := ⟨_, rfl⟩
                                obtain ⟨y, hy⟩ : ∃ y, y = (sel b B).getD q 0 := ⟨_, rfl⟩
                                rw [← hx] at hca hmt
                                rw [← hy] at hcb hmt
                                have HMT : Hid (mism ((sel a A).take (q + 1)) ((sel b B).take (q + 1)) = mism ((sel a A).take q) ((sel b B).take q) + (if (x == y) = true then 0 else 1)) := hmt
                                have hq' : (q : Int) < (cnt A : Int) := by omega
                                clear hx hy hsc hmt
                                cases hxy : (x == y) with
                                | true =>
                                  have HXY : Hid ((x == y) = true) := hxy
                                  have hxy2 : (x != y) = false := by simpa using hxy
                                  go_wp2
                                  go_quiet (fail)
                                  go_wp2
                                  go_roundw
                                  case rel => exact ⟨q + 1, o, by omega, by omega, by go_num, rfl, by show _ = _; rw [HMT.out, HXY.out, ← hO.out]; simp, hE.drewN _⟩
                                  case measure => simp [intOf]; omega
                                | false =>
                                  have HXY : Hid ((x == y) = false) := hxy
                                  have hxy2 : (x != y) = true := by simpa using hxy
                                  go_wp2
                                  go_quiet (fail)
                                  go_wp2
                                  go_roundw
                                  case rel => exact ⟨q + 1, o + 1, by omega, by omega, by go_num, by go_num, by show _ = _; rw [HMT.out, HXY.out, ← hO.out]; simp, hE.drewN _⟩
                                  case measure => simp [intOf]; omega
                              · obtain rfl : q = cnt A := by omega
                                have hOO : Hid (o = mism (sel a A) (sel b B)) := by
                                  have h := hO.out
                                  rw [List.take_of_length_le (by have := HLA.out.1; omega), List.take_of_length_le (by have := HLA.out.2; omega)] at h
                                  exact h
                                clear hO hlt
                                go_wp2
                                go_loopw [26] (fun pv wr => ∃ p : Nat, p ≤ 4 ∧ p ≤ a.length ∧ p ≤ b.length ∧ pv = .int .i64 p ∧ Hid (∀ q, q < p → sameC (a.getD q 0) (b.getD q 0) = true) ∧ DEnv w a b g1 g2 g3 g4 A B wr)
                                  (fun pv _ => 4 - (intOf pv).toNat)
                                case atStart => exact ⟨0, by omega, by omega, by omega, rfl, fun q hq => by omega, hE.d⟩
                                case round =>
                                  clear hE
                                  obtain ⟨p, hp4, hpa, hpb, rfl, hS, hE⟩ := hrel
                                  go_upto_region 67 with fail
                                  go_cut [204] from 182 to 204 (fun v wq => ((v = .bool true ∧ Hid (p < 4 ∧ p < a.length ∧ p < b.length ∧ sameC (a.getD p 0) (b.getD p 0) = true)) ∨ (v = .bool false ∧ Hid (PreOK a b p))) ∧ DEnv w a b g1 g2 g3 g4 A B wq)
                                  case first =>
                                    by_cases h4 : p < 4
                                    · have h4' : (p : Int) < 4 := by omega
                                      by_cases hna : p < a.length
                                      · have hna' : (p : Int) < (a.length : Int) := by omega
                                        by_cases hnb : p < b.length
                                        · have hnb' : (p : Int) < (b.length : Int) := by omega
                                          have hca := hE.ra.2 p hna
                                          have hcb := hE.rb.2 p hnb
                                          have hsc := sameC_clean (y := b.getD p 0) (hcl'.out p hna)
                                          obtain ⟨x, hx⟩ : ∃ x, x = a.getD p 0 := ⟨_, rfl⟩
                                          obtain ⟨y, hy⟩ : ∃ y, y = b.getD p 0 := ⟨_, rfl⟩
                                          rw [← hx] at hca hsc
                                          rw [← hy] at hcb hsc
                                          have HX : Hid (x = a.getD p 0 ∧ y = b.getD p 0 ∧ sameC x y = (x == y)) := ⟨hx, hy, hsc⟩
                                          clear hx hy hsc
                                          cases hxy : (x == y) with
                                          | true =>
                                            have HXY : Hid ((x == y) = true) := hxy
                                            go_quiet (fail)
                                            go_wp2
                                            go_meet
                                            exact ⟨.inl ⟨rfl, h4, hna, hnb, by rw [← HX.out.1, ← HX.out.2.1, HX.out.2.2]; exact HXY.out⟩, hE.drewN _⟩
                                          | false =>
                                            have HXY : Hid ((x == y) = false) := hxy
                                            go_quiet (fail)
                                            go_wp2
                                            go_meet
                                            exact ⟨.inr ⟨rfl, hp4, hpa, hpb, hS.out, fun _ _ _ => by rw [← HX.out.1, ← HX.out.2.1, HX.out.2.2]; exact HXY.out⟩, hE.drewN _⟩
                                        · have hd : decide ((p : Int) < (b.length : Int)) = false := decide_eq_false (by omega)
                                          go_quiet (fail)
                                          go_wp2
                                          go_meet
                                          exact ⟨.inr ⟨rfl, hp4, hpa, hpb, hS.out, fun _ _ h => absurd h hnb⟩, hE.drewN _⟩
                                      · have hd : decide ((p : Int) < (a.length : Int)) = false := decide_eq_false (by omega)
                                        go_quiet (fail)
                                        go_wp2
                                        go_meet
                                        exact ⟨.inr ⟨rfl, hp4, hpa, hpb, hS.out, fun _ h _ => absurd h hna⟩, hE.drewN _⟩
                                    · have hd : decide ((p : Int) < 4) = false := decide_eq_false (by omega)
                                      go_quiet (fail)
                                      go_wp2
                                      go_meet
                                      exact ⟨.inr ⟨rfl, hp4, hpa, hpb, hS.out, fun h _ _ => absurd h h4⟩, hE.drewN _⟩
                                  case rest =>
                                    clear hE
                                    obtain ⟨hv, hE⟩ := hcut
                                    rcases hv with ⟨rfl, hT⟩ | ⟨rfl, hPre⟩
                                    · go_wp2
                                      go_roundw
                                      case rel =>
                                        have hTT := hT.out
                                        refine ⟨p + 1, by omega, by omega, by omega, by go_num, fun q hq => ?_, hE⟩
                                        by_cases h : q < p
                                        · exact hS.out q h
                                        · obtain rfl : q = p := by omega
                                          exact hTT.2.2.2
                                      case measure => have hTT := hT.out; simp [intOf]; omega
                                    · obtain ⟨p', N, D, hp', hN, hD, hle, hnum, hden⟩ := HQ.out
                                      obtain rfl : p = p' := hPre.out.unique hp'
                                      rw [← hOO.out] at hN
                                      obtain ⟨j1n, j1d, j2n, j2d, j3n, j3d, en, ed, z1, z2, ⟨z3a, z3b⟩, ⟨z4a, z4b⟩, c1, c2, c3, c4, c5⟩ := model_calls (cnt A) a.length b.length o p N D num den (by omega) hma hmb (by omega) (by omega) hoq hp4 hN hD hle hnum hden
                                      have C1 := (show Hid _ from c1)
                                      have C2 := (show Hid _ from c2)
                                      have C3 := (show Hid _ from c3)
                                      have C4 := (show Hid _ from c4)
                                      have C5 := (show Hid _ from c5)
                                      clear c1 c2 c3 c4 c5 HQ hN hD hle hnum hden hp' hPre hOO HLA HFF hdb' hda' hcl'
                                      have hbe := hE.be
                                      clear hE
                                      go_wp2_with fail
                                      refine (C1.out _).mono ?_
                                      rintro e x1 ⟨rfl, hx1⟩
                                      go_wp2_with fail
                                      refine (C2.out _).mono ?_
                                      rintro e x2 ⟨rfl, hx2⟩
                                      go_wp2_with fail
                                      refine (C3.out _).mono ?_
                                      rintro e x3 ⟨rfl, hx3⟩
                                      go_wp2_with fail
                                      refine (C4.out _).mono ?_
                                      rintro e x4 ⟨rfl, hx4⟩
                                      go_wp2_with fail
                                      refine (C5.out _).mono ?_
                                      rintro e x5 ⟨rfl, hx5⟩
                                      go_wp2
                                      go_ret
                                      refine ⟨by simp, ?_⟩
                                      have k0 := hbe.size
                                      have k1 := hx1.size
                                      have k2 := hx2.size
                                      have k3 := hx3.size
                                      have k4 := hx4.size
                                      exact ((((hbe.trans (hx1.mono (by omega))).trans (hx2.mono (by omega))).trans (hx3.mono (by omega))).trans (hx4.mono (by omega))).trans (hx5.mono (by omega))

set_option maxRecDepth 100000 in
theorem model_large (s1 s2 : ByteArray) (w1 : s1.size ≤ maxLen) (w2 : s2.size ≤ maxLen) (h : 1024 < s1.size ∨ 1024 < s2.size) (w : World) :
    Calls Try.prog 5 #[.string s1, .string s2] w fun e w' => e = .returned (.bool true) ∧ Below w.heap.size w w' := by
  unfold maxLen at w1 w2
  rcases h with h | h
  all_goals
    go_enter Try.func5, Try.ntmps5
    go_wp2_with (first
      | (go_at_call 14; refine (zzb14 s1 s2 (by omega) (by omega) w).mono ?_; rintro e w' ⟨⟨t, rfl⟩, hw⟩; obtain rfl : w = w' := hw.symm)
      | fail)
    all_goals
      go_ret
      exact ⟨rfl, Below.refl _ _⟩

theorem model_any (s1 s2 : ByteArray) (w1 : s1.size ≤ maxLen) (w2 : s2.size ≤ maxLen) (w : World) :
    Calls Try.prog 5 #[.string s1, .string s2] w fun e w' => e = .returned (.bool true) ∧ Below w.heap.size w w' := by
  by_cases h1 : s1.size ≤ 1024
  · by_cases h2 : s2.size ≤ 1024
    · exact model_small s1 s2 h1 h2 w
    · exact model_large s1 s2 w1 w2 (by omega) w
  · exact model_large s1 s2 w1 w2 (by omega) w
end Go.Proofs.Qxb6600227a
