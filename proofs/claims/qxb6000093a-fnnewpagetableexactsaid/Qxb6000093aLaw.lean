import Derived.Test.Qxb6000093aZZ
import Derived.Test.Qxb6000093aBytes
namespace Go.Proofs.Qxb6000093a
open Go.RowKit

set_option maxHeartbeats 4000000 in
set_option maxRecDepth 100000 in
theorem law5 (cp : ByteArray) (a1 a2 a3 a4 : Option Addr) (c1 c2 c3 c4 n1 n2 n3 n4 : Nat) (N T : List ByteArray) (F : List Bool) (R : List RowV) (h1 : N.length = n1) (h2 : T.length = n2) (h3 : F.length = n3) (h4 : R.length = n4)
    (b1 : n1 ≤ 9223372036854775807) (b2 : n2 ≤ 9223372036854775807) (b4 : n4 ≤ 9223372036854775807) (hrl : ∀ i, i < n4 → (R.getD i RowV.none).ss.length ≤ 9223372036854775807)
    (w : World) (hN : SA w a1 N) (hT : SA w a2 T) (hF : BA w a3 F) (hR : RA w a4 R) :
    Calls Try.prog 5 #[.string cp, .slice a1 n1 c1, .slice a2 n2 c2, .slice a3 n3 c3, .slice a4 n4 c4] w fun e w' => e = .returned (.bool true) ∧ Below w.heap.size w w' := by
  have HZ := (show Hid _ from zzb10 cp a1 a2 a3 a4 c1 c2 c3 c4 n1 n2 n3 n4 N T R h1 h2 h4 w hN hT hR)
  have HP := (show Hid _ from pb11 cp a1 a2 a3 a4 c1 c2 c3 c4 n1 n2 n3 n4 N T R h1 h2 h4 b1 b2 b4 hrl w hN hT hR)
  have H1 : Hid (N.length = n1) := h1
  have H2 : Hid (T.length = n2) := h2
  have H3 : Hid (F.length = n3) := h3
  have H4 : Hid (R.length = n4) := h4
  clear h1 h2 h3 h4 hrl
  go_enter Try.func5, Try.ntmps5
  go_upto_if 26 with (first | (go_at_call 10; refine Calls.mono HZ.out ?_; rintro e w' ⟨⟨t, rfl, ht⟩, hw⟩; obtain rfl : w = w' := hw.symm))
  cases t with
  | false =>
    go_wp2
    go_ret
    exact ⟨rfl, Below.refl _ _⟩
  | true =>
    obtain ⟨hn1, hn4⟩ := ht rfl
    clear ht HZ b1 b4
    have hn1' : (n1 : Int) ≤ 1048576 := by omega
    have hn4' : (n4 : Int) ≤ 1048576 := by omega
    go_upto_if 33 with (first | (go_at_call 11; refine Calls.mono HP.out ?_; rintro e w' ⟨⟨t, rfl⟩, hw⟩; obtain rfl : w = w' := hw.symm))
    clear HP
    by_cases ht : (1048576 : Int) < t
    · go_wp2
      go_ret
      exact ⟨rfl, Below.refl _ _⟩
    by_cases h21 : (n2 : Int) = n1
    rotate_left
    · go_wp2
      go_ret
      exact ⟨rfl, Below.refl _ _⟩
    by_cases h31 : (n3 : Int) = n1
    rotate_left
    · go_wp2
      go_ret
      exact ⟨rfl, Below.refl _ _⟩
    obtain rfl : n2 = n1 := by omega
    obtain rfl : n3 = n2 := by omega
    clear h21 h31
    go_wp2
    clear ht
    go_loop [11] (fun iv => ∃ k : Nat, k ≤ n4 ∧ iv = .int .i64 k ∧ Hid (∀ j, j < k → (R.getD j RowV.none).ss.length ≤ n3)) (fun iv => n4 - (intOf iv).toNat)
    case atStart => exact ⟨0, Nat.zero_le _, rfl, fun j hj => by omega⟩
    case round =>
      obtain ⟨k, hk, rfl, hall⟩ := hrel
      by_cases hlt : k < n4
      · obtain ⟨b, off, e4, hc⟩ := hR.1 (by have := H4.out; omega)
        have hcell := hc k (by have := H4.out; omega)
        obtain ⟨r, hr⟩ : ∃ r, r = R.getD k RowV.none := ⟨_, rfl⟩
        have HR' : Hid (r = R.getD k RowV.none) := hr
        rw [← hr] at hcell
        obtain ⟨ro, rc, rl⟩ := r
        simp only [RowV.val] at hcell
        obtain ⟨rn, hrn⟩ : ∃ rn, rn = rl.length := ⟨_, rfl⟩
        rw [← hrn] at hcell
        have HRN : Hid (rn = rl.length) := hrn
        clear hr hc hrn hN hT hF hR
        subst e4
        by_cases hle : (n3 : Int) < rn
        · go_wp2
          go_ret
          exact ⟨rfl, Below.refl _ _⟩
        · go_wp2
          go_round
          case rel =>
            refine ⟨k + 1, by omega, by go_num, fun j hj => ?_⟩
            by_cases e : j = k
            · subst e
              rw [← HR'.out]
              show rl.length ≤ n3
              have := HRN.out
              omega
            · exact hall.out j (by omega)
          case measure => simp [intOf]; omega
      · obtain rfl : k = n4 := by omega
        have HH : Hid (SA w a1 N ∧ SA w a2 T ∧ BA w a3 F ∧ RA w a4 R) := ⟨hN, hT, hF, hR⟩
        clear hN hT hF hR hlt hk
        go_upto_if 82 with fail
        refine (clone12 a1 c1 n3 N H1.out hn1 w HH.out.1).mono ?_
        rintro e w1 ⟨a1', k1, rfl, hs1, hb1⟩
        have HS1 : Hid (SA w1 a1' N) := hs1
        clear hs1
        go_upto_if 82 with fail
        refine (clone12 a2 c2 n3 T H2.out hn1 w1 (HH.out.2.1.below hb1)).mono ?_
        rintro e w2 ⟨a2', k2, rfl, hs2, hb2⟩
        have HS2 : Hid (SA w2 a2' T) := hs2
        clear hs2
        go_upto_if 82 with fail
        refine (clone13 a3 c3 n3 F H3.out hn1 w2 ((HH.out.2.2.1.below hb1).below hb2)).mono ?_
        rintro e w3 ⟨a3', k3, rfl, hs3, hb3⟩
        have HS3 : Hid (BA w3 a3' F) := hs3
        clear hs3
        go_upto_if 82 with fail
        refine (clone14 a4 c4 k R H4.out hn4 (fun i hi => by have := hall.out i hi; omega) w3 (((HH.out.2.2.2.below hb1).below hb2).below hb3)).mono ?_
        rintro e w4 ⟨a4', k4, L, rfl, hL, hLR, hs4, hb4⟩
        have HS4 : Hid (RA w4 a4' L ∧ L.length = k ∧ ∀ i, i < k → (L.getD i RowV.none).ss.length ≤ n3) := ⟨hs4, hL, fun i hi => by rw [hLR i hi]; exact hall.out i hi⟩
        clear hs4 hL hLR hall HH
        go_upto_if 82 with fail
        refine (zz15 cp a1' a2' a3' a4' k1 k2 k3 k4 n3 k N T F L H1.out H2.out H3.out HS4.out.2.1 hn1 hn4 HS4.out.2.2 w4 (((HS1.out.below hb2).below hb3).below hb4) ((HS2.out.below hb3).below hb4) (HS3.out.below hb4) HS4.out.1).mono ?_
        rintro e w5 ⟨ho, hno, ro, rno, oc, nc, pc, qc, TS, BS, rfl, hpost, hb5⟩
        have HP : Hid (ZZPost T F L n3 k ho hno ro rno TS BS w5) := hpost
        have hbel : Below w.heap.size w w5 := by
          have := hb1.size; have := hb2.size; have := hb3.size; have := hb4.size
          exact (((hb1.trans (hb2.mono (by omega))).trans (hb3.mono (by omega))).trans (hb4.mono (by omega))).trans (hb5.mono (by omega))
        have HT5 : Hid (SA w5 a2' T) := (((HS2.out.below hb3).below hb4).below hb5)
        have HF5 : Hid (BA w5 a3' F) := ((HS3.out.below hb4).below hb5)
        have HR5 : Hid (RA w5 a4' L ∧ L.length = k ∧ ∀ i, i < k → (L.getD i RowV.none).ss.length ≤ n3) := ⟨HS4.out.1.below hb5, HS4.out.2⟩
        clear hpost HS1 HS2 HS3 HS4 hb1 hb2 hb3 hb4 hb5
        have hoN : ho.isNone = ((n3 : Int) == 0) := by
          have := HP.out.1
          by_cases h : n3 = 0
          · rw [this.2 h]; simp [h]
          · have h2 : ho ≠ Option.none := fun e => h (this.1 e)
            cases ho with
            | none => exact absurd rfl h2
            | some a => simp [h]
        have roN : ro.isNone = ((k : Int) == 0) := by
          have := HP.out.2.2.2.1
          by_cases h : k = 0
          · rw [this.2 h]; simp [h]
          · have h2 : ro ≠ Option.none := fun e => h (this.1 e)
            cases ro with
            | none => exact absurd rfl h2
            | some a => simp [h]
        have hq1 := fun w : World => Lib.run_eql_slice_nil (P := Try.prog) w 28 9 ho n3 oc 0 0 Try.underlying28
        have hq2 := fun w : World => Lib.run_eql_slice_nil (P := Try.prog) w 30 28 ro k pc 0 0 Try.underlying30
        rw [hoN] at hq1
        rw [roN] at hq2
        clear hoN roN
        go_wp2
        go_loopw [17] (fun iv wr => ∃ i : Nat, i ≤ n3 ∧ iv = .int .i64 i ∧ Below w5.heap.size w5 wr) (fun iv _ => n3 - (intOf iv).toNat)
        case atStart => exact ⟨0, Nat.zero_le _, rfl, Below.refl _ _⟩
        case round =>
          obtain ⟨i, hi, rfl, hbr⟩ := hrel
          by_cases hlt : i < n3
          · obtain ⟨b1, o1, rfl, x1⟩ := (HP.out.2.1.below hbr) (by have := H2.out; omega)
            obtain ⟨b2, o2, rfl, x2⟩ := (HT5.out.below hbr) (by have := H2.out; omega)
            obtain ⟨b3, o3, rfl, x3⟩ := (HP.out.2.2.1.below hbr) (by have := H3.out; omega)
            obtain ⟨b4, o4, rfl, x4⟩ := (HF5.out.below hbr) (by have := H3.out; omega)
            have y1 := x1 i (by have := H2.out; omega)
            have y2 := x2 i (by have := H2.out; omega)
            have y3 := x3 i (by have := H3.out; omega)
            have y4 := x4 i (by have := H3.out; omega)
            obtain ⟨tt, htt⟩ : ∃ tt, tt = T.getD i ByteArray.empty := ⟨_, rfl⟩
            obtain ⟨nu, hnu⟩ : ∃ nu, nu = F.getD i false := ⟨_, rfl⟩
            rw [← htt] at y1 y2
            rw [← hnu] at y3 y4
            clear htt hnu x1 x2 x3 x4
            go_wp2
            go_quiet (fail)
            go_wp2
            go_roundw
            case rel => exact ⟨i + 1, by omega, by go_num, below_drewN' hbr _⟩
            case measure => simp [intOf]; omega
          · obtain rfl : i = n3 := by omega
            obtain ⟨wm, rfl⟩ : ∃ wm, wm = wr := ⟨_, rfl⟩
            clear hlt hi
            go_wp2
            go_loopw [18] (fun iv wr => ∃ i : Nat, i ≤ k ∧ iv = .int .i64 i ∧ Below w5.heap.size w5 wr) (fun iv _ => k - (intOf iv).toNat)
            case atStart => exact ⟨0, Nat.zero_le _, rfl, hbr⟩
            case round =>
              clear hbr
              obtain ⟨p, hp, rfl, hbr⟩ := hrel
              obtain ⟨wo, rfl⟩ : ∃ wo, wo = wr := ⟨_, rfl⟩
              by_cases hlt : p < k
              · obtain ⟨hl1, hl2, hRA, hRB, hrest⟩ := HP.out.2.2.2.2
                obtain ⟨e1, e2, e3, e4, e5⟩ := hrest p hlt
                obtain ⟨b1, o1, rfl, x1⟩ := (hRA.below hbr).1 (by omega)
                obtain ⟨b2, o2, rfl, x2⟩ := (hRB.below hbr).1 (by omega)
                obtain ⟨b3, o3, rfl, x3⟩ := (HR5.out.1.below hbr).1 (by have := HR5.out.2.1; omega)
                have y1 := x1 p (by omega)
                have y2 := x2 p (by omega)
                have y3 := x3 p (by have := HR5.out.2.1; omega)
                have z1 := hRA.2 p (by omega)
                have z2 := hRB.2 p (by omega)
                have z3 := HR5.out.1.2 p (by have := HR5.out.2.1; omega)
                have hrl := HR5.out.2.2 p hlt
                have xx1 := hRA.1 (by omega)
                have xx2 := hRB.1 (by omega)
                have xx3 := HR5.out.1.1 (by have := HR5.out.2.1; omega)
                obtain ⟨_, _, q1, xx1⟩ := xx1
                obtain ⟨_, _, q2, xx2⟩ := xx2
                obtain ⟨_, _, q3, xx3⟩ := xx3
                cases q1
                cases q2
                cases q3
                have yy1 := xx1 p (by omega)
                have yy2 := xx2 p (by omega)
                have yy3 := xx3 p (by have := HR5.out.2.1; omega)
                clear x1 x2 x3 xx1 xx2 xx3 hRA hRB hrest hl1 hl2
                obtain ⟨A, hA⟩ : ∃ A, A = TS.getD p RowV.none := ⟨_, rfl⟩
                obtain ⟨B, hB⟩ : ∃ B, B = BS.getD p BRow.none := ⟨_, rfl⟩
                obtain ⟨C, hC⟩ : ∃ C, C = L.getD p RowV.none := ⟨_, rfl⟩
                rw [← hA] at y1 z1 e1 e2 yy1
                rw [← hB] at y2 z2 e3 e4 e5 yy2
                rw [← hC] at y3 z3 e1 e4 e5 hrl yy3
                obtain ⟨ta, tc, tl⟩ := A
                obtain ⟨ba, bc, bl⟩ := B
                obtain ⟨la, lc, ll⟩ := C
                simp only [RowV.val, BRow.val] at y1 y2 y3 yy1 yy2 yy3 z1 z2 z3 e1 e2 e3 e4 e5 hrl
                subst e1
                obtain ⟨ln, hln⟩ : ∃ ln, ln = tl.length := ⟨_, rfl⟩
                rw [← hln] at y1 y3 e4 e5 hrl yy1 yy3
                rw [e4] at y2 yy2
                have HE : Hid (ln = tl.length ∧ bl.length = ln ∧ ∀ q, q < ln → bl.getD q false = F.getD q false) := ⟨hln, e4, e5⟩
                have HZ3 : Hid (SA w5 ta tl ∧ BA w5 ba bl ∧ SA w5 la tl) := ⟨z1, z2, z3⟩
                have HYY : Hid (w5.cell? ⟨b1, o1 + p, Option.none⟩ = some (.slice ta ln tc) ∧ w5.cell? ⟨b2, o2 + p, Option.none⟩ = some (.slice ba ln bc) ∧ w5.cell? ⟨b3, o3 + p, Option.none⟩ = some (.slice la ln lc)) := ⟨yy1, yy2, yy3⟩
                have hta : ta.isNone = false := by cases ta with
                  | none => exact absurd rfl e2
                  | some a => rfl
                have hba : ba.isNone = false := by cases ba with
                  | none => exact absurd rfl e3
                  | some a => rfl
                have hq3 := fun w : World => Lib.run_eql_slice_nil (P := Try.prog) w 28 9 ta ln tc 0 0 Try.underlying28
                have hq4 := fun w : World => Lib.run_eql_slice_nil (P := Try.prog) w 29 4 ba ln bc 0 0 Try.underlying29
                rw [hta] at hq3
                rw [hba] at hq4
                clear hA hB hC z1 z2 z3 yy1 yy2 yy3 e2 e3 e4 e5 hln hta hba hq1 hq2
                go_wp2
                go_quiet (fail)
                go_wp2
                clear y1 y2 y3 hq3 hq4
                go_loopw [19] (fun jv wr => ∃ j : Nat, j ≤ ln ∧ jv = .int .i64 j ∧ Below w5.heap.size w5 wr) (fun jv _ => ln - (intOf jv).toNat)
                case atStart => exact ⟨0, Nat.zero_le _, rfl, below_drewN' hbr _⟩
                case round =>
                  clear hbr
                  obtain ⟨j, hj, rfl, hbr⟩ := hrel
                  have y1 := (hbr.cell (World.block_lt_of_cell? _ _ HYY.out.1)).trans HYY.out.1
                  have y2 := (hbr.cell (World.block_lt_of_cell? _ _ HYY.out.2.1)).trans HYY.out.2.1
                  have y3 := (hbr.cell (World.block_lt_of_cell? _ _ HYY.out.2.2)).trans HYY.out.2.2
                  by_cases hltj : j < ln
                  · obtain ⟨b4, o4, rfl, x4⟩ := (HZ3.out.1.below hbr) (by have := HE.out.1; omega)
                    obtain ⟨b5, o5, rfl, x5⟩ := (HZ3.out.2.1.below hbr) (by have := HE.out.2.1; omega)
                    obtain ⟨b6, o6, rfl, x6⟩ := (HZ3.out.2.2.below hbr) (by have := HE.out.1; omega)
                    obtain ⟨b7, o7, rfl, x7⟩ := (HF5.out.below hbr) (by have := H3.out; omega)
                    have y4 := x4 j (by have := HE.out.1; omega)
                    have y5 := x5 j (by have := HE.out.2.1; omega)
                    have y6 := x6 j (by have := HE.out.1; omega)
                    have y7 := x7 j (by have := H3.out; omega)
                    rw [HE.out.2.2 j hltj] at y5
                    obtain ⟨tt, htt⟩ : ∃ tt, tt = tl.getD j ByteArray.empty := ⟨_, rfl⟩
                    obtain ⟨nu, hnu⟩ : ∃ nu, nu = F.getD j false := ⟨_, rfl⟩
                    rw [← htt] at y4 y6
                    rw [← hnu] at y5 y7
                    clear htt hnu x4 x5 x6 x7
                    go_wp2
                    go_quiet (fail)
                    go_wp2
                    go_roundw
                    case rel => exact ⟨j + 1, by omega, by go_num, below_drewN' hbr _⟩
                    case measure => simp [intOf]; omega
                  · go_wp2
                    go_roundw
                    case rel => exact ⟨p + 1, by omega, by go_num, hbr⟩
                    case measure => simp [intOf]; omega
              · go_wp2
                go_ret
                exact ⟨rfl, hbel.trans (hbr.mono hbel.size)⟩
end Go.Proofs.Qxb6000093a
