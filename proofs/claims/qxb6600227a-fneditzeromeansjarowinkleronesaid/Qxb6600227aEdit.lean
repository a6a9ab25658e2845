import Derived.Test.Qxb6600227aGood
import Derived.Deep.DeepCutAuto
import Derived.RegionTactic
import Derived.BigRegion
namespace Go.Proofs.Qxb6600227a
open Go.RowKit

theorem Try.info3 : (Try.prog.info? 3).map (fun i => (i.zero, i.size, i.bytes)) = some (some (.int .i64 0), 1, 8) := by kernel_rfl

/-- 'make([]int, n)' run. -/
theorem run_make37 (n : Nat) (hn : n ≤ 1048576) (N : Int) (hN : N = (n : Int)) (w : World) : (Instr.makeSlice 37 (.int .i64 N) (.int .i64 N)).run Try.prog w = .ok (.slice (some ⟨w.heap.size, 0, none⟩) n n) (w.alloc (.cells ((List.replicate n (Value.int .i64 0)).toArray) 3)) := by
  obtain ⟨i0, hi, hz0, hz1, hz2⟩ := info_parts Try.info3
  subst hN
  have h := run_make (P := Try.prog) w 37 3 i0 _ Try.underlying37 hi hz0 .i64 .i64 n n (by omega) (by omega) (by rw [hz2]; omega) (by omega)
  rw [h]
  have e : (madeCells #[Value.int .i64 0] n).toList = List.replicate n (.int .i64 0) := toList_madeCells_one _ _
  have e2 : madeCells (Value.int .i64 0).cells ((n : Int).toNat * i0.size) = (List.replicate n (Value.int .i64 0)).toArray := by
    rw [hz1, ← e]; simp [Value.cells]
  rw [e2]
  simp

theorem Blk.drew {w : World} {g : Nat} {t : TypeId} {cs : List Value} (h : Blk w g t cs) : Blk w.drew g t cs := h

/-- Three new rows. -/
theorem three_new (w : World) (z : Nat) (hz : z = w.heap.size) (n : Nat) (W : World)
    (hW : W = ((((w.alloc (.cells ((List.replicate n (Value.int .i64 0)).toArray) 3)).alloc (.cells ((List.replicate n (Value.int .i64 0)).toArray) 3)).alloc (.cells ((List.replicate n (Value.int .i64 0)).toArray) 3)).drew)) :
    Blk W w.heap.size 3 ((List.replicate n (0 : Int)).map (Value.int .i64)) ∧ Blk W (w.heap.size + 1) 3 ((List.replicate n (0 : Int)).map (Value.int .i64)) ∧ Blk W (w.heap.size + 1 + 1) 3 ((List.replicate n (0 : Int)).map (Value.int .i64)) ∧ Below z w W := by
  subst hz hW
  have h1 := Blk.new w ((List.replicate n (Value.int .i64 0)).toArray) 3
  have h2 := Blk.new (w.alloc (.cells ((List.replicate n (Value.int .i64 0)).toArray) 3)) ((List.replicate n (Value.int .i64 0)).toArray) 3
  have h3 := Blk.new ((w.alloc (.cells ((List.replicate n (Value.int .i64 0)).toArray) 3)).alloc (.cells ((List.replicate n (Value.int .i64 0)).toArray) 3)) ((List.replicate n (Value.int .i64 0)).toArray) 3
  rw [List.map_replicate]
  refine ⟨(h1.alloc _).alloc _, ?_, ?_, ?_⟩
  · have := h2.alloc (.cells ((List.replicate n (Value.int .i64 0)).toArray) 3)
    simpa using this.drew
  · simpa using h3.drew
  · exact (((Below.refl _ _).alloc (Nat.le_refl _) _).alloc (by simp) _).alloc (by simp; omega) _ |>.drew

/-- The state of the table: the runes, and the three rows. -/
structure Env (w : World) (a b : List Int) (go gp gr : Nat) (O P R : List Int) (wr : World) : Prop where
  ra : Runes wr w.heap.size a
  rb : Runes wr (w.heap.size + 1) b
  bo : Blk wr go 3 (O.map (Value.int .i64))
  bp : Blk wr gp 3 (P.map (Value.int .i64))
  br : Blk wr gr 3 (R.map (Value.int .i64))
  lo : O.length = b.length + 1
  lp : P.length = b.length + 1
  lr : R.length = b.length + 1
  be : Below w.heap.size w wr
  op : go ≠ gp
  or : go ≠ gr
  pr : gp ≠ gr
  o2 : w.heap.size + 2 ≤ go
  p2 : w.heap.size + 2 ≤ gp
  r2 : w.heap.size + 2 ≤ gr

theorem Runes.set {w : World} {g g' : Nat} {rs : List Int} (h : Runes w g rs) (hne : g ≠ g') (i : Nat) (v : Value) : Runes (w.setCell ⟨g', i, none⟩ v) g rs := by
  refine ⟨by simpa [World.setCell] using h.1, fun j hj => ?_⟩
  rw [World.cell?_of_block (w := w) (Below.heap_setCell w ⟨g', i, none⟩ v g hne)]
  exact h.2 j hj

theorem Env.rot {w : World} {a b : List Int} {go gp gr : Nat} {O P R : List Int} {wr : World} (h : Env w a b go gp gr O P R wr) : Env w a b gp gr go P R O wr :=
  ⟨h.ra, h.rb, h.bp, h.br, h.bo, h.lp, h.lr, h.lo, h.be, h.pr, h.op.symm, h.or.symm, h.p2, h.r2, h.o2⟩

theorem Env.setR {w : World} {a b : List Int} {go gp gr : Nat} {O P R : List Int} {wr : World} (h : Env w a b go gp gr O P R wr) (j : Nat) (v : Int) :
    Env w a b go gp gr O P (R.set j v) (wr.setCell ⟨gr, j, none⟩ (.int .i64 v)) := by
  have h2 := h.r2
  refine ⟨h.ra.set (by omega) _ _, h.rb.set (by omega) _ _, h.bo.setOther _ _ h.or, h.bp.setOther _ _ h.pr, ?_, h.lo, h.lp, by simpa using h.lr, h.be.setCell (by show w.heap.size ≤ gr; omega) _, h.op, h.or, h.pr, h.o2, h.p2, h.r2⟩
  rw [← ints_set]
  exact h.br.set j _

theorem Env.setP {w : World} {a b : List Int} {go gp gr : Nat} {O P R : List Int} {wr : World} (h : Env w a b go gp gr O P R wr) (j : Nat) (v : Int) :
    Env w a b go gp gr O (P.set j v) R (wr.setCell ⟨gp, j, none⟩ (.int .i64 v)) := (h.rot.rot.setR j v).rot

theorem Env.drew {w : World} {a b : List Int} {go gp gr : Nat} {O P R : List Int} {wr : World} (h : Env w a b go gp gr O P R wr) : Env w a b go gp gr O P R wr.drew :=
  ⟨h.ra, h.rb, h.bo, h.bp, h.br, h.lo, h.lp, h.lr, h.be.drew, h.op, h.or, h.pr, h.o2, h.p2, h.r2⟩

theorem Env.drewN {w : World} {a b : List Int} {go gp gr : Nat} {O P R : List Int} {wr : World} (h : Env w a b go gp gr O P R wr) (n : Nat) : Env w a b go gp gr O P R (wr.drewN n) :=
  ⟨h.ra, h.rb, h.bo, h.bp, h.br, h.lo, h.lp, h.lr, ⟨h.be.os, h.be.tape, h.be.output, h.be.size, h.be.block⟩, h.op, h.or, h.pr, h.o2, h.p2, h.r2⟩

theorem Env.cellA {w : World} {a b : List Int} {go gp gr : Nat} {O P R : List Int} {wr : World} (h : Env w a b go gp gr O P R wr) (j : Nat) (hj : j < a.length) : wr.cell? ⟨w.heap.size, j, none⟩ = some (.int .i32 (a.getD j 0)) := h.ra.2 j hj
theorem Env.cellB {w : World} {a b : List Int} {go gp gr : Nat} {O P R : List Int} {wr : World} (h : Env w a b go gp gr O P R wr) (j : Nat) (hj : j < b.length) : wr.cell? ⟨w.heap.size + 1, j, none⟩ = some (.int .i32 (b.getD j 0)) := h.rb.2 j hj
theorem Env.cellO {w : World} {a b : List Int} {go gp gr : Nat} {O P R : List Int} {wr : World} (h : Env w a b go gp gr O P R wr) (j : Nat) (hj : j ≤ b.length) : wr.cell? ⟨go, j, none⟩ = some (.int .i64 (O.getD j 0)) := h.bo.cell (ints_get O j (by have := h.lo; omega))
theorem Env.cellP {w : World} {a b : List Int} {go gp gr : Nat} {O P R : List Int} {wr : World} (h : Env w a b go gp gr O P R wr) (j : Nat) (hj : j ≤ b.length) : wr.cell? ⟨gp, j, none⟩ = some (.int .i64 (P.getD j 0)) := h.bp.cell (ints_get P j (by have := h.lp; omega))
theorem Env.cellR {w : World} {a b : List Int} {go gp gr : Nat} {O P R : List Int} {wr : World} (h : Env w a b go gp gr O P R wr) (j : Nat) (hj : j ≤ b.length) : wr.cell? ⟨gr, j, none⟩ = some (.int .i64 (R.getD j 0)) := h.br.cell (ints_get R j (by have := h.lr; omega))

set_option maxHeartbeats 400000 in
set_option maxRecDepth 100000 in
theorem edit_any (s1 s2 : ByteArray) (w1 : s1.size ≤ 1024) (w2 : s2.size ≤ 1024) (w : World) :
    Calls Try.prog 22 #[.string s1, .string s2] w fun e w' => (∃ d : Int, e = .returned (.int .i64 d) ∧ Good (runes s1) (runes s2) (runes s1).length (runes s2).length d) ∧ Below w.heap.size w w' := by
  have hl1 := length_runes s1
  have hl2 := length_runes s2
  generalize ha : runes s1 = a at *
  generalize hb : runes s2 = b at *
  have HA : Hid (runes s1 = a) := ha
  have HB : Hid (runes s2 = b) := hb
  clear ha hb
  have hmk := run_make37 (b.length + 1) (by omega) ((b.length : Int) + 1) (by omega)
  go_enter Try.func22, Try.ntmps22
  go_wp2_with (first
    | (refine wpList_runes rfl (.tmp 14) 9 23 rfl 21 Try.underlying9 Try.underlying23 Try.underlying21 s1 (by rfl) (by omega) ?_; rw [HA.out]; intro wa ca hRa hsa hba)
    | (refine wpList_runes rfl (.tmp 16) 9 23 rfl 21 Try.underlying9 Try.underlying23 Try.underlying21 s2 (by rfl) (by omega) ?_; rw [HB.out]; intro wb cb hRb hsb hbb))
  have hz : w.heap.size + 2 = wb.heap.size := by omega
  have HZ : Hid (w.heap.size + 2 = wb.heap.size) := hz
  have hRa' : Runes wb w.heap.size a := hRa.below hbb (by omega)
  have hRb' : Runes wb (w.heap.size + 1) b := by rw [hsa] at hRb; exact hRb
  have hbe : Below w.heap.size w wb := hba.trans (hbb.mono (by omega))
  clear hz hsa hsb hRa hRb hba hbb
  go_cut [7, 8, 9] (fun o p r wq => ∃ go gp gr : Nat, o = .slice (some ⟨go, 0, none⟩) (b.length + 1) (b.length + 1) ∧ p = .slice (some ⟨gp, 0, none⟩) (b.length + 1) (b.length + 1) ∧ r = .slice (some ⟨gr, 0, none⟩) (b.length + 1) (b.length + 1) ∧
    go ≠ gp ∧ go ≠ gr ∧ gp ≠ gr ∧ w.heap.size + 2 ≤ go ∧ w.heap.size + 2 ≤ gp ∧ w.heap.size + 2 ≤ gr ∧
    Blk wq go 3 ((List.replicate (b.length + 1) (0 : Int)).map (Value.int .i64)) ∧ Blk wq gp 3 ((List.replicate (b.length + 1) (0 : Int)).map (Value.int .i64)) ∧ Blk wq gr 3 ((List.replicate (b.length + 1) (0 : Int)).map (Value.int .i64)) ∧
    Below (w.heap.size + 2) wb wq)
  case first =>
    go_region
    all_goals
      go_wp2
      go_meet
    all_goals
      have hN := three_new wb _ HZ.out (b.length + 1) _ rfl
      obtain ⟨n1, n2, n3, n4⟩ := hN
      have hzz := HZ.out
    all_goals first
      | exact ⟨wb.heap.size, wb.heap.size + 1, wb.heap.size + 1 + 1, rfl, rfl, rfl, by omega, by omega, by omega, by omega, by omega, by omega, n1, n2, n3, n4⟩
      | exact ⟨wb.heap.size, wb.heap.size + 1 + 1, wb.heap.size + 1, rfl, rfl, rfl, by omega, by omega, by omega, by omega, by omega, by omega, n1, n3, n2, n4⟩
      | exact ⟨wb.heap.size + 1, wb.heap.size, wb.heap.size + 1 + 1, rfl, rfl, rfl, by omega, by omega, by omega, by omega, by omega, by omega, n2, n1, n3, n4⟩
      | exact ⟨wb.heap.size + 1, wb.heap.size + 1 + 1, wb.heap.size, rfl, rfl, rfl, by omega, by omega, by omega, by omega, by omega, by omega, n2, n3, n1, n4⟩
      | exact ⟨wb.heap.size + 1 + 1, wb.heap.size, wb.heap.size + 1, rfl, rfl, rfl, by omega, by omega, by omega, by omega, by omega, by omega, n3, n1, n2, n4⟩
      | exact ⟨wb.heap.size + 1 + 1, wb.heap.size + 1, wb.heap.size, rfl, rfl, rfl, by omega, by omega, by omega, by omega, by omega, by omega, n3, n2, n1, n4⟩
  case rest =>
    obtain ⟨go, gp, gr, rfl, rfl, rfl, hop, hor, hpr, ho2, hp2, hr2, hBo, hBp, hBr, hbq⟩ := hcut
    have hRa : Runes wc w.heap.size a := hRa'.below hbq (by omega)
    have hRb : Runes wc (w.heap.size + 1) b := hRb'.below hbq (by omega)
    have hbe' : Below w.heap.size w wc := hbe.trans (hbq.mono (by omega))
    have hE : Env w a b go gp gr (List.replicate (b.length + 1) 0) (List.replicate (b.length + 1) 0) (List.replicate (b.length + 1) 0) wc :=
      ⟨hRa, hRb, hBo, hBp, hBr, by simp, by simp, by simp, hbe', hop, hor, hpr, ho2, hp2, hr2⟩
    clear hmk hRa' hRb' hbe hbq HZ hRa hRb hBo hBp hBr hbe'
    go_wp2
    go_loopw [32] (fun i wr => ∃ k : Nat, k ≤ b.length + 1 ∧ i = .int .i64 k ∧ ∃ P : List Int, Hid (∀ j, j < k → P.getD j 0 = (j : Int)) ∧ Env w a b go gp gr (List.replicate (b.length + 1) 0) P (List.replicate (b.length + 1) 0) wr)
      (fun i _ => b.length + 1 - (intOf i).toNat)
    case atStart => exact ⟨0, Nat.zero_le _, rfl, _, fun j hj => by omega, hE⟩
    case round =>
      clear hE
      obtain ⟨k, hk, rfl, P, hP, hE⟩ := hrel
      by_cases hlt : k < b.length + 1
      · have hc := hE.cellP k (by omega)
        have hf := hE.bp.free k
        obtain ⟨v0, hv0⟩ : ∃ v0, v0 = P.getD k 0 := ⟨_, rfl⟩
        rw [← hv0] at hc
        clear hv0
        go_wp2
        have hE' := hE.setP k k
        go_roundw
        case rel =>
          refine ⟨k + 1, by omega, by go_num, P.set k k, fun j hj => ?_, hE'⟩
          rw [getD_setI _ _ _ _ (by have := hE.lp; omega)]
          by_cases h : k = j
          · rw [if_pos h, h]
          · rw [if_neg h]; exact hP.out j (by omega)
        case measure => simp [intOf]; omega
      · have hRow : RowOK a b 0 (b.length + 1) P := fun j hj => by rw [hP.out j (by omega)]; exact good_zero_left a b j
        have hRowH : Hid (RowOK a b 0 (b.length + 1) P) := hRow
        clear hP hRow
        go_wp2
        go_loopw [7, 8, 9, 11] (fun o p r iv wr => ∃ (I go gp gr : Nat) (O P R : List Int), I ≤ a.length ∧ iv = .int .i64 ((I : Int) + 1) ∧ o = .slice (some ⟨go, 0, none⟩) (b.length + 1) (b.length + 1) ∧ p = .slice (some ⟨gp, 0, none⟩) (b.length + 1) (b.length + 1) ∧ r = .slice (some ⟨gr, 0, none⟩) (b.length + 1) (b.length + 1) ∧
            Env w a b go gp gr O P R wr ∧ Hid (RowOK a b I (b.length + 1) P ∧ (1 ≤ I → RowOK a b (I - 1) (b.length + 1) O)))
          (fun _ _ _ iv _ => a.length + 1 - (intOf iv).toNat)
        case atStart => exact ⟨0, go, gp, gr, _, P, _, Nat.zero_le _, rfl, rfl, rfl, rfl, hE, ⟨hRowH.out, fun h => by omega⟩⟩
        case round =>
          clear hE hRowH hop hor hpr ho2 hp2 hr2
          obtain ⟨I, go, gp, gr, O, P, R, hI, rfl, rfl, rfl, rfl, hE, hRow⟩ := hrel
          by_cases hlt : I < a.length
          · have hlt' : (I : Int) + 1 ≤ (a.length : Int) := by omega
            have hc0 := hE.cellR 0 (by omega)
            have hf0 := hE.br.free 0
            obtain ⟨v0, hv0⟩ : ∃ v0, v0 = R.getD 0 0 := ⟨_, rfl⟩
            rw [← hv0] at hc0
            clear hv0
            go_wp2
            have hE' := hE.setR 0 ((I : Int) + 1)
            have hG : Hid (∀ q, q < 1 → Good a b (I + 1) q ((R.set 0 ((I : Int) + 1)).getD q 0)) := by
              intro q hq
              obtain rfl : q = 0 := by omega
              rw [getD_setI _ _ _ _ (by have := hE.lr; omega), if_pos rfl]
              exact good_zero_right a b (I + 1)
            generalize hR' : R.set 0 ((I : Int) + 1) = R' at hE' hG
            clear hR' hE hc0 hf0
            go_loopw [12] (fun jv wr => ∃ (J : Nat) (R : List Int), J ≤ b.length ∧ jv = .int .i64 ((J : Int) + 1) ∧ Env w a b go gp gr O P R wr ∧ Hid (∀ q, q < J + 1 → Good a b (I + 1) q (R.getD q 0)))
              (fun jv _ => b.length + 1 - (intOf jv).toNat)
            case atStart => exact ⟨0, R', Nat.zero_le _, rfl, hE', hG⟩
            case round =>
              clear hE' hG
              obtain ⟨J, R, hJ, rfl, hE, hG⟩ := hrel
              by_cases hltJ : J < b.length
              · have hltJ' : (J : Int) + 1 ≤ (b.length : Int) := by omega
                have hca := hE.cellA I hlt
                have hcb := hE.cellB J hltJ
                obtain ⟨x, hx⟩ : ∃ x, x = a.getD I 0 := ⟨_, rfl⟩
                obtain ⟨y, hy⟩ : ∃ y, y = b.getD J 0 := ⟨_, rfl⟩
                rw [← hx] at hca
                rw [← hy] at hcb
                have HX : Hid (x = a.getD I 0 ∧ y = b.getD J 0) := ⟨hx, hy⟩
                clear hx hy
                go_wp2
                go_quiet ((go_at_call 25; exact Calls.quiet_of_same (same25 _ _ _)))
                go_upto_if 65 with fail
                go_cut [13] (fun c wq => (∃ cc : Int, c = .int .i64 cc ∧ 0 ≤ cc ∧ cc ≤ 1 ∧ Hid (cc = if sameC x y = true then 0 else 1)) ∧ Env w a b go gp gr O P R wq)
                case first =>
                  go_wp2
                  · have hs : sameC x y = true := by assumption
                    go_meet
                    exact ⟨⟨0, rfl, by omega, by omega, by show _ = _; rw [if_pos hs]⟩, hE.drewN _⟩
                  · have hs : sameC x y = false := by assumption
                    go_meet
                    exact ⟨⟨1, rfl, by omega, by omega, by show _ = _; rw [hs]; rfl⟩, hE.drewN _⟩
                case rest =>
                  clear hE hca hcb
                  obtain ⟨⟨cc, rfl, hc0, hc1, HCC⟩, hE⟩ := hcut
                  have hgp1 := hRow.out.1 (J + 1) (by omega)
                  have hgp0 := hRow.out.1 J (by omega)
                  have hgr1 := hG.out J (by omega)
                  have hP1 := hE.cellP (J + 1) (by omega)
                  have hP0 := hE.cellP J (by omega)
                  have hR1 := hE.cellR J (by omega)
                  have hR2 := hE.cellR (J + 1) (by omega)
                  have hfr := hE.br.free (J + 1)
                  have hpr := hE.pr
                  obtain ⟨p1, hp1⟩ : ∃ p1, p1 = P.getD (J + 1) 0 := ⟨_, rfl⟩
                  obtain ⟨p0, hp0⟩ : ∃ p0, p0 = P.getD J 0 := ⟨_, rfl⟩
                  obtain ⟨r1, hr1⟩ : ∃ r1, r1 = R.getD J 0 := ⟨_, rfl⟩
                  obtain ⟨r2, hr2⟩ : ∃ r2, r2 = R.getD (J + 1) 0 := ⟨_, rfl⟩
                  rw [← hp1] at hP1 hgp1
                  rw [← hp0] at hP0 hgp0
                  rw [← hr1] at hR1 hgr1
                  rw [← hr2] at hR2
                  have HG1 : Hid (Good a b I (J + 1) p1 ∧ Good a b (I + 1) J r1 ∧ Good a b I J p0) := ⟨hgp1, hgr1, hgp0⟩
                  have bp1 := hgp1.bounds
                  have bp0 := hgp0.bounds
                  have br1 := hgr1.bounds
                  have bp1' : p1 ≤ 1025 := by omega
                  have bp0' : p0 ≤ 1025 := by omega
                  have br1' : r1 ≤ 1025 := by omega
                  have bp1'' := bp1.1
                  have bp0'' := bp0.1
                  have br1'' := br1.1
                  clear hp1 hp0 hr1 hr2 hgp1 hgr1 hgp0 bp1 bp0 br1
                  go_wp2
                  go_cut [] (fun wq => ∃ X : Int, Hid (Good a b (I + 1) (J + 1) X) ∧ Env w a b go gp gr O P (R.set (J + 1) X) wq)
                  case first =>
                    go_region
                    go_wp2
                    all_goals
                      go_meet
                    all_goals
                      obtain ⟨g1, g2, g3⟩ := HG1.out
                      have hcc : cc = if sameC (a.getD I 0) (b.getD J 0) = true then 0 else 1 := by rw [← HX.out.1, ← HX.out.2]; exact HCC.out
                      refine ⟨_, good_step g1 g2 g3 hcc ?_ ?_, (hE.setR (J + 1) _).drew⟩ <;> omega
                  case rest =>
                    clear hE hP1 hP0 hR1 hR2 hfr HG1 HCC bp1' bp0' br1' bp1'' bp0'' br1'' hc0 hc1
                    obtain ⟨X, hX, hE⟩ := hcut
                    have hca := hE.cellA I hlt
                    have hcb := hE.cellB J hltJ
                    rw [← HX.out.1] at hca
                    rw [← HX.out.2] at hcb
                    go_wp2
                    go_cut [119] (fun v wq => (∃ t : Bool, v = .bool t ∧ Hid (t = true → 1 ≤ I ∧ 1 ≤ J)) ∧ Env w a b go gp gr O P (R.set (J + 1) X) wq)
                    case first =>
                      by_cases hI1 : 1 ≤ I
                      · have hI1' : (1 : Int) < (I : Int) + 1 := by omega
                        have hca2 := hE.cellA (I - 1) (by omega)
                        obtain ⟨x2, hx2⟩ : ∃ x2, x2 = a.getD (I - 1) 0 := ⟨_, rfl⟩
                        rw [← hx2] at hca2
                        clear hx2
                        by_cases hJ1 : 1 ≤ J
                        · have hJ1' : (1 : Int) < (J : Int) + 1 := by omega
                          have hcb2 := hE.cellB (J - 1) (by omega)
                          obtain ⟨y2, hy2⟩ : ∃ y2, y2 = b.getD (J - 1) 0 := ⟨_, rfl⟩
                          rw [← hy2] at hcb2
                          clear hy2
                          cases hs2 : sameC x y2 with
                          | false =>
                            go_quiet ((go_at_call 25; exact Calls.quiet_of_same (same25 _ _ _)))
                            go_wp2
                            go_meet
                            exact ⟨⟨_, rfl, fun _ => ⟨hI1, hJ1⟩⟩, hE.drewN _⟩
                          | true =>
                            go_quiet ((go_at_call 25; exact Calls.quiet_of_same (same25 _ _ _)))
                            go_wp2
                            go_meet
                            exact ⟨⟨_, rfl, fun _ => ⟨hI1, hJ1⟩⟩, hE.drewN _⟩
                        · have hJ1' : decide ((1 : Int) < (J : Int) + 1) = false := decide_eq_false (by omega)
                          go_quiet ((go_at_call 25; exact Calls.quiet_of_same (same25 _ _ _)))
                          go_wp2
                          go_meet
                          exact ⟨⟨false, rfl, fun h => by cases h⟩, hE.drewN _⟩
                      · have hI1' : decide ((1 : Int) < (I : Int) + 1) = false := decide_eq_false (by omega)
                        go_quiet ((go_at_call 25; exact Calls.quiet_of_same (same25 _ _ _)))
                        go_wp2
                        go_meet
                        exact ⟨⟨false, rfl, fun h => by cases h⟩, hE.drewN _⟩
                    case rest =>
                      clear hE hca hcb
                      obtain ⟨⟨t, rfl, hT⟩, hE⟩ := hcut
                      have hGX : Hid (∀ q, q < J + 1 + 1 → Good a b (I + 1) q ((R.set (J + 1) X).getD q 0)) := by
                        intro q hq
                        have hl := hE.lr
                        simp only [List.length_set] at hl
                        rw [getD_setI _ _ _ _ (by omega)]
                        by_cases h : J + 1 = q
                        · rw [if_pos h, ← h]; exact hX.out
                        · rw [if_neg h]; exact hG.out q (by omega)
                      cases t with
                      | false =>
                        go_wp2
                        go_roundw
                        case rel => exact ⟨J + 1, _, by omega, by go_num, hE, hGX⟩
                        case measure => simp [intOf]; omega
                      | true =>
                        obtain ⟨hI1, hJ1⟩ := hT.out rfl
                        have hlr := hE.lr
                        have hR2 := hE.cellR (J + 1) (by omega)
                        have hO2 := hE.cellO (J - 1) (by omega)
                        have hfr := hE.br.free (J + 1)
                        rw [getD_setI _ _ _ _ (by simp only [List.length_set] at hlr; omega), if_pos rfl] at hR2
                        have hgo := hRow.out.2 hI1 (J - 1) (by omega)
                        obtain ⟨o2, ho2⟩ : ∃ o2, o2 = O.getD (J - 1) 0 := ⟨_, rfl⟩
                        rw [← ho2] at hO2 hgo
                        have HGO : Hid (Good a b (I - 1) (J - 1) o2) := hgo
                        have bo := hgo.bounds
                        have bx := hX.out.bounds
                        have bo1 : o2 ≤ 1025 := by omega
                        have bo0 := bo.1
                        have bx1 : X ≤ 1025 := by omega
                        have bx0 := bx.1
                        have hor := hE.or
                        clear ho2 hgo bo bx hlr
                        go_wp2
                        go_region
                        go_wp2
                        have hY : Good a b (I + 1) (J + 1) (if o2 + 1 < X then o2 + 1 else X) := by
                          obtain ⟨I', rfl⟩ : ∃ I', I = I' + 1 := ⟨I - 1, by omega⟩
                          obtain ⟨J', rfl⟩ : ∃ J', J = J' + 1 := ⟨J - 1, by omega⟩
                          exact good_swap hX.out HGO.out (by split <;> omega) (by split <;> omega) (by split <;> simp)
                        have hE2 := (hE.setR (J + 1) (if o2 + 1 < X then o2 + 1 else X)).drew
                        have hGY : Hid (∀ q, q < J + 1 + 1 → Good a b (I + 1) q (((R.set (J + 1) X).set (J + 1) (if o2 + 1 < X then o2 + 1 else X)).getD q 0)) := by
                          intro q hq
                          have hl := hE2.lr
                          simp only [List.length_set] at hl
                          rw [getD_setI _ _ _ _ (by simp only [List.length_set]; omega)]
                          by_cases h : J + 1 = q
                          · rw [if_pos h, ← h]; exact hY
                          · rw [if_neg h]; exact hGX.out q (by omega)
                        go_roundw
                        case rel => exact ⟨J + 1, _, by omega, by go_num, hE2, hGY⟩
                        case measure => simp [intOf]; omega
              · have hJb : J = b.length := by omega
                have hRn : Hid (RowOK a b (I + 1) (b.length + 1) R) := fun q hq => hG.out q (by omega)
                clear hG
                go_wp2
                go_roundw
                case rel => exact ⟨I + 1, gp, gr, go, P, R, O, by omega, by go_num, rfl, rfl, rfl, hE.rot, ⟨hRn.out, fun _ => hRow.out.1⟩⟩
                case measure => simp [intOf]; omega
          · have hIa : I = a.length := by omega
            have hg := hRow.out.1 b.length (by omega)
            have hc := hE.cellP b.length (by omega)
            obtain ⟨d, hd⟩ : ∃ d, d = P.getD b.length 0 := ⟨_, rfl⟩
            rw [← hd] at hc hg
            have HGd : Hid (Good a b a.length b.length d) := by rw [← hIa]; exact hg
            clear hd hg
            go_wp2
            go_ret
            exact ⟨⟨d, rfl, HGd.out⟩, hE.be⟩
end Go.Proofs.Qxb6600227a
