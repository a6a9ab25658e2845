import Derived.Test.Qxb6000093aTable
namespace Go.Proofs.Qxb6000093a
open Go.RowKit

theorem Try.info41 : (Try.prog.info? 41).map (fun i => (i.zero, i.size, i.bytes)) = some (some (.agg #[.string ByteArray.empty, .string ByteArray.empty, .bool false]), 3, 40) := by kernel_rfl
theorem Try.info29 : (Try.prog.info? 29).map (fun i => (i.zero, i.size, i.bytes)) = some (some (.slice none 0 0), 1, 24) := by kernel_rfl

/-- A row of flags. -/
structure BRow where
  ao : Option Addr
  cap : Nat
  fs : List Bool
def BRow.none : BRow := ⟨Option.none, 0, []⟩
def BRow.val (r : BRow) : Value := .slice r.ao r.fs.length r.cap

/-- A slice of rows of flags at an address. -/
def RB (w : World) (ao : Option Addr) (bs : List BRow) : Prop :=
  (0 < bs.length → ∃ b off, ao = some ⟨b, off, Option.none⟩ ∧ ∀ i, i < bs.length → w.cell? ⟨b, off + i, Option.none⟩ = some (bs.getD i BRow.none).val) ∧
  ∀ i, i < bs.length → BA w (bs.getD i BRow.none).ao (bs.getD i BRow.none).fs
theorem RB.below {w w' : World} {ao : Option Addr} {bs : List BRow} (h : RB w ao bs) (hb : Below w.heap.size w w') : RB w' ao bs := by
  refine ⟨fun hp => ?_, fun i hi => (h.2 i hi).below hb⟩
  obtain ⟨b, off, e, hc⟩ := h.1 hp
  exact ⟨b, off, e, fun i hi => (hb.cell (p := ⟨b, off + i, Option.none⟩) (World.block_lt_of_cell? _ _ (hc i hi))).trans (hc i hi)⟩
theorem brows_get (L : List BRow) (k : Nat) (h : k < L.length) : (L.map BRow.val)[k]? = some (L.getD k BRow.none).val := by
  simp [h, List.getD]
theorem brows_set (L : List BRow) (k : Nat) (r : BRow) : (L.map BRow.val).set k r.val = (L.set k r).map BRow.val := by
  rw [List.map_set]
theorem getD_setBR (L : List BRow) (i j : Nat) (v : BRow) (hj : j < L.length) : (L.set i v).getD j BRow.none = if i = j then v else L.getD j BRow.none := by
  simp only [List.getD, List.getElem?_set]
  by_cases h : i = j
  · subst h; simp [hj]
  · simp [h]
theorem no_str_brows (L : List BRow) (s : ByteArray) : Value.string s ∉ L.map BRow.val := by
  intro h
  obtain ⟨r, _, e⟩ := List.mem_map.1 h
  simp [BRow.val] at e
theorem no_bool_brows (L : List BRow) (f : Bool) : Value.bool f ∉ L.map BRow.val := by
  intro h
  obtain ⟨r, _, e⟩ := List.mem_map.1 h
  simp [BRow.val] at e
theorem no_bool_rows (L : List RowV) (f : Bool) : Value.bool f ∉ L.map RowV.val := by
  intro h
  obtain ⟨r, _, e⟩ := List.mem_map.1 h
  simp [RowV.val] at e

/-- What ZZNewPageTable hands back. -/
def ZZPost (T : List ByteArray) (F : List Bool) (R : List RowV) (n m : Nat) (ho hno ro rno : Option Addr) (TS : List RowV) (BS : List BRow) (w' : World) : Prop :=
  (ho = Option.none ↔ n = 0) ∧ SA w' ho T ∧ BA w' hno F ∧ (ro = Option.none ↔ m = 0) ∧ TS.length = m ∧ BS.length = m ∧ RA w' ro TS ∧ RB w' rno BS ∧
  ∀ i, i < m → (TS.getD i RowV.none).ss = (R.getD i RowV.none).ss ∧ (TS.getD i RowV.none).ao ≠ Option.none ∧ (BS.getD i BRow.none).ao ≠ Option.none ∧ (BS.getD i BRow.none).fs.length = (R.getD i RowV.none).ss.length ∧
    ∀ j, j < (R.getD i RowV.none).ss.length → (BS.getD i BRow.none).fs.getD j false = F.getD j false

/-- How the call ends. -/
def ZZEnd (cp : ByteArray) (T : List ByteArray) (F : List Bool) (R : List RowV) (n m : Nat) (w : World) (e : Ending) (w' : World) : Prop :=
  ∃ (ho hno ro rno : Option Addr) (hc hnc rc rnc : Nat) (TS : List RowV) (BS : List BRow),
      e = .returned (.tuple #[.string cp, .slice ho n hc, .slice hno n hnc, .slice ro m rc, .slice rno m rnc]) ∧ ZZPost T F R n m ho hno ro rno TS BS w' ∧ Below w.heap.size w w'

/-- The columns out of the three lists. -/
def cols (N T : List ByteArray) (F : List Bool) : List Col := (List.range N.length).map fun i => ⟨N.getD i ByteArray.empty, T.getD i ByteArray.empty, F.getD i false⟩
theorem cols_length (N T : List ByteArray) (F : List Bool) : (cols N T F).length = N.length := by simp [cols]
theorem cols_get (N T : List ByteArray) (F : List Bool) (i : Nat) (h : i < N.length) : (cols N T F).getD i Col.none = ⟨N.getD i ByteArray.empty, T.getD i ByteArray.empty, F.getD i false⟩ := by
  simp [cols, List.getD, h]

theorem heads_cols (N T : List ByteArray) (F : List Bool) (k i : Nat) (hk : N.length = k) (h : i < k) : (heads (cols N T F) k).getD i PC.none = ⟨T.getD i ByteArray.empty, F.getD i false⟩ := by
  unfold heads
  rw [List.take_of_length_le (by rw [cols_length]; omega)]
  simp [cols, List.getD, show i < N.length by omega]
theorem heads_cols_length (N T : List ByteArray) (F : List Bool) (k : Nat) (hk : N.length = k) : (heads (cols N T F) k).length = k := heads_length _ _ (by rw [cols_length]; omega)
theorem PB.cells {w : World} {b : Nat} {L : List PC} (h : PB w b L) (i : Nat) (hi : i < L.length) : w.cell? ⟨b, i * 2, Option.none⟩ = some (.string (L.getD i PC.none).text) ∧ w.cell? ⟨b, i * 2 + 1, Option.none⟩ = some (.bool (L.getD i PC.none).num) := by
  obtain ⟨cs, h1, h2⟩ := h
  exact ⟨h1.cell (h2 i hi).1, h1.cell (h2 i hi).2⟩

theorem keepS {wr : World} {g : Nat} {TS : List RowV} {BS : List BRow} (X : Blk wr g 28 (TS.map RowV.val)) (Y : Blk wr (g + 1) 29 (BS.map BRow.val)) {ao : Option Addr} {ss : List ByteArray} (h : SA wr ao ss) (i : Nat) (v v' : Value) : SA ((wr.setCell ⟨g, i, Option.none⟩ v).setCell ⟨g + 1, i, Option.none⟩ v') ao ss :=
  (h.set X (no_str_rows TS) i v).set (Y.setOther i v (by omega)) (no_str_brows BS) i v'
theorem keepB {wr : World} {g : Nat} {TS : List RowV} {BS : List BRow} (X : Blk wr g 28 (TS.map RowV.val)) (Y : Blk wr (g + 1) 29 (BS.map BRow.val)) {ao : Option Addr} {fs : List Bool} (h : BA wr ao fs) (i : Nat) (v v' : Value) : BA ((wr.setCell ⟨g, i, Option.none⟩ v).setCell ⟨g + 1, i, Option.none⟩ v') ao fs :=
  (h.set X (no_bool_rows TS) i v).set (Y.setOther i v (by omega)) (no_bool_brows BS) i v'

set_option maxHeartbeats 4000000 in
set_option maxRecDepth 100000 in
theorem zz15 (cp : ByteArray) (a1 a2 a3 a4 : Option Addr) (c1 c2 c3 c4 n m : Nat) (N T : List ByteArray) (F : List Bool) (R : List RowV) (h1 : N.length = n) (h2 : T.length = n) (h3 : F.length = n) (h4 : R.length = m) (hbn : n ≤ 1048576) (hbm : m ≤ 1048576)
    (hrl : ∀ i, i < m → (R.getD i RowV.none).ss.length ≤ n) (w : World) (hN : SA w a1 N) (hT : SA w a2 T) (hF : BA w a3 F) (hR : RA w a4 R) :
    Calls Try.prog 15 #[.string cp, .slice a1 n c1, .slice a2 n c2, .slice a3 n c3, .slice a4 m c4] w fun e w' => ZZEnd cp T F R n m w e w' := by
  have H1 : Hid (N.length = n) := h1
  have H2 : Hid (T.length = n) := h2
  have H3 : Hid (F.length = n) := h3
  have H4 : Hid (R.length = m) := h4
  have HRL : Hid (∀ i, i < m → (R.getD i RowV.none).ss.length ≤ n) := hrl
  clear h1 h2 h3 h4 hrl
  obtain ⟨i0, hi, hz0, hz1, hz2⟩ := info_parts Try.info41
  go_enter Try.func15, Try.ntmps15
  go_wp2_with (at_make; refine wpList_make_wide rfl (.tmp 29) (.tmp 29) 39 rfl 41 i0 _ 3 Try.underlying39 hi hz0 hz1 40 hz2 .i64 .i64 _ _ n (by rfl) (by rfl) rfl rfl (by omega) (by omega) ?_; intro w3 cs0 hcs0 hB3 hsz3 hb3)
  clear hsz3
  go_loopw [33] (fun kv wr => ∃ (k : Nat) (cs : List Value), k ≤ n ∧ kv = .int .i64 k ∧ Hid (cs.length = n * 3 ∧ ∀ q, q < k → cs[q * 3]? = some (.string (N.getD q ByteArray.empty)) ∧ cs[q * 3 + 1]? = some (.string (T.getD q ByteArray.empty)) ∧ cs[q * 3 + 2]? = some (.bool (F.getD q false))) ∧ Blk wr w.heap.size 41 cs ∧ Below w.heap.size w wr)
    (fun kv _ => n - (intOf kv).toNat)
  case atStart => exact ⟨0, cs0, Nat.zero_le _, rfl, ⟨hcs0, fun q hq => by omega⟩, hB3, hb3⟩
  case round =>
    clear hb3 hB3 hcs0
    obtain ⟨k, cs, hk, rfl, hcs, hB, hbe⟩ := hrel
    by_cases hlt : k < n
    · obtain ⟨b1, o1, rfl, hc1⟩ := (hN.below hbe) (by have := H1.out; omega)
      obtain ⟨b2, o2, rfl, hc2⟩ := (hT.below hbe) (by have := H2.out; omega)
      obtain ⟨b3, o3, rfl, hc3⟩ := (hF.below hbe) (by have := H3.out; omega)
      have x1 := hc1 k (by have := H1.out; omega)
      have x2 := hc2 k (by have := H2.out; omega)
      have x3 := hc3 k (by have := H3.out; omega)
      obtain ⟨nm, hnm⟩ : ∃ nm, nm = N.getD k ByteArray.empty := ⟨_, rfl⟩
      obtain ⟨tt, htt⟩ : ∃ tt, tt = T.getD k ByteArray.empty := ⟨_, rfl⟩
      obtain ⟨nu, hnu⟩ : ∃ nu, nu = F.getD k false := ⟨_, rfl⟩
      rw [← hnm] at x1
      rw [← htt] at x2
      rw [← hnu] at x3
      have HT : Hid (nm = N.getD k ByteArray.empty ∧ tt = T.getD k ByteArray.empty ∧ nu = F.getD k false) := ⟨hnm, htt, hnu⟩
      have hy0 : ∃ v0, cs[k * 3]? = some v0 := ⟨cs[k * 3]'(by have := hcs.out.1; omega), List.getElem?_eq_getElem _⟩
      have hy1 : ∃ v1, cs[k * 3 + 1]? = some v1 := ⟨cs[k * 3 + 1]'(by have := hcs.out.1; omega), List.getElem?_eq_getElem _⟩
      have hy2 : ∃ v2, cs[k * 3 + 2]? = some v2 := ⟨cs[k * 3 + 2]'(by have := hcs.out.1; omega), List.getElem?_eq_getElem _⟩
      obtain ⟨v0, hv0⟩ := hy0
      obtain ⟨v1, hv1⟩ := hy1
      obtain ⟨v2, hv2⟩ := hy2
      have y0 := hB.cell hv0
      have y1 := hB.cell hv1
      have y2 := hB.cell hv2
      have z0 := hB.free (k * 3)
      have z1 := hB.free (k * 3 + 1)
      have z2 := hB.free (k * 3 + 2)
      have hlt' : (k : Int) < (n : Int) := by omega
      clear hnm htt hnu hc1 hc2 hc3 hv0 hv1 hv2
      go_wp2
      go_region
      go_wp2
      have hB' := (((hB.set (k * 3) (.string nm)).set (k * 3 + 1) (.string tt)).set (k * 3 + 2) (.bool nu)).drew
      have hcs' : (((cs.set (k * 3) (.string nm)).set (k * 3 + 1) (.string tt)).set (k * 3 + 2) (.bool nu)).length = n * 3 ∧ ∀ q, q < k + 1 → (((cs.set (k * 3) (.string nm)).set (k * 3 + 1) (.string tt)).set (k * 3 + 2) (.bool nu))[q * 3]? = some (.string (N.getD q ByteArray.empty)) ∧ (((cs.set (k * 3) (.string nm)).set (k * 3 + 1) (.string tt)).set (k * 3 + 2) (.bool nu))[q * 3 + 1]? = some (.string (T.getD q ByteArray.empty)) ∧ (((cs.set (k * 3) (.string nm)).set (k * 3 + 1) (.string tt)).set (k * 3 + 2) (.bool nu))[q * 3 + 2]? = some (.bool (F.getD q false)) := by
        obtain ⟨hl, hq⟩ := hcs.out
        refine ⟨by simpa using hl, fun q hqk => ?_⟩
        by_cases e : q = k
        · subst e
          rw [← HT.out.1, ← HT.out.2.1, ← HT.out.2.2]
          refine ⟨?_, ?_, ?_⟩
          · rw [List.getElem?_set_ne (by omega), List.getElem?_set_ne (by omega), List.getElem?_set_self (by omega)]
          · rw [List.getElem?_set_ne (by omega), List.getElem?_set_self (by simp; omega)]
          · rw [List.getElem?_set_self (by simp; omega)]
        · rw [List.getElem?_set_ne (by omega), List.getElem?_set_ne (by omega), List.getElem?_set_ne (by omega), List.getElem?_set_ne (by omega), List.getElem?_set_ne (by omega), List.getElem?_set_ne (by omega), List.getElem?_set_ne (by omega), List.getElem?_set_ne (by omega), List.getElem?_set_ne (by omega)]
          exact hq q (by omega)
      go_roundw
      case rel => exact ⟨k + 1, _, by omega, by go_num, hcs', hB', (((hbe.setCell (by exact Nat.le_refl _) _).setCell (by exact Nat.le_refl _) _).setCell (by exact Nat.le_refl _) _).drew⟩
      case measure => simp [intOf]; omega
    · obtain rfl : k = n := by omega
      have hCA : CA wr (some ⟨w.heap.size, 0, Option.none⟩) (cols N T F) := by
        intro _
        refine ⟨_, rfl, fun i hi' => ?_⟩
        rw [cols_length] at hi'
        rw [cols_get N T F i hi']
        obtain ⟨p1, p2, p3⟩ := hcs.out.2 i (by have := H1.out; omega)
        exact ⟨hB.cell p1, hB.cell p2, hB.cell p3⟩
      have hRA := hR.below hbe
      have hcl : (cols N T F).length = k := (cols_length N T F).trans H1.out
      have htab := fun (W : World) (x0 : W.cell? ⟨wr.heap.size, 0, Option.none⟩ = some (.slice (some ⟨w.heap.size, 0, Option.none⟩) k k)) (x1 : W.cell? ⟨wr.heap.size, 1, Option.none⟩ = some (.slice a4 m c4)) (x2 : CA W (some ⟨w.heap.size, 0, Option.none⟩) (cols N T F)) (x3 : RA W a4 R) =>
        table17 cp wr.heap.size (some ⟨w.heap.size, 0, Option.none⟩) a4 k c4 k m (cols N T F) R hcl H4.out hbn hbm HRL.out W x0 x1 x2 x3
      have HTAB := (show Hid _ from htab)
      have HCA : Hid (CA wr (some ⟨w.heap.size, 0, Option.none⟩) (cols N T F)) := hCA
      clear htab hCA hcl hcs hB hlt
      go_wp2_with fail
      refine (HTAB.out _ (by simp) (by simp) (HCA.out.below ((Below.refl _ _).alloc (Nat.le_refl _) _)) (hRA.below ((Below.refl _ _).alloc (Nat.le_refl _) _))).mono ?_
      rintro e w2 ⟨ho, ro, hcap, rcap, Q, rfl, ⟨hh0, hh1⟩, ⟨hr0, hr1⟩, hQ, hb2⟩
      go_upto_if 61 with fail
      have hBt := Blk.new w2 #[.string cp, .slice ho k hcap, .slice ro m rcap] 45
      have hbt : Below w.heap.size w (w2.alloc (.cells #[.string cp, .slice ho k hcap, .slice ro m rcap] 45)) := by
        have h1 := hb2.size
        simp only [World.size_alloc] at h1
        have h2 := hbe.size
        exact ((hbe.alloc h2 _).trans (hb2.mono (by simp; omega))).alloc (by omega) _
      have hh1' : 0 < k → ∃ gh, ho = some ⟨gh, 0, Option.none⟩ ∧ PB (w2.alloc (.cells #[.string cp, .slice ho k hcap, .slice ro m rcap] 45)) gh (heads (cols N T F) k) := fun hp => by
        obtain ⟨gh, a, b⟩ := hh1 hp
        exact ⟨gh, a, b.alloc _⟩
      have hr1' : 0 < m → ∃ gq, ro = some ⟨gq, 0, Option.none⟩ ∧ ∀ i, i < m → (w2.alloc (.cells #[.string cp, .slice ho k hcap, .slice ro m rcap] 45)).cell? ⟨gq, i, Option.none⟩ = some (Q.getD i PRow.none).val := fun hp => by
        obtain ⟨gq, a, b⟩ := hr1 hp
        refine ⟨gq, a, fun i hi' => ?_⟩
        have := b i hi'
        rw [World.cell?_of_block (w := w2) (Below.heap_alloc w2 _ gq (World.block_lt_of_cell? _ _ this))]
        exact this
      have hQ' : ∀ i, i < m → PB (w2.alloc (.cells #[.string cp, .slice ho k hcap, .slice ro m rcap] 45)) (Q.getD i PRow.none).g (Q.getD i PRow.none).L ∧ (Q.getD i PRow.none).L = rowpc (cols N T F) (R.getD i RowV.none).ss := fun i hi' => ⟨(hQ i hi').1.alloc _, (hQ i hi').2⟩
      have hst : w2.heap.size + 1 = (w2.alloc (.cells #[.string cp, .slice ho k hcap, .slice ro m rcap] 45)).heap.size := by simp
      generalize hwt : w2.alloc (.cells #[.string cp, .slice ho k hcap, .slice ro m rcap] 45) = wt at hBt hbt hh1' hr1' hQ' hst ⊢
      have HH0 : Hid (k = 0 → ho = Option.none ∧ hcap = 0) := hh0
      have HH1 : Hid (0 < k → ∃ gh, ho = some ⟨gh, 0, Option.none⟩ ∧ PB wt gh (heads (cols N T F) k)) := hh1'
      have HR0 : Hid (m = 0 → ro = Option.none ∧ rcap = 0) := hr0
      have HR1 : Hid (0 < m → ∃ gq, ro = some ⟨gq, 0, Option.none⟩ ∧ ∀ i, i < m → wt.cell? ⟨gq, i, Option.none⟩ = some (Q.getD i PRow.none).val) := hr1'
      have HQQ : Hid (∀ i, i < m → PB wt (Q.getD i PRow.none).g (Q.getD i PRow.none).L ∧ (Q.getD i PRow.none).L = rowpc (cols N T F) (R.getD i RowV.none).ss) := hQ'
      have HST : Hid (w2.heap.size + 1 = wt.heap.size) := hst
      clear hwt hh0 hh1 hh1' hr0 hr1 hr1' hQ hQ' hst hb2 hbe HTAB HCA hRA hi hz0 hz1 hz2
      obtain ⟨i0, hi, hz0, hz1, hz2⟩ := info_parts Try.info9
      obtain ⟨j0, hj, hy0, hy1, hy2⟩ := info_parts Try.info4
      go_cut [18, 19] from 61 to 94 (fun v18 v19 wq => ∃ (hto hno : Option Addr) (hc hnc : Nat), v18 = .slice hto k hc ∧ v19 = .slice hno k hnc ∧ SA wq hto T ∧ BA wq hno F ∧ Hid (hto = Option.none ↔ k = 0) ∧ Below wt.heap.size wt wq)
      case first =>
        by_cases hk0 : k = 0
        · obtain ⟨rfl, rfl⟩ := HH0.out hk0
          have HK0 : Hid (k = 0) := hk0
          clear hk0
          go_wp2
          go_meet
          have hk0 := HK0.out
          exact ⟨Option.none, Option.none, 0, 0, by rw [hk0], by rw [hk0], fun h => absurd h (by rw [H2.out]; omega), fun h => absurd h (by rw [H3.out]; omega), ⟨fun _ => hk0, fun _ => rfl⟩, Below.refl _ _⟩
        · obtain ⟨gh, rfl, hPB⟩ := HH1.out (by omega)
          have ct := hBt.cell (i := 1) (v := .slice (some ⟨gh, 0, Option.none⟩) k hcap) rfl
          go_wp2_with (first
            | (at_make; refine wpList_make_blk rfl (.tmp 64) (.tmp 64) 28 rfl 9 i0 _ Try.underlying28 hi hz0 hz1 rfl 16 hz2 .i64 .i64 _ _ k k (by rfl) (by rfl) rfl rfl (Nat.le_refl _) (by omega) (by omega) ?_; intro w4 hB4 hs4 hb4; have ct4 := (hb4.cell (p := ⟨w2.heap.size, 1, Option.none⟩) hBt.lt).trans ct)
            | (at_make; refine wpList_make_blk rfl (.tmp 68) (.tmp 68) 29 rfl 4 j0 _ Try.underlying29 hj hy0 hy1 rfl 1 hy2 .i64 .i64 _ _ k k (by rfl) (by rfl) rfl rfl (Nat.le_refl _) (by omega) (by omega) ?_; intro w5 hB5 hs5 hb5; have ct5 := (hb5.cell (p := ⟨w2.heap.size, 1, Option.none⟩) (by have := hBt.lt; have := hb4.size; show w2.heap.size < w4.heap.size; omega)).trans ct4))
          have hkp : 0 < k := by omega
          have hbw : Below wt.heap.size wt w5 := hb4.trans (hb5.mono hb4.size)
          have hA5 : Blk w5 wt.heap.size 9 ((List.replicate k ByteArray.empty).map Value.string) := by
            rw [List.map_replicate]; exact hB4.below hb5 (by omega)
          have hF5 : Blk w5 (wt.heap.size + 1) 4 ((List.replicate k false).map Value.bool) := by
            rw [List.map_replicate]; rw [hs4] at hB5; exact hB5
          have hs5' : wt.heap.size + 2 ≤ w5.heap.size := by omega
          clear ct ct4 ct5 hB4 hs4 hb4 hB5 hs5 hb5 hk0
          have HPB : Hid (PB wt gh (heads (cols N T F) k)) := hPB
          clear hPB
          go_loopw [73] (fun qv wr => ∃ (q : Nat) (A : List ByteArray) (G : List Bool), q ≤ k ∧ qv = .int .i64 q ∧ Hid (A.length = k ∧ G.length = k ∧ ∀ p, p < q → A.getD p ByteArray.empty = T.getD p ByteArray.empty ∧ G.getD p false = F.getD p false) ∧ Blk wr wt.heap.size 9 (A.map Value.string) ∧ Blk wr (wt.heap.size + 1) 4 (G.map Value.bool) ∧ Below wt.heap.size wt wr)
            (fun qv _ => k - (intOf qv).toNat)
          case atStart => exact ⟨0, _, _, Nat.zero_le _, rfl, ⟨by simp, by simp, fun p hp => by omega⟩, hA5, hF5, hbw⟩
          case round =>
            clear hA5 hF5 hbw hs5'
            obtain ⟨q, A, G, hq, rfl, hAG, hA, hG, hbw⟩ := hrel
            have ct := (hbw.cell (p := ⟨w2.heap.size, 1, Option.none⟩) hBt.lt).trans (hBt.cell (i := 1) (v := .slice (some ⟨gh, 0, Option.none⟩) k hcap) rfl)
            by_cases hlt : q < k
            · have hpc := (HPB.out.below hbw HPB.out.lt).cells q (by rw [heads_cols_length N T F k H1.out]; exact hlt)
              rw [heads_cols N T F k q H1.out hlt] at hpc
              obtain ⟨p0, p1⟩ := hpc
              simp only at p0 p1
              obtain ⟨tt, htt⟩ : ∃ tt, tt = T.getD q ByteArray.empty := ⟨_, rfl⟩
              obtain ⟨nu, hnu⟩ : ∃ nu, nu = F.getD q false := ⟨_, rfl⟩
              rw [← htt] at p0
              rw [← hnu] at p1
              have HT : Hid (tt = T.getD q ByteArray.empty ∧ nu = F.getD q false) := ⟨htt, hnu⟩
              have y0 := hA.cell (strs_get A q (by have := hAG.out.1; omega))
              have y1 := hG.cell (bools_get G q (by have := hAG.out.2.1; omega))
              have z0 := hA.free q
              have z1 := hG.free q
              obtain ⟨v0, hv0⟩ : ∃ v0, v0 = A.getD q ByteArray.empty := ⟨_, rfl⟩
              obtain ⟨v1, hv1⟩ : ∃ v1, v1 = G.getD q false := ⟨_, rfl⟩
              rw [← hv0] at y0
              rw [← hv1] at y1
              have hgt : w2.heap.size ≠ wt.heap.size := by have := hBt.lt; omega
              have hgh : gh ≠ wt.heap.size := by have := HPB.out.lt; omega
              clear htt hnu hv0 hv1
              go_wp2
              have hA' := (hA.set q (.string tt)).setOther q (.bool nu) (g' := wt.heap.size + 1) (by omega)
              have hG' := (hG.setOther q (.string tt) (g' := wt.heap.size) (by omega)).set q (.bool nu)
              rw [strs_set] at hA'
              rw [bools_set] at hG'
              go_roundw
              case rel =>
                refine ⟨q + 1, A.set q tt, G.set q nu, by omega, by go_num, ⟨by simpa using hAG.out.1, by simpa using hAG.out.2.1, fun p hp => ?_⟩, hA', hG', (hbw.setCell (by exact Nat.le_refl _) _).setCell (by show wt.heap.size ≤ wt.heap.size + 1; omega) _⟩
                obtain ⟨l1, l2, l3⟩ := hAG.out
                rw [getD_set _ _ _ _ (by omega), getD_setB _ _ _ _ (by omega)]
                by_cases e : q = p
                · rw [if_pos e, if_pos e, ← e]; exact HT.out
                · rw [if_neg e, if_neg e]; exact l3 p (by omega)
              case measure => simp [intOf]; omega
            · obtain ⟨l1, l2, l3⟩ := hAG.out
              have eA : A = T := ext_getD (by rw [l1, H2.out]) (fun j hj' => (l3 j (by have := H2.out; omega)).1)
              have eG : G = F := ext_getDB (by rw [l2, H3.out]) (fun j hj' => (l3 j (by have := H3.out; omega)).2)
              rw [eA] at hA
              rw [eG] at hG
              clear eA eG l1 l2 l3 hAG
              go_wp2
              go_meet
              exact ⟨_, _, _, _, rfl, rfl, SA.of_blk hA, BA.of_blk hG, ⟨fun h => by simp at h, fun h => by omega⟩, hbw⟩
      case rest =>
        obtain ⟨hto, hno, hc, hnc, rfl, rfl, hST, hBF, hiff, hbw⟩ := hcut
        clear HH0 HH1
        have HSB : Hid (SA wc hto T ∧ BA wc hno F ∧ (hto = Option.none ↔ k = 0)) := ⟨hST, hBF, hiff.out⟩
        clear hST hBF hiff
        have ct2 := (hbw.cell (p := ⟨w2.heap.size, 2, Option.none⟩) hBt.lt).trans (hBt.cell (i := 2) (v := .slice ro m rcap) rfl)
        have ct0 := (hbw.cell (p := ⟨w2.heap.size, 0, Option.none⟩) hBt.lt).trans (hBt.cell (i := 0) (v := .string cp) rfl)
        by_cases hm0 : m = 0
        · obtain ⟨rfl, rfl⟩ := HR0.out hm0
          have HM0 : Hid (m = 0) := hm0
          clear hm0
          go_wp2
          have hm0 := HM0.out
          refine bodyPost_ret (v := .tuple #[.string cp, .slice hto k hc, .slice hno k hnc, .slice Option.none 0 0, .slice Option.none 0 0]) (by simp [results, Try.results15, go_sem]) rfl ⟨hto, hno, Option.none, Option.none, hc, hnc, 0, 0, [], [], by rw [hm0], ⟨HSB.out.2.2, HSB.out.1, HSB.out.2.1, ⟨fun _ => hm0, fun _ => rfl⟩, by rw [hm0]; rfl, by rw [hm0]; rfl, ⟨fun h => by simp at h, fun i h => by simp at h⟩, ⟨fun h => by simp at h, fun i h => by simp at h⟩, fun i h => by omega⟩, ?_⟩
          have := hbt.size
          exact hbt.trans (hbw.mono this)
        · obtain ⟨gq, rfl, hcq⟩ := HR1.out (by omega)
          have HCQ : Hid (∀ i, i < m → wt.cell? ⟨gq, i, Option.none⟩ = some (Q.getD i PRow.none).val) := hcq
          have hgq : gq < wt.heap.size := World.block_lt_of_cell? _ _ (hcq 0 (by omega))
          clear hcq
          obtain ⟨p0, hp, hpa, hpb, hpc⟩ := info_parts Try.info28
          obtain ⟨q0, hq, hqa, hqb, hqc⟩ := info_parts Try.info29
          go_wp2_with (first
            | (at_make; refine wpList_make_blk rfl (.tmp 100) (.tmp 100) 30 rfl 28 p0 _ Try.underlying30 hp hpa hpb rfl 24 hpc .i64 .i64 _ _ m m (by rfl) (by rfl) rfl rfl (Nat.le_refl _) (by omega) (by omega) ?_; intro w4 hB4 hs4 hb4; have ct4 := (hb4.cell (p := ⟨w2.heap.size, 2, Option.none⟩) (by have := hBt.lt; have := hbw.size; show w2.heap.size < wc.heap.size; omega)).trans ct2)
            | (at_make; refine wpList_make_blk rfl (.tmp 104) (.tmp 104) 36 rfl 29 q0 _ Try.underlying36 hq hqa hqb rfl 24 hqc .i64 .i64 _ _ m m (by rfl) (by rfl) rfl rfl (Nat.le_refl _) (by omega) (by omega) ?_; intro w5 hB5 hs5 hb5; have ct5 := (hb5.cell (p := ⟨w2.heap.size, 2, Option.none⟩) (by have := hBt.lt; have := hbw.size; have := hb4.size; show w2.heap.size < w4.heap.size; omega)).trans ct4))
          have hbw5 : Below wt.heap.size wt w5 := (hbw.trans (hb4.mono hbw.size)).trans (hb5.mono (by have := hbw.size; have := hb4.size; omega))
          have hSB5 : SA w5 hto T ∧ BA w5 hno F := by
            have hb45 : Below wc.heap.size wc w5 := hb4.trans (hb5.mono hb4.size)
            exact ⟨HSB.out.1.below hb45, HSB.out.2.1.below hb45⟩
          have hiff := HSB.out.2.2
          have hX : Blk w5 wc.heap.size 28 ((List.replicate m RowV.none).map RowV.val) := by
            rw [List.map_replicate]; exact hB4.below hb5 (by omega)
          have hY : Blk w5 (wc.heap.size + 1) 29 ((List.replicate m BRow.none).map BRow.val) := by
            rw [List.map_replicate]; rw [hs4] at hB5; exact hB5
          have hwt := hbw.size
          have h5s : wc.heap.size + 2 = w5.heap.size := by omega
          have HIF : Hid (hto = Option.none ↔ k = 0) := hiff
          have HSB5 : Hid (SA w5 hto T ∧ BA w5 hno F) := hSB5
          have H5 : Hid (wc.heap.size + 2 = w5.heap.size) := h5s
          have hmp : 0 < m := by omega
          clear hB4 hs4 hb4 hB5 hs5 hb5 ct4 ct5 ct2 ct0 hbw HSB hiff hSB5 h5s hm0 hp hpa hpb hpc hq hqa hqb hqc HR0 HR1
          go_loopw [109] (fun iv wr => ∃ (i : Nat) (TS : List RowV) (BS : List BRow), i ≤ m ∧ iv = .int .i64 i ∧ TS.length = m ∧ BS.length = m ∧
              Hid (∀ j, j < i → SA wr (TS.getD j RowV.none).ao (TS.getD j RowV.none).ss ∧ BA wr (BS.getD j BRow.none).ao (BS.getD j BRow.none).fs ∧ (TS.getD j RowV.none).ss = (R.getD j RowV.none).ss ∧ (TS.getD j RowV.none).ao ≠ Option.none ∧ (BS.getD j BRow.none).ao ≠ Option.none ∧ (BS.getD j BRow.none).fs.length = (R.getD j RowV.none).ss.length ∧
                ∀ q, q < (R.getD j RowV.none).ss.length → (BS.getD j BRow.none).fs.getD q false = F.getD q false) ∧
              Blk wr wc.heap.size 28 (TS.map RowV.val) ∧ Blk wr (wc.heap.size + 1) 29 (BS.map BRow.val) ∧ Below wt.heap.size wt wr ∧ Hid (SA wr hto T ∧ BA wr hno F))
            (fun iv _ => m - (intOf iv).toNat)
          case atStart => exact ⟨0, _, _, Nat.zero_le _, rfl, by simp, by simp, fun j hj' => by omega, hX, hY, hbw5, HSB5.out⟩
          case round =>
            clear hX hY hbw5 HSB5 H5
            obtain ⟨i, TS, BS, hi', rfl, hTS, hBS, hS, hX, hY, hbr, hSB⟩ := hrel
            obtain ⟨wo, rfl⟩ : ∃ wo, wo = wr := ⟨_, rfl⟩
            have ct2 := (hbr.cell (p := ⟨w2.heap.size, 2, Option.none⟩) hBt.lt).trans (hBt.cell (i := 2) (v := .slice (some ⟨gq, 0, Option.none⟩) m rcap) rfl)
            have ct0 := (hbr.cell (p := ⟨w2.heap.size, 0, Option.none⟩) hBt.lt).trans (hBt.cell (i := 0) (v := .string cp) rfl)
            by_cases hlt : i < m
            · have cq := (hbr.cell (p := ⟨gq, i, Option.none⟩) hgq).trans (HCQ.out i hlt)
              obtain ⟨hPBi, hLi⟩ := HQQ.out i hlt
              have hPBo := hPBi.below hbr hPBi.lt
              obtain ⟨P, hP⟩ : ∃ P, P = Q.getD i PRow.none := ⟨_, rfl⟩
              rw [← hP] at cq hPBo hLi
              obtain ⟨gp, L⟩ := P
              simp only [PRow.val] at cq hPBo hLi
              have hLl : L.length = (R.getD i RowV.none).ss.length := by rw [hLi, rowpc_length]
              have hrl := HRL.out i hlt
              obtain ⟨ln, hln⟩ : ∃ ln, ln = L.length := ⟨_, rfl⟩
              rw [← hln] at cq hLl
              rw [← hLl] at hrl
              have HLN : Hid (ln = L.length ∧ ln = (R.getD i RowV.none).ss.length ∧ L = rowpc (cols N T F) (R.getD i RowV.none).ss) := ⟨hln, hLl, hLi⟩
              have HPBo : Hid (PB wo gp L) := hPBo
              have HTS : Hid (TS.length = m ∧ BS.length = m) := ⟨hTS, hBS⟩
              clear hP hPBi hPBo hLi hLl hln hTS hBS
              go_wp2_with (first
                | (at_make; refine wpList_make_blk rfl (.tmp 120) (.tmp 120) 28 rfl 9 i0 _ Try.underlying28 hi hz0 hz1 rfl 16 hz2 .i64 .i64 _ _ ln ln (by rfl) (by rfl) rfl rfl (Nat.le_refl _) (by omega) (by omega) ?_; intro w6 hB6 hs6 hb6)
                | (at_make; refine wpList_make_blk rfl (.tmp 123) (.tmp 123) 29 rfl 4 j0 _ Try.underlying29 hj hy0 hy1 rfl 1 hy2 .i64 .i64 _ _ ln ln (by rfl) (by rfl) rfl rfl (Nat.le_refl _) (by omega) (by omega) ?_; intro w7 hB7 hs7 hb7))
              have hA7 : Blk w7 wo.heap.size 9 ((List.replicate ln ByteArray.empty).map Value.string) := by
                rw [List.map_replicate]; exact hB6.below hb7 (by omega)
              have hF7 : Blk w7 (wo.heap.size + 1) 4 ((List.replicate ln false).map Value.bool) := by
                rw [List.map_replicate]; rw [hs6] at hB7; exact hB7
              have hbw7 : Below wo.heap.size wo w7 := hb6.trans (hb7.mono hb6.size)
              clear hB6 hs6 hb6 hB7 hs7 hb7
              go_loopw [127] (fun qv wr => ∃ (q : Nat) (A : List ByteArray) (G : List Bool), q ≤ ln ∧ qv = .int .i64 q ∧ Hid (A.length = ln ∧ G.length = ln ∧ ∀ p, p < q → A.getD p ByteArray.empty = (R.getD i RowV.none).ss.getD p ByteArray.empty ∧ G.getD p false = F.getD p false) ∧ Blk wr wo.heap.size 9 (A.map Value.string) ∧ Blk wr (wo.heap.size + 1) 4 (G.map Value.bool) ∧ Below wo.heap.size wo wr)
                (fun qv _ => ln - (intOf qv).toNat)
              case atStart => exact ⟨0, _, _, Nat.zero_le _, rfl, ⟨by simp, by simp, fun p hp => by omega⟩, hA7, hF7, hbw7⟩
              case round =>
                clear hA7 hF7 hbw7
                obtain ⟨q, A, G, hq, rfl, hAG, hA, hG, hbw⟩ := hrel
                by_cases hltq : q < ln
                · have hpc := (HPBo.out.below hbw HPBo.out.lt).cells q (by have := HLN.out.1; omega)
                  rw [HLN.out.2.2, rowpc_get _ _ q (by have := HLN.out.2.1; omega), cols_get N T F q (by have := H1.out; omega)] at hpc
                  obtain ⟨p0, p1⟩ := hpc
                  simp only at p0 p1
                  obtain ⟨tt, htt⟩ : ∃ tt, tt = (R.getD i RowV.none).ss.getD q ByteArray.empty := ⟨_, rfl⟩
                  obtain ⟨nu, hnu⟩ : ∃ nu, nu = F.getD q false := ⟨_, rfl⟩
                  rw [← htt] at p0
                  rw [← hnu] at p1
                  have HT : Hid (tt = (R.getD i RowV.none).ss.getD q ByteArray.empty ∧ nu = F.getD q false) := ⟨htt, hnu⟩
                  have y0 := hA.cell (strs_get A q (by have := hAG.out.1; omega))
                  have y1 := hG.cell (bools_get G q (by have := hAG.out.2.1; omega))
                  have z0 := hA.free q
                  have z1 := hG.free q
                  obtain ⟨v0, hv0⟩ : ∃ v0, v0 = A.getD q ByteArray.empty := ⟨_, rfl⟩
                  obtain ⟨v1, hv1⟩ : ∃ v1, v1 = G.getD q false := ⟨_, rfl⟩
                  rw [← hv0] at y0
                  rw [← hv1] at y1
                  have hgh : gp ≠ wo.heap.size := by have := HPBo.out.lt; omega
                  clear htt hnu hv0 hv1
                  go_wp2
                  have hA' := (hA.set q (.string tt)).setOther q (.bool nu) (g' := wo.heap.size + 1) (by omega)
                  have hG' := (hG.setOther q (.string tt) (g' := wo.heap.size) (by omega)).set q (.bool nu)
                  rw [strs_set] at hA'
                  rw [bools_set] at hG'
                  go_roundw
                  case rel =>
                    refine ⟨q + 1, A.set q tt, G.set q nu, by omega, by go_num, ⟨by simpa using hAG.out.1, by simpa using hAG.out.2.1, fun p hp => ?_⟩, hA', hG', (hbw.setCell (by exact Nat.le_refl _) _).setCell (by show wo.heap.size ≤ wo.heap.size + 1; omega) _⟩
                    obtain ⟨l1, l2, l3⟩ := hAG.out
                    rw [getD_set _ _ _ _ (by omega), getD_setB _ _ _ _ (by omega)]
                    by_cases e : q = p
                    · rw [if_pos e, if_pos e, ← e]; exact HT.out
                    · rw [if_neg e, if_neg e]; exact l3 p (by omega)
                  case measure => simp [intOf]; omega
                · obtain ⟨l1, l2, l3⟩ := hAG.out
                  have eA : A = (R.getD i RowV.none).ss := ext_getD (by rw [l1]; exact HLN.out.2.1) (fun j hj' => (l3 j (by have := HLN.out.2.1; omega)).1)
                  have hXr := hX.below hbw hX.lt
                  have hYr := hY.below hbw hY.lt
                  have y0 := hXr.cell (rows_get TS i (by have := HTS.out.1; omega))
                  have y1 := hYr.cell (brows_get BS i (by have := HTS.out.2; omega))
                  have z0 := hXr.free i
                  have z1 := hYr.free i
                  obtain ⟨v0, hv0⟩ : ∃ v0, v0 = (TS.getD i RowV.none).val := ⟨_, rfl⟩
                  obtain ⟨v1, hv1⟩ : ∃ v1, v1 = (BS.getD i BRow.none).val := ⟨_, rfl⟩
                  rw [← hv0] at y0
                  rw [← hv1] at y1
                  have hSA := SA.of_blk hA
                  have hBA := BA.of_blk hG
                  have HL : Hid (A.length = ln ∧ G.length = ln ∧ A = (R.getD i RowV.none).ss ∧ ∀ p, p < ln → G.getD p false = F.getD p false) := ⟨l1, l2, eA, fun p hp => (l3 p (by omega)).2⟩
                  have HX : Hid (Blk wr wc.heap.size 28 (TS.map RowV.val) ∧ Blk wr (wc.heap.size + 1) 29 (BS.map BRow.val) ∧ SA wr (some ⟨wo.heap.size, 0, Option.none⟩) A ∧ BA wr (some ⟨wo.heap.size + 1, 0, Option.none⟩) G) := ⟨hXr, hYr, hSA, hBA⟩
                  clear hv0 hv1 l1 l2 l3 eA hAG hXr hYr hSA hBA
                  go_wp2
                  obtain ⟨kX, kY, kS, kB⟩ := HX.out
                  obtain ⟨l1, l2, eA, l3⟩ := HL.out
                  obtain ⟨t1, t2⟩ := HTS.out
                  have hX' := (kX.set i (RowV.val ⟨some ⟨wo.heap.size, 0, Option.none⟩, ln, A⟩)).setOther i (BRow.val ⟨some ⟨wo.heap.size + 1, 0, Option.none⟩, ln, G⟩) (g' := wc.heap.size + 1) (by omega)
                  have hY' := (kY.setOther i (RowV.val ⟨some ⟨wo.heap.size, 0, Option.none⟩, ln, A⟩) (g' := wc.heap.size) (by omega)).set i (BRow.val ⟨some ⟨wo.heap.size + 1, 0, Option.none⟩, ln, G⟩)
                  rw [rows_set] at hX'
                  rw [brows_set] at hY'
                  have kSA := fun (ao : Option Addr) (ss : List ByteArray) (h : SA wr ao ss) => keepS kX kY h i (RowV.val ⟨some ⟨wo.heap.size, 0, Option.none⟩, ln, A⟩) (BRow.val ⟨some ⟨wo.heap.size + 1, 0, Option.none⟩, ln, G⟩)
                  have kBA := fun (ao : Option Addr) (fs : List Bool) (h : BA wr ao fs) => keepB kX kY h i (RowV.val ⟨some ⟨wo.heap.size, 0, Option.none⟩, ln, A⟩) (BRow.val ⟨some ⟨wo.heap.size + 1, 0, Option.none⟩, ln, G⟩)
                  have eR : RowV.val ⟨some ⟨wo.heap.size, 0, Option.none⟩, ln, A⟩ = .slice (some ⟨wo.heap.size, 0, Option.none⟩) ln ln := by rw [RowV.val, l1]
                  have eB : BRow.val ⟨some ⟨wo.heap.size + 1, 0, Option.none⟩, ln, G⟩ = .slice (some ⟨wo.heap.size + 1, 0, Option.none⟩) ln ln := by rw [BRow.val, l2]
                  rw [eR, eB] at hX' hY' kSA kBA
                  have hall : Below wt.heap.size wt wr := hbr.trans (hbw.mono hbr.size)
                  go_roundw
                  case rel =>
                    refine ⟨i + 1, TS.set i ⟨some ⟨wo.heap.size, 0, Option.none⟩, ln, A⟩, BS.set i ⟨some ⟨wo.heap.size + 1, 0, Option.none⟩, ln, G⟩, by omega, by go_num, by simpa using t1, by simpa using t2, fun j hj' => ?_, hX', hY', (hall.setCell (by exact hwt) _).setCell (by show wt.heap.size ≤ wc.heap.size + 1; omega) _, ⟨kSA _ _ (hSB.out.1.below hbw), kBA _ _ (hSB.out.2.below hbw)⟩⟩
                    rw [getD_setR _ _ _ _ (by omega), getD_setBR _ _ _ _ (by omega)]
                    by_cases e : i = j
                    · rw [if_pos e, if_pos e, ← e]
                      exact ⟨kSA _ _ kS, kBA _ _ kB, eA, by simp, by simp, by rw [← HLN.out.2.1]; exact l2, fun q hq' => l3 q (by have := HLN.out.2.1; omega)⟩
                    · rw [if_neg e, if_neg e]
                      obtain ⟨s1, s2, s3⟩ := hS.out j (by omega)
                      exact ⟨kSA _ _ (s1.below hbw), kBA _ _ (s2.below hbw), s3⟩
                  case measure => simp [intOf]; omega
            · obtain rfl : i = m := by omega
              go_wp2
              refine bodyPost_ret (v := .tuple #[.string cp, .slice hto k hc, .slice hno k hnc, .slice (some ⟨wc.heap.size, 0, Option.none⟩) i i, .slice (some ⟨wc.heap.size + 1, 0, Option.none⟩) i i]) (by simp [results, Try.results15, go_sem]) rfl ⟨hto, hno, some ⟨wc.heap.size, 0, Option.none⟩, some ⟨wc.heap.size + 1, 0, Option.none⟩, hc, hnc, i, i, TS, BS, rfl, ⟨HIF.out, hSB.out.1, hSB.out.2, ⟨fun h => by simp at h, fun h => by omega⟩, hTS, hBS, ⟨fun _ => ⟨_, 0, rfl, fun j hj' => ?_⟩, fun j hj' => (hS.out j (by omega)).1⟩, ⟨fun _ => ⟨_, 0, rfl, fun j hj' => ?_⟩, fun j hj' => (hS.out j (by omega)).2.1⟩, fun j hj' => (hS.out j hj').2.2⟩, hbt.trans (hbr.mono hbt.size)⟩
              · rw [Nat.zero_add]; exact hX.cell (rows_get TS j hj')
              · rw [Nat.zero_add]; exact hY.cell (brows_get BS j hj')
end Go.Proofs.Qxb6000093a
