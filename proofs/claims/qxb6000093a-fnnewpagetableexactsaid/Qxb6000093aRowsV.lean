import Derived.Test.Qxb6000093aClone
namespace Go.Proofs.Qxb6000093a
open Go.RowKit

/-- A row: its slice's address and capacity, its strings. -/
structure RowV where
  ao : Option Addr
  cap : Nat
  ss : List ByteArray
def RowV.none : RowV := ⟨Option.none, 0, []⟩
def RowV.val (r : RowV) : Value := .slice r.ao r.ss.length r.cap

/-- A slice of rows at an address. -/
def RA (w : World) (ao : Option Addr) (rs : List RowV) : Prop :=
  (0 < rs.length → ∃ b off, ao = some ⟨b, off, Option.none⟩ ∧ ∀ i, i < rs.length → w.cell? ⟨b, off + i, Option.none⟩ = some (rs.getD i RowV.none).val) ∧
  ∀ i, i < rs.length → SA w (rs.getD i RowV.none).ao (rs.getD i RowV.none).ss

theorem RA.below {w w' : World} {ao : Option Addr} {rs : List RowV} (h : RA w ao rs) (hb : Below w.heap.size w w') : RA w' ao rs := by
  refine ⟨fun hp => ?_, fun i hi => (h.2 i hi).below hb⟩
  obtain ⟨b, off, e, hc⟩ := h.1 hp
  exact ⟨b, off, e, fun i hi => (hb.cell (p := ⟨b, off + i, Option.none⟩) (World.block_lt_of_cell? _ _ (hc i hi))).trans (hc i hi)⟩

/-- A cell that is none of a block's cells lies in another block. -/
theorem Blk.apart {w : World} {g : Nat} {t : TypeId} {cs : List Value} (h : Blk w g t cs) {b o : Nat} {u : Value} (hc : w.cell? ⟨b, o, Option.none⟩ = some u) (hu : u ∉ cs) : b ≠ g := by
  rintro rfl
  unfold Blk at h
  have : cs[o]? = some u := by simpa [World.cell?, h] using hc
  exact hu (List.mem_of_getElem? this)

theorem cell_set_other {w : World} {g : Nat} {t : TypeId} {cs : List Value} (h : Blk w g t cs) {b o : Nat} {u : Value} (hc : w.cell? ⟨b, o, Option.none⟩ = some u) (hu : u ∉ cs) (i : Nat) (v : Value) :
    (w.setCell ⟨g, i, Option.none⟩ v).cell? ⟨b, o, Option.none⟩ = some u := by
  have hne := h.apart hc hu
  rw [World.cell?_of_block (w := w) (Below.heap_setCell w ⟨g, i, Option.none⟩ v b hne)]
  exact hc

theorem SA.set {w : World} {ao : Option Addr} {ss : List ByteArray} (h : SA w ao ss) {g : Nat} {t : TypeId} {cs : List Value} (hB : Blk w g t cs) (hu : ∀ s, Value.string s ∉ cs) (i : Nat) (v : Value) : SA (w.setCell ⟨g, i, Option.none⟩ v) ao ss := by
  intro hp
  obtain ⟨b, off, e, hc⟩ := h hp
  exact ⟨b, off, e, fun j hj => cell_set_other hB (hc j hj) (hu _) i v⟩
theorem BA.set {w : World} {ao : Option Addr} {fs : List Bool} (h : BA w ao fs) {g : Nat} {t : TypeId} {cs : List Value} (hB : Blk w g t cs) (hu : ∀ f, Value.bool f ∉ cs) (i : Nat) (v : Value) : BA (w.setCell ⟨g, i, Option.none⟩ v) ao fs := by
  intro hp
  obtain ⟨b, off, e, hc⟩ := h hp
  exact ⟨b, off, e, fun j hj => cell_set_other hB (hc j hj) (hu _) i v⟩

theorem no_str_rows (L : List RowV) (s : ByteArray) : Value.string s ∉ L.map RowV.val := by
  intro h
  obtain ⟨r, _, e⟩ := List.mem_map.1 h
  simp [RowV.val] at e

theorem rows_get (L : List RowV) (k : Nat) (h : k < L.length) : (L.map RowV.val)[k]? = some (L.getD k RowV.none).val := by
  simp [h, List.getD]
theorem rows_set (L : List RowV) (k : Nat) (r : RowV) : (L.map RowV.val).set k r.val = (L.set k r).map RowV.val := by
  rw [List.map_set]
theorem getD_setR (L : List RowV) (i j : Nat) (v : RowV) (hj : j < L.length) : (L.set i v).getD j RowV.none = if i = j then v else L.getD j RowV.none := by
  simp only [List.getD, List.getElem?_set]
  by_cases h : i = j
  · subst h; simp [hj]
  · simp [h]

set_option maxHeartbeats 400000 in
theorem cloneR_some (a : Addr) (cap n : Nat) (rs : List RowV) (hn : rs.length = n) (hbig : n ≤ 1048576) (hrl : ∀ i, i < n → (rs.getD i RowV.none).ss.length ≤ 1048576) (w : World) (hS : RA w (some a) rs) :
    Calls Try.prog 14 #[.slice (some a) n cap] w fun e w' => e = .returned (.slice (some ⟨w.heap.size, 0, Option.none⟩) n n) ∧ (∃ L : List RowV, L.length = n ∧ (∀ i, i < n → (L.getD i RowV.none).ss = (rs.getD i RowV.none).ss) ∧ RA w' (some ⟨w.heap.size, 0, Option.none⟩) L) ∧ Below w.heap.size w w' := by
  have HN : Hid (rs.length = n) := hn
  have HRL : Hid (∀ i, i < n → (rs.getD i RowV.none).ss.length ≤ 1048576) := hrl
  clear hn hrl
  obtain ⟨i0, hi, hz0, hz1, hz2⟩ := info_parts Try.info28
  have hne := fun w : World => Lib.run_eql_slice_nil (P := Try.prog) w 30 28 (some a) n cap 0 0 Try.underlying30
  go_enter Try.func14, Try.ntmps14
  go_wp2_with (at_make; refine wpList_make_blk rfl (.tmp 8) (.tmp 8) 30 rfl 28 i0 _ Try.underlying30 hi hz0 hz1 rfl 24 hz2 .i64 .i64 _ _ n n rfl rfl rfl rfl (Nat.le_refl _) (by omega) (by omega) ?_; intro w1 hB1 hsz1 hb1)
  have HB1 : Hid (Blk w1 w.heap.size 28 ((List.replicate n RowV.none).map RowV.val)) := by unfold Hid; simpa [RowV.val, RowV.none] using hB1
  clear hB1 hsz1 hne
  go_loopw [4] (fun i wr => ∃ k : Nat, k ≤ n ∧ i = .int .i64 k ∧ ∃ L : List RowV, L.length = n ∧ Hid (∀ j, j < k → (L.getD j RowV.none).ss = (rs.getD j RowV.none).ss ∧ SA wr (L.getD j RowV.none).ao (L.getD j RowV.none).ss) ∧ Blk wr w.heap.size 28 (L.map RowV.val) ∧ Below w.heap.size w wr)
    (fun i _ => n - (intOf i).toNat)
  case atStart => exact ⟨0, Nat.zero_le _, rfl, List.replicate n RowV.none, by simp, fun j hj => by omega, HB1.out, hb1⟩
  case round =>
    obtain ⟨k, hk, rfl, L, hL, hE, hB, hBe⟩ := hrel
    by_cases hlt : k < n
    · obtain ⟨b, off, hab, hc⟩ := hS.1 (by have := HN.out; omega)
      obtain rfl : a = ⟨b, off, Option.none⟩ := by simpa using hab
      have hcell : wr.cell? ⟨b, off + k, Option.none⟩ = some (rs.getD k RowV.none).val := (hBe.cell (World.block_lt_of_cell? _ _ (hc k (by have := HN.out; omega)))).trans (hc k (by have := HN.out; omega))
      have hSA := ((hS.below hBe).2 k (by have := HN.out; omega))
      have hlen := HRL.out k hlt
      obtain ⟨r, hr⟩ : ∃ r, r = rs.getD k RowV.none := ⟨_, rfl⟩
      rw [← hr] at hcell hSA hlen
      have HR : Hid (r = rs.getD k RowV.none) := hr
      obtain ⟨ro, rc, rl⟩ := r
      simp only [RowV.val] at hcell hSA hlen
      have hg := hB.cell (rows_get L k (by omega))
      have hf := hB.free k
      obtain ⟨r0, hr0⟩ : ∃ r0, r0 = (L.getD k RowV.none).val := ⟨_, rfl⟩
      rw [← hr0] at hg
      have HLn : Hid (L.length = n) := hL
      have HSA : Hid (SA wr ro rl) := hSA
      clear hr hc hr0 hL hS hab hSA
      go_wp2_with fail
      refine (clone12 ro rc _ rl rfl hlen wr HSA.out).mono ?_
      rintro e w2 ⟨ao', cap', rfl, hSA2, hb2⟩
      have hB2 := hB.below hb2 hB.lt
      have hg2 := hb2.cell (p := ⟨w.heap.size, k, Option.none⟩) hB.lt
      rw [hg] at hg2
      have hf2 := hB2.free k
      go_wp2
      have hB' := hB2.set k (RowV.val ⟨ao', cap', rl⟩)
      rw [rows_set] at hB'
      go_roundw
      case rel =>
        refine ⟨k + 1, by omega, by go_num, L.set k ⟨ao', cap', rl⟩, by simpa using HLn.out, ?_, hB', (hBe.trans (hb2.mono hBe.size)).setCell (by exact Nat.le_refl _) _⟩
        intro j hj
        rw [getD_setR _ _ _ _ (by have := HLn.out; omega)]
        by_cases h1 : k = j
        · rw [if_pos h1, ← h1, ← HR.out]
          exact ⟨rfl, hSA2.set hB2 (no_str_rows L) k _⟩
        · rw [if_neg h1]
          exact ⟨(hE.out j (by omega)).1, ((hE.out j (by omega)).2.below hb2).set hB2 (no_str_rows L) k _⟩
      case measure => simp [intOf]; omega
    · clear HB1 hb1
      go_wp2
      go_ret
      refine ⟨rfl, ⟨L, hL, fun i hi => (hE.out i (by omega)).1, ?_, fun i hi => (hE.out i (by omega)).2⟩, hBe⟩
      intro _
      exact ⟨_, 0, rfl, fun i hi => by rw [Nat.zero_add]; exact hB.cell (rows_get L i hi)⟩

/-- 'cloneRows'. -/
theorem clone14 (ao : Option Addr) (cap n : Nat) (rs : List RowV) (hn : rs.length = n) (hbig : n ≤ 1048576) (hrl : ∀ i, i < n → (rs.getD i RowV.none).ss.length ≤ 1048576) (w : World) (hS : RA w ao rs) :
    Calls Try.prog 14 #[.slice ao n cap] w fun e w' => ∃ (ao' : Option Addr) (cap' : Nat) (L : List RowV), e = .returned (.slice ao' n cap') ∧ L.length = n ∧ (∀ i, i < n → (L.getD i RowV.none).ss = (rs.getD i RowV.none).ss) ∧ RA w' ao' L ∧ Below w.heap.size w w' := by
  cases ao with
  | some a =>
    refine (cloneR_some a cap n rs hn hbig hrl w hS).mono fun e w' ⟨h1, ⟨L, h2, h3, h4⟩, h5⟩ => ?_
    exact ⟨_, _, L, h1, h2, h3, h4, h5⟩
  | none =>
    have h0 : n = 0 := by
      rcases Nat.eq_zero_or_pos n with h | h
      · exact h
      · obtain ⟨b, off, e, _⟩ := hS.1 (by omega)
        simp at e
    subst h0
    have hne := fun w : World => Lib.run_eql_slice_nil (P := Try.prog) w 30 28 Option.none 0 cap 0 0 Try.underlying30
    go_enter Try.func14, Try.ntmps14
    go_wp2
    go_ret
    exact ⟨Option.none, 0, [], rfl, rfl, fun i hi => by omega, ⟨fun h => by simp at h, fun i hi => by simp at hi⟩, Below.refl _ _⟩
end Go.Proofs.Qxb6000093a
