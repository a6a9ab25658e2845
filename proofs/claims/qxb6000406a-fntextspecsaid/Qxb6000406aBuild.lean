import Derived.Test.Qxb6000406aElem
import Derived.Deep.RegionWith
namespace Go.Proofs.Qxb6000406a
open Go.RowKit

/-- The node is the one that the three inputs ask for. -/
def NOK (nd : NodeV) (t g : ByteArray) (f : Bool) : Prop := (f = true → nd.el ≠ none) ∧ (f = false → nd.el = none ∧ nd.text = t ∧ nd.target.toList.isEmpty = g.toList.isEmpty)
theorem empty_isEmpty : ByteArray.empty.toList.isEmpty = true := by kernel_rfl

/-- The first k nodes are as asked for. -/
def AllNOK (T G : List ByteArray) (F : List Bool) (L : List NodeV) : Prop := ∀ j, j < L.length → NOK (L.getD j NodeV.none) (T.getD j ByteArray.empty) (G.getD j ByteArray.empty) (F.getD j false)
theorem AllNOK.snoc {T G : List ByteArray} {F : List Bool} {L : List NodeV} (h : AllNOK T G F L) (nd : NodeV) (hn : NOK nd (T.getD L.length ByteArray.empty) (G.getD L.length ByteArray.empty) (F.getD L.length false)) : AllNOK T G F (L ++ [nd]) := by
  intro j hj
  simp at hj
  by_cases e : j < L.length
  · have : (L ++ [nd]).getD j NodeV.none = L.getD j NodeV.none := by
      simp only [List.getD, List.getElem?_append_left e]
    rw [this]; exact h j e
  · obtain rfl : j = L.length := by omega
    have : (L ++ [nd]).getD L.length NodeV.none = nd := by simp [List.getD]
    rw [this]; exact hn

set_option maxHeartbeats 4000000 in
/-- 'buildFlat'. -/
theorem build10 (a1 a2 a3 : Option Addr) (c1 c2 c3 n : Nat) (T G : List ByteArray) (F : List Bool) (h1 : T.length = n) (h2 : G.length = n) (h3 : F.length = n) (hn : n ≤ 1048576)
    (w : World) (hT : SA w a1 T) (hG : SA w a2 G) (hF : BA w a3 F) :
    Calls Try.prog 10 #[.slice a1 n c1, .slice a2 n c2, .slice a3 n c3] w fun e w' => ∃ L : List NodeV, e = .returned (.pointer (some ⟨w.heap.size, 0, none⟩)) ∧ ElAt w' w.heap.size w.heap.size L ∧ L.length = n ∧ AllNOK T G F L ∧ Below w.heap.size w w' := by
  have H1 : Hid (T.length = n) := h1
  have H2 : Hid (G.length = n) := h2
  have H3 : Hid (F.length = n) := h3
  clear h1 h2 h3
  go_enter Try.func10, Try.ntmps10
  go_wp2_with (go_at_call 21; refine (new21 _ _ _).mono ?_; rintro e w1 ⟨rfl, hE1, hb1⟩)
  go_loopw [8] (fun iv wr => ∃ (k : Nat) (L : List NodeV), k ≤ n ∧ iv = .int .i64 k ∧ L.length = k ∧ ElAt wr w.heap.size w.heap.size L ∧ Below w.heap.size w wr ∧ Hid (AllNOK T G F L)) (fun iv _ => n - (intOf iv).toNat)
  case atStart => exact ⟨0, [], Nat.zero_le _, rfl, rfl, hE1, hb1, fun j hj => by simp at hj⟩
  case round =>
    clear hE1 hb1
    obtain ⟨k, L, hk, rfl, hL, hE, hbe, hall⟩ := hrel
    have hBw := hbe.size
    have HL : Hid (L.length = k) := hL
    by_cases hlt : k < n
    · obtain ⟨b1, o1, rfl, x1⟩ := (hT.below hbe) (by have := H1.out; omega)
      obtain ⟨b2, o2, rfl, x2⟩ := (hG.below hbe) (by have := H2.out; omega)
      obtain ⟨b3, o3, rfl, x3⟩ := (hF.below hbe) (by have := H3.out; omega)
      have y1 := x1 k (by have := H1.out; omega)
      have y2 := x2 k (by have := H2.out; omega)
      have y3 := x3 k (by have := H3.out; omega)
      obtain ⟨t, ht⟩ : ∃ t, t = T.getD k ByteArray.empty := ⟨_, rfl⟩
      obtain ⟨g, hg⟩ : ∃ g, g = G.getD k ByteArray.empty := ⟨_, rfl⟩
      obtain ⟨f, hf⟩ : ∃ f, f = F.getD k false := ⟨_, rfl⟩
      rw [← ht] at y1
      rw [← hg] at y2
      rw [← hf] at y3
      have HT : Hid (t = T.getD k ByteArray.empty ∧ g = G.getD k ByteArray.empty ∧ f = F.getD k false) := ⟨ht, hg, hf⟩
      have hlt1 := World.block_lt_of_cell? _ _ y1
      have hll : L.length ≤ 1048576 := by omega
      have HE : Hid (ElAt wr w.heap.size w.heap.size L) := hE
      clear ht hg hf x1 x2 x3 hE
      have hnext := fun (nd : NodeV) (hnd : NOK nd t g f) => hall.out.snoc nd (by rw [HL.out, ← HT.out.1, ← HT.out.2.1, ← HT.out.2.2]; exact hnd)
      have HN : Hid (∀ nd : NodeV, NOK nd t g f → AllNOK T G F (L ++ [nd])) := hnext
      clear hnext hL
      cases f with
      | true =>
        go_wp2_with (first
          | (go_at_call 21; refine (new21 _ _ _).mono ?_; rintro e w2 ⟨rfl, hE2, hb2⟩; have y1' := (hb2.cell (p := ⟨b1, o1 + k, Option.none⟩) hlt1).trans y1)
          | (go_at_call 22; refine (add22 wr.heap.size wr.heap.size [] t w2 hE2 (by simp) hb2.size).mono ?_; rintro e w3 ⟨rfl, hE3, hb3⟩))
        have hb23 := hb2.trans hb3
        have hEl := HE.out.below hb23
        obtain ⟨q0, ccs, cv, q1, q2, q3, q4⟩ := hE3
        have hltb := HE.out.lt
        go_wp2_with (go_at_call 24; refine (add24 w.heap.size w.heap.size wr.heap.size L ccs w3 hEl hll (by have := hb23.size; omega) q1 q2 (by omega) (by omega)).mono ?_; rintro e w4 ⟨rfl, hE4, hb4⟩)
        go_roundw
        case rel => exact ⟨k + 1, _, by omega, by go_num, by simp; exact HL.out, hE4, (hbe.trans (hb23.mono hBw)).trans hb4, HN.out _ ⟨fun _ => by simp, fun h => by cases h⟩⟩
        case measure => simp [intOf]; omega
      | false =>
        by_cases hgz : g.toList.isEmpty = true
        · go_wp2_with (go_at_call 22; refine (add22 w.heap.size w.heap.size L t wr HE.out hll hBw).mono ?_; rintro e w3 ⟨rfl, hE3, hb3⟩)
          go_roundw
          case rel => exact ⟨k + 1, _, by omega, by go_num, by simp; exact HL.out, hE3, hbe.trans hb3, HN.out _ ⟨fun h => (by cases h), fun _ => ⟨rfl, rfl, by rw [hgz]; exact empty_isEmpty⟩⟩⟩
          case measure => simp [intOf]; omega
        · have hgz' : g.toList.isEmpty = false := by simpa using hgz
          go_wp2_with fail
          go_region_with (go_at_call 23; refine (add23 w.heap.size w.heap.size L g t _ (by exact HE.out) hll (by exact hBw)).mono ?_; rintro e w3 ⟨rfl, hE3, hb3⟩)
          all_goals
            go_wp2
            go_roundw
            case rel => exact ⟨k + 1, _, by omega, by go_num, by simp; exact HL.out, hE3, hbe.drew.trans hb3, HN.out _ ⟨fun h => (by cases h), fun _ => ⟨rfl, rfl, rfl⟩⟩⟩
            case measure => simp [intOf]; omega
    · go_wp2
      go_ret
      exact ⟨L, rfl, hE, by omega, hall.out, hbe⟩
end Go.Proofs.Qxb6000406a
