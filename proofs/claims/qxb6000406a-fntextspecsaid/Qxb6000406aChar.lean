import Derived.Test.Qxb6000406aBuild
import Derived.Lib.AppendStr
import Derived.Lib.Builder
import Derived.Lib.BufferRead
import Derived.Laws.IdiomStrings
namespace Go.Proofs.Qxb6000406a
open Go.RowKit

theorem Try.inf5 : (Try.prog.info? 5).map (fun i => (i.zero, i.size, i.bytes)) = some (some (.int .u8 0), 1, 1) := by kernel_rfl

/-- What the node i says as character data. -/
def piece (T G : List ByteArray) (F : List Bool) (i : Nat) : List UInt8 := if F.getD i false = false ∧ (G.getD i ByteArray.empty).toList.isEmpty = true then (T.getD i ByteArray.empty).data.toList else []
def ctext (T G : List ByteArray) (F : List Bool) : Nat → List UInt8
  | 0 => []
  | k + 1 => ctext T G F k ++ piece T G F k
theorem ctext_le (T G : List ByteArray) (F : List Bool) (k : Nat) (h : k ≤ T.length) : (ctext T G F k).length ≤ tot T k := by
  induction k with
  | zero => simp [ctext]
  | succ k ih =>
    have h1 := ih (by omega)
    rw [tot_succ T k (by omega), ctext, List.length_append]
    unfold piece
    split
    · have : (T.getD k ByteArray.empty).data.toList.length = (T.getD k ByteArray.empty).size := by rw [Array.length_toList]; rfl
      omega
    · simp; omega
theorem tot_mono (T : List ByteArray) (k n : Nat) (hk : k ≤ n) (hn : n ≤ T.length) : tot T k ≤ tot T n := by
  induction n with
  | zero => obtain rfl : k = 0 := by omega
            exact Nat.le_refl _
  | succ n ih =>
    rcases Nat.lt_or_ge n k with h | h
    · obtain rfl : k = n + 1 := by omega
      exact Nat.le_refl _
    · have := ih h (by omega)
      rw [tot_succ T n (by omega)]; omega
theorem byteCells_append (l m : List UInt8) : Lib.byteCells (l ++ m) = Lib.byteCells l ++ Lib.byteCells m := by simp [Lib.byteCells]
theorem strCells_eq (s : ByteArray) : Lib.strCells s = Lib.byteCells s.data.toList := rfl
theorem byteCells_length (l : List UInt8) : (Lib.byteCells l).length = l.length := by simp [Lib.byteCells]

theorem conv_own (B : Nat) (v : Value) (l : List UInt8) (w : World) (h : w.ownsRow B 5 1 v l.length (Lib.byteCells l)) : (convert 46 9 v).run Try.prog w = .ok (.string ⟨l.toArray⟩) w := by
  rcases h.2 with ⟨rfl, h0⟩ | ⟨g, cap, cur, rfl, hb, hh, hle, hm, hcs, hxs⟩
  · have : l = [] := List.eq_nil_of_length_eq_zero h0
    subst this
    exact Lib.run_convert_nil_bytes w 46 9 5 0 Try.underlying46 Try.underlying5 Try.underlying9
  · refine run_convert_bytes_back w 46 9 5 ⟨g, 0, none⟩ cap l Try.underlying46 Try.underlying5 Try.underlying9 (fun j hj => ?_)
    rw [Go.WideShapes.add_plain, Nat.zero_add]
    have h3 : (cur.toList.take (l.length * 1))[j]? = (Lib.byteCells l)[j]? := by rw [hxs]
    rw [List.getElem?_take, if_pos (by omega), Array.getElem?_toList] at h3
    simp [World.cell?, hh, h3, Lib.byteCells, hj]

set_option maxHeartbeats 2000000 in
/-- 'charData'. -/
theorem char12 (a1 a2 a3 : Option Addr) (c1 c2 c3 n : Nat) (T G : List ByteArray) (F : List Bool) (h1 : T.length = n) (h2 : G.length = n) (h3 : F.length = n) (hn : n ≤ 1048576) (htot : tot T n ≤ 1048576)
    (w : World) (hT : SA w a1 T) (hG : SA w a2 G) (hF : BA w a3 F) :
    Calls Try.prog 12 #[.slice a1 n c1, .slice a2 n c2, .slice a3 n c3] w fun e w' => e = .returned (.string ⟨(ctext T G F n).toArray⟩) ∧ Below w.heap.size w w' := by
  obtain ⟨i0, hi, hz0, hz1, hz2⟩ := info_parts Try.inf5
  have H1 : Hid (T.length = n) := h1
  have H2 : Hid (G.length = n) := h2
  have H3 : Hid (F.length = n) := h3
  have HTOT : Hid (tot T n ≤ 1048576) := htot
  clear h1 h2 h3 htot
  go_enter Try.func12, Try.ntmps12
  go_wp2
  go_loopw [7, 8] (fun vv iv wr => ∃ (k m : Nat) (l : List UInt8), k ≤ n ∧ iv = .int .i64 k ∧ Hid (l = ctext T G F k) ∧ Hid (m = l.length) ∧ wr.ownsRow w.heap.size 5 1 vv m (Lib.byteCells l) ∧ Below w.heap.size w wr) (fun _ iv _ => n - (intOf iv).toNat)
  case atStart => exact ⟨0, 0, [], Nat.zero_le _, rfl, rfl, rfl, World.ownsRow_nil _ _ _ _, Below.refl _ _⟩
  case round =>
    obtain ⟨k, m, l, hk, rfl, hl, hm, hown, hbe⟩ := hrel
    have hBw := hbe.size
    by_cases hlt : k < n
    · obtain ⟨b1, o1, rfl, x1⟩ := (hT.below hbe) (by have := H1.out; omega)
      obtain ⟨b2, o2, rfl, x2⟩ := (hG.below hbe) (by have := H2.out; omega)
      obtain ⟨b3, o3, rfl, x3⟩ := (hF.below hbe) (by have := H3.out; omega)
      have y1 := x1 k (by have := H1.out; omega)
      have y2 := x2 k (by have := H2.out; omega)
      have y3 := x3 k (by have := H3.out; omega)
      have hs : m + (piece T G F k).length ≤ 1048576 := by
        have e1 := ctext_le T G F (k + 1) (by have := H1.out; omega)
        have e2 := tot_mono T (k + 1) n (by omega) (by have := H1.out; omega)
        have e3 := HTOT.out
        rw [ctext, List.length_append, ← hl.out, ← hm.out] at e1
        omega
      have hnx : ctext T G F (k + 1) = l ++ piece T G F k := by rw [hl.out]; rfl
      unfold piece at hs hnx
      obtain ⟨t, ht⟩ : ∃ t, t = T.getD k ByteArray.empty := ⟨_, rfl⟩
      obtain ⟨g, hg⟩ : ∃ g, g = G.getD k ByteArray.empty := ⟨_, rfl⟩
      obtain ⟨f, hf⟩ : ∃ f, f = F.getD k false := ⟨_, rfl⟩
      rw [← ht] at y1 hs hnx
      rw [← hg] at y2 hs hnx
      rw [← hf] at y3 hs hnx
      clear ht hg hf x1 x2 x3
      have HNX := (show Hid (_ = _) from hnx)
      have HS := (show Hid (_ ≤ _) from hs)
      clear hnx hs
      cases f with
      | true =>
        go_wp2
        go_roundw
        case rel => exact ⟨k + 1, m, l, by omega, by go_num, by show _ = _; rw [HNX.out, if_neg (by simp)]; simp, hm, hown, hbe⟩
        case measure => simp [intOf]; omega
      | false =>
        by_cases hgz : g.toList.isEmpty = true
        · have hsz : m + t.size ≤ 1048576 := by
            have := HS.out
            rw [if_pos ⟨rfl, hgz⟩, Array.length_toList] at this
            exact this
          go_wp2_with (at_builtin; refine Lib.wpList_append_own_string _ rfl (.tmp 27) (.tmp 31) 46 9 rfl w.heap.size 5 i0 Try.underlying46 Try.underlying9 hi hz0 hz1 hz2 _ m _ rfl hown t rfl (by unfold maxLen; omega) (by omega) hBw ?_; intro v' w2 hown' hgrow hnil)
          go_roundw
          case rel =>
            refine ⟨k + 1, m + t.size, l ++ t.data.toList, by omega, by go_num, by show _ = _; rw [HNX.out, if_pos ⟨rfl, hgz⟩], by show _ = _; rw [List.length_append, Array.length_toList, hm.out]; rfl, ?_, hbe.grown hgrow hBw (fun q hq => own_ge hown q hq)⟩
            rw [byteCells_append]; exact hown'
          case measure => simp [intOf]; omega
        · have hgz' : g.toList.isEmpty = false := by simpa using hgz
          go_wp2
          go_roundw
          case rel => exact ⟨k + 1, m, l, by omega, by go_num, by show _ = _; rw [HNX.out, if_neg (fun h => hgz h.2)]; simp, hm, hown, hbe⟩
          case measure => simp [intOf]; omega
    · obtain rfl : k = n := by omega
      have hcv := conv_own w.heap.size _ l wr (by rw [← hm.out]; exact hown)
      go_wp2
      go_ret
      exact ⟨by rw [← hl.out]; rfl, hbe⟩
end Go.Proofs.Qxb6000406a
