import Derived.Test.Qxb6000406aChar
import Derived.Test.Qxb6000406aWrite
namespace Go.Proofs.Qxb6000406a
open Go.RowKit

/-- The text of a node that is character data. -/
def charOf (nd : NodeV) : List ByteArray := if nd.el = none ∧ nd.target.toList.isEmpty = true then [nd.text] else []
def chars (L : List NodeV) (k : Nat) : List ByteArray := (L.take k).flatMap charOf
def flat (C : List ByteArray) : List UInt8 := C.flatMap (·.data.toList)
theorem chars_succ (L : List NodeV) (k : Nat) (h : k < L.length) : chars L (k + 1) = chars L k ++ charOf (L.getD k NodeV.none) := by
  have e : L.take (k + 1) = L.take k ++ [L.getD k NodeV.none] := by
    rw [List.take_succ_eq_append_getElem h]; simp [List.getD, h]
  unfold chars
  rw [e, List.flatMap_append]; simp
theorem flat_append (C D : List ByteArray) : flat (C ++ D) = flat C ++ flat D := by unfold flat; rw [List.flatMap_append]
theorem flat_chars (T G : List ByteArray) (F : List Bool) (L : List NodeV) (h : AllNOK T G F L) (k : Nat) (hk : k ≤ L.length) : flat (chars L k) = ctext T G F k := by
  induction k with
  | zero => rfl
  | succ k ih =>
    rw [chars_succ L k (by omega), flat_append, ih (by omega), ctext]
    congr 1
    obtain ⟨h1, h2⟩ := h k (by omega)
    unfold piece charOf
    cases hf : F.getD k false with
    | true => rw [if_neg (fun e => h1 hf e.1), if_neg (by simp)]; rfl
    | false =>
      obtain ⟨e1, e2, e3⟩ := h2 hf
      rw [e3]
      by_cases hg : (G.getD k ByteArray.empty).toList.isEmpty = true
      · rw [if_pos ⟨e1, hg⟩, if_pos ⟨rfl, hg⟩, e2]; simp [flat]
      · rw [if_neg (fun e => hg e.2), if_neg (fun e => hg e.2)]; rfl

/-- What the loop holds behind the texts C. -/
structure ST (C : List ByteArray) (p : Nat) (s : ByteArray) (l : List UInt8) : Prop where
  p : p = C.length
  s0 : C.length = 0 → s = ByteArray.empty
  s1 : C.length = 1 → C = [s]
  l0 : C.length < 2 → l = []
  l1 : 2 ≤ C.length → l = flat C

theorem ST.zero {C : List ByteArray} {s t : ByteArray} {l : List UInt8} (h : ST C 0 s l) : ST (C ++ [t]) 1 t l := by
  have hc : C = [] := List.eq_nil_of_length_eq_zero h.p.symm
  have hl := h.l0 (by rw [hc]; simp)
  subst hc
  exact ⟨rfl, fun h => by simp at h, fun _ => rfl, fun _ => hl, fun h => by simp at h⟩
theorem ST.one {C : List ByteArray} {s : ByteArray} {l : List UInt8} (t : ByteArray) (h : ST C 1 s l) : l = [] ∧ flat (C ++ [t]) = s.data.toList ++ t.data.toList ∧ ST (C ++ [t]) 2 s (s.data.toList ++ t.data.toList) := by
  have hc := h.s1 h.p.symm
  have hl := h.l0 (by rw [← h.p]; decide)
  subst hc
  have hf : flat ([s] ++ [t]) = s.data.toList ++ t.data.toList := by simp [flat]
  exact ⟨hl, hf, ⟨rfl, fun h => by simp at h, fun h => by simp at h, fun h => by simp at h, fun _ => hf.symm⟩⟩
theorem ST.more {C : List ByteArray} {p : Nat} {s : ByteArray} {l : List UInt8} (t : ByteArray) (h : ST C p s l) (hp : 2 ≤ p) : flat (C ++ [t]) = l ++ t.data.toList ∧ ST (C ++ [t]) (p + 1) s (l ++ t.data.toList) := by
  have hpl := h.p
  have hl := h.l1 (by omega)
  have hf : flat (C ++ [t]) = l ++ t.data.toList := by rw [flat_append, hl]; simp [flat]
  exact ⟨hf, ⟨by simp [hpl], fun h => by simp at h, fun h => by simp at h; subst h; simp at hpl; omega, fun h => by simp at h; omega, fun _ => hf.symm⟩⟩
theorem size_list (s : ByteArray) : s.data.toList.length = s.size := by rw [Array.length_toList]; rfl
theorem back_list (s : ByteArray) : (⟨s.data.toList.toArray⟩ : ByteArray) = s := by cases s; simp

theorem builder_below {B b : Nat} {bs : List Value} {w w' : World} (h : Lib.IsBuilder 56 5 B b bs w) (hb : Below w.heap.size w w') : Lib.IsBuilder 56 5 B b bs w' := by
  have key : ∀ p, Lib.BuilderAt 56 5 B b p bs w → Lib.BuilderAt 56 5 B b p bs w' := by
    rintro p ⟨h0, v, h1, h2, h3⟩
    exact ⟨h0, v, (hb.block b (Array.getElem?_eq_some_iff.1 h1).1).trans h1, own_below h2 hb (own_lt h2), h3⟩
  rcases h with h | h
  · exact .inl (key _ h)
  · exact .inr (key _ h)

theorem ElAt.open {w : World} {B b : Nat} {L : List NodeV} (h : ElAt w B b L) : ∃ (ao : Option Addr) (cap : Nat), w.cell? ⟨b, 5, none⟩ = some (.slice ao L.length cap) ∧
    (0 < L.length → ∃ g, ao = some ⟨g, 0, none⟩ ∧ ∀ j u, (ncells L)[j]? = some u → w.cell? ⟨g, j, none⟩ = some u) := by
  obtain ⟨h0, cs, v, h1, h2, h3, h4⟩ := h
  have c := h1.cell h3
  rcases h4.2 with ⟨rfl, e⟩ | ⟨g, cap, cur, rfl, hb, hh, hle, hm, hcs, hxs⟩
  · exact ⟨none, 0, by rw [e]; exact c, fun hp => by omega⟩
  · refine ⟨_, cap, c, fun _ => ⟨g, rfl, fun j u hj => ?_⟩⟩
    rw [← hxs] at hj
    have hj2 : cur.toList[j]? = some u := by
      rw [List.getElem?_take] at hj
      split at hj
      · exact hj
      · simp at hj
    rw [Array.getElem?_toList] at hj2
    simp [World.cell?, hh, hj2]

set_option maxHeartbeats 4000000 in
/-- 'text'. -/
theorem text26 (B b n : Nat) (L : List NodeV) (w : World) (h : ElAt w B b L) (hn : L.length = n) (hl : n ≤ 1048576) (hlen : ∀ k, k ≤ n → (flat (chars L k)).length ≤ 1048576) :
    Calls Try.prog 26 #[.pointer (some ⟨b, 0, none⟩)] w fun e w' => e = .returned (.string ⟨(flat (chars L n)).toArray⟩) ∧ Below w.heap.size w w' := by
  obtain ⟨ao, cap, c5, hcs⟩ := h.open
  have hbl := h.lt
  rw [hn] at c5 hcs
  have HL : Hid (L.length = n) := hn
  have HLEN : Hid (∀ k, k ≤ n → (flat (chars L k)).length ≤ 1048576) := hlen
  have HCS : Hid (0 < n → ∃ g, ao = some ⟨g, 0, none⟩ ∧ ∀ j u, (ncells L)[j]? = some u → w.cell? ⟨g, j, none⟩ = some u) := hcs
  have hb0 : b ≠ w.heap.size := by omega
  clear hn hlen hcs h
  go_enter Try.func26, Try.ntmps26
  go_wp2
  go_loopw [3, 4, 13] (fun fv pv iv wr => ∃ (k p : Nat) (s : ByteArray) (l : List UInt8), k ≤ n ∧ iv = .int .i64 k ∧ pv = .int .i64 p ∧ fv = .string s ∧ p ≤ k ∧ Hid (ST (chars L k) p s l) ∧ Hid (Lib.IsBuilder 56 5 w.heap.size w.heap.size (Lib.byteCells l) wr) ∧ Below w.heap.size w wr) (fun _ _ iv _ => n - (intOf iv).toNat)
  case atStart =>
    exact ⟨0, 0, ByteArray.empty, [], Nat.zero_le _, rfl, rfl, rfl, Nat.le_refl _, ⟨rfl, fun _ => rfl, fun h => by simp [chars] at h, fun _ => rfl, fun h => by simp [chars] at h⟩, Lib.fresh_isBuilder 56 5 w, (Below.refl _ _).alloc (Nat.le_refl _) _⟩
  case round =>
    obtain ⟨k, p, s, l, hk, rfl, rfl, rfl, hp, hST, hIB, hbe⟩ := hrel
    have hBw := hbe.size
    have hwr : w.heap.size < wr.heap.size := by
      rcases hIB.out with h | h
      · exact h.lt
      · exact h.lt
    by_cases hlt : k < n
    · obtain ⟨gg, rfl, hc⟩ := HCS.out (by omega)
      obtain ⟨q0, q1, q2⟩ := ncells_get L k (by have := HL.out; omega)
      have z0 := hc _ _ q0
      have z1 := hc _ _ q1
      have z2 := hc _ _ q2
      have y0 := (hbe.cell (World.block_lt_of_cell? _ _ z0)).trans z0
      have y1 := (hbe.cell (World.block_lt_of_cell? _ _ z1)).trans z1
      have y2 := (hbe.cell (World.block_lt_of_cell? _ _ z2)).trans z2
      have hsucc := chars_succ L k (by have := HL.out; omega)
      have hlen := HLEN.out (k + 1) (by omega)
      obtain ⟨nd, hnd⟩ : ∃ nd, nd = L.getD k NodeV.none := ⟨_, rfl⟩
      rw [← hnd] at y0 y1 y2 hsucc
      obtain ⟨el, t, g⟩ := nd
      simp only at y0 y1 y2
      have HSUCC : Hid (chars L (k + 1) = chars L k ++ charOf ⟨el, t, g⟩) := hsucc
      have HLN : Hid ((flat (chars L (k + 1))).length ≤ 1048576) := hlen
      have hgg : gg < w.heap.size := World.block_lt_of_cell? _ _ z0
      clear hnd hsucc hlen hc q0 q1 q2 z0 z1 z2
      cases el with
      | some a =>
        have hce : charOf ⟨some a, t, g⟩ = [] := by simp [charOf]
        have HST : Hid (ST (chars L (k + 1)) p s l) := by show ST _ _ _ _; rw [HSUCC.out, hce, List.append_nil]; exact hST.out
        clear hce
        go_wp2
        go_roundw
        case rel => exact ⟨k + 1, p, s, l, by omega, by go_num, rfl, rfl, by omega, HST, builder_below hIB.out ((Below.refl _ _).alloc (Nat.le_refl _) _), hbe.alloc hBw _⟩
        case measure => simp [intOf]; omega
      | none =>
        by_cases hgz : g.toList.isEmpty = true
        · have hce : charOf ⟨none, t, g⟩ = [t] := by simp [charOf, hgz]
          rw [hce] at HSUCC
          have hba := builder_below hIB.out ((Below.refl wr.heap.size wr).alloc (Nat.le_refl _) (.cells #[.pointer none, .string t, .string g] 53))
          have HBA : Hid (Lib.IsBuilder 56 5 w.heap.size w.heap.size (Lib.byteCells l) (wr.alloc (.cells #[.pointer none, .string t, .string g] 53))) := hba
          clear hce hba
          rcases Nat.lt_or_ge p 2 with hp2 | hp2
          · rcases Nat.lt_or_ge p 1 with hp1 | hp1
            · obtain rfl : p = 0 := by omega
              have HST : Hid (ST (chars L (k + 1)) 1 t l) := by show ST _ _ _ _; rw [HSUCC.out]; exact hST.out.zero
              go_wp2
              go_roundw
              case rel => exact ⟨k + 1, 1, t, l, by omega, by go_num, by go_num, rfl, by omega, HST, HBA.out, hbe.alloc hBw _⟩
              case measure => simp [intOf]; omega
            · obtain rfl : p = 1 := by omega
              obtain ⟨hl0, hf, hst⟩ := hST.out.one t
              have hln := HLN.out
              rw [HSUCC.out, hf, List.length_append, size_list, size_list] at hln
              have HST : Hid (ST (chars L (k + 1)) 2 s (s.data.toList ++ t.data.toList)) := by show ST _ _ _ _; rw [HSUCC.out]; exact hst
              subst hl0
              have e1 : w.heap.size ≤ (wr.alloc (.cells #[.pointer none, .string t, .string g] 53)).heap.size := by simp; omega
              clear hf hst
              go_wp2_with fail
              refine (write29 w.heap.size w.heap.size (Lib.byteCells []) s (wr.alloc (.cells #[.pointer none, .string t, .string g] 53)) HBA.out (by rw [byteCells_length]; simp; omega) e1).mono ?_
              rintro e w2 ⟨rfl, ⟨hB2, hb2⟩, hk2⟩
              have d1 := (hk2 _ _ _ (Blk.new wr #[.pointer none, .string t, .string g] 53) (by decide) (by omega)).cell (i := 1) (v := .string t) rfl
              have HB2 : Hid (Lib.IsBuilder 56 5 w.heap.size w.heap.size (Lib.byteCells [] ++ Lib.strCells s) w2) := .inr hB2
              have hs2 := hb2.size
              clear hB2 hk2
              go_wp2_with fail
              refine (write29 w.heap.size w.heap.size (Lib.byteCells [] ++ Lib.strCells s) t w2 HB2.out (by rw [List.length_append, byteCells_length, Lib.strCells_length]; simp; omega) (by omega)).mono ?_
              rintro e w3 ⟨rfl, ⟨hB3, hb3⟩, hk3⟩
              clear hk3
              go_wp2_with fail
              go_roundw
              case rel =>
                refine ⟨k + 1, 2, s, _, by omega, by go_num, by go_num, rfl, by omega, HST, ?_, ((hbe.alloc hBw _).trans hb2).trans hb3⟩
                show Lib.IsBuilder _ _ _ _ _ _
                rw [byteCells_append]
                exact .inr hB3
              case measure => simp [intOf]; omega
          · obtain ⟨hf, hst⟩ := hST.out.more t hp2
            have hln := HLN.out
            rw [HSUCC.out, hf, List.length_append, size_list] at hln
            have HST : Hid (ST (chars L (k + 1)) (p + 1) s (l ++ t.data.toList)) := by show ST _ _ _ _; rw [HSUCC.out]; exact hst
            have e1 : w.heap.size ≤ (wr.alloc (.cells #[.pointer none, .string t, .string g] 53)).heap.size := by simp; omega
            clear hf hst
            go_wp2_with (first
              | (go_at_call 29; refine (write29 w.heap.size w.heap.size (Lib.byteCells l) t (wr.alloc (.cells #[.pointer none, .string t, .string g] 53)) HBA.out (by rw [byteCells_length]; omega) e1).mono ?_; rintro e w2 ⟨rfl, ⟨hB2, hb2⟩, hk2⟩; clear hk2))
            go_roundw
            case rel =>
              refine ⟨k + 1, p + 1, s, _, by omega, by go_num, by go_num, rfl, by omega, HST, ?_, (hbe.alloc hBw _).trans hb2⟩
              show Lib.IsBuilder _ _ _ _ _ _
              rw [byteCells_append]
              exact .inr hB2
            case measure => simp [intOf]; omega
        · have hgz' : g.toList.isEmpty = false := by simpa using hgz
          have hce : charOf ⟨none, t, g⟩ = [] := by simp [charOf, hgz']
          have HST : Hid (ST (chars L (k + 1)) p s l) := by show ST _ _ _ _; rw [HSUCC.out, hce, List.append_nil]; exact hST.out
          clear hce
          go_wp2
          go_roundw
          case rel => exact ⟨k + 1, p, s, l, by omega, by go_num, rfl, rfl, by omega, HST, builder_below hIB.out ((Below.refl _ _).alloc (Nat.le_refl _) _), hbe.alloc hBw _⟩
          case measure => simp [intOf]; omega
    · obtain rfl : k = n := by omega
      by_cases hp2 : (p : Int) < 2
      · go_wp2
        go_ret
        refine ⟨?_, hbe⟩
        have hst := hST.out
        have : s = ⟨(flat (chars L k)).toArray⟩ := by
          rcases Nat.lt_or_ge p 1 with hp1 | hp1
          · have hpl := hst.p
            have e := hst.s0 (by omega)
            have hc : chars L k = [] := List.eq_nil_of_length_eq_zero (by omega)
            rw [e, hc]; rfl
          · have hpl := hst.p
            have e := hst.s1 (by omega)
            rw [e]
            show s = ⟨(flat [s]).toArray⟩
            have : flat [s] = s.data.toList := by simp [flat]
            rw [this, back_list]
        rw [← this]; rfl
      · have hll : l = flat (chars L k) := hST.out.l1 (by have := hST.out.p; omega)
        go_wp2_with (go_at_call 30; refine (Try.Builder_String_any w.heap.size w.heap.size l wr hIB.out hBw).mono ?_; rintro e w2 ⟨rfl, hb2⟩)
        go_ret
        exact ⟨by rw [← hll]; rfl, hbe.trans hb2⟩
end Go.Proofs.Qxb6000406a
