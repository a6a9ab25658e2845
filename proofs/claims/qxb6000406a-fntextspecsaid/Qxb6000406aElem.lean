import Derived.Test.Qxb6000406aCount
import Derived.Deep.AppendLies
import Derived.Deep.DeepMust
import Derived.RegionTactic
import Derived.BigRegion
import Derived.Laws.NewBlocks
namespace Go.Proofs.Qxb6000406a
open Go.RowKit

theorem Try.info53 : (Try.prog.info? 53).map (fun i => (i.zero, i.size, i.bytes)) = some (some (.agg #[.pointer none, .string ByteArray.empty, .string ByteArray.empty]), 3, 40) := by kernel_rfl

/-- A node of an element's content. -/
structure NodeV where
  el : Option Addr
  text : ByteArray
  target : ByteArray
def NodeV.none : NodeV := ⟨Option.none, ByteArray.empty, ByteArray.empty⟩
def NodeV.cells (n : NodeV) : List Value := [.pointer n.el, .string n.text, .string n.target]
def ncells (L : List NodeV) : List Value := L.flatMap NodeV.cells
theorem ncells_snoc (L : List NodeV) (n : NodeV) : ncells (L ++ [n]) = ncells L ++ n.cells := by
  unfold ncells; rw [List.flatMap_append]; simp
theorem ncells_length (L : List NodeV) : (ncells L).length = L.length * 3 := by
  induction L with
  | nil => rfl
  | cons a L ih => simp [ncells, NodeV.cells] at *; omega
theorem ncells_get (L : List NodeV) (k : Nat) (h : k < L.length) : (ncells L)[k * 3]? = some (.pointer (L.getD k NodeV.none).el) ∧ (ncells L)[k * 3 + 1]? = some (.string (L.getD k NodeV.none).text) ∧ (ncells L)[k * 3 + 2]? = some (.string (L.getD k NodeV.none).target) := by
  induction L generalizing k with
  | nil => simp at h
  | cons a L ih =>
    have e : ncells (a :: L) = a.cells ++ ncells L := by simp [ncells]
    rw [e]
    cases k with
    | zero => simp [NodeV.cells, List.getD]
    | succ k =>
      have hh := ih k (by simpa using h)
      have hl : a.cells.length = 3 := rfl
      rw [show (k + 1) * 3 = k * 3 + 3 by omega, show k * 3 + 3 + 1 = (k * 3 + 1) + 3 by omega, show k * 3 + 3 + 2 = (k * 3 + 2) + 3 by omega]
      rw [List.getElem?_append_right (by omega), List.getElem?_append_right (by omega), List.getElem?_append_right (by omega), hl]
      simpa [List.getD] using hh

/-- An element lies in block b; its content is L, in a row of its own (from B on). -/
def ElAt (w : World) (B b : Nat) (L : List NodeV) : Prop :=
  B ≤ b ∧ ∃ (cs : List Value) (v : Value), Blk w b 51 cs ∧ cs.length = 7 ∧ cs[5]? = some v ∧ w.ownsRow B 53 3 v L.length (ncells L)

theorem own_ty {w : World} {B : Nat} {e T : TypeId} {size : Nat} {v : Value} {n : Nat} {xs : List Value} {b : Nat} {cs : List Value} (hown : w.ownsRow B e size v n xs) (hb : Blk w b T cs) (hTe : T ≠ e) : some b ≠ v.ownBlock := by
  rcases hown.2 with ⟨rfl, _⟩ | ⟨g, cap, cur, rfl, _, hg, _⟩
  · simp [Value.ownBlock]
  · intro h
    simp only [Value.ownBlock, Option.some.injEq] at h
    subst h
    unfold Blk at hb
    rw [hg] at hb
    simp only [Option.some.injEq, Obj.cells.injEq] at hb
    exact hTe hb.2.1.symm
theorem own_lt {w : World} {base : Nat} {e : TypeId} {size n : Nat} {v : Value} {xs : List Value} (h : w.ownsRow base e size v n xs) (g : Nat) (hg : v.ownBlock = some g) : g < w.heap.size := by
  rcases h.2 with ⟨rfl, _⟩ | ⟨g', cap, cur, rfl, hb, hh, _⟩
  · simp [Value.ownBlock] at hg
  · simp [Value.ownBlock] at hg
    subst hg
    exact (Array.getElem?_eq_some_iff.1 hh).1
theorem own_ge {w : World} {base : Nat} {e : TypeId} {size n : Nat} {v : Value} {xs : List Value} (h : w.ownsRow base e size v n xs) (g : Nat) (hg : v.ownBlock = some g) : base ≤ g := by
  rcases h.2 with ⟨rfl, _⟩ | ⟨g', cap, cur, rfl, hb, hh, _⟩
  · simp [Value.ownBlock] at hg
  · simp [Value.ownBlock] at hg
    subst hg
    exact hb
theorem own_below {w w' : World} {base : Nat} {e : TypeId} {size n K : Nat} {v : Value} {xs : List Value} (h : w.ownsRow base e size v n xs) (hb : Below K w w') (hk : ∀ g, v.ownBlock = some g → g < K) : w'.ownsRow base e size v n xs := by
  refine ⟨h.1, ?_⟩
  rcases h.2 with h2 | ⟨g, cap, cur, hv, hg, hh, r⟩
  · exact .inl h2
  · exact .inr ⟨g, cap, cur, hv, hg, (hb.block g (hk g (by rw [hv]; rfl))).trans hh, r⟩
theorem own_set {w : World} {base : Nat} {e T : TypeId} {size n b : Nat} {v : Value} {xs cs : List Value} (h : w.ownsRow base e size v n xs) (hb : Blk w b T cs) (hTe : T ≠ e) (i : Nat) (u : Value) : (w.setCell ⟨b, i, none⟩ u).ownsRow base e size v n xs := by
  refine h.kept (row := some b) ⟨rfl, rfl, rfl, by simp [World.setCell], fun k _ hk => Below.heap_setCell _ _ _ _ (fun e => hk (by simp [e]))⟩ ?_
  exact Or.inr (fun e => own_ty h hb hTe e.symm)

theorem ElAt.lt {w : World} {B b : Nat} {L : List NodeV} (h : ElAt w B b L) : b < w.heap.size := by
  obtain ⟨_, cs, v, hb, _⟩ := h
  exact hb.lt
theorem ElAt.below {w w' : World} {B b : Nat} {L : List NodeV} (h : ElAt w B b L) (hb : Below w.heap.size w w') : ElAt w' B b L := by
  obtain ⟨h0, cs, v, h1, h2, h3, h4⟩ := h
  exact ⟨h0, cs, v, h1.below hb h1.lt, h2, h3, own_below h4 hb (own_lt h4)⟩
theorem ElAt.setOther {w : World} {B b c : Nat} {L : List NodeV} {cs : List Value} (h : ElAt w B b L) (hc : Blk w c 51 cs) (hne : b ≠ c) (i : Nat) (u : Value) : ElAt (w.setCell ⟨c, i, none⟩ u) B b L := by
  obtain ⟨h0, ds, v, h1, h2, h3, h4⟩ := h
  exact ⟨h0, ds, v, h1.setOther i u hne, h2, h3, own_set h4 hc (by decide) i u⟩
theorem ElAt.push {w w1 : World} {B b : Nat} {L : List NodeV} {cs : List Value} {v v' : Value} (nd : NodeV) (h0 : B ≤ b) (h1 : Blk w b 51 cs) (h2 : cs.length = 7) (hown : w.ownsRow B 53 3 v L.length (ncells L)) (o : Obj) (hBw : B ≤ w.heap.size)
    (hown1 : w1.ownsRow B 53 3 v' (L.length + 1) (ncells L ++ nd.cells)) (hgrow : (w.alloc o).grownBy w1 v.ownBlock) :
    Blk w1 b 51 cs ∧ ElAt (w1.setCell ⟨b, 5, none⟩ v') B b (L ++ [nd]) ∧ Below B w (w1.setCell ⟨b, 5, none⟩ v') := by
  have hb1 : Blk w1 b 51 cs := (h1.alloc o).grown hgrow (own_ty hown h1 (by decide))
  refine ⟨hb1, ⟨h0, cs.set 5 v', v', hb1.set 5 v', by simpa using h2, ?_, ?_⟩, ?_⟩
  · rw [List.getElem?_set_self (by omega)]
  · have := own_set hown1 hb1 (by decide) 5 v'
    rw [ncells_snoc]
    simpa using this
  · exact (((Below.refl B w).alloc hBw o).grown hgrow (by simp; omega) (fun k hk => own_ge hown k hk)).setCell (p := ⟨b, 5, none⟩) h0 _

set_option maxHeartbeats 1000000 in
/-- 'ZZNew'. -/
theorem new21 (s l : ByteArray) (w : World) :
    Calls Try.prog 21 #[.string s, .string l] w fun e w' => e = .returned (.pointer (some ⟨w.heap.size, 0, none⟩)) ∧ ElAt w' w.heap.size w.heap.size [] ∧ Below w.heap.size w w' := by
  go_enter Try.func21, Try.ntmps21
  go_wp2
  go_ret
  refine ⟨rfl, ⟨Nat.le_refl _, _, _, Blk.new w _ 51, rfl, rfl, World.ownsRow_nil _ _ _ _⟩, (Below.refl _ _).alloc (Nat.le_refl _) _⟩

set_option maxHeartbeats 2000000 in
/-- 'ZZAddText'. -/
theorem add22 (B b : Nat) (L : List NodeV) (s : ByteArray) (w : World) (h : ElAt w B b L) (hl : L.length ≤ 1048576) (hBw : B ≤ w.heap.size) :
    Calls Try.prog 22 #[.pointer (some ⟨b, 0, none⟩), .string s] w fun e w' => e = .returned (.tuple #[]) ∧ ElAt w' B b (L ++ [⟨none, s, ByteArray.empty⟩]) ∧ Below B w w' := by
  obtain ⟨i0, hi, hz0, hz1, hz2⟩ := info_parts Try.info53
  obtain ⟨h0, cs, v, h1, h2, h3, hown⟩ := h
  have c5 := h1.cell h3
  go_enter Try.func22, Try.ntmps22
  go_wp2_with (at_builtin; go_must (refine wpList_append_lies _ rfl (.tmp 8) (.tmp 11) 49 rfl B 53 i0 _ 3 40 Try.underlying49 hi hz0 hz1 hz2 rfl (by decide) v L.length (ncells L) rfl (hown.alloc _) ⟨w.heap.size, 0, Option.none⟩ 1 1 (NodeV.cells ⟨none, s, ByteArray.empty⟩) rfl rfl ?hnews (by simp [NodeV.cells, Value.oneCell']) (by omega) (by unfold maxLen; omega) (by omega) (by simp; omega) (w.heap.size + 1) (by simp) ?_; rotate_right; intro g cap w1 hown1 hgrow1 hat1 hlt1; obtain ⟨hb1, hE1, hbl1⟩ := ElAt.push ⟨none, s, ByteArray.empty⟩ h0 h1 h2 hown _ hBw hown1 hgrow1; have d5 := hb1.cell h3; have f5 := hb1.free 5; clear hown1 hgrow1 hat1 hlt1))
  case hnews => exact World.news_of_block (Blk.new w #[.pointer none, .string s, .string ByteArray.empty] 53)
  go_end0
  exact ⟨rfl, hE1, hbl1⟩

set_option maxHeartbeats 2000000 in
/-- 'ZZAddPI'. -/
theorem add23 (B b : Nat) (L : List NodeV) (t s : ByteArray) (w : World) (h : ElAt w B b L) (hl : L.length ≤ 1048576) (hBw : B ≤ w.heap.size) :
    Calls Try.prog 23 #[.pointer (some ⟨b, 0, none⟩), .string t, .string s] w fun e w' => e = .returned (.tuple #[]) ∧ ElAt w' B b (L ++ [⟨none, s, t⟩]) ∧ Below B w w' := by
  obtain ⟨i0, hi, hz0, hz1, hz2⟩ := info_parts Try.info53
  obtain ⟨h0, cs, v, h1, h2, h3, hown⟩ := h
  have c5 := h1.cell h3
  go_enter Try.func23, Try.ntmps23
  go_wp2_with (at_builtin; go_must (refine wpList_append_lies _ rfl (.tmp 10) (.tmp 14) 49 rfl B 53 i0 _ 3 40 Try.underlying49 hi hz0 hz1 hz2 rfl (by decide) v L.length (ncells L) rfl (hown.alloc _) ⟨w.heap.size, 0, Option.none⟩ 1 1 (NodeV.cells ⟨none, s, t⟩) rfl rfl ?hnews (by simp [NodeV.cells, Value.oneCell']) (by omega) (by unfold maxLen; omega) (by omega) (by simp; omega) (w.heap.size + 1) (by simp) ?_; rotate_right; intro g cap w1 hown1 hgrow1 hat1 hlt1; obtain ⟨hb1, hE1, hbl1⟩ := ElAt.push ⟨none, s, t⟩ h0 h1 h2 hown _ hBw hown1 hgrow1; have d5 := hb1.cell h3; have f5 := hb1.free 5; clear hown1 hgrow1 hat1 hlt1))
  case hnews => exact World.news_of_block (Blk.new w #[.pointer none, .string s, .string t] 53)
  go_end0
  exact ⟨rfl, hE1, hbl1⟩

set_option maxHeartbeats 2000000 in
/-- 'ZZAddChild'. -/
theorem add24 (B b c : Nat) (L : List NodeV) (ccs : List Value) (w : World) (h : ElAt w B b L) (hl : L.length ≤ 1048576) (hBw : B ≤ w.heap.size) (hc : Blk w c 51 ccs) (hcl : ccs.length = 7) (hne : b ≠ c) (hBc : B ≤ c) :
    Calls Try.prog 24 #[.pointer (some ⟨b, 0, none⟩), .pointer (some ⟨c, 0, none⟩)] w fun e w' => e = .returned (.tuple #[]) ∧ ElAt w' B b (L ++ [⟨some ⟨c, 0, none⟩, ByteArray.empty, ByteArray.empty⟩]) ∧ Below B w w' := by
  obtain ⟨i0, hi, hz0, hz1, hz2⟩ := info_parts Try.info53
  obtain ⟨u, hu⟩ : ∃ u, ccs[6]? = some u := ⟨ccs[6]'(by omega), List.getElem?_eq_getElem _⟩
  have c6 := hc.cell hu
  have f6 := hc.free 6
  obtain ⟨h0, cs, v, h1, h2, h3, hown⟩ := h.setOther hc hne 6 (.pointer (some ⟨b, 0, none⟩))
  have c5 := h1.cell h3
  have hBs : B ≤ (w.setCell ⟨c, 6, none⟩ (.pointer (some ⟨b, 0, none⟩))).heap.size := by simpa [World.setCell] using hBw
  have hbc : Below B w (w.setCell ⟨c, 6, none⟩ (.pointer (some ⟨b, 0, none⟩))) := (Below.refl B w).setCell (p := ⟨c, 6, none⟩) hBc _
  have hss : (w.setCell ⟨c, 6, none⟩ (.pointer (some ⟨b, 0, none⟩))).heap.size = w.heap.size := by simp [World.setCell]
  go_enter Try.func24, Try.ntmps24
  go_wp2_with (at_builtin; go_must (refine wpList_append_lies _ rfl (.tmp 12) (.tmp 15) 49 rfl B 53 i0 _ 3 40 Try.underlying49 hi hz0 hz1 hz2 rfl (by decide) v L.length (ncells L) rfl (hown.alloc _) ⟨w.heap.size, 0, Option.none⟩ 1 1 (NodeV.cells ⟨some ⟨c, 0, none⟩, ByteArray.empty, ByteArray.empty⟩) rfl rfl ?hnews (by simp [NodeV.cells, Value.oneCell']) (by omega) (by unfold maxLen; omega) (by omega) (by simp; omega) (w.heap.size + 1) (by simp) ?_; rotate_right; intro g cap w1 hown1 hgrow1 hat1 hlt1; obtain ⟨hb1, hE1, hbl1⟩ := ElAt.push ⟨some ⟨c, 0, none⟩, ByteArray.empty, ByteArray.empty⟩ h0 h1 h2 hown _ hBs hown1 hgrow1; have d5 := hb1.cell h3; have f5 := hb1.free 5; clear hown1 hgrow1 hat1 hlt1))
  case hnews =>
    have hn := World.news_of_block (Blk.new (w.setCell ⟨c, 6, none⟩ (.pointer (some ⟨b, 0, none⟩))) #[.pointer (some ⟨c, 0, none⟩), .string ByteArray.empty, .string ByteArray.empty] 53)
    rw [hss] at hn
    exact hn
  go_end0
  exact ⟨rfl, hE1, hbc.trans hbl1⟩
end Go.Proofs.Qxb6000406a
