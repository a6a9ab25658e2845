import Derived.WalkKit
import Derived.WalkSpells
import Derived.WalkLawsBesides
import Derived.Laws.IdiomCopy
namespace Go.Proofs.Qxb6000406a
open Go.RowKit

/-- Block g holds just the cells cs, elements of type t; none is frozen. -/
def Blk (w : World) (g : Nat) (t : TypeId) (cs : List Value) : Prop := w.heap[g]? = some (.cells cs.toArray t (0, 0))

theorem Blk.lt {w : World} {g : Nat} {t : TypeId} {cs : List Value} (h : Blk w g t cs) : g < w.heap.size := (Array.getElem?_eq_some_iff.1 h).1

theorem Blk.cell {w : World} {g : Nat} {t : TypeId} {cs : List Value} (h : Blk w g t cs) {i : Nat} {v : Value} (hi : cs[i]? = some v) : w.cell? ⟨g, i, none⟩ = some v := by
  unfold Blk at h
  simp [World.cell?, h, hi]

theorem Blk.free {w : World} {g : Nat} {t : TypeId} {cs : List Value} (h : Blk w g t cs) (i : Nat) : w.frozen? ⟨g, i, none⟩ = false := by
  unfold Blk at h
  simp [World.frozen?, h]

theorem Blk.below {w w' : World} {g B : Nat} {t : TypeId} {cs : List Value} (h : Blk w g t cs) (hb : Below B w w') (hg : g < B) : Blk w' g t cs := (hb.block g hg).trans h

theorem Blk.set {w : World} {g : Nat} {t : TypeId} {cs : List Value} (h : Blk w g t cs) (i : Nat) (v : Value) : Blk (w.setCell ⟨g, i, none⟩ v) g t (cs.set i v) := by
  rw [setCell_eq_setRow w g i cs.toArray t (0, 0) v h]
  have := setRow_heap w g cs.toArray (cs.toArray.setIfInBounds i v) t (0, 0) h
  unfold Blk
  rw [this]
  simp

theorem Blk.setOther {w : World} {g g' : Nat} {t : TypeId} {cs : List Value} (h : Blk w g t cs) (i : Nat) (v : Value) (hne : g ≠ g') : Blk (w.setCell ⟨g', i, none⟩ v) g t cs :=
  (Below.heap_setCell w ⟨g', i, none⟩ v g hne).trans h

theorem Blk.alloc {w : World} {g : Nat} {t : TypeId} {cs : List Value} (h : Blk w g t cs) (o : Obj) : Blk (w.alloc o) g t cs :=
  (Below.heap_alloc w o g h.lt).trans h

theorem Blk.new (w : World) (cs : Array Value) (t : TypeId) : Blk (w.alloc (.cells cs t)) w.heap.size t cs.toList := by
  show (w.heap.push _)[w.heap.size]? = _
  simp

theorem Blk.grown {w w' : World} {g : Nat} {row : Option Nat} {t : TypeId} {cs : List Value} (h : Blk w g t cs) (hg : w.grownBy w' row) (hne : some g ≠ row) : Blk w' g t cs := (hg.block g h.lt hne).trans h

/-- 'make([]T, l, c)' (elements of one cell): a new block of c zero cells. -/
theorem wpList_make_blk {P : Program} {w : World} {ops : Array Oper} {rest : List Oper} {o : Oper} {a : Act} {Q : Exit → Act → World → Prop}
    (hg : o.guard = none) (l c : Operand) (t : TypeId) (hop : o.op = Op.makeSlice t l c)
    (e : TypeId) (i : TypeInfo) (z : Value) (h1 : P.underlying t = some (.slice e)) (h2 : P.info? e = some i) (h3 : i.zero = some z) (h4 : i.size = 1) (hz : z.cells = #[z]) (bytes : Nat) (h5 : i.bytes = bytes)
    (kl kc : IntKind) (L C : Int) (ln n : Nat) (hl : a.eval l = .int kl L) (hc : a.eval c = .int kc C) (hL : L = (ln : Int)) (hC : C = (n : Int)) (hle : ln ≤ n) (b2 : bytes * n ≤ 281474976710656) (b3 : n ≤ 9223372036854775807)
    (hK : ∀ w', Blk w' w.heap.size e (List.replicate n z) → w'.heap.size = w.heap.size + 1 → Below w.heap.size w w' → wpList P ops Q rest (a.put o.dst (.slice (some ⟨w.heap.size, 0, none⟩) ln n)) w') :
    wpList P ops Q (o :: rest) a w := by
  refine wpList_plain hg fun K hK' => ?_
  subst hL hC h5
  have hb2 : (i.bytes : Int) * (n : Int) ≤ 281474976710656 := by
    have e : ((i.bytes : Int) * (n : Int)) = ((i.bytes * n : Nat) : Int) := by simp
    rw [e]; omega
  have hrun := run_make (P := P) w t e i z h1 h2 h3 kl kc ln n (by omega) (by omega) hb2 (by omega)
  simp only [Int.toNat_natCast, h4, Nat.mul_one, hz] at hrun
  have hB := Blk.new w (madeCells #[z] n) e
  rw [toList_madeCells_one] at hB
  unfold Oper.wp
  simp [execOp, hop, hl, hc, hrun, Result.andThen]
  exact hK' _ _ (hK _ hB (by simp) ((Below.refl _ _).alloc (Nat.le_refl _) _))

/-- 'copy(dst, src)' over a block that is known whole, all of it. -/
theorem wpList_copy_blk {P : Program} {w : World} {ops : Array Oper} {rest : List Oper} {o : Oper} {a : Act} {Q : Exit → Act → World → Prop} (hgd : o.guard = none) (d s : Operand) (dT sT : TypeId)
    (ho : o.op = .call { callee := .builtin .copy, args := #[d, s], argTypes := #[dT, sT] }) (elem : TypeId) (hu : P.underlying dT = some (.slice elem)) (hsz : (P.info? elem).map (·.size) = some 1)
    (g n dCap : Nat) (sp : Option Addr) (sCap : Nat) (hd : a.eval d = .slice (some ⟨g, 0, none⟩) n dCap) (hs : a.eval s = .slice sp n sCap)
    (t : TypeId) (cur : List Value) (hg : Blk w g t cur) (hcur : cur.length = n) (cs : List Value) (hn : cs.length = n)
    (hpos : 0 < n → ∃ ad, sp = some ad ∧ ∀ j v, cs[j]? = some v → w.cell? (ad.add j) = some v)
    (h1 : ∀ v ∈ cs, v.oneCell' = true) (B : Nat) (hBg : B ≤ g)
    (h : ∀ w', Blk w' g t cs → w'.heap.size = w.heap.size → Below B w w' → wpList P ops Q rest (a.put o.dst (goInt n)) w') :
    wpList P ops Q (o :: rest) a w := by
  refine wpList_plain hgd fun K hK => ?_
  by_cases h0 : n = 0
  · subst h0
    obtain rfl : cs = [] := List.eq_nil_of_length_eq_zero hn
    obtain rfl : cur = [] := List.eq_nil_of_length_eq_zero hcur
    have hrun := run_copy_none (P := P) w dT sT o.type elem (some ⟨g, 0, none⟩) sp 0 dCap 0 sCap hu hsz rfl
    unfold Oper.wp
    simp [execOp, ho, resolve, invoke, builtin, hd, hs, hrun, Result.andThen]
    exact hK _ _ (h w hg rfl (Below.refl _ _))
  · obtain ⟨ad, rfl, hsrc⟩ := hpos (by omega)
    have hrun := run_copy_row (P := P) w dT sT o.type elem g 0 n dCap ad n sCap cur.toArray t cs hu hsz hg (by simpa using hn) hsrc (by simp; omega) h1
    have e1 : (cur.toArray.toList.take 0 ++ cs ++ cur.toArray.toList.drop (0 + cs.length)).toArray = cs.toArray := by
      simp; omega
    rw [e1, hn] at hrun
    unfold Oper.wp
    simp [execOp, ho, resolve, invoke, builtin, hd, hs, hrun, Result.andThen]
    refine hK _ _ (h _ ?_ (by simp [World.setRow]) ?_)
    · have := setRow_heap w g cur.toArray cs.toArray t (0, 0) hg
      exact this
    · exact ⟨rfl, rfl, rfl, by simp [World.setRow], fun k hk => setRow_other w g k _ (by omega)⟩


theorem Blk.drew {w : World} {g : Nat} {t : TypeId} {cs : List Value} (h : Blk w g t cs) : Blk w.drew g t cs := h
theorem below_drewN' {B : Nat} {w w' : World} (h : Below B w w') (n : Nat) : Below B w (w'.drewN n) := ⟨h.os, h.tape, h.output, h.size, h.block⟩

/-- A slice of strings at an address. -/
def SA (w : World) (ao : Option Addr) (ss : List ByteArray) : Prop :=
  0 < ss.length → ∃ b off, ao = some ⟨b, off, none⟩ ∧ ∀ i, i < ss.length → w.cell? ⟨b, off + i, none⟩ = some (.string (ss.getD i ByteArray.empty))
/-- A slice of bools at an address. -/
def BA (w : World) (ao : Option Addr) (fs : List Bool) : Prop :=
  0 < fs.length → ∃ b off, ao = some ⟨b, off, none⟩ ∧ ∀ i, i < fs.length → w.cell? ⟨b, off + i, none⟩ = some (.bool (fs.getD i false))

theorem SA.below {w w' : World} {ao : Option Addr} {ss : List ByteArray} (h : SA w ao ss) (hb : Below w.heap.size w w') : SA w' ao ss := by
  intro hp
  obtain ⟨b, off, e, hc⟩ := h hp
  exact ⟨b, off, e, fun i hi => (hb.cell (p := ⟨b, off + i, none⟩) (World.block_lt_of_cell? _ _ (hc i hi))).trans (hc i hi)⟩
theorem BA.below {w w' : World} {ao : Option Addr} {fs : List Bool} (h : BA w ao fs) (hb : Below w.heap.size w w') : BA w' ao fs := by
  intro hp
  obtain ⟨b, off, e, hc⟩ := h hp
  exact ⟨b, off, e, fun i hi => (hb.cell (p := ⟨b, off + i, none⟩) (World.block_lt_of_cell? _ _ (hc i hi))).trans (hc i hi)⟩

theorem strs_get (L : List ByteArray) (k : Nat) (h : k < L.length) : (L.map Value.string)[k]? = some (.string (L.getD k ByteArray.empty)) := by
  simp [h, List.getD]
theorem strs_set (L : List ByteArray) (k : Nat) (s : ByteArray) : (L.map Value.string).set k (.string s) = (L.set k s).map Value.string := by
  rw [List.map_set]
theorem bools_get (L : List Bool) (k : Nat) (h : k < L.length) : (L.map Value.bool)[k]? = some (.bool (L.getD k false)) := by
  simp [h, List.getD]
theorem bools_set (L : List Bool) (k : Nat) (s : Bool) : (L.map Value.bool).set k (.bool s) = (L.set k s).map Value.bool := by
  rw [List.map_set]
theorem getD_set (L : List ByteArray) (i j : Nat) (v : ByteArray) (hj : j < L.length) : (L.set i v).getD j ByteArray.empty = if i = j then v else L.getD j ByteArray.empty := by
  simp only [List.getD, List.getElem?_set]
  by_cases h : i = j
  · subst h; simp [hj]
  · simp [h]
theorem getD_setB (L : List Bool) (i j : Nat) (v : Bool) (hj : j < L.length) : (L.set i v).getD j false = if i = j then v else L.getD j false := by
  simp only [List.getD, List.getElem?_set]
  by_cases h : i = j
  · subst h; simp [hj]
  · simp [h]
theorem ext_getD {L M : List ByteArray} (hl : L.length = M.length) (h : ∀ j, j < M.length → L.getD j ByteArray.empty = M.getD j ByteArray.empty) : L = M := by
  apply List.ext_getElem hl
  intro j h1 h2
  have := h j h2
  simpa [List.getD, h1, h2] using this
theorem ext_getDB {L M : List Bool} (hl : L.length = M.length) (h : ∀ j, j < M.length → L.getD j false = M.getD j false) : L = M := by
  apply List.ext_getElem hl
  intro j h1 h2
  have := h j h2
  simpa [List.getD, h1, h2] using this

theorem SA.of_blk {w : World} {g : Nat} {ss : List ByteArray} (h : Blk w g 9 (ss.map Value.string)) : SA w (some ⟨g, 0, none⟩) ss := by
  intro _
  exact ⟨g, 0, rfl, fun i hi => by rw [Nat.zero_add]; exact h.cell (strs_get ss i hi)⟩
theorem BA.of_blk {w : World} {g : Nat} {fs : List Bool} (h : Blk w g 4 (fs.map Value.bool)) : BA w (some ⟨g, 0, none⟩) fs := by
  intro _
  exact ⟨g, 0, rfl, fun i hi => by rw [Nat.zero_add]; exact h.cell (bools_get fs i hi)⟩
end Go.Proofs.Qxb6000406a
