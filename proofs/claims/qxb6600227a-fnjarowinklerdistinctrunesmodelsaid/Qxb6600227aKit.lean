import Derived.WalkKit
import Derived.WalkSpells
import Derived.WalkLawsBesides
import Derived.Laws.IdiomCopy
namespace Go.Proofs.Qxb6600227a
open Go.RowKit

/-- Block g holds just the cells cs, elements of type t; none is frozen. -/
def Blk (w : World) (g : Nat) (t : TypeId) (cs : List Value) : Prop := w.heap[g]? = some (.cells cs.toArray t (0, 0))

theorem Blk.lt {w : World} {g : Nat} {t : TypeId} {cs : List Value} (h : Blk w g t cs) : g < w.heap.size := (Array.getElem?_eq_some_iff.1 h).1

theorem Blk.cell {w : World} {g : Nat} {t : TypeId} {cs : List Value} (h : Blk w g t cs) {i : Nat} {v : Value} (hi : cs[i]? = some v) : w.cell? ⟨g, i, none⟩ = some v := by
  unfold Blk at h
  simp [World.cell?, h, hi]

theorem Blk.free {w : World} {g : Nat} {t : TypeId} {cs : List Value} (h : Blk w g t cs) (i : Nat) : w.frozen? ⟨g, i, none⟩ = false := by
  unfold Blk at h
  simp [World.frozen?, h]

theorem Blk.below {w w' : World} {g B : Nat} {t : TypeId} {cs : List Value} (h : Blk w g t cs) (hb : Below B w w') (hg : g < B) : Blk w' g t cs := (hb.block g hg).trans h

theorem Blk.set {w : World} {g : Nat} {t : TypeId} {cs : List Value} (h : Blk w g t cs) (i : Nat) (v : Value) : Blk (w.setCell ⟨g, i, none⟩ v) g t (cs.set i v) := by
  rw [setCell_eq_setRow w g i cs.toArray t (0, 0) v h]
  have := setRow_heap w g cs.toArray (cs.toArray.setIfInBounds i v) t (0, 0) h
  unfold Blk
  rw [this]
  simp

theorem Blk.setOther {w : World} {g g' : Nat} {t : TypeId} {cs : List Value} (h : Blk w g t cs) (i : Nat) (v : Value) (hne : g ≠ g') : Blk (w.setCell ⟨g', i, none⟩ v) g t cs :=
  (Below.heap_setCell w ⟨g', i, none⟩ v g hne).trans h

theorem Blk.alloc {w : World} {g : Nat} {t : TypeId} {cs : List Value} (h : Blk w g t cs) (o : Obj) : Blk (w.alloc o) g t cs :=
  (Below.heap_alloc w o g h.lt).trans h

theorem Blk.new (w : World) (cs : Array Value) (t : TypeId) : Blk (w.alloc (.cells cs t)) w.heap.size t cs.toList := by
  show (w.heap.push _)[w.heap.size]? = _
  simp

theorem Blk.grown {w w' : World} {g : Nat} {row : Option Nat} {t : TypeId} {cs : List Value} (h : Blk w g t cs) (hg : w.grownBy w' row) (hne : some g ≠ row) : Blk w' g t cs := (hg.block g h.lt hne).trans h

/-- 'make([]T, l, c)' (elements of one cell): a new block of c zero cells. -/
theorem wpList_make_blk {P : Program} {w : World} {ops : Array Oper} {rest : List Oper} {o : Oper} {a : Act} {Q : Exit → Act → World → Prop}
    (hg : o.guard = none) (l c : Operand) (t : TypeId) (hop : o.op = Op.makeSlice t l c)
    (e : TypeId) (i : TypeInfo) (z : Value) (h1 : P.underlying t = some (.slice e)) (h2 : P.info? e = some i) (h3 : i.zero = some z) (h4 : i.size = 1) (hz : z.cells = #[z]) (bytes : Nat) (h5 : i.bytes = bytes)
    (kl kc : IntKind) (L C : Int) (ln n : Nat) (hl : a.eval l = .int kl L) (hc : a.eval c = .int kc C) (hL : L = (ln : Int)) (hC : C = (n : Int)) (hle : ln ≤ n) (b2 : bytes * n ≤ 281474976710656) (b3 : n ≤ 9223372036854775807)
    (hK : ∀ w', Blk w' w.heap.size e (List.replicate n z) → w'.heap.size = w.heap.size + 1 → Below w.heap.size w w' → wpList P ops Q rest (a.put o.dst (.slice (some ⟨w.heap.size, 0, none⟩) ln n)) w') :
    wpList P ops Q (o :: rest) a w := by
  refine wpList_plain hg fun K hK' => ?_
  subst hL hC h5
  have hb2 : (i.bytes : Int) * (n : Int) ≤ 281474976710656 := by
    have e : ((i.bytes : Int) * (n : Int)) = ((i.bytes * n : Nat) : Int) := by simp
    rw [e]; omega
  have hrun := run_make (P := P) w t e i z h1 h2 h3 kl kc ln n (by omega) (by omega) hb2 (by omega)
  simp only [Int.toNat_natCast, h4, Nat.mul_one, hz] at hrun
  have hB := Blk.new w (madeCells #[z] n) e
  rw [toList_madeCells_one] at hB
  unfold Oper.wp
  simp [execOp, hop, hl, hc, hrun, Result.andThen]
  exact hK' _ _ (hK _ hB (by simp) ((Below.refl _ _).alloc (Nat.le_refl _) _))

/-- 'copy(dst, src)' over a block that is known whole, all of it. -/
theorem wpList_copy_blk {P : Program} {w : World} {ops : Array Oper} {rest : List Oper} {o : Oper} {a : Act} {Q : Exit → Act → World → Prop} (hgd : o.guard = none) (d s : Operand) (dT sT : TypeId)
    (ho : o.op = .call { callee := .builtin .copy, args := #[d, s], argTypes := #[dT, sT] }) (elem : TypeId) (hu : P.underlying dT = some (.slice elem)) (hsz : (P.info? elem).map (·.size) = some 1)
    (g n dCap : Nat) (sp : Option Addr) (sCap : Nat) (hd : a.eval d = .slice (some ⟨g, 0, none⟩) n dCap) (hs : a.eval s = .slice sp n sCap)
    (t : TypeId) (cur : List Value) (hg : Blk w g t cur) (hcur : cur.length = n) (cs : List Value) (hn : cs.length = n)
    (hpos : 0 < n → ∃ ad, sp = some ad ∧ ∀ j v, cs[j]? = some v → w.cell? (ad.add j) = some v)
    (h1 : ∀ v ∈ cs, v.oneCell' = true) (B : Nat) (hBg : B ≤ g)
    (h : ∀ w', Blk w' g t cs → w'.heap.size = w.heap.size → Below B w w' → wpList P ops Q rest (a.put o.dst (goInt n)) w') :
    wpList P ops Q (o :: rest) a w := by
  refine wpList_plain hgd fun K hK => ?_
  by_cases h0 : n = 0
  · subst h0
    obtain rfl : cs = [] := List.eq_nil_of_length_eq_zero hn
    obtain rfl : cur = [] := List.eq_nil_of_length_eq_zero hcur
    have hrun := run_copy_none (P := P) w dT sT o.type elem (some ⟨g, 0, none⟩) sp 0 dCap 0 sCap hu hsz rfl
    unfold Oper.wp
    simp [execOp, ho, resolve, invoke, builtin, hd, hs, hrun, Result.andThen]
    exact hK _ _ (h w hg rfl (Below.refl _ _))
  · obtain ⟨ad, rfl, hsrc⟩ := hpos (by omega)
    have hrun := run_copy_row (P := P) w dT sT o.type elem g 0 n dCap ad n sCap cur.toArray t cs hu hsz hg (by simpa using hn) hsrc (by simp; omega) h1
    have e1 : (cur.toArray.toList.take 0 ++ cs ++ cur.toArray.toList.drop (0 + cs.length)).toArray = cs.toArray := by
      simp; omega
    rw [e1, hn] at hrun
    unfold Oper.wp
    simp [execOp, ho, resolve, invoke, builtin, hd, hs, hrun, Result.andThen]
    refine hK _ _ (h _ ?_ (by simp [World.setRow]) ?_)
    · have := setRow_heap w g cur.toArray cs.toArray t (0, 0) hg
      exact this
    · exact ⟨rfl, rfl, rfl, by simp [World.setRow], fun k hk => setRow_other w g k _ (by omega)⟩


/-! ### '[]rune(s)' -/
/-- The code points of a string, from byte i on. -/
def runesFromL (s : ByteArray) : (bound i : Nat) → List Int
  | 0, _ => []
  | bound + 1, i => if i < s.size then (Int.ofNat (Utf8.decode s i).1) :: runesFromL s bound (i + (Utf8.decode s i).2) else []
/-- The code points of a string. -/
def runes (s : ByteArray) : List Int := runesFromL s s.size 0

theorem runesFrom_eq (s : ByteArray) : ∀ (bound i : Nat) (acc : Array Value), Conv.runesFrom s bound i acc = acc ++ ((runesFromL s bound i).map (Value.int .i32)).toArray
  | 0, _, acc => by simp [Conv.runesFrom, runesFromL]
  | bound + 1, i, acc => by
    unfold Conv.runesFrom runesFromL
    by_cases h : i < s.size
    · rw [if_pos h, if_pos h]
      simp only []
      rw [runesFrom_eq s bound]
      simp
    · rw [if_neg h, if_neg h]; simp

theorem runes_eq (s : ByteArray) : Conv.runesFrom s s.size 0 #[] = ((runes s).map (Value.int .i32)).toArray := by
  rw [runesFrom_eq]; simp [runes]

theorem length_runes (s : ByteArray) : (runes s).length ≤ s.size := by
  have h := size_runesFrom s s.size 0 #[]
  rw [runes_eq] at h
  simpa using h

theorem runes_ne (s : ByteArray) (h : 0 < s.size) : 0 < (runes s).length := by
  unfold runes
  cases hs : s.size with
  | zero => omega
  | succ n => simp [runesFromL, hs]

/-- Block g holds (at its head) the code points rs. -/
def Runes (w : World) (g : Nat) (rs : List Int) : Prop := g < w.heap.size ∧ ∀ i, i < rs.length → w.cell? ⟨g, i, none⟩ = some (.int .i32 (rs.getD i 0))

theorem Runes.below {w w' : World} {g B : Nat} {rs : List Int} (h : Runes w g rs) (hb : Below B w w') (hg : g < B) : Runes w' g rs :=
  ⟨Nat.lt_of_lt_of_le h.1 hb.size, fun i hi => (hb.cell (p := ⟨g, i, none⟩) hg).trans (h.2 i hi)⟩

/-- '[]rune(s)' as a law for the walk. -/
theorem wpList_runes {P : Program} {w : World} {ops : Array Oper} {rest : List Oper} {o : Oper} {a : Act} {Q : Exit → Act → World → Prop}
    (hg : o.guard = none) (x : Operand) (src dst : TypeId) (hop : o.op = Op.convert src dst x) (e : TypeId)
    (hs : P.underlying src = some .string) (hd : P.underlying dst = some (.slice e)) (he : P.underlying e = some (.int .i32))
    (s : ByteArray) (hx : a.eval x = .string s) (hlen : s.size ≤ 1048576)
    (hK : ∀ w' cap, Runes w' w.heap.size (runes s) → w'.heap.size = w.heap.size + 1 → Below w.heap.size w w' → wpList P ops Q rest (a.put o.dst (.slice (some ⟨w.heap.size, 0, none⟩) (runes s).length cap)) w') :
    wpList P ops Q (o :: rest) a w := by
  refine wpList_plain hg fun K hK' => ?_
  have hl := length_runes s
  have hrun := run_runes_of_string (P := P) w src dst e s hs hd he (by rw [runes_eq]; simp; omega)
  rw [runes_eq] at hrun
  simp only [List.size_toArray, List.length_map] at hrun
  generalize hc : grownCap w (runes s).length 0 e = cap at hrun
  have hB := Blk.new w.drew (((runes s).map (Value.int .i32)).toArray ++ Array.replicate (cap - (runes s).length) (.int .i32 0)) e
  have hR : Runes (w.drew.alloc (.cells (((runes s).map (Value.int .i32)).toArray ++ Array.replicate (cap - (runes s).length) (.int .i32 0)) e)) w.heap.size (runes s) := by
    refine ⟨by simp, fun i hi => ?_⟩
    refine hB.cell (g := w.heap.size) ?_
    rw [Array.toList_append, List.getElem?_append_left (by simpa using hi)]
    simp [hi, List.getD]
  unfold Oper.wp
  simp [execOp, hop, hx, hrun, Result.andThen]
  exact hK' _ _ (hK _ cap hR (by simp) ((Below.refl _ _).drew.alloc (Nat.le_refl _) _))

end Go.Proofs.Qxb6600227a
