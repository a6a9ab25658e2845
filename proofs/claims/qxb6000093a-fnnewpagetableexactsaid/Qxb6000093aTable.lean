import Derived.Test.Qxb6000093aRowsV
import Derived.Deep.AppendLies
namespace Go.Proofs.Qxb6000093a
open Go.RowKit

theorem Try.info51 : (Try.prog.info? 51).map (fun i => (i.zero, i.size, i.bytes)) = some (some (.agg #[.string ByteArray.empty, .bool false]), 2, 24) := by kernel_rfl
theorem Try.info42 : (Try.prog.info? 42).map (fun i => (i.zero, i.size, i.bytes)) = some (some (.slice none 0 0), 1, 24) := by kernel_rfl

/-- A column: name, title, numeric. -/
structure Col where
  name : ByteArray
  title : ByteArray
  num : Bool
def Col.none : Col := ⟨ByteArray.empty, ByteArray.empty, false⟩
/-- A cell of the page: text, numeric. -/
structure PC where
  text : ByteArray
  num : Bool
def PC.none : PC := ⟨ByteArray.empty, false⟩

/-- A slice of columns. -/
def CA (w : World) (ao : Option Addr) (C : List Col) : Prop :=
  0 < C.length → ∃ b, ao = some ⟨b, 0, Option.none⟩ ∧ ∀ i, i < C.length → w.cell? ⟨b, i * 3, Option.none⟩ = some (.string (C.getD i Col.none).name) ∧ w.cell? ⟨b, i * 3 + 1, Option.none⟩ = some (.string (C.getD i Col.none).title) ∧ w.cell? ⟨b, i * 3 + 2, Option.none⟩ = some (.bool (C.getD i Col.none).num)
theorem CA.below {w w' : World} {ao : Option Addr} {C : List Col} (h : CA w ao C) (hb : Below w.heap.size w w') : CA w' ao C := by
  intro hp
  obtain ⟨b, e, hc⟩ := h hp
  have hlt := World.block_lt_of_cell? _ _ (hc 0 hp).1
  exact ⟨b, e, fun i hi => ⟨(hb.cell (p := ⟨b, i * 3, Option.none⟩) hlt).trans (hc i hi).1, (hb.cell (p := ⟨b, i * 3 + 1, Option.none⟩) hlt).trans (hc i hi).2.1, (hb.cell (p := ⟨b, i * 3 + 2, Option.none⟩) hlt).trans (hc i hi).2.2⟩⟩

/-- The cells of a list of page cells. -/
def pcells (L : List PC) : List Value := L.flatMap fun p => [.string p.text, .bool p.num]
theorem pcells_append (L M : List PC) : pcells (L ++ M) = pcells L ++ pcells M := List.flatMap_append
theorem pcells_length (L : List PC) : (pcells L).length = L.length * 2 := by
  induction L with
  | nil => rfl
  | cons p L ih => simp only [pcells, List.flatMap_cons, List.length_append, List.length_cons, List.length_nil] at ih ⊢; omega

/-- The heads of the first k columns. -/
def heads (C : List Col) (k : Nat) : List PC := (C.take k).map fun c => ⟨c.title, c.num⟩
theorem heads_snoc (C : List Col) (k : Nat) (h : k < C.length) : heads C (k + 1) = heads C k ++ [⟨(C.getD k Col.none).title, (C.getD k Col.none).num⟩] := by
  unfold heads
  rw [List.take_succ_eq_append_getElem h, List.map_append]
  simp [List.getD, h]
theorem heads_length (C : List Col) (k : Nat) (h : k ≤ C.length) : (heads C k).length = k := by simp [heads]; omega

theorem own_ne {w : World} {base : Nat} {e : TypeId} {size n : Nat} {v : Value} {xs : List Value} (h : w.ownsRow base e size v n xs) {g : Nat} (hg : g < base) : some g ≠ v.ownBlock := by
  rcases h.2 with ⟨rfl, _⟩ | ⟨g', cap, cur, rfl, hb, _⟩
  · simp [Value.ownBlock]
  · simp [Value.ownBlock]; omega

theorem own_base {w : World} {base : Nat} {e : TypeId} {size n g cap : Nat} {xs : List Value} (h : w.ownsRow base e size (.slice (some ⟨g, 0, Option.none⟩) n cap) n xs) : base ≤ g := by
  rcases h.2 with ⟨h', _⟩ | ⟨g', cap', cur, h', hb, _⟩
  · simp at h'
  · simp at h'; omega

/-- 'make([]T, n)', elements of 'size' cells: a new block of n * size cells. -/
theorem wpList_make_wide {P : Program} {w : World} {ops : Array Oper} {rest : List Oper} {o : Oper} {a : Act} {Q : Exit → Act → World → Prop}
    (hg : o.guard = Option.none) (l c : Operand) (t : TypeId) (hop : o.op = Op.makeSlice t l c)
    (e : TypeId) (i : TypeInfo) (z : Value) (size : Nat) (h1 : P.underlying t = some (.slice e)) (h2 : P.info? e = some i) (h3 : i.zero = some z) (h4 : i.size = size) (bytes : Nat) (h5 : i.bytes = bytes)
    (kl kc : IntKind) (L C : Int) (n : Nat) (hl : a.eval l = .int kl L) (hc : a.eval c = .int kc C) (hL : L = (n : Int)) (hC : C = (n : Int)) (b2 : bytes * n ≤ 281474976710656) (b3 : n ≤ 9223372036854775807)
    (hK : ∀ w' cs, cs.length = n * size → Blk w' w.heap.size e cs → w'.heap.size = w.heap.size + 1 → Below w.heap.size w w' → wpList P ops Q rest (a.put o.dst (.slice (some ⟨w.heap.size, 0, Option.none⟩) n n)) w') :
    wpList P ops Q (o :: rest) a w := by
  refine wpList_plain hg fun K hK' => ?_
  subst hL hC h5 h4
  have hb2 : (i.bytes : Int) * (n : Int) ≤ 281474976710656 := by
    have e : ((i.bytes : Int) * (n : Int)) = ((i.bytes * n : Nat) : Int) := by simp
    rw [e]; omega
  have hrun := run_make (P := P) w t e i z h1 h2 h3 kl kc n n (by omega) (by omega) hb2 (by omega)
  simp only [Int.toNat_natCast] at hrun
  have hB := Blk.new w (madeCells z.cells (n * i.size)) e
  unfold Oper.wp
  simp [execOp, hop, hl, hc, hrun, Result.andThen]
  exact hK' _ _ (hK _ _ (by simp [size_madeCells]) hB (by simp) ((Below.refl _ _).alloc (Nat.le_refl _) _))

theorem own_below {w w' : World} {base : Nat} {e : TypeId} {size n K : Nat} {v : Value} {xs : List Value} (h : w.ownsRow base e size v n xs) (hb : Below K w w') (hk : ∀ g, v.ownBlock = some g → g < K) : w'.ownsRow base e size v n xs := by
  refine ⟨h.1, ?_⟩
  rcases h.2 with h2 | ⟨g, cap, cur, hv, hg, hh, r⟩
  · exact .inl h2
  · exact .inr ⟨g, cap, cur, hv, hg, (hb.block g (hk g (by rw [hv]; rfl))).trans hh, r⟩
theorem own_lt {w : World} {base : Nat} {e : TypeId} {size n : Nat} {v : Value} {xs : List Value} (h : w.ownsRow base e size v n xs) (g : Nat) (hg : v.ownBlock = some g) : g < w.heap.size := by
  rcases h.2 with ⟨rfl, _⟩ | ⟨g', cap, cur, rfl, hb, hh, _⟩
  · simp [Value.ownBlock] at hg
  · simp [Value.ownBlock] at hg
    subst hg
    exact (Array.getElem?_eq_some_iff.1 hh).1

/-- Block b holds (at its head) the page cells L. -/
def PB (w : World) (b : Nat) (L : List PC) : Prop := ∃ cs : List Value, Blk w b 51 cs ∧ ∀ i, i < L.length → cs[i * 2]? = some (.string (L.getD i PC.none).text) ∧ cs[i * 2 + 1]? = some (.bool (L.getD i PC.none).num)
theorem PB.below {w w' : World} {b K : Nat} {L : List PC} (h : PB w b L) (hb : Below K w w') (hk : b < K) : PB w' b L := by
  obtain ⟨cs, h1, h2⟩ := h
  exact ⟨cs, h1.below hb hk, h2⟩
theorem PB.lt {w : World} {b : Nat} {L : List PC} (h : PB w b L) : b < w.heap.size := by
  obtain ⟨cs, h1, h2⟩ := h
  exact h1.lt
theorem PB.alloc {w : World} {b : Nat} {L : List PC} (h : PB w b L) (o : Obj) : PB (w.alloc o) b L := by
  obtain ⟨cs, h1, h2⟩ := h
  exact ⟨cs, h1.alloc o, h2⟩
theorem PB.setOther {w : World} {b : Nat} {L : List PC} (h : PB w b L) (i : Nat) (v : Value) {g : Nat} (hne : b ≠ g) : PB (w.setCell ⟨g, i, Option.none⟩ v) b L := by
  obtain ⟨cs, h1, h2⟩ := h
  exact ⟨cs, h1.setOther i v hne, h2⟩
/-- An append to a row of another element type leaves it. -/
theorem PB.grown {w w' : World} {b : Nat} {L : List PC} (h : PB w b L) {base : Nat} {e : TypeId} {size n : Nat} {v : Value} {xs : List Value} (ho : w.ownsRow base e size v n xs) (he : e ≠ 51) (hg : w.grownBy w' v.ownBlock) : PB w' b L := by
  obtain ⟨cs, h1, h2⟩ := h
  refine ⟨cs, h1.grown hg ?_, h2⟩
  rcases ho.2 with ⟨rfl, _⟩ | ⟨g', cap, cur, rfl, hb, hh, _⟩
  · simp [Value.ownBlock]
  · simp only [Value.ownBlock]
    intro hc
    obtain rfl : b = g' := by simpa using hc
    unfold Blk at h1
    rw [h1] at hh
    simp at hh
    exact he hh.2.symm
theorem PB.of_own {w : World} {base g cap n : Nat} {L : List PC} (h : w.ownsRow base 51 2 (.slice (some ⟨g, 0, Option.none⟩) n cap) n (pcells L)) : PB w g L := by
  rcases h.2 with ⟨h', _⟩ | ⟨g', cap', cur, h', hb, hh, hle, _, hcs, hxs⟩
  · simp at h'
  · simp at h'
    obtain ⟨rfl, rfl⟩ := h'
    refine ⟨cur.toList, by unfold Blk; simpa using hh, fun i hi => ?_⟩
    have hl := pcells_length L
    have hn := h.1
    have key : ∀ j, j < L.length * 2 → cur.toList[j]? = (pcells L)[j]? := by
      intro j hj
      rw [← hxs, List.getElem?_take, if_pos (by omega)]
    rw [key _ (by omega), key _ (by omega)]
    exact pcells_get L i hi
where pcells_get : ∀ (L : List PC) (i : Nat), i < L.length → (pcells L)[i * 2]? = some (.string (L.getD i PC.none).text) ∧ (pcells L)[i * 2 + 1]? = some (.bool (L.getD i PC.none).num)
  | [], i, h => by simp at h
  | p :: L, 0, _ => by simp [pcells]
  | p :: L, i + 1, h => by
    have ih := pcells_get L i (by simpa using h)
    have e : pcells (p :: L) = .string p.text :: .bool p.num :: pcells L := rfl
    rw [e, show (i + 1) * 2 = i * 2 + 1 + 1 by omega, show i * 2 + 1 + 1 + 1 = (i * 2 + 1) + 1 + 1 by omega]
    simpa using ih

/-- A finished row of page cells. -/
structure PRow where
  g : Nat
  L : List PC
def PRow.none : PRow := ⟨0, []⟩
def PRow.val (p : PRow) : Value := .slice (some ⟨p.g, 0, Option.none⟩) p.L.length p.L.length
/-- The page cells of a row of texts. -/
def rowpc (C : List Col) (ss : List ByteArray) : List PC := (List.range ss.length).map fun j => ⟨ss.getD j ByteArray.empty, (C.getD j Col.none).num⟩
theorem rowpc_length (C : List Col) (ss : List ByteArray) : (rowpc C ss).length = ss.length := by simp [rowpc]
theorem rowpc_get (C : List Col) (ss : List ByteArray) (j : Nat) (h : j < ss.length) : (rowpc C ss).getD j PC.none = ⟨ss.getD j ByteArray.empty, (C.getD j Col.none).num⟩ := by
  simp [rowpc, List.getD, h]

/-- The state of the table behind i rows. -/
structure TEnv (w : World) (cp : ByteArray) (C : List Col) (R : List RowV) (n i : Nat) (ho : Option Addr) (hcap : Nat) (ro : Option Addr) (rcap : Nat) (Q : List PRow) (wr : World) : Prop where
  b0 : Blk wr w.heap.size 45 [.string ByteArray.empty, .slice Option.none 0 0, .slice Option.none 0 0]
  b1 : Blk wr (w.heap.size + 1) 45 [.string cp, .slice ho n hcap, .slice ro i rcap]
  own : wr.ownsRow (w.heap.size + 2) 42 1 (.slice ro i rcap) i (Q.map PRow.val)
  q : ∀ j, j < i → PB wr (Q.getD j PRow.none).g (Q.getD j PRow.none).L ∧ (Q.getD j PRow.none).L = rowpc C (R.getD j RowV.none).ss ∧ w.heap.size + 2 ≤ (Q.getD j PRow.none).g
  h : 0 < n → ∃ gh, ho = some ⟨gh, 0, Option.none⟩ ∧ PB wr gh (heads C n) ∧ w.heap.size + 2 ≤ gh
  be : Below w.heap.size w wr
  sz : w.heap.size + 2 ≤ wr.heap.size

theorem TEnv.ql {w : World} {cp : ByteArray} {C : List Col} {R : List RowV} {n i : Nat} {ho : Option Addr} {hcap : Nat} {ro : Option Addr} {rcap : Nat} {Q : List PRow} {wr : World} (h : TEnv w cp C R n i ho hcap ro rcap Q wr) : Q.length = i := by
  have := h.own.1
  simpa using this

theorem TEnv.below {w : World} {cp : ByteArray} {C : List Col} {R : List RowV} {n i : Nat} {ho : Option Addr} {hcap : Nat} {ro : Option Addr} {rcap : Nat} {Q : List PRow} {wr w' : World} (h : TEnv w cp C R n i ho hcap ro rcap Q wr) (hb : Below wr.heap.size wr w') :
    TEnv w cp C R n i ho hcap ro rcap Q w' := by
  refine ⟨h.b0.below hb h.b0.lt, h.b1.below hb h.b1.lt, own_below h.own hb (fun g hg => own_lt h.own g hg), fun j hj => ?_, fun hp => ?_, h.be.trans (hb.mono h.be.size), Nat.le_trans h.sz hb.size⟩
  · obtain ⟨a, b, c⟩ := h.q j hj
    exact ⟨a.below hb a.lt, b, c⟩
  · obtain ⟨gh, a, b, c⟩ := h.h hp
    exact ⟨gh, a, b.below hb b.lt, c⟩

theorem TEnv.push {w : World} {cp : ByteArray} {C : List Col} {R : List RowV} {n i : Nat} {ho : Option Addr} {hcap : Nat} {ro : Option Addr} {rcap : Nat} {Q : List PRow} {wi : World} (h : TEnv w cp C R n i ho hcap ro rcap Q wi)
    (p : PRow) (hp : PB wi p.g p.L) (hl : p.L = rowpc C (R.getD i RowV.none).ss) (hg : w.heap.size + 2 ≤ p.g) (o : Obj) {w1 : World} {g cap : Nat}
    (hown : w1.ownsRow (w.heap.size + 2) 42 1 (.slice (some ⟨g, 0, Option.none⟩) (i + 1) cap) (i + 1) (Q.map PRow.val ++ [p.val])) (hgrow : (wi.alloc o).grownBy w1 (Value.slice ro i rcap).ownBlock) :
    TEnv w cp C R n (i + 1) ho hcap (some ⟨g, 0, Option.none⟩) cap (Q ++ [p]) (w1.setCell ⟨w.heap.size + 1, 2, Option.none⟩ (.slice (some ⟨g, 0, Option.none⟩) (i + 1) cap)) := by
  have hql := h.ql
  have hne : ∀ q, q < w.heap.size + 2 → some q ≠ (Value.slice ro i rcap).ownBlock := fun q hq => own_ne h.own hq
  have ho' := h.own.alloc o
  have hsz := h.sz
  refine ⟨((h.b0.alloc o).grown hgrow (hne _ (by omega))).setOther _ _ (by omega), ((h.b1.alloc o).grown hgrow (hne _ (by omega))).set 2 _, ?_, fun j hj => ?_, fun hp0 => ?_, ?_, ?_⟩
  · have h2 := ownsRow_setCell_below hown (a := ⟨w.heap.size + 1, 2, Option.none⟩) (by show w.heap.size + 1 < w.heap.size + 2; omega) (.slice (some ⟨g, 0, Option.none⟩) (i + 1) cap)
    simpa using h2
  · by_cases hji : j < i
    · have e : (Q ++ [p]).getD j PRow.none = Q.getD j PRow.none := by
        simp [List.getD, List.getElem?_append_left (show j < Q.length by omega)]
      rw [e]
      obtain ⟨a, b, c⟩ := h.q j hji
      exact ⟨((a.alloc o).grown ho' (by decide) hgrow).setOther _ _ (by omega), b, c⟩
    · obtain rfl : j = i := by omega
      have e : (Q ++ [p]).getD j PRow.none = p := by
        simp [List.getD, ← hql]
      rw [e]
      exact ⟨((hp.alloc o).grown ho' (by decide) hgrow).setOther _ _ (by omega), hl, hg⟩
  · obtain ⟨gh, a, b, c⟩ := h.h hp0
    exact ⟨gh, a, ((b.alloc o).grown ho' (by decide) hgrow).setOther _ _ (by omega), c⟩
  · refine ((h.be.alloc (by omega) o).grown hgrow (by simp; omega) (fun q hq => ?_)).setCell (by show w.heap.size ≤ w.heap.size + 1; omega) _
    rcases Nat.lt_or_ge q (w.heap.size + 2) with h' | h'
    · exact absurd hq.symm (hne q h')
    · omega
  · have := hgrow.size
    simp only [World.size_alloc] at this
    show w.heap.size + 2 ≤ (World.setCell _ _ _).heap.size
    simp [World.setCell]; omega

set_option maxHeartbeats 4000000 in
set_option maxRecDepth 100000 in
theorem table17 (cp : ByteArray) (gr : Nat) (ac a4 : Option Addr) (cc c4 n m : Nat) (C : List Col) (R : List RowV) (hn : C.length = n) (hm : R.length = m) (hbn : n ≤ 1048576) (hbm : m ≤ 1048576) (hrl : ∀ i, i < m → (R.getD i RowV.none).ss.length ≤ n)
    (w : World) (hr0 : w.cell? ⟨gr, 0, Option.none⟩ = some (.slice ac n cc)) (hr1 : w.cell? ⟨gr, 1, Option.none⟩ = some (.slice a4 m c4)) (hC : CA w ac C) (hR : RA w a4 R) :
    Calls Try.prog 17 #[.string cp, .pointer (some ⟨gr, 0, Option.none⟩)] w fun e w' => ∃ (ho ro : Option Addr) (hcap rcap : Nat) (Q : List PRow), e = .returned (.agg #[.string cp, .slice ho n hcap, .slice ro m rcap]) ∧
      ((n = 0 → ho = Option.none ∧ hcap = 0) ∧ (0 < n → ∃ gh, ho = some ⟨gh, 0, Option.none⟩ ∧ PB w' gh (heads C n))) ∧
      ((m = 0 → ro = Option.none ∧ rcap = 0) ∧ (0 < m → ∃ gq, ro = some ⟨gq, 0, Option.none⟩ ∧ ∀ i, i < m → w'.cell? ⟨gq, i, Option.none⟩ = some (Q.getD i PRow.none).val)) ∧
      (∀ i, i < m → PB w' (Q.getD i PRow.none).g (Q.getD i PRow.none).L ∧ (Q.getD i PRow.none).L = rowpc C (R.getD i RowV.none).ss) ∧ Below w.heap.size w w' := by
  have HN : Hid (C.length = n) := hn
  have HM : Hid (R.length = m) := hm
  have HRL : Hid (∀ i, i < m → (R.getD i RowV.none).ss.length ≤ n) := hrl
  have hgr : gr < w.heap.size := World.block_lt_of_cell? _ _ hr0
  clear hn hm hrl
  obtain ⟨i0, hi, hz0, hz1, hz2⟩ := info_parts Try.info51
  go_enter Try.func17, Try.ntmps17
  go_wp2
  have q0 : Blk ((w.alloc (.cells #[.string ByteArray.empty, .slice Option.none 0 0, .slice Option.none 0 0] 45)).alloc (.cells #[.string cp, .slice Option.none 0 0, .slice Option.none 0 0] 45)) w.heap.size 45 [.string ByteArray.empty, .slice Option.none 0 0, .slice Option.none 0 0] := (Blk.new w _ 45).alloc _
  have q1 : Blk ((w.alloc (.cells #[.string ByteArray.empty, .slice Option.none 0 0, .slice Option.none 0 0] 45)).alloc (.cells #[.string cp, .slice Option.none 0 0, .slice Option.none 0 0] 45)) (w.heap.size + 1) 45 [.string cp, .slice Option.none 0 0, .slice Option.none 0 0] := by
    have := Blk.new (w.alloc (.cells #[.string ByteArray.empty, .slice Option.none 0 0, .slice Option.none 0 0] 45)) #[.string cp, .slice Option.none 0 0, .slice Option.none 0 0] 45
    simpa using this
  have q2 : Below w.heap.size w ((w.alloc (.cells #[.string ByteArray.empty, .slice Option.none 0 0, .slice Option.none 0 0] 45)).alloc (.cells #[.string cp, .slice Option.none 0 0, .slice Option.none 0 0] 45)) := ((Below.refl _ _).alloc (Nat.le_refl _) _).alloc (by simp) _
  go_loopw [20] (fun iv wr => ∃ (k hcap : Nat) (ho : Option Addr), k ≤ n ∧ iv = .int .i64 k ∧ Blk wr w.heap.size 45 [.string ByteArray.empty, .slice Option.none 0 0, .slice Option.none 0 0] ∧ Blk wr (w.heap.size + 1) 45 [.string cp, .slice ho k hcap, .slice Option.none 0 0] ∧
      wr.ownsRow (w.heap.size + 2) 51 2 (.slice ho k hcap) k (pcells (heads C k)) ∧ Hid (k = 0 → ho = Option.none ∧ hcap = 0) ∧ Below w.heap.size w wr ∧ w.heap.size + 2 ≤ wr.heap.size)
    (fun iv _ => n - (intOf iv).toNat)
  case atStart => exact ⟨0, 0, Option.none, Nat.zero_le _, rfl, q0, q1, World.ownsRow_nil _ _ _ _, fun _ => ⟨rfl, rfl⟩, q2, by simp⟩
  case round =>
    clear q0 q1 q2
    obtain ⟨k, hcap, ho, hk, rfl, hB0, hB1, hown, hnil, hbe, hsz⟩ := hrel
    by_cases hlt : k < n
    · obtain ⟨b, rfl, hc⟩ := hC.below hbe (by have := HN.out; omega)
      obtain ⟨cn, ct, cm⟩ := hc k (by have := HN.out; omega)
      have hhs := heads_snoc C k (by have := HN.out; omega)
      have hhl := heads_length C k (by have := HN.out; omega)
      obtain ⟨c, hcc⟩ : ∃ c, c = C.getD k Col.none := ⟨_, rfl⟩
      rw [← hcc] at cn ct cm hhs
      obtain ⟨cname, ctitle, cnum⟩ := c
      simp only at cn ct cm hhs
      have HHS : Hid (heads C (k + 1) = heads C k ++ [⟨ctitle, cnum⟩]) := hhs
      have HHL : Hid ((heads C k).length = k) := hhl
      have hb1c : ∀ o, (wr.alloc o).cell? ⟨w.heap.size + 1, 1, Option.none⟩ = some (.slice ho k hcap) := fun o => (hB1.alloc o).cell (i := 1) rfl
      clear hcc hhs hhl hc
      go_wp2_with (at_builtin; go_must (refine wpList_append_lies _ rfl (.tmp 25) (.tmp 31) 42 rfl (w.heap.size + 2) 51 i0 _ 2 24 Try.underlying42 hi hz0 hz1 hz2 rfl (by decide) (.slice ho k hcap) k (pcells (heads C k)) rfl ((hown.alloc _).alloc _) ⟨wr.heap.size + 1, 0, Option.none⟩ 1 1 [.string ctitle, .bool cnum] rfl rfl ?hnews (by simp [Value.oneCell']) (by omega) (by unfold maxLen; omega) (by omega) (by simp; omega) (wr.heap.size + 2) (by simp) ?_; rotate_right; intro g cap w1 hown1 hgrow1 hat1 hlt1); go_must (have hown0 : w.heap.size + 2 ≤ g := own_base hown1); go_must (have hB1' := ((hB1.alloc (.cells #[.string cname, .string ctitle, .bool cnum] 41)).alloc (.cells #[.string ctitle, .bool cnum] 51)).grown hgrow1 (own_ne hown (by omega))); have hcs := hB1'.cell (i := 1) (v := .slice ho k hcap) rfl; have hfs := hB1'.free 1)
      case hnews =>
        have hb := Blk.new (wr.alloc (.cells #[.string cname, .string ctitle, .bool cnum] 41)) #[.string ctitle, .bool cnum] 51
        have h := World.news_of_block hb
        simpa using h
      have hB0' := ((hB0.alloc (.cells #[.string cname, .string ctitle, .bool cnum] 41)).alloc (.cells #[.string ctitle, .bool cnum] 51)).grown hgrow1 (own_ne hown (by omega))
      have hbe1 := ((hbe.alloc (by omega) (.cells #[.string cname, .string ctitle, .bool cnum] 41)).alloc (by simp; omega) (.cells #[.string ctitle, .bool cnum] 51)).grown hgrow1 (by simp; omega) (fun q hq => by
        have := own_ne hown (g := q)
        rcases Nat.lt_or_ge q (w.heap.size + 2) with h | h
        · exact absurd hq.symm (this h)
        · omega)
      have hsz1 := hgrow1.size
      simp only [World.size_alloc] at hsz1
      go_roundw
      case rel =>
        refine ⟨k + 1, cap, some ⟨g, 0, Option.none⟩, by omega, by go_num, hB0'.setOther _ _ (by omega), hB1'.set 1 _, ?_, fun h => by omega, hbe1.setCell (by show w.heap.size ≤ w.heap.size + 1; omega) _, ?_⟩
        · have h := ownsRow_setCell_below hown1 (a := ⟨w.heap.size + 1, 1, Option.none⟩) (by show w.heap.size + 1 < w.heap.size + 2; omega) (.slice (some ⟨g, 0, Option.none⟩) (k + 1) cap)
          rw [HHS.out, pcells_append]
          exact h
        · show w.heap.size + 2 ≤ (World.setCell _ _ _).heap.size
          simp [World.setCell]; omega
      case measure => simp [intOf]; omega
    · obtain rfl : k = n := by omega
      have eH : heads C k = heads C C.length := by rw [HN.out]
      rw [eH] at hown
      have hgr0 := (hbe.cell (p := ⟨gr, 0, Option.none⟩) hgr).trans hr0
      have hgr1 := (hbe.cell (p := ⟨gr, 1, Option.none⟩) hgr).trans hr1
      clear eH hlt
      go_wp2
      have hE : TEnv w cp C R k 0 ho hcap Option.none 0 [] wr := by
        refine ⟨hB0, hB1, World.ownsRow_nil _ _ _ _, fun j hj => by omega, fun hp => ?_, hbe, hsz⟩
        obtain ⟨gh, cap, e, hg1, hg2⟩ := hown.form hp
        simp at e
        obtain ⟨rfl, rfl⟩ := e
        refine ⟨gh, rfl, ?_, hg1⟩
        have h := PB.of_own hown
        rw [HN.out] at h
        exact h
      clear hB0 hB1 hown
      obtain ⟨j0, hj, hy0, hy1, hy2⟩ := info_parts Try.info42
      go_loopw [40] (fun iv wr => ∃ (i rcap : Nat) (ro : Option Addr) (Q : List PRow), i ≤ m ∧ iv = .int .i64 i ∧ Hid (i = 0 → ro = Option.none ∧ rcap = 0) ∧ TEnv w cp C R k i ho hcap ro rcap Q wr)
        (fun iv _ => m - (intOf iv).toNat)
      case atStart => exact ⟨0, 0, Option.none, [], Nat.zero_le _, rfl, fun _ => ⟨rfl, rfl⟩, hE⟩
      case round =>
        clear hE
        obtain ⟨i, rcap, ro, Q, hi', rfl, hrn, hE⟩ := hrel
        obtain ⟨wo, rfl⟩ : ∃ wo, wo = wr := ⟨_, rfl⟩
        clear hgr0 hgr1
        by_cases hlt : i < m
        · have hR' := hR.below hE.be
          obtain ⟨b, off, rfl, hc⟩ := hR'.1 (by have := HM.out; omega)
          have hcell := hc i (by have := HM.out; omega)
          have hSA := hR'.2 i (by have := HM.out; omega)
          have hlen := HRL.out i hlt
          obtain ⟨r, hr⟩ : ∃ r, r = R.getD i RowV.none := ⟨_, rfl⟩
          rw [← hr] at hcell hSA hlen
          have HR : Hid (r = R.getD i RowV.none) := hr
          obtain ⟨rro, rrc, rl⟩ := r
          simp only [RowV.val] at hcell hSA hlen
          obtain ⟨rn, hrn'⟩ : ∃ rn, rn = rl.length := ⟨_, rfl⟩
          rw [← hrn'] at hcell hlen
          have HRN : Hid (rn = rl.length) := hrn'
          have HSA : Hid (SA wo rro rl) := hSA
          clear hr hc hR' hrn' hSA
          go_wp2_with (at_make; refine wpList_make_wide rfl (.tmp 45) (.tmp 45) 42 rfl 51 i0 _ 2 Try.underlying42 hi hz0 hz1 24 hz2 .i64 .i64 _ _ rn (by rfl) (by rfl) rfl rfl (by omega) (by omega) ?_; intro w3 cs0 hcs0 hB3 hsz3 hb3)
          have HS3 : Hid (w3.heap.size = wo.heap.size + 1) := hsz3
          clear hsz3
          go_loopw [49] (fun jv wi => ∃ (j : Nat) (cs : List Value), j ≤ rn ∧ jv = .int .i64 j ∧ Hid (cs.length = rn * 2 ∧ ∀ q, q < j → cs[q * 2]? = some (.string (rl.getD q ByteArray.empty)) ∧ cs[q * 2 + 1]? = some (.bool (C.getD q Col.none).num)) ∧ Blk wi wo.heap.size 51 cs ∧ Below wo.heap.size wo wi)
            (fun jv _ => rn - (intOf jv).toNat)
          case atStart => exact ⟨0, cs0, Nat.zero_le _, rfl, ⟨hcs0, fun q hq => by omega⟩, hB3, hb3⟩
          case round =>
            obtain ⟨j, cs, hj', rfl, hcs, hB, hbi⟩ := hrel
            have hbe' : Below w.heap.size w wr := hE.be.trans (hbi.mono hE.be.size)
            by_cases hltj : j < rn
            · obtain ⟨b', off', rfl, hc'⟩ := HSA.out (by have := HRN.out; omega)
              have ht := (hbi.cell (World.block_lt_of_cell? _ _ (hc' j (by have := HRN.out; omega)))).trans (hc' j (by have := HRN.out; omega))
              obtain ⟨bc, rfl, hcc⟩ := (hC.below hbe') (by have := HN.out; omega)
              have hcm := (hcc j (by have := HN.out; omega)).2.2
              have hp0 := (hbe'.cell (p := ⟨gr, 0, Option.none⟩) hgr).trans hr0
              obtain ⟨tx, htx⟩ : ∃ tx, tx = rl.getD j ByteArray.empty := ⟨_, rfl⟩
              obtain ⟨nm, hnm⟩ : ∃ nm, nm = (C.getD j Col.none).num := ⟨_, rfl⟩
              rw [← htx] at ht
              rw [← hnm] at hcm
              have HT : Hid (tx = rl.getD j ByteArray.empty ∧ nm = (C.getD j Col.none).num) := ⟨htx, hnm⟩
              have x0 : ∃ v0, cs[j * 2]? = some v0 := ⟨cs[j * 2]'(by have := hcs.out.1; omega), List.getElem?_eq_getElem _⟩
              have x1 : ∃ v1, cs[j * 2 + 1]? = some v1 := ⟨cs[j * 2 + 1]'(by have := hcs.out.1; omega), List.getElem?_eq_getElem _⟩
              obtain ⟨v0, hv0⟩ := x0
              obtain ⟨v1, hv1⟩ := x1
              have y0 := hB.cell hv0
              have y1 := hB.cell hv1
              have z0 := hB.free (j * 2)
              have z1 := hB.free (j * 2 + 1)
              clear htx hnm hcc hc' hv0 hv1
              go_wp2
              have hB' := (hB.set (j * 2) (.string tx)).set (j * 2 + 1) (.bool nm)
              have hcs' : ((cs.set (j * 2) (.string tx)).set (j * 2 + 1) (.bool nm)).length = rn * 2 ∧ ∀ q, q < j + 1 → ((cs.set (j * 2) (.string tx)).set (j * 2 + 1) (.bool nm))[q * 2]? = some (.string (rl.getD q ByteArray.empty)) ∧ ((cs.set (j * 2) (.string tx)).set (j * 2 + 1) (.bool nm))[q * 2 + 1]? = some (.bool (C.getD q Col.none).num) := by
                obtain ⟨hl, hq⟩ := hcs.out
                refine ⟨by simpa using hl, fun q hqj => ?_⟩
                by_cases e : q = j
                · subst e
                  rw [← HT.out.1, ← HT.out.2]
                  refine ⟨?_, ?_⟩
                  · rw [List.getElem?_set_ne (by omega), List.getElem?_set_self (by omega)]
                  · rw [List.getElem?_set_self (by simp; omega)]
                · rw [List.getElem?_set_ne (by omega), List.getElem?_set_ne (by omega), List.getElem?_set_ne (by omega), List.getElem?_set_ne (by omega)]
                  exact hq q (by omega)
              go_roundw
              case rel => exact ⟨j + 1, _, by omega, by go_num, hcs', hB', (hbi.setCell (by exact Nat.le_refl _) _).setCell (by exact Nat.le_refl _) _⟩
              case measure => simp [intOf]; omega
            · obtain rfl : j = rn := by omega
              have hT := hE.below hbi
              have hPB : PB wr wo.heap.size (rowpc C rl) := by
                refine ⟨cs, hB, fun q hq => ?_⟩
                rw [rowpc_length] at hq
                rw [rowpc_get C rl q hq]
                exact hcs.out.2 q (by have := HRN.out; omega)
              have HPB : Hid (PB wr wo.heap.size (rowpc C rl)) := hPB
              have hc2 := hT.b1.cell (i := 2) (v := .slice ro i rcap) rfl
              have hwo := hE.sz
              have hwr := hT.sz
              clear hPB hcs hB
              go_wp2_with (at_builtin; refine wpList_append_lies _ rfl (.tmp 69) (.tmp 71) 43 rfl (w.heap.size + 2) 42 j0 _ 1 24 Try.underlying43 hj hy0 hy1 hy2 rfl (by decide) (.slice ro i rcap) i (Q.map PRow.val) rfl (hT.own.alloc _) ⟨wr.heap.size, 0, Option.none⟩ 1 1 [.slice (some ⟨wo.heap.size, 0, Option.none⟩) j j] rfl rfl (cell_one_new _ _ _) (by simp [Value.oneCell']) (by omega) (by unfold maxLen; omega) (by omega) (by simp; omega) (wr.heap.size + 1) (by simp) ?_; intro g cap w1 hown1 hgrow1 hat1 hlt1; have hB1' := (hT.b1.alloc (.cells #[.slice (some ⟨wo.heap.size, 0, Option.none⟩) j j] 42)).grown hgrow1 (own_ne hT.own (by omega)); have hcs2 := hB1'.cell (i := 2) (v := .slice ro i rcap) rfl; have hfs2 := hB1'.free 2)
              have hE' := hT.push (R := R) ⟨wo.heap.size, rowpc C rl⟩ HPB.out (by rw [← HR.out]) (by show w.heap.size + 2 ≤ wo.heap.size; omega) (.cells #[.slice (some ⟨wo.heap.size, 0, Option.none⟩) j j] 42) (w1 := w1) (g := g) (cap := cap) (by
                have e : PRow.val ⟨wo.heap.size, rowpc C rl⟩ = .slice (some ⟨wo.heap.size, 0, Option.none⟩) j j := by
                  simp only [PRow.val, rowpc_length]; rw [← HRN.out]
                rw [e]; exact hown1) hgrow1
              go_roundw
              case rel => exact ⟨i + 1, cap, some ⟨g, 0, Option.none⟩, _, by omega, by go_num, fun h => by omega, hE'⟩
              case measure => simp [intOf]; omega
        · obtain rfl : i = m := by omega
          have c10 := hE.b1.cell (i := 0) (v := .string cp) rfl
          have c11 := hE.b1.cell (i := 1) (v := .slice ho k hcap) rfl
          have c12 := hE.b1.cell (i := 2) (v := .slice ro i rcap) rfl
          have d0 := hE.b0.cell (i := 0) (v := .string ByteArray.empty) rfl
          have d1 := hE.b0.cell (i := 1) (v := .slice Option.none 0 0) rfl
          have d2 := hE.b0.cell (i := 2) (v := .slice Option.none 0 0) rfl
          have f0 := hE.b0.free 0
          have f1 := hE.b0.free 1
          have f2 := hE.b0.free 2
          go_wp2
          have hb' := ((hE.b0.set 0 (.string cp)).set 1 (.slice ho k hcap)).set 2 (.slice ro i rcap)
          have g0 := hb'.cell (i := 0) (v := .string cp) rfl
          have g1 := hb'.cell (i := 1) (v := .slice ho k hcap) rfl
          have g2 := hb'.cell (i := 2) (v := .slice ro i rcap) rfl
          have hsz' := hE.sz
          refine bodyPost_ret (v := .agg #[.string cp, .slice ho k hcap, .slice ro i rcap]) (by simp [results, Try.results17, go_sem, g0, g1, g2]) rfl ⟨ho, ro, hcap, rcap, Q, rfl, ⟨hnil.out, fun hp => ?_⟩, ⟨hrn.out, fun hp => ?_⟩, fun q hq => ?_, ?_⟩
          · obtain ⟨gh, a, b, c⟩ := hE.h hp
            exact ⟨gh, a, ((b.setOther _ _ (by omega)).setOther _ _ (by omega)).setOther _ _ (by omega)⟩
          · obtain ⟨gq, cap', e, hg1, hg2⟩ := hE.own.form hp
            simp at e
            obtain ⟨rfl, rfl⟩ := e
            refine ⟨gq, rfl, fun q hq => ?_⟩
            have h1 := hE.own.cellAt q (by omega)
            have h2 : (Q.map PRow.val)[q]? = some (Q.getD q PRow.none).val := by
              have := hE.ql
              simp [List.getD, show q < Q.length by omega]
            rw [h2] at h1
            have hx : ∀ (W : World) (o : Nat) (v : Value), W.cell? ⟨gq, q, Option.none⟩ = some (Q.getD q PRow.none).val → (W.setCell ⟨w.heap.size, o, Option.none⟩ v).cell? ⟨gq, q, Option.none⟩ = some (Q.getD q PRow.none).val := by
              intro W o v hW
              rw [World.cell?_of_block (w := W) (Below.heap_setCell W ⟨w.heap.size, o, Option.none⟩ v gq (by show gq ≠ w.heap.size; omega))]
              exact hW
            exact hx _ _ _ (hx _ _ _ (hx _ _ _ h1))
          · obtain ⟨a, b, c⟩ := hE.q q hq
            exact ⟨((a.setOther _ _ (by omega)).setOther _ _ (by omega)).setOther _ _ (by omega), b⟩
          · exact ((hE.be.setCell (by exact Nat.le_refl _) _).setCell (by exact Nat.le_refl _) _).setCell (by exact Nat.le_refl _) _
end Go.Proofs.Qxb6000093a
