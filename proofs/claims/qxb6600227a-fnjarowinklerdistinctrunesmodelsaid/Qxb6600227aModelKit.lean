import Derived.Test.Qxb6600227aPair
import Derived.Test.Qxb6600227aFrac
import Derived.Deep.DeepCutAuto
namespace Go.Proofs.Qxb6600227a
open Go.RowKit

/-- The state of the model's matching: the runes, the flags. -/
structure DEnv (w : World) (a b : List Int) (g1 g2 g3 g4 : Nat) (A B : List Bool) (wr : World) : Prop where
  ra : Runes wr g1 a
  rb : Runes wr g2 b
  bA : Blk wr g3 4 (A.map Value.bool)
  bB : Blk wr g4 4 (B.map Value.bool)
  be : Below w.heap.size w wr
  ne : w.heap.size ≤ g1 ∧ g1 < g2 ∧ g2 < g3 ∧ g3 < g4

theorem DEnv.setA {w : World} {a b : List Int} {g1 g2 g3 g4 : Nat} {A B : List Bool} {wr : World} (h : DEnv w a b g1 g2 g3 g4 A B wr) (i : Nat) (v : Bool) :
    DEnv w a b g1 g2 g3 g4 (A.set i v) B (wr.setCell ⟨g3, i, none⟩ (.bool v)) := by
  have hn := h.ne
  refine ⟨h.ra.setJ (by omega) _ _, h.rb.setJ (by omega) _ _, ?_, h.bB.setOther _ _ (by omega), h.be.setCell (by show w.heap.size ≤ g3; omega) _, hn⟩
  rw [← bools_set]
  exact h.bA.set i _

theorem DEnv.setB {w : World} {a b : List Int} {g1 g2 g3 g4 : Nat} {A B : List Bool} {wr : World} (h : DEnv w a b g1 g2 g3 g4 A B wr) (i : Nat) (v : Bool) :
    DEnv w a b g1 g2 g3 g4 A (B.set i v) (wr.setCell ⟨g4, i, none⟩ (.bool v)) := by
  have hn := h.ne
  refine ⟨h.ra.setJ (by omega) _ _, h.rb.setJ (by omega) _ _, h.bA.setOther _ _ (by omega), ?_, h.be.setCell (by show w.heap.size ≤ g4; omega) _, hn⟩
  rw [← bools_set]
  exact h.bB.set i _

theorem DEnv.drewN {w : World} {a b : List Int} {g1 g2 g3 g4 : Nat} {A B : List Bool} {wr : World} (h : DEnv w a b g1 g2 g3 g4 A B wr) (n : Nat) :
    DEnv w a b g1 g2 g3 g4 A B (wr.drewN n) := ⟨h.ra, h.rb, h.bA, h.bB, ⟨h.be.os, h.be.tape, h.be.output, h.be.size, h.be.block⟩, h.ne⟩

theorem DEnv.below {w : World} {a b : List Int} {g1 g2 g3 g4 : Nat} {A B : List Bool} {wr wr' : World} (h : DEnv w a b g1 g2 g3 g4 A B wr) {K : Nat} (hb : Below K wr wr') (hk : g4 < K) (hK : w.heap.size ≤ K) :
    DEnv w a b g1 g2 g3 g4 A B wr' := by
  have hn := h.ne
  exact ⟨h.ra.below hb (by omega), h.rb.below hb (by omega), h.bA.below hb (by omega), h.bB.below hb (by omega), h.be.trans (hb.mono hK), hn⟩

/-- Beside it the two rows of matched runes. -/
structure SEnv (w : World) (a b : List Int) (g1 g2 g3 g4 g5 g6 : Nat) (A B : List Bool) (SA SB : List Int) (wr : World) : Prop where
  d : DEnv w a b g1 g2 g3 g4 A B wr
  sA : Blk wr g5 21 (SA.map (Value.int .i32))
  sB : Blk wr g6 21 (SB.map (Value.int .i32))
  ne : g4 < g5 ∧ g5 < g6

theorem runesI_get (L : List Int) (k : Nat) (h : k < L.length) : (L.map (Value.int .i32))[k]? = some (.int .i32 (L.getD k 0)) := by
  simp [h, List.getD]

theorem runesI_set (L : List Int) (k : Nat) (s : Int) : (L.map (Value.int .i32)).set k (.int .i32 s) = (L.set k s).map (Value.int .i32) := by
  rw [List.map_set]

theorem DEnv.setOther {w : World} {a b : List Int} {g1 g2 g3 g4 : Nat} {A B : List Bool} {wr : World} (h : DEnv w a b g1 g2 g3 g4 A B wr) (g i : Nat) (v : Value) (hg : g4 < g) :
    DEnv w a b g1 g2 g3 g4 A B (wr.setCell ⟨g, i, none⟩ v) := by
  have hn := h.ne
  exact ⟨h.ra.setJ (by omega) _ _, h.rb.setJ (by omega) _ _, h.bA.setOther _ _ (by omega), h.bB.setOther _ _ (by omega), h.be.setCell (by show w.heap.size ≤ g; omega) _, hn⟩

theorem SEnv.setSA {w : World} {a b : List Int} {g1 g2 g3 g4 g5 g6 : Nat} {A B : List Bool} {SA SB : List Int} {wr : World} (h : SEnv w a b g1 g2 g3 g4 g5 g6 A B SA SB wr) (i : Nat) (v : Int) :
    SEnv w a b g1 g2 g3 g4 g5 g6 A B (SA.set i v) SB (wr.setCell ⟨g5, i, none⟩ (.int .i32 v)) := by
  have hn := h.ne
  refine ⟨h.d.setOther g5 i _ hn.1, ?_, h.sB.setOther _ _ (by omega), hn⟩
  rw [← runesI_set]
  exact h.sA.set i _

theorem SEnv.setSB {w : World} {a b : List Int} {g1 g2 g3 g4 g5 g6 : Nat} {A B : List Bool} {SA SB : List Int} {wr : World} (h : SEnv w a b g1 g2 g3 g4 g5 g6 A B SA SB wr) (i : Nat) (v : Int) :
    SEnv w a b g1 g2 g3 g4 g5 g6 A B SA (SB.set i v) (wr.setCell ⟨g6, i, none⟩ (.int .i32 v)) := by
  have hn := h.ne
  refine ⟨h.d.setOther g6 i _ (by omega), h.sA.setOther _ _ (by omega), ?_, hn⟩
  rw [← runesI_set]
  exact h.sB.set i _

theorem SEnv.drewN {w : World} {a b : List Int} {g1 g2 g3 g4 g5 g6 : Nat} {A B : List Bool} {SA SB : List Int} {wr : World} (h : SEnv w a b g1 g2 g3 g4 g5 g6 A B SA SB wr) (n : Nat) :
    SEnv w a b g1 g2 g3 g4 g5 g6 A B SA SB (wr.drewN n) := ⟨h.d.drewN n, h.sA, h.sB, h.ne⟩

theorem take_set_snoc (S : List Int) (p : Nat) (x : Int) (h : p < S.length) : (S.set p x).take (p + 1) = S.take p ++ [x] := by
  rw [List.take_succ_eq_append_getElem (by simpa using h)]
  rw [List.take_set_of_le (Nat.le_refl _)]
  simp

/-- The contracts at whatever spelling of the numbers. -/
theorem reduceI (X Y : Int) (x y : Nat) (hX : X = (x : Int)) (hY : Y = (y : Int)) (hx : x ≤ 1099511627776) (hy : y ≤ 1099511627776) (w : World) :
    Calls Try.prog 18 #[.int .u64 X, .int .u64 Y] w fun e w' => e = .returned (.tuple #[.int .u64 (redN x y), .int .u64 (redD x y)]) ∧ Below w.heap.size w w' := by
  subst hX hY; exact reduce18 x y hx hy w

theorem addI (P1 Q1 P2 Q2 : Int) (p1 q1 p2 q2 : Nat) (hP1 : P1 = (p1 : Int)) (hQ1 : Q1 = (q1 : Int)) (hP2 : P2 = (p2 : Int)) (hQ2 : Q2 = (q2 : Int)) (h1 : p1 * q2 + p2 * q1 ≤ 1099511627776) (h2 : q1 * q2 ≤ 1099511627776) (w : World) :
    Calls Try.prog 17 #[.int .u64 P1, .int .u64 Q1, .int .u64 P2, .int .u64 Q2] w fun e w' => e = .returned (.tuple #[.int .u64 (redN (p1 * q2 + p2 * q1) (q1 * q2)), .int .u64 (redD (p1 * q2 + p2 * q1) (q1 * q2))]) ∧ Below w.heap.size w w' := by
  subst hP1 hQ1 hP2 hQ2; exact add17 p1 q1 p2 q2 h1 h2 w

theorem redN_le (x y : Nat) : redN x y ≤ x := Nat.div_le_self _ _
theorem redD_le (x y : Nat) : redD x y ≤ y := Nat.div_le_self _ _
end Go.Proofs.Qxb6600227a
