import Derived.Test.Qxb6000406aText
import Derived.Deep.DeepCutAuto
import Derived.Deep.QuietTactic
import Derived.BigQuiet
import Derived.Lib.SliceRun
namespace Go.Proofs.Qxb6000406a
open Go.RowKit

/-- 'ZZText'. -/
theorem zz11 (B b n : Nat) (L : List NodeV) (w : World) (h : ElAt w B b L) (hn : L.length = n) (hl : n ≤ 1048576) (hlen : ∀ k, k ≤ n → (flat (chars L k)).length ≤ 1048576) :
    Calls Try.prog 11 #[.pointer (some ⟨b, 0, none⟩)] w fun e w' => e = .returned (.string ⟨(flat (chars L n)).toArray⟩) ∧ Below w.heap.size w w' := by
  have HT := (show Hid _ from text26 B b n L w h hn hl hlen)
  clear h hn hlen
  go_enter Try.func11, Try.ntmps11
  go_wp2_with (go_at_call 26; refine Calls.mono HT.out ?_; rintro e w' ⟨rfl, hb⟩)
  go_ret
  exact ⟨rfl, hb⟩

set_option maxHeartbeats 4000000 in
/-- 'FnTextSpec'. -/
theorem law3 (a1 a2 a3 : Option Addr) (c1 c2 c3 n1 n2 n3 : Nat) (T G : List ByteArray) (F : List Bool) (h1 : T.length = n1) (h2 : G.length = n2) (h3 : F.length = n3)
    (b1 : n1 ≤ 9223372036854775807) (b2 : n2 ≤ 9223372036854775807) (w : World) (hT : SA w a1 T) (hG : SA w a2 G) (hF : BA w a3 F) :
    Calls Try.prog 3 #[.slice a1 n1 c1, .slice a2 n2 c2, .slice a3 n3 c3] w fun e w' => e = .returned (.bool true) ∧ Below w.heap.size w w' := by
  have HZ := (show Hid _ from zzb8 a1 a2 a3 c1 c2 c3 n1 n2 n3 T G h1 h2 w hT hG)
  have HS1 := (show Hid _ from sb9 a1 c1 n1 T h1 b1 w hT)
  have HS2 := (show Hid _ from sb9 a2 c2 n2 G h2 b2 w hG)
  have H1 : Hid (T.length = n1) := h1
  have H2 : Hid (G.length = n2) := h2
  have H3 : Hid (F.length = n3) := h3
  clear h1 h2 h3
  go_enter Try.func3, Try.ntmps3
  go_upto_if 12 with (first | (go_at_call 8; refine Calls.mono HZ.out ?_; rintro e w' ⟨⟨t, rfl, ht⟩, hw⟩; obtain rfl : w = w' := hw.symm))
  cases t with
  | false =>
    go_wp2
    go_ret
    exact ⟨rfl, Below.refl _ _⟩
  | true =>
    obtain ⟨hn1, htot⟩ := ht rfl
    clear ht HZ b1
    go_upto_if 25 with fail
    refine Calls.mono HS1.out ?_
    rintro e w' ⟨⟨t1, rfl⟩, hw⟩
    obtain rfl : w = w' := hw.symm
    by_cases g1 : (1048576 : Int) < t1
    · go_wp2
      go_ret
      exact ⟨rfl, Below.refl _ _⟩
    go_upto_if 25 with fail
    refine Calls.mono HS2.out ?_
    rintro e w' ⟨⟨t2, rfl⟩, hw⟩
    obtain rfl : w = w' := hw.symm
    by_cases g2 : (1048576 : Int) < t2
    · go_wp2
      go_ret
      exact ⟨rfl, Below.refl _ _⟩
    by_cases g3 : (1048576 : Int) < n3
    · go_wp2
      go_ret
      exact ⟨rfl, Below.refl _ _⟩
    go_wp2_with fail
    refine Calls.mono HS1.out ?_
    rintro e w' ⟨⟨t3, rfl⟩, hw⟩
    obtain rfl : w = w' := hw.symm
    go_wp2_with fail
    refine Calls.mono HS2.out ?_
    rintro e w' ⟨⟨t4, rfl⟩, hw⟩
    obtain rfl : w = w' := hw.symm
    go_upto_if 34 with fail
    clear HS1 HS2
    by_cases h21 : (n2 : Int) = n1
    rotate_left
    · go_wp2
      all_goals
        go_ret
        exact ⟨rfl, Below.refl _ _⟩
    by_cases h31 : (n3 : Int) = n1
    rotate_left
    · go_wp2
      all_goals
        go_ret
        exact ⟨rfl, Below.refl _ _⟩
    obtain rfl : n2 = n1 := by omega
    obtain rfl : n3 = n2 := by omega
    clear h21 h31
    go_wp2_with fail
    · go_ret
      exact ⟨rfl, Below.refl _ _⟩
    refine (build10 a1 a2 a3 c1 c2 c3 n3 T G F H1.out H2.out H3.out hn1 w hT hG hF).mono ?_
    rintro e w1 ⟨L, rfl, hE1, hL1, hA1, hb1⟩
    have hflat : ∀ k, k ≤ n3 → flat (chars L k) = ctext T G F k := fun k hk => flat_chars T G F L hA1 k (by omega)
    have HFL : Hid (flat (chars L n3) = ctext T G F n3) := hflat n3 (Nat.le_refl _)
    have HTX := (show Hid _ from zz11 w.heap.size w.heap.size n3 L w1 hE1 hL1 hn1 (fun k hk => by
      rw [hflat k hk]
      have e1 := ctext_le T G F k (by have := H1.out; omega)
      have e2 := tot_mono T k n3 hk (by have := H1.out; omega)
      omega))
    have HCH : Hid (∀ w2, Below w.heap.size w w2 → _) := (show Hid (∀ w2, Below w.heap.size w w2 → _) from fun w2 (hb : Below w.heap.size w w2) => char12 a1 a2 a3 c1 c2 c3 n3 T G F H1.out H2.out H3.out hn1 htot w2 (hT.below hb) (hG.below hb) (hF.below hb))
    clear hflat hA1 hL1 hE1
    go_wp2_with fail
    refine Calls.mono HTX.out ?_
    rintro e w2 ⟨rfl, hb2⟩
    have hb12 : Below w.heap.size w w2 := hb1.trans (hb2.mono hb1.size)
    rw [HFL.out]
    go_wp2_with fail
    refine Calls.mono (HCH.out w2 hb12) ?_
    rintro e w3 ⟨rfl, hb3⟩
    go_wp2
    go_ret
    exact ⟨rfl, hb12.trans (hb3.mono hb12.size)⟩
end Go.Proofs.Qxb6000406a
