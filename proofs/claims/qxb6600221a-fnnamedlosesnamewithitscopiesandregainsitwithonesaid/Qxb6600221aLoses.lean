import Derived.Test.Qxb6600221aNamed
namespace Go.Proofs.Qxb6600221a
open Go.RowKit

theorem Try.info9 : (Try.prog.info? 9).map (fun i => (i.zero, i.size, i.bytes)) = some (some (.string ByteArray.empty), 1, 16) := by kernel_rfl
theorem Try.size9 : (Try.prog.info? 9).map (·.size) = some 1 := by kernel_rfl

/-- The list without the copies of x. -/
def keepB (ss : List ByteArray) (x : ByteArray) : List ByteArray := ss.filter (fun s => !(s.toList == x.toList))

theorem keepB_le (ss : List ByteArray) (x : ByteArray) : (keepB ss x).length ≤ ss.length := List.length_filter_le _ _

theorem keepB_take_le (ss : List ByteArray) (x : ByteArray) (k : Nat) : (keepB (ss.take k) x).length ≤ k := by
  have h1 := keepB_le (ss.take k) x
  have h2 := List.length_take_le k ss
  omega

theorem keepB_snoc (ss : List ByteArray) (x : ByteArray) (k : Nat) (h : k < ss.length) : keepB (ss.take (k + 1)) x = keepB (ss.take k) x ++ (if ((ss.getD k ByteArray.empty).toList == x.toList) = true then [] else [ss.getD k ByteArray.empty]) := by
  unfold keepB
  rw [List.take_succ_eq_append_getElem h, List.filter_append]
  have e : ss.getD k ByteArray.empty = ss[k] := by simp [List.getD, h]
  rw [e]
  congr 1
  by_cases hh : (ss[k].toList == x.toList) = true <;> simp [hh]

theorem hasB_keepB (ss : List ByteArray) (x : ByteArray) : hasB (keepB ss x) x = false := by
  unfold hasB keepB
  rw [List.any_eq_false]
  intro s hs
  simpa using (List.mem_filter.1 hs).2

theorem hasB_iff_shorter (ss : List ByteArray) (x : ByteArray) : hasB ss x = decide ((keepB ss x).length < ss.length) := by
  induction ss with
  | nil => rfl
  | cons s t ih =>
    have hle := keepB_le t x
    unfold hasB keepB at *
    by_cases hh : (s.toList == x.toList) = true
    · simp [hh]; omega
    · simp only [List.any_cons, List.filter_cons, hh]
      simp only [Bool.false_or, ih]
      simp

theorem hasB_last (ss : List ByteArray) (x : ByteArray) : hasB (ss ++ [x]) x = true := by
  simp [hasB]

theorem isStrs_of_blk {w : World} {g : Nat} {ss : List ByteArray} (h : Blk w g 9 (ss.map Value.string)) (n cap : Nat) (hn : ss.length = n) : IsStrs w (.slice (some ⟨g, 0, none⟩) n cap) ss := by
  subst hn
  refine .inr ⟨g, 0, cap, rfl, fun j hj => ?_⟩
  rw [Nat.zero_add]
  exact h.cell (by simp [hj, List.getD])

theorem isStrs_of_own {w : World} {base g k cap : Nat} {ss : List ByteArray} (h : w.ownsRow base 9 1 (.slice (some ⟨g, 0, none⟩) k cap) k (ss.map Value.string)) : IsStrs w (.slice (some ⟨g, 0, none⟩) k cap) ss := by
  have hk : ss.length = k := by have := h.1; simpa using this
  subst hk
  refine .inr ⟨g, 0, cap, rfl, fun j hj => ?_⟩
  rw [Nat.zero_add]
  rcases h.2 with h2 | ⟨g', cap', cur, hv, _, hh, hle, _, hcs, hxs⟩
  · simp at h2
  · obtain ⟨rfl, rfl⟩ : g = g' ∧ cap = cap' := by simpa using hv
    have e : cur[j]? = some (.string (ss.getD j ByteArray.empty)) := by
      have h3 : (cur.toList.take (ss.length * 1))[j]? = (ss.map Value.string)[j]? := by rw [hxs]
      rw [List.getElem?_take, if_pos (by omega)] at h3
      rw [Array.getElem?_toList] at h3
      rw [h3]; simp [hj, List.getD]
    simp [World.cell?, hh, e]

set_option maxHeartbeats 400000 in
theorem walk_ne (a : Addr) (cap : Nat) (ss : List ByteArray) (x : ByteArray) (n : Nat) (hx : x.size ≤ maxLen) (hbig : n ≤ maxLen) (w : World)
    (h : IsStrs w (.slice (some a) n cap) ss) (hl : ss.length = n) (hsrc : ∀ j v, (ss.map Value.string)[j]? = some v → w.cell? (a.add j) = some v) :
    Calls Try.prog 5 #[.slice (some a) n cap, .string x] w fun e w' => e = .returned (.bool true) ∧ Below w.heap.size w w' := by
  unfold maxLen at hx hbig
  obtain ⟨i0, hi, hz0, hz1, hz2⟩ := info_parts Try.info9
  have hbl : ss.length ≤ 9223372036854775807 := by omega
  have hne := fun w : World => run_neq_slice_nil_any (P := Try.prog) w 22 9 (some a) n cap 0 0 Try.underlying22
  have HL : Hid (ss.length = n) := hl
  clear hl
  go_enter Try.func5, Try.ntmps5
  go_wp2_with (first
    | (go_at_call 12; refine (zzb12_any _ ss hbl x hx w h).mono ?_; rintro e w' ⟨⟨t, rfl⟩, hw⟩; obtain rfl : w = w' := hw.symm)
    | (go_at_call 7; refine (sbytes_any _ ss hbl _ h).mono ?_; rintro e w' ⟨⟨t2, rfl, h20, h21⟩, hw⟩; obtain rfl : w = w' := hw.symm)
    | (at_make; refine wpList_make_blk rfl (.tmp 29) (.tmp 29) 22 rfl 9 i0 _ Try.underlying22 hi hz0 hz1 rfl 16 hz2 .i64 .i64 _ _ n n rfl rfl rfl rfl (Nat.le_refl _) (by omega) (by omega) ?_; intro w1 hB1 hsz1 hb1)
    | (refine wpList_copy_blk rfl (.tmp 31) (.tmp 32) 22 22 rfl 9 Try.underlying22 Try.size9 _ n _ _ _ rfl rfl 9 _ hB1 (by simp) (ss.map Value.string) (by simpa using HL.out) ?hp (by simp [Value.oneCell']) _ (Nat.le_refl _) ?_; rotate_right; intro w2 hB2 hsz2 hb2)
    | (at_make; refine wpList_make_blk rfl (.const (.int .i64 0)) (.tmp 37) 22 rfl 9 i0 _ Try.underlying22 hi hz0 hz1 rfl 16 hz2 .i64 .i64 _ _ 0 (n + 1) rfl rfl rfl (by omega) (by omega) (by omega) (by omega) ?_; intro w3 hB3 hsz3 hb3))
  case hp =>
    intro _
    refine ⟨a, rfl, fun j v hv => ?_⟩
    have hc := hsrc j v hv
    rw [hb1.cell (World.block_lt_of_cell? _ _ hc)]; exact hc
  all_goals try (go_ret; exact ⟨rfl, Below.refl _ _⟩)
  have hn16 : (n : Int) ≤ 65536 := by assumption
  rw [hsz2, hsz1] at hB3
  have hown0 : w3.ownsRow (w.heap.size + 1) 9 1 (.slice (some ⟨w.heap.size + 1, 0, none⟩) 0 (n + 1)) 0 [] :=
    ⟨rfl, .inr ⟨_, n + 1, _, rfl, Nat.le_refl _, hB3, by omega, by unfold maxLen; omega, by simp, by simp⟩⟩
  have hbel : Below w.heap.size w w3 := (hb1.trans hb2).trans (hb3.mono (by omega))
  have hB2' : Blk w3 w.heap.size 9 (ss.map Value.string) := hB2.below hb3 (by omega)
  have hs3 : w.heap.size + 2 = w3.heap.size := by omega
  clear hsz1 hsz2 hsz3 hB1 hb1 hb2 hb3 hB2 hB3 h hsrc hne
  have HS3 : Hid (w.heap.size + 2 = w3.heap.size) := hs3
  clear hs3
  go_loopw [6, 7] (fun v i wr => ∃ k : Nat, k ≤ n ∧ i = .int .i64 k ∧ v = .slice (some ⟨w.heap.size + 1, 0, none⟩) (keepB (ss.take k) x).length (n + 1) ∧
      wr.ownsRow (w.heap.size + 1) 9 1 (.slice (some ⟨w.heap.size + 1, 0, none⟩) (keepB (ss.take k) x).length (n + 1)) (keepB (ss.take k) x).length ((keepB (ss.take k) x).map Value.string) ∧
      Blk wr w.heap.size 9 (ss.map Value.string) ∧ Below w.heap.size w wr ∧ w.heap.size + 2 ≤ wr.heap.size) (fun _ i _ => n - (intOf i).toNat)
  case atStart => exact ⟨0, Nat.zero_le _, rfl, rfl, hown0, hB2', hbel, by have := HS3.out; omega⟩
  case round =>
    obtain ⟨k, hk, rfl, rfl, hown, hBlk, hbe, hsz⟩ := hrel
    by_cases hlt : k < n
    · obtain ⟨s, hs⟩ : ∃ s, s = ss.getD k ByteArray.empty := ⟨_, rfl⟩
      have hcell : wr.cell? ⟨w.heap.size, k, none⟩ = some (.string s) := hBlk.cell (by simp [hs, List.getD, HL.out, hlt])
      have hsn := keepB_snoc ss x k (by have := HL.out; omega)
      rw [← hs] at hsn
      have HSN : Hid (keepB (ss.take (k + 1)) x = keepB (ss.take k) x ++ (if (s.toList == x.toList) = true then [] else [s])) := hsn
      clear hsn hs
      have hkl := keepB_take_le ss x k
      generalize hK : keepB (ss.take k) x = K at *
      have HK : Hid (keepB (ss.take k) x = K) := hK
      clear hK
      go_wp2_with (at_builtin; refine wpList_append_fits _ rfl (.tmp 51) (.tmp 56) 22 rfl (w.heap.size + 1) 9 i0 1 Try.underlying22 hi hz1 (w.heap.size + 1) K.length (n + 1) (K.map Value.string) rfl (hown.alloc _) ⟨wr.heap.size, 0, none⟩ 1 1 [.string s] rfl rfl (cell_one_new _ _ _) (by simp [Value.oneCell']) (by omega) ?_; intro w4 hown4 hgrow4)
      · have e : (s.toList == x.toList) = false := by
          have : (!s.toList == x.toList) = true := by assumption
          simpa using this
        have eK : keepB (ss.take (k + 1)) x = K ++ [s] := by rw [HSN.out, if_neg (by rw [e]; simp)]
        have hw4 : wr.heap.size ≤ w4.heap.size := by have := hgrow4.size; simp at this; omega
        go_roundw
        case rel =>
          refine ⟨k + 1, by omega, by go_num, ?_, ?_, ?_, ?_, by omega⟩
          · rw [eK]; simp
          · rw [eK]; simpa using hown4
          · exact (hBlk.alloc _).grown hgrow4 (by simp)
          · exact (hbe.alloc (by omega) _).grown hgrow4 (by simp; omega) (fun q hq => by simp at hq; omega)
        case measure => simp [intOf]; omega
      · have e : (s.toList == x.toList) = true := by
          have : (!s.toList == x.toList) = false := by assumption
          simpa using this
        have eK : keepB (ss.take (k + 1)) x = K := by rw [HSN.out, if_pos e]; simp
        go_roundw
        case rel => exact ⟨k + 1, by omega, by go_num, by rw [eK], by rw [eK]; exact hown, hBlk, hbe, hsz⟩
        case measure => simp [intOf]; omega
    · have hkn : k = n := by omega
      subst hkn
      have eT : ss.take k = ss := List.take_of_length_le (by have := HL.out; omega)
      rw [eT] at hown ⊢
      have hKl := keepB_le ss x
      have hlen := HL.out
      have hsh := hasB_iff_shorter ss x
      have hno := hasB_keepB ss x
      have hla := hasB_last (keepB ss x) x
      generalize hK : keepB ss x = K at *
      have HK : Hid (keepB ss x = K) := hK
      have HLA : Hid (hasB (K ++ [x]) x = true) := hla
      clear hK hla
      have hi1 := isStrs_of_blk hBlk k k hlen
      have hi2 := isStrs_of_own hown
      have hKb : K.length ≤ 9223372036854775807 := by omega
      have hsh' : hasB ss x = decide ((K.length : Int) < (k : Int)) := by rw [hsh, hlen]; simp
      clear hsh
      have HSH : Hid (hasB ss x = decide ((K.length : Int) < (k : Int))) := hsh'
      clear hsh'
      have hKk : K.length ≤ k := by omega
      clear hlen
      go_wp2_with fail
      refine (zznamed_any _ ss hbl x wr hi1).mono ?_
      rintro e w' ⟨rfl, hw⟩
      obtain rfl : wr = w' := hw.symm
      rw [HSH.out]
      go_wp2_with fail
      refine (zznamed_any _ K hKb x wr hi2).mono ?_
      rintro e w' ⟨rfl, hw⟩
      obtain rfl : wr = w' := hw.symm
      rw [hno]
      clear hno
      go_wp2_with (at_builtin; refine wpList_append_fits _ rfl (.tmp 70) (.tmp 72) 22 rfl (w.heap.size + 1) 9 i0 1 Try.underlying22 hi hz1 (w.heap.size + 1) K.length (k + 1) (K.map Value.string) rfl (hown.alloc _) ⟨wr.heap.size, 0, none⟩ 1 1 [.string x] rfl rfl (cell_one_new _ _ _) (by simp [Value.oneCell']) (by omega) ?_; intro w4 hown4 hgrow4)
      have hi3 : IsStrs w4 (.slice (some ⟨w.heap.size + 1, 0, none⟩) (K.length + 1) (k + 1)) (K ++ [x]) := isStrs_of_own (base := w.heap.size + 1) (by simpa using hown4)
      refine (zznamed_any _ (K ++ [x]) (by simp; omega) x w4 hi3).mono ?_
      rintro e w' ⟨rfl, hw⟩
      obtain rfl : w4 = w' := hw.symm
      rw [HLA.out]
      go_wp2
      go_ret
      exact ⟨rfl, (hbe.alloc (by omega) _).grown hgrow4 (by simp; omega) (fun q hq => by simp at hq; omega)⟩

set_option maxHeartbeats 400000 in
/-- The nil slice. -/
theorem walk_nil (x : ByteArray) (hx : x.size ≤ maxLen) (w : World) :
    Calls Try.prog 5 #[.slice none 0 0, .string x] w fun e w' => e = .returned (.bool true) ∧ Below w.heap.size w w' := by
  unfold maxLen at hx
  obtain ⟨i0, hi, hz0, hz1, hz2⟩ := info_parts Try.info9
  have h : IsStrs w (.slice none 0 0) [] := .inl ⟨rfl, none, 0, rfl⟩
  have hne := fun w : World => run_neq_slice_nil_any (P := Try.prog) w 22 9 none 0 0 0 0 Try.underlying22
  go_enter Try.func5, Try.ntmps5
  go_wp2_with (first
    | (go_at_call 12; refine (zzb12_any _ [] (by simp) x hx w h).mono ?_; rintro e w' ⟨⟨t, rfl⟩, hw⟩; obtain rfl : w = w' := hw.symm)
    | (go_at_call 7; refine (sbytes_any _ [] (by simp) _ h).mono ?_; rintro e w' ⟨⟨t2, rfl, h20, h21⟩, hw⟩; obtain rfl : w = w' := hw.symm)
    | (at_make; refine wpList_make_blk rfl (.const (.int .i64 0)) (.tmp 37) 22 rfl 9 i0 _ Try.underlying22 hi hz0 hz1 rfl 16 hz2 .i64 .i64 _ _ 0 1 rfl rfl rfl (by omega) (by omega) (by omega) (by omega) ?_; intro w3 hB3 hsz3 hb3))
  all_goals try (go_ret; exact ⟨rfl, Below.refl _ _⟩)
  have hown : w3.ownsRow w.heap.size 9 1 (.slice (some ⟨w.heap.size, 0, none⟩) 0 1) 0 [] :=
    ⟨rfl, .inr ⟨_, 1, _, rfl, Nat.le_refl _, hB3, by omega, by unfold maxLen; omega, by simp, by simp⟩⟩
  have HS3 : Hid (w3.heap.size = w.heap.size + 1) := hsz3
  clear hsz3
  have hi1 : IsStrs w3 (.slice none 0 0) [] := .inl ⟨rfl, none, 0, rfl⟩
  have hi2 : IsStrs w3 (.slice (some ⟨w.heap.size, 0, none⟩) 0 1) [] := .inl ⟨rfl, _, 1, rfl⟩
  refine wp_loop_rounds 1 ?_
  rw [rounds_succ]
  go_wp2_with fail
  refine (zznamed_any _ [] (by simp) x w3 hi1).mono ?_
  rintro e w' ⟨rfl, hw⟩
  obtain rfl : w3 = w' := hw.symm
  go_wp2_with fail
  refine (zznamed_any _ [] (by simp) x w3 hi2).mono ?_
  rintro e w' ⟨rfl, hw⟩
  obtain rfl : w3 = w' := hw.symm
  go_wp2_with (at_builtin; refine wpList_append_fits _ rfl (.tmp 70) (.tmp 72) 22 rfl w.heap.size 9 i0 1 Try.underlying22 hi hz1 w.heap.size 0 1 [] rfl (hown.alloc _) ⟨w3.heap.size, 0, none⟩ 1 1 [.string x] rfl rfl (cell_one_new _ _ _) (by simp [Value.oneCell']) (by omega) ?_; intro w4 hown4 hgrow4)
  all_goals try (exact absurd (show hasB [] x = true by assumption) (by simp [hasB]))
  have hi3 : IsStrs w4 (.slice (some ⟨w.heap.size, 0, none⟩) 1 1) [x] := isStrs_of_own (base := w.heap.size) (by simpa using hown4)
  refine (zznamed_any _ [x] (by simp) x w4 hi3).mono ?_
  rintro e w' ⟨rfl, hw⟩
  obtain rfl : w4 = w' := hw.symm
  have hla : hasB [x] x = true := hasB_last [] x
  rw [hla]
  go_wp2
  go_ret
  exact ⟨rfl, (hb3.alloc (by have := HS3.out; omega) _).grown hgrow4 (by have := HS3.out; simp; omega) (fun q hq => by simp at hq; omega)⟩
end Go.Proofs.Qxb6600221a
