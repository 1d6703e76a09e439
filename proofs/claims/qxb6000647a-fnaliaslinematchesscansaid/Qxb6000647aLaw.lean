/-
  THE LAW, walked.
-/
import Derived.Test.Qxb6000647aAlias
namespace Go.Proofs.Qxb6000647a
open Go.RowKit

set_option maxHeartbeats 400000 in
theorem law_long (a : Option Addr) (n c : Nat) (s : ByteArray) (w : World) (h : ¬ (n ≤ 65536 ∧ s.size ≤ 65536)) :
    Calls Try.prog 6 #[.slice a n c, .string s] w fun e w' => e = .returned (.bool true) ∧ Below w.heap.size w w' := by
  by_cases h1 : n ≤ 1048576
  · by_cases h2 : s.size ≤ 1048576
    · by_cases h3 : n + s.size ≤ 1048576
      · by_cases h4 : n ≤ 65536
        · have h5 : (65536 : Int) < (s.size : Int) := by omega
          have h6 : ¬ (65536 : Int) < (n : Int) := by omega
          go_enter Try.func6, Try.ntmps6
          go_wp2_with (go_at_call 15; go_in)
          go_ret
          exact ⟨rfl, Below.refl _ _⟩
        · have h5 : (65536 : Int) < (n : Int) := by omega
          go_enter Try.func6, Try.ntmps6
          go_wp2_with (go_at_call 15; go_in)
          go_ret
          exact ⟨rfl, Below.refl _ _⟩
      · have h4 : (1048576 : Int) < (n : Int) + (s.size : Int) := by omega
        go_enter Try.func6, Try.ntmps6
        go_wp2_with (go_at_call 15; go_in)
        go_ret
        exact ⟨rfl, Below.refl _ _⟩
    · have h4 : (1048576 : Int) < (s.size : Int) := by omega
      go_enter Try.func6, Try.ntmps6
      go_wp2_with (go_at_call 15; go_in)
      go_ret
      exact ⟨rfl, Below.refl _ _⟩
  · have h4 : (1048576 : Int) < (n : Int) := by omega
    go_enter Try.func6, Try.ntmps6
    go_wp2_with (go_at_call 15; go_in)
    go_ret
    exact ⟨rfl, Below.refl _ _⟩

theorem no42_step {s : ByteArray} {k : Nat} (hk : k < s.size) (h : ((s[k].toNat : Nat) : Int) ≠ 42) (H : ¬ (42 : Int) ∈ (bi s).take k) : ¬ (42 : Int) ∈ (bi s).take (k + 1) := by
  have hk' : k < (bi s).length := by rw [bi_length]; exact hk
  rw [List.take_succ_eq_append_getElem hk', List.mem_append]
  rintro (h1 | h1)
  · exact H h1
  · simp at h1
    have e := bi_get s k hk
    rw [List.getD_eq_getElem?_getD, List.getElem?_eq_getElem hk'] at e
    simp at e
    omega

set_option maxHeartbeats 400000 in
theorem law_gen (a : Option Addr) (n c : Nat) (s : ByteArray) (w : World) (hn : n ≤ 65536) (hs : s.size ≤ 65536) (v : Value) (z : Nat) (R : World → Prop)
    (hcl : Calls Try.prog 16 #[.slice a n c] w fun e w' => e = .returned v ∧ R w' ∧ Below w.heap.size w w')
    (hal : ¬ (42 : Int) ∈ bi s → ∀ w1, R w1 → Below w.heap.size w w1 → Calls Try.prog 22 #[v, .string s] w1 fun e w' => e = .returned (.int .i64 z) ∧ R w' ∧ Below w1.heap.size w1 w')
    (hfi : ∀ w1, R w1 → Calls Try.prog 18 #[v, .string s] w1 fun e w' => e = .returned (.int .i64 z) ∧ ∃ q, w' = w1.drewN q) :
    Calls Try.prog 6 #[.slice a n c, .string s] w fun e w' => e = .returned (.bool true) ∧ Below w.heap.size w w' := by
  go_enter Try.func6, Try.ntmps6
  go_wp2_with (go_at_call 15; go_in)
  go_loopw [5] (fun j wr => wr = w ∧ ∃ p : Nat, p ≤ s.size ∧ j = .int .i64 p ∧ Hid (¬ (42 : Int) ∈ (bi s).take p)) (fun j _ => s.size - (intOf j).toNat)
  case atStart => exact ⟨rfl, 0, Nat.zero_le _, rfl, (by simp : ¬ (42 : Int) ∈ (bi s).take 0)⟩
  case round =>
    obtain ⟨rfl, p, hps, rfl, HQ⟩ := hrel
    by_cases hp : p < s.size
    · have hp' : (p : Int) < (s.size : Int) := by omega
      obtain ⟨x, hx⟩ : ∃ x : Int, ((s[p].toNat : Nat) : Int) = x := ⟨_, rfl⟩
      cases h42 : (x == 42) with
      | true =>
        go_wp2
        go_ret
        exact ⟨rfl, Below.refl _ _⟩
      | false =>
        have HQ' : Hid (¬ (42 : Int) ∈ (bi s).take (p + 1)) := no42_step hp (by rw [hx]; simpa using h42) HQ.out
        go_wp2
        go_roundw
        case rel => exact ⟨trivial, p + 1, by omega, by go_num, HQ'⟩
        case measure => simp [intOf]; omega
    · have hp' : ¬ (p : Int) < (s.size : Int) := by omega
      have h42 : ¬ (42 : Int) ∈ bi s := by
        have := HQ.out
        rw [List.take_of_length_le (by rw [bi_length]; omega)] at this
        exact this
      have H := hal h42
      clear hal h42
      go_wp2_with (first | (go_at_call 16; refine hcl.mono ?_; rintro e w1 ⟨rfl, hR1, hb1⟩) | (go_at_call 17; go_in) | (go_at_call 22; refine (H _ hR1 hb1).mono ?_; rintro e w2 ⟨rfl, hR2, hb2⟩) | (go_at_call 18; refine (hfi _ hR2).mono ?_; rintro e w3 ⟨rfl, q, rfl⟩))
      go_ret
      exact ⟨rfl, (hb1.trans (hb2.mono hb1.size)).trans ⟨rfl, rfl, rfl, Nat.le_refl _, fun _ _ => rfl⟩⟩

theorem scan_nil (s : ByteArray) : scanAt [] (42 :: bi s) 0 = 0 := by
  rw [scanAt_step, if_neg (by simp)]
theorem index_nil (s : ByteArray) : Lib.index (Lib.bytesOf []) (Lib.bytesOf (42 :: bi s)) = -1 := by
  rcases index_cases (t := []) (pat := 42 :: bi s) (by simp) (pat_range s) 0 with ⟨h, _⟩ | ⟨i, _, h, _⟩
  · exact h
  · have := occ_room (by simp) h; simp at this

set_option maxHeartbeats 400000 in
theorem alias_zero (b off : Nat) (s : ByteArray) (hs : s.size ≤ 65536) (w : World) (m : Int) (hm : w.cell? ⟨0, 0, none⟩ = some (.int .i64 m)) :
    Calls Try.prog 22 #[.slice (some ⟨b, off, none⟩) 0 0, .string s] w fun e w' => e = .returned (.int .i64 ((0 : Nat) : Int)) ∧ Below w.heap.size w w' := by
  have hm0 : 0 < w.heap.size := World.block_lt_of_cell? w _ hm
  obtain ⟨A, hA⟩ : ∃ A : ByteArray, (⟨#[42]⟩ : ByteArray) ++ s = A := ⟨_, rfl⟩
  have hAs : A.size = s.size + 1 := by rw [← hA, ByteArray.size_append]; show 1 + s.size = _; omega
  obtain ⟨G, W1, hconv, hbW, hlA⟩ := alias_conv A w
  rw [show bi A = 42 :: bi s from by rw [← hA, bi_append], hAs] at hlA
  rw [hAs] at hconv
  have HAs : Hid (A.size = s.size + 1) := hAs
  have hm1 : W1.cell? ⟨0, 0, none⟩ = some (.int .i64 m) := (hbW.cell hm0).trans hm
  have hcon := Try.bytes_Index_at ⟨b, off, none⟩ ⟨w.heap.size, 0, none⟩ 0 0 (s.size + 1) G [] (42 :: bi s) m W1 rfl hlA.1 (by simp) (pat_range s)
      (fun i hi => absurd hi (Nat.not_lt_zero _)) (fun i hi => by rw [Addr.add_lit]; exact (hlA.2 i hi).2) (Nat.le_refl _) (by omega) (by omega) hm1
  rw [index_nil] at hcon
  clear hlA hm1 hm hAs
  go_enter Try.func22, Try.ntmps22
  go_wp2
  refine wp_loop_rounds 1 ?_
  rw [rounds_succ]
  go_wp2_with (first | (go_at_call 28; refine hcon.mono ?_; rintro e w2 ⟨rfl, q, rfl⟩))
  go_ret
  exact ⟨rfl, hbW.trans ⟨rfl, rfl, rfl, Nat.le_refl _, fun _ _ => rfl⟩⟩

set_option maxHeartbeats 400000 in
theorem alias_nil (s : ByteArray) (hs : s.size ≤ 65536) (w : World) :
    Calls Try.prog 22 #[.slice none 0 0, .string s] w fun e w' => e = .returned (.int .i64 ((0 : Nat) : Int)) ∧ Below w.heap.size w w' := by
  obtain ⟨A, hA⟩ : ∃ A : ByteArray, (⟨#[42]⟩ : ByteArray) ++ s = A := ⟨_, rfl⟩
  have hAs : A.size = s.size + 1 := by rw [← hA, ByteArray.size_append]; show 1 + s.size = _; omega
  obtain ⟨G, W1, hconv, hbW, hlA⟩ := alias_conv A w
  rw [show bi A = 42 :: bi s from by rw [← hA, bi_append], hAs] at hlA
  rw [hAs] at hconv
  have HAs : Hid (A.size = s.size + 1) := hAs
  have hcon := Try.bytes_Index_nil (some ⟨w.heap.size, 0, none⟩) (s.size + 1) G W1 (by omega) (fun h => ⟨_, _, _, rfl, (hlA.2 0 (by omega)).2⟩)
  rw [if_neg (by omega)] at hcon
  clear hlA hAs
  go_enter Try.func22, Try.ntmps22
  go_wp2
  refine wp_loop_rounds 1 ?_
  rw [rounds_succ]
  go_wp2_with (first | (go_at_call 28; refine hcon.mono ?_; rintro e w2 ⟨rfl, rfl⟩))
  go_ret
  exact ⟨rfl, hbW⟩

set_option maxHeartbeats 400000 in
theorem first_nil (s : ByteArray) (hs : s.size ≤ 65536) (w : World) :
    Calls Try.prog 18 #[.slice none 0 0, .string s] w fun e w' => e = .returned (.int .i64 ((0 : Nat) : Int)) ∧ ∃ q, w' = w.drewN q := by
  have h0 : ¬ (1 : Int) + (s.size : Int) ≤ 0 := by omega
  have h0' : ¬ (0 : Int) + ((1 : Int) + (s.size : Int)) ≤ 0 := by omega
  go_enter Try.func18, Try.ntmps18
  go_wp2
  refine wp_loop_rounds 1 ?_
  rw [rounds_succ]
  go_wp2
  go_ret
  exact ⟨rfl, 0, rfl⟩

theorem law_nil (s : ByteArray) (w : World) :
    Calls Try.prog 6 #[.slice none 0 0, .string s] w fun e w' => e = .returned (.bool true) ∧ Below w.heap.size w w' := by
  by_cases hs : s.size ≤ 65536
  · refine law_gen none 0 0 s w (by omega) hs (.slice none 0 0) 0 (fun _ => True) ?_ (fun _ w1 _ _ => ?_) (fun w1 _ => first_nil s hs w1)
    · exact (clone_nil w 0).mono (by rintro e w1 ⟨rfl, rfl⟩; exact ⟨rfl, trivial, Below.refl _ _⟩)
    · exact (alias_nil s hs w1).mono (by rintro e w1 ⟨rfl, h⟩; exact ⟨rfl, trivial, h⟩)
  · exact law_long none 0 0 s w (fun h => hs h.2)

theorem law_at (ad : Addr) (b off n c : Nat) (t : List Int) (s : ByteArray) (w : World) (hl : Lies w (some ad) b off n t) (hr : ∀ x ∈ t, 0 ≤ x ∧ x < 256) (m : Int) (hm : w.cell? ⟨0, 0, none⟩ = some (.int .i64 m)) :
    Calls Try.prog 6 #[.slice (some ad) n c, .string s] w fun e w' => e = .returned (.bool true) ∧ Below w.heap.size w w' := by
  by_cases hns : n ≤ 65536 ∧ s.size ≤ 65536
  · obtain ⟨hn, hs⟩ := hns
    have hm0 : 0 < w.heap.size := World.block_lt_of_cell? w _ hm
    refine law_gen (some ad) n c s w hn hs (.slice (some ⟨w.heap.size, 0, none⟩) n n) (scanAt t (42 :: bi s) 0) (fun w1 => Lies w1 (some ⟨w.heap.size, 0, none⟩) w.heap.size 0 n t) ?_ (fun h42 w1 hR hb => ?_) (fun w1 hR => first_at w.heap.size 0 n n t s w1 hR hn hs)
    · exact clone_any ad b off n c t w hl hn
    · have hm1 : w1.cell? ⟨0, 0, none⟩ = some (.int .i64 m) := (hb.cell hm0).trans hm
      rcases Nat.eq_zero_or_pos n with rfl | hpos
      · obtain rfl : t = [] := List.length_eq_zero_iff.1 hR.1
        rw [scan_nil]
        exact (alias_zero _ 0 s hs w1 m hm1).mono (by rintro e w2 ⟨rfl, h⟩; exact ⟨rfl, hR.below h (Nat.le_refl _), h⟩)
      · exact (alias_at _ 0 n hpos hn t s hs w1 hR hr h42 m hm1).mono (by rintro e w2 ⟨rfl, h⟩; exact ⟨rfl, hR.below h (Nat.le_refl _), h⟩)
  · exact law_long _ n c s w hns

end Go.Proofs.Qxb6000647a
