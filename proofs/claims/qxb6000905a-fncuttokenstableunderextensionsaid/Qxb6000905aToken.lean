/-
  allTchar, cutToken, and the two laws over them, walked.
-/
import Derived.Test.Qxb6000905aPlain
namespace Go.Proofs.Qxb6000905a
open Go.RowKit

theorem isTchar_byte (c : UInt8) (x : Int) (hx : ((c.toNat : Nat) : Int) = x) (w : World) :
    Calls Try.prog 11 #[.int .u8 x] w fun e w' => e = .returned (.bool (tc c)) ∧ w' = w := by
  unfold tc
  rw [hx]
  have := c.toNat_lt
  exact isTchar_int x w (by omega) (by omega)

theorem all_step {s : ByteArray} {k : Nat} (hk : k < s.size) (h : tc s[k] = true) (H : (bl s).all tc = ((bl s).drop k).all tc) : (bl s).all tc = ((bl s).drop (k + 1)).all tc := by
  rw [H, drop_cons s k hk, List.all_cons, h, Bool.true_and]
theorem all_stop {s : ByteArray} {k : Nat} (hk : k < s.size) (h : tc s[k] = false) (H : (bl s).all tc = ((bl s).drop k).all tc) : false = (bl s).all tc := by
  rw [H, drop_cons s k hk, List.all_cons, h]; rfl
theorem all_end {s : ByteArray} {k : Nat} (hk : ¬ k < s.size) (H : (bl s).all tc = ((bl s).drop k).all tc) : true = (bl s).all tc := by
  rw [H, List.drop_eq_nil_of_le (by rw [bl_length]; omega)]; rfl

set_option maxHeartbeats 400000 in
theorem allTchar_any (s : ByteArray) (hs : s.size ≤ 4194304) (w : World) :
    Calls Try.prog 10 #[.string s] w fun e w' => e = .returned (.bool ((bl s).all tc)) ∧ w' = w := by
  go_enter Try.func10, Try.ntmps10
  go_wp2
  go_loopw [3] (fun j wr => wr = w ∧ ∃ p : Nat, p ≤ s.size ∧ j = .int .i64 p ∧ Hid ((bl s).all tc = ((bl s).drop p).all tc)) (fun j _ => s.size - (intOf j).toNat)
  case atStart => exact ⟨rfl, 0, Nat.zero_le _, rfl, (rfl : (bl s).all tc = ((bl s).drop 0).all tc)⟩
  case round =>
    obtain ⟨rfl, p, hps, rfl, HQ⟩ := hrel
    by_cases hp : p < s.size
    · have hp' : (p : Int) < (s.size : Int) := by omega
      obtain ⟨x, hx⟩ : ∃ x : Int, ((s[p].toNat : Nat) : Int) = x := ⟨_, rfl⟩
      have hcon := isTchar_byte s[p] x hx
      cases ht : tc s[p] with
      | false =>
        have HE : Hid (false = (bl s).all tc) := all_stop hp ht HQ.out
        rw [ht] at hcon
        clear ht HQ
        go_wp2_with (go_at_call 11; refine (hcon _).mono ?_; rintro e wx ⟨rfl, hwx⟩; rw [hwx]; clear hwx)
        go_ret
        exact ⟨ret_bool HE.out, rfl⟩
      | true =>
        have HE : Hid ((bl s).all tc = ((bl s).drop (p + 1)).all tc) := all_step hp ht HQ.out
        rw [ht] at hcon
        clear ht HQ
        go_wp2_with (go_at_call 11; refine (hcon _).mono ?_; rintro e wx ⟨rfl, hwx⟩; rw [hwx]; clear hwx)
        go_roundw
        case rel => exact ⟨trivial, p + 1, by omega, by go_num, HE⟩
        case measure => simp [intOf]; omega
    · have hp' : ¬ (p : Int) < (s.size : Int) := by omega
      have HE : Hid (true = (bl s).all tc) := all_end hp HQ.out
      clear HQ
      go_wp2
      go_ret
      exact ⟨ret_bool HE.out, rfl⟩

theorem pred_grows (w : World) : PredGrows Try.prog 23 #[] (fun x => !tchI (x : Int)) w := by
  intro W x hx hb
  exact closure_any x W

set_option maxHeartbeats 400000 in
theorem cutToken_any (s : ByteArray) (w : World) :
    Calls Try.prog 20 #[.string s] w fun e w' => e = .returned (.tuple #[.string (s.extract 0 (cutS s)), .string (s.extract (cutS s) s.size)]) ∧ Below w.heap.size w w' := by
  have hcon := Try.strings_IndexFunc_grows 23 #[] (enters_of Try.func23 (by kernel_rfl) rfl) (fun x => !tchI (x : Int)) s w (pred_grows w)
  rw [idx_all] at hcon
  have hk := cutS_le s
  obtain ⟨k, hkd⟩ : ∃ k, cutS s = k := ⟨_, rfl⟩
  rw [hkd] at hcon hk ⊢
  clear hkd
  by_cases hlt : k < s.size
  · rw [if_pos hlt] at hcon
    have h1 : (k : Int) ≤ (s.size : Int) := by omega
    go_enter Try.func20, Try.ntmps20
    go_wp2_with (go_at_call 22; refine hcon.mono ?_; rintro e w1 ⟨rfl, hb⟩)
    go_quiet (fail)
    go_wp2
    go_ret2
    exact ⟨rfl, hb.trans ⟨rfl, rfl, rfl, Nat.le_refl _, fun _ _ => rfl⟩⟩
  · rw [if_neg hlt] at hcon
    obtain rfl : k = s.size := by omega
    rw [extract_zero, extract_end]
    go_enter Try.func20, Try.ntmps20
    go_wp2_with (go_at_call 22; refine hcon.mono ?_; rintro e w1 ⟨rfl, hb⟩)
    go_ret2
    exact ⟨rfl, hb⟩

set_option maxHeartbeats 400000 in
theorem zzToken_any (s T R : ByteArray) (w : World) (h : Calls Try.prog 20 #[.string s] w fun e w' => e = .returned (.tuple #[.string T, .string R]) ∧ Below w.heap.size w w') :
    Calls Try.prog 9 #[.string s] w fun e w' => e = .returned (.tuple #[.string T, .string R]) ∧ Below w.heap.size w w' := by
  go_enter Try.func9, Try.ntmps9
  go_wp2_with (go_at_call 20; refine h.mono ?_; rintro e w1 ⟨rfl, hb1⟩)
  go_ret2
  exact ⟨rfl, hb1⟩

theorem tok_all (s : ByteArray) : (bl (s.extract 0 (cutS s))).all tc = true := by
  rw [bl_extract, List.drop_zero, Nat.sub_zero]
  exact cutAt_all _
theorem rest_first (s : ByteArray) (h : 0 < (s.extract (cutS s) s.size).size) : tc ((s.extract (cutS s) s.size)[0]'h) = false := by
  have e := bl_get _ 0 h
  rw [bl_extract, List.getElem?_take] at e
  split at e
  · rw [List.getElem?_drop] at e
    exact cutAt_stop _ _ e
  · exact absurd e (by simp)

set_option maxHeartbeats 400000 in
theorem lawL_long (s : ByteArray) (w : World) (h : ¬ s.size ≤ 1048576) :
    Calls Try.prog 3 #[.string s] w fun e w' => e = .returned (.bool true) ∧ Below w.heap.size w w' := by
  have h1 : (1048576 : Int) < (s.size : Int) := by omega
  go_enter Try.func3, Try.ntmps3
  go_wp2
  go_ret
  exact ⟨rfl, Below.refl _ _⟩

set_option maxHeartbeats 1000000 in
theorem lawL (s : ByteArray) (w : World) (hs : s.size ≤ 1048576) :
    Calls Try.prog 3 #[.string s] w fun e w' => e = .returned (.bool true) ∧ Below w.heap.size w w' := by
  have hz := zzToken_any s _ _ w (cutToken_any s w)
  have hall := tok_all s
  have hrest : ∀ R, s.extract (cutS s) s.size = R → ∀ h : 0 < R.size, tc (R[0]'h) = false := by rintro R rfl h; exact rest_first s h
  have hTR := split_back s (cutS s)
  have hTs : (s.extract 0 (cutS s)).size ≤ 1048576 := by rw [← bl_length, bl_extract, List.length_take]; have := cutS_le s; omega
  have hRs : (s.extract (cutS s) s.size).size ≤ 1048576 := by rw [← bl_length, bl_extract, List.length_take]; omega
  obtain ⟨T, hT⟩ : ∃ T, s.extract 0 (cutS s) = T := ⟨_, rfl⟩
  obtain ⟨R, hR⟩ : ∃ R, s.extract (cutS s) s.size = R := ⟨_, rfl⟩
  replace hrest := hrest R hR
  rw [hT, hR] at hz hTR
  rw [hT] at hall hTs
  rw [hR] at hRs
  have hal := fun w => allTchar_any T (by omega) w
  rw [hall] at hal
  clear hT hR hall
  by_cases hr : 0 < R.size
  · have hr' : (0 : Int) < (R.size : Int) := by omega
    have hf := hrest hr
    obtain ⟨x, hx⟩ : ∃ x : Int, (((R[0]'hr).toNat : Nat) : Int) = x := ⟨_, rfl⟩
    have hcon := isTchar_byte (R[0]'hr) x hx
    rw [hf] at hcon
    clear hrest hf
    go_enter Try.func3, Try.ntmps3
    go_wp2_with (first | (go_at_call 8; go_in) | (go_at_call 9; refine hz.mono ?_; rintro e w1 ⟨rfl, hb1⟩) | (go_at_call 10; refine (hal _).mono ?_; rintro e wx ⟨rfl, hwx⟩; rw [hwx]; clear hwx) | (go_at_call 11; refine (hcon _).mono ?_; rintro e wx ⟨rfl, hwx⟩; rw [hwx]; clear hwx))
    go_ret
    exact ⟨rfl, hb1⟩
  · have hr' : ¬ (0 : Int) < (R.size : Int) := by omega
    clear hrest
    go_enter Try.func3, Try.ntmps3
    go_wp2_with (first | (go_at_call 8; go_in) | (go_at_call 9; refine hz.mono ?_; rintro e w1 ⟨rfl, hb1⟩) | (go_at_call 10; refine (hal _).mono ?_; rintro e wx ⟨rfl, hwx⟩; rw [hwx]; clear hwx))
    go_ret
    exact ⟨rfl, hb1⟩

set_option maxHeartbeats 1000000 in
/-- What is too long is let pass. -/
theorem lawS_long (s r : ByteArray) (w : World) (h : ¬ (s.size + r.size ≤ 1048576)) :
    Calls Try.prog 4 #[.string s, .string r] w fun e w' => e = .returned (.bool true) ∧ Below w.heap.size w w' := by
  by_cases a1 : s.size ≤ 1048576
  · by_cases a2 : r.size ≤ 1048576
    · have a5 : (1048576 : Int) < (s.size : Int) + (r.size : Int) := by omega
      go_enter Try.func4, Try.ntmps4
      go_wp2
      go_ret
      exact ⟨rfl, Below.refl _ _⟩
    · have a5 : (1048576 : Int) < (r.size : Int) := by omega
      go_enter Try.func4, Try.ntmps4
      go_wp2
      go_ret
      exact ⟨rfl, Below.refl _ _⟩
  · have a5 : (1048576 : Int) < (s.size : Int) := by omega
    go_enter Try.func4, Try.ntmps4
    go_wp2
    go_ret
    exact ⟨rfl, Below.refl _ _⟩

theorem cutS_append {a b : ByteArray} (h : (bl a).all tc = false) : cutS (a ++ b) = cutS a := by
  unfold cutS
  rw [bl_append, cutAt_append _ _ h]
theorem tok_append {a b : ByteArray} {k : Nat} (hk : k ≤ a.size) : (a ++ b).extract 0 k = a.extract 0 k := by
  apply bl_inj
  rw [bl_extract, bl_extract, bl_append, List.drop_zero, List.drop_zero, Nat.sub_zero, List.take_append_of_le_length (by rw [bl_length]; exact hk)]
theorem rest_append {a b : ByteArray} {k : Nat} (hk : k ≤ a.size) : (a ++ b).extract k (a ++ b).size = a.extract k a.size ++ b := by
  apply bl_inj
  rw [bl_extract, bl_append, bl_append, bl_extract, List.take_of_length_le (by simp [bl_length, ByteArray.size_append]), List.take_of_length_le (l := (bl a).drop k) (by simp [bl_length]), List.drop_append_of_le_length (by rw [bl_length]; exact hk)]

set_option maxHeartbeats 1000000 in
theorem lawS (a b : ByteArray) (w : World) (hs : a.size + b.size ≤ 1048576) :
    Calls Try.prog 4 #[.string a, .string b] w fun e w' => e = .returned (.bool true) ∧ Below w.heap.size w w' := by
  have hal := fun w => allTchar_any a (by omega) w
  cases hall : (bl a).all tc with
  | true =>
    rw [hall] at hal
    clear hall
    go_enter Try.func4, Try.ntmps4
    go_wp2_with (first | (go_at_call 12; go_in) | (go_at_call 10; refine (hal _).mono ?_; rintro e wx ⟨rfl, hwx⟩; rw [hwx]; clear hwx))
    go_ret
    exact ⟨rfl, Below.refl _ _⟩
  | false =>
    rw [hall] at hal
    have hz1 := fun w => zzToken_any a _ _ w (cutToken_any a w)
    have hz2 := fun w => zzToken_any (a ++ b) _ _ w (cutToken_any (a ++ b) w)
    rw [cutS_append hall, tok_append (cutS_le a), rest_append (cutS_le a)] at hz2
    have hTs : (a.extract 0 (cutS a)).size ≤ 1048576 := by rw [← bl_length, bl_extract, List.length_take]; have := cutS_le a; omega
    have hRs : (a.extract (cutS a) a.size).size ≤ a.size := by rw [← bl_length, bl_extract, List.length_take]; omega
    obtain ⟨T, hT⟩ : ∃ T, a.extract 0 (cutS a) = T := ⟨_, rfl⟩
    obtain ⟨R, hR⟩ : ∃ R, a.extract (cutS a) a.size = R := ⟨_, rfl⟩
    rw [hT, hR] at hz1 hz2
    rw [hT] at hTs
    rw [hR] at hRs
    clear hT hR hall
    go_enter Try.func4, Try.ntmps4
    go_wp2_with (first | (go_at_call 12; go_in) | (go_at_call 10; refine (hal _).mono ?_; rintro e wx ⟨rfl, hwx⟩; rw [hwx]; clear hwx) | (go_at_call 9; refine (hz1 _).mono ?_; rintro e w1 ⟨rfl, hb1⟩) | (go_at_call 9; refine (hz2 _).mono ?_; rintro e w2 ⟨rfl, hb2⟩))
    go_ret
    exact ⟨rfl, hb1.trans (hb2.mono hb1.size)⟩

end Go.Proofs.Qxb6000905a
