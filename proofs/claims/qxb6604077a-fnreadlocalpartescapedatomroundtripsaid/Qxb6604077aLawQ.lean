/-
  THE LAW FnReadLocalPartQuotedRoundTrip, walked.
-/
import Derived.Test.Qxb6604077aQuoted
namespace Go.Proofs.Qxb6604077a
open Go.RowKit

theorem mk_toArray (s : ByteArray) : (⟨(bl s).toArray⟩ : ByteArray) = s := bl_inj rfl

set_option maxHeartbeats 400000 in
/-- The thin shim. -/
theorem zz_any (A a b : ByteArray) (c : Bool) (w : World) (h : Calls Try.prog 13 #[.string A] w fun e w' => e = .returned (.tuple #[.string a, .string b, .bool c]) ∧ Below w.heap.size w w') :
    Calls Try.prog 6 #[.string A] w fun e w' => e = .returned (.tuple #[.string a, .string b, .bool c]) ∧ Below w.heap.size w w' := by
  go_enter Try.func6, Try.ntmps6
  go_wp2_with (go_at_call 13; refine h.mono ?_; rintro e w1 ⟨rfl, hb1⟩)
  go_ret3
  exact ⟨rfl, hb1⟩

set_option maxHeartbeats 1000000 in
/-- What is too long is let pass. -/
theorem lawQ_long (s r : ByteArray) (w : World) (h : ¬ (s.size ≤ 262144 ∧ r.size ≤ 262144)) :
    Calls Try.prog 3 #[.string s, .string r] w fun e w' => e = .returned (.bool true) ∧ Below w.heap.size w w' := by
  by_cases a1 : s.size ≤ 1048576
  · by_cases a2 : r.size ≤ 1048576
    · by_cases a3 : s.size + r.size ≤ 1048576
      · by_cases a4 : s.size ≤ 262144
        · have a5 : (262144 : Int) < (r.size : Int) := by omega
          go_enter Try.func3, Try.ntmps3
          go_wp2
          go_ret
          exact ⟨rfl, Below.refl _ _⟩
        · have a5 : (262144 : Int) < (s.size : Int) := by omega
          go_enter Try.func3, Try.ntmps3
          go_wp2
          go_ret
          exact ⟨rfl, Below.refl _ _⟩
      · have a5 : (1048576 : Int) < (s.size : Int) + (r.size : Int) := by omega
        go_enter Try.func3, Try.ntmps3
        go_wp2
        go_ret
        exact ⟨rfl, Below.refl _ _⟩
    · have a5 : (1048576 : Int) < (r.size : Int) := by omega
      go_enter Try.func3, Try.ntmps3
      go_wp2
      go_ret
      exact ⟨rfl, Below.refl _ _⟩
  · have a5 : (1048576 : Int) < (s.size : Int) := by omega
    go_enter Try.func3, Try.ntmps3
    go_wp2
    go_ret
    exact ⟨rfl, Below.refl _ _⟩

set_option maxHeartbeats 1000000 in
theorem lawQ (s r : ByteArray) (w : World) (h1 : s.size ≤ 262144) (h2 : r.size ≤ 262144) :
    Calls Try.prog 3 #[.string s, .string r] w fun e w' => e = .returned (.bool true) ∧ Below w.heap.size w w' := by
  obtain ⟨Q, hQ⟩ : ∃ Q : ByteArray, Q = ⟨(34 :: (escQ (bl s) ++ [34])).toArray⟩ := ⟨_, rfl⟩
  have hquote := quote_any s w (by omega)
  rw [← hQ] at hquote
  have hln := escQ_length (bl s)
  rw [bl_length] at hln
  have hqs : Q.size = (escQ (bl s)).length + 2 := by rw [hQ]; simp [ByteArray.size]
  have hq1 : Q.size ≤ 524290 := by omega
  obtain ⟨q, hq⟩ : ∃ q : ByteArray, q = ⟨(escQ (bl s) ++ 34 :: bl r).toArray⟩ := ⟨_, rfl⟩
  have hqsz : q.size ≤ 4194304 := by
    have : q.size = (escQ (bl s)).length + 1 + (bl r).length := by rw [hq]; simp [ByteArray.size]; omega
    rw [bl_length] at this; omega
  have hA : bl (Q ++ r) = 34 :: bl q := by
    rw [hQ, hq]
    have e : bl ((⟨(34 :: (escQ (bl s) ++ [34])).toArray⟩ : ByteArray) ++ r) = (34 :: (escQ (bl s) ++ [34])) ++ bl r := by
      unfold bl; simp
    rw [e]; simp [bl]
  have hread := fun w => quoted_any (Q ++ r) q hA w hqsz
  have hbq : bl q = escQ (bl s) ++ 34 :: bl r := by rw [hq]; rfl
  rw [hbq, readQ_law] at hread
  clear hA hbq hq hQ hqs hln hqsz q
  have hnul := fun w => hasNul_any s w (by omega)
  cases hb : (bl s).any bad3 with
  | true =>
    rw [hb] at hread hnul
    simp only [if_true, resOf] at hread
    go_enter Try.func3, Try.ntmps3
    go_wp2_with (first | (go_at_call 5; go_in) | (go_at_call 7; refine hquote.mono ?_; rintro e w1 ⟨rfl, hb1⟩) | (go_at_call 6; refine (zz_any _ _ _ _ _ (hread _)).mono ?_; rintro e w2 ⟨rfl, hb2⟩) | (go_at_call 8; refine (hnul _).mono ?_; rintro e w3 ⟨rfl, hw3⟩; rw [hw3]; clear hw3))
    go_ret
    exact ⟨rfl, hb1.trans (hb2.mono hb1.size)⟩
  | false =>
    rw [hb] at hread hnul
    simp only [Bool.false_eq_true, if_false, resOf, List.nil_append, mk_toArray] at hread
    go_enter Try.func3, Try.ntmps3
    go_wp2_with (first | (go_at_call 5; go_in) | (go_at_call 7; refine hquote.mono ?_; rintro e w1 ⟨rfl, hb1⟩) | (go_at_call 6; refine (zz_any _ _ _ _ _ (hread _)).mono ?_; rintro e w2 ⟨rfl, hb2⟩) | (go_at_call 8; refine (hnul _).mono ?_; rintro e w3 ⟨rfl, hw3⟩; rw [hw3]; clear hw3))
    go_ret
    exact ⟨rfl, hb1.trans (hb2.mono hb1.size)⟩

end Go.Proofs.Qxb6604077a
