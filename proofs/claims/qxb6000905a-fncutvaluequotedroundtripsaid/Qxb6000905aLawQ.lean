/-
  cutValue behind a quote, walked at what appendQuoted writes; the law FnCutValueQuotedRoundTrip.
-/
import Derived.Test.Qxb6000905aQuoted
namespace Go.Proofs.Qxb6000905a
open Go.RowKit

theorem drop_head {A : ByteArray} {i : Nat} {c : UInt8} {X : List UInt8} (h : (bl A).drop i = c :: X) : ∃ hi : i < A.size, A[i]'hi = c ∧ (bl A).drop (i + 1) = X := by
  have hi : i < A.size := by
    rcases Nat.lt_or_ge i A.size with g | g
    · exact g
    · rw [List.drop_eq_nil_of_le (by rw [bl_length]; exact g)] at h; exact absurd h (by simp)
  rw [drop_cons A i hi] at h
  simp only [List.cons.injEq] at h
  exact ⟨hi, h.1, h.2⟩
theorem drop_rest {A t : ByteArray} {i : Nat} (h : (bl A).drop i = bl t) : A.extract i A.size = t := by
  apply bl_inj
  rw [bl_extract, List.take_of_length_le (by simp [bl_length]), h]
theorem byte_eq {c k : UInt8} {x : Int} (hx : ((c.toNat : Nat) : Int) = x) (h : c = k) : (x == ((k.toNat : Nat) : Int)) = true := by
  rw [← beq_byte c k hx]; simpa using h
theorem byte_neq {c k : UInt8} {x : Int} (hx : ((c.toNat : Nat) : Int) = x) (h : c ≠ k) : (x == ((k.toNat : Nat) : Int)) = false := by
  rw [← beq_byte c k hx]; simpa using h
theorem pre_yes (A : ByteArray) (X : List UInt8) (h : bl A = 34 :: X) : Lib.hasPrefix A.data.toList [34] = true := by
  show Lib.hasPrefix (bl A) [34] = true
  rw [h]; simp [Lib.hasPrefix]

set_option maxHeartbeats 1000000 in
set_option maxRecDepth 100000 in
theorem cutValue_quoted (A v t : ByteArray) (w : World) (hA : bl A = 34 :: (escQ (bl v) ++ 34 :: bl t)) (hs : A.size ≤ 4194304) (hv : v.size ≤ 4194304) :
    Calls Try.prog 21 #[.string A] w fun e w' => e = .returned (.tuple #[.string v, .string t]) ∧ Below w.heap.size w w' := by
  have hpre := Try.strings_HasPrefix A ⟨#[34]⟩
  rw [show (⟨#[34]⟩ : ByteArray).data.toList = [34] from rfl, pre_yes A _ hA] at hpre
  have HA : Hid ((bl A).drop 1 = escQ ((bl v).drop 0) ++ 34 :: bl t) := by show _ = _; rw [hA]; rfl
  have hA1 : 1 ≤ A.size := by rw [← bl_length, hA]; simp
  clear hA
  have hib := Lib.fresh_isBuilder 35 5 w
  have hb0 : Below w.heap.size w (w.alloc (.cells #[.pointer none, .slice none 0 0] 35)) := (Below.refl _ _).alloc (Nat.le_refl _) _
  go_enter Try.func21, Try.ntmps21
  go_wp2_with (go_at_call 25; refine (hpre _).mono ?_; rintro e wx ⟨rfl, hwx⟩; rw [hwx]; clear hwx)
  clear hpre
  go_loopw [6] (fun j wr => ∃ i k : Nat, i ≤ A.size ∧ k ≤ v.size ∧ j = .int .i64 i ∧ Hid ((bl A).drop i = escQ ((bl v).drop k) ++ 34 :: bl t) ∧ Lib.IsBuilder 35 5 w.heap.size w.heap.size (Lib.byteCells ((bl v).take k)) wr ∧ Below w.heap.size w wr) (fun j _ => A.size - (intOf j).toNat)
  case atStart => exact ⟨1, 0, hA1, Nat.zero_le _, rfl, HA, hib, hb0⟩
  case round =>
    clear hib hb0 HA
    obtain ⟨i, k, hin, hkv, rfl, HD, hib, hbel⟩ := hrel
    have hBw := hbel.size
    have hlenk : (Lib.byteCells ((bl v).take k)).length ≤ 4194304 := by simp [Lib.byteCells, bl_length]; omega
    by_cases hk : k < v.size
    · have hdv := drop_cons v k hk
      have htk := bl_take v k hk
      obtain ⟨c, hc⟩ : ∃ c, v[k] = c := ⟨_, rfl⟩
      rw [hc] at hdv htk
      have hD := HD.out
      rw [hdv, escQ] at hD
      cases hn : needsEsc c with
      | true =>
        rw [if_pos hn, List.cons_append, List.cons_append] at hD
        obtain ⟨h1, h2, h3⟩ := drop_head hD
        obtain ⟨h4, h5, h6⟩ := drop_head h3
        have HD2 : Hid ((bl A).drop (i + 1 + 1) = escQ ((bl v).drop (k + 1)) ++ 34 :: bl t) := h6
        obtain ⟨x, hx⟩ : ∃ x : Int, ((A[i].toNat : Nat) : Int) = x := ⟨_, rfl⟩
        obtain ⟨y, hy⟩ : ∃ y : Int, ((A[i + 1].toNat : Nat) : Int) = y := ⟨_, rfl⟩
        have hx34 : (x == 34) = false := byte_neq (k := 34) hx (by rw [h2]; decide)
        have hx92 : (x == 92) = true := byte_eq (k := 92) hx h2
        have HT : Hid (Lib.byteCells ((bl v).take (k + 1)) = Lib.byteCells ((bl v).take k) ++ [.int .u8 y]) := by
          show _ = _
          rw [htk, ← byteCells_append, ← hy, h5]; rfl
        have hl1 : (i : Int) < (A.size : Int) := by omega
        have hl2 : (i : Int) + 1 < (A.size : Int) := by omega
        clear h6 h5 h3 h2 hD hdv htk HD hc hn
        go_wp2_with (go_at_call 28; refine (writeByte_any w.heap.size w.heap.size _ y _ (by exact hib) (by omega) (by exact hBw)).mono ?_; rintro e w2 ⟨rfl, hib2, hb2⟩)
        have hbel3 : Below w.heap.size w w2 := hbel.trans hb2
        rw [← HT.out] at hib2
        clear hib hb2
        go_roundw
        case rel => exact ⟨i + 1 + 1, k + 1, by omega, by omega, by go_num, HD2, hib2, hbel3⟩
        case measure => simp [intOf]; omega
      | false =>
        rw [if_neg (by rw [hn]; simp), List.cons_append] at hD
        obtain ⟨h1, h2, h3⟩ := drop_head hD
        have HD2 : Hid ((bl A).drop (i + 1) = escQ ((bl v).drop (k + 1)) ++ 34 :: bl t) := h3
        obtain ⟨x, hx⟩ : ∃ x : Int, ((A[i].toNat : Nat) : Int) = x := ⟨_, rfl⟩
        have hnn := needs_int hx
        rw [h2, hn] at hnn
        have hx34 : (x == 34) = false := by cases h : (x == 34) <;> simp [h] at hnn ⊢
        have hx92 : (x == 92) = false := by cases h : (x == 92) <;> simp [h] at hnn ⊢
        have HT : Hid (Lib.byteCells ((bl v).take (k + 1)) = Lib.byteCells ((bl v).take k) ++ [.int .u8 x]) := by
          show _ = _
          rw [htk, ← byteCells_append, ← hx, h2]; rfl
        have hl1 : (i : Int) < (A.size : Int) := by omega
        clear h3 h2 hD hdv htk HD hc hn hnn
        go_wp2_with (go_at_call 28; refine (writeByte_any w.heap.size w.heap.size _ x _ (by exact hib) (by omega) (by exact hBw)).mono ?_; rintro e w2 ⟨rfl, hib2, hb2⟩)
        have hbel3 : Below w.heap.size w w2 := hbel.trans hb2
        rw [← HT.out] at hib2
        clear hib hb2
        go_roundw
        case rel => exact ⟨i + 1, k + 1, by omega, by omega, by go_num, HD2, hib2, hbel3⟩
        case measure => simp [intOf]; omega
    · have hD := HD.out
      rw [show (bl v).drop k = [] from List.drop_eq_nil_of_le (by rw [bl_length]; omega), escQ, List.nil_append] at hD
      obtain ⟨h1, h2, h3⟩ := drop_head hD
      have hrest := drop_rest h3
      have htk : (bl v).take k = bl v := List.take_of_length_le (by rw [bl_length]; omega)
      rw [htk] at hib
      obtain ⟨x, hx⟩ : ∃ x : Int, ((A[i].toNat : Nat) : Int) = x := ⟨_, rfl⟩
      have hx34 : (x == 34) = true := byte_eq (k := 34) hx h2
      have hl1 : (i : Int) < (A.size : Int) := by omega
      have hi1 : (0 : Int) ≤ (i : Int) + 1 := by omega
      have hi2 : (i : Int) + 1 ≤ (A.size : Int) := by omega
      have hwr : IntKind.i64.wrap ((i : Int) + 1) = (i : Int) + 1 := by rw [IntKind.wrap_i64]; omega
      have HV : Hid ((⟨(bl v).toArray⟩ : ByteArray) = v) := bl_inj rfl
      have HRe : Hid (A.extract (i + 1) A.size = t) := hrest
      clear h3 h2 hD HD htk hlenk hrest
      have hlv : (bl v).length ≤ 4194304 := by rw [bl_length]; exact hv
      go_wp2
      go_region_with (go_at_call 27; refine (Try.Builder_String_any w.heap.size w.heap.size (bl v) _ (by exact hib) (by simp; omega)).mono ?_; rintro e w2 ⟨rfl, hb2⟩)
      go_wp2
      go_ret2
      rw [HV.out, HRe.out]
      exact ⟨rfl, hbel.drew.trans hb2⟩

set_option maxHeartbeats 400000 in
theorem zzQ_any (s T R : ByteArray) (w : World) (h : Calls Try.prog 21 #[.string s] w fun e w' => e = .returned (.tuple #[.string T, .string R]) ∧ Below w.heap.size w w') :
    Calls Try.prog 14 #[.string s] w fun e w' => e = .returned (.tuple #[.string T, .string R]) ∧ Below w.heap.size w w' := by
  go_enter Try.func14, Try.ntmps14
  go_wp2_with (go_at_call 21; refine h.mono ?_; rintro e w1 ⟨rfl, hb1⟩)
  go_ret2
  exact ⟨rfl, hb1⟩

set_option maxHeartbeats 1000000 in
/-- What is too long is let pass. -/
theorem lawQ_long (s r : ByteArray) (w : World) (h : ¬ (s.size + r.size ≤ 1048576)) :
    Calls Try.prog 6 #[.string s, .string r] w fun e w' => e = .returned (.bool true) ∧ Below w.heap.size w w' := by
  by_cases a1 : s.size ≤ 1048576
  · by_cases a2 : r.size ≤ 1048576
    · have a5 : (1048576 : Int) < (s.size : Int) + (r.size : Int) := by omega
      go_enter Try.func6, Try.ntmps6
      go_wp2
      go_ret
      exact ⟨rfl, Below.refl _ _⟩
    · have a5 : (1048576 : Int) < (r.size : Int) := by omega
      go_enter Try.func6, Try.ntmps6
      go_wp2
      go_ret
      exact ⟨rfl, Below.refl _ _⟩
  · have a5 : (1048576 : Int) < (s.size : Int) := by omega
    go_enter Try.func6, Try.ntmps6
    go_wp2
    go_ret
    exact ⟨rfl, Below.refl _ _⟩

set_option maxHeartbeats 1000000 in
theorem lawQ (v t : ByteArray) (w : World) (hs : v.size + t.size ≤ 1048576) :
    Calls Try.prog 6 #[.string v, .string t] w fun e w' => e = .returned (.bool true) ∧ Below w.heap.size w w' := by
  obtain ⟨i0, hi, hz0, hz1, hz2⟩ := info_parts infoByte
  obtain ⟨Q, hQ⟩ : ∃ Q : ByteArray, (⟨(34 :: (escQ (bl v) ++ [34])).toArray⟩ : ByteArray) = Q := ⟨_, rfl⟩
  have hln := escQ_length (bl v)
  rw [bl_length] at hln
  have hQb : bl Q = 34 :: (escQ (bl v) ++ [34]) := by rw [← hQ]; unfold bl; simp
  have hQs : Q.size ≤ 2097154 := by rw [← bl_length, hQb]; simp; omega
  obtain ⟨A, hA⟩ : ∃ A : ByteArray, Q ++ t = A := ⟨_, rfl⟩
  have hAb : bl A = 34 :: (escQ (bl v) ++ 34 :: bl t) := by rw [← hA, bl_append, hQb]; simp
  have hAs : A.size ≤ 4194304 := by rw [← hA, ByteArray.size_append]; omega
  have hcut := fun w => zzQ_any A v t w (cutValue_quoted A v t w hAb hAs (by omega))
  have HQ : Hid ((⟨(34 :: (escQ (bl v) ++ [34])).toArray⟩ : ByteArray) = Q) := hQ
  clear hAb hQb hQ hln
  go_enter Try.func6, Try.ntmps6
  go_wp2_with (first | (go_at_call 16; go_in) | (at_make; refine wpList_make_own _ rfl _ _ 27 rfl w.heap.size 5 i0 (.int .u8 0) 1 Try.underlying27 hi hz0 hz1 _ _ _ (2 * v.size + 2) rfl rfl (by omega) ?b2 ?b3 (Nat.le_refl _) ?_))
  case b2 => rw [hz2]; omega
  case b3 => unfold maxLen; omega
  intro w1 hown1 hgrow1
  have hb1 : Below w.heap.size w w1 := (Below.refl _ _).grown hgrow1 (Nat.le_refl _) (fun k hk => by cases hk)
  clear hgrow1
  have hap := appendQuoted_any v w1 w.heap.size _ hown1 hb1.size (by omega)
  clear hown1
  go_wp2_with (go_at_call 17; refine hap.mono ?_; rintro e w2 ⟨v2, n2, rfl, hown2, hb2⟩)
  have hconv := conv_own hown2
  rw [HQ.out] at hconv
  have hbel2 : Below w.heap.size w w2 := hb1.trans hb2
  clear hown2 hb1 hb2 hap
  rw [hconv]
  simp only [Result.andThen]
  rw [Oper.upon_value]
  go_wp2_with (go_at_call 14; refine (hcut _).mono ?_; rintro e w3 ⟨rfl, hb3⟩)
  go_ret
  exact ⟨rfl, hbel2.trans (hb3.mono hbel2.size)⟩

end Go.Proofs.Qxb6000905a
