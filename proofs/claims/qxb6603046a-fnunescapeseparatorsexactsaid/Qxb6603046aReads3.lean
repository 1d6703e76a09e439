import Derived.Test.Qxb6603046aReads2
namespace Go.Proofs.Qxb6603046a
open Go.RowKit

def pre5 : List Int := [92, 117, 50, 48, 50]
def PreTo (t : List Int) (i k : Nat) : Prop := ∀ m, m < k → t.getD (i + m) 0 = pre5.getD m 0

theorem str5 (k : Nat) (hk : k < (ByteArray.mk #[92, 117, 50, 48, 50]).size) : ((((ByteArray.mk #[92, 117, 50, 48, 50])[k]'hk).toNat : Nat) : Int) = pre5.getD k 0 := by
  have h5 : k < 5 := hk
  rcases (show k = 0 ∨ k = 1 ∨ k = 2 ∨ k = 3 ∨ k = 4 from by omega) with rfl | rfl | rfl | rfl | rfl <;> rfl

theorem PreTo_zero (t : List Int) (i : Nat) : PreTo t i 0 := fun m hm => absurd hm (Nat.not_lt_zero m)
theorem PreTo_step {t : List Int} {i k : Nat} {hk : k < (ByteArray.mk #[92, 117, 50, 48, 50]).size} (h : t[i + k]?.getD 0 = ((((ByteArray.mk #[92, 117, 50, 48, 50])[k]'hk).toNat : Nat) : Int)) (H : PreTo t i k) : PreTo t i (k + 1) := by
  intro m hm
  by_cases c : m < k
  · exact H m c
  · obtain rfl : m = k := by omega
    rw [← str5 m hk, ← h, List.getD_eq_getElem?_getD]
theorem PreTo_five {t : List Int} {i : Nat} : PreTo t i 5 ↔ preAt t i = true := by
  unfold preAt
  simp only [Bool.and_eq_true, beq_iff_eq]
  constructor
  · intro H
    exact ⟨⟨⟨⟨H 0 (by omega), H 1 (by omega)⟩, H 2 (by omega)⟩, H 3 (by omega)⟩, H 4 (by omega)⟩
  · rintro ⟨⟨⟨⟨h0, h1⟩, h2⟩, h3⟩, h4⟩ m hm
    rcases (show m = 0 ∨ m = 1 ∨ m = 2 ∨ m = 3 ∨ m = 4 from by omega) with rfl | rfl | rfl | rfl | rfl
    · exact h0
    · exact h1
    · exact h2
    · exact h3
    · exact h4
theorem pre_miss {t : List Int} {i k : Nat} {hk : k < (ByteArray.mk #[92, 117, 50, 48, 50]).size} (h : ¬ t[i + k]?.getD 0 = ((((ByteArray.mk #[92, 117, 50, 48, 50])[k]'hk).toNat : Nat) : Int)) : preAt t i = false := by
  cases c : preAt t i with
  | false => rfl
  | true =>
    have := PreTo_five.2 c k hk
    rw [← str5 k hk, List.getD_eq_getElem?_getD] at this
    exact absurd this h

theorem ret_u8 {a b : Int} (h : a = b) : Ending.returned (.int .u8 a) = .returned (.int .u8 b) := by rw [h]
theorem sep_miss {t : List Int} {i : Nat} (h : preAt t i = false) : 0 = sepAt t i := by
  unfold sepAt; rw [if_neg]; rw [h]; simp
theorem sep_short {t : List Int} {n i : Nat} (ht : t.length = n) (h : ¬ i + 6 ≤ n) : 0 = sepAt t i := by
  unfold sepAt; rw [if_neg]; omega
theorem sep_8 {t : List Int} {n i : Nat} (ht : t.length = n) (h : i + 6 ≤ n) (hp : preAt t i = true) (h8 : (t[i + 5]?.getD 0 == 56) = true) : 168 = sepAt t i := by
  have h8' : t.getD (i + 5) 0 = 56 := by simpa [List.getD_eq_getElem?_getD] using h8
  unfold sepAt; rw [if_pos ⟨by omega, hp⟩, if_pos h8']
theorem sep_9 {t : List Int} {n i : Nat} (ht : t.length = n) (h : i + 6 ≤ n) (hp : preAt t i = true) (h8 : (t[i + 5]?.getD 0 == 57) = true) : 169 = sepAt t i := by
  have h8' : t.getD (i + 5) 0 = 57 := by simpa [List.getD_eq_getElem?_getD] using h8
  unfold sepAt; rw [if_pos ⟨by omega, hp⟩, if_neg (by omega), if_pos h8']
theorem sep_0 {t : List Int} {i : Nat} (h8 : (t[i + 5]?.getD 0 == 56) = false) (h9 : (t[i + 5]?.getD 0 == 57) = false) : 0 = sepAt t i := by
  have h8' : ¬ t.getD (i + 5) 0 = 56 := by simpa [List.getD_eq_getElem?_getD] using h8
  have h9' : ¬ t.getD (i + 5) 0 = 57 := by simpa [List.getD_eq_getElem?_getD] using h9
  unfold sepAt; rw [if_neg h8', if_neg h9']; simp

set_option maxHeartbeats 1000000 in
theorem sepAt_any (a : Option Addr) (b off n c : Nat) (t : List Int) (w : World) (hl : Lies w a b off n t) (hn : n ≤ 1048576) (i : Nat) (hi : i < n) :
    Calls Try.prog 22 #[.slice a n c, .int .i64 i] w fun e w' => e = .returned (.int .u8 (sepAt t i)) ∧ ∃ q, w' = w.drewN q := by
  obtain ⟨ht, hc⟩ := hl
  have H1 : Hid (t.length = n) := ht
  clear ht
  by_cases h6 : i + 6 ≤ n
  · go_enter Try.func22, Try.ntmps22
    go_wp2
    go_loopw [5] (fun j wr => ∃ k : Nat, k ≤ 5 ∧ j = .int .i64 k ∧ (∃ q, wr = w.drewN q) ∧ Hid (PreTo t i k)) (fun j _ => 5 - (intOf j).toNat)
    case atStart => exact ⟨0, Nat.zero_le _, rfl, ⟨0, rfl⟩, PreTo_zero t i⟩
    case round =>
      obtain ⟨k, hk, rfl, ⟨q, rfl⟩, HR⟩ := hrel
      by_cases hlt : k < 5
      · obtain ⟨ha1, hcell1⟩ := hc (i + k) (by omega)
        have hx : (i : Int) + (k : Int) < (n : Int) := by omega
        go_wp2
        go_quiet (fail)
        go_wp2
        · go_ret
          have hm := ‹(_ != _) = true›
          exact ⟨ret_u8 (sep_miss (pre_miss (by simpa using hm))), ⟨_, World.drewN_drewN ..⟩⟩
        · go_roundw
          case rel =>
            have hm := ‹(_ != _) = false›
            exact ⟨k + 1, by omega, by go_num, ⟨_, rfl⟩, PreTo_step (by simpa using hm) HR.out⟩
          case measure => simp [intOf]; omega
      · obtain ⟨ha1, hcell1⟩ := hc (i + 5) (by omega)
        have hx : (i : Int) + 5 < (n : Int) := by omega
        have H5 : Hid (preAt t i = true) := by
          obtain rfl : k = 5 := by omega
          exact PreTo_five.1 HR.out
        go_wp2
        · go_ret
          exact ⟨ret_u8 (sep_8 H1.out h6 H5.out ‹_›), ⟨_, rfl⟩⟩
        · go_ret
          exact ⟨ret_u8 (sep_9 H1.out h6 H5.out ‹_›), ⟨_, rfl⟩⟩
        · go_ret
          exact ⟨ret_u8 (sep_0 ‹_› ‹_›), ⟨_, rfl⟩⟩
  · go_enter Try.func22, Try.ntmps22
    go_wp2
    go_ret
    exact ⟨ret_u8 (sep_short H1.out h6), ⟨0, rfl⟩⟩

theorem has_yes {t : List Int} {n i : Nat} (ht : t.length = n) (h : (i : Int) + 5 ≤ n) (H : PreTo t i 5) : true = hasPre t :=
  ((hasPre_iff t).2 ⟨i, by omega, PreTo_five.1 H⟩).symm
theorem has_no {t : List Int} {n i : Nat} (ht : t.length = n) (h : ¬ i + 5 ≤ n) (H : ∀ j, j < i → preAt t j = false) : false = hasPre t := by
  cases c : hasPre t with
  | false => rfl
  | true =>
    obtain ⟨j, hj, hp⟩ := (hasPre_iff t).1 c
    rw [H j (by omega)] at hp; exact absurd hp (by simp)
theorem has_step {t : List Int} {i : Nat} (H : ∀ j, j < i → preAt t j = false) (h : preAt t i = false) : ∀ j, j < i + 1 → preAt t j = false := by
  intro j hj
  by_cases c : j < i
  · exact H j c
  · obtain rfl : j = i := by omega
    exact h

set_option maxHeartbeats 1000000 in
theorem contains_any (a : Option Addr) (b off n c : Nat) (t : List Int) (w : World) (hl : Lies w a b off n t) (hn : n ≤ 1048576) :
    Calls Try.prog 15 #[.slice a n c, .string ⟨#[92, 117, 50, 48, 50]⟩] w fun e w' => e = .returned (.bool (hasPre t)) ∧ ∃ q, w' = w.drewN q := by
  obtain ⟨ht, hc⟩ := hl
  have H1 : Hid (t.length = n) := ht
  clear ht
  go_enter Try.func15, Try.ntmps15
  go_wp2
  go_loopw [5] (fun j wr => ∃ i : Nat, i ≤ n ∧ j = .int .i64 i ∧ (∃ q, wr = w.drewN q) ∧ Hid (∀ j, j < i → preAt t j = false)) (fun j _ => n + 1 - (intOf j).toNat)
  case atStart => exact ⟨0, Nat.zero_le _, rfl, ⟨0, rfl⟩, (fun m hm => absurd hm (Nat.not_lt_zero m) : ∀ j, j < 0 → preAt t j = false)⟩
  case round =>
    obtain ⟨i, hi, rfl, ⟨q, rfl⟩, HR⟩ := hrel
    by_cases hlt : i + 5 ≤ n
    · go_wp2
      go_loopw [6] (fun j wr => ∃ k : Nat, k ≤ 5 ∧ j = .int .i64 k ∧ (∃ q, wr = w.drewN q) ∧ Hid (PreTo t i k)) (fun j _ => 5 - (intOf j).toNat)
      case atStart => exact ⟨0, Nat.zero_le _, rfl, ⟨q, rfl⟩, PreTo_zero t i⟩
      case round =>
        obtain ⟨k, hk, rfl, ⟨q', rfl⟩, HP⟩ := hrel
        by_cases hk5 : k < 5
        · obtain ⟨ha1, hcell1⟩ := hc (i + k) (by omega)
          have hx : (i : Int) + (k : Int) < (n : Int) := by omega
          have hy : (k : Int) < 5 := by omega
          go_wp2
          go_quiet (fail)
          go_wp2
          · go_roundw
            case rel =>
              have hm := ‹(_ == _) = true›
              exact ⟨k + 1, by omega, by go_num, ⟨_, rfl⟩, PreTo_step (by simpa using hm) HP.out⟩
            case measure => simp [intOf]; omega
          · go_roundw
            case rel =>
              have hm := ‹(_ == ((UInt8.toNat _ : Nat) : Int)) = false›
              exact ⟨i + 1, by omega, by go_num, ⟨_, rfl⟩, has_step HR.out (pre_miss (by simpa using hm))⟩
            case measure => simp [intOf]; omega
        · have hy : decide ((k : Int) < 5) = false := decide_eq_false (by omega)
          have H5 : Hid (PreTo t i 5) := by
            obtain rfl : k = 5 := by omega
            exact HP.out
          go_wp2
          go_quiet (fail)
          go_wp2
          go_ret
          exact ⟨ret_bool (has_yes H1.out ‹_› H5.out), ⟨_, rfl⟩⟩
    · go_wp2
      go_ret
      exact ⟨ret_bool (has_no H1.out hlt HR.out), ⟨_, rfl⟩⟩
end Go.Proofs.Qxb6603046a
