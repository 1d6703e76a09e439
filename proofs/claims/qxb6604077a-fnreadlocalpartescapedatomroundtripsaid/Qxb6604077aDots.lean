/-
  dotPiecesNonEmpty, its plain law and its walk.
-/
import Derived.Test.Qxb6604077aMakers
import Derived.Lib.IndexMore
namespace Go.Proofs.Qxb6604077a
open Go.RowKit

def dots : List UInt8 → Nat → Bool
  | [], p => decide (0 < p)
  | c :: t, p => if c = 46 then (if p = 0 then false else dots t 0) else dots t (p + 1)

/-- What readLocalPart refuses. -/
def refuses (l : List UInt8) : Bool := l.isEmpty || Lib.hasPrefix l [46] || Lib.hasSuffix l [46] || Lib.contains l [46, 46]

theorem contains_cons (c : UInt8) (t sub : List UInt8) : Lib.contains (c :: t) sub = (sub.isPrefixOf (c :: t) || Lib.contains t sub) := by
  unfold Lib.contains
  have hge := Lib.index_ge t sub
  rw [Lib.index]
  cases hp : sub.isPrefixOf (c :: t) with
  | true => simp
  | false =>
    simp only [Bool.false_eq_true, if_false, Bool.false_or]
    split
    · rename_i h
      have : Lib.index t sub = -1 := by simpa using h
      rw [this]
    · rename_i h
      have : Lib.index t sub ≠ -1 := by simpa using h
      rw [Bool.eq_iff_iff, decide_eq_true_iff, decide_eq_true_iff]; omega
theorem contains_nil : Lib.contains [] [46, 46] = false := by decide

theorem hasSuffix_cons (c : UInt8) (t : List UInt8) : Lib.hasSuffix (c :: t) [46] = ((t.isEmpty && c == 46) || Lib.hasSuffix t [46]) := by
  unfold Lib.hasSuffix
  rw [Bool.eq_iff_iff, List.isSuffixOf_iff_suffix, Bool.or_eq_true, List.isSuffixOf_iff_suffix, Bool.and_eq_true, List.isEmpty_iff, beq_iff_eq, List.suffix_cons_iff]
  constructor
  · rintro (h | h)
    · simp only [List.cons.injEq] at h
      exact .inl ⟨h.2.symm, h.1.symm⟩
    · exact .inr h
  · rintro (⟨rfl, rfl⟩ | h)
    · exact .inl rfl
    · exact .inr h
theorem hasSuffix_nil : Lib.hasSuffix [] [46] = false := by decide

theorem hasPrefix_cons (c : UInt8) (t : List UInt8) : Lib.hasPrefix (c :: t) [46] = (c == 46) := by
  unfold Lib.hasPrefix
  simp [List.isPrefixOf, Bool.beq_comm]

theorem two_prefix (c : UInt8) (t : List UInt8) : ([46, 46] : List UInt8).isPrefixOf (c :: t) = (c == 46 && Lib.hasPrefix t [46]) := by
  unfold Lib.hasPrefix
  simp [List.isPrefixOf, Bool.beq_comm]

theorem dots_both : ∀ l : List UInt8, (∀ p, 0 < p → dots l p = !(Lib.hasSuffix l [46] || Lib.contains l [46, 46])) ∧ dots l 0 = !(refuses l)
  | [] => ⟨fun p hp => by rw [hasSuffix_nil, contains_nil, dots]; simp [hp], by simp [dots, refuses]⟩
  | c :: t => by
    obtain ⟨ihA, ihB⟩ := dots_both t
    have hA : ∀ p, 0 < p → dots (c :: t) p = !(Lib.hasSuffix (c :: t) [46] || Lib.contains (c :: t) [46, 46]) := by
      intro p hp
      rw [dots, hasSuffix_cons, contains_cons, two_prefix]
      by_cases hc : c = 46
      · rw [if_pos hc, if_neg (by omega), ihB]
        subst hc
        unfold refuses
        cases t.isEmpty <;> cases Lib.hasPrefix t [46] <;> cases Lib.hasSuffix t [46] <;> simp
      · rw [if_neg hc, ihA (p + 1) (by omega)]
        have : (c == 46) = false := by simpa using hc
        rw [this]; simp
    refine ⟨hA, ?_⟩
    rw [dots]
    unfold refuses
    rw [hasPrefix_cons, hasSuffix_cons, contains_cons, two_prefix]
    by_cases hc : c = 46
    · rw [if_pos hc, if_pos rfl]
      subst hc
      simp
    · rw [if_neg hc, ihA (0 + 1) (by omega)]
      have : (c == 46) = false := by simpa using hc
      rw [this]; simp

theorem dots_law (l : List UInt8) : dots l 0 = !(refuses l) := (dots_both l).2

theorem dots_hit {t : List UInt8} {c : UInt8} {x : Int} (hx : ((c.toNat : Nat) : Int) = x) (h : (x == 46) = true) (p : Nat) (hp : ¬ p = 0) : dots (c :: t) p = dots t 0 := by
  have hc : c = 46 := by have := beq_byte c 46 hx; rw [show ((46 : UInt8).toNat : Int) = 46 from rfl, h] at this; simpa using this
  rw [dots, if_pos hc, if_neg hp]
theorem dots_zero {t : List UInt8} {c : UInt8} {x : Int} (hx : ((c.toNat : Nat) : Int) = x) (h : (x == 46) = true) : dots (c :: t) 0 = false := by
  have hc : c = 46 := by have := beq_byte c 46 hx; rw [show ((46 : UInt8).toNat : Int) = 46 from rfl, h] at this; simpa using this
  rw [dots, if_pos hc, if_pos rfl]
theorem dots_miss {t : List UInt8} {c : UInt8} {x : Int} (hx : ((c.toNat : Nat) : Int) = x) (h : (x == 46) = false) (p : Nat) : dots (c :: t) p = dots t (p + 1) := by
  have hc : ¬ c = 46 := by have := beq_byte c 46 hx; rw [show ((46 : UInt8).toNat : Int) = 46 from rfl, h] at this; simpa using this
  rw [dots, if_neg hc]

set_option maxHeartbeats 400000 in
theorem dots_any (s : ByteArray) (w : World) (hs : s.size ≤ 1048576) :
    Calls Try.prog 12 #[.string s] w fun e w' => e = .returned (.bool (dots (bl s) 0)) ∧ w' = w := by
  go_enter Try.func12, Try.ntmps12
  go_wp2
  go_loop [3, 4] (fun pc i => ∃ (k p : Nat), k ≤ s.size ∧ p ≤ k ∧ i = .int .i64 k ∧ pc = .int .i64 p ∧ Hid (dots ((bl s).drop k) p = dots (bl s) 0)) (fun _ i => s.size - (intOf i).toNat)
  case atStart => exact ⟨0, 0, Nat.zero_le _, Nat.le_refl _, rfl, rfl, (rfl : dots ((bl s).drop 0) 0 = dots (bl s) 0)⟩
  case round =>
    obtain ⟨k, p, hk, hp, rfl, rfl, HR⟩ := hrel
    by_cases hlt : k < s.size
    · obtain ⟨x, hx⟩ : ∃ x : Int, ((s[k].toNat : Nat) : Int) = x := ⟨_, rfl⟩
      have HX : Hid (((s[k].toNat : Nat) : Int) = x) := hx
      have HD : Hid ((bl s).drop k = s[k] :: (bl s).drop (k + 1)) := bl_drop s k hlt
      cases h46 : (x == 46) with
      | true =>
        by_cases hp0 : p = 0
        · have HE : Hid (false = dots (bl s) 0) := by show _ = _; rw [← HR.out, HD.out, hp0, dots_zero HX.out h46]
          subst hp0
          go_wp2
          go_ret
          exact ⟨ret_bool HE.out, rfl⟩
        · have HE : Hid (dots ((bl s).drop (k + 1)) 0 = dots (bl s) 0) := by show _ = _; rw [← HR.out, HD.out, dots_hit HX.out h46 p hp0]
          have hp1 : ((p : Int) == 0) = false := by simp; omega
          go_wp2
          go_round
          case rel => exact ⟨k + 1, 0, by omega, by omega, by go_num, by go_num, HE⟩
          case measure => simp [intOf]; omega
      | false =>
        have HE : Hid (dots ((bl s).drop (k + 1)) (p + 1) = dots (bl s) 0) := by show _ = _; rw [← HR.out, HD.out, dots_miss HX.out h46 p]
        go_wp2
        go_round
        case rel => exact ⟨k + 1, p + 1, by omega, by omega, by go_num, by go_num, HE⟩
        case measure => simp [intOf]; omega
    · have HE : Hid (decide (0 < p) = dots (bl s) 0) := by
        show _ = _
        rw [← HR.out, List.drop_eq_nil_of_le (by rw [bl_length]; omega), dots]
      go_wp2
      go_ret
      exact ⟨ret_bool HE.out, rfl⟩

end Go.Proofs.Qxb6604077a
