/-
  strings.IndexRune AT A STRING OF ASCII BYTES, WHATEVER THE RUNE; the closure of cutToken.
-/
import Derived.Test.Qxb6000905aRows
import Derived.Test.Qxb6000905aShelf
import Derived.WalkKit
import Derived.WalkSpells
import Derived.WalkLawsBesides
import Derived.Below
import Derived.Deep.QuietTactic
import Derived.BigQuiet
import Derived.Laws.Runes
import Derived.Laws.RangeString
import Derived.Lib.OthersKept
set_option linter.unusedVariables false
namespace Go.Proofs.Qxb6000905a
open Go.RowKit

theorem indexByte_none : ∀ (l : List UInt8) (c : UInt8), (∀ b ∈ l, b ≠ c) → Lib.indexByte l c = -1 := by
  intro l c h
  have := Lib.index_one l c
  rw [← this]
  refine Lib.index_none fun j hj => ?_
  cases ho : Lib.occAt l [c] j with
  | false => rfl
  | true =>
    unfold Lib.occAt at ho
    rw [List.isPrefixOf_iff_prefix] at ho
    obtain ⟨t, ht⟩ := ho
    have hm : c ∈ l.drop j := by rw [← ht]; simp
    exact absurd rfl (h c (List.mem_of_mem_drop hm))

theorem byte_self (x : UInt8) : ((x.toNat : Int)).toNat.toUInt8 = x := by simp

set_option maxHeartbeats 1000000 in
set_option maxRecDepth 100000 in
theorem indexRune_far (s : ByteArray) (hs : ∀ b ∈ s.data.toList, b.toNat < 128) (hsz : s.size ≤ 1000) (r : Int) (h128 : 128 ≤ r) (hv : Lib.validRune r = true) (hne : (r == 65533) = false) (w : World) :
    Calls Try.prog 30 #[.string s, .int .i32 r] w fun e w' => e = .returned (.int .i64 (-1)) ∧ ∃ q, w' = w.drewN q := by
  have hnl : ¬ r < 128 := by omega
  have hf := encode_facts r (by rw [validRune_eq]; exact hv) h128
  obtain ⟨E, hE⟩ : ∃ E, Utf8.encode r = E := ⟨_, rfl⟩
  rw [hE] at hf
  obtain ⟨h2, h4, hlast⟩ := hf
  obtain ⟨k, hk⟩ : ∃ k, E.size = k + 1 := ⟨E.size - 1, by omega⟩
  have hkE : k < E.size := by omega
  have hl : 128 ≤ (E[k]'hkE).toNat := by
    have := hlast (by omega)
    simpa [hk] using this
  clear hlast
  have hk1 : ((E.size : Int) - 1) = (k : Int) := by omega
  have hk2 : (k : Int) < (E.size : Int) := by omega
  have HK : Hid (E.size = k + 1) := hk
  clear hk
  by_cases hin : k < s.size
  · have hx : (k : Int) < (s.size : Int) := by omega
    have hsk : (s[k]'hin).toNat < 128 := hs _ (Array.getElem_mem_toList (xs := s.data) hin)
    have hd : (((s[k]'hin).toNat : Int) != ((E[k]'hkE).toNat : Int)) = true := by simp; omega
    have hcon : ∀ w, Calls Try.prog 36 #[.string (s.extract (k + 1) s.size), .int .u8 ((E[k]'hkE).toNat : Int)] w fun e w' => e = .returned (.int .i64 (-1)) ∧ w' = w := by
      intro w
      have h := Try.strings_IndexByte (s.extract (k + 1) s.size) ((E[k]'hkE).toNat : Int) w
      rw [byte_self, indexByte_none _ _ (fun b hb hbc => by have := hs b (mem_extract hb); rw [hbc] at this; omega)] at h
      exact h
    have hs1 : (0 : Int) ≤ (k : Int) + 1 := by omega
    have hs2 : (k : Int) + 1 ≤ (s.size : Int) := by omega
    have hwr : IntKind.i64.wrap ((k : Int) + 1) = (k : Int) + 1 := by rw [IntKind.wrap_i64]; omega
    clear hs
    go_enter Try.func30, Try.ntmps30
    go_wp2_with (go_at_call 37; refine (Try.utf8_ValidRune _ _).mono ?_; rintro e w' ⟨rfl, hw⟩; rw [hw]; clear hw)
    go_step3
    go_wp2
    refine wp_loop_rounds 1 ?_
    rw [rounds_succ]
    go_wp2
    go_step3
    go_wp2
    go_quiet (fail)
    go_wp2
    go_quiet ((go_at_call 36; exact (hcon _).mono (fun _ _ h => ⟨h.1, _, h.2⟩)))
    go_wp2
    rw [Exit.noGoto_ret]
    go_wp2
    rw [Exit.noGoto_ret]
    go_ret
    exact ⟨rfl, ⟨_, rfl⟩⟩
  · have hx : ¬ (k : Int) < (s.size : Int) := by omega
    go_enter Try.func30, Try.ntmps30
    go_wp2_with (go_at_call 37; refine (Try.utf8_ValidRune _ _).mono ?_; rintro e w' ⟨rfl, hw⟩; rw [hw]; clear hw)
    go_step3
    go_wp2
    refine wp_loop_rounds 1 ?_
    rw [rounds_succ]
    go_wp2
    rw [Exit.noGoto_ret]
    go_ret
    exact ⟨rfl, ⟨0, rfl⟩⟩

theorem indexByte_contains : ∀ (l : List UInt8) (c : UInt8), decide (0 ≤ Lib.indexByte l c) = l.contains c := by
  intro l c
  cases h : l.contains c with
  | false =>
    rw [indexByte_none l c (fun b hb hbc => by subst hbc; have := List.contains_iff_mem.2 hb; rw [h] at this; exact absurd this (by simp))]; rfl
  | true =>
    have hm := List.contains_iff_mem.1 h
    rw [← Lib.index_one]
    rcases Lib.index_spec l [c] with ⟨_, h2⟩ | ⟨i, h1, _⟩
    · obtain ⟨i, hi, hic⟩ := List.getElem_of_mem hm
      have ho := h2 i (by omega)
      have : Lib.occAt l [c] i = true := by
        unfold Lib.occAt
        rw [List.isPrefixOf_iff_prefix, List.drop_eq_getElem_cons hi, hic]
        exact ⟨_, rfl⟩
      rw [ho] at this; exact absurd this (by simp)
    · rw [h1]; simp


set_option maxHeartbeats 1000000 in
set_option maxRecDepth 100000 in
/-- At an invalid rune. -/
theorem indexRune_bad (s : ByteArray) (r : Int) (h128 : 128 ≤ r) (hv : Lib.validRune r = false) (hne : (r == 65533) = false) (w : World) :
    Calls Try.prog 30 #[.string s, .int .i32 r] w fun e w' => e = .returned (.int .i64 (-1)) ∧ w' = w := by
  have hnl : ¬ r < 128 := by omega
  go_enter Try.func30, Try.ntmps30
  go_wp2_with (go_at_call 37; refine (Try.utf8_ValidRune _ _).mono ?_; rintro e w' ⟨rfl, hw⟩; rw [hw]; clear hw)
  go_ret
  exact ⟨rfl, rfl⟩

theorem below_iter (w : World) (s : ByteArray) (pos : Nat) : Below w.heap.size w (w.iter s pos) := (Below.refl _ w).alloc (Nat.le_refl _) _

set_option maxHeartbeats 1000000 in
set_option maxRecDepth 100000 in
/-- At U+FFFD. -/
theorem indexRune_fffd (s : ByteArray) (hs : ∀ b ∈ s.data.toList, b.toNat < 128) (w : World) :
    Calls Try.prog 30 #[.string s, .int .i32 65533] w fun e w' => e = .returned (.int .i64 (-1)) ∧ Below w.heap.size w w' := by
  have HS : Hid (∀ b ∈ s.data.toList, b.toNat < 128) := hs
  clear hs
  go_enter Try.func30, Try.ntmps30
  go_wp2
  go_loopg [5, 6] s.size (fun g _ _ wx => ∃ i : Nat, i + g = s.size ∧ wx = w.iter s i)
  case atStart => exact ⟨0, by omega, rfl⟩
  case round =>
    obtain ⟨i, hig, rfl⟩ := hrel
    cases gk with
    | zero =>
      obtain rfl : i = s.size := by omega
      have hnx := run_next_end (P := Try.prog) w s s.size
      go_wp2
      go_ret
      exact ⟨rfl, below_iter w s _⟩
    | succ g =>
      have hi : i < s.size := by omega
      have hx128 : (s[i]'hi).toNat < 128 := HS.out _ (Array.getElem_mem_toList (xs := s.data) hi)
      obtain ⟨x, hx⟩ : ∃ x : UInt8, s[i]'hi = x := ⟨_, rfl⟩
      have hnx := fun ty => run_next_ascii (P := Try.prog) w s i ty hi hx128
      rw [hx] at hnx hx128
      have hxn : ((x.toNat : Int) == 65533) = false := by simp; omega
      clear hx
      go_wp2
      go_roundg g
      case measure => omega
      case rel => exact ⟨i + 1, by omega, rfl⟩

/-- strings.IndexRune(s, x), s of ASCII bytes. -/
theorem indexRune_any (s : ByteArray) (hs : ∀ b ∈ s.data.toList, b.toNat < 128) (hsz : s.size ≤ 1000) (x : Nat) (w : World) :
    Calls Try.prog 30 #[.string s, .int .i32 (x : Int)] w fun e w' => e = .returned (.int .i64 (if x < 128 then Lib.indexByte s.data.toList x.toUInt8 else -1)) ∧ Below w.heap.size w w' := by
  by_cases hx : x < 128
  · rw [if_pos hx]
    refine (Try.strings_IndexRune_ascii s (x : Int) w (by omega) (by omega)).mono ?_
    rintro e w' ⟨rfl, rfl⟩
    exact ⟨rfl, Below.refl _ _⟩
  · rw [if_neg hx]
    by_cases hf : x = 65533
    · subst hf
      exact indexRune_fffd s hs w
    · have hne : ((x : Int) == 65533) = false := by simp; omega
      cases hv : Lib.validRune (x : Int) with
      | false => exact (indexRune_bad s (x : Int) (by omega) hv hne w).mono (by rintro e w' ⟨rfl, rfl⟩; exact ⟨rfl, Below.refl _ _⟩)
      | true => exact (indexRune_far s hs hsz (x : Int) (by omega) hv hne w).mono (by rintro e w' ⟨rfl, q, rfl⟩; exact ⟨rfl, rfl, rfl, rfl, Nat.le_refl _, fun _ _ => rfl⟩)

set_option maxHeartbeats 1000000 in
theorem containsRune_any (s : ByteArray) (hs : ∀ b ∈ s.data.toList, b.toNat < 128) (hsz : s.size ≤ 1000) (x : Nat) (w : World) :
    Calls Try.prog 24 #[.string s, .int .i32 (x : Int)] w fun e w' => e = .returned (.bool (decide (x < 128) && s.data.toList.contains x.toUInt8)) ∧ Below w.heap.size w w' := by
  have h := indexRune_any s hs hsz x
  obtain ⟨v, hv⟩ : ∃ v, (if x < 128 then Lib.indexByte s.data.toList x.toUInt8 else -1) = v := ⟨_, rfl⟩
  have he : decide (0 ≤ v) = (decide (x < 128) && s.data.toList.contains x.toUInt8) := by
    rw [← hv]
    by_cases hx : x < 128
    · rw [if_pos hx, indexByte_contains, decide_eq_true hx]; rfl
    · rw [if_neg hx, decide_eq_false hx]; rfl
  rw [hv] at h
  rw [← he]
  clear hv he
  go_enter Try.func24, Try.ntmps24
  go_wp2_with (go_at_call 30; refine (h _).mono ?_; rintro e w' ⟨rfl, hb⟩)
  go_ret
  exact ⟨rfl, hb⟩

/-- The token characters, over the number. -/
def letterI (x : Int) : Bool := (decide (97 ≤ x) && decide (x ≤ 122)) || (decide (65 ≤ x) && decide (x ≤ 90)) || (decide (48 ≤ x) && decide (x ≤ 57))
def signI (x : Int) : Bool := [33, 35, 36, 37, 38, 39, 42, 43, 45, 46, 94, 95, 96, 124, 126].contains x
def tchI (x : Int) : Bool := letterI x || signI x
theorem ret_bool {a b : Bool} (h : a = b) : Ending.returned (.bool a) = .returned (.bool b) := by rw [h]

set_option maxHeartbeats 4000000 in
set_option maxRecDepth 100000 in
theorem isTchar_int (x : Int) (w : World) (h0 : 0 ≤ x) (h1 : x ≤ 255) :
    Calls Try.prog 11 #[.int .u8 x] w fun e w' => e = .returned (.bool (tchI x)) ∧ w' = w := by
  go_enter Try.func11, Try.ntmps11
  go_wp2
  all_goals
    go_ret
    refine ⟨ret_bool ?_, rfl⟩
    try simp only [beq_iff_eq, beq_eq_false_iff_ne, ne_eq] at *
    simp [tchI, letterI, signI]
    omega

def signs : ByteArray := ⟨#[33, 35, 36, 37, 38, 39, 42, 43, 45, 46, 94, 95, 96, 124, 126]⟩
theorem signs_ascii : ∀ b ∈ signs.data.toList, b.toNat < 128 := by decide
theorem signs_law (x : Nat) : (decide (x < 128) && signs.data.toList.contains x.toUInt8) = signI (x : Int) := by
  by_cases hx : x < 128
  · have : ∀ y : Fin 128, (signs.data.toList.contains y.1.toUInt8) = signI (y.1 : Int) := by decide +kernel
    rw [decide_eq_true hx]
    exact this ⟨x, hx⟩
  · rw [decide_eq_false hx]
    unfold signI
    symm
    rw [Bool.false_and]
    simp
    omega

set_option maxHeartbeats 4000000 in
set_option maxRecDepth 100000 in
/-- The closure of cutToken. -/
theorem closure_any (x : Nat) (w : World) :
    Calls Try.prog 23 #[.int .i32 (x : Int)] w fun e w' => e = .returned (.bool (!tchI (x : Int))) ∧ Below w.heap.size w w' := by
  have h := containsRune_any signs signs_ascii (by decide) x
  rw [signs_law] at h
  obtain ⟨z, hz⟩ : ∃ z : Int, (x : Int) = z := ⟨_, rfl⟩
  have hz0 : 0 ≤ z := by omega
  rw [hz] at h ⊢
  clear hz
  unfold signs at h
  go_enter Try.func23, Try.ntmps23
  go_wp2_with (go_at_call 24; refine (h _).mono ?_; rintro e w' ⟨rfl, hb⟩)
  all_goals
    go_ret
    refine ⟨ret_bool ?_, by first | exact hb | exact Below.refl _ _⟩
    unfold tchI letterI
    cases signI z <;> (rw [Bool.eq_iff_iff]; simp <;> omega)

end Go.Proofs.Qxb6000905a
