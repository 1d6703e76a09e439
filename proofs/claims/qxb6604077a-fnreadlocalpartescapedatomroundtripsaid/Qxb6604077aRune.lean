/-
  strings.IndexRune and ContainsRune AT A STRING OF ASCII BYTES AND A RUNE BEYOND ASCII: not found.
-/
import Derived.Test.Qxb6604077aBuilder
import Derived.Deep.QuietTactic
import Derived.BigQuiet
import Derived.Laws.Runes
set_option linter.unusedVariables false
namespace Go.Proofs.Qxb6604077a
open Go.RowKit

theorem indexByte_none : ∀ (l : List UInt8) (c : UInt8), (∀ b ∈ l, b ≠ c) → Lib.indexByte l c = -1 := by
  intro l c h
  have := Lib.index_one l c
  rw [← this]
  refine Lib.index_none fun j hj => ?_
  cases ho : Lib.occAt l [c] j with
  | false => rfl
  | true =>
    unfold Lib.occAt at ho
    rw [List.isPrefixOf_iff_prefix] at ho
    obtain ⟨t, ht⟩ := ho
    have hm : c ∈ l.drop j := by rw [← ht]; simp
    exact absurd rfl (h c (List.mem_of_mem_drop hm))

theorem byte_self (x : UInt8) : ((x.toNat : Int)).toNat.toUInt8 = x := by simp

set_option maxHeartbeats 1000000 in
set_option maxRecDepth 100000 in
theorem indexRune_far (s : ByteArray) (hs : ∀ b ∈ s.data.toList, b.toNat < 128) (hsz : s.size ≤ 1000) (r : Int) (h128 : 128 ≤ r) (hv : Lib.validRune r = true) (hne : (r == 65533) = false) (w : World) :
    Calls Try.prog 22 #[.string s, .int .i32 r] w fun e w' => e = .returned (.int .i64 (-1)) ∧ ∃ q, w' = w.drewN q := by
  have hnl : ¬ r < 128 := by omega
  have hf := encode_facts r (by rw [validRune_eq]; exact hv) h128
  obtain ⟨E, hE⟩ : ∃ E, Utf8.encode r = E := ⟨_, rfl⟩
  rw [hE] at hf
  obtain ⟨h2, h4, hlast⟩ := hf
  obtain ⟨k, hk⟩ : ∃ k, E.size = k + 1 := ⟨E.size - 1, by omega⟩
  have hkE : k < E.size := by omega
  have hl : 128 ≤ (E[k]'hkE).toNat := by
    have := hlast (by omega)
    simpa [hk] using this
  clear hlast
  have hk1 : ((E.size : Int) - 1) = (k : Int) := by omega
  have hk2 : (k : Int) < (E.size : Int) := by omega
  have HK : Hid (E.size = k + 1) := hk
  clear hk
  by_cases hin : k < s.size
  · have hx : (k : Int) < (s.size : Int) := by omega
    have hsk : (s[k]'hin).toNat < 128 := hs _ (Array.getElem_mem_toList (xs := s.data) hin)
    have hd : (((s[k]'hin).toNat : Int) != ((E[k]'hkE).toNat : Int)) = true := by simp; omega
    have hcon : ∀ w, Calls Try.prog 27 #[.string (s.extract (k + 1) s.size), .int .u8 ((E[k]'hkE).toNat : Int)] w fun e w' => e = .returned (.int .i64 (-1)) ∧ w' = w := by
      intro w
      have h := Try.strings_IndexByte (s.extract (k + 1) s.size) ((E[k]'hkE).toNat : Int) w
      rw [byte_self, indexByte_none _ _ (fun b hb hbc => by have := hs b (mem_extract hb); rw [hbc] at this; omega)] at h
      exact h
    have hs1 : (0 : Int) ≤ (k : Int) + 1 := by omega
    have hs2 : (k : Int) + 1 ≤ (s.size : Int) := by omega
    have hwr : IntKind.i64.wrap ((k : Int) + 1) = (k : Int) + 1 := by rw [IntKind.wrap_i64]; omega
    clear hs
    go_enter Try.func22, Try.ntmps22
    go_wp2_with (go_at_call 28; refine (Try.utf8_ValidRune _ _).mono ?_; rintro e w' ⟨rfl, hw⟩; rw [hw]; clear hw)
    go_step3
    go_wp2
    refine wp_loop_rounds 1 ?_
    rw [rounds_succ]
    go_wp2
    go_step3
    go_wp2
    go_quiet (fail)
    go_wp2
    go_quiet ((go_at_call 27; exact (hcon _).mono (fun _ _ h => ⟨h.1, _, h.2⟩)))
    go_wp2
    rw [Exit.noGoto_ret]
    go_wp2
    rw [Exit.noGoto_ret]
    go_ret
    exact ⟨rfl, ⟨_, rfl⟩⟩
  · have hx : ¬ (k : Int) < (s.size : Int) := by omega
    go_enter Try.func22, Try.ntmps22
    go_wp2_with (go_at_call 28; refine (Try.utf8_ValidRune _ _).mono ?_; rintro e w' ⟨rfl, hw⟩; rw [hw]; clear hw)
    go_step3
    go_wp2
    refine wp_loop_rounds 1 ?_
    rw [rounds_succ]
    go_wp2
    rw [Exit.noGoto_ret]
    go_ret
    exact ⟨rfl, ⟨0, rfl⟩⟩

set_option maxHeartbeats 1000000 in
theorem containsRune_far (s : ByteArray) (hs : ∀ b ∈ s.data.toList, b.toNat < 128) (hsz : s.size ≤ 1000) (r : Int) (h128 : 128 ≤ r) (hv : Lib.validRune r = true) (hne : (r == 65533) = false) (w : World) :
    Calls Try.prog 16 #[.string s, .int .i32 r] w fun e w' => e = .returned (.bool false) ∧ ∃ q, w' = w.drewN q := by
  go_enter Try.func16, Try.ntmps16
  go_wp2_with (go_at_call 22; refine (indexRune_far s hs hsz r h128 hv hne _).mono ?_; rintro e w' ⟨rfl, q, rfl⟩)
  go_ret
  exact ⟨rfl, ⟨_, rfl⟩⟩

theorem indexByte_contains : ∀ (l : List UInt8) (c : UInt8), decide (0 ≤ Lib.indexByte l c) = l.contains c := by
  intro l c
  cases h : l.contains c with
  | false =>
    rw [indexByte_none l c (fun b hb hbc => by subst hbc; have := List.contains_iff_mem.2 hb; rw [h] at this; exact absurd this (by simp))]; rfl
  | true =>
    have hm := List.contains_iff_mem.1 h
    rw [← Lib.index_one]
    rcases Lib.index_spec l [c] with ⟨_, h2⟩ | ⟨i, h1, _⟩
    · obtain ⟨i, hi, hic⟩ := List.getElem_of_mem hm
      have ho := h2 i (by omega)
      have : Lib.occAt l [c] i = true := by
        unfold Lib.occAt
        rw [List.isPrefixOf_iff_prefix, List.drop_eq_getElem_cons hi, hic]
        exact ⟨_, rfl⟩
      rw [ho] at this; exact absurd this (by simp)
    · rw [h1]; simp

/-- strings.ContainsRune(s, rune(c)), c a byte, s of ASCII bytes. -/
theorem containsRune_byte (s : ByteArray) (hs : ∀ b ∈ s.data.toList, b.toNat < 128) (hsz : s.size ≤ 1000) (c : UInt8) (w : World) :
    Calls Try.prog 16 #[.string s, .int .i32 (c.toNat : Int)] w fun e w' => e = .returned (.bool (s.data.toList.contains c)) ∧ ∃ q, w' = w.drewN q := by
  by_cases hc : c.toNat < 128
  · refine (Try.strings_ContainsRune_ascii s (c.toNat : Int) w (by omega) (by omega)).mono ?_
    rintro e w' ⟨rfl, rfl⟩
    rw [byte_self, indexByte_contains]
    exact ⟨rfl, 0, rfl⟩
  · have hf : s.data.toList.contains c = false := by
      cases h : s.data.toList.contains c with
      | false => rfl
      | true => exact absurd (hs c (List.contains_iff_mem.1 h)) hc
    have hlt := c.toNat_lt
    rw [hf]
    exact containsRune_far s hs hsz (c.toNat : Int) (by omega) (by unfold Lib.validRune; simp; omega) (by simp; omega) w

end Go.Proofs.Qxb6604077a
