/-
  THE PLAIN LAW of seat b6603046a, its third part: the library's 'contains' is the law's own 'the prefix stands somewhere'.
-/
import Derived.Test.Qxb6603046aPlain2
import Derived.Lib.IndexMore
namespace Go.Proofs.Qxb6603046a

theorem take_five {t : List Int} {i : Nat} (h : i + 5 ≤ t.length) : (t.drop i).take 5 = [t.getD i 0, t.getD (i + 1) 0, t.getD (i + 2) 0, t.getD (i + 3) 0, t.getD (i + 4) 0] := by
  apply List.ext_getElem?
  intro j
  rw [List.getElem?_take]
  by_cases hj : j < 5
  · rw [if_pos hj, List.getElem?_drop, List.getElem?_eq_getElem (by omega)]
    rcases (show j = 0 ∨ j = 1 ∨ j = 2 ∨ j = 3 ∨ j = 4 from by omega) with rfl | rfl | rfl | rfl | rfl <;> simp [List.getD_eq_getElem?_getD] <;> rw [List.getElem?_eq_getElem (by omega)] <;> rfl
  · rw [if_neg hj]; symm; apply List.getElem?_eq_none; simp; omega

theorem five_iff {t : List Int} {i : Nat} : (t.drop i).take 5 = [92, 117, 50, 48, 50] ↔ i + 5 ≤ t.length ∧ preAt t i = true := by
  by_cases h : i + 5 ≤ t.length
  · rw [take_five h]
    unfold preAt
    simp only [List.cons.injEq, and_true, Bool.and_eq_true, beq_iff_eq]
    constructor
    · rintro ⟨h0, h1, h2, h3, h4⟩
      exact ⟨h, ⟨⟨⟨h0, h1⟩, h2⟩, h3⟩, h4⟩
    · rintro ⟨_, ⟨⟨⟨h0, h1⟩, h2⟩, h3⟩, h4⟩
      exact ⟨h0, h1, h2, h3, h4⟩
  · constructor
    · intro e
      have := congrArg List.length e
      simp at this; omega
    · exact fun c => absurd c.1 h

theorem occ_iff {t : List Int} (hr : ∀ x ∈ t, 0 ≤ x ∧ x < 256) (i : Nat) : Lib.occAt (Lib.bytesOf t) (Lib.bytesOf [92, 117, 50, 48, 50]) i = true ↔ i + 5 ≤ t.length ∧ preAt t i = true := by
  rw [← five_iff]
  unfold Lib.occAt
  rw [List.isPrefixOf_iff_prefix, ← Lib.bytesOf_drop, List.prefix_iff_eq_take, Lib.bytesOf_length]
  show _ = List.take 5 _ ↔ _
  rw [← Lib.bytesOf_take]
  constructor
  · intro h
    refine map_u8_inj (fun z hz => hr z (List.mem_of_mem_drop (List.mem_of_mem_take hz))) ?_ h.symm
    intro y hy
    simp at hy
    omega
  · intro h; rw [h]

theorem contains_hasPre {t : List Int} (hr : ∀ x ∈ t, 0 ≤ x ∧ x < 256) : Lib.contains (Lib.bytesOf t) (Lib.bytesOf [92, 117, 50, 48, 50]) = hasPre t := by
  unfold Lib.contains
  rw [Bool.eq_iff_iff, decide_eq_true_iff, hasPre_iff]
  rcases Lib.index_spec (Lib.bytesOf t) (Lib.bytesOf [92, 117, 50, 48, 50]) with ⟨h1, h2⟩ | ⟨i, h1, _, h3, _⟩
  · rw [h1]
    constructor
    · intro h; omega
    · rintro ⟨i, hi⟩
      have := (occ_iff hr i).2 hi
      rw [h2 i (by rw [Lib.bytesOf_length]; omega)] at this
      exact absurd this (by simp)
  · rw [h1]
    exact ⟨fun _ => ⟨i, (occ_iff hr i).1 h3⟩, fun _ => by omega⟩

end Go.Proofs.Qxb6603046a
