/-
  THE PLAIN LAW of seat b6603046a, its second part: the six bytes that the program takes for a string.
-/
import Derived.Test.Qxb6603046aPlain
import Derived.Lib.Bytes
namespace Go.Proofs.Qxb6603046a

theorem u8_inj {x y : Int} (hx : 0 ≤ x ∧ x < 256) (hy : 0 ≤ y ∧ y < 256) (h : UInt8.ofNat x.toNat = UInt8.ofNat y.toNat) : x = y := by
  have := congrArg UInt8.toNat h
  simp at this
  omega

theorem map_u8_inj : ∀ {xs ys : List Int}, (∀ x ∈ xs, 0 ≤ x ∧ x < 256) → (∀ y ∈ ys, 0 ≤ y ∧ y < 256) → (xs.map fun n => UInt8.ofNat n.toNat) = (ys.map fun n => UInt8.ofNat n.toNat) → xs = ys
  | [], [], _, _, _ => rfl
  | [], _ :: _, _, _, h => by simp at h
  | _ :: _, [], _, _, h => by simp at h
  | x :: xs, y :: ys, hx, hy, h => by
    simp only [List.map_cons, List.cons.injEq] at h
    rw [u8_inj (hx x (by simp)) (hy y (by simp)) h.1, map_u8_inj (fun z hz => hx z (by simp [hz])) (fun z hz => hy z (by simp [hz])) h.2]

theorem take_six {t : List Int} {i : Nat} (h : i + 6 ≤ t.length) : (t.drop i).take 6 = [t.getD i 0, t.getD (i + 1) 0, t.getD (i + 2) 0, t.getD (i + 3) 0, t.getD (i + 4) 0, t.getD (i + 5) 0] := by
  apply List.ext_getElem?
  intro j
  rw [List.getElem?_take]
  by_cases hj : j < 6
  · rw [if_pos hj, List.getElem?_drop, List.getElem?_eq_getElem (by omega)]
    rcases (show j = 0 ∨ j = 1 ∨ j = 2 ∨ j = 3 ∨ j = 4 ∨ j = 5 from by omega) with rfl | rfl | rfl | rfl | rfl | rfl <;> simp [List.getD_eq_getElem?_getD] <;> rw [List.getElem?_eq_getElem (by omega)] <;> rfl
  · rw [if_neg hj]; symm; apply List.getElem?_eq_none; simp; omega

theorem six_iff {t : List Int} {i : Nat} (x : Int) (hx : x = 56 ∨ x = 57) :
    (t.drop i).take 6 = [92, 117, 50, 48, 50, x] ↔ sepAt t i = x + 112 := by
  by_cases h : i + 6 ≤ t.length
  · rw [take_six h]
    unfold sepAt preAt
    simp only [List.cons.injEq, and_true, Bool.and_eq_true, beq_iff_eq]
    constructor
    · rintro ⟨h0, h1, h2, h3, h4, h5⟩
      rw [if_pos ⟨h, ⟨⟨⟨h0, h1⟩, h2⟩, h3⟩, h4⟩]
      rcases hx with rfl | rfl
      · rw [if_pos h5]; rfl
      · rw [if_neg (by omega), if_pos h5]; rfl
    · intro e
      split at e
      · rename_i c
        obtain ⟨_, ⟨⟨⟨h0, h1⟩, h2⟩, h3⟩, h4⟩ := c
        refine ⟨h0, h1, h2, h3, h4, ?_⟩
        split at e
        · omega
        · split at e <;> omega
      · omega
  · constructor
    · intro e
      have := congrArg List.length e
      simp at this; omega
    · intro e
      unfold sepAt at e
      rw [if_neg (fun c => h c.1)] at e
      omega

theorem six_str {t : List Int} {i : Nat} (hr : ∀ x ∈ t, 0 ≤ x ∧ x < 256) (x : Int) (hx : x = 56 ∨ x = 57) :
    ((strOfNums ((t.drop i).take 6)).toList == ([92, 117, 50, 48, 50, x].map fun n => UInt8.ofNat n.toNat)) = decide (sepAt t i = x + 112) := by
  rw [Bool.eq_iff_iff, Lib.strOfNums_toList, beq_iff_eq, decide_eq_true_iff, ← six_iff x hx]
  constructor
  · intro h
    refine map_u8_inj (fun z hz => hr z (List.mem_of_mem_drop (List.mem_of_mem_take hz))) ?_ h
    intro y hy
    simp at hy
    omega
  · intro h; rw [h]; rfl

theorem six_8 {t : List Int} {i : Nat} (hr : ∀ x ∈ t, 0 ≤ x ∧ x < 256) : ((strOfNums ((t.drop i).take 6)).toList == [92, 117, 50, 48, 50, 56]) = decide (sepAt t i = 168) := six_str hr 56 (.inl rfl)
theorem six_9 {t : List Int} {i : Nat} (hr : ∀ x ∈ t, 0 ≤ x ∧ x < 256) : ((strOfNums ((t.drop i).take 6)).toList == [92, 117, 50, 48, 50, 57]) = decide (sepAt t i = 169) := six_str hr 57 (.inr rfl)

theorem sepAt_three (t : List Int) (i : Nat) : sepAt t i = 168 ∨ sepAt t i = 169 ∨ sepAt t i = 0 := by
  unfold sepAt
  split
  · split
    · exact .inl rfl
    · split
      · exact .inr (.inl rfl)
      · exact .inr (.inr rfl)
  · exact .inr (.inr rfl)

end Go.Proofs.Qxb6603046a
