/-
  THE LAW FnReadLocalPartEscapedAtomRoundTrip, walked.
-/
import Derived.Test.Qxb6604077aAtom
import Derived.Test.Qxb6604077aLawQ
namespace Go.Proofs.Qxb6604077a
open Go.RowKit

set_option maxHeartbeats 1000000 in
/-- What is too long is let pass. -/
theorem lawA_long (s r : ByteArray) (w : World) (h : ¬ (s.size ≤ 262144 ∧ r.size ≤ 262144)) :
    Calls Try.prog 4 #[.string s, .string r] w fun e w' => e = .returned (.bool true) ∧ Below w.heap.size w w' := by
  by_cases a1 : s.size ≤ 1048576
  · by_cases a2 : r.size ≤ 1048576
    · by_cases a3 : s.size + r.size ≤ 1048576
      · by_cases a4 : s.size ≤ 262144
        · have a5 : (262144 : Int) < (r.size : Int) := by omega
          go_enter Try.func4, Try.ntmps4
          go_wp2
          go_ret
          exact ⟨rfl, Below.refl _ _⟩
        · have a5 : (262144 : Int) < (s.size : Int) := by omega
          go_enter Try.func4, Try.ntmps4
          go_wp2
          go_ret
          exact ⟨rfl, Below.refl _ _⟩
      · have a5 : (1048576 : Int) < (s.size : Int) + (r.size : Int) := by omega
        go_enter Try.func4, Try.ntmps4
        go_wp2
        go_ret
        exact ⟨rfl, Below.refl _ _⟩
    · have a5 : (1048576 : Int) < (r.size : Int) := by omega
      go_enter Try.func4, Try.ntmps4
      go_wp2
      go_ret
      exact ⟨rfl, Below.refl _ _⟩
  · have a5 : (1048576 : Int) < (s.size : Int) := by omega
    go_enter Try.func4, Try.ntmps4
    go_wp2
    go_ret
    exact ⟨rfl, Below.refl _ _⟩

set_option maxHeartbeats 1000000 in
/-- No local part: let pass. -/
theorem lawA_empty (s r : ByteArray) (w : World) (h1 : s.size ≤ 262144) (h2 : r.size ≤ 262144) (he : s.toList.isEmpty = true) :
    Calls Try.prog 4 #[.string s, .string r] w fun e w' => e = .returned (.bool true) ∧ Below w.heap.size w w' := by
  go_enter Try.func4, Try.ntmps4
  go_wp2_with (go_at_call 9; go_in)
  go_ret
  exact ⟨rfl, Below.refl _ _⟩

set_option maxHeartbeats 1000000 in
/-- What follows would be read on: let pass. -/
theorem lawA_on (s r : ByteArray) (w : World) (h1 : s.size ≤ 262144) (h2 : r.size ≤ 262144) (he : s.toList.isEmpty = false) (hr : 0 < r.size) (x : Int) (hx : ((r[0].toNat : Nat) : Int) = x) (h : (x == 92) = true ∨ isAtext r[0] = true) :
    Calls Try.prog 4 #[.string s, .string r] w fun e w' => e = .returned (.bool true) ∧ Below w.heap.size w w' := by
  have hr' : (0 : Int) < (r.size : Int) := by omega
  have HX : Hid (((r[0].toNat : Nat) : Int) = x) := hx
  cases h92 : (x == 92) with
  | true =>
    go_enter Try.func4, Try.ntmps4
    go_wp2_with (go_at_call 9; go_in)
    go_ret
    exact ⟨rfl, Below.refl _ _⟩
  | false =>
    have ha : isAtext r[0] = true := by
      rcases h with h | h
      · rw [h92] at h; exact absurd h (by simp)
      · exact h
    clear h
    go_enter Try.func4, Try.ntmps4
    go_wp2_with (first | (go_at_call 9; go_in) | (go_at_call 10; refine (isAtext_byte r[0] x HX.out _).mono ?_; rintro e w1 ⟨rfl, hw1⟩; rw [hw1]; clear hw1))
    go_ret
    exact ⟨rfl, Below.refl _ _⟩

/-- What the reading comes to. -/
theorem lawA_read (s r : ByteArray) (h1 : s.size ≤ 262144) (h2 : r.size ≤ 262144) (hne : bl s ≠ []) (hst : ∀ c, (bl r).head? = some c → c ≠ 92 ∧ isAtext c = false) (E : ByteArray) (hE : E = ⟨(escA (bl s)).toArray⟩)
    (w : World) (m : Int) (hm : w.cell? ⟨0, 0, none⟩ = some (.int .i64 m)) :
    Calls Try.prog 13 #[.string (E ++ r)] w fun e w' => e = .returned (resOf (if refuses (bl s) then none else some (bl s, bl r))) ∧ Below w.heap.size w w' := by
  have hA : bl (E ++ r) = escA (bl s) ++ bl r := by rw [hE]; unfold bl; simp
  have hln := escA_length (bl s)
  rw [bl_length] at hln
  refine atom_any (E ++ r) ?_ (bl s) (bl r) ?_ w ?_ m hm
  · rw [hA]
    obtain ⟨c, t, h, hc⟩ := escA_head (bl s) (bl r) hne
    rw [h]
    unfold Lib.hasPrefix
    simp [List.isPrefixOf]
    exact fun h => hc h.symm
  · rw [hA, readA_law (bl r) hst (bl s) []]; rfl
  · have := bl_length (E ++ r)
    rw [hA, List.length_append, bl_length] at this; omega

set_option maxHeartbeats 1000000 in
theorem lawA_main (s r : ByteArray) (w : World) (h1 : s.size ≤ 262144) (h2 : r.size ≤ 262144) (he : s.toList.isEmpty = false) (hst : ∀ c, (bl r).head? = some c → c ≠ 92 ∧ isAtext c = false) (m : Int) (hm : w.cell? ⟨0, 0, none⟩ = some (.int .i64 m)) :
    Calls Try.prog 4 #[.string s, .string r] w fun e w' => e = .returned (.bool true) ∧ Below w.heap.size w w' := by
  have hne : bl s ≠ [] := by
    intro h
    rw [Lib.toList_data] at he
    have : (bl s).isEmpty = false := he
    rw [h] at this; exact absurd this (by simp)
  have hm0 : 0 < w.heap.size := World.block_lt_of_cell? w _ hm
  obtain ⟨E, hE⟩ : ∃ E : ByteArray, E = ⟨(escA (bl s)).toArray⟩ := ⟨_, rfl⟩
  have hesc := escape_any s w (by omega)
  rw [← hE] at hesc
  have hln := escA_length (bl s)
  rw [bl_length] at hln
  have hq1 : E.size ≤ 524290 := by
    have : E.size = (escA (bl s)).length := by rw [hE]; simp [ByteArray.size]
    omega
  have hread := fun w1 (hb : Below w.heap.size w w1) => lawA_read s r h1 h2 hne hst E hE w1 m ((hb.cell hm0).trans hm)
  have hdots := fun w => dots_any s w (by omega)
  have hD := dots_law (bl s)
  have HST : Hid (∀ c, (bl r).head? = some c → c ≠ 92 ∧ isAtext c = false) := hst
  clear hE hln hne hst hm
  cases hrf : refuses (bl s) with
  | true =>
    rw [hrf] at hread hD
    rw [hD] at hdots
    simp only [if_true, resOf, Bool.not_true] at hread hdots
    clear hD
    by_cases hr : 0 < r.size
    · have hr' : (0 : Int) < (r.size : Int) := by omega
      obtain ⟨x, hx⟩ : ∃ x : Int, ((r[0].toNat : Nat) : Int) = x := ⟨_, rfl⟩
      have HX : Hid (((r[0].toNat : Nat) : Int) = x) := hx
      have hs0 := HST.out r[0] (by have := bl_drop r 0 hr; simp at this; rw [this]; rfl)
      have hat := hs0.2
      have h92 : (x == 92) = false := by have := beq_byte r[0] 92 HX.out; rw [show ((92 : UInt8).toNat : Int) = 92 from rfl] at this; rw [← this]; simpa using hs0.1
      clear hs0
      go_enter Try.func4, Try.ntmps4
      go_wp2_with (first | (go_at_call 9; go_in) | (go_at_call 10; refine (isAtext_byte r[0] x HX.out _).mono ?_; rintro e w1 ⟨rfl, hw1⟩; rw [hw1]; clear hw1) | (go_at_call 11; refine hesc.mono ?_; rintro e w1 ⟨rfl, hb1⟩) | (go_at_call 6; refine (zz_any _ _ _ _ _ (hread _ hb1)).mono ?_; rintro e w2 ⟨rfl, hb2⟩) | (go_at_call 12; refine (hdots _).mono ?_; rintro e w3 ⟨rfl, hw3⟩; rw [hw3]; clear hw3))
      go_ret
      exact ⟨rfl, hb1.trans (hb2.mono hb1.size)⟩
    · have hr' : ¬ (0 : Int) < (r.size : Int) := by omega
      go_enter Try.func4, Try.ntmps4
      go_wp2_with (first | (go_at_call 9; go_in) | (go_at_call 11; refine hesc.mono ?_; rintro e w1 ⟨rfl, hb1⟩) | (go_at_call 6; refine (zz_any _ _ _ _ _ (hread _ hb1)).mono ?_; rintro e w2 ⟨rfl, hb2⟩) | (go_at_call 12; refine (hdots _).mono ?_; rintro e w3 ⟨rfl, hw3⟩; rw [hw3]; clear hw3))
      go_ret
      exact ⟨rfl, hb1.trans (hb2.mono hb1.size)⟩
  | false =>
    rw [hrf] at hread hD
    rw [hD] at hdots
    simp only [Bool.false_eq_true, if_false, resOf, Bool.not_false, mk_toArray] at hread hdots
    clear hD
    by_cases hr : 0 < r.size
    · have hr' : (0 : Int) < (r.size : Int) := by omega
      obtain ⟨x, hx⟩ : ∃ x : Int, ((r[0].toNat : Nat) : Int) = x := ⟨_, rfl⟩
      have HX : Hid (((r[0].toNat : Nat) : Int) = x) := hx
      have hs0 := HST.out r[0] (by have := bl_drop r 0 hr; simp at this; rw [this]; rfl)
      have hat := hs0.2
      have h92 : (x == 92) = false := by have := beq_byte r[0] 92 HX.out; rw [show ((92 : UInt8).toNat : Int) = 92 from rfl] at this; rw [← this]; simpa using hs0.1
      clear hs0
      go_enter Try.func4, Try.ntmps4
      go_wp2_with (first | (go_at_call 9; go_in) | (go_at_call 10; refine (isAtext_byte r[0] x HX.out _).mono ?_; rintro e w1 ⟨rfl, hw1⟩; rw [hw1]; clear hw1) | (go_at_call 11; refine hesc.mono ?_; rintro e w1 ⟨rfl, hb1⟩) | (go_at_call 6; refine (zz_any _ _ _ _ _ (hread _ hb1)).mono ?_; rintro e w2 ⟨rfl, hb2⟩) | (go_at_call 12; refine (hdots _).mono ?_; rintro e w3 ⟨rfl, hw3⟩; rw [hw3]; clear hw3))
      go_ret
      exact ⟨rfl, hb1.trans (hb2.mono hb1.size)⟩
    · have hr' : ¬ (0 : Int) < (r.size : Int) := by omega
      go_enter Try.func4, Try.ntmps4
      go_wp2_with (first | (go_at_call 9; go_in) | (go_at_call 11; refine hesc.mono ?_; rintro e w1 ⟨rfl, hb1⟩) | (go_at_call 6; refine (zz_any _ _ _ _ _ (hread _ hb1)).mono ?_; rintro e w2 ⟨rfl, hb2⟩) | (go_at_call 12; refine (hdots _).mono ?_; rintro e w3 ⟨rfl, hw3⟩; rw [hw3]; clear hw3))
      go_ret
      exact ⟨rfl, hb1.trans (hb2.mono hb1.size)⟩

theorem lawA (s r : ByteArray) (w : World) (m : Int) (hm : w.cell? ⟨0, 0, none⟩ = some (.int .i64 m)) :
    Calls Try.prog 4 #[.string s, .string r] w fun e w' => e = .returned (.bool true) ∧ Below w.heap.size w w' := by
  by_cases h : s.size ≤ 262144 ∧ r.size ≤ 262144
  · obtain ⟨h1, h2⟩ := h
    cases he : s.toList.isEmpty with
    | true => exact lawA_empty s r w h1 h2 he
    | false =>
      by_cases hr : 0 < r.size
      · by_cases hon : ((((r[0].toNat : Nat) : Int) == 92) = true ∨ isAtext r[0] = true)
        · exact lawA_on s r w h1 h2 he hr _ rfl hon
        · refine lawA_main s r w h1 h2 he (fun c hc => ?_) m hm
          have e := bl_drop r 0 hr
          simp at e
          rw [e] at hc
          simp at hc
          subst hc
          have h92 := beq_byte r[0] 92 rfl
          refine ⟨fun hc => hon (.inl ?_), ?_⟩
          · rw [show ((92 : UInt8).toNat : Int) = 92 from rfl] at h92
            rw [← h92, hc]; rfl
          · cases ha : isAtext r[0] with
            | false => rfl
            | true => exact absurd (.inr ha) hon
      · refine lawA_main s r w h1 h2 he (fun c hc => ?_) m hm
        have : bl r = [] := List.eq_nil_of_length_eq_zero (by rw [bl_length]; omega)
        rw [this] at hc
        exact absurd hc (by simp)
  · exact lawA_long s r w h

end Go.Proofs.Qxb6604077a
