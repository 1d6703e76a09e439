/-
  readLocalPart WITHOUT A QUOTE, walked: it answers as 'readA', and refuses what 'refuses' says.
-/
import Derived.Test.Qxb6604077aQuoted
import Derived.Test.Qxb6604077aAtext
import Derived.Test.Qxb6604077aDots
import Derived.Deep.LoopGhost
namespace Go.Proofs.Qxb6604077a
open Go.RowKit

def signs : ByteArray := ⟨#[33, 35, 36, 37, 38, 39, 42, 43, 45, 47, 61, 63, 94, 95, 96, 123, 124, 125, 126, 46]⟩

theorem crA (d : UInt8) (y : Int) (hy : ((d.toNat : Nat) : Int) = y) (w : World) :
    Calls Try.prog 16 #[.string ⟨#[33, 35, 36, 37, 38, 39, 42, 43, 45, 47, 61, 63, 94, 95, 96, 123, 124, 125, 126, 46]⟩, .int .i32 y] w fun e w' => e = .returned (.bool (signI y)) ∧ ∃ q, w' = w.drewN q := by
  have h := containsRune_byte ⟨#[33, 35, 36, 37, 38, 39, 42, 43, 45, 47, 61, 63, 94, 95, 96, 123, 124, 125, 126, 46]⟩ (by decide) (by decide) d w
  rw [contains_int hy, hy] at h
  exact h

theorem cut_none (A : ByteArray) (hA : Lib.hasPrefix (bl A) [34] = false) (w : World) :
    Calls Try.prog 14 #[.string A, .string ⟨#[34]⟩] w fun e w' => e = .returned (.tuple #[.string A, .bool false]) ∧ w' = w := by
  have h := Try.strings_CutPrefix A ⟨#[34]⟩ w
  have e1 : Lib.hasPrefix A.data.toList (ByteArray.mk #[34]).data.toList = false := hA
  have e2 : (⟨(Lib.trimPrefix A.data.toList (ByteArray.mk #[34]).data.toList).toArray⟩ : ByteArray) = A := by
    unfold Lib.trimPrefix
    rw [if_neg (by rw [e1]; simp)]
  rw [e1, e2] at h
  exact h

theorem a_esc {A : ByteArray} {i : Nat} {acc : List UInt8} {o : Option (List UInt8 × List UInt8)} (h1 : i + 1 < A.size) (hc : A[i] = 92) (H : readA ((bl A).drop i) acc = o) : readA ((bl A).drop (i + 2)) (acc ++ [A[i + 1]]) = o := by
  rw [← H, bl_drop A i (by omega), hc, bl_drop A (i + 1) h1, readA, if_pos rfl]
theorem a_last {A : ByteArray} {i : Nat} {acc : List UInt8} {o : List UInt8 × List UInt8} (hlt : i < A.size) (hc : A[i] = 92) (H : readA ((bl A).drop i) acc = some o) : i + 1 < A.size := by
  by_cases h : i + 1 < A.size
  · exact h
  · rw [bl_drop A i hlt, hc, List.drop_eq_nil_of_le (by rw [bl_length]; omega)] at H
    simp [readA] at H
theorem a_byte {A : ByteArray} {i : Nat} {acc : List UInt8} {o : Option (List UInt8 × List UInt8)} {x : Int} (hlt : i < A.size) (hx : ((A[i].toNat : Nat) : Int) = x) (ha : atextI x = true) (H : readA ((bl A).drop i) acc = o) : readA ((bl A).drop (i + 1)) (acc ++ [A[i]]) = o := by
  have ha' : isAtext A[i] = true := by rw [atext_int hx, ha]
  rw [← H, bl_drop A i hlt, readA_atext _ _ _ (atext_ne _ ha').1 ha']
theorem a_stop {A : ByteArray} {i : Nat} {acc a r : List UInt8} {x : Int} (hlt : i < A.size) (hx : ((A[i].toNat : Nat) : Int) = x) (h92 : (x == 92) = false) (ha : atextI x = false) (H : readA ((bl A).drop i) acc = some (a, r)) : acc = a ∧ (bl A).drop i = r := by
  have ha' : isAtext A[i] = false := by rw [atext_int hx, ha]
  have hd := bl_drop A i hlt
  rw [readA_stop _ acc (fun c hc => by
    rw [hd] at hc
    simp at hc
    subst hc
    exact ⟨byte_ne hx h92, ha'⟩)] at H
  simp only [Option.some.injEq, Prod.mk.injEq] at H
  exact H
theorem a_end {A : ByteArray} {i : Nat} {acc a r : List UInt8} (hlt : ¬ i < A.size) (H : readA ((bl A).drop i) acc = some (a, r)) : acc = a ∧ (bl A).drop i = r := by
  have e : (bl A).drop i = [] := List.drop_eq_nil_of_le (by rw [bl_length]; omega)
  rw [e] at H ⊢
  simp only [readA, Option.some.injEq, Prod.mk.injEq] at H
  exact H
theorem at_letter {x : Int} (h : (97 ≤ x ∧ x ≤ 122) ∨ (65 ≤ x ∧ x ≤ 90) ∨ (48 ≤ x ∧ x ≤ 57)) : atextI x = true := by
  unfold atextI letterI; simp; omega
theorem at_sign {x : Int} (h : signI x = true) : atextI x = true := by unfold atextI; rw [h]; simp
theorem at_none {x : Int} (h : signI x = false) (h2 : x < 48 ∨ (57 < x ∧ x < 65) ∨ (90 < x ∧ x < 97) ∨ 122 < x) : atextI x = false := by
  unfold atextI letterI; rw [h]; simp; omega
theorem ext_eq (A : ByteArray) (i : Nat) : (⟨((bl A).drop i).toArray⟩ : ByteArray) = A.extract i A.size := by
  apply bl_inj
  exact (Lib.extract_to_end A i).symm
theorem beq_cases {x : Int} : x < 48 ∨ (48 ≤ x ∧ x ≤ 57) ∨ (57 < x ∧ x < 65) ∨ (65 ≤ x ∧ x ≤ 90) ∨ (90 < x ∧ x < 97) ∨ (97 ≤ x ∧ x ≤ 122) ∨ 122 < x := by omega

/-- What stands behind the loop: the four tests. -/
theorem tail_pre (L : ByteArray) (w : World) : Calls Try.prog 18 #[.string L, .string ⟨#[46]⟩] w fun e w' => e = .returned (.bool (Lib.hasPrefix (bl L) [46])) ∧ w' = w := Try.strings_HasPrefix L ⟨#[46]⟩ w
theorem tail_suf (L : ByteArray) (w : World) (h : L.size ≤ 4194304) : Calls Try.prog 19 #[.string L, .string ⟨#[46]⟩] w fun e w' => e = .returned (.bool (Lib.hasSuffix (bl L) [46])) ∧ w' = w := Try.strings_HasSuffix L ⟨#[46]⟩ w (by omega)
theorem tail_con (L : ByteArray) (w : World) (h : L.size ≤ 4194304) (m : Int) (hm : w.cell? ⟨0, 0, none⟩ = some (.int .i64 m)) : Calls Try.prog 20 #[.string L, .string ⟨#[46, 46]⟩] w fun e w' => e = .returned (.bool (Lib.contains (bl L) [46, 46])) ∧ w' = w := Try.strings_Contains L ⟨#[46, 46]⟩ m w (by omega) hm

theorem ref_empty {L : ByteArray} {acc r : List UInt8} (hL : bl L = acc) (h : L.toList = []) : Ending.returned (.tuple #[.string ⟨#[]⟩, .string ⟨#[]⟩, .bool false]) = .returned (resOf (if refuses acc then none else some (acc, r))) := by
  have e : acc = [] := by rw [← hL, ← h, Lib.toList_data]; rfl
  rw [e]; rfl
theorem ref_pre {L : ByteArray} {acc r : List UInt8} (hL : bl L = acc) (h : Lib.hasPrefix (bl L) [46] = true) : Ending.returned (.tuple #[.string ⟨#[]⟩, .string ⟨#[]⟩, .bool false]) = .returned (resOf (if refuses acc then none else some (acc, r))) := by
  rw [hL] at h
  rw [if_pos (by unfold refuses; rw [h]; simp)]; rfl
theorem ref_suf {L : ByteArray} {acc r : List UInt8} (hL : bl L = acc) (h : Lib.hasSuffix (bl L) [46] = true) : Ending.returned (.tuple #[.string ⟨#[]⟩, .string ⟨#[]⟩, .bool false]) = .returned (resOf (if refuses acc then none else some (acc, r))) := by
  rw [hL] at h
  rw [if_pos (by unfold refuses; rw [h]; simp)]; rfl
theorem ref_con {L : ByteArray} {acc r : List UInt8} (hL : bl L = acc) (h : L.toList.isEmpty = true ∨ Lib.contains (bl L) [46, 46] = true) : Ending.returned (.tuple #[.string ⟨#[]⟩, .string ⟨#[]⟩, .bool false]) = .returned (resOf (if refuses acc then none else some (acc, r))) := by
  rcases h with h | h
  · exact ref_empty hL (List.isEmpty_iff.1 h)
  · rw [hL] at h
    rw [if_pos (by unfold refuses; rw [h]; simp)]; rfl
theorem ref_ok {L E : ByteArray} {acc r : List UInt8} (hL : bl L = acc) (h0 : ¬ L.toList = []) (g1 : ¬ Lib.hasPrefix (bl L) [46] = true) (g2 : ¬ Lib.hasSuffix (bl L) [46] = true) (g3 : L.toList.isEmpty = false ∧ Lib.contains (bl L) [46, 46] = false) (hE : (⟨r.toArray⟩ : ByteArray) = E) :
    Ending.returned (.tuple #[.string L, .string E, .bool true]) = .returned (resOf (if refuses acc then none else some (acc, r))) := by
  have e0 : acc.isEmpty = false := by
    cases h : acc.isEmpty with
    | false => rfl
    | true => exact absurd (by rw [Lib.toList_data]; exact hL.trans (List.isEmpty_iff.1 h)) h0
  have h1 : Lib.hasPrefix acc [46] = false := by rw [← hL]; simpa using g1
  have h2 : Lib.hasSuffix acc [46] = false := by rw [← hL]; simpa using g2
  have h3 : Lib.contains acc [46, 46] = false := by rw [← hL]; exact g3.2
  rw [if_neg (by unfold refuses; rw [e0, h1, h2, h3]; simp)]
  show _ = Ending.returned (.tuple #[.string ⟨acc.toArray⟩, .string ⟨r.toArray⟩, .bool true])
  rw [hE, ← hL]
  have : (⟨(bl L).toArray⟩ : ByteArray) = L := bl_inj rfl
  rw [this]

set_option maxHeartbeats 4000000 in
set_option maxRecDepth 100000 in
theorem atom_any (A : ByteArray) (hA : Lib.hasPrefix (bl A) [34] = false) (a r : List UInt8) (hrd : readA (bl A) [] = some (a, r)) (w : World) (hs : A.size ≤ 4194304) (m : Int) (hm : w.cell? ⟨0, 0, none⟩ = some (.int .i64 m)) :
    Calls Try.prog 13 #[.string A] w fun e w' => e = .returned (resOf (if refuses a then none else some (a, r))) ∧ Below w.heap.size w w' := by
  have hm0 : 0 < w.heap.size := World.block_lt_of_cell? w _ hm
  have hcut := cut_none A hA
  clear hA
  have HRD : Hid (readA (bl A) [] = some (a, r)) := hrd
  clear hrd
  go_enter Try.func13, Try.ntmps13
  go_wp2
  go_step3
  go_wp2_with (go_at_call 14; refine (hcut _).mono ?_; rintro e w' ⟨rfl, hw⟩; rw [hw]; clear hw)
  clear hcut
  go_step3
  go_wp2
  have hib := Lib.fresh_isBuilder 31 5 w
  have hb0 : Below w.heap.size w (w.alloc (.cells #[.pointer none, .slice none 0 0] 31)) := (Below.refl _ _).alloc (Nat.le_refl _) _
  go_loopw [10] (fun j wr => ∃ (i : Nat) (acc : List UInt8), i ≤ A.size ∧ acc.length ≤ i ∧ j = .int .i64 i ∧ Hid (readA ((bl A).drop i) acc = some (a, r)) ∧ Lib.IsBuilder 31 5 w.heap.size w.heap.size (Lib.byteCells acc) wr ∧ Below w.heap.size w wr) (fun j _ => A.size - (intOf j).toNat)
  case atStart => exact ⟨0, [], Nat.zero_le _, Nat.zero_le _, rfl, HRD, hib, hb0⟩
  case round =>
    clear hib hb0
    obtain ⟨i, acc, hin, hai, rfl, HR, hib, hbel⟩ := hrel
    have hBw := hbel.size
    by_cases hlt : i < A.size
    · skip
      obtain ⟨x, hx⟩ : ∃ x : Int, ((A[i].toNat : Nat) : Int) = x := ⟨_, rfl⟩
      have HX : Hid (((A[i].toNat : Nat) : Int) = x) := hx
      have hxb : 0 ≤ x ∧ x ≤ 255 := by have := A[i].toNat_lt; omega
      cases h92 : (x == 92) with
      | true =>
        have hc : Hid (A[i] = 92) := byte_of HX.out h92
        have hl1 := a_last hlt hc.out HR.out
        obtain ⟨y, hy⟩ : ∃ y : Int, ((A[i + 1].toNat : Nat) : Int) = y := ⟨_, rfl⟩
        have HY : Hid (((A[i + 1].toNat : Nat) : Int) = y) := hy
        have hl2 : (i : Int) + 1 < (A.size : Int) := by omega
        have hl3 : ((i : Int) + 1 == (A.size : Int)) = false := by simp; omega
        have hl4 : (0 : Int) ≤ (i : Int) + 1 := by omega
        have HR2 : Hid (readA ((bl A).drop (i + 2)) (acc ++ [A[i + 1]]) = some (a, r)) := a_esc hl1 hc.out HR.out
        go_wp2_with (first | (go_at_call 17; refine (writeByte_any w.heap.size w.heap.size (Lib.byteCells acc) y _ (by exact hib) (by simp [Lib.byteCells]; omega) (by exact hBw)).mono ?_; rintro e w2 ⟨rfl, hib2, hb2⟩))
        have hib3 : Lib.IsBuilder 31 5 w.heap.size w.heap.size (Lib.byteCells (acc ++ [A[i + 1]])) w2 := by
          rw [← byteCells_append]
          have e : Lib.byteCells [A[i + 1]] = [.int .u8 y] := by rw [← HY.out]; rfl
          rw [e]; exact hib2
        have hbel3 : Below w.heap.size w w2 := hbel.trans hb2
        clear hib hib2 hb2
        go_roundw
        case rel => exact ⟨i + 2, acc ++ [A[i + 1]], by omega, by simp; omega, by go_num, HR2, hib3, hbel3⟩
        case measure => simp [intOf]; omega
      | false =>
        rcases @beq_cases x with hr | hr | hr | hr | hr | hr | hr
        · cases hsg : signI x with
          | true =>
            have HR2 : Hid (readA ((bl A).drop (i + 1)) (acc ++ [A[i]]) = some (a, r)) := a_byte hlt HX.out (at_sign hsg) HR.out
            go_wp2_with (first | (go_at_call 16; refine (crA A[i] x HX.out _).mono ?_; rintro e w1 ⟨rfl, q1, rfl⟩) | (go_at_call 17; refine (writeByte_any w.heap.size w.heap.size (Lib.byteCells acc) x _ (by exact hib) (by simp [Lib.byteCells]; omega) (by exact hBw)).mono ?_; rintro e w2 ⟨rfl, hib2, hb2⟩))
            have hib3 : Lib.IsBuilder 31 5 w.heap.size w.heap.size (Lib.byteCells (acc ++ [A[i]])) w2 := by
              rw [← byteCells_append]
              have e : Lib.byteCells [A[i]] = [.int .u8 x] := by rw [← HX.out]; rfl
              rw [e]; exact hib2
            have hbel3 : Below w.heap.size w w2 := (below_drewN hbel q1).trans hb2
            clear hib hib2 hb2
            go_roundw
            case rel => exact ⟨i + 1, acc ++ [A[i]], by omega, by simp; omega, by go_num, HR2, hib3, hbel3⟩
            case measure => simp [intOf]; omega
          | false =>
            have HST := a_stop hlt HX.out h92 (at_none hsg (by omega)) HR.out
            obtain ⟨rfl, hrr⟩ := HST
            have HRR : Hid ((⟨r.toArray⟩ : ByteArray) = A.extract i A.size) := by show _ = _; rw [← hrr, ext_eq]
            clear hrr HR HRD
            have hi0 : (0 : Int) ≤ (i : Int) := by omega
            have hi1 : (i : Int) ≤ (A.size : Int) := by omega
            go_wp2_with (first | (go_at_call 16; refine (crA A[i] x HX.out _).mono ?_; rintro e w1 ⟨rfl, q1, rfl⟩) | (go_at_call 15; refine (Try.Builder_String_any w.heap.size w.heap.size acc _ (by exact hib) (by exact hBw)).mono ?_; rintro e w2 ⟨rfl, hb2⟩; obtain ⟨L, hL⟩ : ∃ L : ByteArray, (⟨acc.toArray⟩ : ByteArray) = L := ⟨_, rfl⟩; rw [hL]; have HBL : Hid (bl L = acc) := (by rw [← hL]; rfl : bl L = acc); have hLs : L.size ≤ 4194304 := (by have h1 := bl_length L; rw [HBL.out] at h1; omega); have hbelF : Below w.heap.size w w2 := (below_drewN hbel q1).trans hb2; have hm2 : w2.cell? ⟨0, 0, none⟩ = some (.int .i64 m) := (hbelF.cell hm0).trans hm; clear hL hb2) | (go_at_call 18; refine (tail_pre _ _).mono ?_; rintro e w3 ⟨rfl, hw3⟩; rw [hw3]; clear hw3) | (go_at_call 19; refine (tail_suf _ _ hLs).mono ?_; rintro e w3 ⟨rfl, hw3⟩; rw [hw3]; clear hw3) | (go_at_call 20; refine (tail_con _ _ hLs m hm2).mono ?_; rintro e w3 ⟨rfl, hw3⟩; rw [hw3]; clear hw3))
            all_goals first
              | (rw [Exit.noGoto_ret]; go_ret3; refine ⟨?_, hbelF⟩; first | exact ref_empty HBL.out ‹L.toList = []› | exact ref_pre HBL.out ‹Lib.hasPrefix (bl L) [46] = true› | exact ref_suf HBL.out ‹Lib.hasSuffix (bl L) [46] = true› | exact ref_con HBL.out ‹L.toList.isEmpty = true ∨ Lib.contains (bl L) [46, 46] = true›)
              | (go_quiet (fail); go_wp2; rw [Exit.noGoto_ret]; go_ret3; exact ⟨ref_ok HBL.out ‹¬ L.toList = []› ‹¬ Lib.hasPrefix (bl L) [46] = true› ‹¬ Lib.hasSuffix (bl L) [46] = true› ‹L.toList.isEmpty = false ∧ Lib.contains (bl L) [46, 46] = false› HRR.out, below_drewN hbelF _⟩)
        · skip
          have HR2 : Hid (readA ((bl A).drop (i + 1)) (acc ++ [A[i]]) = some (a, r)) := a_byte hlt HX.out (at_letter (by omega)) HR.out
          go_wp2_with (first | (go_at_call 17; refine (writeByte_any w.heap.size w.heap.size (Lib.byteCells acc) x _ (by exact hib) (by simp [Lib.byteCells]; omega) (by exact hBw)).mono ?_; rintro e w2 ⟨rfl, hib2, hb2⟩))
          have hib3 : Lib.IsBuilder 31 5 w.heap.size w.heap.size (Lib.byteCells (acc ++ [A[i]])) w2 := by
            rw [← byteCells_append]
            have e : Lib.byteCells [A[i]] = [.int .u8 x] := by rw [← HX.out]; rfl
            rw [e]; exact hib2
          have hbel3 : Below w.heap.size w w2 := hbel.trans hb2
          clear hib hib2 hb2
          go_roundw
          case rel => exact ⟨i + 1, acc ++ [A[i]], by omega, by simp; omega, by go_num, HR2, hib3, hbel3⟩
          case measure => simp [intOf]; omega
        · cases hsg : signI x with
          | true =>
            have HR2 : Hid (readA ((bl A).drop (i + 1)) (acc ++ [A[i]]) = some (a, r)) := a_byte hlt HX.out (at_sign hsg) HR.out
            go_wp2_with (first | (go_at_call 16; refine (crA A[i] x HX.out _).mono ?_; rintro e w1 ⟨rfl, q1, rfl⟩) | (go_at_call 17; refine (writeByte_any w.heap.size w.heap.size (Lib.byteCells acc) x _ (by exact hib) (by simp [Lib.byteCells]; omega) (by exact hBw)).mono ?_; rintro e w2 ⟨rfl, hib2, hb2⟩))
            have hib3 : Lib.IsBuilder 31 5 w.heap.size w.heap.size (Lib.byteCells (acc ++ [A[i]])) w2 := by
              rw [← byteCells_append]
              have e : Lib.byteCells [A[i]] = [.int .u8 x] := by rw [← HX.out]; rfl
              rw [e]; exact hib2
            have hbel3 : Below w.heap.size w w2 := (below_drewN hbel q1).trans hb2
            clear hib hib2 hb2
            go_roundw
            case rel => exact ⟨i + 1, acc ++ [A[i]], by omega, by simp; omega, by go_num, HR2, hib3, hbel3⟩
            case measure => simp [intOf]; omega
          | false =>
            have HST := a_stop hlt HX.out h92 (at_none hsg (by omega)) HR.out
            obtain ⟨rfl, hrr⟩ := HST
            have HRR : Hid ((⟨r.toArray⟩ : ByteArray) = A.extract i A.size) := by show _ = _; rw [← hrr, ext_eq]
            clear hrr HR HRD
            have hi0 : (0 : Int) ≤ (i : Int) := by omega
            have hi1 : (i : Int) ≤ (A.size : Int) := by omega
            go_wp2_with (first | (go_at_call 16; refine (crA A[i] x HX.out _).mono ?_; rintro e w1 ⟨rfl, q1, rfl⟩) | (go_at_call 15; refine (Try.Builder_String_any w.heap.size w.heap.size acc _ (by exact hib) (by exact hBw)).mono ?_; rintro e w2 ⟨rfl, hb2⟩; obtain ⟨L, hL⟩ : ∃ L : ByteArray, (⟨acc.toArray⟩ : ByteArray) = L := ⟨_, rfl⟩; rw [hL]; have HBL : Hid (bl L = acc) := (by rw [← hL]; rfl : bl L = acc); have hLs : L.size ≤ 4194304 := (by have h1 := bl_length L; rw [HBL.out] at h1; omega); have hbelF : Below w.heap.size w w2 := (below_drewN hbel q1).trans hb2; have hm2 : w2.cell? ⟨0, 0, none⟩ = some (.int .i64 m) := (hbelF.cell hm0).trans hm; clear hL hb2) | (go_at_call 18; refine (tail_pre _ _).mono ?_; rintro e w3 ⟨rfl, hw3⟩; rw [hw3]; clear hw3) | (go_at_call 19; refine (tail_suf _ _ hLs).mono ?_; rintro e w3 ⟨rfl, hw3⟩; rw [hw3]; clear hw3) | (go_at_call 20; refine (tail_con _ _ hLs m hm2).mono ?_; rintro e w3 ⟨rfl, hw3⟩; rw [hw3]; clear hw3))
            all_goals first
              | (rw [Exit.noGoto_ret]; go_ret3; refine ⟨?_, hbelF⟩; first | exact ref_empty HBL.out ‹L.toList = []› | exact ref_pre HBL.out ‹Lib.hasPrefix (bl L) [46] = true› | exact ref_suf HBL.out ‹Lib.hasSuffix (bl L) [46] = true› | exact ref_con HBL.out ‹L.toList.isEmpty = true ∨ Lib.contains (bl L) [46, 46] = true›)
              | (go_quiet (fail); go_wp2; rw [Exit.noGoto_ret]; go_ret3; exact ⟨ref_ok HBL.out ‹¬ L.toList = []› ‹¬ Lib.hasPrefix (bl L) [46] = true› ‹¬ Lib.hasSuffix (bl L) [46] = true› ‹L.toList.isEmpty = false ∧ Lib.contains (bl L) [46, 46] = false› HRR.out, below_drewN hbelF _⟩)
        · skip
          have HR2 : Hid (readA ((bl A).drop (i + 1)) (acc ++ [A[i]]) = some (a, r)) := a_byte hlt HX.out (at_letter (by omega)) HR.out
          go_wp2_with (first | (go_at_call 17; refine (writeByte_any w.heap.size w.heap.size (Lib.byteCells acc) x _ (by exact hib) (by simp [Lib.byteCells]; omega) (by exact hBw)).mono ?_; rintro e w2 ⟨rfl, hib2, hb2⟩))
          have hib3 : Lib.IsBuilder 31 5 w.heap.size w.heap.size (Lib.byteCells (acc ++ [A[i]])) w2 := by
            rw [← byteCells_append]
            have e : Lib.byteCells [A[i]] = [.int .u8 x] := by rw [← HX.out]; rfl
            rw [e]; exact hib2
          have hbel3 : Below w.heap.size w w2 := hbel.trans hb2
          clear hib hib2 hb2
          go_roundw
          case rel => exact ⟨i + 1, acc ++ [A[i]], by omega, by simp; omega, by go_num, HR2, hib3, hbel3⟩
          case measure => simp [intOf]; omega
        · cases hsg : signI x with
          | true =>
            have HR2 : Hid (readA ((bl A).drop (i + 1)) (acc ++ [A[i]]) = some (a, r)) := a_byte hlt HX.out (at_sign hsg) HR.out
            go_wp2_with (first | (go_at_call 16; refine (crA A[i] x HX.out _).mono ?_; rintro e w1 ⟨rfl, q1, rfl⟩) | (go_at_call 17; refine (writeByte_any w.heap.size w.heap.size (Lib.byteCells acc) x _ (by exact hib) (by simp [Lib.byteCells]; omega) (by exact hBw)).mono ?_; rintro e w2 ⟨rfl, hib2, hb2⟩))
            have hib3 : Lib.IsBuilder 31 5 w.heap.size w.heap.size (Lib.byteCells (acc ++ [A[i]])) w2 := by
              rw [← byteCells_append]
              have e : Lib.byteCells [A[i]] = [.int .u8 x] := by rw [← HX.out]; rfl
              rw [e]; exact hib2
            have hbel3 : Below w.heap.size w w2 := (below_drewN hbel q1).trans hb2
            clear hib hib2 hb2
            go_roundw
            case rel => exact ⟨i + 1, acc ++ [A[i]], by omega, by simp; omega, by go_num, HR2, hib3, hbel3⟩
            case measure => simp [intOf]; omega
          | false =>
            have HST := a_stop hlt HX.out h92 (at_none hsg (by omega)) HR.out
            obtain ⟨rfl, hrr⟩ := HST
            have HRR : Hid ((⟨r.toArray⟩ : ByteArray) = A.extract i A.size) := by show _ = _; rw [← hrr, ext_eq]
            clear hrr HR HRD
            have hi0 : (0 : Int) ≤ (i : Int) := by omega
            have hi1 : (i : Int) ≤ (A.size : Int) := by omega
            go_wp2_with (first | (go_at_call 16; refine (crA A[i] x HX.out _).mono ?_; rintro e w1 ⟨rfl, q1, rfl⟩) | (go_at_call 15; refine (Try.Builder_String_any w.heap.size w.heap.size acc _ (by exact hib) (by exact hBw)).mono ?_; rintro e w2 ⟨rfl, hb2⟩; obtain ⟨L, hL⟩ : ∃ L : ByteArray, (⟨acc.toArray⟩ : ByteArray) = L := ⟨_, rfl⟩; rw [hL]; have HBL : Hid (bl L = acc) := (by rw [← hL]; rfl : bl L = acc); have hLs : L.size ≤ 4194304 := (by have h1 := bl_length L; rw [HBL.out] at h1; omega); have hbelF : Below w.heap.size w w2 := (below_drewN hbel q1).trans hb2; have hm2 : w2.cell? ⟨0, 0, none⟩ = some (.int .i64 m) := (hbelF.cell hm0).trans hm; clear hL hb2) | (go_at_call 18; refine (tail_pre _ _).mono ?_; rintro e w3 ⟨rfl, hw3⟩; rw [hw3]; clear hw3) | (go_at_call 19; refine (tail_suf _ _ hLs).mono ?_; rintro e w3 ⟨rfl, hw3⟩; rw [hw3]; clear hw3) | (go_at_call 20; refine (tail_con _ _ hLs m hm2).mono ?_; rintro e w3 ⟨rfl, hw3⟩; rw [hw3]; clear hw3))
            all_goals first
              | (rw [Exit.noGoto_ret]; go_ret3; refine ⟨?_, hbelF⟩; first | exact ref_empty HBL.out ‹L.toList = []› | exact ref_pre HBL.out ‹Lib.hasPrefix (bl L) [46] = true› | exact ref_suf HBL.out ‹Lib.hasSuffix (bl L) [46] = true› | exact ref_con HBL.out ‹L.toList.isEmpty = true ∨ Lib.contains (bl L) [46, 46] = true›)
              | (go_quiet (fail); go_wp2; rw [Exit.noGoto_ret]; go_ret3; exact ⟨ref_ok HBL.out ‹¬ L.toList = []› ‹¬ Lib.hasPrefix (bl L) [46] = true› ‹¬ Lib.hasSuffix (bl L) [46] = true› ‹L.toList.isEmpty = false ∧ Lib.contains (bl L) [46, 46] = false› HRR.out, below_drewN hbelF _⟩)
        · skip
          have HR2 : Hid (readA ((bl A).drop (i + 1)) (acc ++ [A[i]]) = some (a, r)) := a_byte hlt HX.out (at_letter (by omega)) HR.out
          go_wp2_with (first | (go_at_call 17; refine (writeByte_any w.heap.size w.heap.size (Lib.byteCells acc) x _ (by exact hib) (by simp [Lib.byteCells]; omega) (by exact hBw)).mono ?_; rintro e w2 ⟨rfl, hib2, hb2⟩))
          have hib3 : Lib.IsBuilder 31 5 w.heap.size w.heap.size (Lib.byteCells (acc ++ [A[i]])) w2 := by
            rw [← byteCells_append]
            have e : Lib.byteCells [A[i]] = [.int .u8 x] := by rw [← HX.out]; rfl
            rw [e]; exact hib2
          have hbel3 : Below w.heap.size w w2 := hbel.trans hb2
          clear hib hib2 hb2
          go_roundw
          case rel => exact ⟨i + 1, acc ++ [A[i]], by omega, by simp; omega, by go_num, HR2, hib3, hbel3⟩
          case measure => simp [intOf]; omega
        · cases hsg : signI x with
          | true =>
            have HR2 : Hid (readA ((bl A).drop (i + 1)) (acc ++ [A[i]]) = some (a, r)) := a_byte hlt HX.out (at_sign hsg) HR.out
            go_wp2_with (first | (go_at_call 16; refine (crA A[i] x HX.out _).mono ?_; rintro e w1 ⟨rfl, q1, rfl⟩) | (go_at_call 17; refine (writeByte_any w.heap.size w.heap.size (Lib.byteCells acc) x _ (by exact hib) (by simp [Lib.byteCells]; omega) (by exact hBw)).mono ?_; rintro e w2 ⟨rfl, hib2, hb2⟩))
            have hib3 : Lib.IsBuilder 31 5 w.heap.size w.heap.size (Lib.byteCells (acc ++ [A[i]])) w2 := by
              rw [← byteCells_append]
              have e : Lib.byteCells [A[i]] = [.int .u8 x] := by rw [← HX.out]; rfl
              rw [e]; exact hib2
            have hbel3 : Below w.heap.size w w2 := (below_drewN hbel q1).trans hb2
            clear hib hib2 hb2
            go_roundw
            case rel => exact ⟨i + 1, acc ++ [A[i]], by omega, by simp; omega, by go_num, HR2, hib3, hbel3⟩
            case measure => simp [intOf]; omega
          | false =>
            have HST := a_stop hlt HX.out h92 (at_none hsg (by omega)) HR.out
            obtain ⟨rfl, hrr⟩ := HST
            have HRR : Hid ((⟨r.toArray⟩ : ByteArray) = A.extract i A.size) := by show _ = _; rw [← hrr, ext_eq]
            clear hrr HR HRD
            have hi0 : (0 : Int) ≤ (i : Int) := by omega
            have hi1 : (i : Int) ≤ (A.size : Int) := by omega
            go_wp2_with (first | (go_at_call 16; refine (crA A[i] x HX.out _).mono ?_; rintro e w1 ⟨rfl, q1, rfl⟩) | (go_at_call 15; refine (Try.Builder_String_any w.heap.size w.heap.size acc _ (by exact hib) (by exact hBw)).mono ?_; rintro e w2 ⟨rfl, hb2⟩; obtain ⟨L, hL⟩ : ∃ L : ByteArray, (⟨acc.toArray⟩ : ByteArray) = L := ⟨_, rfl⟩; rw [hL]; have HBL : Hid (bl L = acc) := (by rw [← hL]; rfl : bl L = acc); have hLs : L.size ≤ 4194304 := (by have h1 := bl_length L; rw [HBL.out] at h1; omega); have hbelF : Below w.heap.size w w2 := (below_drewN hbel q1).trans hb2; have hm2 : w2.cell? ⟨0, 0, none⟩ = some (.int .i64 m) := (hbelF.cell hm0).trans hm; clear hL hb2) | (go_at_call 18; refine (tail_pre _ _).mono ?_; rintro e w3 ⟨rfl, hw3⟩; rw [hw3]; clear hw3) | (go_at_call 19; refine (tail_suf _ _ hLs).mono ?_; rintro e w3 ⟨rfl, hw3⟩; rw [hw3]; clear hw3) | (go_at_call 20; refine (tail_con _ _ hLs m hm2).mono ?_; rintro e w3 ⟨rfl, hw3⟩; rw [hw3]; clear hw3))
            all_goals first
              | (rw [Exit.noGoto_ret]; go_ret3; refine ⟨?_, hbelF⟩; first | exact ref_empty HBL.out ‹L.toList = []› | exact ref_pre HBL.out ‹Lib.hasPrefix (bl L) [46] = true› | exact ref_suf HBL.out ‹Lib.hasSuffix (bl L) [46] = true› | exact ref_con HBL.out ‹L.toList.isEmpty = true ∨ Lib.contains (bl L) [46, 46] = true›)
              | (go_quiet (fail); go_wp2; rw [Exit.noGoto_ret]; go_ret3; exact ⟨ref_ok HBL.out ‹¬ L.toList = []› ‹¬ Lib.hasPrefix (bl L) [46] = true› ‹¬ Lib.hasSuffix (bl L) [46] = true› ‹L.toList.isEmpty = false ∧ Lib.contains (bl L) [46, 46] = false› HRR.out, below_drewN hbelF _⟩)
    · have HST := a_end hlt HR.out
      obtain ⟨rfl, hrr⟩ := HST
      have HRR : Hid ((⟨r.toArray⟩ : ByteArray) = A.extract i A.size) := by show _ = _; rw [← hrr, ext_eq]
      clear hrr HR HRD
      have hi0 : (0 : Int) ≤ (i : Int) := by omega
      have hi1 : (i : Int) ≤ (A.size : Int) := by omega
      go_wp2_with (first | (go_at_call 15; refine (Try.Builder_String_any w.heap.size w.heap.size acc _ (by exact hib) (by exact hBw)).mono ?_; rintro e w2 ⟨rfl, hb2⟩; obtain ⟨L, hL⟩ : ∃ L : ByteArray, (⟨acc.toArray⟩ : ByteArray) = L := ⟨_, rfl⟩; rw [hL]; have HBL : Hid (bl L = acc) := (by rw [← hL]; rfl : bl L = acc); have hLs : L.size ≤ 4194304 := (by have h1 := bl_length L; rw [HBL.out] at h1; omega); have hbelF : Below w.heap.size w w2 := hbel.trans hb2; have hm2 : w2.cell? ⟨0, 0, none⟩ = some (.int .i64 m) := (hbelF.cell hm0).trans hm; clear hL hb2) | (go_at_call 18; refine (tail_pre _ _).mono ?_; rintro e w3 ⟨rfl, hw3⟩; rw [hw3]; clear hw3) | (go_at_call 19; refine (tail_suf _ _ hLs).mono ?_; rintro e w3 ⟨rfl, hw3⟩; rw [hw3]; clear hw3) | (go_at_call 20; refine (tail_con _ _ hLs m hm2).mono ?_; rintro e w3 ⟨rfl, hw3⟩; rw [hw3]; clear hw3))
      all_goals first
        | (rw [Exit.noGoto_ret]; go_ret3; refine ⟨?_, hbelF⟩; first | exact ref_empty HBL.out ‹L.toList = []› | exact ref_pre HBL.out ‹Lib.hasPrefix (bl L) [46] = true› | exact ref_suf HBL.out ‹Lib.hasSuffix (bl L) [46] = true› | exact ref_con HBL.out ‹L.toList.isEmpty = true ∨ Lib.contains (bl L) [46, 46] = true›)
        | (go_quiet (fail); go_wp2; rw [Exit.noGoto_ret]; go_ret3; exact ⟨ref_ok HBL.out ‹¬ L.toList = []› ‹¬ Lib.hasPrefix (bl L) [46] = true› ‹¬ Lib.hasSuffix (bl L) [46] = true› ‹L.toList.isEmpty = false ∧ Lib.contains (bl L) [46, 46] = false› HRR.out, below_drewN hbelF _⟩)

end Go.Proofs.Qxb6604077a
