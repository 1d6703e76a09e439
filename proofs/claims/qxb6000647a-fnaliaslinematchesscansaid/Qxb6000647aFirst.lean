/-
  firstAliasLine, walked: it answers as 'scanAt'.
-/
import Derived.Test.Qxb6000647aReads
namespace Go.Proofs.Qxb6000647a
open Go.RowKit

theorem nb_10 {t : List Int} {i n : Nat} (ht : t.length = n) (hi : i < n) (h : (t[i]?.getD 0 == 10) = true) : b0 (t.drop i) = 1 := by
  have hi' : i < t.length := by omega
  rw [List.drop_eq_getElem_cons hi']
  have : t[i] = 10 := by simpa [hi'] using h
  simp [b0, this]
theorem nb_o {t : List Int} {i n : Nat} (ht : t.length = n) (hi : i < n) (h : (t[i]?.getD 0 == 10) = false) (h' : (t[i]?.getD 0 == 13) = false) : b0 (t.drop i) = 0 := by
  have hi' : i < t.length := by omega
  rw [List.drop_eq_getElem_cons hi']
  have a : ¬ t[i] = 10 := by simpa [hi'] using h
  have b : ¬ t[i] = 13 := by simpa [hi'] using h'
  simp [b0, a, b]
theorem nb_13e {t : List Int} {i n : Nat} (ht : t.length = n) (hi : i < n) (h' : (t[i]?.getD 0 == 13) = true) (hl : ¬ i + 1 < n) : b0 (t.drop i) = 1 := by
  have hi' : i < t.length := by omega
  rw [List.drop_eq_getElem_cons hi', List.drop_eq_nil_of_le (by omega)]
  have b : t[i] = 13 := by simpa [hi'] using h'
  simp [b0, b]
theorem nb_13y {t : List Int} {i n : Nat} (ht : t.length = n) (_hi : i < n) (h' : (t[i]?.getD 0 == 13) = true) (hl : i + 1 < n) (h2 : (t[i + 1]?.getD 0 == 10) = true) : b0 (t.drop i) = 0 := by
  have hi' : i < t.length := by omega
  have hi2 : i + 1 < t.length := by omega
  rw [List.drop_eq_getElem_cons hi', List.drop_eq_getElem_cons hi2]
  have b : t[i] = 13 := by simpa [hi'] using h'
  have d : t[i + 1] = 10 := by simpa [hi2] using h2
  simp [b0, b, d]
theorem nb_13n {t : List Int} {i n : Nat} (ht : t.length = n) (_hi : i < n) (h' : (t[i]?.getD 0 == 13) = true) (hl : i + 1 < n) (h2 : (t[i + 1]?.getD 0 == 10) = false) : b0 (t.drop i) = 1 := by
  have hi' : i < t.length := by omega
  have hi2 : i + 1 < t.length := by omega
  rw [List.drop_eq_getElem_cons hi', List.drop_eq_getElem_cons hi2]
  have b : t[i] = 13 := by simpa [hi'] using h'
  have d : ¬ t[i + 1] = 10 := by simpa [hi2] using h2
  simp [b0, b, List.getElem?_eq_getElem hi2, d]

theorem sc_next {t pat : List Int} {i n : Nat} (ht : t.length = n) (hr : i + pat.length ≤ n) (hh : hit t pat i = false) (H : scanAt t pat i = scanAt t pat 0) : scanAt t pat (i + 1) = scanAt t pat 0 := by
  rw [← H, scanAt_step t pat i, if_pos (by omega), if_neg (by rw [hh]; simp)]
theorem sc_hit {t pat : List Int} {i n : Nat} (ht : t.length = n) (hr : i + pat.length ≤ n) (hh : hit t pat i = true) (H : scanAt t pat i = scanAt t pat 0) : (1 : Int) + (brk t i : Int) = (scanAt t pat 0 : Int) := by
  rw [← H, scanAt_step t pat i, if_pos (by omega), if_pos hh]; omega
theorem sc_end {t pat : List Int} {i n : Nat} (ht : t.length = n) (hr : ¬ i + pat.length ≤ n) (H : scanAt t pat i = scanAt t pat 0) : (0 : Int) = (scanAt t pat 0 : Int) := by
  rw [← H, scanAt_step t pat i, if_neg (by omega)]; rfl
theorem brk_le : ∀ (t : List Int) (i : Nat), brk t i ≤ i
  | _, 0 => by simp [brk]
  | [], _ + 1 => by simp [brk]
  | c :: u, i + 1 => by
    have := brk_le u i
    have : b0 (c :: u) ≤ 1 := by
      simp only [b0]
      split
      · omega
      · split <;> omega
    show b0 (c :: u) + brk u i ≤ i + 1
    omega
theorem hit_no {t pat : List Int} {i : Nat} (h : occ t pat i = false) : hit t pat i = false := by unfold hit; rw [h]; rfl
theorem hit_end {t pat : List Int} {i n : Nat} (ht : t.length = n) (h : occ t pat i = true) (he : i + pat.length = n) : hit t pat i = true := by unfold hit; rw [h]; simp; omega
theorem hit_delim {t pat : List Int} {i n : Nat} (ht : t.length = n) (h : occ t pat i = true) (he : ¬ i + pat.length = n) {x : Int} (hx : t[i + pat.length]?.getD 0 = x) : hit t pat i = delim x := by
  unfold hit; rw [h, decide_eq_false (by omega), List.getD_eq_getElem?_getD, hx]; rfl

set_option maxHeartbeats 4000000 in
theorem first_at (b off n c : Nat) (t : List Int) (s : ByteArray) (w : World) (hl : Lies w (some ⟨b, off, none⟩) b off n t) (hn : n ≤ 65536) (hs : s.size ≤ 65536) :
    Calls Try.prog 18 #[.slice (some ⟨b, off, none⟩) n c, .string s] w fun e w' => e = .returned (.int .i64 (scanAt t (42 :: bi s) 0)) ∧ ∃ q, w' = w.drewN q := by
  have HT : Hid (t.length = n) := hl.1
  have HP : Hid ((42 :: bi s).length = s.size + 1) := by show _ = _; rw [List.length_cons, bi_length]
  have HL : Hid (Lies w (some ⟨b, off, none⟩) b off n t) := hl
  clear hl
  go_enter Try.func18, Try.ntmps18
  go_wp2
  go_loopw [6, 7] (fun ln j wr => ∃ i : Nat, i ≤ n ∧ j = .int .i64 i ∧ ln = .int .i64 (1 + (brk t i : Int)) ∧ (∃ q, wr = w.drewN q) ∧ Hid (scanAt t (42 :: bi s) i = scanAt t (42 :: bi s) 0)) (fun _ j _ => n + 1 - (intOf j).toNat)
  case atStart => exact ⟨0, Nat.zero_le _, rfl, by cases t <;> rfl, ⟨0, rfl⟩, (rfl : scanAt t (42 :: bi s) 0 = scanAt t (42 :: bi s) 0)⟩
  case round =>
    obtain ⟨i, hin, rfl, rfl, ⟨q, rfl⟩, HR⟩ := hrel
    have hbl := brk_le t i
    have HBL : Hid (brk t (i + 1) = brk t i + b0 (t.drop i) ∨ n ≤ i) := by
      by_cases h : i < n
      · exact Or.inl (brk_succ t i (by have := HT.out; omega))
      · exact Or.inr (by omega)
    by_cases hr : i + (s.size + 1) ≤ n
    · have hcell := (HL.out.2 i (by omega)).2
      have hi' : (i : Int) < (n : Int) := by omega
      have hilt : i < n := by omega
      have HB : Hid (brk t (i + 1) = brk t i + b0 (t.drop i)) := by
        rcases HBL.out with h | h
        · exact h
        · exact absurd hilt (by omega)
      clear HBL
      cases ho : occ t (42 :: bi s) i with
      | false =>
        have HH : Hid (hit t (42 :: bi s) i = false) := hit_no ho
        cases h10 : (t[i]?.getD 0 == 10) with
        | true =>
          go_wp2_with (first | (go_at_call 23; refine (aliasAt_any b off n c t s _ (by exact HL) (by omega) i hr).mono ?_; rintro e w1 ⟨rfl, q1, rfl⟩) )
          go_roundw
          case rel => exact ⟨i + 1, by omega, by go_num, by rw [HB.out, nb_10 HT.out hilt h10]; go_num, ⟨_, rfl⟩, sc_next HT.out (by rw [HP.out]; exact hr) HH.out HR.out⟩
          case measure => simp [intOf]; omega
        | false =>
          cases h13 : (t[i]?.getD 0 == 13) with
          | false =>
            go_wp2_with (first | (go_at_call 23; refine (aliasAt_any b off n c t s _ (by exact HL) (by omega) i hr).mono ?_; rintro e w1 ⟨rfl, q1, rfl⟩) )
            go_roundw
            case rel => exact ⟨i + 1, by omega, by go_num, by rw [HB.out, nb_o HT.out hilt h10 h13]; go_num, ⟨_, rfl⟩, sc_next HT.out (by rw [HP.out]; exact hr) HH.out HR.out⟩
            case measure => simp [intOf]; omega
          | true =>
            by_cases hl1 : i + 1 < n
            · have hcell1 := (HL.out.2 (i + 1) hl1).2
              have hl2 : (i : Int) + 1 < (n : Int) := by omega
              cases h2 : (t[i + 1]?.getD 0 == 10) with
              | true =>
                go_wp2_with (first | (go_at_call 23; refine (aliasAt_any b off n c t s _ (by exact HL) (by omega) i hr).mono ?_; rintro e w1 ⟨rfl, q1, rfl⟩) )
                go_roundw
                case rel => exact ⟨i + 1, by omega, by go_num, by rw [HB.out, nb_13y HT.out hilt h13 hl1 h2]; go_num, ⟨_, rfl⟩, sc_next HT.out (by rw [HP.out]; exact hr) HH.out HR.out⟩
                case measure => simp [intOf]; omega
              | false =>
                go_wp2_with (first | (go_at_call 23; refine (aliasAt_any b off n c t s _ (by exact HL) (by omega) i hr).mono ?_; rintro e w1 ⟨rfl, q1, rfl⟩) )
                go_roundw
                case rel => exact ⟨i + 1, by omega, by go_num, by rw [HB.out, nb_13n HT.out hilt h13 hl1 h2]; go_num, ⟨_, rfl⟩, sc_next HT.out (by rw [HP.out]; exact hr) HH.out HR.out⟩
                case measure => simp [intOf]; omega
            · have hl2 : ¬ (i : Int) + 1 < (n : Int) := by omega
              go_wp2_with (first | (go_at_call 23; refine (aliasAt_any b off n c t s _ (by exact HL) (by omega) i hr).mono ?_; rintro e w1 ⟨rfl, q1, rfl⟩) )
              go_roundw
              case rel => exact ⟨i + 1, by omega, by go_num, by rw [HB.out, nb_13e HT.out hilt h13 hl1]; go_num, ⟨_, rfl⟩, sc_next HT.out (by rw [HP.out]; exact hr) HH.out HR.out⟩
              case measure => simp [intOf]; omega
      | true =>
        by_cases he : i + (s.size + 1) = n
        · have HH : Hid (hit t (42 :: bi s) i = true) := hit_end HT.out ho (by rw [HP.out]; exact he)
          have he' : (i : Int) + ((1 : Int) + (s.size : Int)) = (n : Int) := by omega
          have heb : ((i : Int) + ((1 : Int) + (s.size : Int)) == (n : Int)) = true := by simp; omega
          go_wp2_with (go_at_call 23; refine (aliasAt_any b off n c t s _ (by exact HL) (by omega) i hr).mono ?_; rintro e w1 ⟨rfl, q1, rfl⟩)
          go_ret
          exact ⟨ret_int (sc_hit HT.out (by rw [HP.out]; exact hr) HH.out HR.out), ⟨_, rfl⟩⟩
        · have hcellE := (HL.out.2 (i + (s.size + 1)) (by omega)).2
          have heb : ((i : Int) + ((1 : Int) + (s.size : Int)) == (n : Int)) = false := by simp; omega
          have heq : ((i : Int) + ((1 : Int) + (s.size : Int))).toNat = i + (s.size + 1) := by omega
          have he0 : (0 : Int) ≤ (i : Int) + ((1 : Int) + (s.size : Int)) := by omega
          have hen : (i : Int) + ((1 : Int) + (s.size : Int)) < (n : Int) := by omega
          obtain ⟨x, hx⟩ : ∃ x, t[i + (s.size + 1)]?.getD 0 = x := ⟨_, rfl⟩
          have HH0 : Hid (hit t (42 :: bi s) i = delim x) := hit_delim HT.out ho (by rw [HP.out]; exact he) (by rw [HP.out]; exact hx)
          cases hd : delim x with
          | true =>
            have HH : Hid (hit t (42 :: bi s) i = true) := HH0.out.trans hd
            go_wp2_with (first | (go_at_call 23; refine (aliasAt_any b off n c t s _ (by exact HL) (by omega) i hr).mono ?_; rintro e w1 ⟨rfl, q1, rfl⟩) | (go_at_call 24; refine (delim_any _ _).mono ?_; rintro e w2 ⟨rfl, hw2⟩; rw [hw2]; clear hw2))
            go_ret
            exact ⟨ret_int (sc_hit HT.out (by rw [HP.out]; exact hr) HH.out HR.out), ⟨_, rfl⟩⟩
          | false =>
            have HH : Hid (hit t (42 :: bi s) i = false) := HH0.out.trans hd
            cases h10 : (t[i]?.getD 0 == 10) with
            | true =>
              go_wp2_with (first | (go_at_call 23; refine (aliasAt_any b off n c t s _ (by exact HL) (by omega) i hr).mono ?_; rintro e w1 ⟨rfl, q1, rfl⟩) | (go_at_call 24; refine (delim_any _ _).mono ?_; rintro e w2 ⟨rfl, hw2⟩; rw [hw2]; clear hw2) )
              go_roundw
              case rel => exact ⟨i + 1, by omega, by go_num, by rw [HB.out, nb_10 HT.out hilt h10]; go_num, ⟨_, rfl⟩, sc_next HT.out (by rw [HP.out]; exact hr) HH.out HR.out⟩
              case measure => simp [intOf]; omega
            | false =>
              cases h13 : (t[i]?.getD 0 == 13) with
              | false =>
                go_wp2_with (first | (go_at_call 23; refine (aliasAt_any b off n c t s _ (by exact HL) (by omega) i hr).mono ?_; rintro e w1 ⟨rfl, q1, rfl⟩) | (go_at_call 24; refine (delim_any _ _).mono ?_; rintro e w2 ⟨rfl, hw2⟩; rw [hw2]; clear hw2) )
                go_roundw
                case rel => exact ⟨i + 1, by omega, by go_num, by rw [HB.out, nb_o HT.out hilt h10 h13]; go_num, ⟨_, rfl⟩, sc_next HT.out (by rw [HP.out]; exact hr) HH.out HR.out⟩
                case measure => simp [intOf]; omega
              | true =>
                by_cases hl1 : i + 1 < n
                · have hcell1 := (HL.out.2 (i + 1) hl1).2
                  have hl2 : (i : Int) + 1 < (n : Int) := by omega
                  cases h2 : (t[i + 1]?.getD 0 == 10) with
                  | true =>
                    go_wp2_with (first | (go_at_call 23; refine (aliasAt_any b off n c t s _ (by exact HL) (by omega) i hr).mono ?_; rintro e w1 ⟨rfl, q1, rfl⟩) | (go_at_call 24; refine (delim_any _ _).mono ?_; rintro e w2 ⟨rfl, hw2⟩; rw [hw2]; clear hw2) )
                    go_roundw
                    case rel => exact ⟨i + 1, by omega, by go_num, by rw [HB.out, nb_13y HT.out hilt h13 hl1 h2]; go_num, ⟨_, rfl⟩, sc_next HT.out (by rw [HP.out]; exact hr) HH.out HR.out⟩
                    case measure => simp [intOf]; omega
                  | false =>
                    go_wp2_with (first | (go_at_call 23; refine (aliasAt_any b off n c t s _ (by exact HL) (by omega) i hr).mono ?_; rintro e w1 ⟨rfl, q1, rfl⟩) | (go_at_call 24; refine (delim_any _ _).mono ?_; rintro e w2 ⟨rfl, hw2⟩; rw [hw2]; clear hw2) )
                    go_roundw
                    case rel => exact ⟨i + 1, by omega, by go_num, by rw [HB.out, nb_13n HT.out hilt h13 hl1 h2]; go_num, ⟨_, rfl⟩, sc_next HT.out (by rw [HP.out]; exact hr) HH.out HR.out⟩
                    case measure => simp [intOf]; omega
                · exact absurd (show i + 1 < n by omega) hl1
    · have hr' : ¬ (i : Int) + ((1 : Int) + (s.size : Int)) ≤ (n : Int) := by omega
      go_wp2
      go_ret
      exact ⟨ret_int (sc_end HT.out (by rw [HP.out]; exact hr) HR.out), ⟨_, rfl⟩⟩

end Go.Proofs.Qxb6000647a
