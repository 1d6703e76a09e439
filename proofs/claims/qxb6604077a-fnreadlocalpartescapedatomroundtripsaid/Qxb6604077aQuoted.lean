/-
  readLocalPart BEHIND A QUOTE, walked: it answers as 'readQ'.
-/
import Derived.Test.Qxb6604077aMakers
import Derived.Deep.RegionWith
namespace Go.Proofs.Qxb6604077a
open Go.RowKit

def resOf : Option (List UInt8 × List UInt8) → Value
  | some (a, r) => .tuple #[.string ⟨a.toArray⟩, .string ⟨r.toArray⟩, .bool true]
  | none => .tuple #[.string ⟨#[]⟩, .string ⟨#[]⟩, .bool false]

theorem cr3 (d : UInt8) (y : Int) (hy : ((d.toNat : Nat) : Int) = y) (w : World) :
    Calls Try.prog 16 #[.string ⟨#[0, 10, 13]⟩, .int .i32 y] w fun e w' => e = .returned (.bool (bad3 d)) ∧ ∃ q, w' = w.drewN q := by
  subst hy
  exact containsRune_byte ⟨#[0, 10, 13]⟩ (by decide) (by decide) d w
theorem cr6 (d : UInt8) (y : Int) (hy : ((d.toNat : Nat) : Int) = y) (w : World) :
    Calls Try.prog 16 #[.string ⟨#[0, 9, 10, 13, 34, 92]⟩, .int .i32 y] w fun e w' => e = .returned (.bool (bad6 d)) ∧ ∃ q, w' = w.drewN q := by
  subst hy
  exact containsRune_byte ⟨#[0, 9, 10, 13, 34, 92]⟩ (by decide) (by decide) d w

theorem cut_quote (A q : ByteArray) (hA : bl A = 34 :: bl q) (w : World) :
    Calls Try.prog 14 #[.string A, .string ⟨#[34]⟩] w fun e w' => e = .returned (.tuple #[.string q, .bool true]) ∧ w' = w := by
  have h := Try.strings_CutPrefix A ⟨#[34]⟩ w
  have e1 : Lib.hasPrefix A.data.toList (ByteArray.mk #[34]).data.toList = true := by
    show Lib.hasPrefix (bl A) [34] = true
    rw [hA]; simp [Lib.hasPrefix]
  have e2 : (⟨(Lib.trimPrefix A.data.toList (ByteArray.mk #[34]).data.toList).toArray⟩ : ByteArray) = q := by
    apply bl_inj
    show Lib.trimPrefix (bl A) [34] = bl q
    unfold Lib.trimPrefix
    rw [if_pos (by exact e1), hA]; rfl
  rw [e1, e2] at h
  exact h

theorem q_end (X acc : List UInt8) : readQ (34 :: X) acc = some (acc, X) := by
  cases X <;> simp [readQ]
theorem q_esc (d : UInt8) (X acc : List UInt8) (h : bad3 d = false) : readQ (92 :: d :: X) acc = readQ X (acc ++ [d]) := by
  rw [readQ, if_neg (by decide), if_pos ⟨rfl, h⟩]
theorem q_esc_bad (d : UInt8) (X acc : List UInt8) (h : bad3 d = true) : readQ (92 :: d :: X) acc = none := by
  rw [readQ, if_neg (by decide), if_neg (by rw [h]; simp), if_neg (by decide)]
theorem q_esc_last (acc : List UInt8) : readQ [92] acc = none := by simp [readQ]
theorem q_byte (c : UInt8) (X acc : List UInt8) (h34 : c ≠ 34) (h92 : c ≠ 92) (h6 : bad6 c = false) : readQ (c :: X) acc = readQ X (acc ++ [c]) := by
  cases X with
  | nil => simp [readQ, h34]
  | cons d t => exact readQ_cons c _ acc (by simp) h34 h92 h6
theorem q_bad (c : UInt8) (X acc : List UInt8) (h34 : c ≠ 34) (h92 : c ≠ 92) (h6 : bad6 c = true) : readQ (c :: X) acc = none := by
  cases X with
  | nil => simp [readQ, h34]
  | cons d t => rw [readQ, if_neg h34, if_neg (fun h => h92 h.1), if_neg (by rw [h6]; simp)]

theorem byte_of {c k : UInt8} {x : Int} (hx : ((c.toNat : Nat) : Int) = x) (h : (x == ((k.toNat : Nat) : Int)) = true) : c = k := by
  have := beq_byte c k hx
  rw [h] at this; simpa using this
theorem byte_ne {c k : UInt8} {x : Int} (hx : ((c.toNat : Nat) : Int) = x) (h : (x == ((k.toNat : Nat) : Int)) = false) : c ≠ k := by
  have := beq_byte c k hx
  rw [h] at this; simpa using this

set_option maxHeartbeats 1000000 in
set_option maxRecDepth 100000 in
theorem quoted_any (A q : ByteArray) (hA : bl A = 34 :: bl q) (w : World) (hs : q.size ≤ 4194304) :
    Calls Try.prog 13 #[.string A] w fun e w' => e = .returned (resOf (readQ (bl q) [])) ∧ Below w.heap.size w w' := by
  have hcut := cut_quote A q hA
  clear hA
  go_enter Try.func13, Try.ntmps13
  go_wp2
  go_step3
  go_wp2_with (go_at_call 14; refine (hcut _).mono ?_; rintro e w' ⟨rfl, hw⟩; rw [hw]; clear hw)
  clear hcut
  have hib := Lib.fresh_isBuilder 31 5 w
  have hb0 : Below w.heap.size w (w.alloc (.cells #[.pointer none, .slice none 0 0] 31)) := (Below.refl _ _).alloc (Nat.le_refl _) _
  go_loopw [8] (fun j wr => ∃ (i : Nat) (acc : List UInt8), i ≤ q.size ∧ acc.length ≤ i ∧ j = .int .i64 i ∧ Hid (readQ ((bl q).drop i) acc = readQ (bl q) []) ∧ Lib.IsBuilder 31 5 w.heap.size w.heap.size (Lib.byteCells acc) wr ∧ Below w.heap.size w wr) (fun j _ => q.size - (intOf j).toNat)
  case atStart => exact ⟨0, [], Nat.zero_le _, Nat.zero_le _, rfl, (rfl : readQ ((bl q).drop 0) [] = readQ (bl q) []), hib, hb0⟩
  case round =>
    clear hib hb0
    obtain ⟨i, acc, hin, hai, rfl, HR, hib, hbel⟩ := hrel
    have hBw := hbel.size
    by_cases hlt : i < q.size
    · obtain ⟨x, hx⟩ : ∃ x : Int, ((q[i].toNat : Nat) : Int) = x := ⟨_, rfl⟩
      have hxb : 0 ≤ x ∧ x ≤ 255 := by have := q[i].toNat_lt; omega
      have HD : Hid ((bl q).drop i = q[i] :: (bl q).drop (i + 1)) := bl_drop q i hlt
      have hi1 : (0 : Int) ≤ (i : Int) + 1 := by omega
      have hi2 : (i : Int) + 1 ≤ (q.size : Int) := by omega
      have hwr : IntKind.i64.wrap ((i : Int) + 1) = (i : Int) + 1 := by rw [IntKind.wrap_i64]; omega
      cases h0 : (x == 34) with
      | true =>
        have HE : Hid (resOf (readQ (bl q) []) = .tuple #[.string ⟨acc.toArray⟩, .string (q.extract (i + 1) q.size), .bool true]) := by
          have hc : q[i] = 34 := byte_of hx h0
          have e : readQ (bl q) [] = some (acc, (bl q).drop (i + 1)) := by rw [← HR.out, HD.out, hc, q_end]
          show _ = _
          rw [e]
          have e2 : (⟨((bl q).drop (i + 1)).toArray⟩ : ByteArray) = q.extract (i + 1) q.size := by
            apply bl_inj
            show (bl q).drop (i + 1) = _
            exact (Lib.extract_to_end q (i + 1)).symm
          show Value.tuple #[.string ⟨acc.toArray⟩, .string ⟨((bl q).drop (i + 1)).toArray⟩, .bool true] = _
          rw [e2]
        go_wp2
        go_region_with (go_at_call 15; refine (Try.Builder_String_any w.heap.size w.heap.size acc _ (by exact hib) (by simp; omega)).mono ?_; rintro e w2 ⟨rfl, hb2⟩)
        go_wp2
        rw [Exit.noGoto_ret]
        go_ret3
        rw [HE.out]
        exact ⟨rfl, hbel.drew.trans hb2⟩
      | false =>
        have HN34 : Hid (q[i] ≠ 34) := byte_ne hx h0
        cases h1 : (x == 92) with
        | true =>
          have HC : Hid (q[i] = 92) := byte_of hx h1
          by_cases hl1 : i + 1 < q.size
          · obtain ⟨y, hy⟩ : ∃ y : Int, ((q[i + 1].toNat : Nat) : Int) = y := ⟨_, rfl⟩
            have hyb : 0 ≤ y ∧ y ≤ 255 := by have := q[i + 1].toNat_lt; omega
            have hl2 : (i : Int) + 1 < (q.size : Int) := by omega
            have HD2 : Hid ((bl q).drop (i + 1) = q[i + 1] :: (bl q).drop (i + 2)) := bl_drop q (i + 1) hl1
            have HY : Hid (((q[i + 1].toNat : Nat) : Int) = y) := hy
            cases hb3 : bad3 q[i + 1] with
            | false =>
              have HR2 : Hid (readQ ((bl q).drop (i + 2)) (acc ++ [q[i + 1]]) = readQ (bl q) []) := by
                show _ = _
                rw [← HR.out, HD.out, HC.out, HD2.out, q_esc _ _ _ hb3]
              go_wp2_with (first | (go_at_call 16; refine (cr3 q[i + 1] y HY.out _).mono ?_; rintro e w1 ⟨rfl, q1, rfl⟩) | (go_at_call 17; refine (writeByte_any w.heap.size w.heap.size (Lib.byteCells acc) y _ (by exact hib) (by simp [Lib.byteCells]; omega) (by simp; omega)).mono ?_; rintro e w2 ⟨rfl, hib2, hb2⟩))
              have hib3 : Lib.IsBuilder 31 5 w.heap.size w.heap.size (Lib.byteCells (acc ++ [q[i + 1]])) w2 := by
                rw [← byteCells_append]
                have e : Lib.byteCells [q[i + 1]] = [.int .u8 y] := by rw [← HY.out]; rfl
                rw [e]; exact hib2
              have hbel3 : Below w.heap.size w w2 := (below_drewN hbel q1).trans hb2
              clear hib hib2 hb2
              go_roundw
              case rel => exact ⟨i + 2, acc ++ [q[i + 1]], by omega, by simp; omega, by go_num, HR2, hib3, hbel3⟩
              case measure => simp [intOf]; omega
            | true =>
              have HE : Hid (readQ (bl q) [] = none) := by
                show _ = _
                rw [← HR.out, HD.out, HC.out, HD2.out, q_esc_bad _ _ _ hb3]
              have H6 : bad6 q[i] = true := by rw [HC.out]; decide
              have HX : Hid (((q[i].toNat : Nat) : Int) = x) := hx
              go_wp2_with (first | (go_at_call_of 16 y; refine (cr3 q[i + 1] y HY.out _).mono ?_; rintro e w1 ⟨rfl, q1, rfl⟩) | (go_at_call 16; refine (cr6 q[i] x HX.out _).mono ?_; rintro e w1 ⟨rfl, q2, rfl⟩))
              rw [Exit.noGoto_ret]
              go_ret3
              rw [HE.out]
              exact ⟨rfl, below_drewN hbel _⟩
          · have HE : Hid (readQ (bl q) [] = none) := by
              show _ = _
              rw [← HR.out, HD.out, HC.out, List.drop_eq_nil_of_le (by rw [bl_length]; omega), q_esc_last]
            have H6 : bad6 q[i] = true := by rw [HC.out]; decide
            have HX : Hid (((q[i].toNat : Nat) : Int) = x) := hx
            have hl2 : ¬ (i : Int) + 1 < (q.size : Int) := by omega
            go_wp2_with (go_at_call 16; refine (cr6 q[i] x HX.out _).mono ?_; rintro e w1 ⟨rfl, q2, rfl⟩)
            rw [Exit.noGoto_ret]
            go_ret3
            rw [HE.out]
            exact ⟨rfl, below_drewN hbel q2⟩
        | false =>
          have HN92 : Hid (q[i] ≠ 92) := byte_ne hx h1
          have HX : Hid (((q[i].toNat : Nat) : Int) = x) := hx
          cases hb6 : bad6 q[i] with
          | false =>
            have HR2 : Hid (readQ ((bl q).drop (i + 1)) (acc ++ [q[i]]) = readQ (bl q) []) := by
              show _ = _
              rw [← HR.out, HD.out, q_byte _ _ _ HN34.out HN92.out hb6]
            go_wp2_with (first | (go_at_call 16; refine (cr6 q[i] x HX.out _).mono ?_; rintro e w1 ⟨rfl, q1, rfl⟩) | (go_at_call 17; refine (writeByte_any w.heap.size w.heap.size (Lib.byteCells acc) x _ (by exact hib) (by simp [Lib.byteCells]; omega) (by simp; omega)).mono ?_; rintro e w2 ⟨rfl, hib2, hb2⟩))
            have hib3 : Lib.IsBuilder 31 5 w.heap.size w.heap.size (Lib.byteCells (acc ++ [q[i]])) w2 := by
              rw [← byteCells_append]
              have e : Lib.byteCells [q[i]] = [.int .u8 x] := by rw [← HX.out]; rfl
              rw [e]; exact hib2
            have hbel3 : Below w.heap.size w w2 := (below_drewN hbel q1).trans hb2
            clear hib hib2 hb2
            go_roundw
            case rel => exact ⟨i + 1, acc ++ [q[i]], by omega, by simp; omega, by go_num, HR2, hib3, hbel3⟩
            case measure => simp [intOf]; omega
          | true =>
            have HE : Hid (readQ (bl q) [] = none) := by
              show _ = _
              rw [← HR.out, HD.out, q_bad _ _ _ HN34.out HN92.out hb6]
            go_wp2_with (go_at_call 16; refine (cr6 q[i] x HX.out _).mono ?_; rintro e w1 ⟨rfl, q2, rfl⟩)
            rw [Exit.noGoto_ret]
            go_ret3
            rw [HE.out]
            exact ⟨rfl, below_drewN hbel q2⟩
    · have HE : Hid (readQ (bl q) [] = none) := by
        show _ = _
        rw [← HR.out, List.drop_eq_nil_of_le (by rw [bl_length]; omega)]; rfl
      go_wp2
      rw [Exit.noGoto_ret]
      go_ret3
      rw [HE.out]
      exact ⟨rfl, hbel⟩

end Go.Proofs.Qxb6604077a
