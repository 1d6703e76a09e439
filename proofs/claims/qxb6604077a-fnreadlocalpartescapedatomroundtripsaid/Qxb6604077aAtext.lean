/-
  isAtext, escapeNonAtext, dotPiecesNonEmpty, walked.
-/
import Derived.Test.Qxb6604077aMakers
namespace Go.Proofs.Qxb6604077a
open Go.RowKit

/-- isAtext over the number, as the walk meets it. -/
def letterI (x : Int) : Bool := (decide (97 ≤ x) && decide (x ≤ 122)) || (decide (65 ≤ x) && decide (x ≤ 90)) || (decide (48 ≤ x) && decide (x ≤ 57))
def signI (x : Int) : Bool := [33, 35, 36, 37, 38, 39, 42, 43, 45, 47, 61, 63, 94, 95, 96, 123, 124, 125, 126, 46].contains x
def atextI (x : Int) : Bool := letterI x || signI x

set_option maxHeartbeats 4000000 in
set_option maxRecDepth 100000 in
theorem isAtext_int (x : Int) (w : World) (h0 : 0 ≤ x) (h1 : x ≤ 255) :
    Calls Try.prog 10 #[.int .u8 x] w fun e w' => e = .returned (.bool (atextI x)) ∧ w' = w := by
  go_enter Try.func10, Try.ntmps10
  go_wp2
  all_goals
    go_ret
    refine ⟨ret_bool ?_, rfl⟩
    try simp only [beq_iff_eq, beq_eq_false_iff_ne, ne_eq] at *
    simp [atextI, letterI, signI]
    omega

theorem contains_int {c : UInt8} {x : Int} (hx : ((c.toNat : Nat) : Int) = x) : ∀ l : List UInt8, l.contains c = (l.map fun k => ((k.toNat : Nat) : Int)).contains x
  | [] => rfl
  | k :: l => by rw [List.contains_cons, List.map_cons, List.contains_cons, beq_byte c k hx, contains_int hx l]

theorem atext_int {c : UInt8} {x : Int} (hx : ((c.toNat : Nat) : Int) = x) : isAtext c = atextI x := by
  unfold isAtext atextI letterI signI
  rw [contains_int hx]
  have d : ∀ k : Nat, decide (k ≤ c.toNat) = decide ((k : Int) ≤ x) := fun k => by rw [Bool.eq_iff_iff]; simp; omega
  have d' : ∀ k : Nat, decide (c.toNat ≤ k) = decide (x ≤ (k : Int)) := fun k => by rw [Bool.eq_iff_iff]; simp; omega
  rw [d, d, d, d', d', d']
  rfl

theorem isAtext_byte (c : UInt8) (x : Int) (hx : ((c.toNat : Nat) : Int) = x) (w : World) :
    Calls Try.prog 10 #[.int .u8 x] w fun e w' => e = .returned (.bool (isAtext c)) ∧ w' = w := by
  rw [atext_int hx]
  have := c.toNat_lt
  exact isAtext_int x w (by omega) (by omega)

theorem ea_yes {s : ByteArray} {k : Nat} (h : k < s.size) (hn : isAtext s[k] = true) : escA ((bl s).take (k + 1)) = escA ((bl s).take k) ++ [s[k]] := by
  rw [bl_take s k h, escA_snoc, if_pos hn]
theorem ea_no {s : ByteArray} {k : Nat} (h : k < s.size) (hn : isAtext s[k] = false) : escA ((bl s).take (k + 1)) = escA ((bl s).take k) ++ [92] ++ [s[k]] := by
  rw [bl_take s k h, escA_snoc, if_neg (by rw [hn]; simp)]; simp
theorem ea_len {s : ByteArray} {k : Nat} (h : k ≤ s.size) : (escA ((bl s).take k)).length ≤ 2 * k := by
  have := escA_length ((bl s).take k)
  rw [List.length_take, bl_length] at this; omega

set_option maxHeartbeats 1000000 in
theorem escape_any (s : ByteArray) (w : World) (hs : s.size ≤ 1048576) :
    Calls Try.prog 11 #[.string s] w fun e w' => e = .returned (.string ⟨(escA (bl s)).toArray⟩) ∧ Below w.heap.size w w' := by
  obtain ⟨i0, hi, hz0, hz1, hz2⟩ := info_parts infoByte
  go_enter Try.func11, Try.ntmps11
  go_wp2_with (at_make; refine wpList_make_own _ rfl _ _ 28 rfl w.heap.size 5 i0 (.int .u8 0) 1 Try.underlying28 hi hz0 hz1 _ _ _ (2 * s.size) rfl rfl (by omega) ?b2 ?b3 (Nat.le_refl _) ?_)
  case b2 => rw [hz2]; omega
  case b3 => unfold maxLen; omega
  intro w1 hown1 hgrow1
  have hb1 : Below w.heap.size w w1 := (Below.refl _ _).grown hgrow1 (Nat.le_refl _) (fun k hk => by cases hk)
  clear hgrow1
  go_wp2
  go_loopw [3, 4] (fun v j wr => ∃ k : Nat, k ≤ s.size ∧ j = .int .i64 k ∧ wr.ownsRow w.heap.size 5 1 v (escA ((bl s).take k)).length (Lib.byteCells (escA ((bl s).take k))) ∧ Below w.heap.size w wr) (fun _ j _ => s.size - (intOf j).toNat)
  case atStart => exact ⟨0, Nat.zero_le _, rfl, hown1, hb1⟩
  case round =>
    obtain ⟨k, hk, rfl, hown, hbel⟩ := hrel
    clear hown1 hb1
    have hln := ea_len hk
    by_cases hlt : k < s.size
    · obtain ⟨x, hx⟩ : ∃ x : Int, ((s[k].toNat : Nat) : Int) = x := ⟨_, rfl⟩
      have HX : Hid (((s[k].toNat : Nat) : Int) = x) := hx
      cases ha : isAtext s[k] with
      | true =>
        go_wp2_with (first | (go_at_call 10; refine (isAtext_byte s[k] x HX.out _).mono ?_; rintro e w1 ⟨rfl, hw1⟩; rw [hw1]; clear hw1) | (at_builtin; refine wpList_append_own _ rfl (.tmp 25) (.tmp 27) 28 rfl w.heap.size 5 i0 (.int .u8 0) 1 1 Try.underlying28 hi hz0 hz1 hz2 rfl (by decide) _ _ _ rfl (hown.alloc _) ⟨wr.heap.size, 0, none⟩ 1 1 [.int .u8 x] rfl rfl (cell_one_new _ _ _) (fun u hu => by simp at hu; subst hu; rfl) ?c4 ?c5 ?c6 ?_))
        case c4 => unfold maxLen; omega
        case c5 => omega
        case c6 => have := hbel.size; simp; omega
        intro v4 w4 hown4 hgrow4 _
        have hbel4 : Below w.heap.size w w4 := (hbel.alloc hbel.size _).grown hgrow4 (by have := hbel.size; simp; omega) (fun k hk => (hown.lt k hk).1)
        have hown5 : w4.ownsRow w.heap.size 5 1 v4 (escA ((bl s).take (k + 1))).length (Lib.byteCells (escA ((bl s).take (k + 1)))) := by
          rw [ea_yes hlt ha]
          have e : Lib.byteCells (escA ((bl s).take k) ++ [s[k]]) = Lib.byteCells (escA ((bl s).take k)) ++ [.int .u8 x] := by
            rw [← HX.out]; simp [Lib.byteCells]
          rw [e, List.length_append]
          exact hown4
        clear hgrow4 hown hown4
        go_wp2
        go_roundw
        case rel => exact ⟨k + 1, by omega, by go_num, hown5, hbel4⟩
        case measure => simp [intOf]; omega
      | false =>
        go_wp2_with (first | (go_at_call 10; refine (isAtext_byte s[k] x HX.out _).mono ?_; rintro e w1 ⟨rfl, hw1⟩; rw [hw1]; clear hw1) | (at_builtin; refine wpList_append_own _ rfl (.tmp 22) (.tmp 23) 28 rfl w.heap.size 5 i0 (.int .u8 0) 1 1 Try.underlying28 hi hz0 hz1 hz2 rfl (by decide) _ _ _ rfl (hown.alloc _) ⟨wr.heap.size, 0, none⟩ 1 1 (Lib.byteCells [92]) rfl rfl (cells_byte wr [92]) (byteCells_one _) ?c1 ?c2 ?c3 ?_))
        case c1 => unfold maxLen; omega
        case c2 => omega
        case c3 => have := hbel.size; simp; omega
        intro v3 w3 hown3 hgrow3 _
        have hbel3 : Below w.heap.size w w3 := (hbel.alloc hbel.size _).grown hgrow3 (by have := hbel.size; simp; omega) (fun k hk => (hown.lt k hk).1)
        clear hgrow3 hown hbel
        go_wp2_with (at_builtin; refine wpList_append_own _ rfl (.tmp 25) (.tmp 27) 28 rfl w.heap.size 5 i0 (.int .u8 0) 1 1 Try.underlying28 hi hz0 hz1 hz2 rfl (by decide) _ _ _ rfl (hown3.alloc _) ⟨w3.heap.size, 0, none⟩ 1 1 [.int .u8 x] rfl rfl (cell_one_new _ _ _) (fun u hu => by simp at hu; subst hu; rfl) ?c4 ?c5 ?c6 ?_)
        case c4 => unfold maxLen; omega
        case c5 => omega
        case c6 => have := hbel3.size; simp; omega
        intro v4 w4 hown4 hgrow4 _
        have hbel4 : Below w.heap.size w w4 := (hbel3.alloc hbel3.size _).grown hgrow4 (by have := hbel3.size; simp; omega) (fun k hk => (hown3.lt k hk).1)
        have hown5 : w4.ownsRow w.heap.size 5 1 v4 (escA ((bl s).take (k + 1))).length (Lib.byteCells (escA ((bl s).take (k + 1)))) := by
          rw [ea_no hlt ha]
          have e : Lib.byteCells (escA ((bl s).take k) ++ [92] ++ [s[k]]) = Lib.byteCells (escA ((bl s).take k)) ++ (Lib.byteCells [92] ++ [.int .u8 x]) := by
            rw [← HX.out]; simp [Lib.byteCells]
          rw [e, List.length_append, List.length_append]
          simpa using hown4
        clear hgrow4 hown3 hown4 hbel3
        go_wp2
        go_roundw
        case rel => exact ⟨k + 1, by omega, by go_num, hown5, hbel4⟩
        case measure => simp [intOf]; omega
    · have hall : (bl s).take k = bl s := List.take_of_length_le (by rw [bl_length]; omega)
      rw [hall] at hown
      have hconv := conv_own hown
      clear hown
      go_wp2
      go_ret
      exact ⟨rfl, hbel⟩

end Go.Proofs.Qxb6604077a
