/-
  THE PLAIN LAWS of cutToken: lists of bytes, no Go in sight.
-/
import Derived.Test.Qxb6000905aRune
import Derived.Lib.DecodeN
import Derived.Lib.Strings
namespace Go.Proofs.Qxb6000905a

def bl (s : ByteArray) : List UInt8 := s.data.toList
theorem bl_length (s : ByteArray) : (bl s).length = s.size := by unfold bl; rfl
theorem bl_inj {s t : ByteArray} (h : bl s = bl t) : s = t := by
  obtain ⟨⟨l⟩⟩ := s
  obtain ⟨⟨m⟩⟩ := t
  unfold bl at h
  simp at h
  rw [h]
theorem bl_append (s t : ByteArray) : bl (s ++ t) = bl s ++ bl t := by unfold bl; simp
theorem bl_extract (s : ByteArray) (a b : Nat) : bl (s.extract a b) = ((bl s).drop a).take (b - a) := Lib.extract_data s a b
theorem bl_get (s : ByteArray) (k : Nat) (h : k < s.size) : (bl s)[k]? = some s[k] := by
  unfold bl
  rw [List.getElem?_eq_getElem (by simpa using h)]
  rfl

def tc (c : UInt8) : Bool := tchI ((c.toNat : Nat) : Int)
theorem tchI_far {x : Int} (h : 128 ≤ x) : tchI x = false := by
  unfold tchI letterI signI
  simp
  omega

/-- How many bytes the token has. -/
def cutAt : List UInt8 → Nat
  | [] => 0
  | c :: t => if tc c = true then cutAt t + 1 else 0

theorem cutAt_le : ∀ l : List UInt8, cutAt l ≤ l.length
  | [] => Nat.le_refl _
  | c :: t => by
    rw [cutAt]
    split
    · have := cutAt_le t; simp; omega
    · exact Nat.zero_le _
theorem cutAt_all : ∀ l : List UInt8, (l.take (cutAt l)).all tc = true
  | [] => rfl
  | c :: t => by
    rw [cutAt]
    split
    · rename_i h
      rw [List.take_succ_cons, List.all_cons, h, cutAt_all t]; rfl
    · rfl
theorem cutAt_stop : ∀ (l : List UInt8) (c : UInt8), l[cutAt l]? = some c → tc c = false
  | [], c, h => by simp at h
  | d :: t, c, h => by
    rw [cutAt] at h
    split at h
    · rw [List.getElem?_cons_succ] at h
      exact cutAt_stop t c h
    · rename_i hd
      simp at h
      rw [← h]; simpa using hd
theorem cutAt_full : ∀ l : List UInt8, (cutAt l = l.length) ↔ l.all tc = true
  | [] => by simp [cutAt]
  | c :: t => by
    rw [cutAt, List.all_cons]
    have ih := cutAt_full t
    split
    · rename_i h
      rw [h, Bool.true_and, ← ih]; simp
    · rename_i h
      simp at h
      rw [h]; simp
theorem cutAt_append : ∀ l m : List UInt8, l.all tc = false → cutAt (l ++ m) = cutAt l
  | [], _, h => by simp at h
  | c :: t, m, h => by
    rw [List.cons_append, cutAt, cutAt]
    cases hc : tc c with
    | false => rfl
    | true =>
      rw [List.all_cons, hc, Bool.true_and] at h
      rw [if_pos rfl, if_pos rfl, cutAt_append t m h]

/-- A rune that a byte beyond ASCII opens lies beyond ASCII. -/
theorem decodeN_far (n b0 b1 b2 b3 : Nat) (h : 128 ≤ b0) : 128 ≤ (Lib.decodeN n b0 b1 b2 b3).1 := by
  unfold Lib.decodeN
  repeat' split
  all_goals first | omega | (simp only []; omega)
/-- And the bytes that it takes lie beyond ASCII. -/
theorem decodeN_skip (n b0 b1 b2 b3 : Nat) (h : 128 ≤ b0) : (1 < (Lib.decodeN n b0 b1 b2 b3).2 → 128 ≤ b1) ∧ (2 < (Lib.decodeN n b0 b1 b2 b3).2 → 128 ≤ b2) ∧ (3 < (Lib.decodeN n b0 b1 b2 b3).2 → 128 ≤ b3) ∧ (Lib.decodeN n b0 b1 b2 b3).2 ≤ 4 ∧ 1 ≤ (Lib.decodeN n b0 b1 b2 b3).2 := by
  unfold Lib.decodeN
  repeat' split
  all_goals (simp only []; omega)

theorem get_bang (s : ByteArray) (k : Nat) (h : k < s.size) : s.get! k = s[k] := by
  show s.data[k]! = s.data[k]
  exact getElem!_pos s.data k h
theorem decode_far (s : ByteArray) (k : Nat) (h : k < s.size) (hb : 128 ≤ (s[k]).toNat) : 128 ≤ (Utf8.decode s k).1 := by
  rw [Lib.decode_at]
  exact decodeN_far _ _ _ _ _ (by rw [get_bang s k h]; exact hb)

theorem drop_cons (s : ByteArray) (k : Nat) (h : k < s.size) : (bl s).drop k = s[k] :: (bl s).drop (k + 1) := by
  rw [List.drop_eq_getElem_cons (by rw [bl_length]; exact h)]
  rfl

theorem idx_law (s : ByteArray) : ∀ (f pos : Nat), s.size ≤ pos + f → Lib.idxFuncFrom (fun x => !tchI (x : Int)) true s f pos = if pos + cutAt ((bl s).drop pos) < s.size then ((pos + cutAt ((bl s).drop pos) : Nat) : Int) else -1
  | 0, pos, h => by rw [if_neg (by omega)]; rfl
  | f + 1, pos, h => by
    rw [Lib.idxFuncFrom]
    by_cases hp : pos < s.size
    · rw [if_pos hp, drop_cons s pos hp, cutAt]
      cases hc : tc s[pos] with
      | true =>
        have h128 : (s[pos]).toNat < 128 := by
          rcases Nat.lt_or_ge (s[pos]).toNat 128 with g | g
          · exact g
          · unfold tc at hc; rw [tchI_far (by omega)] at hc; exact absurd hc (by simp)
        have hd := decode_ascii s pos hp h128
        have hc' : tchI (((s[pos]).toNat : Nat) : Int) = true := hc
        rw [hd]
        simp only []
        simp only [if_true]
        rw [if_neg (by rw [hc']; simp), idx_law s f (pos + 1) (by omega), show pos + 1 + cutAt ((bl s).drop (pos + 1)) = pos + (cutAt ((bl s).drop (pos + 1)) + 1) from by omega]
      | false =>
        have hr : tchI ((Utf8.decode s pos).1 : Int) = false := by
          rcases Nat.lt_or_ge (s[pos]).toNat 128 with g | g
          · rw [decode_ascii s pos hp g]; exact hc
          · have := decode_far s pos hp g
            exact tchI_far (by omega)
        simp only [Bool.false_eq_true, if_false, Nat.add_zero]
        rw [if_pos (by rw [hr]; rfl), if_pos hp]
    · rw [if_neg hp, if_neg (by omega)]

/-- Where cutToken cuts. -/
def cutS (s : ByteArray) : Nat := cutAt (bl s)
theorem cutS_le (s : ByteArray) : cutS s ≤ s.size := by rw [← bl_length]; exact cutAt_le _
theorem idx_all (s : ByteArray) : Lib.idxFunc (fun x => !tchI (x : Int)) true s = if cutS s < s.size then (cutS s : Int) else -1 := by
  unfold Lib.idxFunc cutS
  rw [idx_law s s.size 0 (by omega), List.drop_zero, Nat.zero_add]

theorem split_back (s : ByteArray) (k : Nat) : s.extract 0 k ++ s.extract k s.size = s := by
  apply bl_inj
  rw [bl_append, bl_extract, bl_extract, List.drop_zero, Nat.sub_zero, ← bl_length s]
  rw [List.take_of_length_le (l := (bl s).drop k) (by simp), List.take_append_drop]
theorem extract_zero (s : ByteArray) : s.extract 0 s.size = s := by
  apply bl_inj
  rw [bl_extract, List.drop_zero, Nat.sub_zero, ← bl_length s, List.take_length]
theorem extract_end (s : ByteArray) : s.extract s.size s.size = ⟨#[]⟩ := by
  apply bl_inj
  rw [bl_extract, Nat.sub_self, List.take_zero]; rfl

end Go.Proofs.Qxb6000905a
