/-
  THE PLAIN LAW of seat b6000647a, its second part: the scan.
-/
import Derived.Test.Qxb6000647aPlain
namespace Go.Proofs.Qxb6000647a

def delim (x : Int) : Bool := [32, 9, 13, 10, 44, 91, 93, 123, 125].contains x
/-- The pattern stands at place i. -/
def occ (t pat : List Int) (i : Nat) : Bool := pat.isPrefixOf (t.drop i)
def hit (t pat : List Int) (i : Nat) : Bool := occ t pat i && (decide (i + pat.length = t.length) || delim (t.getD (i + pat.length) 0))

/-- The law's own scan, from place i on. -/
def scan (t pat : List Int) : Nat → Nat → Nat
  | 0, _ => 0
  | f + 1, i => if i + pat.length ≤ t.length then (if hit t pat i = true then 1 + brk t i else scan t pat f (i + 1)) else 0

theorem scan_fuel (t pat : List Int) : ∀ (f g i : Nat), t.length < i + f → t.length < i + g → scan t pat f i = scan t pat g i
  | 0, 0, _, _, _ => rfl
  | 0, g + 1, i, h, _ => by rw [scan, scan, if_neg (by omega)]
  | f + 1, 0, i, _, h => by rw [scan, scan, if_neg (by omega)]
  | f + 1, g + 1, i, hf, hg => by rw [scan, scan, scan_fuel t pat f g (i + 1) (by omega) (by omega)]

def scanAt (t pat : List Int) (i : Nat) : Nat := scan t pat (t.length + 1) i

theorem scanAt_step (t pat : List Int) (i : Nat) : scanAt t pat i = if i + pat.length ≤ t.length then (if hit t pat i = true then 1 + brk t i else scanAt t pat (i + 1)) else 0 := by
  unfold scanAt
  rw [scan]
  by_cases h : i + pat.length ≤ t.length
  · rw [if_pos h, if_pos h, scan_fuel t pat t.length (t.length + 1) (i + 1) (by omega) (by omega)]
  · rw [if_neg h, if_neg h]

theorem occ_room {t pat : List Int} {i : Nat} (hp : pat ≠ []) (h : occ t pat i = true) : i + pat.length ≤ t.length := by
  unfold occ at h
  rw [List.isPrefixOf_iff_prefix] at h
  have := h.length_le
  rw [List.length_drop] at this
  have : 0 < pat.length := List.length_pos_iff.2 hp
  omega

/-- Where no occurrence begins from i to j the scan comes to j. -/
theorem scan_skip {t pat : List Int} (hp : pat ≠ []) : ∀ (d i : Nat), (∀ k, i ≤ k → k < i + d → occ t pat k = false) → scanAt t pat i = scanAt t pat (i + d)
  | 0, _, _ => rfl
  | d + 1, i, h => by
    have h0 := h i (Nat.le_refl _) (by omega)
    have hh : hit t pat i = false := by unfold hit; rw [h0]; rfl
    have ih := scan_skip hp d (i + 1) (fun k hk1 hk2 => h k (by omega) (by omega))
    rw [show i + (d + 1) = (i + 1) + d from by omega, ← ih]
    by_cases hr : i + pat.length ≤ t.length
    · rw [scanAt_step, if_pos hr, if_neg (by rw [hh]; simp)]
    · rw [scanAt_step, if_neg hr, scanAt_step, if_neg (by omega)]

/-- No occurrence from i on: 0. -/
theorem scan_none {t pat : List Int} (hp : pat ≠ []) (i : Nat) (h : ∀ k, i ≤ k → occ t pat k = false) : scanAt t pat i = 0 := by
  rw [scan_skip hp (t.length + 1) i (fun k hk _ => h k hk), scanAt_step, if_neg (by omega)]

/-- Inside an occurrence none begins: the head of the pattern is not in its tail. -/
theorem occ_inside {t tl : List Int} {h0 : Int} (hn : ¬ h0 ∈ tl) {p : Nat} (ho : occ t (h0 :: tl) p = true) {k : Nat} (h1 : p < k) (h2 : k < p + (tl.length + 1)) : occ t (h0 :: tl) k = false := by
  cases hk : occ t (h0 :: tl) k with
  | false => rfl
  | true =>
    unfold occ at ho hk
    rw [List.isPrefixOf_iff_prefix] at ho hk
    obtain ⟨r1, e1⟩ := ho
    obtain ⟨r2, e2⟩ := hk
    have a1 : t[k]? = some h0 := by
      have : (t.drop k)[0]? = some h0 := by rw [← e2]; rfl
      rw [List.getElem?_drop] at this; simpa using this
    have a2 : t[k]? = tl[k - p - 1]? := by
      have e : (t.drop p)[k - p]? = t[k]? := by rw [List.getElem?_drop]; congr 1; omega
      obtain ⟨j, hj⟩ : ∃ j, k - p = j + 1 := ⟨k - p - 1, by omega⟩
      rw [← e, ← e1, List.getElem?_append_left (by simp; omega), hj, List.getElem?_cons_succ]
      rfl
    rw [a1] at a2
    exact absurd (List.mem_of_getElem? a2.symm) hn

/-- Where it stands and is no hit the scan goes on behind it. -/
theorem scan_miss {t tl : List Int} {h0 : Int} (hn : ¬ h0 ∈ tl) {p : Nat} (ho : occ t (h0 :: tl) p = true) (hh : hit t (h0 :: tl) p = false) : scanAt t (h0 :: tl) p = scanAt t (h0 :: tl) (p + (tl.length + 1)) := by
  have hr := occ_room (by simp) ho
  rw [scanAt_step, if_pos hr, if_neg (by rw [hh]; simp)]
  have := scan_skip (t := t) (pat := h0 :: tl) (by simp) tl.length (p + 1) (fun k hk1 hk2 => occ_inside hn ho (by omega) (by omega))
  rw [this]; congr 1; omega
theorem scan_hit {t pat : List Int} (hp : pat ≠ []) {p : Nat} (hh : hit t pat p = true) : scanAt t pat p = 1 + brk t p := by
  have ho : occ t pat p = true := by unfold hit at hh; simp at hh; exact hh.1
  rw [scanAt_step, if_pos (occ_room hp ho), if_pos hh]

/-- The byte where the pattern stands is its head. -/
theorem occ_head {t tl : List Int} {h0 : Int} {p : Nat} (ho : occ t (h0 :: tl) p = true) : t[p]? = some h0 := by
  unfold occ at ho
  rw [List.isPrefixOf_iff_prefix] at ho
  obtain ⟨r1, e1⟩ := ho
  have : (t.drop p)[0]? = some h0 := by rw [← e1]; rfl
  rw [List.getElem?_drop] at this; simpa using this

/-! The library's index. -/
theorem occ_bytes {t pat : List Int} (ht : ∀ x ∈ t, 0 ≤ x ∧ x < 256) (hp : ∀ x ∈ pat, 0 ≤ x ∧ x < 256) (i : Nat) : Lib.occAt (Lib.bytesOf t) (Lib.bytesOf pat) i = occ t pat i := by
  unfold Lib.occAt occ
  rw [Bool.eq_iff_iff, List.isPrefixOf_iff_prefix, List.isPrefixOf_iff_prefix, ← Lib.bytesOf_drop, List.prefix_iff_eq_take, List.prefix_iff_eq_take, Lib.bytesOf_length, ← Lib.bytesOf_take]
  constructor
  · intro h
    exact map_u8_inj hp (fun z hz => ht z (List.mem_of_mem_drop (List.mem_of_mem_take hz))) h
  · intro h; rw [← h]

theorem occ_drop (t pat : List Int) (at_ i : Nat) : occ (t.drop at_) pat i = occ t pat (at_ + i) := by
  unfold occ; rw [List.drop_drop]

/-- What bytes.Index answers over what is left of t. -/
theorem index_cases {t pat : List Int} (ht : ∀ x ∈ t, 0 ≤ x ∧ x < 256) (hp : ∀ x ∈ pat, 0 ≤ x ∧ x < 256) (at_ : Nat) :
    (Lib.index (Lib.bytesOf (t.drop at_)) (Lib.bytesOf pat) = -1 ∧ ∀ k, at_ ≤ k → k ≤ t.length → occ t pat k = false) ∨
    ∃ i : Nat, Lib.index (Lib.bytesOf (t.drop at_)) (Lib.bytesOf pat) = i ∧ occ t pat (at_ + i) = true ∧ ∀ k, at_ ≤ k → k < at_ + i → occ t pat k = false := by
  have hd : ∀ x ∈ t.drop at_, 0 ≤ x ∧ x < 256 := fun x hx => ht x (List.mem_of_mem_drop hx)
  rcases Lib.index_spec (Lib.bytesOf (t.drop at_)) (Lib.bytesOf pat) with ⟨h1, h2⟩ | ⟨i, h1, h2, h3, h4⟩
  · refine .inl ⟨h1, fun k hk1 hk2 => ?_⟩
    have := h2 (k - at_) (by rw [Lib.bytesOf_length, List.length_drop]; omega)
    rw [occ_bytes hd hp, occ_drop, show at_ + (k - at_) = k from by omega] at this
    exact this
  · refine .inr ⟨i, h1, ?_, fun k hk1 hk2 => ?_⟩
    · rw [occ_bytes hd hp, occ_drop] at h3; exact h3
    · have := h4 (k - at_) (by omega)
      rw [occ_bytes hd hp, occ_drop, show at_ + (k - at_) = k from by omega] at this
      exact this

theorem occ_past {t pat : List Int} (hp : pat ≠ []) {k : Nat} (h : t.length < k) : occ t pat k = false := by
  cases hk : occ t pat k with
  | false => rfl
  | true => have := occ_room hp hk; omega

/-- The three ends of a round of aliasLine. -/
theorem round_none {t pat : List Int} (hp : pat ≠ []) {at_ : Nat} (h : ∀ k, at_ ≤ k → k ≤ t.length → occ t pat k = false) (H : scanAt t pat at_ = scanAt t pat 0) : scanAt t pat 0 = 0 := by
  rw [← H]
  refine scan_none hp at_ (fun k hk => ?_)
  by_cases hk2 : k ≤ t.length
  · exact h k hk hk2
  · exact occ_past hp (by omega)
theorem round_hit {t pat : List Int} (hp : pat ≠ []) {at_ i : Nat} (h : ∀ k, at_ ≤ k → k < at_ + i → occ t pat k = false) (hh : hit t pat (at_ + i) = true) (H : scanAt t pat at_ = scanAt t pat 0) : scanAt t pat 0 = 1 + brk t (at_ + i) := by
  rw [← H, scan_skip hp i at_ h, scan_hit hp hh]
theorem round_miss {t tl : List Int} {h0 : Int} (hn : ¬ h0 ∈ tl) {at_ i : Nat} (h : ∀ k, at_ ≤ k → k < at_ + i → occ t (h0 :: tl) k = false) (ho : occ t (h0 :: tl) (at_ + i) = true) (hh : hit t (h0 :: tl) (at_ + i) = false) (H : scanAt t (h0 :: tl) at_ = scanAt t (h0 :: tl) 0) :
    scanAt t (h0 :: tl) (at_ + i + (tl.length + 1)) = scanAt t (h0 :: tl) 0 := by
  rw [← H, scan_skip (by simp) i at_ h, scan_miss hn ho hh]

/-- The line, as lineOf reckons it. -/
theorem line_law {t tl : List Int} {p : Nat} (ho : occ t (42 :: tl) p = true) : (t.take p).count 10 + (t.take p).count 13 = brk t p + pairs (t.take p) := by
  have h := occ_head ho
  rw [brk_take t p (by rw [h]; simp), brk_count]

end Go.Proofs.Qxb6000647a
