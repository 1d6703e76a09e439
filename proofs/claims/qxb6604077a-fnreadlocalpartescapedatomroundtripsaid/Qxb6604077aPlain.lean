/-
  THE PLAIN LAWS of seat b6604077a: lists of bytes, no Go in sight.
-/
namespace Go.Proofs.Qxb6604077a

def bad3 (c : UInt8) : Bool := [0, 10, 13].contains c
def bad6 (c : UInt8) : Bool := [0, 9, 10, 13, 34, 92].contains c

/-- What readLocalPart does behind an opening quote. -/
def readQ : List UInt8 → List UInt8 → Option (List UInt8 × List UInt8)
  | [], _ => none
  | [c], acc => if c = 34 then some (acc, []) else none
  | c :: d :: t, acc =>
    if c = 34 then some (acc, d :: t)
    else if c = 92 ∧ bad3 d = false then readQ t (acc ++ [d])
    else if bad6 c = false then readQ (d :: t) (acc ++ [c]) else none

/-- What quoteLocal writes between the quotes. -/
def needsEsc (c : UInt8) : Bool := c == 34 || c == 92 || c == 9
def escQ : List UInt8 → List UInt8
  | [] => []
  | c :: t => if needsEsc c then 92 :: c :: escQ t else c :: escQ t

theorem readQ_cons (c : UInt8) (X acc : List UInt8) (hX : X ≠ []) (h34 : c ≠ 34) (h92 : c ≠ 92) (h6 : bad6 c = false) : readQ (c :: X) acc = readQ X (acc ++ [c]) := by
  cases X with
  | nil => exact absurd rfl hX
  | cons d t => rw [readQ, if_neg h34, if_neg (fun h => h92 h.1), if_pos h6]

theorem bad6_esc (c : UInt8) (he : needsEsc c = false) : c ≠ 34 ∧ c ≠ 92 ∧ bad6 c = bad3 c := by
  unfold needsEsc at he
  simp only [Bool.or_eq_false_iff, beq_eq_false_iff_ne] at he
  obtain ⟨⟨h1, h2⟩, h3⟩ := he
  refine ⟨h1, h2, ?_⟩
  unfold bad6 bad3
  simp [h1, h2, h3]

theorem esc_ok (c : UInt8) (he : needsEsc c = true) : bad3 c = false := by
  unfold needsEsc at he
  simp only [Bool.or_eq_true, beq_iff_eq] at he
  rcases he with (rfl | rfl) | rfl <;> decide

/-- ████ THE PLAIN LAW, quoted. -/
theorem readQ_law (rest : List UInt8) : ∀ (l acc : List UInt8), readQ (escQ l ++ 34 :: rest) acc = if l.any bad3 then none else some (acc ++ l, rest)
  | [], acc => by
    cases rest with
    | nil => simp [escQ, readQ]
    | cons d t => simp [escQ, readQ]
  | c :: t, acc => by
    have ih := readQ_law rest t (acc ++ [c])
    cases he : needsEsc c with
    | true =>
      have h3 := esc_ok c he
      rw [escQ, if_pos he, List.cons_append, List.cons_append, readQ, if_neg (by decide), if_pos ⟨rfl, h3⟩, ih]
      simp [h3, List.append_assoc]
    | false =>
      obtain ⟨h34, h92, h63⟩ := bad6_esc c he
      rw [escQ, if_neg (by rw [he]; simp), List.cons_append]
      cases h3 : bad3 c with
      | true =>
        have hX : ∃ d u, escQ t ++ 34 :: rest = d :: u := by
          cases h : escQ t ++ 34 :: rest with
          | nil => simp at h
          | cons d u => exact ⟨d, u, rfl⟩
        obtain ⟨d, u, hX⟩ := hX
        rw [hX, readQ, if_neg h34, if_neg (fun h => h92 h.1), if_neg (by rw [h63, h3]; simp)]
        simp [h3]
      | false =>
        rw [readQ_cons c _ acc (by simp) h34 h92 (by rw [h63, h3]), ih]
        simp [h3, List.append_assoc]

theorem escQ_length (l : List UInt8) : (escQ l).length ≤ 2 * l.length := by
  induction l with
  | nil => simp [escQ]
  | cons c t ih => rw [escQ]; split <;> simp <;> omega

theorem escQ_snoc (l : List UInt8) (c : UInt8) : escQ (l ++ [c]) = escQ l ++ if needsEsc c then [92, c] else [c] := by
  induction l with
  | nil => simp only [List.nil_append, escQ]
  | cons d t ih =>
    rw [List.cons_append, escQ, escQ, ih]
    split <;> simp

/-! The atoms. -/
def isAtext (c : UInt8) : Bool :=
  (decide (97 ≤ c.toNat) && decide (c.toNat ≤ 122)) || (decide (65 ≤ c.toNat) && decide (c.toNat ≤ 90)) || (decide (48 ≤ c.toNat) && decide (c.toNat ≤ 57)) ||
  [33, 35, 36, 37, 38, 39, 42, 43, 45, 47, 61, 63, 94, 95, 96, 123, 124, 125, 126, 46].contains c

def readA : List UInt8 → List UInt8 → Option (List UInt8 × List UInt8)
  | [], acc => some (acc, [])
  | [c], acc => if c = 92 then none else if isAtext c = true then some (acc ++ [c], []) else some (acc, [c])
  | c :: d :: t, acc => if c = 92 then readA t (acc ++ [d]) else if isAtext c = true then readA (d :: t) (acc ++ [c]) else some (acc, c :: d :: t)

def escA : List UInt8 → List UInt8
  | [] => []
  | c :: t => if isAtext c = true then c :: escA t else 92 :: c :: escA t

theorem readA_stop (rest acc : List UInt8) (h : ∀ c, rest.head? = some c → c ≠ 92 ∧ isAtext c = false) : readA rest acc = some (acc, rest) := by
  cases rest with
  | nil => rfl
  | cons c t =>
    obtain ⟨h1, h2⟩ := h c rfl
    cases t with
    | nil => rw [readA, if_neg h1, if_neg (by rw [h2]; simp)]
    | cons d u => rw [readA, if_neg h1, if_neg (by rw [h2]; simp)]

theorem readA_atext (c : UInt8) (X acc : List UInt8) (h92 : c ≠ 92) (ha : isAtext c = true) : readA (c :: X) acc = readA X (acc ++ [c]) := by
  cases X with
  | nil => simp [readA, h92, ha]
  | cons d t => rw [readA, if_neg h92, if_pos ha]

theorem atext_ne (c : UInt8) (h : isAtext c = true) : c ≠ 92 ∧ c ≠ 34 := by
  constructor <;> (rintro rfl; revert h; decide)

/-- ████ THE PLAIN LAW, atoms: what is read. -/
theorem readA_law (rest : List UInt8) (h : ∀ c, rest.head? = some c → c ≠ 92 ∧ isAtext c = false) : ∀ (l acc : List UInt8), readA (escA l ++ rest) acc = some (acc ++ l, rest)
  | [], acc => by simpa [escA] using readA_stop rest acc h
  | c :: t, acc => by
    have ih := readA_law rest h t (acc ++ [c])
    cases ha : isAtext c with
    | true =>
      rw [escA, if_pos ha, List.cons_append, readA_atext c _ acc (atext_ne c ha).1 ha, ih]
      simp
    | false =>
      rw [escA, if_neg (by rw [ha]; simp), List.cons_append, List.cons_append, readA, if_pos rfl, ih]
      simp

theorem escA_length (l : List UInt8) : (escA l).length ≤ 2 * l.length := by
  induction l with
  | nil => simp [escA]
  | cons c t ih => rw [escA]; split <;> simp <;> omega

theorem escA_snoc (l : List UInt8) (c : UInt8) : escA (l ++ [c]) = escA l ++ if isAtext c = true then [c] else [92, c] := by
  induction l with
  | nil => simp only [List.nil_append, escA]
  | cons d t ih =>
    rw [List.cons_append, escA, escA, ih]
    split <;> simp

/-- The first byte of what is written is no quote. -/
theorem escA_head (l rest : List UInt8) (hl : l ≠ []) : ∃ c t, escA l ++ rest = c :: t ∧ c ≠ 34 := by
  cases l with
  | nil => exact absurd rfl hl
  | cons c t =>
    rw [escA]
    split
    · exact ⟨c, _, rfl, (atext_ne c ‹_›).2⟩
    · exact ⟨92, _, rfl, by decide⟩

end Go.Proofs.Qxb6604077a
