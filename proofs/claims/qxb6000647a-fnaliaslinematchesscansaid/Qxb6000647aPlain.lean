/-
  THE PLAIN LAW of seat b6000647a: lists of bytes (as integers), no Go in sight.
-/
import Derived.Lib.Bytes
import Derived.Lib.IndexMore
namespace Go.Proofs.Qxb6000647a

/-! Bytes as numbers. -/
theorem u8_inj {x y : Int} (hx : 0 ≤ x ∧ x < 256) (hy : 0 ≤ y ∧ y < 256) (h : UInt8.ofNat x.toNat = UInt8.ofNat y.toNat) : x = y := by
  have := congrArg UInt8.toNat h
  simp at this
  omega
theorem map_u8_inj : ∀ {xs ys : List Int}, (∀ x ∈ xs, 0 ≤ x ∧ x < 256) → (∀ y ∈ ys, 0 ≤ y ∧ y < 256) → (xs.map fun n => UInt8.ofNat n.toNat) = (ys.map fun n => UInt8.ofNat n.toNat) → xs = ys
  | [], [], _, _, _ => rfl
  | [], _ :: _, _, _, h => by simp at h
  | _ :: _, [], _, _, h => by simp at h
  | x :: xs, y :: ys, hx, hy, h => by
    simp only [List.map_cons, List.cons.injEq] at h
    rw [u8_inj (hx x (by simp)) (hy y (by simp)) h.1, map_u8_inj (fun z hz => hx z (by simp [hz])) (fun z hz => hy z (by simp [hz])) h.2]

/-! Line breaks. -/
/-- Is there a break at the head of l? -/
def b0 : List Int → Nat
  | [] => 0
  | c :: u => if c = 10 then 1 else if c = 13 ∧ ¬ u.head? = some 10 then 1 else 0
/-- How many breaks there are ahead of place i. -/
def brk : List Int → Nat → Nat
  | _, 0 => 0
  | [], _ + 1 => 0
  | c :: u, i + 1 => b0 (c :: u) + brk u i
/-- How many there are in all of l. -/
def brkAll : List Int → Nat
  | [] => 0
  | c :: u => b0 (c :: u) + brkAll u
/-- How many pairs CR LF. -/
def pairs : List Int → Nat
  | [] => 0
  | c :: u => (if c = 13 ∧ u.head? = some 10 then 1 else 0) + pairs u

theorem brk_succ : ∀ (t : List Int) (i : Nat), i < t.length → brk t (i + 1) = brk t i + b0 (t.drop i)
  | [], _, h => by simp at h
  | c :: u, 0, _ => by cases u <;> simp [brk]
  | c :: u, i + 1, h => by
    have ih := brk_succ u i (by simpa using h)
    show b0 (c :: u) + brk u (i + 1) = (b0 (c :: u) + brk u i) + b0 (u.drop i)
    omega

theorem brk_take : ∀ (t : List Int) (p : Nat), ¬ t[p]? = some 10 → brk t p = brkAll (t.take p)
  | _, 0, _ => by simp [brk, brkAll]
  | [], p + 1, _ => by simp [brk, brkAll]
  | c :: u, p + 1, h => by
    have h' : ¬ u[p]? = some 10 := by simpa using h
    have ih := brk_take u p h'
    show b0 (c :: u) + brk u p = b0 (c :: u.take p) + brkAll (u.take p)
    rw [ih]
    have e : b0 (c :: u) = b0 (c :: u.take p) := by
      cases p with
      | zero =>
        have h0 : ¬ u.head? = some 10 := by rw [List.head?_eq_getElem?]; exact h'
        unfold b0
        simp [h0]
      | succ q =>
        have h0 : (u.take (q + 1)).head? = u.head? := by cases u <;> rfl
        simp only [b0, h0]
    rw [e]

theorem brk_count : ∀ l : List Int, brkAll l + pairs l = l.count 10 + l.count 13
  | [] => rfl
  | c :: u => by
    have ih := brk_count u
    unfold brkAll pairs b0
    rw [List.count_cons, List.count_cons]
    by_cases h10 : c = 10
    · subst h10; simp; omega
    · by_cases h13 : c = 13
      · subst h13
        by_cases hn : u.head? = some 10
        · simp [hn]; omega
        · simp [hn]; omega
      · simp [h10, h13]; omega

/-! What the library counts. -/
theorem count_bytes (c : Int) (hc : 0 ≤ c ∧ c < 256) : ∀ l : List Int, (∀ x ∈ l, 0 ≤ x ∧ x < 256) → (Lib.bytesOf l).count (UInt8.ofNat c.toNat) = l.count c
  | [], _ => rfl
  | x :: l, h => by
    have ih := count_bytes c hc l (fun y hy => h y (by simp [hy]))
    show (UInt8.ofNat x.toNat :: Lib.bytesOf l).count _ = _
    rw [List.count_cons, List.count_cons, ih]
    have e : (UInt8.ofNat x.toNat == UInt8.ofNat c.toNat) = (x == c) := by
      rw [Bool.eq_iff_iff, beq_iff_eq, beq_iff_eq]
      exact ⟨fun g => u8_inj (h x (by simp)) hc g, fun g => by rw [g]⟩
    rw [e]

def pairsU : List UInt8 → Nat
  | [] => 0
  | c :: u => (if c = 13 ∧ u.head? = some 10 then 1 else 0) + pairsU u

theorem pairsU_bytes : ∀ l : List Int, (∀ x ∈ l, 0 ≤ x ∧ x < 256) → pairsU (Lib.bytesOf l) = pairs l
  | [], _ => rfl
  | x :: l, h => by
    have ih := pairsU_bytes l (fun y hy => h y (by simp [hy]))
    show (if UInt8.ofNat x.toNat = 13 ∧ (Lib.bytesOf l).head? = some 10 then 1 else 0) + pairsU (Lib.bytesOf l) = (if x = 13 ∧ l.head? = some 10 then 1 else 0) + pairs l
    rw [ih]
    have e1 : UInt8.ofNat x.toNat = 13 ↔ x = 13 := ⟨fun g => u8_inj (h x (by simp)) (by omega) (y := 13) g, fun g => by rw [g]; rfl⟩
    have e2 : (Lib.bytesOf l).head? = some 10 ↔ l.head? = some 10 := by
      cases l with
      | nil => simp [Lib.bytesOf]
      | cons y l =>
        show some (UInt8.ofNat y.toNat) = some 10 ↔ some y = some 10
        rw [Option.some.injEq, Option.some.injEq]
        exact ⟨fun g => u8_inj (h y (by simp)) (by omega) (y := 10) g, fun g => by rw [g]; rfl⟩
    by_cases hx : x = 13 ∧ l.head? = some 10
    · rw [if_pos hx, if_pos ⟨e1.2 hx.1, e2.2 hx.2⟩]
    · rw [if_neg hx, if_neg (fun g => hx ⟨e1.1 g.1, e2.1 g.2⟩)]

theorem pre_pair (c : UInt8) (u : List UInt8) : ([13, 10] : List UInt8).isPrefixOf (c :: u) = true ↔ c = 13 ∧ u.head? = some 10 := by
  cases u with
  | nil => simp [List.isPrefixOf]
  | cons d v =>
    simp [List.isPrefixOf]
    exact ⟨fun h => ⟨h.1.symm, h.2.symm⟩, fun h => ⟨h.1.symm, h.2.symm⟩⟩

theorem count_skip (f : Nat) (c : UInt8) (u : List UInt8) (h : ¬ ([13, 10] : List UInt8).isPrefixOf (c :: u) = true) : Lib.countFrom [13, 10] (f + 1) (c :: u) = Lib.countFrom [13, 10] (f + 1) u := by
  have hge := Lib.index_ge u [13, 10]
  have e : Lib.index (c :: u) [13, 10] = if Lib.index u [13, 10] == -1 then -1 else Lib.index u [13, 10] + 1 := by
    rw [Lib.index, if_neg h]
  unfold Lib.countFrom
  by_cases hm : Lib.index u [13, 10] = -1
  · rw [e, hm]; rfl
  · have hm' : (Lib.index u [13, 10] == -1) = false := by simpa using hm
    rw [hm'] at e
    simp only [Bool.false_eq_true, if_false] at e
    have hm2 : (Lib.index u [13, 10] + 1 == -1) = false := by simp; omega
    rw [e, hm', hm2]
    simp only [Bool.false_eq_true, if_false]
    have ez : (Lib.index u [13, 10] + 1).toNat + ([13, 10] : List UInt8).length = ((Lib.index u [13, 10]).toNat + ([13, 10] : List UInt8).length) + 1 := by simp; omega
    rw [ez, List.drop_succ_cons]

theorem countFrom_pairs : ∀ (f : Nat) (s : List UInt8), s.length < f → Lib.countFrom [13, 10] f s = pairsU s := by
  intro f
  induction f with
  | zero => intro s h; omega
  | succ f ihf =>
    intro s
    induction s with
    | nil => intro _; rfl
    | cons c u ihs =>
      intro h
      by_cases hp : ([13, 10] : List UInt8).isPrefixOf (c :: u) = true
      · have hp' := (pre_pair c u).1 hp
        obtain ⟨v, rfl⟩ : ∃ v, u = 10 :: v := by
          cases u with
          | nil => simp at hp'
          | cons d v => simp at hp'; exact ⟨v, by rw [hp'.2]⟩
        have e : Lib.index (c :: 10 :: v) [13, 10] = 0 := by rw [Lib.index, if_pos hp]
        unfold Lib.countFrom
        rw [e]
        show 1 + Lib.countFrom [13, 10] f v = _
        rw [ihf v (by simp at h; omega)]
        have : pairsU (10 :: v) = pairsU v := by
          show (if (10 : UInt8) = 13 ∧ _ then 1 else 0) + pairsU v = _
          rw [if_neg (by simp)]; omega
        show _ = (if c = 13 ∧ (10 :: v).head? = some 10 then 1 else 0) + pairsU (10 :: v)
        rw [if_pos hp', this]
      · rw [count_skip f c u hp, ihs (by simp at h; omega)]
        unfold pairsU
        rw [if_neg (fun g => hp ((pre_pair c u).2 g))]
        cases u <;> simp [pairsU]

theorem count_pairs (l : List Int) (h : ∀ x ∈ l, 0 ≤ x ∧ x < 256) : Lib.count (Lib.bytesOf l) [13, 10] = pairs l := by
  unfold Lib.count
  rw [countFrom_pairs _ _ (by omega), pairsU_bytes l h]

end Go.Proofs.Qxb6000647a
