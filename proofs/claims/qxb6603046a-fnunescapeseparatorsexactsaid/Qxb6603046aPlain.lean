/-
  THE PLAIN LAW of seat b6603046a: lists of bytes (as integers), no Go in sight.
-/
namespace Go.Proofs.Qxb6603046a

/-- How many backslashes stand right ahead of place i. -/
def runTo (t : List Int) : Nat → Nat
  | 0 => 0
  | i + 1 => if t.getD i 0 = 92 then runTo t i + 1 else 0

theorem runTo_le (t : List Int) (i : Nat) : runTo t i ≤ i := by
  induction i with
  | zero => simp [runTo]
  | succ i ih => unfold runTo; split <;> omega

theorem runTo_hit {t : List Int} {i : Nat} (h : t.getD i 0 = 92) : runTo t (i + 1) = runTo t i + 1 := by
  rw [runTo, if_pos h]

theorem runTo_miss {t : List Int} {i : Nat} (h : ¬ t.getD i 0 = 92) : runTo t (i + 1) = 0 := by
  rw [runTo, if_neg h]

/-- Is the run ahead of place i odd? -/
def oddTo (t : List Int) (i : Nat) : Bool := decide (runTo t i % 2 = 1)

/-- The five bytes of the prefix stand at i. -/
def preAt (t : List Int) (i : Nat) : Bool :=
  t.getD i 0 == 92 && t.getD (i + 1) 0 == 117 && t.getD (i + 2) 0 == 50 && t.getD (i + 3) 0 == 48 && t.getD (i + 4) 0 == 50

/-- What separatorAt answers. -/
def sepAt (t : List Int) (i : Nat) : Int :=
  if i + 6 ≤ t.length ∧ preAt t i = true then (if t.getD (i + 5) 0 = 56 then 168 else if t.getD (i + 5) 0 = 57 then 169 else 0) else 0

/-- Does the prefix stand anywhere? -/
def hasPre (t : List Int) : Bool := (List.range t.length).any fun i => decide (i + 5 ≤ t.length) && preAt t i

theorem hasPre_iff (t : List Int) : hasPre t = true ↔ ∃ i, i + 5 ≤ t.length ∧ preAt t i = true := by
  unfold hasPre
  simp only [List.any_eq_true, List.mem_range, Bool.and_eq_true, decide_eq_true_eq]
  constructor
  · rintro ⟨i, _, h⟩; exact ⟨i, h⟩
  · rintro ⟨i, h⟩; exact ⟨i, by omega, h⟩

/-- The law's own model, from place i on. -/
def mdl (t : List Int) : Nat → Nat → List Int
  | 0, _ => []
  | f + 1, i => if i < t.length then (if sepAt t i ≠ 0 ∧ oddTo t (i + 1) = true then 226 :: 128 :: sepAt t i :: mdl t f (i + 6) else t.getD i 0 :: mdl t f (i + 1)) else []

/-- The program, from place i on. -/
def prg (t : List Int) : Nat → Nat → List Int
  | 0, _ => []
  | f + 1, i => if i < t.length then (if t.getD i 0 = 92 then (if sepAt t i ≠ 0 then 226 :: 128 :: sepAt t i :: prg t f (i + 6) else t.getD i 0 :: t.getD (i + 1) 0 :: prg t f (i + 2)) else t.getD i 0 :: prg t f (i + 1)) else []

theorem mdl_end (t : List Int) (f i : Nat) (h : t.length ≤ i) : mdl t f i = [] := by
  cases f with
  | zero => rfl
  | succ f => rw [mdl, if_neg (by omega)]

theorem prg_end (t : List Int) (f i : Nat) (h : t.length ≤ i) : prg t f i = [] := by
  cases f with
  | zero => rfl
  | succ f => rw [prg, if_neg (by omega)]

theorem mdl_fuel (t : List Int) (f : Nat) : ∀ g i, t.length ≤ i + f → t.length ≤ i + g → mdl t f i = mdl t g i := by
  induction f with
  | zero => intro g i h _; rw [mdl_end t 0 i (by omega), mdl_end t g i (by omega)]
  | succ f ih =>
    intro g i h hg
    cases g with
    | zero => rw [mdl_end t _ i (by omega), mdl_end t 0 i (by omega)]
    | succ g =>
      by_cases hi : i < t.length
      · rw [mdl, mdl, if_pos hi, if_pos hi, ih g (i + 6) (by omega) (by omega), ih g (i + 1) (by omega) (by omega)]
      · rw [mdl_end t _ i (by omega), mdl_end t _ i (by omega)]

theorem prg_fuel (t : List Int) (f : Nat) : ∀ g i, t.length ≤ i + f → t.length ≤ i + g → prg t f i = prg t g i := by
  induction f with
  | zero => intro g i h _; rw [prg_end t 0 i (by omega), prg_end t g i (by omega)]
  | succ f ih =>
    intro g i h hg
    cases g with
    | zero => rw [prg_end t _ i (by omega), prg_end t 0 i (by omega)]
    | succ g =>
      by_cases hi : i < t.length
      · rw [prg, prg, if_pos hi, if_pos hi, ih g (i + 6) (by omega) (by omega), ih g (i + 1) (by omega) (by omega), ih g (i + 2) (by omega) (by omega)]
      · rw [prg_end t _ i (by omega), prg_end t _ i (by omega)]

/-- The two from place i on, with all the fuel that is wanted. -/
def mdlAt (t : List Int) (i : Nat) : List Int := mdl t t.length i
def prgAt (t : List Int) (i : Nat) : List Int := prg t t.length i

theorem mdlAt_step (t : List Int) (i : Nat) (hi : i < t.length) :
    mdlAt t i = if sepAt t i ≠ 0 ∧ oddTo t (i + 1) = true then 226 :: 128 :: sepAt t i :: mdlAt t (i + 6) else t.getD i 0 :: mdlAt t (i + 1) := by
  obtain ⟨f, hf⟩ : ∃ f, t.length = f + 1 := ⟨t.length - 1, by omega⟩
  unfold mdlAt
  conv => lhs; rw [hf]
  rw [mdl, if_pos hi, mdl_fuel t f t.length (i + 6) (by omega) (by omega), mdl_fuel t f t.length (i + 1) (by omega) (by omega)]

theorem prgAt_step (t : List Int) (i : Nat) (hi : i < t.length) :
    prgAt t i = if t.getD i 0 = 92 then (if sepAt t i ≠ 0 then 226 :: 128 :: sepAt t i :: prgAt t (i + 6) else t.getD i 0 :: t.getD (i + 1) 0 :: prgAt t (i + 2)) else t.getD i 0 :: prgAt t (i + 1) := by
  obtain ⟨f, hf⟩ : ∃ f, t.length = f + 1 := ⟨t.length - 1, by omega⟩
  unfold prgAt
  conv => lhs; rw [hf]
  rw [prg, if_pos hi, prg_fuel t f t.length (i + 6) (by omega) (by omega), prg_fuel t f t.length (i + 1) (by omega) (by omega), prg_fuel t f t.length (i + 2) (by omega) (by omega)]

theorem mdlAt_end (t : List Int) (i : Nat) (h : t.length ≤ i) : mdlAt t i = [] := mdl_end _ _ _ h
theorem prgAt_end (t : List Int) (i : Nat) (h : t.length ≤ i) : prgAt t i = [] := prg_end _ _ _ h

theorem sepAt_ne {t : List Int} {i : Nat} (h : sepAt t i ≠ 0) : i + 6 ≤ t.length ∧ preAt t i = true ∧ (t.getD (i + 5) 0 = 56 ∨ t.getD (i + 5) 0 = 57) := by
  unfold sepAt at h
  by_cases c : i + 6 ≤ t.length ∧ preAt t i = true
  · rw [if_pos c] at h
    refine ⟨c.1, c.2, ?_⟩
    by_cases h8 : t.getD (i + 5) 0 = 56
    · exact .inl h8
    · rw [if_neg h8] at h
      by_cases h9 : t.getD (i + 5) 0 = 57
      · exact .inr h9
      · rw [if_neg h9] at h; exact absurd rfl h
  · rw [if_neg c] at h; exact absurd rfl h

theorem preAt_head {t : List Int} {i : Nat} (h : preAt t i = true) : t.getD i 0 = 92 := by
  unfold preAt at h
  simp only [Bool.and_eq_true, beq_iff_eq] at h
  exact h.1.1.1.1

theorem sepAt_zero {t : List Int} {i : Nat} (h : ¬ t.getD i 0 = 92) : sepAt t i = 0 := by
  by_cases c : sepAt t i = 0
  · exact c
  · exact absurd (preAt_head (sepAt_ne c).2.1) h

/-- ████ THE PLAIN LAW: from a place that is not inside an escape, over a text that does not end inside one, the program and the model say the same. -/
theorem prg_mdl (t : List Int) (he : oddTo t t.length = false) : ∀ m i, t.length ≤ i + m → oddTo t i = false → prgAt t i = mdlAt t i := by
  intro m
  induction m using Nat.strongRecOn with
  | ind m ih =>
    intro i hm ho
    by_cases hi : i < t.length
    · have ho' : runTo t i % 2 = 0 := by unfold oddTo at ho; simp at ho; omega
      rw [prgAt_step t i hi, mdlAt_step t i hi]
      by_cases h92 : t.getD i 0 = 92
      · have hodd : oddTo t (i + 1) = true := by unfold oddTo; rw [runTo_hit h92]; simp; omega
        rw [if_pos h92]
        by_cases hs : sepAt t i ≠ 0
        · obtain ⟨a1, a2, a3⟩ := sepAt_ne hs
          have h6 : oddTo t (i + 6) = false := by
            unfold oddTo
            rw [show i + 6 = (i + 5) + 1 from rfl, runTo_miss (by omega)]; simp
          rw [if_pos hs, if_pos ⟨hs, hodd⟩, ih (m - 6) (by omega) (i + 6) (by omega) h6]
        · have hn1 : i + 1 < t.length := by
            by_cases hx : i + 1 < t.length
            · exact hx
            · have hxe : i + 1 = t.length := by omega
              rw [hxe, he] at hodd; exact absurd hodd (by simp)
          rw [if_neg hs, if_neg (fun c => hs c.1), mdlAt_step t (i + 1) hn1]
          have hstep : (if sepAt t (i + 1) ≠ 0 ∧ oddTo t (i + 1 + 1) = true then 226 :: 128 :: sepAt t (i + 1) :: mdlAt t (i + 1 + 6) else t.getD (i + 1) 0 :: mdlAt t (i + 1 + 1)) = t.getD (i + 1) 0 :: mdlAt t (i + 2) := by
            rw [if_neg]
            rintro ⟨c1, c2⟩
            have h1 := preAt_head (sepAt_ne c1).2.1
            unfold oddTo at c2
            rw [runTo_hit h1, runTo_hit h92] at c2
            simp at c2; omega
          rw [hstep]
          have h2 : oddTo t (i + 2) = false := by
            unfold oddTo
            rw [show i + 2 = (i + 1) + 1 from rfl]
            by_cases h1 : t.getD (i + 1) 0 = 92
            · rw [runTo_hit h1, runTo_hit h92]; simp; omega
            · rw [runTo_miss h1]; simp
          rw [ih (m - 2) (by omega) (i + 2) (by omega) h2]
      · have hz := sepAt_zero h92
        have h1 : oddTo t (i + 1) = false := by unfold oddTo; rw [runTo_miss h92]; simp
        rw [if_neg h92, if_neg (fun c => c.1 hz), ih (m - 1) (by omega) (i + 1) (by omega) h1]
    · rw [prgAt_end t i (by omega), mdlAt_end t i (by omega)]

theorem prg_mdl_all (t : List Int) (he : oddTo t t.length = false) : prgAt t 0 = mdlAt t 0 :=
  prg_mdl t he t.length 0 (by omega) (by simp [oddTo, runTo])

/-- Where the prefix stands nowhere the model is the text. -/
theorem mdl_same (t : List Int) (hn : hasPre t = false) : ∀ m i, t.length ≤ i + m → mdlAt t i = t.drop i := by
  intro m
  induction m with
  | zero => intro i h; rw [mdlAt_end t i (by omega), List.drop_eq_nil_of_le (by omega)]
  | succ m ih =>
    intro i h
    by_cases hi : i < t.length
    · have hz : sepAt t i = 0 := by
        by_cases c : sepAt t i = 0
        · exact c
        · obtain ⟨a1, a2, _⟩ := sepAt_ne c
          have := (hasPre_iff t).2 ⟨i, by omega, a2⟩
          rw [hn] at this; exact absurd this (by simp)
      rw [mdlAt_step t i hi, if_neg (fun c => c.1 hz), ih (i + 1) (by omega), List.drop_eq_getElem_cons hi]
      simp [List.getD_eq_getElem?_getD, hi]
    · rw [mdlAt_end t i (by omega), List.drop_eq_nil_of_le (by omega)]

theorem mdl_same_all (t : List Int) (hn : hasPre t = false) : mdlAt t 0 = t := by
  rw [mdl_same t hn t.length 0 (by omega)]; rfl

/-- A backslash where the program reads the byte behind it: there is one. -/
theorem next_lt {t : List Int} (he : oddTo t t.length = false) {i : Nat} (hi : i < t.length) (ho : oddTo t i = false) (h92 : t.getD i 0 = 92) : i + 1 < t.length := by
  by_cases hx : i + 1 < t.length
  · exact hx
  · have hxe : i + 1 = t.length := by omega
    unfold oddTo at he ho
    rw [← hxe, runTo_hit h92] at he
    simp at he ho; omega

theorem odd_skip {t : List Int} {i : Nat} (h92 : ¬ t.getD i 0 = 92) : oddTo t (i + 1) = false := by unfold oddTo; rw [runTo_miss h92]; simp
theorem odd_sep {t : List Int} {i : Nat} (h : sepAt t i ≠ 0) : oddTo t (i + 6) = false := by
  obtain ⟨_, _, a3⟩ := sepAt_ne h
  unfold oddTo
  rw [show i + 6 = (i + 5) + 1 from rfl, runTo_miss (by omega)]; simp
theorem odd_esc {t : List Int} {i : Nat} (ho : oddTo t i = false) (h92 : t.getD i 0 = 92) : oddTo t (i + 2) = false := by
  unfold oddTo at ho ⊢
  rw [show i + 2 = (i + 1) + 1 from rfl]
  by_cases h1 : t.getD (i + 1) 0 = 92
  · rw [runTo_hit h1, runTo_hit h92]; simp at ho ⊢; omega
  · rw [runTo_miss h1]; simp

/-- How long what is written can get: never longer than what was read. -/
theorem mdlAt_length (t : List Int) : ∀ m i, t.length ≤ i + m → (mdlAt t i).length ≤ t.length - i := by
  intro m
  induction m using Nat.strongRecOn with
  | ind m ih =>
    intro i hm
    by_cases hi : i < t.length
    · rw [mdlAt_step t i hi]
      by_cases c : sepAt t i ≠ 0 ∧ oddTo t (i + 1) = true
      · rw [if_pos c]
        have := sepAt_ne c.1
        have := ih (m - 6) (by omega) (i + 6) (by omega)
        simp only [List.length_cons]; omega
      · rw [if_neg c]
        have := ih (m - 1) (by omega) (i + 1) (by omega)
        simp only [List.length_cons]; omega
    · rw [mdlAt_end t i (by omega)]; simp

end Go.Proofs.Qxb6603046a
