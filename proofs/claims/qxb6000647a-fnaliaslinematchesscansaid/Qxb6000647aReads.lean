/-
  THE READING FUNCTIONS, walked: aliasAt, isAliasDelimiter.
-/
import Derived.Test.Qxb6000647aRows
import Derived.Test.Qxb6000647aScan
import Derived.Test.Qxb6000647aShelf
import Derived.WalkKit
import Derived.WalkSpells
import Derived.WalkLawsBesides
import Derived.Deep.QuietTactic
import Derived.BigQuiet
namespace Go.Proofs.Qxb6000647a
open Go.RowKit

/-- What the walks are told of a slice of bytes: its first n cells hold t. -/
def Lies (w : World) (a : Option Addr) (b off n : Nat) (t : List Int) : Prop :=
  t.length = n ∧ ∀ i, i < n → a = some ⟨b, off, none⟩ ∧ w.cell? ⟨b, off + i, none⟩ = some (.int .u8 (t.getD i 0))
theorem Lies.below {w w' : World} {a : Option Addr} {b off n : Nat} {t : List Int} (h : Lies w a b off n t) {B : Nat} (hb : Below B w w') (hB : w.heap.size ≤ B) : Lies w' a b off n t :=
  ⟨h.1, fun i hi => ⟨(h.2 i hi).1, (hb.cell (Nat.lt_of_lt_of_le (World.block_lt_of_cell? w _ (h.2 i hi).2) hB)).trans (h.2 i hi).2⟩⟩
theorem ret_bool {a b : Bool} (h : a = b) : Ending.returned (.bool a) = .returned (.bool b) := by rw [h]
theorem ret_int {k : IntKind} {a b : Int} (h : a = b) : Ending.returned (.int k a) = .returned (.int k b) := by rw [h]

/-- A string's bytes as numbers. -/
def bi (s : ByteArray) : List Int := s.data.toList.map fun c => ((c.toNat : Nat) : Int)
theorem bi_length (s : ByteArray) : (bi s).length = s.size := by unfold bi; simp
theorem bi_get (s : ByteArray) (k : Nat) (h : k < s.size) : (bi s).getD k 0 = ((s[k].toNat : Nat) : Int) := by
  unfold bi
  rw [List.getD_eq_getElem?_getD, List.getElem?_map, List.getElem?_eq_getElem (by simpa using h)]
  rfl
theorem bi_range (s : ByteArray) : ∀ x ∈ bi s, 0 ≤ x ∧ x < 256 := by
  intro x hx
  unfold bi at hx
  obtain ⟨c, _, rfl⟩ := List.mem_map.1 hx
  have := c.toNat_lt
  omega

theorem occ_iff {t tl : List Int} {i : Nat} (h : i + (tl.length + 1) ≤ t.length) : occ t (42 :: tl) i = true ↔ t.getD i 0 = 42 ∧ ∀ m, m < tl.length → t.getD (i + 1 + m) 0 = tl.getD m 0 := by
  unfold occ
  rw [List.isPrefixOf_iff_prefix, List.prefix_iff_eq_take]
  have hi : i < t.length := by omega
  rw [List.drop_eq_getElem_cons hi, List.length_cons, List.take_succ_cons, List.cons.injEq]
  have e0 : t.getD i 0 = t[i] := by simp [List.getD_eq_getElem?_getD, hi]
  rw [e0]
  constructor
  · rintro ⟨h1, h2⟩
    refine ⟨h1.symm, fun m hm => ?_⟩
    have : tl[m]? = ((t.drop (i + 1)).take tl.length)[m]? := by rw [← h2]
    rw [List.getElem?_take, if_pos hm, List.getElem?_drop] at this
    rw [List.getD_eq_getElem?_getD, List.getD_eq_getElem?_getD, this]
  · rintro ⟨h1, h2⟩
    refine ⟨h1.symm, ?_⟩
    apply List.ext_getElem?
    intro m
    rw [List.getElem?_take]
    by_cases hm : m < tl.length
    · have := h2 m hm
      rw [List.getD_eq_getElem?_getD, List.getD_eq_getElem?_getD, List.getElem?_eq_getElem hm, List.getElem?_eq_getElem (show i + 1 + m < t.length by omega)] at this
      simp only [Option.getD_some] at this
      rw [if_pos hm, List.getElem?_drop, List.getElem?_eq_getElem hm, List.getElem?_eq_getElem (show i + 1 + m < t.length by omega), this]
    · rw [if_neg hm, List.getElem?_eq_none (by omega)]

def Upto (t tl : List Int) (i k : Nat) : Prop := ∀ m, m < k → t.getD (i + 1 + m) 0 = tl.getD m 0
theorem upto_step {t : List Int} {s : ByteArray} {i k : Nat} (hk : k < s.size) (h : (t[i + 1 + k]?.getD 0 != ((s[k].toNat : Nat) : Int)) = false) (H : Upto t (bi s) i k) : Upto t (bi s) i (k + 1) := by
  intro m hm
  by_cases c : m < k
  · exact H m c
  · obtain rfl : m = k := by omega
    rw [bi_get s m hk, List.getD_eq_getElem?_getD]
    simpa using h
theorem at_no42 {t tl : List Int} {i : Nat} (h : i + (tl.length + 1) ≤ t.length) (h42 : (t[i]?.getD 0 != 42) = true) : false = occ t (42 :: tl) i := by
  cases c : occ t (42 :: tl) i with
  | false => rfl
  | true =>
    have := ((occ_iff h).1 c).1
    rw [List.getD_eq_getElem?_getD] at this
    rw [this] at h42; simp at h42
theorem at_miss {t : List Int} {s : ByteArray} {i k : Nat} (h : i + ((bi s).length + 1) ≤ t.length) (hk : k < s.size) (hm : (t[i + 1 + k]?.getD 0 != ((s[k].toNat : Nat) : Int)) = true) : false = occ t (42 :: bi s) i := by
  cases c : occ t (42 :: bi s) i with
  | false => rfl
  | true =>
    have := ((occ_iff h).1 c).2 k (by rw [bi_length]; exact hk)
    rw [bi_get s k hk, List.getD_eq_getElem?_getD] at this
    rw [this] at hm; simp at hm
theorem at_hit {t : List Int} {s : ByteArray} {i k : Nat} (h : i + ((bi s).length + 1) ≤ t.length) (hk : ¬ k < s.size) (h42 : (t[i]?.getD 0 != 42) = false) (H : Upto t (bi s) i k) : true = occ t (42 :: bi s) i := by
  symm
  refine (occ_iff h).2 ⟨?_, fun m hm => H m (by rw [bi_length] at hm; omega)⟩
  rw [List.getD_eq_getElem?_getD]; simpa using h42

set_option maxHeartbeats 1000000 in
theorem aliasAt_any (b off n c : Nat) (t : List Int) (s : ByteArray) (w : World) (hl : Lies w (some ⟨b, off, none⟩) b off n t) (hn : n ≤ 1048576) (i : Nat) (hi : i + (s.size + 1) ≤ n) :
    Calls Try.prog 23 #[.slice (some ⟨b, off, none⟩) n c, .int .i64 i, .string s] w fun e w' => e = .returned (.bool (occ t (42 :: bi s) i)) ∧ ∃ q, w' = w.drewN q := by
  have H1 : Hid (i + ((bi s).length + 1) ≤ t.length) := by have := hl.1; show _ ≤ _; rw [bi_length]; omega
  obtain ⟨_, hc⟩ := hl
  have hcell := (hc i (by omega)).2
  have hi' : (i : Int) < (n : Int) := by omega
  cases h42 : (t[i]?.getD 0 != 42) with
  | true =>
    go_enter Try.func23, Try.ntmps23
    go_wp2
    go_ret
    exact ⟨ret_bool (at_no42 H1.out h42), ⟨0, rfl⟩⟩
  | false =>
    go_enter Try.func23, Try.ntmps23
    go_wp2
    go_loopw [7] (fun j wr => ∃ k : Nat, k ≤ s.size ∧ j = .int .i64 k ∧ (∃ q, wr = w.drewN q) ∧ Hid (Upto t (bi s) i k)) (fun j _ => s.size - (intOf j).toNat)
    case atStart => exact ⟨0, Nat.zero_le _, rfl, ⟨0, rfl⟩, (fun m hm => absurd hm (Nat.not_lt_zero m) : Upto t (bi s) i 0)⟩
    case round =>
      obtain ⟨k, hk, rfl, ⟨q, rfl⟩, HR⟩ := hrel
      by_cases hlt : k < s.size
      · have hcell1 := (hc (i + 1 + k) (by omega)).2
        have hx : (i : Int) + 1 + (k : Int) < (n : Int) := by omega
        have hx0 : (0 : Int) ≤ (i : Int) + 1 + (k : Int) := by omega
        have hy : (k : Int) < (s.size : Int) := by omega
        have hw1 : IntKind.i64.wrap ((i : Int) + 1) = (i : Int) + 1 := by rw [IntKind.wrap_i64]; omega
        have hw2 : IntKind.i64.wrap ((i : Int) + 1 + (k : Int)) = (i : Int) + 1 + (k : Int) := by rw [IntKind.wrap_i64]; omega
        go_wp2
        go_quiet (fail)
        go_wp2
        · go_ret
          exact ⟨ret_bool (at_miss H1.out hlt ‹_›), ⟨_, World.drewN_drewN ..⟩⟩
        · go_roundw
          case rel => exact ⟨k + 1, by omega, by go_num, ⟨_, rfl⟩, upto_step hlt ‹_› HR.out⟩
          case measure => simp [intOf]; omega
      · go_wp2
        go_ret
        exact ⟨ret_bool (at_hit H1.out hlt h42 HR.out), ⟨_, rfl⟩⟩

set_option maxHeartbeats 1000000 in
theorem delim_any (x : Int) (w : World) :
    Calls Try.prog 24 #[.int .u8 x] w fun e w' => e = .returned (.bool (delim x)) ∧ w' = w := by
  go_enter Try.func24, Try.ntmps24
  go_wp2
  all_goals
    go_ret
    refine ⟨ret_bool ?_, rfl⟩
    try simp only [beq_iff_eq, beq_eq_false_iff_ne, ne_eq] at *
    simp [delim]
    omega

end Go.Proofs.Qxb6000647a
