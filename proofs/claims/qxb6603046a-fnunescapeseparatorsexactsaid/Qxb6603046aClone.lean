import Derived.Test.Qxb6603046aReads3

namespace Go.Proofs.Qxb6603046a
open Go.RowKit

theorem Try.info5 : (Try.prog.info? 5).map (fun i => (i.zero, i.size, i.bytes)) = some (some (.int .u8 0), 1, 1) := by kernel_rfl

/-- The cells of a list of bytes. -/
def u8s (t : List Int) : List Value := t.map (Value.int .u8)

theorem clone_nil (w : World) (c : Nat) :
    Calls Try.prog 8 #[.slice none 0 c] w fun e w' => e = .returned (.slice none 0 0) ∧ w' = w := by
  have hnil := fun (w : World) (a : Option Addr) (l c : Nat) => Lib.run_eql_slice_nil (P := Try.prog) w 22 5 a l c 0 0 Try.underlying22
  go_enter Try.func8, Try.ntmps8
  go_wp2
  go_ret
  exact ⟨rfl, rfl⟩

/-- The copy behind k rounds. -/
def part (t : List Int) (n k : Nat) : List Value := u8s (t.take k) ++ List.replicate (n - k) (.int .u8 0)
theorem part_zero (t : List Int) (n : Nat) : part t n 0 = List.replicate n (.int .u8 0) := by simp [part, u8s]
theorem part_all {t : List Int} {n k : Nat} (ht : t.length = n) (hk : ¬ k < n) : part t n k = u8s t := by
  unfold part; rw [List.take_of_length_le (by omega), show n - k = 0 from by omega]; simp
theorem part_set {t : List Int} {n k : Nat} (ht : t.length = n) (hk : k < n) : (part t n k).set k (.int .u8 (t[k]?.getD 0)) = part t n (k + 1) := by
  have hk' : k < t.length := by omega
  unfold part u8s
  rw [List.take_succ_eq_append_getElem hk', show n - k = (n - (k + 1)) + 1 from by omega, List.replicate_succ, List.map_append, List.set_append, if_neg (by simp; omega)]
  simp [hk', Nat.min_eq_left (Nat.le_of_lt hk')]
theorem part_get {t : List Int} {n k : Nat} (ht : t.length = n) (hk : k < n) : (part t n k)[k]? = some (.int .u8 0) := by
  unfold part u8s
  rw [List.getElem?_append_right (by simp; omega), List.length_map, List.length_take, Nat.min_eq_left (show k ≤ t.length by omega), Nat.sub_self, List.getElem?_replicate, if_pos (by omega)]

set_option maxHeartbeats 400000 in
theorem clone_any (ad : Addr) (b off n c : Nat) (t : List Int) (w : World) (hl : Lies w (some ad) b off n t) (hn : n ≤ 1048576) :
    Calls Try.prog 8 #[.slice (some ad) n c] w fun e w' => e = .returned (.slice (some ⟨w.heap.size, 0, none⟩) n n) ∧
      w'.ownsRow w.heap.size 5 1 (.slice (some ⟨w.heap.size, 0, none⟩) n n) n (u8s t) ∧ Below w.heap.size w w' := by
  obtain ⟨ht, hc⟩ := hl
  have H1 : Hid (t.length = n) := ht
  clear ht
  obtain ⟨i0, hi, hz0, hz1, hz2⟩ := info_parts Try.info5
  have hnil := fun (w : World) (a : Option Addr) (l c : Nat) => Lib.run_eql_slice_nil (P := Try.prog) w 22 5 a l c 0 0 Try.underlying22
  go_enter Try.func8, Try.ntmps8
  go_wp2_with (at_make; refine wpList_make_full _ rfl _ _ 22 rfl w.heap.size 5 i0 (.int .u8 0) 1 Try.underlying22 hi hz0 hz1 _ _ _ _ n rfl rfl rfl rfl ?b2 ?b3 (Nat.le_refl _) ?_)
  case b2 => rw [hz2]; omega
  case b3 => unfold maxLen; omega
  intro w1 hown1 hgrow1
  have hown2 : w1.ownsRow w.heap.size 5 1 (.slice (some ⟨w.heap.size, 0, none⟩) n n) n (part t n 0) := by rw [part_zero, ← toList_madeCells_one]; exact hown1
  have hb1 : Below w.heap.size w w1 := (Below.refl _ _).grown hgrow1 (Nat.le_refl _) (fun k hk => by cases hk)
  clear hown1 hgrow1
  go_wp2
  go_loopw [4] (fun j wr => ∃ k : Nat, k ≤ n ∧ j = .int .i64 k ∧ wr.ownsRow w.heap.size 5 1 (.slice (some ⟨w.heap.size, 0, none⟩) n n) n (part t n k) ∧ Below w.heap.size w wr) (fun j _ => n - (intOf j).toNat)
  case atStart => exact ⟨0, Nat.zero_le _, rfl, hown2, hb1⟩
  case round =>
    obtain ⟨k, hk, rfl, hown, hbel⟩ := hrel
    clear hown2 hb1
    by_cases hlt : k < n
    · obtain ⟨ha, hcell⟩ := hc k hlt
      have hcr : wr.cell? ⟨b, off + k, none⟩ = some (.int .u8 (t.getD k 0)) := (hbel.cell (World.block_lt_of_cell? w _ hcell)).trans hcell
      have hi' : (k : Int) < (n : Int) := by omega
      have hfr := hown.frozenAt k
      have hde : wr.cell? ⟨w.heap.size, k, none⟩ = some (.int .u8 0) := (hown.cellAt k (by omega)).trans (part_get H1.out hlt)
      have hst := (hown.stored k (.int .u8 (t[k]?.getD 0))).1
      rw [part_set H1.out hlt] at hst
      have hbs : Below w.heap.size w (wr.setCell ⟨w.heap.size, k, none⟩ (.int .u8 (t[k]?.getD 0))) := hbel.setCell (Nat.le_refl _) _
      clear hown hbel
      go_wp2
      go_roundw
      case rel => exact ⟨k + 1, by omega, by go_num, hst, hbs⟩
      case measure => simp [intOf]; omega
    · rw [part_all H1.out hlt] at hown
      go_wp2
      go_ret
      exact ⟨rfl, hown, hbel⟩
end Go.Proofs.Qxb6603046a
