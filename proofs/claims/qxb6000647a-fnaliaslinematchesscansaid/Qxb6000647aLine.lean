/-
  lineOf (with input.Breaks) and cloneBytes, walked.
-/
import Derived.Test.Qxb6000647aReads
import Derived.Laws.CopyOwn
import Derived.Laws.BytesArg
namespace Go.Proofs.Qxb6000647a
open Go.RowKit

theorem Try.info5 : (Try.prog.info? 5).map (fun i => (i.zero, i.size, i.bytes)) = some (some (.int .u8 0), 1, 1) := by kernel_rfl

set_option maxHeartbeats 400000 in
theorem breaks_any (b off n c : Nat) (l : List Int) (w : World) (hl : Lies w (some ⟨b, off, none⟩) b off n l) (hn : n ≤ 65536) (hr : ∀ x ∈ l, 0 ≤ x ∧ x < 256) (m : Int) (hm : w.cell? ⟨0, 0, none⟩ = some (.int .i64 m)) :
    Calls Try.prog 38 #[.slice (some ⟨b, off, none⟩) n c] w fun e w' => e = .returned (.int .i64 ((l.count 10 : Int) + (l.count 13 : Int) - (pairs l : Int))) ∧ w' = w := by
  obtain ⟨S, hS⟩ : ∃ S, S = strOfNums l := ⟨_, rfl⟩
  have hconv := run_convert_bytes_arg (P := Try.prog) w 24 5 Try.underlying24 Try.underlying5 b off n c l hl.1 (fun i hi => (hl.2 i hi).2) 9 Try.underlying9
  rw [← hS] at hconv
  have hSl : S.data.toList = Lib.bytesOf l := by rw [hS]; rfl
  have hSz : S.size = n := by rw [hS, strOfNums_size, hl.1]
  have c1 := Try.strings_Count_one S 10 w
  have c2 := Try.strings_Count_one S 13 w
  have c3 := Try.strings_Count S ⟨#[13, 10]⟩ m w (by omega) hm (by decide)
  have e1 : Lib.countByte S.data.toList 10 = l.count 10 := by rw [hSl]; exact count_bytes 10 (by omega) l hr
  have e2 : Lib.countByte S.data.toList 13 = l.count 13 := by rw [hSl]; exact count_bytes 13 (by omega) l hr
  have e3 : Lib.countB S ⟨#[13, 10]⟩ = pairs l := by show Lib.count S.data.toList [13, 10] = _; rw [hSl]; exact count_pairs l hr
  rw [e1] at c1
  rw [e2] at c2
  rw [e3] at c3
  have k1 : l.count 10 ≤ 65536 := by have := List.count_le_length (a := (10 : Int)) (l := l); have := hl.1; omega
  have k2 : l.count 13 ≤ 65536 := by have := List.count_le_length (a := (13 : Int)) (l := l); have := hl.1; omega
  have k3 : pairs l ≤ l.count 10 + l.count 13 := by have := brk_count l; omega
  obtain ⟨x1, h1⟩ : ∃ x1, l.count 10 = x1 := ⟨_, rfl⟩
  obtain ⟨x2, h2⟩ : ∃ x2, l.count 13 = x2 := ⟨_, rfl⟩
  obtain ⟨x3, h3⟩ : ∃ x3, pairs l = x3 := ⟨_, rfl⟩
  rw [h1] at c1 k1 k3 ⊢
  rw [h2] at c2 k2 k3 ⊢
  rw [h3] at c3 k3 ⊢
  clear h1 h2 h3 e1 e2 e3 hSl hS hr hl hm
  go_enter Try.func38, Try.ntmps38
  go_wp2_with fail
  refine c1.mono ?_
  rintro e wx ⟨rfl, hwx⟩; rw [hwx]; clear hwx
  go_wp2_with fail
  refine c2.mono ?_
  rintro e wx ⟨rfl, hwx⟩; rw [hwx]; clear hwx
  go_wp2_with fail
  refine c3.mono ?_
  rintro e wx ⟨rfl, hwx⟩; rw [hwx]; clear hwx
  go_wp2
  go_ret
  exact ⟨rfl, rfl⟩

set_option maxHeartbeats 400000 in
theorem lineOf_any (b off n c : Nat) (l : List Int) (w : World) (hl : Lies w (some ⟨b, off, none⟩) b off n l) (hn : n ≤ 65536) (hr : ∀ x ∈ l, 0 ≤ x ∧ x < 256) (m : Int) (hm : w.cell? ⟨0, 0, none⟩ = some (.int .i64 m)) (v : Nat) (hv : l.count 10 + l.count 13 = v + pairs l) :
    Calls Try.prog 30 #[.slice (some ⟨b, off, none⟩) n c] w fun e w' => e = .returned (.int .i64 (1 + (v : Int))) ∧ w' = w := by
  have hb := breaks_any b off n c l w hl hn hr m hm
  rw [show ((l.count 10 : Int) + (l.count 13 : Int) - (pairs l : Int)) = (v : Int) from by omega] at hb
  have k1 : l.count 10 ≤ 65536 := by have := List.count_le_length (a := (10 : Int)) (l := l); have := hl.1; omega
  have k2 : l.count 13 ≤ 65536 := by have := List.count_le_length (a := (13 : Int)) (l := l); have := hl.1; omega
  have k3 : v ≤ 131072 := by omega
  clear hl hr hm k1 k2 hv
  go_enter Try.func30, Try.ntmps30
  go_wp2_with (go_at_call 38; refine hb.mono ?_; rintro e wx ⟨rfl, hwx⟩; rw [hwx]; clear hwx)
  go_ret
  exact ⟨rfl, rfl⟩

/-- The cells of a list of bytes. -/
def u8s (t : List Int) : List Value := t.map (Value.int .u8)

theorem clone_nil (w : World) (c : Nat) :
    Calls Try.prog 16 #[.slice none 0 c] w fun e w' => e = .returned (.slice none 0 0) ∧ w' = w := by
  have hnil := fun (w : World) (a : Option Addr) (l c : Nat) => Lib.run_eql_slice_nil (P := Try.prog) w 24 5 a l c 0 0 Try.underlying24
  go_enter Try.func16, Try.ntmps16
  go_wp2
  go_ret
  exact ⟨rfl, rfl⟩

set_option maxHeartbeats 400000 in
theorem clone_any (ad : Addr) (b off n c : Nat) (t : List Int) (w : World) (hl : Lies w (some ad) b off n t) (hn : n ≤ 65536) :
    Calls Try.prog 16 #[.slice (some ad) n c] w fun e w' => e = .returned (.slice (some ⟨w.heap.size, 0, none⟩) n n) ∧
      Lies w' (some ⟨w.heap.size, 0, none⟩) w.heap.size 0 n t ∧ Below w.heap.size w w' := by
  obtain ⟨ht, hc⟩ := hl
  have H1 : Hid (t.length = n) := ht
  clear ht
  obtain ⟨i0, hi, hz0, hz1, hz2⟩ := info_parts Try.info5
  have hnil := fun (w : World) (a : Option Addr) (l c : Nat) => Lib.run_eql_slice_nil (P := Try.prog) w 24 5 a l c 0 0 Try.underlying24
  go_enter Try.func16, Try.ntmps16
  go_wp2_with (at_make; refine wpList_make_full _ rfl _ _ 24 rfl w.heap.size 5 i0 (.int .u8 0) 1 Try.underlying24 hi hz0 hz1 _ _ _ _ n rfl rfl rfl rfl ?b2 ?b3 (Nat.le_refl _) ?_)
  case b2 => rw [hz2]; omega
  case b3 => unfold maxLen; omega
  intro w1 hown1 hgrow1
  have hb1 : Below w.heap.size w w1 := (Below.refl _ _).grown hgrow1 (Nat.le_refl _) (fun k hk => by cases hk)
  obtain ⟨cur, hcur, hcsz⟩ : ∃ cur : List Value, w1.heap[w.heap.size]? = some (.cells cur.toArray 5 (0, 0)) ∧ cur.length = n := by
    rcases hown1.2 with ⟨h, _⟩ | ⟨g, cap, cu, h, _, hg, _, _, hsz, _⟩
    · simp at h
    · simp only [Value.slice.injEq, Option.some.injEq, Addr.mk.injEq, and_true, true_and] at h
      obtain ⟨rfl, rfl⟩ := h
      exact ⟨cu.toList, by simpa using hg, by simpa using hsz⟩
  obtain ⟨X, hX⟩ : ∃ X, X = u8s t := ⟨_, rfl⟩
  have hXl : X.length = n := by rw [hX]; unfold u8s; simpa using H1.out
  have HXe : Hid (X = u8s t) := hX
  have HC1 : Hid (∀ i, i < n → some ad = some (⟨b, off, none⟩ : Addr) ∧ w1.cell? ⟨b, off + i, none⟩ = some (.int .u8 (t.getD i 0))) := by
    intro i hi
    exact ⟨(hc i hi).1, (hb1.cell (World.block_lt_of_cell? w _ (hc i hi).2)).trans (hc i hi).2⟩
  clear hown1 hgrow1 hX hc
  go_wp2_with (refine wpList_copy_splice rfl (.tmp 9) (.tmp 10) 24 24 rfl 5 Try.underlying24 (by kernel_rfl) (some ⟨w.heap.size, 0, none⟩) (some ad) n n n c rfl rfl w.heap.size 0 cur 5 hcur X ?k1 ?k2 ?k3 ?k4 w.heap.size w hb1 (Nat.le_refl _) ?_)
  case k1 => rw [hXl]; simp
  case k2 =>
    intro hpos
    obtain ⟨h1, _⟩ := HC1.out 0 (by omega)
    intro j v hj
    have hjn : j < n := by have := (List.getElem?_eq_some_iff.1 hj).1; omega
    obtain ⟨_, h2⟩ := HC1.out j hjn
    simp only [Option.some.injEq] at h1
    rw [h1, Addr.add_lit, h2]
    rw [HXe.out] at hj
    unfold u8s at hj
    rw [List.getElem?_map, List.getElem?_eq_getElem (by have := H1.out; omega)] at hj
    simp only [Option.map_some, Option.some.injEq] at hj
    rw [← hj, List.getD_eq_getElem?_getD, List.getElem?_eq_getElem (by have := H1.out; omega)]
    rfl
  case k3 => omega
  case k4 =>
    intro v hv
    rw [HXe.out] at hv
    unfold u8s at hv
    obtain ⟨_, _, rfl⟩ := List.mem_map.1 hv
    rfl
  intro w2 hg2 hb2
  have hlies : Lies w2 (some ⟨w.heap.size, 0, none⟩) w.heap.size 0 n t := by
    refine ⟨H1.out, fun i hi => ⟨rfl, ?_⟩⟩
    have e : splice cur 0 X = u8s t := by
      unfold splice
      rw [List.take_zero, List.nil_append, List.drop_eq_nil_of_le (by omega), List.append_nil, HXe.out]
    have hg := hg2.out
    rw [e] at hg
    rw [Nat.zero_add, cell_of_row _ _ _ _ _ _ hg]
    simp [u8s, List.getElem?_eq_getElem (show i < t.length by have := H1.out; omega), List.getD_eq_getElem?_getD]
  clear hg2 hcur hb1
  go_wp2
  go_ret
  exact ⟨rfl, hlies, hb2⟩

end Go.Proofs.Qxb6000647a
