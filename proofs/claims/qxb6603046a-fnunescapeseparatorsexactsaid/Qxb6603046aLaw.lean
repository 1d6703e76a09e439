import Derived.Test.Qxb6603046aUnesc
import Derived.Test.Qxb6603046aPlain3
import Derived.Test.Qxb6603046aShelf
namespace Go.Proofs.Qxb6603046a
open Go.RowKit

/-- The block of the constant. -/
def preObj : Obj := .cells #[.int .u8 92, .int .u8 117, .int .u8 50, .int .u8 48, .int .u8 50] 5 (5, 6)

theorem lies_of_owns {W : World} {base k : Nat} {v : Value} {m : List Int} (h : W.ownsRow base 5 1 v k (u8s m)) : ∃ a g cap, v = .slice a k cap ∧ Lies W a g 0 k m := by
  have hl : m.length = k := by have := h.1; simpa [u8s] using this
  rcases h.2 with ⟨rfl, rfl⟩ | ⟨g, cap, cur, rfl, _⟩
  · exact ⟨none, 0, 0, rfl, hl, fun i hi => absurd hi (Nat.not_lt_zero _)⟩
  · refine ⟨some ⟨g, 0, none⟩, g, cap, rfl, hl, fun i hi => ⟨rfl, ?_⟩⟩
    rw [Nat.zero_add, h.cellAt i (by omega)]
    simp [u8s, List.getElem?_eq_getElem (show i < m.length by omega), List.getD_eq_getElem?_getD]

theorem lies_at {W : World} {base n cap g : Nat} {m : List Int} (h : W.ownsRow base 5 1 (.slice (some ⟨g, 0, none⟩) n cap) n (u8s m)) : Lies W (some ⟨g, 0, none⟩) g 0 n m := by
  have hl : m.length = n := by have := h.1; simpa [u8s] using this
  refine ⟨hl, fun i hi => ⟨rfl, ?_⟩⟩
  rw [Nat.zero_add, h.cellAt i (by omega)]
  simp [u8s, List.getElem?_eq_getElem (show i < m.length by omega), List.getD_eq_getElem?_getD]

theorem con_any (b off n c : Nat) (hnc : n ≤ c) (t : List Int) (W : World) (hl : Lies W (some ⟨b, off, none⟩) b off n t) (hn : n ≤ 1048576) (hr : ∀ x ∈ t, 0 ≤ x ∧ x < 256) (m : Int) (hm : W.cell? ⟨0, 0, none⟩ = some (.int .i64 m)) :
    Calls Try.prog 25 #[.slice (some ⟨b, off, none⟩) n c, .slice (some ⟨W.heap.size, 0, none⟩) 5 5] (W.alloc preObj) fun e w' => e = .returned (.bool (hasPre t)) ∧ ∃ q, w' = (W.alloc preObj).drewN q := by
  rw [← contains_hasPre hr]
  refine Try.bytes_Contains_at ⟨b, off, none⟩ ⟨W.heap.size, 0, none⟩ n c 5 5 t [92, 117, 50, 48, 50] m (W.alloc preObj) hl.1 rfl hr (by intro y hy; simp at hy; omega)
    (fun i hi => Lib.cell?_alloc_marked _ (by rw [Addr.add_lit]; exact (hl.2 i hi).2)) (fun i hi => ?_) hnc (by omega) (by decide) (Lib.cell?_alloc_marked _ hm)
  unfold preObj
  rw [Addr.add_lit, Nat.zero_add, cell_of_row _ _ _ _ _ _ (heap_alloc_new W _)]
  rcases (show i = 0 ∨ i = 1 ∨ i = 2 ∨ i = 3 ∨ i = 4 from by omega) with rfl | rfl | rfl | rfl | rfl <;> rfl

set_option maxHeartbeats 400000 in
/-- Where the prefix stands nowhere: the slice itself. -/
theorem unesc_same (b off n c : Nat) (hnc : n ≤ c) (t : List Int) (w : World) (hl : Lies w (some ⟨b, off, none⟩) b off n t) (hn : n ≤ 1048576) (hr : ∀ x ∈ t, 0 ≤ x ∧ x < 256) (m : Int) (hm : w.cell? ⟨0, 0, none⟩ = some (.int .i64 m)) (hp : hasPre t = false) :
    Calls Try.prog 21 #[.slice (some ⟨b, off, none⟩) n c] w fun e w' => e = .returned (.slice (some ⟨b, off, none⟩) n c) ∧ Below w.heap.size w w' := by
  have hcon := con_any b off n c hnc t w hl hn hr m hm
  rw [hp] at hcon
  unfold preObj at hcon
  have kc := fun (w : World) (C : Array Value) (n c : Nat) => Lib.run_convert_bytes_const (P := Try.prog) w 22 5 C n c Try.underlying22 Try.underlying5
  clear hr hm hp hl
  go_enter Try.func21, Try.ntmps21
  go_wp2_with (go_at_call 25; refine hcon.mono ?_; rintro e w' ⟨rfl, q, rfl⟩)
  go_ret
  exact ⟨rfl, below_drewN ((Below.refl _ _).alloc (Nat.le_refl _) _) q⟩

set_option maxHeartbeats 400000 in
theorem unesc_nil (w : World) :
    Calls Try.prog 21 #[.slice none 0 0] w fun e w' => e = .returned (.slice none 0 0) ∧ Below w.heap.size w w' := by
  have hcon := Try.bytes_Contains_nil (some ⟨w.heap.size, 0, none⟩) 5 5 (w.alloc preObj) (by decide) (fun h => absurd h (by decide))
  unfold preObj at hcon
  have kc := fun (w : World) (C : Array Value) (n c : Nat) => Lib.run_convert_bytes_const (P := Try.prog) w 22 5 C n c Try.underlying22 Try.underlying5
  go_enter Try.func21, Try.ntmps21
  go_wp2_with (go_at_call 25; refine hcon.mono ?_; rintro e w' ⟨rfl, rfl⟩)
  go_ret
  exact ⟨rfl, (Below.refl _ _).alloc (Nat.le_refl _) _⟩

/-- Where it stands somewhere, and the text does not end inside an escape. -/
theorem unesc_has (b off n c : Nat) (hnc : n ≤ c) (t : List Int) (w : World) (hl : Lies w (some ⟨b, off, none⟩) b off n t) (hn : n ≤ 1048576) (hr : ∀ x ∈ t, 0 ≤ x ∧ x < 256) (m : Int) (hm : w.cell? ⟨0, 0, none⟩ = some (.int .i64 m)) (hp : hasPre t = true) (ho : oddTo t n = false) :
    Calls Try.prog 21 #[.slice (some ⟨b, off, none⟩) n c] w fun e w' => ∃ v, e = .returned v ∧
      w'.ownsRow w.heap.size 5 1 v (mdlAt t 0).length (u8s (mdlAt t 0)) ∧ Below w.heap.size w w' := by
  have hcon := con_any b off n c hnc t w hl hn hr m hm
  rw [hp] at hcon
  have h := unesc_at b off n c hnc t w hl hn hr ho hcon
  rw [prg_mdl_all t (by rw [hl.1]; exact ho)] at h
  exact h


theorem run_equalIn_ptr_same {P : Program} (w : World) (d : Nat) {tp te : TypeId} {j : TypeInfo} (a : Addr) (hp : P.underlying tp = some (.pointer te)) (hte : P.info? te = some j) :
    (Op.equalIn (d + 1) tp (.pointer (some a)) (.pointer (some a))).run P w = .ok true w := by
  simp [Op.equalIn, run_underlying hp, typeInfo, sizeOf, run_sameAddr_same, hte]

/-- '&x != &x' -/
theorem run_neq_ptr_same (w : World) (a : Addr) : (binOp .neq 34 (.pointer (some a)) (.pointer (some a))).run Try.prog w = .ok (.bool false) w := by
  obtain ⟨i0, hi, hz0, hz1, hz2⟩ := info_parts Try.info5
  simp only [binOp]
  simp [Op.equal, Op.maxDepth, run_equalIn_ptr_same w 9999 a Try.underlying34 hi]

set_option maxHeartbeats 1000000 in
/-- THE LAW at a text that is not nil, the prefix nowhere in it. -/
theorem law_same (ad : Addr) (b off n c : Nat) (t : List Int) (w : World) (hl : Lies w (some ad) b off n t) (hn : n ≤ 1048576) (hr : ∀ x ∈ t, 0 ≤ x ∧ x < 256) (m : Int) (hm : w.cell? ⟨0, 0, none⟩ = some (.int .i64 m)) (hp : hasPre t = false) :
    Calls Try.prog 5 #[.slice (some ad) n c] w fun e w' => e = .returned (.bool true) ∧ Below w.heap.size w w' := by
  have hnil := fun (w : World) (a : Option Addr) (l c : Nat) => Lib.run_eql_slice_nil (P := Try.prog) w 22 5 a l c 0 0 Try.underlying22
  have hptr := run_neq_ptr_same
  have HL : Hid (Lies w (some ad) b off n t) := hl
  have HR : Hid (∀ x ∈ t, 0 ≤ x ∧ x < 256) := hr
  clear hl hr
  have hm0 : 0 < w.heap.size := World.block_lt_of_cell? w _ hm
  cases ho : oddTo t n with
  | true =>
    go_enter Try.func5, Try.ntmps5
    go_wp2_with (first | (go_at_call 13; go_in) | (go_at_call 14; refine (trailing_any _ b off n c t _ (by exact HL) hn).mono ?_; rintro e wx ⟨rfl, hwx⟩; rw [hwx]; clear hwx) | (go_at_call 15; refine (contains_any _ b off n c t _ (by exact HL) hn).mono ?_; rintro e wx ⟨rfl, q1, rfl⟩) | (go_at_call 8; refine (clone_any _ b off n c t _ (by exact HL) hn).mono ?_; rintro e w2 ⟨rfl, hown, hbel⟩))
    have hown2 : w2.ownsRow w.heap.size 5 1 (.slice (some ⟨w.heap.size, 0, none⟩) n n) n (u8s t) := hown
    have hbel2 : Below w.heap.size w w2 := (below_drewN (Below.refl _ w) q1).trans hbel
    clear hown hbel
    have HL2 : Hid (Lies w2 (some ⟨w.heap.size, 0, none⟩) w.heap.size 0 n t) := lies_at hown2
    have hm2 : w2.cell? ⟨0, 0, none⟩ = some (.int .i64 m) := (hbel2.cell hm0).trans hm
    clear hown2 hm
    go_wp2_with (first | (go_at_call 16; go_in) | (go_at_call 21; refine (unesc_same w.heap.size 0 n n (Nat.le_refl _) t _ (by exact HL2) hn HR m hm2 hp).mono ?_; rintro e w3 ⟨rfl, hb3⟩))
    have HL3 : Hid (Lies w3 (some ⟨w.heap.size, 0, none⟩) w.heap.size 0 n t) := HL2.out.below hb3 (Nat.le_refl _)
    have hbel3 : Below w.heap.size w w3 := hbel2.trans (hb3.mono hbel2.size)
    clear hbel2 hb3 hm2
    go_wp2_with (go_at_call 18; refine (model_any _ w.heap.size 0 n n t _ (by exact HL3) hn).mono ?_; rintro e w4 ⟨v, rfl, hownv, hb4⟩)
    rw [mdl_same_all t hp] at hownv
    obtain ⟨av, gv, cv, hv, hlv⟩ := lies_of_owns hownv
    rw [hv]
    clear hv hownv
    have HLv : Hid (Lies w4 av gv 0 t.length t) := hlv
    have HL4 : Hid (Lies w4 (some ⟨w.heap.size, 0, none⟩) w.heap.size 0 n t) := HL3.out.below hb4 (Nat.le_refl _)
    have hbel4 : Below w.heap.size w w4 := hbel3.trans (hb4.mono hbel3.size)
    clear hlv hbel3 hb4
    refine (equal_any _ w.heap.size 0 n n t _ gv 0 _ cv t _ HL4 HLv hn).mono ?_
    rintro e wx ⟨rfl, q2, rfl⟩
    go_wp2_with (go_at_call 15; refine (contains_any _ w.heap.size 0 n n t _ (by exact HL4) hn).mono ?_; rintro e wx ⟨rfl, q3, rfl⟩)
    by_cases hn0 : 0 < n
    · have hpos : (0 : Int) < (n : Int) := by omega
      go_wp2
      go_quiet (fail)
      go_wp2
      go_ret
      exact ⟨rfl, below_drewN (below_drewN hbel4 _) _⟩
    · have hpos : decide ((0 : Int) < (n : Int)) = false := decide_eq_false (by omega)
      go_wp2
      go_quiet (fail)
      go_wp2
      go_ret
      exact ⟨rfl, below_drewN (below_drewN hbel4 _) _⟩
  | false =>
    go_enter Try.func5, Try.ntmps5
    go_wp2_with (first | (go_at_call 13; go_in) | (go_at_call 14; refine (trailing_any _ b off n c t _ (by exact HL) hn).mono ?_; rintro e wx ⟨rfl, hwx⟩; rw [hwx]; clear hwx) | (go_at_call 8; refine (clone_any _ b off n c t _ (by exact HL) hn).mono ?_; rintro e w2 ⟨rfl, hown, hbel⟩))
    have hown2 : w2.ownsRow w.heap.size 5 1 (.slice (some ⟨w.heap.size, 0, none⟩) n n) n (u8s t) := hown
    have hbel2 : Below w.heap.size w w2 := hbel
    clear hown hbel
    have HL2 : Hid (Lies w2 (some ⟨w.heap.size, 0, none⟩) w.heap.size 0 n t) := lies_at hown2
    have hm2 : w2.cell? ⟨0, 0, none⟩ = some (.int .i64 m) := (hbel2.cell hm0).trans hm
    clear hown2 hm
    go_wp2_with (first | (go_at_call 16; go_in) | (go_at_call 21; refine (unesc_same w.heap.size 0 n n (Nat.le_refl _) t _ (by exact HL2) hn HR m hm2 hp).mono ?_; rintro e w3 ⟨rfl, hb3⟩))
    have HL3 : Hid (Lies w3 (some ⟨w.heap.size, 0, none⟩) w.heap.size 0 n t) := HL2.out.below hb3 (Nat.le_refl _)
    have hbel3 : Below w.heap.size w w3 := hbel2.trans (hb3.mono hbel2.size)
    clear hbel2 hb3 hm2
    go_wp2_with (go_at_call 18; refine (model_any _ w.heap.size 0 n n t _ (by exact HL3) hn).mono ?_; rintro e w4 ⟨v, rfl, hownv, hb4⟩)
    rw [mdl_same_all t hp] at hownv
    obtain ⟨av, gv, cv, hv, hlv⟩ := lies_of_owns hownv
    rw [hv]
    clear hv hownv
    have HLv : Hid (Lies w4 av gv 0 t.length t) := hlv
    have HL4 : Hid (Lies w4 (some ⟨w.heap.size, 0, none⟩) w.heap.size 0 n t) := HL3.out.below hb4 (Nat.le_refl _)
    have hbel4 : Below w.heap.size w w4 := hbel3.trans (hb4.mono hbel3.size)
    clear hlv hbel3 hb4
    refine (equal_any _ w.heap.size 0 n n t _ gv 0 _ cv t _ HL4 HLv hn).mono ?_
    rintro e wx ⟨rfl, q2, rfl⟩
    go_wp2_with (go_at_call 15; refine (contains_any _ w.heap.size 0 n n t _ (by exact HL4) hn).mono ?_; rintro e wx ⟨rfl, q3, rfl⟩)
    by_cases hn0 : 0 < n
    · have hpos : (0 : Int) < (n : Int) := by omega
      go_wp2
      go_quiet (fail)
      go_wp2
      go_ret
      exact ⟨rfl, below_drewN (below_drewN hbel4 _) _⟩
    · have hpos : decide ((0 : Int) < (n : Int)) = false := decide_eq_false (by omega)
      go_wp2
      go_quiet (fail)
      go_wp2
      go_ret
      exact ⟨rfl, below_drewN (below_drewN hbel4 _) _⟩

set_option maxHeartbeats 1000000 in
/-- THE LAW at a text that holds the prefix. -/
theorem law_has (ad : Addr) (b off n c : Nat) (t : List Int) (w : World) (hl : Lies w (some ad) b off n t) (hn : n ≤ 1048576) (hr : ∀ x ∈ t, 0 ≤ x ∧ x < 256) (m : Int) (hm : w.cell? ⟨0, 0, none⟩ = some (.int .i64 m)) (hp : hasPre t = true) :
    Calls Try.prog 5 #[.slice (some ad) n c] w fun e w' => e = .returned (.bool true) ∧ Below w.heap.size w w' := by
  have HL : Hid (Lies w (some ad) b off n t) := hl
  have HR : Hid (∀ x ∈ t, 0 ≤ x ∧ x < 256) := hr
  have HT : Hid (t.length = n) := hl.1
  clear hl hr
  have hm0 : 0 < w.heap.size := World.block_lt_of_cell? w _ hm
  cases ho : oddTo t n with
  | true =>
    go_enter Try.func5, Try.ntmps5
    go_wp2_with (first | (go_at_call 13; go_in) | (go_at_call 14; refine (trailing_any _ b off n c t _ (by exact HL) hn).mono ?_; rintro e wx ⟨rfl, hwx⟩; rw [hwx]; clear hwx) | (go_at_call 15; refine (contains_any _ b off n c t _ (by exact HL) hn).mono ?_; rintro e wx ⟨rfl, q1, rfl⟩))
    go_ret
    exact ⟨rfl, below_drewN (Below.refl _ w) q1⟩
  | false =>
    go_enter Try.func5, Try.ntmps5
    go_wp2_with (first | (go_at_call 13; go_in) | (go_at_call 14; refine (trailing_any _ b off n c t _ (by exact HL) hn).mono ?_; rintro e wx ⟨rfl, hwx⟩; rw [hwx]; clear hwx) | (go_at_call 8; refine (clone_any _ b off n c t _ (by exact HL) hn).mono ?_; rintro e w2 ⟨rfl, hown2, hbel2⟩))
    have HL2 : Hid (Lies w2 (some ⟨w.heap.size, 0, none⟩) w.heap.size 0 n t) := lies_at hown2
    have hm2 : w2.cell? ⟨0, 0, none⟩ = some (.int .i64 m) := (hbel2.cell hm0).trans hm
    clear hown2 hm
    go_wp2_with (first | (go_at_call 16; go_in) | (go_at_call 21; refine (unesc_has w.heap.size 0 n n (Nat.le_refl _) t _ (by exact HL2) hn HR m hm2 hp ho).mono ?_; rintro e w3 ⟨v3, rfl, hown3, hb3⟩))
    have HL3 : Hid (Lies w3 (some ⟨w.heap.size, 0, none⟩) w.heap.size 0 n t) := HL2.out.below hb3 (Nat.le_refl _)
    have hbel3 : Below w.heap.size w w3 := hbel2.trans (hb3.mono hbel2.size)
    obtain ⟨a3, g3, c3, hv3, hl3⟩ := lies_of_owns hown3
    rw [hv3]
    clear hv3 hown3
    have HLo : Hid (Lies w3 a3 g3 0 (mdlAt t 0).length (mdlAt t 0)) := hl3
    clear hbel2 hb3 hm2 hl3
    go_wp2_with (go_at_call 18; refine (model_any _ w.heap.size 0 n n t _ (by exact HL3) hn).mono ?_; rintro e w4 ⟨v, rfl, hownv, hb4⟩)
    obtain ⟨av, gv, cv, hv, hlv⟩ := lies_of_owns hownv
    rw [hv]
    clear hv hownv
    have HLv : Hid (Lies w4 av gv 0 (mdlAt t 0).length (mdlAt t 0)) := hlv
    have HLo4 : Hid (Lies w4 a3 g3 0 (mdlAt t 0).length (mdlAt t 0)) := HLo.out.below hb4 (Nat.le_refl _)
    have HL4 : Hid (Lies w4 (some ⟨w.heap.size, 0, none⟩) w.heap.size 0 n t) := HL3.out.below hb4 (Nat.le_refl _)
    have hbel4 : Below w.heap.size w w4 := hbel3.trans (hb4.mono hbel3.size)
    clear hlv hbel3 hb4
    have hlen : (mdlAt t 0).length ≤ 1048576 := by have h1 := mdlAt_length t t.length 0 (by omega); have h2 := HT.out; omega
    refine (equal_any _ g3 0 _ c3 (mdlAt t 0) _ gv 0 _ cv (mdlAt t 0) _ HLo4 HLv hlen).mono ?_
    rintro e wx ⟨rfl, q2, rfl⟩
    go_wp2_with (go_at_call 15; refine (contains_any _ w.heap.size 0 n n t _ (by exact HL4) hn).mono ?_; rintro e wx ⟨rfl, q3, rfl⟩)
    go_ret
    exact ⟨rfl, below_drewN hbel4 _⟩

set_option maxHeartbeats 1000000 in
/-- THE LAW at nil. -/
theorem law_nil (w : World) :
    Calls Try.prog 5 #[.slice none 0 0] w fun e w' => e = .returned (.bool true) ∧ Below w.heap.size w w' := by
  have hnil := fun (w : World) (a : Option Addr) (l c : Nat) => Lib.run_eql_slice_nil (P := Try.prog) w 22 5 a l c 0 0 Try.underlying22
  have HL : ∀ W : World, Lies W none 0 0 0 [] := fun W => ⟨rfl, fun i hi => absurd hi (Nat.not_lt_zero _)⟩
  have HLh : Hid (∀ W : World, Lies W none 0 0 0 []) := HL
  clear HL
  go_enter Try.func5, Try.ntmps5
  go_wp2_with (first | (go_at_call 13; go_in) | (go_at_call 14; refine (trailing_any _ 0 0 0 0 [] _ (HLh.out _) (by omega)).mono ?_; rintro e wx ⟨rfl, hwx⟩; rw [hwx]; clear hwx) | (go_at_call 8; refine (clone_nil _ 0).mono ?_; rintro e wx ⟨rfl, hwx⟩; rw [hwx]; clear hwx) | (go_at_call 16; go_in) | (go_at_call 21; refine (unesc_nil _).mono ?_; rintro e w3 ⟨rfl, hb3⟩) | (go_at_call 18; refine (model_any _ 0 0 0 0 [] _ (HLh.out _) (by omega)).mono ?_; rintro e w4 ⟨v, rfl, hownv, hb4⟩))
  obtain ⟨av, gv, cv, hv, hlv⟩ := lies_of_owns hownv
  rw [hv]
  clear hv hownv
  have HLv : Hid (Lies w4 av gv 0 0 []) := hlv
  have hbel4 : Below w.heap.size w w4 := hb3.trans (hb4.mono hb3.size)
  clear hlv hb3 hb4
  refine (equal_any _ 0 0 0 0 [] _ gv 0 0 cv [] _ (HLh.out _) HLv (by omega)).mono ?_
  rintro e wx ⟨rfl, q2, rfl⟩
  go_wp2_with (go_at_call 15; refine (contains_any _ 0 0 0 0 [] _ (HLh.out _) (by omega)).mono ?_; rintro e wx ⟨rfl, q3, rfl⟩)
  go_quiet (fail)
  go_wp2
  go_ret
  exact ⟨rfl, below_drewN (below_drewN hbel4 _) _⟩

set_option maxHeartbeats 400000 in
/-- THE LAW at a text that is too long. -/
theorem law_long (a : Option Addr) (n c : Nat) (w : World) (hn : ¬ n ≤ 1048576) :
    Calls Try.prog 5 #[.slice a n c] w fun e w' => e = .returned (.bool true) ∧ Below w.heap.size w w' := by
  have hgt : (1048576 : Int) < (n : Int) := by omega
  go_enter Try.func5, Try.ntmps5
  go_wp2
  go_ret
  exact ⟨rfl, Below.refl _ _⟩

end Go.Proofs.Qxb6603046a
