import Derived.Test.Qxb6603046aClone
namespace Go.Proofs.Qxb6603046a
open Go.RowKit

theorem Lies.below {w w' : World} {a : Option Addr} {b off n : Nat} {t : List Int} (h : Lies w a b off n t) {B : Nat} (hb : Below B w w') (hB : w.heap.size ≤ B) : Lies w' a b off n t :=
  ⟨h.1, fun i hi => ⟨(h.2 i hi).1, (hb.cell (Nat.lt_of_lt_of_le (World.block_lt_of_cell? w _ (h.2 i hi).2) hB)).trans (h.2 i hi).2⟩⟩
theorem Lies.drewN {w : World} {a : Option Addr} {b off n : Nat} {t : List Int} (h : Lies w a b off n t) (q : Nat) : Lies (w.drewN q) a b off n t := h

theorem ownsRow_drewN {w : World} {base : Nat} {e : TypeId} {size : Nat} {v : Value} {n : Nat} {xs : List Value} (h : w.ownsRow base e size v n xs) (q : Nat) : (w.drewN q).ownsRow base e size v n xs := h

theorem cells_new (W : World) (xs : List Int) : ∀ j u, (u8s xs)[j]? = some u → (W.alloc (.cells (u8s xs).toArray 5)).cell? ((⟨W.heap.size, 0, none⟩ : Addr).add j) = some u := by
  intro j u hj
  have hlt : j < (u8s xs).length := (List.getElem?_eq_some_iff.1 hj).1
  rw [Addr.add_lit, Nat.zero_add, cell_of_row _ _ _ _ _ _ (heap_alloc_new W _)]
  simpa using hj

theorem u8s_append (xs ys : List Int) : u8s xs ++ u8s ys = u8s (xs ++ ys) := by simp [u8s]

/-- What a round of the model leaves. -/
theorem mdl_sep {t acc : List Int} {n i : Nat} (ht : t.length = n) (hi : i < n) (hs : (sepAt t i != 0) = true) (ho : oddTo t (i + 1) = true) (H : acc ++ mdlAt t i = mdlAt t 0) :
    i + 6 ≤ n ∧ (acc ++ [226, 128, sepAt t i]) ++ mdlAt t (i + 6) = mdlAt t 0 := by
  have hs' : sepAt t i ≠ 0 := by simpa using hs
  refine ⟨by have := (sepAt_ne hs').1; omega, ?_⟩
  rw [← H, mdlAt_step t i (by omega), if_pos ⟨hs', ho⟩]; simp
theorem mdl_byte {t acc : List Int} {n i : Nat} (ht : t.length = n) (hi : i < n) (hs : (sepAt t i != 0) = false ∨ oddTo t (i + 1) = false) (H : acc ++ mdlAt t i = mdlAt t 0) :
    (acc ++ [t[i]?.getD 0]) ++ mdlAt t (i + 1) = mdlAt t 0 := by
  rw [← H, mdlAt_step t i (by omega), if_neg]
  · simp [List.getD_eq_getElem?_getD]
  · rintro ⟨h1, h2⟩
    rcases hs with h | h
    · simp at h; exact h1 h
    · rw [h] at h2; exact absurd h2 (by simp)

theorem mdl_done {t acc : List Int} {n i : Nat} (ht : t.length = n) (hi : ¬ i < n) (H : acc ++ mdlAt t i = mdlAt t 0) : mdlAt t 0 = acc := by
  rw [← H, mdlAt_end t i (by omega), List.append_nil]

set_option maxHeartbeats 1000000 in
theorem model_at (b off n c : Nat) (t : List Int) (w : World) (hl : Lies w (some ⟨b, off, none⟩) b off n t) (hn : n ≤ 1048576) :
    Calls Try.prog 18 #[.slice (some ⟨b, off, none⟩) n c] w fun e w' => ∃ v, e = .returned v ∧
      w'.ownsRow w.heap.size 5 1 v (mdlAt t 0).length (u8s (mdlAt t 0)) ∧ Below w.heap.size w w' := by
  have H1 : Hid (t.length = n) := hl.1
  obtain ⟨i0, hi, hz0, hz1, hz2⟩ := info_parts Try.info5
  go_enter Try.func18, Try.ntmps18
  go_wp2_with (at_make; refine wpList_make_own _ rfl _ _ 22 rfl w.heap.size 5 i0 (.int .u8 0) 1 Try.underlying22 hi hz0 hz1 _ _ _ n rfl rfl rfl ?b2 ?b3 (Nat.le_refl _) ?_)
  case b2 => rw [hz2]; omega
  case b3 => unfold maxLen; omega
  intro w1 hown1 hgrow1
  have hb1 : Below w.heap.size w w1 := (Below.refl _ _).grown hgrow1 (Nat.le_refl _) (fun k hk => by cases hk)
  clear hgrow1
  go_wp2
  go_loopw [3, 4] (fun v j wr => ∃ (i : Nat) (acc : List Int), i ≤ n ∧ acc.length ≤ i ∧ j = .int .i64 i ∧ v = .slice (some ⟨w.heap.size, 0, none⟩) acc.length n ∧ Hid (acc ++ mdlAt t i = mdlAt t 0) ∧ wr.ownsRow w.heap.size 5 1 (.slice (some ⟨w.heap.size, 0, none⟩) acc.length n) acc.length (u8s acc) ∧ Below w.heap.size w wr) (fun _ j _ => n - (intOf j).toNat)
  case atStart => exact ⟨0, [], Nat.zero_le _, Nat.zero_le _, rfl, rfl, (rfl : [] ++ mdlAt t 0 = mdlAt t 0), hown1, hb1⟩
  case round =>
    obtain ⟨i, acc, hin, hai, rfl, rfl, HR, hown, hbel⟩ := hrel
    clear hown1 hb1
    have HSl : Hid (Lies wr (some ⟨b, off, none⟩) b off n t) := hl.below hbel (Nat.le_refl _)
    by_cases hlt : i < n
    · have hcell := (HSl.out.2 i hlt).2
      have hi' : (i : Int) < (n : Int) := by omega
      by_cases hs : (sepAt t i != 0) = true
      · by_cases ho : oddTo t (i + 1) = true
        · have R := mdl_sep H1.out hlt hs ho HR.out
          have HR2 : Hid ((acc ++ [226, 128, sepAt t i]) ++ mdlAt t (i + 6) = mdlAt t 0) := R.2
          have h6 := R.1
          clear R
          go_wp2_with (first | (go_at_call 22; refine (sepAt_any _ b off n c t _ (by exact HSl) hn i hlt).mono ?_; rintro e w' ⟨rfl, q, rfl⟩) | (go_at_call 23; refine (oddRun_any _ b off n c t _ (by exact HSl) hn i hlt).mono ?_; rintro e w' ⟨rfl, rfl⟩) | (at_builtin; refine wpList_append_fits _ rfl (.tmp 23) (.tmp 25) 22 rfl w.heap.size 5 i0 1 Try.underlying22 hi hz1 w.heap.size acc.length n (u8s acc) rfl ((ownsRow_drewN hown _).alloc _) ⟨wr.heap.size, 0, none⟩ 3 3 (u8s [226, 128, sepAt t i]) rfl rfl (cells_new (wr.drewN q) [226, 128, sepAt t i]) (ints_oneCell _ _) (by omega) ?_; intro w2 hown2 hgrow2))
          have hbel2 : Below w.heap.size w w2 := ((below_drewN hbel q).alloc hbel.size _).grown hgrow2 (by have := hbel.size; simp; omega) (fun k hk => by cases hk; exact Nat.le_refl _)
          rw [u8s_append] at hown2
          go_roundw
          case rel => exact ⟨i + 6, acc ++ [226, 128, sepAt t i], h6, by simp; omega, by go_num, by simp, HR2, by simpa using hown2, hbel2⟩
          case measure => simp [intOf]; omega
        · have ho' : oddTo t (i + 1) = false := by simpa using ho
          clear ho
          have HR2 : Hid ((acc ++ [t[i]?.getD 0]) ++ mdlAt t (i + 1) = mdlAt t 0) := mdl_byte H1.out hlt (.inr ho') HR.out
          go_wp2_with (first | (go_at_call 22; refine (sepAt_any _ b off n c t _ (by exact HSl) hn i hlt).mono ?_; rintro e w' ⟨rfl, q, rfl⟩) | (go_at_call 23; refine (oddRun_any _ b off n c t _ (by exact HSl) hn i hlt).mono ?_; rintro e w' ⟨rfl, rfl⟩) | (at_builtin; refine wpList_append_fits _ rfl (.tmp 29) (.tmp 34) 22 rfl w.heap.size 5 i0 1 Try.underlying22 hi hz1 w.heap.size acc.length n (u8s acc) rfl ((ownsRow_drewN hown _).alloc _) ⟨wr.heap.size, 0, none⟩ 1 1 (u8s [t[i]?.getD 0]) rfl rfl (cells_new (wr.drewN q) [t[i]?.getD 0]) (ints_oneCell _ _) (by omega) ?_; intro w2 hown2 hgrow2))
          have hbel2 : Below w.heap.size w w2 := ((below_drewN hbel q).alloc hbel.size _).grown hgrow2 (by have := hbel.size; simp; omega) (fun k hk => by cases hk; exact Nat.le_refl _)
          rw [u8s_append] at hown2
          go_roundw
          case rel => exact ⟨i + 1, acc ++ [t[i]?.getD 0], by omega, by simp; omega, by go_num, by simp, HR2, by simpa using hown2, hbel2⟩
          case measure => simp [intOf]; omega
      · have hs' : (sepAt t i != 0) = false := by simpa using hs
        clear hs
        have HR2 : Hid ((acc ++ [t[i]?.getD 0]) ++ mdlAt t (i + 1) = mdlAt t 0) := mdl_byte H1.out hlt (.inl hs') HR.out
        go_wp2_with (first | (go_at_call 22; refine (sepAt_any _ b off n c t _ (by exact HSl) hn i hlt).mono ?_; rintro e w' ⟨rfl, q, rfl⟩) | (at_builtin; refine wpList_append_fits _ rfl (.tmp 29) (.tmp 34) 22 rfl w.heap.size 5 i0 1 Try.underlying22 hi hz1 w.heap.size acc.length n (u8s acc) rfl ((ownsRow_drewN hown _).alloc _) ⟨wr.heap.size, 0, none⟩ 1 1 (u8s [t[i]?.getD 0]) rfl rfl (cells_new (wr.drewN q) [t[i]?.getD 0]) (ints_oneCell _ _) (by omega) ?_; intro w2 hown2 hgrow2))
        have hbel2 : Below w.heap.size w w2 := ((below_drewN hbel q).alloc hbel.size _).grown hgrow2 (by have := hbel.size; simp; omega) (fun k hk => by cases hk; exact Nat.le_refl _)
        rw [u8s_append] at hown2
        go_roundw
        case rel => exact ⟨i + 1, acc ++ [t[i]?.getD 0], by omega, by simp; omega, by go_num, by simp, HR2, by simpa using hown2, hbel2⟩
        case measure => simp [intOf]; omega
    · have hown' : wr.ownsRow w.heap.size 5 1 (.slice (some ⟨w.heap.size, 0, none⟩) acc.length n) (mdlAt t 0).length (u8s (mdlAt t 0)) := by rw [mdl_done H1.out hlt HR.out]; exact hown
      go_wp2
      go_ret
      exact ⟨_, rfl, hown', hbel⟩

set_option maxHeartbeats 400000 in
theorem model_none (a : Option Addr) (c : Nat) (w : World) :
    Calls Try.prog 18 #[.slice a 0 c] w fun e w' => ∃ v, e = .returned v ∧
      w'.ownsRow w.heap.size 5 1 v 0 [] ∧ Below w.heap.size w w' := by
  obtain ⟨i0, hi, hz0, hz1, hz2⟩ := info_parts Try.info5
  go_enter Try.func18, Try.ntmps18
  go_wp2_with (at_make; refine wpList_make_own _ rfl _ _ 22 rfl w.heap.size 5 i0 (.int .u8 0) 1 Try.underlying22 hi hz0 hz1 _ _ _ 0 rfl rfl rfl ?b2 ?b3 (Nat.le_refl _) ?_)
  case b2 => rw [hz2]; omega
  case b3 => unfold maxLen; omega
  intro w1 hown1 hgrow1
  have hb1 : Below w.heap.size w w1 := (Below.refl _ _).grown hgrow1 (Nat.le_refl _) (fun k hk => by cases hk)
  clear hgrow1
  go_wp2
  refine wp_loop_rounds 1 ?_
  rw [rounds_succ]
  go_wp2
  go_ret
  exact ⟨_, rfl, hown1, hb1⟩

theorem model_any (a : Option Addr) (b off n c : Nat) (t : List Int) (w : World) (hl : Lies w a b off n t) (hn : n ≤ 1048576) :
    Calls Try.prog 18 #[.slice a n c] w fun e w' => ∃ v, e = .returned v ∧
      w'.ownsRow w.heap.size 5 1 v (mdlAt t 0).length (u8s (mdlAt t 0)) ∧ Below w.heap.size w w' := by
  rcases Nat.eq_zero_or_pos n with rfl | hpos
  · obtain rfl : t = [] := List.eq_nil_of_length_eq_zero hl.1
    exact model_none a c w
  · obtain rfl := (hl.2 0 hpos).1
    exact model_at b off n c t w hl hn
end Go.Proofs.Qxb6603046a
