/-
  aliasLine, walked: it answers as 'scanAt'.
-/
import Derived.Test.Qxb6000647aLine
import Derived.Test.Qxb6000647aFirst
import Derived.Laws.IdiomStrings
import Derived.Lib.SlBytesConst
namespace Go.Proofs.Qxb6000647a
open Go.RowKit

theorem bi_append (s : ByteArray) : bi ((⟨#[42]⟩ : ByteArray) ++ s) = 42 :: bi s := by
  unfold bi; simp

/-- '[]byte("*" + anchor)' -/
theorem alias_conv (A : ByteArray) (w : World) : ∃ G W1, (convert 9 24 (.string A)).run Try.prog w = .ok (.slice (some ⟨w.heap.size, 0, none⟩) A.size G) W1 ∧ Below w.heap.size w W1 ∧ Lies W1 (some ⟨w.heap.size, 0, none⟩) w.heap.size 0 A.size (bi A) := by
  have h := run_bytes_of_string (P := Try.prog) w 9 24 5 A Try.underlying9 Try.underlying24 Try.underlying5
  refine ⟨_, _, h, (Below.refl _ w).drew.alloc (Nat.le_refl _) _, bi_length A, fun i hi => ⟨rfl, ?_⟩⟩
  rw [Nat.zero_add, bi_get A i hi, show w.heap.size = w.drew.heap.size from rfl, cell_of_row _ _ _ _ _ _ (heap_alloc_new w.drew _)]
  unfold bytesRow
  rw [Array.getElem?_append_left (by simpa using hi), Array.getElem?_map, Array.getElem?_eq_getElem hi]
  rfl

theorem indexByte_none : ∀ (l : List UInt8) (c : UInt8), (∀ b ∈ l, b ≠ c) → Lib.indexByte l c = -1 := by
  intro l c h
  rw [← Lib.index_one l c]
  refine Lib.index_none fun j _ => ?_
  cases ho : Lib.occAt l [c] j with
  | false => rfl
  | true =>
    unfold Lib.occAt at ho
    rw [List.isPrefixOf_iff_prefix] at ho
    obtain ⟨t, ht⟩ := ho
    have hm : c ∈ l.drop j := by rw [← ht]; simp
    exact absurd rfl (h c (List.mem_of_mem_drop hm))
theorem indexByte_contains : ∀ (l : List UInt8) (c : UInt8), decide (0 ≤ Lib.indexByte l c) = l.contains c := by
  intro l c
  cases h : l.contains c with
  | false =>
    rw [indexByte_none l c (fun b hb hbc => by subst hbc; have := List.contains_iff_mem.2 hb; rw [h] at this; exact absurd this (by simp))]; rfl
  | true =>
    have hm := List.contains_iff_mem.1 h
    rw [← Lib.index_one]
    rcases Lib.index_spec l [c] with ⟨_, h2⟩ | ⟨i, h1, _⟩
    · obtain ⟨i, hi, hic⟩ := List.getElem_of_mem hm
      have ho := h2 i (by omega)
      have : Lib.occAt l [c] i = true := by
        unfold Lib.occAt
        rw [List.isPrefixOf_iff_prefix, List.drop_eq_getElem_cons hi, hic]
        exact ⟨_, rfl⟩
      rw [ho] at this; exact absurd this (by simp)
    · rw [h1]; simp
theorem contains_bytes (x : Int) (hx : 0 ≤ x ∧ x < 256) : ∀ l : List Int, (∀ y ∈ l, 0 ≤ y ∧ y < 256) → (Lib.bytesOf l).contains x.toNat.toUInt8 = l.contains x
  | [], _ => rfl
  | y :: l, h => by
    have ih := contains_bytes x hx l (fun z hz => h z (by simp [hz]))
    show (UInt8.ofNat y.toNat :: Lib.bytesOf l).contains (UInt8.ofNat x.toNat) = _
    rw [List.contains_cons, List.contains_cons]
    have ih' : (Lib.bytesOf l).contains (UInt8.ofNat x.toNat) = l.contains x := ih
    rw [ih']
    have e : (UInt8.ofNat x.toNat == UInt8.ofNat y.toNat) = (x == y) := by
      rw [Bool.eq_iff_iff, beq_iff_eq, beq_iff_eq]
      exact ⟨fun g => u8_inj hx (h y (by simp)) g, fun g => by rw [g]⟩
    rw [e]
theorem pat_range (s : ByteArray) : ∀ x ∈ (42 :: bi s), (0 : Int) ≤ x ∧ x < 256 := by
  intro x hx
  rcases List.mem_cons.1 hx with rfl | hx
  · omega
  · exact bi_range s x hx

def dl9 : List Int := [32, 9, 13, 10, 44, 91, 93, 123, 125]
theorem dl_con {W : World} (x : Int) (hx : 0 ≤ x ∧ x < 256) :
    Calls Try.prog 29 #[.slice (some ⟨W.heap.size, 0, none⟩) 9 9, .int .u8 x] (W.alloc (.cells #[.int .u8 32, .int .u8 9, .int .u8 13, .int .u8 10, .int .u8 44, .int .u8 91, .int .u8 93, .int .u8 123, .int .u8 125] 5 (9, 10)))
      fun e w' => (∃ v : Int, e = .returned (.int .i64 v) ∧ decide (0 ≤ v) = delim x) ∧ w' = W.alloc (.cells #[.int .u8 32, .int .u8 9, .int .u8 13, .int .u8 10, .int .u8 44, .int .u8 91, .int .u8 93, .int .u8 123, .int .u8 125] 5 (9, 10)) := by
  have h := Try.bytes_IndexByte W.heap.size 0 9 9 dl9 x (W.alloc (.cells #[.int .u8 32, .int .u8 9, .int .u8 13, .int .u8 10, .int .u8 44, .int .u8 91, .int .u8 93, .int .u8 123, .int .u8 125] 5 (9, 10))) rfl (fun i hi => by
    rw [Nat.zero_add, cell_of_row _ _ _ _ _ _ (heap_alloc_new W _)]
    rcases (show i = 0 ∨ i = 1 ∨ i = 2 ∨ i = 3 ∨ i = 4 ∨ i = 5 ∨ i = 6 ∨ i = 7 ∨ i = 8 from by omega) with rfl | rfl | rfl | rfl | rfl | rfl | rfl | rfl | rfl <;> rfl)
  refine h.mono ?_
  rintro e w' ⟨rfl, hw⟩
  refine ⟨⟨_, rfl, ?_⟩, hw⟩
  rw [indexByte_contains]
  exact contains_bytes x hx dl9 (by intro y hy; unfold dl9 at hy; simp at hy; omega)

theorem hid_drewN (w : World) (q : Nat) : Hid (Below w.heap.size w (w.drewN q)) := by show Below _ _ _; exact ⟨rfl, rfl, rfl, Nat.le_refl _, fun _ _ => rfl⟩
theorem ret_int0 {v : Nat} (h : v = 0) : Ending.returned (.int .i64 0) = Ending.returned (.int .i64 (v : Int)) := by rw [h]; rfl
set_option maxHeartbeats 2000000 in
set_option maxRecDepth 100000 in
theorem alias_at (b off n : Nat) (hn0 : 0 < n) (hn : n ≤ 65536) (t : List Int) (s : ByteArray) (hs : s.size ≤ 65536) (w : World) (hl : Lies w (some ⟨b, off, none⟩) b off n t) (hr : ∀ x ∈ t, 0 ≤ x ∧ x < 256) (h42 : ¬ (42 : Int) ∈ bi s) (m : Int) (hm : w.cell? ⟨0, 0, none⟩ = some (.int .i64 m)) :
    Calls Try.prog 22 #[.slice (some ⟨b, off, none⟩) n n, .string s] w fun e w' => e = .returned (.int .i64 (scanAt t (42 :: bi s) 0)) ∧ Below w.heap.size w w' := by
  have HT : Hid (t.length = n) := hl.1
  have HP : Hid ((42 :: bi s).length = s.size + 1) := by show _ = _; rw [List.length_cons, bi_length]
  have HRr : Hid (∀ x ∈ t, 0 ≤ x ∧ x < 256) := hr
  have H42 : Hid (¬ (42 : Int) ∈ bi s) := h42
  have hm0 : 0 < w.heap.size := World.block_lt_of_cell? w _ hm
  obtain ⟨A, hA⟩ : ∃ A : ByteArray, (⟨#[42]⟩ : ByteArray) ++ s = A := ⟨_, rfl⟩
  have hAs : A.size = s.size + 1 := by rw [← hA, ByteArray.size_append]; show 1 + s.size = _; omega
  obtain ⟨G, W1, hconv, hbW, hlA⟩ := alias_conv A w
  rw [show bi A = 42 :: bi s from by rw [← hA, bi_append], hAs] at hlA
  rw [hAs] at hconv
  have HAs : Hid (A.size = s.size + 1) := hAs
  have HLA : Hid (Lies W1 (some ⟨w.heap.size, 0, none⟩) w.heap.size 0 (s.size + 1) (42 :: bi s)) := hlA
  have HL1 : Hid (Lies W1 (some ⟨b, off, none⟩) b off n t) := hl.below hbW (Nat.le_refl _)
  have hm1 : W1.cell? ⟨0, 0, none⟩ = some (.int .i64 m) := (hbW.cell hm0).trans hm
  have HM1 : Hid (W1.cell? ⟨0, 0, none⟩ = some (.int .i64 m)) := hm1
  clear hl hr h42 hm hlA hm1 hAs
  go_enter Try.func22, Try.ntmps22
  go_wp2
  go_loopw [6] (fun j wr => ∃ p : Nat, p < n ∧ j = .int .i64 p ∧ Below W1.heap.size W1 wr ∧ Hid (scanAt t (42 :: bi s) p = scanAt t (42 :: bi s) 0)) (fun j _ => n - (intOf j).toNat)
  case atStart => exact ⟨0, hn0, rfl, Below.refl _ _, (rfl : scanAt t (42 :: bi s) 0 = scanAt t (42 :: bi s) 0)⟩
  case round =>
    obtain ⟨p, hpn, rfl, hbel, HR⟩ := hrel
    have hp1 : (0 : Int) ≤ (p : Int) := by omega
    have hp2 : (p : Int) ≤ (n : Int) := by omega
    have HLr : Hid (Lies wr (some ⟨b, off, none⟩) b off n t) := HL1.out.below hbel (Nat.le_refl _)
    have HLAr : Hid (Lies wr (some ⟨w.heap.size, 0, none⟩) w.heap.size 0 (s.size + 1) (42 :: bi s)) := HLA.out.below hbel (Nat.le_refl _)
    have HMr : Hid (wr.cell? ⟨0, 0, none⟩ = some (.int .i64 m)) := (hbel.cell (World.block_lt_of_cell? W1 _ HM1.out)).trans HM1.out
    have hbF : Below w.heap.size w wr := hbW.trans (hbel.mono hbW.size)
    have HI := index_cases (t := t) (pat := 42 :: bi s) HRr.out (pat_range s) p
    have hcon := Try.bytes_Index_at ⟨b, off + p, none⟩ ⟨w.heap.size, 0, none⟩ (n - p) (n - p) (s.size + 1) G (t.drop p) (42 :: bi s) m wr (by rw [List.length_drop, HT.out]) HP.out (fun x hx => HRr.out x (List.mem_of_mem_drop hx)) (pat_range s)
      (fun i hi => by rw [Addr.add_lit, Nat.add_assoc, (HLr.out.2 (p + i) (by omega)).2]; simp [List.getD_eq_getElem?_getD, List.getElem?_drop]) (fun i hi => by rw [Addr.add_lit]; exact (HLAr.out.2 i hi).2) (Nat.le_refl _) (by omega) (by omega) HMr.out
    rcases HI with ⟨hi1, hi2⟩ | ⟨i, hi1, hi2, hi3⟩
    · rw [hi1] at hcon
      have HE : Hid (scanAt t (42 :: bi s) 0 = 0) := round_none (by simp) hi2 HR.out
      clear hi1 hi2
      go_wp2_with (first | (go_at_call 28; refine hcon.mono ?_; rintro e w2 ⟨rfl, q, rfl⟩))
      go_ret
      exact ⟨ret_int0 HE.out, hbF.trans ⟨rfl, rfl, rfl, Nat.le_refl _, fun _ _ => rfl⟩⟩
    · have hroom : p + i + (s.size + 1) ≤ n := by have := occ_room (by simp) hi2; rw [HP.out, HT.out] at this; exact this
      rw [hi1] at hcon
      clear hi1
      have hi0 : (0 : Int) ≤ (i : Int) := by omega
      have hpi : (p : Int) + (i : Int) ≤ (n : Int) := by omega
      have HLine : ∀ w2 : World, Hid (Below wr.heap.size wr w2) → ∀ c, Calls Try.prog 30 #[.slice (some ⟨b, off, none⟩) (p + i) c] w2 fun e w' => e = .returned (.int .i64 (1 + (brk t (p + i) : Int))) ∧ w' = w2 := by
        intro w2 hb2 c
        refine lineOf_any b off (p + i) c (t.take (p + i)) w2 ?_ (by omega) (fun x hx => HRr.out x (List.mem_of_mem_take hx)) m ?_ _ (line_law hi2)
        · exact ⟨by rw [List.length_take, HT.out]; omega, fun k hk => ⟨rfl, by
            have h := (HLr.out.2 k (by omega)).2
            rw [hb2.out.cell (World.block_lt_of_cell? wr _ h), h]
            simp [List.getD_eq_getElem?_getD, List.getElem?_take]; rw [if_pos hk]⟩⟩
        · rw [hb2.out.cell (World.block_lt_of_cell? wr _ HMr.out)]; exact HMr.out
      have HO : Hid (occ t (42 :: bi s) (p + i) = true) := hi2
      have HN : Hid (∀ k, p ≤ k → k < p + i → occ t (42 :: bi s) k = false) := hi3
      clear hi2 hi3
      by_cases he : p + i + (s.size + 1) = n
      · have heb : ((p : Int) + (i : Int) + ((s.size : Int) + 1) == (n : Int)) = true := by simp; omega
        have heb2 : ((p : Int) + (i : Int) + ((s.size + 1 : Nat) : Int) == (n : Int)) = true := by simp; omega
        have HE : Hid (scanAt t (42 :: bi s) 0 = 1 + brk t (p + i)) := round_hit (by simp) HN.out (hit_end HT.out HO.out (by rw [HP.out]; exact he)) HR.out
        go_wp2_with (first | (go_at_call 28; refine hcon.mono ?_; rintro e w2 ⟨rfl, q, rfl⟩) | (go_at_call 30; refine (HLine (wr.drewN q) (hid_drewN wr q) n).mono ?_; rintro e w2 ⟨rfl, hw2⟩; rw [hw2]; clear hw2))
        go_ret
        exact ⟨ret_int (by rw [HE.out]; push_cast; rfl), hbF.trans ⟨rfl, rfl, rfl, Nat.le_refl _, fun _ _ => rfl⟩⟩
      · have heb : ((p : Int) + (i : Int) + ((s.size : Int) + 1) == (n : Int)) = false := by simp; omega
        obtain ⟨x, hx⟩ : ∃ x, t.getD (p + i + (s.size + 1)) 0 = x := ⟨_, rfl⟩
        have hxr : 0 ≤ x ∧ x < 256 := by rw [← hx]; exact HRr.out _ (by rw [List.getD_eq_getElem?_getD, List.getElem?_eq_getElem (by rw [HT.out]; omega)]; exact List.getElem_mem _)
        have hcell : wr.cell? ⟨b, off + (p + i + (s.size + 1)), none⟩ = some (.int .u8 x) := by rw [(HLr.out.2 _ (show p + i + (s.size + 1) < n by omega)).2, hx]
        have HH0 : Hid (hit t (42 :: bi s) (p + i) = delim x) := hit_delim HT.out HO.out (by rw [HP.out]; exact he) (by rw [HP.out, ← hx, List.getD_eq_getElem?_getD])
        have hen : (p : Int) + (i : Int) + ((s.size : Int) + 1) < (n : Int) := by omega
        have he0 : (0 : Int) ≤ (p : Int) + (i : Int) + ((s.size : Int) + 1) := by omega
        have heq : ((p : Int) + (i : Int) + ((s.size : Int) + 1)).toNat = p + i + (s.size + 1) := by omega
        have kc := fun (w : World) (C : Array Value) (n c : Nat) => Lib.run_convert_bytes_const (P:=Try.prog) w 24 5 C n c Try.underlying24 Try.underlying5
        cases hd : delim x with
        | true =>
          have HE : Hid (scanAt t (42 :: bi s) 0 = 1 + brk t (p + i)) := round_hit (by simp) HN.out (HH0.out.trans hd) HR.out
          go_wp2_with (first | (go_at_call 28; refine hcon.mono ?_; rintro e w2 ⟨rfl, hq⟩; have HB2 : Hid (Below wr.heap.size wr w2) := (by obtain ⟨q, rfl⟩ := hq; exact ⟨rfl, rfl, rfl, Nat.le_refl _, fun _ _ => rfl⟩); have hcell2 : ∀ o, (w2.alloc o).cell? ⟨b, off + (p + i + (s.size + 1)), none⟩ = some (.int .u8 x) := (fun o => ((HB2.out.alloc HB2.out.size o).cell (World.block_lt_of_cell? wr _ hcell)).trans hcell); clear hq) | (go_at_call 29; refine (dl_con x hxr).mono ?_; rintro e w3 ⟨⟨v, rfl, hv⟩, hw3⟩; rw [hd] at hv; have HB3 : Hid (Below wr.heap.size wr w3) := (by rw [hw3]; exact HB2.out.alloc HB2.out.size _); clear hw3; have hv0 : 0 ≤ v := of_decide_eq_true hv) | (go_at_call 30; refine (HLine _ HB3 _).mono ?_; rintro e w4 ⟨rfl, hw4⟩; rw [hw4]; clear hw4))
          go_ret
          exact ⟨ret_int (by rw [HE.out]; push_cast; rfl), hbF.trans (HB3.out.mono hbF.size)⟩
        | false =>
          have HE : Hid (scanAt t (42 :: bi s) (p + i + (s.size + 1)) = scanAt t (42 :: bi s) 0) := (by have := round_miss H42.out HN.out HO.out (HH0.out.trans hd) HR.out; rw [bi_length] at this; exact this)
          go_wp2_with (first | (go_at_call 28; refine hcon.mono ?_; rintro e w2 ⟨rfl, hq⟩; have HB2 : Hid (Below wr.heap.size wr w2) := (by obtain ⟨q, rfl⟩ := hq; exact ⟨rfl, rfl, rfl, Nat.le_refl _, fun _ _ => rfl⟩); have hcell2 : ∀ o, (w2.alloc o).cell? ⟨b, off + (p + i + (s.size + 1)), none⟩ = some (.int .u8 x) := (fun o => ((HB2.out.alloc HB2.out.size o).cell (World.block_lt_of_cell? wr _ hcell)).trans hcell); clear hq) | (go_at_call 29; refine (dl_con x hxr).mono ?_; rintro e w3 ⟨⟨v, rfl, hv⟩, hw3⟩; rw [hd] at hv; have HB3 : Hid (Below wr.heap.size wr w3) := (by rw [hw3]; exact HB2.out.alloc HB2.out.size _); clear hw3; have hv0 : ¬ 0 ≤ v := of_decide_eq_false hv))
          go_roundw
          case rel => exact ⟨p + i + (s.size + 1), by omega, by go_num, hbel.trans (HB3.out.mono hbel.size), HE⟩
          case measure => simp [intOf]; omega

end Go.Proofs.Qxb6000647a
