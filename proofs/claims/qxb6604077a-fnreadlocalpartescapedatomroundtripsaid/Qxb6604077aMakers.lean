/-
  THE LAW's OWN HELPERS, walked: quoteLocal, hasNulOrLineEnd.
-/
import Derived.Test.Qxb6604077aRune
import Derived.Test.Qxb6604077aPlain
import Derived.Laws.BytesArg
namespace Go.Proofs.Qxb6604077a
open Go.RowKit

theorem ret_bool {a b : Bool} (h : a = b) : Ending.returned (.bool a) = .returned (.bool b) := by rw [h]
theorem ret_str {a b : ByteArray} (h : a = b) : Ending.returned (.string a) = .returned (.string b) := by rw [h]

theorem drop_at (s : ByteArray) (k : Nat) (h : k < s.size) : s.data.toList.drop k = s[k] :: s.data.toList.drop (k + 1) := by
  rw [List.drop_eq_getElem_cons (by simpa using h)]; rfl
theorem take_at (s : ByteArray) (k : Nat) (h : k < s.size) : s.data.toList.take (k + 1) = s.data.toList.take k ++ [s[k]] := by
  rw [List.take_succ_eq_append_getElem (by simpa using h)]; rfl

/-- The bytes of a string. -/
def bl (s : ByteArray) : List UInt8 := s.data.toList
theorem bl_length (s : ByteArray) : (bl s).length = s.size := by unfold bl; simp
theorem bl_drop (s : ByteArray) (k : Nat) (h : k < s.size) : (bl s).drop k = s[k] :: (bl s).drop (k + 1) := drop_at s k h
theorem bl_take (s : ByteArray) (k : Nat) (h : k < s.size) : (bl s).take (k + 1) = (bl s).take k ++ [s[k]] := take_at s k h
theorem bl_inj {s t : ByteArray} (h : bl s = bl t) : s = t := by
  obtain ⟨⟨l⟩⟩ := s; obtain ⟨⟨m⟩⟩ := t
  unfold bl at h; simp at h; rw [h]

theorem nul_step {s : ByteArray} {k : Nat} (h : k < s.size) (h3 : bad3 s[k] = false) (H : (bl s).any bad3 = ((bl s).drop k).any bad3) : (bl s).any bad3 = ((bl s).drop (k + 1)).any bad3 := by
  rw [H, bl_drop s k h]; simp [h3]
theorem nul_hit {s : ByteArray} {k : Nat} (h : k < s.size) (h3 : bad3 s[k] = true) (H : (bl s).any bad3 = ((bl s).drop k).any bad3) : true = (bl s).any bad3 := by
  rw [H, bl_drop s k h]; simp [h3]
theorem nul_end {s : ByteArray} {k : Nat} (h : ¬ k < s.size) (H : (bl s).any bad3 = ((bl s).drop k).any bad3) : false = (bl s).any bad3 := by
  rw [H, List.drop_eq_nil_of_le (by rw [bl_length]; omega)]; rfl

/-- A byte held against a constant, as the walk writes it. -/
theorem beq_byte (c k : UInt8) {x : Int} (hx : ((c.toNat : Nat) : Int) = x) : (c == k) = (x == ((k.toNat : Nat) : Int)) := by
  rw [Bool.eq_iff_iff, beq_iff_eq, beq_iff_eq, ← UInt8.toNat_inj]; omega
theorem bad3_int {c : UInt8} {x : Int} (hx : ((c.toNat : Nat) : Int) = x) : bad3 c = (x == 0 || x == 10 || x == 13) := by
  have e0 := beq_byte c 0 hx; have e1 := beq_byte c 10 hx; have e2 := beq_byte c 13 hx
  unfold bad3
  rw [List.contains_cons, List.contains_cons, List.contains_cons, List.contains_nil, e0, e1, e2, Bool.or_false, Bool.or_assoc]
  rfl

set_option maxHeartbeats 400000 in
theorem hasNul_any (s : ByteArray) (w : World) (hs : s.size ≤ 1048576) :
    Calls Try.prog 8 #[.string s] w fun e w' => e = .returned (.bool ((bl s).any bad3)) ∧ w' = w := by
  go_enter Try.func8, Try.ntmps8
  go_wp2
  go_loop [3] (fun i => ∃ k : Nat, k ≤ s.size ∧ i = .int .i64 k ∧ Hid ((bl s).any bad3 = ((bl s).drop k).any bad3)) (fun i => s.size - (intOf i).toNat)
  case atStart => exact ⟨0, Nat.zero_le _, rfl, (rfl : (bl s).any bad3 = ((bl s).drop 0).any bad3)⟩
  case round =>
    obtain ⟨k, hk, rfl, HR⟩ := hrel
    by_cases hlt : k < s.size
    · obtain ⟨x, hx⟩ : ∃ x : Int, ((s[k].toNat : Nat) : Int) = x := ⟨_, rfl⟩
      have H3 : Hid (bad3 s[k] = (x == 0 || x == 10 || x == 13)) := bad3_int hx
      cases h0 : (x == 0) with
      | true =>
        go_wp2
        go_ret
        exact ⟨ret_bool (nul_hit hlt (by rw [H3.out, h0]; rfl) HR.out), rfl⟩
      | false =>
        cases h1 : (x == 10) with
        | true =>
          go_wp2
          go_ret
          exact ⟨ret_bool (nul_hit hlt (by rw [H3.out, h0, h1]; rfl) HR.out), rfl⟩
        | false =>
          cases h2 : (x == 13) with
          | true =>
            go_wp2
            go_ret
            exact ⟨ret_bool (nul_hit hlt (by rw [H3.out, h0, h1, h2]; rfl) HR.out), rfl⟩
          | false =>
            go_wp2
            go_round
            case rel => exact ⟨k + 1, by omega, by go_num, nul_step hlt (by rw [H3.out, h0, h1, h2]; rfl) HR.out⟩
            case measure => simp [intOf]; omega
    · go_wp2
      go_ret
      exact ⟨ret_bool (nul_end hlt HR.out), rfl⟩

theorem cells_byte (W : World) (l : List UInt8) : ∀ j u, (Lib.byteCells l)[j]? = some u → (W.alloc (.cells (Lib.byteCells l).toArray 5)).cell? ((⟨W.heap.size, 0, none⟩ : Addr).add j) = some u := by
  intro j u hj
  rw [Addr.add_lit, Nat.zero_add, cell_of_row _ _ _ _ _ _ (heap_alloc_new W _)]
  simpa using hj
theorem byteCells_append (a b : List UInt8) : Lib.byteCells a ++ Lib.byteCells b = Lib.byteCells (a ++ b) := by simp [Lib.byteCells]
theorem byteCells_one (l : List UInt8) : ∀ u ∈ Lib.byteCells l, u.oneCell' = true := by
  intro u hu
  simp only [Lib.byteCells, List.mem_map] at hu
  obtain ⟨_, _, rfl⟩ := hu
  rfl

/-- string(b), b a row of the call's own. -/
theorem conv_own {W : World} {base n : Nat} {v : Value} {l : List UInt8} (h : W.ownsRow base 5 1 v n (Lib.byteCells l)) : (convert 28 9 v).run Try.prog W = .ok (.string ⟨l.toArray⟩) W := by
  have hl : l.length = n := by have := h.1; simpa [Lib.byteCells] using this
  rcases h.2 with ⟨rfl, rfl⟩ | ⟨g, cap, cur, rfl, _⟩
  · obtain rfl : l = [] := List.eq_nil_of_length_eq_zero hl
    exact run_convert_bytes_nil (P := Try.prog) W 28 5 Try.underlying28 Try.underlying5 0 0 9 Try.underlying9
  · have hc := run_convert_bytes_arg (P := Try.prog) W 28 5 Try.underlying28 Try.underlying5 g 0 n cap (l.map fun c => (c.toNat : Int)) (by simpa using hl) (fun i hi => by
      rw [Nat.zero_add, h.cellAt i (by omega)]
      simp [Lib.byteCells, List.getElem?_eq_getElem (show i < l.length by omega), List.getD_eq_getElem?_getD]) 9 Try.underlying9
    rw [hc]
    have e : (l.map fun c => (c.toNat : Int)).map (fun n => UInt8.ofNat n.toNat) = l := by
      rw [List.map_map]
      conv => rhs; rw [← List.map_id l]
      apply List.map_congr_left
      intro c _
      simp
    unfold strOfNums
    rw [e]

/-- What a round of quoteLocal writes. -/
theorem needs_int {c : UInt8} {x : Int} (hx : ((c.toNat : Nat) : Int) = x) : needsEsc c = (x == 34 || x == 92 || x == 9) := by
  have e0 := beq_byte c 34 hx; have e1 := beq_byte c 92 hx; have e2 := beq_byte c 9 hx
  unfold needsEsc
  rw [e0, e1, e2]
  rfl

theorem esc_yes {s : ByteArray} {k : Nat} (h : k < s.size) (hn : needsEsc s[k] = true) : escQ ((bl s).take (k + 1)) = escQ ((bl s).take k) ++ [92] ++ [s[k]] := by
  rw [bl_take s k h, escQ_snoc, if_pos hn]; simp
theorem esc_no {s : ByteArray} {k : Nat} (h : k < s.size) (hn : needsEsc s[k] = false) : escQ ((bl s).take (k + 1)) = escQ ((bl s).take k) ++ [s[k]] := by
  rw [bl_take s k h, escQ_snoc, if_neg (by rw [hn]; simp)]
theorem take_len {s : ByteArray} {k : Nat} (h : k ≤ s.size) : (escQ ((bl s).take k)).length ≤ 2 * k := by
  have := escQ_length ((bl s).take k)
  rw [List.length_take, bl_length] at this; omega

set_option maxHeartbeats 1000000 in
theorem quote_any (s : ByteArray) (w : World) (hs : s.size ≤ 1048576) :
    Calls Try.prog 7 #[.string s] w fun e w' => e = .returned (.string ⟨(34 :: (escQ (bl s) ++ [34])).toArray⟩) ∧ Below w.heap.size w w' := by
  obtain ⟨i0, hi, hz0, hz1, hz2⟩ := info_parts infoByte
  go_enter Try.func7, Try.ntmps7
  go_wp2_with (at_make; refine wpList_make_own _ rfl _ _ 28 rfl w.heap.size 5 i0 (.int .u8 0) 1 Try.underlying28 hi hz0 hz1 _ _ _ (2 * s.size + 2) rfl rfl (by omega) ?b2 ?b3 (Nat.le_refl _) ?_)
  case b2 => rw [hz2]; omega
  case b3 => unfold maxLen; omega
  intro w1 hown1 hgrow1
  have hb1 : Below w.heap.size w w1 := (Below.refl _ _).grown hgrow1 (Nat.le_refl _) (fun k hk => by cases hk)
  clear hgrow1
  go_wp2_with (at_builtin; refine wpList_append_own _ rfl (.tmp 11) (.tmp 12) 28 rfl w.heap.size 5 i0 (.int .u8 0) 1 1 Try.underlying28 hi hz0 hz1 hz2 rfl (by decide) _ 0 [] rfl (hown1.alloc _) ⟨w1.heap.size, 0, none⟩ 1 1 (Lib.byteCells [34]) rfl rfl (cells_byte w1 [34]) (byteCells_one _) ?c1 ?c2 ?c3 ?_)
  case c1 => unfold maxLen; omega
  case c2 => omega
  case c3 => have := hb1.size; simp; omega
  intro v2 w2 hown2 hgrow2 _
  have hbel2 : Below w.heap.size w w2 := (hb1.alloc hb1.size _).grown hgrow2 (by have := hb1.size; simp; omega) (fun k hk => (hown1.lt k hk).1)
  clear hgrow2 hown1 hb1
  go_wp2
  go_loopw [3, 4] (fun v j wr => ∃ k : Nat, k ≤ s.size ∧ j = .int .i64 k ∧ wr.ownsRow w.heap.size 5 1 v (34 :: escQ ((bl s).take k)).length (Lib.byteCells (34 :: escQ ((bl s).take k))) ∧ Below w.heap.size w wr) (fun _ j _ => s.size - (intOf j).toNat)
  case atStart => exact ⟨0, Nat.zero_le _, rfl, hown2, hbel2⟩
  case round =>
    obtain ⟨k, hk, rfl, hown, hbel⟩ := hrel
    clear hown2 hbel2
    have hln := take_len hk
    by_cases hlt : k < s.size
    · obtain ⟨x, hx⟩ : ∃ x : Int, ((s[k].toNat : Nat) : Int) = x := ⟨_, rfl⟩
      have H3 : Hid (needsEsc s[k] = (x == 34 || x == 92 || x == 9)) := needs_int hx
      cases h0 : (x == 34) with
      | true =>
        have HN : Hid (needsEsc s[k] = true) := by show _ = _; rw [H3.out, h0]; rfl
        clear H3
        go_wp2_with (at_builtin; refine wpList_append_own _ rfl (.tmp 33) (.tmp 34) 28 rfl w.heap.size 5 i0 (.int .u8 0) 1 1 Try.underlying28 hi hz0 hz1 hz2 rfl (by decide) _ _ _ rfl (hown.alloc _) ⟨wr.heap.size, 0, none⟩ 1 1 (Lib.byteCells [92]) rfl rfl (cells_byte wr [92]) (byteCells_one _) ?c1 ?c2 ?c3 ?_)
        case c1 => unfold maxLen; simp; omega
        case c2 => simp; omega
        case c3 => have := hbel.size; simp; omega
        intro v3 w3 hown3 hgrow3 _
        have hbel3 : Below w.heap.size w w3 := (hbel.alloc hbel.size _).grown hgrow3 (by have := hbel.size; simp; omega) (fun k hk => (hown.lt k hk).1)
        clear hgrow3 hown hbel
        go_wp2_with (at_builtin; refine wpList_append_own _ rfl (.tmp 36) (.tmp 38) 28 rfl w.heap.size 5 i0 (.int .u8 0) 1 1 Try.underlying28 hi hz0 hz1 hz2 rfl (by decide) _ _ _ rfl (hown3.alloc _) ⟨w3.heap.size, 0, none⟩ 1 1 [.int .u8 x] rfl rfl (cell_one_new _ _ _) (fun u hu => by simp at hu; subst hu; rfl) ?c4 ?c5 ?c6 ?_)
        case c4 => unfold maxLen; simp; omega
        case c5 => simp; omega
        case c6 => have := hbel3.size; simp; omega
        intro v4 w4 hown4 hgrow4 _
        have hbel4 : Below w.heap.size w w4 := (hbel3.alloc hbel3.size _).grown hgrow4 (by have := hbel3.size; simp; omega) (fun k hk => (hown3.lt k hk).1)
        have hown5 : w4.ownsRow w.heap.size 5 1 v4 (34 :: escQ ((bl s).take (k + 1))).length (Lib.byteCells (34 :: escQ ((bl s).take (k + 1)))) := by
          rw [esc_yes hlt HN.out]
          have e : Lib.byteCells (34 :: (escQ ((bl s).take k) ++ [92] ++ [s[k]])) = Lib.byteCells (34 :: escQ ((bl s).take k)) ++ (Lib.byteCells [92] ++ [.int .u8 x]) := by
            rw [← hx]; simp [Lib.byteCells]
          rw [e, show (34 :: (escQ ((bl s).take k) ++ [92] ++ [s[k]])).length = (34 :: escQ ((bl s).take k)).length + 1 + 1 from by simp]
          exact hown4
        clear hgrow4 hown3 hown4 hbel3
        go_wp2
        go_roundw
        case rel => exact ⟨k + 1, by omega, by go_num, hown5, hbel4⟩
        case measure => simp [intOf]; omega
      | false =>
        cases h1 : (x == 92) with
        | true =>
          have HN : Hid (needsEsc s[k] = true) := by show _ = _; rw [H3.out, h0, h1]; rfl
          clear H3
          go_wp2_with (at_builtin; refine wpList_append_own _ rfl (.tmp 33) (.tmp 34) 28 rfl w.heap.size 5 i0 (.int .u8 0) 1 1 Try.underlying28 hi hz0 hz1 hz2 rfl (by decide) _ _ _ rfl (hown.alloc _) ⟨wr.heap.size, 0, none⟩ 1 1 (Lib.byteCells [92]) rfl rfl (cells_byte wr [92]) (byteCells_one _) ?c1 ?c2 ?c3 ?_)
          case c1 => unfold maxLen; simp; omega
          case c2 => simp; omega
          case c3 => have := hbel.size; simp; omega
          intro v3 w3 hown3 hgrow3 _
          have hbel3 : Below w.heap.size w w3 := (hbel.alloc hbel.size _).grown hgrow3 (by have := hbel.size; simp; omega) (fun k hk => (hown.lt k hk).1)
          clear hgrow3 hown hbel
          go_wp2_with (at_builtin; refine wpList_append_own _ rfl (.tmp 36) (.tmp 38) 28 rfl w.heap.size 5 i0 (.int .u8 0) 1 1 Try.underlying28 hi hz0 hz1 hz2 rfl (by decide) _ _ _ rfl (hown3.alloc _) ⟨w3.heap.size, 0, none⟩ 1 1 [.int .u8 x] rfl rfl (cell_one_new _ _ _) (fun u hu => by simp at hu; subst hu; rfl) ?c4 ?c5 ?c6 ?_)
          case c4 => unfold maxLen; simp; omega
          case c5 => simp; omega
          case c6 => have := hbel3.size; simp; omega
          intro v4 w4 hown4 hgrow4 _
          have hbel4 : Below w.heap.size w w4 := (hbel3.alloc hbel3.size _).grown hgrow4 (by have := hbel3.size; simp; omega) (fun k hk => (hown3.lt k hk).1)
          have hown5 : w4.ownsRow w.heap.size 5 1 v4 (34 :: escQ ((bl s).take (k + 1))).length (Lib.byteCells (34 :: escQ ((bl s).take (k + 1)))) := by
            rw [esc_yes hlt HN.out]
            have e : Lib.byteCells (34 :: (escQ ((bl s).take k) ++ [92] ++ [s[k]])) = Lib.byteCells (34 :: escQ ((bl s).take k)) ++ (Lib.byteCells [92] ++ [.int .u8 x]) := by
              rw [← hx]; simp [Lib.byteCells]
            rw [e, show (34 :: (escQ ((bl s).take k) ++ [92] ++ [s[k]])).length = (34 :: escQ ((bl s).take k)).length + 1 + 1 from by simp]
            exact hown4
          clear hgrow4 hown3 hown4 hbel3
          go_wp2
          go_roundw
          case rel => exact ⟨k + 1, by omega, by go_num, hown5, hbel4⟩
          case measure => simp [intOf]; omega
        | false =>
          cases h2 : (x == 9) with
          | true =>
            have HN : Hid (needsEsc s[k] = true) := by show _ = _; rw [H3.out, h0, h1, h2]; rfl
            clear H3
            go_wp2_with (at_builtin; refine wpList_append_own _ rfl (.tmp 33) (.tmp 34) 28 rfl w.heap.size 5 i0 (.int .u8 0) 1 1 Try.underlying28 hi hz0 hz1 hz2 rfl (by decide) _ _ _ rfl (hown.alloc _) ⟨wr.heap.size, 0, none⟩ 1 1 (Lib.byteCells [92]) rfl rfl (cells_byte wr [92]) (byteCells_one _) ?c1 ?c2 ?c3 ?_)
            case c1 => unfold maxLen; simp; omega
            case c2 => simp; omega
            case c3 => have := hbel.size; simp; omega
            intro v3 w3 hown3 hgrow3 _
            have hbel3 : Below w.heap.size w w3 := (hbel.alloc hbel.size _).grown hgrow3 (by have := hbel.size; simp; omega) (fun k hk => (hown.lt k hk).1)
            clear hgrow3 hown hbel
            go_wp2_with (at_builtin; refine wpList_append_own _ rfl (.tmp 36) (.tmp 38) 28 rfl w.heap.size 5 i0 (.int .u8 0) 1 1 Try.underlying28 hi hz0 hz1 hz2 rfl (by decide) _ _ _ rfl (hown3.alloc _) ⟨w3.heap.size, 0, none⟩ 1 1 [.int .u8 x] rfl rfl (cell_one_new _ _ _) (fun u hu => by simp at hu; subst hu; rfl) ?c4 ?c5 ?c6 ?_)
            case c4 => unfold maxLen; simp; omega
            case c5 => simp; omega
            case c6 => have := hbel3.size; simp; omega
            intro v4 w4 hown4 hgrow4 _
            have hbel4 : Below w.heap.size w w4 := (hbel3.alloc hbel3.size _).grown hgrow4 (by have := hbel3.size; simp; omega) (fun k hk => (hown3.lt k hk).1)
            have hown5 : w4.ownsRow w.heap.size 5 1 v4 (34 :: escQ ((bl s).take (k + 1))).length (Lib.byteCells (34 :: escQ ((bl s).take (k + 1)))) := by
              rw [esc_yes hlt HN.out]
              have e : Lib.byteCells (34 :: (escQ ((bl s).take k) ++ [92] ++ [s[k]])) = Lib.byteCells (34 :: escQ ((bl s).take k)) ++ (Lib.byteCells [92] ++ [.int .u8 x]) := by
                rw [← hx]; simp [Lib.byteCells]
              rw [e, show (34 :: (escQ ((bl s).take k) ++ [92] ++ [s[k]])).length = (34 :: escQ ((bl s).take k)).length + 1 + 1 from by simp]
              exact hown4
            clear hgrow4 hown3 hown4 hbel3
            go_wp2
            go_roundw
            case rel => exact ⟨k + 1, by omega, by go_num, hown5, hbel4⟩
            case measure => simp [intOf]; omega
          | false =>
            have HN : Hid (needsEsc s[k] = false) := by show _ = _; rw [H3.out, h0, h1, h2]; rfl
            clear H3
            go_wp2_with (at_builtin; refine wpList_append_own _ rfl (.tmp 36) (.tmp 38) 28 rfl w.heap.size 5 i0 (.int .u8 0) 1 1 Try.underlying28 hi hz0 hz1 hz2 rfl (by decide) _ _ _ rfl (hown.alloc _) ⟨wr.heap.size, 0, none⟩ 1 1 [.int .u8 x] rfl rfl (cell_one_new _ _ _) (fun u hu => by simp at hu; subst hu; rfl) ?c4 ?c5 ?c6 ?_)
            case c4 => unfold maxLen; simp; omega
            case c5 => simp; omega
            case c6 => have := hbel.size; simp; omega
            intro v4 w4 hown4 hgrow4 _
            have hbel4 : Below w.heap.size w w4 := (hbel.alloc hbel.size _).grown hgrow4 (by have := hbel.size; simp; omega) (fun k hk => (hown.lt k hk).1)
            have hown5 : w4.ownsRow w.heap.size 5 1 v4 (34 :: escQ ((bl s).take (k + 1))).length (Lib.byteCells (34 :: escQ ((bl s).take (k + 1)))) := by
              rw [esc_no hlt HN.out]
              have e : Lib.byteCells (34 :: (escQ ((bl s).take k) ++ [s[k]])) = Lib.byteCells (34 :: escQ ((bl s).take k)) ++ [.int .u8 x] := by
                rw [← hx]; simp [Lib.byteCells]
              rw [e, show (34 :: (escQ ((bl s).take k) ++ [s[k]])).length = (34 :: escQ ((bl s).take k)).length + 1 from by simp]
              exact hown4
            clear hgrow4 hown hown4
            go_wp2
            go_roundw
            case rel => exact ⟨k + 1, by omega, by go_num, hown5, hbel4⟩
            case measure => simp [intOf]; omega
    · have hall : (bl s).take k = bl s := List.take_of_length_le (by rw [bl_length]; omega)
      rw [hall] at hown hln
      go_wp2_with (at_builtin; refine wpList_append_own _ rfl (.tmp 40) (.tmp 41) 28 rfl w.heap.size 5 i0 (.int .u8 0) 1 1 Try.underlying28 hi hz0 hz1 hz2 rfl (by decide) _ _ _ rfl (hown.alloc _) ⟨wr.heap.size, 0, none⟩ 1 1 (Lib.byteCells [34]) rfl rfl (cells_byte wr [34]) (byteCells_one _) ?c1 ?c2 ?c3 ?_)
      case c1 => unfold maxLen; simp; omega
      case c2 => simp; omega
      case c3 => have := hbel.size; simp; omega
      intro v3 w3 hown3 hgrow3 _
      have hbel3 : Below w.heap.size w w3 := (hbel.alloc hbel.size _).grown hgrow3 (by have := hbel.size; simp; omega) (fun k hk => (hown.lt k hk).1)
      rw [byteCells_append] at hown3
      have hconv := conv_own hown3
      clear hgrow3 hown hbel hown3
      go_wp2
      go_ret
      exact ⟨rfl, hbel3⟩
end Go.Proofs.Qxb6604077a
