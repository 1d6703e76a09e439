/-
  appendQuoted, and cutValue behind a quote, walked; the law FnCutValueQuotedRoundTrip.
-/
import Derived.Test.Qxb6000905aPlain
import Derived.Test.Qxb6000905aBuilder
import Derived.Laws.BytesArg
import Derived.Deep.RegionWith
namespace Go.Proofs.Qxb6000905a
open Go.RowKit

theorem bl_take (s : ByteArray) (k : Nat) (h : k < s.size) : (bl s).take (k + 1) = (bl s).take k ++ [s[k]] := by
  rw [List.take_succ_eq_append_getElem (by rw [bl_length]; exact h)]; rfl

/-! The plain side. -/
def needsEsc (c : UInt8) : Bool := c == 34 || c == 92
def escQ : List UInt8 → List UInt8
  | [] => []
  | c :: t => if needsEsc c then 92 :: c :: escQ t else c :: escQ t
theorem escQ_length (l : List UInt8) : (escQ l).length ≤ 2 * l.length := by
  induction l with
  | nil => simp [escQ]
  | cons c t ih => rw [escQ]; split <;> simp <;> omega
theorem escQ_snoc (l : List UInt8) (c : UInt8) : escQ (l ++ [c]) = escQ l ++ if needsEsc c then [92, c] else [c] := by
  induction l with
  | nil => simp only [List.nil_append, escQ]
  | cons d t ih =>
    rw [List.cons_append, escQ, escQ, ih]
    split <;> simp
theorem esc_yes {s : ByteArray} {k : Nat} (h : k < s.size) (hn : needsEsc s[k] = true) : escQ ((bl s).take (k + 1)) = escQ ((bl s).take k) ++ [92] ++ [s[k]] := by
  rw [bl_take s k h, escQ_snoc, if_pos hn]; simp
theorem esc_no {s : ByteArray} {k : Nat} (h : k < s.size) (hn : needsEsc s[k] = false) : escQ ((bl s).take (k + 1)) = escQ ((bl s).take k) ++ [s[k]] := by
  rw [bl_take s k h, escQ_snoc, if_neg (by rw [hn]; simp)]
theorem take_len {s : ByteArray} {k : Nat} (h : k ≤ s.size) : (escQ ((bl s).take k)).length ≤ 2 * k := by
  have := escQ_length ((bl s).take k)
  rw [List.length_take, bl_length] at this; omega
/-- A byte held against a constant, as the walk writes it. -/
theorem beq_byte (c k : UInt8) {x : Int} (hx : ((c.toNat : Nat) : Int) = x) : (c == k) = (x == ((k.toNat : Nat) : Int)) := by
  rw [Bool.eq_iff_iff, beq_iff_eq, beq_iff_eq, ← UInt8.toNat_inj]; omega
theorem needs_int {c : UInt8} {x : Int} (hx : ((c.toNat : Nat) : Int) = x) : needsEsc c = (x == 34 || x == 92) := by
  have e0 := beq_byte c 34 hx; have e1 := beq_byte c 92 hx
  unfold needsEsc
  rw [e0, e1]
  rfl

theorem cells_byte (W : World) (l : List UInt8) : ∀ j u, (Lib.byteCells l)[j]? = some u → (W.alloc (.cells (Lib.byteCells l).toArray 5)).cell? ((⟨W.heap.size, 0, none⟩ : Addr).add j) = some u := by
  intro j u hj
  rw [Addr.add_lit, Nat.zero_add, cell_of_row _ _ _ _ _ _ (heap_alloc_new W _)]
  simpa using hj
theorem byteCells_append (a b : List UInt8) : Lib.byteCells a ++ Lib.byteCells b = Lib.byteCells (a ++ b) := by simp [Lib.byteCells]
theorem byteCells_one (l : List UInt8) : ∀ u ∈ Lib.byteCells l, u.oneCell' = true := by
  intro u hu
  simp only [Lib.byteCells, List.mem_map] at hu
  obtain ⟨_, _, rfl⟩ := hu
  rfl

/-- string(b), b a row of the call's own. -/
theorem conv_own {W : World} {base n : Nat} {v : Value} {l : List UInt8} (h : W.ownsRow base 5 1 v n (Lib.byteCells l)) : (convert 27 9 v).run Try.prog W = .ok (.string ⟨l.toArray⟩) W := by
  have hl : l.length = n := by have := h.1; simpa [Lib.byteCells] using this
  rcases h.2 with ⟨rfl, rfl⟩ | ⟨g, cap, cur, rfl, _⟩
  · obtain rfl : l = [] := List.eq_nil_of_length_eq_zero hl
    exact run_convert_bytes_nil (P := Try.prog) W 27 5 Try.underlying27 Try.underlying5 0 0 9 Try.underlying9
  · have hc := run_convert_bytes_arg (P := Try.prog) W 27 5 Try.underlying27 Try.underlying5 g 0 n cap (l.map fun c => (c.toNat : Int)) (by simpa using hl) (fun i hi => by
      rw [Nat.zero_add, h.cellAt i (by omega)]
      simp [Lib.byteCells, List.getElem?_eq_getElem (show i < l.length by omega), List.getD_eq_getElem?_getD]) 9 Try.underlying9
    rw [hc]
    have e : (l.map fun c => (c.toNat : Int)).map (fun n => UInt8.ofNat n.toNat) = l := by
      rw [List.map_map]
      conv => rhs; rw [← List.map_id l]
      apply List.map_congr_left
      intro c _
      simp
    unfold strOfNums
    rw [e]

set_option maxHeartbeats 1000000 in
theorem appendQuoted_any (s : ByteArray) (w : World) (B : Nat) (v0 : Value) (hown0 : w.ownsRow B 5 1 v0 0 []) (hBw : B ≤ w.heap.size) (hs : s.size ≤ 1048576) :
    Calls Try.prog 17 #[v0, .string s] w fun e w' => ∃ v n, e = .returned v ∧ w'.ownsRow B 5 1 v n (Lib.byteCells (34 :: (escQ (bl s) ++ [34]))) ∧ Below B w w' := by
  obtain ⟨i0, hi, hz0, hz1, hz2⟩ := info_parts infoByte
  go_enter Try.func17, Try.ntmps17
  go_wp2_with (at_builtin; refine wpList_append_own _ rfl (.tmp 6) (.tmp 7) 27 rfl B 5 i0 (.int .u8 0) 1 1 Try.underlying27 hi hz0 hz1 hz2 rfl (by decide) _ 0 [] rfl (hown0.alloc _) ⟨w.heap.size, 0, none⟩ 1 1 (Lib.byteCells [34]) rfl rfl (cells_byte w [34]) (byteCells_one _) ?c1 ?c2 ?c3 ?_)
  case c1 => unfold maxLen; omega
  case c2 => omega
  case c3 => simp; omega
  intro v2 w2 hown2 hgrow2 _
  have hbel2 : Below B w w2 := ((Below.refl B w).alloc hBw _).grown hgrow2 (by simp; omega) (fun k hk => (hown0.lt k hk).1)
  clear hgrow2 hown0
  go_wp2
  go_loopw [0, 5] (fun v j wr => ∃ k : Nat, k ≤ s.size ∧ j = .int .i64 k ∧ wr.ownsRow B 5 1 v (34 :: escQ ((bl s).take k)).length (Lib.byteCells (34 :: escQ ((bl s).take k))) ∧ Below B w wr) (fun _ j _ => s.size - (intOf j).toNat)
  case atStart => exact ⟨0, Nat.zero_le _, rfl, hown2, hbel2⟩
  case round =>
    obtain ⟨k, hk, rfl, hown, hbel⟩ := hrel
    clear hown2 hbel2
    have hln := take_len hk
    by_cases hlt : k < s.size
    · obtain ⟨x, hx⟩ : ∃ x : Int, ((s[k].toNat : Nat) : Int) = x := ⟨_, rfl⟩
      have H3 : Hid (needsEsc s[k] = (x == 34 || x == 92)) := needs_int hx
      cases h0 : (x == 34) with
      | true =>
        have HN : Hid (needsEsc s[k] = true) := by show _ = _; rw [H3.out, h0]; rfl
        clear H3
        go_wp2_with (at_builtin; refine wpList_append_own _ rfl (.tmp 25) (.tmp 26) 27 rfl B 5 i0 (.int .u8 0) 1 1 Try.underlying27 hi hz0 hz1 hz2 rfl (by decide) _ _ _ rfl (hown.alloc _) ⟨wr.heap.size, 0, none⟩ 1 1 (Lib.byteCells [92]) rfl rfl (cells_byte wr [92]) (byteCells_one _) ?c1 ?c2 ?c3 ?_)
        case c1 => unfold maxLen; simp; omega
        case c2 => simp; omega
        case c3 => have := hbel.size; simp; omega
        intro v3 w3 hown3 hgrow3 _
        have hbel3 : Below B w w3 := (hbel.alloc (by have := hbel.size; omega) _).grown hgrow3 (by have := hbel.size; simp; omega) (fun k hk => (hown.lt k hk).1)
        clear hgrow3 hown hbel
        go_wp2_with (at_builtin; refine wpList_append_own _ rfl (.tmp 28) (.tmp 32) 27 rfl B 5 i0 (.int .u8 0) 1 1 Try.underlying27 hi hz0 hz1 hz2 rfl (by decide) _ _ _ rfl (hown3.alloc _) ⟨w3.heap.size, 0, none⟩ 1 1 [.int .u8 x] rfl rfl (cell_one_new _ _ _) (fun u hu => by simp at hu; subst hu; rfl) ?d1 ?d2 ?d3 ?_)
        case d1 => unfold maxLen; simp; omega
        case d2 => simp; omega
        case d3 => have := hbel3.size; simp; omega
        intro v4 w4 hown4 hgrow4 _
        have hbel4 : Below B w w4 := (hbel3.alloc (by have := hbel3.size; omega) _).grown hgrow4 (by have := hbel3.size; simp; omega) (fun k hk => (hown3.lt k hk).1)
        have hown5 : w4.ownsRow B 5 1 v4 (34 :: escQ ((bl s).take (k + 1))).length (Lib.byteCells (34 :: escQ ((bl s).take (k + 1)))) := by
          rw [esc_yes hlt HN.out]
          have e : Lib.byteCells (34 :: (escQ ((bl s).take k) ++ [92] ++ [s[k]])) = Lib.byteCells (34 :: escQ ((bl s).take k)) ++ (Lib.byteCells [92] ++ [.int .u8 x]) := by
            rw [← hx]; simp [Lib.byteCells]
          rw [e, show (34 :: (escQ ((bl s).take k) ++ [92] ++ [s[k]])).length = (34 :: escQ ((bl s).take k)).length + 1 + 1 from by simp]
          exact hown4
        clear hgrow4 hown3 hown4 hbel3
        go_wp2
        go_roundw
        case rel => exact ⟨k + 1, by omega, by go_num, hown5, hbel4⟩
        case measure => simp [intOf]; omega
      | false =>
        cases h1 : (x == 92) with
        | true =>
          have HN : Hid (needsEsc s[k] = true) := by show _ = _; rw [H3.out, h0, h1]; rfl
          clear H3
          go_wp2_with (at_builtin; refine wpList_append_own _ rfl (.tmp 25) (.tmp 26) 27 rfl B 5 i0 (.int .u8 0) 1 1 Try.underlying27 hi hz0 hz1 hz2 rfl (by decide) _ _ _ rfl (hown.alloc _) ⟨wr.heap.size, 0, none⟩ 1 1 (Lib.byteCells [92]) rfl rfl (cells_byte wr [92]) (byteCells_one _) ?c1 ?c2 ?c3 ?_)
          case c1 => unfold maxLen; simp; omega
          case c2 => simp; omega
          case c3 => have := hbel.size; simp; omega
          intro v3 w3 hown3 hgrow3 _
          have hbel3 : Below B w w3 := (hbel.alloc (by have := hbel.size; omega) _).grown hgrow3 (by have := hbel.size; simp; omega) (fun k hk => (hown.lt k hk).1)
          clear hgrow3 hown hbel
          go_wp2_with (at_builtin; refine wpList_append_own _ rfl (.tmp 28) (.tmp 32) 27 rfl B 5 i0 (.int .u8 0) 1 1 Try.underlying27 hi hz0 hz1 hz2 rfl (by decide) _ _ _ rfl (hown3.alloc _) ⟨w3.heap.size, 0, none⟩ 1 1 [.int .u8 x] rfl rfl (cell_one_new _ _ _) (fun u hu => by simp at hu; subst hu; rfl) ?d1 ?d2 ?d3 ?_)
          case d1 => unfold maxLen; simp; omega
          case d2 => simp; omega
          case d3 => have := hbel3.size; simp; omega
          intro v4 w4 hown4 hgrow4 _
          have hbel4 : Below B w w4 := (hbel3.alloc (by have := hbel3.size; omega) _).grown hgrow4 (by have := hbel3.size; simp; omega) (fun k hk => (hown3.lt k hk).1)
          have hown5 : w4.ownsRow B 5 1 v4 (34 :: escQ ((bl s).take (k + 1))).length (Lib.byteCells (34 :: escQ ((bl s).take (k + 1)))) := by
            rw [esc_yes hlt HN.out]
            have e : Lib.byteCells (34 :: (escQ ((bl s).take k) ++ [92] ++ [s[k]])) = Lib.byteCells (34 :: escQ ((bl s).take k)) ++ (Lib.byteCells [92] ++ [.int .u8 x]) := by
              rw [← hx]; simp [Lib.byteCells]
            rw [e, show (34 :: (escQ ((bl s).take k) ++ [92] ++ [s[k]])).length = (34 :: escQ ((bl s).take k)).length + 1 + 1 from by simp]
            exact hown4
          clear hgrow4 hown3 hown4 hbel3
          go_wp2
          go_roundw
          case rel => exact ⟨k + 1, by omega, by go_num, hown5, hbel4⟩
          case measure => simp [intOf]; omega
        | false =>
          have HN : Hid (needsEsc s[k] = false) := by show _ = _; rw [H3.out, h0, h1]; rfl
          clear H3
          go_wp2_with (at_builtin; refine wpList_append_own _ rfl (.tmp 28) (.tmp 32) 27 rfl B 5 i0 (.int .u8 0) 1 1 Try.underlying27 hi hz0 hz1 hz2 rfl (by decide) _ _ _ rfl (hown.alloc _) ⟨wr.heap.size, 0, none⟩ 1 1 [.int .u8 x] rfl rfl (cell_one_new _ _ _) (fun u hu => by simp at hu; subst hu; rfl) ?d1 ?d2 ?d3 ?_)
          case d1 => unfold maxLen; simp; omega
          case d2 => simp; omega
          case d3 => have := hbel.size; simp; omega
          intro v4 w4 hown4 hgrow4 _
          have hbel4 : Below B w w4 := (hbel.alloc (by have := hbel.size; omega) _).grown hgrow4 (by have := hbel.size; simp; omega) (fun k hk => (hown.lt k hk).1)
          have hown5 : w4.ownsRow B 5 1 v4 (34 :: escQ ((bl s).take (k + 1))).length (Lib.byteCells (34 :: escQ ((bl s).take (k + 1)))) := by
            rw [esc_no hlt HN.out]
            have e : Lib.byteCells (34 :: (escQ ((bl s).take k) ++ [s[k]])) = Lib.byteCells (34 :: escQ ((bl s).take k)) ++ [.int .u8 x] := by
              rw [← hx]; simp [Lib.byteCells]
            rw [e, show (34 :: (escQ ((bl s).take k) ++ [s[k]])).length = (34 :: escQ ((bl s).take k)).length + 1 from by simp]
            exact hown4
          clear hgrow4 hown hown4
          go_wp2
          go_roundw
          case rel => exact ⟨k + 1, by omega, by go_num, hown5, hbel4⟩
          case measure => simp [intOf]; omega
    · have hall : (bl s).take k = bl s := List.take_of_length_le (by rw [bl_length]; omega)
      rw [hall] at hown hln
      go_wp2_with (at_builtin; refine wpList_append_own _ rfl (.tmp 34) (.tmp 35) 27 rfl B 5 i0 (.int .u8 0) 1 1 Try.underlying27 hi hz0 hz1 hz2 rfl (by decide) _ _ _ rfl (hown.alloc _) ⟨wr.heap.size, 0, none⟩ 1 1 (Lib.byteCells [34]) rfl rfl (cells_byte wr [34]) (byteCells_one _) ?c1 ?c2 ?c3 ?_)
      case c1 => unfold maxLen; simp; omega
      case c2 => simp; omega
      case c3 => have := hbel.size; simp; omega
      intro v3 w3 hown3 hgrow3 _
      have hbel3 : Below B w w3 := (hbel.alloc (by have := hbel.size; omega) _).grown hgrow3 (by have := hbel.size; simp; omega) (fun k hk => (hown.lt k hk).1)
      rw [byteCells_append] at hown3
      clear hgrow3 hown hbel
      go_wp2
      go_ret
      exact ⟨_, _, rfl, hown3, hbel3⟩

end Go.Proofs.Qxb6000905a
