/-
  strings.IndexAny(s, ", \t") AT EVERY s (the shelf has it at ASCII bytes alone, where s is short); isSep; cutValue at what is not quoted; the law FnCutValueUnquotedSplitsAtSeparator.
-/
import Derived.Test.Qxb6000905aPlain
import Derived.Lib.IndexAny
namespace Go.Proofs.Qxb6000905a
open Go.RowKit

def sepL : List UInt8 := [44, 32, 9]
def seps : ByteArray := ⟨#[44, 32, 9]⟩
def sep (c : UInt8) : Bool := sepL.contains c

theorem seps_ascii : ∀ b ∈ seps.data.toList, b.toNat < 128 := by decide
theorem sep_far {c : UInt8} (h : 128 ≤ c.toNat) : sep c = false := by
  cases hc : sep c with
  | false => rfl
  | true =>
    have hm := List.contains_iff_mem.1 hc
    have := seps_ascii c hm
    omega

/-- How many bytes the value has. -/
def sepAt : List UInt8 → Nat
  | [] => 0
  | c :: t => if sep c = true then 0 else sepAt t + 1
theorem sepAt_le : ∀ l : List UInt8, sepAt l ≤ l.length
  | [] => Nat.le_refl _
  | c :: t => by
    rw [sepAt]
    split
    · exact Nat.zero_le _
    · have := sepAt_le t; simp; omega
theorem sepAt_none : ∀ (l : List UInt8) (j : Nat) (c : UInt8), j < sepAt l → l[j]? = some c → sep c = false
  | [], j, c, h, _ => by simp [sepAt] at h
  | d :: t, j, c, h, hc => by
    rw [sepAt] at h
    split at h
    · omega
    · rename_i hd
      cases j with
      | zero => simp at hc; rw [← hc]; simpa using hd
      | succ j => exact sepAt_none t j c (by omega) (by simpa using hc)
theorem sepAt_stop : ∀ (l : List UInt8) (c : UInt8), l[sepAt l]? = some c → sep c = true
  | [], c, h => by simp at h
  | d :: t, c, h => by
    rw [sepAt] at h
    split at h
    · rename_i hd
      simp at h
      rw [← h]; exact hd
    · rw [List.getElem?_cons_succ] at h
      exact sepAt_stop t c h
theorem indexAny_sep : ∀ l : List UInt8, Lib.indexAny l sepL = if sepAt l < l.length then (sepAt l : Int) else -1
  | [] => rfl
  | c :: t => by
    have ih := indexAny_sep t
    rw [Lib.indexAny, sepAt]
    by_cases h : sepL.contains c = true
    · have h' : sep c = true := h
      rw [if_pos h, if_pos h']; simp
    · have h' : ¬ sep c = true := h
      rw [if_neg h, if_neg h', ih]
      by_cases hl : sepAt t < t.length
      · rw [if_pos hl, if_neg (by simp), if_pos (by rw [List.length_cons]; omega)]; rfl
      · rw [if_neg hl, if_pos (by rfl), if_neg (by rw [List.length_cons]; omega)]

theorem skip_far (s : ByteArray) (pos : Nat) (h : pos < s.size) (hb : 128 ≤ (s[pos]).toNat) (H : Lib.NoAny (bl s) sepL pos) : Lib.NoAny (bl s) sepL (pos + (Utf8.decode s pos).2) := by
  have hd := decodeN_skip (s.size - pos) (s.get! pos).toNat (s.get! (pos + 1)).toNat (s.get! (pos + 2)).toNat (s.get! (pos + 3)).toNat (by rw [get_bang s pos h]; exact hb)
  rw [← Lib.decode_at] at hd
  intro j c hj hc
  by_cases hjp : j < pos
  · exact H j c hjp hc
  · have hjs : j < s.size := by
      have := (List.getElem?_eq_some_iff.1 hc).1
      rw [bl_length] at this; exact this
    rw [bl_get s j hjs] at hc
    simp only [Option.some.injEq] at hc
    have hg := get_bang s j hjs
    rw [← hc]
    refine sep_far ?_
    rw [← hg]
    rcases (show j = pos ∨ j = pos + 1 ∨ j = pos + 2 ∨ j = pos + 3 from by omega) with rfl | rfl | rfl | rfl
    · rw [hg]; exact hb
    · exact hd.1 (by omega)
    · exact hd.2.1 (by omega)
    · exact hd.2.2.1 (by omega)

theorem decode_width (s : ByteArray) (k : Nat) (h : k < s.size) (hb : 128 ≤ (s[k]).toNat) : 1 ≤ (Utf8.decode s k).2 := by
  have hd := decodeN_skip (s.size - k) (s.get! k).toNat (s.get! (k + 1)).toNat (s.get! (k + 2)).toNat (s.get! (k + 3)).toNat (by rw [get_bang s k h]; exact hb)
  rw [← Lib.decode_at] at hd
  exact hd.2.2.2.2
theorem noAny_end {l : List UInt8} {pos : Nat} (H : Lib.NoAny l sepL pos) (h : ¬ pos < l.length) : Lib.NoAny l sepL l.length := fun j b hj hb => H j b (by omega) hb

set_option maxHeartbeats 2000000 in
set_option maxRecDepth 1000000 in
theorem indexAny_short (s : ByteArray) (w : World) (h8 : s.size ≤ 8) :
    Calls Try.prog 26 #[.string s, .string seps] w fun e w' => e = .returned (.int .i64 (Lib.indexAny (bl s) sepL)) ∧ Below w.heap.size w w' := by
  have h8z : decide ((8 : Int) < (s.size : Int)) = false := decide_eq_false (by omega)
  have hcon := fun (x : Nat) (w : World) => indexRune_any seps seps_ascii (by decide) x w
  unfold seps at hcon ⊢
  go_enter Try.func26, Try.ntmps26
  go_wp2_with (go_at_call 32; refine (Try.strings_shouldUseASCIISet _ _).mono ?_; rintro e w' ⟨rfl, hw⟩; rw [hw, h8z]; clear hw)
  go_loopg [9, 10] s.size (fun g _ _ wx => ∃ pos : Nat, wx.heap[w.heap.size]? = some (.stringIter s pos) ∧ Below w.heap.size w wx ∧ Hid (Lib.NoAny (bl s) sepL pos) ∧ s.size ≤ pos + g)
  case atStart => exact ⟨0, World.iter_heap w s 0, (Below.refl _ w).alloc (Nat.le_refl _) _, (Lib.NoAny.zero _ _ : Lib.NoAny (bl s) sepL 0), by omega⟩
  case round =>
    obtain ⟨pos, hit, hbw, HN, hfu⟩ := hrel
    by_cases hps : pos < s.size
    · obtain ⟨g', rfl⟩ : ∃ g', gk = g' + 1 := ⟨gk - 1, by omega⟩
      have hnx : ∀ ty, (Instr.next (.pointer (some ⟨w.heap.size, 0, none⟩)) true ty).run Try.prog wr = _ := fun ty => Lib.run_next_any_at wr w.heap.size s pos ty hit hps
      by_cases ha : (s[pos]'hps).toNat < 128
      · rw [decode_ascii s pos hps ha] at hnx
        simp only [] at hnx
        have hb := bl_get s pos hps
        obtain ⟨x, hx⟩ : ∃ x : UInt8, s[pos]'hps = x := ⟨_, rfl⟩
        rw [hx] at hnx hb ha
        have hit2 := Lib.iterAt_heap wr w.heap.size s pos (pos + 1) hit
        have hbw2 := Lib.below_iterAt hbw (k := w.heap.size) (Nat.le_refl _) s (pos + 1)
        obtain ⟨W, hWd⟩ : ∃ W, wr.iterAt w.heap.size s (pos + 1) = W := ⟨_, rfl⟩
        rw [hWd] at hnx hit2 hbw2
        have hltW : w.heap.size < W.heap.size := (Array.getElem?_eq_some_iff.1 hit2).1
        have cS := hcon x.toNat W
        rw [if_pos ha] at cS
        obtain ⟨v, hv⟩ : ∃ v, Lib.indexByte (⟨#[44, 32, 9]⟩ : ByteArray).data.toList x.toNat.toUInt8 = v := ⟨_, rfl⟩
        have hvd : decide (0 ≤ v) = sep x := by rw [← hv, indexByte_contains]; simp [sep, sepL]
        rw [hv] at cS
        clear hv hcon hx hWd
        cases hsx : sep x with
        | true =>
          have HE : Hid (Lib.indexAny (bl s) sepL = pos) := Lib.indexAny_hit HN.out hb hsx
          have hv0 : 0 ≤ v := of_decide_eq_true (hvd.trans hsx)
          clear hvd hb
          go_wp2_with (go_at_call 30; refine cS.mono ?_; rintro e W' ⟨rfl, hbc⟩)
          go_ret
          exact ⟨by rw [HE.out]; rfl, hbw2.trans (hbc.mono hbw2.size)⟩
        | false =>
          have HE : Hid (Lib.NoAny (bl s) sepL (pos + 1)) := HN.out.succ hb hsx
          have hv0 : ¬ 0 ≤ v := of_decide_eq_false (hvd.trans hsx)
          clear hvd hb
          go_wp2_with (go_at_call 30; refine cS.mono ?_; rintro e W' ⟨rfl, hbc⟩)
          go_roundg g'
          case measure => omega
          case rel => exact ⟨pos + 1, (hbc.block _ hltW).trans hit2, hbw2.trans (hbc.mono hbw2.size), HE, by omega⟩
      · have hR1 := decode_far s pos hps (by omega)
        have HE : Hid (Lib.NoAny (bl s) sepL (pos + (Utf8.decode s pos).2)) := skip_far s pos hps (by omega) HN.out
        have hwd := decode_width s pos hps (by omega)
        obtain ⟨R, hR⟩ : ∃ R, (Utf8.decode s pos).1 = R := ⟨_, rfl⟩
        obtain ⟨K, hK⟩ : ∃ K, (Utf8.decode s pos).2 = K := ⟨_, rfl⟩
        rw [hR, hK] at hnx
        rw [hK] at hwd HE
        rw [hR] at hR1
        have hit2 := Lib.iterAt_heap wr w.heap.size s pos (pos + K) hit
        have hbw2 := Lib.below_iterAt hbw (k := w.heap.size) (Nat.le_refl _) s (pos + K)
        obtain ⟨W, hWd⟩ : ∃ W, wr.iterAt w.heap.size s (pos + K) = W := ⟨_, rfl⟩
        rw [hWd] at hnx hit2 hbw2
        have hltW : w.heap.size < W.heap.size := (Array.getElem?_eq_some_iff.1 hit2).1
        have cS := hcon R W
        rw [if_neg (by omega)] at cS
        clear hcon hWd hR hK
        go_wp2_with (go_at_call 30; refine cS.mono ?_; rintro e W' ⟨rfl, hbc⟩)
        go_roundg g'
        case measure => omega
        case rel => exact ⟨pos + K, (hbc.block _ hltW).trans hit2, hbw2.trans (hbc.mono hbw2.size), HE, by omega⟩
    · have hnx : ∀ ty, (Instr.next (.pointer (some ⟨w.heap.size, 0, none⟩)) true ty).run Try.prog wr = _ := fun ty => Lib.run_next_end_at wr w.heap.size s pos ty hit hps
      have HE : Hid (Lib.indexAny (bl s) sepL = -1) := Lib.indexAny_none (noAny_end HN.out (by rw [bl_length]; exact hps))
      go_wp2
      go_ret
      exact ⟨by rw [HE.out]; rfl, hbw⟩

/-- At every s. -/
theorem indexAny_all (s : ByteArray) (w : World) (hs : s.size ≤ 4194304) :
    Calls Try.prog 26 #[.string s, .string seps] w fun e w' => e = .returned (.int .i64 (if sepAt (bl s) < s.size then (sepAt (bl s) : Int) else -1)) ∧ Below w.heap.size w w' := by
  rw [← bl_length s, ← indexAny_sep]
  by_cases h8 : s.size ≤ 8
  · exact indexAny_short s w h8
  · refine (Try.strings_IndexAny_long (zero_of_info (n := 256) (by kernel_rfl)).1 s seps w (by decide) (by omega) (by omega) (by decide) ?_).mono ?_
    · intro j b hb
      exact seps_ascii b (List.mem_of_getElem? hb)
    · rintro e w' ⟨rfl, rfl⟩
      exact ⟨rfl, ((Below.refl _ w).alloc (Nat.le_refl _) _).alloc ((Below.refl _ w).alloc (Nat.le_refl _) _).size _⟩

theorem ret_boolv {a b : Bool} (h : a = b) : Ending.returned (.bool a) = .returned (.bool b) := by rw [h]
set_option maxHeartbeats 400000 in
theorem isSep_byte (c : UInt8) (x : Int) (hx : ((c.toNat : Nat) : Int) = x) (w : World) :
    Calls Try.prog 15 #[.int .u8 x] w fun e w' => e = .returned (.bool (sep c)) ∧ w' = w := by
  have hsep : sep c = ((x == 44) || (x == 32) || (x == 9)) := by
    have : ∀ k : UInt8, (c == k) = (x == ((k.toNat : Nat) : Int)) := fun k => by
      rw [Bool.eq_iff_iff, beq_iff_eq, beq_iff_eq, ← hx]
      constructor
      · rintro rfl; rfl
      · intro h; exact UInt8.toNat_inj.1 (by omega)
    unfold sep sepL
    rw [List.contains_cons, List.contains_cons, List.contains_cons, this, this, this]
    simp [Bool.or_assoc]
  rw [hsep]
  clear hsep hx
  go_enter Try.func15, Try.ntmps15
  go_wp2
  all_goals
    go_ret
    refine ⟨ret_boolv ?_, rfl⟩
    simp [*]

/-- Where cutValue cuts what is not quoted. -/
def cutV (s : ByteArray) : Nat := sepAt (bl s)
theorem cutV_le (s : ByteArray) : cutV s ≤ s.size := by rw [← bl_length]; exact sepAt_le _

set_option maxHeartbeats 400000 in
theorem cutValue_plain (s : ByteArray) (w : World) (hs : s.size ≤ 4194304) (hq : Lib.hasPrefix s.data.toList [34] = false) :
    Calls Try.prog 21 #[.string s] w fun e w' => e = .returned (.tuple #[.string (s.extract 0 (cutV s)), .string (s.extract (cutV s) s.size)]) ∧ Below w.heap.size w w' := by
  have hcon := indexAny_all s w hs
  have hpre := Try.strings_HasPrefix s ⟨#[34]⟩
  rw [show (⟨#[34]⟩ : ByteArray).data.toList = [34] from rfl, hq] at hpre
  have hk : cutV s ≤ s.size := cutV_le s
  unfold seps at hcon
  unfold cutV at hk ⊢
  obtain ⟨k, hkd⟩ : ∃ k, sepAt (bl s) = k := ⟨_, rfl⟩
  rw [hkd] at hcon hk ⊢
  clear hkd hq
  by_cases hlt : k < s.size
  · rw [if_pos hlt] at hcon
    have h1 : (k : Int) ≤ (s.size : Int) := by omega
    go_enter Try.func21, Try.ntmps21
    go_wp2_with (first | (go_at_call 25; refine (hpre _).mono ?_; rintro e wx ⟨rfl, hwx⟩; rw [hwx]; clear hwx) | (go_at_call 26; refine hcon.mono ?_; rintro e w1 ⟨rfl, hb⟩))
    go_quiet (fail)
    go_wp2
    go_ret2
    exact ⟨rfl, hb.trans ⟨rfl, rfl, rfl, Nat.le_refl _, fun _ _ => rfl⟩⟩
  · rw [if_neg hlt] at hcon
    obtain rfl : k = s.size := by omega
    rw [extract_zero, extract_end]
    go_enter Try.func21, Try.ntmps21
    go_wp2_with (first | (go_at_call 25; refine (hpre _).mono ?_; rintro e wx ⟨rfl, hwx⟩; rw [hwx]; clear hwx) | (go_at_call 26; refine hcon.mono ?_; rintro e w1 ⟨rfl, hb⟩))
    go_ret2
    exact ⟨rfl, hb⟩

set_option maxHeartbeats 400000 in
theorem zzValue_any (s T R : ByteArray) (w : World) (h : Calls Try.prog 21 #[.string s] w fun e w' => e = .returned (.tuple #[.string T, .string R]) ∧ Below w.heap.size w w') :
    Calls Try.prog 14 #[.string s] w fun e w' => e = .returned (.tuple #[.string T, .string R]) ∧ Below w.heap.size w w' := by
  go_enter Try.func14, Try.ntmps14
  go_wp2_with (go_at_call 21; refine h.mono ?_; rintro e w1 ⟨rfl, hb1⟩)
  go_ret2
  exact ⟨rfl, hb1⟩

theorem val_none (s : ByteArray) (j : Nat) (h : j < (s.extract 0 (cutV s)).size) : sep ((s.extract 0 (cutV s))[j]'h) = false := by
  have e := bl_get _ j h
  rw [bl_extract, List.drop_zero, Nat.sub_zero, List.getElem?_take] at e
  split at e
  · rename_i hj
    exact sepAt_none _ j _ hj e
  · exact absurd e (by simp)
theorem rest_sep (s : ByteArray) (h : 0 < (s.extract (cutV s) s.size).size) : sep ((s.extract (cutV s) s.size)[0]'h) = true := by
  have e := bl_get _ 0 h
  rw [bl_extract, List.getElem?_take] at e
  split at e
  · rw [List.getElem?_drop] at e
    exact sepAt_stop _ _ e
  · exact absurd e (by simp)

theorem pre_no (s : ByteArray) (h : ∀ h0 : 0 < s.size, s[0]'h0 ≠ 34) : Lib.hasPrefix s.data.toList [34] = false := by
  cases hc : Lib.hasPrefix s.data.toList [34] with
  | false => rfl
  | true =>
    exfalso
    unfold Lib.hasPrefix at hc
    cases hl : s.data.toList with
    | nil => rw [hl] at hc; simp at hc
    | cons c t =>
      have h0 : 0 < s.size := by rw [← bl_length]; unfold bl; rw [hl]; simp
      have e := bl_get s 0 h0
      unfold bl at e
      rw [hl] at e hc
      simp at e hc
      exact h h0 (by rw [← e, ← hc])

set_option maxHeartbeats 400000 in
theorem lawU_long (s : ByteArray) (w : World) (h : ¬ s.size ≤ 1048576) :
    Calls Try.prog 5 #[.string s] w fun e w' => e = .returned (.bool true) ∧ Below w.heap.size w w' := by
  have h1 : (1048576 : Int) < (s.size : Int) := by omega
  go_enter Try.func5, Try.ntmps5
  go_wp2
  go_ret
  exact ⟨rfl, Below.refl _ _⟩

theorem size_zero {s : ByteArray} (h : ¬ 0 < s.size) : s = ⟨#[]⟩ := by
  apply bl_inj
  have := bl_length s
  rw [List.length_eq_zero_iff.1 (by omega : (bl s).length = 0)]
  rfl

set_option maxHeartbeats 1000000 in
/-- Behind the first tests: what the law does with a string that is not quoted. -/
theorem lawU_rest (s : ByteArray) (w : World) (hs : s.size ≤ 1048576) (hq : Lib.hasPrefix s.data.toList [34] = false) (hfirst : (¬ 0 < s.size) ∨ ∃ (h0 : 0 < s.size) (x : Int), (((s[0]'h0).toNat : Nat) : Int) = x ∧ (x == 34) = false) :
    Calls Try.prog 5 #[.string s] w fun e w' => e = .returned (.bool true) ∧ Below w.heap.size w w' := by
  have hz := zzValue_any s _ _ w (cutValue_plain s w (by omega) hq)
  have hval : ∀ T, s.extract 0 (cutV s) = T → ∀ j (h : j < T.size), sep (T[j]'h) = false := by rintro T rfl j h; exact val_none s j h
  have hrest : ∀ R, s.extract (cutV s) s.size = R → ∀ h : 0 < R.size, sep (R[0]'h) = true := by rintro R rfl h; exact rest_sep s h
  have hTR := split_back s (cutV s)
  have hTs : (s.extract 0 (cutV s)).size ≤ 1048576 := by rw [← bl_length, bl_extract, List.length_take]; have := cutV_le s; omega
  have hRs : (s.extract (cutV s) s.size).size ≤ 1048576 := by rw [← bl_length, bl_extract, List.length_take]; omega
  obtain ⟨T, hT⟩ : ∃ T, s.extract 0 (cutV s) = T := ⟨_, rfl⟩
  obtain ⟨R, hR⟩ : ∃ R, s.extract (cutV s) s.size = R := ⟨_, rfl⟩
  replace hval := hval T hT
  replace hrest := hrest R hR
  rw [hT, hR] at hz hTR
  rw [hT] at hTs
  rw [hR] at hRs
  clear hT hR hq
  have HV : Hid (∀ j (h : j < T.size), sep (T[j]'h) = false) := hval
  have HRe : Hid (∀ h : 0 < R.size, sep (R[0]'h) = true) := hrest
  clear hval hrest
  rcases hfirst with hf | ⟨h0, x0, hx0, hx1⟩
  · have hf' : ¬ (0 : Int) < (s.size : Int) := by omega
    go_enter Try.func5, Try.ntmps5
    go_wp2_with (first | (go_at_call 13; go_in) | (go_at_call 14; refine hz.mono ?_; rintro e w1 ⟨rfl, hb1⟩))
    clear hz hTR
    go_loopw [5] (fun j wr => wr = w1 ∧ ∃ p : Nat, p ≤ T.size ∧ j = .int .i64 p) (fun j _ => T.size - (intOf j).toNat)
    case atStart => exact ⟨rfl, 0, Nat.zero_le _, rfl⟩
    case round =>
      obtain ⟨rfl, p, hps, rfl⟩ := hrel
      by_cases hp : p < T.size
      · have hp' : (p : Int) < (T.size : Int) := by omega
        obtain ⟨x, hx⟩ : ∃ x : Int, ((T[p].toNat : Nat) : Int) = x := ⟨_, rfl⟩
        have hcon := isSep_byte T[p] x hx
        rw [HV.out p hp] at hcon
        go_wp2_with (go_at_call 15; refine (hcon _).mono ?_; rintro e wx ⟨rfl, hwx⟩; rw [hwx]; clear hwx)
        go_roundw
        case rel => exact ⟨trivial, p + 1, by omega, by go_num⟩
        case measure => simp [intOf]; omega
      · have hp' : ¬ (p : Int) < (T.size : Int) := by omega
        by_cases hr : 0 < R.size
        · have hr' : (0 : Int) < (R.size : Int) := by omega
          obtain ⟨x, hx⟩ : ∃ x : Int, (((R[0]'hr).toNat : Nat) : Int) = x := ⟨_, rfl⟩
          have hcon := isSep_byte (R[0]'hr) x hx
          rw [HRe.out hr] at hcon
          have hemp : R.toList.isEmpty = false := by
            rw [Lib.toList_data]
            cases h : R.data.toList with
            | nil => have := Lib.size_eq R; rw [h, List.length_nil] at this; omega
            | cons _ _ => rfl
          go_wp2_with (go_at_call 15; refine (hcon _).mono ?_; rintro e wx ⟨rfl, hwx⟩; rw [hwx]; clear hwx)
          go_ret
          exact ⟨rfl, hb1⟩
        · obtain rfl := size_zero hr
          go_wp2
          go_ret
          exact ⟨rfl, hb1⟩
  · have hf' : (0 : Int) < (s.size : Int) := by omega
    go_enter Try.func5, Try.ntmps5
    go_wp2_with (first | (go_at_call 13; go_in) | (go_at_call 14; refine hz.mono ?_; rintro e w1 ⟨rfl, hb1⟩))
    clear hz hTR
    go_loopw [5] (fun j wr => wr = w1 ∧ ∃ p : Nat, p ≤ T.size ∧ j = .int .i64 p) (fun j _ => T.size - (intOf j).toNat)
    case atStart => exact ⟨rfl, 0, Nat.zero_le _, rfl⟩
    case round =>
      obtain ⟨rfl, p, hps, rfl⟩ := hrel
      by_cases hp : p < T.size
      · have hp' : (p : Int) < (T.size : Int) := by omega
        obtain ⟨x, hx⟩ : ∃ x : Int, ((T[p].toNat : Nat) : Int) = x := ⟨_, rfl⟩
        have hcon := isSep_byte T[p] x hx
        rw [HV.out p hp] at hcon
        go_wp2_with (go_at_call 15; refine (hcon _).mono ?_; rintro e wx ⟨rfl, hwx⟩; rw [hwx]; clear hwx)
        go_roundw
        case rel => exact ⟨trivial, p + 1, by omega, by go_num⟩
        case measure => simp [intOf]; omega
      · have hp' : ¬ (p : Int) < (T.size : Int) := by omega
        by_cases hr : 0 < R.size
        · have hr' : (0 : Int) < (R.size : Int) := by omega
          obtain ⟨x, hx⟩ : ∃ x : Int, (((R[0]'hr).toNat : Nat) : Int) = x := ⟨_, rfl⟩
          have hcon := isSep_byte (R[0]'hr) x hx
          rw [HRe.out hr] at hcon
          have hemp : R.toList.isEmpty = false := by
            rw [Lib.toList_data]
            cases h : R.data.toList with
            | nil => have := Lib.size_eq R; rw [h, List.length_nil] at this; omega
            | cons _ _ => rfl
          go_wp2_with (go_at_call 15; refine (hcon _).mono ?_; rintro e wx ⟨rfl, hwx⟩; rw [hwx]; clear hwx)
          go_ret
          exact ⟨rfl, hb1⟩
        · obtain rfl := size_zero hr
          go_wp2
          go_ret
          exact ⟨rfl, hb1⟩

set_option maxHeartbeats 400000 in
theorem lawU (s : ByteArray) (w : World) :
    Calls Try.prog 5 #[.string s] w fun e w' => e = .returned (.bool true) ∧ Below w.heap.size w w' := by
  by_cases hs : s.size ≤ 1048576
  · by_cases h0 : 0 < s.size
    · obtain ⟨x, hx⟩ : ∃ x : Int, (((s[0]'h0).toNat : Nat) : Int) = x := ⟨_, rfl⟩
      cases h34 : (x == 34) with
      | true =>
        have hf' : (0 : Int) < (s.size : Int) := by omega
        go_enter Try.func5, Try.ntmps5
        go_wp2_with (go_at_call 13; go_in)
        go_ret
        exact ⟨rfl, Below.refl _ _⟩
      | false =>
        refine lawU_rest s w hs (pre_no s fun _ h => ?_) (.inr ⟨h0, x, hx, h34⟩)
        rw [h] at hx
        rw [← hx] at h34
        exact absurd h34 (by decide)
    · exact lawU_rest s w hs (pre_no s fun h => absurd h h0) (.inl h0)
  · exact lawU_long s w hs

end Go.Proofs.Qxb6000905a
