import Derived.Test.Qxb6603046aModel
import Derived.Deep.RegionLaw
import Derived.Lib.SlBytesConst
import Derived.Lib.AppendStr
import Derived.Test.Qxb6603046aPlain2
namespace Go.Proofs.Qxb6603046a
open Go.RowKit

/-- append onto a slice of the call's own, as one step of a region that draws. -/
theorem step_append_own {P : Program} {ops : Array Oper} {o : Oper} {a : Act} {w : World} {K : Act → World → Prop} {Q : Exit → Act → World → Prop} {E : Prop}
    (hg : o.guard = none) (s x : Operand) (t : TypeId) (hop : o.op = Op.call { callee := Callee.builtin Builtin.append, args := #[s, x], argTypes := #[t, t] })
    (base : Nat) (e : TypeId) (i : TypeInfo) (z : Value) (size bytes : Nat) (h1 : P.underlying t = some (.slice e)) (h2 : P.info? e = some i) (h3 : i.zero = some z) (h4 : i.size = size) (h5 : i.bytes = bytes) (h6 : z.cells.size = size) (h7 : 0 < size)
    (v : Value) (k : Nat) (xs : List Value) (hs : a.eval s = v) (hown : w.ownsRow base e size v k xs) (ad : Addr) (m c : Nat) (news : List Value) (hx : a.eval x = .slice (some ad) m c) (hn : news.length = m * size)
    (hc : ∀ j u, news[j]? = some u → w.cell? (ad.add j) = some u) (h1c : ∀ u ∈ news, u.oneCell' = true) (b1 : k + m ≤ maxLen) (b2 : (k + m) * bytes ≤ 140737488355328) (b3 : base ≤ w.heap.size)
    (hK : ∀ v' w', w'.ownsRow base e size v' (k + m) (xs ++ news) → w.grownBy w' v.ownBlock → K (a.put o.dst v') w') :
    if Region.wanted o (yielded ops a.tmps) = true then Oper.wp P o a w K Q else E := by
  have hw : Region.wanted o (yielded ops a.tmps) = true := by simp [Region.wanted, hg]
  rw [if_pos hw]
  obtain ⟨v', w', hrun, r1, r2, _⟩ := run_append_own (P := P) w base t o.type e i z size bytes h1 h2 h3 h4 h5 h6 h7 v k xs hown ad m c news hn hc h1c b1 b2 b3
  unfold Oper.wp
  simp [execOp, hop, resolve, invoke, builtin, hs, hx, hrun, Result.andThen]
  exact hK v' w' r1 r2

/-- What a round of the program leaves. -/
theorem prg_byte {t acc : List Int} {n i : Nat} (ht : t.length = n) (hi : i < n) (h : (t[i]?.getD 0 != 92) = true) (H : acc ++ prgAt t i = prgAt t 0) :
    (acc ++ [t[i]?.getD 0]) ++ prgAt t (i + 1) = prgAt t 0 ∧ oddTo t (i + 1) = false := by
  have h' : ¬ t.getD i 0 = 92 := by simpa [List.getD_eq_getElem?_getD] using h
  refine ⟨?_, odd_skip h'⟩
  rw [← H, prgAt_step t i (by omega), if_neg h']
  simp [List.getD_eq_getElem?_getD]
theorem prg_sep {t acc : List Int} {n i : Nat} (ht : t.length = n) (h : sepAt t i ≠ 0) (H : acc ++ prgAt t i = prgAt t 0) :
    (acc ++ [226, 128, sepAt t i]) ++ prgAt t (i + 6) = prgAt t 0 ∧ oddTo t (i + 6) = false ∧ i + 6 ≤ n := by
  obtain ⟨a1, a2, _⟩ := sepAt_ne h
  refine ⟨?_, odd_sep h, by omega⟩
  rw [← H, prgAt_step t i (by omega), if_pos (preAt_head a2), if_pos h]
  simp
theorem prg_esc {t acc : List Int} {n i : Nat} (ht : t.length = n) (hi : i < n) (h92 : (t[i]?.getD 0 != 92) = false) (h : sepAt t i = 0) (ho : oddTo t i = false) (H : acc ++ prgAt t i = prgAt t 0) :
    (acc ++ [t[i]?.getD 0, t[i + 1]?.getD 0]) ++ prgAt t (i + 2) = prgAt t 0 ∧ oddTo t (i + 2) = false := by
  have h' : t.getD i 0 = 92 := by simpa [List.getD_eq_getElem?_getD] using h92
  refine ⟨?_, odd_esc ho h'⟩
  rw [← H, prgAt_step t i (by omega), if_pos h', if_neg (fun c => c h)]
  simp [List.getD_eq_getElem?_getD]

theorem conv_any {w : World} {b off n : Nat} {a : Option Addr} {t : List Int} (hl : Lies w a b off n t) (i m c : Nat) (him : i + m ≤ n) :
    (convert 22 9 (.slice (some ⟨b, off + i, none⟩) m c)).run Try.prog w = .ok (.string (strOfNums ((t.drop i).take m))) w := by
  have ht := hl.1
  refine run_convert_bytes_arg (P := Try.prog) w 22 5 Try.underlying22 Try.underlying5 b (off + i) m c ((t.drop i).take m) (by simp; omega) (fun j hj => ?_) 9 Try.underlying9
  have := (hl.2 (i + j) (by omega)).2
  rw [Nat.add_assoc, this]
  simp [hj]

set_option maxHeartbeats 1000000 in
theorem unesc_at (b off n c : Nat) (hnc : n ≤ c) (t : List Int) (w : World) (hl : Lies w (some ⟨b, off, none⟩) b off n t) (hn : n ≤ 1048576) (hr : ∀ x ∈ t, 0 ≤ x ∧ x < 256)
    (he : oddTo t n = false)
    (hcon : Calls Try.prog 25 #[.slice (some ⟨b, off, none⟩) n c, .slice (some ⟨w.heap.size, 0, none⟩) 5 5] (w.alloc (.cells #[.int .u8 92, .int .u8 117, .int .u8 50, .int .u8 48, .int .u8 50] 5 (5, 6)))
        fun e w' => e = .returned (.bool true) ∧ ∃ q, w' = (w.alloc (.cells #[.int .u8 92, .int .u8 117, .int .u8 50, .int .u8 48, .int .u8 50] 5 (5, 6))).drewN q) :
    Calls Try.prog 21 #[.slice (some ⟨b, off, none⟩) n c] w fun e w' => ∃ v, e = .returned v ∧
      w'.ownsRow w.heap.size 5 1 v (prgAt t 0).length (u8s (prgAt t 0)) ∧ Below w.heap.size w w' := by
  have H1 : Hid (t.length = n) := hl.1
  have HE : Hid (oddTo t n = false) := he
  have HRr : Hid (∀ x ∈ t, 0 ≤ x ∧ x < 256) := hr
  clear he hr
  obtain ⟨i0, hi, hz0, hz1, hz2⟩ := info_parts Try.info5
  have kc := fun (w : World) (C : Array Value) (n c : Nat) => Lib.run_convert_bytes_const (P := Try.prog) w 22 5 C n c Try.underlying22 Try.underlying5
  go_enter Try.func21, Try.ntmps21
  go_wp2_with (first | (go_at_call 25; refine hcon.mono ?_; rintro e w' ⟨rfl, q, rfl⟩) | (at_make; refine wpList_make_own _ rfl _ _ 22 rfl w.heap.size 5 i0 (.int .u8 0) 1 Try.underlying22 hi hz0 hz1 _ _ _ n rfl rfl rfl ?b2 ?b3 ?b4 ?_))
  case b2 => rw [hz2]; omega
  case b3 => unfold maxLen; omega
  case b4 => simp
  intro w1 hown1 hgrow1
  have hb1 : Below w.heap.size w w1 := (below_drewN ((Below.refl _ _).alloc (Nat.le_refl _) _) q).grown hgrow1 (by simp) (fun k hk => by cases hk)
  clear hgrow1 hcon
  go_wp2
  go_loopw [3, 4] (fun v j wr => ∃ (i : Nat) (acc : List Int), i ≤ n ∧ acc.length ≤ i ∧ j = .int .i64 i ∧ Hid (acc ++ prgAt t i = prgAt t 0) ∧ Hid (oddTo t i = false) ∧ wr.ownsRow w.heap.size 5 1 v acc.length (u8s acc) ∧ Below w.heap.size w wr) (fun _ j _ => n - (intOf j).toNat)
  case atStart => exact ⟨0, [], Nat.zero_le _, Nat.zero_le _, rfl, (rfl : [] ++ prgAt t 0 = prgAt t 0), (by simp [oddTo, runTo] : oddTo t 0 = false), hown1, hb1⟩
  case round =>

    obtain ⟨i, acc, hin, hai, rfl, HR, HO, hown, hbel⟩ := hrel
    clear hown1 hb1
    have HSl : Hid (Lies wr (some ⟨b, off, none⟩) b off n t) := hl.below hbel (Nat.le_refl _)
    by_cases hlt : i < n
    · have hcell := (HSl.out.2 i hlt).2
      have hi' : (i : Int) < (n : Int) := by omega
      by_cases h92 : (t[i]?.getD 0 != 92) = true
      · have R := prg_byte H1.out hlt h92 HR.out
        have HR2 : Hid (_ = _) := R.1
        have HO2 : Hid (_ = _) := R.2
        clear R
        go_wp2_with (at_builtin; refine wpList_append_own _ rfl (.tmp 25) (.tmp 30) 22 rfl w.heap.size 5 i0 (.int .u8 0) 1 1 Try.underlying22 hi hz0 hz1 hz2 rfl (by decide) _ acc.length (u8s acc) rfl (hown.alloc _) ⟨wr.heap.size, 0, none⟩ 1 1 (u8s [t[i]?.getD 0]) rfl rfl (cells_new wr [t[i]?.getD 0]) (ints_oneCell _ _) ?c1 ?c2 ?c3 ?_)
        case c1 => unfold maxLen; omega
        case c2 => omega
        case c3 => have := hbel.size; simp; omega
        intro v' w2 hown2 hgrow2 _
        have hbel2 : Below w.heap.size w w2 := (hbel.alloc hbel.size _).grown hgrow2 (by have := hbel.size; simp; omega) (fun k hk => (hown.lt k hk).1)
        rw [u8s_append] at hown2
        clear hgrow2 hown
        go_wp2
        go_roundw
        case rel => exact ⟨i + 1, acc ++ [t[i]?.getD 0], by omega, by simp; omega, by go_num, HR2, HO2, by simpa using hown2, hbel2⟩
        case measure => simp [intOf]; omega
      · have h92' : (t[i]?.getD 0 != 92) = false := by simpa using h92
        clear h92
        obtain ⟨S, hS⟩ : ∃ S, S = strOfNums ((t.drop i).take 6) := ⟨_, rfl⟩
        have s8 := six_8 (i := i) HRr.out
        have s9 := six_9 (i := i) HRr.out
        rw [← hS] at s8 s9
        rcases sepAt_three t i with h3 | h3 | h3
        · skip
          have R := prg_sep H1.out (by omega) HR.out
          rw [h3] at R s8 s9
          have h6 : i + 6 ≤ n := R.2.2
          have HR2 : Hid (_ = _) := R.1
          have HO2 : Hid (_ = _) := R.2.1
          simp only [decide_true] at s8
          clear R s9 h3
          have hconv := conv_any HSl.out i 6 (c - i) h6
          rw [← hS] at hconv
          clear hS
          go_wp2_with (at_builtin; refine Lib.wpList_append_own_string _ rfl (.tmp 57) _ 22 9 rfl w.heap.size 5 i0 Try.underlying22 Try.underlying9 hi hz0 hz1 hz2 _ acc.length (u8s acc) rfl hown ⟨#[226, 128, 168]⟩ rfl ?c1 ?c2 ?c3 ?_)
          case c1 => show acc.length + 3 ≤ _; unfold maxLen; omega
          case c2 => show acc.length + 3 ≤ _; omega
          case c3 => exact hbel.size
          intro v' w2 hown2 hgrow2 _
          have hown3 : w2.ownsRow w.heap.size 5 1 v' (acc ++ [226, 128, 168]).length (u8s (acc ++ [226, 128, 168])) := by
            have hlen : (acc ++ [226, 128, 168]).length = acc.length + 3 := by simp
            rw [← u8s_append, hlen]; exact hown2
          have hbel2 : Below w.heap.size w w2 := hbel.grown hgrow2 hbel.size (fun k hk => (hown.lt k hk).1)
          clear hgrow2 hown hown2
          go_wp2
          go_roundw
          case rel => exact ⟨i + 6, acc ++ [226, 128, 168], by omega, by simp; omega, by go_num, HR2, HO2, hown3, hbel2⟩
          case measure => simp [intOf]; omega
        · skip
          have R := prg_sep H1.out (by omega) HR.out
          rw [h3] at R s8 s9
          have h6 : i + 6 ≤ n := R.2.2
          have HR2 : Hid (_ = _) := R.1
          have HO2 : Hid (_ = _) := R.2.1
          simp only [decide_true] at s9
          rw [decide_eq_false (by omega)] at s8; clear R h3
          have hconv := conv_any HSl.out i 6 (c - i) h6
          rw [← hS] at hconv
          clear hS
          go_wp2_with (at_builtin; refine Lib.wpList_append_own_string _ rfl (.tmp 63) _ 22 9 rfl w.heap.size 5 i0 Try.underlying22 Try.underlying9 hi hz0 hz1 hz2 _ acc.length (u8s acc) rfl hown ⟨#[226, 128, 169]⟩ rfl ?c1 ?c2 ?c3 ?_)
          case c1 => show acc.length + 3 ≤ _; unfold maxLen; omega
          case c2 => show acc.length + 3 ≤ _; omega
          case c3 => exact hbel.size
          intro v' w2 hown2 hgrow2 _
          have hown3 : w2.ownsRow w.heap.size 5 1 v' (acc ++ [226, 128, 169]).length (u8s (acc ++ [226, 128, 169])) := by
            have hlen : (acc ++ [226, 128, 169]).length = acc.length + 3 := by simp
            rw [← u8s_append, hlen]; exact hown2
          have hbel2 : Below w.heap.size w w2 := hbel.grown hgrow2 hbel.size (fun k hk => (hown.lt k hk).1)
          clear hgrow2 hown hown2
          go_wp2
          go_roundw
          case rel => exact ⟨i + 6, acc ++ [226, 128, 169], by omega, by simp; omega, by go_num, HR2, HO2, hown3, hbel2⟩
          case measure => simp [intOf]; omega
        · have hn1 : i + 1 < n := by have h := next_lt (t := t) (i := i) (by rw [H1.out]; exact HE.out) (by rw [H1.out]; exact hlt) HO.out (by simpa [List.getD_eq_getElem?_getD] using h92'); rw [H1.out] at h; exact h
          have R := prg_esc H1.out hlt h92' h3 HO.out HR.out
          have HR2 : Hid (_ = _) := R.1
          have HO2 : Hid (_ = _) := R.2
          rw [h3] at s8 s9
          rw [decide_eq_false (by omega)] at s8 s9
          clear R h3
          have hcell1 := (HSl.out.2 (i + 1) hn1).2
          have hi1 : (i : Int) + 1 < (n : Int) := by omega
          have hi2 : (0 : Int) ≤ (i : Int) + 1 := by omega
          have hwr : IntKind.i64.wrap ((i : Int) + 1) = (i : Int) + 1 := by rw [IntKind.wrap_i64]; omega
          by_cases h6 : i + 6 ≤ n
          · have hconv := conv_any HSl.out i 6 (c - i) h6
            rw [← hS] at hconv
            clear hS
            go_wp2
            go_region_law ((refine step_append_own rfl (.tmp 41) (.tmp 51) 22 rfl w.heap.size 5 i0 (.int .u8 0) 1 1 Try.underlying22 hi hz0 hz1 hz2 rfl (by decide) _ acc.length (u8s acc) rfl (hown.drew.alloc _) ⟨wr.heap.size, 0, none⟩ 2 2 (u8s [t[i]?.getD 0, t[i + 1]?.getD 0]) rfl rfl (cells_new wr.drew [t[i]?.getD 0, t[i + 1]?.getD 0]) (ints_oneCell _ _) (by unfold maxLen; omega) (by omega) (by have := hbel.size; simp; omega) ?_; intro v' w2 hown2 hgrow2))
            all_goals
              have hbel2 : Below w.heap.size w w2 := (hbel.drew.alloc hbel.size _).grown hgrow2 (by have := hbel.size; simp; omega) (fun k hk => (hown.lt k hk).1)
              have hown3 : w2.ownsRow w.heap.size 5 1 v' (acc ++ [t[i]?.getD 0, t[i + 1]?.getD 0]).length (u8s (acc ++ [t[i]?.getD 0, t[i + 1]?.getD 0])) := by
                have hlen : (acc ++ [t[i]?.getD 0, t[i + 1]?.getD 0]).length = acc.length + 2 := by simp
                rw [← u8s_append, hlen]; exact hown2
              clear hgrow2 hown hown2
              go_wp2
              go_roundw
              case rel => exact ⟨i + 2, acc ++ [t[i]?.getD 0, t[i + 1]?.getD 0], by omega, by simp; omega, by go_num, HR2, HO2, hown3, hbel2⟩
              case measure => simp [intOf]; omega
          · have hconv := conv_any HSl.out i (n - i) (c - i) (by omega)
            rw [show (t.drop i).take (n - i) = (t.drop i).take 6 from by rw [List.take_of_length_le (by have := H1.out; simp; omega), List.take_of_length_le (by have := H1.out; simp; omega)], ← hS] at hconv
            clear hS
            go_wp2
            go_region_law ((refine step_append_own rfl (.tmp 41) (.tmp 51) 22 rfl w.heap.size 5 i0 (.int .u8 0) 1 1 Try.underlying22 hi hz0 hz1 hz2 rfl (by decide) _ acc.length (u8s acc) rfl (hown.drew.alloc _) ⟨wr.heap.size, 0, none⟩ 2 2 (u8s [t[i]?.getD 0, t[i + 1]?.getD 0]) rfl rfl (cells_new wr.drew [t[i]?.getD 0, t[i + 1]?.getD 0]) (ints_oneCell _ _) (by unfold maxLen; omega) (by omega) (by have := hbel.size; simp; omega) ?_; intro v' w2 hown2 hgrow2))
            all_goals
              have hbel2 : Below w.heap.size w w2 := (hbel.drew.alloc hbel.size _).grown hgrow2 (by have := hbel.size; simp; omega) (fun k hk => (hown.lt k hk).1)
              have hown3 : w2.ownsRow w.heap.size 5 1 v' (acc ++ [t[i]?.getD 0, t[i + 1]?.getD 0]).length (u8s (acc ++ [t[i]?.getD 0, t[i + 1]?.getD 0])) := by
                have hlen : (acc ++ [t[i]?.getD 0, t[i + 1]?.getD 0]).length = acc.length + 2 := by simp
                rw [← u8s_append, hlen]; exact hown2
              clear hgrow2 hown hown2
              go_wp2
              go_roundw
              case rel => exact ⟨i + 2, acc ++ [t[i]?.getD 0, t[i + 1]?.getD 0], by omega, by simp; omega, by go_num, HR2, HO2, hown3, hbel2⟩
              case measure => simp [intOf]; omega
    · have hown' : wr.ownsRow w.heap.size 5 1 u3 (prgAt t 0).length (u8s (prgAt t 0)) := by
        have e : prgAt t 0 = acc := by rw [← HR.out, prgAt_end t i (by have := H1.out; omega), List.append_nil]
        rw [e]; exact hown
      go_wp2
      go_ret
      exact ⟨_, rfl, hown', hbel⟩
end Go.Proofs.Qxb6603046a
