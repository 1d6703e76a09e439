import Derived.Test.Qxb6603046aReads
namespace Go.Proofs.Qxb6603046a
open Go.RowKit

theorem eq_step {t1 t2 : List Int} {n k : Nat} (h1 : t1.length = n) (h2 : t2.length = n) (hk : k < n) (h : (t1[k]?.getD 0 != t2[k]?.getD 0) = false) (H : t1.take k = t2.take k) : t1.take (k + 1) = t2.take (k + 1) := by
  have e1 : k < t1.length := by omega
  have e2 : k < t2.length := by omega
  have h' : t1[k] = t2[k] := by simpa [e1, e2] using h
  rw [List.take_succ_eq_append_getElem e1, List.take_succ_eq_append_getElem e2, H, h']
theorem eq_stop {t1 t2 : List Int} {k : Nat} (h : (t1[k]?.getD 0 != t2[k]?.getD 0) = true) : false = decide (t1 = t2) := by
  symm; apply decide_eq_false
  rintro rfl
  simp at h
theorem eq_end {t1 t2 : List Int} {n k : Nat} (h1 : t1.length = n) (h2 : t2.length = n) (hk : ¬ k < n) (H : t1.take k = t2.take k) : true = decide (t1 = t2) := by
  symm; apply decide_eq_true
  rwa [List.take_of_length_le (by omega), List.take_of_length_le (by omega)] at H
theorem eq_len {t1 t2 : List Int} {n m : Nat} (h1 : t1.length = n) (h2 : t2.length = m) (hk : ¬ n = m) : false = decide (t1 = t2) := by
  symm; apply decide_eq_false
  rintro rfl
  omega

set_option maxHeartbeats 400000 in
theorem equal_any (a1 : Option Addr) (b1 o1 n c1 : Nat) (t1 : List Int) (a2 : Option Addr) (b2 o2 m c2 : Nat) (t2 : List Int) (w : World)
    (hl1 : Lies w a1 b1 o1 n t1) (hl2 : Lies w a2 b2 o2 m t2) (hn : n ≤ 1048576) :
    Calls Try.prog 17 #[.slice a1 n c1, .slice a2 m c2] w fun e w' => e = .returned (.bool (decide (t1 = t2))) ∧ ∃ q, w' = w.drewN q := by
  obtain ⟨ht1, hc1⟩ := hl1
  obtain ⟨ht2, hc2⟩ := hl2
  have H1 : Hid (t1.length = n) := ht1
  have H2 : Hid (t2.length = m) := ht2
  clear ht1 ht2
  by_cases hnm : n = m
  · subst hnm
    go_enter Try.func17, Try.ntmps17
    go_wp2
    go_loopw [5] (fun j wr => ∃ k : Nat, k ≤ n ∧ j = .int .i64 k ∧ (∃ q, wr = w.drewN q) ∧ Hid (t1.take k = t2.take k)) (fun j _ => n - (intOf j).toNat)
    case atStart => exact ⟨0, Nat.zero_le _, rfl, ⟨0, rfl⟩, (rfl : t1.take 0 = t2.take 0)⟩
    case round =>
      obtain ⟨k, hk, rfl, ⟨q, rfl⟩, HR⟩ := hrel
      by_cases hlt : k < n
      · obtain ⟨ha1, hcell1⟩ := hc1 k hlt
        obtain ⟨ha2, hcell2⟩ := hc2 k hlt
        have hi : (k : Int) < (n : Int) := by omega
        go_wp2
        go_quiet (fail)
        go_wp2
        · go_ret
          exact ⟨ret_bool (eq_stop ‹_›), ⟨_, World.drewN_drewN ..⟩⟩
        · go_roundw
          case rel => exact ⟨k + 1, by omega, by go_num, ⟨_, rfl⟩, eq_step H1.out H2.out hlt ‹_› HR.out⟩
          case measure => simp [intOf]; omega
      · go_wp2
        go_ret
        exact ⟨ret_bool (eq_end H1.out H2.out hlt HR.out), ⟨_, rfl⟩⟩
  · have hne : ((n : Int) != (m : Int)) = true := by simp; omega
    go_enter Try.func17, Try.ntmps17
    go_wp2
    go_ret
    exact ⟨ret_bool (eq_len H1.out H2.out hnm), ⟨0, rfl⟩⟩

end Go.Proofs.Qxb6603046a
