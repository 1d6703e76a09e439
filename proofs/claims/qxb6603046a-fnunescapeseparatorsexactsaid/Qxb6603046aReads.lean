import Derived.Test.Qxb6603046aRows
import Derived.Test.Qxb6603046aPlain
import Derived.WalkKit
import Derived.WalkSpells
import Derived.WalkLawsBesides
import Derived.Deep.QuietTactic
import Derived.BigQuiet
namespace Go.Proofs.Qxb6603046a
open Go.RowKit

/-- What the walks are told of a slice of bytes: its first n cells hold t. (Of a slice of no byte: nothing.) -/
def Lies (w : World) (a : Option Addr) (b off n : Nat) (t : List Int) : Prop :=
  t.length = n ∧ ∀ i, i < n → a = some ⟨b, off, none⟩ ∧ w.cell? ⟨b, off + i, none⟩ = some (.int .u8 (t.getD i 0))

theorem ret_bool {a b : Bool} (h : a = b) : Ending.returned (.bool a) = .returned (.bool b) := by rw [h]

theorem trail_step {t : List Int} {n k : Nat} (hk : k < n) (h : (t[n - 1 - k]?.getD 0 == 92) = true) (HR : runTo t n = runTo t (n - k) + k) : runTo t n = runTo t (n - (k + 1)) + (k + 1) := by
  have h' : t.getD (n - 1 - k) 0 = 92 := by simpa [List.getD_eq_getElem?_getD] using h
  rw [HR, show n - k = (n - 1 - k) + 1 from by omega, runTo_hit h', show n - (k + 1) = n - 1 - k from by omega]; omega
theorem trail_odd {t : List Int} {n k : Nat} (h0 : runTo t (n - k) = 0) (HR : runTo t n = runTo t (n - k) + k) : ((k : Int) % 2 == 1) = oddTo t n := by
  unfold oddTo
  rw [HR, h0, Bool.eq_iff_iff]; simp; omega
theorem trail_stop {t : List Int} {n k : Nat} (hk : k < n) (h : (t[n - 1 - k]?.getD 0 == 92) = false) (HR : runTo t n = runTo t (n - k) + k) : ((k : Int) % 2 == 1) = oddTo t n := by
  have h' : ¬ t.getD (n - 1 - k) 0 = 92 := by simpa [List.getD_eq_getElem?_getD] using h
  exact trail_odd (by rw [show n - k = (n - 1 - k) + 1 from by omega, runTo_miss h']) HR
theorem trail_end {t : List Int} {n k : Nat} (hk : ¬ k < n) (HR : runTo t n = runTo t (n - k) + k) : ((k : Int) % 2 == 1) = oddTo t n :=
  trail_odd (by rw [show n - k = 0 from by omega]; rfl) HR

set_option maxHeartbeats 400000 in
theorem trailing_any (a : Option Addr) (b off n c : Nat) (t : List Int) (w : World) (hl : Lies w a b off n t) (hn : n ≤ 1048576) :
    Calls Try.prog 14 #[.slice a n c] w fun e w' => e = .returned (.bool (oddTo t n)) ∧ w' = w := by
  obtain ⟨_, hc⟩ := hl
  go_enter Try.func14, Try.ntmps14
  go_wp2
  go_loop [3, 4] (fun ct j => ∃ k : Nat, k ≤ n ∧ ct = .int .i64 k ∧ j = .int .i64 ((n : Int) - 1 - k) ∧ Hid (runTo t n = runTo t (n - k) + k)) (fun ct _ => n - (intOf ct).toNat)
  case atStart => exact ⟨0, Nat.zero_le _, rfl, by go_num, (by simp : runTo t n = runTo t (n - 0) + 0)⟩
  case round =>
    obtain ⟨k, hk, rfl, rfl, HR⟩ := hrel
    by_cases hlt : k < n
    · obtain ⟨ha, hcell⟩ := hc (n - 1 - k) (by omega)
      go_wp2
      · go_round
        case rel => exact ⟨k + 1, by omega, by go_num, by go_num, trail_step hlt ‹_› HR.out⟩
        case measure => simp [intOf]; omega
      · go_ret
        exact ⟨ret_bool (trail_stop hlt ‹_› HR.out), rfl⟩
    · go_wp2
      go_ret
      exact ⟨ret_bool (trail_end hlt HR.out), rfl⟩

theorem run_step {t : List Int} {n k : Nat} (hk : k < n + 1) (h : (t[n - k]?.getD 0 == 92) = true) (HR : runTo t (n + 1) = runTo t (n + 1 - k) + k) : runTo t (n + 1) = runTo t (n + 1 - (k + 1)) + (k + 1) :=
  trail_step hk (by rw [show n + 1 - 1 - k = n - k from by omega]; exact h) HR
theorem run_stop {t : List Int} {n k : Nat} (hk : k < n + 1) (h : (t[n - k]?.getD 0 == 92) = false) (HR : runTo t (n + 1) = runTo t (n + 1 - k) + k) : ((k : Int) % 2 == 1) = oddTo t (n + 1) :=
  trail_stop hk (by rw [show n + 1 - 1 - k = n - k from by omega]; exact h) HR

set_option maxHeartbeats 400000 in
theorem oddRun_any (a : Option Addr) (b off n c : Nat) (t : List Int) (w : World) (hl : Lies w a b off n t) (hn : n ≤ 1048576) (i : Nat) (hi : i < n) :
    Calls Try.prog 23 #[.slice a n c, .int .i64 i] w fun e w' => e = .returned (.bool (oddTo t (i + 1))) ∧ w' = w := by
  obtain ⟨_, hc⟩ := hl
  go_enter Try.func23, Try.ntmps23
  go_wp2
  go_loop [5, 6] (fun ct j => ∃ k : Nat, k ≤ i + 1 ∧ ct = .int .i64 k ∧ j = .int .i64 ((i : Int) - k) ∧ Hid (runTo t (i + 1) = runTo t (i + 1 - k) + k)) (fun ct _ => i + 1 - (intOf ct).toNat)
  case atStart => exact ⟨0, Nat.zero_le _, rfl, by go_num, (by simp : runTo t (i + 1) = runTo t (i + 1 - 0) + 0)⟩
  case round =>
    obtain ⟨k, hk, rfl, rfl, HR⟩ := hrel
    by_cases hlt : k < i + 1
    · obtain ⟨ha, hcell⟩ := hc (i - k) (by omega)
      go_wp2
      · go_round
        case rel => exact ⟨k + 1, by omega, by go_num, by go_num, run_step hlt ‹_› HR.out⟩
        case measure => simp [intOf]; omega
      · go_ret
        exact ⟨ret_bool (run_stop hlt ‹_› HR.out), rfl⟩
    · go_wp2
      go_ret
      exact ⟨ret_bool (trail_end hlt HR.out), rfl⟩

end Go.Proofs.Qxb6603046a
