/-
  The callees of the seat's laws: lower, EqualFold, the two bounds on length.
-/
import Derived.Test.Qxb6629095aRows
import Derived.Test.Qxb6629095aPlain
import Derived.WalkKit
import Derived.WalkSpells
import Derived.Deep.QuietTactic
import Derived.BigQuiet
namespace Go.Proofs.Qxb6629095a
open Go.RowKit
open Plain

theorem lower_any (n : Int) (h0 : 0 ≤ n) (h1 : n ≤ 255) (w : World) :
    Calls Try.prog 9 #[.int .u8 n] w fun e w' => e = .returned (.int .u8 (low n)) ∧ w' = w := by
  by_cases h : 65 ≤ n ∧ n ≤ 90
  · have hl : low n = n + 32 := by unfold low; rw [if_pos h]
    rw [hl]; clear hl
    obtain ⟨ha, hb⟩ := h
    go_enter Try.func9, Try.ntmps9
    go_wp2
    go_ret
    exact ⟨by go_num, rfl⟩
  · have hl : low n = n := by unfold low; rw [if_neg h]
    rw [hl]; clear hl
    by_cases ha : 65 ≤ n
    · have hb : ¬ n ≤ 90 := fun hb => h ⟨ha, hb⟩
      clear h
      go_enter Try.func9, Try.ntmps9
      go_wp2
      go_ret
      exact ⟨rfl, rfl⟩
    · clear h
      go_enter Try.func9, Try.ntmps9
      go_wp2
      go_ret
      exact ⟨rfl, rfl⟩

theorem ret_bool {a b : Bool} (h : a = b) : Ending.returned (.bool a) = .returned (.bool b) := by rw [h]
theorem drewN_more {w wr : World} (h : Hid (∃ n, wr = w.drewN n)) (m : Nat) : Hid (∃ n, wr.drewN m = w.drewN n) := by
  obtain ⟨n, rfl⟩ := h.out
  exact ⟨n + m, by rw [World.drewN_drewN]⟩

set_option maxHeartbeats 400000 in
theorem fold_any (s t : ByteArray) (w : World) (hs : s.size ≤ maxLen) :
    Calls Try.prog 6 #[.string s, .string t] w fun e w' => e = .returned (.bool (eqf s t)) ∧ ∃ n, w' = w.drewN n := by
  unfold maxLen at hs
  by_cases hsz : s.size = t.size
  · have hne : ((s.size : Int) != (t.size : Int)) = false := by simp [hsz]
    have HZ : Hid (s.size = t.size) := hsz
    clear hsz
    go_enter Try.func6, Try.ntmps6
    go_wp2
    go_loopw [13] (fun i wr => ∃ k : Nat, k ≤ s.size ∧ i = .int .i64 k ∧ Hid ((s.data.toList.take k).map lowB = (t.data.toList.take k).map lowB) ∧ Hid (∃ n, wr = w.drewN n)) (fun i _ => s.size - (intOf i).toNat)
    case atStart => exact ⟨0, Nat.zero_le _, rfl, rfl, 0, rfl⟩
    case round =>
      obtain ⟨k, hk, rfl, hp, hw⟩ := hrel
      by_cases hlt : k < s.size
      · have hlt' : k < t.size := by have := HZ.out; omega
        have b1 : (s[k].toNat : Int) ≤ 255 := by have := s[k].toNat_lt; omega
        have b2 : (t[k].toNat : Int) ≤ 255 := by have := t[k].toNat_lt; omega
        by_cases he : low (s[k].toNat : Int) = low (t[k].toNat : Int)
        · have hb : (low (s[k].toNat : Int) != low (t[k].toNat : Int)) = false := by simp [he]
          have HE : Hid ((s.data.toList.take (k + 1)).map lowB = (t.data.toList.take (k + 1)).map lowB) := fold_step hlt hlt' hp.out he
          clear he hp
          go_wp2
          go_quiet ((go_at_call 9; exact Calls.quiet_of_same (lower_any _ (by omega) (by omega) _)))
          go_wp2
          go_roundw
          case rel => exact ⟨k + 1, by omega, by go_num, HE, drewN_more hw _⟩
          case measure => simp [intOf]; omega
        · have hb : (low (s[k].toNat : Int) != low (t[k].toNat : Int)) = true := by simpa using he
          have HF : Hid (eqf s t = false) := eqf_stop hlt hlt' he
          clear he
          go_wp2
          go_quiet ((go_at_call 9; exact Calls.quiet_of_same (lower_any _ (by omega) (by omega) _)))
          go_wp2
          go_ret
          exact ⟨ret_bool HF.out.symm, drewN_more hw _⟩
      · obtain rfl : k = s.size := by omega
        have HF : Hid (eqf s t = true) := eqf_of_take HZ.out hp.out
        go_wp2
        go_ret
        exact ⟨ret_bool HF.out.symm, hw⟩
  · have hne : ((s.size : Int) != (t.size : Int)) = true := by simp; omega
    rw [eqf_not_size hsz]
    go_enter Try.func6, Try.ntmps6
    go_wp2
    go_ret
    exact ⟨rfl, 0, rfl⟩
end Go.Proofs.Qxb6629095a
