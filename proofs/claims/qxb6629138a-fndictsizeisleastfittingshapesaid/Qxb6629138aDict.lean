/-
  DictSize: its contract.
-/
import Derived.Test.Qxb6629138aRows
import Derived.Test.Qxb6629138aPlain
import Derived.WalkKit
import Derived.WalkSpells
import Derived.OpenShut
namespace Go.Proofs.Qxb6629138a
open Go.RowKit
open Plain
set_option linter.unusedVariables false

theorem ret_int {k : IntKind} {a b : Int} (h : a = b) : Ending.returned (.int k a) = .returned (.int k b) := by rw [h]

theorem pw_le {f : Nat} {d : Int} (h0 : 0 ≤ d) (h : Hid (pw d f = 1073741824)) : d ≤ 1073741824 := by
  have := pw_ge f d h0
  have e := h.out
  omega

set_option maxHeartbeats 400000 in
theorem dict_any (s l : Int) (w : World) (hl : l ≤ 1073741824) :
    Calls Try.prog 5 #[.int .i64 s, .int .i64 l] w fun e w' => e = .returned (.int .i64 (D s l)) ∧ w' = w := by
  go_enter Try.func5, Try.ntmps5
  go_wp2
  go_loop [5] (fun x => ∃ (f : Nat) (d : Int), x = .int .i64 d ∧ 4096 ≤ d ∧ Hid (pw d f = 1073741824) ∧ Hid (dict s l f d = D s l)) (fun x => (1073741824 - intOf x).toNat)
  case atStart => exact ⟨18, 4096, rfl, by decide, rfl, rfl⟩
  case round =>
    obtain ⟨f, d, rfl, hd, hp, hr⟩ := hrel
    have hd2 := pw_le (by omega) hp
    by_cases c : d < l
    · cases f with
      | zero => exact absurd hp.out (by rw [pw]; omega)
      | succ f =>
        by_cases c1 : s ≤ d
        · have HR : Hid (d = D s l) := by have := hr.out; rw [dict_first c c1] at this; exact this
          go_wp2
          go_ret
          exact ⟨ret_int HR.out, rfl⟩
        · by_cases c2 : s ≤ d + d / 2
          · have HR : Hid (d + d / 2 = D s l) := by have := hr.out; rw [dict_second c c1 c2] at this; exact this
            go_wp2
            go_ret
            exact ⟨ret_int HR.out, rfl⟩
          · have HR : Hid (dict s l f (d * 2) = D s l) := by have := hr.out; rw [dict_next c c1 c2] at this; exact this
            have HP : Hid (pw (d * 2) f = 1073741824) := hp
            go_wp2
            go_round
            case rel => exact ⟨f, d * 2, rfl, by omega, HP, HR⟩
            case measure => simp [intOf]; omega
    · have HR : Hid (l = D s l) := by have := hr.out; rw [dict_out c] at this; exact this
      go_wp2
      go_ret
      exact ⟨ret_int HR.out, rfl⟩
end Go.Proofs.Qxb6629138a
