/-
  The callees of the seat's laws: zzIsOWS, zzAllOWS, TrimOWS.
-/
import Derived.Test.Qxb6629170aRows
import Derived.Test.Qxb6629170aPlain
import Derived.WalkKit
import Derived.WalkSpells
import Derived.Deep.QuietTactic
import Derived.BigQuiet
import Derived.OpenShut
namespace Go.Proofs.Qxb6629170a
open Go.RowKit
open Plain
set_option linter.unusedVariables false

/-- What the walk asks of a byte: the tests' own Bools. -/
theorem ows_tests {c : UInt8} (h : ows c = true) : ((c.toNat : Int) == 32) = true ∨ (((c.toNat : Int) == 32) = false ∧ ((c.toNat : Int) == 9) = true) := by
  rcases (ows_iff c).1 h with e | e
  · left; simpa using e
  · right; rw [e]; decide
theorem not_ows_tests {c : UInt8} (h : ows c = false) : ((c.toNat : Int) == 32) = false ∧ ((c.toNat : Int) == 9) = false := by
  have h' : ¬ ((c.toNat : Int) = 32 ∨ (c.toNat : Int) = 9) := fun e => by rw [(ows_iff c).2 e] at h; exact absurd h (by decide)
  constructor
  · rw [beq_eq_false_iff_ne]; exact fun e => h' (Or.inl e)
  · rw [beq_eq_false_iff_ne]; exact fun e => h' (Or.inr e)

theorem ows_any (c : UInt8) (b : Bool) (h : ows c = b) (w : World) :
    Calls Try.prog 7 #[.int .u8 (c.toNat : Int)] w fun e w' => e = .returned (.bool b) ∧ w' = w := by
  cases b with
  | true =>
    rcases ows_tests h with h1 | ⟨h1, h2⟩
    · clear h
      go_enter Try.func7, Try.ntmps7
      go_wp2
      go_ret
      exact ⟨rfl, rfl⟩
    · clear h
      go_enter Try.func7, Try.ntmps7
      go_wp2
      go_ret
      exact ⟨rfl, rfl⟩
  | false =>
    obtain ⟨h1, h2⟩ := not_ows_tests h
    clear h
    go_enter Try.func7, Try.ntmps7
    go_wp2
    go_ret
    exact ⟨rfl, rfl⟩

theorem ret_str {a b : ByteArray} (h : a = b) : Ending.returned (.string a) = .returned (.string b) := by rw [h]
theorem ret_bool {a b : Bool} (h : a = b) : Ending.returned (.bool a) = .returned (.bool b) := by rw [h]

set_option maxHeartbeats 400000 in
theorem all_any (s : ByteArray) (w : World) (hs : s.size ≤ maxLen) :
    Calls Try.prog 8 #[.string s] w fun e w' => e = .returned (.bool (allB s)) ∧ w' = w := by
  unfold maxLen at hs
  go_enter Try.func8, Try.ntmps8
  go_wp2
  go_loop [3] (fun i => ∃ k : Nat, k ≤ s.size ∧ i = .int .i64 k ∧ Hid (∀ j (h : j < s.size), j < k → ows s[j] = true)) (fun i => s.size - (intOf i).toNat)
  case atStart => exact ⟨0, Nat.zero_le _, rfl, fun j _ h => by omega⟩
  case round =>
    obtain ⟨k, hk, rfl, hp⟩ := hrel
    by_cases hlt : k < s.size
    · cases ho : ows s[k] with
      | true =>
        have HO : Hid (ows s[k] = true) := ho
        clear ho
        go_wp2_with (go_at_call 7; refine (ows_any _ true HO.out _).mono ?_; rintro e w' ⟨rfl, rfl⟩)
        go_round
        case rel =>
          refine ⟨k + 1, by omega, by go_num, fun j h hj => ?_⟩
          by_cases e : j = k
          · subst e; exact HO.out
          · exact hp.out j h (by omega)
        case measure => simp [intOf]; omega
      | false =>
        have HO : Hid (ows s[k] = false) := ho
        have HF : Hid (allB s = false) := allB_false hlt ho
        clear ho
        go_wp2_with (go_at_call 7; refine (ows_any _ false HO.out _).mono ?_; rintro e w' ⟨rfl, rfl⟩)
        go_ret
        exact ⟨ret_bool HF.out.symm, rfl⟩
    · have HF : Hid (allB s = true) := (allB_iff s).2 fun j h => hp.out j h (by omega)
      go_wp2
      go_ret
      exact ⟨ret_bool HF.out.symm, rfl⟩

/-- TrimOWS, of a string whose core is known. -/
theorem core_at {s : ByteArray} {a b : Nat} (h : Core s a b) : a = s.size ∧ b = s.size ∨ a < b := by
  have h1 := h.le
  have h2 := h.bd
  rcases h.mid with m | ⟨m, _⟩
  · left; omega
  · right; exact m

set_option maxHeartbeats 1000000 in
theorem trim_any (s : ByteArray) (a b : Nat) (hcore : Core s a b) (w : World) (hs : s.size ≤ maxLen) :
    Calls Try.prog 6 #[.string s] w fun e w' => e = .returned (.string (s.extract a b)) ∧ w' = w := by
  unfold maxLen at hs
  have hab := hcore.le
  have hbd := hcore.bd
  go_enter Try.func6, Try.ntmps6
  go_wp2
  go_loop [3] (fun x => ∃ k : Nat, k ≤ a ∧ x = .int .i64 k) (fun x => a - (intOf x).toNat)
  case atStart => exact ⟨0, Nat.zero_le _, rfl⟩
  case round =>
    obtain ⟨k, hk, rfl⟩ := hrel
    by_cases hlt : k < a
    · have hks : k < s.size := by omega
      have hks' : (k : Int) < (s.size : Int) := by omega
      rcases ows_tests (hcore.pre k hks hlt) with h1 | ⟨h1, h2⟩
      · go_wp2
        go_round
        case rel => exact ⟨k + 1, by omega, by go_num⟩
        case measure => simp [intOf]; omega
      · go_wp2
        go_round
        case rel => exact ⟨k + 1, by omega, by go_num⟩
        case measure => simp [intOf]; omega
    · obtain rfl : k = a := by omega
      rcases core_at hcore with ⟨ha, hb⟩ | hm
      · have hna : ¬ (k : Int) < (s.size : Int) := by omega
        have HB : Hid (b = s.size) := hb
        clear ha hb
        go_wp2
        go_loop [4] (fun x => x = .int .i64 s.size) (fun x => 0)
        case atStart => rfl
        case round =>
          subst hrel
          go_wp2
          go_ret
          exact ⟨ret_str (by rw [HB.out]), rfl⟩
      · have hks : k < s.size := by omega
        have hks' : (k : Int) < (s.size : Int) := by omega
        obtain ⟨h1, h2⟩ : ((s[k].toNat : Int) == 32) = false ∧ ((s[k].toNat : Int) == 9) = false := by
          rcases hcore.mid with m | ⟨_, m, _⟩
          · omega
          · exact not_ows_tests (m hks)
        go_wp2
        clear h1 h2
        go_loop [4] (fun x => ∃ m : Nat, b ≤ m ∧ m ≤ s.size ∧ x = .int .i64 m) (fun x => (intOf x).toNat - b)
        case atStart => exact ⟨s.size, hbd, Nat.le_refl _, rfl⟩
        case round =>
          obtain ⟨m, hm1, hm2, rfl⟩ := hrel
          obtain ⟨q, rfl⟩ : ∃ q, m = q + 1 := ⟨m - 1, by omega⟩
          have hq : q < s.size := by omega
          have hq' : (q : Int) < (s.size : Int) := by omega
          have hkq : (k : Int) < (q : Int) + 1 := by omega
          by_cases hlt : b < q + 1
          · rcases ows_tests (hcore.post q hq (by omega)) with h1 | ⟨h1, h2⟩
            · go_wp2
              go_round
              case rel => exact ⟨q, by omega, by omega, by go_num⟩
              case measure => simp [intOf]; omega
            · go_wp2
              go_round
              case rel => exact ⟨q, by omega, by omega, by go_num⟩
              case measure => simp [intOf]; omega
          · have HB : Hid (b = q + 1) := by show b = q + 1; omega
            obtain ⟨h1, h2⟩ : ((s[q].toNat : Int) == 32) = false ∧ ((s[q].toNat : Int) == 9) = false := by
              have e : b - 1 = q := by omega
              rcases hcore.mid with m | ⟨_, _, m⟩
              · omega
              · have := m (by omega)
                simp only [e] at this
                exact not_ows_tests this
            go_wp2
            go_ret
            exact ⟨ret_str (by rw [HB.out]), rfl⟩
end Go.Proofs.Qxb6629170a
