/-
  The walk of FnTrimOWSIsTheCoreBetweenPadding.
-/
import Derived.Test.Qxb6629170aTrim
namespace Go.Proofs.Qxb6629170a
open Go.RowKit
open Plain
set_option linter.unusedVariables false

theorem trim_is {s r : ByteArray} {a b : Nat} (hcore : Core s a b) (hr : s.extract a b = r) (w : World) (hs : s.size ≤ maxLen) :
    Calls Try.prog 6 #[.string s] w fun e w' => e = .returned (.string r) ∧ w' = w := by
  subst hr
  exact trim_any s a b hcore w hs

theorem all_is {s : ByteArray} {v : Bool} (h : allB s = v) (w : World) (hs : s.size ≤ maxLen) :
    Calls Try.prog 8 #[.string s] w fun e w' => e = .returned (.bool v) ∧ w' = w := by
  subst h
  exact all_any s w hs

theorem bytes_ok (s : ByteArray) (w : World) (hs : s.size ≤ 1048576) :
    Calls Try.prog 5 #[.string s] w fun e w' => e = .returned (.bool true) ∧ w' = w := by
  have hsb : ¬ (1048576 : Int) < (s.size : Int) := by omega
  go_enter Try.func5, Try.ntmps5
  go_wp2
  go_ret
  exact ⟨rfl, rfl⟩

theorem grown_draws {w w' : World} (h : ∃ n, w' = w.drewN n) : Grown w w' := by
  obtain ⟨n, rfl⟩ := h
  induction n with
  | zero => exact Grown.refl _
  | succ n ih => exact ih

theorem drewN_more {w wr : World} (h : Hid (∃ n, wr = w.drewN n)) (m : Nat) : Hid (∃ n, wr.drewN m = w.drewN n) := by
  obtain ⟨n, rfl⟩ := h.out
  exact ⟨n + m, by rw [World.drewN_drewN]⟩

theorem core_big (s : ByteArray) (w : World) (hs : s.size ≤ maxLen) (h : 1048576 < s.size) :
    Calls Try.prog 3 #[.string s] w fun e w' => e = .returned (.bool true) ∧ Grown w w' := by
  unfold maxLen at hs
  have h' : (1048576 : Int) < (s.size : Int) := by omega
  clear h
  go_enter Try.func3, Try.ntmps3
  go_wp2
  all_goals go_ret
  all_goals exact ⟨rfl, Grown.refl _⟩

set_option maxHeartbeats 1000000 in
/-- Blanks and tabs alone. -/
theorem core_blank (s : ByteArray) (w : World) (hs : s.size ≤ 1048576) (hcore : Core s s.size s.size) :
    Calls Try.prog 3 #[.string s] w fun e w' => e = .returned (.bool true) ∧ Grown w w' := by
  have hsg : ¬ (1048576 : Int) < (s.size : Int) := by omega
  have hr : Hid (s.extract s.size s.size = ByteArray.empty) := ByteArray.extract_same
  have hall : Hid (allB s = true) := (allB_iff s).2 fun j h => hcore.pre j h h
  have hself : Hid (Core ByteArray.empty 0 0) := ⟨Nat.le_refl _, Nat.le_refl _, fun j h _ => absurd h (Nat.not_lt_zero _), fun j h _ => absurd h (Nat.not_lt_zero _), Or.inl rfl⟩
  have hrr : Hid (ByteArray.empty.extract 0 0 = ByteArray.empty) := ByteArray.extract_same
  go_enter Try.func3, Try.ntmps3
  go_wp2_with fail
  refine (bytes_ok s _ hs).mono ?_
  rintro e w0 ⟨rfl, hw0⟩
  subst hw0
  go_wp2_with fail
  refine (trim_is hcore hr.out _ (by unfold maxLen; omega)).mono ?_
  rintro e w1 ⟨rfl, hw1⟩
  subst hw1
  have hneg : ¬ (s.size : Int) < 0 := by omega
  have hneg' : (0 : Int) ≤ (s.size : Int) := by omega
  go_wp2_with fail
  go_loopw [5, 6] (fun f k wr => f = .bool false ∧ k = .int .i64 0 ∧ wr = w1) (fun _ _ _ => 0)
  case atStart => exact ⟨rfl, rfl, rfl⟩
  case round =>
    obtain ⟨rfl, rfl, rfl⟩ := hrel
    go_wp2_with fail
    go_quiet (fail)
    go_wp2_with fail
    refine (all_is hall.out _ (by unfold maxLen; omega)).mono ?_
    rintro e w2 ⟨rfl, hw2⟩
    subst hw2
    go_wp2_with fail
    refine (trim_is hself.out hrr.out _ (by unfold maxLen; decide)).mono ?_
    rintro e w3 ⟨rfl, hw3⟩
    subst hw3
    go_wp2
    go_ret
    exact ⟨by simp, grown_draws ⟨_, rfl⟩⟩

set_option maxHeartbeats 1000000 in
/-- A core that is not empty: r, from a on. -/
theorem core_mid (s r : ByteArray) (a b : Nat) (w : World) (hs : s.size ≤ 1048576) (hcore : Core s a b) (hab : a < b) (hr : Hid (s.extract a b = r)) :
    Calls Try.prog 3 #[.string s] w fun e w' => e = .returned (.bool true) ∧ Grown w w' := by
  have hbd := hcore.bd
  have hsg : ¬ (1048576 : Int) < (s.size : Int) := by omega
  have hlen : Hid (r.size = b - a) := by show r.size = b - a; rw [← hr.out, ByteArray.size_extract]; omega
  have hpos : 0 < r.size := by have := hlen.out; omega
  have hpos' : (0 : Int) < (r.size : Int) := by omega
  have hfit : a + r.size ≤ s.size := by have := hlen.out; omega
  have hfit' : (a : Int) + (r.size : Int) ≤ (s.size : Int) := by omega
  have hle : ¬ (s.size : Int) < (r.size : Int) := by omega
  have hz : ((r.size : Int) == 0) = false := by rw [beq_eq_false_iff_ne]; omega
  have hself : Hid (Core r 0 r.size) := by
    have h1 := hcore.self hab
    rw [hr.out] at h1
    rw [← hlen.out] at h1
    exact h1
  have hrr : Hid (r.extract 0 r.size = r) := ByteArray.extract_zero_size
  have hr0 : Hid (ows r[0] = false) := by
    rcases hself.out.mid with m | ⟨_, m, _⟩
    · omega
    · exact m hpos
  have hr1 : Hid (ows (r[r.size - 1]'(by omega)) = false) := by
    rcases hself.out.mid with m | ⟨_, _, m⟩
    · omega
    · exact m (by omega)
  go_enter Try.func3, Try.ntmps3
  go_wp2_with fail
  refine (bytes_ok s _ hs).mono ?_
  rintro e w0 ⟨rfl, hw0⟩
  subst hw0
  go_wp2_with fail
  refine (trim_is hcore hr.out _ (by unfold maxLen; omega)).mono ?_
  rintro e w1 ⟨rfl, hw1⟩
  subst hw1
  go_wp2_with fail
  refine (ows_any _ false hr0.out _).mono ?_
  rintro e w2 ⟨rfl, hw2⟩
  subst hw2
  go_wp2_with fail
  refine (ows_any _ false hr1.out _).mono ?_
  rintro e w3 ⟨rfl, hw3⟩
  subst hw3
  go_wp2_with fail
  go_loopw [5, 6] (fun f x wr => ∃ k : Nat, k ≤ a ∧ f = .bool false ∧ x = .int .i64 k ∧ Hid (∃ n, wr = w3.drewN n)) (fun _ x _ => a - (intOf x).toNat)
  case atStart => exact ⟨0, Nat.zero_le _, rfl, rfl, 0, rfl⟩
  case round =>
    obtain ⟨k, hk, rfl, rfl, hw⟩ := hrel
    have hks : k < s.size := by omega
    have hks' : (k : Int) < (s.size : Int) := by omega
    have hkf : (k : Int) + (r.size : Int) ≤ (s.size : Int) := by omega
    by_cases hlt : k < a
    · have hok : Hid (ows s[k] = true) := hcore.pre k hks hlt
      have hne : ((s[k].toNat : Int) == (r[0].toNat : Int)) = false := by
        rw [beq_eq_false_iff_ne]
        intro e
        have e' : s[k] = r[0] := UInt8.toNat_inj.1 (by omega)
        have h1 := hok.out
        rw [e', hr0.out] at h1
        exact absurd h1 (by decide)
      go_wp2_with fail
      go_quiet (fail)
      go_wp2_with fail
      refine (ows_any _ true hok.out _).mono ?_
      rintro e w4 ⟨rfl, hw4⟩
      subst hw4
      go_wp2
      go_roundw
      case rel => exact ⟨k + 1, by omega, rfl, by go_num, drewN_more hw _⟩
      case measure => simp [intOf]; omega
    · obtain rfl : k = a := by omega
      have heq : ((s[k].toNat : Int) == (r[0].toNat : Int)) = true := by
        have e : r[0] = s[k] := by
          have e1 : r[0] = (s.extract k b)[0]'(by rw [ByteArray.size_extract]; omega) := by simp only [hr.out]
          rw [e1, ByteArray.getElem_extract]
          rfl
        rw [e]; simp
      have hx : s.extract k (k + r.size) = r := by
        have e : k + r.size = b := by have := hlen.out; omega
        rw [e]; exact hr.out
      have hrest : Hid (allB (s.extract (k + r.size) s.size) = true) := by
        have e : k + r.size = b := by have := hlen.out; omega
        rw [e]; exact hcore.rest
      go_wp2_with fail
      go_quiet (fail)
      go_wp2_with fail
      refine (all_is hrest.out _ (by rw [ByteArray.size_extract]; unfold maxLen; omega)).mono ?_
      rintro e w4 ⟨rfl, hw4⟩
      subst hw4
      go_wp2_with fail
      refine (trim_is hself.out hrr.out _ (by unfold maxLen; omega)).mono ?_
      rintro e w5 ⟨rfl, hw5⟩
      subst hw5
      go_wp2
      go_ret
      exact ⟨by simp, grown_draws (drewN_more hw _)⟩

theorem core_any (s : ByteArray) (hs : s.size ≤ maxLen) (w : World) :
    Calls Try.prog 3 #[.string s] w fun e w' => e = .returned (.bool true) ∧ Grown w w' := by
  by_cases h : 1048576 < s.size
  · exact core_big s w hs h
  obtain ⟨a, b, hcore⟩ := exists_core s
  rcases core_at hcore with ⟨ha, hb⟩ | hm
  · subst ha
    subst hb
    exact core_blank s w (by omega) hcore
  · exact core_mid s _ a b w (by omega) hcore hm rfl
end Go.Proofs.Qxb6629170a
