/-
  The walk of FnTrimOWSAbsorbsExtraPadding.
-/
import Derived.Test.Qxb6629170aTrim
namespace Go.Proofs.Qxb6629170a
open Go.RowKit
open Plain
set_option linter.unusedVariables false

theorem trim_to {s r : ByteArray} {a b : Nat} (hcore : Core s a b) (hr : s.extract a b = r) (w : World) (hs : s.size ≤ maxLen) :
    Calls Try.prog 6 #[.string s] w fun e w' => e = .returned (.string r) ∧ w' = w := by
  subst hr
  exact trim_any s a b hcore w hs

theorem all_to {s : ByteArray} {v : Bool} (h : allB s = v) (w : World) (hs : s.size ≤ maxLen) :
    Calls Try.prog 8 #[.string s] w fun e w' => e = .returned (.bool v) ∧ w' = w := by
  subst h
  exact all_any s w hs

theorem total_ok (s u v : ByteArray) (w : World) (h : s.size + u.size + v.size ≤ 1048576) :
    Calls Try.prog 9 #[.string s, .string u, .string v] w fun e w' => e = .returned (.bool true) ∧ w' = w := by
  have h1 : ¬ (1048576 : Int) < (s.size : Int) := by omega
  have h2 : ¬ (1048576 : Int) < (u.size : Int) := by omega
  have h3 : ¬ (1048576 : Int) < (s.size : Int) + (u.size : Int) := by omega
  have h4 : ¬ (1048576 : Int) < (v.size : Int) := by omega
  have h5 : ¬ (1048576 : Int) < (s.size : Int) + (u.size : Int) + (v.size : Int) := by omega
  clear h
  go_enter Try.func9, Try.ntmps9
  go_wp2
  go_ret
  exact ⟨rfl, rfl⟩

theorem pad_big (s u v : ByteArray) (w : World) (hs : s.size ≤ maxLen) (hu : u.size ≤ maxLen) (hv : v.size ≤ maxLen) (h : ¬ s.size + u.size + v.size ≤ 1048576) :
    Calls Try.prog 4 #[.string s, .string u, .string v] w fun e w' => e = .returned (.bool true) ∧ w' = w := by
  unfold maxLen at hs hu hv
  have h5 : (1048576 : Int) < (s.size : Int) + (u.size : Int) + (v.size : Int) := by omega
  clear h
  have key : Calls Try.prog 9 #[.string s, .string u, .string v] w fun e w' => e = .returned (.bool false) ∧ w' = w := by
    go_enter Try.func9, Try.ntmps9
    go_wp2
    all_goals go_ret
    all_goals exact ⟨rfl, rfl⟩
  have K : Hid (Calls Try.prog 9 #[.string s, .string u, .string v] w fun e w' => e = .returned (.bool false) ∧ w' = w) := key
  clear key
  go_enter Try.func4, Try.ntmps4
  go_wp2_with fail
  refine K.out.mono ?_
  rintro e w' ⟨rfl, hw⟩
  subst hw
  go_wp2
  go_ret
  exact ⟨rfl, rfl⟩

set_option maxHeartbeats 1000000 in
/-- The padding is no padding. -/
theorem pad_none (s u v : ByteArray) (w : World) (h : s.size + u.size + v.size ≤ 1048576) (hp : allB u = false ∨ (allB u = true ∧ allB v = false)) :
    Calls Try.prog 4 #[.string s, .string u, .string v] w fun e w' => e = .returned (.bool true) ∧ w' = w := by
  have h1 : ¬ (1048576 : Int) < (s.size : Int) := by omega
  have h2 : ¬ (1048576 : Int) - (s.size : Int) < (u.size : Int) := by omega
  have h3 : ¬ (1048576 : Int) - ((s.size : Int) + (u.size : Int)) < (v.size : Int) := by omega
  rcases hp with hp | ⟨hp, hq⟩
  · have HP : Hid (allB u = false) := hp
    clear hp
    go_enter Try.func4, Try.ntmps4
    go_wp2_with fail
    refine (total_ok s u v _ h).mono ?_
    rintro e w0 ⟨rfl, hw⟩
    subst hw
    go_wp2_with fail
    refine (all_to HP.out _ (by unfold maxLen; omega)).mono ?_
    rintro e w1 ⟨rfl, hw⟩
    subst hw
    go_wp2
    go_ret
    exact ⟨rfl, rfl⟩
  · have HP : Hid (allB u = true) := hp
    have HQ : Hid (allB v = false) := hq
    clear hp hq
    go_enter Try.func4, Try.ntmps4
    go_wp2_with fail
    refine (total_ok s u v _ h).mono ?_
    rintro e w0 ⟨rfl, hw⟩
    subst hw
    go_wp2_with fail
    refine (all_to HP.out _ (by unfold maxLen; omega)).mono ?_
    rintro e w1 ⟨rfl, hw⟩
    subst hw
    go_wp2_with fail
    refine (all_to HQ.out _ (by unfold maxLen; omega)).mono ?_
    rintro e w2 ⟨rfl, hw⟩
    subst hw
    go_wp2
    go_ret
    exact ⟨rfl, rfl⟩

set_option maxHeartbeats 1000000 in
/-- The padding is padding; s is empty. -/
theorem pad_empty (s u v r : ByteArray) (a b c d : Nat) (w : World) (h : s.size + u.size + v.size ≤ 1048576) (HP : Hid (allB u = true)) (HQ : Hid (allB v = true))
    (hc : Core s a b) (hd : Core (u ++ s ++ v) c d) (HR : Hid (s.extract a b = r)) (HR2 : Hid ((u ++ s ++ v).extract c d = r)) (h0 : ¬ (0 : Int) < (s.size : Int)) :
    Calls Try.prog 4 #[.string s, .string u, .string v] w fun e w' => e = .returned (.bool true) ∧ w' = w := by
  have h1 : ¬ (1048576 : Int) < (s.size : Int) := by omega
  have h2 : ¬ (1048576 : Int) - (s.size : Int) < (u.size : Int) := by omega
  have h3 : ¬ (1048576 : Int) - ((s.size : Int) + (u.size : Int)) < (v.size : Int) := by omega
  have h4 : u.size + s.size ≤ 2097152 := by omega
  have h5 : u.size + s.size + v.size ≤ 2097152 := by omega
  go_enter Try.func4, Try.ntmps4
  go_wp2_with fail
  refine (total_ok s u v _ h).mono ?_
  rintro e w0 ⟨rfl, hw⟩
  subst hw
  go_wp2_with fail
  refine (all_to HP.out _ (by unfold maxLen; omega)).mono ?_
  rintro e w1 ⟨rfl, hw⟩
  subst hw
  go_wp2_with fail
  refine (all_to HQ.out _ (by unfold maxLen; omega)).mono ?_
  rintro e w2 ⟨rfl, hw⟩
  subst hw
  go_wp2_with fail
  refine (trim_to hd HR2.out _ (by rw [ByteArray.size_append, ByteArray.size_append]; unfold maxLen; omega)).mono ?_
  rintro e w3 ⟨rfl, hw⟩
  subst hw
  go_wp2_with fail
  refine (trim_to hc HR.out _ (by unfold maxLen; omega)).mono ?_
  rintro e w4 ⟨rfl, hw⟩
  subst hw
  go_wp2
  go_ret
  exact ⟨rfl, rfl⟩

set_option maxHeartbeats 1000000 in
/-- s begins with a blank or a tab. -/
theorem pad_first (s u v r : ByteArray) (a b c d : Nat) (w : World) (h : s.size + u.size + v.size ≤ 1048576) (HP : Hid (allB u = true)) (HQ : Hid (allB v = true))
    (hc : Core s a b) (hd : Core (u ++ s ++ v) c d) (HR : Hid (s.extract a b = r)) (HR2 : Hid ((u ++ s ++ v).extract c d = r)) (h0 : 0 < s.size) (H1 : Hid (ows s[0] = true)) :
    Calls Try.prog 4 #[.string s, .string u, .string v] w fun e w' => e = .returned (.bool true) ∧ w' = w := by
  have h1 : ¬ (1048576 : Int) < (s.size : Int) := by omega
  have h2 : ¬ (1048576 : Int) - (s.size : Int) < (u.size : Int) := by omega
  have h3 : ¬ (1048576 : Int) - ((s.size : Int) + (u.size : Int)) < (v.size : Int) := by omega
  have h4 : u.size + s.size ≤ 2097152 := by omega
  have h5 : u.size + s.size + v.size ≤ 2097152 := by omega
  have h0' : (0 : Int) < (s.size : Int) := by omega
  go_enter Try.func4, Try.ntmps4
  go_wp2_with fail
  refine (total_ok s u v _ h).mono ?_
  rintro e w0 ⟨rfl, hw⟩
  subst hw
  go_wp2_with fail
  refine (all_to HP.out _ (by unfold maxLen; omega)).mono ?_
  rintro e w1 ⟨rfl, hw⟩
  subst hw
  go_wp2_with fail
  refine (all_to HQ.out _ (by unfold maxLen; omega)).mono ?_
  rintro e w2 ⟨rfl, hw⟩
  subst hw
  go_wp2_with fail
  refine (trim_to hd HR2.out _ (by rw [ByteArray.size_append, ByteArray.size_append]; unfold maxLen; omega)).mono ?_
  rintro e w3 ⟨rfl, hw⟩
  subst hw
  go_wp2_with fail
  refine (trim_to hc HR.out _ (by unfold maxLen; omega)).mono ?_
  rintro e w4 ⟨rfl, hw⟩
  subst hw
  go_wp2_with fail
  refine (ows_any _ true H1.out _).mono ?_
  rintro e w5 ⟨rfl, hw⟩
  subst hw
  go_wp2
  go_ret
  exact ⟨rfl, rfl⟩

set_option maxHeartbeats 1000000 in
/-- s ends with one. -/
theorem pad_last (s u v r : ByteArray) (a b c d : Nat) (w : World) (h : s.size + u.size + v.size ≤ 1048576) (HP : Hid (allB u = true)) (HQ : Hid (allB v = true))
    (hc : Core s a b) (hd : Core (u ++ s ++ v) c d) (HR : Hid (s.extract a b = r)) (HR2 : Hid ((u ++ s ++ v).extract c d = r)) (h0 : 0 < s.size) (H1 : Hid (ows s[0] = false)) (H2 : Hid (ows (s[s.size - 1]'(by omega)) = true)) :
    Calls Try.prog 4 #[.string s, .string u, .string v] w fun e w' => e = .returned (.bool true) ∧ w' = w := by
  have h1 : ¬ (1048576 : Int) < (s.size : Int) := by omega
  have h2 : ¬ (1048576 : Int) - (s.size : Int) < (u.size : Int) := by omega
  have h3 : ¬ (1048576 : Int) - ((s.size : Int) + (u.size : Int)) < (v.size : Int) := by omega
  have h4 : u.size + s.size ≤ 2097152 := by omega
  have h5 : u.size + s.size + v.size ≤ 2097152 := by omega
  have h0' : (0 : Int) < (s.size : Int) := by omega
  go_enter Try.func4, Try.ntmps4
  go_wp2_with fail
  refine (total_ok s u v _ h).mono ?_
  rintro e w0 ⟨rfl, hw⟩
  subst hw
  go_wp2_with fail
  refine (all_to HP.out _ (by unfold maxLen; omega)).mono ?_
  rintro e w1 ⟨rfl, hw⟩
  subst hw
  go_wp2_with fail
  refine (all_to HQ.out _ (by unfold maxLen; omega)).mono ?_
  rintro e w2 ⟨rfl, hw⟩
  subst hw
  go_wp2_with fail
  refine (trim_to hd HR2.out _ (by rw [ByteArray.size_append, ByteArray.size_append]; unfold maxLen; omega)).mono ?_
  rintro e w3 ⟨rfl, hw⟩
  subst hw
  go_wp2_with fail
  refine (trim_to hc HR.out _ (by unfold maxLen; omega)).mono ?_
  rintro e w4 ⟨rfl, hw⟩
  subst hw
  go_wp2_with fail
  refine (ows_any _ false H1.out _).mono ?_
  rintro e w5 ⟨rfl, hw⟩
  subst hw
  go_wp2_with fail
  refine (ows_any _ true H2.out _).mono ?_
  rintro e w6 ⟨rfl, hw⟩
  subst hw
  go_wp2
  go_ret
  exact ⟨rfl, rfl⟩

set_option maxHeartbeats 1000000 in
/-- s is bare at both ends: then r is s. -/
theorem pad_bare (s u v r : ByteArray) (a b c d : Nat) (w : World) (h : s.size + u.size + v.size ≤ 1048576) (HP : Hid (allB u = true)) (HQ : Hid (allB v = true))
    (hc : Core s a b) (hd : Core (u ++ s ++ v) c d) (HR : Hid (s.extract a b = r)) (HR2 : Hid ((u ++ s ++ v).extract c d = r)) (h0 : 0 < s.size) (H1 : Hid (ows s[0] = false)) (H2 : Hid (ows (s[s.size - 1]'(by omega)) = false)) (hrs : (r.toList == s.toList) = true) :
    Calls Try.prog 4 #[.string s, .string u, .string v] w fun e w' => e = .returned (.bool true) ∧ w' = w := by
  have h1 : ¬ (1048576 : Int) < (s.size : Int) := by omega
  have h2 : ¬ (1048576 : Int) - (s.size : Int) < (u.size : Int) := by omega
  have h3 : ¬ (1048576 : Int) - ((s.size : Int) + (u.size : Int)) < (v.size : Int) := by omega
  have h4 : u.size + s.size ≤ 2097152 := by omega
  have h5 : u.size + s.size + v.size ≤ 2097152 := by omega
  have h0' : (0 : Int) < (s.size : Int) := by omega
  go_enter Try.func4, Try.ntmps4
  go_wp2_with fail
  refine (total_ok s u v _ h).mono ?_
  rintro e w0 ⟨rfl, hw⟩
  subst hw
  go_wp2_with fail
  refine (all_to HP.out _ (by unfold maxLen; omega)).mono ?_
  rintro e w1 ⟨rfl, hw⟩
  subst hw
  go_wp2_with fail
  refine (all_to HQ.out _ (by unfold maxLen; omega)).mono ?_
  rintro e w2 ⟨rfl, hw⟩
  subst hw
  go_wp2_with fail
  refine (trim_to hd HR2.out _ (by rw [ByteArray.size_append, ByteArray.size_append]; unfold maxLen; omega)).mono ?_
  rintro e w3 ⟨rfl, hw⟩
  subst hw
  go_wp2_with fail
  refine (trim_to hc HR.out _ (by unfold maxLen; omega)).mono ?_
  rintro e w4 ⟨rfl, hw⟩
  subst hw
  go_wp2_with fail
  refine (ows_any _ false H1.out _).mono ?_
  rintro e w5 ⟨rfl, hw⟩
  subst hw
  go_wp2_with fail
  refine (ows_any _ false H2.out _).mono ?_
  rintro e w6 ⟨rfl, hw⟩
  subst hw
  go_wp2
  go_ret
  exact ⟨rfl, rfl⟩

theorem pad_main (s u v : ByteArray) (w : World) (h : s.size + u.size + v.size ≤ 1048576) (hp : allB u = true) (hq : allB v = true) :
    Calls Try.prog 4 #[.string s, .string u, .string v] w fun e w' => e = .returned (.bool true) ∧ w' = w := by
  obtain ⟨a, b, hc⟩ := exists_core s
  obtain ⟨c, d, hd, he⟩ : ∃ c d, Core (u ++ s ++ v) c d ∧ (u ++ s ++ v).extract c d = s.extract a b := by
    by_cases hab : a < b
    · exact ⟨_, _, hc.padded hp hq hab, extract_padded s u v a b hc.bd⟩
    · refine ⟨_, _, hc.padded_empty hp hq hab, ?_⟩
      rw [ByteArray.extract_same]
      have := hc.le
      exact (ByteArray.extract_eq_empty_iff.2 (by omega)).symm
  by_cases h0 : 0 < s.size
  · cases e1 : ows s[0] with
    | true => exact pad_first s u v _ a b c d w h hp hq hc hd rfl he h0 e1
    | false =>
      cases e2 : ows (s[s.size - 1]'(by omega)) with
      | true => exact pad_last s u v _ a b c d w h hp hq hc hd rfl he h0 e1 e2
      | false => exact pad_bare s u v _ a b c d w h hp hq hc hd rfl he h0 e1 e2 (by rw [hc.bare h0 e1 e2]; simp)
  · exact pad_empty s u v _ a b c d w h hp hq hc hd rfl he (by omega)

theorem pad_any (s u v : ByteArray) (hs : s.size ≤ maxLen) (hu : u.size ≤ maxLen) (hv : v.size ≤ maxLen) (w : World) :
    Calls Try.prog 4 #[.string s, .string u, .string v] w fun e w' => e = .returned (.bool true) ∧ Grown w w' := by
  have key : Calls Try.prog 4 #[.string s, .string u, .string v] w fun e w' => e = .returned (.bool true) ∧ w' = w := by
    by_cases h : s.size + u.size + v.size ≤ 1048576
    · cases hp : allB u with
      | false => exact pad_none s u v w h (Or.inl hp)
      | true =>
        cases hq : allB v with
        | false => exact pad_none s u v w h (Or.inr ⟨hp, hq⟩)
        | true => exact pad_main s u v w h hp hq
    · exact pad_big s u v w hs hu hv h
  refine key.mono fun e w' ⟨he, hw⟩ => ⟨he, ?_⟩
  subst hw
  exact Grown.refl _
end Go.Proofs.Qxb6629170a
