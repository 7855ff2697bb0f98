/-
  The walk of FnDictSizeHalvesWithItsArguments.
-/
import Derived.Test.Qxb6629138aDict
namespace Go.Proofs.Qxb6629138a
open Go.RowKit
open Plain
set_option linter.unusedVariables false

theorem dict_is {s l r : Int} (h : D s l = r) (w : World) (hl : l ≤ 1073741824) :
    Calls Try.prog 5 #[.int .i64 s, .int .i64 l] w fun e w' => e = .returned (.int .i64 r) ∧ w' = w := by
  subst h
  exact dict_any s l w hl

theorem half_big (s l : Int) (w : World) (hl : 1073741824 < l) :
    Calls Try.prog 3 #[.int .i64 s, .int .i64 l] w fun e w' => e = .returned (.bool true) ∧ w' = w := by
  go_enter Try.func3, Try.ntmps3
  go_wp2
  go_ret
  exact ⟨rfl, rfl⟩

theorem half_low (s l : Int) (w : World) (hl : l ≤ 1073741824) (hs : s ≤ 6144) :
    Calls Try.prog 3 #[.int .i64 s, .int .i64 l] w fun e w' => e = .returned (.bool true) ∧ w' = w := by
  by_cases h1 : l ≤ 4096
  · have hd : Hid (D s l = l) := D_small h1
    go_enter Try.func3, Try.ntmps3
    go_wp2_with (go_at_call 5; refine (dict_is hd.out _ (by omega)).mono ?_; rintro e w' ⟨rfl, rfl⟩)
    go_ret
    exact ⟨by simp, rfl⟩
  · by_cases h2 : s ≤ 4096
    · have hd : Hid (D s l = 4096) := D_4096 (by omega) h2
      go_enter Try.func3, Try.ntmps3
      go_wp2_with (go_at_call 5; refine (dict_is hd.out _ (by omega)).mono ?_; rintro e w' ⟨rfl, rfl⟩)
      go_ret
      exact ⟨by simp, rfl⟩
    · have hd : Hid (D s l = 6144) := D_6144 (by omega) h2 hs
      go_enter Try.func3, Try.ntmps3
      go_wp2_with (go_at_call 5; refine (dict_is hd.out _ (by omega)).mono ?_; rintro e w' ⟨rfl, rfl⟩)
      go_ret
      exact ⟨by simp, rfl⟩

theorem tmod_odd {l : Int} (h : l % 2 = 1) : (l.tmod 2 != 0) = true := by
  have : l.tmod 2 ≠ 0 := fun h' => by
    have := Int.emod_eq_zero_of_dvd (Int.dvd_of_tmod_eq_zero h')
    omega
  simpa using this
theorem tmod_even {l : Int} (h : l % 2 = 0) : (l.tmod 2 != 0) = false := by
  have : l.tmod 2 = 0 := Int.tmod_eq_zero_of_dvd (Int.dvd_of_emod_eq_zero h)
  simpa using this

set_option maxHeartbeats 1000000 in
theorem odd_walk (s l r r1 : Int) (w : World) (hl : l ≤ 1073741824) (hl1 : l + 1 ≤ 1073741824) (hlo : -9223372036854775808 ≤ l) (hs : ¬ s ≤ 6144) (hodd : (l.tmod 2 != 0) = true)
    (HR : Hid (D s l = r)) (HR1 : Hid (D s (l + 1) = r1)) (b1 b2 b3 b4 : Bool) (hb1 : decide (s ≤ r) = b1) (hb2 : (r == l) = b2) (hb3 : (r == r1) = b3) (hb4 : (r1 == l + 1) = b4)
    (hc : b1 = true ∨ b2 = true) (ho : b3 = true ∨ (b2 = true ∧ b4 = true)) :
    Calls Try.prog 3 #[.int .i64 s, .int .i64 l] w fun e w' => e = .returned (.bool true) ∧ w' = w := by
  cases b1 <;> cases b2 <;> cases b3 <;> cases b4 <;> simp at hc ho
  all_goals
    clear hc ho
    go_enter Try.func3, Try.ntmps3
    go_wp2_with fail
    refine (dict_is HR.out _ hl).mono ?_
    rintro e w' ⟨rfl, rfl⟩
    go_wp2_with fail
    refine (dict_is HR1.out _ hl1).mono ?_
    rintro e w' ⟨rfl, rfl⟩
    go_wp2
    go_ret
    exact ⟨rfl, rfl⟩

theorem half_odd (s l : Int) (w : World) (hl : l ≤ 1073741824) (hlo : -9223372036854775808 ≤ l) (hs : ¬ s ≤ 6144) (hodd : l % 2 = 1) :
    Calls Try.prog 3 #[.int .i64 s, .int .i64 l] w fun e w' => e = .returned (.bool true) ∧ w' = w := by
  refine odd_walk s l (D s l) (D s (l + 1)) w hl (by omega) hlo hs (tmod_odd hodd) rfl rfl _ _ _ _ rfl rfl rfl rfl ?_ ?_
  · simpa using D_covers s l
  · simpa using D_odd (s := s) hodd

set_option maxHeartbeats 1000000 in
theorem even_walk (s l r m h : Int) (w : World) (hl : l ≤ 1073741824) (hll : -9223372036854775808 ≤ l) (hm : m ≤ 1073741824) (hs : ¬ s ≤ 6144) (hs1 : s ≤ 9223372036854775807) (heven : (l.tmod 2 != 0) = false)
    (hhalf : Hid (l.tdiv 2 = m)) (HR : Hid (D s l = r)) (HH : Hid (D (s / 2 + s % 2) m = h)) (hlo : -9223372036854775808 ≤ 2 * h) (hhi : h ≤ 1610612736) (b1 b2 : Bool) (hb1 : decide (s ≤ r) = b1) (hb2 : (r == l) = b2) (hr : (r == 2 * h) = true)
    (hc : b1 = true ∨ b2 = true) :
    Calls Try.prog 3 #[.int .i64 s, .int .i64 l] w fun e w' => e = .returned (.bool true) ∧ w' = w := by
  cases b1 <;> cases b2 <;> simp at hc
  all_goals
    clear hc
    go_enter Try.func3, Try.ntmps3
    go_wp2_with fail
    refine (dict_is HR.out _ hl).mono ?_
    rintro e w' ⟨rfl, rfl⟩
    go_wp2_with fail
    rw [hhalf.out]
    refine (dict_is HH.out _ hm).mono ?_
    rintro e w' ⟨rfl, rfl⟩
    go_wp2
    go_ret
    exact ⟨rfl, rfl⟩

theorem half_even (s l : Int) (w : World) (hl : l ≤ 1073741824) (hlo : -9223372036854775808 ≤ l) (hs : ¬ s ≤ 6144) (hs1 : s ≤ 9223372036854775807) (heven : l % 2 = 0) :
    Calls Try.prog 3 #[.int .i64 s, .int .i64 l] w fun e w' => e = .returned (.bool true) ∧ w' = w := by
  obtain ⟨m, rfl⟩ : ∃ m, l = 2 * m := ⟨l / 2, by omega⟩
  have hd := D_half (s := s) (h := s / 2 + s % 2) (m := m) rfl hl (by omega) (by omega) (by omega)
  have hb := D_bd (s := s) hlo hl
  refine even_walk s (2 * m) (D s (2 * m)) m (D (s / 2 + s % 2) m) w hl hlo (by omega) hs hs1 (tmod_even heven) (Int.mul_tdiv_cancel_left m (by decide)) rfl rfl (by omega) (by omega) _ _ rfl rfl (by simpa using hd) ?_
  simpa using D_covers s (2 * m)

theorem half_any (s l : Int) (ws : (Lit.int .i64 s).wf = true) (wl : (Lit.int .i64 l).wf = true) (w : World) :
    Calls Try.prog 3 #[.int .i64 s, .int .i64 l] w fun e w' => e = .returned (.bool true) ∧ Grown w w' := by
  have h1 := bounds_i64 ws
  have h2 := bounds_i64 wl
  have key : Calls Try.prog 3 #[.int .i64 s, .int .i64 l] w fun e w' => e = .returned (.bool true) ∧ w' = w := by
    by_cases c1 : 1073741824 < l
    · exact half_big s l w c1
    by_cases c2 : s ≤ 6144
    · exact half_low s l w (by omega) c2
    by_cases c3 : l % 2 = 1
    · exact half_odd s l w (by omega) (by omega) c2 c3
    · exact half_even s l w (by omega) (by omega) c2 (by omega) (by omega)
  refine key.mono fun e w' ⟨he, hw⟩ => ⟨he, ?_⟩
  subst hw
  exact Grown.refl _
end Go.Proofs.Qxb6629138a
