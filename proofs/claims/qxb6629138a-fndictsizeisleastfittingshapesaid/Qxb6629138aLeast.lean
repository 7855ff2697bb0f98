/-
  The walk of FnDictSizeIsLeastFittingShape.
-/
import Derived.Test.Qxb6629138aDict
import Derived.Test.Qxb6629138aPlain2
namespace Go.Proofs.Qxb6629138a
open Go.RowKit
open Plain
set_option linter.unusedVariables false

theorem dict_to {s l r : Int} (h : D s l = r) (w : World) (hl : l ≤ 1073741824) :
    Calls Try.prog 5 #[.int .i64 s, .int .i64 l] w fun e w' => e = .returned (.int .i64 r) ∧ w' = w := by
  subst h
  exact dict_any s l w hl

/-- zzIsPow2, of a number above zero. -/
theorem pow_any (x : Int) (b : Bool) (h : p2 x = b) (w : World) (h0 : 0 < x) (h1 : x ≤ 9223372036854775807) :
    Calls Try.prog 6 #[.int .i64 x] w fun e w' => e = .returned (.bool b) ∧ w' = w := by
  have hb : (bits .and .i64 x (x - 1) == 0) = b := by
    unfold p2 at h
    have : decide (0 < x) = true := by simpa using h0
    rw [this, Bool.true_and] at h
    exact h
  clear h
  go_enter Try.func6, Try.ntmps6
  go_wp2
  go_ret
  exact ⟨rfl, rfl⟩

theorem shape_pow (x : Int) (h : Hid (p2 x = true)) (w : World) (h0 : 4096 ≤ x) (h1 : x ≤ 1073741824) :
    Calls Try.prog 7 #[.int .i64 x] w fun e w' => e = .returned (.bool true) ∧ w' = w := by
  go_enter Try.func7, Try.ntmps7
  go_wp2_with fail
  refine (pow_any x true h.out _ (by omega) (by omega)).mono ?_
  rintro e w' ⟨rfl, rfl⟩
  go_wp2
  go_ret
  exact ⟨rfl, rfl⟩

theorem shape_half (x : Int) (h : Hid (p2 x = false)) (h3 : Hid (p2 (x / 3) = true)) (hm : (x % 3 == 0) = true) (hq : 2048 ≤ x / 3) (w : World) (h0 : 4096 ≤ x) (h1 : x ≤ 1073741824) :
    Calls Try.prog 7 #[.int .i64 x] w fun e w' => e = .returned (.bool true) ∧ w' = w := by
  go_enter Try.func7, Try.ntmps7
  go_wp2_with fail
  refine (pow_any x false h.out _ (by omega) (by omega)).mono ?_
  rintro e w' ⟨rfl, rfl⟩
  go_wp2_with fail
  refine (pow_any (x / 3) true h3.out _ (by omega) (by omega)).mono ?_
  rintro e w' ⟨rfl, rfl⟩
  go_wp2
  go_ret
  exact ⟨rfl, rfl⟩

theorem prev_pow (x : Int) (h : Hid (p2 x = true)) (w : World) (h0 : 4096 ≤ x) (h1 : x ≤ 1073741824) :
    Calls Try.prog 8 #[.int .i64 x] w fun e w' => e = .returned (.int .i64 (x / 4 * 3)) ∧ w' = w := by
  go_enter Try.func8, Try.ntmps8
  go_wp2_with fail
  refine (pow_any x true h.out _ (by omega) (by omega)).mono ?_
  rintro e w' ⟨rfl, rfl⟩
  go_wp2
  go_ret
  exact ⟨rfl, rfl⟩

theorem prev_half (x : Int) (h : Hid (p2 x = false)) (w : World) (h0 : 4096 ≤ x) (h1 : x ≤ 1073741824) :
    Calls Try.prog 8 #[.int .i64 x] w fun e w' => e = .returned (.int .i64 (x / 3 * 2)) ∧ w' = w := by
  go_enter Try.func8, Try.ntmps8
  go_wp2_with fail
  refine (pow_any x false h.out _ (by omega) (by omega)).mono ?_
  rintro e w' ⟨rfl, rfl⟩
  go_wp2
  go_ret
  exact ⟨rfl, rfl⟩

theorem least_out (s l : Int) (w : World) (h : l < 4096 ∨ 1073741824 < l) :
    Calls Try.prog 4 #[.int .i64 s, .int .i64 l] w fun e w' => e = .returned (.bool true) ∧ w' = w := by
  rcases h with h | h
  · go_enter Try.func4, Try.ntmps4
    go_wp2
    go_ret
    exact ⟨rfl, rfl⟩
  · have h' : ¬ l < 4096 := by omega
    go_enter Try.func4, Try.ntmps4
    go_wp2
    go_ret
    exact ⟨rfl, rfl⟩

theorem least_no (s l : Int) (w : World) (h1 : 4096 ≤ l) (h2 : l ≤ 1073741824) (h : Hid (p2 l = false)) :
    Calls Try.prog 4 #[.int .i64 s, .int .i64 l] w fun e w' => e = .returned (.bool true) ∧ w' = w := by
  have h1' : ¬ l < 4096 := by omega
  have h2' : ¬ 1073741824 < l := by omega
  go_enter Try.func4, Try.ntmps4
  go_wp2_with fail
  refine (pow_any l false h.out _ (by omega) (by omega)).mono ?_
  rintro e w' ⟨rfl, rfl⟩
  go_wp2
  go_ret
  exact ⟨rfl, rfl⟩

theorem least_above (s l : Int) (w : World) (h1 : 4096 ≤ l) (h2 : l ≤ 1073741824) (h : Hid (p2 l = true)) (hs : l < s) (HR : Hid (D s l = l)) (HF : Hid (D l l = l)) :
    Calls Try.prog 4 #[.int .i64 s, .int .i64 l] w fun e w' => e = .returned (.bool true) ∧ w' = w := by
  have h1' : ¬ l < 4096 := by omega
  have h2' : ¬ 1073741824 < l := by omega
  go_enter Try.func4, Try.ntmps4
  go_wp2_with fail
  refine (pow_any l true h.out _ (by omega) (by omega)).mono ?_
  rintro e w' ⟨rfl, rfl⟩
  go_wp2_with fail
  refine (dict_to HR.out _ h2).mono ?_
  rintro e w' ⟨rfl, rfl⟩
  go_wp2_with fail
  refine (dict_to HF.out _ h2).mono ?_
  rintro e w' ⟨rfl, rfl⟩
  go_wp2
  go_ret
  exact ⟨by simp, rfl⟩

/-- Within the limit, the answer a power of two. -/
theorem least_pow (s l r : Int) (w : World) (h1 : 4096 ≤ l) (h2 : l ≤ 1073741824) (h : Hid (p2 l = true)) (hs : ¬ l < s) (HR : Hid (D s l = r)) (HF : Hid (D r l = r))
    (r1 : 4096 ≤ r) (r2 : r ≤ l) (r3 : s ≤ r) (HP : Hid (p2 r = true)) (HL : r = 4096 ∨ r / 4 * 3 < s) :
    Calls Try.prog 4 #[.int .i64 s, .int .i64 l] w fun e w' => e = .returned (.bool true) ∧ w' = w := by
  have h1' : ¬ l < 4096 := by omega
  have h2' : ¬ 1073741824 < l := by omega
  have r2' : ¬ l < r := by omega
  have r3' : ¬ r < s := by omega
  have h3 : r ≤ 1073741824 := by omega
  by_cases c : r = 4096
  · have c' : (r != 4096) = false := by simp [c]
    clear c HL
    go_enter Try.func4, Try.ntmps4
    go_wp2_with fail
    refine (pow_any l true h.out _ (by omega) (by omega)).mono ?_
    rintro e w' ⟨rfl, rfl⟩
    go_wp2_with fail
    refine (dict_to HR.out _ h2).mono ?_
    rintro e w' ⟨rfl, rfl⟩
    go_wp2_with fail
    refine (dict_to HF.out _ h2).mono ?_
    rintro e w' ⟨rfl, rfl⟩
    go_wp2_with fail
    refine (shape_pow r HP _ r1 h3).mono ?_
    rintro e w' ⟨rfl, rfl⟩
    go_wp2
    go_ret
    exact ⟨rfl, rfl⟩
  · have c' : (r != 4096) = true := by simp [c]
    have hl : ¬ s ≤ r / 4 * 3 := by omega
    clear c HL
    go_enter Try.func4, Try.ntmps4
    go_wp2_with fail
    refine (pow_any l true h.out _ (by omega) (by omega)).mono ?_
    rintro e w' ⟨rfl, rfl⟩
    go_wp2_with fail
    refine (dict_to HR.out _ h2).mono ?_
    rintro e w' ⟨rfl, rfl⟩
    go_wp2_with fail
    refine (dict_to HF.out _ h2).mono ?_
    rintro e w' ⟨rfl, rfl⟩
    go_wp2_with fail
    refine (shape_pow r HP _ r1 h3).mono ?_
    rintro e w' ⟨rfl, rfl⟩
    go_wp2_with fail
    refine (prev_pow r HP _ r1 h3).mono ?_
    rintro e w' ⟨rfl, rfl⟩
    go_wp2
    go_ret
    exact ⟨rfl, rfl⟩

/-- Within the limit, the answer three halves of a power of two. -/
theorem least_half (s l r : Int) (w : World) (h1 : 4096 ≤ l) (h2 : l ≤ 1073741824) (h : Hid (p2 l = true)) (hs : ¬ l < s) (HR : Hid (D s l = r)) (HF : Hid (D r l = r))
    (r1 : 4096 ≤ r) (r2 : r ≤ l) (r3 : s ≤ r) (HP : Hid (p2 r = false)) (HP3 : Hid (p2 (r / 3) = true)) (hm : (r % 3 == 0) = true) (hq : 2048 ≤ r / 3) (HL : r / 3 * 2 < s) :
    Calls Try.prog 4 #[.int .i64 s, .int .i64 l] w fun e w' => e = .returned (.bool true) ∧ w' = w := by
  have h1' : ¬ l < 4096 := by omega
  have h2' : ¬ 1073741824 < l := by omega
  have r2' : ¬ l < r := by omega
  have r3' : ¬ r < s := by omega
  have h3 : r ≤ 1073741824 := by omega
  have c' : (r != 4096) = true := by
    have : r ≠ 4096 := fun e => by rw [e] at hm; exact absurd hm (by decide)
    simpa using this
  have hl : ¬ s ≤ r / 3 * 2 := by omega
  go_enter Try.func4, Try.ntmps4
  go_wp2_with fail
  refine (pow_any l true h.out _ (by omega) (by omega)).mono ?_
  rintro e w' ⟨rfl, rfl⟩
  go_wp2_with fail
  refine (dict_to HR.out _ h2).mono ?_
  rintro e w' ⟨rfl, rfl⟩
  go_wp2_with fail
  refine (dict_to HF.out _ h2).mono ?_
  rintro e w' ⟨rfl, rfl⟩
  go_wp2_with fail
  refine (shape_half r HP HP3 hm hq _ r1 h3).mono ?_
  rintro e w' ⟨rfl, rfl⟩
  go_wp2_with fail
  refine (prev_half r HP _ r1 h3).mono ?_
  rintro e w' ⟨rfl, rfl⟩
  go_wp2
  go_ret
  exact ⟨rfl, rfl⟩

theorem least_any (s l : Int) (ws : (Lit.int .i64 s).wf = true) (wl : (Lit.int .i64 l).wf = true) (w : World) :
    Calls Try.prog 4 #[.int .i64 s, .int .i64 l] w fun e w' => e = .returned (.bool true) ∧ Grown w w' := by
  have key : Calls Try.prog 4 #[.int .i64 s, .int .i64 l] w fun e w' => e = .returned (.bool true) ∧ w' = w := by
    by_cases c1 : l < 4096 ∨ 1073741824 < l
    · exact least_out s l w c1
    have h1 : 4096 ≤ l := by omega
    have h2 : l ≤ 1073741824 := by omega
    cases hp : p2 l with
    | false => exact least_no s l w h1 h2 hp
    | true =>
      obtain ⟨i1, i2, i3, i4, i5, i6⟩ := D_least (s := s) h1 h2 hp
      by_cases c2 : l < s
      · have e := i4 c2
        rw [e] at i3
        exact least_above s l w h1 h2 hp c2 e i3
      · rcases i6 with ⟨k1, k2⟩ | ⟨k1, k2, k3, k4, k5⟩
        · exact least_pow s l (D s l) w h1 h2 hp c2 rfl i3 i1 i2 (i5 (by omega)) k1 k2
        · exact least_half s l (D s l) w h1 h2 hp c2 rfl i3 i1 i2 (i5 (by omega)) k1 k2 (by simpa using k3) k4 k5
  refine key.mono fun e w' ⟨he, hw⟩ => ⟨he, ?_⟩
  subst hw
  exact Grown.refl _
end Go.Proofs.Qxb6629138a
