/-
  The walk of FnEqualFoldCaseFlipSymmetryAndCut.
-/
import Derived.Test.Qxb6629095aFlip
namespace Go.Proofs.Qxb6629095a
open Go.RowKit
open Plain
set_option linter.unusedVariables false

theorem below_step {w a b : World} (h : Below w.heap.size w a) (k : Below a.heap.size a b) : Below w.heap.size w b := h.trans (k.mono h.size)
theorem below_draws {w a b : World} (h : Below w.heap.size w a) (k : ∃ n, b = a.drewN n) : Below w.heap.size w b := by
  obtain ⟨n, rfl⟩ := k
  induction n with
  | zero => exact h
  | succ n ih => exact ⟨ih.os, ih.tape, ih.output, ih.size, ih.block⟩

theorem fold_is {s t : ByteArray} {b : Bool} (h : eqf s t = b) (w : World) (hs : s.size ≤ maxLen) :
    Calls Try.prog 6 #[.string s, .string t] w fun e w' => e = .returned (.bool b) ∧ ∃ n, w' = w.drewN n := by
  subst h
  exact fold_any s t w hs

theorem bytes_ok (s t : ByteArray) (k : Int) (w : World) (hs : s.size ≤ 65536) (ht : t.size ≤ 65536) :
    Calls Try.prog 5 #[.string s, .string t, .int .i64 k] w fun e w' => e = .returned (.bool true) ∧ w' = w := by
  have hsb : ¬ (1048576 : Int) < (s.size : Int) := by omega
  have htb : ¬ (1048576 : Int) < (t.size : Int) := by omega
  have hab : ¬ (1048576 : Int) < (s.size : Int) + (t.size : Int) := by omega
  go_enter Try.func5, Try.ntmps5
  go_wp2
  go_ret
  exact ⟨rfl, rfl⟩

set_option maxHeartbeats 1000000 in
theorem cut_sizes (s t : ByteArray) (k : Int) (w : World) (hs : s.size ≤ 65536) (ht : t.size ≤ 65536) (hst : ¬ s.size = t.size) :
    Calls Try.prog 3 #[.string s, .string t, .int .i64 k] w fun e w' => e = .returned (.bool true) ∧ Below w.heap.size w w' := by
  have hsg : ¬ (65536 : Int) < (s.size : Int) := by omega
  have htg : ¬ (65536 : Int) < (t.size : Int) := by omega
  have hf1 := eqf_flip_self s
  have hf2 := eqf_flip s t
  have hf3 := eqf_symm s t
  have hfs : Hid ((flip s).size = s.size) := size_flip s
  have hne : ((s.size : Int) != (t.size : Int)) = true := by simp; omega
  have hf4 := eqf_not_size hst
  clear hst
  go_enter Try.func3, Try.ntmps3
  go_wp2_with fail
  refine (bytes_ok s t _ _ hs ht).mono ?_
  rintro e w0 ⟨rfl, hw0⟩
  subst hw0
  go_wp2_with fail
  refine (fold_any s t _ (by unfold maxLen; omega)).mono ?_
  rintro e wa ⟨rfl, hwa⟩
  have hba : Hid (Below w0.heap.size w0 wa) := below_draws (Below.refl _ _) hwa
  clear hwa
  go_wp2_with fail
  refine (flip_any s _ hs).mono ?_
  rintro e wb ⟨rfl, hwb⟩
  have hbb : Hid (Below w0.heap.size w0 wb) := below_step hba.out hwb
  clear hwb hba
  go_wp2_with fail
  refine (fold_any s (flip s) _ (by unfold maxLen; omega)).mono ?_
  rintro e wc ⟨rfl, hwc⟩
  have hbc : Hid (Below w0.heap.size w0 wc) := below_draws hbb.out hwc
  clear hwc hbb
  go_wp2_with fail
  refine (fold_any (flip s) t _ (by have := hfs.out; unfold maxLen; omega)).mono ?_
  rintro e wd ⟨rfl, hwd⟩
  have hbd : Hid (Below w0.heap.size w0 wd) := below_draws hbc.out hwd
  clear hwd hbc
  go_wp2_with fail
  refine (fold_any t s _ (by unfold maxLen; omega)).mono ?_
  rintro e we ⟨rfl, hwe⟩
  have hbe : Hid (Below w0.heap.size w0 we) := below_draws hbd.out hwe
  clear hwe hbd
  go_wp2
  go_ret
  exact ⟨rfl, hbe.out⟩

set_option maxHeartbeats 1000000 in
theorem cut_outside (s t : ByteArray) (k : Int) (w : World) (hs : s.size ≤ 65536) (ht : t.size ≤ 65536) (hst : s.size = t.size) (hk : k < 0 ∨ (s.size : Int) < k) :
    Calls Try.prog 3 #[.string s, .string t, .int .i64 k] w fun e w' => e = .returned (.bool true) ∧ Below w.heap.size w w' := by
  have hsg : ¬ (65536 : Int) < (s.size : Int) := by omega
  have htg : ¬ (65536 : Int) < (t.size : Int) := by omega
  have hf1 := eqf_flip_self s
  have hf2 := eqf_flip s t
  have hf3 := eqf_symm s t
  have hfs : Hid ((flip s).size = s.size) := size_flip s
  have hne : ((s.size : Int) != (t.size : Int)) = false := by simp [hst]
  have HZ : Hid (s.size = t.size) := hst
  clear hst
  rcases hk with hk | hk
  · have hk0 : ¬ (0 : Int) ≤ k := by omega
    go_enter Try.func3, Try.ntmps3
    go_wp2_with fail
    refine (bytes_ok s t _ _ hs ht).mono ?_
    rintro e w0 ⟨rfl, hw0⟩
    subst hw0
    go_wp2_with fail
    refine (fold_any s t _ (by unfold maxLen; omega)).mono ?_
    rintro e wa ⟨rfl, hwa⟩
    have hba : Hid (Below w0.heap.size w0 wa) := below_draws (Below.refl _ _) hwa
    clear hwa
    go_wp2_with fail
    refine (flip_any s _ hs).mono ?_
    rintro e wb ⟨rfl, hwb⟩
    have hbb : Hid (Below w0.heap.size w0 wb) := below_step hba.out hwb
    clear hwb hba
    go_wp2_with fail
    refine (fold_any s (flip s) _ (by unfold maxLen; omega)).mono ?_
    rintro e wc ⟨rfl, hwc⟩
    have hbc : Hid (Below w0.heap.size w0 wc) := below_draws hbb.out hwc
    clear hwc hbb
    go_wp2_with fail
    refine (fold_any (flip s) t _ (by have := hfs.out; unfold maxLen; omega)).mono ?_
    rintro e wd ⟨rfl, hwd⟩
    have hbd : Hid (Below w0.heap.size w0 wd) := below_draws hbc.out hwd
    clear hwd hbc
    go_wp2_with fail
    refine (fold_any t s _ (by unfold maxLen; omega)).mono ?_
    rintro e we ⟨rfl, hwe⟩
    have hbe : Hid (Below w0.heap.size w0 we) := below_draws hbd.out hwe
    clear hwe hbd
    go_wp2
    go_ret
    exact ⟨rfl, hbe.out⟩
  · have hk0 : (0 : Int) ≤ k := by omega
    have hk1 : ¬ k ≤ (s.size : Int) := by omega
    go_enter Try.func3, Try.ntmps3
    go_wp2_with fail
    refine (bytes_ok s t _ _ hs ht).mono ?_
    rintro e w0 ⟨rfl, hw0⟩
    subst hw0
    go_wp2_with fail
    refine (fold_any s t _ (by unfold maxLen; omega)).mono ?_
    rintro e wa ⟨rfl, hwa⟩
    have hba : Hid (Below w0.heap.size w0 wa) := below_draws (Below.refl _ _) hwa
    clear hwa
    go_wp2_with fail
    refine (flip_any s _ hs).mono ?_
    rintro e wb ⟨rfl, hwb⟩
    have hbb : Hid (Below w0.heap.size w0 wb) := below_step hba.out hwb
    clear hwb hba
    go_wp2_with fail
    refine (fold_any s (flip s) _ (by unfold maxLen; omega)).mono ?_
    rintro e wc ⟨rfl, hwc⟩
    have hbc : Hid (Below w0.heap.size w0 wc) := below_draws hbb.out hwc
    clear hwc hbb
    go_wp2_with fail
    refine (fold_any (flip s) t _ (by have := hfs.out; unfold maxLen; omega)).mono ?_
    rintro e wd ⟨rfl, hwd⟩
    have hbd : Hid (Below w0.heap.size w0 wd) := below_draws hbc.out hwd
    clear hwd hbc
    go_wp2_with fail
    refine (fold_any t s _ (by unfold maxLen; omega)).mono ?_
    rintro e we ⟨rfl, hwe⟩
    have hbe : Hid (Below w0.heap.size w0 we) := below_draws hbd.out hwe
    clear hwe hbd
    go_wp2
    go_ret
    exact ⟨rfl, hbe.out⟩

set_option maxHeartbeats 1000000 in
theorem cut_part (s t : ByteArray) (kN : Nat) (w : World) (hs : s.size ≤ 65536) (ht : t.size ≤ 65536) (hst : s.size = t.size) (hk : kN ≤ s.size) :
    Calls Try.prog 3 #[.string s, .string t, .int .i64 (kN : Int)] w fun e w' => e = .returned (.bool true) ∧ Below w.heap.size w w' := by
  have hsg : ¬ (65536 : Int) < (s.size : Int) := by omega
  have htg : ¬ (65536 : Int) < (t.size : Int) := by omega
  have hf1 := eqf_flip_self s
  have hf2 := eqf_flip s t
  have hf3 := eqf_symm s t
  have hfs : Hid ((flip s).size = s.size) := size_flip s
  have hf4 : Hid (eqf s t = (eqf (s.extract 0 kN) (t.extract 0 kN) && eqf (s.extract kN s.size) (t.extract kN t.size))) := eqf_cut s t kN
  have hne : ((s.size : Int) != (t.size : Int)) = false := by simp [hst]
  have hk0 : (0 : Int) ≤ (kN : Int) := by omega
  have hk1 : (kN : Int) ≤ (s.size : Int) := by omega
  have hk2 : kN ≤ t.size := by omega
  have hk3 : (kN : Int) ≤ (t.size : Int) := by omega
  have HZ : Hid (s.size = t.size) := hst
  clear hst
  go_enter Try.func3, Try.ntmps3
  go_wp2_with fail
  refine (bytes_ok s t _ _ hs ht).mono ?_
  rintro e w0 ⟨rfl, hw0⟩
  subst hw0
  go_wp2_with fail
  refine (fold_any s t _ (by unfold maxLen; omega)).mono ?_
  rintro e wa ⟨rfl, hwa⟩
  have hba : Hid (Below w0.heap.size w0 wa) := below_draws (Below.refl _ _) hwa
  clear hwa
  go_wp2_with fail
  refine (flip_any s _ hs).mono ?_
  rintro e wb ⟨rfl, hwb⟩
  have hbb : Hid (Below w0.heap.size w0 wb) := below_step hba.out hwb
  clear hwb hba
  go_wp2_with fail
  refine (fold_any s (flip s) _ (by unfold maxLen; omega)).mono ?_
  rintro e wc ⟨rfl, hwc⟩
  have hbc : Hid (Below w0.heap.size w0 wc) := below_draws hbb.out hwc
  clear hwc hbb
  go_wp2_with fail
  refine (fold_any (flip s) t _ (by have := hfs.out; unfold maxLen; omega)).mono ?_
  rintro e wd ⟨rfl, hwd⟩
  have hbd : Hid (Below w0.heap.size w0 wd) := below_draws hbc.out hwd
  clear hwd hbc
  go_wp2_with fail
  refine (fold_any t s _ (by unfold maxLen; omega)).mono ?_
  rintro e we ⟨rfl, hwe⟩
  have hbe : Hid (Below w0.heap.size w0 we) := below_draws hbd.out hwe
  clear hwe hbd
  have hx1 : Hid ((s.extract 0 kN).size ≤ maxLen) := by show (s.extract 0 kN).size ≤ maxLen; rw [ByteArray.size_extract]; unfold maxLen; omega
  have hx2 : Hid ((s.extract kN s.size).size ≤ maxLen) := by show (s.extract kN s.size).size ≤ maxLen; rw [ByteArray.size_extract]; unfold maxLen; omega
  by_cases hg : eqf (s.extract 0 kN) (t.extract 0 kN) = true
  · have hg2 : eqf (s.extract kN s.size) (t.extract kN t.size) = eqf s t := by rw [hf4.out, hg]; rfl
    go_wp2_with fail
    go_quiet ((go_at_call 6; refine Calls.quiet_of (fold_any _ _ _ ?_); first | exact hx1.out | exact hx2.out))
    go_wp2
    go_ret
    exact ⟨rfl, below_draws hbe.out ⟨_, rfl⟩⟩
  · have hg1 : eqf (s.extract 0 kN) (t.extract 0 kN) = false := by simpa using hg
    have hg2 : eqf s t = false := by rw [hf4.out, hg1]; rfl
    have HG : Hid (eqf (s.extract 0 kN) (t.extract 0 kN) = false) := hg1
    clear hg hg1
    go_wp2_with fail
    go_quiet ((go_at_call 6; exact Calls.quiet_of (fold_is HG.out _ hx1.out)))
    go_wp2
    go_ret
    exact ⟨rfl, below_draws hbe.out ⟨_, rfl⟩⟩

theorem cut_big (s t : ByteArray) (k : Int) (w : World) (hs : s.size ≤ maxLen) (ht : t.size ≤ maxLen) (h : 65536 < s.size ∨ 65536 < t.size) :
    Calls Try.prog 3 #[.string s, .string t, .int .i64 k] w fun e w' => e = .returned (.bool true) ∧ Below w.heap.size w w' := by
  unfold maxLen at hs ht
  by_cases h1 : 65536 < s.size
  · have h1' : (65536 : Int) < (s.size : Int) := by omega
    clear h h1
    go_enter Try.func3, Try.ntmps3
    go_wp2
    all_goals go_ret
    all_goals exact ⟨rfl, Below.refl _ _⟩
  · have h1' : ¬ (65536 : Int) < (s.size : Int) := by omega
    have h2' : (65536 : Int) < (t.size : Int) := by omega
    clear h h1
    go_enter Try.func3, Try.ntmps3
    go_wp2
    all_goals go_ret
    all_goals exact ⟨rfl, Below.refl _ _⟩

theorem cut_any (s t : ByteArray) (k : Int) (hs : s.size ≤ maxLen) (ht : t.size ≤ maxLen) (_wk : (Lit.int .i64 k).wf = true) (w : World) :
    Calls Try.prog 3 #[.string s, .string t, .int .i64 k] w fun e w' => e = .returned (.bool true) ∧ Below w.heap.size w w' := by
  by_cases h1 : 65536 < s.size ∨ 65536 < t.size
  · exact cut_big s t k w hs ht h1
  by_cases h2 : s.size = t.size
  · by_cases h3 : k < 0 ∨ (s.size : Int) < k
    · exact cut_outside s t k w (by omega) (by omega) h2 h3
    · obtain ⟨kN, rfl⟩ := Int.eq_ofNat_of_zero_le (show 0 ≤ k by omega)
      exact cut_part s t kN w (by omega) (by omega) h2 (by omega)
  · exact cut_sizes s t k w (by omega) (by omega) h2
end Go.Proofs.Qxb6629095a
