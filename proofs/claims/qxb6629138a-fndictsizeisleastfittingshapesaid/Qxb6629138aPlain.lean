/-
  The plain mathematics of DictSize. No Go in sight.
-/
namespace Go.Proofs.Qxb6629138a.Plain

/-- What DictSize's loop gives from d on, with at most f rounds. -/
def dict (size limit : Int) : Nat → Int → Int
  | 0, _ => limit
  | f + 1, d => if d < limit then (if size ≤ d then d else if size ≤ d + d / 2 then d + d / 2 else dict size limit f (d * 2)) else limit

def D (size limit : Int) : Int := dict size limit 18 4096

theorem dict_zero (s l d : Int) : dict s l 0 d = l := rfl
theorem dict_out {s l d : Int} (h : ¬ d < l) (f : Nat) : dict s l f d = l := by
  cases f with
  | zero => rfl
  | succ f => rw [dict, if_neg h]
theorem dict_first {s l d : Int} (h : d < l) (h1 : s ≤ d) (f : Nat) : dict s l (f + 1) d = d := by
  rw [dict, if_pos h, if_pos h1]
theorem dict_second {s l d : Int} (h : d < l) (h1 : ¬ s ≤ d) (h2 : s ≤ d + d / 2) (f : Nat) : dict s l (f + 1) d = d + d / 2 := by
  rw [dict, if_pos h, if_neg h1, if_pos h2]
theorem dict_next {s l d : Int} (h : d < l) (h1 : ¬ s ≤ d) (h2 : ¬ s ≤ d + d / 2) (f : Nat) : dict s l (f + 1) d = dict s l f (d * 2) := by
  rw [dict, if_pos h, if_neg h1, if_neg h2]

/-! ### The bound on the rounds -/
/-- d, doubled m times. -/
def pw (d : Int) : Nat → Int
  | 0 => d
  | m + 1 => pw (d * 2) m
theorem pw_ge : ∀ (m : Nat) (d : Int), 0 ≤ d → d ≤ pw d m
  | 0, d, _ => Int.le_refl _
  | m + 1, d, h => by have := pw_ge m (d * 2) (by omega); rw [pw]; omega
theorem pw_succ : ∀ (m : Nat) (d : Int), pw d (m + 1) = pw d m * 2
  | 0, _ => rfl
  | m + 1, d => by rw [pw, pw_succ m (d * 2)]; rfl

/-- Fuel beyond what is wanted changes nothing. -/
theorem dict_fuel {s l : Int} : ∀ (f : Nat) (d : Int), 0 ≤ d → l ≤ pw d f → dict s l (f + 1) d = dict s l f d
  | 0, d, _, h => by rw [dict_zero]; exact dict_out (by rw [pw] at h; omega) _
  | f + 1, d, h0, h => by
    by_cases c : d < l
    · by_cases c1 : s ≤ d
      · rw [dict_first c c1, dict_first c c1]
      · by_cases c2 : s ≤ d + d / 2
        · rw [dict_second c c1 c2, dict_second c c1 c2]
        · rw [dict_next c c1 c2, dict_next c c1 c2]
          exact dict_fuel f (d * 2) (by omega) h
    · rw [dict_out c, dict_out c]

/-! ### The first law -/
theorem covers {s l : Int} : ∀ (f : Nat) (d : Int), s ≤ dict s l f d ∨ dict s l f d = l
  | 0, _ => Or.inr rfl
  | f + 1, d => by
    by_cases c : d < l
    · by_cases c1 : s ≤ d
      · rw [dict_first c c1]; exact Or.inl c1
      · by_cases c2 : s ≤ d + d / 2
        · rw [dict_second c c1 c2]; exact Or.inl c2
        · rw [dict_next c c1 c2]; exact covers f _
    · exact Or.inr (dict_out c _)

theorem odd_limit {s l : Int} (hl : l % 2 = 1) : ∀ (f : Nat) (d : Int), d % 2 = 0 → dict s l f d = dict s (l + 1) f d ∨ (dict s l f d = l ∧ dict s (l + 1) f d = l + 1)
  | 0, _, _ => Or.inr ⟨rfl, rfl⟩
  | f + 1, d, hd => by
    by_cases c : d < l
    · have c' : d < l + 1 := by omega
      by_cases c1 : s ≤ d
      · rw [dict_first c c1, dict_first c' c1]; exact Or.inl rfl
      · by_cases c2 : s ≤ d + d / 2
        · rw [dict_second c c1 c2, dict_second c' c1 c2]; exact Or.inl rfl
        · rw [dict_next c c1 c2, dict_next c' c1 c2]; exact odd_limit hl f _ (by omega)
    · exact Or.inr ⟨dict_out c _, dict_out (by omega) _⟩

/-- Halving: h is the half of the size, rounded up; m the half of the limit. -/
theorem halves {s l h m : Int} (hl : l = 2 * m) (h1 : 2 * h - 1 ≤ s) (h2 : s ≤ 2 * h) : ∀ (f : Nat) (d : Int), d % 2 = 0 → dict s l f (d * 2) = 2 * dict h m f d
  | 0, _, _ => by rw [dict_zero, dict_zero, hl]
  | f + 1, d, hd => by
    by_cases c : d < m
    · have c' : d * 2 < l := by omega
      by_cases c1 : h ≤ d
      · rw [dict_first c c1, dict_first c' (by omega)]; omega
      · by_cases c2 : h ≤ d + d / 2
        · rw [dict_second c c1 c2, dict_second c' (by omega) (by omega)]; omega
        · rw [dict_next c c1 c2, dict_next c' (by omega) (by omega)]; exact halves hl h1 h2 f _ (by omega)
    · rw [dict_out c, dict_out (by omega), hl]

theorem D_small {s l : Int} (hl : l ≤ 4096) : D s l = l := dict_out (by omega) _
theorem D_4096 {s l : Int} (hl : 4096 < l) (hs : s ≤ 4096) : D s l = 4096 := dict_first hl hs _
theorem D_6144 {s l : Int} (hl : 4096 < l) (hs : ¬ s ≤ 4096) (hs' : s ≤ 6144) : D s l = 6144 := dict_second hl hs hs' _
theorem D_covers (s l : Int) : s ≤ D s l ∨ D s l = l := covers _ _
theorem D_odd {s l : Int} (hl : l % 2 = 1) : D s l = D s (l + 1) ∨ (D s l = l ∧ D s (l + 1) = l + 1) := odd_limit hl _ _ (by decide)
theorem D_half {s l h m : Int} (hl : l = 2 * m) (hl30 : l ≤ 1073741824) (hs : 6144 < s) (h1 : 2 * h - 1 ≤ s) (h2 : s ≤ 2 * h) : D s l = 2 * D h m := by
  unfold D
  by_cases c : 4096 < l
  · rw [dict_next c (by omega) (by omega)]
    have e := dict_fuel (s := h) (l := m) 17 4096 (by decide) (by have : pw 4096 17 = 536870912 := rfl; omega)
    rw [e]
    exact halves hl h1 h2 17 4096 (by decide)
  · rw [dict_out (by omega), dict_out (by omega), hl]

/-- What the walk must know: the answer fits. -/
theorem dict_bd {s l : Int} (hlo : -9223372036854775808 ≤ l) (hl30 : l ≤ 1073741824) : ∀ (f : Nat) (d : Int), 0 ≤ d → -9223372036854775808 ≤ dict s l f d ∧ dict s l f d ≤ 1610612736
  | 0, _, _ => by rw [dict_zero]; omega
  | f + 1, d, h => by
    by_cases c : d < l
    · by_cases c1 : s ≤ d
      · rw [dict_first c c1]; omega
      · by_cases c2 : s ≤ d + d / 2
        · rw [dict_second c c1 c2]; omega
        · rw [dict_next c c1 c2]; exact dict_bd hlo hl30 f _ (by omega)
    · rw [dict_out c]; omega
theorem D_bd {s l : Int} (hlo : -9223372036854775808 ≤ l) (hl30 : l ≤ 1073741824) : -9223372036854775808 ≤ D s l ∧ D s l ≤ 1610612736 := dict_bd hlo hl30 _ _ (by decide)
end Go.Proofs.Qxb6629138a.Plain
