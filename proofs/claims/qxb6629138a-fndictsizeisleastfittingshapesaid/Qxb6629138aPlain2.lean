/-
  The plain mathematics of the least fitting shape. No Go in sight but the word for the machine's 'and'.
-/
import Derived.Test.Qxb6629138aPlain
import Derived.Laws.BitsLemmas
namespace Go.Proofs.Qxb6629138a.Plain

theorem pow_of_and (n : Nat) : 0 < n → n &&& (n - 1) = 0 → ∃ k, n = 2 ^ k := by
  induction n using Nat.strongRecOn with
  | ind n ih =>
    intro h0 h
    by_cases h1 : n = 1
    · exact ⟨0, by rw [h1]⟩
    have e : n / 2 &&& (n - 1) / 2 = 0 := by rw [← Nat.and_div_two, h]
    by_cases h2 : n % 2 = 0
    · have e2 : (n - 1) / 2 = n / 2 - 1 := by omega
      rw [e2] at e
      obtain ⟨k, hk⟩ := ih (n / 2) (by omega) (by omega) e
      exact ⟨k + 1, by rw [Nat.pow_succ, ← hk]; omega⟩
    · have e2 : (n - 1) / 2 = n / 2 := by omega
      rw [e2, Nat.and_self] at e
      omega

/-- What zzIsPow2 answers. -/
def p2 (x : Int) : Bool := decide (0 < x) && (bits .and .i64 x (x - 1) == 0)

theorem and_nat (a b : Nat) (ha : a < 9223372036854775808) (hb : b < 9223372036854775808) : bits .and .i64 (a : Int) (b : Int) = ((a &&& b : Nat) : Int) := by
  have hx : a &&& b < 2 ^ 63 := Nat.and_lt_two_pow _ (by omega)
  have ea : (BitVec.ofInt 64 (a : Int)).toNat = a := by rw [BitVec.ofInt_natCast, BitVec.toNat_ofNat]; exact Nat.mod_eq_of_lt (by omega)
  have eb : (BitVec.ofInt 64 (b : Int)).toNat = b := by rw [BitVec.ofInt_natCast, BitVec.toNat_ofNat]; exact Nat.mod_eq_of_lt (by omega)
  show IntKind.i64.wrap ((BitVec.ofInt 64 (a : Int) &&& BitVec.ofInt 64 (b : Int)).toNat : Int) = _
  rw [BitVec.toNat_and, ea, eb, IntKind.wrap_i64]
  omega

theorem pw_pow : ∀ (k : Nat) (d : Int), pw d k = d * ((2 ^ k : Nat) : Int)
  | 0, d => by simp [pw]
  | k + 1, d => by
    rw [pw, pw_pow k, Nat.pow_succ]
    have e : ((2 ^ k * 2 : Nat) : Int) = ((2 ^ k : Nat) : Int) * 2 := by omega
    rw [e, Int.mul_assoc, Int.mul_comm 2]

/-- A power of two from 4096 to 1<<30 is 4096 doubled at most eighteen times. -/
theorem pow_limit {l : Int} (h1 : 4096 ≤ l) (h2 : l ≤ 1073741824) (h : p2 l = true) : ∃ m : Nat, m ≤ 18 ∧ l = pw 4096 m := by
  obtain ⟨n, rfl⟩ := Int.eq_ofNat_of_zero_le (show 0 ≤ l by omega)
  unfold p2 at h
  have e : ((n : Int) - 1) = ((n - 1 : Nat) : Int) := by omega
  rw [e, and_nat n (n - 1) (by omega) (by omega)] at h
  simp only [Bool.and_eq_true, decide_eq_true_eq, beq_iff_eq] at h
  obtain ⟨k, hk⟩ := pow_of_and n (by omega) (by omega)
  have k1 : 12 ≤ k := by
    rcases Nat.lt_or_ge k 12 with c | c
    · have := Nat.pow_le_pow_right (show 0 < 2 by decide) (show k ≤ 11 by omega)
      have e11 : (2 : Nat) ^ 11 = 2048 := rfl
      omega
    · exact c
  have k2 : k ≤ 30 := by
    rcases Nat.lt_or_ge 30 k with c | c
    · have := Nat.pow_le_pow_right (show 0 < 2 by decide) (show 31 ≤ k by omega)
      have e31 : (2 : Nat) ^ 31 = 2147483648 := rfl
      omega
    · exact c
  refine ⟨k - 12, by omega, ?_⟩
  rw [pw_pow, hk]
  have e2 : (2 : Nat) ^ k = 2 ^ 12 * 2 ^ (k - 12) := by rw [← Nat.pow_add]; congr 1; omega
  rw [e2]
  have e12 : (2 : Nat) ^ 12 = 4096 := rfl
  rw [e12]
  omega

/-- THE LEAST FITTING SHAPE, from d on. -/
theorem least {s l : Int} : ∀ (f m : Nat) (d : Int), m ≤ f → 2 ≤ d → d % 2 = 0 → l = pw d m →
    d ≤ dict s l f d ∧ dict s l f d ≤ l ∧ dict (dict s l f d) l f d = dict s l f d ∧ (l < s → dict s l f d = l) ∧ (s ≤ l → s ≤ dict s l f d) ∧
    ((∃ j, j ≤ m ∧ dict s l f d = pw d j ∧ (j = 0 ∨ 3 * dict s l f d < 4 * s)) ∨ (∃ j, j < m ∧ dict s l f d = pw d j + pw d j / 2 ∧ pw d j < s))
  | f, 0, d, _, _, _, hl => by
    have hl' : l = d := hl
    have c : ¬ d < l := by omega
    have e : ∀ x, dict x l f d = l := fun x => dict_out c f
    rw [e, e]
    exact ⟨by omega, by omega, rfl, fun _ => rfl, fun h => h, Or.inl ⟨0, Nat.le_refl _, hl', Or.inl rfl⟩⟩
  | 0, m + 1, _, h, _, _, _ => by omega
  | f + 1, m + 1, d, hm, hd, he, hl => by
    have hl' : l = pw (d * 2) m := hl
    have hge := pw_ge m (d * 2) (by omega)
    have c : d < l := by omega
    by_cases c1 : s ≤ d
    · rw [dict_first c c1, dict_first c (Int.le_refl d)]
      exact ⟨by omega, by omega, rfl, by omega, by omega, Or.inl ⟨0, by omega, rfl, Or.inl rfl⟩⟩
    by_cases c2 : s ≤ d + d / 2
    · rw [dict_second c c1 c2, dict_second c (by omega) (Int.le_refl _)]
      exact ⟨by omega, by omega, rfl, by omega, by omega, Or.inr ⟨0, by omega, rfl, by rw [pw]; omega⟩⟩
    obtain ⟨i1, i2, i3, i4, i5, i6⟩ := least (s := s) f m (d * 2) (by omega) (by omega) (by omega) hl'
    rw [dict_next c c1 c2, dict_next c (by omega) (by omega)]
    refine ⟨by omega, i2, i3, i4, i5, ?_⟩
    rcases i6 with ⟨j, j1, j2, j3⟩ | ⟨j, j1, j2, j3⟩
    · refine Or.inl ⟨j + 1, by omega, j2, Or.inr ?_⟩
      rcases j3 with rfl | j3
      · have : dict s l f (d * 2) = d * 2 := j2
        omega
      · exact j3
    · exact Or.inr ⟨j + 1, by omega, j2, j3⟩

theorem p2_pw : ∀ j, j < 19 → p2 (pw 4096 j) = true := by decide +kernel
theorem p2_half : ∀ j, j < 18 → p2 (pw 4096 j + pw 4096 j / 2) = false ∧ p2 ((pw 4096 j + pw 4096 j / 2) / 3) = true ∧ (pw 4096 j + pw 4096 j / 2) % 3 = 0 ∧ 2048 ≤ (pw 4096 j + pw 4096 j / 2) / 3 ∧ (pw 4096 j + pw 4096 j / 2) / 3 * 2 = pw 4096 j := by decide +kernel

/-- ALL THAT THE LAW ASKS OF DictSize. -/
theorem D_least {s l : Int} (h1 : 4096 ≤ l) (h2 : l ≤ 1073741824) (h : p2 l = true) :
    4096 ≤ D s l ∧ D s l ≤ l ∧ D (D s l) l = D s l ∧ (l < s → D s l = l) ∧ (s ≤ l → s ≤ D s l) ∧
    ((p2 (D s l) = true ∧ (D s l = 4096 ∨ D s l / 4 * 3 < s)) ∨
     (p2 (D s l) = false ∧ p2 (D s l / 3) = true ∧ D s l % 3 = 0 ∧ 2048 ≤ D s l / 3 ∧ D s l / 3 * 2 < s)) := by
  obtain ⟨m, hm, hl⟩ := pow_limit h1 h2 h
  obtain ⟨i1, i2, i3, i4, i5, i6⟩ := least (s := s) 18 m 4096 hm (by decide) (by decide) hl
  refine ⟨i1, i2, i3, i4, i5, ?_⟩
  change (∃ j, j ≤ m ∧ D s l = pw 4096 j ∧ (j = 0 ∨ 3 * D s l < 4 * s)) ∨ (∃ j, j < m ∧ D s l = pw 4096 j + pw 4096 j / 2 ∧ pw 4096 j < s) at i6
  rcases i6 with ⟨j, j1, j2, j3⟩ | ⟨j, j1, j2, j3⟩
  · refine Or.inl ⟨?_, ?_⟩
    · rw [j2]; exact p2_pw j (by omega)
    · rcases j3 with rfl | j3
      · exact Or.inl j2
      · exact Or.inr (by omega)
  · obtain ⟨k1, k2, k3, k4, k5⟩ := p2_half j (by omega)
    rw [← j2] at k1 k2 k3 k4 k5
    exact Or.inr ⟨k1, k2, k3, k4, by omega⟩
end Go.Proofs.Qxb6629138a.Plain
