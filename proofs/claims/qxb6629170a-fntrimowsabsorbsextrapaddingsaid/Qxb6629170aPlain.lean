/-
  The plain mathematics of trimming blanks and tabs. No Go in sight.
-/
namespace Go.Proofs.Qxb6629170a.Plain

/-- A blank or a tab. -/
def ows (c : UInt8) : Bool := c == 32 || c == 9

theorem ows_iff (c : UInt8) : ows c = true ↔ (c.toNat : Int) = 32 ∨ (c.toNat : Int) = 9 := by
  unfold ows
  rw [Bool.or_eq_true, beq_iff_eq, beq_iff_eq]
  constructor
  · rintro (h | h)
    · left; rw [h]; rfl
    · right; rw [h]; rfl
  · rintro (h | h)
    · left; exact UInt8.toNat_inj.1 (by have e : (32 : UInt8).toNat = 32 := rfl; omega)
    · right; exact UInt8.toNat_inj.1 (by have e : (9 : UInt8).toNat = 9 := rfl; omega)

/-- s is blanks and tabs up to a, and from b on; what lies between neither begins nor ends with one; where there is nothing between, a and b lie at the end. -/
structure Core (s : ByteArray) (a b : Nat) : Prop where
  le : a ≤ b
  bd : b ≤ s.size
  pre : ∀ j (h : j < s.size), j < a → ows s[j] = true
  post : ∀ j (h : j < s.size), b ≤ j → ows s[j] = true
  mid : (a = s.size) ∨ (a < b ∧ (∀ h : a < s.size, ows s[a] = false) ∧ (∀ h : b - 1 < s.size, ows s[b - 1] = false))

theorem first_core (s : ByteArray) : ∀ n k, n + k = s.size → (∀ j (h : j < s.size), j < k → ows s[j] = true) →
    ∃ a, a ≤ s.size ∧ (∀ j (h : j < s.size), j < a → ows s[j] = true) ∧ (∀ h : a < s.size, ows s[a] = false)
  | 0, k, hn, hk => ⟨k, by omega, hk, fun h => by omega⟩
  | n + 1, k, hn, hk => by
    have hlt : k < s.size := by omega
    cases ho : ows s[k] with
    | false => exact ⟨k, by omega, hk, fun _ => ho⟩
    | true =>
      refine first_core s n (k + 1) (by omega) (fun j h hj => ?_)
      by_cases e : j = k
      · subst e; exact ho
      · exact hk j h (by omega)

theorem last_core (s : ByteArray) (a : Nat) : ∀ n, a + n ≤ s.size → (∀ j (h : j < s.size), a + n ≤ j → ows s[j] = true) →
    ∃ b, a ≤ b ∧ b ≤ s.size ∧ (∀ j (h : j < s.size), b ≤ j → ows s[j] = true) ∧ (b = a ∨ (a < b ∧ ∀ h : b - 1 < s.size, ows s[b - 1] = false))
  | 0, hn, hk => ⟨a, by omega, by omega, hk, Or.inl rfl⟩
  | n + 1, hn, hk => by
    have hlt : a + n < s.size := by omega
    cases ho : ows s[a + n] with
    | false => exact ⟨a + (n + 1), by omega, hn, hk, Or.inr ⟨by omega, fun _ => ho⟩⟩
    | true =>
      refine last_core s a n (by omega) (fun j h hj => ?_)
      by_cases e : j = a + n
      · subst e; exact ho
      · exact hk j h (by omega)

theorem exists_core (s : ByteArray) : ∃ a b, Core s a b := by
  obtain ⟨a, a1, a2, a3⟩ := first_core s s.size 0 (by omega) (fun j _ h => by omega)
  obtain ⟨b, b1, b2, b3, b4⟩ := last_core s a (s.size - a) (by omega) (fun j h hj => by omega)
  refine ⟨a, b, b1, b2, a2, b3, ?_⟩
  rcases b4 with b4 | ⟨b4, b5⟩
  · by_cases c : a < s.size
    · have h1 := a3 c
      have h2 := b3 a c (by omega)
      rw [h1] at h2
      exact absurd h2 (by decide)
    · exact Or.inl (by omega)
  · exact Or.inr ⟨b4, a3, b5⟩

/-- Are all bytes blanks or tabs? -/
def allB (s : ByteArray) : Bool := s.data.toList.all ows
theorem allB_iff (s : ByteArray) : allB s = true ↔ ∀ j (h : j < s.size), ows s[j] = true := by
  unfold allB
  rw [List.all_eq_true]
  constructor
  · intro h j hj
    exact h s[j] (List.getElem_mem (l := s.data.toList) (n := j) (by simpa using hj))
  · intro h c hc
    obtain ⟨j, hj, rfl⟩ := List.getElem_of_mem hc
    exact h j (by simpa using hj)
theorem allB_false {s : ByteArray} {j : Nat} (h : j < s.size) (ho : ows s[j] = false) : allB s = false := by
  cases e : allB s
  · rfl
  · rw [(allB_iff s).1 e j h] at ho; exact absurd ho (by decide)

/-- What is left behind the core is padding. -/
theorem Core.rest {s : ByteArray} {a b : Nat} (h : Core s a b) : allB (s.extract b s.size) = true := by
  rw [allB_iff]
  intro j hj
  rw [ByteArray.getElem_extract]
  rw [ByteArray.size_extract] at hj
  exact h.post _ (by omega) (by omega)

/-- The core is its own core. -/
theorem Core.self {s : ByteArray} {a b : Nat} (h : Core s a b) (hab : a < b) : Core (s.extract a b) 0 (b - a) := by
  have hbd := h.bd
  have hsz : (s.extract a b).size = b - a := by rw [ByteArray.size_extract]; omega
  refine ⟨by omega, by omega, fun j _ hj => by omega, fun j hj hj' => by omega, Or.inr ⟨by omega, fun h1 => ?_, fun h1 => ?_⟩⟩
  · rw [ByteArray.getElem_extract]
    rcases h.mid with m | ⟨_, m, _⟩
    · omega
    · exact m (by omega)
  · rw [ByteArray.getElem_extract]
    rcases h.mid with m | ⟨_, _, m⟩
    · omega
    · have e : a + (b - a - 1) = b - 1 := by omega
      simp only [e]
      exact m (by omega)

theorem empty_core {s : ByteArray} {a b : Nat} (hab : ¬ a < b) : Core (s.extract a b) 0 0 := by
  have hsz : (s.extract a b).size = 0 := by rw [ByteArray.size_extract]; omega
  exact ⟨by omega, by omega, fun j _ hj => by omega, fun j hj _ => by omega, Or.inl hsz.symm⟩

/-- Padding at both sides moves the core. -/
theorem Core.padded {s u v : ByteArray} {a b : Nat} (h : Core s a b) (hu : allB u = true) (hv : allB v = true) (hab : a < b) : Core (u ++ s ++ v) (u.size + a) (u.size + b) := by
  have hbd := h.bd
  have hsz : (u ++ s ++ v).size = u.size + s.size + v.size := by rw [ByteArray.size_append, ByteArray.size_append]
  have hus : (u ++ s).size = u.size + s.size := ByteArray.size_append
  have at_u : ∀ j (hj : j < (u ++ s ++ v).size) (hju : j < u.size), (u ++ s ++ v)[j] = u[j] := fun j hj hju => by
    rw [ByteArray.getElem_append_left (by omega), ByteArray.getElem_append_left hju]
  have at_s : ∀ j (hj : j < (u ++ s ++ v).size) (h1 : u.size ≤ j) (h2 : j - u.size < s.size), (u ++ s ++ v)[j] = s[j - u.size] := fun j hj h1 h2 => by
    rw [ByteArray.getElem_append_left (by omega), ByteArray.getElem_append_right h1]
  have at_v : ∀ j (hj : j < (u ++ s ++ v).size) (h1 : u.size + s.size ≤ j) (h2 : j - (u.size + s.size) < v.size), (u ++ s ++ v)[j] = v[j - (u.size + s.size)] := fun j hj h1 h2 => by
    rw [ByteArray.getElem_append_right (by omega)]
    simp only [hus]
  have hm : (∀ h : a < s.size, ows s[a] = false) ∧ (∀ h : b - 1 < s.size, ows s[b - 1] = false) := by
    rcases h.mid with m | ⟨_, m1, m2⟩
    · omega
    · exact ⟨m1, m2⟩
  refine ⟨by omega, by omega, fun j hj hja => ?_, fun j hj hjb => ?_, Or.inr ⟨by omega, fun h1 => ?_, fun h1 => ?_⟩⟩
  · by_cases c : j < u.size
    · rw [at_u j hj c]; exact (allB_iff u).1 hu j c
    · rw [at_s j hj (by omega) (by omega)]; exact h.pre _ (by omega) (by omega)
  · by_cases c : j < u.size + s.size
    · rw [at_s j hj (by omega) (by omega)]; exact h.post _ (by omega) (by omega)
    · rw [at_v j hj (by omega) (by omega)]; exact (allB_iff v).1 hv _ (by omega)
  · rw [at_s _ h1 (by omega) (by omega)]
    have e : u.size + a - u.size = a := by omega
    simp only [e]
    exact hm.1 (by omega)
  · rw [at_s _ h1 (by omega) (by omega)]
    have e : u.size + b - 1 - u.size = b - 1 := by omega
    simp only [e]
    exact hm.2 (by omega)

theorem Core.padded_empty {s u v : ByteArray} {a b : Nat} (h : Core s a b) (hu : allB u = true) (hv : allB v = true) (hab : ¬ a < b) : Core (u ++ s ++ v) (u ++ s ++ v).size (u ++ s ++ v).size := by
  have hs : ∀ j (hj : j < s.size), ows s[j] = true := fun j hj => by
    by_cases c : j < a
    · exact h.pre j hj c
    · exact h.post j hj (by omega)
  have hus : (u ++ s).size = u.size + s.size := ByteArray.size_append
  have hall : ∀ j (hj : j < (u ++ s ++ v).size), ows (u ++ s ++ v)[j] = true := fun j hj => by
    rw [ByteArray.size_append] at hj
    by_cases c : j < (u ++ s).size
    · rw [ByteArray.getElem_append_left c]
      by_cases c' : j < u.size
      · rw [ByteArray.getElem_append_left c']; exact (allB_iff u).1 hu j c'
      · rw [ByteArray.getElem_append_right (by omega)]; exact hs _ (by omega)
    · rw [ByteArray.getElem_append_right (by omega)]; exact (allB_iff v).1 hv _ (by omega)
  exact ⟨Nat.le_refl _, Nat.le_refl _, fun j hj _ => hall j hj, fun j hj _ => hall j hj, Or.inl rfl⟩

theorem extract_padded (s u v : ByteArray) (a b : Nat) (hb : b ≤ s.size) : (u ++ s ++ v).extract (u.size + a) (u.size + b) = s.extract a b := by
  rw [ByteArray.append_assoc, ByteArray.extract_append_size_add]
  rw [ByteArray.extract_append]
  have e1 : b - s.size = 0 := by omega
  rw [e1]
  have e2 : v.extract (a - s.size) 0 = ByteArray.empty := by rw [ByteArray.extract_eq_empty_iff]; omega
  rw [e2, ByteArray.append_empty]

/-- A string that is not empty and is bare at both ends is its own core. -/
theorem Core.bare {s : ByteArray} {a b : Nat} (h : Core s a b) (h0 : 0 < s.size) (h1 : ows s[0] = false) (h2 : ows (s[s.size - 1]'(by omega)) = false) : s.extract a b = s := by
  have ha : a = 0 := by
    rcases Nat.eq_zero_or_pos a with e | e
    · exact e
    · rw [h.pre 0 h0 e] at h1; exact absurd h1 (by decide)
  have hb : b = s.size := by
    have := h.bd
    rcases Nat.lt_or_ge b s.size with e | e
    · rw [h.post (s.size - 1) (by omega) (by omega)] at h2; exact absurd h2 (by decide)
    · omega
  rw [ha, hb, ByteArray.extract_zero_size]
end Go.Proofs.Qxb6629170a.Plain
