/-
  The plain mathematics of the seat: folding ASCII case, byte by byte. No Go in sight.
-/
namespace Go.Proofs.Qxb6629095a.Plain

/-- A byte in lower case. -/
def lowB (c : UInt8) : UInt8 := if 65 ≤ c ∧ c ≤ 90 then c + 32 else c
/-- The same on the byte's number. -/
def low (n : Int) : Int := if 65 ≤ n ∧ n ≤ 90 then n + 32 else n
/-- The strings are equal when folded. -/
def eqf (s t : ByteArray) : Bool := s.data.toList.map lowB == t.data.toList.map lowB

theorem low_toNat (c : UInt8) : low (c.toNat : Int) = ((lowB c).toNat : Int) := by
  unfold low lowB
  have h1 : (65 : UInt8) ≤ c ↔ 65 ≤ c.toNat := by rw [UInt8.le_iff_toNat_le]; rfl
  have h2 : c ≤ (90 : UInt8) ↔ c.toNat ≤ 90 := by rw [UInt8.le_iff_toNat_le]; rfl
  by_cases h : 65 ≤ c ∧ c ≤ 90
  · rw [if_pos h, if_pos (by rw [h1, h2] at h; omega)]
    rw [h1, h2] at h
    rw [UInt8.toNat_add]
    have : (32 : UInt8).toNat = 32 := rfl
    rw [this]
    omega
  · rw [if_neg h, if_neg (by rw [h1, h2] at h; omega)]

theorem lowB_iff (a b : UInt8) : low (a.toNat : Int) = low (b.toNat : Int) ↔ lowB a = lowB b := by
  rw [low_toNat, low_toNat]
  constructor
  · intro h
    exact UInt8.toNat_inj.1 (by omega)
  · intro h
    rw [h]

theorem take_snoc (s : ByteArray) (k : Nat) (h : k < s.size) : s.data.toList.take (k + 1) = s.data.toList.take k ++ [s[k]] := by
  rw [List.take_succ_eq_append_getElem (by simpa using h)]; rfl

/-- One step of the comparison. -/
theorem fold_step {s t : ByteArray} {k : Nat} (hs : k < s.size) (ht : k < t.size)
    (hp : (s.data.toList.take k).map lowB = (t.data.toList.take k).map lowB) (h : low (s[k].toNat : Int) = low (t[k].toNat : Int)) :
    (s.data.toList.take (k + 1)).map lowB = (t.data.toList.take (k + 1)).map lowB := by
  rw [take_snoc s k hs, take_snoc t k ht, List.map_append, List.map_append, hp]
  simp only [List.map_cons, List.map_nil]
  rw [(lowB_iff _ _).1 h]

theorem eqf_of_take {s t : ByteArray} (hsz : s.size = t.size)
    (hp : (s.data.toList.take s.size).map lowB = (t.data.toList.take s.size).map lowB) : eqf s t = true := by
  rw [List.take_of_length_le (by simp), List.take_of_length_le (by simp; omega)] at hp
  unfold eqf
  simpa using hp

theorem eqf_size {s t : ByteArray} (h : eqf s t = true) : s.size = t.size := by
  unfold eqf at h
  have h' : s.data.toList.map lowB = t.data.toList.map lowB := by simpa using h
  have := congrArg List.length h'
  simpa using this

theorem eqf_not_size {s t : ByteArray} (h : ¬ s.size = t.size) : eqf s t = false := by
  cases he : eqf s t
  · rfl
  · exact absurd (eqf_size he) h

theorem eqf_at {s t : ByteArray} {k : Nat} (hs : k < s.size) (ht : k < t.size) (h : eqf s t = true) : lowB s[k] = lowB t[k] := by
  unfold eqf at h
  have h' : s.data.toList.map lowB = t.data.toList.map lowB := by simpa using h
  have e := congrArg (fun l => l[k]?) h'
  have e1 : s.data.toList[k]? = some s[k] := by rw [List.getElem?_eq_getElem (by simpa using hs)]; rfl
  have e2 : t.data.toList[k]? = some t[k] := by rw [List.getElem?_eq_getElem (by simpa using ht)]; rfl
  simpa [List.getElem?_map, e1, e2] using e

theorem eqf_stop {s t : ByteArray} {k : Nat} (hs : k < s.size) (ht : k < t.size) (h : ¬ low (s[k].toNat : Int) = low (t[k].toNat : Int)) : eqf s t = false := by
  cases he : eqf s t
  · rfl
  · exact absurd ((lowB_iff _ _).2 (eqf_at hs ht he)) h

/-! ### One byte set -/
/-- The string with byte i set to b. -/
def setB (s : ByteArray) (i : Nat) (b : UInt8) : ByteArray := ⟨(s.data.toList.set i b).toArray⟩

theorem size_setB (s : ByteArray) (i : Nat) (b : UInt8) : (setB s i b).size = s.size := by
  show (s.data.toList.set i b).toArray.size = s.data.size
  rw [List.size_toArray, List.length_set, Array.length_toList]

theorem eqf_self (s : ByteArray) : eqf s s = true := by simp [eqf]

theorem eqf_setB (s : ByteArray) (i : Nat) (hi : i < s.size) (b : UInt8) : eqf s (setB s i b) = decide (lowB s[i] = lowB b) := by
  have hl : i < s.data.toList.length := by simpa using hi
  have e : s[i] = s.data.toList[i] := rfl
  unfold eqf setB
  simp only [List.map_set]
  rw [Bool.eq_iff_iff]
  simp only [beq_iff_eq, decide_eq_true_eq]
  rw [e]
  constructor
  · intro h
    have := congrArg (fun l => l[i]?) h
    simp only [List.getElem?_map, List.getElem?_eq_getElem hl] at this
    rw [List.getElem?_set_self (by simpa using hl)] at this
    simpa using this
  · intro h
    apply List.ext_getElem?
    intro j
    by_cases hj : i = j
    · subst hj
      rw [List.getElem?_set_self (by simpa using hl), List.getElem?_map, List.getElem?_eq_getElem hl]
      simp only [Option.map_some, h]
    · rw [List.getElem?_set_ne hj]

/-- A byte's number in lower case. -/
def lowN (n : Nat) : Nat := if 65 ≤ n ∧ n ≤ 90 then n + 32 else n
theorem lowB_toNat (c : UInt8) : (lowB c).toNat = lowN c.toNat := by
  have h := low_toNat c
  unfold low at h
  unfold lowN
  split at h
  · rw [if_pos (by omega)]; omega
  · rw [if_neg (by omega)]; omega
theorem lowB_eq_iff (a b : UInt8) : lowB a = lowB b ↔ lowN a.toNat = lowN b.toNat := by
  rw [← lowB_toNat, ← lowB_toNat]
  exact ⟨fun h => by rw [h], fun h => UInt8.toNat_inj.1 h⟩

/-- How many of the bytes 0 .. v - 1 fold to what c folds to. -/
def cnt (c : Nat) : Nat → Nat
  | 0 => 0
  | v + 1 => cnt c v + if lowN c = lowN v then 1 else 0
theorem cnt_le (c : Nat) : ∀ v, cnt c v ≤ v
  | 0 => Nat.le_refl _
  | v + 1 => by unfold cnt; have := cnt_le c v; split <;> omega
theorem cnt_upper : ∀ c, c < 91 → 65 ≤ c → cnt c 256 = 2 := by decide +kernel
theorem cnt_lower : ∀ c, c < 123 → 97 ≤ c → cnt c 256 = 2 := by decide +kernel
theorem cnt_other : ∀ c, c < 256 → (c < 65 ∨ (90 < c ∧ c < 97) ∨ 122 < c) → cnt c 256 = 1 := by decide +kernel
theorem xor_upper : ∀ c, c < 91 → 65 ≤ c → lowN c = lowN (c ^^^ 32) ∧ c ^^^ 32 < 256 := by decide +kernel
theorem xor_lower : ∀ c, c < 123 → 97 ≤ c → lowN c = lowN (c ^^^ 32) ∧ c ^^^ 32 < 256 := by decide +kernel

theorem eqf_set (s : ByteArray) (i : Nat) (hi : i < s.size) (v : Nat) (hv : v < 256) : eqf s (setB s i (UInt8.ofNat v)) = decide (lowN s[i].toNat = lowN v) := by
  rw [eqf_setB s i hi, Bool.eq_iff_iff]
  simp only [decide_eq_true_eq]
  rw [lowB_eq_iff]
  have : (UInt8.ofNat v).toNat = v := by rw [UInt8.toNat_ofNat']; omega
  rw [this]

end Go.Proofs.Qxb6629095a.Plain
