/-
  The plain mathematics of the second law: a case flip, symmetry, a cut. No Go in sight.
-/
import Derived.Test.Qxb6629095aPlain
namespace Go.Proofs.Qxb6629095a.Plain

/-- A letter's other case. -/
def flipB (c : UInt8) : UInt8 := if 65 ≤ c.toNat ∧ c.toNat ≤ 90 then c + 32 else if 97 ≤ c.toNat ∧ c.toNat ≤ 122 then c - 32 else c
def flip (s : ByteArray) : ByteArray := ⟨(s.data.toList.map flipB).toArray⟩

theorem flipB_upper (c : UInt8) (h1 : 65 ≤ c.toNat) (h2 : c.toNat ≤ 90) : ((flipB c).toNat : Int) = (c.toNat : Int) + 32 := by
  unfold flipB
  rw [if_pos ⟨h1, h2⟩, UInt8.toNat_add]
  have : (32 : UInt8).toNat = 32 := rfl
  omega
theorem flipB_lower (c : UInt8) (h1 : 97 ≤ c.toNat) (h2 : c.toNat ≤ 122) : ((flipB c).toNat : Int) = (c.toNat : Int) - 32 := by
  unfold flipB
  rw [if_neg (by omega), if_pos ⟨h1, h2⟩]
  have e : (32 : UInt8).toNat = 32 := rfl
  rw [UInt8.toNat_sub_of_le _ _ (by rw [UInt8.le_iff_toNat_le]; omega)]
  omega
theorem flipB_other (c : UInt8) (h : ¬ (65 ≤ c.toNat ∧ c.toNat ≤ 90)) (h' : ¬ (97 ≤ c.toNat ∧ c.toNat ≤ 122)) : flipB c = c := by
  unfold flipB
  rw [if_neg h, if_neg h']

theorem lowB_flipB (c : UInt8) : lowB (flipB c) = lowB c := by
  rw [lowB_eq_iff]
  by_cases h : 65 ≤ c.toNat ∧ c.toNat ≤ 90
  · have := flipB_upper c h.1 h.2
    unfold lowN
    rw [if_neg (by omega), if_pos h]
    omega
  · by_cases h' : 97 ≤ c.toNat ∧ c.toNat ≤ 122
    · have := flipB_lower c h'.1 h'.2
      unfold lowN
      rw [if_pos (by omega), if_neg h]
      omega
    · rw [flipB_other c h h']

theorem map_flip (s : ByteArray) : (flip s).data.toList.map lowB = s.data.toList.map lowB := by
  show ((s.data.toList.map flipB).toArray).toList.map lowB = _
  rw [List.map_map]
  apply List.map_congr_left
  intro c _
  exact lowB_flipB c
theorem size_flip (s : ByteArray) : (flip s).size = s.size := by
  show ((s.data.toList.map flipB).toArray).size = s.data.size
  rw [List.size_toArray, List.length_map, Array.length_toList]

theorem eqf_flip_self (s : ByteArray) : eqf s (flip s) = true := by
  unfold eqf; rw [map_flip]; simp
theorem eqf_flip (s t : ByteArray) : eqf (flip s) t = eqf s t := by
  unfold eqf; rw [map_flip]
theorem eqf_symm (s t : ByteArray) : eqf t s = eqf s t := by
  unfold eqf
  rw [Bool.eq_iff_iff]
  simp only [beq_iff_eq]
  exact ⟨fun h => h.symm, fun h => h.symm⟩

theorem extract_toList (s : ByteArray) (a b : Nat) : (s.extract a b).data.toList = (s.data.toList.take b).drop a := by
  rw [ByteArray.data_extract]
  simp [List.extract_eq_take_drop, List.drop_take]

theorem eqf_cut (s t : ByteArray) (k : Nat) : eqf s t = (eqf (s.extract 0 k) (t.extract 0 k) && eqf (s.extract k s.size) (t.extract k t.size)) := by
  unfold eqf
  simp only [extract_toList]
  rw [List.drop_zero, List.drop_zero, List.take_of_length_le (l := s.data.toList) (i := s.size) (by simp), List.take_of_length_le (l := t.data.toList) (i := t.size) (by simp)]
  rw [Bool.eq_iff_iff]
  simp only [Bool.and_eq_true, beq_iff_eq, List.map_take, List.map_drop]
  constructor
  · intro h; rw [h]; exact ⟨rfl, rfl⟩
  · rintro ⟨h1, h2⟩
    rw [← List.take_append_drop k (s.data.toList.map lowB), h1, h2, List.take_append_drop]

/-- What the flip has written so far. -/
theorem flip_get (s : ByteArray) (j : Nat) (hj : j < s.size) : (s.data.toList.map flipB)[j]'(by simpa using hj) = flipB s[j] := by
  rw [List.getElem_map]; rfl
end Go.Proofs.Qxb6629095a.Plain
