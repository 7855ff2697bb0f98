/-
  zzFlipCase: its contract.
-/
import Derived.Test.Qxb6629095aFold
import Derived.Test.Qxb6629095aPlain2
import Derived.Laws.IdiomStrings
import Derived.Laws.MakeOwn
import Derived.OpenShut
namespace Go.Proofs.Qxb6629095a
open Go.RowKit
open Plain
set_option linter.unusedVariables false

/-- The buffer of the flip behind k rounds. -/
structure Flipped (s : ByteArray) (k B : Nat) (w wr : World) : Prop where
  done : ∀ j (hj : j < s.size), j < k → wr.cell? ⟨B, j, none⟩ = some (.int .u8 ((flipB s[j]).toNat : Int))
  rest : ∀ j, j < s.size → k ≤ j → ∃ x, wr.cell? ⟨B, j, none⟩ = some x
  free : ∀ j, j < s.size → wr.frozen? ⟨B, j, none⟩ = false
  below : Below w.heap.size w wr
  new : w.heap.size ≤ B

theorem Flipped.step {s : ByteArray} {k B : Nat} {w wr : World} (h : Flipped s k B w wr) (hk : k < s.size) {n : Int} (hn : n = ((flipB s[k]).toNat : Int)) : Flipped s (k + 1) B w (wr.setCell ⟨B, k, none⟩ (.int .u8 n)) := by
  subst hn
  obtain ⟨x, hx⟩ := h.rest k hk (Nat.le_refl _)
  refine ⟨fun j hj hjk => ?_, fun j hj hjk => ?_, fun j hj => ?_, h.below.setCell h.new _, h.new⟩
  · by_cases e : j = k
    · subst e
      exact World.cell?_setCell_same _ _ _ hx
    · rw [World.cell?_setCell_other _ _ _ _ (fun e' => e (by injection e' with _ e1 _; exact e1.symm))]
      exact h.done j hj (by omega)
  · have e : ¬ j = k := by omega
    rw [World.cell?_setCell_other _ _ _ _ (fun e' => e (by injection e' with _ e1 _; exact e1.symm))]
    exact h.rest j hj (by omega)
  · rw [World.frozen?_setCell]; exact h.free j hj

theorem Flipped.back {s : ByteArray} {B : Nat} {w wr : World} (h : Flipped s s.size B w wr) (cap : Nat) :
    (convert 26 9 (.slice (some ⟨B, 0, none⟩) s.size cap)).run Try.prog wr = .ok (.string (flip s)) wr := by
  have hb := run_convert_bytes_back (P := Try.prog) wr 26 9 5 ⟨B, 0, none⟩ cap (s.data.toList.map flipB) Try.underlying26 Try.underlying5 Try.underlying9 (fun j hj => by
    have hj' : j < s.size := by simpa using hj
    have ha : (⟨B, 0, none⟩ : Addr).add j = ⟨B, j, none⟩ := by unfold Addr.add; split <;> simp_all
    rw [ha, h.done j hj' hj', flip_get s j hj'])
  have hl : (s.data.toList.map flipB).length = s.size := by simp
  rw [hl] at hb
  exact hb

theorem Try.info5 : (Try.prog.info? 5).map (fun i => (i.zero, i.size, i.bytes)) = some (some (.int .u8 0), 1, 1) := by kernel_rfl

set_option maxHeartbeats 400000 in
theorem flip_core (s : ByteArray) (w W1 : World) (B : Nat) (hs : s.size ≤ maxLen)
    (hmk : (Instr.makeSlice 26 (.int .i64 (s.size : Int)) (.int .i64 (s.size : Int))).run Try.prog w = .ok (.slice (some ⟨B, 0, none⟩) s.size s.size) W1) (hg1 : Flipped s 0 B w W1) :
    Calls Try.prog 7 #[.string s] w fun e w' => e = .returned (.string (flip s)) ∧ Below w.heap.size w w' := by
  unfold maxLen at hs
  go_enter Try.func7, Try.ntmps7
  go_wp2
  go_loopw [4] (fun i wr => ∃ k : Nat, k ≤ s.size ∧ i = .int .i64 k ∧ Flipped s k B w wr) (fun i _ => s.size - (intOf i).toNat)
  case atStart => exact ⟨0, Nat.zero_le _, rfl, hg1⟩
  case round =>
    obtain ⟨k, hk, rfl, hg⟩ := hrel
    by_cases hlt : k < s.size
    · obtain ⟨x, hx⟩ := hg.rest k hlt (Nat.le_refl _)
      have hfz := hg.free k hlt
      have hb := s[k].toNat_lt
      have hb' : (s[k].toNat : Int) ≤ 255 := by omega
      by_cases h1 : 65 ≤ s[k].toNat ∧ s[k].toNat ≤ 90
      · have k1 : (65 : Int) ≤ (s[k].toNat : Int) := by omega
        have k2 : (s[k].toNat : Int) ≤ 90 := by omega
        have HS : Hid (((flipB s[k]).toNat : Int) = (s[k].toNat : Int) + 32) := flipB_upper _ h1.1 h1.2
        clear h1
        go_wp2
        go_roundw
        case rel => exact ⟨k + 1, by omega, by go_num, hg.step hlt HS.out.symm⟩
        case measure => simp [intOf]; omega
      by_cases h2 : 97 ≤ s[k].toNat ∧ s[k].toNat ≤ 122
      · have k1 : (97 : Int) ≤ (s[k].toNat : Int) := by omega
        have k2 : (s[k].toNat : Int) ≤ 122 := by omega
        have k3 : (65 : Int) ≤ (s[k].toNat : Int) := by omega
        have k4 : ¬ (s[k].toNat : Int) ≤ 90 := by omega
        have HS : Hid (((flipB s[k]).toNat : Int) = (s[k].toNat : Int) - 32) := flipB_lower _ h2.1 h2.2
        clear h1 h2
        go_wp2
        go_roundw
        case rel => exact ⟨k + 1, by omega, by go_num, hg.step hlt HS.out.symm⟩
        case measure => simp [intOf]; omega
      have HS : Hid ((s[k].toNat : Int) = ((flipB s[k]).toNat : Int)) := by rw [flipB_other _ h1 h2]; rfl
      have c1 : (s[k].toNat : Int) < 65 ∨ (90 < (s[k].toNat : Int) ∧ (s[k].toNat : Int) < 97) ∨ 122 < (s[k].toNat : Int) := by omega
      clear h1 h2
      rcases c1 with c1 | ⟨c1, c2⟩ | c1
      · have k1 : ¬ (65 : Int) ≤ (s[k].toNat : Int) := by omega
        have k2 : ¬ (97 : Int) ≤ (s[k].toNat : Int) := by omega
        clear c1
        go_wp2
        go_roundw
        case rel => exact ⟨k + 1, by omega, by go_num, hg.step hlt HS.out⟩
        case measure => simp [intOf]; omega
      · have k1 : (65 : Int) ≤ (s[k].toNat : Int) := by omega
        have k2 : ¬ (97 : Int) ≤ (s[k].toNat : Int) := by omega
        have k3 : ¬ (s[k].toNat : Int) ≤ 90 := by omega
        clear c1 c2
        go_wp2
        go_roundw
        case rel => exact ⟨k + 1, by omega, by go_num, hg.step hlt HS.out⟩
        case measure => simp [intOf]; omega
      · have k1 : (65 : Int) ≤ (s[k].toNat : Int) := by omega
        have k2 : (97 : Int) ≤ (s[k].toNat : Int) := by omega
        have k3 : ¬ (s[k].toNat : Int) ≤ 90 := by omega
        have k4 : ¬ (s[k].toNat : Int) ≤ 122 := by omega
        clear c1
        go_wp2
        go_roundw
        case rel => exact ⟨k + 1, by omega, by go_num, hg.step hlt HS.out⟩
        case measure => simp [intOf]; omega
    · obtain rfl : k = s.size := by omega
      have hb := hg.back s.size
      go_wp2
      go_ret
      exact ⟨rfl, hg.below⟩

theorem flip_any (s : ByteArray) (w : World) (hs : s.size ≤ 65536) :
    Calls Try.prog 7 #[.string s] w fun e w' => e = .returned (.string (flip s)) ∧ Below w.heap.size w w' := by
  obtain ⟨i0, hi, hz0, hz1, hz2⟩ := info_parts Try.info5
  have hmk := run_make (P := Try.prog) w 26 5 i0 (.int .u8 0) Try.underlying26 hi hz0 .i64 .i64 (s.size : Int) (s.size : Int) (by omega) (by omega) (by rw [hz2]; omega) (by omega)
  rw [Int.toNat_natCast] at hmk
  refine flip_core s w _ w.heap.size (by unfold maxLen; omega) hmk ?_
  have hc : ∀ j, j < s.size → ∃ x, (w.alloc (.cells (madeCells (Value.cells (.int .u8 0)) (s.size * i0.size)) 5)).cell? ⟨w.heap.size, j, none⟩ = some x := fun j hj => by
    rw [World.cell?_alloc_new, Array.getElem?_eq_getElem (by rw [size_madeCells, hz1]; omega)]
    exact ⟨_, rfl⟩
  refine ⟨fun j hj h => absurd h (by omega), fun j hj _ => hc j hj, fun j hj => ?_, (Below.refl _ w).alloc (Nat.le_refl _) _, Nat.le_refl _⟩
  rw [frozen?_alloc_cells]
  unfold World.frozen?
  rw [Array.getElem?_eq_none (Nat.le_refl _)]
end Go.Proofs.Qxb6629095a
