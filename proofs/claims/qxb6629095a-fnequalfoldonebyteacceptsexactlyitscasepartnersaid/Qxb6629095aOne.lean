/-
  The walk of FnEqualFoldOneByteAcceptsExactlyItsCasePartner.
-/
import Derived.Test.Qxb6629095aFold
import Derived.Laws.IdiomStrings
import Derived.Laws.BitsAllLaws
import Derived.OpenShut
namespace Go.Proofs.Qxb6629095a
open Go.RowKit
open Plain
set_option linter.unusedVariables false

/-- What the loop's world is good for: the buffer at block B holds s, but for cell i, which may be written; below w's own size nothing has turned. -/
structure Good (s : ByteArray) (i B : Nat) (w wr : World) : Prop where
  cells : ∀ j (hj : j < s.size), j ≠ i → wr.cell? ⟨B, j, none⟩ = some (.int .u8 (s[j].toNat : Int))
  here : ∃ x, wr.cell? ⟨B, i, none⟩ = some x
  free : wr.frozen? ⟨B, i, none⟩ = false
  below : Below w.heap.size w wr
  new : w.heap.size ≤ B

theorem drewN_cell (w : World) (n : Nat) (a : Addr) : (w.drewN n).cell? a = w.cell? a := by
  simp
theorem drewN_frozen (w : World) (n : Nat) (a : Addr) : (w.drewN n).frozen? a = w.frozen? a := by
  simp
theorem below_drewN' {B : Nat} {a w : World} (h : Below B a w) : ∀ n, Below B a (w.drewN n)
  | 0 => h
  | n + 1 => by have := below_drewN' h n; exact ⟨this.os, this.tape, this.output, this.size, this.block⟩

theorem Good.drewN {s : ByteArray} {i B : Nat} {w wr : World} (h : Good s i B w wr) (n : Nat) : Good s i B w (wr.drewN n) :=
  ⟨fun j hj hne => (drewN_cell _ _ _).trans (h.cells j hj hne), by obtain ⟨x, hx⟩ := h.here; exact ⟨x, (drewN_cell _ _ _).trans hx⟩, (drewN_frozen _ _ _).trans h.free, below_drewN' h.below n, h.new⟩

theorem Good.setCell {s : ByteArray} {i B : Nat} {w wr : World} (h : Good s i B w wr) (v : Value) : Good s i B w (wr.setCell ⟨B, i, none⟩ v) := by
  obtain ⟨x, hx⟩ := h.here
  refine ⟨fun j hj hne => ?_, ⟨v, ?_⟩, ?_, h.below.setCell h.new v, h.new⟩
  · rw [World.cell?_setCell_other _ _ _ _ (fun e => hne (by injection e with _ e1 _; exact e1.symm))]
    exact h.cells j hj hne
  · exact World.cell?_setCell_same _ _ _ hx
  · rw [World.frozen?_setCell]; exact h.free

theorem back {s : ByteArray} {i B : Nat} {w wr : World} (h : Good s i B w wr) (hi : i < s.size) (v : Nat) (hv : v < 256) (cap : Nat) :
    (convert 26 9 (.slice (some ⟨B, 0, none⟩) s.size cap)).run Try.prog (wr.setCell ⟨B, i, none⟩ (.int .u8 (v : Int))) = .ok (.string (setB s i (UInt8.ofNat v))) (wr.setCell ⟨B, i, none⟩ (.int .u8 (v : Int))) := by
  have hb := run_convert_bytes_back (P := Try.prog) (wr.setCell ⟨B, i, none⟩ (.int .u8 (v : Int))) 26 9 5 ⟨B, 0, none⟩ cap (s.data.toList.set i (UInt8.ofNat v)) Try.underlying26 Try.underlying5 Try.underlying9 (fun j hj => by
    have hj' : j < s.size := by simpa using hj
    have ha : (⟨B, 0, none⟩ : Addr).add j = ⟨B, j, none⟩ := by unfold Addr.add; split <;> simp_all
    rw [ha]
    by_cases hji : j = i
    · subst hji
      obtain ⟨x, hx⟩ := h.here
      rw [World.cell?_setCell_same _ _ _ hx, List.getElem_set_self, UInt8.toNat_ofNat']
      have : v % 2 ^ 8 = v := by omega
      rw [this]
    · rw [World.cell?_setCell_other _ _ _ _ (fun e => hji (by injection e with _ e1 _; exact e1.symm)), h.cells j hj' hji, List.getElem_set_ne (by omega)]
      rfl)
  have hl : (s.data.toList.set i (UInt8.ofNat v)).length = s.size := by simp
  rw [hl] at hb
  exact hb

theorem cnt_hit {c v : Nat} (h : lowN c = lowN v) : cnt c (v + 1) = cnt c v + 1 := by rw [cnt, if_pos h]
theorem cnt_miss {c v : Nat} (h : ¬ lowN c = lowN v) : cnt c (v + 1) = cnt c v := by rw [cnt, if_neg h]; rfl
theorem eqf_hit {s : ByteArray} {i v : Nat} (hi : i < s.size) (hv : v < 256) (h : lowN s[i].toNat = lowN v) : eqf s (setB s i (UInt8.ofNat v)) = true := by
  rw [eqf_set s i hi v hv]; simpa using h
theorem eqf_miss {s : ByteArray} {i v : Nat} (hi : i < s.size) (hv : v < 256) (h : ¬ lowN s[i].toNat = lowN v) : eqf s (setB s i (UInt8.ofNat v)) = false := by
  rw [eqf_set s i hi v hv]; simpa using h

set_option maxHeartbeats 1000000 in
theorem one_letter (s : ByteArray) (iN : Nat) (w W1 : World) (B cap : Nat) (hsz : s.size ≤ 65536) (hi : iN < s.size)
    (hl : (65 ≤ s[iN].toNat ∧ s[iN].toNat ≤ 90) ∨ (97 ≤ s[iN].toNat ∧ s[iN].toNat ≤ 122))
    (hconv : (convert 9 26 (.string s)).run Try.prog w = .ok (.slice (some ⟨B, 0, none⟩) s.size cap) W1) (hg1 : Good s iN B w W1) :
    Calls Try.prog 4 #[.string s, .int .i64 (iN : Int)] w fun e w' => e = .returned (.bool true) ∧ Below w.heap.size w w' := by
  have hbig : (s.size : Int) ≤ 1048576 := by omega
  have hsz' : (s.size : Int) ≤ 65536 := by omega
  have hi' : (iN : Int) < (s.size : Int) := by omega
  have hge : ¬ s.size ≤ iN := by omega
  have hng : ¬ (iN : Int) < 0 := by omega
  have hsg : ¬ (65536 : Int) < (s.size : Int) := by omega
  have hcnt : Hid (cnt s[iN].toNat 256 = 2) := by
    rcases hl with ⟨h1, h2⟩ | ⟨h1, h2⟩
    · exact cnt_upper _ (by omega) h1
    · exact cnt_lower _ (by omega) h1
  have hx : Hid (lowN s[iN].toNat = lowN (s[iN].toNat ^^^ 32) ∧ s[iN].toNat ^^^ 32 < 256) := by
    rcases hl with ⟨h1, h2⟩ | ⟨h1, h2⟩
    · exact xor_upper _ (by omega) h1
    · exact xor_lower _ (by omega) h1
  rcases hl with ⟨h1, h2⟩ | ⟨h1, h2⟩
  · have k1 : (65 : Int) ≤ (s[iN].toNat : Int) := by omega
    have k2 : (s[iN].toNat : Int) ≤ 90 := by omega
    clear h1 h2
    go_enter Try.func4, Try.ntmps4
    go_wp2
    go_loopw [8, 9] (fun c i wr => ∃ v : Nat, v ≤ 256 ∧ i = .int .i64 v ∧ c = .int .i64 (cnt s[iN].toNat v) ∧ Good s iN B w wr) (fun _ i _ => 256 - (intOf i).toNat)
    case atStart => exact ⟨0, Nat.zero_le _, rfl, rfl, hg1⟩
    case round =>
      obtain ⟨v, hv, rfl, rfl, hg⟩ := hrel
      have hcl := cnt_le s[iN].toNat v
      obtain ⟨x, hx0⟩ := hg.here
      have hfz := hg.free
      by_cases hlt : v < 256
      · have hb := back hg hi v hlt cap
        have hlt' : (v : Int) < 256 := by omega
        by_cases hq : lowN s[iN].toNat = lowN v
        · have he := eqf_hit hi hlt hq
          have HC : Hid (cnt s[iN].toNat (v + 1) = cnt s[iN].toNat v + 1) := cnt_hit hq
          clear hq
          go_wp2_with (go_at_call 6; refine (fold_any s _ _ ?_).mono ?_; (unfold maxLen; omega); rintro e w' ⟨rfl, n, rfl⟩)
          go_roundw
          case rel => exact ⟨v + 1, by omega, by go_num, by rw [HC.out]; go_num, (hg.setCell _).drewN _⟩
          case measure => simp [intOf]; omega
        · have he := eqf_miss hi hlt hq
          have HC : Hid (cnt s[iN].toNat (v + 1) = cnt s[iN].toNat v) := cnt_miss hq
          clear hq
          go_wp2_with (go_at_call 6; refine (fold_any s _ _ ?_).mono ?_; (unfold maxLen; omega); rintro e w' ⟨rfl, n, rfl⟩)
          go_roundw
          case rel => exact ⟨v + 1, by omega, by go_num, by rw [HC.out], (hg.setCell _).drewN _⟩
          case measure => simp [intOf]; omega
      · obtain rfl : v = 256 := by omega
        have hc2 : cnt s[iN].toNat 256 = 2 := hcnt.out
        have hs2 := eqf_self s
        clear hx0 hfz hcl
        go_wp2_with fail
        refine (fold_any s s _ (by unfold maxLen; omega)).mono ?_
        rintro e w' ⟨rfl, n, rfl⟩
        have hg2 := hg.drewN n
        clear hg
        generalize wr.drewN n = wr2 at *
        obtain ⟨x, hx0⟩ := hg2.here
        have hfz := hg2.free
        obtain ⟨q, hbx, hx1, hx2⟩ : ∃ q : Nat, bits .xor .u8 (s[iN].toNat : Int) 32 = (q : Int) ∧ lowN s[iN].toNat = lowN q ∧ q < 256 :=
          ⟨s[iN].toNat ^^^ 32, u8_xor_nat _ 32 (by omega) (by omega), hx.out.1, hx.out.2⟩
        have hb := back hg2 hi q hx2 cap
        have he := eqf_hit hi hx2 hx1
        clear hx1
        go_wp2_with fail
        refine (fold_any s _ _ (by unfold maxLen; omega)).mono ?_
        rintro e w' ⟨rfl, n2, rfl⟩
        go_wp2
        go_ret
        exact ⟨rfl, below_drewN' (hg2.setCell _).below _⟩
  · have k1 : (97 : Int) ≤ (s[iN].toNat : Int) := by omega
    have k2 : (s[iN].toNat : Int) ≤ 122 := by omega
    have k3 : ¬ (s[iN].toNat : Int) ≤ 90 := by omega
    have k4 : (65 : Int) ≤ (s[iN].toNat : Int) := by omega
    clear h1 h2
    go_enter Try.func4, Try.ntmps4
    go_wp2
    go_loopw [8, 9] (fun c i wr => ∃ v : Nat, v ≤ 256 ∧ i = .int .i64 v ∧ c = .int .i64 (cnt s[iN].toNat v) ∧ Good s iN B w wr) (fun _ i _ => 256 - (intOf i).toNat)
    case atStart => exact ⟨0, Nat.zero_le _, rfl, rfl, hg1⟩
    case round =>
      obtain ⟨v, hv, rfl, rfl, hg⟩ := hrel
      have hcl := cnt_le s[iN].toNat v
      obtain ⟨x, hx0⟩ := hg.here
      have hfz := hg.free
      by_cases hlt : v < 256
      · have hb := back hg hi v hlt cap
        have hlt' : (v : Int) < 256 := by omega
        by_cases hq : lowN s[iN].toNat = lowN v
        · have he := eqf_hit hi hlt hq
          have HC : Hid (cnt s[iN].toNat (v + 1) = cnt s[iN].toNat v + 1) := cnt_hit hq
          clear hq
          go_wp2_with (go_at_call 6; refine (fold_any s _ _ ?_).mono ?_; (unfold maxLen; omega); rintro e w' ⟨rfl, n, rfl⟩)
          go_roundw
          case rel => exact ⟨v + 1, by omega, by go_num, by rw [HC.out]; go_num, (hg.setCell _).drewN _⟩
          case measure => simp [intOf]; omega
        · have he := eqf_miss hi hlt hq
          have HC : Hid (cnt s[iN].toNat (v + 1) = cnt s[iN].toNat v) := cnt_miss hq
          clear hq
          go_wp2_with (go_at_call 6; refine (fold_any s _ _ ?_).mono ?_; (unfold maxLen; omega); rintro e w' ⟨rfl, n, rfl⟩)
          go_roundw
          case rel => exact ⟨v + 1, by omega, by go_num, by rw [HC.out], (hg.setCell _).drewN _⟩
          case measure => simp [intOf]; omega
      · obtain rfl : v = 256 := by omega
        have hc2 : cnt s[iN].toNat 256 = 2 := hcnt.out
        have hs2 := eqf_self s
        clear hx0 hfz hcl
        go_wp2_with fail
        refine (fold_any s s _ (by unfold maxLen; omega)).mono ?_
        rintro e w' ⟨rfl, n, rfl⟩
        have hg2 := hg.drewN n
        clear hg
        generalize wr.drewN n = wr2 at *
        obtain ⟨x, hx0⟩ := hg2.here
        have hfz := hg2.free
        obtain ⟨q, hbx, hx1, hx2⟩ : ∃ q : Nat, bits .xor .u8 (s[iN].toNat : Int) 32 = (q : Int) ∧ lowN s[iN].toNat = lowN q ∧ q < 256 :=
          ⟨s[iN].toNat ^^^ 32, u8_xor_nat _ 32 (by omega) (by omega), hx.out.1, hx.out.2⟩
        have hb := back hg2 hi q hx2 cap
        have he := eqf_hit hi hx2 hx1
        clear hx1
        go_wp2_with fail
        refine (fold_any s _ _ (by unfold maxLen; omega)).mono ?_
        rintro e w' ⟨rfl, n2, rfl⟩
        go_wp2
        go_ret
        exact ⟨rfl, below_drewN' (hg2.setCell _).below _⟩

set_option maxHeartbeats 1000000 in
theorem one_other (s : ByteArray) (iN : Nat) (w W1 : World) (B cap : Nat) (hsz : s.size ≤ 65536) (hi : iN < s.size)
    (hl : s[iN].toNat < 65 ∨ (90 < s[iN].toNat ∧ s[iN].toNat < 97) ∨ 122 < s[iN].toNat)
    (hconv : (convert 9 26 (.string s)).run Try.prog w = .ok (.slice (some ⟨B, 0, none⟩) s.size cap) W1) (hg1 : Good s iN B w W1) :
    Calls Try.prog 4 #[.string s, .int .i64 (iN : Int)] w fun e w' => e = .returned (.bool true) ∧ Below w.heap.size w w' := by
  have hbig : (s.size : Int) ≤ 1048576 := by omega
  have hsz' : (s.size : Int) ≤ 65536 := by omega
  have hi' : (iN : Int) < (s.size : Int) := by omega
  have hge : ¬ s.size ≤ iN := by omega
  have hng : ¬ (iN : Int) < 0 := by omega
  have hsg : ¬ (65536 : Int) < (s.size : Int) := by omega
  have hlt256 := s[iN].toNat_lt
  have hcnt : Hid (cnt s[iN].toNat 256 = 1) := cnt_other _ (by omega) hl
  clear hlt256
  rcases hl with h1 | ⟨h1, h2⟩ | h1
  · have k1 : ¬ (65 : Int) ≤ (s[iN].toNat : Int) := by omega
    have k2 : ¬ (97 : Int) ≤ (s[iN].toNat : Int) := by omega
    clear h1
    go_enter Try.func4, Try.ntmps4
    go_wp2
    go_loopw [8, 9] (fun c i wr => ∃ v : Nat, v ≤ 256 ∧ i = .int .i64 v ∧ c = .int .i64 (cnt s[iN].toNat v) ∧ Good s iN B w wr) (fun _ i _ => 256 - (intOf i).toNat)
    case atStart => exact ⟨0, Nat.zero_le _, rfl, rfl, hg1⟩
    case round =>
      obtain ⟨v, hv, rfl, rfl, hg⟩ := hrel
      have hcl := cnt_le s[iN].toNat v
      obtain ⟨x, hx0⟩ := hg.here
      have hfz := hg.free
      by_cases hlt : v < 256
      · have hb := back hg hi v hlt cap
        have hlt' : (v : Int) < 256 := by omega
        by_cases hq : lowN s[iN].toNat = lowN v
        · have he := eqf_hit hi hlt hq
          have HC : Hid (cnt s[iN].toNat (v + 1) = cnt s[iN].toNat v + 1) := cnt_hit hq
          clear hq
          go_wp2_with (go_at_call 6; refine (fold_any s _ _ ?_).mono ?_; (unfold maxLen; omega); rintro e w' ⟨rfl, n, rfl⟩)
          go_roundw
          case rel => exact ⟨v + 1, by omega, by go_num, by rw [HC.out]; go_num, (hg.setCell _).drewN _⟩
          case measure => simp [intOf]; omega
        · have he := eqf_miss hi hlt hq
          have HC : Hid (cnt s[iN].toNat (v + 1) = cnt s[iN].toNat v) := cnt_miss hq
          clear hq
          go_wp2_with (go_at_call 6; refine (fold_any s _ _ ?_).mono ?_; (unfold maxLen; omega); rintro e w' ⟨rfl, n, rfl⟩)
          go_roundw
          case rel => exact ⟨v + 1, by omega, by go_num, by rw [HC.out], (hg.setCell _).drewN _⟩
          case measure => simp [intOf]; omega
      · obtain rfl : v = 256 := by omega
        have hc2 : cnt s[iN].toNat 256 = 1 := hcnt.out
        have hs2 := eqf_self s
        clear hx0 hfz hcl
        go_wp2_with fail
        refine (fold_any s s _ (by unfold maxLen; omega)).mono ?_
        rintro e w' ⟨rfl, n, rfl⟩
        have hg2 := hg.drewN n
        clear hg
        generalize wr.drewN n = wr2 at *
        go_wp2
        go_ret
        exact ⟨rfl, hg2.below⟩
  · have k1 : ¬ (s[iN].toNat : Int) ≤ 90 := by omega
    have k2 : ¬ (97 : Int) ≤ (s[iN].toNat : Int) := by omega
    have k3 : (65 : Int) ≤ (s[iN].toNat : Int) := by omega
    clear h1 h2
    go_enter Try.func4, Try.ntmps4
    go_wp2
    go_loopw [8, 9] (fun c i wr => ∃ v : Nat, v ≤ 256 ∧ i = .int .i64 v ∧ c = .int .i64 (cnt s[iN].toNat v) ∧ Good s iN B w wr) (fun _ i _ => 256 - (intOf i).toNat)
    case atStart => exact ⟨0, Nat.zero_le _, rfl, rfl, hg1⟩
    case round =>
      obtain ⟨v, hv, rfl, rfl, hg⟩ := hrel
      have hcl := cnt_le s[iN].toNat v
      obtain ⟨x, hx0⟩ := hg.here
      have hfz := hg.free
      by_cases hlt : v < 256
      · have hb := back hg hi v hlt cap
        have hlt' : (v : Int) < 256 := by omega
        by_cases hq : lowN s[iN].toNat = lowN v
        · have he := eqf_hit hi hlt hq
          have HC : Hid (cnt s[iN].toNat (v + 1) = cnt s[iN].toNat v + 1) := cnt_hit hq
          clear hq
          go_wp2_with (go_at_call 6; refine (fold_any s _ _ ?_).mono ?_; (unfold maxLen; omega); rintro e w' ⟨rfl, n, rfl⟩)
          go_roundw
          case rel => exact ⟨v + 1, by omega, by go_num, by rw [HC.out]; go_num, (hg.setCell _).drewN _⟩
          case measure => simp [intOf]; omega
        · have he := eqf_miss hi hlt hq
          have HC : Hid (cnt s[iN].toNat (v + 1) = cnt s[iN].toNat v) := cnt_miss hq
          clear hq
          go_wp2_with (go_at_call 6; refine (fold_any s _ _ ?_).mono ?_; (unfold maxLen; omega); rintro e w' ⟨rfl, n, rfl⟩)
          go_roundw
          case rel => exact ⟨v + 1, by omega, by go_num, by rw [HC.out], (hg.setCell _).drewN _⟩
          case measure => simp [intOf]; omega
      · obtain rfl : v = 256 := by omega
        have hc2 : cnt s[iN].toNat 256 = 1 := hcnt.out
        have hs2 := eqf_self s
        clear hx0 hfz hcl
        go_wp2_with fail
        refine (fold_any s s _ (by unfold maxLen; omega)).mono ?_
        rintro e w' ⟨rfl, n, rfl⟩
        have hg2 := hg.drewN n
        clear hg
        generalize wr.drewN n = wr2 at *
        go_wp2
        go_ret
        exact ⟨rfl, hg2.below⟩
  · have k1 : ¬ (s[iN].toNat : Int) ≤ 90 := by omega
    have k2 : ¬ (s[iN].toNat : Int) ≤ 122 := by omega
    have k3 : (65 : Int) ≤ (s[iN].toNat : Int) := by omega
    have k4 : (97 : Int) ≤ (s[iN].toNat : Int) := by omega
    clear h1
    go_enter Try.func4, Try.ntmps4
    go_wp2
    go_loopw [8, 9] (fun c i wr => ∃ v : Nat, v ≤ 256 ∧ i = .int .i64 v ∧ c = .int .i64 (cnt s[iN].toNat v) ∧ Good s iN B w wr) (fun _ i _ => 256 - (intOf i).toNat)
    case atStart => exact ⟨0, Nat.zero_le _, rfl, rfl, hg1⟩
    case round =>
      obtain ⟨v, hv, rfl, rfl, hg⟩ := hrel
      have hcl := cnt_le s[iN].toNat v
      obtain ⟨x, hx0⟩ := hg.here
      have hfz := hg.free
      by_cases hlt : v < 256
      · have hb := back hg hi v hlt cap
        have hlt' : (v : Int) < 256 := by omega
        by_cases hq : lowN s[iN].toNat = lowN v
        · have he := eqf_hit hi hlt hq
          have HC : Hid (cnt s[iN].toNat (v + 1) = cnt s[iN].toNat v + 1) := cnt_hit hq
          clear hq
          go_wp2_with (go_at_call 6; refine (fold_any s _ _ ?_).mono ?_; (unfold maxLen; omega); rintro e w' ⟨rfl, n, rfl⟩)
          go_roundw
          case rel => exact ⟨v + 1, by omega, by go_num, by rw [HC.out]; go_num, (hg.setCell _).drewN _⟩
          case measure => simp [intOf]; omega
        · have he := eqf_miss hi hlt hq
          have HC : Hid (cnt s[iN].toNat (v + 1) = cnt s[iN].toNat v) := cnt_miss hq
          clear hq
          go_wp2_with (go_at_call 6; refine (fold_any s _ _ ?_).mono ?_; (unfold maxLen; omega); rintro e w' ⟨rfl, n, rfl⟩)
          go_roundw
          case rel => exact ⟨v + 1, by omega, by go_num, by rw [HC.out], (hg.setCell _).drewN _⟩
          case measure => simp [intOf]; omega
      · obtain rfl : v = 256 := by omega
        have hc2 : cnt s[iN].toNat 256 = 1 := hcnt.out
        have hs2 := eqf_self s
        clear hx0 hfz hcl
        go_wp2_with fail
        refine (fold_any s s _ (by unfold maxLen; omega)).mono ?_
        rintro e w' ⟨rfl, n, rfl⟩
        have hg2 := hg.drewN n
        clear hg
        generalize wr.drewN n = wr2 at *
        go_wp2
        go_ret
        exact ⟨rfl, hg2.below⟩

theorem good_start (s : ByteArray) (iN cap : Nat) (hi : iN < s.size) (w : World) :
    Good s iN w.heap.size w (w.drew.alloc (.cells (bytesRow s cap) 5 ((bytesRow s cap).size, (bytesRow s cap).size + 1))) := by
  have hsz : (w.drew).heap.size = w.heap.size := rfl
  have hr : s.size ≤ (bytesRow s cap).size := by
    unfold bytesRow
    rw [Array.size_append, Array.size_map]
    exact Nat.le_add_right _ _
  have hc : ∀ j (hj : j < s.size), (w.drew.alloc (.cells (bytesRow s cap) 5 ((bytesRow s cap).size, (bytesRow s cap).size + 1))).cell? ⟨w.heap.size, j, none⟩ = some (.int .u8 (s[j].toNat : Int)) := fun j hj => by
    have h := World.cell?_alloc_mark w.drew (bytesRow s cap) 5 ((bytesRow s cap).size, (bytesRow s cap).size + 1) j
    rw [hsz] at h
    rw [h, bytesRow_at s cap j hj]
    rfl
  refine ⟨fun j hj _ => hc j hj, ⟨_, hc iN hi⟩, ?_, ?_, Nat.le_refl _⟩
  · have h := World.frozen?_alloc_mark w.drew (bytesRow s cap) 5 (bytesRow s cap).size ((bytesRow s cap).size + 1) iN
    rw [hsz] at h
    rw [h]
    have : ¬ (bytesRow s cap).size ≤ iN := by omega
    simp [this]
  · exact (Below.refl _ w).drew.alloc (Nat.le_refl _) _

theorem one_main (s : ByteArray) (iN : Nat) (w : World) (hsz : s.size ≤ 65536) (hi : iN < s.size) :
    Calls Try.prog 4 #[.string s, .int .i64 (iN : Int)] w fun e w' => e = .returned (.bool true) ∧ Below w.heap.size w w' := by
  have hconv := run_bytes_of_string (P := Try.prog) w 9 26 5 s Try.underlying9 Try.underlying26 Try.underlying5
  have hg := good_start s iN (grownCap w s.size 0 5) hi w
  by_cases hl : (65 ≤ s[iN].toNat ∧ s[iN].toNat ≤ 90) ∨ (97 ≤ s[iN].toNat ∧ s[iN].toNat ≤ 122)
  · exact one_letter s iN w _ _ _ hsz hi hl hconv hg
  · exact one_other s iN w _ _ _ hsz hi (by omega) hconv hg

theorem one_any (s : ByteArray) (i : Int) (hs : s.size ≤ maxLen) (w1 : (Lit.int .i64 i).wf = true) (w : World) :
    Calls Try.prog 4 #[.string s, .int .i64 i] w fun e w' => e = .returned (.bool true) ∧ Below w.heap.size w w' := by
  unfold maxLen at hs
  have hb := bounds_i64 w1
  by_cases h1 : (1048576 : Int) < (s.size : Int)
  · go_enter Try.func4, Try.ntmps4
    go_wp2
    go_ret
    exact ⟨rfl, Below.refl _ _⟩
  by_cases h2 : (65536 : Int) < (s.size : Int)
  · go_enter Try.func4, Try.ntmps4
    go_wp2
    go_ret
    exact ⟨rfl, Below.refl _ _⟩
  by_cases h3 : i < 0
  · go_enter Try.func4, Try.ntmps4
    go_wp2
    go_ret
    exact ⟨rfl, Below.refl _ _⟩
  by_cases h4 : (s.size : Int) ≤ i
  · go_enter Try.func4, Try.ntmps4
    go_wp2
    go_ret
    exact ⟨rfl, Below.refl _ _⟩
  obtain ⟨iN, rfl⟩ := Int.eq_ofNat_of_zero_le (show 0 ≤ i by omega)
  exact one_main s iN w (by omega) (by omega)
end Go.Proofs.Qxb6629095a
