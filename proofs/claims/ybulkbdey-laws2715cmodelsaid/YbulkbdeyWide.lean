import Derived.Test.YbulkbdeyRead3
import Derived.Test.YbulkbdeyCode
namespace Go.Proofs.Ybulkbdey
open Go.RowKit Go.Deep
set_option linter.unusedVariables false

set_option maxHeartbeats 800000 in
theorem read_long (bs : List Nat) (R G at_ n : Nat) (w : World) (h : Rd w R G bs at_) (hf : Fits bs) (hat : at_ < 800000) (hn : n ≤ 64) (hn' : 56 < n) :
    Calls Yba.prog 7 #[.pointer (some ⟨R, 0, .none⟩), .int .u64 n] w fun e w' => e = .returned (.int .u64 (wordAt bs at_ n)) ∧ Rd w' R G bs (at_ + n) ∧ Upd (· = R) w w' := by
  have hn2 : (56 : Int) < (n : Int) := by omega
  have hL : Calls Yba.prog 13 #[.pointer (some ⟨R, 0, .none⟩), .int .u64 n] w fun e w' => e = .returned (.int .u64 (wordAt bs at_ n)) ∧ Rd w' R G bs (at_ + n) ∧ Upd (· = R) w w' := by
    by_cases hge : at_ / 8 + 9 ≤ bs.length
    · exact readLong_in bs R G at_ n w h hf hat hn hn' hge
    · exact readLong_end bs R G at_ n w h hf hat hn hn' (by omega)
  have HL : Hid (Calls Yba.prog 13 #[.pointer (some ⟨R, 0, .none⟩), .int .u64 n] w fun e w' => e = .returned (.int .u64 (wordAt bs at_ n)) ∧ Rd w' R G bs (at_ + n) ∧ Upd (· = R) w w') := hL
  clear hL
  go_enter Yba.func7, Yba.ntmps7
  go_wp2_with fail
  refine HL.out.mono ?_
  rintro e w1 ⟨rfl, h1, hu⟩
  go_wp2
  go_ret
  exact ⟨rfl, h1, hu⟩

theorem read_any (bs : List Nat) (R G at_ n : Nat) (w : World) (h : Rd w R G bs at_) (hf : Fits bs) (hat : at_ < 800000) (hn : n ≤ 64) :
    Calls Yba.prog 7 #[.pointer (some ⟨R, 0, .none⟩), .int .u64 n] w fun e w' => e = .returned (.int .u64 (wordAt bs at_ n)) ∧ Rd w' R G bs (at_ + n) ∧ Upd (· = R) w w' := by
  by_cases h56 : n ≤ 56
  · exact read_small bs R G at_ n w h hf (by omega) h56
  · exact read_long bs R G at_ n w h hf hat hn (by omega)

theorem or_wide' (v lo : Nat) (hv : v < 64) (hlo : lo < 18446744073709551616) : bits .or .u64 (IntKind.u64.wrap (2 ^ v)) (lo : Int) = ((2 ^ v ||| lo : Nat) : Int) := by
  have e : (2 : Int) ^ v = ((2 ^ v : Nat) : Int) := by rw [Int.natCast_pow]; rfl
  have hlt : 2 ^ v < 18446744073709551616 := Nat.lt_of_lt_of_le (Nat.pow_lt_pow_right (by decide) hv) (by decide)
  rw [e, wrap_nat _ hlt, or_nat _ _ hlt hlo]

set_option maxHeartbeats 800000 in
theorem readWide_any (bs : List Nat) (R G at_ : Nat) (w : World) (h : Rd w R G bs at_) (hf : Fits bs) (hat : at_ < 700000) :
    Calls Yba.prog 10 #[.pointer (some ⟨R, 0, .none⟩)] w fun e w' => e = .returned (.int .u64 (2 ^ wordAt bs at_ 6 ||| wordAt bs (at_ + 6) (wordAt bs at_ 6) : Nat)) ∧ Rd w' R G bs (at_ + 6 + wordAt bs at_ 6) ∧ Upd (· = R) w w' := by
  go_enter Yba.func10, Yba.ntmps10
  go_wp2_with fail
  refine (read_any bs R G at_ 6 w h hf (by omega) (by omega)).mono ?_
  rintro e w1 ⟨rfl, h1, hu1⟩
  have hv := wordAt_lt bs at_ 6
  generalize hvv : wordAt bs at_ 6 = v at *
  have Hv : Hid (wordAt bs at_ 6 = v) := hvv
  clear hvv
  go_wp2_with fail
  refine (read_any bs R G (at_ + 6) v w1 h1 hf (by omega) (by omega)).mono ?_
  rintro e w2 ⟨rfl, h2, hu2⟩
  have hlo := wordAt_lt bs (at_ + 6) v
  have hlo' : wordAt bs (at_ + 6) v < 18446744073709551616 := Nat.lt_of_lt_of_le hlo (show 2 ^ v ≤ 2 ^ 64 from Nat.pow_le_pow_right (by decide) (by omega))
  go_wp2
  go_ret
  have e := Hv.out
  subst e
  exact ⟨ret_int (or_wide' _ _ (by omega) hlo'), h2, hu1.trans hu2⟩

theorem bitLen_of (x k : Nat) (hk : k < 64) (h1 : 2 ^ k ≤ x) (h2 : x < 2 ^ (k + 1)) : Lib.bitLen x = k + 1 := by
  have hx : x < 2 ^ 64 := Nat.lt_of_lt_of_le h2 (Nat.pow_le_pow_right (by decide) (by omega))
  rw [Lib.bitLen_shift k x h1 hx]
  have : x / 2 ^ k = 1 := by
    apply Nat.le_antisymm
    · have : x / 2 ^ k < 2 := by rw [Nat.div_lt_iff_lt_mul (Nat.two_pow_pos _), ← Nat.pow_succ']; exact h2
      omega
    · rw [Nat.le_div_iff_mul_le (Nat.two_pow_pos _)]; omega
  rw [this]
  congr 1

/-- the leading zeros of what peek gives -/
theorem lz_peek (bs : List Nat) (p : Nat) : (zerosAt bs p < 24 → 64 - (Lib.bitLen (peekAt bs p) : Int) = (zerosAt bs p : Int)) ∧ (zerosAt bs p = 24 → 24 ≤ 64 - (Lib.bitLen (peekAt bs p) : Int) ∧ 64 - (Lib.bitLen (peekAt bs p) : Int) ≤ 64) := by
  obtain ⟨a, b⟩ := peekAt_bounds bs p
  constructor
  · intro h
    obtain ⟨h1, h2⟩ := a h
    have := bitLen_of (peekAt bs p) (63 - zerosAt bs p) (by omega) h1 (by rw [show 63 - zerosAt bs p + 1 = 64 - zerosAt bs p by omega]; exact h2)
    rw [this]
    omega
  · intro h
    have := Lib.bitLen_le (peekAt bs p) 40 (by omega) (b h)
    omega

end Go.Proofs.Ybulkbdey
