import Derived.Test.YbulkbdhcAtomic
import Derived.Test.YbulkbdhcShelf
import Derived.BigQuiet
import Derived.Deep.QuietTactic
namespace Go.Proofs.Ybulkbdhc
open Go.RowKit Go.Deep
set_option linter.unusedVariables false

def baseOf (c : Nat) : Nat := 16 * (2 ^ c - 1)

theorem baseOf_succ (c : Nat) : baseOf (c + 1) = baseOf c + 16 * 2 ^ c := by
  unfold baseOf
  have := Nat.two_pow_pos c
  rw [Nat.pow_succ]; omega

theorem bitLen_of (x k : Nat) (hk : k < 64) (h1 : 2 ^ k ≤ x) (h2 : x < 2 ^ (k + 1)) : Lib.bitLen x = k + 1 := by
  have hx : x < 2 ^ 64 := Nat.lt_of_lt_of_le h2 (Nat.pow_le_pow_right (by decide) (by omega))
  rw [Lib.bitLen_shift k x h1 hx]
  have : x / 2 ^ k = 1 := by
    apply Nat.le_antisymm
    · have : x / 2 ^ k < 2 := by rw [Nat.div_lt_iff_lt_mul (Nat.two_pow_pos _), ← Nat.pow_succ']; exact h2
      omega
    · rw [Nat.le_div_iff_mul_le (Nat.two_pow_pos _)]; omega
  rw [this]
  congr 1

theorem bitLen_chunk (i c : Nat) (hc : c ≤ 6) (h1 : baseOf c ≤ i) (h2 : i < baseOf (c + 1)) : Lib.bitLen (i / 16 + 1) = c + 1 := by
  have hp := Nat.two_pow_pos c
  refine bitLen_of (i / 16 + 1) c (by omega) ?_ ?_
  · unfold baseOf at h1; omega
  · rw [baseOf_succ] at h2
    unfold baseOf at h2
    rw [Nat.pow_succ]; omega

theorem off_val (i c : Nat) (hc : c ≤ 6) (h1 : baseOf c ≤ i) (h2 : i < 2000) :
    IntKind.u64.wrap ((i : Int) - IntKind.u64.wrap (16 * IntKind.u64.wrap (IntKind.u64.wrap (2 ^ c) - 1))) = ((i - baseOf c : Nat) : Int) := by
  have hcs : c = 0 ∨ c = 1 ∨ c = 2 ∨ c = 3 ∨ c = 4 ∨ c = 5 ∨ c = 6 := by omega
  rcases hcs with rfl | rfl | rfl | rfl | rfl | rfl | rfl <;> (simp [baseOf, IntKind.wrap_u64] at *; omega)

theorem ret_pair {a b c d : Int} (h : a = b) (h' : c = d) : Ending.returned (.tuple #[.int .i64 a, .int .u64 c]) = .returned (.tuple #[.int .i64 b, .int .u64 d]) := by rw [h, h']

set_option maxHeartbeats 400000 in
theorem chunkOf_any (i c : Nat) (w : World) (hc : c ≤ 6) (h1 : baseOf c ≤ i) (h2 : i < baseOf (c + 1)) (h3 : i < 2000) :
    Calls Yba.prog 13 #[.int .u32 i] w fun e w' => e = .returned (.tuple #[.int .i64 c, .int .u64 (i - baseOf c : Nat)]) ∧ ∃ n, w' = w.drewN n := by
  have hb := bitLen_chunk i c hc h1 h2
  have Hb : Hid (Lib.bitLen (i / 16 + 1) = c + 1) := hb
  have Hv : Hid (IntKind.u64.wrap ((i : Int) - IntKind.u64.wrap (16 * IntKind.u64.wrap (IntKind.u64.wrap (2 ^ c) - 1))) = ((i - baseOf c : Nat) : Int)) := off_val i c hc h1 h3
  clear hb h1 h2
  have hi0 : (i : Int) < 2000 := by omega
  go_enter Yba.func13, Yba.ntmps13
  go_wp2_with fail
  refine (Yba.bits_Len64 _ _ (by omega) (by omega)).mono ?_
  rintro e w2 ⟨rfl, rfl⟩
  rw [show ((i : Int) / 16 + 1).toNat = i / 16 + 1 by omega, Hb.out]
  go_wp2_with fail
  go_quiet (fail)
  go_wp2
  go_ret2
  exact ⟨ret_pair (by omega) Hv.out, _, rfl⟩
end Go.Proofs.Ybulkbdhc
