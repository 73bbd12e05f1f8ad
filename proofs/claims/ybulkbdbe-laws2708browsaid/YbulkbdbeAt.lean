import Derived.Test.YbulkbdbeRound
import Derived.Below
namespace Go.Proofs.Ybulkbdbe
open Go.RowKit Flt Ieee

set_option maxHeartbeats 400000 in
theorem clock_any (C N : Nat) (now : Int) (w : World) (hC : w.cell? ⟨C, 0, none⟩ = some (.int .i64 0)) (hz : w.frozen? ⟨C, 0, none⟩ = false) (hN : w.cell? ⟨N, 0, none⟩ = some (.int .i64 now)) (hne : N ≠ C) :
    Calls Yba.prog 15 #[.pointer (some ⟨C, 0, none⟩), .pointer (some ⟨N, 0, none⟩)] w fun e w' => e = .returned (.int .i64 now) ∧ w' = w.setCell ⟨C, 0, none⟩ (.int .i64 1) := by
  have hN2 : (w.setCell ⟨C, 0, none⟩ (.int .i64 1)).cell? ⟨N, 0, none⟩ = some (.int .i64 now) := by
    rw [World.cell?_of_block (w := w) (Below.heap_setCell w _ _ N hne)]; exact hN
  go_enter Yba.func15, Yba.ntmps15
  go_wp2
  go_ret
  exact ⟨rfl, rfl⟩

set_option maxHeartbeats 800000 in
theorem at_shut (b : Nat) (C N : Nat) (w : World) (hc : w.cell? ⟨b, 0, none⟩ = some (.int .u64 18442240474082181120)) :
    Calls Yba.prog 14 #[.pointer (some ⟨b, 0, none⟩), .func (.func 15) #[] #[.pointer (some ⟨C, 0, none⟩), .pointer (some ⟨N, 0, none⟩)]] w fun e w' => e = .returned (.int .i64 0) ∧ w' = w := by
  have hn := shut_neg
  have HR : Hid (Calls Yba.prog 13 #[.pointer (some ⟨b, 0, none⟩)] w fun e w' => e = .returned (.float .f64 18442240474082181120) ∧ w' = w) := rank_any b 18442240474082181120 w hc
  clear hc
  go_enter Yba.func14, Yba.ntmps14
  go_wp2_with (first | (go_at_call 13; refine HR.out.mono ?_; rintro e w' ⟨rfl, rfl⟩) | (go_at_call 12; refine (isinf_neg _ _).mono ?_; rintro e w' ⟨rfl, rfl⟩))
  go_ret
  exact ⟨rfl, rfl⟩

set_option maxHeartbeats 1000000 in
set_option maxRecDepth 100000 in
theorem at_open (b r : Nat) (C N : Nat) (now : Int) (w : World) (hr : Ok r) (h1 : -9223372036854775808 ≤ now) (h2 : now ≤ 9223372036854775807) (hc : w.cell? ⟨b, 0, none⟩ = some (.int .u64 r))
    (hC : w.cell? ⟨C, 0, none⟩ = some (.int .i64 0)) (hz : w.frozen? ⟨C, 0, none⟩ = false) (hN : w.cell? ⟨N, 0, none⟩ = some (.int .i64 now)) (hne : N ≠ C) :
    Calls Yba.prog 14 #[.pointer (some ⟨b, 0, none⟩), .func (.func 15) #[] #[.pointer (some ⟨C, 0, none⟩), .pointer (some ⟨N, 0, none⟩)]] w fun e w' => (∃ n, e = .returned (.int .i64 n)) ∧ (w' = w.setCell ⟨C, 0, none⟩ (.int .i64 1) ∨ w' = (w.setCell ⟨C, 0, none⟩ (.int .i64 1)).drew) := by
  have hn := ok_open hr
  have HR : Hid (Calls Yba.prog 13 #[.pointer (some ⟨b, 0, none⟩)] w fun e w' => e = .returned (.float .f64 r) ∧ w' = w) := (rank_any b r w hc).mono fun e w' ⟨he, hw⟩ => ⟨by rw [he]; rfl, hw⟩
  have HK : Hid (Calls Yba.prog 15 #[.pointer (some ⟨C, 0, none⟩), .pointer (some ⟨N, 0, none⟩)] w fun e w' => e = .returned (.int .i64 now) ∧ w' = w.setCell ⟨C, 0, none⟩ (.int .i64 1)) := clock_any C N now w hC hz hN hne
  have HV : Hid (GivesIn 29 #[.float .f64 r, .int .i64 now] (· ≤ 9218868437227405312)) := valueAt_in r now h1 h2 (.inl hr)
  clear hr h1 h2 hc hC hz hN hne
  go_enter Yba.func14, Yba.ntmps14
  go_wp2_with (first | (go_at_call 13; refine HR.out.mono ?_; rintro e w' ⟨rfl, rfl⟩) | (go_at_call 12; refine (isinf_neg _ _).mono ?_; rintro e w' ⟨rfl, rfl⟩) | fail)
  refine HK.out.mono ?_
  rintro e w1 ⟨rfl, hw1⟩
  have HW1 : Hid (w1 = w'.setCell ⟨C, 0, none⟩ (.int .i64 1)) := hw1
  clear HK hw1 HR
  go_wp2_with fail
  refine (HV.out _).mono ?_
  rintro e w2 ⟨⟨v, rfl, hv⟩, rfl⟩
  go_wp2_with fail
  refine (round_any v hv _).mono ?_
  rintro e w3 ⟨⟨z, rfl⟩, rfl⟩
  obtain ⟨n, w4, hcv, hw4, n1, n2⟩ := conv_any z w3
  have HW : Hid (w4 = w3 ∨ w4 = w3.drew) := hw4
  clear hw4 hv HV
  go_wp2
  all_goals go_ret
  all_goals exact ⟨⟨_, rfl⟩, HW.out.elim (fun h => .inl (h.trans HW1.out)) (fun h => .inr (by rw [h, HW1.out]))⟩

end Go.Proofs.Ybulkbdbe
