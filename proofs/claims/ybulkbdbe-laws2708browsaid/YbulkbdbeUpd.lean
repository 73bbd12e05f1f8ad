import Derived.Test.YbulkbdbeRank
namespace Go.Proofs.Ybulkbdbe
open Go.RowKit

/-- a function of floats that only reckons -/
def Gives (f : Nat) (args : Array Value) (v : Nat) : Prop := ∀ w : World, Calls Yba.prog f args w fun e w' => e = .returned (.float .f64 v) ∧ w' = w

def giga : Nat := 4741671816366391296

set_option maxHeartbeats 400000 in
theorem valueAt_of (r : Nat) (now : Int) (x d v : Nat) (hq : floatBits .quo .f64 (floatOfInt .f64 now) 4741671816366391296 = some x)
    (hs : floatBits .sub .f64 r x = some d) (hE : Gives 41 #[.float .f64 d] v) : Gives 29 #[.float .f64 r, .int .i64 now] v := by
  intro w
  have q1 := fop .quo _ _ _ hq
  have q2 := fop .sub _ _ _ hs
  clear hq hs
  go_enter Yba.func29, Yba.ntmps29
  go_wp2_with (go_at_call 41; refine (hE _).mono ?_; rintro e w' ⟨rfl, rfl⟩)
  go_ret
  exact ⟨rfl, rfl⟩

set_option maxHeartbeats 400000 in
theorem rankOf_of (v : Nat) (now : Int) (x l y : Nat) (hq : floatBits .quo .f64 (floatOfInt .f64 now) 4741671816366391296 = some x)
    (hL : Gives 48 #[.float .f64 v] l) (hs : floatBits .add .f64 l x = some y) : Gives 40 #[.float .f64 v, .int .i64 now] y := by
  intro w
  have q1 := fop .quo _ _ _ hq
  have q2 := fop .add _ _ _ hs
  clear hq hs
  go_enter Yba.func40, Yba.ntmps40
  go_wp2_with (go_at_call 48; refine (hL _).mono ?_; rintro e w' ⟨rfl, rfl⟩)
  go_ret
  exact ⟨rfl, rfl⟩

set_option maxHeartbeats 400000 in
theorem succ_of (n v : Nat) (hs : floatBits .add .f64 n 4607182418800017408 = some v) : Gives 25 #[.float .f64 n] v := by
  intro w
  have q2 := fop .add _ _ _ hs
  clear hs
  go_enter Yba.func25, Yba.ntmps25
  go_wp2
  go_ret
  exact ⟨rfl, rfl⟩

set_option maxHeartbeats 800000 in
theorem update_of (b r : Nat) (now : Int) (n v y : Nat) (w : World) (hc : w.cell? ⟨b, 0, none⟩ = some (.int .u64 r)) (hz : w.frozen? ⟨b, 0, none⟩ = false)
    (hV : Gives 29 #[.float .f64 r, .int .i64 now] n) (hS : Gives 25 #[.float .f64 n] v) (hR : Gives 40 #[.float .f64 v, .int .i64 now] y) :
    Calls Yba.prog 24 #[.pointer (some ⟨b, 0, none⟩), .int .i64 now, .func (.func 25) #[] #[]] w fun e w' => e = .returned (.tuple #[]) ∧ w' = (w.setCell ⟨b, 0, none⟩ (.int .u64 y)).drew := by
  have hb := run_bits
  have hf := run_frombits
  have hc' : w.drew.cell? ⟨b, 0, none⟩ = some (.int .u64 r) := hc
  have hz' : w.drew.frozen? ⟨b, 0, none⟩ = false := hz
  go_enter Yba.func24, Yba.ntmps24
  go_wp2
  refine wp_loop_rounds 1 ?_
  rw [rounds_succ]
  go_wp2_with (first | (go_at_call 16; refine (load_any b r _ hc).mono ?_; rintro e w' ⟨rfl, rfl⟩) | (go_at_call 29; refine (hV _).mono ?_; rintro e w' ⟨rfl, rfl⟩) | (go_at_call 25; refine (hS _).mono ?_; rintro e w' ⟨rfl, rfl⟩))
  go_region_with (first | (go_at_call 40; refine (hR _).mono ?_; rintro e w' ⟨rfl, rfl⟩) | (go_at_call 39; refine (cas_any b r y _ hc' hz').mono ?_; rintro e w' ⟨rfl, rfl⟩))
  all_goals go_wp2
  all_goals (first | go_end0 | refine bodyPost_ret (results_none rfl _ _ _) rfl ?_)
  all_goals exact ⟨rfl, rfl⟩

set_option maxHeartbeats 800000 in
theorem failed_of (b r : Nat) (now : Int) (n v y : Nat) (w : World) (hc : w.cell? ⟨b, 0, none⟩ = some (.int .u64 r)) (hz : w.frozen? ⟨b, 0, none⟩ = false)
    (hV : Gives 29 #[.float .f64 r, .int .i64 now] n) (hS : Gives 25 #[.float .f64 n] v) (hR : Gives 40 #[.float .f64 v, .int .i64 now] y) :
    Calls Yba.prog 11 #[.pointer (some ⟨b, 0, none⟩), .int .i64 now, .string ⟨#[102, 97, 105, 108, 101, 100]⟩] w fun e w' => e = .returned (.tuple #[]) ∧ w' = (w.setCell ⟨b, 0, none⟩ (.int .u64 y)).drew := by
  go_enter Yba.func11, Yba.ntmps11
  go_wp2_with (go_at_call 24; refine (update_of b r now n v y _ hc hz hV hS hR).mono ?_; rintro e w' ⟨rfl, rfl⟩)
  all_goals (first | go_end0 | refine bodyPost_ret (results_none rfl _ _ _) rfl ?_)
  all_goals exact ⟨rfl, rfl⟩

set_option maxHeartbeats 800000 in
theorem abandoned_any (b : Nat) (now : Int) (w : World) :
    Calls Yba.prog 11 #[.pointer (some ⟨b, 0, none⟩), .int .i64 now, .string ⟨#[97, 98, 97, 110, 100, 111, 110, 101, 100]⟩] w fun e w' => e = .returned (.tuple #[]) ∧ w' = w := by
  go_enter Yba.func11, Yba.ntmps11
  go_wp2
  all_goals (first | go_end0 | refine bodyPost_ret (results_none rfl _ _ _) rfl ?_)
  all_goals exact ⟨rfl, rfl⟩

set_option maxHeartbeats 800000 in
theorem succeeded_open (b : Nat) (r : Nat) (now : Int) (w : World) (hc : w.cell? ⟨b, 0, none⟩ = some (.int .u64 r)) (hz : w.frozen? ⟨b, 0, none⟩ = false) (hn : negInfB r = false) :
    Calls Yba.prog 11 #[.pointer (some ⟨b, 0, none⟩), .int .i64 now, .string ⟨#[115, 117, 99, 99, 101, 101, 100, 101, 100]⟩] w fun e w' => e = .returned (.tuple #[]) ∧ w' = (w.setCell ⟨b, 0, none⟩ (.int .u64 18442240474082181120)).drew := by
  go_enter Yba.func11, Yba.ntmps11
  go_wp2_with (first | (go_at_call 13; refine (rank_any b r _ hc).mono ?_; rintro e w' ⟨rfl, rfl⟩) | (go_at_call 12; refine (isinf_neg _ _).mono ?_; rintro e w' ⟨rfl, rfl⟩) | (go_at_call 23; refine (freset_any b r _ hc hz).mono ?_; rintro e w' ⟨rfl, rfl⟩))
  all_goals (first | go_end0 | refine bodyPost_ret (results_none rfl _ _ _) rfl ?_)
  all_goals exact ⟨rfl, rfl⟩

set_option maxHeartbeats 800000 in
theorem succeeded_shut (b : Nat) (r : Nat) (now : Int) (w : World) (hc : w.cell? ⟨b, 0, none⟩ = some (.int .u64 r)) (hn : negInfB r = true) :
    Calls Yba.prog 11 #[.pointer (some ⟨b, 0, none⟩), .int .i64 now, .string ⟨#[115, 117, 99, 99, 101, 101, 100, 101, 100]⟩] w fun e w' => e = .returned (.tuple #[]) ∧ w' = w := by
  go_enter Yba.func11, Yba.ntmps11
  go_wp2_with (first | (go_at_call 13; refine (rank_any b r _ hc).mono ?_; rintro e w' ⟨rfl, rfl⟩) | (go_at_call 12; refine (isinf_neg _ _).mono ?_; rintro e w' ⟨rfl, rfl⟩))
  all_goals (first | go_end0 | refine bodyPost_ret (results_none rfl _ _ _) rfl ?_)
  all_goals exact ⟨rfl, rfl⟩

end Go.Proofs.Ybulkbdbe
