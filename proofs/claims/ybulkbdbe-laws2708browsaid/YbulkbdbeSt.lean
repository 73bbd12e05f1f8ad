import Derived.Test.YbulkbdbeUpd
import Derived.RowKit3
namespace Go.Proofs.Ybulkbdbe
open Go.RowKit

/-- the count's one cell holds r; of what was there in w nothing has turned -/
structure St (w : World) (b r : Nat) (w1 : World) : Prop where
  cell : w1.cell? ⟨b, 0, none⟩ = some (.int .u64 r)
  froz : w1.frozen? ⟨b, 0, none⟩ = false
  grown : Grown w w1

theorem St.set {w w1 : World} {b r : Nat} (h : St w b r w1) (hb : w.heap.size ≤ b) (y : Nat) : St w b y ((w1.setCell ⟨b, 0, none⟩ (.int .u64 y)).drew) :=
  ⟨by rw [World.cell?_drew]; exact World.cell?_setCell_same' _ _ _ (by rw [h.cell]; rfl), by simp [h.froz], (h.grown.setCell hb _).drew⟩

theorem failed_st (w0 : World) (b r : Nat) (now : Int) (n v y : Nat) (w : World) (hs : St w0 b r w) (hb : w0.heap.size ≤ b)
    (hV : Gives 29 #[.float .f64 r, .int .i64 now] n) (hS : Gives 25 #[.float .f64 n] v) (hR : Gives 40 #[.float .f64 v, .int .i64 now] y) :
    Calls Yba.prog 11 #[.pointer (some ⟨b, 0, none⟩), .int .i64 now, .string ⟨#[102, 97, 105, 108, 101, 100]⟩] w fun e w' => e = .returned (.tuple #[]) ∧ St w0 b y w' :=
  (failed_of b r now n v y w hs.cell hs.froz hV hS hR).mono fun _ _ ⟨he, hw⟩ => ⟨he, by rw [hw]; exact hs.set hb y⟩

theorem succopen_st (w0 : World) (b r : Nat) (now : Int) (w : World) (hs : St w0 b r w) (hb : w0.heap.size ≤ b) (hn : negInfB r = false) :
    Calls Yba.prog 11 #[.pointer (some ⟨b, 0, none⟩), .int .i64 now, .string ⟨#[115, 117, 99, 99, 101, 101, 100, 101, 100]⟩] w fun e w' => e = .returned (.tuple #[]) ∧ St w0 b 18442240474082181120 w' :=
  (succeeded_open b r now w hs.cell hs.froz hn).mono fun _ _ ⟨he, hw⟩ => ⟨he, by rw [hw]; exact hs.set hb 18442240474082181120⟩

theorem load_st (w0 : World) (b r : Nat) (w : World) (hs : St w0 b r w) :
    Calls Yba.prog 16 #[.pointer (some ⟨b, 0, none⟩)] w fun e w' => e = .returned (.int .u64 r) ∧ w' = w :=
  load_any b r w hs.cell

theorem succ_st (w0 : World) (b r : Nat) (now : Int) (w : World) (hs : St w0 b r w) (hb : w0.heap.size ≤ b) :
    Calls Yba.prog 11 #[.pointer (some ⟨b, 0, none⟩), .int .i64 now, .string ⟨#[115, 117, 99, 99, 101, 101, 100, 101, 100]⟩] w fun e w' => e = .returned (.tuple #[]) ∧ ∃ y, negInfB y = true ∧ St w0 b y w' := by
  by_cases hn : negInfB r = true
  · exact (succeeded_shut b r now w hs.cell hn).mono fun _ _ ⟨he, hw⟩ => ⟨he, r, hn, by rw [hw]; exact hs⟩
  · exact (succeeded_open b r now w hs.cell hs.froz (by simpa using hn)).mono fun _ _ ⟨he, hw⟩ => ⟨he, 18442240474082181120, by decide +kernel, by rw [hw]; exact hs.set hb 18442240474082181120⟩

theorem aband_st (w0 : World) (b r : Nat) (now : Int) (w : World) (hs : St w0 b r w) :
    Calls Yba.prog 11 #[.pointer (some ⟨b, 0, none⟩), .int .i64 now, .string ⟨#[97, 98, 97, 110, 100, 111, 110, 101, 100]⟩] w fun e w' => e = .returned (.tuple #[]) ∧ St w0 b r w' :=
  (abandoned_any b now w).mono fun _ _ ⟨he, hw⟩ => ⟨he, by rw [hw]; exact hs⟩

theorem rank_st (w0 : World) (b r : Nat) (w : World) (hs : St w0 b r w) :
    Calls Yba.prog 13 #[.pointer (some ⟨b, 0, none⟩)] w fun e w' => e = .returned (.float .f64 r) ∧ w' = w :=
  (rank_any b r w hs.cell).mono fun _ _ ⟨he, hw⟩ => ⟨by rw [he]; rfl, hw⟩
end Go.Proofs.Ybulkbdbe
