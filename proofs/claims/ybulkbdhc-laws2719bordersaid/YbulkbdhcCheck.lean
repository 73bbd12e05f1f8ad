import Derived.Test.YbulkbdhcState
import Derived.BigQuiet
import Derived.Deep.QuietTactic
import Derived.Lib.Builder
namespace Go.Proofs.Ybulkbdhc
open Go.RowKit Go.Deep
set_option linter.unusedVariables false

structure Lk (l : List Nat) (cnt : Nat) (nx pv : Nat → Option Nat) (hd tl : Option Nat) : Prop where
  hd : hd = l.head?
  tl : tl = l.getLast?
  nx : ∀ k x, l[k]? = some x → nx x = l[k + 1]?
  pv : ∀ k x, l[k]? = some x → pv x = if k = 0 then .none else l[k - 1]?
  nd : l.Nodup
  lt : ∀ x ∈ l, x < cnt

variable {w0 w1 : World} {A cnt : Nat} {pe ha : Int} {nx pv : Nat → Option Nat} {hd tl : Option Nat} {m : Nat → Nat}

theorem neq_same (a : Addr) (w : World) : (binOp .neq 25 (.pointer (some a)) (.pointer (some a))).run Yba.prog w = .ok (.bool false) w :=
  Lib.run_neq_ptr_same (P := Yba.prog) w a Yba.underlying25 (j := _) rfl

theorem eql_same (a : Addr) (w : World) : (binOp .eql 25 (.pointer (some a)) (.pointer (some a))).run Yba.prog w = .ok (.bool true) w :=
  run_eql_ptr_same (P := Yba.prog) w a Yba.underlying25 (j := _) rfl

set_option maxHeartbeats 1000000 in
theorem check_sh (l : List Nat) (h : Sh w0 A cnt pe ha nx pv hd tl m w1) (k0 : Lk l cnt nx pv hd tl) (hm : ∀ k x, l[k]? = some x → m k = x) (hc : cnt ≤ 256) (hl : l.length ≤ cnt) :
    Calls Yba.prog 5 #[.pointer (some ⟨A + 1 + cnt, 0, .none⟩), .slice (some ⟨A, 0, .none⟩) cnt cnt, .slice (some ⟨A + 1 + cnt + 1, 0, .none⟩) l.length cnt] w1 fun e w' => e = .returned (.bool true) ∧
      ∃ n, w' = w1.drewN n := by
  have q3 : w1.cell? ⟨A + 1 + cnt, 3, .none⟩ = some (.pointer (pa A hd)) := h.q.cell (by omega)
  have q4 : w1.cell? ⟨A + 1 + cnt, 4, .none⟩ = some (.pointer (pa A tl)) := h.q.cell (by omega)
  have ns := neq_same
  have es := eql_same
  have Hh := k0.hd
  have Ht := k0.tl
  rw [Hh] at q3
  rw [Ht] at q4
  clear Hh Ht
  obtain ⟨hp, Hp⟩ : ∃ hp, Hid (pa A l.head? = hp) := ⟨_, rfl⟩
  obtain ⟨tp, Tp⟩ : ∃ tp, Hid (pa A l.getLast? = tp) := ⟨_, rfl⟩
  rw [Hp.out] at q3
  rw [Tp.out] at q4
  go_enter Yba.func5, Yba.ntmps5
  go_wp2
  go_loopw [7, 8] (fun wv iv wr => ∃ k n : Nat, k ≤ l.length ∧ iv = .int .i64 k ∧ wv = pn A l[k]? ∧ wr = w1.drewN n) (fun _ iv _ => l.length - (intOf iv).toNat)
  case atStart => exact ⟨0, 0, Nat.zero_le _, rfl, by rw [← Hp.out, List.head?_eq_getElem?], rfl⟩
  case round =>
    obtain ⟨k, n, hk, rfl, rfl, rfl⟩ := hrel
    by_cases hlt : k < l.length
    · obtain ⟨x, hx⟩ : ∃ x, l[k]? = some x := ⟨_, List.getElem?_eq_getElem hlt⟩
      have hxc : x < cnt := k0.lt x (List.mem_of_getElem? hx)
      have c0 : w1.cell? ⟨A + 1 + x, 0, .none⟩ = some (.pointer (pa A l[k + 1]?)) := by rw [← k0.nx k x hx]; exact (h.nd x hxc).cell (by omega)
      have c1 : w1.cell? ⟨A + 1 + x, 1, .none⟩ = some (.pointer (pa A (if k = 0 then .none else l[k - 1]?))) := by rw [← k0.pv k x hx]; exact (h.nd x hxc).cell (by omega)
      have hM : w1.cell? ⟨A + 1 + cnt + 1, k, .none⟩ = some (.int .i64 x) := by rw [h.md.cell (by omega : k < cnt), hm k x hx]
      have hW : w1.cell? ⟨A, x, .none⟩ = some (.pointer (some ⟨A + 1 + x, 0, .none⟩)) := h.ws.cell hxc
      rw [hx]
      simp only [pn]
      simp only [pa]
      obtain ⟨op, Op'⟩ : ∃ op, Hid (pa A l[k + 1]? = op) := ⟨_, rfl⟩
      rw [Op'.out] at c0
      cases k with
      | zero =>
        simp only [if_pos] at c1
        simp only [pa] at c1
        go_wp2
        go_roundw
        case rel => exact ⟨1, n, by omega, rfl, congrArg Value.pointer Op'.out.symm, rfl⟩
        case measure => simp [intOf]; omega
      | succ j =>
        rw [if_neg (by omega)] at c1
        obtain ⟨y, hy⟩ : ∃ y, l[j]? = some y := ⟨_, List.getElem?_eq_getElem (by omega)⟩
        have hyc : y < cnt := k0.lt y (List.mem_of_getElem? hy)
        rw [show j + 1 - 1 = j from rfl, hy] at c1
        simp only [pa] at c1
        have hM' : w1.cell? ⟨A + 1 + cnt + 1, j, .none⟩ = some (.int .i64 y) := by rw [h.md.cell (by omega : j < cnt), hm j y hy]
        have hW' : w1.cell? ⟨A, y, .none⟩ = some (.pointer (some ⟨A + 1 + y, 0, .none⟩)) := h.ws.cell hyc
        clear hy hx
        go_wp2
        go_quiet (fail)
        go_wp2
        go_roundw
        case rel => exact ⟨j + 2, _, by omega, by go_num, congrArg Value.pointer Op'.out.symm, rfl⟩
        case measure => simp [intOf]; omega
    · have hkl : k = l.length := by omega
      subst hkl
      rw [List.getElem?_eq_none (Nat.le_refl _)]
      simp only [pn]
      simp only [pa]
      by_cases hz : l.length = 0
      · have hnil : l = [] := List.length_eq_zero_iff.1 hz
        subst hnil
        have e1 := Hp.out
        have e2 := Tp.out
        simp only [List.head?_nil, List.getLast?_nil, pa] at e1 e2
        subst e1 e2
        go_wp2
        go_ret
        exact ⟨rfl, n, rfl⟩
      · obtain ⟨y, hy⟩ : ∃ y, l[l.length - 1]? = some y := ⟨_, List.getElem?_eq_getElem (by omega)⟩
        have hyc : y < cnt := k0.lt y (List.mem_of_getElem? hy)
        have e2 := Tp.out
        rw [List.getLast?_eq_getElem?, hy] at e2
        simp only [pa] at e2
        subst e2
        have hM' : w1.cell? ⟨A + 1 + cnt + 1, l.length - 1, .none⟩ = some (.int .i64 y) := by rw [h.md.cell (by omega : l.length - 1 < cnt), hm _ y hy]
        have hW' : w1.cell? ⟨A, y, .none⟩ = some (.pointer (some ⟨A + 1 + y, 0, .none⟩)) := h.ws.cell hyc
        clear hy
        generalize l.length = L at *
        obtain ⟨L', rfl⟩ : ∃ L', L = L' + 1 := ⟨L - 1, by omega⟩
        rw [show L' + 1 - 1 = L' from rfl] at hM'
        go_wp2
        go_quiet (fail)
        go_wp2
        go_ret
        exact ⟨rfl, _, World.drewN_drewN _ _ _⟩

end Go.Proofs.Ybulkbdhc
