import Derived.Test.YbulkbdhcCheck
namespace Go.Proofs.Ybulkbdhc
open Go.RowKit Go.Deep
set_option linter.unusedVariables false

theorem at_inj {l : List Nat} (h : l.Nodup) {a b x : Nat} (ha : l[a]? = some x) (hb : l[b]? = some x) : a = b := by
  obtain ⟨la, ea⟩ := List.getElem?_eq_some_iff.1 ha
  exact (List.getElem?_inj la h).1 (ha.trans hb.symm)

theorem erase_at (l : List Nat) (i k : Nat) : (l.eraseIdx i)[k]? = if k < i then l[k]? else l[k + 1]? := List.getElem?_eraseIdx

variable {l : List Nat} {cnt : Nat} {nx pv : Nat → Option Nat} {hd tl : Option Nat}

theorem Lk.prev_ok (h : Lk l cnt nx pv hd tl) {idx i : Nat} (hi : l[idx]? = some i) : ∀ p, pv i = some p → p < cnt ∧ p ≠ i := by
  intro p hp
  rw [h.pv idx i hi] at hp
  by_cases h0 : idx = 0
  · rw [if_pos h0] at hp; cases hp
  · rw [if_neg h0] at hp
    exact ⟨h.lt p (List.mem_of_getElem? hp), fun e => by subst e; have := at_inj h.nd hp hi; omega⟩

theorem Lk.next_ok (h : Lk l cnt nx pv hd tl) {idx i : Nat} (hi : l[idx]? = some i) : ∀ p, nx i = some p → p < cnt ∧ p ≠ i := by
  intro p hp
  rw [h.nx idx i hi] at hp
  exact ⟨h.lt p (List.mem_of_getElem? hp), fun e => by subst e; have := at_inj h.nd hp hi; omega⟩

theorem Lk.erase (h : Lk l cnt nx pv hd tl) {idx i : Nat} (hi : l[idx]? = some i) :
    Lk (l.eraseIdx idx) cnt (uNx nx pv i) (uPv nx pv i) (uHd nx pv hd i) (uTl nx pv tl i) := by
  obtain ⟨hlt, _⟩ := List.getElem?_eq_some_iff.1 hi
  have hpv := h.pv idx i hi
  have hnx := h.nx idx i hi
  have hlen : (l.eraseIdx idx).length = l.length - 1 := List.length_eraseIdx_of_lt hlt
  refine ⟨?_, ?_, ?_, ?_, h.nd.eraseIdx idx, fun x hx => h.lt x (List.mem_of_mem_eraseIdx hx)⟩
  · rw [List.head?_eq_getElem?, erase_at]
    unfold uHd
    rw [hpv, hnx, h.hd, List.head?_eq_getElem?]
    by_cases h0 : idx = 0
    · subst h0; simp
    · rw [if_neg h0]
      obtain ⟨y, hy⟩ : ∃ y, l[idx - 1]? = some y := ⟨_, List.getElem?_eq_getElem (by omega)⟩
      rw [hy, if_neg (by simp), if_pos (by omega)]
  · rw [List.getLast?_eq_getElem?, hlen, erase_at]
    unfold uTl
    rw [hpv, hnx, h.tl, List.getLast?_eq_getElem?]
    by_cases h0 : idx + 1 = l.length
    · rw [List.getElem?_eq_none (by omega), if_pos rfl]
      by_cases h1 : idx = 0
      · rw [if_pos h1, if_neg (by omega), List.getElem?_eq_none (by omega)]
      · rw [if_neg h1, if_pos (by omega)]; congr 1; omega
    · obtain ⟨y, hy⟩ : ∃ y, l[idx + 1]? = some y := ⟨_, List.getElem?_eq_getElem (by omega)⟩
      rw [hy, if_neg (by simp), if_neg (by omega)]; congr 1; omega
  · intro k x hx
    rw [erase_at] at hx ⊢
    unfold uNx
    by_cases hk : k < idx
    · rw [if_pos hk] at hx
      have hne : x ≠ i := fun e => by subst e; have := at_inj h.nd hx hi; omega
      rw [if_neg hne, hpv, if_neg (show ¬ idx = 0 by omega)]
      by_cases hk1 : k + 1 = idx
      · have e : idx - 1 = k := by omega
        rw [e, hx, if_pos rfl, if_neg (by omega), hnx, hk1]
      · rw [if_neg (fun e => by have := at_inj h.nd e hx; omega), if_pos (by omega), h.nx k x hx]
    · rw [if_neg hk] at hx
      have hne : x ≠ i := fun e => by subst e; have := at_inj h.nd hx hi; omega
      rw [if_neg hne, hpv, if_neg (by omega : ¬ k + 1 < idx)]
      rw [if_neg ?_, h.nx (k + 1) x hx]
      intro e
      by_cases h0 : idx = 0
      · rw [if_pos h0] at e; cases e
      · rw [if_neg h0] at e; have := at_inj h.nd e hx; omega
  · intro k x hx
    rw [erase_at] at hx
    rw [erase_at]
    unfold uPv
    by_cases hk : k < idx
    · rw [if_pos hk] at hx
      have hne : x ≠ i := fun e => by subst e; have := at_inj h.nd hx hi; omega
      rw [if_neg hne, hnx, if_neg (fun e => by have := at_inj h.nd e hx; omega), h.pv k x hx]
      by_cases h0 : k = 0
      · rw [if_pos h0, if_pos h0]
      · rw [if_neg h0, if_neg h0, if_pos (by omega)]
    · rw [if_neg hk] at hx
      have hne : x ≠ i := fun e => by subst e; have := at_inj h.nd hx hi; omega
      rw [if_neg hne, hnx]
      by_cases hk1 : k = idx
      · subst hk1
        rw [hx, if_pos rfl, hpv]
        by_cases h0 : k = 0
        · rw [if_pos h0, if_pos h0]
        · rw [if_neg h0, if_neg h0, if_pos (by omega)]
      · rw [if_neg (fun e => by have := at_inj h.nd e hx; omega), h.pv (k + 1) x hx, if_neg (by omega), if_neg (by omega), if_neg (by omega)]
        congr 1; omega

end Go.Proofs.Ybulkbdhc
