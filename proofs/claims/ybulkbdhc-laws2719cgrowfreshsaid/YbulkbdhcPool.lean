import Derived.Test.YbulkbdhcChunk
namespace Go.Proofs.Ybulkbdhc
open Go.RowKit Go.Deep
set_option linter.unusedVariables false

def poolF (m C : Nat) (fb : Nat → Nat) : Nat → Value
  | 0 => .int .u64 0
  | 1 => .int .u32 m
  | o + 2 => .pointer (if o < C then some ⟨fb o, 0, .none⟩ else .none)

def zeroF : Nat → Value
  | 0 => .pointer .none
  | 1 => .pointer .none
  | 2 => .int .i64 0
  | 3 => .chan .none
  | 4 => .int .u64 0
  | 5 => .int .i64 0
  | 6 => .pointer .none
  | 7 => .bool false
  | 8 => .chan .none
  | _ => .int .u32 0

/-- the pool in block A: m made, k of them laid out, C chunks -/
structure Gs (w0 : World) (A m k C : Nat) (fb ab : Nat → Nat) (X : Nat → Nat → Value) (wr : World) : Prop where
  base : w0.heap.size ≤ A
  pool : wr.rowIs A 58 31 (poolF m C fb)
  fr : ∀ c, c < C → wr.rowIs (fb c) 62 1 (fun _ => .slice (some ⟨ab c, 0, .none⟩) (16 * 2 ^ c) (16 * 2 ^ c))
  ar : ∀ c, c < C → wr.rowIs (ab c) 39 (16 * 2 ^ c * 11) (X c)
  lo : ∀ c, c < C → A + 1 < ab c
  mid : ∀ c, c < C → ab c < fb c
  ord : ∀ c, c + 1 < C → fb c < ab (c + 1)
  zero : ∀ c s f, c < C → s < 16 * 2 ^ c → f < 11 → k ≤ baseOf c + s → X c (s * 11 + f) = zeroF f
  idx : ∀ c s, c < C → s < 16 * 2 ^ c → baseOf c + s < k → X c (s * 11 + 10) = .int .u32 (baseOf c + s : Nat)
  cover : k ≤ baseOf C
  cmax : C ≤ 7
  below : Below w0.heap.size w0 wr

variable {w0 wr : World} {A m k C : Nat} {fb ab : Nat → Nat} {X : Nat → Nat → Value}

theorem Gs.fa (h : Gs w0 A m k C fb ab X wr) : ∀ d c, c + d + 1 < C → fb c < ab (c + d + 1)
  | 0, c, hc => h.ord c hc
  | d + 1, c, hc => by
    have h1 := h.fa d c (by omega)
    have h2 := h.mid (c + d + 1) (by omega)
    have h3 := h.ord (c + d + 1) (by omega)
    have : c + (d + 1) + 1 = c + d + 1 + 1 := by omega
    rw [this]; omega

/-- no two of its blocks are one -/
theorem Gs.ab_ne (h : Gs w0 A m k C fb ab X wr) {c d : Nat} (hc : c < C) (hd : d < C) (hne : c ≠ d) : ab c ≠ ab d := by
  rcases Nat.lt_or_gt_of_ne hne with hl | hl
  · have h1 := h.fa (d - c - 1) c (by omega)
    rw [show c + (d - c - 1) + 1 = d by omega] at h1
    have := h.mid c hc
    omega
  · have h1 := h.fa (c - d - 1) d (by omega)
    rw [show d + (c - d - 1) + 1 = c by omega] at h1
    have := h.mid d hd
    omega

theorem Gs.fb_ne_ab (h : Gs w0 A m k C fb ab X wr) {c d : Nat} (hc : c < C) (hd : d < C) : fb c ≠ ab d := by
  by_cases e : c = d
  · subst e; have := h.mid c hc; omega
  · rcases Nat.lt_or_gt_of_ne e with hl | hl
    · have h1 := h.fa (d - c - 1) c (by omega)
      rw [show c + (d - c - 1) + 1 = d by omega] at h1
      omega
    · have h1 := h.fa (c - d - 1) d (by omega)
      rw [show d + (c - d - 1) + 1 = c by omega] at h1
      have := h.mid d hd
      have := h.mid c hc
      omega

theorem Gs.drew (h : Gs w0 A m k C fb ab X wr) : Gs w0 A m k C fb ab X wr.drew :=
  ⟨h.base, h.pool, h.fr, h.ar, h.lo, h.mid, h.ord, h.zero, h.idx, h.cover, h.cmax, h.below.drew⟩

theorem Gs.drewN (h : Gs w0 A m k C fb ab X wr) (n : Nat) : Gs w0 A m k C fb ab X (wr.drewN n) := by
  induction n with
  | zero => exact h
  | succ n ih => exact ih.drew

theorem Gs.alloc (h : Gs w0 A m k C fb ab X wr) (o : Obj) : Gs w0 A m k C fb ab X (wr.alloc o) :=
  ⟨h.base, h.pool.alloc _, fun c hc => (h.fr c hc).alloc _, fun c hc => (h.ar c hc).alloc _, h.lo, h.mid, h.ord, h.zero, h.idx, h.cover, h.cmax, h.below.alloc (by have := h.below.size; omega) _⟩

/-- a store elsewhere -/
theorem Gs.other (h : Gs w0 A m k C fb ab X wr) {b o : Nat} (v : Value) (hb : w0.heap.size ≤ b) (hA : b ≠ A) (h1 : ∀ c, c < C → b ≠ fb c ∧ b ≠ ab c) : Gs w0 A m k C fb ab X (wr.setCell ⟨b, o, .none⟩ v) :=
  ⟨h.base, h.pool.setOther (by simp; omega) _, fun c hc => (h.fr c hc).setOther (fun e => (h1 c hc).1 e.symm) _, fun c hc => (h.ar c hc).setOther (fun e => (h1 c hc).2 e.symm) _, h.lo, h.mid, h.ord, h.zero, h.idx, h.cover, h.cmax, h.below.setCell hb _⟩

theorem Gs.made (h : Gs w0 A m k C fb ab X wr) (q : Nat) : Gs w0 A q k C fb ab X (wr.setCell ⟨A, 1, .none⟩ (.int .u32 q)) := by
  refine ⟨h.base, (h.pool.set 1 _).congr fun i hi => ?_, fun c hc => (h.fr c hc).setOther ?_ _, fun c hc => (h.ar c hc).setOther ?_ _, h.lo, h.mid, h.ord, h.zero, h.idx, h.cover, h.cmax, h.below.setCell h.base _⟩
  · match i with
    | 0 => rfl
    | 1 => rfl
    | i + 2 => rfl
  · have h1 := h.lo c hc; have h2 := h.mid c hc; simp; omega
  · have h1 := h.lo c hc; simp; omega

/-- a new chunk is laid and set -/
theorem Gs.chunk (h : Gs w0 A m k C fb ab X wr) (hC : C < 7) (hk : k = baseOf C) {w2 : World} {a f : Nat}
    (hw : w2.rowIs f 62 1 (fun _ => .slice (some ⟨a, 0, .none⟩) (16 * 2 ^ C) (16 * 2 ^ C))) (ha : w2.rowIs a 39 (16 * 2 ^ C * 11) (fun o => zeroF (o % 11)))
    (hg : Gs w0 A m k C fb ab X w2) (hA : A + 1 < a) (haf : a < f) (hnew : ∀ c, c < C → fb c < a) :
    Gs w0 A m k (C + 1) (fun c => if c = C then f else fb c) (fun c => if c = C then a else ab c) (fun c => if c = C then (fun o => zeroF (o % 11)) else X c) (w2.setCell ⟨A, 2 + C, .none⟩ (.pointer (some ⟨f, 0, .none⟩))) := by
  have hsb := baseOf_succ C
  have hp := Nat.two_pow_pos C
  refine ⟨hg.base, (hg.pool.set (2 + C) _).congr fun i hi => ?_, fun c hc => ?_, fun c hc => ?_, fun c hc => ?_, fun c hc => ?_, fun c hc => ?_, fun c s q hc hs hq hks => ?_, fun c s hc hs hks => ?_, by omega, by omega, hg.below.setCell hg.base _⟩
  · match i with
    | 0 => rw [if_neg (by omega)]; rfl
    | 1 => rw [if_neg (by omega)]; rfl
    | i + 2 =>
      by_cases e : i = C
      · subst e
        rw [if_pos (by omega)]
        simp [poolF]
      · rw [if_neg (by omega)]
        simp only [poolF]
        by_cases e2 : i < C
        · rw [if_pos e2, if_pos (by omega), if_neg e]
        · rw [if_neg e2, if_neg (by omega)]
  · by_cases e : c = C
    · subst e; simp only [if_pos]; exact hw.setOther (by simp; omega) _
    · simp only [if_neg e]; exact (hg.fr c (by omega)).setOther (by have h1 := hg.lo c (by omega); have h2 := hg.mid c (by omega); simp; omega) _
  · by_cases e : c = C
    · subst e; simp only [if_pos]; exact ha.setOther (by simp; omega) _
    · simp only [if_neg e]; exact (hg.ar c (by omega)).setOther (by have h1 := hg.lo c (by omega); simp; omega) _
  · by_cases e : c = C
    · rw [if_pos e]; exact hA
    · rw [if_neg e]; exact hg.lo c (by omega)
  · by_cases e : c = C
    · rw [if_pos e, if_pos e]; exact haf
    · rw [if_neg e, if_neg e]; exact hg.mid c (by omega)
  · rw [if_neg (by omega)]
    by_cases e : c + 1 = C
    · rw [if_pos e]; exact hnew c (by omega)
    · rw [if_neg e]; exact hg.ord c (by omega)
  · by_cases e : c = C
    · rw [if_pos e]
      show zeroF ((s * 11 + q) % 11) = zeroF q
      congr 1; omega
    · rw [if_neg e]; exact hg.zero c s q (by omega) hs hq hks
  · by_cases e : c = C
    · subst e; omega
    · rw [if_neg e]; exact hg.idx c s (by omega) hs hks

/-- waiter k is laid out -/
theorem Gs.grown (h : Gs w0 A m k C fb ab X wr) {c s : Nat} (hc : c < C) (hs : s < 16 * 2 ^ c) (hk : baseOf c + s = k) (hlast : k < baseOf C) (v : Value) :
    Gs w0 A m (k + 1) C fb ab (fun d => if d = c then (fun o => if o = s * 11 + 8 then v else if o = s * 11 + 10 then .int .u32 k else X c o) else X d)
      ((wr.setCell ⟨ab c, s * 11 + 10, .none⟩ (.int .u32 k)).setCell ⟨ab c, s * 11 + 8, .none⟩ v) := by
  have hlo := h.lo c hc
  have hmono : ∀ d, baseOf (d + 1) = baseOf d + 16 * 2 ^ d := baseOf_succ
  have hB : ∀ d e, baseOf d ≤ baseOf (d + e) := fun d e => by
    induction e with
    | zero => exact Nat.le_refl _
    | succ e ih => rw [← Nat.add_assoc, hmono]; omega
  refine ⟨h.base, (h.pool.setOther (by simp; omega) _).setOther (by simp; omega) _, fun d hd => ((h.fr d hd).setOther (h.fb_ne_ab hd hc) _).setOther (h.fb_ne_ab hd hc) _, fun d hd => ?_, h.lo, h.mid, h.ord, fun d t f hd ht hf hkd => ?_, fun d t hd ht hkd => ?_, by omega, h.cmax, (h.below.setCell (by have := h.base; simp; omega) _).setCell (by have := h.base; simp; omega) _⟩
  · by_cases e : d = c
    · subst e
      simp only [if_pos]
      exact ((h.ar d hd).set _ _).set _ _
    · simp only [if_neg e]
      exact ((h.ar d hd).setOther (h.ab_ne hd hc e) _).setOther (h.ab_ne hd hc e) _
  · by_cases e : d = c
    · subst e
      rw [if_pos rfl]
      rw [if_neg (by omega), if_neg (by omega)]
      exact h.zero d t f hd ht hf (by omega)
    · rw [if_neg e]; exact h.zero d t f hd ht hf (by omega)
  · by_cases e : d = c
    · subst e
      rw [if_pos rfl]
      rw [if_neg (by omega)]
      by_cases e2 : t = s
      · subst e2; rw [if_pos rfl, hk]
      · rw [if_neg (by omega)]; exact h.idx d t hd ht (by omega)
    · rw [if_neg e]
      refine h.idx d t hd ht ?_
      by_cases hlt : baseOf d + t < k
      · exact hlt
      · exfalso
        have hkk : baseOf d + t = k := by omega
        rcases Nat.lt_or_gt_of_ne e with hl | hl
        · have h1 := hmono d
          have h2 := hB (d + 1) (c - (d + 1))
          rw [show d + 1 + (c - (d + 1)) = c by omega] at h2
          omega
        · have h1 := hmono c
          have h2 := hB (c + 1) (d - (c + 1))
          rw [show c + 1 + (d - (c + 1)) = d by omega] at h2
          omega

end Go.Proofs.Ybulkbdhc
