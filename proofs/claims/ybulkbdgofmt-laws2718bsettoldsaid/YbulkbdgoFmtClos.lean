import Derived.Test.YbulkbdgoFmtSet
namespace Go.Proofs.YbulkbdgoFmt
open Go.RowKit Go.Deep
set_option linter.unusedVariables false

set_option maxHeartbeats 800000 in
theorem set_none (s : ByteArray) (lim : Int) (te : TypeId) (ve : Value) (P L F : Nat) (w : World) (hp : parse s.data.toList lim = none) (hE : w.cell? ⟨0, 0, .none⟩ = some (.iface te ve)) (hs : s.size ≤ 4096)
    (hL : w.cell? ⟨L, 0, .none⟩ = some (.int .i64 lim)) :
    Calls Ybaf.prog 19 #[.pointer (some ⟨P, 0, .none⟩), .string s, .pointer (some ⟨L, 0, .none⟩), .pointer (some ⟨F, 0, .none⟩)] w fun e w' => ∃ t x, e = .returned (.iface t x) ∧ Below w.heap.size w w' := by
  go_enter Ybaf.func19, Ybaf.ntmps19
  go_wp2_with fail
  refine (parse_none s lim te ve w hp hE hs).mono ?_
  rintro e w2 ⟨t, x, rfl, hb⟩
  clear hp hE hs hL
  go_wp2
  go_ret
  exact ⟨_, _, rfl, hb⟩

set_option maxHeartbeats 800000 in
theorem set_some (s : ByteArray) (lim : Int) (te : TypeId) (ve : Value) (P L F K k : Nat) (g : Nat → Value) (w : World) (l : List UInt8) (hp : parse s.data.toList lim = some l) (hE : w.cell? ⟨0, 0, .none⟩ = some (.iface te ve)) (hs : s.size ≤ 4096)
    (hL : w.cell? ⟨L, 0, .none⟩ = some (.int .i64 lim)) (hF : w.cell? ⟨F, 0, .none⟩ = some (.func (.func 15) #[] #[.pointer (some ⟨K, 0, .none⟩)])) (hK : w.cell? ⟨K, 0, .none⟩ = some (.int .i64 k)) (hk : k < 5) (hP : w.rowIs P 26 22 g) :
    Calls Ybaf.prog 19 #[.pointer (some ⟨P, 0, .none⟩), .string s, .pointer (some ⟨L, 0, .none⟩), .pointer (some ⟨F, 0, .none⟩)] w fun e w' => e = .returned .nilIface ∧ ∃ w2 v, Below w.heap.size w w2 ∧ (∀ Q, w2.heap.size ≤ Q ∨ Q < w.heap.size → FV w2 Q v l) ∧ w' = w2.setCell ⟨P, k + 1, .none⟩ v := by
  go_enter Ybaf.func19, Ybaf.ntmps19
  go_wp2_with fail
  refine (parse_some s lim te ve w l hp hE hs).mono ?_
  rintro e w2 ⟨v, rfl, hb, hf⟩
  obtain ⟨p, n, c, rfl⟩ := (hf _ (.inl (Nat.le_refl _))).slice
  have hF2 : w2.cell? ⟨F, 0, .none⟩ = some (.func (.func 15) #[] #[.pointer (some ⟨K, 0, .none⟩)]) := by rw [hb.cell (block_lt_of_cell hF)]; exact hF
  have hK2 : w2.cell? ⟨K, 0, .none⟩ = some (.int .i64 k) := by rw [hb.cell (block_lt_of_cell hK)]; exact hK
  have hP2 := hP.of_block (hb.block _ hP.lt)
  have cP : w2.cell? ⟨P, k + 1, .none⟩ = some (g (k + 1)) := hP2.cell (by omega)
  have fP := hP2.frozen (k + 1)
  have HB : Hid (Below w.heap.size w w2) := hb
  have HF : Hid (∀ Q, w2.heap.size ≤ Q ∨ Q < w.heap.size → FV w2 Q (.slice p n c) l) := hf
  clear hp hE hs hL hF hK hb hf
  go_wp2_with fail
  refine (pick15 P K k hk w2 hP2.lt hK2).mono ?_
  rintro e w3 ⟨rfl, rfl⟩
  go_wp2
  go_ret
  exact ⟨rfl, w3, _, HB.out, HF.out, rfl⟩

theorem text_any (P F K k : Nat) (v : Value) (l : List UInt8) (w : World) (hF : w.cell? ⟨F, 0, .none⟩ = some (.func (.func 15) #[] #[.pointer (some ⟨K, 0, .none⟩)])) (hK : w.cell? ⟨K, 0, .none⟩ = some (.int .i64 k)) (hk : k < 5) (hP : w.cell? ⟨P, k + 1, .none⟩ = some v) (hv : FV w P v l) (hl : l.length ≤ 4096) :
    Calls Ybaf.prog 21 #[.pointer (some ⟨P, 0, .none⟩), .pointer (some ⟨F, 0, .none⟩)] w fun e w' => e = .returned (.string ⟨(Lib.Hx.encode l).toArray⟩) ∧ Below w.heap.size w w' := by
  have hPlt := block_lt_of_cell hP
  go_enter Ybaf.func21, Ybaf.ntmps21
  go_wp2_with fail
  refine (pick15 P K k hk w hPlt hK).mono ?_
  rintro e w3 ⟨rfl, rfl⟩
  clear hF hK
  have HV : Hid (FV w3 P v l) := hv
  have hc : Calls Ybaf.prog 22 #[v] w3 fun e w' => e = .returned (.string ⟨(Lib.Hx.encode l).toArray⟩) ∧ Below w3.heap.size w3 w' := by
    rcases hv with ⟨rfl, rfl⟩ | ⟨b, c, rfl, h2, h3, h4⟩
    · exact Ybaf.hex_EncodeToString_nil w3
    · have := Ybaf.hex_EncodeToString b 0 l.length c (zs l) w3 (zs_length l) (fun i hi => zs_range l i hi) h4 h3 (by omega)
      rw [zs_bytes] at this
      exact this
  have HC : Hid (Calls Ybaf.prog 22 #[v] w3 fun e w' => e = .returned (.string ⟨(Lib.Hx.encode l).toArray⟩) ∧ Below w3.heap.size w3 w') := hc
  obtain ⟨p, n, c, rfl⟩ := HV.out.slice
  clear hc hv
  go_wp2_with fail
  refine HC.out.mono ?_
  rintro e w4 ⟨rfl, hb4⟩
  go_wp2
  go_ret
  exact ⟨rfl, hb4⟩
end Go.Proofs.YbulkbdgoFmt
