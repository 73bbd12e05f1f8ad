import Derived.Test.YbulkbdhcBuild
import Derived.Deep.RegionLaw
import Derived.Deep.LoopGhost
import Derived.BigRegion
namespace Go.Proofs.Ybulkbdhc
open Go.RowKit Go.Deep
set_option linter.unusedVariables false

theorem Yba.info25 : (Yba.prog.info? 25).map (fun i => (i.zero, i.size, i.bytes)) = some (some (.pointer .none), 1, 8) := by kernel_rfl
theorem Yba.info3 : (Yba.prog.info? 3).map (fun i => (i.zero, i.size, i.bytes)) = some (some (.int .i64 0), 1, 8) := by kernel_rfl

set_option maxHeartbeats 1000000 in
set_option maxRecDepth 100000 in
theorem order_any (n : Nat) (hn : n ≤ 255) (a1 : Option Addr) (len1 cap1 : Nat) (a2 a3 : Int) (w : World) (hl1 : len1 ≤ 1024)
    (hpk : ∀ t, t < len1 → ∃ b o p : Nat, a1 = some ⟨b, o, .none⟩ ∧ b < w.heap.size ∧ w.cell? ⟨b, o + t, .none⟩ = some (.int .u8 p) ∧ p ≤ 255) :
    Calls Yba.prog 3 #[.int .u8 (n : Int), .slice a1 len1 cap1, .int .u32 a2, .int .u32 a3] w fun e w' => e = .returned (.bool true) ∧ Below w.heap.size w w' := by
  have mk1 := fun wx => run_make_row' (P := Yba.prog) 24 25 _ _ Yba.underlying24 Yba.info25 rfl .i64 .i64 (n + 1) (by omega) (by omega) wx
  have mk2 := fun wx => run_make_row' (P := Yba.prog) 43 3 _ _ Yba.underlying43 Yba.info3 rfl .i64 .i64 (n + 1) (by omega) (by omega) wx
  have ec : ((n + 1 : Nat) : Int) = (n : Int) + 1 := by omega
  rw [ec] at mk1 mk2
  clear ec
  obtain ⟨i0, hi0, hz0, hz1, hz2⟩ := info_parts Yba.info3
  have HP : Hid (∀ t, t < len1 → ∃ b o p : Nat, a1 = some ⟨b, o, .none⟩ ∧ b < w.heap.size ∧ w.cell? ⟨b, o + t, .none⟩ = some (.int .u8 p) ∧ p ≤ 255) := hpk
  clear hpk
  go_enter Yba.func3, Yba.ntmps3
  go_wp2
  go_loopw [11] (fun iv wr => ∃ k : Nat, k ≤ n + 1 ∧ iv = .int .i64 k ∧ S1 w (n + 1) k wr) (fun iv _ => n + 1 - (intOf iv).toNat)
  case atStart =>
    exact ⟨0, by omega, rfl, by simp, (Below.refl _ _).alloc (Nat.le_refl _) _, (World.rowIs_made w (.pointer .none) (n + 1) 25).congr fun i hi => by simp, fun i hi => absurd hi (by omega)⟩
  case round =>
    obtain ⟨k, hk, rfl, hS⟩ := hrel
    by_cases hlt : k < n + 1
    · have hsz := hS.size
      have hA : w.heap.size < wr.heap.size := by omega
      have c0 : wr.cell? ⟨w.heap.size, k, .none⟩ = some (.pointer .none) := by rw [hS.ws.cell hlt, if_neg (by omega)]
      have f0 := hS.ws.frozen k
      have hlt' : (k : Int) < (n : Int) + 1 := by omega
      clear hsz
      go_wp2
      go_roundw
      case rel =>
        refine ⟨k + 1, by omega, by go_num, ?_⟩
        have := hS.step hlt
        rw [← hS.size] at this
        exact this
      case measure => simp [intOf]; omega
    · have hk' : k = n + 1 := by omega
      subst hk'
      have hS2 := hS.toS2
      clear hS
      go_wp2
      go_loopw [12] (fun iv wr => ∃ j : Nat, j ≤ n ∧ iv = .int .i64 j ∧ S2 w (n + 1) j wr) (fun iv _ => n - (intOf iv).toNat)
      case atStart => exact ⟨0, by omega, rfl, hS2⟩
      case round =>
        clear hS2
        obtain ⟨j, hj, rfl, hS⟩ := hrel
        by_cases hlt : j < n
        · have c0 : wr.cell? ⟨w.heap.size, j, .none⟩ = some (.pointer (some ⟨w.heap.size + 1 + j, 0, .none⟩)) := hS.ws.cell (by omega)
          have c1 : wr.cell? ⟨w.heap.size, j + 1, .none⟩ = some (.pointer (some ⟨w.heap.size + 1 + (j + 1), 0, .none⟩)) := hS.ws.cell (by omega)
          have c2 : wr.cell? ⟨w.heap.size + 1 + j, 0, .none⟩ = some (.pointer (pa w.heap.size (linkN j j))) := (hS.nd j (by omega)).cell (by omega)
          have c3 : wr.cell? ⟨w.heap.size + 1 + (j + 1), 1, .none⟩ = some (.pointer (pa w.heap.size (linkP j (j + 1)))) := (hS.nd (j + 1) (by omega)).cell (by omega)
          have f2 := (hS.nd j (by omega)).frozen 0
          have f3 := (hS.nd (j + 1) (by omega)).frozen 1
          go_wp2
          go_region
          all_goals go_wp2
          all_goals go_region
          all_goals go_wp2
          all_goals
            go_roundw
            case rel => exact ⟨j + 1, by omega, by go_num, (hS.step (by omega)).drew.drew⟩
            case measure => simp [intOf]; omega
        · have hj' : j = n := by omega
          subst hj'
          have c0 : wr.cell? ⟨w.heap.size, 0, .none⟩ = some (.pointer (some ⟨w.heap.size + 1 + 0, 0, .none⟩)) := hS.ws.cell (by omega)
          have c1 : wr.cell? ⟨w.heap.size, j, .none⟩ = some (.pointer (some ⟨w.heap.size + 1 + j, 0, .none⟩)) := hS.ws.cell (by omega)
          have hsz := hS.size
          have hA : w.heap.size < wr.heap.size := by omega
          rw [hsz] at hA
          go_wp2
          go_loopw [15] (fun iv wr => ∃ k : Nat, k ≤ j + 1 ∧ iv = .int .i64 k ∧ Sh w w.heap.size (j + 1) a2 a3 (linkN j) (linkP j) (some 0) (some j) (fun x => if x < k then x else 0) wr) (fun iv _ => j + 1 - (intOf iv).toNat)
          case atStart =>
            refine ⟨0, by omega, rfl, ?_⟩
            have := hS.toSh (pe := a2) (ha := a3)
            simpa using this
          case round =>
            clear hS c0 c1 hsz hA
            obtain ⟨k, hk, rfl, hS⟩ := hrel
            by_cases hlt : k < j + 1
            · have c0 : wr.cell? ⟨w.heap.size + 1 + (j + 1) + 1, k, .none⟩ = some (.int .i64 (if k < k then k else 0 : Nat)) := hS.md.cell hlt
              have f0 := hS.md.frozen k
              rw [if_neg (by omega)] at c0
              go_wp2
              go_roundw
              case rel =>
                refine ⟨k + 1, by omega, by go_num, ?_⟩
                have := hS.setModel k k
                have e : (fun x => if x = k then k else if x < k then x else 0) = (fun x => if x < k + 1 then x else 0) := by
                  funext x
                  by_cases e1 : x = k
                  · subst e1; rw [if_pos rfl, if_pos (by omega)]
                  · rw [if_neg e1]
                    by_cases e2 : x < k
                    · rw [if_pos e2, if_pos (by omega)]
                    · rw [if_neg e2, if_neg (by omega)]
                rw [e] at this
                exact this
              case measure => simp [intOf]; omega
            · have hk' : k = j + 1 := by omega
              subst hk'
              have hm0 : ∀ k x, (List.range (j + 1))[k]? = some x → (if k < j + 1 then k else 0) = x := by
                intro k x h
                obtain ⟨hl, e⟩ := List.getElem?_eq_some_iff.1 h
                simp at hl e
                rw [if_pos hl]; exact e
              go_wp2_with fail
              have hck := check_sh (List.range (j + 1)) hS (Lk.range j) hm0 (by omega) (by simp)
              rw [List.length_range] at hck
              refine hck.mono ?_
              clear hck
              rintro e w2 ⟨rfl, nq, rfl⟩
              have Hst : Hid (∃ l : List Nat, ∃ nx pv : Nat → Option Nat, ∃ hd tl : Option Nat, ∃ m : Nat → Nat, l.length = j + 1 ∧ l.length ≤ j + 1 ∧ Sh w w.heap.size (j + 1) a2 a3 nx pv hd tl m (wr.drewN nq) ∧ Lk l (j + 1) nx pv hd tl ∧ (∀ k x, l[k]? = some x → m k = x)) :=
                ⟨List.range (j + 1), _, _, _, _, _, by simp, by simp, hS.drewN nq, Lk.range j, hm0⟩
              clear hS hm0
              go_wp2_with fail
              go_loopw [14, 103] (fun sv tv wr => ∃ t : Nat, t ≤ len1 ∧ tv = .int .i64 t ∧ ∃ l : List Nat, ∃ nx pv : Nat → Option Nat, ∃ hd tl : Option Nat, ∃ m : Nat → Nat, sv = .slice (some ⟨w.heap.size + 1 + (j + 1) + 1, 0, .none⟩) l.length (j + 1) ∧ l.length ≤ j + 1 ∧ Sh w w.heap.size (j + 1) a2 a3 nx pv hd tl m wr ∧ Lk l (j + 1) nx pv hd tl ∧ (∀ k x, l[k]? = some x → m k = x)) (fun _ tv _ => len1 - (intOf tv).toNat)
              case atStart =>
                obtain ⟨l, nx, pv, hd, tl, m, h1, h2, h3, h4, h5⟩ := Hst.out
                exact ⟨0, by omega, rfl, l, nx, pv, hd, tl, m, by rw [h1], h2, h3, h4, h5⟩
              case round =>
                clear Hst
                obtain ⟨t, ht, rfl, l, nx, pv, hd, tl, m, rfl, hlL, hS, hLk, hm⟩ := hrel
                by_cases hlt : t < len1
                · obtain ⟨b, o, p, rfl, hb, hcp, hp⟩ := HP.out t hlt
                  have cp : wr.cell? ⟨b, o + t, .none⟩ = some (.int .u8 p) := by rw [hS.below.cell (p := ⟨b, o + t, .none⟩) hb]; exact hcp
                  clear hcp
                  by_cases hz : l.length = 0
                  · have hz' : ((l.length : Nat) : Int) = 0 := by omega
                    go_wp2_with fail
                    go_ret
                    exact ⟨rfl, hS.below⟩
                  · obtain ⟨i, hi⟩ : ∃ i, p % l.length = i := ⟨_, rfl⟩
                    have hil : i < l.length := by rw [← hi]; exact Nat.mod_lt _ (by omega)
                    have hmod : (p : Int) % (l.length : Int) = (i : Int) := by rw [← hi]; rfl
                    obtain ⟨x, hx⟩ : ∃ x, l[i]? = some x := ⟨_, List.getElem?_eq_getElem hil⟩
                    have hxc : x < j + 1 := hLk.lt x (List.mem_of_getElem? hx)
                    have cm : wr.cell? ⟨w.heap.size + 1 + (j + 1) + 1, i, .none⟩ = some (.int .i64 x) := by rw [hS.md.cell (by omega : i < j + 1), hm i x hx]
                    have cw : wr.cell? ⟨w.heap.size, x, .none⟩ = some (.pointer (some ⟨w.heap.size + 1 + x, 0, .none⟩)) := hS.ws.cell hxc
                    have hz' : ¬ ((l.length : Nat) : Int) = 0 := by omega
                    have hpos : (0 : Int) < (l.length : Int) := by omega
                    have hE := hLk.erase hx
                    have hM := model_erase hm hil
                    have hl' : (l.eraseIdx i).length = l.length - 1 := List.length_eraseIdx_of_lt hil
                    have HE : Hid (Lk (l.eraseIdx i) (j + 1) (uNx nx pv x) (uPv nx pv x) (uHd nx pv hd x) (uTl nx pv tl x)) := hE
                    have HM : Hid (∀ k x, (l.eraseIdx i)[k]? = some x → (if i ≤ k ∧ k + 1 < l.length then m (k + 1) else m k) = x) := hM
                    have HL : Hid ((l.eraseIdx i).length = l.length - 1) := hl'
                    have HX : Hid (l[i]? = some x) := hx
                    clear hE hM hl' hx hi hm
                    go_wp2_with fail
                    refine (unlink_sh hS hxc (hLk.prev_ok HX.out) (hLk.next_ok HX.out)).mono ?_
                    rintro e w2 ⟨rfl, hS2⟩
                    clear hS cm cw cp
                    go_wp2_with fail
                    have hmd := hS2.md
                    have hw2 : ∀ k, k < j + 1 → w2.cell? ⟨w.heap.size + 1 + (j + 1) + 1, k, .none⟩ = some (.int .i64 (m k)) := fun k hk => hmd.cell hk
                    have hf2 : ∀ k, w2.frozen? ⟨w.heap.size + 1 + (j + 1) + 1, k, .none⟩ = false := fun k => hmd.frozen k
                    generalize hMb : w.heap.size + 1 + (j + 1) + 1 = Mb at hw2 hf2
                    obtain ⟨AA, hA, hnews⟩ : ∃ AA : Addr, (if j = i then some (⟨Mb, 0, .none⟩ : Addr) else some ⟨Mb, i + 1, .none⟩) = some AA ∧ Hid (∀ q u, (moved m i l.length)[q]? = some u → w2.drew.cell? (AA.add q) = some u) := by
                      by_cases h : j = i
                      · refine ⟨⟨Mb, 0, .none⟩, by simp [h], fun q u hu => ?_⟩
                        have h0 : (moved m i l.length).length = 0 := by rw [moved_length]; omega
                        rw [List.length_eq_zero_iff.1 h0] at hu
                        simp at hu
                      · refine ⟨⟨Mb, i + 1, .none⟩, by simp [h], fun q u hu => ?_⟩
                        have hq : q < l.length - (i + 1) := by
                          have := (List.getElem?_eq_some_iff.1 hu).1
                          rwa [moved_length] at this
                        rw [moved_get m hq] at hu
                        rw [Addr.add_lit]
                        exact (hw2 (i + 1 + q) (by omega)).trans hu
                    have s1 : Hid ((moved m i l.length).length = (l.length - (i + 1)) * 1) := by rw [Nat.mul_one]; exact moved_length _ _ _
                    have s2 : Hid (∀ u ∈ moved m i l.length, u.oneCell' = true) := by
                      intro u hu
                      obtain ⟨y, _, rfl⟩ := List.mem_map.1 hu
                      rfl
                    have s3 : Hid (∀ q, q < (moved m i l.length).length → (w2.drew.cell? ⟨Mb, 0 + i * 1 + q, .none⟩).isSome = true ∧ w2.drew.frozen? ⟨Mb, 0 + i * 1 + q, .none⟩ = false) := by
                      intro q hq
                      rw [moved_length] at hq
                      rw [Nat.mul_one, Nat.zero_add]
                      exact ⟨by show (w2.cell? _).isSome = true; rw [hw2 (i + q) (by omega)]; rfl, hf2 (i + q)⟩
                    subst hMb
                    have hic : (i : Int) ≤ (j : Int) + 1 := by omega
                    have hwr : IntKind.i64.wrap ((i : Int) + 1) = (i : Int) + 1 := by rw [IntKind.wrap_i64]; omega
                    have hp0 : (0 : Int) ≤ (i : Int) + 1 := by omega
                    have hp1 : (i : Int) + 1 ≤ (l.length : Int) := by omega
                    have hp2 : ((i : Int) + 1).toNat = i + 1 := by omega
                    clear hw2 hf2 hmd
                    go_region_law (refine step_append_room rfl (.tmp 127) (.tmp 131) 43 rfl 3 i0 1 Yba.underlying43 hi0 hz1 (w.heap.size + 1 + (j + 1) + 1) 0 i (j + 1) (by simp [Act.eval, Act.put]) AA (l.length - (i + 1)) (j + 1 - (i + 1)) (moved m i l.length) (by simp [Act.eval, Act.put]) s1.out hnews.out s2.out (by omega) s3.out ?_)
                    have hS3 := hS2.drew.shift hil hlL
                    clear hS2 s1 s2 s3 hnews hA
                    generalize w2.drew.setCells (w.heap.size + 1 + (j + 1) + 1) i (moved m i l.length) = w3 at hS3 ⊢
                    have ux : uNx nx pv x x = .none := by simp [uNx]
                    have vx : uPv nx pv x x = .none := by simp [uPv]
                    have d0 : w3.cell? ⟨w.heap.size + 1 + x, 0, .none⟩ = some (.pointer .none) := by
                      have := (hS3.nd x hxc).cell (i := 0) (by omega); rw [ux] at this; exact this
                    have d1 : w3.cell? ⟨w.heap.size + 1 + x, 1, .none⟩ = some (.pointer .none) := by
                      have := (hS3.nd x hxc).cell (i := 1) (by omega); rw [vx] at this; exact this
                    have d2 : w3.cell? ⟨w.heap.size + 1 + x, 2, .none⟩ = some (.int .i64 x) := (hS3.nd x hxc).cell (i := 2) (by omega)
                    have g1 : w3.cell? ⟨w.heap.size + 1 + (j + 1), 1, .none⟩ = some (.int .u32 a2) := hS3.q.cell (i := 1) (by omega)
                    have g2 : w3.cell? ⟨w.heap.size + 1 + (j + 1), 2, .none⟩ = some (.int .u32 a3) := hS3.q.cell (i := 2) (by omega)
                    have g5 : w3.cell? ⟨w.heap.size + 1 + (j + 1), 5, .none⟩ = some (.pointer .none) := hS3.q.cell (i := 5) (by omega)
                    clear ux vx
                    have hLL : Hid (i + (l.length - (i + 1)) = (l.eraseIdx i).length) := by have := HL.out; show _ = _; omega
                    rw [hLL.out]
                    generalize hel : (l.eraseIdx i).length = L2 at *
                    have Hel : Hid ((l.eraseIdx i).length = L2) := hel
                    clear hel
                    have hL2 : L2 ≤ j + 1 := by have := HL.out; omega
                    go_wp2_with fail
                    have hck := check_sh (l.eraseIdx i) hS3 HE.out HM.out (by omega) (by rw [Hel.out]; exact hL2)
                    rw [Hel.out] at hck
                    refine hck.mono ?_
                    clear hck
                    rintro e w4 ⟨rfl, nq, rfl⟩
                    go_wp2_with fail
                    go_roundw
                    case rel => exact ⟨t + 1, by omega, by go_num, l.eraseIdx i, _, _, _, _, _, by rw [Hel.out], by rw [Hel.out]; exact hL2, hS3.drewN nq, HE.out, HM.out⟩
                    case measure => simp [intOf]; omega
                · go_wp2_with fail
                  go_ret
                  exact ⟨rfl, hS.below⟩

set_option maxRecDepth 100000 in
theorem order_long (a0 : Int) (a1 : Option Addr) (len1 cap1 : Nat) (a2 a3 : Int) (w : World) (hl' : (1024 : Int) < (len1 : Int)) :
    Calls Yba.prog 3 #[.int .u8 a0, .slice a1 len1 cap1, .int .u32 a2, .int .u32 a3] w fun e w' => e = .returned (.bool true) ∧ Below w.heap.size w w' := by
  go_enter Yba.func3, Yba.ntmps3
  go_wp2
  go_ret
  exact ⟨rfl, Below.refl _ _⟩

theorem block_lt {w : World} {a : Addr} {v : Value} (h : w.cell? a = some v) : a.block < w.heap.size := by
  unfold World.cell? at h
  rcases Nat.lt_or_ge a.block w.heap.size with h' | h'
  · exact h'
  · rw [Array.getElem?_eq_none h'] at h
    cases h
end Go.Proofs.Ybulkbdhc
