import Derived.Test.YbulkbdbeLdexp
namespace Go.Proofs.Ybulkbdbe
open Go.RowKit Flt Ieee

theorem bdc (x r : Nat) (h : x < 18446744073709551616) (h1 : x % 9223372036854775808 = r ∧ r < 9218868437227405312) : Bd x r :=
  ⟨⟨h, by omega⟩, Nat.le_of_eq h1.1⟩

set_option maxHeartbeats 2000000 in
set_option maxRecDepth 100000 in
theorem expmulti_any (hi lo : Nat) (k : Int) (hhi : Bd hi 4602949035150289142) (hlo : Bd lo 4461797156714954171) (k1 : -2000 ≤ k) (k2 : k ≤ 2000) (w : World) :
    Calls Yba.prog 57 #[.float .f64 hi, .float .f64 lo, .int .i64 k] w fun e w' => (∃ v, e = .returned (.float .f64 v) ∧ v ≤ 9218868437227405312) ∧ w' = w := by
  obtain ⟨r, er, hr⟩ := sub_bd 4603039107142836552 hhi hlo (by decide) (by decide +kernel)
  obtain ⟨t, et, ht, _⟩ := mul_bd 4599075939470750515 hr hr (by decide) (by decide +kernel)
  obtain ⟨a1, ea1, ha1, _⟩ := mul_bd 4491629857959087162 ht (bdc 4496342204012209360 4496342204012209360 (by decide) (by decide)) (by decide) (by decide +kernel)
  obtain ⟨a2, ea2, ha2⟩ := add_bd 4521832792735477133 (bdc 13743786778040626161 4520414741185850353 (by decide) (by decide)) ha1 (by decide) (by decide +kernel)
  obtain ⟨a3, ea3, ha3, _⟩ := mul_bd 4517329193108106637 ht ha2 (by decide) (by decide +kernel)
  obtain ⟨a4, ea4, ha4⟩ := add_bd 4544793512730098642 (bdc 4544508515198557740 4544508515198557740 (by decide) (by decide)) ha3 (by decide) (by decide +kernel)
  obtain ⟨a5, ea5, ha5, _⟩ := mul_bd 4539475662290099561 ht ha4 (by decide) (by decide +kernel)
  obtain ⟨a6, ea6, ha6⟩ := add_bd 4569063951553953530 (bdc 13791923578850950547 4568551541996174739 (by decide) (by decide)) ha5 (by decide) (by decide +kernel)
  obtain ⟨a7, ea7, ha7, _⟩ := mul_bd 4562254508917369340 ht ha6 (by decide) (by decide +kernel)
  obtain ⟨a8, ea8, ha8⟩ := add_bd 4595292915783759299 (bdc 4595172819793696085 4595172819793696085 (by decide) (by decide)) ha7 (by decide) (by decide +kernel)
  obtain ⟨a9, ea9, ha9, _⟩ := mul_bd 4587654810815738937 ht ha8 (by decide) (by decide +kernel)
  obtain ⟨c, ec, hc⟩ := sub_bd 4603579539098121011 hr ha9 (by decide) (by decide +kernel)
  obtain ⟨rc, erc, hrc, _⟩ := mul_bd 4599616371426034975 hr hc (by decide) (by decide +kernel)
  obtain ⟨d, ed, fd, gd⟩ := two_sub (hc.mono (by decide))
  obtain ⟨q, eq, hq⟩ := div_bd hrc (by decide) fd gd
  obtain ⟨u, eu, hu⟩ := sub_bd 4599634385824544457 hlo hq (by decide) (by decide +kernel)
  obtain ⟨z, ez, hz⟩ := sub_bd 4606011482896901079 hu hhi (by decide) (by decide +kernel)
  obtain ⟨y, ey, fy, y1, y2, y3⟩ := one_sub (hz.mono (by decide))
  have gr := fsub er
  have gt := fmul et
  have ga1 := fmul ea1
  have ga2 := fadd ea2
  have ga3 := fmul ea3
  have ga4 := fadd ea4
  have ga5 := fmul ea5
  have ga6 := fadd ea6
  have ga7 := fmul ea7
  have ga8 := fadd ea8
  have ga9 := fmul ea9
  have gc := fsub ec
  have grc := fmul erc
  have gd' := fsub ed
  have gq := fdiv eq
  have gu := fsub eu
  have gz := fsub ez
  have gy := fsub ey
  obtain ⟨p1, p2⟩ := pos_of_sgn fy y3
  rw [p2] at y1 y2
  have HL : Hid (Calls Yba.prog 60 #[.float .f64 y, .int .i64 k] w fun e w' => (∃ v, e = .returned (.float .f64 v) ∧ v ≤ 9218868437227405312) ∧ w' = w) := ldexp_any y k y1 y2 k1 k2 w
  clear y1 y2 y3 p1 p2 fy k1 k2 er et ea1 ea2 ea3 ea4 ea5 ea6 ea7 ea8 ea9 ec erc ed eq eu ez ey hr ht ha1 ha2 ha3 ha4 ha5 ha6 ha7 ha8 ha9 hc hrc hq hu hz hhi hlo fd gd
  go_enter Yba.func57, Yba.ntmps57
  go_wp2_with fail
  refine HL.out.mono ?_
  rintro e w1 ⟨⟨v, rfl, hv⟩, rfl⟩
  go_wp2
  go_ret
  exact ⟨⟨v, rfl, hv⟩, rfl⟩

end Go.Proofs.Ybulkbdbe
