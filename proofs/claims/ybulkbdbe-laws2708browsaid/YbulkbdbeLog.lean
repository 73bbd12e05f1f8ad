import Derived.Test.YbulkbdbeExp
namespace Go.Proofs.Ybulkbdbe
open Go.RowKit Flt Ieee

variable {P : Program}

theorem aadd {x y z : Nat} (h : double.add x y = some z) (w : World) : Sem.run P (Extern.MathAsm.add x y) w = .ok z w := by
  have h' : FloatKind.f64.format.add x y = some z := h
  simp [Extern.MathAsm.add, Extern.MathAsm.arith, Op.floatArith, h']
theorem asub {x y z : Nat} (h : double.sub x y = some z) (w : World) : Sem.run P (Extern.MathAsm.sub x y) w = .ok z w := by
  have h' : FloatKind.f64.format.sub x y = some z := h
  simp [Extern.MathAsm.sub, Extern.MathAsm.arith, Op.floatArith, h']
theorem amul {x y z : Nat} (h : double.mul x y = some z) (w : World) : Sem.run P (Extern.MathAsm.mul x y) w = .ok z w := by
  have h' : FloatKind.f64.format.mul x y = some z := h
  simp [Extern.MathAsm.mul, Extern.MathAsm.arith, Op.floatArith, h']
theorem adiv {x y z : Nat} (h : double.div x y = some z) (w : World) : Sem.run P (Extern.MathAsm.div x y) w = .ok z w := by
  have h' : FloatKind.f64.format.div x y = some z := h
  simp [Extern.MathAsm.div, Extern.MathAsm.arith, Op.floatArith, h']

/-- y - 1, y from 0 to 2: at most 1 -/
theorem sub_one' {y : Nat} (hy : Bd y 4611686018427387904) (hs : sgn y = false) : ∃ z, double.sub y 4607182418800017408 = some z ∧ Bd z 4607182418800017408 := by
  have hS : S y = (V (rung y) : Int) := by unfold S sv; rw [hs]; rfl
  have hv := hy.v
  rw [V_two] at hv
  refine ⟨_, sub_eq hy.fin fin_one, bd_word _ (by decide) (rungOf_up (by decide) ?_)⟩
  rw [hS, S_one, V_one]
  generalize U = uu at *
  omega

/-- k and the number between 0 and 2 that archLog goes on with -/
theorem log_head (b : Bool) (x : Nat) (h1 : 4602678819172646912 ≤ x) (h2 : x < 4607182418800017408) : ∃ k m f, double.sub 0 (if b = true then 4607182418800017408 else 0) = some k ∧ double.add (if b = true then 4607182418800017408 else 0) 4607182418800017408 = some m ∧ double.mul x m = some f ∧
    Bd k 4607182418800017408 ∧ Bd f 4611686018427387904 ∧ sgn f = false := by
  have rx : rung x = x := by unfold rung; omega
  have hx : Bd x 4607182418800017408 := ⟨fin_pos (by omega), by omega⟩
  have sx : sgn x = false := by unfold sgn; simp; omega
  cases b with
  | true =>
    obtain ⟨f, e, h, hs⟩ := mul_bd 4611686018427387904 hx (bdc 4611686018427387904 4611686018427387904 (by decide) (by decide)) (by decide) (by decide +kernel)
    refine ⟨13830554455654793216, 4611686018427387904, f, by decide +kernel, by decide +kernel, e, bdc _ _ (by decide) (by decide), h, ?_⟩
    rw [hs, sx]; decide
  | false =>
    obtain ⟨f, e, h, hs⟩ := mul_bd 4611686018427387904 hx (bdc 4607182418800017408 4607182418800017408 (by decide) (by decide)) (by decide) (by decide +kernel)
    refine ⟨0, 4607182418800017408, f, by decide +kernel, by decide +kernel, e, (bdc 0 0 (by decide) (by decide)).mono (by decide), h, ?_⟩
    rw [hs, sx]; decide

set_option maxHeartbeats 1000000 in
/-- the model's entry math.archLog, from 1/2 to 1: a number, at most 512 -/
theorem archlog_any (x : Nat) (h1 : 4602678819172646912 ≤ x) (h2 : x < 4607182418800017408) : ∃ z, Bd z 4647714815446351872 ∧ ∀ w, Sem.run P (Extern.MathLog.archLog #[.float .f64 x]) w = .ok (.float .f64 z) w := by
  have c1 : (x % 2 ^ 63 == 0) = false := by
    have : ¬ x % 2 ^ 63 = 0 := by omega
    simpa using this
  have c2 : ¬ (x ≥ 2 ^ 63) := by omega
  have c3 : ¬ (x ≥ 9218868437227405312) := by omega
  have c4 : x % 2 ^ 52 + 4602678819172646912 = x := by omega
  have c5 : x / 2 ^ 52 = 1022 := by omega
  have c6 : Extern.MathAsm.ofInt32 (Int.ofNat 1022 - 0x3FE) = 0 := by decide +kernel
  obtain ⟨b, hb⟩ : ∃ b, (!Extern.MathAsm.lt 0x3FE6A09E667F3BCD x) = b := ⟨_, rfl⟩
  obtain ⟨k, m, f1, e_k, e_m, e_f1, h_k, hf1, hs⟩ := log_head b x h1 h2
  obtain ⟨v_f, e_f, h_f⟩ := sub_one' hf1 hs
  obtain ⟨v_d, e_d, f_d, g_d⟩ := two_add h_f
  obtain ⟨v_s, e_s, h_s⟩ := div_bd h_f (by decide) f_d g_d
  obtain ⟨v_s2, e_s2, h_s2, _⟩ := mul_bd 4607182418800017408 h_s h_s (by decide) (by decide +kernel)
  obtain ⟨v_s4, e_s4, h_s4, _⟩ := mul_bd 4607182418800017408 h_s2 h_s2 (by decide) (by decide +kernel)
  obtain ⟨v_p1, e_p1, h_p1, _⟩ := mul_bd 4607182418800017408 (bdc 4594499633228436036 4594499633228436036 (by decide) (by decide)) h_s4 (by decide) (by decide +kernel)
  obtain ⟨v_p2, e_p2, h_p2⟩ := add_bd 4611686018427387904 h_p1 (bdc 4595719342595441630 4595719342595441630 (by decide) (by decide)) (by decide) (by decide +kernel)
  obtain ⟨v_p3, e_p3, h_p3, _⟩ := mul_bd 4611686018427387904 h_p2 h_s4 (by decide) (by decide +kernel)
  obtain ⟨v_p4, e_p4, h_p4⟩ := add_bd 4616189618054758400 h_p3 (bdc 4598818590951641945 4598818590951641945 (by decide) (by decide)) (by decide) (by decide +kernel)
  obtain ⟨v_p5, e_p5, h_p5, _⟩ := mul_bd 4616189618054758400 h_p4 h_s4 (by decide) (by decide +kernel)
  obtain ⟨v_p6, e_p6, h_p6⟩ := add_bd 4620693217682128896 h_p5 (bdc 4604180019048437139 4604180019048437139 (by decide) (by decide)) (by decide) (by decide +kernel)
  obtain ⟨v_t1, e_t1, h_t1, _⟩ := mul_bd 4620693217682128896 h_s2 h_p6 (by decide) (by decide +kernel)
  obtain ⟨v_q1, e_q1, h_q1, _⟩ := mul_bd 4607182418800017408 (bdc 4594685411790997151 4594685411790997151 (by decide) (by decide)) h_s4 (by decide) (by decide +kernel)
  obtain ⟨v_q2, e_q2, h_q2⟩ := add_bd 4611686018427387904 h_q1 (bdc 4597174411056806063 4597174411056806063 (by decide) (by decide)) (by decide) (by decide +kernel)
  obtain ⟨v_q3, e_q3, h_q3, _⟩ := mul_bd 4611686018427387904 h_q2 h_s4 (by decide) (by decide +kernel)
  obtain ⟨v_q4, e_q4, h_q4⟩ := add_bd 4616189618054758400 h_q3 (bdc 4600877379321592324 4600877379321592324 (by decide) (by decide)) (by decide) (by decide +kernel)
  obtain ⟨v_t2, e_t2, h_t2, _⟩ := mul_bd 4616189618054758400 h_s4 h_q4 (by decide) (by decide +kernel)
  obtain ⟨v_r, e_r, h_r⟩ := add_bd 4625196817309499392 h_t1 h_t2 (by decide) (by decide +kernel)
  obtain ⟨v_h1, e_h1, h_h1, _⟩ := mul_bd 4607182418800017408 (bdc 4602678819172646912 4602678819172646912 (by decide) (by decide)) h_f (by decide) (by decide +kernel)
  obtain ⟨v_hf, e_hf, h_hf, _⟩ := mul_bd 4607182418800017408 h_h1 h_f (by decide) (by decide +kernel)
  obtain ⟨v_i1, e_i1, h_i1⟩ := add_bd 4629700416936869888 h_r h_hf (by decide) (by decide +kernel)
  obtain ⟨v_i2, e_i2, h_i2, _⟩ := mul_bd 4629700416936869888 h_s h_i1 (by decide) (by decide +kernel)
  obtain ⟨v_i3, e_i3, h_i3, _⟩ := mul_bd 4607182418800017408 (bdc 4461442080421002358 4461442080421002358 (by decide) (by decide)) h_k (by decide) (by decide +kernel)
  obtain ⟨v_inn, e_inn, h_inn⟩ := add_bd 4634204016564240384 h_i2 h_i3 (by decide) (by decide +kernel)
  obtain ⟨v_l1, e_l1, h_l1, _⟩ := mul_bd 4607182418800017408 h_k (bdc 4604418534311723008 4604418534311723008 (by decide) (by decide)) (by decide) (by decide +kernel)
  obtain ⟨v_l2, e_l2, h_l2⟩ := sub_bd 4638707616191610880 h_hf h_inn (by decide) (by decide +kernel)
  obtain ⟨v_l3, e_l3, h_l3⟩ := sub_bd 4643211215818981376 h_l2 h_f (by decide) (by decide +kernel)
  obtain ⟨v_res, e_res, h_res⟩ := sub_bd 4647714815446351872 h_l1 h_l3 (by decide) (by decide +kernel)
  refine ⟨v_res, h_res, fun w => ?_⟩
  have g_f := asub (P := P) e_f
  have g_d := aadd (P := P) e_d
  have g_s := adiv (P := P) e_s
  have g_s2 := amul (P := P) e_s2
  have g_s4 := amul (P := P) e_s4
  have g_p1 := amul (P := P) e_p1
  have g_p2 := aadd (P := P) e_p2
  have g_p3 := amul (P := P) e_p3
  have g_p4 := aadd (P := P) e_p4
  have g_p5 := amul (P := P) e_p5
  have g_p6 := aadd (P := P) e_p6
  have g_t1 := amul (P := P) e_t1
  have g_q1 := amul (P := P) e_q1
  have g_q2 := aadd (P := P) e_q2
  have g_q3 := amul (P := P) e_q3
  have g_q4 := aadd (P := P) e_q4
  have g_t2 := amul (P := P) e_t2
  have g_r := aadd (P := P) e_r
  have g_h1 := amul (P := P) e_h1
  have g_hf := amul (P := P) e_hf
  have g_i1 := aadd (P := P) e_i1
  have g_i2 := amul (P := P) e_i2
  have g_i3 := amul (P := P) e_i3
  have g_inn := aadd (P := P) e_inn
  have g_l1 := amul (P := P) e_l1
  have g_l2 := asub (P := P) e_l2
  have g_l3 := asub (P := P) e_l3
  have g_res := asub (P := P) e_res
  have g_k := asub (P := P) e_k
  have g_m := aadd (P := P) e_m
  have g_f1 := amul (P := P) e_f1
  change Sem.run P (@ite _ _ _ _ _) w = _
  simp only [Extern.MathAsm.one, Extern.MathAsm.two, Extern.MathAsm.half, Extern.MathAsm.posInf, c1, c2, c3, c4, c5, c6, hb, if_false, Bool.false_eq_true, Sem.run_bind, Result.andThen, g_k, g_m, g_f1, g_f, g_d, g_s, g_s2, g_s4, g_p1, g_p2, g_p3, g_p4, g_p5, g_p6, g_t1, g_q1, g_q2, g_q3, g_q4, g_t2, g_r, g_h1, g_hf, g_i1, g_i2, g_i3, g_inn, g_l1, g_l2, g_l3, g_res]
  rfl

theorem run_log (x : Nat) (h1 : 4602678819172646912 ≤ x) (h2 : x < 4607182418800017408) : ∃ z, Bd z 4647714815446351872 ∧ ∀ w, (callFunc 63 #[.float .f64 x]).run Yba.prog w = .ok (.value (.float .f64 z)) w := by
  obtain ⟨z, hz, h⟩ := archlog_any (P := Yba.prog) x h1 h2
  refine ⟨z, hz, fun w => ?_⟩
  rw [run_callFunc_extern (P := Yba.prog) Yba.func63 (by kernel_rfl) (by kernel_rfl) (by kernel_rfl) (e := Extern.MathLog.archLog) (by kernel_rfl)]
  simp only [h, Result.andThen]

theorem run_log_inf (w : World) : (callFunc 63 #[.float .f64 9218868437227405312]).run Yba.prog w = .ok (.value (.float .f64 9218868437227405312)) w := by
  rw [run_callFunc_extern (P := Yba.prog) Yba.func63 (by kernel_rfl) (by kernel_rfl) (by kernel_rfl) (e := Extern.MathLog.archLog) (by kernel_rfl)]
  rfl

theorem b_frexp {q : Nat} (h : q < 2048) : bits .and .u64 (q : Int) 2047 = (q : Int) := by
  have key : ∀ e : _root_.Fin 2048, bits .and .u64 ((e.val : Nat) : Int) 2047 = ((e.val : Nat) : Int) := by decide +kernel
  exact key ⟨q, h⟩

/-- the float of a small whole number: at most 2048 -/
theorem int_bd (n : Int) (h1 : -2000 ≤ n) (h2 : n ≤ 2000) : Bd (floatOfInt .f64 n) 4656722014701092864 := by
  obtain ⟨u, M, hU, hM, hu, _, _, _, h2k, hup⟩ := U_four
  clear hu
  by_cases hn : 0 ≤ n
  · obtain ⟨fk, hk⟩ := int_S false n.toNat (by omega)
    have e : sv false n.toNat = n := by unfold sv; simp; omega
    rw [e] at fk hk
    refine ⟨fk, ?_⟩
    have ha := S_abs (floatOfInt .f64 n)
    rw [hk, sv_abs, hU] at ha
    apply Nat.le_of_not_lt
    intro hc
    have := V_strict hc (by have := fk.fin; unfold rung; exact this)
    rw [h2k, ← ha] at this
    have : n.toNat * (4 * u) ≤ 2000 * (4 * u) := Nat.mul_le_mul_right _ (by omega)
    omega
  · obtain ⟨fk, hk⟩ := int_S true (-n).toNat (by omega)
    have e : sv true (-n).toNat = n := by unfold sv; simp; omega
    rw [e] at fk hk
    refine ⟨fk, ?_⟩
    have ha := S_abs (floatOfInt .f64 n)
    rw [hk, sv_abs, hU] at ha
    apply Nat.le_of_not_lt
    intro hc
    have := V_strict hc (by have := fk.fin; unfold rung; exact this)
    rw [h2k, ← ha] at this
    have : (-n).toNat * (4 * u) ≤ 2000 * (4 * u) := Nat.mul_le_mul_right _ (by omega)
    omega

end Go.Proofs.Ybulkbdbe
