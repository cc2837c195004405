/- FnLiteralHexFloat, behind its card (G1). -/
import Derived.Test.YtgpoplfgngiilaaGreatDoorR07
import Derived.Test.YtgpoplfgngiilaaGreatDoorR06
import Derived.Outline
import Derived.BigRegion
import Derived.Laws.Bits64b
set_option linter.unusedVariables false
set_option linter.unusedSimpArgs false
namespace Go.Proofs.YtgpoplfgngiilaaGreatDoor
open Go.RowKit Go.Proofs.YtgpoplfgngiilaaGreatDoorW.PrintWords

set_option maxHeartbeats 800000 in
set_option maxRecDepth 1000000 in
theorem bitsDiv64_0 (lo y : Nat) (hlo : lo < 18446744073709551616) (hy0 : 0 < y) (hy : y < 18446744073709551616) (w : World) :
    Calls Tryz.prog 280 #[.int .u64 0, .int .u64 lo, .int .u64 y] w fun e w' => e = .returned (.tuple #[.int .u64 ((lo / y : Nat) : Int), .int .u64 ((lo % y : Nat) : Int)]) ∧ ∃ n, w' = w.drewN n := by
  have h1 : ((y : Int) == 0) = false := beq_false_of_ne (by omega)
  have h2 : decide ((y : Int) ≤ 0) = false := by simp; omega
  have h3 : lo / y ≤ lo := Nat.div_le_self _ _
  have h4 : lo % y ≤ lo := Nat.mod_le _ _
  have h5 : Int.tdiv (lo : Int) (y : Int) = ((lo / y : Nat) : Int) := by simp [Int.tdiv]
  have h6 : Int.tmod (lo : Int) (y : Int) = ((lo % y : Nat) : Int) := by simp [Int.tmod]
  have h7 : (lo : Int) / (y : Int) = ((lo / y : Nat) : Int) := by simp
  have h8 : (lo : Int) % (y : Int) = ((lo % y : Nat) : Int) := by simp
  generalize lo / y = q at *
  generalize lo % y = r at *
  go_enter Tryz.func280, Tryz.ntmps280
  go_wp2_with fail
  go_region
  go_wp2_with fail
  go_ret2
  exact ⟨rfl, 1, rfl⟩

theorem and_low32 (x : Nat) (h : x < 18446744073709551616) : bits .and .u64 (x : Int) 4294967295 = ((x % 4294967296 : Nat) : Int) := by
  have e : (4294967295 : Int) = ((4294967295 : Nat) : Int) := rfl
  rw [e, bits_and_u64_nat x 4294967295 h (by decide), show (4294967295 : Nat) = 2 ^ 32 - 1 by decide, Nat.and_two_pow_sub_one_eq_mod]

def KRel (u w0 y yn1 : Nat) (kq : Nat) (vq vr : Value) (w w' : World) : Prop :=
  ∃ Q R : Int, vq = .int .u64 Q ∧ vr = .int .u64 R ∧ 0 ≤ Q ∧ Q ≤ 4294967297 ∧ 0 ≤ R ∧ R < 4294967296 ∧ Aside0 (∃ q r : Nat, Q = q ∧ R = r ∧ u = q * yn1 + r ∧ (u * 4294967296 + w0) / y ≤ q ∧ kq = q) ∧ Aside0 (w = w')

/-- What a round of the loop needs to know. -/
theorem kd_round {u w0 y yn1 yn0 q r : Nat} (hy : y = yn1 * 4294967296 + yn0) (h0 : yn0 < 4294967296) (hw : w0 < 4294967296) (hu : u < y) (hq2 : q ≤ 4294967297) (h1 : u = q * yn1 + r) (h4 : (u * 4294967296 + w0) / y ≤ q) :
    (4294967296 ≤ q ∨ 4294967296 * r + w0 < q * yn0 → 0 < q ∧ u = (q - 1) * yn1 + (r + yn1) ∧ (u * 4294967296 + w0) / y ≤ q - 1 ∧ (4294967296 ≤ r + yn1 → q - 1 = (u * 4294967296 + w0) / y)) ∧
    (q * yn0 ≤ 4294967296 * r + w0 → q = (u * 4294967296 + w0) / y) := by
  have hy0 : 0 < y := by omega
  refine ⟨fun h => ?_, fun h => ?_⟩
  · have hlt : u * 4294967296 + w0 < q * y := by
      rcases h with h | h
      · exact kd_big hu hw h
      · exact (kd_gt hy h1).1 h
    have hq0 : 0 < q := by
      rcases Nat.eq_zero_or_pos q with h | h
      · rw [h, Nat.zero_mul] at hlt; omega
      · exact h
    obtain ⟨l1, l2⟩ := kd_less (yn0 := yn0) h1 hq0 hlt
    exact ⟨hq0, l1, l2, fun hb => kd_fig l2 (kd_stop hy l1 h0 (by omega) hb) hy0⟩
  · refine kd_fig h4 ?_ hy0
    refine Nat.le_of_not_lt fun hh => ?_
    have := (kd_gt (w := w0) hy h1).2 hh
    omega

theorem cast_mul_wrap (a b : Nat) (h : a * b < 18446744073709551616) : IntKind.u64.wrap ((a : Int) * (b : Int)) = ((a * b : Nat) : Int) := by
  rw [← Int.natCast_mul]
  exact wraps_u64 _ (by omega) (by omega)

/-- The figure is found. -/
def KFin (u w y : Nat) (Z : Int) : Prop := 0 ≤ Z ∧ Z < 4294967296 ∧ ∃ q r : Nat, Z = (q : Int) ∧ u * 4294967296 + w = q * y + r ∧ r < y

theorem kfin_of {u w y q : Nat} (hu : u < y) (hw : w < 4294967296) (h : q = (u * 4294967296 + w) / y) (Z : Int) (hZ : Z = (q : Int)) : KFin u w y Z := by
  have h1 := kd_small hu hw
  have h2 := Nat.div_add_mod (u * 4294967296 + w) y
  have h3 := Nat.mod_lt (u * 4294967296 + w) (show 0 < y by omega)
  rw [← h] at h1 h2
  exact ⟨by omega, by omega, q, _, hZ, by rw [Nat.mul_comm q y]; exact h2.symm, h3⟩

theorem wrap_rest (A w q y r : Nat) (h : A * 4294967296 + w = q * y + r) (hr : r < 18446744073709551616) : IntKind.u64.wrap (IntKind.u64.wrap (IntKind.u64.wrap ((A : Int) * 4294967296) + (w : Int)) - IntKind.u64.wrap ((q : Int) * (y : Int))) = (r : Int) := by
  rw [← Int.natCast_mul]
  generalize q * y = p at *
  simp only [IntKind.wrap_u64]
  omega

/-- What the walk needs of a figure that is found: the rest in words. -/
theorem kfin_rest {u w y : Nat} {Z U W Y : Int} (h : KFin u w y Z) (hU : (u : Int) = U) (hW : (w : Int) = W) (hY : (y : Int) = Y) (hy : y < 18446744073709551616) :
    ∃ r : Nat, IntKind.u64.wrap (IntKind.u64.wrap (IntKind.u64.wrap (U * 4294967296) + W) - IntKind.u64.wrap (Z * Y)) = (r : Int) ∧ r < y ∧ ∃ q : Nat, Z = (q : Int) ∧ u * 4294967296 + w = q * y + r := by
  obtain ⟨_, _, q, r, h1, h2, h3⟩ := h
  refine ⟨r, ?_, h3, q, h1, h2⟩
  rw [h1, ← hU, ← hW, ← hY]
  exact wrap_rest u w q y r h2 (by omega)

/-- A figure's start. -/
theorem kd_setup {u y yn1 yn0 w : Nat} {U YN1 : Int} (hy : y = yn1 * 4294967296 + yn0) (h0 : yn0 < 4294967296) (h1 : 2147483648 ≤ yn1) (hw : w < 4294967296) (hu : u < y) (h2 : yn1 < 4294967296) (hU : (u : Int) = U) (hY1 : (yn1 : Int) = YN1) :
    ∃ (qa : Nat) (QA RA P : Int), 0 ≤ QA ∧ QA ≤ 4294967297 ∧ 0 ≤ RA ∧ RA < 4294967296 ∧ Int.tdiv U YN1 = QA ∧ IntKind.u64.wrap (QA * YN1) = P ∧ IntKind.u64.wrap (U - P) = RA ∧ Aside0 (∃ ra : Nat, QA = (qa : Int) ∧ RA = (ra : Int) ∧ u = qa * yn1 + ra ∧ (u * 4294967296 + w) / y ≤ qa) := by
  obtain ⟨s1, s2, s3, s4⟩ := kd_first hy h0 h1 hw hu h2
  have e : u / yn1 = u / yn1 := rfl
  have e6 : Int.tdiv (u : Int) (yn1 : Int) = ((u / yn1 : Nat) : Int) := by simp [Int.tdiv]
  generalize u / yn1 = qa at *
  generalize u % yn1 = ra at *
  refine ⟨qa, (qa : Int), (ra : Int), ((qa * yn1 : Nat) : Int), by omega, by omega, by omega, by omega, ?_, ?_, ?_, ⟨_, rfl, rfl, s1, s4⟩⟩
  · rw [← hU, ← hY1]; exact e6
  · rw [← hY1]; exact cast_mul_wrap _ _ (by omega)
  · rw [← hU, wraps_u64 _ (by omega) (by omega)]
    omega

/-- A round of the loop: one figure less, or the figure is found. -/
theorem kd_step {u w0 y yn1 yn0 kq : Nat} {Q R W0 YN1 YN0 : Int} (hy : y = yn1 * 4294967296 + yn0) (h0 : yn0 < 4294967296) (hw : w0 < 4294967296) (hu : u < y) (q1 : Q ≤ 4294967297) (r0 : 0 ≤ R) (r1 : R < 4294967296)
    (c4 : (yn1 : Int) = YN1) (c5 : (yn0 : Int) = YN0) (c6 : (w0 : Int) = W0) (HI : Aside0 (∃ q r : Nat, Q = q ∧ R = r ∧ u = q * yn1 + r ∧ (u * 4294967296 + w0) / y ≤ q ∧ kq = q)) :
    ∃ PP : Int, (1 ≤ Q ∧ (4294967296 ≤ Q ∨ Q < 4294967296 ∧ IntKind.u64.wrap (Q * YN0) = PP ∧ decide (PP > 4294967296 * R + W0) = true) ∧
      ((4294967296 ≤ R + YN1 ∧ 0 ≤ Q - 1 ∧ Q - 1 < 4294967296 ∧ Aside0 (KFin u w0 y (Q - 1))) ∨ (R + YN1 < 4294967296 ∧ Aside0 (1 ≤ kq ∧ ∃ q r : Nat, Q - 1 = q ∧ R + YN1 = r ∧ u = q * yn1 + r ∧ (u * 4294967296 + w0) / y ≤ q ∧ kq - 1 = q)))) ∨
      (0 ≤ Q ∧ Q < 4294967296 ∧ IntKind.u64.wrap (Q * YN0) = PP ∧ decide (PP > 4294967296 * R + W0) = false ∧ Aside0 (KFin u w0 y Q)) := by
  obtain ⟨q, r, hq, hr, i1, i4, i5⟩ := HI.out
  obtain ⟨k1, k2⟩ := kd_round hy h0 hw hu (by omega) i1 i4
  refine ⟨((q * yn0 : Nat) : Int), ?_⟩
  by_cases hdec : 4294967296 ≤ q ∨ 4294967296 * r + w0 < q * yn0
  · obtain ⟨d0, d1, d2, d3⟩ := k1 hdec
    refine Or.inl ⟨by omega, ?_, ?_⟩
    · by_cases hb : 4294967296 ≤ q
      · exact Or.inl (by omega)
      · have hb2 : q * yn0 ≤ 4294967295 * 4294967295 := Nat.mul_le_mul (by omega) (by omega)
        refine Or.inr ⟨by omega, ?_, ?_⟩
        · rw [hq, ← c5]; exact cast_mul_wrap _ _ (by omega)
        · refine decide_eq_true ?_
          have := hdec.resolve_left hb
          omega
    · by_cases hb : 4294967296 ≤ r + yn1
      · have hf := kfin_of hu hw (d3 hb) (Q - 1) (by omega)
        exact Or.inl ⟨by omega, hf.1, hf.2.1, ⟨hf⟩⟩
      · exact Or.inr ⟨by omega, ⟨by omega, q - 1, r + yn1, by omega, by omega, d1, d2, by omega⟩⟩
  · have hb : q < 4294967296 ∧ q * yn0 ≤ 4294967296 * r + w0 := by omega
    have hb2 : q * yn0 ≤ 4294967295 * 4294967295 := Nat.mul_le_mul (by omega) (by omega)
    refine Or.inr ⟨by omega, by omega, ?_, ?_, ⟨kfin_of hu hw (k2 hb.2) Q hq⟩⟩
    · rw [hq, ← c5]; exact cast_mul_wrap _ _ (by omega)
    · refine decide_eq_false ?_
      omega

set_option maxHeartbeats 4000000 in
set_option maxRecDepth 1000000 in
theorem bitsDiv64_n (hi lo y : Nat) (hlo : lo < 18446744073709551616) (hhi0 : 0 < hi) (hhi : hi < y) (hy0 : 9223372036854775808 ≤ y) (hy : y < 18446744073709551616) (w : World) :
    Calls Tryz.prog 280 #[.int .u64 hi, .int .u64 lo, .int .u64 y] w fun e w' => e = .returned (.tuple #[.int .u64 (((hi * 18446744073709551616 + lo) / y : Nat) : Int), .int .u64 (((hi * 18446744073709551616 + lo) % y : Nat) : Int)]) ∧ ∃ n, w' = w.drewN n := by
  have hlz : Calls Tryz.prog 284 #[.int .u64 y] w fun e w' => e = .returned (.int .i64 0) ∧ w = w' := by
    have hb : Lib.bitLen y = 64 := by
      rw [Lib.bitLen_shift 63 y hy0 hy, show y / 2 ^ 63 = 1 by omega]
      rfl
    have := Tryz.bits_LeadingZeros64 y w (by omega) (by omega)
    rw [Int.toNat_natCast, hb] at this
    exact this.mono fun e w' h => ⟨h.1, h.2.symm⟩
  obtain ⟨yn1, hyn1⟩ : ∃ n, y / 4294967296 = n := ⟨_, rfl⟩
  obtain ⟨yn0, hyn0⟩ : ∃ n, y % 4294967296 = n := ⟨_, rfl⟩
  obtain ⟨w1, hw1⟩ : ∃ n, lo / 4294967296 = n := ⟨_, rfl⟩
  obtain ⟨w0, hw0⟩ : ∃ n, lo % 4294967296 = n := ⟨_, rfl⟩
  have hyl : yn0 < 4294967296 := by omega
  have hw1l : w1 < 4294967296 := by omega
  have hw0l : w0 < 4294967296 := by omega
  have hyh : 2147483648 ≤ yn1 := by omega
  have hyh2 : yn1 < 4294967296 := by omega
  have hyy : y = yn1 * 4294967296 + yn0 := by omega
  have hll : lo = w1 * 4294967296 + w0 := by omega
  have e1 : (y : Int) / 4294967296 = (yn1 : Int) := by omega
  have e2 : bits .and .u64 (y : Int) 4294967295 = (yn0 : Int) := by rw [and_low32 y hy, hyn0]
  have e3 : (lo : Int) / 4294967296 = (w1 : Int) := by omega
  have e4 : bits .and .u64 (lo : Int) 4294967295 = (w0 : Int) := by rw [and_low32 lo hlo, hw0]
  have e5 : bits .or .u64 (hi : Int) ((lo : Int) / 18446744073709551616) = (hi : Int) := by
    rw [show (lo : Int) / 18446744073709551616 = ((0 : Nat) : Int) by omega, u64_or_nat _ _ (by omega) (by decide)]
    simp
  obtain ⟨Y, hY⟩ : ∃ P : Int, (y : Int) = P := ⟨_, rfl⟩
  obtain ⟨HI, hHI⟩ : ∃ P : Int, (hi : Int) = P := ⟨_, rfl⟩
  obtain ⟨LO, hLO⟩ : ∃ P : Int, (lo : Int) = P := ⟨_, rfl⟩
  obtain ⟨YN1, hYN1⟩ : ∃ P : Int, (yn1 : Int) = P := ⟨_, rfl⟩
  obtain ⟨YN0, hYN0⟩ : ∃ P : Int, (yn0 : Int) = P := ⟨_, rfl⟩
  obtain ⟨W1, hW1⟩ : ∃ P : Int, (w1 : Int) = P := ⟨_, rfl⟩
  obtain ⟨W0, hW0⟩ : ∃ P : Int, (w0 : Int) = P := ⟨_, rfl⟩
  obtain ⟨qa, QA, RA, P1, b80, b81, b90, b91, e6, e7, e8, HS⟩ := kd_setup hyy hyl hyh hw1l hhi hyh2 hHI hYN1
  obtain ⟨ZQ, hZQ⟩ : ∃ P : Int, (((hi * 18446744073709551616 + lo) / y : Nat) : Int) = P := ⟨_, rfl⟩
  obtain ⟨ZR, hZR⟩ : ∃ P : Int, (((hi * 18446744073709551616 + lo) % y : Nat) : Int) = P := ⟨_, rfl⟩
  have b1 : 9223372036854775808 ≤ Y ∧ Y < 18446744073709551616 := by omega
  have b2 : 0 < HI ∧ HI < Y := by omega
  have b3 : 0 ≤ LO ∧ LO < 18446744073709551616 := by omega
  have b4 : 2147483648 ≤ YN1 ∧ YN1 < 4294967296 := by omega
  have b5 : 0 ≤ YN0 ∧ YN0 < 4294967296 := by omega
  have b6 : 0 ≤ W1 ∧ W1 < 4294967296 := by omega
  have b7 : 0 ≤ W0 ∧ W0 < 4294967296 := by omega
  have HG := Aside0.mk (fun (r q1 q0 r0 : Nat) (h1 : hi * 4294967296 + w1 = q1 * y + r) (h0 : r * 4294967296 + w0 = q0 * y + r0) (hr : r0 < y) => (show (q1 : Int) * 4294967296 + (q0 : Int) = ZQ ∧ (r0 : Int) = ZR by
    obtain ⟨k1, k2⟩ := kd_two (B := 18446744073709551616) (b := 4294967296) (by decide) h1 h0 hr
    rw [← hll] at k1 k2
    rw [← hZQ, ← hZR, k1, k2]
    exact ⟨by simp, rfl⟩))
  have HE := Aside0.mk (fun (r : Nat) (U : Int) (hr : r < y) (hU : (r : Int) = U) => kd_setup hyy hyl hyh hw0l hr hyh2 hU hYN1)
  have HS1 := Aside0.mk (fun (Q R : Int) (kq : Nat) (q1 : Q ≤ 4294967297) (r0 : 0 ≤ R) (r1 : R < 4294967296) HI => kd_step (u := hi) (kq := kq) hyy hyl hw1l hhi q1 r0 r1 hYN1 hYN0 hW1 HI)
  have HS2 := Aside0.mk (fun (r : Nat) (hr : r < y) (Q R : Int) (kq : Nat) (q1 : Q ≤ 4294967297) (r0 : 0 ≤ R) (r1 : R < 4294967296) HI => kd_step (u := r) (kq := kq) hyy hyl hw0l hr q1 r0 r1 hYN1 hYN0 hW0 HI)
  have HF1 := Aside0.mk (fun (Z : Int) (h : KFin hi w1 y Z) => kfin_rest h hHI hW1 hY hy)
  have HF2 := Aside0.mk (fun (r : Nat) (U : Int) (hU : (r : Int) = U) (Z : Int) (h : KFin r w0 y Z) => kfin_rest h hU hW0 hY hy)
  rw [hY, hYN1] at e1
  rw [hY, hYN0] at e2
  rw [hLO, hW1] at e3
  rw [hLO, hW0] at e4
  rw [hHI, hLO] at e5
  rw [hY] at hlz
  rw [hY, hHI, hLO, hZQ, hZR]
  have h1 : (Y == 0) = false := beq_false_of_ne (by omega)
  have h2 : decide (Y ≤ HI) = false := by simp; omega
  have h3 : (HI == 0) = false := beq_false_of_ne (by omega)
  have HYY := Aside0.mk hY
  clear hw1 hw0 hyn1 hyn0 hyl hw1l hw0l hyh hyh2 hyy hll hY hHI hLO hYN1 hYN0 hW1 hW0 hZQ hZR hlo hhi0 hhi hy0 hy
  obtain ⟨b10, b11⟩ := b1
  obtain ⟨b20, b21⟩ := b2
  obtain ⟨b30, b31⟩ := b3
  obtain ⟨b40, b41⟩ := b4
  obtain ⟨b50, b51⟩ := b5
  obtain ⟨b60, b61⟩ := b6
  obtain ⟨b70, b71⟩ := b7
  go_enter Tryz.func280, Tryz.ntmps280
  go_wp2_with (go_at_call 284; (refine hlz.mono ?_); rintro e wx ⟨rfl, rfl⟩)
  go_loopg [15, 16] qa (fun kq v15 v16 w' => KRel hi w1 y yn1 kq v15 v16 w w')
  case atStart =>
    obtain ⟨ra, t1, t2, t3, t4⟩ := HS.out
    exact ⟨QA, RA, rfl, rfl, b80, b81, b90, b91, ⟨qa, ra, t1, t2, t3, t4, rfl⟩, ⟨rfl⟩⟩
  case round =>
    obtain ⟨Q, R, rfl, rfl, q0, q1, r0, r1, HI', HW⟩ := hrel
    obtain rfl := HW.out
    have hstep := HS1.out Q R gk q1 r0 r1 HI'
    clear HI' HW
    obtain ⟨PP, hstep⟩ := hstep
    rcases hstep with ⟨hq1, hxx, hyy⟩ | ⟨hq0, hq2, hm1, hm2, HFin⟩
    · rcases hxx with hxx | ⟨hxx, hm1, hm2⟩
      · have hd : decide (Q ≥ 4294967296) = true := by simp; omega
        rcases hyy with ⟨hbr, hz0, hz1, HFin⟩ | ⟨hbr, HN⟩
        · have hd2 : decide (R + YN1 ≥ 4294967296) = true := by simp; omega
          obtain ⟨u1, hr1, hr2, qa1, hr3, hr4⟩ := HF1.out (Q - 1) HFin.out
          obtain ⟨U, hU⟩ : ∃ P : Int, (u1 : Int) = P := ⟨_, rfl⟩
          rw [hU] at hr1
          have hUb : 0 ≤ U ∧ U < Y := by have := HYY.out; omega
          obtain ⟨qb, QB, RB, P2, b80', b81', b90', b91', e6', e7', e8', HT⟩ := HE.out u1 U hr2 hU
          have HU := Aside0.mk (And.intro hr2 (And.intro hr3 hr4))
          obtain ⟨ZB, hZB⟩ : ∃ P : Int, (Q - 1) = P := ⟨_, rfl⟩
          rw [hZB] at hr1 HU
          have hzb : 0 ≤ ZB ∧ ZB < 4294967296 := by omega
          clear hr2 hr3 hr4
          have hU := Aside0.mk hU
          go_wp2_with fail
          clear hq1 hd2 hbr hz0 hz1 hd
          go_loopg [18, 16] qb (fun kq v18 v16 w' => KRel u1 w0 y yn1 kq v18 v16 w w')
          case atStart =>
            obtain ⟨ra, t1, t2, t3, t4⟩ := HT.out
            exact ⟨QB, RB, rfl, rfl, b80', b81', b90', b91', ⟨qb, ra, t1, t2, t3, t4, rfl⟩, ⟨rfl⟩⟩
          case round =>
            obtain ⟨Q, R, rfl, rfl, q0, q1, r0, r1, HI', HW⟩ := hrel
            obtain rfl := HW.out
            have hstep := HS2.out u1 HU.out.1 Q R gk q1 r0 r1 HI'
            clear HI' HW
            obtain ⟨PP, hstep⟩ := hstep
            rcases hstep with ⟨hq1, hxx, hyy⟩ | ⟨hq0, hq2, hm1, hm2, HFin⟩
            · rcases hxx with hxx | ⟨hxx, hm1, hm2⟩
              · have hd : decide (Q ≥ 4294967296) = true := by simp; omega
                rcases hyy with ⟨hbr, hz0, hz1, HFin⟩ | ⟨hbr, HN⟩
                · have hd2 : decide (R + YN1 ≥ 4294967296) = true := by simp; omega
                  obtain ⟨rr, hr1, hr2, qq, hr3, hr4⟩ := HF2.out u1 U hU.out (Q - 1) HFin.out
                  obtain ⟨RR, hRR⟩ : ∃ P : Int, (rr : Int) = P := ⟨_, rfl⟩
                  rw [hRR] at hr1
                  have hRb : 0 ≤ RR ∧ RR < 18446744073709551616 := by have := HYY.out; omega
                  obtain ⟨k1, k2⟩ := HG.out u1 qa1 qq rr HU.out.2.2 hr4 hr2
                  rw [← hr3, ← HU.out.2.1] at k1
                  rw [hRR] at k2
                  obtain ⟨ZA, hZA⟩ : ∃ P : Int, (Q - 1) = P := ⟨_, rfl⟩
                  rw [hZA] at hr1 k1
                  have hZb : 0 ≤ ZA ∧ ZA < 4294967296 := by omega
                  have HK := Aside0.mk (And.intro k1 k2)
                  clear hr2 hr3 hr4 hRR k1 k2
                  go_wp2_with fail
                  go_ret2
                  exact ⟨by rw [← HK.out.1, ← HK.out.2]; rfl, 0, rfl⟩
                · have hd2 : decide (R + YN1 ≥ 4294967296) = false := by simp; omega
                  go_wp2_with fail
                  go_roundg (gk - 1)
                  case measure => have := HN.out.1; omega
                  case rel => exact ⟨Q - 1, R + YN1, by go_num, by go_num, by omega, by omega, by omega, by omega, ⟨HN.out.2⟩, ⟨rfl⟩⟩
              · have hd : decide (Q ≥ 4294967296) = false := by simp; omega
                rcases hyy with ⟨hbr, hz0, hz1, HFin⟩ | ⟨hbr, HN⟩
                · have hd2 : decide (R + YN1 ≥ 4294967296) = true := by simp; omega
                  obtain ⟨rr, hr1, hr2, qq, hr3, hr4⟩ := HF2.out u1 U hU.out (Q - 1) HFin.out
                  obtain ⟨RR, hRR⟩ : ∃ P : Int, (rr : Int) = P := ⟨_, rfl⟩
                  rw [hRR] at hr1
                  have hRb : 0 ≤ RR ∧ RR < 18446744073709551616 := by have := HYY.out; omega
                  obtain ⟨k1, k2⟩ := HG.out u1 qa1 qq rr HU.out.2.2 hr4 hr2
                  rw [← hr3, ← HU.out.2.1] at k1
                  rw [hRR] at k2
                  obtain ⟨ZA, hZA⟩ : ∃ P : Int, (Q - 1) = P := ⟨_, rfl⟩
                  rw [hZA] at hr1 k1
                  have hZb : 0 ≤ ZA ∧ ZA < 4294967296 := by omega
                  have HK := Aside0.mk (And.intro k1 k2)
                  clear hr2 hr3 hr4 hRR k1 k2
                  go_wp2_with fail
                  go_ret2
                  exact ⟨by rw [← HK.out.1, ← HK.out.2]; rfl, 0, rfl⟩
                · have hd2 : decide (R + YN1 ≥ 4294967296) = false := by simp; omega
                  go_wp2_with fail
                  go_roundg (gk - 1)
                  case measure => have := HN.out.1; omega
                  case rel => exact ⟨Q - 1, R + YN1, by go_num, by go_num, by omega, by omega, by omega, by omega, ⟨HN.out.2⟩, ⟨rfl⟩⟩
            · have hd : decide (Q ≥ 4294967296) = false := by simp; omega
              have hle := of_decide_eq_false hm2
              have hm3 : decide (4294967296 * R + W0 < PP) = false := hm2
              obtain ⟨rr, hr1, hr2, qq, hr3, hr4⟩ := HF2.out u1 U hU.out Q HFin.out
              obtain ⟨RR, hRR⟩ : ∃ P : Int, (rr : Int) = P := ⟨_, rfl⟩
              rw [hRR] at hr1
              have hRb : 0 ≤ RR ∧ RR < 18446744073709551616 := by have := HYY.out; omega
              obtain ⟨k1, k2⟩ := HG.out u1 qa1 qq rr HU.out.2.2 hr4 hr2
              rw [← hr3, ← HU.out.2.1] at k1
              rw [hRR] at k2
              have HK := Aside0.mk (And.intro k1 k2)
              clear hr2 hr3 hr4 hRR k1 k2
              go_wp2_with fail
              go_ret2
              exact ⟨by rw [← HK.out.1, ← HK.out.2]; rfl, 0, rfl⟩
        · have hd2 : decide (R + YN1 ≥ 4294967296) = false := by simp; omega
          go_wp2_with fail
          go_roundg (gk - 1)
          case measure => have := HN.out.1; omega
          case rel => exact ⟨Q - 1, R + YN1, by go_num, by go_num, by omega, by omega, by omega, by omega, ⟨HN.out.2⟩, ⟨rfl⟩⟩
      · have hd : decide (Q ≥ 4294967296) = false := by simp; omega
        rcases hyy with ⟨hbr, hz0, hz1, HFin⟩ | ⟨hbr, HN⟩
        · have hd2 : decide (R + YN1 ≥ 4294967296) = true := by simp; omega
          obtain ⟨u1, hr1, hr2, qa1, hr3, hr4⟩ := HF1.out (Q - 1) HFin.out
          obtain ⟨U, hU⟩ : ∃ P : Int, (u1 : Int) = P := ⟨_, rfl⟩
          rw [hU] at hr1
          have hUb : 0 ≤ U ∧ U < Y := by have := HYY.out; omega
          obtain ⟨qb, QB, RB, P2, b80', b81', b90', b91', e6', e7', e8', HT⟩ := HE.out u1 U hr2 hU
          have HU := Aside0.mk (And.intro hr2 (And.intro hr3 hr4))
          obtain ⟨ZB, hZB⟩ : ∃ P : Int, (Q - 1) = P := ⟨_, rfl⟩
          rw [hZB] at hr1 HU
          have hzb : 0 ≤ ZB ∧ ZB < 4294967296 := by omega
          clear hr2 hr3 hr4
          have hU := Aside0.mk hU
          go_wp2_with fail
          clear hq1 hd2 hbr hz0 hz1 hd
          go_loopg [18, 16] qb (fun kq v18 v16 w' => KRel u1 w0 y yn1 kq v18 v16 w w')
          case atStart =>
            obtain ⟨ra, t1, t2, t3, t4⟩ := HT.out
            exact ⟨QB, RB, rfl, rfl, b80', b81', b90', b91', ⟨qb, ra, t1, t2, t3, t4, rfl⟩, ⟨rfl⟩⟩
          case round =>
            obtain ⟨Q, R, rfl, rfl, q0, q1, r0, r1, HI', HW⟩ := hrel
            obtain rfl := HW.out
            have hstep := HS2.out u1 HU.out.1 Q R gk q1 r0 r1 HI'
            clear HI' HW
            obtain ⟨PP, hstep⟩ := hstep
            rcases hstep with ⟨hq1, hxx, hyy⟩ | ⟨hq0, hq2, hm1, hm2, HFin⟩
            · rcases hxx with hxx | ⟨hxx, hm1, hm2⟩
              · have hd : decide (Q ≥ 4294967296) = true := by simp; omega
                rcases hyy with ⟨hbr, hz0, hz1, HFin⟩ | ⟨hbr, HN⟩
                · have hd2 : decide (R + YN1 ≥ 4294967296) = true := by simp; omega
                  obtain ⟨rr, hr1, hr2, qq, hr3, hr4⟩ := HF2.out u1 U hU.out (Q - 1) HFin.out
                  obtain ⟨RR, hRR⟩ : ∃ P : Int, (rr : Int) = P := ⟨_, rfl⟩
                  rw [hRR] at hr1
                  have hRb : 0 ≤ RR ∧ RR < 18446744073709551616 := by have := HYY.out; omega
                  obtain ⟨k1, k2⟩ := HG.out u1 qa1 qq rr HU.out.2.2 hr4 hr2
                  rw [← hr3, ← HU.out.2.1] at k1
                  rw [hRR] at k2
                  obtain ⟨ZA, hZA⟩ : ∃ P : Int, (Q - 1) = P := ⟨_, rfl⟩
                  rw [hZA] at hr1 k1
                  have hZb : 0 ≤ ZA ∧ ZA < 4294967296 := by omega
                  have HK := Aside0.mk (And.intro k1 k2)
                  clear hr2 hr3 hr4 hRR k1 k2
                  go_wp2_with fail
                  go_ret2
                  exact ⟨by rw [← HK.out.1, ← HK.out.2]; rfl, 0, rfl⟩
                · have hd2 : decide (R + YN1 ≥ 4294967296) = false := by simp; omega
                  go_wp2_with fail
                  go_roundg (gk - 1)
                  case measure => have := HN.out.1; omega
                  case rel => exact ⟨Q - 1, R + YN1, by go_num, by go_num, by omega, by omega, by omega, by omega, ⟨HN.out.2⟩, ⟨rfl⟩⟩
              · have hd : decide (Q ≥ 4294967296) = false := by simp; omega
                rcases hyy with ⟨hbr, hz0, hz1, HFin⟩ | ⟨hbr, HN⟩
                · have hd2 : decide (R + YN1 ≥ 4294967296) = true := by simp; omega
                  obtain ⟨rr, hr1, hr2, qq, hr3, hr4⟩ := HF2.out u1 U hU.out (Q - 1) HFin.out
                  obtain ⟨RR, hRR⟩ : ∃ P : Int, (rr : Int) = P := ⟨_, rfl⟩
                  rw [hRR] at hr1
                  have hRb : 0 ≤ RR ∧ RR < 18446744073709551616 := by have := HYY.out; omega
                  obtain ⟨k1, k2⟩ := HG.out u1 qa1 qq rr HU.out.2.2 hr4 hr2
                  rw [← hr3, ← HU.out.2.1] at k1
                  rw [hRR] at k2
                  obtain ⟨ZA, hZA⟩ : ∃ P : Int, (Q - 1) = P := ⟨_, rfl⟩
                  rw [hZA] at hr1 k1
                  have hZb : 0 ≤ ZA ∧ ZA < 4294967296 := by omega
                  have HK := Aside0.mk (And.intro k1 k2)
                  clear hr2 hr3 hr4 hRR k1 k2
                  go_wp2_with fail
                  go_ret2
                  exact ⟨by rw [← HK.out.1, ← HK.out.2]; rfl, 0, rfl⟩
                · have hd2 : decide (R + YN1 ≥ 4294967296) = false := by simp; omega
                  go_wp2_with fail
                  go_roundg (gk - 1)
                  case measure => have := HN.out.1; omega
                  case rel => exact ⟨Q - 1, R + YN1, by go_num, by go_num, by omega, by omega, by omega, by omega, ⟨HN.out.2⟩, ⟨rfl⟩⟩
            · have hd : decide (Q ≥ 4294967296) = false := by simp; omega
              have hle := of_decide_eq_false hm2
              have hm3 : decide (4294967296 * R + W0 < PP) = false := hm2
              obtain ⟨rr, hr1, hr2, qq, hr3, hr4⟩ := HF2.out u1 U hU.out Q HFin.out
              obtain ⟨RR, hRR⟩ : ∃ P : Int, (rr : Int) = P := ⟨_, rfl⟩
              rw [hRR] at hr1
              have hRb : 0 ≤ RR ∧ RR < 18446744073709551616 := by have := HYY.out; omega
              obtain ⟨k1, k2⟩ := HG.out u1 qa1 qq rr HU.out.2.2 hr4 hr2
              rw [← hr3, ← HU.out.2.1] at k1
              rw [hRR] at k2
              have HK := Aside0.mk (And.intro k1 k2)
              clear hr2 hr3 hr4 hRR k1 k2
              go_wp2_with fail
              go_ret2
              exact ⟨by rw [← HK.out.1, ← HK.out.2]; rfl, 0, rfl⟩
        · have hd2 : decide (R + YN1 ≥ 4294967296) = false := by simp; omega
          go_wp2_with fail
          go_roundg (gk - 1)
          case measure => have := HN.out.1; omega
          case rel => exact ⟨Q - 1, R + YN1, by go_num, by go_num, by omega, by omega, by omega, by omega, ⟨HN.out.2⟩, ⟨rfl⟩⟩
    · have hd : decide (Q ≥ 4294967296) = false := by simp; omega
      have hle := of_decide_eq_false hm2
      have hm3 : decide (4294967296 * R + W1 < PP) = false := hm2
      obtain ⟨u1, hr1, hr2, qa1, hr3, hr4⟩ := HF1.out Q HFin.out
      obtain ⟨U, hU⟩ : ∃ P : Int, (u1 : Int) = P := ⟨_, rfl⟩
      rw [hU] at hr1
      have hUb : 0 ≤ U ∧ U < Y := by have := HYY.out; omega
      obtain ⟨qb, QB, RB, P2, b80', b81', b90', b91', e6', e7', e8', HT⟩ := HE.out u1 U hr2 hU
      have HU := Aside0.mk (And.intro hr2 (And.intro hr3 hr4))
      clear hr2 hr3 hr4
      have hU := Aside0.mk hU
      go_wp2_with fail
      clear hq0  hd
      go_loopg [18, 16] qb (fun kq v18 v16 w' => KRel u1 w0 y yn1 kq v18 v16 w w')
      case atStart =>
        obtain ⟨ra, t1, t2, t3, t4⟩ := HT.out
        exact ⟨QB, RB, rfl, rfl, b80', b81', b90', b91', ⟨qb, ra, t1, t2, t3, t4, rfl⟩, ⟨rfl⟩⟩
      case round =>
        obtain ⟨Q, R, rfl, rfl, q0, q1, r0, r1, HI', HW⟩ := hrel
        obtain rfl := HW.out
        have hstep := HS2.out u1 HU.out.1 Q R gk q1 r0 r1 HI'
        clear HI' HW
        obtain ⟨PP, hstep⟩ := hstep
        rcases hstep with ⟨hq1, hxx, hyy⟩ | ⟨hq0, hq2, hm1, hm2, HFin⟩
        · rcases hxx with hxx | ⟨hxx, hm1, hm2⟩
          · have hd : decide (Q ≥ 4294967296) = true := by simp; omega
            rcases hyy with ⟨hbr, hz0, hz1, HFin⟩ | ⟨hbr, HN⟩
            · have hd2 : decide (R + YN1 ≥ 4294967296) = true := by simp; omega
              obtain ⟨rr, hr1, hr2, qq, hr3, hr4⟩ := HF2.out u1 U hU.out (Q - 1) HFin.out
              obtain ⟨RR, hRR⟩ : ∃ P : Int, (rr : Int) = P := ⟨_, rfl⟩
              rw [hRR] at hr1
              have hRb : 0 ≤ RR ∧ RR < 18446744073709551616 := by have := HYY.out; omega
              obtain ⟨k1, k2⟩ := HG.out u1 qa1 qq rr HU.out.2.2 hr4 hr2
              rw [← hr3, ← HU.out.2.1] at k1
              rw [hRR] at k2
              obtain ⟨ZA, hZA⟩ : ∃ P : Int, (Q - 1) = P := ⟨_, rfl⟩
              rw [hZA] at hr1 k1
              have hZb : 0 ≤ ZA ∧ ZA < 4294967296 := by omega
              have HK := Aside0.mk (And.intro k1 k2)
              clear hr2 hr3 hr4 hRR k1 k2
              go_wp2_with fail
              go_ret2
              exact ⟨by rw [← HK.out.1, ← HK.out.2]; rfl, 0, rfl⟩
            · have hd2 : decide (R + YN1 ≥ 4294967296) = false := by simp; omega
              go_wp2_with fail
              go_roundg (gk - 1)
              case measure => have := HN.out.1; omega
              case rel => exact ⟨Q - 1, R + YN1, by go_num, by go_num, by omega, by omega, by omega, by omega, ⟨HN.out.2⟩, ⟨rfl⟩⟩
          · have hd : decide (Q ≥ 4294967296) = false := by simp; omega
            rcases hyy with ⟨hbr, hz0, hz1, HFin⟩ | ⟨hbr, HN⟩
            · have hd2 : decide (R + YN1 ≥ 4294967296) = true := by simp; omega
              obtain ⟨rr, hr1, hr2, qq, hr3, hr4⟩ := HF2.out u1 U hU.out (Q - 1) HFin.out
              obtain ⟨RR, hRR⟩ : ∃ P : Int, (rr : Int) = P := ⟨_, rfl⟩
              rw [hRR] at hr1
              have hRb : 0 ≤ RR ∧ RR < 18446744073709551616 := by have := HYY.out; omega
              obtain ⟨k1, k2⟩ := HG.out u1 qa1 qq rr HU.out.2.2 hr4 hr2
              rw [← hr3, ← HU.out.2.1] at k1
              rw [hRR] at k2
              obtain ⟨ZA, hZA⟩ : ∃ P : Int, (Q - 1) = P := ⟨_, rfl⟩
              rw [hZA] at hr1 k1
              have hZb : 0 ≤ ZA ∧ ZA < 4294967296 := by omega
              have HK := Aside0.mk (And.intro k1 k2)
              clear hr2 hr3 hr4 hRR k1 k2
              go_wp2_with fail
              go_ret2
              exact ⟨by rw [← HK.out.1, ← HK.out.2]; rfl, 0, rfl⟩
            · have hd2 : decide (R + YN1 ≥ 4294967296) = false := by simp; omega
              go_wp2_with fail
              go_roundg (gk - 1)
              case measure => have := HN.out.1; omega
              case rel => exact ⟨Q - 1, R + YN1, by go_num, by go_num, by omega, by omega, by omega, by omega, ⟨HN.out.2⟩, ⟨rfl⟩⟩
        · have hd : decide (Q ≥ 4294967296) = false := by simp; omega
          have hle := of_decide_eq_false hm2
          have hm3 : decide (4294967296 * R + W0 < PP) = false := hm2
          obtain ⟨rr, hr1, hr2, qq, hr3, hr4⟩ := HF2.out u1 U hU.out Q HFin.out
          obtain ⟨RR, hRR⟩ : ∃ P : Int, (rr : Int) = P := ⟨_, rfl⟩
          rw [hRR] at hr1
          have hRb : 0 ≤ RR ∧ RR < 18446744073709551616 := by have := HYY.out; omega
          obtain ⟨k1, k2⟩ := HG.out u1 qa1 qq rr HU.out.2.2 hr4 hr2
          rw [← hr3, ← HU.out.2.1] at k1
          rw [hRR] at k2
          have HK := Aside0.mk (And.intro k1 k2)
          clear hr2 hr3 hr4 hRR k1 k2
          go_wp2_with fail
          go_ret2
          exact ⟨by rw [← HK.out.1, ← HK.out.2]; rfl, 0, rfl⟩
end Go.Proofs.YtgpoplfgngiilaaGreatDoor
