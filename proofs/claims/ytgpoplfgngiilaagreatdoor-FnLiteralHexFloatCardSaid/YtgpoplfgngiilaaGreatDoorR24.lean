/- FnLiteralHexFloat, behind its card (X3). -/
import Derived.Test.YtgpoplfgngiilaaGreatDoorR23
import Derived.Test.YtgpoplfgngiilaaGreatDoorR07
set_option linter.unusedVariables false
set_option linter.unusedSimpArgs false
namespace Go.Proofs.YtgpoplfgngiilaaGreatDoor
set_option linter.unusedVariables false
set_option linter.unusedSimpArgs false
open Go.RowKit Go.Proofs.YtgpoplfgngiilaaGreatDoorW.PrintWords Go.Proofs.YtgpoplfgngiilaaGreatDoorW.PrintLast Go.Proofs.YtgpoplfgngiilaaGreatDoorW.PrintMore

theorem lits_bit (q s : Nat) (hs : s < 16) : lits 65536 (2 ^ (16 * q + s)) = List.replicate q 0 ++ [((2 ^ s : Nat) : Int)] := by
  have hz : ∀ n : Nat, valL 65536 (List.replicate n 0) = 0 := fun n => by
    induction n with
    | zero => rfl
    | succ n ih => simp [List.replicate_succ, valL, ih]
  have hp : 2 ^ s ≤ 32768 := Nat.pow_le_pow_right (n := 2) (by decide) (show s ≤ 15 by omega)
  have hp0 : 0 < 2 ^ s := Nat.pow_pos (by decide)
  have hR : InR 65536 (List.replicate q 0 ++ [((2 ^ s : Nat) : Int)]) := snoc_R (fun z hz => by obtain ⟨_, rfl⟩ := List.mem_replicate.1 hz; decide) _ (by omega)
  have h := lits_of_last 65536 (by decide) (List.replicate q 0) ((2 ^ s : Nat) : Int) hR (by omega)
  rw [valL_one, hz, Nat.zero_add, List.length_replicate] at h
  rw [Nat.pow_add, Nat.pow_mul]
  exact h

set_option maxHeartbeats 2000000 in
set_option maxRecDepth 1000000 in
theorem bit_c (w : World) (n : Nat) (hn : n ≤ 1000000) : Calls Tryz.prog 83 #[.int .i64 n] w (ResN (2 ^ n) w) := by
  obtain ⟨q, hq⟩ : ∃ q, q = n / 16 := ⟨_, rfl⟩
  obtain ⟨s, hs⟩ : ∃ s, s = n % 16 := ⟨_, rfl⟩
  have hns : n = 16 * q + s := by omega
  have hs16 : s < 16 := by omega
  have t1 : Int.tmod (n : Int) 16 = (s : Int) := by rw [hs]; exact tm_nat n 16
  have t2 : Int.tdiv (n : Int) 16 = (q : Int) := by rw [hq]; exact td_nat n 16
  have t3 : (n : Int) % 16 = (s : Int) := by omega
  have t4 : (n : Int) / 16 = (q : Int) := by omega
  have q0 : q ≤ 100000 := by omega
  have hmk := mk_i64 (q + 1) (by omega) w
  rw [show ((q + 1 : Nat) : Int) = (q : Int) + 1 by omega] at hmk
  have HI0 := Aside0.mk (ib_new (q + 1) w)
  obtain ⟨W0, hW0⟩ : ∃ W0, W0 = w.alloc (.cells (Array.replicate (q + 1) (Value.int .i64 0)) 3) := ⟨_, rfl⟩
  have HB0 := Aside0.mk (show Below w.heap.size w W0 by rw [hW0]; exact (Below.refl _ _).alloc (Nat.le_refl _) _)
  rw [← hW0] at hmk HI0
  have hc1 := HI0.out.cell q (by simp)
  rw [List.getElem_replicate] at hc1
  have hf1 := HI0.out.frozen q
  have HL := Aside0.mk (lits_bit q s hs16)
  rw [← hns] at HL
  unfold ResN SN
  rw [HL.out]
  have hp : 2 ^ s ≤ 32768 := Nat.pow_le_pow_right (n := 2) (by decide) (show s ≤ 15 by omega)
  have HW := Aside0.mk (show wrap64 ((2 : Int) ^ s) = ((2 ^ s : Nat) : Int) by
    rw [show (2 : Int) ^ s = ((2 ^ s : Nat) : Int) by simp]
    exact w64n_ _ (by omega))
  have HSL := Aside0.mk (fun W h => Ib.sl (w := W) (g := w.heap.size) (ys := List.replicate q 0 ++ [((2 ^ s : Nat) : Int)]) h (by simp; omega))
  rw [show (List.replicate q (0 : Int) ++ [((2 ^ s : Nat) : Int)]).length = q + 1 by simp] at HSL
  obtain ⟨nn, hnn⟩ : ∃ nn : Int, (n : Int) = nn := ⟨_, rfl⟩
  rw [hnn] at t1 t2 t3 t4 ⊢
  have hnn0 : 0 ≤ nn := by omega
  clear hq hs hn hnn hns hW0 hp HL
  go_enter Tryz.func83, Tryz.ntmps83
  go_wp2_with fail
  go_ret
  refine ⟨_, rfl, ?_, HB0.out.setCell (p := ⟨w.heap.size, q, none⟩) (Nat.le_refl _) _⟩
  refine HSL.out _ ?_
  have h := HI0.out.set q ((2 ^ s : Nat) : Int)
  rw [HW.out]
  have e : (List.replicate (q + 1) (0 : Int)).set q ((2 ^ s : Nat) : Int) = List.replicate q 0 ++ [((2 ^ s : Nat) : Int)] := by
    rw [List.replicate_succ']
    have := set_mid (List.replicate q (0 : Int)) 0 ((2 ^ s : Nat) : Int) []
    simp only [Int.toNat_natCast, List.length_replicate] at this
    exact this
  rw [e] at h
  exact h

/-- Few figures. -/
def Tiny (n : Nat) : Prop := (lits 65536 n).length ≤ 10000
theorem Tiny.small {n : Nat} (h : Tiny n) : Small' n := Nat.le_trans h (by decide)
theorem Tiny.le {a b : Nat} (h : a ≤ b) (hb : Tiny b) : Tiny a := Nat.le_trans (lits_len_mono 65536 b a (by decide) h) hb
theorem lits_lt (n : Nat) : n < 65536 ^ (lits 65536 n).length := by
  have := valL_lt (lits 65536 n) (InR_lits 65536 (by decide) n)
  rwa [valL_lits 65536 (by decide)] at this
theorem tiny_len {a L : Nat} (ha : Tiny a) (h0 : 0 < a) (h : 2 ^ L ≤ 2 * a) : L ≤ 160001 := by
  have h1 := lits_lt a
  unfold Tiny at ha
  generalize (lits 65536 a).length = m at *
  rw [show (65536 : Nat) = 2 ^ 16 by decide, ← Nat.pow_mul] at h1
  have h3 : 2 ^ L < 2 ^ (16 * m + 2) := by
    rw [Nat.pow_succ, Nat.pow_succ]
    generalize 2 ^ (16 * m) = B at *
    omega
  have := (Nat.pow_lt_pow_iff_right (by decide)).1 h3
  omega
theorem small_shl {b i : Nat} (hb : Tiny b) (hi : i ≤ 160001) : Small' (b * 2 ^ i) := by
  have h1 := lits_lt b
  have h2 : 2 ^ i ≤ 65536 ^ (i / 16 + 1) := by
    rw [show (65536 : Nat) = 2 ^ 16 by decide, ← Nat.pow_mul]
    exact Nat.pow_le_pow_right (by decide) (by omega)
  have h3 : b * 2 ^ i < 65536 ^ ((lits 65536 b).length + (i / 16 + 1)) := by
    rw [Nat.pow_add]
    exact Nat.lt_of_le_of_lt (Nat.mul_le_mul_left b h2) (Nat.mul_lt_mul_of_pos_right h1 (Nat.pow_pos (by decide)))
  have := litsM_len _ h3
  unfold Tiny at hb
  unfold Small'
  omega

/-- What the loop of DivMod keeps. -/
def DRel (w : World) (a b kq : Nat) (v0 vq vi : Value) (w' : World) : Prop :=
  ∃ (x q j : Nat) (D : Int) (A : Option Addr) (la c : Nat) (Q : Option Addr) (lq cq : Nat), v0 = .slice A la c ∧ vq = .slice Q lq cq ∧ vi = .int .i64 D ∧ Aside0 (kq = j ∧ (D = (j : Int) - 1 ∨ (D < 0 ∧ j = 0)) ∧ q * b + x = a ∧ x < b * 2 ^ j ∧ j ≤ 160002) ∧ Aside0 (SN w' (.slice A la c) x ∧ SN w' (.slice Q lq cq) q) ∧ Aside0 (Below w.heap.size w w')

theorem dm_big {a b x q j : Nat} (hv : q * b + x = a) (hx : x < b * 2 ^ (j + 1)) (hle : b * 2 ^ j ≤ x) : (q + 2 ^ j) * b + (x - b * 2 ^ j) = a ∧ x - b * 2 ^ j < b * 2 ^ j := by
  rw [Nat.pow_succ, ← Nat.mul_assoc] at hx
  rw [Nat.add_mul, Nat.mul_comm (2 ^ j) b]
  generalize b * 2 ^ j = p at *
  omega
theorem sg_le {a b : Nat} : sg a b ≤ 0 ↔ a ≤ b := by unfold sg; split <;> (try split) <;> omega
theorem sg_rng (a b : Nat) : -1 ≤ sg a b ∧ sg a b ≤ 1 := by unfold sg; split <;> (try split) <;> omega

set_option maxHeartbeats 2000000 in
set_option maxRecDepth 1000000 in
/-- spec.DivMod by a number of one figure. -/
theorem divmod_1 {w : World} {u v : Value} {a b : Nat} (hu : SN w u a) (hv : SN w v b) (ha : Tiny a) (hb : 0 < b) (hb1 : b < 65536) :
    Calls Tryz.prog 54 #[u, v] w fun e w' => ∃ q r, e = .returned (.tuple #[q, r]) ∧ SN w' q (a / b) ∧ SN w' r (a % b) ∧ Below w.heap.size w w' := by
  have hl : lits 65536 b = [(b : Int)] := by rw [lits_pos 65536 b (by decide) (by omega), Nat.mod_eq_of_lt hb1, Nat.div_eq_of_lt hb1, lits_zero]
  have hv0 := hv
  obtain ⟨B, cb, rfl, hB1, hB2⟩ := hv
  rw [hl] at hB1 hB2 ⊢
  have hB3 := Kd.at_int hB2 0 (by decide) (by simp)
  obtain ⟨ad, rfl, hc⟩ := hB3
  have hc : w.cell? (ad.add 0) = some (.int .i64 (b : Int)) := hc
  rw [Addr.add_zero'] at hc
  have HU := Aside0.mk hu
  have HB := Aside0.mk (fun W h => byDigit_c (w := W) (u := u) (a := a) h ha.small b hb (by omega))
  have HS := Aside0.mk (fun W => small_c W (a % b) (by have := Nat.mod_lt a hb; omega))
  obtain ⟨A, la, ca, rfl⟩ : ∃ A la ca, u = .slice A la ca := by
    obtain ⟨A, c, h⟩ := hu.slice
    exact ⟨A, _, c, h⟩
  obtain ⟨bb, hbb⟩ : ∃ bb : Int, (b : Int) = bb := ⟨_, rfl⟩
  rw [hbb] at HB hc
  clear hu hv0 hB1 hB2 hl hb hb1 ha hbb
  unfold ResN at *
  show Calls Tryz.prog 54 #[.slice A la ca, .slice (some ad) 1 cb] w _
  go_enter Tryz.func54, Tryz.ntmps54
  go_wp2_with (first | (go_at_call 24; go_must (refine (HB.out _ HU.out).mono ?_); rintro e w1 ⟨q, rfl, h1, h2⟩; obtain ⟨Q, cq, rfl⟩ := h1.slice; have H1 := Aside0.mk h1; have H2 := Aside0.mk h2; clear h1 h2) | (go_at_call 28; go_must (refine (HS.out _).mono ?_); rintro e w2 ⟨r, rfl, h3, h4⟩; obtain ⟨R, cr, rfl⟩ := h3.slice; have H3 := Aside0.mk h3; have H4 := Aside0.mk h4; clear h3 h4))
  go_ret2
  exact ⟨_, _, rfl, H1.out.below H4.out, H3.out, below_step H2.out H4.out⟩

set_option maxHeartbeats 4000000 in
set_option maxRecDepth 1000000 in
/-- spec.DivMod by a number of more figures. -/
theorem divmod_2 {w : World} {u v : Value} {a b : Nat} (hu : SN w u a) (hv : SN w v b) (ha : Tiny a) (hb : 65536 ≤ b) (hbt : Tiny b) :
    Calls Tryz.prog 54 #[u, v] w fun e w' => ∃ q r, e = .returned (.tuple #[q, r]) ∧ SN w' q (a / b) ∧ SN w' r (a % b) ∧ Below w.heap.size w w' := by
  obtain ⟨La, ea1, ea2, ea3, hLa⟩ := len_c hu ha.small
  obtain ⟨Lb, eb1, eb2, eb3, hLb⟩ := len_c hv hbt.small
  have HU := Aside0.mk hu
  have HV := Aside0.mk hv
  have HLA := Aside0.mk hLa
  have HLB := Aside0.mk hLb
  have hl1 : (lits 65536 b).length ≠ 1 := fun h => by have := lits_lt b; rw [h] at this; omega
  obtain ⟨A, la, ca, rfl⟩ : ∃ A la ca, u = .slice A la ca := by
    obtain ⟨A, c, h⟩ := hu.slice
    exact ⟨A, _, c, h⟩
  obtain ⟨B, lb, cb, rfl, hlb⟩ : ∃ B lb cb, v = .slice B lb cb ∧ lb ≠ 1 := by
    obtain ⟨A, c, h⟩ := hv.slice
    exact ⟨A, _, c, h, hl1⟩
  have b1 : ((lb : Int) == 1) = false := beq_false_of_ne (by omega)
  have hLb2 := eb2 (by omega)
  have hLb3 := tiny_len hbt (by omega) hLb2
  have HT := Aside0.mk (And.intro ha (And.intro hbt hb))
  -- the number of rounds
  have hstart : ∃ j : Nat, ((La : Int) - (Lb : Int) = (j : Int) - 1 ∨ ((La : Int) - (Lb : Int) < 0 ∧ j = 0)) ∧ a < b * 2 ^ j ∧ j ≤ 160002 := by
    have hLa3 : La ≤ 160001 := by
      rcases Nat.eq_zero_or_pos a with h0 | h0
      · have := ea3 h0
        omega
      · exact tiny_len ha h0 (ea2 h0)
    by_cases h : Lb ≤ La
    · refine ⟨La - Lb + 1, Or.inl (by omega), ?_, by omega⟩
      have h1 : 2 ^ La ≤ b * 2 ^ (La - Lb + 1) := by
        rw [show (2 : Nat) ^ (La - Lb + 1) = 2 * 2 ^ (La - Lb) by rw [Nat.pow_succ, Nat.mul_comm], ← Nat.mul_assoc]
        rw [show La = Lb + (La - Lb) by omega, Nat.pow_add]
        have : Lb + (La - Lb) - Lb = La - Lb := by omega
        rw [this]
        exact Nat.mul_le_mul_right _ (by omega)
      omega
    · refine ⟨0, Or.inr ⟨by omega, rfl⟩, ?_, by omega⟩
      have h1 : 2 ^ La ≤ 2 ^ (Lb - 1) := Nat.pow_le_pow_right (by decide) (by omega)
      rw [show Lb = Lb - 1 + 1 by omega, Nat.pow_succ] at hLb2
      omega
  obtain ⟨j0, hj1, hj2, hj3⟩ := hstart
  obtain ⟨D, hD⟩ : ∃ D : Int, (La : Int) - (Lb : Int) = D := ⟨_, rfl⟩
  rw [hD] at hj1
  have hD0 : -1000000 ≤ D := by omega
  have hD1 : D ≤ 1000000 := by omega
  have HJ := Aside0.mk (And.intro hj1 (And.intro hj2 hj3))
  have HB0 := Aside0.mk (show Below w.heap.size w (w.alloc (.cells #[] 3)) from (Below.refl _ _).alloc (Nat.le_refl _) _)
  clear hu hv hLa hLb ea1 ea2 ea3 eb1 eb2 eb3 ha hb hbt hl1 hLb2 hLb3 hj1 hj2 hj3
  go_enter Tryz.func54, Tryz.ntmps54
  go_wp2_with (first | (go_at_call 79; (refine (HLB.out _ H1.out).mono ?_); rintro e w2 ⟨rfl, h2⟩; have H2 := Aside0.mk (below_step H1.out h2); clear h2) | (go_at_call 79; go_must (refine (HLA.out _ HB0.out).mono ?_); rintro e w1 ⟨rfl, h1⟩; have H1 := Aside0.mk (below_step HB0.out h1); clear h1))
  clear H1
  go_loopg [0, 8, 9] j0 (fun kq v0 vq vi w' => DRel w a b kq v0 vq vi w')
  case atStart =>
    obtain ⟨k1, k2, k3⟩ := HJ.out
    refine ⟨a, 0, j0, D, _, _, _, _, _, _, rfl, rfl, rfl, ⟨rfl, k1, by omega, k2, k3⟩, ⟨HU.out.below H2.out, ?_⟩, ⟨H2.out⟩⟩
    unfold SN
    rw [lits_zero]
    exact ⟨_, 0, rfl, Nat.le_refl _, C_nil _⟩
  case round =>
    obtain ⟨x, q, j, E, A', la', ca', Q, lq, cq, rfl, rfl, rfl, HI, HS, HB⟩ := hrel
    obtain ⟨k1, k2, k3, k4, k5⟩ := HI.out
    by_cases hE : E < 0
    · obtain rfl : j = 0 := by omega
      have hb : decide (E ≥ 0) = false := by simp; omega
      have hx : x < b := by simpa using k4
      have HQ := Aside0.mk (show a / b = q ∧ a % b = x from div_unique (by rw [Nat.mul_comm]; exact k3.symm) hx)
      clear k1 k2 k3 k4 k5 hx
      go_wp2_with fail
      go_ret2
      exact ⟨_, _, rfl, by rw [HQ.out.1]; exact HS.out.2, by rw [HQ.out.2]; exact HS.out.1, HB.out⟩
    · obtain ⟨i, rfl⟩ : ∃ i, j = i + 1 := ⟨j - 1, by omega⟩
      obtain rfl : E = (i : Int) := by omega
      have hb : decide ((i : Int) ≥ 0) = true := by simp
      have hxt := Tiny.le (show x ≤ a by omega) HT.out.1
      have hb0 : 0 < b := by have := HT.out.2.2; omega
      have hqb : q * b ≤ a := by omega
      have hqt : q ≤ a := Nat.le_trans (Nat.le_mul_of_pos_right q hb0) hqb
      have HSH := Aside0.mk (fun W h => shl_c (w := W) (u := .slice B lb cb) (a := b) (n := i) h HT.out.2.1.small (by have := HT.out.2.2; omega) (by omega))
      have HCM := Aside0.mk (fun W d (h : SN W d (b * 2 ^ i)) (h' : SN W (.slice A' la' ca') x) => cmp_c h h' (small_shl HT.out.2.1 (by omega)))
      have hsr := sg_rng (b * 2 ^ i) x
      obtain ⟨s, hs⟩ : ∃ s, sg (b * 2 ^ i) x = s := ⟨_, rfl⟩
      rw [hs] at HCM hsr
      have hle : s ≤ 0 ↔ b * 2 ^ i ≤ x := by rw [← hs]; exact sg_le
      have hi6 : (i : Int) ≤ 160002 := by omega
      by_cases hc : b * 2 ^ i ≤ x
      · have hb2 : decide (s ≤ 0) = true := decide_eq_true (hle.2 hc)
        have HSU := Aside0.mk (fun W d (h : SN W d (b * 2 ^ i)) (h' : SN W (.slice A' la' ca') x) => sub_c h' h hxt.small hc)
        have HBI := Aside0.mk (fun W => bit_c W i (by omega))
        have HNX := Aside0.mk (And.intro (dm_big k3 k4 hc) (And.intro k1 k5))
        have hxa : x ≤ a := by omega
        have h2i : 2 ^ i ≤ a := Nat.le_trans (Nat.le_mul_of_pos_left (2 ^ i) hb0) (Nat.le_trans hc hxa)
        have HAD := Aside0.mk (fun W y (h : SN W (.slice Q lq cq) q) (h' : SN W y (2 ^ i)) => add_c h h' (Tiny.le hqt HT.out.1).small (Tiny.le h2i HT.out.1).small)
        clear k1 k2 k3 k4 k5 hle hs hqt h2i hc hxa hqb
        go_wp2_with (first | (go_at_call 80; go_must (refine (HSH.out _ (HV.out.below HB.out)).mono ?_); rintro e w3 ⟨d, rfl, h3, h4⟩; obtain ⟨A3, c3, rfl⟩ := h3.slice; have H3 := Aside0.mk h3; have H4 := Aside0.mk h4; clear h3 h4) | (go_at_call 37; go_must (refine (HCM.out _ _ H3.out (HS.out.1.below H4.out)).mono ?_); rintro e w4 ⟨rfl, h5⟩; have H5 := Aside0.mk h5; clear h5) | (go_at_call 81; go_must (refine (HSU.out _ _ (H3.out.below H5.out) ((HS.out.1.below H4.out).below H5.out)).mono ?_); rintro e w5 ⟨x', rfl, h6, h7⟩; obtain ⟨A6, c6, rfl⟩ := h6.slice; have H6 := Aside0.mk h6; have H7 := Aside0.mk h7; clear h6 h7) | (go_at_call 83; go_must (refine (HBI.out _).mono ?_); rintro e w6 ⟨y, rfl, h8, h9⟩; obtain ⟨A8, c8, rfl⟩ := h8.slice; have H8 := Aside0.mk h8; have H9 := Aside0.mk h9; clear h8 h9) | (go_at_call 82; go_must (refine (HAD.out _ _ ((((HS.out.2.below H4.out).below H5.out).below H7.out).below H9.out) H8.out).mono ?_); rintro e w7 ⟨q', rfl, h10, h11⟩; obtain ⟨A10, c10, rfl⟩ := h10.slice; have H10 := Aside0.mk h10; have H11 := Aside0.mk h11; clear h10 h11))
        go_roundg (gk - 1)
        case measure => have := HNX.out; omega
        case rel =>
          obtain ⟨⟨k1, k2⟩, k3, k4⟩ := HNX.out
          exact ⟨_, _, i, (i : Int) - 1, _, _, _, _, _, _, rfl, rfl, by go_num, ⟨by omega, Or.inl rfl, k1, k2, by omega⟩, ⟨(H6.out.below H9.out).below H11.out, H10.out⟩, ⟨below_step (below_step (below_step (below_step (below_step HB.out H4.out) H5.out) H7.out) H9.out) H11.out⟩⟩
      · have hb2 : decide (s ≤ 0) = false := decide_eq_false (fun h => hc (hle.1 h))
        have HNX := Aside0.mk (And.intro k3 (And.intro (Nat.lt_of_not_le hc) (And.intro k1 k5)))
        clear k1 k2 k3 k4 k5 hle hs hqt hc hqb
        go_wp2_with (first | (go_at_call 80; go_must (refine (HSH.out _ (HV.out.below HB.out)).mono ?_); rintro e w3 ⟨d, rfl, h3, h4⟩; obtain ⟨A3, c3, rfl⟩ := h3.slice; have H3 := Aside0.mk h3; have H4 := Aside0.mk h4; clear h3 h4) | (go_at_call 37; go_must (refine (HCM.out _ _ H3.out (HS.out.1.below H4.out)).mono ?_); rintro e w4 ⟨rfl, h5⟩; have H5 := Aside0.mk h5; clear h5))
        go_roundg (gk - 1)
        case measure => have := HNX.out; omega
        case rel =>
          obtain ⟨k1, k2, k3, k4⟩ := HNX.out
          refine ⟨x, q, i, (i : Int) - 1, _, _, _, _, _, _, rfl, rfl, by go_num, ⟨by omega, Or.inl rfl, k1, k2, by omega⟩, ⟨(HS.out.1.below H4.out).below H5.out, (HS.out.2.below H4.out).below H5.out⟩, ⟨below_step (below_step HB.out H4.out) H5.out⟩⟩
end Go.Proofs.YtgpoplfgngiilaaGreatDoor
