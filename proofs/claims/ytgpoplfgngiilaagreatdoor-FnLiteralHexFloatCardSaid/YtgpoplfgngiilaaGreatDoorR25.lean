/- FnLiteralHexFloat, behind its card (X4). -/
import Derived.Test.YtgpoplfgngiilaaGreatDoorR24
set_option linter.unusedVariables false
set_option linter.unusedSimpArgs false
namespace Go.Proofs.YtgpoplfgngiilaaGreatDoor
set_option linter.unusedVariables false
set_option linter.unusedSimpArgs false
open Go.RowKit Go.Proofs.YtgpoplfgngiilaaGreatDoorW.PrintWords Go.Proofs.YtgpoplfgngiilaaGreatDoorW.PrintLast Go.Proofs.YtgpoplfgngiilaaGreatDoorW.PrintMore

/-- spec.DivMod. -/
theorem divmod_c {w : World} {u v : Value} {a b : Nat} (hu : SN w u a) (hv : SN w v b) (ha : Tiny a) (hb : 0 < b) (hbt : Tiny b) :
    Calls Tryz.prog 54 #[u, v] w fun e w' => ∃ q r, e = .returned (.tuple #[q, r]) ∧ SN w' q (a / b) ∧ SN w' r (a % b) ∧ Below w.heap.size w w' := by
  by_cases h : b < 65536
  · exact divmod_1 hu hv ha hb h
  · exact divmod_2 hu hv ha (by omega) hbt

def GRel (w : World) (a b kq : Nat) (v0 v1 : Value) (w' : World) : Prop :=
  ∃ (x y : Nat) (A : Option Addr) (la c : Nat) (B : Option Addr) (cb : Nat), v0 = .slice A la c ∧ v1 = .slice B (lits 65536 y).length cb ∧ Aside0 (kq = y ∧ Nat.gcd x y = Nat.gcd a b ∧ Tiny x ∧ Tiny y) ∧ Aside0 (SN w' (.slice A la c) x ∧ SN w' (.slice B (lits 65536 y).length cb) y) ∧ Aside0 (Below w.heap.size w w')

set_option maxHeartbeats 2000000 in
set_option maxRecDepth 1000000 in
/-- spec.Gcd. -/
theorem gcd_c {w : World} {u v : Value} {a b : Nat} (hu : SN w u a) (hv : SN w v b) (ha : Tiny a) (hb : Tiny b) : Calls Tryz.prog 53 #[u, v] w (ResN (Nat.gcd a b) w) := by
  have HU := Aside0.mk hu
  have HV := Aside0.mk hv
  have HT := Aside0.mk (And.intro ha hb)
  obtain ⟨A, la, ca, rfl⟩ : ∃ A la ca, u = .slice A la ca := by
    obtain ⟨A, c, h⟩ := hu.slice
    exact ⟨A, _, c, h⟩
  obtain ⟨B, cb, rfl⟩ := hv.slice
  clear hu hv ha hb
  unfold ResN
  go_enter Tryz.func53, Tryz.ntmps53
  go_wp2_with fail
  go_loopg [0, 1] b (fun kq v0 v1 w' => GRel w a b kq v0 v1 w')
  case atStart => exact ⟨a, b, _, _, _, _, _, rfl, rfl, ⟨rfl, rfl, HT.out.1, HT.out.2⟩, ⟨HU.out, HV.out⟩, ⟨Below.refl _ _⟩⟩
  case round =>
    obtain ⟨x, y, A, la, c, B, cb, rfl, rfl, HI, HS, HB⟩ := hrel
    obtain ⟨k1, k2, k3, k4⟩ := HI.out
    rcases Nat.eq_zero_or_pos y with h0 | h0
    · subst h0
      have hl : (lits 65536 0).length = 0 := by rw [lits_zero]; rfl
      have HQ := Aside0.mk (show Nat.gcd a b = x by rw [← k2, Nat.gcd_zero_right])
      clear k1 k2 k3 k4
      rw [hl]
      go_wp2_with fail
      go_ret
      exact ⟨_, rfl, by rw [HQ.out]; exact HS.out.1, HB.out⟩
    · have hl : (lits 65536 y).length ≠ 0 := fun h => by have := (lits_nil_iff 65536 y (by decide)).1 h; omega
      obtain ⟨ly, hly⟩ : ∃ ly, (lits 65536 y).length = ly := ⟨_, rfl⟩
      have HD := Aside0.mk (fun W (h : SN W (.slice A la c) x) (h' : SN W (.slice B (lits 65536 y).length cb) y) => divmod_c h h' k3 h0 k4)
      have HNX := Aside0.mk (And.intro k1 (And.intro (show Nat.gcd y (x % y) = Nat.gcd a b by rw [Nat.gcd_comm, ← Nat.gcd_rec, Nat.gcd_comm]; exact k2) (And.intro k4 (And.intro (Tiny.le (Nat.le_of_lt (Nat.mod_lt x h0)) k4) (Nat.mod_lt x h0)))))
      rw [hly] at HS HD hl ⊢
      have hb1 : decide ((ly : Int) > 0) = true := decide_eq_true (by omega)
      clear k1 k2 k3 k4 h0
      go_wp2_with (go_at_call 54; go_must (refine (HD.out _ HS.out.1 HS.out.2).mono ?_); rintro e w1 ⟨q, r, rfl, h1, h2, h3⟩; obtain ⟨A1, c1, rfl⟩ := h1.slice; obtain ⟨A2, c2, rfl⟩ := h2.slice; have H2 := Aside0.mk h2; have H3 := Aside0.mk h3; clear h1 h2 h3)
      go_roundg (x % y)
      case measure => have := HNX.out; omega
      case rel =>
        obtain ⟨k1, k2, k3, k4, k5⟩ := HNX.out
        exact ⟨y, x % y, _, _, _, _, _, rfl, rfl, ⟨rfl, k2, k3, k4⟩, ⟨HS.out.2.below H3.out, H2.out⟩, ⟨below_step HB.out H3.out⟩⟩

theorem SN.slice' {w : World} {v : Value} {n : Nat} (h : SN w v n) : ∃ A l c, v = .slice A l c := by
  obtain ⟨A, c, h1, -⟩ := h
  exact ⟨A, _, c, h1⟩
/-- v is the fraction n / d. -/
def SR (w : World) (v : Value) (n d : Nat) : Prop := ∃ x y, v = .agg #[.bool false, x, y] ∧ SN w x n ∧ SN w y d
theorem SR.below {w w1 : World} {v : Value} {n d : Nat} (h : SR w v n d) (hb : Below w.heap.size w w1) : SR w1 v n d := by
  obtain ⟨x, y, h1, h2, h3⟩ := h
  exact ⟨x, y, h1, h2.below hb, h3.below hb⟩
def ResR (n d : Nat) (w : World) (e : Ending) (w' : World) : Prop := ∃ v, e = .returned v ∧ SR w' v n d ∧ Below w.heap.size w w'

theorem lits_one : lits 65536 1 = [1] := by
  rw [lits_pos 65536 1 (by decide) (by decide), Nat.mod_eq_of_lt (by decide), Nat.div_eq_of_lt (by decide), lits_zero]
  rfl
theorem whole_c {w : World} {u : Value} {n : Nat} (hu : SN w u n) : Calls Tryz.prog 20 #[.bool false, u] w (ResR n 1 w) := by
  have hu0 := hu
  obtain ⟨A, c, rfl, h1, h2⟩ := hu
  refine (whole_calls A c _ w).mono ?_
  rintro e w' ⟨v, rfl, hR, hB⟩
  refine ⟨_, rfl, ⟨_, _, rfl, hu0.below hB, ?_⟩, hB⟩
  unfold SN
  rw [lits_one]
  exact Sl.ofR hR

theorem Sl.setCell {w : World} {v : Value} {l : List Int} (h : Sl w v l) {p : Addr} {o : Value} (hp : w.cell? p = some o) (ho : ∀ z, o ≠ .int .i64 z) (u : Value) : Sl (w.setCell p u) v l := by
  obtain ⟨A, c, h1, h2, h3, h4, h5⟩ := h
  refine ⟨A, c, h1, h2, h3, h4, fun hn => ?_⟩
  obtain ⟨ad, e, h6⟩ := h5 hn
  refine ⟨ad, e, fun j p' hj => ?_⟩
  obtain ⟨cs, h7, h8, h9⟩ := h6 j p' hj
  refine ⟨cs, h7, h8, fun i u' hu => ?_⟩
  have hc := h9 i u' hu
  have h8' : cs = [.int .i64 p'] := h8
  have e2 : u' = .int .i64 p' := by
    subst h8'
    cases i with
    | zero => simpa using hu.symm
    | succ i => simp at hu
  rw [World.cell?_setCell_other]
  · exact hc
  · intro he
    rw [← he, hp] at hc
    exact ho p' ((Option.some.inj hc).trans e2)
theorem SN.setCell {w : World} {v : Value} {n : Nat} (h : SN w v n) {p : Addr} {o : Value} (hp : w.cell? p = some o) (ho : ∀ z, o ≠ .int .i64 z) (u : Value) : SN (w.setCell p u) v n := Sl.setCell h hp ho u
/-- A fraction laid into a block of its own. -/
theorem SN.put3 {w : World} {v : Value} {n : Nat} (h : SN w v n) {g : Nat} {A B : Option Addr} {la ca lb cb : Nat} {b : Bool} (h0 : w.cell? ⟨g, 0, none⟩ = some (.bool b)) (h1 : w.cell? ⟨g, 1, none⟩ = some (.slice A la ca)) (h2 : w.cell? ⟨g, 2, none⟩ = some (.slice B lb cb)) (x y z : Value) :
    SN (((w.setCell ⟨g, 0, none⟩ x).setCell ⟨g, 1, none⟩ y).setCell ⟨g, 2, none⟩ z) v n := by
  have k1 : (w.setCell ⟨g, 0, none⟩ x).cell? ⟨g, 1, none⟩ = some (.slice A la ca) := by rw [World.cell?_setCell_other]; exact h1; intro he; cases he
  have k2 : ((w.setCell ⟨g, 0, none⟩ x).setCell ⟨g, 1, none⟩ y).cell? ⟨g, 2, none⟩ = some (.slice B lb cb) := by
    rw [World.cell?_setCell_other, World.cell?_setCell_other]; exact h2; intro he; cases he; intro he; cases he
  exact ((h.setCell h0 (fun _ h => by cases h) x).setCell k1 (fun _ h => by cases h) y).setCell k2 (fun _ h => by cases h) z
theorem below_put3 {w0 w : World} {g : Nat} (h : Below w0.heap.size w0 w) (hg : w0.heap.size ≤ g) (x y z : Value) : Below w0.heap.size w0 (((w.setCell ⟨g, 0, none⟩ x).setCell ⟨g, 1, none⟩ y).setCell ⟨g, 2, none⟩ z) :=
  ((h.setCell (p := ⟨g, 0, none⟩) hg x).setCell (p := ⟨g, 1, none⟩) hg y).setCell (p := ⟨g, 2, none⟩) hg z

theorem blk3 {w W : World} {g : Nat} {x y z : Value} {t : TypeId} (hB : Below (w.alloc (.cells #[x, y, z] t)).heap.size (w.alloc (.cells #[x, y, z] t)) W) (hg : g = w.heap.size) :
    W.cell? ⟨g, 0, none⟩ = some x ∧ W.cell? ⟨g, 1, none⟩ = some y ∧ W.cell? ⟨g, 2, none⟩ = some z ∧ W.frozen? ⟨g, 0, none⟩ = false ∧ W.frozen? ⟨g, 1, none⟩ = false ∧ W.frozen? ⟨g, 2, none⟩ = false := by
  subst hg
  have h : W.heap[w.heap.size]? = some (.cells #[x, y, z] t (0, 0)) := (hB.block w.heap.size (by simp)).trans (heap_alloc_new _ _)
  exact ⟨blk_cell h 0, blk_cell h 1, blk_cell h 2, blk_frozen h 0, blk_frozen h 1, blk_frozen h 2⟩

set_option maxHeartbeats 2000000 in
set_option maxRecDepth 1000000 in
/-- spec.Over: lowest terms. -/
theorem over_c {w : World} {u v : Value} {a b : Nat} (hu : SN w u a) (hv : SN w v b) (ha : Tiny a) (hb : 0 < b) (hbt : Tiny b) : Calls Tryz.prog 32 #[.bool false, u, v] w (ResR (lowN a b) (lowD a b) w) := by
  have hg := Nat.gcd_pos_of_pos_right a hb
  have hgt := Tiny.le (Nat.gcd_le_right a hb) hbt
  have HG := Aside0.mk (fun W (h : SN W u a) (h' : SN W v b) => gcd_c h h' ha hbt)
  have HA := Aside0.mk (fun W g (h : SN W u a) (h' : SN W g (Nat.gcd a b)) => divmod_c h h' ha hg hgt)
  have HBB := Aside0.mk (fun W g (h : SN W v b) (h' : SN W g (Nat.gcd a b)) => divmod_c h h' hbt hg hgt)
  have HU := Aside0.mk hu
  have HV := Aside0.mk hv
  obtain ⟨A, la, ca, rfl⟩ : ∃ A la ca, u = .slice A la ca := by
    obtain ⟨A, c, h⟩ := hu.slice
    exact ⟨A, _, c, h⟩
  obtain ⟨B, lb, cb, rfl⟩ : ∃ A la ca, v = .slice A la ca := by
    obtain ⟨A, c, h⟩ := hv.slice
    exact ⟨A, _, c, h⟩
  clear hu hv ha hb hbt hg hgt
  obtain ⟨W0, hW0⟩ : ∃ W0, W0 = w.alloc (.cells #[.bool false, .slice none 0 0, .slice none 0 0] 31) := ⟨_, rfl⟩
  have HB0 := Aside0.mk (show Below w.heap.size w W0 by rw [hW0]; exact (Below.refl _ _).alloc (Nat.le_refl _) _)
  have HK := Aside0.mk (fun W (h : Below W0.heap.size W0 W) => blk3 (w := w) (W := W) (g := w.heap.size) (x := .bool false) (y := .slice none 0 0) (z := .slice none 0 0) (t := 31) (by rw [← hW0]; exact h) rfl)
  have HW0 := Aside0.mk hW0
  clear hW0
  unfold ResR
  go_enter Tryz.func32, Tryz.ntmps32
  go_wp2_with (first | (go_at_call 53; go_must (refine (HG.out _ (by rw [← HW0.out]; exact HU.out.below HB0.out) (by rw [← HW0.out]; exact HV.out.below HB0.out)).mono ?_); rintro e w1 ⟨g, rfl, h1, h2⟩; obtain ⟨G, lg, rfl⟩ := h1.slice; have H1 := Aside0.mk h1; have H2 := Aside0.mk (show Below W0.heap.size W0 w1 by rw [HW0.out]; exact h2); have H20 := Aside0.mk (below_step HB0.out H2.out); clear h1 h2) | (go_at_call 54; (refine (HBB.out _ _ ((HV.out.below H20.out).below H4.out) (H1.out.below H4.out)).mono ?_); rintro e w3 ⟨q, r, rfl, h5, h6, h7⟩; obtain ⟨A5, c5, rfl⟩ := h5.slice; obtain ⟨A6, c6, rfl⟩ := h6.slice; have H5 := Aside0.mk h5; have H6 := Aside0.mk h7; clear h5 h6 h7; obtain ⟨d0, d1, d2, f0, f1, f2⟩ := HK.out w3 (below_step (below_step H2.out H4.out) H6.out)) | (go_at_call 54; go_must (refine (HA.out _ _ (HU.out.below H20.out) H1.out).mono ?_); rintro e w2 ⟨q, r, rfl, h3, h4, h5⟩; obtain ⟨A3, c3, rfl⟩ := h3.slice; obtain ⟨A4, c4, rfl⟩ := h4.slice; have H3 := Aside0.mk h3; have H4 := Aside0.mk h5; clear h3 h4 h5))
  refine bodyPost_ret (v := .agg #[.bool false, .slice A3 (lits 65536 (a / a.gcd b)).length c3, .slice A5 (lits 65536 (b / a.gcd b)).length c5]) (by simp [results, Tryz.results32, go_sem, d0, d1, d2]) rfl ?_
  exact ⟨_, rfl, ⟨_, _, rfl, ((H3.out.below H6.out).put3 d0 d1 d2 _ _ _), (H5.out.put3 d0 d1 d2 _ _ _)⟩, below_put3 (below_step (below_step H20.out H4.out) H6.out) (Nat.le_refl _) _ _ _⟩

set_option maxHeartbeats 2000000 in
set_option maxRecDepth 1000000 in
/-- spec.PowerOf: an exponent not below 0. -/
theorem powerOf_pos (w : World) (b n : Nat) (hb : b ≤ 16) (hn : n ≤ 5000) : Calls Tryz.prog 21 #[.int .i64 b, .int .i64 n] w (ResR (b ^ n) 1 w) := by
  have hb1 : decide ((n : Int) < 0) = false := by simp
  have HP := Aside0.mk (fun W => power_c W b n hb hn)
  have HW := Aside0.mk (fun W A l c (h : SN W (.slice A l c) (b ^ n)) => whole_c h)
  generalize b ^ n = p at *
  clear hb hn
  unfold ResR at *
  unfold ResN at *
  obtain ⟨W0, hW0⟩ : ∃ W0, W0 = w.alloc (.cells #[.bool false, .slice none 0 0, .slice none 0 0] 31) := ⟨_, rfl⟩
  have HB0 := Aside0.mk (show Below w.heap.size w W0 by rw [hW0]; exact (Below.refl _ _).alloc (Nat.le_refl _) _)
  have HK := Aside0.mk (fun W (h : Below W0.heap.size W0 W) => blk3 (w := w) (W := W) (g := w.heap.size) (x := .bool false) (y := .slice none 0 0) (z := .slice none 0 0) (t := 31) (by rw [← hW0]; exact h) rfl)
  have HW0 := Aside0.mk hW0
  clear hW0
  go_enter Tryz.func21, Tryz.ntmps21
  go_wp2_with (first | (go_at_call 34; go_must (refine (HP.out _).mono ?_); rintro e w1 ⟨g, rfl, h1, h2⟩; obtain ⟨G, lg, rfl⟩ := h1.slice; have H1 := Aside0.mk h1; have H2 := Aside0.mk (show Below W0.heap.size W0 w1 by rw [HW0.out]; exact h2); clear h1 h2) | (go_at_call 20; go_must (refine (HW.out _ _ _ _ H1.out).mono ?_); rintro e w2 ⟨v, rfl, h3, h4⟩; obtain ⟨x, y, rfl, h5, h6⟩ := h3; obtain ⟨X, lx, cx, rfl⟩ := h5.slice'; obtain ⟨Y, ly, cy, rfl⟩ := h6.slice'; have H3 := Aside0.mk h5; have H5 := Aside0.mk h6; have H4 := Aside0.mk h4; clear h4 h5 h6; obtain ⟨d0, d1, d2, f0, f1, f2⟩ := HK.out w2 (below_step H2.out H4.out)))
  refine bodyPost_ret (v := .agg #[.bool false, .slice X lx cx, .slice Y ly cy]) (by simp [results, Tryz.results21, go_sem, d0, d1, d2]) rfl ?_
  exact ⟨_, rfl, ⟨_, _, rfl, (H3.out.put3 d0 d1 d2 _ _ _), (H5.out.put3 d0 d1 d2 _ _ _)⟩, below_put3 (below_step (below_step HB0.out H2.out) H4.out) (Nat.le_refl _) _ _ _⟩

set_option maxHeartbeats 2000000 in
set_option maxRecDepth 1000000 in
/-- spec.PowerOf: an exponent below 0. -/
theorem powerOf_neg (w : World) (b n : Nat) (hb : b ≤ 16) (hb0 : 0 < b) (hn : n ≤ 5000) (hn0 : 0 < n) : Calls Tryz.prog 21 #[.int .i64 b, .int .i64 (-(n : Int))] w (ResR 1 (b ^ n) w) := by
  have hb1 : decide (-(n : Int) < 0) = true := by simp; omega
  have HP := Aside0.mk (fun W => power_c W b n hb hn)
  have hlow : lowN 1 (b ^ n) = 1 ∧ lowD 1 (b ^ n) = b ^ n := by unfold lowN lowD; rw [Nat.gcd_one_left, Nat.div_one, Nat.div_one]; exact ⟨rfl, rfl⟩
  have hps : Tiny (b ^ n) := Nat.le_trans (pow_len hb) (by omega)
  have hpp : 0 < b ^ n := Nat.pow_pos hb0
  have HO := Aside0.mk (fun W A l c A' l' c' (h : SN W (.slice A l c) 1) (h' : SN W (.slice A' l' c') (b ^ n)) => over_c h h' (Nat.le_trans (litsM_len (n := 1) 1 (by decide)) (by decide)) hpp hps)
  rw [hlow.1, hlow.2] at HO
  have HS := Aside0.mk (fun W => small_c W 1 (by decide))
  obtain ⟨N, hN⟩ : ∃ N : Int, -(n : Int) = N := ⟨_, rfl⟩
  have hN2 : (n : Int) = -N := by omega
  have hN3 : -100000 ≤ N ∧ N < 0 := by omega
  have hN4 : wrap64 (-N) = -N := w64of _ (by omega) (by omega)
  rw [hN2] at HP
  rw [hN] at hb1 ⊢
  generalize b ^ n = p at *
  clear hb hn hn0 hN2 hN hb0 hlow hps hpp
  unfold ResR at *
  unfold ResN at *
  obtain ⟨W0, hW0⟩ : ∃ W0, W0 = w.alloc (.cells #[.bool false, .slice none 0 0, .slice none 0 0] 31) := ⟨_, rfl⟩
  have HB0 := Aside0.mk (show Below w.heap.size w W0 by rw [hW0]; exact (Below.refl _ _).alloc (Nat.le_refl _) _)
  have HK := Aside0.mk (fun W (h : Below W0.heap.size W0 W) => blk3 (w := w) (W := W) (g := w.heap.size) (x := .bool false) (y := .slice none 0 0) (z := .slice none 0 0) (t := 31) (by rw [← hW0]; exact h) rfl)
  have HW0 := Aside0.mk hW0
  clear hW0
  go_enter Tryz.func21, Tryz.ntmps21
  go_wp2_with (first | (go_at_call 28; go_must (refine (HS.out _).mono ?_); rintro e w1 ⟨g, rfl, h1, h2⟩; obtain ⟨G, lg, rfl⟩ := h1.slice; have H1 := Aside0.mk h1; have H2 := Aside0.mk (show Below W0.heap.size W0 w1 by rw [HW0.out]; exact h2); clear h1 h2) | (go_at_call 34; go_must (refine (HP.out _).mono ?_); rintro e w2 ⟨g, rfl, h3, h4⟩; obtain ⟨G', lg', rfl⟩ := h3.slice; have H3 := Aside0.mk h3; have H4 := Aside0.mk h4; clear h3 h4) | (go_at_call 32; go_must (refine (HO.out _ _ _ _ _ _ _ (H1.out.below H4.out) H3.out).mono ?_); rintro e w3 ⟨v, rfl, h5, h6⟩; obtain ⟨x, y, rfl, h7, h8⟩ := h5; obtain ⟨X, lx, cx, rfl⟩ := h7.slice'; obtain ⟨Y, ly, cy, rfl⟩ := h8.slice'; have H5 := Aside0.mk h7; have H6 := Aside0.mk h8; have H7 := Aside0.mk h6; clear h6 h7 h8; obtain ⟨d0, d1, d2, f0, f1, f2⟩ := HK.out w3 (below_step (below_step H2.out H4.out) H7.out)))
  refine bodyPost_ret (v := .agg #[.bool false, .slice X lx cx, .slice Y ly cy]) (by simp [results, Tryz.results21, go_sem, d0, d1, d2]) rfl ?_
  exact ⟨_, rfl, ⟨_, _, rfl, (H5.out.put3 d0 d1 d2 _ _ _), (H6.out.put3 d0 d1 d2 _ _ _)⟩, below_put3 (below_step (below_step (below_step HB0.out H2.out) H4.out) H7.out) (Nat.le_refl _) _ _ _⟩

theorem keep6 {W0 W1 : World} {g N : Nat} {x0 x1 x2 y0 y1 y2 : Value} (hb : Below N W0 W1) (hg : g + 1 < N) (d0 : W0.cell? ⟨g, 0, none⟩ = some x0) (d1 : W0.cell? ⟨g, 1, none⟩ = some x1) (d2 : W0.cell? ⟨g, 2, none⟩ = some x2) (e0 : W0.cell? ⟨g + 1, 0, none⟩ = some y0) (e1 : W0.cell? ⟨g + 1, 1, none⟩ = some y1) (e2 : W0.cell? ⟨g + 1, 2, none⟩ = some y2) :
    W1.cell? ⟨g, 0, none⟩ = some x0 ∧ W1.cell? ⟨g, 1, none⟩ = some x1 ∧ W1.cell? ⟨g, 2, none⟩ = some x2 ∧ W1.cell? ⟨g + 1, 0, none⟩ = some y0 ∧ W1.cell? ⟨g + 1, 1, none⟩ = some y1 ∧ W1.cell? ⟨g + 1, 2, none⟩ = some y2 ∧ Below N W0 W1 :=
  have hg' : g < N := by omega
  ⟨(hb.cell (p := ⟨g, 0, none⟩) hg').trans d0, (hb.cell (p := ⟨g, 1, none⟩) hg').trans d1, (hb.cell (p := ⟨g, 2, none⟩) hg').trans d2, (hb.cell (p := ⟨g + 1, 0, none⟩) hg).trans e0, (hb.cell (p := ⟨g + 1, 1, none⟩) hg).trans e1, (hb.cell (p := ⟨g + 1, 2, none⟩) hg).trans e2, hb⟩

set_option maxHeartbeats 2000000 in
set_option maxRecDepth 1000000 in
/-- spec.Times. -/
theorem times_c {w : World} {u v : Value} {a b c d : Nat} (hu : SR w u a b) (hv : SR w v c d) (ha : Small' a) (hb : Small' b) (hc : Small' c) (hd : Small' d) (hb0 : 0 < b) (hd0 : 0 < d) (h1 : Tiny (a * c)) (h2 : Tiny (b * d)) : Calls Tryz.prog 19 #[u, v] w (ResR (lowN (a * c) (b * d)) (lowD (a * c) (b * d)) w) := by
  obtain ⟨x, y, rfl, hx, hy⟩ := hu
  obtain ⟨x', y', rfl, hx', hy'⟩ := hv
  have HX := Aside0.mk hx
  have HY := Aside0.mk hy
  have HX' := Aside0.mk hx'
  have HY' := Aside0.mk hy'
  obtain ⟨A, la, ca, rfl⟩ : ∃ A la ca, x = .slice A la ca := by
    obtain ⟨A, c, h⟩ := hx.slice
    exact ⟨A, _, c, h⟩
  obtain ⟨B, lb, cb, rfl⟩ : ∃ A la ca, y = .slice A la ca := by
    obtain ⟨A, c, h⟩ := hy.slice
    exact ⟨A, _, c, h⟩
  obtain ⟨C, lc, cc, rfl⟩ : ∃ A la ca, x' = .slice A la ca := by
    obtain ⟨A, c, h⟩ := hx'.slice
    exact ⟨A, _, c, h⟩
  obtain ⟨D, ld, cd, rfl⟩ : ∃ A la ca, y' = .slice A la ca := by
    obtain ⟨A, c, h⟩ := hy'.slice
    exact ⟨A, _, c, h⟩
  have HM1 := Aside0.mk (fun W (h : SN W (.slice A la ca) a) (h' : SN W (.slice C lc cc) c) => mul_c h h' ha hc)
  have HM2 := Aside0.mk (fun W (h : SN W (.slice B lb cb) b) (h' : SN W (.slice D ld cd) d) => mul_c h h' hb hd)
  have HO := Aside0.mk (fun W A l c' A' l' c'' (h : SN W (.slice A l c') (a * c)) (h' : SN W (.slice A' l' c'') (b * d)) => over_c h h' h1 (Nat.mul_pos hb0 hd0) h2)
  clear hx hy hx' hy' ha hb hc hd hb0 hd0 h1 h2
  unfold ResR at *
  unfold ResN at *
  generalize lowN (a * c) (b * d) = RN at *
  generalize lowD (a * c) (b * d) = RD at *
  generalize a * c = ac at *
  generalize b * d = bd at *
  go_enter Tryz.func19, Tryz.ntmps19
  go_wp2_with fail
  obtain ⟨W9, hW9⟩ : ∃ W9, W9 = (((w.alloc (.cells #[.bool false, .slice A la ca, .slice B lb cb] 31)).alloc (.cells #[.bool false, .slice C lc cc, .slice D ld cd] 31)).alloc (.cells #[.bool false, .slice none 0 0, .slice none 0 0] 31)) := ⟨_, rfl⟩
  rw [← hW9]
  have a0 : W9.cell? ⟨w.heap.size, 0, none⟩ = some (.bool false) := by rw [hW9]; go_simp
  have a1 : W9.cell? ⟨w.heap.size, 1, none⟩ = some (.slice A la ca) := by rw [hW9]; go_simp
  have a2 : W9.cell? ⟨w.heap.size, 2, none⟩ = some (.slice B lb cb) := by rw [hW9]; go_simp
  have b0 : W9.cell? ⟨w.heap.size + 1, 0, none⟩ = some (.bool false) := by rw [hW9]; go_simp
  have b1 : W9.cell? ⟨w.heap.size + 1, 1, none⟩ = some (.slice C lc cc) := by rw [hW9]; go_simp
  have b2 : W9.cell? ⟨w.heap.size + 1, 2, none⟩ = some (.slice D ld cd) := by rw [hW9]; go_simp
  have hs9 : W9.heap.size = w.heap.size + 3 := by rw [hW9]; simp
  have hbw : Below w.heap.size w W9 := by rw [hW9]; exact (((Below.refl _ _).alloc (Nat.le_refl _) _).alloc (by simp) _).alloc (by simp; omega) _
  have HK := Aside0.mk (fun W (h : Below W9.heap.size W9 W) => blk3 (w := (w.alloc (.cells #[.bool false, .slice A la ca, .slice B lb cb] 31)).alloc (.cells #[.bool false, .slice C lc cc, .slice D ld cd] 31)) (W := W) (g := w.heap.size + 1 + 1) (x := .bool false) (y := .slice none 0 0) (z := .slice none 0 0) (t := 31) (by rw [← hW9]; exact h) (by simp))
  have hb9 := Below.refl W9.heap.size W9
  have hc9 := Below.refl (w.heap.size + 2) W9
  have hg9 : w.heap.size + 1 < w.heap.size + 2 := by omega
  have hle9 : w.heap.size + 2 ≤ W9.heap.size := by omega
  have HX := Aside0.mk (HX.out.below hbw)
  have HY := Aside0.mk (HY.out.below hbw)
  have HX' := Aside0.mk (HX'.out.below hbw)
  have HY' := Aside0.mk (HY'.out.below hbw)
  have HBW := Aside0.mk (And.intro hbw hs9)
  clear hW9 hs9 hbw
  go_region_held3 (fun w' => w'.cell? ⟨w.heap.size, 0, none⟩ = some (.bool false) ∧ w'.cell? ⟨w.heap.size, 1, none⟩ = some (.slice A la ca) ∧ w'.cell? ⟨w.heap.size, 2, none⟩ = some (.slice B lb cb) ∧ w'.cell? ⟨w.heap.size + 1, 0, none⟩ = some (.bool false) ∧ w'.cell? ⟨w.heap.size + 1, 1, none⟩ = some (.slice C lc cc) ∧ w'.cell? ⟨w.heap.size + 1, 2, none⟩ = some (.slice D ld cd) ∧ Below (w.heap.size + 2) W9 w')
    ((exact keep6 (by repeat (first | assumption | apply Below.drew | apply pw_below_drewN | (refine Below.setCell ?_ (by simp) _))) hg9 a0 a1 a2 b0 b1 b2))
    (first
      | (go_at_call 32; refine (HO.out _ _ _ _ _ _ _ (H1.out.below (by repeat (first | assumption | apply Below.drew | apply pw_below_drewN))) (H2.out.below (by repeat (first | assumption | apply Below.drew | apply pw_below_drewN)))).mono ?_; rintro e w3 ⟨v3, rfl, h3, hB3⟩; obtain ⟨x3, y3, rfl, h5, h6⟩ := h3; obtain ⟨X, lx, cx, rfl⟩ := h5.slice'; obtain ⟨Y, ly, cy, rfl⟩ := h6.slice'; have H5 := Aside0.mk h5; have H6 := Aside0.mk h6; have hb93 : Below W9.heap.size W9 w3 := below_step (by repeat (first | assumption | apply Below.drew | apply pw_below_drewN)) hB3; have hc93 := hb93.mono hle9; obtain ⟨d0, d1, d2, f0, f1, f2⟩ := HK.out w3 hb93; clear h5 h6)
      | (go_at_call 33; have hq11 := hb11; clear hq11; refine (HM2.out _ (HY.out.below (by repeat (first | assumption | apply Below.drew | apply pw_below_drewN))) (HY'.out.below (by repeat (first | assumption | apply Below.drew | apply pw_below_drewN)))).mono ?_; rintro e w2 ⟨v2, rfl, h2, hB2⟩; obtain ⟨A2, l2, c2, rfl⟩ := h2.slice'; have H2 := Aside0.mk h2; have hb92 : Below W9.heap.size W9 w2 := below_step (by repeat (first | assumption | apply Below.drew | apply pw_below_drewN)) hB2; have hc92 := hb92.mono hle9; have hb12 := below_step hb11 hB2; have hb22 := Below.refl w2.heap.size w2; clear h2)
      | (go_at_call 33; refine (HM1.out _ (HX.out.below (by repeat (first | assumption | apply Below.drew | apply pw_below_drewN))) (HX'.out.below (by repeat (first | assumption | apply Below.drew | apply pw_below_drewN)))).mono ?_; rintro e w1 ⟨v1, rfl, h1, hB1⟩; obtain ⟨A1, l1, c1, rfl⟩ := h1.slice'; have H1 := Aside0.mk h1; have hb91 : Below W9.heap.size W9 w1 := below_step (by repeat (first | assumption | apply Below.drew | apply pw_below_drewN)) hB1; have hc91 := hb91.mono hle9; have hb11 := Below.refl w1.heap.size w1; clear h1))
  all_goals
    go_wp2_with fail
    refine bodyPost_ret (v := .agg #[.bool false, .slice X lx cx, .slice Y ly cy]) (by simp [results, Tryz.results19, go_sem, d0, d1, d2]) rfl ?_
    exact ⟨_, rfl, ⟨_, _, rfl, (H5.out.put3 d0 d1 d2 _ _ _), (H6.out.put3 d0 d1 d2 _ _ _)⟩, below_put3 (HBW.out.1.trans (hb93.mono HBW.out.1.size)) (by omega) _ _ _⟩
end Go.Proofs.YtgpoplfgngiilaaGreatDoor
