/- FnLiteralHexFloat, behind its card (G6 G7 RC). -/
import Derived.Test.YtgpoplfgngiilaaGreatDoorR11
import Derived.Test.YtgpoplfgngiilaaGreatDoorR15
import Derived.Test.YtgpoplfgngiilaaGreatDoorR06
import Derived.Test.YtgpoplfgngiilaaGreatDoorR16
import Derived.LaidEqlPtr
import Derived.Deep.RegionWith
import Derived.OrdersHeld
import Derived.RegionTactic
set_option linter.unusedVariables false
set_option linter.unusedSimpArgs false
namespace Go.Proofs.YtgpoplfgngiilaaGreatDoor
set_option linter.unusedVariables false
set_option linter.unusedSimpArgs false
open Go.RowKit Go.Proofs.YtgpoplfgngiilaaGreatDoorW.PrintWords

theorem NW.toNV {w : World} {g base : Nat} {v : Value} {n : Nat} (h : NW w g v n) (hb : base ≤ g) : NV base w v (lits 18446744073709551616 n) := by
  obtain ⟨ys, h1, h2, h3⟩ := h
  exact Or.inr ⟨g, ys, hb, h1, h2, h3⟩
theorem NW.cell0 {w : World} {g : Nat} {v : Value} {n : Nat} (h : NW w g v n) (h0 : 0 < n) (h1 : n < 18446744073709551616) : w.cell? ⟨g, 0, none⟩ = some (.int .u64 n) ∧ w.frozen? ⟨g, 0, none⟩ = false ∧ ∃ c, v = .slice (some ⟨g, 0, none⟩) 1 c := by
  have hl := wl_one h0 h1
  obtain ⟨ys, e1, h2, h3, h4, h5⟩ := h
  rw [hl] at e1 h3
  have hlt : 0 < ys.length := by have := congrArg List.length h3; simp at this; omega
  have h6 := h2.cell 0 hlt
  have e2 : ys[0]'hlt = (n : Int) := by
    cases ys with
    | nil => simp at hlt
    | cons y ys => simpa using h3
  rw [e2] at h6
  exact ⟨h6, h2.frozen 0, _, e1⟩

set_option maxHeartbeats 2000000 in
set_option maxRecDepth 1000000 in
/-- z.div(stk, nil, u, v), z nil, v a word. -/
theorem div_nil (U gu gy y : Nat) (u v stk : Value) (w : World) (hu : NW w gu u U) (h0 : 0 < U) (hl : (lits 18446744073709551616 U).length ≤ 1000) (hv : NW w gy v y) (hy0 : 0 < y) (hy : y < 18446744073709551616) :
    Calls Tryz.prog 139 #[.slice none 0 0, stk, .slice none 0 0, u, v] w fun e w' => ∃ q r, e = .returned (.tuple #[q, r]) ∧ NW w' w.heap.size q (U / y) ∧ NV w.heap.size w' r (lits 18446744073709551616 (U % y)) ∧ Fr (fun _ => False) w w' := by
  obtain ⟨c1, c2, cv, rfl⟩ := hv.cell0 hy0 hy
  have HD := Aside0.mk (divW_nil U gu y u w hu h0 hl hy0 hy)
  have hrB : U % y < 18446744073709551616 := Nat.lt_trans (Nat.mod_lt _ hy0) hy
  obtain ⟨cu, rfl⟩ := hu.slice
  obtain ⟨lu, hlu⟩ : ∃ l, (lits 18446744073709551616 U).length = l := ⟨_, rfl⟩
  rw [hlu] at HD ⊢
  rcases Nat.eq_zero_or_pos (U % y) with hr | hr
  · rw [hr] at HD ⊢
    rw [lits_zero]
    obtain ⟨Y, hY⟩ : ∃ Y : Int, (y : Int) = Y := ⟨_, rfl⟩
    rw [hY] at HD c1
    clear hu h0 hl hv hy0 hy hr hrB hY hlu
    go_enter Tryz.func139, Tryz.ntmps139
    go_wp2_with (first | (go_at_call 194; go_must (refine HD.out.mono ?_); rintro e w1 ⟨q, rfl, h1, h2⟩; obtain ⟨cq, rfl⟩ := h1.slice; have H1 := Aside0.mk h1; have H2 := Aside0.mk h2; clear h1 h2) | (go_at_call 117; go_must (refine (setWord_zero _).mono ?_); rintro e w2 ⟨rfl, rfl⟩))
    go_ret2
    exact ⟨_, _, rfl, H1.out, Or.inl ⟨rfl, rfl⟩, H2.out⟩
  · have HS := Aside0.mk (fun W => setWord_nil (U % y) hr hrB W.heap.size W (Nat.le_refl _))
    rw [wl_one hr hrB]
    obtain ⟨r, hr2⟩ : ∃ r, U % y = r := ⟨_, rfl⟩
    rw [hr2] at HD HS ⊢
    obtain ⟨Y, hY⟩ : ∃ Y : Int, (y : Int) = Y := ⟨_, rfl⟩
    obtain ⟨R, hR⟩ : ∃ Y : Int, (r : Int) = Y := ⟨_, rfl⟩
    rw [hY] at HD c1
    rw [hR] at HD HS ⊢
    clear hu h0 hl hv hy0 hy hr hrB hY hlu hR hr2
    go_enter Tryz.func139, Tryz.ntmps139
    go_wp2_with (first | (go_at_call 194; go_must (refine HD.out.mono ?_); rintro e w1 ⟨q, rfl, h1, h2⟩; obtain ⟨cq, rfl⟩ := h1.slice; have H1 := Aside0.mk h1; have H2 := Aside0.mk h2; clear h1 h2) | (go_at_call 117; go_must (refine (HS.out _).mono ?_); rintro e w2 ⟨r, rfl, h3, h4⟩; obtain ⟨A3, c3, n3, h5, rfl⟩ := h3.slice; have H3 := Aside0.mk h3; have H4 := Aside0.mk h4; clear h3 h4 h5))
    go_ret2
    exact ⟨_, _, rfl, H1.out.far (Fr.of_below (S := fun _ => False) H4.out) (fun h => h), H3.out.lower H2.out.size, H2.out.trans (Fr.of_below H4.out)⟩

set_option maxHeartbeats 2000000 in
set_option maxRecDepth 1000000 in
/-- z.div(stk, nil, z, v), v a word above 1. -/
theorem div_self (U gu gy y : Nat) (u v stk : Value) (w : World) (hu : NW w gu u U) (h0 : 0 < U) (hl : (lits 18446744073709551616 U).length ≤ 1000) (hv : NW w gy v y) (hy1 : 1 < y) (hy : y < 18446744073709551616) :
    Calls Tryz.prog 139 #[u, stk, .slice none 0 0, u, v] w fun e w' => ∃ q r, e = .returned (.tuple #[q, r]) ∧ NW w' gu q (U / y) ∧ Fr (fun k => k = gu) w w' := by
  obtain ⟨c1, c2, cv, rfl⟩ := hv.cell0 (by omega) hy
  have HD := Aside0.mk (divW_self U gu y u w hu h0 hl hy1 hy)
  have hrB : U % y < 18446744073709551616 := Nat.lt_trans (Nat.mod_lt _ (by omega)) hy
  have hgu := hu.lt
  obtain ⟨cu, rfl⟩ := hu.slice
  obtain ⟨lu, hlu⟩ : ∃ l, (lits 18446744073709551616 U).length = l := ⟨_, rfl⟩
  rw [hlu] at HD ⊢
  rcases Nat.eq_zero_or_pos (U % y) with hr | hr
  · rw [hr] at HD
    obtain ⟨Y, hY⟩ : ∃ Y : Int, (y : Int) = Y := ⟨_, rfl⟩
    rw [hY] at HD c1
    clear hu h0 hl hv hy1 hy hr hrB hY hlu hgu
    go_enter Tryz.func139, Tryz.ntmps139
    go_wp2_with (first | (go_at_call 194; go_must (refine HD.out.mono ?_); rintro e w1 ⟨q, rfl, h1, h2⟩; obtain ⟨cq, rfl⟩ := h1.slice; have H1 := Aside0.mk h1; have H2 := Aside0.mk h2; clear h1 h2) | (go_at_call 117; go_must (refine (setWord_zero _).mono ?_); rintro e w2 ⟨rfl, rfl⟩))
    go_ret2
    exact ⟨_, _, rfl, H1.out, H2.out⟩
  · have HS := Aside0.mk (fun W => setWord_nil (U % y) hr hrB W.heap.size W (Nat.le_refl _))
    have HG := Aside0.mk hgu
    obtain ⟨r, hr2⟩ : ∃ r, U % y = r := ⟨_, rfl⟩
    rw [hr2] at HD HS
    obtain ⟨Y, hY⟩ : ∃ Y : Int, (y : Int) = Y := ⟨_, rfl⟩
    obtain ⟨R, hR⟩ : ∃ Y : Int, (r : Int) = Y := ⟨_, rfl⟩
    rw [hY] at HD c1
    rw [hR] at HD HS
    clear hu h0 hl hv hy1 hy hr hrB hY hlu hR hr2 hgu
    go_enter Tryz.func139, Tryz.ntmps139
    go_wp2_with (first | (go_at_call 194; go_must (refine HD.out.mono ?_); rintro e w1 ⟨q, rfl, h1, h2⟩; obtain ⟨cq, rfl⟩ := h1.slice; have H1 := Aside0.mk h1; have H2 := Aside0.mk h2; clear h1 h2) | (go_at_call 117; go_must (refine (HS.out _).mono ?_); rintro e w2 ⟨r, rfl, h3, h4⟩; obtain ⟨A3, c3, n3, h5, rfl⟩ := h3.slice; have H4 := Aside0.mk h4; clear h3 h4 h5))
    go_ret2
    exact ⟨_, _, rfl, H1.out.far (Fr.of_below (S := fun _ => False) H4.out) (fun h => h), H2.out.trans (Fr.of_below H4.out)⟩

theorem NW.C {w : World} {g : Nat} {v : Value} {n : Nat} (h : NW w g v n) : ∃ c, v = .slice (some ⟨g, 0, none⟩) (lits 18446744073709551616 n).length c ∧ (lits 18446744073709551616 n).length ≤ c ∧ Kd.C (Kd.int .u64) w (some ⟨g, 0, none⟩) (lits 18446744073709551616 n).length (lits 18446744073709551616 n) := by
  obtain ⟨A, c, rfl, h2, h3⟩ := NV_C (h.toNV (Nat.le_refl g))
  obtain ⟨c', h4⟩ := h.slice
  cases h4
  exact ⟨c, rfl, h2, h3⟩

theorem ncmp_f (a b : Nat) (ha : 0 < a) (hb : 0 < b) (hal : (lits 18446744073709551616 a).length ≤ 1000) (hbl : (lits 18446744073709551616 b).length ≤ 1000) (h : (lits 18446744073709551616 a).length ≠ (lits 18446744073709551616 b).length ∨ (a < 18446744073709551616 ∧ b < 18446744073709551616)) :
    Pr.bigall_nat_cmp.f 10 (lits 18446744073709551616 a) (lits 18446744073709551616 b) = some (sg a b) := by
  unfold Pr.bigall_nat_cmp.f
  by_cases hl : (lits 18446744073709551616 a).length = (lits 18446744073709551616 b).length
  · obtain ⟨h1, h2⟩ := h.resolve_left (fun k => k hl)
    rw [wl_one ha h1, wl_one hb h2, if_pos (by simp)]
    simp only [Pr.bigall_nat_cmp.j0, Pr.bigall_nat_cmp.l0, Pr.bigall_nat_cmp.j2, List.length_cons, List.length_nil, Nat.zero_add]
    have e0 : (((1 : Nat) : Int) == 0) = false := by decide
    have e1 : wrap64 (((1 : Nat) : Int) - 1) = 0 := by unfold wrap64; decide
    have r1 : rd [(a : Int)] 0 = (a : Int) := rfl
    have r2 : rd [(b : Int)] 0 = (b : Int) := rfl
    rw [e0, e1, if_neg (by decide), if_neg (by decide), if_pos (by decide), if_pos (by decide), if_pos (by decide), r1, r2]
    unfold sg
    by_cases k1 : a < b
    · rw [if_pos (by omega), if_pos k1]
    · by_cases k2 : b < a
      · rw [if_neg (by omega), if_pos (by omega), if_neg k1, if_pos k2]
      · rw [if_neg (by omega), if_neg (by omega), if_neg k1, if_neg k2]
  · rw [if_neg (by omega)]
    simp only [Pr.bigall_nat_cmp.j0]
    rw [if_pos trivial]
    unfold sg
    by_cases k1 : (lits 18446744073709551616 a).length < (lits 18446744073709551616 b).length
    · have : a < b := Nat.lt_of_not_le fun h => by have := lits_len_mono 18446744073709551616 a b (by decide) h; omega
      rw [if_pos (by omega), if_pos this]
    · have : b < a := Nat.lt_of_not_le fun h => by have := lits_len_mono 18446744073709551616 b a (by decide) h; omega
      rw [if_neg (by omega), if_pos (by omega), if_neg (by omega), if_pos this]

theorem ncmp_c {w : World} {g g' : Nat} {u v : Value} {a b : Nat} (hu : NW w g u a) (hv : NW w g' v b) (ha : 0 < a) (hb : 0 < b) (hal : (lits 18446744073709551616 a).length ≤ 1000) (hbl : (lits 18446744073709551616 b).length ≤ 1000) (h : (lits 18446744073709551616 a).length ≠ (lits 18446744073709551616 b).length ∨ (a < 18446744073709551616 ∧ b < 18446744073709551616)) :
    Calls Tryz.prog 183 #[u, v] w fun e w' => e = .returned (.int .i64 (sg a b)) ∧ Fr (fun _ => False) w w' := by
  obtain ⟨c, rfl, h1, h2⟩ := hu.C
  obtain ⟨c', rfl, h3, h4⟩ := hv.C
  refine (Pr.bigall_nat_cmp.calls 10 _ c _ _ c' _ _ w h2 h1 h4 h3 (ncmp_f a b ha hb hal hbl h)).mono ?_
  rintro e w' ⟨rfl, n, rfl⟩
  exact ⟨rfl, (Fr.refl _ _).drewN n⟩
end Go.Proofs.YtgpoplfgngiilaaGreatDoor
namespace Go.Proofs.YtgpoplfgngiilaaGreatDoor
set_option linter.unusedVariables false
set_option linter.unusedSimpArgs false
open Go.RowKit Go.Proofs.YtgpoplfgngiilaaGreatDoorW.PrintWords

/-- An Int that is not below 0 at this place. -/
def IA (w : World) (g o : Nat) (v : Value) : Prop := ∃ cs t, w.heap[g]? = some (.cells cs t (0, 0)) ∧ cs[o]? = some (.bool false) ∧ cs[o + 1]? = some v
theorem Iz.ia {w : World} {z : Nat} {v : Value} (h : Iz w z v) : IA w z 0 v := ⟨_, _, h, rfl, rfl⟩
theorem IA.far {S : Nat → Prop} {w w' : World} {g o : Nat} {v : Value} (h : IA w g o v) (hf : Fr S w w') (hg : ¬ S g) : IA w' g o v := by
  obtain ⟨cs, t, h1, h2, h3⟩ := h
  exact ⟨cs, t, (hf.block g (Go.Proofs.YtgpoplfgngiilaaGreatDoorW.PrintWords.blk_lt h1) hg).trans h1, h2, h3⟩
theorem IA.cells {w : World} {g o : Nat} {v : Value} (h : IA w g o v) : w.cell? ⟨g, o, none⟩ = some (.bool false) ∧ w.cell? ⟨g, o + 1, none⟩ = some v := by
  obtain ⟨cs, t, h1, h2, h3⟩ := h
  exact ⟨(cell_of_row w g o cs t (0, 0) h1).trans h2, (cell_of_row w g (o + 1) cs t (0, 0) h1).trans h3⟩
theorem IA.lt {w : World} {g o : Nat} {v : Value} (h : IA w g o v) : g < w.heap.size := World.block_lt_of_cell? w _ h.cells.1

theorem ptr_eql_other {w : World} {a b : Addr} {ca cb : Array Value} {ta tb : TypeId} (hne : a ≠ b) (ha : w.heap[a.block]? = some (.cells ca ta (0, 0))) (hb : w.heap[b.block]? = some (.cells cb tb (0, 0))) :
    (binOp .eql 89 (.pointer (some a)) (.pointer (some b))).run Tryz.prog w = .ok (.bool false) w ∧ (binOp .neq 89 (.pointer (some a)) (.pointer (some b))).run Tryz.prog w = .ok (.bool true) w := by
  have hsz2 : Tryz.t116.size = 2 := by kernel_rfl
  have hsz : Tryz.t116.size ≠ 0 := by omega
  refine ⟨run_eql_ptr_other w Tryz.underlying89 (show Tryz.prog.info? 116 = some Tryz.t116 by kernel_rfl) hsz hne ha hb, ?_⟩
  have h : ∀ d : Nat, (Op.equalIn (d + 1) 89 (.pointer (some a)) (.pointer (some b))).run Tryz.prog w = .ok false w := fun d => by
    simp [Op.equalIn, run_underlying Tryz.underlying89, sizeOf, typeInfo, show Tryz.prog.info? 116 = some Tryz.t116 by kernel_rfl, hsz, run_sameAddr_other w hne ha hb]
  simp only [binOp]
  simp [Op.equal, Op.maxDepth, h 9999]

theorem fr_put1 {S : Nat → Prop} {w W : World} {g : Nat} (h : Fr S w W) (hg : S g) (o : Nat) (x : Value) : Fr S w (W.setCell ⟨g, o, none⟩ x) := h.setCell (p := ⟨g, o, none⟩) (Or.inl hg) x
theorem set_nil_at (n g : Nat) (v : Value) (w W : World) (hv : NW w g v n) (h0 : 0 < n) (hl : (lits 18446744073709551616 n).length ≤ 1000) (hW : Below w.heap.size w W) :
    Calls Tryz.prog 94 #[.slice none 0 0, v] W fun e w' => ∃ v', e = .returned v' ∧ (∃ g', w.heap.size ≤ g' ∧ NW w' g' v' n) ∧ Fr (fun _ => False) w w' := by
  refine (set_nil n g v W (hv.far (Fr.of_below (S := fun _ => False) hW) (fun h => h)) h0 hl).mono ?_
  rintro e w' ⟨v', rfl, h1, h2⟩
  exact ⟨_, rfl, ⟨_, hW.size, h1⟩, (Fr.of_below (S := fun _ => False) hW).trans h2⟩

set_option maxHeartbeats 2000000 in
set_option maxRecDepth 1000000 in
/-- z.Set(x) of a new Int. -/
theorem int_set (z g gx o n : Nat) (v : Value) (w : World) (hz : Iz w z (.slice none 0 0)) (hx : IA w gx o v) (hv : NW w g v n) (hzx : z ≠ gx) (hzg : z ≠ g) (h0 : 0 < n) (hl : (lits 18446744073709551616 n).length ≤ 1000) :
    Calls Tryz.prog 189 #[.pointer (some ⟨z, 0, none⟩), .pointer (some ⟨gx, o, none⟩)] w fun e w' => ∃ v' g', w.heap.size ≤ g' ∧ e = .returned (.pointer (some ⟨z, 0, none⟩)) ∧ Iz w' z v' ∧ NW w' g' v' n ∧ Fr (fun k => k = z) w w' := by
  have HS := Aside0.mk (fun W (h : Below w.heap.size w W) => set_nil_at n g v w W hv h0 hl h)
  have HZ := Aside0.mk hz
  have HX := Aside0.mk hx
  have hlt := hz.lt
  obtain ⟨c0, c1⟩ := hx.cells
  obtain ⟨cs, ct, hx1, -, -⟩ := hx
  obtain ⟨-, hpe⟩ := ptr_eql_other (w := w) (a := ⟨z, 0, none⟩) (b := ⟨gx, o, none⟩) (fun h => by cases h; exact hzx rfl) hz hx1
  have z0 := hz.c0
  have z1 := hz.c1
  have k0 := hz.f0 0
  have k1 := hz.f0 1
  have HZL := Aside0.mk (And.intro hlt hzx)
  obtain ⟨c, rfl⟩ := hv.slice
  obtain ⟨lv, hlv⟩ : ∃ l, (lits 18446744073709551616 n).length = l := ⟨_, rfl⟩
  rw [hlv] at HS HX c1
  clear hz hv hzx hzg h0 hl hlt hlv hx1
  go_enter Tryz.func189, Tryz.ntmps189
  go_wp2_with fail
  have hf0 := Fr.refl (fun k => k = z) w
  have hnz : ¬ gx = z := fun h => HZL.out.2 h.symm
  go_region_with (go_at_call 94; refine (HS.out _ ?_).mono ?_; (repeat (first | exact Below.refl _ _ | apply Below.drew)); rintro e w1 ⟨v', rfl, ⟨g', hg', h1⟩, h2⟩; have z0' := h2.cellv z0 (fun h => h); have z1' := h2.cellv z1 (fun h => h); have k0' := (h2.frozen (p := ⟨z, 0, none⟩) HZL.out.1 (fun h => h)).trans k0; have k1' := (h2.frozen (p := ⟨z, 1, none⟩) HZL.out.1 (fun h => h)).trans k1; have c0' := h2.cellv c0 (fun h => h); obtain ⟨cq, rfl⟩ := h1.slice; have H1 := Aside0.mk h1; have H2 := Aside0.mk h2; clear h1 h2)
  all_goals
    have hnz2 : ¬ z = gx := HZL.out.2
    go_wp2_with fail
    (try go_region)
    all_goals (try go_wp2_with fail)
  all_goals
    go_ret
    exact ⟨_, g', hg', rfl, (HZ.out.far H2.out (fun h => h)).set _, H1.out.far (two_sets z _ _ _) (fun h => by have := HZL.out.1; omega), (H2.out.mono (fun _ h => h.elim)).trans (two_sets z _ _ _)⟩

set_option maxHeartbeats 2000000 in
set_option maxRecDepth 1000000 in
/-- z.Abs(x) of a new Int. -/
theorem int_abs (z g gx o n : Nat) (v : Value) (w : World) (hz : Iz w z (.slice none 0 0)) (hx : IA w gx o v) (hv : NW w g v n) (hzx : z ≠ gx) (hzg : z ≠ g) (h0 : 0 < n) (hl : (lits 18446744073709551616 n).length ≤ 1000) :
    Calls Tryz.prog 182 #[.pointer (some ⟨z, 0, none⟩), .pointer (some ⟨gx, o, none⟩)] w fun e w' => ∃ v' g', w.heap.size ≤ g' ∧ e = .returned (.pointer (some ⟨z, 0, none⟩)) ∧ Iz w' z v' ∧ NW w' g' v' n ∧ Fr (fun k => k = z) w w' := by
  have HS := Aside0.mk (int_set z g gx o n v w hz hx hv hzx hzg h0 hl)
  have HL := Aside0.mk hz.lt
  clear hz hx hv hzx hzg h0 hl
  go_enter Tryz.func182, Tryz.ntmps182
  go_wp2_with (go_at_call 189; go_must (refine HS.out.mono ?_); rintro e w1 ⟨v', g', hg', rfl, h1, h2, h3⟩; have z0 := h1.c0; have k0 := h1.f0 0; have H1 := Aside0.mk h1; have H2 := Aside0.mk h2; have H3 := Aside0.mk h3; have HG := Aside0.mk hg'; clear h1 h2 h3 hg')
  go_ret
  refine ⟨v', g', HG.out, rfl, ?_, H2.out.far (fr_put1 (S := fun k => k = z) (Fr.refl _ _) rfl _ _) (fun h => by have := HG.out; have := HL.out; omega), fr_put1 H3.out rfl _ _⟩
  have := blk_set H1.out 0 (.bool false)
  exact this

end Go.Proofs.YtgpoplfgngiilaaGreatDoor
namespace Go.Proofs.YtgpoplfgngiilaaGreatDoor
open Go

section
variable {P : Program} {ops : Array Oper} {Q : Exit → Act → World → Prop} {md : Region.Mode} {S : World → Prop} {c : Nat}

/-- Any order, and S holds behind each operation that comes ahead of number c. -/
def wpTill (P : Program) (md : Region.Mode) (ops : Array Oper) (Q : Exit → Act → World → Prop) (S : World → Prop) (c : Nat) : Nat → Array Bool → Act → World → Prop
  | 0, listed, a, w => Region.ready md ops listed = [] ∧ Q .normal a w
  | fuel + 1, listed, a, w =>
    (Region.ready md ops listed = [] → Q .normal a w) ∧
    ∀ i ∈ Region.ready md ops listed, wpOp P ops Q i (fun a' w' => ((listed.setIfInBounds i true).getD c true = false → S w') ∧ wpTill P md ops Q S c fuel (listed.setIfInBounds i true) a' w') a w

theorem wpAny_of_till : ∀ (fuel : Nat) (listed : Array Bool) (a : Act) (w : World), wpTill P md ops Q S c fuel listed a w → wpAny P md ops Q fuel listed a w
  | 0, _, _, _, h => h
  | fuel + 1, _, _, _, h => ⟨h.1, fun i hi => wpOp_mono (fun a' w' h' => wpAny_of_till fuel _ a' w' h'.2) (h.2 i hi)⟩

theorem getD_true_mono {l : Array Bool} {i c : Nat} (h : l.getD c true = true) : (l.setIfInBounds i true).getD c true = true := by
  by_cases hic : i = c
  · subst hic
    by_cases hl : i < l.size
    · simp [Array.getD, hl]
    · simp [Array.getD, hl]
  · rw [getD_set_ne true hic]; exact h

theorem wpTill_of_any : ∀ (fuel : Nat) (listed : Array Bool) (a : Act) (w : World), listed.getD c true = true → wpAny P md ops Q fuel listed a w → wpTill P md ops Q S c fuel listed a w
  | 0, _, _, _, _, h => h
  | fuel + 1, listed, _, _, hc, h => ⟨h.1, fun i hi => wpOp_mono (fun a' w' h' => ⟨fun hf => (by rw [getD_true_mono hc] at hf; cases hf), wpTill_of_any fuel _ a' w' (getD_true_mono hc) h'⟩) (h.2 i hi)⟩

theorem wpTill_first {i : Nat} {oi oc : Oper} {v : Value} (hi : ops[i]? = some oi) (hsel : ∀ (j : Nat) (o : Oper) cs b, ops[j]? = some o → o.op ≠ .select cs b)
    (hQ : ∀ c a w, Q (.panic c) (a.put oi.dst v) w → Q (.panic c) a w) (hoc : ops[c]? = some oc) (hcw : ∃ e ∈ oc.after, Region.binds md e = true ∧ e.on = i) :
    ∀ (fuel : Nat) (listed : Array Bool) (a : Act) (w : World),
      (∀ j oj, ops[j]? = some oj → j ≠ i → listed.getD j true = false → (∀ e ∈ oj.after, Region.binds md e = true → e.on ≠ i) → oi.apart ops oj = true) →
      i ∈ Region.ready md ops listed → listed.getD c true = false → YieldsIf P ops S oi v a → S w →
      wpTill P md ops Q S c fuel (listed.setIfInBounds i true) (a.put oi.dst v) w → wpTill P md ops Q S c (fuel + 1) listed a w := by
  intro fuel
  induction fuel with
  | zero =>
    intro listed a w _ hr _ hy hS H
    refine ⟨fun h => (by rw [h] at hr; cases hr), fun j hj => ?_⟩
    by_cases hji : j = i
    · subst hji; exact hy.wpOp hi hS ⟨fun _ => hS, H⟩
    · have := ready_mono hj hji
      rw [H.1] at this
      cases this
  | succ fuel ih =>
    intro listed a w hfree hr hlc hy hS H
    refine ⟨fun h => (by rw [h] at hr; cases hr), fun j hj => ?_⟩
    by_cases hji : j = i
    · subst hji; exact hy.wpOp hi hS ⟨fun _ => hS, H⟩
    · have h1 := H.2 j (ready_mono hj hji)
      obtain ⟨hjun, oj, hoj, hall⟩ := mem_ready.1 hj
      have hnot : ∀ e ∈ oj.after, Region.binds md e = true → e.on ≠ i := fun e he hb heq => by
        have h1 := hall e he hb
        have h0 := (mem_ready.1 hr).1
        rw [heq] at h1
        rcases Nat.lt_or_ge i listed.size with h' | h'
        · simp [h'] at h0 h1; rw [h0] at h1; cases h1
        · simp [Array.getElem?_eq_none h'] at h1
      have hjc : j ≠ c := fun he => by
        subst he
        obtain ⟨e, he1, he2, he3⟩ := hcw
        rw [hoc] at hoj
        cases hoj
        exact hnot e he1 he2 he3
      have hlc' : (listed.setIfInBounds j true).getD c true = false := by rw [getD_set_ne true hjc]; exact hlc
      have hlc2 : ((listed.setIfInBounds i true).setIfInBounds j true).getD c true = false ∨ ((listed.setIfInBounds i true).setIfInBounds j true).getD c true = true := by
        cases ((listed.setIfInBounds i true).setIfInBounds j true).getD c true
        · exact Or.inl rfl
        · exact Or.inr rfl
      have h2 := wpOp_putIf hoj (hfree j oj hoj hji hjun hnot) (fun cs b => hsel i oi cs b hi) (fun cs b => hsel j oj cs b hoj) hQ hy h1
      have hfree' : ∀ k ok, ops[k]? = some ok → k ≠ i → (listed.setIfInBounds j true).getD k true = false →
          (∀ e ∈ ok.after, Region.binds md e = true → e.on ≠ i) → oi.apart ops ok = true := fun k ok hk hki hun hno => by
        refine hfree k ok hk hki ?_ hno
        by_cases hjk : j = k
        · subst hjk; exact hjun
        · rw [getD_set_ne true hjk] at hun; exact hun
      have hci : i ≠ c := fun he => by
        subst he
        obtain ⟨e, he1, he2, he3⟩ := hcw
        obtain ⟨-, o', ho', hall'⟩ := mem_ready.1 hr
        rw [hoc] at ho'; cases ho'
        have h1 := hall' e he1 he2
        rw [he3] at h1
        have h0 := (mem_ready.1 hr).1
        rcases Nat.lt_or_ge i listed.size with h' | h'
        · simp [h'] at h0 h1; rw [h0] at h1; cases h1
        · simp [Array.getElem?_eq_none h'] at h1
      have hlc3 : ((listed.setIfInBounds i true).setIfInBounds j true).getD c true = false := by
        rw [getD_set_ne true hjc, getD_set_ne true hci]; exact hlc
      refine wpOp_mono (fun a' w' h3 => ⟨fun _ => h3.2.1 hlc3, ih (listed.setIfInBounds j true) a' w' hfree' (ready_mono hr (Ne.symm hji)) hlc' h3.1 (h3.2.1 hlc3) ?_⟩) h2
      rw [Array.setIfInBounds_comm _ _ hji]
      exact h3.2.2

/-- Number c waits for number i. -/
def waits (md : Region.Mode) (ops : Array Oper) (c i : Nat) : Bool := match ops[c]? with | some o => o.after.any (fun e => Region.binds md e && e.on == i) | none => false
theorem waits_spec {i : Nat} (h : waits md ops c i = true) : ∃ oc, ops[c]? = some oc ∧ ∃ e ∈ oc.after, Region.binds md e = true ∧ e.on = i := by
  unfold waits at h
  cases ho : ops[c]? with
  | none => rw [ho] at h; cases h
  | some o =>
    rw [ho] at h
    simp only [Array.any_eq_true', Bool.and_eq_true, beq_iff_eq] at h
    exact ⟨o, rfl, h⟩

/-- Take number i first: a load that number c waits for. -/
theorem wpTill_take {i : Nat} {oi : Oper} {v : Value} {fuel : Nat} {listed : Array Bool} {a : Act} {w : World} (hi : ops[i]? = some oi)
    (hs : Region.noSelect ops = true) (hf : Region.free md ops listed i = true) (hr : (Region.ready md ops listed).contains i = true) (hc : waits md ops c i = true) (hlc : listed.getD c true = false)
    (hQ : ∀ c a w, Q (.panic c) (a.put oi.dst v) w → Q (.panic c) a w) (hy : YieldsIf P ops S oi v a) (hS : S w)
    (h : wpTill P md ops Q S c fuel (listed.setIfInBounds i true) (a.put oi.dst v) w) : wpTill P md ops Q S c (fuel + 1) listed a w := by
  obtain ⟨oc, h1, h2⟩ := waits_spec hc
  exact wpTill_first hi (Region.noSelect_spec hs) hQ h1 h2 fuel listed a w (Region.free_spec hi hf) (by simpa using hr) hlc hy hS h

/-- The call itself, and any order behind it. -/
theorem wpTill_call {fuel : Nat} {listed : Array Bool} {a : Act} {w : World} (hr : Region.ready md ops listed = [c]) (hc : (listed.setIfInBounds c true).getD c true = true)
    (h : AllReady P md ops Q fuel listed a w [c]) : wpTill P md ops Q S c (fuel + 1) listed a w :=
  ⟨fun h0 => (by rw [h0] at hr; cases hr), fun i hi => by
    rw [hr] at hi
    cases List.mem_singleton.1 hi
    exact wpOp_mono (fun a' w' h' => ⟨fun hf => (by rw [hc] at hf; cases hf), wpTill_of_any fuel _ a' w' hc h'⟩) (h c (List.mem_singleton.2 rfl))⟩

/-- The beginning. -/
theorem wp_region_till {id : Nat} {a : Act} {w : World} (S : World → Prop) (c : Nat) (hm : P.follows .mixedOrders = true)
    (h : wpTill P .any ops Q S c ops.size (Array.replicate ops.size false) a w.drew) : (Code.region id ops true).wp P Q a w :=
  wp_region_any hm (wpAny_of_till _ _ _ _ h)

theorem getD_false_anti {l : Array Bool} {i c : Nat} (h : (l.setIfInBounds i true).getD c true = false) : l.getD c true = false := by
  cases hc : l.getD c true with
  | false => rfl
  | true => rw [getD_true_mono hc] at h; cases h

theorem wpTill_free1 {i : Nat} {oi : Oper} {v : Value} (hi : ops[i]? = some oi) (hsel : ∀ (j : Nat) (o : Oper) cs b, ops[j]? = some o → o.op ≠ .select cs b)
    (hQ : ∀ c a w, Q (.panic c) (a.put oi.dst v) w → Q (.panic c) a w) (hci : i ≠ c) :
    ∀ (fuel : Nat) (listed : Array Bool) (a : Act) (w : World),
      (∀ j oj, ops[j]? = some oj → j ≠ i → listed.getD j true = false → (∀ e ∈ oj.after, Region.binds md e = true → e.on ≠ i) → oi.apart ops oj = true) →
      i ∈ Region.ready md ops listed → Yields P ops oi v a → (listed.getD c true = false → S w) →
      wpTill P md ops Q S c fuel (listed.setIfInBounds i true) (a.put oi.dst v) w → wpTill P md ops Q S c (fuel + 1) listed a w := by
  intro fuel
  induction fuel with
  | zero =>
    intro listed a w _ hr hy hS H
    refine ⟨fun h => (by rw [h] at hr; cases hr), fun j hj => ?_⟩
    by_cases hji : j = i
    · subst hji; exact hy.wpOp hi ⟨fun h => hS (getD_false_anti h), H⟩
    · have := ready_mono hj hji
      rw [H.1] at this
      cases this
  | succ fuel ih =>
    intro listed a w hfree hr hy hS H
    refine ⟨fun h => (by rw [h] at hr; cases hr), fun j hj => ?_⟩
    by_cases hji : j = i
    · subst hji; exact hy.wpOp hi ⟨fun h => hS (getD_false_anti h), H⟩
    · have h1 := H.2 j (ready_mono hj hji)
      obtain ⟨hjun, oj, hoj, hall⟩ := mem_ready.1 hj
      have hnot : ∀ e ∈ oj.after, Region.binds md e = true → e.on ≠ i := fun e he hb heq => by
        have h1 := hall e he hb
        have h0 := (mem_ready.1 hr).1
        rw [heq] at h1
        rcases Nat.lt_or_ge i listed.size with h' | h'
        · simp [h'] at h0 h1; rw [h0] at h1; cases h1
        · simp [Array.getElem?_eq_none h'] at h1
      have h2 := wpOp_put hoj (hfree j oj hoj hji hjun hnot) (fun cs b => hsel i oi cs b hi) (fun cs b => hsel j oj cs b hoj) hQ hy h1
      have hfree' : ∀ k ok, ops[k]? = some ok → k ≠ i → (listed.setIfInBounds j true).getD k true = false →
          (∀ e ∈ ok.after, Region.binds md e = true → e.on ≠ i) → oi.apart ops ok = true := fun k ok hk hki hun hno => by
        refine hfree k ok hk hki ?_ hno
        by_cases hjk : j = k
        · subst hjk; exact hjun
        · rw [getD_set_ne true hjk] at hun; exact hun
      have hS' : ∀ w', (((listed.setIfInBounds i true).setIfInBounds j true).getD c true = false → S w') → (listed.setIfInBounds j true).getD c true = false → S w' := fun w' h hc => h (by
        rw [Array.setIfInBounds_comm _ _ (Ne.symm hji), getD_set_ne true hci]; exact hc)
      refine wpOp_mono (fun a' w' h3 => ⟨hS' w' h3.2.1, ih (listed.setIfInBounds j true) a' w' hfree' (ready_mono hr (Ne.symm hji)) h3.1 (hS' w' h3.2.1) ?_⟩) h2
      rw [Array.setIfInBounds_comm _ _ hji]
      exact h3.2.2

/-- Take number i first: it yields in whatever world. -/
theorem wpTill_free {i : Nat} {oi : Oper} {v : Value} {fuel : Nat} {listed : Array Bool} {a : Act} {w : World} (hi : ops[i]? = some oi)
    (hs : Region.noSelect ops = true) (hf : Region.free md ops listed i = true) (hr : (Region.ready md ops listed).contains i = true) (hci : (i == c) = false)
    (hQ : ∀ c a w, Q (.panic c) (a.put oi.dst v) w → Q (.panic c) a w) (hy : Yields P ops oi v a) (hS : S w)
    (h : wpTill P md ops Q S c fuel (listed.setIfInBounds i true) (a.put oi.dst v) w) : wpTill P md ops Q S c (fuel + 1) listed a w :=
  wpTill_free1 hi (Region.noSelect_spec hs) hQ (fun e => by subst e; simp at hci) fuel listed a w (Region.free_spec hi hf) (by simpa using hr) hy (fun _ => hS) h

theorem till_take {i : Nat} (d : Option Tmp) {oi : Oper} {v : Value} {fuel : Nat} {listed : Array Bool} {a : Act} {w : World} (hi : ops[i]? = some oi) (hd : oi.dst = d)
    (hs : Region.noSelect ops = true) (hf : Region.free md ops listed i = true) (hr : (Region.ready md ops listed).contains i = true) (hc : waits md ops c i = true) (hlc : listed.getD c true = false)
    (hQ : ∀ c a w, Q (.panic c) (a.put d v) w → Q (.panic c) a w) (hy : YieldsIf P ops S oi v a) (hS : S w)
    (h : wpTill P md ops Q S c fuel (listed.setIfInBounds i true) (a.put d v) w) : wpTill P md ops Q S c (fuel + 1) listed a w := by
  subst hd; exact wpTill_take hi hs hf hr hc hlc hQ hy hS h
theorem till_free {i : Nat} (d : Option Tmp) {oi : Oper} {v : Value} {fuel : Nat} {listed : Array Bool} {a : Act} {w : World} (hi : ops[i]? = some oi) (hd : oi.dst = d)
    (hs : Region.noSelect ops = true) (hf : Region.free md ops listed i = true) (hr : (Region.ready md ops listed).contains i = true) (hci : (i == c) = false)
    (hQ : ∀ c a w, Q (.panic c) (a.put d v) w → Q (.panic c) a w) (hy : Yields P ops oi v a) (hS : S w)
    (h : wpTill P md ops Q S c fuel (listed.setIfInBounds i true) (a.put d v) w) : wpTill P md ops Q S c (fuel + 1) listed a w := by
  subst hd; exact wpTill_free hi hs hf hr hci hQ hy hS h
theorem any_take {i : Nat} (d : Option Tmp) {oi : Oper} {v : Value} {fuel : Nat} {listed : Array Bool} {a : Act} {w : World} (hi : ops[i]? = some oi) (hd : oi.dst = d)
    (hs : Region.noSelect ops = true) (hf : Region.free md ops listed i = true) (hr : (Region.ready md ops listed).contains i = true)
    (hQ : ∀ c a w, Q (.panic c) (a.put d v) w → Q (.panic c) a w) (hy : Yields P ops oi v a)
    (h : wpAny P md ops Q fuel (listed.setIfInBounds i true) (a.put d v) w) : wpAny P md ops Q (fuel + 1) listed a w := by
  subst hd; exact wpAny_take hi hs hf hr hQ hy h
end
end Go.Proofs.YtgpoplfgngiilaaGreatDoor
