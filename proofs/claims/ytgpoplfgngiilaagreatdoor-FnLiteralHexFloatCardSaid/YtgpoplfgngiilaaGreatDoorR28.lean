/- FnLiteralHexFloat, behind its card (K4 K5z K5 L3 M5 C4 D4). -/
import Derived.Test.YtgpoplfgngiilaaGreatDoorR27
import Derived.Test.YtgpoplfgngiilaaGreatDoorR06
import Derived.Test.YtgpoplfgngiilaaGreatDoorR16
import Derived.Test.YtgpoplfgngiilaaGreatDoorR15
import Derived.Test.YtgpoplfgngiilaaGreatDoorR05
import Derived.Deep.RegionHeld3
import Derived.Outline
import Derived.Lib.DecodeN
import Derived.Shelf.Unicode.DecodeSlow
import Derived.Deep.QuietTactic
import Derived.BigQuiet
set_option linter.unusedVariables false
set_option linter.unusedSimpArgs false
namespace Go.Proofs.YtgpoplfgngiilaaGreatDoor
set_option linter.unusedVariables false
set_option linter.unusedSimpArgs false
open Go.RowKit Go.Proofs.YtgpoplfgngiilaaGreatDoorW.PrintWords
attribute [local go_sem] me_read me_unread

/-- nat.scan (with a point) reads the text s up to L as the number m. -/
def ScansF (s : ByteArray) (m L : Nat) (b cnt : Int) (te : TypeId) (pe : Value) : Prop :=
  ∀ (r : Nat) (w : World), Rd w r s 0 → w.cell? ⟨1, 0, none⟩ = some (.iface te pe) → r ≠ 1 →
    Calls Tryz.prog 109 #[.slice none 0 0, .iface 133 (.pointer (some ⟨r, 0, none⟩)), .int .i64 0, .bool true] w fun e w' =>
      ∃ v : Value, e = .returned (.tuple #[v, .int .i64 b, .int .i64 cnt, .nilIface]) ∧ NV w.heap.size w' v (lits 18446744073709551616 m) ∧ Rd w' r s L ∧ Fr (fun k => k = r) w w'
/-- scanExponent reads the text s from L to its end as the exponent x. -/
def ScansE (s : ByteArray) (L : Nat) (x eb : Int) (te : TypeId) (pe : Value) : Prop :=
  ∀ (r : Nat) (w : World), Rd w r s L → w.cell? ⟨1, 0, none⟩ = some (.iface te pe) → r ≠ 1 →
    Calls Tryz.prog 112 #[.iface 133 (.pointer (some ⟨r, 0, none⟩)), .bool true, .bool true] w fun e w' =>
      e = .returned (.tuple #[.int .i64 x, .int .i64 eb, .nilIface]) ∧ Rd w' r s s.size ∧ Fr (fun k => k = r) w w'

theorem Fz.set {w : World} {z : Nat} {f x : Int} {m : Value} (h : Fz w z f m x) : Fz (w.setCell ⟨z, 3, none⟩ (.int .u8 0)) z 0 m x ∧ Fz (w.setCell ⟨z, 4, none⟩ (.bool false)) z f m x ∧ (∀ v, Fz (w.setCell ⟨z, 5, none⟩ v) z f v x) ∧ Fz (w.setCell ⟨z, 3, none⟩ (.int .u8 1)) z 1 m x ∧ Fz (w.setCell ⟨z, 0, none⟩ (.int .u32 512)) z f m x ∧ Fz (w.setCell ⟨z, 2, none⟩ (.int .i8 0)) z f m x ∧ (∀ y, Fz (w.setCell ⟨z, 6, none⟩ (.int .i32 y)) z f m y) :=
  ⟨blk_set h 3 _, blk_set h 4 _, fun v => blk_set h 5 v, blk_set h 3 _, blk_set h 0 _, blk_set h 2 _, fun y => blk_set h 6 _⟩

/-- The Float z and the Reader r, in W behind w. -/
def FSt (s : ByteArray) (r i z : Nat) (f : Int) (m : Value) (x : Int) (te : TypeId) (pe : Value) (w W : World) : Prop :=
  Fz W z f m x ∧ Rd W r s i ∧ W.cell? ⟨1, 0, none⟩ = some (.iface te pe) ∧ Fr (fun k => k = r ∨ k = z) w W
theorem FSt.put {s : ByteArray} {r i z : Nat} {f x f' x' : Int} {m m' : Value} {te : TypeId} {pe : Value} {w W : World} (h : FSt s r i z f m x te pe w W) (hzr : z ≠ r) (hz1 : z ≠ 1) (o : Nat) (v : Value) (hz : Fz (W.setCell ⟨z, o, none⟩ v) z f' m' x') :
    FSt s r i z f' m' x' te pe w (W.setCell ⟨z, o, none⟩ v) := by
  have F := fr_put1 (S := fun k => k = z) (Fr.refl _ W) rfl o v
  exact ⟨hz, h.2.1.far F (fun e => hzr e.symm), F.cellv h.2.2.1 (fun e => hz1 e.symm), h.2.2.2.trans (F.mono (fun k hk => Or.inr hk))⟩
theorem FSt.call {s : ByteArray} {r i i' z : Nat} {f x : Int} {m : Value} {te : TypeId} {pe : Value} {w W W' : World} (h : FSt s r i z f m x te pe w W) (hzr : z ≠ r) (hr1 : r ≠ 1) (hf : Fr (fun k => k = r) W W') (hr : Rd W' r s i') :
    FSt s r i' z f m x te pe w W' :=
  ⟨h.1.far hf hzr, hr, hf.cellv h.2.2.1 (fun e => hr1 e.symm), h.2.2.2.trans (hf.mono (fun k hk => Or.inl hk))⟩
theorem FSt.callg {s : ByteArray} {r i z g : Nat} {f x : Int} {m : Value} {te : TypeId} {pe : Value} {w W W' : World} (h : FSt s r i z f m x te pe w W) (hr : r < w.heap.size) (hz : z < w.heap.size) (h1 : 1 < w.heap.size) (hg : w.heap.size ≤ g) (hf : Fr (fun k => k = g) W W') :
    FSt s r i z f m x te pe w W' :=
  ⟨h.1.far hf (by show ¬ z = g; omega), h.2.1.far hf (by show ¬ r = g; omega), hf.cellv h.2.2.1 (by show ¬ 1 = g; omega), h.2.2.2.call hf (fun k hk => Or.inr (by omega))⟩

theorem FSt.callz {s : ByteArray} {r i z : Nat} {f x f' x' : Int} {m m' : Value} {te : TypeId} {pe : Value} {w W W' : World} (h : FSt s r i z f m x te pe w W) (hzr : z ≠ r) (hz1 : z ≠ 1) (hf : Fr (fun k => k = z) W W') (hz : Fz W' z f' m' x') :
    FSt s r i z f' m' x' te pe w W' :=
  ⟨hz, h.2.1.far hf (fun e => hzr e.symm), hf.cellv h.2.2.1 (fun e => hz1 e.symm), h.2.2.2.trans (hf.mono (fun k hk => Or.inr hk))⟩

/-- What Float.scan leaves. -/
def FlRes (s : ByteArray) (m z r : Nat) (te : TypeId) (pe : Value) (w : World) (e : Ending) (w' : World) : Prop :=
  ∃ (f x' : Int) (v : Value), e = .returned (.tuple #[.pointer (some ⟨z, 0, none⟩), .int .i64 16, .nilIface]) ∧ ((m = 0 ∧ f = 0 ∧ x' = 0) ∨ (0 < m ∧ f = 1)) ∧ -4000 ≤ x' ∧ x' ≤ 4000 ∧ FSt s r s.size z f v x' te pe w w'

set_option maxHeartbeats 4000000 in
set_option maxRecDepth 1000000 in
theorem float_scan0 (s : ByteArray) (L : Nat) (c x : Int) (te : TypeId) (pe : Value) (hF : ScansF s 0 L 16 c te pe) (hE : ScansE s L x 2 te pe) (hi : 0 < s.size) (hs : s.size ≤ 1000000) (h43 : (s[0]'hi).toNat ≠ 43) (h45 : (s[0]'hi).toNat ≠ 45)
    (z r : Nat) (w : World) (hzr : z ≠ r) (hr1 : r ≠ 1) (hz1 : z ≠ 1) (hr : Rd w r s 0) (hz : Fz w z 0 (.slice none 0 0) 0) (hv : w.cell? ⟨1, 0, none⟩ = some (.iface te pe)) :
    Calls Tryz.prog 147 #[.pointer (some ⟨z, 0, none⟩), .iface 133 (.pointer (some ⟨r, 0, none⟩)), .int .i64 0] w (FlRes s 0 z r te pe w) := by
  have HF := Aside0.mk hF
  have HE := Aside0.mk hE
  have HH := Aside0.mk (And.intro h43 h45)
  have HN := Aside0.mk (And.intro hzr (And.intro hr1 hz1))
  have HS0 := Aside0.mk (show FSt s r 0 z 0 (.slice none 0 0) 0 te pe w w from ⟨hz, hr, hv, Fr.refl _ _⟩)
  have HS1 := Aside0.mk (HS0.out.put hzr hz1 3 (.int .u8 0) hz.set.1)
  obtain ⟨c0, c1, c2, c3, c4, c5, c6⟩ := hz.c
  have f3 := hz.f 3
  clear hF hE hr hz hv h43 h45 hzr hr1 hz1
  go_enter Tryz.func147, Tryz.ntmps147
  go_wp2_with (first
    | (go_at_call 111; go_must (refine (scanSign_none r s hi hs HH.out.1 HH.out.2 _ HS1.out.2.1).mono ?_); rintro e w1 ⟨rfl, hr1, hf1⟩; have HS2 := Aside0.mk (HS1.out.call HN.out.1 HN.out.2.1 hf1 hr1); have HS3 := Aside0.mk (HS2.out.put HN.out.1 HN.out.2.2 4 (.bool false) HS2.out.1.set.2.1); clear hr1 hf1 c0 c1 c2 c3 c4 c5 c6 f3; obtain ⟨a0, a1, a2, a3, a4, a5, a6⟩ := HS2.out.1.c; have b4 := HS2.out.1.f 4)
    | (go_at_call 109; go_must (refine (HF.out r _ HS3.out.2.1 HS3.out.2.2.1 HN.out.2.1).mono ?_); rintro e w2 ⟨v, rfl, hn2, hr2, hf2⟩; rw [lits_zero] at hn2; obtain ⟨A, cc, n, hn, rfl⟩ := hn2.slice; obtain rfl : n = 0 := hn.symm; have HS4 := Aside0.mk (HS3.out.call HN.out.1 HN.out.2.1 hf2 hr2); have HS5 := Aside0.mk (HS4.out.put HN.out.1 HN.out.2.2 5 (.slice A 0 cc) (HS4.out.1.set.2.2.1 _)); clear hn hn2 hr2 hf2 a0 a1 a2 a3 a4 a5 a6 b4; obtain ⟨a0, a1, a2, a3, a4, a5, a6⟩ := HS4.out.1.c; have b5 := HS4.out.1.f 5)
    | (go_at_call 112; go_must (refine (HE.out r _ HS5.out.2.1 HS5.out.2.2.1 HN.out.2.1).mono ?_); rintro e w3 ⟨rfl, hr3, hf3⟩; have HS6 := Aside0.mk (HS5.out.call HN.out.1 HN.out.2.1 hf3 hr3); clear hr3 hf3 a0 a1 a2 a3 a4 a5 a6 b5; obtain ⟨a0, a1, a2, a3, a4, a5, a6⟩ := HS6.out.1.c; have b0 := HS6.out.1.f 0; have b2 := HS6.out.1.f 2; have b3 := HS6.out.1.f 3))
  have HS7 := HS6.out.put HN.out.1 HN.out.2.2 0 (.int .u32 512) HS6.out.1.set.2.2.2.2.1
  have HS8 := HS7.put HN.out.1 HN.out.2.2 2 (.int .i8 0) HS7.1.set.2.2.2.2.2.1
  have HS9 := HS8.put HN.out.1 HN.out.2.2 3 (.int .u8 0) HS8.1.set.1
  exact bodyPost_ret (v := .tuple #[.pointer (some ⟨z, 0, none⟩), .int .i64 16, .nilIface]) (by simp [results, Tryz.results147, go_sem]) rfl ⟨0, 0, _, rfl, Or.inl ⟨rfl, rfl, rfl⟩, by decide, by decide, HS9⟩

theorem keepF {w W' : World} {z g : Nat} {v : Value} (h : Fr (fun k => k = g) w W') (hz : z ≠ g) (d : w.cell? ⟨z, 5, none⟩ = some v) : W'.cell? ⟨z, 5, none⟩ = some v ∧ Fr (fun k => k = g) w W' :=
  ⟨h.cellv d hz, h⟩

set_option maxHeartbeats 4000000 in
set_option maxRecDepth 1000000 in
theorem float_scan1 (s : ByteArray) (m L : Nat) (c x : Int) (te : TypeId) (pe : Value) (hF : ScansF s m L 16 c te pe) (hE : ScansE s L x 2 te pe) (hi : 0 < s.size) (hs : s.size ≤ 1000000) (h43 : (s[0]'hi).toNat ≠ 43) (h45 : (s[0]'hi).toNat ≠ 45)
    (hm0 : 0 < m) (hm : m < 18446744073709551616) (hc1 : -20 ≤ c) (hc2 : c ≤ 0) (hx1 : -1000 ≤ x) (hx2 : x ≤ 1000)
    (z r : Nat) (w : World) (hzr : z ≠ r) (hr1 : r ≠ 1) (hz1 : z ≠ 1) (hr : Rd w r s 0) (hz : Fz w z 0 (.slice none 0 0) 0) (hv : w.cell? ⟨1, 0, none⟩ = some (.iface te pe)) :
    Calls Tryz.prog 147 #[.pointer (some ⟨z, 0, none⟩), .iface 133 (.pointer (some ⟨r, 0, none⟩)), .int .i64 0] w (FlRes s m z r te pe w) := by
  have HF := Aside0.mk hF
  have HE := Aside0.mk hE
  have HH := Aside0.mk (And.intro h43 h45)
  have HN := Aside0.mk (And.intro hzr (And.intro hr1 hz1))
  have HM := Aside0.mk (And.intro hm0 hm)
  have HL := Aside0.mk (And.intro hr.lt (And.intro hz.lt (World.block_lt_of_cell? w _ hv)))
  have HS0 := Aside0.mk (show FSt s r 0 z 0 (.slice none 0 0) 0 te pe w w from ⟨hz, hr, hv, Fr.refl _ _⟩)
  have HS1 := Aside0.mk (HS0.out.put hzr hz1 3 (.int .u8 0) hz.set.1)
  obtain ⟨c0, c1, c2, c3, c4, c5, c6⟩ := hz.c
  have f3 := hz.f 3
  clear hF hE hr hz hv h43 h45 hzr hr1 hz1 hm0 hm
  go_enter Tryz.func147, Tryz.ntmps147
  go_upto_region 19 with (first
    | (go_at_call 111; go_must (refine (scanSign_none r s hi hs HH.out.1 HH.out.2 _ HS1.out.2.1).mono ?_); rintro e w1 ⟨rfl, hr1, hf1⟩; have HS2 := Aside0.mk (HS1.out.call HN.out.1 HN.out.2.1 hf1 hr1); have HS3 := Aside0.mk (HS2.out.put HN.out.1 HN.out.2.2 4 (.bool false) HS2.out.1.set.2.1); clear hr1 hf1 c0 c1 c2 c3 c4 c5 c6 f3; obtain ⟨a0, a1, a2, a3, a4, a5, a6⟩ := HS2.out.1.c; have b4 := HS2.out.1.f 4)
    | (go_at_call 109; go_must (refine (HF.out r _ HS3.out.2.1 HS3.out.2.2.1 HN.out.2.1).mono ?_); rintro e w2 ⟨v, rfl, hn2, hr2, hf2⟩; obtain ⟨g, hg, hw2⟩ := hn2.toNW HM.out.1; obtain ⟨cc, rfl⟩ := hw2.slice; have hl1 := congrArg List.length (wl_one HM.out.1 HM.out.2); have HW2 := Aside0.mk hw2; have HG := Aside0.mk (Nat.le_trans HS3.out.2.2.2.size hg); have HS4 := Aside0.mk (HS3.out.call HN.out.1 HN.out.2.1 hf2 hr2); rw [show (lits 18446744073709551616 m).length = 1 from hl1] at HW2; rw [show (lits 18446744073709551616 m).length = 1 from hl1]; have HS5 := Aside0.mk (HS4.out.put HN.out.1 HN.out.2.2 5 (.slice (some ⟨g, 0, none⟩) 1 cc) (HS4.out.1.set.2.2.1 _)); clear hl1 hw2 hg hn2 hr2 a0 a1 a2 a3 a4 a5 a6 b4; have HF2 := Aside0.mk hf2; clear hf2; obtain ⟨a0, a1, a2, a3, a4, a5, a6⟩ := HS4.out.1.c; have b5 := HS4.out.1.f 5)
    | (go_at_call 112; go_must (refine (HE.out r _ HS5.out.2.1 HS5.out.2.2.1 HN.out.2.1).mono ?_); rintro e w3 ⟨rfl, hr3, hf3⟩; have HS6 := Aside0.mk (HS5.out.call HN.out.1 HN.out.2.1 hf3 hr3); have HW3 := Aside0.mk ((HW2.out.far (fr_put1 (S := fun k => k = z) (Fr.refl _ w2) rfl 5 (.slice (some ⟨g, 0, none⟩) 1 cc)) (by have := HL.out; have := HG.out; show ¬ g = z; omega)).far hf3 (by have := HL.out; have := HG.out; show ¬ g = r; omega)); clear hr3 hf3 a0 a1 a2 a3 a4 a5 a6 b5; obtain ⟨a0, a1, a2, a3, a4, a5, a6⟩ := HS6.out.1.c))
  have hzg : z ≠ g := by have := HL.out; have := HG.out; omega
  have HZG := Aside0.mk hzg
  have d5 := a5
  clear hzg
  go_region_held3 (fun W' => W'.cell? ⟨z, 5, none⟩ = some (.slice (some ⟨g, 0, none⟩) 1 cc) ∧ Fr (fun k => k = g) w3 W')
    ((exact keepF (by repeat (first | assumption | apply Fr.drew | apply Fr.drewN | exact Fr.refl _ _)) HZG.out d5))
    (first | (go_at_call 201; refine (fnorm1 g m _ _ (HW3.out.far (S := fun _ => False) (by repeat (first | assumption | apply Fr.drew | apply Fr.drewN | exact Fr.refl _ _)) (fun h => h)) HM.out.1 HM.out.2).mono ?_; rintro e w4 ⟨σ, hσ, rfl, hf4⟩; have hf5 : Fr (fun k => k = g) w3 w4 := Fr.trans (by repeat (first | assumption | apply Fr.drew | apply Fr.drewN | exact Fr.refl _ _)) hf4))
  have HS7 := Aside0.mk (HS6.out.callg HL.out.1 HL.out.2.1 HL.out.2.2 HG.out hf5)
  have HS8 := Aside0.mk (HS7.out.put HN.out.1 HN.out.2.2 0 (.int .u32 512) HS7.out.1.set.2.2.2.2.1)
  have HS9 := Aside0.mk (HS8.out.put HN.out.1 HN.out.2.2 3 (.int .u8 1) HS8.out.1.set.2.2.2.1)
  have HSX := Aside0.mk (fun y => HS9.out.put HN.out.1 HN.out.2.2 6 (.int .i32 y) (HS9.out.1.set.2.2.2.2.2.2 y))
  clear hf4 hf5 a0 a1 a2 a3 a4 a5 a6 d5
  obtain ⟨a0, a1, a2, a3, a4, a5, a6⟩ := HS7.out.1.c
  have b0 := HS7.out.1.f 0
  have b3 := HS7.out.1.f 3
  have b6 := HS7.out.1.f 6
  have hσ2 : (σ : Int) ≤ 63 := by omega
  clear hσ
  rcases Int.lt_or_eq_of_le hc2 with hc0 | rfl
  all_goals
    go_wp2_with (go_at_call 145; go_must (refine (float_round z cc (some ⟨g, 0, none⟩) _ _ (HSX.out _).1).mono ?_); rintro e w5 ⟨rfl, hz5, hf5⟩; have HSZ := Aside0.mk ((HSX.out _).callz HN.out.1 HN.out.2.2 hf5 hz5); clear hz5 hf5)
    exact bodyPost_ret (v := .tuple #[.pointer (some ⟨z, 0, none⟩), .int .i64 16, .nilIface]) (by simp [results, Tryz.results147, go_sem]) rfl ⟨1, _, _, rfl, Or.inr ⟨HM.out.1, rfl⟩, by omega, by omega, HSZ.out⟩

theorem float_scan (s : ByteArray) (m L : Nat) (c x : Int) (te : TypeId) (pe : Value) (hF : ScansF s m L 16 c te pe) (hE : ScansE s L x 2 te pe) (hi : 0 < s.size) (hs : s.size ≤ 1000000) (h43 : (s[0]'hi).toNat ≠ 43) (h45 : (s[0]'hi).toNat ≠ 45)
    (hm : m < 18446744073709551616) (hc1 : -20 ≤ c) (hc2 : c ≤ 0) (hx1 : -1000 ≤ x) (hx2 : x ≤ 1000)
    (z r : Nat) (w : World) (hzr : z ≠ r) (hr1 : r ≠ 1) (hz1 : z ≠ 1) (hr : Rd w r s 0) (hz : Fz w z 0 (.slice none 0 0) 0) (hv : w.cell? ⟨1, 0, none⟩ = some (.iface te pe)) :
    Calls Tryz.prog 147 #[.pointer (some ⟨z, 0, none⟩), .iface 133 (.pointer (some ⟨r, 0, none⟩)), .int .i64 0] w (FlRes s m z r te pe w) := by
  rcases Nat.eq_zero_or_pos m with rfl | h0
  · exact float_scan0 s L c x te pe hF hE hi hs h43 h45 z r w hzr hr1 hz1 hr hz hv
  · exact float_scan1 s m L c x te pe hF hE hi hs h43 h45 h0 hm hc1 hc2 hx1 hx2 z r w hzr hr1 hz1 hr hz hv

/-- What Float.Parse and Float.SetString leave of the Float z. -/
def FlNum (m z : Nat) (w w' : World) : Prop :=
  ∃ (f x' : Int) (v : Value), ((m = 0 ∧ f = 0 ∧ x' = 0) ∨ (0 < m ∧ f = 1)) ∧ -4000 ≤ x' ∧ x' ≤ 4000 ∧ Fz w' z f v x' ∧ Fr (fun k => k = z) w w'

set_option maxHeartbeats 4000000 in
set_option maxRecDepth 1000000 in
theorem float_parse (s : ByteArray) (m L : Nat) (c x : Int) (te : TypeId) (pe : Value) (hF : ScansF s m L 16 c te pe) (hE : ScansE s L x 2 te pe) (hi : 6 ≤ s.size) (hs : s.size ≤ 1000000) (h43 : (s[0]'(by omega)).toNat ≠ 43) (h45 : (s[0]'(by omega)).toNat ≠ 45)
    (hm : m < 18446744073709551616) (hc1 : -20 ≤ c) (hc2 : c ≤ 0) (hx1 : -1000 ≤ x) (hx2 : x ≤ 1000)
    (hq : ∀ W, (binOp .neq 85 (.iface te pe) (.iface te pe)).run Tryz.prog W = .ok (.bool false) W)
    (z : Nat) (w : World) (hz1 : z ≠ 1) (hz : Fz w z 0 (.slice none 0 0) 0) (hv : w.cell? ⟨1, 0, none⟩ = some (.iface te pe)) :
    Calls Tryz.prog 105 #[.pointer (some ⟨z, 0, none⟩), .string s, .int .i64 0] w fun e w' => e = .returned (.tuple #[.pointer (some ⟨z, 0, none⟩), .int .i64 16, .nilIface]) ∧ FlNum m z w w' := by
  have h1 := World.block_lt_of_cell? w _ hv
  have hA : Fr (fun _ => False) w (w.alloc (.cells #[.string s, .int .i64 0, .int .i64 (-1)] 189)) := (Fr.refl _ _).alloc _
  have HSC := Aside0.mk (float_scan s m L c x te pe hF hE (by omega) hs h43 h45 hm hc1 hc2 hx1 hx2 z w.heap.size (w.alloc (.cells #[.string s, .int .i64 0, .int .i64 (-1)] 189)) (by have := hz.lt; omega) (by simp at h1; omega) hz1 ⟨-1, heap_alloc_new w _⟩ (hz.far hA (fun h => h)) (hA.cellv hv (fun h => h)))
  have HA := Aside0.mk hA
  have HL := Aside0.mk (And.intro hz.lt (And.intro h1 hz1))
  have g3 : ((s.size : Int) == 3) = false := beq_false_of_ne (by omega)
  have g4 : ((s.size : Int) == 4) = false := beq_false_of_ne (by omega)
  clear hF hE h43 h45 hm hc1 hc2 hx1 hx2 hz hv h1 hA hz1
  go_enter Tryz.func105, Tryz.ntmps105
  go_wp2_with (first | (go_at_call 147; go_must (refine HSC.out.mono ?_); rintro e w1 ⟨f, x', v, rfl, hf, hx1, hx2, hst⟩; have HX := Aside0.mk (And.intro hf (And.intro hx1 hx2)); have HST := Aside0.mk hst; clear hf hx1 hx2 hst) | (go_at_call 110; go_must (refine (readByte_end w.heap.size s s.size (Nat.le_refl _) _ (.iface te pe) HST.out.2.1 HST.out.2.2.1).mono ?_); rintro e w2 ⟨rfl, hr2, hf2⟩; have HF2 := Aside0.mk hf2; have d2 := hf2.cellv HST.out.2.2.1 (fun h => by have := HL.out.2.1; simp at h this; omega); clear hr2 hf2) | go_in)
  exact bodyPost_ret (v := .tuple #[.pointer (some ⟨z, 0, none⟩), .int .i64 16, .nilIface]) (by simp [results, Tryz.results105, go_sem]) rfl ⟨rfl, f, x', v, HX.out.1, HX.out.2.1, HX.out.2.2, HST.out.1.far HF2.out (by have := HL.out.1; show ¬ z = w.heap.size; omega), (HA.out.mono (S' := fun k => k = z) (fun _ h => h.elim)).call (HST.out.2.2.2.trans (HF2.out.mono (fun k hk => Or.inl hk))) (fun k hk => hk.elim (fun h => Or.inr (by omega)) Or.inl)⟩

set_option maxHeartbeats 4000000 in
set_option maxRecDepth 1000000 in
theorem float_set (s : ByteArray) (m L : Nat) (c x : Int) (te : TypeId) (pe : Value) (hF : ScansF s m L 16 c te pe) (hE : ScansE s L x 2 te pe) (hi : 6 ≤ s.size) (hs : s.size ≤ 1000000) (h43 : (s[0]'(by omega)).toNat ≠ 43) (h45 : (s[0]'(by omega)).toNat ≠ 45)
    (hm : m < 18446744073709551616) (hc1 : -20 ≤ c) (hc2 : c ≤ 0) (hx1 : -1000 ≤ x) (hx2 : x ≤ 1000)
    (hq : ∀ W, (binOp .neq 85 (.iface te pe) (.iface te pe)).run Tryz.prog W = .ok (.bool false) W)
    (z : Nat) (w : World) (hz1 : z ≠ 1) (hz : Fz w z 0 (.slice none 0 0) 0) (hv : w.cell? ⟨1, 0, none⟩ = some (.iface te pe)) :
    Calls Tryz.prog 69 #[.pointer (some ⟨z, 0, none⟩), .string s] w fun e w' => e = .returned (.tuple #[.pointer (some ⟨z, 0, none⟩), .bool true]) ∧ FlNum m z w w' := by
  have HP := Aside0.mk (float_parse s m L c x te pe hF hE hi hs h43 h45 hm hc1 hc2 hx1 hx2 hq z w hz1 hz hv)
  clear hF hE h43 h45 hm hc1 hc2 hx1 hx2 hz hv hz1
  go_enter Tryz.func69, Tryz.ntmps69
  go_wp2_with (go_at_call 105; go_must (refine HP.out.mono ?_); rintro e w1 ⟨rfl, h1⟩; have H1 := Aside0.mk h1; clear h1)
  exact bodyPost_ret (v := .tuple #[.pointer (some ⟨z, 0, none⟩), .bool true]) (by simp [results, Tryz.results69, go_sem]) rfl ⟨rfl, H1.out⟩
end Go.Proofs.YtgpoplfgngiilaaGreatDoor
namespace Go.Proofs.YtgpoplfgngiilaaGreatDoor
set_option linter.unusedVariables false
set_option linter.unusedSimpArgs false
open Go.RowKit Go.Proofs.YtgpoplfgngiilaaGreatDoorW.PrintWords
attribute [local go_sem] me_read me_unread

def ZRel (te : TypeId) (pe : Value) (w : World) (v0 v3 v10 v11 v13 v14 v15 v20 v21 v22 : Value) (w' : World) : Prop :=
  v0 = .slice none 0 0 ∧ v3 = .bool true ∧ v10 = .int .i64 1 ∧ v11 = .iface te pe ∧ v13 = .int .i32 48 ∧ v14 = .bool false ∧ v15 = .int .u8 0 ∧ v20 = .int .u64 0 ∧ v21 = .int .i64 0 ∧ v22 = .int .i64 (-1) ∧ w = w'

set_option maxHeartbeats 4000000 in
set_option maxRecDepth 1000000 in
theorem scan_zero (s : ByteArray) (hs : s.size = 1) (h0 : (s[0]'(by omega)).toNat = 48) (te : TypeId) (pe : Value) (hq : ∀ W, (binOp .eql 85 (.iface te pe) (.iface te pe)).run Tryz.prog W = .ok (.bool true) W) (r : Nat) (w : World) (hr : Rd w r s 0) (hE : w.cell? ⟨1, 0, none⟩ = some (.iface te pe)) (hr1 : r ≠ 1) :
    Calls Tryz.prog 109 #[.slice none 0 0, .iface 133 (.pointer (some ⟨r, 0, none⟩)), .int .i64 0, .bool true] w fun e w' => e = .returned (.tuple #[.slice none 0 0, .int .i64 10, .int .i64 1, .nilIface]) ∧ Rd w' r s 1 ∧ Fr (fun k => k = r) w w' := by
  obtain ⟨hi0, H0⟩ : ∃ hi : 0 < s.size, ((s[0]'hi).toNat : Int) = 48 := ⟨by omega, by omega⟩
  have HR := Aside0.mk hr
  have HE := Aside0.mk hE
  have HN := Aside0.mk (And.intro hr1 hs)
  clear hr hE hr1 h0 hs
  go_enter Tryz.func109, Tryz.ntmps109
  go_wp2_with (first | (go_at_call 110; (refine (readByte_in r s 0 (by have := HN.out.2; omega) (by have := HN.out.2; omega) _ HR.out).mono ?_); rintro e w1 ⟨rfl, hr1, hf1⟩; rw [H0]; have HR1 := Aside0.mk hr1; have HF1 := Aside0.mk hf1; clear hr1 hf1) | (go_at_call 110; (refine (readByte_end r s 1 (by have := HN.out.2; omega) _ (.iface te pe) HR1.out (HF1.out.cellv HE.out (fun h => HN.out.1 h.symm))).mono ?_); rintro e w2 ⟨rfl, hr2, hf2⟩; have HR2 := Aside0.mk hr2; have HF2 := Aside0.mk (HF1.out.trans hf2); have d2 := Aside0.mk (hf2.cellv (HF1.out.cellv HE.out (fun h => HN.out.1 h.symm)) (fun h => HN.out.1 h.symm)); clear hr2 hf2) | (go_at_call 149; go_must (refine (maxPow_10 _).mono ?_); rintro e w' ⟨rfl, rfl⟩))
  go_loopg [0, 3, 10, 11, 13, 14, 15, 20, 21, 22] 0 (fun kq v0 v3 v10 v11 v13 v14 v15 v20 v21 v22 w' => ZRel te pe w2 v0 v3 v10 v11 v13 v14 v15 v20 v21 v22 w')
  case atStart => exact ⟨rfl, rfl, rfl, rfl, rfl, rfl, rfl, rfl, rfl, rfl, rfl⟩
  case round =>
    obtain ⟨rfl, rfl, rfl, rfl, rfl, rfl, rfl, rfl, rfl, rfl, rfl⟩ := hrel
    have d2' := d2.out
    go_wp2_with fail
    exact bodyPost_ret (v := .tuple #[.slice none 0 0, .int .i64 10, .int .i64 1, .nilIface]) (by simp [results, Tryz.results109, go_sem]) rfl ⟨rfl, HR2.out, HF2.out⟩

set_option maxHeartbeats 4000000 in
set_option maxRecDepth 1000000 in
theorem scanE_end (s : ByteArray) (te : TypeId) (pe : Value) (hq : ∀ W, (binOp .eql 85 (.iface te pe) (.iface te pe)).run Tryz.prog W = .ok (.bool true) W) (r : Nat) (w : World) (hr : Rd w r s s.size) (hE : w.cell? ⟨1, 0, none⟩ = some (.iface te pe)) (hr1 : r ≠ 1) :
    Calls Tryz.prog 112 #[.iface 133 (.pointer (some ⟨r, 0, none⟩)), .bool true, .bool true] w fun e w' => e = .returned (.tuple #[.int .i64 0, .int .i64 10, .nilIface]) ∧ Rd w' r s s.size ∧ Fr (fun k => k = r) w w' := by
  have HR := Aside0.mk hr
  have HE := Aside0.mk hE
  have HN := Aside0.mk hr1
  clear hr hE hr1
  go_enter Tryz.func112, Tryz.ntmps112
  go_wp2_with (go_at_call 110; (refine (readByte_end r s s.size (Nat.le_refl _) _ (.iface te pe) HR.out HE.out).mono ?_); rintro e w2 ⟨rfl, hr2, hf2⟩; have HR2 := Aside0.mk hr2; have HF2 := Aside0.mk hf2; have d2 := hf2.cellv HE.out (fun h => HN.out h.symm); clear hr2 hf2)
  exact bodyPost_ret (v := .tuple #[.int .i64 0, .int .i64 10, .nilIface]) (by simp [results, Tryz.results112, go_sem]) rfl ⟨rfl, HR2.out, HF2.out⟩
end Go.Proofs.YtgpoplfgngiilaaGreatDoor
namespace Go.Proofs.YtgpoplfgngiilaaGreatDoor
set_option linter.unusedVariables false
set_option linter.unusedSimpArgs false
open Go.RowKit Go.Proofs.YtgpoplfgngiilaaGreatDoorW.PrintWords Go.Proofs.YtgpoplfgngiilaaGreatDoorW.PrintLast Go.Proofs.YtgpoplfgngiilaaGreatDoorW.PrintMore

theorem ext_one (s : ByteArray) (i : Nat) (h : i < s.size) : (s.extract i (i + 1)).data.toList = [s[i]'h] := by
  rw [ByteArray.data_extract, Array.toList_extract]
  have hl : i < s.data.toList.length := by simpa using h
  rw [List.extract_eq_take_drop, List.drop_eq_getElem_cons hl]
  simp
  rfl

theorem zz_none (s : ByteArray) (hs : s.size ≤ 1000) (h : ∀ (j : Nat) (hj : j < s.size), (s[j]'hj).toNat ≠ 47) : ∀ (k i : Nat), s.size + 1 ≤ i + k → i ≤ s.size → Pr.bigall_zzIndex.l0 k s ⟨#[47]⟩ (i : Int) = some (-1)
  | 0, i, h1, h2 => by omega
  | k + 1, i, h1, h2 => by
    have hsz : (⟨#[47]⟩ : ByteArray).size = 1 := rfl
    have hw : wrap64 ((i : Int) + ((⟨#[47]⟩ : ByteArray).size : Int)) = ((i + 1 : Nat) : Int) := by rw [hsz]; unfold wrap64; omega
    have hw2 : wrap64 ((i : Int) + 1) = ((i + 1 : Nat) : Int) := by unfold wrap64; omega
    rw [Pr.bigall_zzIndex.l0, hw, hw2]
    by_cases hi : i < s.size
    · rw [if_pos (by omega), if_pos (by omega), if_pos (by omega), Int.toNat_natCast, Int.toNat_natCast, if_neg, zz_none s hs h k (i + 1) (by omega) (by omega)]
      rw [Lib.toList_data, Lib.toList_data, ext_one s i hi]
      intro he
      have : s[i]'hi = 47 := by simpa using he
      exact h i hi (by rw [this]; rfl)
    · rw [if_neg (by omega)]

theorem zz_calls (s : ByteArray) (hs : s.size ≤ 1000) (h : ∀ (j : Nat) (hj : j < s.size), (s[j]'hj).toNat ≠ 47) (w : World) :
    Calls Tryz.prog 108 #[.string s, .string ⟨#[47]⟩] w fun e w' => e = .returned (.int .i64 (-1)) ∧ ∃ n, w' = w.drewN n := by
  refine (Pr.bigall_zzIndex.calls (s.size + 1) s ⟨#[47]⟩ (-1) w (zz_none s hs h (s.size + 1) 0 (by omega) (by omega))).mono ?_
  rintro e w' ⟨rfl, n, hn⟩
  exact ⟨rfl, n, hn⟩

/-- nat.lsh of one word by a number above 0. -/
theorem lsh_int (g X : Nat) (y : Int) (v : Value) (w : World) (h : NW w g v X) (hX0 : 0 < X) (hX : X < 18446744073709551616) (hs0 : 0 < y) (hs : y ≤ 5000) :
    Calls Tryz.prog 93 #[v, v, .int .u64 y] w fun e w' => ∃ v' gz, e = .returned v' ∧ (gz = g ∨ w.heap.size ≤ gz) ∧ NW w' gz v' (X * 2 ^ y.toNat) ∧ Fr (fun k => k = g) w w' := by
  have := nat_lsh g X y.toNat v w h hX0 hX (by omega) (by omega)
  rwa [show ((y.toNat : Nat) : Int) = y by omega] at this

/-- The Rat z and the Reader r, in W behind w. -/
def RSt (s : ByteArray) (r i z : Nat) (u v : Value) (te : TypeId) (pe : Value) (w W : World) : Prop :=
  Rz W z u v ∧ Rd W r s i ∧ W.cell? ⟨1, 0, none⟩ = some (.iface te pe) ∧ Fr (fun k => k = r ∨ k = z) w W
theorem RSt.call {s : ByteArray} {r i i' z : Nat} {u v : Value} {te : TypeId} {pe : Value} {w W W' : World} (h : RSt s r i z u v te pe w W) (hzr : z ≠ r) (hr1 : r ≠ 1) (hf : Fr (fun k => k = r) W W') (hr : Rd W' r s i') :
    RSt s r i' z u v te pe w W' :=
  ⟨h.1.far hf hzr, hr, hf.cellv h.2.2.1 (fun e => hr1 e.symm), h.2.2.2.trans (hf.mono (fun k hk => Or.inl hk))⟩
theorem RSt.callz {s : ByteArray} {r i z : Nat} {u v u' v' : Value} {te : TypeId} {pe : Value} {w W W' : World} (h : RSt s r i z u v te pe w W) (hzr : z ≠ r) (hz1 : z ≠ 1) (hf : Fr (fun k => k = z) W W') (hz : Rz W' z u' v') :
    RSt s r i z u' v' te pe w W' :=
  ⟨hz, h.2.1.far hf (fun e => hzr e.symm), hf.cellv h.2.2.1 (fun e => hz1 e.symm), h.2.2.2.trans (hf.mono (fun k hk => Or.inr hk))⟩
theorem RSt.put1 {s : ByteArray} {r i z : Nat} {u v : Value} {te : TypeId} {pe : Value} {w W : World} (h : RSt s r i z u v te pe w W) (hzr : z ≠ r) (hz1 : z ≠ 1) (x : Value) :
    RSt s r i z x v te pe w (W.setCell ⟨z, 1, none⟩ x) := h.callz hzr hz1 (fr_put1 (S := fun k => k = z) (Fr.refl _ W) rfl 1 x) (h.1.set1 x)
theorem RSt.call0 {s : ByteArray} {r i z : Nat} {u v : Value} {te : TypeId} {pe : Value} {w W W' : World} (h : RSt s r i z u v te pe w W) (hf : Fr (fun _ => False) W W') :
    RSt s r i z u v te pe w W' :=
  ⟨h.1.far hf (fun h => h), h.2.1.far hf (fun h => h), hf.cellv h.2.2.1 (fun h => h), h.2.2.2.trans (hf.mono (fun _ h => h.elim))⟩

set_option maxHeartbeats 2000000 in
set_option maxRecDepth 1000000 in
theorem new_rat (w : World) : Calls Tryz.prog 72 #[] w fun e w' => e = .returned (.pointer (some ⟨w.heap.size, 0, none⟩)) ∧ Rz w' w.heap.size (.slice none 0 0) (.slice none 0 0) ∧ Fr (fun _ => False) w w' := by
  go_enter Tryz.func72, Tryz.ntmps72
  go_wp2_with fail
  go_ret
  exact ⟨rfl, heap_alloc_new w _, (Fr.refl _ _).alloc _⟩

set_option maxHeartbeats 2000000 in
set_option maxRecDepth 1000000 in
theorem new_reader (s : ByteArray) (r : Nat) (W : World) (hr : W.heap.size = r) : Calls Tryz.prog 67 #[.string s] W fun e w' => e = .returned (.pointer (some ⟨r, 0, none⟩)) ∧ Rd w' r s 0 ∧ Fr (fun _ => False) W w' := by
  subst hr
  go_enter Tryz.func67, Tryz.ntmps67
  go_wp2_with fail
  go_ret
  exact ⟨rfl, ⟨-1, heap_alloc_new W _⟩, (Fr.refl _ _).alloc _⟩

set_option maxHeartbeats 4000000 in
set_option maxRecDepth 1000000 in
/-- Rat.SetString of the text 0. -/
theorem rat_set0 (s : ByteArray) (hs : s.size = 1) (h0 : (s[0]'(by omega)).toNat = 48) (te : TypeId) (pe : Value) (hq : ∀ W, (binOp .eql 85 (.iface te pe) (.iface te pe)).run Tryz.prog W = .ok (.bool true) W) (hq2 : ∀ W, (binOp .neq 85 (.iface te pe) (.iface te pe)).run Tryz.prog W = .ok (.bool false) W)
    (z : Nat) (w : World) (hz1 : z ≠ 1) (hz : Rz w z (.slice none 0 0) (.slice none 0 0)) (hE : w.cell? ⟨1, 0, none⟩ = some (.iface te pe)) :
    Calls Tryz.prog 73 #[.pointer (some ⟨z, 0, none⟩), .string s] w fun e w' => ∃ v' g, e = .returned (.tuple #[.pointer (some ⟨z, 0, none⟩), .bool true]) ∧ Rz w' z (.slice none 0 0) v' ∧ w.heap.size ≤ g ∧ NW w' g v' 1 ∧ Fr (fun k => k = z) w w' := by
  have h1 := World.block_lt_of_cell? w _ hE
  have HZZ := Aside0.mk (fun W => zz_calls s (by omega) (fun j hj => by obtain rfl : j = 0 := by omega
                                                                        omega) W)
  have HSC := Aside0.mk (fun r W hr hE hr1 => scan_zero s hs h0 te pe hq r W hr hE hr1)
  have HSE := Aside0.mk (fun r W hr hE hr1 => scanE_end s te pe hq r W hr hE hr1)
  have HSS := Aside0.mk (fun r W hr => scanSign_none r s (by omega) (by omega) (by omega) (by omega) W hr)
  have HL := Aside0.mk (And.intro hz.lt (And.intro h1 hz1))
  have HZ := Aside0.mk (And.intro hz hE)
  have hsp : ((s.size : Int) == 0) = false := beq_false_of_ne (by omega)
  have HS := Aside0.mk hs
  clear hz hE h1 h0 hs hz1
  go_enter_defers Tryz.func73, Tryz.ntmps73
  go_wp2_with (first
    | (go_at_call 108; go_must (refine (HZZ.out _).mono ?_); rintro e w1 ⟨rfl, nd, rfl⟩)
    | (go_at_call 67; go_must (refine (new_reader s w.heap.size (w.drewN nd) rfl).mono ?_); rintro e w2 ⟨rfl, hr2, hf2⟩; have HR0 := Aside0.mk (show RSt s w.heap.size 0 z (.slice none 0 0) (.slice none 0 0) te pe w w2 from ⟨HZ.out.1.far (((Fr.refl (fun _ => False) w).drewN nd).trans hf2) (fun h => h), hr2, (((Fr.refl (fun _ => False) w).drewN nd).trans hf2).cellv HZ.out.2 (fun h => h), (((Fr.refl (fun _ => False) w).drewN nd).trans hf2).mono (fun _ h => h.elim)⟩); clear hr2 hf2)
    | (go_at_call 111; go_must (refine (HSS.out w.heap.size _ HR0.out.2.1).mono ?_); rintro e w3 ⟨rfl, hr3, hf3⟩; have HR1 := Aside0.mk (HR0.out.call (by have := HL.out; omega) (by have := HL.out; omega) hf3 hr3); clear hr3 hf3; have z1 := HR1.out.1.c1)
    | (go_at_call 109; go_must (refine (HSC.out w.heap.size _ HR1.out.2.1 HR1.out.2.2.1 (by have := HL.out; omega)).mono ?_); rintro e w4 ⟨rfl, hr4, hf4⟩; have HR2 := Aside0.mk (HR1.out.call (by have := HL.out; omega) (by have := HL.out; omega) hf4 (show Rd w4 w.heap.size s s.size by rw [HS.out]; exact hr4)); have HR3 := Aside0.mk (HR2.out.put1 (by have := HL.out; omega) (by have := HL.out; omega) (.slice none 0 0)); clear hr4 hf4 z1; have z1 := HR2.out.1.c1; have f1 := HR2.out.1.f 1)
    | (go_at_call 112; go_must (refine (HSE.out w.heap.size _ HR3.out.2.1 HR3.out.2.2.1 (by have := HL.out; omega)).mono ?_); rintro e w5 ⟨rfl, hr5, hf5⟩; have HR4 := Aside0.mk (HR3.out.call (by have := HL.out; omega) (by have := HL.out; omega) hf5 hr5); clear hr5 hf5 z1 f1)
    | (go_at_call 110; go_must (refine (readByte_end w.heap.size s s.size (Nat.le_refl _) _ (.iface te pe) HR4.out.2.1 HR4.out.2.2.1).mono ?_); rintro e w6 ⟨rfl, hr6, hf6⟩; have HR5 := Aside0.mk (HR4.out.call (by have := HL.out; omega) (by have := HL.out; omega) hf6 hr6); clear hr6 hf6; have z1 := HR5.out.1.c1; have d1 := HR5.out.2.2.1)
    | (go_at_call 95; go_must (refine (rat_norm0 z 0 none _ HR5.out.1).mono ?_); rintro e w7 ⟨v7, g7, rfl, h1, h2, h3, h4⟩; have H1 := Aside0.mk h1; have H2 := Aside0.mk h2; have H3 := Aside0.mk h3; have H4 := Aside0.mk h4; clear h1 h2 h3 h4))
  refine ⟨.tuple #[.pointer (some ⟨z, 0, none⟩), .bool true], by simp [results, Tryz.results73, go_sem], ?_⟩
  refine ⟨v7, g7, rfl, H1.out, Nat.le_trans HR5.out.2.2.2.size H2.out, H3.out, ?_⟩
  exact (HR5.out.2.2.2.trans (H4.out.mono (fun k hk => Or.inr hk)) |> fun h => ⟨h.os, h.tape, h.output, h.size, fun k hk hn => h.block k hk (fun h => h.elim (fun h => by omega) hn)⟩)
end Go.Proofs.YtgpoplfgngiilaaGreatDoor
namespace Go.Proofs.YtgpoplfgngiilaaGreatDoor
set_option linter.unusedVariables false
set_option linter.unusedSimpArgs false
open Go.RowKit

/-- An exponent's part above 0, and its part below. -/
def up (x : Int) : Nat := x.toNat
def dn (x : Int) : Nat := (-x).toNat

/-- The machine's fraction and the law's have the same lowest terms. -/
theorem hex_low (m p : Nat) (x : Int) :
    lowN (m * lowN (1 * 2 ^ up x) (16 ^ p * 2 ^ dn x)) (1 * lowD (1 * 2 ^ up x) (16 ^ p * 2 ^ dn x)) = lowN (m * 2 ^ up (x - 4 * p)) (2 ^ dn (x - 4 * p)) ∧
    lowD (m * lowN (1 * 2 ^ up x) (16 ^ p * 2 ^ dn x)) (1 * lowD (1 * 2 ^ up x) (16 ^ p * 2 ^ dn x)) = lowD (m * 2 ^ up (x - 4 * p)) (2 ^ dn (x - 4 * p)) := by
  have hB : 0 < 16 ^ p * 2 ^ dn x := Nat.mul_pos (Nat.pow_pos (by decide)) (Nat.pow_pos (by decide))
  obtain ⟨h1, h2⟩ := low_times (a := 1 * 2 ^ up x) (c := m) hB (show 0 < 1 by decide)
  rw [h1, h2]
  refine low_eq (by rw [Nat.one_mul]; exact hB) (Nat.pow_pos (by decide)) ?_
  have h16 : (16 : Nat) ^ p = 2 ^ (4 * p) := by rw [Nat.pow_mul]
  rw [h16, Nat.one_mul, Nat.one_mul, Nat.mul_assoc, Nat.mul_assoc, ← Nat.pow_add, ← Nat.pow_add, ← Nat.pow_add]
  congr 2
  unfold up dn
  omega

theorem lits_small (k n : Nat) (h : n < 18446744073709551616 ^ k) : (lits 18446744073709551616 n).length ≤ k := (lits_figs 18446744073709551616 k n (by decide) h).2
end Go.Proofs.YtgpoplfgngiilaaGreatDoor
namespace Go.Proofs.YtgpoplfgngiilaaGreatDoor
open Go.RowKit Go.Proofs.YtgpoplfgngiilaaGreatDoorW.PrintWords Go.Proofs.YtgpoplfgngiilaaGreatDoorW.PrintMore

/-- The bytes of a rune. -/
def enc (r : Nat) : List Nat :=
  if r < 128 then [r] else if r < 2048 then [192 + r / 64, 128 + r % 64]
  else if r < 65536 then [224 + r / 4096, 128 + r / 64 % 64, 128 + r % 64]
  else [240 + r / 262144, 128 + r / 4096 % 64, 128 + r / 64 % 64, 128 + r % 64]
end Go.Proofs.YtgpoplfgngiilaaGreatDoor
namespace Go.Proofs.YtgpoplfgngiilaaGreatDoor
open Go.RowKit Go.Proofs.YtgpoplfgngiilaaGreatDoorW.PrintWords Go.Proofs.YtgpoplfgngiilaaGreatDoorW.PrintLast Go.Proofs.YtgpoplfgngiilaaGreatDoorW.PrintMore

theorem bstr_mid (a l b : List UInt8) (m n : Nat) (hm : m = a.length) (hn : n = a.length + l.length) : (bstr (a ++ l ++ b)).extract m n = bstr l := by
  subst hm; subst hn
  apply ByteArray.ext
  simp only [ByteArray.data_extract, bstr]
  apply Array.ext'
  simp [List.extract_eq_take_drop]
end Go.Proofs.YtgpoplfgngiilaaGreatDoor
namespace Go.Proofs.YtgpoplfgngiilaaGreatDoor
open Go.RowKit

theorem valL_lt_pow (b : Nat) (hb : 2 ≤ b) : ∀ xs : List Int, InR b xs → valL b xs < b ^ xs.length
  | [], _ => by simp [valL]
  | x :: xs, hR => by
    have hx := hR x (by simp)
    have ih := valL_lt_pow b hb xs (fun y hy => hR y (by simp [hy]))
    simp only [valL, List.length_cons, Nat.pow_succ]
    have h1 : (valL b xs + 1) * b ≤ b ^ xs.length * b := Nat.mul_le_mul_right b ih
    rw [Nat.add_mul, Nat.mul_comm (valL b xs) b] at h1
    omega
end Go.Proofs.YtgpoplfgngiilaaGreatDoor
