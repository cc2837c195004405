/- FnLiteralInt where the value is no integer, or too great a one, or below 0. -/
import Derived.Test.YtgpoplfgngiilaaGreatDoorQW
import Derived.Test.YtgpoplfgngiilaaGreatDoorQE
import Derived.Test.YtgpoplfgngiilaaGreatDoorQT
set_option linter.unusedVariables false
set_option linter.unusedSimpArgs false
namespace Go.Proofs.YtgpoplfgngiilaaGreatDoor
open Go.RowKit Go.Proofs.YtgpoplfgngiilaaGreatDoorW.PrintWords Go.Proofs.YtgpoplfgngiilaaGreatDoorW.PrintLast Go.Proofs.YtgpoplfgngiilaaGreatDoorW.PrintMore

theorem fits_some (a0 : Int) (a1 : Bool) (a2 : ByteArray) (a3 : Bool) (l4 l5 : List Int) (a6 : Bool) (l7 l8 : List Int) : ∃ r, Pr.laws_zzFits1.f a0 a1 a2 a3 l4 l5 a6 l7 l8 = some r := by
  unfold Pr.laws_zzFits1.f Pr.laws_zzFits2.f
  by_cases h1 : (a2.size : Int) > 2147483647
  · exact ⟨_, if_pos h1⟩
  rw [if_neg h1]
  by_cases h2 : (l4.length : Int) > 2147483647
  · rw [if_pos h2]; exact ⟨_, rfl⟩
  rw [if_neg h2, Option.bind_some, if_pos rfl]
  by_cases h3 : (l5.length : Int) > 2147483647
  · exact ⟨_, if_pos h3⟩
  rw [if_neg h3]
  by_cases h4 : (l7.length : Int) > 2147483647
  · rw [if_pos h4]; exact ⟨_, rfl⟩
  rw [if_neg h4, Option.bind_some, if_pos rfl]
  by_cases h5 : (l8.length : Int) > 2147483647
  · exact ⟨_, if_pos h5⟩
  · exact ⟨_, if_neg h5⟩

set_option maxHeartbeats 2000000 in
set_option maxRecDepth 100000 in
theorem int_skip (fits : Bool) (nb ok : Bool) (l : Option (List Int)) (hs : fits = true → ok = false ∨ nb = true) (kind : Int) (a1 : Bool) (a2 : ByteArray) (a3 : Bool) (A4 : Option Addr) (n4 c4 : Nat) (A5 : Option Addr) (n5 c5 : Nat) (a6 : Bool) (A7 : Option Addr) (n7 c7 : Nat) (A8 : Option Addr) (n8 c8 : Nat) (form : Int) (great split : Bool) (w : World)
    (hF : ∀ W, Below w.heap.size w W → Calls Tryz.prog 6 #[.agg #[.int .i64 kind, .bool a1, .string a2, .bool a3, .slice A4 n4 c4, .slice A5 n5 c5, .bool a6, .slice A7 n7 c7, .slice A8 n8 c8]] W fun e w' => e = .returned (.bool fits) ∧ Below W.heap.size W w')
    (hW : ∀ W, Below w.heap.size w W → Calls Tryz.prog 7 #[.agg #[.int .i64 kind, .bool a1, .string a2, .bool a3, .slice A4 n4 c4, .slice A5 n5 c5, .bool a6, .slice A7 n7 c7, .slice A8 n8 c8], .int .i64 10] W fun e w' => ∃ u v, e = .returned (.tuple #[.agg #[.bool nb, u, v], .bool ok]) ∧ Rt l W.heap.size w' u v ∧ Below W.heap.size W w') :
    Calls Tryz.prog 3 #[.agg #[.int .i64 kind, .bool a1, .string a2, .bool a3, .slice A4 n4 c4, .slice A5 n5 c5, .bool a6, .slice A7 n7 c7, .slice A8 n8 c8], .int .u8 form, .bool great, .bool split] w fun e w' => e = .returned (.bool true) ∧ Below w.heap.size w w' := by
  have HB0 := Aside0.mk (show Below w.heap.size w (w.alloc (Obj.cells #[.int .i64 kind, .bool a1, .string a2, .bool a3, .slice A4 n4 c4, .slice A5 n5 c5, .bool a6, .slice A7 n7 c7, .slice A8 n8 c8] 26)) from (Below.refl w.heap.size w).alloc (Nat.le_refl _) _)
  have HF := Aside0.mk hF
  have HW := Aside0.mk hW
  clear hF hW
  cases fits
  · clear hs
    go_enter Tryz.func3, Tryz.ntmps3
    go_wp2_with (go_at_call 6; go_must (refine (HF.out _ HB0.out).mono ?_); rintro e w1 ⟨rfl, hb1⟩; have HB1 := Aside0.mk (HB0.out.trans (hb1.mono HB0.out.size)); clear hb1)
    go_ret
    exact ⟨rfl, HB1.out⟩
  · have arm : (ok = false) ∨ (ok = true ∧ nb = true) := by
      cases ok
      · exact Or.inl rfl
      · exact Or.inr ⟨rfl, (hs rfl).resolve_left (by decide)⟩
    clear hs
    rcases arm with rfl | ⟨rfl, rfl⟩
    all_goals
      go_enter Tryz.func3, Tryz.ntmps3
      go_wp2_with (first | (go_at_call 6; go_must (refine (HF.out _ HB0.out).mono ?_); rintro e w1 ⟨rfl, hb1⟩; have HB1 := Aside0.mk (HB0.out.trans (hb1.mono HB0.out.size)); have g0 : ∀ i, w1.cell? ⟨w.heap.size, i, none⟩ = (#[Value.int .i64 kind, .bool a1, .string a2, .bool a3, .slice A4 n4 c4, .slice A5 n5 c5, .bool a6, .slice A7 n7 c7, .slice A8 n8 c8])[i]? := (fun i => ((bcell hb1).1 w.heap.size i (by simp)).trans (World.cell?_alloc_at _ _ _ _ rfl)); have e0 := g0 0; have e1 := g0 1; have e2 := g0 2; have e3 := g0 3; have e4 := g0 4; have e5 := g0 5; have e6 := g0 6; have e7 := g0 7; have e8 := g0 8; clear hb1 g0) | (go_at_call 7; go_must (refine (HW.out _ HB1.out).mono ?_); rintro e w2 ⟨u, v, rfl, hU, hb2⟩; obtain ⟨⟨Au, nu, cu, rfl⟩, ⟨Av, nv, cv, rfl⟩⟩ := hU.slices; have HB2 := Aside0.mk (HB1.out.trans (hb2.mono HB1.out.size)); clear hU hb2))
      go_ret
      exact ⟨rfl, HB2.out.alloc HB2.out.size _⟩

theorem us_f (on : Bool) (t : List UInt8) (ht : t.length ≤ 100000) : Pr.laws_underscored.f (bstr t) on = some (bstr (us on t)) := by
  unfold Pr.laws_underscored.f
  cases on with
  | false => rw [if_neg (by decide)]; rfl
  | true =>
    rw [if_pos rfl, bstr_size]
    match t, ht with
    | [], _ => rw [if_pos (by decide)]; rfl
    | [c], _ => rw [if_pos (by simp)]; rfl
    | c :: d :: r, ht =>
      have e1 : (bstr (c :: d :: r)).extract 0 1 = bstr [c] := bstr_mid [] [c] (d :: r) 0 1 rfl rfl
      have e2 : (bstr (c :: d :: r)).extract 1 (c :: d :: r).length = bstr (d :: r) := bstr_extract [c] (d :: r) 1 _ rfl (by simp only [List.length_cons, List.length_nil]; omega)
      have e3 : (⟨#[95]⟩ : ByteArray) = bstr [95] := rfl
      simp only [List.length_cons] at ht
      rw [if_neg (by simp only [List.length_cons]; omega), if_pos (by decide), if_pos (by simp only [List.length_cons]; omega), e1, e2, e3, bstr_append, bstr_append, bstr_size, bstr_size, bstr_size]
      rw [if_pos (by simp), if_pos (by simp only [List.length_cons, List.length_append, List.length_nil]; omega)]
      rfl

/-- What IsInt asks, at a number of ten words. -/
theorem isInt_big (V : Nat) (h : V < 18446744073709551616 ^ 10) : Pr.spec_Of.f 2000 (lits 18446744073709551616 V) = some (lits 65536 V) ∧ Pr.spec_HasWords.f 2000 (lits 18446744073709551616 V) (lits 65536 V) = some true ∧ Pr.spec_same.f 2000 false (lits 65536 V) [1] false (lits 65536 V) [1] = some true := by
  obtain ⟨hl, hl2⟩ := digits_len V h
  refine ⟨?_, ?_, ?_⟩
  · have h1 := of_f (lits 18446744073709551616 V) (InR_lits _ (by decide) V) (by omega) 2000 (by omega)
    rw [valL_lits _ (by decide)] at h1
    exact h1
  · obtain ⟨b, h1, h2⟩ := hasWords_f (lits 18446744073709551616 V) V (by omega) (by omega) 2000 (by omega)
    rw [h1, h2.2 rfl]
  · exact same_f false _ _ (by omega) (by simp) 2000 (by omega) (by simp)

theorem anyBase {α : Type} {d : Kd α} {e base base' : Nat} {w : World} {ok : Nat → Prop} {v : Value} {xs : List α} (h : Kd.V d e w base ok v xs) : Kd.V d e w base' ok v xs := h

theorem keepR {W0 W1 : World} {g : Nat} {x0 x1 x2 : Value} (hb : Below W0.heap.size W0 W1) (hg : g < W0.heap.size) (d0 : W0.cell? ⟨g, 0, none⟩ = some x0) (d1 : W0.cell? ⟨g, 1, none⟩ = some x1) (d2 : W0.cell? ⟨g, 2, none⟩ = some x2) :
    W1.cell? ⟨g, 0, none⟩ = some x0 ∧ W1.cell? ⟨g, 1, none⟩ = some x1 ∧ W1.cell? ⟨g, 2, none⟩ = some x2 ∧ Below W0.heap.size W0 W1 := ⟨(hb.cell hg).trans d0, (hb.cell hg).trans d1, (hb.cell hg).trans d2, hb⟩
end Go.Proofs.YtgpoplfgngiilaaGreatDoor
