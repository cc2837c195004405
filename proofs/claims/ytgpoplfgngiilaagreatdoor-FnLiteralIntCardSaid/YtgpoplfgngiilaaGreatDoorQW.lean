/- laws.whole of any value: what the law goes on with. -/
import Derived.Test.YtgpoplfgngiilaaGreatDoorQV
import Derived.Test.YtgpoplfgngiilaaGreatDoorQM
import Derived.Test.YtgpoplfgngiilaaGreatDoorQD
set_option linter.unusedVariables false
set_option linter.unusedSimpArgs false
namespace Go.Proofs.YtgpoplfgngiilaaGreatDoor
open Go.RowKit Go.Proofs.YtgpoplfgngiilaaGreatDoorW.PrintWords Go.Proofs.YtgpoplfgngiilaaGreatDoorW.PrintLast Go.Proofs.YtgpoplfgngiilaaGreatDoorW.PrintMore

set_option maxHeartbeats 2000000 in
set_option maxRecDepth 100000 in
/-- spec.Integer of a value of another kind. -/
theorem integer_other (kind : Int) (hk : kind ≠ 3) (a1 : Bool) (a2 : ByteArray) (a3 : Bool) (a4 a5 : Value) (a6 : Bool) (a7 a8 : Value) (w : World) (h4 : ∃ A n c, a4 = .slice A n c) (h5 : ∃ A n c, a5 = .slice A n c) (h7 : ∃ A n c, a7 = .slice A n c) (h8 : ∃ A n c, a8 = .slice A n c) :
    Calls Tryz.prog 23 #[.agg #[.int .i64 kind, .bool a1, .string a2, .bool a3, a4, a5, .bool a6, a7, a8]] w
      fun e w' => e = .returned (.tuple #[.agg #[.bool false, .slice none 0 0, .slice none 0 0], .bool false]) ∧ Below w.heap.size w w' := by
  have hb : (kind != 3) = true := bne_iff_ne.mpr hk
  have hb2 : (kind == 3) = false := beq_false_of_ne hk
  obtain ⟨A4, n4, c4, rfl⟩ := h4
  obtain ⟨A5, n5, c5, rfl⟩ := h5
  obtain ⟨A7, n7, c7, rfl⟩ := h7
  obtain ⟨A8, n8, c8, rfl⟩ := h8
  go_enter Tryz.func23, Tryz.ntmps23
  go_wp2
  exact bodyPost_ret (v := .tuple #[.agg #[.bool false, .slice none 0 0, .slice none 0 0], .bool false]) (by simp [results, Tryz.results23, go_sem]) rfl ⟨rfl, ((Below.refl _ _).alloc (Nat.le_refl _) _).alloc (by simp) _⟩

/-- What stands in the fraction: nothing, or the number's digits over 1. -/
def Rt (l : Option (List Int)) (base : Nat) (w : World) (u v : Value) : Prop :=
  match l with
  | none => u = .slice none 0 0 ∧ v = .slice none 0 0
  | some l => Kd.V (Kd.int .i64) 3 w base (fun k_ => base ≤ k_) u l ∧ Kd.V (Kd.int .i64) 3 w base (fun k_ => base ≤ k_) v [1]
theorem Rt.slices {l : Option (List Int)} {base : Nat} {w : World} {u v : Value} (h : Rt l base w u v) : (∃ A n c, u = .slice A n c) ∧ ∃ A n c, v = .slice A n c := by
  cases l with
  | none => exact ⟨⟨_, _, _, h.1⟩, ⟨_, _, _, h.2⟩⟩
  | some l =>
    obtain ⟨A, c, h1⟩ := Kd.V_slice h.1
    obtain ⟨A', c', h2⟩ := Kd.V_slice h.2
    exact ⟨⟨_, _, _, h1⟩, ⟨_, _, _, h2⟩⟩
theorem Rt.step {l : Option (List Int)} {base base' : Nat} {w w' : World} {u v : Value} (h : Rt l base w u v) (hb : base' ≤ base) (hk : ∀ k, base ≤ k → k < w.heap.size → w'.heap[k]? = w.heap[k]?) : Rt l base' w' u v := by
  cases l with
  | none => exact h
  | some l => exact ⟨Kd.V_mono (Kd.V_step h.1 hk) (fun k hk => by omega), Kd.V_mono (Kd.V_step h.2 hk) (fun k hk => by omega)⟩

set_option maxHeartbeats 2000000 in
set_option maxRecDepth 100000 in
theorem whole_go (nb ok : Bool) (l : Option (List Int)) (kind : Int) (a1 : Bool) (a2 : ByteArray) (a3 : Bool) (A4 : Option Addr) (n4 c4 : Nat) (A5 : Option Addr) (n5 c5 : Nat) (a6 : Bool) (A7 : Option Addr) (n7 c7 : Nat) (A8 : Option Addr) (n8 c8 : Nat) (w : World) (hn : n4 ≤ 10)
    (hI : ∀ W, Below w.heap.size w W → Calls Tryz.prog 23 #[.agg #[.int .i64 kind, .bool a1, .string a2, .bool a3, .slice A4 n4 c4, .slice A5 n5 c5, .bool a6, .slice A7 n7 c7, .slice A8 n8 c8]] W fun e w' => ∃ u v, e = .returned (.tuple #[.agg #[.bool nb, u, v], .bool ok]) ∧ Rt l W.heap.size w' u v ∧ Below W.heap.size W w') :
    Calls Tryz.prog 7 #[.agg #[.int .i64 kind, .bool a1, .string a2, .bool a3, .slice A4 n4 c4, .slice A5 n5 c5, .bool a6, .slice A7 n7 c7, .slice A8 n8 c8], .int .i64 10] w
      fun e w' => ∃ u v, e = .returned (.tuple #[.agg #[.bool nb, u, v], .bool ok]) ∧ Rt l w.heap.size w' u v ∧ Below w.heap.size w w' := by
  have HB0 := Aside0.mk (show Below w.heap.size w ((w.alloc (Obj.cells #[.int .i64 kind, .bool a1, .string a2, .bool a3, .slice A4 n4 c4, .slice A5 n5 c5, .bool a6, .slice A7 n7 c7, .slice A8 n8 c8] 26)).alloc (Obj.cells #[.bool false, .slice none 0 0, .slice none 0 0] 31)) from ((Below.refl w.heap.size w).alloc (Nat.le_refl _) _).alloc (by simp) _)
  have HI := Aside0.mk hI
  have hb : decide ((n4 : Int) > 10) = false := by simp; omega
  have hb2 : decide (10 < n4) = false := by simp; omega
  clear hI
  go_enter Tryz.func7, Tryz.ntmps7
  go_wp2_with (go_at_call 23; go_must (refine (HI.out _ HB0.out).mono ?_); rintro e w1 ⟨u, v, rfl, hU, hB⟩; have hs := hB.size; simp only [World.size_alloc] at hs; obtain ⟨q1, q2⟩ := bcell hB; simp only [World.size_alloc] at q1 q2; have HU := Aside0.mk hU; have HB := Aside0.mk hB; obtain ⟨⟨Au, nu, cu, rfl⟩, ⟨Av, nv, cv, rfl⟩⟩ := hU.slices; clear hU hB; have hz : w.heap.size + 1 < w1.heap.size := (by omega); have e0 : w1.cell? ⟨w.heap.size + 1, 0, none⟩ = some (.bool false) := (q1 (w.heap.size + 1) 0 (by omega)).trans (by go_simp); have e1 : w1.cell? ⟨w.heap.size + 1, 1, none⟩ = some (.slice none 0 0) := (q1 (w.heap.size + 1) 1 (by omega)).trans (by go_simp); have e2 : w1.cell? ⟨w.heap.size + 1, 2, none⟩ = some (.slice none 0 0) := (q1 (w.heap.size + 1) 2 (by omega)).trans (by go_simp); have f0 : w1.frozen? ⟨w.heap.size + 1, 0, none⟩ = false := (q2 (w.heap.size + 1) 0 (by omega)).trans (by go_simp); have f1 : w1.frozen? ⟨w.heap.size + 1, 1, none⟩ = false := (q2 (w.heap.size + 1) 1 (by omega)).trans (by go_simp); have f2 : w1.frozen? ⟨w.heap.size + 1, 2, none⟩ = false := (q2 (w.heap.size + 1) 2 (by omega)).trans (by go_simp); clear q1 q2)
  refine bodyPost_ret (v := .tuple #[.agg #[.bool nb, .slice Au nu cu, .slice Av nv cv], .bool ok]) (by simp [results, Tryz.results7, go_sem, e0, e1, e2]) rfl ⟨_, _, rfl, ?_, ?_⟩
  · refine HU.out.step (by simp; omega) ?_
    intro k h1 h2
    simp only [World.size_alloc] at h1
    repeat (refine hk_set (by simp; omega) ?_)
    rfl
  · have hb0 : Below w.heap.size w w1 := HB0.out.trans (HB.out.mono (by simp; omega))
    repeat (refine Below.setCell ?_ (by simp) _)
    exact hb0

set_option maxHeartbeats 2000000 in
set_option maxRecDepth 100000 in
theorem whole_long (kind : Int) (a1 : Bool) (a2 : ByteArray) (a3 : Bool) (A4 : Option Addr) (n4 c4 : Nat) (A5 : Option Addr) (n5 c5 : Nat) (a6 : Bool) (A7 : Option Addr) (n7 c7 : Nat) (A8 : Option Addr) (n8 c8 : Nat) (w : World) (hn : 10 < n4) :
    Calls Tryz.prog 7 #[.agg #[.int .i64 kind, .bool a1, .string a2, .bool a3, .slice A4 n4 c4, .slice A5 n5 c5, .bool a6, .slice A7 n7 c7, .slice A8 n8 c8], .int .i64 10] w
      fun e w' => ∃ u v, e = .returned (.tuple #[.agg #[.bool false, u, v], .bool false]) ∧ Rt none w.heap.size w' u v ∧ Below w.heap.size w w' := by
  have hb : decide ((n4 : Int) > 10) = true := by simp; omega
  have hb2 : decide (10 < n4) = true := by simp; omega
  go_enter Tryz.func7, Tryz.ntmps7
  go_wp2
  refine bodyPost_ret (v := .tuple #[.agg #[.bool false, .slice none 0 0, .slice none 0 0], .bool false]) (by simp [results, Tryz.results7, go_sem]) rfl ⟨_, _, rfl, ⟨rfl, rfl⟩, ?_⟩
  first | exact ((Below.refl _ _).alloc (Nat.le_refl _) _).alloc (by simp) _ | (repeat (refine Below.setCell ?_ (by simp) _); exact ((Below.refl _ _).alloc (Nat.le_refl _) _).alloc (by simp) _)
end Go.Proofs.YtgpoplfgngiilaaGreatDoor
/- What laws.whole hands back: nothing that the law goes on with, or a number's digits. -/
namespace Go.Proofs.YtgpoplfgngiilaaGreatDoor
open Go.RowKit Go.Proofs.YtgpoplfgngiilaaGreatDoorW.PrintWords Go.Proofs.YtgpoplfgngiilaaGreatDoorW.PrintLast Go.Proofs.YtgpoplfgngiilaaGreatDoorW.PrintMore

theorem rest_some (a0 : Int) (a1 : Bool) (a2 : ByteArray) (a3 : Bool) (l4 l5 : List Int) (a6 : Bool) (l7 l8 : List Int) : ∃ r, Pr.spec_rest.f a0 a1 a2 a3 l4 l5 a6 l7 l8 = some r := by
  unfold Pr.spec_rest.f
  repeat' split
  all_goals exact ⟨_, rfl⟩

theorem digits_len (V : Nat) (h : V < 18446744073709551616 ^ 10) : (lits 65536 V).length ≤ 40 ∧ (lits 18446744073709551616 V).length ≤ 10 :=
  ⟨(lits_figs 65536 40 V (by decide) (Nat.lt_of_lt_of_le h (by decide +kernel))).2, (lits_figs 18446744073709551616 10 V (by decide) h).2⟩

theorem whole_dich (kind : Int) (a1 : Bool) (a2 : ByteArray) (a3 : Bool) (A : Option Addr) (ws : List Int) (c : Nat) (A5 : Option Addr) (ds : List Int) (c5 : Nat) (a6 : Bool) (A7 : Option Addr) (l7 : List Int) (c7 : Nat) (A8 : Option Addr) (l8 : List Int) (c8 : Nat) (w : World)
    (hr : Kd.C (Kd.int .u64) w A ws.length ws) (hc : ws.length ≤ c) (hr5 : Kd.C (Kd.int .u64) w A5 ds.length ds) (hc5 : ds.length ≤ c5) (hr7 : Kd.C (Kd.int .u64) w A7 l7.length l7) (hc7 : l7.length ≤ c7) (hr8 : Kd.C (Kd.int .u64) w A8 l8.length l8) (hc8 : l8.length ≤ c8)
    (hR : InR 18446744073709551616 ws) :
    (∃ nb ok l, (ok = false ∨ nb = true) ∧ ∀ W, Below w.heap.size w W → Calls Tryz.prog 7 #[.agg #[.int .i64 kind, .bool a1, .string a2, .bool a3, .slice A ws.length c, .slice A5 ds.length c5, .bool a6, .slice A7 l7.length c7, .slice A8 l8.length c8], .int .i64 10] W
      fun e w' => ∃ u v, e = .returned (.tuple #[.agg #[.bool nb, u, v], .bool ok]) ∧ Rt l W.heap.size w' u v ∧ Below W.heap.size W w') ∨
    (∃ V, V < 18446744073709551616 ^ 10 ∧ ∀ W, Below w.heap.size w W → Calls Tryz.prog 7 #[.agg #[.int .i64 kind, .bool a1, .string a2, .bool a3, .slice A ws.length c, .slice A5 ds.length c5, .bool a6, .slice A7 l7.length c7, .slice A8 l8.length c8], .int .i64 10] W
      fun e w' => ∃ u v, e = .returned (.tuple #[.agg #[.bool false, u, v], .bool true]) ∧ Rt (some (lits 65536 V)) W.heap.size w' u v ∧ Below W.heap.size W w') := by
  by_cases h10 : 10 < ws.length
  · exact Or.inl ⟨false, false, none, Or.inl rfl, fun W _ => whole_long kind a1 a2 a3 A ws.length c A5 ds.length c5 a6 A7 l7.length c7 A8 l8.length c8 W h10⟩
  by_cases hk : kind = 3
  · subst hk
    have hVlt : valL 18446744073709551616 ws < 18446744073709551616 ^ 10 := Nat.lt_of_lt_of_le (valL_lt_pow _ (by decide) ws hR) (Nat.pow_le_pow_right (by decide) (by omega))
    obtain ⟨d1, d2⟩ := digits_len _ hVlt
    have hOf := of_f ws hR (by omega) 2000 (by omega)
    obtain ⟨hb, hHW, _⟩ := hasWords_f ws (valL 18446744073709551616 ws) (by omega) (by omega) 2000 (by omega)
    obtain ⟨rr, hrr⟩ := rest_some 3 a1 a2 a3 ws ds a6 l7 l8
    generalize hV : valL 18446744073709551616 ws = V at *
    obtain ⟨nb, hnb⟩ : ∃ nb, nb = (a3 && decide (0 < (lits 65536 V).length)) := ⟨_, rfl⟩
    obtain ⟨r, hrd⟩ : ∃ r, r = ((a3 == (nb && decide (0 < (lits 65536 V).length))) && hb) := ⟨_, rfl⟩
    obtain ⟨ok, hok⟩ : ∃ ok, ok = (r && (ds.length == 0 && rr)) := ⟨_, rfl⟩
    have core : ∀ W, Below w.heap.size w W → Calls Tryz.prog 7 #[.agg #[.int .i64 3, .bool a1, .string a2, .bool a3, .slice A ws.length c, .slice A5 ds.length c5, .bool a6, .slice A7 l7.length c7, .slice A8 l8.length c8], .int .i64 10] W
      fun e w' => ∃ u v, e = .returned (.tuple #[.agg #[.bool nb, u, v], .bool ok]) ∧ Rt (some (lits 65536 V)) W.heap.size w' u v ∧ Below W.heap.size W w' := by
      intro W hW
      refine whole_go nb ok (some (lits 65536 V)) 3 a1 a2 a3 A ws.length c A5 ds.length c5 a6 A7 l7.length c7 A8 l8.length c8 W (by omega) ?_
      intro W1 hW1
      have hB1 : Below w.heap.size w W1 := hW.trans (hW1.mono hW.size)
      refine (integer_core 2000 nb r rr ok a3 a1 a6 a2 A c ws (lits 65536 V) A5 c5 ds A7 c7 l7 A8 c8 l8 W1 (Kd.C_below hr hB1) hc hOf hok ?_ ?_ ?_).mono ?_
      · intro A' c' W2
        rw [hnb]
        exact whole_any a3 A' c' _ W2
      · intro A2 c2 W2 h1 h2 h3
        rw [hrd]
        exact isNumber_any 2000 a3 nb hb A c ws A2 c2 _ W2 h1 hc h2 h3 hHW
      · intro W2 hW2
        have hB2 : Below w.heap.size w W2 := hB1.trans (hW2.mono hB1.size)
        exact Pr.spec_rest.calls 3 a1 a2 a3 A c ws A5 c5 ds a6 A7 c7 l7 A8 c8 l8 rr W2 (Kd.C_below hr hB2) hc (Kd.C_below hr5 hB2) hc5 (Kd.C_below hr7 hB2) hc7 (Kd.C_below hr8 hB2) hc8 hrr
      · rintro e w' ⟨u, v, rfl, hu, hv, hB⟩
        exact ⟨u, v, rfl, ⟨hu, hv⟩, hB⟩
    by_cases hout : ok = true ∧ nb = false
    · rw [hout.1, hout.2] at core
      exact Or.inr ⟨V, hVlt, core⟩
    · refine Or.inl ⟨nb, ok, _, ?_, core⟩
      cases ok
      · exact Or.inl rfl
      · cases nb
        · exact absurd ⟨rfl, rfl⟩ hout
        · exact Or.inr rfl
  · refine Or.inl ⟨false, false, none, Or.inl rfl, fun W _ => ?_⟩
    refine whole_go false false none kind a1 a2 a3 A ws.length c A5 ds.length c5 a6 A7 l7.length c7 A8 l8.length c8 W (by omega) ?_
    intro W1 _
    refine (integer_other kind hk a1 a2 a3 _ _ a6 _ _ W1 ⟨_, _, _, rfl⟩ ⟨_, _, _, rfl⟩ ⟨_, _, _, rfl⟩ ⟨_, _, _, rfl⟩).mono ?_
    rintro e w' ⟨rfl, hB⟩
    exact ⟨_, _, rfl, ⟨rfl, rfl⟩, hB⟩
end Go.Proofs.YtgpoplfgngiilaaGreatDoor
