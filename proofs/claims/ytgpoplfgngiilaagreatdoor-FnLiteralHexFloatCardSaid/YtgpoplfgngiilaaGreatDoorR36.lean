/- FnLiteralHexFloat, behind its card (RK K13). -/
import Derived.Test.YtgpoplfgngiilaaGreatDoorR35
import Derived.OrdersHeld
import Derived.RegionTactic
import Derived.Below
set_option linter.unusedVariables false
set_option linter.unusedSimpArgs false
namespace Go.Proofs.YtgpoplfgngiilaaGreatDoor
open Go Go.RowKit

section
variable {P : Program} {ops : Array Oper} {Q : Exit → Act → World → Prop} {md : Region.Mode}

/-- w' is a later world: what stood in w stands. -/
def Le (w w' : World) : Prop := Below w.heap.size w w'
theorem Le.refl (w : World) : Le w w := Below.refl _ _
theorem Le.trans {a b c : World} (h : Le a b) (h2 : Le b c) : Le a c := Below.trans h (h2.mono h.size)

/-- The run gives v and a later world. -/
def gives (P : Program) (v : Value) (w : World) : Result Next → Prop
  | .ok (.value u) w' => u = v ∧ Le w w'
  | .ok (.enter f args) w' => Calls P f args w' fun e w3 => e = .returned v ∧ Le w w3
  | _ => False

/-- In every later world the operation gives v. -/
def FixK (P : Program) (ops : Array Oper) (o : Oper) (v : Value) (a : Act) (w : World) : Prop :=
  (Region.wanted o (yielded ops a.tmps) = true ∧ ∀ w', Le w w' → gives P v w' ((execOp a.eval o).run P w')) ∨ (Region.wanted o (yielded ops a.tmps) = false ∧ v = undef)

theorem FixK.later {o : Oper} {v : Value} {a : Act} {w w1 : World} (h : FixK P ops o v a w) (hl : Le w w1) : FixK P ops o v a w1 :=
  h.imp (fun ⟨h1, h2⟩ => ⟨h1, fun w' hw => h2 w' (hl.trans hw)⟩) id
theorem FixK.of_same {o : Oper} {v : Value} {a a' : Act} {w : World} (hy : FixK P ops o v a w) (he : execOp a'.eval o = execOp a.eval o)
    (hw : Region.wanted o (yielded ops a'.tmps) = Region.wanted o (yielded ops a.tmps)) : FixK P ops o v a' w := by
  unfold FixK at *
  rw [he, hw]
  exact hy
theorem FixK.pure {o : Oper} {v : Value} {a : Act} {w : World} (hw : Region.wanted o (yielded ops a.tmps) = true) (h : ∀ w', Le w w' → (execOp a.eval o).run P w' = .ok (.value v) w') : FixK P ops o v a w :=
  .inl ⟨hw, fun w' hl => by rw [h w' hl]; exact ⟨rfl, Le.refl _⟩⟩
theorem FixK.call {o : Oper} {v : Value} {a : Act} {w : World} {f : FuncId} {args : Array Value} (hw : Region.wanted o (yielded ops a.tmps) = true) (hr : ∀ w', (execOp a.eval o).run P w' = .ok (.enter f args) w')
    (h : ∀ w', Le w w' → Calls P f args w' fun e w3 => e = .returned v ∧ Le w' w3) : FixK P ops o v a w :=
  .inl ⟨hw, fun w' hl => by rw [hr w']; exact h w' hl⟩

theorem FixK.wpOp {i : Nat} {o : Oper} {v : Value} {a : Act} {w w' : World} (hi : ops[i]? = some o) (hy : FixK P ops o v a w) {K : Act → World → Prop} (hl : Le w w')
    (h : ∀ w'', Le w' w'' → K (a.put o.dst v) w'') : wpOp P ops Q i K a w' := by
  unfold Go.wpOp
  simp only [hi]
  rcases hy with ⟨hw, hv⟩ | ⟨hw, rfl⟩
  · simp only [hw, if_true]
    left
    have h1 := hv w' hl
    unfold Oper.wp
    generalize (execOp a.eval o).run P w' = r at *
    cases r with
    | ok n w'' =>
      cases n with
      | value u => obtain ⟨rfl, hl2⟩ := h1; exact h _ hl2
      | enter f args => exact Calls.mono h1 (fun e w3 he => by obtain ⟨rfl, hl3⟩ := he; exact h _ hl3)
      | _ => exact h1.elim
    | halt x w'' => exact h1.elim
  · simp only [hw, Bool.false_eq_true, if_false]
    exact h _ (Le.refl _)

theorem wpOp_putK {j : Nat} {oi oj : Oper} {v : Value} (hj : ops[j]? = some oj) (hap : oi.apart ops oj = true)
    (hsi : ∀ cs b, oi.op ≠ .select cs b) (hsj : ∀ cs b, oj.op ≠ .select cs b)
    (hQ : ∀ c a w, Q (.panic c) (a.put oi.dst v) w → Q (.panic c) a w) {K : Act → World → Prop} {a : Act} {w w0 : World}
    (hy : FixK P ops oi v a w0) (h : wpOp P ops Q j K (a.put oi.dst v) w) :
    wpOp P ops Q j (fun a' w' => FixK P ops oi v a' w0 ∧ K (a'.put oi.dst v) w') a w := by
  obtain ⟨h1, h2, h3⟩ := Oper.apart_spec hap
  have keep : ∀ (a : Act), FixK P ops oi v a w0 → ∀ u, FixK P ops oi v (a.put oj.dst u) w0 := fun a hy u =>
    hy.of_same (execOp_put oi hsi a oj.dst u h3) (wanted_put oi a oj.dst u h3)
  have keepD : ∀ d, FixK P ops oi v { a with defers := d :: a.defers } w0 := fun d => hy.of_same rfl rfl
  unfold wpOp at *
  simp only [hj] at *
  rw [wanted_put oj a oi.dst v h1] at h
  split
  · rename_i hw
    simp only [hw, if_true] at h
    rcases h with h | ⟨hasks, hlets⟩
    case inr => exact .inr ⟨by unfold Oper.asks at *; rw [execOp_put oj hsj a oi.dst v h1] at hasks; exact hasks, hlets⟩
    refine .inl ?_
    unfold Oper.wp at *
    rw [execOp_put oj hsj a oi.dst v h1] at h
    generalize (execOp a.eval oj).run P w = r at *
    cases r with
    | ok n w' =>
      cases n <;> simp only [Oper.upon] at h ⊢
      case value u => exact ⟨keep a hy u, by rw [← Act.put_comm a v u h2]; exact h⟩
      case skip => exact ⟨keep a hy _, by rw [← Act.put_comm a v undef h2]; exact h⟩
      case defer d =>
        refine ⟨keep _ (keepD d) _, ?_⟩
        rw [← Act.put_comm _ v undef h2, ← Act.put_defers]
        exact h
      case enter f args =>
        refine Calls.mono h fun e w'' he => ?_
        cases e with
        | returned u => exact ⟨keep a hy u, by rw [← Act.put_comm a v u h2]; exact he⟩
        | panicked c => exact hQ _ _ _ he
        | outgrown => exact he
      case row row args => exact Rows.mono h fun u w'' he => ⟨keep a hy u, by rw [← Act.put_comm a v u h2]; exact he⟩
    | halt x w' =>
      cases x <;> simp only [Oper.upon] at h ⊢
      case panic u => exact hQ _ _ _ h
  · rename_i hw
    simp only [hw] at h
    exact ⟨keep a hy _, by rw [← Act.put_comm a v undef h2]; exact h⟩

/-- Whatever order is picked from here on, from this world or a later one. -/
def wpAnyK (P : Program) (md : Region.Mode) (ops : Array Oper) (Q : Exit → Act → World → Prop) : Nat → Array Bool → Act → World → Prop
  | 0, listed, a, w => ∀ w', Le w w' → Region.ready md ops listed = [] ∧ Q .normal a w'
  | fuel + 1, listed, a, w => ∀ w', Le w w' →
    (Region.ready md ops listed = [] → Q .normal a w') ∧
    ∀ i ∈ Region.ready md ops listed, wpOp P ops Q i (fun a' w'' => Le w' w'' ∧ wpAnyK P md ops Q fuel (listed.setIfInBounds i true) a' w'') a w'

theorem wpAnyK.later : ∀ {fuel : Nat} {listed : Array Bool} {a : Act} {w w1 : World}, wpAnyK P md ops Q fuel listed a w → Le w w1 → wpAnyK P md ops Q fuel listed a w1
  | 0, _, _, _, _, h, hl => fun w' hw => h w' (hl.trans hw)
  | _ + 1, _, _, _, _, h, hl => fun w' hw => h w' (hl.trans hw)

theorem wpAny_of_K : ∀ (fuel : Nat) (listed : Array Bool) (a : Act) (w : World), wpAnyK P md ops Q fuel listed a w → wpAny P md ops Q fuel listed a w
  | 0, _, _, w, h => h w (Le.refl _)
  | fuel + 1, _, _, w, h => ⟨(h w (Le.refl _)).1, fun i hi => wpOp_mono (fun a' w' h' => wpAny_of_K fuel _ a' w' h'.2) ((h w (Le.refl _)).2 i hi)⟩

theorem wpAnyK_first {i : Nat} {oi : Oper} {v : Value} (hi : ops[i]? = some oi) (hsel : ∀ (j : Nat) (o : Oper) cs b, ops[j]? = some o → o.op ≠ .select cs b)
    (hQ : ∀ c a w, Q (.panic c) (a.put oi.dst v) w → Q (.panic c) a w) :
    ∀ (fuel : Nat) (listed : Array Bool) (a : Act) (w : World),
      (∀ j oj, ops[j]? = some oj → j ≠ i → listed.getD j true = false → (∀ e ∈ oj.after, Region.binds md e = true → e.on ≠ i) → oi.apart ops oj = true) →
      i ∈ Region.ready md ops listed → FixK P ops oi v a w →
      wpAnyK P md ops Q fuel (listed.setIfInBounds i true) (a.put oi.dst v) w → wpAnyK P md ops Q (fuel + 1) listed a w := by
  intro fuel
  induction fuel with
  | zero =>
    intro listed a w _ hr hy H w' hl
    refine ⟨fun h => (by rw [h] at hr; cases hr), fun j hj => ?_⟩
    by_cases hji : j = i
    · subst hji; exact hy.wpOp hi hl (fun w'' hl2 => ⟨hl2, H.later (hl.trans hl2)⟩)
    · have := ready_mono hj hji
      rw [(H w' hl).1] at this
      cases this
  | succ fuel ih =>
    intro listed a w hfree hr hy H w' hl
    refine ⟨fun h => (by rw [h] at hr; cases hr), fun j hj => ?_⟩
    by_cases hji : j = i
    · subst hji; exact hy.wpOp hi hl (fun w'' hl2 => ⟨hl2, H.later (hl.trans hl2)⟩)
    · have h1 := (H w' hl).2 j (ready_mono hj hji)
      obtain ⟨hjun, oj, hoj, hall⟩ := mem_ready.1 hj
      have hnot : ∀ e ∈ oj.after, Region.binds md e = true → e.on ≠ i := fun e he hb heq => by
        have h1 := hall e he hb
        have h0 := (mem_ready.1 hr).1
        rw [heq] at h1
        rcases Nat.lt_or_ge i listed.size with h' | h'
        · simp [h'] at h0 h1; rw [h0] at h1; cases h1
        · simp [Array.getElem?_eq_none h'] at h1
      have h2 := wpOp_putK hoj (hfree j oj hoj hji hjun hnot) (fun cs b => hsel i oi cs b hi) (fun cs b => hsel j oj cs b hoj) hQ hy h1
      have hfree' : ∀ k ok, ops[k]? = some ok → k ≠ i → (listed.setIfInBounds j true).getD k true = false →
          (∀ e ∈ ok.after, Region.binds md e = true → e.on ≠ i) → oi.apart ops ok = true := fun k ok hk hki hun hno => by
        refine hfree k ok hk hki ?_ hno
        by_cases hjk : j = k
        · subst hjk; exact hjun
        · rw [getD_set_ne true hjk] at hun; exact hun
      refine wpOp_mono (fun a' w'' h3 => ⟨h3.2.1, ih (listed.setIfInBounds j true) a' w'' hfree' (ready_mono hr (Ne.symm hji)) (h3.1.later (hl.trans h3.2.1)) ?_⟩) h2
      rw [Array.setIfInBounds_comm _ _ hji]
      exact h3.2.2

/-- Take number i first. -/
theorem k_take {i : Nat} (d : Option Tmp) {oi : Oper} {v : Value} {fuel : Nat} {listed : Array Bool} {a : Act} {w : World} (hi : ops[i]? = some oi) (hd : oi.dst = d)
    (hs : Region.noSelect ops = true) (hf : Region.free md ops listed i = true) (hr : (Region.ready md ops listed).contains i = true)
    (hQ : ∀ c a w, Q (.panic c) (a.put d v) w → Q (.panic c) a w) (hy : FixK P ops oi v a w)
    (h : wpAnyK P md ops Q fuel (listed.setIfInBounds i true) (a.put d v) w) : wpAnyK P md ops Q (fuel + 1) listed a w := by
  subst hd
  exact wpAnyK_first hi (Region.noSelect_spec hs) hQ fuel listed a w (Region.free_spec hi hf) (by simpa using hr) hy h

/-- Whichever may come up now comes up. -/
theorem k_all {rs : List Nat} {fuel : Nat} {listed : Array Bool} {a : Act} {w : World} (hr : Region.ready md ops listed = rs) (hne : rs ≠ [])
    (h : ∀ w', Le w w' → ∀ i ∈ rs, wpOp P ops Q i (fun a' w'' => Le w' w'' ∧ wpAnyK P md ops Q fuel (listed.setIfInBounds i true) a' w'') a w') : wpAnyK P md ops Q (fuel + 1) listed a w :=
  fun w' hl => ⟨fun h0 => absurd (hr ▸ h0) hne, hr ▸ h w' hl⟩
theorem k_run {i : Nat} (d : Option Tmp) {oi : Oper} {v : Value} {K : Act → World → Prop} {a : Act} {w w' : World} (hi : ops[i]? = some oi) (hd : oi.dst = d) (hw : Region.wanted oi (yielded ops a.tmps) = true)
    (hr : (execOp a.eval oi).run P w = .ok (.value v) w') (h : K (a.put d v) w') : wpOp P ops Q i K a w := by
  subst hd
  unfold Go.wpOp
  simp only [hi, hw, if_true]
  left
  unfold Oper.wp
  rw [hr]
  exact h
theorem k_done {listed : Array Bool} {a : Act} {w : World} (hr : Region.ready md ops listed = []) (h : ∀ w', Le w w' → Q .normal a w') : ∀ fuel, wpAnyK P md ops Q fuel listed a w
  | 0 => fun w' hl => ⟨hr, h w' hl⟩
  | _ + 1 => fun w' hl => ⟨fun _ => h w' hl, by rw [hr]; simp⟩
/-- The beginning. -/
theorem wp_region_K {id : Nat} {a : Act} {w : World} (hm : P.follows .mixedOrders = true)
    (h : wpAnyK P .any ops Q ops.size (Array.replicate ops.size false) a w) : (Code.region id ops true).wp P Q a w :=
  wp_region_any hm (wpAny_of_K _ _ _ _ (h.later (w1 := { w with drawn := w.drawn + 1 }) ⟨rfl, rfl, rfl, Nat.le_refl _, fun _ _ => rfl⟩))
end
end Go.Proofs.YtgpoplfgngiilaaGreatDoor
namespace Go.Proofs.YtgpoplfgngiilaaGreatDoor
set_option linter.unusedVariables false
set_option linter.unusedSimpArgs false
open Go.RowKit Go.Proofs.YtgpoplfgngiilaaGreatDoorW.PrintWords Go.Proofs.YtgpoplfgngiilaaGreatDoorW.PrintLast Go.Proofs.YtgpoplfgngiilaaGreatDoorW.PrintMore

/-- spec.Of of one word. -/
theorem of_word (g n : Nat) (w : World) (hn : n < 18446744073709551616) (hc : w.cell? ⟨g, 0, none⟩ = some (.int .u64 n)) : Calls Tryz.prog 15 #[.slice (some ⟨g, 0, none⟩) 1 1] w (ResN n w) := by
  have hC : Kd.C (Kd.int .u64) w (some ⟨g, 0, none⟩) [(n : Int)].length [(n : Int)] := Kd.C_of_reads (d := 0) ⟨rfl, by simp, fun _ => ⟨⟨g, 0, none⟩, rfl, fun j hj => by
    have hj0 : j = 0 := by simpa using hj
    subst hj0
    rw [Addr.add_lit, Nat.zero_add, hc]
    rfl⟩⟩
  have hR : InR 18446744073709551616 [(n : Int)] := fun z hz => by
    rw [List.mem_singleton] at hz
    omega
  have hk := of_f [(n : Int)] hR (by simp) (11 * 1 + 11) (by simp)
  have hv : valL 18446744073709551616 [(n : Int)] = n := by simp [valL]
  rw [hv] at hk
  refine (Pr.spec_Of.calls _ (some ⟨g, 0, none⟩) 1 [(n : Int)] _ w hC (by simp) hk).mono ?_
  rintro e w' ⟨v, rfl, hV, hB⟩
  exact ⟨v, rfl, Sl.ofV hV, hB⟩

/-- spec.InBase at 16. -/
theorem inBase_c {w : World} {u : Value} {m : Nat} (hu : SN w u m) (hm : m < 18446744073709551616) (great : Bool) :
    Calls Tryz.prog 9 #[u, .int .i64 16, .bool great] w fun e w' => e = .returned (.string (bstr (txt great 16 m))) ∧ Le w w' := by
  obtain ⟨A, c, rfl, h1, h2⟩ := hu
  have l1 : (lits 65536 m).length ≤ 4 := (lits_figs 65536 4 m (by decide) (by omega)).2
  have l2 : (lits 16 m).length ≤ 16 := (lits_figs 16 16 m (by decide) (by omega)).2
  have hf := inBase_f great 16 m (by decide) (by decide) (by omega) (by omega) 1000 (by omega)
  exact (Pr.spec_InBase.calls 1000 (fun _ => True) A c _ 16 great _ w (Sl.toV h1 h2 3 w.heap.size) hf).mono (fun e w' h => h)

theorem ptd_c (great : Bool) (m p : Nat) (hm : m < 18446744073709551616) (hp : p ≤ 19) (w : World) :
    Calls Tryz.prog 16 #[.string (bstr (txt great 16 m)), .int .i64 p] w fun e w' => e = .returned (.string (bstr (ptd (txt great 16 m) p))) ∧ Le w w' := by
  have h1 := txt16_len great m hm
  refine (pointed_c (txt great 16 m) p (by omega) (by omega) w).mono ?_
  rintro e w' ⟨rfl, n, rfl⟩
  exact ⟨rfl, pw_below_drewN (Below.refl _ _) n⟩
theorem exp_c (c1 : UInt8) (x : Int) (plus : Bool) (hx : x.natAbs ≤ 1000) (w : World) :
    Calls Tryz.prog 17 #[.string (bstr [c1]), .int .i64 x, .bool plus] w fun e w' => e = .returned (.string (bstr (expS c1 x plus))) ∧ Le w w' := by
  obtain ⟨k, hk⟩ := exponent_ev c1 x plus hx
  exact (Pr.laws_exponent.calls k _ x plus _ w (hk k (Nat.le_refl _))).mono (fun e w' h => h)
theorem wn_of {w : World} {v : Value} {n base : Nat} {ok : Nat → Prop} (h : Kd.R (Kd.int .u64) 50 w base ok v (lits 18446744073709551616 n)) : WN w v n := by
  obtain ⟨A, c, rfl, -⟩ := Kd.R_reads h
  exact ⟨A, c, rfl, (Kd.R_reads' h).2.1, (Kd.R_reads' h).2.2⟩
theorem few_lt {n : Nat} (h : n < 18446744073709551616 ^ 34) : Few n := Nat.le_trans (lits_small 34 n h) (by decide)
theorem pow16_c (p : Nat) (hp : p ≤ 19) (w : World) : Calls Tryz.prog 21 #[.int .i64 16, .int .i64 (-(p : Int))] w (ResR 1 (16 ^ p) w) := by
  rcases Nat.eq_zero_or_pos p with rfl | h
  · exact powerOf_pos w 16 0 (by decide) (by decide)
  · exact powerOf_neg w 16 p (by decide) (by decide) (by omega) h
theorem pow2_c (x : Int) (hx : x.natAbs ≤ 1000) (w : World) : Calls Tryz.prog 21 #[.int .i64 2, .int .i64 x] w (ResR (2 ^ up x) (2 ^ dn x) w) := by
  rcases Int.lt_or_le x 0 with h | h
  · have := powerOf_neg w 2 x.natAbs (by decide) (by decide) (by omega) (by omega)
    rw [show -((x.natAbs : Nat) : Int) = x by omega] at this
    rw [show up x = 0 by unfold up; omega, show dn x = x.natAbs by unfold dn; omega]
    exact this
  · have := powerOf_pos w 2 x.natAbs (by decide) (by omega)
    rw [show ((x.natAbs : Nat) : Int) = x by omega] at this
    rw [show up x = x.natAbs by unfold up; omega, show dn x = 0 by unfold dn; omega]
    exact this
theorem up_dn (x : Int) (hx : x.natAbs ≤ 1000) : up x ≤ 1000 ∧ dn x ≤ 1000 := by unfold up dn; omega
theorem p16_lt (p k : Nat) (hp : p ≤ 19) (hk : k ≤ 1000) : 16 ^ p * 2 ^ k < 18446744073709551616 ^ 34 := by
  rw [show (16 : Nat) ^ p = 2 ^ (4 * p) by rw [Nat.pow_mul], ← Nat.pow_add]
  exact few_pow (by omega)
/-- The power of 16 and the power of 2, as the law multiplies them. -/
theorem times1_c {w : World} {u v : Value} (p : Nat) (x : Int) (hp : p ≤ 19) (hx : x.natAbs ≤ 1000) (hu : SR w u 1 (16 ^ p)) (hv : SR w v (2 ^ up x) (2 ^ dn x)) :
    Calls Tryz.prog 19 #[u, v] w (ResR (lowN (1 * 2 ^ up x) (16 ^ p * 2 ^ dn x)) (lowD (1 * 2 ^ up x) (16 ^ p * 2 ^ dn x)) w) := by
  obtain ⟨h1, h2⟩ := up_dn x hx
  have f1 : Few (2 ^ up x) := few_lt (few_pow (by omega))
  have f2 : Few (2 ^ dn x) := few_lt (few_pow (by omega))
  have f3 : Few (16 ^ p * 2 ^ dn x) := few_lt (p16_lt p _ hp h2)
  have f4 : Few (16 ^ p) := few_lt (by have := p16_lt p 0 hp (by decide); rwa [Nat.pow_zero, Nat.mul_one] at this)
  have f5 : Few 1 := few_lt (by decide +kernel)
  exact times_c hu hv f5.tiny.small f4.tiny.small f1.tiny.small f2.tiny.small (Nat.pow_pos (by decide)) (Nat.pow_pos (by decide)) (by rw [Nat.one_mul]; exact f1.tiny) f3.tiny
/-- The number times that. -/
theorem times2_c {w : World} {u v : Value} (m p : Nat) (x : Int) (hm : m < 18446744073709551616) (hp : p ≤ 19) (hx : x.natAbs ≤ 1000) (hu : SR w u m 1) (hv : SR w v (lowN (1 * 2 ^ up x) (16 ^ p * 2 ^ dn x)) (lowD (1 * 2 ^ up x) (16 ^ p * 2 ^ dn x))) :
    Calls Tryz.prog 19 #[u, v] w (ResR (lowN (m * 2 ^ up (x - 4 * (p : Int))) (2 ^ dn (x - 4 * (p : Int)))) (lowD (m * 2 ^ up (x - 4 * (p : Int))) (2 ^ dn (x - 4 * (p : Int)))) w) := by
  obtain ⟨h1, h2⟩ := up_dn x hx
  obtain ⟨l1, l2⟩ := low_le (a := 1 * 2 ^ up x) (b := 16 ^ p * 2 ^ dn x)
  have hB : 0 < 16 ^ p * 2 ^ dn x := Nat.mul_pos (Nat.pow_pos (by decide)) (Nat.pow_pos (by decide))
  rw [Nat.one_mul] at l1
  have f0 : Few m := few_lt (Nat.lt_of_lt_of_le hm (by decide +kernel))
  have f1 : Few (lowN (1 * 2 ^ up x) (16 ^ p * 2 ^ dn x)) := by rw [Nat.one_mul]; exact few_lt (Nat.lt_of_le_of_lt l1 (few_pow (by omega)))
  have f2 : Few (lowD (1 * 2 ^ up x) (16 ^ p * 2 ^ dn x)) := few_lt (Nat.lt_of_le_of_lt l2 (p16_lt p _ hp h2))
  have f3 : Few (m * lowN (1 * 2 ^ up x) (16 ^ p * 2 ^ dn x)) := few_lt (Nat.lt_of_le_of_lt (Nat.mul_le_mul_left m (by rw [Nat.one_mul]; exact l1)) (few_mul hm (by omega)))
  have f5 : Few 1 := few_lt (by decide +kernel)
  have := times_c hu hv f0.tiny.small f5.tiny.small f1.tiny.small f2.tiny.small (by decide) (low_pos hB) f3.tiny (by rw [Nat.one_mul]; exact f2.tiny)
  obtain ⟨e1, e2⟩ := hex_low m p x
  rw [e1, e2] at this
  exact this
end Go.Proofs.YtgpoplfgngiilaaGreatDoor
