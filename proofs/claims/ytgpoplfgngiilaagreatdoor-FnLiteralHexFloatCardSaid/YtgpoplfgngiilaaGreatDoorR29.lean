/- FnLiteralHexFloat, behind its card (L1 K6l K9 K10). -/
import Derived.Test.YtgpoplfgngiilaaGreatDoorR06
import Derived.Test.YtgpoplfgngiilaaGreatDoorR28
import Derived.Test.YtgpoplfgngiilaaGreatDoorR26
import Derived.Deep.RegionHeld3
set_option linter.unusedVariables false
set_option linter.unusedSimpArgs false
namespace Go.Proofs.YtgpoplfgngiilaaGreatDoor
set_option linter.unusedVariables false
set_option linter.unusedSimpArgs false
open Go.RowKit

/-- The bytes of a number with a point; the point stands as an underscore (which counts nothing). -/
def unpt (cs : List UInt8) : List UInt8 := cs.map (fun c => if c = 46 then 95 else c)
/-- Zeros ahead of figures, to k of them. -/
def pad (l : List UInt8) (k : Nat) : List UInt8 := List.replicate (k - l.length) 48 ++ l
/-- Figures with a point ahead of the last k. -/
def ptd (l : List UInt8) (k : Nat) : List UInt8 := (pad l k).take ((pad l k).length - k) ++ 46 :: (pad l k).drop ((pad l k).length - k)
/-- Figures of base 16. -/
def Fg (l : List UInt8) : Prop := ∀ c ∈ l, Cls c.toNat (dval c) ∧ dval c < 16

theorem Cls.ne {c : UInt8} {d : Int} (h : Cls c.toNat d) : c ≠ 46 ∧ c ≠ 95 := by
  refine ⟨fun e => ?_, fun e => ?_⟩ <;>
  · subst e
    unfold Cls at h
    revert h
    simp
theorem Fg.txt (great : Bool) (n : Nat) : Fg (txt great 16 n) := fun c hc => by
  obtain ⟨h1, h2⟩ := Body_txt great 16 n (by decide) (by decide)
  exact (h1 c hc).resolve_left (h2 c hc)
theorem Fg.take {l : List UInt8} (h : Fg l) (n : Nat) : Fg (l.take n) := fun c hc => h c (List.mem_of_mem_take hc)
theorem Fg.drop {l : List UInt8} (h : Fg l) (n : Nat) : Fg (l.drop n) := fun c hc => h c (List.mem_of_mem_drop hc)
theorem unpt_fg {l : List UInt8} (h : Fg l) : unpt l = l := by
  unfold unpt
  conv => rhs; rw [← List.map_id l]
  apply List.map_congr_left
  intro c hc
  rw [if_neg (h c hc).1.ne.1]
  rfl
theorem unpt_append (a b : List UInt8) : unpt (a ++ b) = unpt a ++ unpt b := List.map_append
theorem pad_length (l : List UInt8) (k : Nat) : (pad l k).length = max k l.length := by simp [pad]; omega
theorem pad_fg {l : List UInt8} (h : Fg l) (k : Nat) : Fg (pad l k) := fun c hc => by
  rcases List.mem_append.1 hc with hc | hc
  · obtain ⟨_, rfl⟩ := List.mem_replicate.1 hc
    refine ⟨Or.inl ⟨by decide, by decide, by decide⟩, by decide⟩
  · exact h c hc
theorem pv_zeros (n : Nat) : pv 16 0 (List.replicate n 48) = 0 := by
  induction n with
  | zero => rfl
  | succ n ih =>
    rw [List.replicate_succ, pv_cons]
    exact ih
theorem pv_pad (l : List UInt8) (k : Nat) : pv 16 0 (pad l k) = pv 16 0 l := by
  unfold pad
  rw [pv_append, pv_zeros]
theorem pv_ptd {l : List UInt8} (h : Fg l) (k : Nat) : pv 16 0 (unpt (ptd l k)) = pv 16 0 l := by
  have hp := pad_fg h k
  unfold ptd
  rw [unpt_append, unpt_fg (hp.take _)]
  show pv 16 0 (_ ++ (95 :: unpt _)) = _
  rw [unpt_fg (hp.drop _), pv_append, pv_cons]
  show pv 16 (pv 16 0 _) _ = _
  rw [← pv_append, List.take_append_drop, pv_pad]
theorem ptd_length (l : List UInt8) (k : Nat) : (ptd l k).length = max k l.length + 1 := by
  unfold ptd
  rw [List.length_append, List.length_cons, List.length_take, List.length_drop, pad_length]
  omega
theorem mid_get (A B : List UInt8) (j : Nat) (hj : j < (A ++ 46 :: B).length) : (j = A.length ∧ (A ++ 46 :: B)[j]'hj = 46) ∨ (j ≠ A.length ∧ (A ++ 46 :: B)[j]'hj ∈ A ++ B) := by
  by_cases h1 : j = A.length
  · left
    refine ⟨h1, ?_⟩
    rw [List.getElem_append_right (by omega)]
    simp [h1]
  · right
    refine ⟨h1, ?_⟩
    by_cases h2 : j < A.length
    · rw [List.getElem_append_left h2]
      exact List.mem_append_left _ (List.getElem_mem _)
    · rw [List.getElem_append_right (by omega)]
      obtain ⟨i, hi⟩ : ∃ i, j - A.length = i + 1 := ⟨j - A.length - 1, by omega⟩
      simp only [hi, List.getElem_cons_succ]
      exact List.mem_append_right _ (List.getElem_mem _)
theorem ptd_at {l : List UInt8} (h : Fg l) (k a0 : Nat) (ha : a0 = max k l.length - k) (j : Nat) (hj : j < (ptd l k).length) :
    (j = a0 ∧ (ptd l k)[j]'hj = 46) ∨ (j ≠ a0 ∧ Cls ((ptd l k)[j]'hj).toNat (dval ((ptd l k)[j]'hj)) ∧ dval ((ptd l k)[j]'hj) < 16) := by
  have hp := pad_fg h k
  have h1 : ((pad l k).take ((pad l k).length - k)).length = a0 := by rw [List.length_take, pad_length]; omega
  have hm := mid_get ((pad l k).take ((pad l k).length - k)) ((pad l k).drop ((pad l k).length - k)) j hj
  rw [h1, List.take_append_drop] at hm
  rcases hm with hm | ⟨h2, h3⟩
  · exact Or.inl hm
  · exact Or.inr ⟨h2, hp _ h3⟩
theorem Fr.of_below2 {base : Nat} {w w' : World} (h : Below base w w') : Fr (fun k => base ≤ k) w w' :=
  ⟨h.os, h.tape, h.output, h.size, fun k _ hn => h.block k (by omega)⟩
end Go.Proofs.YtgpoplfgngiilaaGreatDoor
namespace Go.Proofs.YtgpoplfgngiilaaGreatDoor
set_option linter.unusedVariables false
set_option linter.unusedSimpArgs false
open Go.RowKit Go.Proofs.YtgpoplfgngiilaaGreatDoorW.PrintWords

theorem NW.neRd {w : World} {g r : Nat} {v : Value} {n : Nat} {s : ByteArray} {i : Nat} (h1 : NW w g v n) (h2 : Rd w r s i) : g ≠ r := by
  intro e
  subst e
  obtain ⟨ys, e1, h3, -⟩ := h1
  obtain ⟨p, h2⟩ := h2
  have h4 := h2.symm.trans (show w.heap[g]? = _ from h3)
  injection h4 with h4
  injection h4 with h4 h5
  cases h5

theorem len_B (n : Nat) (h : (lits 18446744073709551616 n).length ≤ 1) : n < 18446744073709551616 := by
  have h1 := valL_lt_pow 18446744073709551616 (by decide) (lits 18446744073709551616 n) (InR_lits _ (by decide) n)
  rw [valL_lits _ (by decide)] at h1
  exact Nat.lt_of_lt_of_le h1 (Nat.le_trans (Nat.pow_le_pow_right (by decide) h) (by decide))
theorem few_mul {m k : Nat} (hm : m < 18446744073709551616) (hk : k ≤ 2000) : m * 2 ^ k < 18446744073709551616 ^ 34 := by
  have h1 : 2 ^ k < 18446744073709551616 ^ 33 := Nat.lt_of_lt_of_le (Nat.pow_lt_pow_right (by decide) (show k < 2112 by omega)) (by decide +kernel)
  rw [show (18446744073709551616 : Nat) ^ 34 = 18446744073709551616 * 18446744073709551616 ^ 33 by decide +kernel]
  have h2 : m * 2 ^ k ≤ 18446744073709551616 * 2 ^ k := Nat.mul_le_mul_right _ (Nat.le_of_lt hm)
  exact Nat.lt_of_le_of_lt h2 (Nat.mul_lt_mul_of_pos_left h1 (by decide))
theorem few_pow {k : Nat} (hk : k ≤ 2000) : 2 ^ k < 18446744073709551616 ^ 34 := by
  have := few_mul (m := 1) (by decide) hk
  rwa [Nat.one_mul] at this
theorem lsh_one (g : Nat) (y : Int) (v : Value) (w : World) (h : NW w g v 1) (hs0 : 0 < y) (hs : y ≤ 5000) :
    Calls Tryz.prog 93 #[v, v, .int .u64 y] w fun e w' => ∃ v' gz, e = .returned v' ∧ (gz = g ∨ w.heap.size ≤ gz) ∧ NW w' gz v' (2 ^ y.toNat) ∧ Fr (fun k => k = g) w w' := by
  have := lsh_int g 1 y v w h (by decide) (by decide) hs0 hs
  rwa [Nat.one_mul] at this
/-- What rat_norm asks of the numbers. -/
def Side (N D : Nat) : Prop := 0 < N ∧ 0 < D ∧ (lits 18446744073709551616 N).length ≤ 1000 ∧ (lits 18446744073709551616 D).length ≤ 1000 ∧ min N D < 18446744073709551616 ∧ ((lits 18446744073709551616 N).length ≠ (lits 18446744073709551616 D).length ∨ (N < 18446744073709551616 ∧ D < 18446744073709551616))
theorem side_ok {N D : Nat} (hN : 0 < N) (hD : 0 < D) (h : N < 18446744073709551616 ∨ D < 18446744073709551616) (h1 : N < 18446744073709551616 ^ 34) (h2 : D < 18446744073709551616 ^ 34) : Side N D := by
  refine ⟨hN, hD, Nat.le_trans (lits_small 34 N h1) (by decide), Nat.le_trans (lits_small 34 D h2) (by decide), ?_, ?_⟩
  · rcases h with h | h
    · exact Nat.lt_of_le_of_lt (Nat.min_le_left _ _) h
    · exact Nat.lt_of_le_of_lt (Nat.min_le_right _ _) h
  · by_cases he : (lits 18446744073709551616 N).length = (lits 18446744073709551616 D).length
    · right
      rcases h with h | h
      · have : (lits 18446744073709551616 N).length = 1 := by rw [wl_one hN h]; rfl
        exact ⟨h, len_B D (by omega)⟩
      · have : (lits 18446744073709551616 D).length = 1 := by rw [wl_one hD h]; rfl
        exact ⟨len_B N (by omega), h⟩
    · exact Or.inl he

/-- The Rat z, its words in g1 and g2, and the stack of words, in W behind w. -/
def RatSt (z st g1 g2 N D : Nat) (u v : Value) (w W : World) : Prop :=
  Rz W z u v ∧ NW W g1 u N ∧ NW W g2 v D ∧ W.cell? ⟨st, 0, none⟩ = some (.pointer none) ∧ Fr (fun k => k = z) w W ∧ z < w.heap.size ∧ w.heap.size ≤ g1 ∧ w.heap.size ≤ g2 ∧ w.heap.size ≤ st ∧ g1 ≠ g2 ∧ (st ≠ g1 ∧ st ≠ g2)
theorem RatSt.sep {z st g1 g2 N D : Nat} {u v : Value} {w W : World} (h : RatSt z st g1 g2 N D u v w W) : z < w.heap.size ∧ w.heap.size ≤ g1 ∧ w.heap.size ≤ g2 ∧ w.heap.size ≤ st ∧ g1 ≠ g2 ∧ (st ≠ g1 ∧ st ≠ g2) := h.2.2.2.2.2
theorem RatSt.lsh1 {z st g1 g2 gz N D M : Nat} {u v u' : Value} {w W W' : World} (h : RatSt z st g1 g2 N D u v w W) (hf : Fr (fun k => k = g1) W W') (hg : gz = g1 ∨ W.heap.size ≤ gz) (hn : NW W' gz u' M) : RatSt z st gz g2 M D u' v w (W'.setCell ⟨z, 1, none⟩ u') := by
  obtain ⟨h1, h2, h3, h4, h5, h6, h7, h8, h9, h10, h11, h12⟩ := h
  have b2 := h2.lt
  have b3 := h3.lt
  have b4 := World.block_lt_of_cell? W _ h4
  have b5 := h5.size
  simp at b4
  have F : Fr (fun k => k = z) W' (W'.setCell ⟨z, 1, none⟩ u') := fr_put1 (S := fun k => k = z) (Fr.refl _ _) rfl 1 _
  refine ⟨(h1.far hf (by show ¬ z = g1; omega)).set1 _, hn.far F (by show ¬ gz = z; omega), (h3.far hf (by show ¬ g2 = g1; omega)).far F (by show ¬ g2 = z; omega), F.cellv (hf.cellv h4 (by show ¬ st = g1; omega)) (by show ¬ st = z; omega), ?_, h6, by omega, h8, h9, by omega, by omega, h12⟩
  exact (h5.call hf (fun k hk => Or.inr (by omega))).trans F
theorem RatSt.lsh2 {z st g1 g2 gz N D M : Nat} {u v v' : Value} {w W W' : World} (h : RatSt z st g1 g2 N D u v w W) (hf : Fr (fun k => k = g2) W W') (hg : gz = g2 ∨ W.heap.size ≤ gz) (hn : NW W' gz v' M) : RatSt z st g1 gz N M u v' w (W'.setCell ⟨z, 3, none⟩ v') := by
  obtain ⟨h1, h2, h3, h4, h5, h6, h7, h8, h9, h10, h11, h12⟩ := h
  have b2 := h2.lt
  have b3 := h3.lt
  have b4 := World.block_lt_of_cell? W _ h4
  have b5 := h5.size
  simp at b4
  have F : Fr (fun k => k = z) W' (W'.setCell ⟨z, 3, none⟩ v') := fr_put1 (S := fun k => k = z) (Fr.refl _ _) rfl 3 _
  refine ⟨(h1.far hf (by show ¬ z = g2; omega)).set3 _, (h2.far hf (by show ¬ g1 = g2; omega)).far F (by show ¬ g1 = z; omega), hn.far F (by show ¬ gz = z; omega), F.cellv (hf.cellv h4 (by show ¬ st = g2; omega)) (by show ¬ st = z; omega), ?_, h6, h7, by omega, h9, by omega, h11, by omega⟩
  exact (h5.call hf (fun k hk => Or.inr (by omega))).trans F
/-- norm, called on that state. -/
theorem RatSt.fin {z st g1 g2 N D : Nat} {u v : Value} {w W : World} (h : RatSt z st g1 g2 N D u v w W) (hs : Side N D) :
    Calls Tryz.prog 95 #[.pointer (some ⟨z, 0, none⟩)] (W.setCell ⟨z, 0, none⟩ (.bool false)) fun e w' => ∃ u' v', e = .returned (.pointer (some ⟨z, 0, none⟩)) ∧ Rz w' z u' v' ∧ NW w' g1 u' (N / Nat.gcd N D) ∧ NW w' g2 v' (D / Nat.gcd N D) ∧ w'.cell? ⟨st, 0, none⟩ = some (.pointer none) ∧ Fr (fun k => k = z) w w' := by
  obtain ⟨h1, h2, h3, h4, h5, h6, h7, h8, h9, h10, h11, h12⟩ := h
  obtain ⟨s1, s2, s3, s4, s5, s6⟩ := hs
  have F : Fr (fun k => k = z) W (W.setCell ⟨z, 0, none⟩ (.bool false)) := fr_put1 (S := fun k => k = z) (Fr.refl _ _) rfl 0 _
  refine (rat_norm z g1 g2 N D u v _ h1.set0 (h2.far F (by show ¬ g1 = z; omega)) (h3.far F (by show ¬ g2 = z; omega)) h10 s1 s2 s3 s4 s5 s6).mono ?_
  rintro e w' ⟨u', v', rfl, r1, r2, r3, r4⟩
  refine ⟨u', v', rfl, r1, r2, r3, r4.cellv (F.cellv h4 (by show ¬ st = z; omega)) (by show ¬ (st = z ∨ st = g1 ∨ st = g2); omega), ?_⟩
  exact (h5.trans F).call r4 (fun k hk => by omega)

/-- What Rat.SetString leaves of the Rat z: the fraction N / D in lowest terms. -/
def RatRes (N D z : Nat) (w : World) (e : Ending) (w' : World) : Prop :=
  ∃ (u v : Value) (g1 g2 : Nat), e = .returned (.tuple #[.pointer (some ⟨z, 0, none⟩), .bool true]) ∧ Rz w' z u v ∧ NW w' g1 u (N / Nat.gcd N D) ∧ NW w' g2 v (D / Nat.gcd N D) ∧ Fr (fun k => k = z) w w'

end Go.Proofs.YtgpoplfgngiilaaGreatDoor
namespace Go.Proofs.YtgpoplfgngiilaaGreatDoor
set_option linter.unusedVariables false
set_option linter.unusedSimpArgs false
open Go.RowKit Go.Proofs.YtgpoplfgngiilaaGreatDoorW.PrintWords Go.Proofs.YtgpoplfgngiilaaGreatDoorW.PrintLast Go.Proofs.YtgpoplfgngiilaaGreatDoorW.PrintMore

/-- A value of the package that is the fraction n / d. -/
def RatVal (n d : Nat) (w : World) (e : Ending) (w' : World) : Prop :=
  ∃ (z : Nat) (A B : Option Addr) (c b : Nat), e = .returned (.iface 126 (.agg #[.pointer (some ⟨z, 0, none⟩)])) ∧ Rz w' z (.slice A (lits 18446744073709551616 n).length c) (.slice B (lits 18446744073709551616 d).length b) ∧ Kd.C (Kd.int .u64) w' A (lits 18446744073709551616 n).length (lits 18446744073709551616 n) ∧ Kd.C (Kd.int .u64) w' B (lits 18446744073709551616 d).length (lits 18446744073709551616 d) ∧ Below w.heap.size w w'

/-- Float.SetString and Rat.SetString read this text. -/
def HexText (s : ByteArray) (m N D : Nat) (te : TypeId) (pe : Value) : Prop :=
  (∀ z w, z ≠ 1 → Fz w z 0 (.slice none 0 0) 0 → w.cell? ⟨1, 0, none⟩ = some (.iface te pe) → Calls Tryz.prog 69 #[.pointer (some ⟨z, 0, none⟩), .string s] w fun e w' => e = .returned (.tuple #[.pointer (some ⟨z, 0, none⟩), .bool true]) ∧ FlNum m z w w') ∧
  (0 < m → ∀ z w, z ≠ 1 → Rz w z (.slice none 0 0) (.slice none 0 0) → w.cell? ⟨1, 0, none⟩ = some (.iface te pe) → Calls Tryz.prog 73 #[.pointer (some ⟨z, 0, none⟩), .string s] w (RatRes N D z w)) ∧
  (m = 0 → N = 0) ∧ 0 < D

set_option maxHeartbeats 4000000 in
set_option maxRecDepth 1000000 in
theorem make_float (s : ByteArray) (m N D : Nat) (te : TypeId) (pe : Value) (hT : HexText s m N D te pe) (hq : ∀ W, (binOp .eql 85 (.iface te pe) (.iface te pe)).run Tryz.prog W = .ok (.bool true) W) (hq2 : ∀ W, (binOp .neq 85 (.iface te pe) (.iface te pe)).run Tryz.prog W = .ok (.bool false) W)
    (w : World) (hE : w.cell? ⟨1, 0, none⟩ = some (.iface te pe)) : Calls Tryz.prog 46 #[.string s] w (RatVal (lowN N D) (lowD N D) w) := by
  have h1 : 1 < w.heap.size := World.block_lt_of_cell? w _ hE
  have HE := Aside0.mk hE
  have HL := Aside0.mk h1
  have HT := Aside0.mk hT
  clear hE h1 hT
  rcases Nat.eq_zero_or_pos m with hm | hm
  · have H0 := Aside0.mk (fun z W hz hr he => rat_set0 ⟨#[48]⟩ rfl rfl te pe hq hq2 z W hz hr he)
    have HM := Aside0.mk hm
    clear hq hq2 hm
    go_enter Tryz.func46, Tryz.ntmps46
    go_wp2_with (first
      | (go_at_call 68; go_must (refine (new_float _).mono ?_); rintro e w1 ⟨rfl, hz1, hf1⟩; have HZ1 := Aside0.mk hz1; have HF1 := Aside0.mk hf1; clear hz1 hf1)
      | (go_at_call 69; go_must (refine (HT.out.1 w.heap.size _ (by have := HL.out; omega) HZ1.out (HF1.out.cellv HE.out (fun h => h))).mono ?_); rintro e w2 ⟨rfl, f, x', v, hf, hx1, hx2, hz2, hf2⟩; obtain ⟨rfl, rfl⟩ : f = 0 ∧ x' = 0 := (hf.elim (fun h => h.2) (fun h => by have := HM.out; omega)); have HZ2 := Aside0.mk hz2; have HF2 := Aside0.mk ((HF1.out.mono (S' := fun k => k = w.heap.size) (fun _ h => h.elim)).trans hf2); clear hf hx1 hx2 hz2 hf2)
      | (go_at_call 70; go_must (refine (float_small w.heap.size 0 0 v _ HZ2.out (Or.inl ⟨rfl, rfl⟩) (by omega)).mono ?_); rintro e w' ⟨rfl, rfl⟩)
      | (go_at_call 71; go_must (refine (float_sign w.heap.size 0 0 v _ HZ2.out (Or.inl rfl)).mono ?_); rintro e w' ⟨rfl, rfl⟩)
      | (go_at_call 72; go_must (refine (new_rat _).mono ?_); rintro e w3 ⟨rfl, hz3, hf3⟩; have HZ3 := Aside0.mk hz3; have HF3 := Aside0.mk (HF2.out.trans (hf3.mono (fun _ h => h.elim))); clear hz3 hf3)
      | (go_at_call 73; go_must (refine (H0.out w2.heap.size _ (by have := HL.out; have := HF2.out.size; omega) HZ3.out (HF3.out.cellv HE.out (by have := HL.out; show ¬ 1 = w.heap.size; omega))).mono ?_); rintro e w4 ⟨v4, g4, rfl, h1, h2, h3, h4⟩; have H4 := Aside0.mk (And.intro h1 (And.intro h2 (And.intro h3 h4))); clear h1 h2 h3 h4))
    go_ret
    obtain ⟨k1, k2, k3, k4⟩ := H4.out
    have hN := HT.out.2.2.1 HM.out
    obtain ⟨l1, l2⟩ := low_zero D HT.out.2.2.2
    rw [hN, l1, l2]
    obtain ⟨B, b, rfl, hC⟩ := NW_C k3
    refine ⟨w2.heap.size, none, B, 0, b, rfl, by rw [lits_zero]; exact k1, by rw [lits_zero]; exact C_nil none, hC, ?_⟩
    have s2 := HF2.out.size
    exact (HF3.out.call k4 (fun k hk => Or.inr (by omega))).toBelow (Nat.le_refl _) (fun k hk => by omega)
  · have H0 := Aside0.mk (HT.out.2.1 hm)
    have HM := Aside0.mk hm
    clear hq hq2 hm
    go_enter Tryz.func46, Tryz.ntmps46
    go_wp2_with (first
      | (go_at_call 68; go_must (refine (new_float _).mono ?_); rintro e w1 ⟨rfl, hz1, hf1⟩; have HZ1 := Aside0.mk hz1; have HF1 := Aside0.mk hf1; clear hz1 hf1)
      | (go_at_call 69; go_must (refine (HT.out.1 w.heap.size _ (by have := HL.out; omega) HZ1.out (HF1.out.cellv HE.out (fun h => h))).mono ?_); rintro e w2 ⟨rfl, f, x', v, hf, hx1, hx2, hz2, hf2⟩; obtain rfl : f = 1 := (hf.elim (fun h => by have := HM.out; omega) (fun h => h.2)); have HZ2 := Aside0.mk hz2; have HX := Aside0.mk (And.intro hx1 hx2); have HF2 := Aside0.mk ((HF1.out.mono (S' := fun k => k = w.heap.size) (fun _ h => h.elim)).trans hf2); clear hf hx1 hx2 hz2 hf2)
      | (go_at_call 70; go_must (refine (float_small w.heap.size 1 x' v _ HZ2.out (Or.inr rfl) HX.out).mono ?_); rintro e w' ⟨rfl, rfl⟩)
      | (go_at_call 71; go_must (refine (float_sign w.heap.size 1 x' v _ HZ2.out (Or.inr rfl)).mono ?_); rintro e w' ⟨rfl, rfl⟩)
      | (go_at_call 72; go_must (refine (new_rat _).mono ?_); rintro e w3 ⟨rfl, hz3, hf3⟩; have HZ3 := Aside0.mk hz3; have HF3 := Aside0.mk (HF2.out.trans (hf3.mono (fun _ h => h.elim))); clear hz3 hf3)
      | (go_at_call 73; go_must (refine (H0.out w2.heap.size _ (by have := HL.out; have := HF2.out.size; omega) HZ3.out (HF3.out.cellv HE.out (by have := HL.out; show ¬ 1 = w.heap.size; omega))).mono ?_); rintro e w4 ⟨u4, v4, g1, g2, rfl, h1, h2, h3, h4⟩; have H4 := Aside0.mk (And.intro h1 (And.intro h2 (And.intro h3 h4))); clear h1 h2 h3 h4))
    go_ret
    obtain ⟨k1, k2, k3, k4⟩ := H4.out
    obtain ⟨A, a, rfl, hC1⟩ := NW_C k2
    obtain ⟨B, b, rfl, hC2⟩ := NW_C k3
    have s2 := HF2.out.size
    exact ⟨w2.heap.size, A, B, a, b, rfl, k1, hC1, hC2, (HF3.out.call k4 (fun k hk => Or.inr (by omega))).toBelow (Nat.le_refl _) (fun k hk => by omega)⟩

set_option maxHeartbeats 4000000 in
set_option maxRecDepth 1000000 in
theorem mfl_float (s : ByteArray) (n d : Nat) (w : World) (hM : Calls Tryz.prog 46 #[.string s] w (RatVal n d w)) :
    Calls Tryz.prog 27 #[.string s, .int .i64 6, .int .u64 0] w (RatVal n d w) := by
  have HM := Aside0.mk hM
  clear hM
  go_enter Tryz.func27, Tryz.ntmps27
  go_wp2_with (go_at_call 46; go_must (refine HM.out.mono ?_); rintro e w1 ⟨z, A, B, c, b, rfl, h1⟩; have H1 := Aside0.mk h1; clear h1)
  go_ret
  exact ⟨z, A, B, c, b, rfl, H1.out⟩
end Go.Proofs.YtgpoplfgngiilaaGreatDoor
namespace Go.Proofs.YtgpoplfgngiilaaGreatDoor
set_option linter.unusedVariables false
set_option linter.unusedSimpArgs false
open Go.RowKit Go.Proofs.YtgpoplfgngiilaaGreatDoorW.PrintWords Go.Proofs.YtgpoplfgngiilaaGreatDoorW.PrintLast Go.Proofs.YtgpoplfgngiilaaGreatDoorW.PrintMore

set_option maxHeartbeats 4000000 in
set_option maxRecDepth 1000000 in
theorem literal_float (s : ByteArray) (n d : Nat) (w : World) (hn : Few n) (hd : Few d) (hd0 : 0 < d) (hM : ∀ W, Below w.heap.size w W → Calls Tryz.prog 27 #[.string s, .int .i64 6, .int .u64 0] W (RatVal n d W)) :
    Calls Tryz.prog 11 #[.string s, .int .i64 1] w (ToldRat n d w) := by
  have HM := Aside0.mk hM
  have HLN := Aside0.mk (show (lits 18446744073709551616 n).length < 17592186044416 ∧ (lits 18446744073709551616 d).length < 17592186044416 ∧ 0 < (lits 18446744073709551616 d).length from ⟨Nat.lt_of_le_of_lt hn (by decide), Nat.lt_of_le_of_lt hd (by decide), wl_pos hd0⟩)
  clear hM hn hd hd0
  unfold ToldRat FlV at *
  have HB0 := Aside0.mk (show Below w.heap.size w ((w.alloc (Obj.cells #[.int .i64 0, .bool false, .string ⟨#[]⟩, .bool false, .slice none 0 0, .slice none 0 0, .bool false, .slice none 0 0, .slice none 0 0] 26)).alloc (Obj.cells #[.int .i64 5, .int .i64 6, .int .i64 7, .int .i64 8, .int .i64 9] 63)) from ((Below.refl w.heap.size w).alloc (Nat.le_refl _) _).alloc (by simp) _)
  go_enter Tryz.func11, Tryz.ntmps11
  go_wp2_with (first | (go_at_call 27; go_must (refine (HM.out _ HB0.out).mono ?_); rintro e w1 ⟨z, A, B, c, b, rfl, hz, hc, hd, hB⟩; have HB1 := Aside0.mk hB; have HT1 := Aside0.mk (And.intro hz (And.intro hc hd)); clear hB hz hc hd) | (go_at_call 26; go_must (refine (told_rat z A B c b _ _ _ HLN.out.1 HLN.out.2.1 HLN.out.2.2 HT1.out.1 HT1.out.2.1 HT1.out.2.2).mono ?_); rintro e w2 ⟨u, v, rfl, hR, hR2, hB⟩; have HR2 := Aside0.mk hR2; have HR := Aside0.mk hR; have HBB := Aside0.mk (HB1.out.trans (hB.mono HB1.out.size)); have hz := HBB.out.size; simp only [World.size_alloc] at hz; have hz0 : w.heap.size < w2.heap.size := (by omega); have HB2 := Aside0.mk hB; clear hB hR hR2; obtain ⟨Av, cv, rfl, -⟩ := Kd.R_reads HR.out; obtain ⟨Au, cu, rfl, -⟩ := Kd.R_reads HR2.out; have e0 : w2.cell? ⟨w.heap.size, 0, none⟩ = some (.int .i64 0) := ((HBB.out.cell (p := ⟨w.heap.size, 0, none⟩) (by simp; omega)).trans (by go_simp)); have f0 : w2.frozen? ⟨w.heap.size, 0, none⟩ = false := ((HBB.out.frozen (p := ⟨w.heap.size, 0, none⟩) (by simp; omega)).trans (by go_simp)); have e1 : w2.cell? ⟨w.heap.size, 1, none⟩ = some (.bool false) := ((HBB.out.cell (p := ⟨w.heap.size, 1, none⟩) (by simp; omega)).trans (by go_simp)); have f1 : w2.frozen? ⟨w.heap.size, 1, none⟩ = false := ((HBB.out.frozen (p := ⟨w.heap.size, 1, none⟩) (by simp; omega)).trans (by go_simp)); have e2 : w2.cell? ⟨w.heap.size, 2, none⟩ = some (.string ⟨#[]⟩) := ((HBB.out.cell (p := ⟨w.heap.size, 2, none⟩) (by simp; omega)).trans (by go_simp)); have f2 : w2.frozen? ⟨w.heap.size, 2, none⟩ = false := ((HBB.out.frozen (p := ⟨w.heap.size, 2, none⟩) (by simp; omega)).trans (by go_simp)); have e3 : w2.cell? ⟨w.heap.size, 3, none⟩ = some (.bool false) := ((HBB.out.cell (p := ⟨w.heap.size, 3, none⟩) (by simp; omega)).trans (by go_simp)); have f3 : w2.frozen? ⟨w.heap.size, 3, none⟩ = false := ((HBB.out.frozen (p := ⟨w.heap.size, 3, none⟩) (by simp; omega)).trans (by go_simp)); have e4 : w2.cell? ⟨w.heap.size, 4, none⟩ = some (.slice none 0 0) := ((HBB.out.cell (p := ⟨w.heap.size, 4, none⟩) (by simp; omega)).trans (by go_simp)); have f4 : w2.frozen? ⟨w.heap.size, 4, none⟩ = false := ((HBB.out.frozen (p := ⟨w.heap.size, 4, none⟩) (by simp; omega)).trans (by go_simp)); have e5 : w2.cell? ⟨w.heap.size, 5, none⟩ = some (.slice none 0 0) := ((HBB.out.cell (p := ⟨w.heap.size, 5, none⟩) (by simp; omega)).trans (by go_simp)); have f5 : w2.frozen? ⟨w.heap.size, 5, none⟩ = false := ((HBB.out.frozen (p := ⟨w.heap.size, 5, none⟩) (by simp; omega)).trans (by go_simp)); have e6 : w2.cell? ⟨w.heap.size, 6, none⟩ = some (.bool false) := ((HBB.out.cell (p := ⟨w.heap.size, 6, none⟩) (by simp; omega)).trans (by go_simp)); have f6 : w2.frozen? ⟨w.heap.size, 6, none⟩ = false := ((HBB.out.frozen (p := ⟨w.heap.size, 6, none⟩) (by simp; omega)).trans (by go_simp)); have e7 : w2.cell? ⟨w.heap.size, 7, none⟩ = some (.slice none 0 0) := ((HBB.out.cell (p := ⟨w.heap.size, 7, none⟩) (by simp; omega)).trans (by go_simp)); have f7 : w2.frozen? ⟨w.heap.size, 7, none⟩ = false := ((HBB.out.frozen (p := ⟨w.heap.size, 7, none⟩) (by simp; omega)).trans (by go_simp)); have e8 : w2.cell? ⟨w.heap.size, 8, none⟩ = some (.slice none 0 0) := ((HBB.out.cell (p := ⟨w.heap.size, 8, none⟩) (by simp; omega)).trans (by go_simp)); have f8 : w2.frozen? ⟨w.heap.size, 8, none⟩ = false := ((HBB.out.frozen (p := ⟨w.heap.size, 8, none⟩) (by simp; omega)).trans (by go_simp))))
  refine bodyPost_ret (v := .agg #[.int .i64 4, .bool false, .string ⟨#[]⟩, .bool false, .slice Av (lits 18446744073709551616 n).length cv, .slice Au (lits 18446744073709551616 d).length cu, .bool false, .slice none 0 0, .slice none 0 0]) (by simp [results, Tryz.results11, go_sem, e0, e1, e2, e3, e4, e5, e6, e7, e8]) rfl ⟨_, _, rfl, ?_, ?_, ?_⟩
  · refine R_after (N := w.heap.size + 2) HR.out (by have := HB1.out.size; simpa using this) (by have := HB1.out.size; simp at this; omega) ?_
    intro k h1 h2
    repeat (refine hk_set (by simp; omega) ?_)
    rfl
  · refine R_after (N := w.heap.size + 2) HR2.out (by have := HB1.out.size; simpa using this) (by have := HB1.out.size; simp at this; omega) ?_
    intro k h1 h2
    repeat (refine hk_set (by simp; omega) ?_)
    rfl
  · have hb0 : Below w.heap.size w w2 := HB0.out.trans (HBB.out.mono (by simp; omega))
    repeat (refine Below.setCell ?_ (by simp) _)
    exact hb0
end Go.Proofs.YtgpoplfgngiilaaGreatDoor
