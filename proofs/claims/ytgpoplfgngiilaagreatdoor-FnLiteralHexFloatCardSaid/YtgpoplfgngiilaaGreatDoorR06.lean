/- FnLiteralHexFloat, behind its card (N1 N2 N3 N4 N5 N6 N7 R1 R2 S1 T1 D2 A3 C1 A4 T2). -/
import Derived.Test.YtgpoplfgngiilaaGreatDoorR05
import Derived.Test.YtgpoplfgngiilaaGreatDoorR04
import Derived.Test.YtgpoplfgngiilaaGreatDoorProg
import Derived.Shelf.Spec.BitsCarry
import Derived.Outline
import Derived.BigQuiet
import Derived.Lib.ConvBytes
import Derived.Lib.Strings
import Derived.WalkSpells
import Derived.WalkLawsBesides
import Derived.BigCall
import Derived.BigGuard
import Derived.Deep.RegionWith
import Derived.WalkKit
import Derived.Deep.RegionHeld3
import Derived.Deep.DeepCutAuto
import Derived.Deep.QuietTactic
set_option linter.unusedVariables false
set_option linter.unusedSimpArgs false
namespace Go.Proofs.YtgpoplfgngiilaaGreatDoor
open Go.RowKit Go.Proofs.YtgpoplfgngiilaaGreatDoorW.PrintWords

theorem add64_run (x y c : Nat) (hx : x < 18446744073709551616) (hy : y < 18446744073709551616) (hc : c ≤ 1) (w : World) :
    (callFunc 267 #[.int .u64 x, .int .u64 y, .int .u64 c]).run Tryz.prog w =
      .ok (.value (.tuple #[.int .u64 (((x + y + c) % 18446744073709551616 : Nat) : Int), .int .u64 (((x + y + c) / 18446744073709551616 : Nat) : Int)])) w := by
  rw [run_callFunc_extern Tryz.func267 (by kernel_rfl) (by kernel_rfl) (by kernel_rfl) (e := add64Entry) (by kernel_rfl), run_add64 x y c (by omega) (by omega) (by omega) (by omega)]
  simp only [Result.andThen]
  congr 5 <;> omega

theorem sub64_run (x y b : Nat) (hb : b ≤ 1) (w : World) :
    (callFunc 286 #[.int .u64 x, .int .u64 y, .int .u64 b]).run Tryz.prog w =
      .ok (.value (.tuple #[.int .u64 (((x + 18446744073709551616 - y - b) % 18446744073709551616 : Nat) : Int), .int .u64 ((if x < y + b then 1 else 0 : Nat) : Int)])) w := by
  rw [run_callFunc_extern Tryz.func286 (by kernel_rfl) (by kernel_rfl) (by kernel_rfl) (e := sub64Entry) (by kernel_rfl), run_sub64 x y b hb]
  rfl

set_option maxHeartbeats 2000000 in
set_option maxRecDepth 1000000 in
theorem bits_Add (x y c : Nat) (hx : x < 18446744073709551616) (hy : y < 18446744073709551616) (hc : c ≤ 1) (w : World) :
    Calls Tryz.prog 240 #[.int .u64 x, .int .u64 y, .int .u64 c] w fun e w' =>
      e = .returned (.tuple #[.int .u64 (((x + y + c) % 18446744073709551616 : Nat) : Int), .int .u64 (((x + y + c) / 18446744073709551616 : Nat) : Int)]) ∧ w' = w := by
  have h := fun w => add64_run x y c hx hy hc w
  generalize (((x + y + c) % 18446744073709551616 : Nat) : Int) = lo at *
  generalize (((x + y + c) / 18446744073709551616 : Nat) : Int) = hi at *
  generalize (x : Int) = X at *
  generalize (y : Int) = Y at *
  generalize (c : Int) = C at *
  clear hx hy hc
  go_enter Tryz.func240, Tryz.ntmps240
  go_wp2_with (simp only [h])
  go_ret2
  exact ⟨rfl, rfl⟩

end Go.Proofs.YtgpoplfgngiilaaGreatDoor
namespace Go.Proofs.YtgpoplfgngiilaaGreatDoor
open Go.RowKit Go.Proofs.YtgpoplfgngiilaaGreatDoorW.PrintWords

/-- Block g is a row of these words. -/
def Nb (w : World) (g : Nat) (ys : List Int) : Prop := w.heap[g]? = some (.cells (ys.map (Value.int .u64)).toArray 167 (0, 0))

theorem Nb.lt {w : World} {g : Nat} {ys : List Int} (h : Nb w g ys) : g < w.heap.size := (Array.getElem?_eq_some_iff.1 h).1
theorem Nb.far {S : Nat → Prop} {w w' : World} {g : Nat} {ys : List Int} (h : Nb w g ys) (hf : Fr S w w') (hn : ¬ S g) : Nb w' g ys := (hf.block g h.lt hn).trans h
theorem Nb.cell {w : World} {g : Nat} {ys : List Int} (h : Nb w g ys) (i : Nat) (hi : i < ys.length) : w.cell? ⟨g, i, none⟩ = some (.int .u64 (ys[i]'hi)) := by
  rw [cell_of_row w g i _ 167 (0, 0) h]
  simp [List.getElem?_eq_getElem hi]
theorem Nb.frozen {w : World} {g : Nat} {ys : List Int} (h : Nb w g ys) (i : Nat) : w.frozen? ⟨g, i, none⟩ = false := blk_frozen h i
theorem Nb.set {w : World} {g : Nat} {ys : List Int} (h : Nb w g ys) (i : Nat) (x : Int) : Nb (w.setCell ⟨g, i, none⟩ (.int .u64 x)) g (ys.set i x) := by
  have := blk_set h i (.int .u64 x)
  unfold Nb
  rw [this]
  simp [List.map_set]

end Go.Proofs.YtgpoplfgngiilaaGreatDoor
namespace Go.Proofs.YtgpoplfgngiilaaGreatDoor
open Go.RowKit Go.Proofs.YtgpoplfgngiilaaGreatDoorW.PrintWords

/-- Where the factor's words lie: in the row itself, or in another one. -/
def XAt (w : World) (gz gx : Nat) (xs zs : List Int) : Prop := (gx = gz ∧ zs.take xs.length = xs) ∨ (gx ≠ gz ∧ ∃ xa, Nb w gx xa ∧ xa.take xs.length = xs)

theorem take_get {xs zs : List Int} (h : zs.take xs.length = xs) (i : Nat) (hi : i < xs.length) : ∃ hz : i < zs.length, zs[i]'hz = xs[i]'hi := by
  have hl : i < (zs.take xs.length).length := by rw [h]; exact hi
  have hz : i < zs.length := by simp at hl; omega
  refine ⟨hz, ?_⟩
  have := List.getElem_take (xs := zs) (j := xs.length) (i := i) (h := hl)
  rw [← this]
  simp [h]

end Go.Proofs.YtgpoplfgngiilaaGreatDoor
namespace Go.Proofs.YtgpoplfgngiilaaGreatDoor
open Go.RowKit Go.Proofs.YtgpoplfgngiilaaGreatDoorW.PrintWords
attribute [local go_sem] mk_nat_1

theorem made_zero (c : Nat) : madeCells (Value.int .u64 0).cells (c * 1) = Array.replicate c (Value.int .u64 0) := by
  rw [Nat.mul_one]
  apply Array.ext
  · simp [madeCells]
  · intro i h1 h2
    simp [madeCells, Value.cells, Nat.mod_one]
theorem mk_nat (n c : Nat) (h : n ≤ c) (hc : c ≤ 1000000) (w : World) : (Instr.makeSlice 114 (.int .i64 n) (.int .i64 c)).run Tryz.prog w =
    .ok (.slice (some ⟨w.heap.size, 0, none⟩) n c) (w.alloc (.cells (Array.replicate c (Value.int .u64 0)) 167)) := by
  have hb : ((8 : Nat) : Int) * (c : Int) ≤ 281474976710656 := by omega
  have h1 := run_make (P := Tryz.prog) w 114 167 Tryz.t167 (.int .u64 0) Tryz.underlying114 (by kernel_rfl) (by kernel_rfl) .i64 .i64 (n : Int) (c : Int) (by omega) (by omega) hb (by omega)
  rw [h1, Int.toNat_natCast, Int.toNat_natCast]
  rw [show c * Tryz.t167.size = c * 1 from rfl, made_zero]
theorem nb_new (c : Nat) (w : World) : Nb (w.alloc (.cells (Array.replicate c (Value.int .u64 0)) 167)) w.heap.size (List.replicate c 0) := by
  unfold Nb
  rw [heap_alloc_new]
  simp

set_option maxHeartbeats 2000000 in
set_option maxRecDepth 1000000 in
theorem make_reuse (A : Option Addr) (l c n : Nat) (hn : n ≤ c) (w : World) :
    Calls Tryz.prog 130 #[.slice A l c, .int .i64 n] w fun e w' => e = .returned (.slice A n c) ∧ w = w' := by
  go_enter Tryz.func130, Tryz.ntmps130
  go_wp2_with fail
  go_ret
  exact ⟨rfl, rfl⟩

set_option maxHeartbeats 2000000 in
set_option maxRecDepth 1000000 in
theorem make_one (A : Option Addr) (l : Nat) (w : World) :
    Calls Tryz.prog 130 #[.slice A l 0, .int .i64 1] w fun e w' => e = .returned (.slice (some ⟨w.heap.size, 0, none⟩) 1 1) ∧ w' = w.alloc (.cells #[.int .u64 0] 167) := by
  go_enter Tryz.func130, Tryz.ntmps130
  go_wp2_with fail
  go_ret
  exact ⟨rfl, rfl⟩

set_option maxHeartbeats 2000000 in
set_option maxRecDepth 1000000 in
theorem make_new (A : Option Addr) (l c n k : Nat) (hk0 : k = n + 4) (hn : c < n) (hn1 : 2 ≤ n) (hn2 : n ≤ 100000) (w : World) :
    Calls Tryz.prog 130 #[.slice A l c, .int .i64 n] w fun e w' => e = .returned (.slice (some ⟨w.heap.size, 0, none⟩) n k) ∧ w' = w.alloc (.cells (Array.replicate k (Value.int .u64 0)) 167) := by
  have hk := mk_nat n k (by omega) (by omega) w
  rw [show ((k : Nat) : Int) = (n : Int) + 4 by omega] at hk
  clear hk0
  go_enter Tryz.func130, Tryz.ntmps130
  go_wp2_with fail
  go_ret
  exact ⟨rfl, rfl⟩
end Go.Proofs.YtgpoplfgngiilaaGreatDoor
namespace Go.Proofs.YtgpoplfgngiilaaGreatDoor
open Go.RowKit Go.Proofs.YtgpoplfgngiilaaGreatDoorW.PrintWords

theorem norm_zero {ys : List Int} {i : Nat} (hi : i < ys.length) (h0 : ys[i]'hi = 0) : valL 18446744073709551616 (ys.take (i + 1)) = valL 18446744073709551616 (ys.take i) := by
  rw [List.take_add_one, List.getElem?_eq_getElem hi, h0]
  exact lits_snoc_zero 18446744073709551616 _
theorem norm_last {ys : List Int} {i : Nat} (hi : i < ys.length) (hR : InR 18446744073709551616 ys) (h0 : ys[i]'hi ≠ 0) : lits 18446744073709551616 (valL 18446744073709551616 (ys.take (i + 1))) = ys.take (i + 1) := by
  have ht : ys.take (i + 1) = ys.take i ++ [ys[i]'hi] := by rw [List.take_add_one, List.getElem?_eq_getElem hi]; rfl
  have hx := hR _ (List.getElem_mem hi)
  rw [ht]
  refine lits_of_last 18446744073709551616 (by decide) _ _ ?_ (by omega)
  rw [← ht]
  exact fun z hz => hR z (List.mem_of_mem_take hz)

def NRel (ys : List Int) (n kq : Nat) (v3 : Value) (w w' : World) : Prop := ∃ i : Nat, v3 = .int .i64 i ∧ Aside0 (i ≤ n ∧ kq = i ∧ valL 18446744073709551616 (ys.take i) = valL 18446744073709551616 (ys.take n)) ∧ Aside0 (w = w')

set_option maxHeartbeats 2000000 in
set_option maxRecDepth 1000000 in
theorem norm_calls (g c n : Nat) (ys : List Int) (w : World) (hn : n ≤ ys.length) (hc : n ≤ c) (hn2 : n ≤ 1000000) (hR : InR 18446744073709551616 ys) (hZ : Nb w g ys) :
    Calls Tryz.prog 134 #[.slice (some ⟨g, 0, none⟩) n c] w fun e w' => ∃ n' : Nat, e = .returned (.slice (some ⟨g, 0, none⟩) n' c) ∧ n' ≤ n ∧ ys.take n' = lits 18446744073709551616 (valL 18446744073709551616 (ys.take n)) ∧ w = w' := by
  have HR := Aside0.mk hR
  have HZ := Aside0.mk hZ
  have HN := Aside0.mk hn
  clear hR hZ hn
  go_enter Tryz.func134, Tryz.ntmps134
  go_wp2_with fail
  go_loopg [3] n (fun kq v3 w' => NRel ys n kq v3 w w')
  case atStart => exact ⟨n, rfl, ⟨by omega, rfl, rfl⟩, ⟨rfl⟩⟩
  case round =>
    obtain ⟨i, rfl, HI, HW⟩ := hrel
    obtain rfl := HW.out
    have hin : i ≤ n := HI.out.1
    cases i with
    | zero =>
      have hb : decide ((0 : Int) > 0) = false := by decide
      go_wp2_with fail
      go_ret
      refine ⟨0, rfl, by omega, ?_, rfl⟩
      rw [← HI.out.2.2]
      simp [valL, lits_zero]
    | succ j =>
      have hj : j < ys.length := by have := HN.out; omega
      have hcell := HZ.out.cell j hj
      have hb : decide (((j + 1 : Nat) : Int) > 0) = true := by simp
      by_cases h0 : ys[j]'hj = 0
      · rw [h0] at hcell
        have HV := Aside0.mk ((norm_zero hj h0).symm.trans HI.out.2.2)
        clear h0
        go_wp2_with fail
        go_roundg (gk - 1)
        case measure => have := HI.out; omega
        case rel => exact ⟨j, by go_num, ⟨by omega, by have := HI.out; omega, HV.out⟩, ⟨rfl⟩⟩
      · have HV := Aside0.mk (norm_last hj HR.out h0)
        obtain ⟨x, hx⟩ : ∃ x, ys[j]'hj = x := ⟨_, rfl⟩
        rw [hx] at hcell h0
        have hne : (x == 0) = false := beq_false_of_ne h0
        clear hx
        go_wp2_with fail
        go_ret
        exact ⟨j + 1, rfl, hin, by rw [← HI.out.2.2, HV.out], rfl⟩
end Go.Proofs.YtgpoplfgngiilaaGreatDoor
namespace Go.Proofs.YtgpoplfgngiilaaGreatDoor
open Go.RowKit Go.Proofs.YtgpoplfgngiilaaGreatDoorW.PrintWords

/-- A slice of words in a row of its own, from block base on. -/
def NV (base : Nat) (w : World) (v : Value) (xs : List Int) : Prop :=
  (v = .slice none 0 0 ∧ xs = []) ∨ ∃ g ys, base ≤ g ∧ v = .slice (some ⟨g, 0, none⟩) xs.length ys.length ∧ Nb w g ys ∧ ys.take xs.length = xs ∧ InR 18446744073709551616 ys ∧ ys.length ≤ 9223372036854775807

theorem NV.fr {base : Nat} {w w' : World} {v : Value} {xs : List Int} {S : Nat → Prop} (h : NV base w v xs) (hf : Fr S w w') (hs : ∀ k, S k → k < base) : NV base w' v xs := by
  rcases h with h | ⟨g, ys, h1, h2, h3, h4⟩
  · exact Or.inl h
  · exact Or.inr ⟨g, ys, h1, h2, h3.far hf (fun h => by have := hs g h; omega), h4⟩

theorem InR_append {B : Nat} {xs ys : List Int} (h1 : InR B xs) (h2 : InR B ys) : InR B (xs ++ ys) := fun z hz => by
  rcases List.mem_append.1 hz with h | h
  · exact h1 z h
  · exact h2 z h
theorem InR_drop {B : Nat} {xs : List Int} (h : InR B xs) (n : Nat) : InR B (xs.drop n) := fun z hz => h z (List.mem_of_mem_drop hz)
theorem InR_replicate (n : Nat) : InR 18446744073709551616 (List.replicate n 0) := fun z hz => by
  obtain ⟨_, rfl⟩ := List.mem_replicate.1 hz
  decide

set_option maxHeartbeats 800000 in
set_option maxRecDepth 1000000 in
theorem setWord_nil (r : Nat) (hr0 : 0 < r) (hr : r < 18446744073709551616) (base : Nat) (w : World) (hb : base ≤ w.heap.size) :
    Calls Tryz.prog 117 #[.slice none 0 0, .int .u64 r] w fun e w' => ∃ v, e = .returned v ∧ NV base w' v [(r : Int)] ∧ Below base w w' := by
  have hy2 : ((r : Int) == 0) = false := beq_false_of_ne (by omega)
  go_enter Tryz.func117, Tryz.ntmps117
  go_wp2_with (go_at_call 130; go_must (refine (make_one none 0 _).mono ?_); rintro e w1 ⟨rfl, rfl⟩)
  go_ret
  refine ⟨_, rfl, Or.inr ⟨w.heap.size, [(r : Int)], hb, rfl, ?_, rfl, ?_, by simp⟩, (Below.refl base w).alloc hb _⟩
  · unfold Nb; rw [heap_alloc_new]; rfl
  · intro z hz
    simp only [List.mem_singleton] at hz
    omega

end Go.Proofs.YtgpoplfgngiilaaGreatDoor
namespace Go.Proofs.YtgpoplfgngiilaaGreatDoor
open Go.RowKit Go.Proofs.YtgpoplfgngiilaaGreatDoorW.PrintWords

def PRel (b N kq : Nat) (v2 v3 : Value) (w w' : World) : Prop := ∃ (i : Nat) (x : Int), v2 = .int .u64 x ∧ v3 = .int .i64 i ∧ Aside0 (1 ≤ i ∧ i ≤ N ∧ kq = N - i ∧ x = ((b ^ i : Nat) : Int)) ∧ Aside0 (w = w')

theorem pow_le10 (i : Nat) (h : i < 19) : ((((10 : Nat) ^ i : Nat)) : Int) ≤ 1000000000000000000 ∧ 0 ≤ ((((10 : Nat) ^ i : Nat)) : Int) := by
  have : 10 ^ i ≤ 10 ^ 18 := Nat.pow_le_pow_right (by decide) (by omega)
  generalize 10 ^ i = p at *
  omega

set_option maxHeartbeats 800000 in
set_option maxRecDepth 1000000 in
theorem maxPow_10 (w : World) : Calls Tryz.prog 149 #[.int .u64 10] w fun e w' => e = .returned (.tuple #[.int .u64 10000000000000000000, .int .i64 19]) ∧ w = w' := by
  have hq : IntKind.u64.wrap (18446744073709551615 / 10) = 1844674407370955161 := by rw [IntKind.wrap_u64]; decide
  have hq2 : IntKind.u64.wrap (Int.tdiv 18446744073709551615 10) = 1844674407370955161 := by rw [IntKind.wrap_u64]; decide
  go_enter Tryz.func149, Tryz.ntmps149
  go_wp2_with fail
  go_loopg [2, 3] 18 (fun kq v2 v3 w' => PRel 10 19 kq v2 v3 w w')
  case atStart => exact ⟨1, 10, rfl, rfl, ⟨by omega, by omega, rfl, rfl⟩, ⟨rfl⟩⟩
  case round =>
    obtain ⟨i, x, rfl, rfl, HI, HW⟩ := hrel
    obtain rfl := HW.out
    by_cases hi : i < 19
    · obtain ⟨hx0, hx1⟩ := pow_le10 i hi
      rw [← HI.out.2.2.2] at hx0 hx1
      have hb : decide (x ≤ 1844674407370955161) = true := decide_eq_true (by omega)
      go_wp2_with fail
      go_roundg (gk - 1)
      case measure => have := HI.out; omega
      case rel => exact ⟨i + 1, x * 10, rfl, by go_num, ⟨by omega, by omega, by have := HI.out; omega, by rw [HI.out.2.2.2, Nat.pow_succ, Int.natCast_mul]; rfl⟩, ⟨rfl⟩⟩
    · obtain rfl : i = 19 := by have := HI.out; omega
      have hx : x = 10000000000000000000 := HI.out.2.2.2
      subst hx
      go_wp2_with fail
      go_ret2
      exact ⟨rfl, rfl⟩

theorem pow_ok (b i : Nat) (h : (b = 2 ∧ i < 64) ∨ (b = 8 ∧ i < 21) ∨ (b = 10 ∧ i < 19) ∨ (b = 16 ∧ i < 16)) : Pr.bigall_pow.f 10 (b : Int) (i : Int) = some ((b ^ i : Nat) : Int) := by
  have h2 : ∀ i : Fin 64, Pr.bigall_pow.f 10 ((2 : Nat) : Int) ((i.val : Nat) : Int) = some (((2 : Nat) ^ i.val : Nat) : Int) := by decide +kernel
  have h8 : ∀ i : Fin 21, Pr.bigall_pow.f 10 ((8 : Nat) : Int) ((i.val : Nat) : Int) = some (((8 : Nat) ^ i.val : Nat) : Int) := by decide +kernel
  have h10 : ∀ i : Fin 19, Pr.bigall_pow.f 10 ((10 : Nat) : Int) ((i.val : Nat) : Int) = some (((10 : Nat) ^ i.val : Nat) : Int) := by decide +kernel
  have h16 : ∀ i : Fin 16, Pr.bigall_pow.f 10 ((16 : Nat) : Int) ((i.val : Nat) : Int) = some (((16 : Nat) ^ i.val : Nat) : Int) := by decide +kernel
  rcases h with ⟨rfl, h⟩ | ⟨rfl, h⟩ | ⟨rfl, h⟩ | ⟨rfl, h⟩
  · exact h2 ⟨i, h⟩
  · exact h8 ⟨i, h⟩
  · exact h10 ⟨i, h⟩
  · exact h16 ⟨i, h⟩
end Go.Proofs.YtgpoplfgngiilaaGreatDoor
namespace Go.Proofs.YtgpoplfgngiilaaGreatDoor
open Go.RowKit Go.Proofs.YtgpoplfgngiilaaGreatDoorW.PrintWords

/-- Block r is a Reader of s that stands at i. -/
def Rd (w : World) (r : Nat) (s : ByteArray) (i : Nat) : Prop := ∃ p : Int, w.heap[r]? = some (.cells #[.string s, .int .i64 i, .int .i64 p] 189 (0, 0))

theorem Rd.far {S : Nat → Prop} {w w' : World} {r : Nat} {s : ByteArray} {i : Nat} (h : Rd w r s i) (hf : Fr S w w') (hn : ¬ S r) : Rd w' r s i := by
  obtain ⟨p, hp⟩ := h
  exact ⟨p, (hf.block r (Go.Proofs.YtgpoplfgngiilaaGreatDoorW.PrintWords.blk_lt hp) hn).trans hp⟩
theorem Rd.lt {w : World} {r : Nat} {s : ByteArray} {i : Nat} (h : Rd w r s i) : r < w.heap.size := by
  obtain ⟨p, hp⟩ := h
  exact Go.Proofs.YtgpoplfgngiilaaGreatDoorW.PrintWords.blk_lt hp
theorem Fr.drewN {S : Nat → Prop} {w w' : World} (h : Fr S w w') (n : Nat) : Fr S w (w'.drewN n) := ⟨h.os, h.tape, h.output, h.size, h.block⟩

theorem fr1 {r o : Nat} {w w' : World} (h : Fr (fun k => k = r) w w') (u : Value) : Fr (fun k => k = r) w (w'.setCell ⟨r, o, none⟩ u) := h.setCell (p := ⟨r, o, none⟩) (Or.inl rfl) u

theorem rd_cells {w : World} {r : Nat} {s : ByteArray} {i : Nat} (h : Rd w r s i) : ∃ p : Int, w.cell? ⟨r, 0, none⟩ = some (.string s) ∧ w.cell? ⟨r, 1, none⟩ = some (.int .i64 i) ∧ w.cell? ⟨r, 2, none⟩ = some (.int .i64 p) ∧
    w.frozen? ⟨r, 0, none⟩ = false ∧ w.frozen? ⟨r, 1, none⟩ = false ∧ w.frozen? ⟨r, 2, none⟩ = false := by
  obtain ⟨p, hp⟩ := h
  exact ⟨p, Go.Proofs.YtgpoplfgngiilaaGreatDoorW.PrintWords.blk_cell hp 0, Go.Proofs.YtgpoplfgngiilaaGreatDoorW.PrintWords.blk_cell hp 1, Go.Proofs.YtgpoplfgngiilaaGreatDoorW.PrintWords.blk_cell hp 2,
    Go.Proofs.YtgpoplfgngiilaaGreatDoorW.PrintWords.blk_frozen hp 0, Go.Proofs.YtgpoplfgngiilaaGreatDoorW.PrintWords.blk_frozen hp 1, Go.Proofs.YtgpoplfgngiilaaGreatDoorW.PrintWords.blk_frozen hp 2⟩

theorem rd_set2 {w : World} {r : Nat} {s : ByteArray} {i : Nat} (h : Rd w r s i) (p : Int) : Rd (w.setCell ⟨r, 2, none⟩ (.int .i64 p)) r s i := by
  obtain ⟨q, hq⟩ := h
  exact ⟨p, blk_set hq 2 _⟩
theorem rd_set1 {w : World} {r : Nat} {s : ByteArray} {i : Nat} (h : Rd w r s i) (j : Nat) : Rd (w.setCell ⟨r, 1, none⟩ (.int .i64 j)) r s j := by
  obtain ⟨q, hq⟩ := h
  exact ⟨q, blk_set hq 1 _⟩
theorem rd_set1' {w : World} {r : Nat} {s : ByteArray} {i : Nat} (h : Rd w r s i) (j : Nat) (x : Int) (hx : x = (j : Int)) : Rd (w.setCell ⟨r, 1, none⟩ (.int .i64 x)) r s j := by
  subst hx
  exact rd_set1 h j
theorem rd_drewN {w : World} {r : Nat} {s : ByteArray} {i : Nat} (h : Rd w r s i) (n : Nat) : Rd (w.drewN n) r s i := h

set_option maxHeartbeats 4000000 in
set_option maxRecDepth 1000000 in
theorem readByte_in (r : Nat) (s : ByteArray) (i : Nat) (hi : i < s.size) (hs : s.size ≤ 1000000) (w : World) (hr : Rd w r s i) :
    Calls Tryz.prog 110 #[.pointer (some ⟨r, 0, none⟩)] w fun e w' => e = .returned (.tuple #[.int .u8 ((s[i]'hi).toNat : Int), .nilIface]) ∧ Rd w' r s (i + 1) ∧ Fr (fun k => k = r) w w' := by
  obtain ⟨p, c0, c1, c2, n0, n1, n2⟩ := rd_cells hr
  have HR := Aside0.mk hr
  clear hr
  go_enter Tryz.func110, Tryz.ntmps110
  go_wp2_with fail
  go_quiet (fail)
  go_wp2_with fail
  go_quiet (fail)
  go_wp2_with fail
  go_ret2
  exact ⟨rfl, rd_set1' (rd_drewN (rd_set2 HR.out _) _) _ _ (by omega), fr1 ((fr1 (Fr.refl _ _) _).drewN _) _⟩

set_option maxHeartbeats 4000000 in
set_option maxRecDepth 1000000 in
theorem readByte_end (r : Nat) (s : ByteArray) (i : Nat) (hi : s.size ≤ i) (w : World) (ev : Value) (hr : Rd w r s i) (hv : w.cell? ⟨1, 0, none⟩ = some ev) :
    Calls Tryz.prog 110 #[.pointer (some ⟨r, 0, none⟩)] w fun e w' => e = .returned (.tuple #[.int .u8 0, ev]) ∧ Rd w' r s i ∧ Fr (fun k => k = r) w w' := by
  obtain ⟨p, c0, c1, c2, n0, n1, n2⟩ := rd_cells hr
  have HR := Aside0.mk hr
  clear hr
  go_enter Tryz.func110, Tryz.ntmps110
  go_wp2_with fail
  go_quiet (fail)
  go_wp2_with fail
  go_quiet (fail)
  go_wp2_with fail
  go_ret2
  exact ⟨rfl, rd_set2 HR.out (-1), (((fr1 (Fr.refl _ _) _).drewN _).drewN _)⟩

set_option maxHeartbeats 4000000 in
set_option maxRecDepth 1000000 in
theorem unreadByte (r : Nat) (s : ByteArray) (i : Nat) (hi : i + 1 ≤ s.size) (hs : s.size ≤ 1000000) (w : World) (hr : Rd w r s (i + 1)) :
    Calls Tryz.prog 347 #[.pointer (some ⟨r, 0, none⟩)] w fun e w' => e = .returned .nilIface ∧ Rd w' r s i ∧ Fr (fun k => k = r) w w' := by
  obtain ⟨p, c0, c1, c2, n0, n1, n2⟩ := rd_cells hr
  have HR := Aside0.mk hr
  clear hr
  go_enter Tryz.func347, Tryz.ntmps347
  go_wp2_with fail
  go_ret
  exact ⟨rfl, rd_set1' (rd_set2 HR.out _) _ _ (by omega), fr1 (fr1 (Fr.refl _ _) _) _⟩
end Go.Proofs.YtgpoplfgngiilaaGreatDoor
namespace Go.Proofs.YtgpoplfgngiilaaGreatDoor
open Go.RowKit Go.Proofs.YtgpoplfgngiilaaGreatDoorW.PrintWords

theorem me_read (v : Value) (w : World) : (method 462 133 v "ReadByte").run Tryz.prog w = .ok (110, v) w := by kernel_rfl
theorem me_unread (v : Value) (w : World) : (method 462 133 v "UnreadByte").run Tryz.prog w = .ok (347, v) w := by kernel_rfl

attribute [local go_sem] me_read me_unread

set_option maxHeartbeats 4000000 in
set_option maxRecDepth 1000000 in
theorem scanSign_none (r : Nat) (s : ByteArray) (hi : 0 < s.size) (hs : s.size ≤ 1000000) (h43 : (s[0]'hi).toNat ≠ 43) (h45 : (s[0]'hi).toNat ≠ 45) (w : World) (hr : Rd w r s 0) :
    Calls Tryz.prog 111 #[.iface 133 (.pointer (some ⟨r, 0, none⟩))] w fun e w' => e = .returned (.tuple #[.bool false, .nilIface]) ∧ Rd w' r s 0 ∧ Fr (fun k => k = r) w w' := by
  have HR := Aside0.mk hr
  obtain ⟨q, H0⟩ : ∃ q : Int, ((s[0]'hi).toNat : Int) = q := ⟨_, rfl⟩
  have g1 : (q == 43) = false := beq_false_of_ne (by omega)
  have g2 : (q == 45) = false := beq_false_of_ne (by omega)
  clear hr h43 h45
  go_enter Tryz.func111, Tryz.ntmps111
  go_wp2_with (first | (go_at_call 110; (refine (readByte_in r s 0 hi hs _ HR.out).mono ?_); rintro e w1 ⟨rfl, hr1, hf1⟩; rw [H0]; have HR1 := Aside0.mk hr1; have HF1 := Aside0.mk hf1; clear hr1 hf1) | (go_at_call 347; (refine (unreadByte r s 0 (by omega) hs _ HR1.out).mono ?_); rintro e w2 ⟨rfl, hr2, hf2⟩; have HR2 := Aside0.mk hr2; have HF2 := Aside0.mk hf2; clear hr2 hf2))
  go_ret2
  exact ⟨rfl, HR2.out, HF1.out.trans HF2.out⟩
end Go.Proofs.YtgpoplfgngiilaaGreatDoor
namespace Go.Proofs.YtgpoplfgngiilaaGreatDoor
open Go.RowKit Go.Proofs.YtgpoplfgngiilaaGreatDoorW.PrintWords

theorem Rd.below {base : Nat} {w w' : World} {r : Nat} {s : ByteArray} {i : Nat} (h : Rd w r s i) (hb : Below base w w') (hr : r < base) : Rd w' r s i := by
  obtain ⟨p, hp⟩ := h
  exact ⟨p, (hb.block r hr).trans hp⟩

theorem pv_take_dig {b k : Nat} {cs : List UInt8} (hk : k < cs.length) (h95 : cs[k]'hk ≠ 95) : pv b 0 (cs.take (k + 1)) = pv b 0 (cs.take k) * b + dval (cs[k]'hk) := by
  rw [List.take_add_one, List.getElem?_eq_getElem hk, pv_append]
  show stepV b _ _ = _
  unfold stepV
  rw [if_neg h95]
theorem pv_take_us {b k : Nat} {cs : List UInt8} (hk : k < cs.length) (h95 : cs[k]'hk = 95) : pv b 0 (cs.take (k + 1)) = pv b 0 (cs.take k) := by
  rw [List.take_add_one, List.getElem?_eq_getElem hk, pv_append, h95]
  rfl
theorem dig_bound {b i d x : Nat} (hd : d < b ^ i) (hx : x < b) : d * b + x < b ^ (i + 1) := by
  rw [Nat.pow_succ]
  have : (d + 1) * b ≤ b ^ i * b := Nat.mul_le_mul_right b hd
  rw [Nat.add_mul] at this
  omega
theorem scan_dig {b i d x X P P' : Nat} (h : X * b ^ i + d = P) (hP : P' = P * b + x) : X * b ^ (i + 1) + (d * b + x) = P' := by
  rw [hP, ← h, Nat.add_mul, Nat.pow_succ, Nat.mul_assoc, Nat.add_assoc]
theorem ext_get (s : ByteArray) (p j : Nat) (h : p + j < s.size) (cs : List UInt8) (hcs : cs = (s.extract p s.size).data.toList) : ∃ hj : j < cs.length, cs[j]'hj = s[p + j]'h := by
  subst hcs
  have hl : ((s.extract p s.size).data.toList).length = s.size - p := by rw [Lib.size_eq]; simp [ByteArray.size_extract]
  refine ⟨by rw [hl]; omega, ?_⟩
  simp [ByteArray.data_extract]
  rfl
end Go.Proofs.YtgpoplfgngiilaaGreatDoor
namespace Go.Proofs.YtgpoplfgngiilaaGreatDoor
open Go.RowKit Go.Proofs.YtgpoplfgngiilaaGreatDoorW.PrintWords
attribute [local go_sem] me_read me_unread

theorem NV.slice {base : Nat} {w : World} {v : Value} {xs : List Int} (h : NV base w v xs) : ∃ A c n, xs.length = n ∧ v = .slice A n c := by
  rcases h with ⟨rfl, rfl⟩ | ⟨g, ys, h1, rfl, h3, h4⟩
  · exact ⟨none, 0, 0, rfl, rfl⟩
  · exact ⟨_, _, _, rfl, rfl⟩
theorem NV.lower {b b' : Nat} {w : World} {v : Value} {xs : List Int} (h : NV b w v xs) (hb : b' ≤ b) : NV b' w v xs := by
  rcases h with h | ⟨g, ys, h1, h2⟩
  · exact Or.inl h
  · exact Or.inr ⟨g, ys, Nat.le_trans hb h1, h2⟩
/-- Block z is an Int. -/
def Iz (w : World) (z : Nat) (v : Value) : Prop := w.heap[z]? = some (.cells #[.bool false, v] 116 (0, 0))
theorem Iz.lt {w : World} {z : Nat} {v : Value} (h : Iz w z v) : z < w.heap.size := Go.Proofs.YtgpoplfgngiilaaGreatDoorW.PrintWords.blk_lt h
theorem Iz.far {S : Nat → Prop} {w w' : World} {z : Nat} {v : Value} (h : Iz w z v) (hf : Fr S w w') (hn : ¬ S z) : Iz w' z v := (hf.block z h.lt hn).trans h
theorem Iz.c0 {w : World} {z : Nat} {v : Value} (h : Iz w z v) : w.cell? ⟨z, 0, none⟩ = some (.bool false) := Go.Proofs.YtgpoplfgngiilaaGreatDoorW.PrintWords.blk_cell h 0
theorem Iz.c1 {w : World} {z : Nat} {v : Value} (h : Iz w z v) : w.cell? ⟨z, 1, none⟩ = some v := Go.Proofs.YtgpoplfgngiilaaGreatDoorW.PrintWords.blk_cell h 1
theorem Iz.f0 {w : World} {z : Nat} {v : Value} (h : Iz w z v) (i : Nat) : w.frozen? ⟨z, i, none⟩ = false := Go.Proofs.YtgpoplfgngiilaaGreatDoorW.PrintWords.blk_frozen h i
theorem Iz.set {w : World} {z : Nat} {v : Value} (h : Iz w z v) (v' : Value) : Iz ((w.setCell ⟨z, 1, none⟩ v').setCell ⟨z, 0, none⟩ (.bool false)) z v' := by
  have h1 := blk_set h 1 v'
  exact blk_set h1 0 (.bool false)

theorem two_sets (z : Nat) (w : World) (a b : Value) : Fr (fun k => k = z) w ((w.setCell ⟨z, 1, none⟩ a).setCell ⟨z, 0, none⟩ b) :=
  ((Fr.refl (fun k => k = z) w).setCell (p := ⟨z, 1, none⟩) (Or.inl rfl) _).setCell (p := ⟨z, 0, none⟩) (Or.inl rfl) _

end Go.Proofs.YtgpoplfgngiilaaGreatDoor
namespace Go.Proofs.YtgpoplfgngiilaaGreatDoor
open Go.RowKit Go.Proofs.YtgpoplfgngiilaaGreatDoorW.PrintWords

theorem bytesWorld_below (w : World) (e : TypeId) (s : ByteArray) : Below w.heap.size w (Lib.bytesWorld w e s) :=
  bytes_below (Below.refl _ _) (Nat.le_refl _) e s
end Go.Proofs.YtgpoplfgngiilaaGreatDoor
namespace Go.Proofs.YtgpoplfgngiilaaGreatDoor
open Go.RowKit Go.Proofs.YtgpoplfgngiilaaGreatDoorW.PrintWords Go.Proofs.YtgpoplfgngiilaaGreatDoorW.PrintLast Go.Proofs.YtgpoplfgngiilaaGreatDoorW.PrintMore

theorem me_kind_88 (v : Value) (w : World) : (method 462 88 v "Kind").run Tryz.prog w = .ok (308, v) w := by kernel_rfl
theorem me_kind_94 (v : Value) (w : World) : (method 462 94 v "Kind").run Tryz.prog w = .ok (314, v) w := by kernel_rfl
attribute [local go_sem] me_kind_88 me_kind_94

end Go.Proofs.YtgpoplfgngiilaaGreatDoor
namespace Go.Proofs.YtgpoplfgngiilaaGreatDoor
open Go.RowKit Go.Proofs.YtgpoplfgngiilaaGreatDoorW.PrintWords

/-- The number that the first j of f figures (base B) of n make; the figure with index j. -/
def pre (B n f j : Nat) : Int := ((n / B ^ (f - j) : Nat) : Int)
end Go.Proofs.YtgpoplfgngiilaaGreatDoor
namespace Go.Proofs.YtgpoplfgngiilaaGreatDoor
open Go.RowKit Go.Proofs.YtgpoplfgngiilaaGreatDoorW.PrintWords Go.Proofs.YtgpoplfgngiilaaGreatDoorW.PrintLast Go.Proofs.YtgpoplfgngiilaaGreatDoorW.PrintMore

set_option maxHeartbeats 1000000 in
set_option maxRecDepth 100000 in
/-- spec.IsNumber at a number that is not negated. -/
theorem isNumber_calls (k : Nat) (A0 : Option Addr) (c0 : Nat) (l0 : List Int) (A2 : Option Addr) (c2 : Nat) (l2 : List Int) (r : Bool) (w : World)
    (hr0 : Kd.C (Kd.int .u64) w A0 l0.length l0) (hc0 : l0.length ≤ c0) (hr2 : Kd.C (Kd.int .i64) w A2 l2.length l2) (hc2 : l2.length ≤ c2) (h : Pr.spec_HasWords.f k l0 l2 = some r) :
    Calls Tryz.prog 35 #[.agg #[.bool false, .slice A0 l0.length c0], .bool false, .slice A2 l2.length c2] w fun e w' => e = .returned (.bool r) ∧ Below w.heap.size w w' := by
  have HB0 := Aside0.mk ((Below.refl w.heap.size w).alloc (Nat.le_refl _) (Obj.cells #[.bool false, .slice A0 l0.length c0] 24))
  have HR0 := Aside0.mk (Kd.C_below hr0 HB0.out)
  have HR2 := Aside0.mk (Kd.C_below hr2 HB0.out)
  have HC0 := Aside0.mk hc0
  have HC2 := Aside0.mk hc2
  have H := Aside0.mk h
  clear hr0 hr2 hc0 hc2 h
  go_enter Tryz.func35, Tryz.ntmps35
  go_wp2_with (first | (go_at_call 55; go_must (refine (Pr.spec_HasWords.calls k A0 c0 l0 A2 c2 l2 r _ HR0.out HC0.out HR2.out HC2.out H.out).mono ?_); rintro e w1 ⟨rfl, hB⟩; have hB' := Aside0.mk hB; clear hB) | go_in)
  go_ret
  exact ⟨rfl, HB0.out.trans (hB'.out.mono (by simp))⟩

theorem small_one : Pr.spec_Small.f 2 1 = some [1] := by
  simp [Pr.spec_Small.f, Pr.spec_Small.l0, wrap64]

set_option maxHeartbeats 1000000 in
set_option maxRecDepth 100000 in
/-- spec.Whole of a number that is not negated. -/
theorem whole_calls (A : Option Addr) (c : Nat) (n : Nat) (w : World) :
    Calls Tryz.prog 20 #[.bool false, .slice A n c] w fun e w' => ∃ v, e = .returned (.agg #[.bool false, .slice A n c, v]) ∧ Kd.R (Kd.int .i64) 3 w' w.heap.size (fun _ => True) v [1] ∧ Below w.heap.size w w' := by
  have HB0 := Aside0.mk ((Below.refl w.heap.size w).alloc (Nat.le_refl _) (Obj.cells #[.bool false, .slice none 0 0, .slice none 0 0] 31))
  go_enter Tryz.func20, Tryz.ntmps20
  go_wp2_with (first | (go_at_call 28; go_must (refine (Pr.spec_Small.calls 2 1 [1] _ small_one).mono ?_); rintro e w1 ⟨v, rfl, hR, hB⟩; have hR' := Aside0.mk hR; have hB' := Aside0.mk hB; have hs := hB.size; simp only [World.size_alloc] at hs; obtain ⟨q1, q2⟩ := bcell hB; simp only [World.size_alloc] at q1 q2; have hz : w.heap.size < w1.heap.size := (by omega); clear hR hB; obtain ⟨Av, cv, rfl, -⟩ := Kd.R_reads hR'.out) | go_in)
  have e0 : w1.cell? ⟨w.heap.size, 0, none⟩ = some (.bool false) := (q1 w.heap.size 0 (by omega)).trans (by go_simp)
  have e1 : w1.cell? ⟨w.heap.size, 1, none⟩ = some (.slice none 0 0) := (q1 w.heap.size 1 (by omega)).trans (by go_simp)
  have e2 : w1.cell? ⟨w.heap.size, 2, none⟩ = some (.slice none 0 0) := (q1 w.heap.size 2 (by omega)).trans (by go_simp)
  refine bodyPost_ret (v := .agg #[.bool false, .slice A n c, .slice Av 1 cv]) (by simp [results, Tryz.results20, go_sem, e0, e1, e2]) rfl ⟨_, rfl, ?_, ?_⟩
  · refine R_after (N := w.heap.size + 1) hR'.out (by simp) (by simp) ?_
    intro k h1 h2
    repeat (refine hk_set (by simp; omega) ?_)
    rfl
  · have hb0 : Below w.heap.size w w1 := HB0.out.trans (hB'.out.mono (by simp))
    repeat (refine Below.setCell ?_ (by simp) _)
    exact hb0

end Go.Proofs.YtgpoplfgngiilaaGreatDoor
namespace Go.Proofs.YtgpoplfgngiilaaGreatDoor
open Go.RowKit Go.Proofs.YtgpoplfgngiilaaGreatDoorW.PrintWords Go.Proofs.YtgpoplfgngiilaaGreatDoorW.PrintLast Go.Proofs.YtgpoplfgngiilaaGreatDoorW.PrintMore

theorem ta_b_108 (v : Value) (w : World) : (Instr.typeAssert (.iface 94 v) 67 108 true).run Tryz.prog w = .ok (.tuple #[.bool false, .bool false]) w := by kernel_rfl
theorem ta_b_109 (v : Value) (w : World) : (Instr.typeAssert (.iface 94 v) 67 109 true).run Tryz.prog w = .ok (.tuple #[.pointer none, .bool false]) w := by kernel_rfl
theorem ta_b_88 (v : Value) (w : World) : (Instr.typeAssert (.iface 94 v) 67 88 true).run Tryz.prog w = .ok (.tuple #[.int .i64 0, .bool false]) w := by kernel_rfl
theorem ta_b_94 (v : Value) (w : World) : (Instr.typeAssert (.iface 94 v) 67 94 true).run Tryz.prog w = .ok (.tuple #[v, .bool true]) w := by kernel_rfl
theorem ta_p_2 (v : Value) (w : World) : (Instr.typeAssert (.iface 89 v) 20 2 true).run Tryz.prog w = .ok (.tuple #[.int .i64 0, .bool false]) w := by kernel_rfl
theorem ta_p_89 (v : Value) (w : World) : (Instr.typeAssert (.iface 89 v) 20 89 true).run Tryz.prog w = .ok (.tuple #[v, .bool true]) w := by kernel_rfl
attribute [local go_sem] ta_b_108 ta_b_109 ta_b_88 ta_b_94 ta_p_2 ta_p_89 me_kind_88 me_kind_94

theorem NV_C {base : Nat} {w : World} {v : Value} {xs : List Int} (h : NV base w v xs) : ∃ A c, v = .slice A xs.length c ∧ xs.length ≤ c ∧ Kd.C (Kd.int .u64) w A xs.length xs := by
  rcases h with ⟨rfl, rfl⟩ | ⟨g, ys, h1, rfl, h3, h4, h5, h6⟩
  · exact ⟨none, 0, rfl, Nat.le_refl _, C_nil none⟩
  · have hle : xs.length ≤ ys.length := by have := congrArg List.length h4; rw [List.length_take] at this; omega
    refine ⟨some ⟨g, 0, none⟩, ys.length, rfl, hle, Kd.C_of_reads (d := 0) ⟨rfl, by omega, fun _ => ⟨⟨g, 0, none⟩, rfl, fun j hj => ?_⟩⟩⟩
    obtain ⟨hz, he⟩ := take_get h4 j hj
    rw [Addr.add_lit, Nat.zero_add, h3.cell j hz, he]
    simp [List.getD, List.getElem?_eq_getElem hj]

theorem hidB {w W w1 : World} (_ : Below W.heap.size W w1) (h : Below w.heap.size w W) : Below w.heap.size w W := h

/-- The globals that it reads: io.EOF, strconv.ErrRange. -/
def Errs (w : World) (te : TypeId) (pe ev : Value) : Prop :=
  2 < w.heap.size ∧ w.cell? ⟨1, 0, none⟩ = some (.iface te pe) ∧ w.cell? ⟨2, 0, none⟩ = some ev ∧ (ev = .nilIface ∨ ∃ te pe, ev = .iface te pe) ∧ (∀ W, (binOp .neq 85 (.iface te pe) (.iface te pe)).run Tryz.prog W = .ok (.bool false) W)
theorem Errs.below {w w' : World} {te : TypeId} {pe ev : Value} (h : Errs w te pe ev) (hb : Below w.heap.size w w') : Errs w' te pe ev :=
  ⟨Nat.lt_of_lt_of_le h.1 hb.size, (hb.cell (World.block_lt_of_cell? w _ h.2.1)).trans h.2.1, (hb.cell (World.block_lt_of_cell? w _ h.2.2.1)).trans h.2.2.1, h.2.2.2⟩

end Go.Proofs.YtgpoplfgngiilaaGreatDoor
