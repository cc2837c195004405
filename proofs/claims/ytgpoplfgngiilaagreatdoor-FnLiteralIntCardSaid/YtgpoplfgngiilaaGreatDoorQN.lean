/- bigall's words: x * y + c in two words; numbers in blocks of words. -/
import Derived.Test.YtgpoplfgngiilaaGreatDoorQA
import Derived.Test.YtgpoplfgngiilaaGreatDoorQH
import Derived.Test.YtgpoplfgngiilaaGreatDoorQM
import Derived.Test.YtgpoplfgngiilaaGreatDoorP2
import Derived.Test.YtgpoplfgngiilaaGreatDoorQD
import Derived.Shelf.Spec.BitsCarry
import Derived.Outline
import Derived.BigQuiet
set_option linter.unusedVariables false
set_option linter.unusedSimpArgs false
namespace Go.Proofs.YtgpoplfgngiilaaGreatDoor
open Go.RowKit Go.Proofs.YtgpoplfgngiilaaGreatDoorW.PrintWords

theorem add64_run (x y c : Nat) (hx : x < 18446744073709551616) (hy : y < 18446744073709551616) (hc : c ≤ 1) (w : World) :
    (callFunc 267 #[.int .u64 x, .int .u64 y, .int .u64 c]).run Tryz.prog w =
      .ok (.value (.tuple #[.int .u64 (((x + y + c) % 18446744073709551616 : Nat) : Int), .int .u64 (((x + y + c) / 18446744073709551616 : Nat) : Int)])) w := by
  rw [run_callFunc_extern Tryz.func267 (by kernel_rfl) (by kernel_rfl) (by kernel_rfl) (e := add64Entry) (by kernel_rfl), run_add64 x y c (by omega) (by omega) (by omega) (by omega)]
  simp only [Result.andThen]
  congr 5 <;> omega

theorem sub64_run (x y b : Nat) (hb : b ≤ 1) (w : World) :
    (callFunc 286 #[.int .u64 x, .int .u64 y, .int .u64 b]).run Tryz.prog w =
      .ok (.value (.tuple #[.int .u64 (((x + 18446744073709551616 - y - b) % 18446744073709551616 : Nat) : Int), .int .u64 ((if x < y + b then 1 else 0 : Nat) : Int)])) w := by
  rw [run_callFunc_extern Tryz.func286 (by kernel_rfl) (by kernel_rfl) (by kernel_rfl) (e := sub64Entry) (by kernel_rfl), run_sub64 x y b hb]
  rfl

set_option maxHeartbeats 2000000 in
set_option maxRecDepth 1000000 in
theorem bits_Add (x y c : Nat) (hx : x < 18446744073709551616) (hy : y < 18446744073709551616) (hc : c ≤ 1) (w : World) :
    Calls Tryz.prog 240 #[.int .u64 x, .int .u64 y, .int .u64 c] w fun e w' =>
      e = .returned (.tuple #[.int .u64 (((x + y + c) % 18446744073709551616 : Nat) : Int), .int .u64 (((x + y + c) / 18446744073709551616 : Nat) : Int)]) ∧ w' = w := by
  have h := fun w => add64_run x y c hx hy hc w
  generalize (((x + y + c) % 18446744073709551616 : Nat) : Int) = lo at *
  generalize (((x + y + c) / 18446744073709551616 : Nat) : Int) = hi at *
  generalize (x : Int) = X at *
  generalize (y : Int) = Y at *
  generalize (c : Int) = C at *
  clear hx hy hc
  go_enter Tryz.func240, Tryz.ntmps240
  go_wp2_with (simp only [h])
  go_ret2
  exact ⟨rfl, rfl⟩

set_option maxHeartbeats 2000000 in
set_option maxRecDepth 1000000 in
theorem mulAddWWW (x y c : Nat) (hx : x < 18446744073709551616) (hy : y < 18446744073709551616) (hc : c < 18446744073709551616) (w : World) :
    Calls Tryz.prog 270 #[.int .u64 x, .int .u64 y, .int .u64 c] w fun e w' =>
      e = .returned (.tuple #[.int .u64 (((x * y + c) / 18446744073709551616 : Nat) : Int), .int .u64 (((x * y + c) % 18446744073709551616 : Nat) : Int)]) ∧ w' = w := by
  have h1 := Tryz.bits_Mul x y hx hy w
  have hlo : x * y % 18446744073709551616 < 18446744073709551616 := Nat.mod_lt _ (by decide)
  have h2 := bits_Add (x * y % 18446744073709551616) c 0 hlo hc (by decide) w
  have hb : x * y / 18446744073709551616 < 18446744073709551615 := by
    have : x * y ≤ 18446744073709551615 * 18446744073709551615 := Nat.mul_le_mul (by omega) (by omega)
    omega
  have e1 : (x * y + c) % 18446744073709551616 = (x * y % 18446744073709551616 + c + 0) % 18446744073709551616 := by omega
  have e2 : (x * y + c) / 18446744073709551616 = x * y / 18446744073709551616 + (x * y % 18446744073709551616 + c + 0) / 18446744073709551616 := by omega
  rw [e1, e2]
  have hk : (x * y % 18446744073709551616 + c + 0) / 18446744073709551616 ≤ 1 := by omega
  clear e1 e2
  generalize x * y / 18446744073709551616 = hi at *
  generalize (x * y % 18446744073709551616 + c + 0) / 18446744073709551616 = k at *
  generalize (x * y % 18446744073709551616 + c + 0) % 18446744073709551616 = lo2 at *
  generalize x * y % 18446744073709551616 = lo at *
  have hs : IntKind.u64.wrap ((hi : Int) + (k : Int)) = ((hi + k : Nat) : Int) := by
    rw [wraps_u64 _ (by omega) (by omega)]
    omega
  clear hb hk hlo hx hy hc
  have h2' : Calls Tryz.prog 240 #[.int .u64 lo, .int .u64 c, .int .u64 0] w fun e w' => e = .returned (.tuple #[.int .u64 lo2, .int .u64 k]) ∧ w' = w := h2
  clear h2
  go_enter Tryz.func270, Tryz.ntmps270
  go_wp2_with (first | (go_at_call 253; (refine h1.mono ?_); rintro e w1 ⟨rfl, rfl⟩) | (go_at_call 240; (refine h2'.mono ?_); rintro e w1 ⟨rfl, rfl⟩))
  go_ret2
  exact ⟨by rw [Int.natCast_add]; rfl, rfl⟩
end Go.Proofs.YtgpoplfgngiilaaGreatDoor
/- bigall.mulAddVWW: a number times a word and a word more, in place or not. -/
namespace Go.Proofs.YtgpoplfgngiilaaGreatDoor
open Go.RowKit Go.Proofs.YtgpoplfgngiilaaGreatDoorW.PrintWords

/-- Block g is a row of these words. -/
def Nb (w : World) (g : Nat) (ys : List Int) : Prop := w.heap[g]? = some (.cells (ys.map (Value.int .u64)).toArray 167 (0, 0))

theorem Nb.lt {w : World} {g : Nat} {ys : List Int} (h : Nb w g ys) : g < w.heap.size := (Array.getElem?_eq_some_iff.1 h).1
theorem Nb.far {S : Nat → Prop} {w w' : World} {g : Nat} {ys : List Int} (h : Nb w g ys) (hf : Fr S w w') (hn : ¬ S g) : Nb w' g ys := (hf.block g h.lt hn).trans h
theorem Nb.cell {w : World} {g : Nat} {ys : List Int} (h : Nb w g ys) (i : Nat) (hi : i < ys.length) : w.cell? ⟨g, i, none⟩ = some (.int .u64 (ys[i]'hi)) := by
  rw [cell_of_row w g i _ 167 (0, 0) h]
  simp [List.getElem?_eq_getElem hi]
theorem Nb.frozen {w : World} {g : Nat} {ys : List Int} (h : Nb w g ys) (i : Nat) : w.frozen? ⟨g, i, none⟩ = false := blk_frozen h i
theorem Nb.set {w : World} {g : Nat} {ys : List Int} (h : Nb w g ys) (i : Nat) (x : Int) : Nb (w.setCell ⟨g, i, none⟩ (.int .u64 x)) g (ys.set i x) := by
  have := blk_set h i (.int .u64 x)
  unfold Nb
  rw [this]
  simp [List.map_set]

/-- The words of xs * y + c, without the last one, and the last one. -/
def mulW : List Int → Nat → Nat → List Int
  | [], _, _ => []
  | x :: xs, y, c => (((x.toNat * y + c) % 18446744073709551616 : Nat) : Int) :: mulW xs y ((x.toNat * y + c) / 18446744073709551616)
def mulC : List Int → Nat → Nat → Nat
  | [], _, c => c
  | x :: xs, y, c => mulC xs y ((x.toNat * y + c) / 18446744073709551616)
theorem mulW_length : ∀ (xs : List Int) (y c : Nat), (mulW xs y c).length = xs.length
  | [], _, _ => rfl
  | _ :: xs, y, c => by simp [mulW, mulW_length xs]
theorem mulW_snoc : ∀ (xs : List Int) (x : Int) (y c : Nat), mulW (xs ++ [x]) y c = mulW xs y c ++ [(((x.toNat * y + mulC xs y c) % 18446744073709551616 : Nat) : Int)]
  | [], _, _, _ => rfl
  | _ :: xs, x, y, c => by simp [mulW, mulC, mulW_snoc xs]
theorem mulC_snoc : ∀ (xs : List Int) (x : Int) (y c : Nat), mulC (xs ++ [x]) y c = (x.toNat * y + mulC xs y c) / 18446744073709551616
  | [], _, _, _ => rfl
  | _ :: xs, x, y, c => by simp [mulC, mulC_snoc xs]
theorem mul_step (x y c : Nat) (hx : x < 18446744073709551616) (hy : y < 18446744073709551616) (hc : c < 18446744073709551616) : (x * y + c) / 18446744073709551616 < 18446744073709551616 := by
  have : x * y ≤ 18446744073709551615 * 18446744073709551615 := Nat.mul_le_mul (by omega) (by omega)
  omega
theorem mulC_lt : ∀ (xs : List Int) (y c : Nat), InR 18446744073709551616 xs → y < 18446744073709551616 → c < 18446744073709551616 → mulC xs y c < 18446744073709551616
  | [], _, _, _, _, hc => hc
  | x :: xs, y, c, hR, hy, hc => by
    have hx := hR x (by simp)
    exact mulC_lt xs y _ (fun z hz => hR z (by simp [hz])) hy (mul_step x.toNat y c (by omega) hy hc)
theorem mulW_R : ∀ (xs : List Int) (y c : Nat), InR 18446744073709551616 (mulW xs y c)
  | [], _, _ => fun _ h => by cases h
  | x :: xs, y, c => by
    intro z hz
    simp only [mulW, List.mem_cons] at hz
    rcases hz with rfl | hz
    · have := Nat.mod_lt (x.toNat * y + c) (show 0 < 18446744073709551616 by decide)
      omega
    · exact mulW_R xs y _ z hz
theorem mul_val : ∀ (xs : List Int) (y c : Nat), valL 18446744073709551616 (mulW xs y c ++ [((mulC xs y c : Nat) : Int)]) = valL 18446744073709551616 xs * y + c
  | [], _, _ => by simp [mulW, mulC, valL]
  | x :: xs, y, c => by
    have ih := mul_val xs y ((x.toNat * y + c) / 18446744073709551616)
    simp only [mulW, mulC, List.cons_append, valL] at ih ⊢
    rw [ih, Int.toNat_natCast]
    have h := Nat.mod_add_div (x.toNat * y + c) 18446744073709551616
    generalize (x.toNat * y + c) / 18446744073709551616 = q at *
    generalize (x.toNat * y + c) % 18446744073709551616 = m at *
    rw [Nat.mul_add, Nat.add_mul]
    rw [Nat.mul_assoc]
    omega
end Go.Proofs.YtgpoplfgngiilaaGreatDoor
/- bigall.mulAddVWW: the walk. -/
namespace Go.Proofs.YtgpoplfgngiilaaGreatDoor
open Go.RowKit Go.Proofs.YtgpoplfgngiilaaGreatDoorW.PrintWords

def MRel (w : World) (gz : Nat) (xs zs : List Int) (y r m kq : Nat) (v8 v19 : Value) (w' : World) : Prop :=
  ∃ i c : Nat, v19 = .int .i64 i ∧ v8 = .int .u64 c ∧ Aside0 (i ≤ m ∧ kq = m - i ∧ c = mulC (xs.take i) y r) ∧ Aside0 (Nb w' gz (mulW (xs.take i) y r ++ zs.drop i)) ∧ Aside0 (Fr (fun k => k = gz) w w')

/-- Where the factor's words lie: in the row itself, or in another one. -/
def XAt (w : World) (gz gx : Nat) (xs zs : List Int) : Prop := (gx = gz ∧ zs.take xs.length = xs) ∨ (gx ≠ gz ∧ ∃ xa, Nb w gx xa ∧ xa.take xs.length = xs)

theorem take_get {xs zs : List Int} (h : zs.take xs.length = xs) (i : Nat) (hi : i < xs.length) : ∃ hz : i < zs.length, zs[i]'hz = xs[i]'hi := by
  have hl : i < (zs.take xs.length).length := by rw [h]; exact hi
  have hz : i < zs.length := by simp at hl; omega
  refine ⟨hz, ?_⟩
  have := List.getElem_take (xs := zs) (j := xs.length) (i := i) (h := hl)
  rw [← this]
  simp [h]

theorem xat_read {w w' : World} {gz gx : Nat} {xs zs : List Int} {y r i : Nat} (hX : XAt w gz gx xs zs) (hi : i < xs.length) (hN : Nb w' gz (mulW (xs.take i) y r ++ zs.drop i)) (hF : Fr (fun k => k = gz) w w') :
    w'.cell? ⟨gx, i, none⟩ = some (.int .u64 (xs[i]'hi)) := by
  rcases hX with ⟨rfl, ht⟩ | ⟨hne, xa, hxa, ht⟩
  · obtain ⟨hz, he⟩ := take_get ht i hi
    have hl : (mulW (xs.take i) y r).length = i := by rw [mulW_length]; simp; omega
    have hlt : i < (mulW (xs.take i) y r ++ zs.drop i).length := by rw [List.length_append, hl, List.length_drop]; omega
    rw [hN.cell i hlt, List.getElem_append_right (by omega)]
    simp only [hl, Nat.sub_self, List.getElem_drop, Nat.add_zero, he]
  · obtain ⟨hz, he⟩ := take_get ht i hi
    rw [(hxa.far hF hne).cell i hz, he]

theorem mrel_step {xs zs : List Int} {y r i : Nat} (hi : i < xs.length) (hz : xs.length ≤ zs.length) :
    (mulW (xs.take i) y r ++ zs.drop i).set i ((((xs[i]'hi).toNat * y + mulC (xs.take i) y r) % 18446744073709551616 : Nat) : Int) = mulW (xs.take (i + 1)) y r ++ zs.drop (i + 1) ∧
    ((xs[i]'hi).toNat * y + mulC (xs.take i) y r) / 18446744073709551616 = mulC (xs.take (i + 1)) y r := by
  have ht : xs.take (i + 1) = xs.take i ++ [xs[i]'hi] := by rw [List.take_add_one, List.getElem?_eq_getElem hi]; rfl
  have hl : (mulW (xs.take i) y r).length = i := by rw [mulW_length]; simp; omega
  refine ⟨?_, ?_⟩
  · rw [ht, mulW_snoc, List.drop_eq_getElem_cons (by omega), List.set_append_right _ _ (by omega), hl, Nat.sub_self, List.set_cons_zero]
    simp
  · rw [ht, mulC_snoc]

set_option maxHeartbeats 4000000 in
set_option maxRecDepth 1000000 in
theorem mulAddVWW_g (gz gx cz cx : Nat) (xs zs : List Int) (y r m : Nat) (w : World) (hm : m = xs.length) (hm2 : m ≤ 1000000) (hz : m ≤ zs.length) (hcz : m ≤ cz) (hcx : m ≤ cx) (hR : InR 18446744073709551616 xs) (hy : y < 18446744073709551616) (hr : r < 18446744073709551616)
    (hX : XAt w gz gx xs zs) (hZ : Nb w gz zs) :
    Calls Tryz.prog 245 #[.slice (some ⟨gz, 0, none⟩) m cz, .slice (some ⟨gx, 0, none⟩) m cx, .int .u64 y, .int .u64 r] w fun e w' =>
      e = .returned (.int .u64 ((mulC xs y r : Nat) : Int)) ∧ Nb w' gz (mulW xs y r ++ zs.drop m) ∧ Fr (fun k => k = gz) w w' := by
  have HX := Aside0.mk hX
  have HR := Aside0.mk hR
  have HM := Aside0.mk (And.intro hm (And.intro hz (And.intro hy hr)))
  have HZ := Aside0.mk hZ
  clear hX hR hZ hm hz hy hr
  go_enter Tryz.func245, Tryz.ntmps245
  go_wp2_with fail
  go_loopg [8, 19] m (fun kq v8 v19 w' => MRel w gz xs zs y r m kq v8 v19 w')
  case atStart => exact ⟨0, r, rfl, rfl, ⟨by omega, by omega, rfl⟩, ⟨by simpa [mulW] using HZ.out⟩, ⟨Fr.refl _ _⟩⟩
  case round =>
    obtain ⟨i, c, rfl, rfl, HI, HN, HF⟩ := hrel
    by_cases hlt : i < m
    · have hb : decide ((i : Int) < (m : Int)) = true := by simp; omega
      have hix : i < xs.length := by rw [← HM.out.1]; exact hlt
      have hx := HR.out _ (List.getElem_mem hix)
      have hread := xat_read HX.out hix HN.out HF.out
      obtain ⟨x, hxe⟩ : ∃ x : Nat, xs[i]'hix = (x : Int) := ⟨(xs[i]'hix).toNat, by omega⟩
      have hstep := mrel_step (zs := zs) (y := y) (r := r) hix (by have := HM.out; omega)
      rw [hxe] at hread hx hstep
      rw [Int.toNat_natCast, ← HI.out.2.2] at hstep
      have hxl : x < 18446744073709551616 := by omega
      have hcl : c < 18446744073709551616 := by rw [HI.out.2.2]; exact mulC_lt _ _ _ (fun z hz => HR.out z (List.mem_of_mem_take hz)) HM.out.2.2.1 HM.out.2.2.2
      have hcall := fun W => mulAddWWW x y c hxl HM.out.2.2.1 hcl W
      obtain ⟨q, hq⟩ : ∃ q, (x * y + c) / 18446744073709551616 = q := ⟨_, rfl⟩
      obtain ⟨lo, hlo⟩ : ∃ lo, (x * y + c) % 18446744073709551616 = lo := ⟨_, rfl⟩
      rw [hq, hlo] at hstep hcall
      have HS := Aside0.mk hstep
      have hfz := HN.out.frozen i
      have hlz : i < (mulW (xs.take i) y r ++ zs.drop i).length := by
        rw [List.length_append, mulW_length, List.length_take, List.length_drop]
        have := HM.out; omega
      have hcz' := HN.out.cell i hlz
      generalize (mulW (xs.take i) y r ++ zs.drop i)[i]'hlz = old at hcz'
      clear hx hstep hxe hxl hcl hlz hq hlo
      go_wp2_with (go_at_call 270; (refine (hcall _).mono ?_); rintro e w1 ⟨rfl, rfl⟩)
      go_roundg (gk - 1)
      case measure => have := HI.out; omega
      case rel => exact ⟨i + 1, _, by go_num, rfl, ⟨by have := HI.out; omega, by have := HI.out; omega, HS.out.2⟩, ⟨by rw [← HS.out.1]; exact HN.out.set i _⟩, ⟨HF.out.setCell (p := ⟨gz, i, none⟩) (Or.inl rfl) _⟩⟩
    · have hb : decide ((i : Int) < (m : Int)) = false := by simp; omega
      have hie : i = m := by have := HI.out; omega
      subst hie
      have ht : xs.take i = xs := by rw [HM.out.1]; exact List.take_length
      have HT := Aside0.mk ht
      clear ht
      go_wp2_with fail
      go_ret
      exact ⟨by rw [HI.out.2.2, HT.out]; rfl, by have := HN.out; rw [HT.out] at this; exact this, HF.out⟩
end Go.Proofs.YtgpoplfgngiilaaGreatDoor
/- bigall.nat: make, norm. -/
namespace Go.Proofs.YtgpoplfgngiilaaGreatDoor
open Go.RowKit Go.Proofs.YtgpoplfgngiilaaGreatDoorW.PrintWords
attribute [local go_sem] mk_nat_1

theorem made_zero (c : Nat) : madeCells (Value.int .u64 0).cells (c * 1) = Array.replicate c (Value.int .u64 0) := by
  rw [Nat.mul_one]
  apply Array.ext
  · simp [madeCells]
  · intro i h1 h2
    simp [madeCells, Value.cells, Nat.mod_one]
theorem mk_nat (n c : Nat) (h : n ≤ c) (hc : c ≤ 1000000) (w : World) : (Instr.makeSlice 114 (.int .i64 n) (.int .i64 c)).run Tryz.prog w =
    .ok (.slice (some ⟨w.heap.size, 0, none⟩) n c) (w.alloc (.cells (Array.replicate c (Value.int .u64 0)) 167)) := by
  have hb : ((8 : Nat) : Int) * (c : Int) ≤ 281474976710656 := by omega
  have h1 := run_make (P := Tryz.prog) w 114 167 Tryz.t167 (.int .u64 0) Tryz.underlying114 (by kernel_rfl) (by kernel_rfl) .i64 .i64 (n : Int) (c : Int) (by omega) (by omega) hb (by omega)
  rw [h1, Int.toNat_natCast, Int.toNat_natCast]
  rw [show c * Tryz.t167.size = c * 1 from rfl, made_zero]
theorem nb_new (c : Nat) (w : World) : Nb (w.alloc (.cells (Array.replicate c (Value.int .u64 0)) 167)) w.heap.size (List.replicate c 0) := by
  unfold Nb
  rw [heap_alloc_new]
  simp

set_option maxHeartbeats 2000000 in
set_option maxRecDepth 1000000 in
theorem mulAddVWW (gz gx cz cx : Nat) (xs zs : List Int) (y r m : Nat) (w : World) (hm : m = xs.length) (hm2 : m ≤ 1000000) (hz : m ≤ zs.length) (hcz : m ≤ cz) (hcx : m ≤ cx) (hR : InR 18446744073709551616 xs) (hy : y < 18446744073709551616) (hr : r < 18446744073709551616)
    (hX : XAt w gz gx xs zs) (hZ : Nb w gz zs) :
    Calls Tryz.prog 206 #[.slice (some ⟨gz, 0, none⟩) m cz, .slice (some ⟨gx, 0, none⟩) m cx, .int .u64 y, .int .u64 r] w fun e w' =>
      e = .returned (.int .u64 ((mulC xs y r : Nat) : Int)) ∧ Nb w' gz (mulW xs y r ++ zs.drop m) ∧ Fr (fun k => k = gz) w w' := by
  have h := mulAddVWW_g gz gx cz cx xs zs y r m w hm hm2 hz hcz hcx hR hy hr hX hZ
  clear hR hX hZ hy hr hz hcz hcx hm hm2
  go_enter Tryz.func206, Tryz.ntmps206
  go_wp2_with (go_at_call 245; (refine h.mono ?_); rintro e w1 ⟨rfl, h1, h2⟩; have H1 := Aside0.mk h1; have H2 := Aside0.mk h2; clear h1 h2)
  go_ret
  exact ⟨rfl, H1.out, H2.out⟩

set_option maxHeartbeats 2000000 in
set_option maxRecDepth 1000000 in
theorem make_reuse (A : Option Addr) (l c n : Nat) (hn : n ≤ c) (w : World) :
    Calls Tryz.prog 130 #[.slice A l c, .int .i64 n] w fun e w' => e = .returned (.slice A n c) ∧ w = w' := by
  go_enter Tryz.func130, Tryz.ntmps130
  go_wp2_with fail
  go_ret
  exact ⟨rfl, rfl⟩

set_option maxHeartbeats 2000000 in
set_option maxRecDepth 1000000 in
theorem make_one (A : Option Addr) (l : Nat) (w : World) :
    Calls Tryz.prog 130 #[.slice A l 0, .int .i64 1] w fun e w' => e = .returned (.slice (some ⟨w.heap.size, 0, none⟩) 1 1) ∧ w' = w.alloc (.cells #[.int .u64 0] 167) := by
  go_enter Tryz.func130, Tryz.ntmps130
  go_wp2_with fail
  go_ret
  exact ⟨rfl, rfl⟩

set_option maxHeartbeats 2000000 in
set_option maxRecDepth 1000000 in
theorem make_new (A : Option Addr) (l c n k : Nat) (hk0 : k = n + 4) (hn : c < n) (hn1 : 2 ≤ n) (hn2 : n ≤ 100000) (w : World) :
    Calls Tryz.prog 130 #[.slice A l c, .int .i64 n] w fun e w' => e = .returned (.slice (some ⟨w.heap.size, 0, none⟩) n k) ∧ w' = w.alloc (.cells (Array.replicate k (Value.int .u64 0)) 167) := by
  have hk := mk_nat n k (by omega) (by omega) w
  rw [show ((k : Nat) : Int) = (n : Int) + 4 by omega] at hk
  clear hk0
  go_enter Tryz.func130, Tryz.ntmps130
  go_wp2_with fail
  go_ret
  exact ⟨rfl, rfl⟩
end Go.Proofs.YtgpoplfgngiilaaGreatDoor
/- bigall.nat: norm. -/
namespace Go.Proofs.YtgpoplfgngiilaaGreatDoor
open Go.RowKit Go.Proofs.YtgpoplfgngiilaaGreatDoorW.PrintWords

theorem norm_zero {ys : List Int} {i : Nat} (hi : i < ys.length) (h0 : ys[i]'hi = 0) : valL 18446744073709551616 (ys.take (i + 1)) = valL 18446744073709551616 (ys.take i) := by
  rw [List.take_add_one, List.getElem?_eq_getElem hi, h0]
  exact lits_snoc_zero 18446744073709551616 _
theorem norm_last {ys : List Int} {i : Nat} (hi : i < ys.length) (hR : InR 18446744073709551616 ys) (h0 : ys[i]'hi ≠ 0) : lits 18446744073709551616 (valL 18446744073709551616 (ys.take (i + 1))) = ys.take (i + 1) := by
  have ht : ys.take (i + 1) = ys.take i ++ [ys[i]'hi] := by rw [List.take_add_one, List.getElem?_eq_getElem hi]; rfl
  have hx := hR _ (List.getElem_mem hi)
  rw [ht]
  refine lits_of_last 18446744073709551616 (by decide) _ _ ?_ (by omega)
  rw [← ht]
  exact fun z hz => hR z (List.mem_of_mem_take hz)

def NRel (ys : List Int) (n kq : Nat) (v3 : Value) (w w' : World) : Prop := ∃ i : Nat, v3 = .int .i64 i ∧ Aside0 (i ≤ n ∧ kq = i ∧ valL 18446744073709551616 (ys.take i) = valL 18446744073709551616 (ys.take n)) ∧ Aside0 (w = w')

set_option maxHeartbeats 2000000 in
set_option maxRecDepth 1000000 in
theorem norm_calls (g c n : Nat) (ys : List Int) (w : World) (hn : n ≤ ys.length) (hc : n ≤ c) (hn2 : n ≤ 1000000) (hR : InR 18446744073709551616 ys) (hZ : Nb w g ys) :
    Calls Tryz.prog 134 #[.slice (some ⟨g, 0, none⟩) n c] w fun e w' => ∃ n' : Nat, e = .returned (.slice (some ⟨g, 0, none⟩) n' c) ∧ n' ≤ n ∧ ys.take n' = lits 18446744073709551616 (valL 18446744073709551616 (ys.take n)) ∧ w = w' := by
  have HR := Aside0.mk hR
  have HZ := Aside0.mk hZ
  have HN := Aside0.mk hn
  clear hR hZ hn
  go_enter Tryz.func134, Tryz.ntmps134
  go_wp2_with fail
  go_loopg [3] n (fun kq v3 w' => NRel ys n kq v3 w w')
  case atStart => exact ⟨n, rfl, ⟨by omega, rfl, rfl⟩, ⟨rfl⟩⟩
  case round =>
    obtain ⟨i, rfl, HI, HW⟩ := hrel
    obtain rfl := HW.out
    have hin : i ≤ n := HI.out.1
    cases i with
    | zero =>
      have hb : decide ((0 : Int) > 0) = false := by decide
      go_wp2_with fail
      go_ret
      refine ⟨0, rfl, by omega, ?_, rfl⟩
      rw [← HI.out.2.2]
      simp [valL, lits_zero]
    | succ j =>
      have hj : j < ys.length := by have := HN.out; omega
      have hcell := HZ.out.cell j hj
      have hb : decide (((j + 1 : Nat) : Int) > 0) = true := by simp
      by_cases h0 : ys[j]'hj = 0
      · rw [h0] at hcell
        have HV := Aside0.mk ((norm_zero hj h0).symm.trans HI.out.2.2)
        clear h0
        go_wp2_with fail
        go_roundg (gk - 1)
        case measure => have := HI.out; omega
        case rel => exact ⟨j, by go_num, ⟨by omega, by have := HI.out; omega, HV.out⟩, ⟨rfl⟩⟩
      · have HV := Aside0.mk (norm_last hj HR.out h0)
        obtain ⟨x, hx⟩ : ∃ x, ys[j]'hj = x := ⟨_, rfl⟩
        rw [hx] at hcell h0
        have hne : (x == 0) = false := beq_false_of_ne h0
        clear hx
        go_wp2_with fail
        go_ret
        exact ⟨j + 1, rfl, hin, by rw [← HI.out.2.2, HV.out], rfl⟩
end Go.Proofs.YtgpoplfgngiilaaGreatDoor
/- bigall.nat: mulAddWW. -/
namespace Go.Proofs.YtgpoplfgngiilaaGreatDoor
open Go.RowKit Go.Proofs.YtgpoplfgngiilaaGreatDoorW.PrintWords

/-- A slice of words in a row of its own, from block base on. -/
def NV (base : Nat) (w : World) (v : Value) (xs : List Int) : Prop :=
  (v = .slice none 0 0 ∧ xs = []) ∨ ∃ g ys, base ≤ g ∧ v = .slice (some ⟨g, 0, none⟩) xs.length ys.length ∧ Nb w g ys ∧ ys.take xs.length = xs ∧ InR 18446744073709551616 ys ∧ ys.length ≤ 9223372036854775807

theorem NV.fr {base : Nat} {w w' : World} {v : Value} {xs : List Int} {S : Nat → Prop} (h : NV base w v xs) (hf : Fr S w w') (hs : ∀ k, S k → k < base) : NV base w' v xs := by
  rcases h with h | ⟨g, ys, h1, h2, h3, h4⟩
  · exact Or.inl h
  · exact Or.inr ⟨g, ys, h1, h2, h3.far hf (fun h => by have := hs g h; omega), h4⟩

theorem InR_append {B : Nat} {xs ys : List Int} (h1 : InR B xs) (h2 : InR B ys) : InR B (xs ++ ys) := fun z hz => by
  rcases List.mem_append.1 hz with h | h
  · exact h1 z h
  · exact h2 z h
theorem InR_drop {B : Nat} {xs : List Int} (h : InR B xs) (n : Nat) : InR B (xs.drop n) := fun z hz => h z (List.mem_of_mem_drop hz)
theorem InR_replicate (n : Nat) : InR 18446744073709551616 (List.replicate n 0) := fun z hz => by
  obtain ⟨_, rfl⟩ := List.mem_replicate.1 hz
  decide

theorem word_set {xs zs : List Int} {y r m : Nat} (hm : m = xs.length) (hz : m + 1 ≤ zs.length) (hR : InR 18446744073709551616 xs) (hRz : InR 18446744073709551616 zs) (hy : y < 18446744073709551616) (hr : r < 18446744073709551616) :
    (mulW xs y r ++ zs.drop m).set m ((mulC xs y r : Nat) : Int) = mulW xs y r ++ [((mulC xs y r : Nat) : Int)] ++ zs.drop (m + 1) ∧ InR 18446744073709551616 (mulW xs y r ++ [((mulC xs y r : Nat) : Int)] ++ zs.drop (m + 1)) ∧
    (mulW xs y r ++ [((mulC xs y r : Nat) : Int)] ++ zs.drop (m + 1)).take (m + 1) = mulW xs y r ++ [((mulC xs y r : Nat) : Int)] ∧ (mulW xs y r ++ [((mulC xs y r : Nat) : Int)] ++ zs.drop (m + 1)).length = zs.length := by
  have hl : (mulW xs y r).length = m := by rw [mulW_length]; exact hm.symm
  refine ⟨?_, ?_, ?_, ?_⟩
  · rw [List.drop_eq_getElem_cons (by omega), List.set_append_right _ _ (by omega), hl, Nat.sub_self, List.set_cons_zero]
    simp
  · refine InR_append (InR_append (mulW_R _ _ _) ?_) (InR_drop hRz _)
    intro z hz'
    have := mulC_lt xs y r hR hy hr
    simp only [List.mem_singleton] at hz'
    omega
  · rw [List.take_append_of_le_length (by simp; omega)]
    exact List.take_of_length_le (by simp; omega)
  · simp; omega

set_option maxHeartbeats 800000 in
set_option maxRecDepth 1000000 in
theorem mulAddWW_core (base g gz cx cz y r m : Nat) (xs zs : List Int) (w W1 : World) (hm : m = xs.length) (hm0 : 0 < m) (hm2 : m ≤ 1000) (hcx : m ≤ cx) (hcz : cz = zs.length) (hczm : m + 1 ≤ cz) (hcz2 : cz ≤ 9223372036854775807) (hR : InR 18446744073709551616 xs) (hRz : InR 18446744073709551616 zs) (hy0 : 0 < y) (hy : y < 18446744073709551616) (hr : r < 18446744073709551616)
    (hX : XAt W1 gz g xs zs) (hZ : Nb W1 gz zs) (hgz : base ≤ gz) (hB : Below base w W1) (hbw : base ≤ w.heap.size)
    (hmk : Calls Tryz.prog 130 #[.slice (some ⟨g, 0, none⟩) m cx, .int .i64 (m + 1 : Nat)] w fun e w' => e = .returned (.slice (some ⟨gz, 0, none⟩) (m + 1) cz) ∧ w' = W1) :
    Calls Tryz.prog 150 #[.slice (some ⟨g, 0, none⟩) m cx, .slice (some ⟨g, 0, none⟩) m cx, .int .u64 y, .int .u64 r] w fun e w' => ∃ v, e = .returned v ∧ NV base w' v (lits 18446744073709551616 (valL 18446744073709551616 xs * y + r)) ∧ Below base w w' := by
  rw [show ((m + 1 : Nat) : Int) = (m : Int) + 1 by omega] at hmk
  have hmk' := Aside0.mk hmk
  have hmul := Aside0.mk (mulAddVWW gz g cz cx xs zs y r m W1 hm (by omega) (by omega) (by omega) hcx hR hy hr hX hZ)
  obtain ⟨s1, s2, s3, s4⟩ := word_set hm (by omega) hR hRz hy hr
  have hval := mul_val xs y r
  have hy1 : (y == 0) = false := beq_false_of_ne (by omega)
  have hy2 : ((y : Int) == 0) = false := beq_false_of_ne (by omega)
  have hm1 : ((m : Int) == 0) = false := beq_false_of_ne (by omega)
  have hlm : (mulW xs y r).length = m := by rw [mulW_length]; exact hm.symm
  obtain ⟨C, hC⟩ : ∃ C, mulC xs y r = C := ⟨_, rfl⟩
  obtain ⟨Z, hZ'⟩ : ∃ Z, mulW xs y r ++ [((C : Nat) : Int)] ++ zs.drop (m + 1) = Z := ⟨_, rfl⟩
  rw [hC] at s1 s2 s3 s4 hmul hval
  rw [hZ'] at s1 s2 s3 s4
  have hn := Aside0.mk (fun w2 (h : Nb w2 gz Z) => norm_calls gz cz (m + 1) Z w2 (by omega) hczm (by omega) s2 h)
  rw [s3, hval] at hn
  have HS := Aside0.mk (And.intro s1 (And.intro s2 (And.intro s4 (And.intro hgz (And.intro hB hbw)))))
  have HR := Aside0.mk hZ
  have hlen : m < (mulW xs y r ++ zs.drop m).length := by rw [List.length_append, List.length_drop]; omega
  have HL := Aside0.mk (fun w2 (h : Nb w2 gz (mulW xs y r ++ zs.drop m)) => (⟨h.cell m hlen, h.frozen m⟩ : _ ∧ _))
  generalize (mulW xs y r ++ zs.drop m)[m]'hlen = old at HL
  have HC2 := Aside0.mk (And.intro hcz hcz2)
  clear s1 s2 s3 s4 hval hZ' hC hmk hX hZ hRz hR hgz hB hbw hlen hlm hcz2 hcz
  have HM := Aside0.mk hm
  clear hm
  go_enter Tryz.func150, Tryz.ntmps150
  go_wp2_with (first | (go_at_call 130; go_must (refine hmk'.out.mono ?_); rintro e w1 ⟨rfl, rfl⟩) | (go_at_call 206; go_must (refine hmul.out.mono ?_); rintro e w2 ⟨rfl, h1, h2⟩; have H1 := Aside0.mk h1; have H2 := Aside0.mk h2; obtain ⟨q1, q2⟩ := HL.out _ h1; clear h1 h2) | (go_at_call 134; (refine (hn.out _ (by have := H1.out.set m C; rw [HS.out.1] at this; exact this)).mono ?_); rintro e w3 ⟨n', rfl, hn1, hn2, rfl⟩))
  go_ret
  obtain ⟨t1, t2, t4, t5, t6, t7⟩ := HS.out
  have hnz : Nb (w2.setCell ⟨gz, m, none⟩ (.int .u64 C)) gz Z := by have := H1.out.set m C; rw [t1] at this; exact this
  have hlen : (lits 18446744073709551616 (valL 18446744073709551616 xs * y + r)).length = n' := by
    rw [← hn2, List.length_take]
    have := HC2.out
    omega
  refine ⟨_, rfl, Or.inr ⟨gz, Z, t5, ?_, hnz, ?_, t2, ?_⟩, ?_⟩
  · rw [hlen, t4, ← HC2.out.1]; rfl
  · rw [hlen, hn2]
  · rw [t4, ← HC2.out.1]; exact HC2.out.2
  · exact (t6.trans (H2.out.toBelow (Nat.le_trans t7 t6.size) (fun k hk => by rw [hk]; exact t5))).setCell (p := ⟨gz, m, none⟩) t5 _

set_option maxHeartbeats 800000 in
set_option maxRecDepth 1000000 in
theorem setWord_nil (r : Nat) (hr0 : 0 < r) (hr : r < 18446744073709551616) (base : Nat) (w : World) (hb : base ≤ w.heap.size) :
    Calls Tryz.prog 117 #[.slice none 0 0, .int .u64 r] w fun e w' => ∃ v, e = .returned v ∧ NV base w' v [(r : Int)] ∧ Below base w w' := by
  have hy2 : ((r : Int) == 0) = false := beq_false_of_ne (by omega)
  go_enter Tryz.func117, Tryz.ntmps117
  go_wp2_with (go_at_call 130; go_must (refine (make_one none 0 _).mono ?_); rintro e w1 ⟨rfl, rfl⟩)
  go_ret
  refine ⟨_, rfl, Or.inr ⟨w.heap.size, [(r : Int)], hb, rfl, ?_, rfl, ?_, by simp⟩, (Below.refl base w).alloc hb _⟩
  · unfold Nb; rw [heap_alloc_new]; rfl
  · intro z hz
    simp only [List.mem_singleton] at hz
    omega

set_option maxHeartbeats 800000 in
set_option maxRecDepth 1000000 in
/-- z.mulAddWW(z, y, r). -/
theorem mulAddWW (base y r : Nat) (v : Value) (xs : List Int) (w : World) (hV : NV base w v xs) (hl : xs.length ≤ 1000) (hR : InR 18446744073709551616 xs) (hy0 : 0 < y) (hy : y < 18446744073709551616) (hr : r < 18446744073709551616)
    (h0 : xs = [] → v = .slice none 0 0 ∧ 0 < r) (hb : base ≤ w.heap.size) :
    Calls Tryz.prog 150 #[v, v, .int .u64 y, .int .u64 r] w fun e w' => ∃ v, e = .returned v ∧ NV base w' v (lits 18446744073709551616 (valL 18446744073709551616 xs * y + r)) ∧ Below base w w' := by
  by_cases hx : xs = []
  · obtain ⟨rfl, hr0⟩ := h0 hx
    subst hx
    have hs := Aside0.mk (setWord_nil r hr0 hr base w hb)
    have hlit : lits 18446744073709551616 (valL 18446744073709551616 [] * y + r) = [(r : Int)] := by
      simp only [valL, Nat.zero_mul, Nat.zero_add]
      rw [lits_pos _ r (by decide) (by omega), Nat.mod_eq_of_lt hr, Nat.div_eq_of_lt hr, lits_zero]
    rw [hlit]
    clear hV hR h0 hlit hr
    go_enter Tryz.func150, Tryz.ntmps150
    go_wp2_with (go_at_call 117; go_must (refine hs.out.mono ?_); rintro e w1 ⟨v, rfl, h1, h2⟩; have H1 := Aside0.mk h1; have H2 := Aside0.mk h2; clear h1 h2)
    go_ret
    exact ⟨_, rfl, H1.out, H2.out⟩
  · have hl0 : 0 < xs.length := List.length_pos_iff.2 hx
    rcases hV with ⟨_, h⟩ | ⟨g, ys, h1, rfl, h3, h4, h5, h6⟩
    · exact absurd h hx
    · have hle : xs.length ≤ ys.length := by have := congrArg List.length h4; rw [List.length_take] at this; omega
      by_cases hc : xs.length + 1 ≤ ys.length
      · refine mulAddWW_core base g g ys.length ys.length y r xs.length xs ys w w rfl hl0 hl hle rfl hc h6 hR h5 hy0 hy hr (Or.inl ⟨rfl, h4⟩) h3 h1 (Below.refl _ _) hb ?_
        exact (make_reuse _ _ _ _ hc w).mono fun e w' h => ⟨h.1, h.2.symm⟩
      · have hne : g ≠ w.heap.size := by have := h3.lt; omega
        refine mulAddWW_core base g w.heap.size ys.length (xs.length + 5) y r xs.length xs (List.replicate (xs.length + 5) 0) w _ rfl hl0 hl hle (by simp) (by omega) (by omega) hR (InR_replicate _) hy0 hy hr
          (Or.inr ⟨hne, ys, ?_, h4⟩) (nb_new _ w) hb ((Below.refl base w).alloc hb _) hb (make_new _ _ _ _ _ rfl (by omega) (by omega) (by omega) w)
        exact h3.far ((Fr.refl (fun _ => False) w).alloc _) (fun h => h)
end Go.Proofs.YtgpoplfgngiilaaGreatDoor
/- bigall.maxPow, bigall.pow. -/
namespace Go.Proofs.YtgpoplfgngiilaaGreatDoor
open Go.RowKit Go.Proofs.YtgpoplfgngiilaaGreatDoorW.PrintWords

def PRel (b N kq : Nat) (v2 v3 : Value) (w w' : World) : Prop := ∃ (i : Nat) (x : Int), v2 = .int .u64 x ∧ v3 = .int .i64 i ∧ Aside0 (1 ≤ i ∧ i ≤ N ∧ kq = N - i ∧ x = ((b ^ i : Nat) : Int)) ∧ Aside0 (w = w')

theorem pow_le10 (i : Nat) (h : i < 19) : ((((10 : Nat) ^ i : Nat)) : Int) ≤ 1000000000000000000 ∧ 0 ≤ ((((10 : Nat) ^ i : Nat)) : Int) := by
  have : 10 ^ i ≤ 10 ^ 18 := Nat.pow_le_pow_right (by decide) (by omega)
  generalize 10 ^ i = p at *
  omega

set_option maxHeartbeats 800000 in
set_option maxRecDepth 1000000 in
theorem maxPow_10 (w : World) : Calls Tryz.prog 149 #[.int .u64 10] w fun e w' => e = .returned (.tuple #[.int .u64 10000000000000000000, .int .i64 19]) ∧ w = w' := by
  have hq : IntKind.u64.wrap (18446744073709551615 / 10) = 1844674407370955161 := by rw [IntKind.wrap_u64]; decide
  have hq2 : IntKind.u64.wrap (Int.tdiv 18446744073709551615 10) = 1844674407370955161 := by rw [IntKind.wrap_u64]; decide
  go_enter Tryz.func149, Tryz.ntmps149
  go_wp2_with fail
  go_loopg [2, 3] 18 (fun kq v2 v3 w' => PRel 10 19 kq v2 v3 w w')
  case atStart => exact ⟨1, 10, rfl, rfl, ⟨by omega, by omega, rfl, rfl⟩, ⟨rfl⟩⟩
  case round =>
    obtain ⟨i, x, rfl, rfl, HI, HW⟩ := hrel
    obtain rfl := HW.out
    by_cases hi : i < 19
    · obtain ⟨hx0, hx1⟩ := pow_le10 i hi
      rw [← HI.out.2.2.2] at hx0 hx1
      have hb : decide (x ≤ 1844674407370955161) = true := decide_eq_true (by omega)
      go_wp2_with fail
      go_roundg (gk - 1)
      case measure => have := HI.out; omega
      case rel => exact ⟨i + 1, x * 10, rfl, by go_num, ⟨by omega, by omega, by have := HI.out; omega, by rw [HI.out.2.2.2, Nat.pow_succ, Int.natCast_mul]; rfl⟩, ⟨rfl⟩⟩
    · obtain rfl : i = 19 := by have := HI.out; omega
      have hx : x = 10000000000000000000 := HI.out.2.2.2
      subst hx
      go_wp2_with fail
      go_ret2
      exact ⟨rfl, rfl⟩

theorem pow_le8 (i : Nat) (h : i < 21) : ((((8 : Nat) ^ i : Nat)) : Int) ≤ 1152921504606846976 ∧ 0 ≤ ((((8 : Nat) ^ i : Nat)) : Int) := by
  have : 8 ^ i ≤ 8 ^ 20 := Nat.pow_le_pow_right (by decide) (by omega)
  generalize 8 ^ i = p at *
  omega

set_option maxHeartbeats 800000 in
set_option maxRecDepth 1000000 in
theorem maxPow_8 (w : World) : Calls Tryz.prog 149 #[.int .u64 8] w fun e w' => e = .returned (.tuple #[.int .u64 9223372036854775808, .int .i64 21]) ∧ w = w' := by
  have hq : IntKind.u64.wrap (18446744073709551615 / 8) = 2305843009213693951 := by rw [IntKind.wrap_u64]; decide
  have hq2 : IntKind.u64.wrap (Int.tdiv 18446744073709551615 8) = 2305843009213693951 := by rw [IntKind.wrap_u64]; decide
  go_enter Tryz.func149, Tryz.ntmps149
  go_wp2_with fail
  go_loopg [2, 3] 20 (fun kq v2 v3 w' => PRel 8 21 kq v2 v3 w w')
  case atStart => exact ⟨1, 8, rfl, rfl, ⟨by omega, by omega, rfl, rfl⟩, ⟨rfl⟩⟩
  case round =>
    obtain ⟨i, x, rfl, rfl, HI, HW⟩ := hrel
    obtain rfl := HW.out
    by_cases hi : i < 21
    · obtain ⟨hx0, hx1⟩ := pow_le8 i hi
      rw [← HI.out.2.2.2] at hx0 hx1
      have hb : decide (x ≤ 2305843009213693951) = true := decide_eq_true (by omega)
      go_wp2_with fail
      go_roundg (gk - 1)
      case measure => have := HI.out; omega
      case rel => exact ⟨i + 1, x * 8, rfl, by go_num, ⟨by omega, by omega, by have := HI.out; omega, by rw [HI.out.2.2.2, Nat.pow_succ, Int.natCast_mul]; rfl⟩, ⟨rfl⟩⟩
    · obtain rfl : i = 21 := by have := HI.out; omega
      have hx : x = 9223372036854775808 := HI.out.2.2.2
      subst hx
      go_wp2_with fail
      go_ret2
      exact ⟨rfl, rfl⟩

theorem pow_ok (b i : Nat) (h : (b = 2 ∧ i < 64) ∨ (b = 8 ∧ i < 21) ∨ (b = 10 ∧ i < 19) ∨ (b = 16 ∧ i < 16)) : Pr.bigall_pow.f 10 (b : Int) (i : Int) = some ((b ^ i : Nat) : Int) := by
  have h2 : ∀ i : Fin 64, Pr.bigall_pow.f 10 ((2 : Nat) : Int) ((i.val : Nat) : Int) = some (((2 : Nat) ^ i.val : Nat) : Int) := by decide +kernel
  have h8 : ∀ i : Fin 21, Pr.bigall_pow.f 10 ((8 : Nat) : Int) ((i.val : Nat) : Int) = some (((8 : Nat) ^ i.val : Nat) : Int) := by decide +kernel
  have h10 : ∀ i : Fin 19, Pr.bigall_pow.f 10 ((10 : Nat) : Int) ((i.val : Nat) : Int) = some (((10 : Nat) ^ i.val : Nat) : Int) := by decide +kernel
  have h16 : ∀ i : Fin 16, Pr.bigall_pow.f 10 ((16 : Nat) : Int) ((i.val : Nat) : Int) = some (((16 : Nat) ^ i.val : Nat) : Int) := by decide +kernel
  rcases h with ⟨rfl, h⟩ | ⟨rfl, h⟩ | ⟨rfl, h⟩ | ⟨rfl, h⟩
  · exact h2 ⟨i, h⟩
  · exact h8 ⟨i, h⟩
  · exact h10 ⟨i, h⟩
  · exact h16 ⟨i, h⟩
end Go.Proofs.YtgpoplfgngiilaaGreatDoor
/- strings.Reader: a byte read, a byte given back. -/
namespace Go.Proofs.YtgpoplfgngiilaaGreatDoor
open Go.RowKit Go.Proofs.YtgpoplfgngiilaaGreatDoorW.PrintWords

/-- Block r is a Reader of s that stands at i. -/
def Rd (w : World) (r : Nat) (s : ByteArray) (i : Nat) : Prop := ∃ p : Int, w.heap[r]? = some (.cells #[.string s, .int .i64 i, .int .i64 p] 189 (0, 0))

theorem Rd.far {S : Nat → Prop} {w w' : World} {r : Nat} {s : ByteArray} {i : Nat} (h : Rd w r s i) (hf : Fr S w w') (hn : ¬ S r) : Rd w' r s i := by
  obtain ⟨p, hp⟩ := h
  exact ⟨p, (hf.block r (Go.Proofs.YtgpoplfgngiilaaGreatDoorW.PrintWords.blk_lt hp) hn).trans hp⟩
theorem Rd.lt {w : World} {r : Nat} {s : ByteArray} {i : Nat} (h : Rd w r s i) : r < w.heap.size := by
  obtain ⟨p, hp⟩ := h
  exact Go.Proofs.YtgpoplfgngiilaaGreatDoorW.PrintWords.blk_lt hp
theorem Fr.drewN {S : Nat → Prop} {w w' : World} (h : Fr S w w') (n : Nat) : Fr S w (w'.drewN n) := ⟨h.os, h.tape, h.output, h.size, h.block⟩

theorem fr1 {r o : Nat} {w w' : World} (h : Fr (fun k => k = r) w w') (u : Value) : Fr (fun k => k = r) w (w'.setCell ⟨r, o, none⟩ u) := h.setCell (p := ⟨r, o, none⟩) (Or.inl rfl) u

theorem rd_cells {w : World} {r : Nat} {s : ByteArray} {i : Nat} (h : Rd w r s i) : ∃ p : Int, w.cell? ⟨r, 0, none⟩ = some (.string s) ∧ w.cell? ⟨r, 1, none⟩ = some (.int .i64 i) ∧ w.cell? ⟨r, 2, none⟩ = some (.int .i64 p) ∧
    w.frozen? ⟨r, 0, none⟩ = false ∧ w.frozen? ⟨r, 1, none⟩ = false ∧ w.frozen? ⟨r, 2, none⟩ = false := by
  obtain ⟨p, hp⟩ := h
  exact ⟨p, Go.Proofs.YtgpoplfgngiilaaGreatDoorW.PrintWords.blk_cell hp 0, Go.Proofs.YtgpoplfgngiilaaGreatDoorW.PrintWords.blk_cell hp 1, Go.Proofs.YtgpoplfgngiilaaGreatDoorW.PrintWords.blk_cell hp 2,
    Go.Proofs.YtgpoplfgngiilaaGreatDoorW.PrintWords.blk_frozen hp 0, Go.Proofs.YtgpoplfgngiilaaGreatDoorW.PrintWords.blk_frozen hp 1, Go.Proofs.YtgpoplfgngiilaaGreatDoorW.PrintWords.blk_frozen hp 2⟩

theorem rd_set2 {w : World} {r : Nat} {s : ByteArray} {i : Nat} (h : Rd w r s i) (p : Int) : Rd (w.setCell ⟨r, 2, none⟩ (.int .i64 p)) r s i := by
  obtain ⟨q, hq⟩ := h
  exact ⟨p, blk_set hq 2 _⟩
theorem rd_set1 {w : World} {r : Nat} {s : ByteArray} {i : Nat} (h : Rd w r s i) (j : Nat) : Rd (w.setCell ⟨r, 1, none⟩ (.int .i64 j)) r s j := by
  obtain ⟨q, hq⟩ := h
  exact ⟨q, blk_set hq 1 _⟩
theorem rd_set1' {w : World} {r : Nat} {s : ByteArray} {i : Nat} (h : Rd w r s i) (j : Nat) (x : Int) (hx : x = (j : Int)) : Rd (w.setCell ⟨r, 1, none⟩ (.int .i64 x)) r s j := by
  subst hx
  exact rd_set1 h j
theorem rd_drewN {w : World} {r : Nat} {s : ByteArray} {i : Nat} (h : Rd w r s i) (n : Nat) : Rd (w.drewN n) r s i := h

set_option maxHeartbeats 4000000 in
set_option maxRecDepth 1000000 in
theorem readByte_in (r : Nat) (s : ByteArray) (i : Nat) (hi : i < s.size) (hs : s.size ≤ 1000000) (w : World) (hr : Rd w r s i) :
    Calls Tryz.prog 110 #[.pointer (some ⟨r, 0, none⟩)] w fun e w' => e = .returned (.tuple #[.int .u8 ((s[i]'hi).toNat : Int), .nilIface]) ∧ Rd w' r s (i + 1) ∧ Fr (fun k => k = r) w w' := by
  obtain ⟨p, c0, c1, c2, n0, n1, n2⟩ := rd_cells hr
  have HR := Aside0.mk hr
  clear hr
  go_enter Tryz.func110, Tryz.ntmps110
  go_wp2_with fail
  go_quiet (fail)
  go_wp2_with fail
  go_quiet (fail)
  go_wp2_with fail
  go_ret2
  exact ⟨rfl, rd_set1' (rd_drewN (rd_set2 HR.out _) _) _ _ (by omega), fr1 ((fr1 (Fr.refl _ _) _).drewN _) _⟩

set_option maxHeartbeats 4000000 in
set_option maxRecDepth 1000000 in
theorem readByte_end (r : Nat) (s : ByteArray) (i : Nat) (hi : s.size ≤ i) (w : World) (ev : Value) (hr : Rd w r s i) (hv : w.cell? ⟨1, 0, none⟩ = some ev) :
    Calls Tryz.prog 110 #[.pointer (some ⟨r, 0, none⟩)] w fun e w' => e = .returned (.tuple #[.int .u8 0, ev]) ∧ Rd w' r s i ∧ Fr (fun k => k = r) w w' := by
  obtain ⟨p, c0, c1, c2, n0, n1, n2⟩ := rd_cells hr
  have HR := Aside0.mk hr
  clear hr
  go_enter Tryz.func110, Tryz.ntmps110
  go_wp2_with fail
  go_quiet (fail)
  go_wp2_with fail
  go_quiet (fail)
  go_wp2_with fail
  go_ret2
  exact ⟨rfl, rd_set2 HR.out (-1), (((fr1 (Fr.refl _ _) _).drewN _).drewN _)⟩

set_option maxHeartbeats 4000000 in
set_option maxRecDepth 1000000 in
theorem unreadByte (r : Nat) (s : ByteArray) (i : Nat) (hi : i + 1 ≤ s.size) (hs : s.size ≤ 1000000) (w : World) (hr : Rd w r s (i + 1)) :
    Calls Tryz.prog 347 #[.pointer (some ⟨r, 0, none⟩)] w fun e w' => e = .returned .nilIface ∧ Rd w' r s i ∧ Fr (fun k => k = r) w w' := by
  obtain ⟨p, c0, c1, c2, n0, n1, n2⟩ := rd_cells hr
  have HR := Aside0.mk hr
  clear hr
  go_enter Tryz.func347, Tryz.ntmps347
  go_wp2_with fail
  go_ret
  exact ⟨rfl, rd_set1' (rd_set2 HR.out _) _ _ (by omega), fr1 (fr1 (Fr.refl _ _) _) _⟩
end Go.Proofs.YtgpoplfgngiilaaGreatDoor
/- bigall.scanSign where there is no sign. -/
namespace Go.Proofs.YtgpoplfgngiilaaGreatDoor
open Go.RowKit Go.Proofs.YtgpoplfgngiilaaGreatDoorW.PrintWords

theorem me_read (v : Value) (w : World) : (method 462 133 v "ReadByte").run Tryz.prog w = .ok (110, v) w := by kernel_rfl
theorem me_unread (v : Value) (w : World) : (method 462 133 v "UnreadByte").run Tryz.prog w = .ok (347, v) w := by kernel_rfl

attribute [local go_sem] me_read me_unread

set_option maxHeartbeats 4000000 in
set_option maxRecDepth 1000000 in
theorem scanSign_none (r : Nat) (s : ByteArray) (hi : 0 < s.size) (hs : s.size ≤ 1000000) (h43 : (s[0]'hi).toNat ≠ 43) (h45 : (s[0]'hi).toNat ≠ 45) (w : World) (hr : Rd w r s 0) :
    Calls Tryz.prog 111 #[.iface 133 (.pointer (some ⟨r, 0, none⟩))] w fun e w' => e = .returned (.tuple #[.bool false, .nilIface]) ∧ Rd w' r s 0 ∧ Fr (fun k => k = r) w w' := by
  have HR := Aside0.mk hr
  obtain ⟨q, H0⟩ : ∃ q : Int, ((s[0]'hi).toNat : Int) = q := ⟨_, rfl⟩
  have g1 : (q == 43) = false := beq_false_of_ne (by omega)
  have g2 : (q == 45) = false := beq_false_of_ne (by omega)
  clear hr h43 h45
  go_enter Tryz.func111, Tryz.ntmps111
  go_wp2_with (first | (go_at_call 110; (refine (readByte_in r s 0 hi hs _ HR.out).mono ?_); rintro e w1 ⟨rfl, hr1, hf1⟩; rw [H0]; have HR1 := Aside0.mk hr1; have HF1 := Aside0.mk hf1; clear hr1 hf1) | (go_at_call 347; (refine (unreadByte r s 0 (by omega) hs _ HR1.out).mono ?_); rintro e w2 ⟨rfl, hr2, hf2⟩; have HR2 := Aside0.mk hr2; have HF2 := Aside0.mk hf2; clear hr2 hf2))
  go_ret2
  exact ⟨rfl, HR2.out, HF1.out.trans HF2.out⟩
end Go.Proofs.YtgpoplfgngiilaaGreatDoor
/- What bigall's nat.scan keeps, in plain numbers. -/
namespace Go.Proofs.YtgpoplfgngiilaaGreatDoor
open Go.RowKit Go.Proofs.YtgpoplfgngiilaaGreatDoorW.PrintWords

theorem Rd.below {base : Nat} {w w' : World} {r : Nat} {s : ByteArray} {i : Nat} (h : Rd w r s i) (hb : Below base w w') (hr : r < base) : Rd w' r s i := by
  obtain ⟨p, hp⟩ := h
  exact ⟨p, (hb.block r hr).trans hp⟩

theorem pv_take_dig {b k : Nat} {cs : List UInt8} (hk : k < cs.length) (h95 : cs[k]'hk ≠ 95) : pv b 0 (cs.take (k + 1)) = pv b 0 (cs.take k) * b + dval (cs[k]'hk) := by
  rw [List.take_add_one, List.getElem?_eq_getElem hk, pv_append]
  show stepV b _ _ = _
  unfold stepV
  rw [if_neg h95]
theorem pv_take_us {b k : Nat} {cs : List UInt8} (hk : k < cs.length) (h95 : cs[k]'hk = 95) : pv b 0 (cs.take (k + 1)) = pv b 0 (cs.take k) := by
  rw [List.take_add_one, List.getElem?_eq_getElem hk, pv_append, h95]
  rfl
theorem pv_take_le {b : Nat} (hb : 1 ≤ b) (cs : List UInt8) (k : Nat) : pv b 0 (cs.take k) ≤ pv b 0 cs := by
  have h := pv_append b 0 (cs.take k) (cs.drop k)
  rw [List.take_append_drop] at h
  rw [h]
  exact pv_le b hb _ _
theorem pv_take_pos {b : Nat} (hb : 1 ≤ b) {cs : List UInt8} (h0 : 0 < cs.length) (h95 : cs[0]'h0 ≠ 95) (hd : 0 < dval (cs[0]'h0)) (k : Nat) (hk : 0 < k) : 0 < pv b 0 (cs.take k) := by
  cases cs with
  | nil => simp at h0
  | cons c cs =>
    cases k with
    | zero => omega
    | succ k =>
      rw [List.take_succ_cons, pv_cons]
      refine Nat.lt_of_lt_of_le ?_ (pv_le b hb _ _)
      show 0 < stepV b 0 c
      unfold stepV
      rw [if_neg (show c ≠ 95 from h95)]
      have : 0 < dval c := hd
      omega
theorem dig_bound {b i d x : Nat} (hd : d < b ^ i) (hx : x < b) : d * b + x < b ^ (i + 1) := by
  rw [Nat.pow_succ]
  have : (d + 1) * b ≤ b ^ i * b := Nat.mul_le_mul_right b hd
  rw [Nat.add_mul] at this
  omega
theorem scan_dig {b i d x X P P' : Nat} (h : X * b ^ i + d = P) (hP : P' = P * b + x) : X * b ^ (i + 1) + (d * b + x) = P' := by
  rw [hP, ← h, Nat.add_mul, Nat.pow_succ, Nat.mul_assoc, Nat.add_assoc]
theorem lits_len_10 {n : Nat} (h : n < 18446744073709551616 ^ 10) : (lits 18446744073709551616 n).length ≤ 10 := (lits_figs 18446744073709551616 10 n (by decide) h).2
theorem ext_get (s : ByteArray) (p j : Nat) (h : p + j < s.size) (cs : List UInt8) (hcs : cs = (s.extract p s.size).data.toList) : ∃ hj : j < cs.length, cs[j]'hj = s[p + j]'h := by
  subst hcs
  have hl : ((s.extract p s.size).data.toList).length = s.size - p := by rw [Lib.size_eq]; simp [ByteArray.size_extract]
  refine ⟨by rw [hl]; omega, ?_⟩
  simp [ByteArray.data_extract]
  rfl
end Go.Proofs.YtgpoplfgngiilaaGreatDoor
/- Int.scan, Int.setFromScanner, Int.SetString: a text of figures is its number. -/
namespace Go.Proofs.YtgpoplfgngiilaaGreatDoor
open Go.RowKit Go.Proofs.YtgpoplfgngiilaaGreatDoorW.PrintWords
attribute [local go_sem] me_read me_unread

/-- nat.scan reads the whole text s as the number V. -/
def ScansTo (s : ByteArray) (V : Nat) (te : TypeId) (pe : Value) : Prop :=
  ∀ (r : Nat) (w : World), Rd w r s 0 → w.cell? ⟨1, 0, none⟩ = some (.iface te pe) → r ≠ 1 →
    Calls Tryz.prog 109 #[.slice none 0 0, .iface 133 (.pointer (some ⟨r, 0, none⟩)), .int .i64 0, .bool false] w fun e w' =>
      ∃ (v : Value) (bb cnt : Int), e = .returned (.tuple #[v, .int .i64 bb, .int .i64 cnt, .nilIface]) ∧ NV w.heap.size w' v (lits 18446744073709551616 V) ∧ Rd w' r s s.size ∧ Fr (fun k => k = r) w w'

theorem NV.slice {base : Nat} {w : World} {v : Value} {xs : List Int} (h : NV base w v xs) : ∃ A c n, xs.length = n ∧ v = .slice A n c := by
  rcases h with ⟨rfl, rfl⟩ | ⟨g, ys, h1, rfl, h3, h4⟩
  · exact ⟨none, 0, 0, rfl, rfl⟩
  · exact ⟨_, _, _, rfl, rfl⟩
theorem NV.lower {b b' : Nat} {w : World} {v : Value} {xs : List Int} (h : NV b w v xs) (hb : b' ≤ b) : NV b' w v xs := by
  rcases h with h | ⟨g, ys, h1, h2⟩
  · exact Or.inl h
  · exact Or.inr ⟨g, ys, Nat.le_trans hb h1, h2⟩
/-- Block z is an Int. -/
def Iz (w : World) (z : Nat) (v : Value) : Prop := w.heap[z]? = some (.cells #[.bool false, v] 116 (0, 0))
theorem Iz.lt {w : World} {z : Nat} {v : Value} (h : Iz w z v) : z < w.heap.size := Go.Proofs.YtgpoplfgngiilaaGreatDoorW.PrintWords.blk_lt h
theorem Iz.far {S : Nat → Prop} {w w' : World} {z : Nat} {v : Value} (h : Iz w z v) (hf : Fr S w w') (hn : ¬ S z) : Iz w' z v := (hf.block z h.lt hn).trans h
theorem Iz.c0 {w : World} {z : Nat} {v : Value} (h : Iz w z v) : w.cell? ⟨z, 0, none⟩ = some (.bool false) := Go.Proofs.YtgpoplfgngiilaaGreatDoorW.PrintWords.blk_cell h 0
theorem Iz.c1 {w : World} {z : Nat} {v : Value} (h : Iz w z v) : w.cell? ⟨z, 1, none⟩ = some v := Go.Proofs.YtgpoplfgngiilaaGreatDoorW.PrintWords.blk_cell h 1
theorem Iz.f0 {w : World} {z : Nat} {v : Value} (h : Iz w z v) (i : Nat) : w.frozen? ⟨z, i, none⟩ = false := Go.Proofs.YtgpoplfgngiilaaGreatDoorW.PrintWords.blk_frozen h i
theorem Iz.set {w : World} {z : Nat} {v : Value} (h : Iz w z v) (v' : Value) : Iz ((w.setCell ⟨z, 1, none⟩ v').setCell ⟨z, 0, none⟩ (.bool false)) z v' := by
  have h1 := blk_set h 1 v'
  exact blk_set h1 0 (.bool false)

theorem two_sets (z : Nat) (w : World) (a b : Value) : Fr (fun k => k = z) w ((w.setCell ⟨z, 1, none⟩ a).setCell ⟨z, 0, none⟩ b) :=
  ((Fr.refl (fun k => k = z) w).setCell (p := ⟨z, 1, none⟩) (Or.inl rfl) _).setCell (p := ⟨z, 0, none⟩) (Or.inl rfl) _

set_option maxHeartbeats 2000000 in
set_option maxRecDepth 1000000 in
theorem int_scan (s : ByteArray) (V : Nat) (te : TypeId) (pe : Value) (hsc : ScansTo s V te pe) (hi : 0 < s.size) (hs : s.size ≤ 1000000) (h43 : (s[0]'hi).toNat ≠ 43) (h45 : (s[0]'hi).toNat ≠ 45) (z r : Nat) (w : World)
    (hzr : z ≠ r) (hr1 : r ≠ 1) (hr : Rd w r s 0) (hz : Iz w z (.slice none 0 0)) (hE : w.cell? ⟨1, 0, none⟩ = some (.iface te pe)) :
    Calls Tryz.prog 103 #[.pointer (some ⟨z, 0, none⟩), .iface 133 (.pointer (some ⟨r, 0, none⟩)), .int .i64 0] w fun e w' =>
      ∃ (v : Value) (bb : Int), e = .returned (.tuple #[.pointer (some ⟨z, 0, none⟩), .int .i64 bb, .nilIface]) ∧ Iz w' z v ∧ NV w.heap.size w' v (lits 18446744073709551616 V) ∧ Rd w' r s s.size ∧ Fr (fun k => k = r ∨ k = z) w w' := by
  have HSC := Aside0.mk hsc
  have HR := Aside0.mk hr
  have HZ := Aside0.mk hz
  have HE := Aside0.mk hE
  have HH := Aside0.mk (And.intro h43 h45)
  have HN := Aside0.mk (And.intro hzr hr1)
  clear hsc hr hz hE h43 h45 hzr hr1
  rcases Nat.eq_zero_or_pos (lits 18446744073709551616 V).length with hN | hN
  all_goals
    go_enter Tryz.func103, Tryz.ntmps103
    go_wp2_with (first | (go_at_call 111; go_must (refine (scanSign_none r s hi hs HH.out.1 HH.out.2 _ HR.out).mono ?_); rintro e w1 ⟨rfl, hr1', hf1⟩; have HR1 := Aside0.mk hr1'; have HF1 := Aside0.mk hf1; have HZ1 := Aside0.mk (HZ.out.far hf1 HN.out.1); have d1 := HZ1.out.c1; clear hr1' hf1) | (go_at_call 109; go_must (refine (HSC.out r _ HR1.out (HF1.out.cellv HE.out (fun h => HN.out.2 h.symm)) HN.out.2).mono ?_); rintro e w2 ⟨v, bb, cnt, rfl, hn2, hr2, hf2⟩; obtain ⟨A, c, n, hn, rfl⟩ := hn2.slice; have HN2 := Aside0.mk hn2; have HR2 := Aside0.mk hr2; have HF2 := Aside0.mk hf2; have HZ2 := Aside0.mk (HZ1.out.far hf2 HN.out.1); have g0 := HZ2.out.c0; have g1 := HZ2.out.c1; have k0 := HZ2.out.f0 0; have k1 := HZ2.out.f0 1; rw [hn] at hN; clear hn2 hr2 hf2 hn; (try obtain rfl : n = 0 := hN); (try have hb : decide ((n : Int) > 0) = true := decide_eq_true (by omega))))
    exact bodyPost_ret (v := .tuple #[.pointer (some ⟨z, 0, none⟩), .int .i64 bb, .nilIface]) (by simp [results, Tryz.results103, go_sem]) rfl ⟨_, bb, rfl, HZ2.out.set _, NV.fr (S := fun k => k = z) (HN2.out.lower HF1.out.size) (two_sets z _ _ _) (fun k hk => by rw [hk]; exact HZ.out.lt), HR2.out.far (two_sets z _ _ _) (fun h => HN.out.1 h.symm), ((HF1.out.trans HF2.out).mono (S' := fun k => k = r ∨ k = z) (fun k hk => Or.inl hk)).trans ((two_sets z _ _ _).mono (fun k hk => Or.inr hk))⟩

set_option maxHeartbeats 2000000 in
set_option maxRecDepth 1000000 in
theorem set_scan (s : ByteArray) (V : Nat) (te : TypeId) (pe : Value) (hsc : ScansTo s V te pe) (hi : 0 < s.size) (hs : s.size ≤ 1000000) (h43 : (s[0]'hi).toNat ≠ 43) (h45 : (s[0]'hi).toNat ≠ 45) (z r : Nat) (w : World)
    (hzr : z ≠ r) (hr1 : r ≠ 1) (hz1 : z ≠ 1) (hr : Rd w r s 0) (hz : Iz w z (.slice none 0 0)) (hE : w.cell? ⟨1, 0, none⟩ = some (.iface te pe)) (hq : ∀ W, (binOp .neq 85 (.iface te pe) (.iface te pe)).run Tryz.prog W = .ok (.bool false) W) :
    Calls Tryz.prog 66 #[.pointer (some ⟨z, 0, none⟩), .iface 133 (.pointer (some ⟨r, 0, none⟩)), .int .i64 0] w fun e w' =>
      ∃ v : Value, e = .returned (.tuple #[.pointer (some ⟨z, 0, none⟩), .bool true]) ∧ Iz w' z v ∧ NV w.heap.size w' v (lits 18446744073709551616 V) ∧ Fr (fun k => k = r ∨ k = z) w w' := by
  have HSC := Aside0.mk (int_scan s V te pe hsc hi hs h43 h45 z r w hzr hr1 hr hz hE)
  have HE := Aside0.mk hE
  have HN := Aside0.mk (And.intro hzr (And.intro hr1 hz1))
  have HZ := Aside0.mk (And.intro hz.lt hr.lt)
  clear hsc hr hz hE h43 h45 hzr hr1 hz1
  go_enter Tryz.func66, Tryz.ntmps66
  go_wp2_with (first | (go_at_call 103; go_must (refine HSC.out.mono ?_); rintro e w1 ⟨v, bb, rfl, hz1, hn1, hr1, hf1⟩; have HZ1 := Aside0.mk hz1; have HN1 := Aside0.mk hn1; have HR1 := Aside0.mk hr1; have HF1 := Aside0.mk hf1; have d1 := hf1.cellv HE.out (fun h => h.elim (fun h => HN.out.2.1 h.symm) (fun h => HN.out.2.2 h.symm)); clear hz1 hn1 hr1 hf1) | (go_at_call 110; go_must (refine (readByte_end r s s.size (Nat.le_refl _) _ (.iface te pe) HR1.out d1).mono ?_); rintro e w2 ⟨rfl, hr2, hf2⟩; have HF2 := Aside0.mk hf2; have d2 := hf2.cellv d1 (fun h => HN.out.2.1 h.symm); clear hr2 hf2))
  exact bodyPost_ret (v := .tuple #[.pointer (some ⟨z, 0, none⟩), .bool true]) (by simp [results, Tryz.results66, go_sem]) rfl ⟨v, rfl, HZ1.out.far HF2.out HN.out.1, HN1.out.fr HF2.out (fun k hk => by rw [hk]; exact HZ.out.2), HF1.out.trans (HF2.out.mono (fun k hk => Or.inl hk))⟩

set_option maxHeartbeats 2000000 in
set_option maxRecDepth 1000000 in
/-- Int.SetString of a new Int. -/
theorem setString (s : ByteArray) (V : Nat) (te : TypeId) (pe : Value) (hsc : ScansTo s V te pe) (hi : 0 < s.size) (hs : s.size ≤ 1000000) (h43 : (s[0]'hi).toNat ≠ 43) (h45 : (s[0]'hi).toNat ≠ 45) (z : Nat) (w : World)
    (hz1 : z ≠ 1) (hz : Iz w z (.slice none 0 0)) (hE : w.cell? ⟨1, 0, none⟩ = some (.iface te pe)) (hq : ∀ W, (binOp .neq 85 (.iface te pe) (.iface te pe)).run Tryz.prog W = .ok (.bool false) W) :
    Calls Tryz.prog 45 #[.pointer (some ⟨z, 0, none⟩), .string s, .int .i64 0] w fun e w' =>
      ∃ v : Value, e = .returned (.tuple #[.pointer (some ⟨z, 0, none⟩), .bool true]) ∧ Iz w' z v ∧ NV w.heap.size w' v (lits 18446744073709551616 V) ∧ Fr (fun k => k = z) w w' := by
  have h1 : 1 < w.heap.size := World.block_lt_of_cell? w ⟨1, 0, none⟩ hE
  have hne : z ≠ w.heap.size := by have := hz.lt; omega
  have hA : Fr (fun k => k = z) w (w.alloc (.cells #[.string s, .int .i64 0, .int .i64 (-1)] 189)) := (Fr.refl _ _).alloc _
  have hA0 : Fr (fun _ => False) w (w.alloc (.cells #[.string s, .int .i64 0, .int .i64 (-1)] 189)) := (Fr.refl _ _).alloc _
  have HSC := Aside0.mk (set_scan s V te pe hsc hi hs h43 h45 z w.heap.size (w.alloc (.cells #[.string s, .int .i64 0, .int .i64 (-1)] 189)) hne (by omega) hz1 ⟨-1, heap_alloc_new w _⟩ (hz.far hA0 (fun h => h)) (hA0.cellv hE (fun h => h)) hq)
  have HF := Aside0.mk hA
  clear hsc hz hE h43 h45 hne h1 hz1 hA hA0
  go_enter Tryz.func45, Tryz.ntmps45
  go_wp2_with (first | (go_at_call 66; go_must (refine HSC.out.mono ?_); rintro e w1 ⟨v, rfl, hz1, hn1, hf1⟩; have HZ1 := Aside0.mk hz1; have HN1 := Aside0.mk hn1; have HF1 := Aside0.mk hf1; clear hz1 hn1 hf1) | go_in)
  exact bodyPost_ret (v := .tuple #[.pointer (some ⟨z, 0, none⟩), .bool true]) (by simp [results, Tryz.results45, go_sem]) rfl ⟨v, rfl, HZ1.out, HN1.out.lower HF.out.size, HF.out.call HF1.out (fun k hk => hk.elim (fun h => Or.inr (by omega)) Or.inl)⟩
end Go.Proofs.YtgpoplfgngiilaaGreatDoor
