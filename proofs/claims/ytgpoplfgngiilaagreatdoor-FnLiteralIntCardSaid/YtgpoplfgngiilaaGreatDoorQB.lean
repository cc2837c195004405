/- A row of words turned round, and shifted to the right: plain numbers. -/
import Derived.Test.YtgpoplfgngiilaaGreatDoorQN
import Derived.Laws.BitsAllLaws
import Derived.ArgAppend
import Derived.Outline
import Derived.BigRegion
set_option linter.unusedVariables false
set_option linter.unusedSimpArgs false
namespace Go.Proofs.YtgpoplfgngiilaaGreatDoor
open Go.RowKit Go.Proofs.YtgpoplfgngiilaaGreatDoorW.PrintWords

/-- The word of index j behind a shift by log2 M (M * K = 2^64). -/
def shE (xs : List Int) (M K j : Nat) : Nat := (xs[j]?.getD 0).toNat / M + ((xs[j + 1]?.getD 0).toNat * K) % 18446744073709551616
def shW (xs : List Int) (M K n : Nat) : List Int := (List.range n).map fun j => ((shE xs M K j : Nat) : Int)

theorem shW_length (xs : List Int) (M K n : Nat) : (shW xs M K n).length = n := by simp [shW]
theorem shW_cons (x : Int) (ys : List Int) (M K n : Nat) : shW (x :: ys) M K (n + 1) = ((shE (x :: ys) M K 0 : Nat) : Int) :: shW ys M K n := by
  unfold shW
  rw [List.range_succ_eq_map, List.map_cons, List.map_map]
  rfl
theorem shW_snoc (xs : List Int) (M K n : Nat) : shW xs M K (n + 1) = shW xs M K n ++ [((shE xs M K n : Nat) : Int)] := by
  unfold shW
  rw [List.range_succ, List.map_append]
  rfl

theorem shW_val {M K : Nat} (hMK : M * K = 18446744073709551616) (hM : 0 < M) : ∀ xs : List Int, valL 18446744073709551616 (shW xs M K xs.length) = valL 18446744073709551616 xs / M
  | [] => by simp [shW, valL]
  | x :: ys => by
    have ih := shW_val hMK hM ys
    rw [List.length_cons, shW_cons]
    simp only [valL]
    rw [ih, Int.toNat_natCast]
    have h1 : (x.toNat + 18446744073709551616 * valL 18446744073709551616 ys) / M = x.toNat / M + K * valL 18446744073709551616 ys := by
      rw [← hMK, Nat.mul_assoc, Nat.add_mul_div_left _ _ hM]
    rw [h1]
    have h2 : shE (x :: ys) M K 0 = x.toNat / M + (valL 18446744073709551616 ys % M) * K := by
      unfold shE
      simp only [List.getElem?_cons_zero, Option.getD_some, List.getElem?_cons_succ, Nat.zero_add]
      congr 1
      cases ys with
      | nil => simp [valL]
      | cons y zs =>
        simp only [List.getElem?_cons_zero, Option.getD_some, valL]
        rw [show (18446744073709551616 : Nat) = M * K from hMK.symm, Nat.mul_mod_mul_right, Nat.mul_assoc, Nat.add_mul_mod_self_left]
    rw [h2]
    have h3 := Nat.div_add_mod (valL 18446744073709551616 ys) M
    generalize valL 18446744073709551616 ys = V at *
    rw [← hMK]
    have h4 : K * V = K * (M * (V / M)) + K * (V % M) := by rw [← Nat.mul_add, h3]
    rw [h4, Nat.mul_comm (V % M) K, Nat.mul_comm M K, Nat.mul_assoc]
    omega

theorem shE_lt {M K : Nat} (hMK : M * K = 18446744073709551616) (hM : 0 < M) (hK : 0 < K) (xs : List Int) (hR : InR 18446744073709551616 xs) (j : Nat) : shE xs M K j < 18446744073709551616 := by
  have g : ∀ j : Nat, (xs[j]?.getD 0).toNat < 18446744073709551616 := by
    intro j
    cases h : xs[j]? with
    | none => simp
    | some x =>
      have := hR x (List.mem_of_getElem? h)
      simp only [Option.getD_some]
      omega
  unfold shE
  have h1 : (xs[j]?.getD 0).toNat / M < K := Nat.div_lt_of_lt_mul (by rw [hMK]; exact g j)
  generalize (xs[j]?.getD 0).toNat / M = p at *
  generalize (xs[j + 1]?.getD 0).toNat = q at *
  have h2 : (q * K) % 18446744073709551616 = (q % M) * K := by rw [← hMK, Nat.mul_mod_mul_right]
  rw [h2]
  have h3 : (q % M + 1) * K ≤ M * K := Nat.mul_le_mul_right K (Nat.mod_lt q hM)
  rw [hMK, Nat.add_mul] at h3
  omega
theorem shW_R {M K : Nat} (hMK : M * K = 18446744073709551616) (hM : 0 < M) (hK : 0 < K) (xs : List Int) (hR : InR 18446744073709551616 xs) (n : Nat) : InR 18446744073709551616 (shW xs M K n) := by
  intro z hz
  unfold shW at hz
  obtain ⟨j, _, rfl⟩ := List.mem_map.1 hz
  have := shE_lt hMK hM hK xs hR j
  omega

/-- What the code writes: the two parts joined bit by bit. -/
theorem sh_or {s t x y : Nat} (hst : s + t = 64) (hx : x < 18446744073709551616) : (x / 2 ^ s) ||| ((y * 2 ^ t) % 18446744073709551616) = x / 2 ^ s + (y * 2 ^ t) % 18446744073709551616 := by
  have hMK : 2 ^ s * 2 ^ t = 18446744073709551616 := by rw [← Nat.pow_add, hst]
  have h2 : (y * 2 ^ t) % 18446744073709551616 = (y % 2 ^ s) * 2 ^ t := by rw [← hMK, Nat.mul_mod_mul_right]
  have h1 : x / 2 ^ s < 2 ^ t := Nat.div_lt_of_lt_mul (by rw [hMK]; exact hx)
  rw [h2, Nat.add_comm, Nat.or_comm, ← Nat.shiftLeft_eq, Nat.shiftLeft_add_eq_or_of_lt h1]

/-- A row whose first m words are turned round as far as i. -/
def revS (ys : List Int) (m i : Nat) : List Int := (List.range ys.length).map fun k => if k < m ∧ (k < i ∨ m ≤ k + i) then ys[m - 1 - k]?.getD 0 else ys[k]?.getD 0
theorem revS_length (ys : List Int) (m i : Nat) : (revS ys m i).length = ys.length := by simp [revS]
theorem revS_get (ys : List Int) (m i k : Nat) (h : k < (revS ys m i).length) : (revS ys m i)[k]'h = if k < m ∧ (k < i ∨ m ≤ k + i) then ys[m - 1 - k]?.getD 0 else ys[k]?.getD 0 := by
  simp [revS]
theorem revS_zero (ys : List Int) (m : Nat) : revS ys m 0 = ys := by
  apply List.ext_getElem (by simp [revS])
  intro k h1 h2
  rw [revS_get, if_neg (by omega), List.getElem?_eq_getElem h2]
  rfl
theorem revS_lo {ys : List Int} {m i : Nat} (hm : m ≤ ys.length) (hi : 2 * i + 1 < m) (h : i < (revS ys m i).length) : (revS ys m i)[i]'h = ys[i]?.getD 0 := by
  rw [revS_get, if_neg (by omega)]
theorem revS_hi {ys : List Int} {m i j : Nat} (hm : m ≤ ys.length) (hi : 2 * i + 1 < m) (hj : j = m - 1 - i) (h : j < (revS ys m i).length) : (revS ys m i)[j]'h = ys[j]?.getD 0 := by
  rw [revS_get, if_neg (by omega)]
theorem revS_step {ys : List Int} {m i j : Nat} (hm : m ≤ ys.length) (hi : 2 * i + 1 < m) (hj : j = m - 1 - i) : ((revS ys m i).set i (ys[j]?.getD 0)).set j (ys[i]?.getD 0) = revS ys m (i + 1) := by
  apply List.ext_getElem (by simp [revS])
  intro k h1 h2
  rw [revS_get, List.getElem_set, List.getElem_set]
  by_cases hkj : j = k
  · subst hkj
    rw [if_pos rfl, if_pos (by omega), show m - 1 - j = i by omega]
  · rw [if_neg hkj]
    by_cases hki : i = k
    · subst hki
      rw [if_pos rfl, if_pos (by omega), hj]
    · rw [if_neg hki, revS_get]
      by_cases hc : k < m ∧ (k < i ∨ m ≤ k + i)
      · rw [if_pos hc, if_pos (by omega)]
      · rw [if_neg hc, if_neg (by omega)]
theorem revS_done {ys : List Int} {m i : Nat} (hm : m ≤ ys.length) (hi : m ≤ 2 * i + 1) (him : i ≤ m) : revS ys m i = (ys.take m).reverse ++ ys.drop m := by
  apply List.ext_getElem (by simp [revS]; omega)
  intro k h1 h2
  rw [revS_get]
  rw [revS_length] at h1
  by_cases hk : k < m
  · rw [List.getElem_append_left (by simp; omega), List.getElem_reverse, List.getElem_take]
    have e : (ys.take m).length - 1 - k = m - 1 - k := by rw [List.length_take]; omega
    simp only [e]
    by_cases hc : k < m ∧ (k < i ∨ m ≤ k + i)
    · rw [if_pos hc, List.getElem?_eq_getElem (by omega)]
      rfl
    · rw [if_neg hc]
      have e2 : m - 1 - k = k := by omega
      rw [List.getElem?_eq_getElem (by omega)]
      simp only [e2, Option.getD_some]
  · rw [if_neg (by omega), List.getElem_append_right (by simp; omega), List.getElem_drop, List.getElem?_eq_getElem (by omega)]
    simp only [Option.getD_some]
    congr 1
    rw [List.length_reverse, List.length_take]
    omega

/-- Words, the greatest first. -/
theorem valR_snoc (zs : List Int) (d : Nat) : valL 18446744073709551616 (zs ++ [(d : Int)]).reverse = valL 18446744073709551616 zs.reverse * 18446744073709551616 + d := by
  rw [List.reverse_append]
  show valL _ ((d : Int) :: zs.reverse) = _
  simp only [valL, Int.toNat_natCast]
  rw [Nat.mul_comm, Nat.add_comm]
end Go.Proofs.YtgpoplfgngiilaaGreatDoor
/- bigall.nat: one word appended; a row of words read as a slice of its own. -/
namespace Go.Proofs.YtgpoplfgngiilaaGreatDoor
open Go.RowKit Go.Proofs.YtgpoplfgngiilaaGreatDoorW.PrintWords

theorem zc_words (n : Nat) : Builtin.zeroCells (Value.int .u64 0).cells n = ((List.replicate n (0 : Int)).map (Value.int .u64)).toArray := by
  apply Array.ext
  · simp [Builtin.zeroCells, Value.cells]
  · intro i h1 h2
    simp [Builtin.zeroCells, Value.cells, Nat.mod_one]

theorem app_run (base : Nat) (v : Value) (xs : List Int) (y : Int) (ad : Addr) (c ty : Nat) (w : World) (hV : NV base w v xs) (hy : w.cell? ad = some (.int .u64 y)) (hy0 : 0 ≤ y ∧ y < 18446744073709551616) (hl : xs.length ≤ 100000) (hb : base ≤ w.heap.size) (hR : InR 18446744073709551616 xs) :
    ∃ v' w', (Builtin.append_ #[114, 114] ty #[v, .slice (some ad) 1 c]).run Tryz.prog w = .ok v' w' ∧ NV base w' v' (xs ++ [y]) ∧ Below base w w' := by
  have hnews : ∀ j u, [Value.int .u64 y][j]? = some u → w.cell? (ad.add j) = some u := by
    intro j u h
    cases j with
    | zero =>
      have : u = .int .u64 y := by simpa using h.symm
      rw [this]
      simpa [Addr.add_zero'] using hy
    | succ j => simp at h
  have hRy : InR 18446744073709551616 [y] := by
    intro z hz
    simp only [List.mem_singleton] at hz
    subst hz
    exact hy0
  have hml : maxLen = 9223372036854775807 := rfl
  rcases hV with ⟨rfl, rfl⟩ | ⟨g, ys, h1, rfl, h3, h4, h5, h6⟩
  · have hr := run_append_nil (P := Tryz.prog) w 114 ty 167 Tryz.t167 (.int .u64 0) Tryz.underlying114 (by kernel_rfl) (by kernel_rfl) ad 1 c [.int .u64 y] rfl hnews (by decide) (by decide) (by decide)
    have h7 := grownCap_ge w 1 0 167
    have h8 := grownCap_le_maxLen w 1 0 167 (by decide)
    generalize grownCap w 1 0 167 = C at *
    refine ⟨_, _, hr, Or.inr ⟨w.heap.size, [y] ++ List.replicate (C - 1) 0, hb, ?_, ?_, rfl, InR_append hRy (InR_replicate _), ?_⟩, ?_⟩
    · have e : ([y] ++ List.replicate (C - 1) 0).length = C := by simp; omega
      rw [e]; rfl
    · unfold Nb
      rw [zc_words]
      have := heap_alloc_new w.drew (.cells ([Value.int .u64 y].toArray ++ ((List.replicate (C - 1) (0 : Int)).map (Value.int .u64)).toArray) 167)
      rw [show w.drew.heap.size = w.heap.size from rfl] at this
      rw [this]
      simp
    · simp; omega
    · exact (below_drew1 (Below.refl base w)).alloc hb _
  · have hle : xs.length ≤ ys.length := by have := congrArg List.length h4; rw [List.length_take] at this; omega
    have hcell : ∀ i, (hi : i < xs.length) → w.cell? ⟨g, i, none⟩ = some (.int .u64 (xs[i]'hi)) := by
      intro i hi
      obtain ⟨hz, he⟩ := take_get h4 i hi
      rw [h3.cell i hz, he]
    by_cases hc : xs.length + 1 ≤ ys.length
    · have hr := run_append_room_cells (P := Tryz.prog) w 114 ty 167 Tryz.t167 Tryz.underlying114 (by kernel_rfl) g 0 xs.length ys.length ad 1 c [.int .u64 y] rfl hnews (by simp [Value.oneCell']) hc
        (by intro j hj
            have : j = 0 := by simpa using hj
            subst this
            have := h3.cell xs.length (by omega)
            rw [show 0 + xs.length * Tryz.t167.size + 0 = xs.length by rw [show Tryz.t167.size = 1 from rfl]; omega, this]
            rfl)
        (by intro j hj
            have : j = 0 := by simpa using hj
            subst this
            rw [show 0 + xs.length * Tryz.t167.size + 0 = xs.length by rw [show Tryz.t167.size = 1 from rfl]; omega]
            exact h3.frozen _)
      rw [show 0 + xs.length * Tryz.t167.size = xs.length by rw [show Tryz.t167.size = 1 from rfl]; omega] at hr
      have hset : w.setCells g xs.length [.int .u64 y] = w.setCell ⟨g, xs.length, none⟩ (.int .u64 y) := rfl
      rw [hset] at hr
      refine ⟨_, _, hr, Or.inr ⟨g, ys.set xs.length y, h1, ?_, h3.set _ _, ?_, ?_, ?_⟩, ?_⟩
      · simp
      · rw [List.length_append, List.length_singleton, List.take_set, List.take_add_one, List.getElem?_eq_getElem (by omega)]
        rw [h4]
        simp
      · intro z hz
        rcases List.mem_or_eq_of_mem_set hz with h | h
        · exact h5 z h
        · rw [h]; exact hy0
      · rw [List.length_set]; exact h6
      · exact (Below.refl base w).setCell (p := ⟨g, xs.length, none⟩) h1 _
    · have hxy : xs.length = ys.length := by omega
      have hb : (xs.length + 1) * Tryz.t167.bytes ≤ 140737488355328 := by rw [show Tryz.t167.bytes = 8 from rfl]; omega
      have hr := run_append_grow (P := Tryz.prog) w 114 ty 167 Tryz.t167 (.int .u64 0) Tryz.underlying114 (by kernel_rfl) (by kernel_rfl) ⟨g, 0, none⟩ xs.length ys.length (xs.map (Value.int .u64)) (by simp [show Tryz.t167.size = 1 from rfl])
        (by intro j u hj
            rw [List.getElem?_map] at hj
            obtain ⟨z, hz, rfl⟩ := Option.map_eq_some_iff.1 hj
            obtain ⟨hi, he⟩ := List.getElem?_eq_some_iff.1 hz
            rw [Addr.add_lit, Nat.zero_add, hcell j hi, he])
        ad 1 c [.int .u64 y] rfl hnews (by omega) (by omega) (growslice_fits (by omega) hb)
      have h7 := grownCap_ge w (xs.length + 1) ys.length 167
      have h8 := grownCap_le_maxLen w (xs.length + 1) ys.length 167 (by omega)
      generalize grownCap w (xs.length + 1) ys.length 167 = C at *
      refine ⟨_, _, hr, Or.inr ⟨w.heap.size, (xs ++ [y]) ++ List.replicate (C - (xs.length + 1)) 0, ‹base ≤ w.heap.size›, ?_, ?_, ?_, InR_append (InR_append hR hRy) (InR_replicate _), ?_⟩, ?_⟩
      · have e : ((xs ++ [y]) ++ List.replicate (C - (xs.length + 1)) 0).length = C := by simp; omega
        rw [e]; simp
      · unfold Nb
        rw [zc_words]
        have := heap_alloc_new w.drew (.cells ((xs.map (Value.int .u64)).toArray ++ [Value.int .u64 y].toArray ++ ((List.replicate (C - (xs.length + 1)) (0 : Int)).map (Value.int .u64)).toArray) 167)
        rw [show w.drew.heap.size = w.heap.size from rfl] at this
        rw [this]
        simp
      · exact List.take_left
      · simp; omega
      · exact (below_drew1 (Below.refl base w)).alloc ‹base ≤ w.heap.size› _

/-- 'append' of one word to a row of one's own, for the walk. -/
theorem wpList_append_NV {ops : Array Oper} {rest : List Oper} {o : Oper} {a : Act} {Q : Exit → Act → World → Prop} (w : World)
    (hg : o.guard = none) (s x : Operand) (hop : o.op = Op.call { callee := Callee.builtin Builtin.append, args := #[s, x], argTypes := #[114, 114] })
    (base : Nat) (v : Value) (xs : List Int) (y : Int) (ad : Addr) (c : Nat) (hs : a.eval s = v) (hx : a.eval x = .slice (some ad) 1 c) (hV : NV base w v xs) (hy : w.cell? ad = some (.int .u64 y)) (hy0 : 0 ≤ y ∧ y < 18446744073709551616)
    (hl : xs.length ≤ 100000) (hb : base ≤ w.heap.size) (hR : InR 18446744073709551616 xs)
    (hK : ∀ v' w', NV base w' v' (xs ++ [y]) → Below base w w' → wpList Tryz.prog ops Q rest (a.put o.dst v') w') : wpList Tryz.prog ops Q (o :: rest) a w := by
  refine wpList_plain hg fun K hK' => ?_
  obtain ⟨v', w', hrun, r1, r2⟩ := app_run base v xs y ad c o.type w hV hy hy0 hl hb hR
  unfold Oper.wp
  simp [execOp, hop, resolve, invoke, builtin, hs, hx, hrun, Result.andThen]
  exact hK' _ _ (hK v' w' r1 r2)
end Go.Proofs.YtgpoplfgngiilaaGreatDoor
/- bigall.slices.Reverse of words; norm of a slice of one's own. -/
namespace Go.Proofs.YtgpoplfgngiilaaGreatDoor
open Go.RowKit Go.Proofs.YtgpoplfgngiilaaGreatDoorW.PrintWords

theorem InR_reverse {B : Nat} {xs : List Int} (h : InR B xs) : InR B xs.reverse := fun z hz => h z (List.mem_reverse.1 hz)
theorem InR_take {B : Nat} {xs : List Int} (h : InR B xs) (n : Nat) : InR B (xs.take n) := fun z hz => h z (List.mem_of_mem_take hz)

def VRel (ys : List Int) (g m kq : Nat) (v2 v3 : Value) (w w' : World) : Prop :=
  ∃ (i : Nat) (j : Int), v2 = .int .i64 i ∧ v3 = .int .i64 j ∧ Aside0 (2 * i ≤ m ∧ kq = m - i ∧ j = (m : Int) - 1 - i) ∧ Aside0 (Nb w' g (revS ys m i)) ∧ Aside0 (Fr (fun k => k = g) w w')

set_option maxHeartbeats 2000000 in
set_option maxRecDepth 1000000 in
theorem rev_run (g c m : Nat) (ys : List Int) (w : World) (hm : m ≤ ys.length) (hc : m ≤ c) (hm2 : m ≤ 1000000) (hZ : Nb w g ys) :
    Calls Tryz.prog 152 #[.slice (some ⟨g, 0, none⟩) m c] w fun e w' => e = .returned (.tuple #[]) ∧ Nb w' g ((ys.take m).reverse ++ ys.drop m) ∧ Fr (fun k => k = g) w w' := by
  have HZ := Aside0.mk hZ
  have HM := Aside0.mk hm
  clear hZ hm
  go_enter Tryz.func152, Tryz.ntmps152
  go_wp2_with fail
  go_loopg [2, 3] m (fun kq v2 v3 w' => VRel ys g m kq v2 v3 w w')
  case atStart => exact ⟨0, (m : Int) - 1, rfl, by go_num, ⟨by omega, by omega, by omega⟩, ⟨by rw [revS_zero]; exact HZ.out⟩, ⟨Fr.refl _ _⟩⟩
  case round =>
    obtain ⟨i, j, rfl, rfl, HI, HN, HF⟩ := hrel
    by_cases hlt : 2 * i + 1 < m
    · obtain ⟨jn, rfl⟩ : ∃ jn : Nat, j = (jn : Int) := ⟨j.toNat, by have := HI.out; omega⟩
      have hjn : jn = m - 1 - i := by have := HI.out; omega
      have hb : decide (i < jn) = true := by simp; omega
      have hi1 : i < m := by omega
      have hj1 : jn < m := by omega
      have hli : i < (revS ys m i).length := by rw [revS_length]; have := HM.out; omega
      have hlj : jn < (revS ys m i).length := by rw [revS_length]; have := HM.out; omega
      have hci := HN.out.cell i hli
      have hcj := HN.out.cell jn hlj
      rw [revS_lo HM.out hlt hli] at hci
      rw [revS_hi HM.out hlt hjn hlj] at hcj
      have hfi := HN.out.frozen i
      have hfj := HN.out.frozen jn
      have HS := Aside0.mk (revS_step HM.out hlt hjn)
      obtain ⟨xi, hxi⟩ : ∃ x, ys[i]?.getD 0 = x := ⟨_, rfl⟩
      obtain ⟨xj, hxj⟩ : ∃ x, ys[jn]?.getD 0 = x := ⟨_, rfl⟩
      rw [hxi] at hci HS
      rw [hxj] at hcj HS
      clear hxi hxj
      have hcj2 : (wr.setCell ⟨g, i, none⟩ (.int .u64 xj)).cell? ⟨g, jn, none⟩ = some (.int .u64 xj) := by
        have h1 := (HN.out.set i xj).cell jn (by rw [List.length_set]; exact hlj)
        rw [h1, List.getElem_set_ne (by omega)]
        have h2 := HN.out.cell jn hlj
        rw [hcj] at h2
        exact h2.symm
      have HL := Aside0.mk (And.intro hlt hjn)
      clear hlt hli hlj hjn
      go_wp2_with fail
      go_region
      go_wp2_with fail
      go_roundg (gk - 1)
      case measure => have := HI.out; have := HL.out; omega
      case rel =>
        refine ⟨i + 1, (jn : Int) - 1, by go_num, by go_num, ⟨by have := HL.out; omega, by have := HI.out; have := HL.out; omega, by have := HI.out; omega⟩, ⟨?_⟩, ⟨?_⟩⟩
        · rw [← HS.out]; exact (HN.out.set i xj).set jn xi
        · exact ((HF.out.setCell (p := ⟨g, i, none⟩) (Or.inl rfl) _).setCell (p := ⟨g, jn, none⟩) (Or.inl rfl) _).drew
    · have hb : decide ((i : Int) < j) = false := by have := HI.out; simp; omega
      have HD := Aside0.mk (revS_done (ys := ys) HM.out (show m ≤ 2 * i + 1 by omega) (by have := HI.out; omega))
      clear hlt
      go_wp2_with fail
      go_end0
      exact ⟨rfl, by rw [← HD.out]; exact HN.out, HF.out⟩

/-- slices.Reverse of a slice of one's own. -/
theorem rev_NV (base : Nat) (v : Value) (xs : List Int) (w : World) (hV : NV base w v xs) (h0 : 0 < xs.length) (hl : xs.length ≤ 1000) (hb : base ≤ w.heap.size) :
    Calls Tryz.prog 152 #[v] w fun e w' => e = .returned (.tuple #[]) ∧ NV base w' v xs.reverse ∧ Below base w w' := by
  rcases hV with ⟨_, h⟩ | ⟨g, ys, h1, rfl, h3, h4, h5, h6⟩
  · rw [h] at h0; exact absurd h0 (by simp)
  · have hle : xs.length ≤ ys.length := by have := congrArg List.length h4; rw [List.length_take] at this; omega
    refine (rev_run g ys.length xs.length ys w hle hle (by omega) h3).mono ?_
    rintro e w' ⟨rfl, hn, hf⟩
    rw [h4] at hn
    refine ⟨rfl, Or.inr ⟨g, xs.reverse ++ ys.drop xs.length, h1, ?_, hn, ?_, InR_append (InR_reverse (h4 ▸ InR_take h5 _)) (InR_drop h5 _), ?_⟩, hf.toBelow hb (fun k hk => by rw [hk]; exact h1)⟩
    · have e : (xs.reverse ++ ys.drop xs.length).length = ys.length := by simp; omega
      rw [e, List.length_reverse]
    · exact List.take_left
    · have e : (xs.reverse ++ ys.drop xs.length).length = ys.length := by simp; omega
      rw [e]; exact h6

/-- norm of a slice of one's own. -/
theorem norm_NV (base : Nat) (v : Value) (xs : List Int) (w : World) (hV : NV base w v xs) (h0 : 0 < xs.length) (hl : xs.length ≤ 1000) :
    Calls Tryz.prog 134 #[v] w fun e w' => ∃ v', e = .returned v' ∧ NV base w' v' (lits 18446744073709551616 (valL 18446744073709551616 xs)) ∧ (lits 18446744073709551616 (valL 18446744073709551616 xs)).length ≤ xs.length ∧ w = w' := by
  rcases hV with ⟨_, h⟩ | ⟨g, ys, h1, rfl, h3, h4, h5, h6⟩
  · rw [h] at h0; exact absurd h0 (by simp)
  · have hle : xs.length ≤ ys.length := by have := congrArg List.length h4; rw [List.length_take] at this; omega
    refine (norm_calls g ys.length xs.length ys w hle hle (by omega) h5 h3).mono ?_
    rintro e w' ⟨n', rfl, hn, ht, rfl⟩
    rw [h4] at ht
    have hn' : (lits 18446744073709551616 (valL 18446744073709551616 xs)).length = n' := by rw [← ht, List.length_take]; omega
    refine ⟨_, rfl, Or.inr ⟨g, ys, h1, ?_, h3, ?_, h5, h6⟩, by omega, rfl⟩
    · rw [hn']
    · rw [hn', ht]

theorem scanb_end {b n i d X V sh : Nat} (hb : b ^ n = 18446744073709551616) (hb2 : b = 2 ^ sh) (hi : i ≤ n) (hd : d < b ^ i) (hX : X * b ^ i + d = V) :
    d * b ^ (n - i) < 18446744073709551616 ∧ X * 18446744073709551616 + d * b ^ (n - i) = V * b ^ (n - i) ∧ V * b ^ (n - i) / 2 ^ ((n - i) * sh) = V := by
  have h1 : b ^ i * b ^ (n - i) = 18446744073709551616 := by rw [← Nat.pow_add, show i + (n - i) = n by omega, hb]
  have h0 : 0 < b ^ (n - i) := by
    rcases Nat.eq_zero_or_pos (b ^ (n - i)) with h | h
    · rw [h] at h1; omega
    · exact h
  refine ⟨?_, ?_, ?_⟩
  · rw [← h1]; exact Nat.mul_lt_mul_of_pos_right hd h0
  · rw [← hX, Nat.add_mul, Nat.mul_assoc, h1]
  · rw [show 2 ^ ((n - i) * sh) = b ^ (n - i) by rw [hb2, ← Nat.pow_mul, Nat.mul_comm]]
    exact Nat.mul_div_cancel V h0

theorem scanb_full {b n d x P : Nat} {D : Int} {zs : List Int} (hb : b ^ (n + 1) = 18446744073709551616) (hsum : valL 18446744073709551616 zs.reverse * b ^ (n + 1) + (d * b + x) = P) (hR : InR 18446744073709551616 zs) (hbd : d * b + x < 18446744073709551616) (hE : D = ((d * b + x : Nat) : Int)) :
    valL 18446744073709551616 (zs ++ [D]).reverse * b ^ 0 + 0 = P ∧ InR 18446744073709551616 (zs ++ [D]) := by
  refine ⟨?_, ?_⟩
  · rw [hE, valR_snoc, Nat.pow_zero, Nat.mul_one, Nat.add_zero, ← hsum, hb]
  · refine InR_append hR ?_
    intro z hz
    simp only [List.mem_singleton] at hz
    omega
end Go.Proofs.YtgpoplfgngiilaaGreatDoor
/- bigall.rshVU, bigall.nat.rsh by less than a word. -/
namespace Go.Proofs.YtgpoplfgngiilaaGreatDoor
open Go.RowKit Go.Proofs.YtgpoplfgngiilaaGreatDoorW.PrintWords

theorem and_63 (s : Nat) (h : s < 64) : bits .and .u64 (s : Int) 63 = (s : Int) := by
  have key : ∀ s : Fin 64, bits .and .u64 ((s.val : Nat) : Int) 63 = ((s.val : Nat) : Int) := by decide +kernel
  exact key ⟨s, h⟩

/-- shE over a row that is longer than the words. -/
theorem shE_in {xs : List Int} {M K j : Nat} (hj : j + 1 < xs.length) : shE xs M K j = (xs[j]'(by omega)).toNat / M + ((xs[j + 1]'hj).toNat * K) % 18446744073709551616 := by
  unfold shE
  rw [List.getElem?_eq_getElem (by omega), List.getElem?_eq_getElem hj]
  rfl
theorem shE_last {xs : List Int} {M K j : Nat} (hj : j + 1 = xs.length) : shE xs M K j = (xs[j]'(by omega)).toNat / M := by
  unfold shE
  rw [List.getElem?_eq_getElem (by omega), List.getElem?_eq_none (by omega)]
  simp

theorem sh_set {xs ys : List Int} {M K j m : Nat} (hm : m = xs.length) (hmy : m ≤ ys.length) (hj : j < m) :
    (shW xs M K j ++ ys.drop j).set j ((shE xs M K j : Nat) : Int) = shW xs M K (j + 1) ++ ys.drop (j + 1) := by
  rw [shW_snoc, List.drop_eq_getElem_cons (by omega), List.set_append_right _ _ (by rw [shW_length]; exact Nat.le_refl _), shW_length, Nat.sub_self, List.set_cons_zero]
  simp
theorem sh_get {xs ys : List Int} {M K j m i : Nat} (ht : ys.take m = xs) (hm : m = xs.length) (hi : i < m) (hj : j ≤ i) : ∃ (h : i < (shW xs M K j ++ ys.drop j).length) (h2 : i < xs.length), (shW xs M K j ++ ys.drop j)[i]'h = xs[i]'h2 := by
  have hmy : m ≤ ys.length := by have := congrArg List.length ht; rw [List.length_take] at this; omega
  have h : i < (shW xs M K j ++ ys.drop j).length := by rw [List.length_append, shW_length, List.length_drop]; omega
  refine ⟨h, by omega, ?_⟩
  rw [List.getElem_append_right (by rw [shW_length]; exact hj), List.getElem_drop]
  subst ht
  rw [List.getElem_take]
  congr 1
  rw [shW_length]; omega

theorem or_val {s t x y : Nat} (hst : s + t = 64) (hx : x < 18446744073709551616) : bits .or .u64 ((x : Int) / 2 ^ s) (IntKind.u64.wrap ((y : Int) * 2 ^ t)) = ((x / 2 ^ s + (y * 2 ^ t) % 18446744073709551616 : Nat) : Int) := by
  have h1 : ((x : Int) / 2 ^ s) = ((x / 2 ^ s : Nat) : Int) := by simp
  have h2 : IntKind.u64.wrap ((y : Int) * 2 ^ t) = ((y * 2 ^ t % 18446744073709551616 : Nat) : Int) := by
    rw [IntKind.wrap_u64]
    simp
  have h3 : x / 2 ^ s ≤ x := Nat.div_le_self _ _
  rw [h1, h2, u64_or_nat _ _ (by omega) (Nat.mod_lt _ (by decide)), sh_or hst hx]

def HRel (xs ys : List Int) (M K g m kq : Nat) (v8 : Value) (w w' : World) : Prop :=
  ∃ j : Nat, v8 = .int .i64 ((j : Int) + 1) ∧ Aside0 (j < m ∧ kq = m - j) ∧ Aside0 (Nb w' g (shW xs M K j ++ ys.drop j)) ∧ Aside0 (Fr (fun k => k = g) w w')

set_option maxHeartbeats 2000000 in
set_option maxRecDepth 1000000 in
theorem rshVU_g (g c m s t : Nat) (xs ys : List Int) (w : World) (hm : m = xs.length) (hm0 : 0 < m) (hm2 : m ≤ 1000000) (hc : m ≤ c) (ht : ys.take m = xs) (hR : InR 18446744073709551616 xs) (hs : 0 < s) (ht0 : 0 < t) (hst : s + t = 64) (hZ : Nb w g ys) :
    Calls Tryz.prog 241 #[.slice (some ⟨g, 0, none⟩) m c, .slice (some ⟨g, 0, none⟩) m c, .int .u64 s] w fun e w' =>
      (∃ x : Int, e = .returned (.int .u64 x)) ∧ Nb w' g (shW xs (2 ^ s) (2 ^ t) m ++ ys.drop m) ∧ Fr (fun k => k = g) w w' := by
  have HZ := Aside0.mk hZ
  have HM := Aside0.mk (And.intro hm (And.intro ht hR))
  have HST := Aside0.mk hst
  have hs64 : s < 64 := by omega
  have ht64 : t < 64 := by omega
  have e1 := and_63 s hs64
  have e2 := and_63 t ht64
  have e3 : (64 : Int) - (s : Int) = (t : Int) := by omega
  have hx0 := hZ.cell 0 (by have := congrArg List.length ht; rw [List.length_take] at this; omega)
  generalize ys[0]'(by have := congrArg List.length ht; rw [List.length_take] at this; omega) = y0 at hx0
  have hm1 : ((m : Int) == 0) = false := beq_false_of_ne (by omega)
  have hs1 : ((s : Int) == 0) = false := beq_false_of_ne (by omega)
  clear hZ hm ht hR hst
  go_enter Tryz.func241, Tryz.ntmps241
  go_wp2_with fail
  go_loopg [8] m (fun kq v8 w' => HRel xs ys (2 ^ s) (2 ^ t) g m kq v8 w w')
  case atStart => exact ⟨0, by go_num, ⟨by omega, by omega⟩, ⟨by simpa [shW] using HZ.out⟩, ⟨Fr.refl _ _⟩⟩
  case round =>
    obtain ⟨j, rfl, HI, HN, HF⟩ := hrel
    have hjm : j < m := HI.out.1
    obtain ⟨hl1, hl2, hv1⟩ := sh_get (M := 2 ^ s) (K := 2 ^ t) HM.out.2.1 HM.out.1 hjm (Nat.le_refl j)
    have hc1 := HN.out.cell j hl1
    rw [hv1] at hc1
    have hr1 := HM.out.2.2 _ (List.getElem_mem hl2)
    have hf1 := HN.out.frozen j
    obtain ⟨x, hx⟩ : ∃ x : Nat, xs[j]'hl2 = (x : Int) := ⟨(xs[j]'hl2).toNat, by omega⟩
    rw [hx] at hc1 hr1
    have hxl : x < 18446744073709551616 := by omega
    by_cases hlt : j + 1 < m
    · have hb : decide ((j : Int) + 1 < (m : Int)) = true := by simp; omega
      obtain ⟨hl3, hl4, hv2⟩ := sh_get (M := 2 ^ s) (K := 2 ^ t) HM.out.2.1 HM.out.1 hlt (Nat.le_succ j)
      have hc2 := HN.out.cell (j + 1) hl3
      rw [hv2] at hc2
      have hr2 := HM.out.2.2 _ (List.getElem_mem hl4)
      obtain ⟨y, hy⟩ : ∃ y : Nat, xs[j + 1]'hl4 = (y : Int) := ⟨(xs[j + 1]'hl4).toNat, by omega⟩
      rw [hy] at hc2 hr2
      have hyl : y < 18446744073709551616 := by omega
      have HE := Aside0.mk (shE_in (xs := xs) (M := 2 ^ s) (K := 2 ^ t) hl4)
      rw [hx, hy] at HE
      clear hv1 hv2 hx hy hr1 hr2 hl1 hl2 hl3
      go_wp2_with fail
      go_region
      go_wp2_with fail
      go_roundg (gk - 1)
      case measure => have := HI.out; omega
      case rel =>
        refine ⟨j + 1, by go_num, ⟨hlt, by have := HI.out; omega⟩, ⟨?_⟩, ⟨(HF.out.setCell (p := ⟨g, j, none⟩) (Or.inl rfl) _).drew⟩⟩
        have h := HN.out.set j ((shE xs (2 ^ s) (2 ^ t) j : Nat) : Int)
        rw [sh_set HM.out.1 (by have := congrArg List.length HM.out.2.1; rw [List.length_take] at this; have := HM.out.1; omega) hjm, HE.out, Int.toNat_natCast, Int.toNat_natCast, ← or_val HST.out hxl] at h
        exact h
    · have hb : decide ((j : Int) + 1 < (m : Int)) = false := by simp; omega
      have hjm1 : m - 1 = j := by omega
      have hmi : (m : Int) - 1 = (j : Int) := by omega
      have HE := Aside0.mk (shE_last (xs := xs) (M := 2 ^ s) (K := 2 ^ t) (j := j) (by have := HM.out.1; omega))
      rw [hx] at HE
      have HJ := Aside0.mk hjm1
      clear hv1 hx hr1 hl1 hl2 hjm1
      go_wp2_with fail
      go_ret
      refine ⟨⟨_, rfl⟩, ?_, HF.out.setCell (p := ⟨g, j, none⟩) (Or.inl rfl) _⟩
      have h := HN.out.set j ((shE xs (2 ^ s) (2 ^ t) j : Nat) : Int)
      rw [sh_set HM.out.1 (by have := congrArg List.length HM.out.2.1; rw [List.length_take] at this; have := HM.out.1; omega) hjm, HE.out, Int.toNat_natCast, show j + 1 = m by have := HJ.out; omega] at h
      exact h

set_option maxHeartbeats 2000000 in
set_option maxRecDepth 1000000 in
theorem rshVU (g c m s t : Nat) (xs ys : List Int) (w : World) (hm : m = xs.length) (hm0 : 0 < m) (hm2 : m ≤ 1000000) (hc : m ≤ c) (ht : ys.take m = xs) (hR : InR 18446744073709551616 xs) (hs : 0 < s) (ht0 : 0 < t) (hst : s + t = 64) (hZ : Nb w g ys) :
    Calls Tryz.prog 200 #[.slice (some ⟨g, 0, none⟩) m c, .slice (some ⟨g, 0, none⟩) m c, .int .u64 s] w fun e w' =>
      (∃ x : Int, e = .returned (.int .u64 x)) ∧ Nb w' g (shW xs (2 ^ s) (2 ^ t) m ++ ys.drop m) ∧ Fr (fun k => k = g) w w' := by
  have H := Aside0.mk (rshVU_g g c m s t xs ys w hm hm0 hm2 hc ht hR hs ht0 hst hZ)
  clear hm ht hR hst hZ
  go_enter Tryz.func200, Tryz.ntmps200
  go_wp2_with (go_at_call 241; go_must (refine H.out.mono ?_); rintro e w1 ⟨⟨x, rfl⟩, hn1, hf1⟩; have HN1 := Aside0.mk hn1; have HF1 := Aside0.mk hf1; clear hn1 hf1)
  go_ret
  exact ⟨⟨x, rfl⟩, HN1.out, HF1.out⟩

set_option maxHeartbeats 2000000 in
set_option maxRecDepth 1000000 in
/-- z.rsh(z, s) by less than a word. -/
theorem rsh_NV (base : Nat) (v : Value) (Y s : Nat) (w : World) (hV : NV base w v (lits 18446744073709551616 Y)) (hl : (lits 18446744073709551616 Y).length ≤ 1000) (hY : 0 < Y) (hs : 0 < s) (hs64 : s < 64) (hb : base ≤ w.heap.size) :
    Calls Tryz.prog 153 #[v, v, .int .u64 s] w fun e w' => ∃ v', e = .returned v' ∧ NV base w' v' (lits 18446744073709551616 (Y / 2 ^ s)) ∧ Below base w w' := by
  have hne : lits 18446744073709551616 Y ≠ [] := fun h => by have := congrArg (valL 18446744073709551616) h; rw [valL_lits _ (by decide)] at this; simp [valL] at this; omega
  have hl0 : 0 < (lits 18446744073709551616 Y).length := List.length_pos_iff.2 hne
  have hR := InR_lits 18446744073709551616 (by decide) Y
  have hval := valL_lits 18446744073709551616 (by decide) Y
  generalize lits 18446744073709551616 Y = xs at *
  obtain ⟨t, hst⟩ : ∃ t, s + t = 64 := ⟨64 - s, by omega⟩
  have hMK : 2 ^ s * 2 ^ t = 18446744073709551616 := by rw [← Nat.pow_add, hst]
  rcases hV with ⟨_, h⟩ | ⟨g, ys, h1, rfl, h3, h4, h5, h6⟩
  · exact absurd h hne
  · obtain ⟨m, hm⟩ : ∃ m, m = xs.length := ⟨_, rfl⟩
    have hle : m ≤ ys.length := by have := congrArg List.length h4; rw [List.length_take] at this; omega
    rw [← hm] at h4 hl hl0 ⊢
    obtain ⟨c, hcc⟩ : ∃ c, c = ys.length := ⟨_, rfl⟩
    rw [← hcc] at hle h6 ⊢
    have H := Aside0.mk (rshVU g c m s t xs ys w hm hl0 (by omega) hle h4 hR hs (by omega) hst h3)
    have hmk := Aside0.mk (make_reuse (some ⟨g, 0, none⟩) m c m hle w)
    have hshv := shW_val hMK (Nat.pow_pos (by decide)) xs
    rw [← hm, hval] at hshv
    have hshR := shW_R hMK (Nat.pow_pos (by decide)) (Nat.pow_pos (by decide)) xs hR m
    have hlen : (shW xs (2 ^ s) (2 ^ t) m ++ ys.drop m).length = c := by rw [List.length_append, shW_length, List.length_drop]; omega
    have htk : (shW xs (2 ^ s) (2 ^ t) m ++ ys.drop m).take m = shW xs (2 ^ s) (2 ^ t) m := by
      have := List.take_left (l₁ := shW xs (2 ^ s) (2 ^ t) m) (l₂ := ys.drop m)
      rwa [shW_length] at this
    have hall : InR 18446744073709551616 (shW xs (2 ^ s) (2 ^ t) m ++ ys.drop m) := InR_append hshR (InR_drop h5 _)
    have hno := Aside0.mk (fun W h => norm_calls g c m (shW xs (2 ^ s) (2 ^ t) m ++ ys.drop m) W (by omega) hle (by omega) hall h)
    rw [htk, hshv] at hno
    have HQ := Aside0.mk (And.intro hlen (And.intro hall (And.intro h1 h6)))
    have hms : ((s : Int) == 0) = false := beq_false_of_ne (by omega)
    have hq1 : (s : Int) / 64 = 0 := by omega
    have hq2 : (s : Int) % 64 = (s : Int) := by omega
    have hq3 : decide ((m : Int) ≤ 0) = false := by simp; omega
    clear hcc hm h3 h4 h5 hR hval hshv hshR htk hall hlen hMK hst hne h1
    go_enter Tryz.func153, Tryz.ntmps153
    go_wp2_with (first | (go_at_call 130; go_must (refine hmk.out.mono ?_); rintro e w1 ⟨rfl, rfl⟩) | (go_at_call 200; go_must (refine H.out.mono ?_); rintro e w2 ⟨⟨x, rfl⟩, hn2, hf2⟩; have HN2 := Aside0.mk hn2; have HF2 := Aside0.mk hf2; clear hn2 hf2) | (go_at_call 134; go_must (refine (hno.out _ HN2.out).mono ?_); rintro e w3 ⟨n', rfl, hn3, hn4, rfl⟩; have HN4 := Aside0.mk (And.intro hn3 hn4); clear hn3 hn4))
    have hn' : (lits 18446744073709551616 (Y / 2 ^ s)).length = n' := by rw [← HN4.out.2, List.length_take, HQ.out.1]; have := HN4.out.1; omega
    refine bodyPost_ret (v := .slice (some ⟨g, 0, none⟩) n' c) (by simp [results, Tryz.results153, go_sem]) rfl ⟨_, rfl, Or.inr ⟨g, _, HQ.out.2.2.1, ?_, HN2.out, ?_, HQ.out.2.1, ?_⟩, HF2.out.toBelow hb (fun k hk => by rw [hk]; exact HQ.out.2.2.1)⟩
    · rw [hn', HQ.out.1]
    · rw [hn']; exact HN4.out.2
    · rw [HQ.out.1]; exact HQ.out.2.2.2
end Go.Proofs.YtgpoplfgngiilaaGreatDoor
