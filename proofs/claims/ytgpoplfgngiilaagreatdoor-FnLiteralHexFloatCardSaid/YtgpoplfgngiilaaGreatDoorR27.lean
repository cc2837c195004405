/- FnLiteralHexFloat, behind its card (G14 G15 G16 K1). -/
import Derived.Test.YtgpoplfgngiilaaGreatDoorR26
import Derived.Lib.SliceRun
set_option linter.unusedVariables false
set_option linter.unusedSimpArgs false
namespace Go.Proofs.YtgpoplfgngiilaaGreatDoor
set_option linter.unusedVariables false
set_option linter.unusedSimpArgs false
open Go.RowKit Go.Proofs.YtgpoplfgngiilaaGreatDoorW.PrintWords

theorem nb_zeros (g : Nat) : ∀ (k o : Nat) (zs : List Int) (w : World), Nb w g zs → o + k ≤ zs.length → Nb (w.setCells g o (List.replicate k (.int .u64 0))) g (zs.take o ++ (List.replicate k 0 ++ zs.drop (o + k))) ∧ Fr (fun j => j = g) w (w.setCells g o (List.replicate k (.int .u64 0)))
  | 0, o, zs, w, h, _ => by
    refine ⟨?_, Fr.refl _ _⟩
    simp only [List.replicate_zero, List.nil_append, Nat.add_zero, List.take_append_drop]
    exact h
  | k + 1, o, zs, w, h, hk => by
    have h1 := h.set o 0
    obtain ⟨h2, h3⟩ := nb_zeros g k (o + 1) (zs.set o 0) (w.setCell ⟨g, o, none⟩ (.int .u64 0)) h1 (by simp; omega)
    refine ⟨?_, (fr_put1 (S := fun j => j = g) (Fr.refl _ w) rfl o (.int .u64 0)).trans h3⟩
    have e : (zs.set o 0).take (o + 1) ++ (List.replicate k 0 ++ (zs.set o 0).drop (o + 1 + k)) = zs.take o ++ (List.replicate (k + 1) 0 ++ zs.drop (o + (k + 1))) := by
      rw [List.take_add_one, List.getElem?_set_self (by omega), List.take_set_of_le (Nat.le_refl o), List.drop_set_of_lt (by omega), List.replicate_succ]
      simp [Nat.add_assoc, Nat.add_comm 1 k]
    rw [e] at h2
    exact h2

theorem wpList_clear_words {w : World} {ops : Array Oper} {rest : List Oper} {o : Oper} {a : Act} {Q : Exit → Act → World → Prop} (hgd : o.guard = none) (x : Operand)
    (ho : o.op = .call { callee := .builtin .clear, args := #[x], argTypes := #[114] }) (g p c : Nat) (zs : List Int) (hx : a.eval x = .slice (some ⟨g, 0, none⟩) p c) (hZ : Nb w g zs) (hp : p ≤ zs.length)
    (h : ∀ w', Nb w' g (List.replicate p 0 ++ zs.drop p) → Fr (fun k => k = g) w w' → wpList Tryz.prog ops Q rest (a.put o.dst (.tuple #[])) w') : wpList Tryz.prog ops Q (o :: rest) a w := by
  refine wpList_plain hgd fun K hK => ?_
  have hrun : (Builtin.clear_ #[114] o.type #[.slice (some ⟨g, 0, none⟩) p c]).run Tryz.prog w = .ok (.tuple #[]) (w.setCells g 0 (List.replicate p (.int .u64 0))) := by
    rcases Nat.eq_zero_or_pos p with h0 | h0
    · subst h0
      simp [Builtin.clear_, run_underlying Tryz.underlying114]
      rfl
    · exact Lib.run_clear_slice w 114 167 o.type (.int .u64 0) Tryz.underlying114 Tryz.zeroValue167 rfl rfl g 0 p c h0 (fun j hj => by rw [Nat.zero_add, hZ.cell j (by omega)]; rfl) (fun j hj => hZ.frozen _)
  obtain ⟨h1, h2⟩ := nb_zeros g p 0 zs w hZ (by omega)
  rw [List.take_zero, List.nil_append, Nat.zero_add] at h1
  unfold Oper.wp
  simp [execOp, ho, resolve, invoke, builtin, hx, hrun, Result.andThen]
  exact hK _ _ (h _ h1 h2)

theorem drop_two {L : List Int} {p : Nat} {lo hi : Int} (h1 : L[p]? = some lo) (h2 : L[p + 1]? = some hi) : L.drop p = lo :: hi :: L.drop (p + 2) := by
  obtain ⟨l1, rfl⟩ := List.getElem?_eq_some_iff.1 h1
  obtain ⟨l2, rfl⟩ := List.getElem?_eq_some_iff.1 h2
  rw [List.drop_eq_getElem_cons l1, List.drop_eq_getElem_cons l2]
theorem valL_zeros (p : Nat) (xs : List Int) : valL 18446744073709551616 (List.replicate p 0 ++ xs) = valL 18446744073709551616 xs * 18446744073709551616 ^ p := by
  induction p with
  | zero => simp
  | succ p ih =>
    rw [List.replicate_succ, List.cons_append]
    simp only [valL]
    rw [ih, Nat.pow_succ]
    simp [Nat.mul_comm, Nat.mul_left_comm, Nat.mul_assoc]
theorem lsh_norm (gz cz n2 p lo hi V : Nat) (L : List Int) (w3 : World) (hN : Nb w3 gz (List.replicate p 0 ++ L.drop p)) (hR : InR 18446744073709551616 L) (h1 : L[p]? = some (lo : Int)) (h2 : L[p + 1]? = some (hi : Int)) (hn2 : n2 = p + 2) (hcz : cz = L.length) (hcm : cz ≤ 9223372036854775807) (hp : p ≤ 100)
    (hV : (lo + hi * 18446744073709551616) * 18446744073709551616 ^ p = V) :
    Calls Tryz.prog 134 #[.slice (some ⟨gz, 0, none⟩) n2 cz] w3 fun e w' => ∃ v', e = .returned v' ∧ NW w' gz v' V ∧ w3 = w' := by
  have hd := drop_two h1 h2
  obtain ⟨l2, -⟩ := List.getElem?_eq_some_iff.1 h2
  have hlen : (List.replicate p 0 ++ L.drop p).length = cz := by simp; omega
  have hR2 : InR 18446744073709551616 (List.replicate p 0 ++ L.drop p) := InR_append (InR_replicate _) (fun z hz => hR z (List.mem_of_mem_drop hz))
  refine (norm_calls gz cz n2 _ w3 (by omega) (by omega) (by omega) hR2 hN).mono ?_
  rintro e w' ⟨n', rfl, hn', ht, rfl⟩
  have hval : valL 18446744073709551616 ((List.replicate p 0 ++ L.drop p).take n2) = V := by
    rw [hd, hn2, List.take_append, List.length_replicate, List.take_of_length_le (by simp), show p + 2 - p = 2 by omega, valL_zeros, ← hV]
    simp [valL, Nat.mul_comm]
  rw [hval] at ht
  have hl : (lits 18446744073709551616 V).length = n' := by rw [← ht, List.length_take]; omega
  refine ⟨_, rfl, ⟨List.replicate p 0 ++ L.drop p, by rw [hl, hlen], hN, by rw [hl]; exact ht, hR2, by omega⟩, rfl⟩

theorem shl_split {X sm t : Nat} (h : sm + t = 64) : X * 2 ^ sm % 18446744073709551616 + X / 2 ^ t * 18446744073709551616 = X * 2 ^ sm := by
  have hB : (18446744073709551616 : Nat) = 2 ^ sm * 2 ^ t := by rw [← Nat.pow_add, h]
  have h1 : X * 2 ^ sm / 18446744073709551616 = X / 2 ^ t := by
    rw [hB, ← Nat.div_div_eq_div_mul, Nat.mul_div_cancel _ (Nat.pow_pos (by decide))]
  rw [← h1, Nat.mul_comm (X * 2 ^ sm / 18446744073709551616)]
  exact Nat.mod_add_div _ _
theorem shl_V {X s p sm M : Nat} (hs : s = 64 * p + sm) (hM : M = X * 2 ^ sm) : M * 18446744073709551616 ^ p = X * 2 ^ s := by
  have h : (2 : Nat) ^ (64 * p) = 18446744073709551616 ^ p := by rw [Nat.pow_mul]
  rw [hM, hs, Nat.pow_add, h, Nat.mul_assoc, Nat.mul_comm (2 ^ sm)]

set_option maxHeartbeats 2000000 in
set_option maxRecDepth 1000000 in
theorem lsh_gen (g gz c cz X s p sm n1 n2 : Nat) (hn1 : n1 = p + 1) (hn2 : n2 = p + 2) (zs ys : List Int) (w W : World) (hG : Nb W g ys) (hy1 : 1 ≤ ys.length) (hy : ys.take 1 = [(X : Int)]) (hZ : Nb W gz zs) (hR : InR 18446744073709551616 zs) (hcz : cz = zs.length) (hc1 : 1 ≤ c) (hp : p + 2 ≤ cz) (hcm : cz ≤ 9223372036854775807)
    (hX0 : 0 < X) (hX : X < 18446744073709551616) (hs0 : 0 < s) (hs : s = 64 * p + sm) (hsm : sm < 64) (hp2 : p ≤ 100)
    (HMK : Calls Tryz.prog 130 #[.slice (some ⟨g, 0, none⟩) 1 c, .int .i64 n2] w fun e w' => e = .returned (.slice (some ⟨gz, 0, none⟩) n2 cz) ∧ w' = W) :
    Calls Tryz.prog 93 #[.slice (some ⟨g, 0, none⟩) 1 c, .slice (some ⟨g, 0, none⟩) 1 c, .int .u64 s] w fun e w' => ∃ v', e = .returned v' ∧ NW w' gz v' (X * 2 ^ s) ∧ Fr (fun k => k = gz) W w' := by
  have HM := Aside0.mk HMK
  have HZ := Aside0.mk (And.intro hZ (And.intro hR hcz))
  have e1 : (s : Int) / 64 = (p : Int) := by omega
  have e2 : (s : Int) % 64 = (sm : Int) := by omega
  have e3 : (1 : Int) + (p : Int) = (n1 : Int) := by omega
  have e4 : (n1 : Int) + 1 = (n2 : Int) := by omega
  have e5 : (n1 : Int) - 1 = (p : Int) := by omega
  have b2 : (n1 : Int) ≤ 101 := by omega
  have b3 : (n2 : Int) ≤ 102 := by omega
  have b4 : n1 ≤ n2 := by omega
  have b5 : p ≤ n1 := by omega
  have b6 : n1 < n2 := by omega
  have b7 : n2 ≤ cz := by omega
  have b8 : p ≤ n2 := by omega
  have b9 : n1 - p = 1 := by omega
  have hs1 : ((s : Int) == 0) = false := beq_false_of_ne (by omega)
  have b1 : (p : Int) ≤ 100 := by omega
  have HN := Aside0.mk (And.intro hX0 (And.intro hX (And.intro hs0 (And.intro hs (And.intro hsm (And.intro hp (And.intro hcm (And.intro hn1 hn2))))))))
  clear hn1 hn2 HMK hZ hR hcz hX0 hX hs0 hs hsm hp2 hcm hp
  have hx : W.cell? ⟨g, 0, none⟩ = some (.int .u64 X) := by
    cases ys with
    | nil => simp at hy
    | cons a t => simp at hy; subst hy; exact hG.cell 0 (by simp)
  have HG := Aside0.mk (And.intro hG (And.intro hy1 hy))
  have hlz : n1 < zs.length := by have h := HZ.out.2.2; omega
  have z1 := HZ.out.1.cell n1 hlz
  have z0 := HZ.out.1.cell p (by have h := HN.out; omega)
  have zf1 := HZ.out.1.frozen n1
  have zf0 := HZ.out.1.frozen p
  generalize zs[n1]'hlz = k1 at z1
  generalize zs[p]'(by have h := HN.out; omega) = k0 at z0
  have hne : ¬ n1 = p := by have h := HN.out; omega
  have hne2 : ¬ p = n1 := fun h => hne h.symm
  have HP1 := Aside0.mk (show p ≤ 100 by omega)
  clear hG hy1 hy hlz
  rcases Nat.eq_zero_or_pos sm with h0 | h0
  · subst h0
    go_enter Tryz.func93, Tryz.ntmps93
    go_upto_region 14 with (first | (go_at_call 130; refine HM.out.mono ?_; rintro e w1 ⟨rfl, rfl⟩) | ((with_reducible refine gate_builtin (b := .copy) (xs := #[.tmp 46, .tmp 47]) rfl ?_); refine wpList_copy_words rfl (.tmp 46) (.tmp 47) rfl gz g p 1 (cz - p) 1 c 1 zs ys rfl rfl rfl HZ.out.1 HG.out.1 HG.out.2.1 (by have h1 := HZ.out.2.2; have h2 := HN.out; omega) ?_; intro w2 hn2 hf2; have HN2 := Aside0.mk hn2; have HF2 := Aside0.mk hf2; clear hn2 hf2))
    obtain ⟨L0, hL0⟩ : ∃ L0, L0 = zs.take p ++ (ys.take 1 ++ zs.drop (0 + p + 1)) := ⟨_, rfl⟩
    have hL0' : zs.take p ++ (ys.take 1 ++ zs.drop (p + 1)) = L0 := by rw [hL0, Nat.zero_add]
    rw [hL0'] at HN2
    have hl0 : L0.length = zs.length := by have h1 := HZ.out.2.2; have h2 := HN.out; rw [← hL0', HG.out.2.2]; simp; omega
    have hR0 : InR 18446744073709551616 L0 := by
      rw [← hL0', HG.out.2.2]
      refine InR_append (fun z hz => HZ.out.2.1 z (List.mem_of_mem_take hz)) (InR_append ?_ (fun z hz => HZ.out.2.1 z (List.mem_of_mem_drop hz)))
      intro z hz
      cases List.mem_singleton.1 hz
      have h := HN.out.2.1
      exact ⟨by omega, by omega⟩
    have hp0 : L0[p]? = some (X : Int) := by
      have h1 := HZ.out.2.2
      have h2 := HN.out
      rw [← hL0', HG.out.2.2, List.getElem?_append_right (by simp; omega)]
      simp [List.length_take, show min p zs.length = p by omega]
    have hn1l : n1 < L0.length := by have h1 := HZ.out.2.2; have h2 := HN.out; omega
    have hc2 := HN2.out.cell n1 hn1l
    have hf2' := HN2.out.frozen n1
    generalize L0[n1]'hn1l = k2 at hc2
    have HL1 := Aside0.mk (HN2.out.set n1 0)
    have HLR : Aside0 (InR 18446744073709551616 (L0.set n1 0) ∧ (L0.set n1 0)[p]? = some ((X : Nat) : Int) ∧ (L0.set n1 0)[p + 1]? = some ((0 : Nat) : Int) ∧ cz = (L0.set n1 0).length) := by
      have h := HN.out
      refine ⟨?_, ?_, ?_, ?_⟩
      · intro z hz
        rcases List.mem_or_eq_of_mem_set hz with hz | rfl
        · exact hR0 z hz
        · exact ⟨by omega, by omega⟩
      · rw [List.getElem?_set_ne hne]; exact hp0
      · rw [← h.2.2.2.2.2.2.2.1, List.getElem?_set_self hn1l]; rfl
      · rw [List.length_set, hl0]; exact HZ.out.2.2
    have HPL : Aside0 (p ≤ (L0.set n1 0).length) := ⟨by rw [List.length_set]; omega⟩
    have HVV : Aside0 ((X + 0 * 18446744073709551616) * 18446744073709551616 ^ p = X * 2 ^ s) := ⟨shl_V HN.out.2.2.2.1 (by simp)⟩
    clear hL0 hL0' hl0 hR0 hp0 hn1l
    go_wp2_with (first
      | ((with_reducible refine gate_builtin (b := .clear) (xs := #[.tmp 68]) rfl ?_); refine wpList_clear_words rfl (.tmp 68) rfl gz p cz _ rfl HL1.out HPL.out ?_; intro w3 hn3 hf3; have HN3 := Aside0.mk hn3; have HF3 := Aside0.mk hf3; clear hn3 hf3)
      | (go_at_call 134; refine (lsh_norm gz cz n2 p X 0 (X * 2 ^ s) _ _ HN3.out HLR.out.1 HLR.out.2.1 HLR.out.2.2.1 HN.out.2.2.2.2.2.2.2.2 HLR.out.2.2.2 HN.out.2.2.2.2.2.2.1 HP1.out HVV.out).mono ?_; rintro e w4 ⟨v4, rfl, m1, rfl⟩; have M1 := Aside0.mk m1; clear m1))
    go_ret
    exact ⟨_, rfl, M1.out, (HF2.out.trans (fr_put1 (S := fun k => k = gz) (Fr.refl _ w2) rfl n1 (.int .u64 0))).trans HF3.out⟩
  · obtain ⟨t, hst⟩ : ∃ t, sm + t = 64 := ⟨64 - sm, by have h := HN.out; omega⟩
    have HL := Aside0.mk (lshVU1 gz p (cz - p) g c X sm t W _ hx z0 zf0 h0 (by have h := HN.out; omega) hst (by have h := HN.out; omega) hc1)
    have HST := Aside0.mk hst
    have hsb : ((sm : Int) == 0) = false := beq_false_of_ne (by omega)
    clear hst
    go_enter Tryz.func93, Tryz.ntmps93
    go_upto_region 16 with (first | (go_at_call 130; refine HM.out.mono ?_; rintro e w1 ⟨rfl, rfl⟩) | (go_at_call 133; refine HL.out.mono ?_; rintro e w2 ⟨rfl, rfl⟩))
    have HL1 := Aside0.mk ((HZ.out.1.set p ((X * 2 ^ sm % 18446744073709551616 : Nat) : Int)).set n1 ((X / 2 ^ t : Nat) : Int))
    have HLR : Aside0 (InR 18446744073709551616 ((zs.set p ((X * 2 ^ sm % 18446744073709551616 : Nat) : Int)).set n1 ((X / 2 ^ t : Nat) : Int)) ∧ ((zs.set p ((X * 2 ^ sm % 18446744073709551616 : Nat) : Int)).set n1 ((X / 2 ^ t : Nat) : Int))[p]? = some ((X * 2 ^ sm % 18446744073709551616 : Nat) : Int) ∧ ((zs.set p ((X * 2 ^ sm % 18446744073709551616 : Nat) : Int)).set n1 ((X / 2 ^ t : Nat) : Int))[p + 1]? = some ((X / 2 ^ t : Nat) : Int) ∧ cz = ((zs.set p ((X * 2 ^ sm % 18446744073709551616 : Nat) : Int)).set n1 ((X / 2 ^ t : Nat) : Int)).length) := by
      have h := HN.out
      have hz := HZ.out.2.2
      have hlo : X * 2 ^ sm % 18446744073709551616 < 18446744073709551616 := Nat.mod_lt _ (by decide)
      have hhi : X / 2 ^ t < 18446744073709551616 := Nat.lt_of_le_of_lt (Nat.div_le_self _ _) h.2.1
      generalize X * 2 ^ sm % 18446744073709551616 = lo at *
      generalize X / 2 ^ t = hi at *
      refine ⟨?_, ?_, ?_, ?_⟩
      · intro z hz
        rcases List.mem_or_eq_of_mem_set hz with hz | rfl
        · rcases List.mem_or_eq_of_mem_set hz with hz | rfl
          · exact HZ.out.2.1 z hz
          · exact ⟨by omega, by omega⟩
        · exact ⟨by omega, by omega⟩
      · rw [List.getElem?_set_ne hne, List.getElem?_set_self (by omega)]
      · rw [← h.2.2.2.2.2.2.2.1, List.getElem?_set_self (by simp; omega)]
      · simp [hz]
    have HPL : Aside0 (p ≤ ((zs.set p ((X * 2 ^ sm % 18446744073709551616 : Nat) : Int)).set n1 ((X / 2 ^ t : Nat) : Int)).length) := ⟨by have h := HN.out; have hz := HZ.out.2.2; simp; omega⟩
    have HVV : Aside0 ((X * 2 ^ sm % 18446744073709551616 + X / 2 ^ t * 18446744073709551616) * 18446744073709551616 ^ p = X * 2 ^ s) := ⟨shl_V HN.out.2.2.2.1 (shl_split HST.out)⟩
    go_wp2_with (first
      | ((with_reducible refine gate_builtin (b := .clear) (xs := #[.tmp 68]) rfl ?_); refine wpList_clear_words rfl (.tmp 68) rfl gz p cz _ rfl HL1.out HPL.out ?_; intro w3 hn3 hf3; have HN3 := Aside0.mk hn3; have HF3 := Aside0.mk hf3; clear hn3 hf3)
      | (go_at_call 134; refine (lsh_norm gz cz n2 p _ _ (X * 2 ^ s) _ _ HN3.out HLR.out.1 HLR.out.2.1 HLR.out.2.2.1 HN.out.2.2.2.2.2.2.2.2 HLR.out.2.2.2 HN.out.2.2.2.2.2.2.1 HP1.out HVV.out).mono ?_; rintro e w4 ⟨v4, rfl, m1, rfl⟩; have M1 := Aside0.mk m1; clear m1))
    go_ret
    exact ⟨_, rfl, M1.out, (fr_put1 (S := fun k => k = gz) (fr_put1 (S := fun k => k = gz) (Fr.refl _ w1) rfl p _) rfl n1 _).trans HF3.out⟩

/-- z.lsh(z, s), z one word. -/
theorem nat_lsh (g X s : Nat) (v : Value) (w : World) (h : NW w g v X) (hX0 : 0 < X) (hX : X < 18446744073709551616) (hs0 : 0 < s) (hs : s ≤ 5000) :
    Calls Tryz.prog 93 #[v, v, .int .u64 s] w fun e w' => ∃ v' gz, e = .returned v' ∧ (gz = g ∨ w.heap.size ≤ gz) ∧ NW w' gz v' (X * 2 ^ s) ∧ Fr (fun k => k = g) w w' := by
  have hl := wl_one hX0 hX
  obtain ⟨ys, rfl, h2, h3, h4, h5⟩ := h
  rw [hl] at h3 ⊢
  simp only [List.length_cons, List.length_nil, Nat.zero_add] at h3 ⊢
  have hy1 : 1 ≤ ys.length := by have := congrArg List.length h3; rw [List.length_take] at this; simp at this; omega
  have hdm : s = 64 * (s / 64) + s % 64 := (Nat.div_add_mod s 64).symm
  rcases Nat.lt_or_ge ys.length (s / 64 + 2) with hc | hc
  · have hm := make_new (some ⟨g, 0, none⟩) 1 ys.length (s / 64 + 2) (s / 64 + 6) rfl hc (by omega) (by omega) w
    have hf : Fr (fun _ => False) w (w.alloc (.cells (Array.replicate (s / 64 + 6) (Value.int .u64 0)) 167)) := (Fr.refl _ _).alloc _
    refine (lsh_gen g w.heap.size ys.length (s / 64 + 6) X s (s / 64) (s % 64) (s / 64 + 1) (s / 64 + 2) rfl rfl (List.replicate (s / 64 + 6) 0) ys w _ (h2.far hf (fun h => h)) hy1 h3 (nb_new _ w) (InR_replicate _) (by simp) hy1 (by omega) (by omega) hX0 hX hs0 hdm (Nat.mod_lt _ (by decide)) (by omega) hm).mono ?_
    rintro e w' ⟨v', rfl, m1, m2⟩
    exact ⟨v', _, rfl, Or.inr (Nat.le_refl _), m1, (Fr.newTrans m2).mono (fun _ h => h.elim)⟩
  · have hm : Calls Tryz.prog 130 #[.slice (some ⟨g, 0, none⟩) 1 ys.length, .int .i64 ((s / 64 + 2 : Nat) : Int)] w fun e w' => e = .returned (.slice (some ⟨g, 0, none⟩) (s / 64 + 2) ys.length) ∧ w' = w :=
      (make_reuse (some ⟨g, 0, none⟩) 1 ys.length (s / 64 + 2) hc w).mono (fun e w' h => ⟨h.1, h.2.symm⟩)
    refine (lsh_gen g g ys.length ys.length X s (s / 64) (s % 64) (s / 64 + 1) (s / 64 + 2) rfl rfl ys ys w w h2 hy1 h3 h2 h4 rfl hy1 hc h5 hX0 hX hs0 hdm (Nat.mod_lt _ (by decide)) (by omega) hm).mono ?_
    rintro e w' ⟨v', rfl, m1, m2⟩
    exact ⟨v', g, rfl, Or.inl rfl, m1, m2⟩
end Go.Proofs.YtgpoplfgngiilaaGreatDoor
namespace Go.Proofs.YtgpoplfgngiilaaGreatDoor
set_option linter.unusedVariables false
set_option linter.unusedSimpArgs false
open Go.RowKit Go.Proofs.YtgpoplfgngiilaaGreatDoorW.PrintWords

set_option maxHeartbeats 2000000 in
set_option maxRecDepth 1000000 in
theorem fnorm1 (g X : Nat) (v : Value) (w : World) (h : NW w g v X) (hX0 : 0 < X) (hX : X < 18446744073709551616) :
    Calls Tryz.prog 201 #[v] w fun e w' => ∃ s : Nat, s ≤ 63 ∧ e = .returned (.int .i64 s) ∧ Fr (fun k => k = g) w w' := by
  obtain ⟨m0, m1, c, rfl⟩ := h.cell0 hX0 hX
  have hc1 : 1 ≤ c := by
    obtain ⟨ys, e1, h2, h3, h4, h5⟩ := h
    rw [wl_one hX0 hX] at e1 h3
    injection e1 with e1 e2 e3
    have := congrArg List.length h3
    rw [List.length_take] at this
    simp at this
    omega
  have HN := Aside0.mk (nlz_run X hX0 hX w)
  clear h
  have hX3 : ((X : Int) == 0) = false := beq_false_of_ne (by omega)
  have hs64 := (nz_spec hX0 hX).1
  clear hX0 hX
  generalize nz X = σ at *
  rcases Nat.eq_zero_or_pos σ with h0 | h0
  · subst h0
    go_enter Tryz.func201, Tryz.ntmps201
    go_wp2_with (go_at_call 160; refine HN.out.mono ?_; rintro e w1 ⟨rfl, rfl⟩)
    go_ret
    exact ⟨0, by omega, by simp, Fr.refl _ _⟩
  · obtain ⟨t, hst⟩ : ∃ t, σ + t = 64 := ⟨64 - σ, by omega⟩
    have HL := Aside0.mk (lshVU1 g 0 c g c X σ t w _ m0 m0 m1 h0 (by omega) hst hc1 hc1)
    have hb : decide ((σ : Int) > 0) = true := decide_eq_true (by omega)
    have HS := Aside0.mk hs64
    have bs : (σ : Int) ≤ 64 := by omega
    clear hst hs64
    go_enter Tryz.func201, Tryz.ntmps201
    go_wp2_with (first | (go_at_call 160; refine HN.out.mono ?_; rintro e w1 ⟨rfl, rfl⟩) | (go_at_call 133; refine HL.out.mono ?_; rintro e w2 ⟨rfl, rfl⟩))
    go_ret
    exact ⟨σ, by have := HS.out; omega, by simp, fr_put1 (S := fun k => k = g) (Fr.refl _ _) rfl 0 _⟩

end Go.Proofs.YtgpoplfgngiilaaGreatDoor
namespace Go.Proofs.YtgpoplfgngiilaaGreatDoor
set_option linter.unusedVariables false
set_option linter.unusedSimpArgs false
open Go.RowKit Go.Proofs.YtgpoplfgngiilaaGreatDoorW.PrintWords

theorem setWord_one (w W : World) (hW : Fr (fun k => k < w.heap.size) w W) : Calls Tryz.prog 117 #[.slice none 0 0, .int .u64 1] W fun e w' => ∃ v g, e = .returned v ∧ w.heap.size ≤ g ∧ NW w' g v 1 ∧ Below W.heap.size W w' := by
  refine (setWord_nil 1 (by decide) (by decide) W.heap.size W (Nat.le_refl _)).mono ?_
  rintro e w' ⟨v, rfl, h1, h2⟩
  rw [show ([((1 : Nat) : Int)] : List Int) = lits 18446744073709551616 1 by rw [wl_one (by decide) (by decide)]] at h1
  obtain ⟨g, hg, h3⟩ := h1.toNW (by decide)
  exact ⟨v, g, rfl, Nat.le_trans hW.size hg, h3, h2⟩

set_option maxHeartbeats 4000000 in
set_option maxRecDepth 1000000 in
theorem rat_norm0 (z c : Nat) (A : Option Addr) (w : World) (hz : Rz w z (.slice A 0 c) (.slice none 0 0)) :
    Calls Tryz.prog 95 #[.pointer (some ⟨z, 0, none⟩)] w fun e w' =>
      ∃ v' g, e = .returned (.pointer (some ⟨z, 0, none⟩)) ∧ Rz w' z (.slice A 0 c) v' ∧ w.heap.size ≤ g ∧ NW w' g v' 1 ∧ Fr (fun k => k = z) w w' := by
  have HZ := Aside0.mk hz
  have z0 := hz.c0
  have z1 := hz.c1
  have z2 := hz.c2
  have z3 := hz.c3
  have f0 := hz.f 0
  have f3 := hz.f 3
  have F1 := fr_put1 (S := fun k => k = z) (Fr.refl _ w) rfl 0 (.bool false)
  have HS := Aside0.mk (setWord_one w (w.setCell ⟨z, 0, none⟩ (.bool false)) (F1.mono (fun k hk => by have := hz.lt; omega)))
  have HF := Aside0.mk F1
  clear hz F1
  go_enter_defers Tryz.func95, Tryz.ntmps95
  go_wp2_with (go_at_call 117; refine HS.out.mono ?_; rintro e w1 ⟨v1, g1, rfl, hg1, h1, h2⟩; obtain ⟨cv, rfl⟩ := h1.slice; have H1 := Aside0.mk h1; have H2 := Aside0.mk h2; have HG := Aside0.mk hg1; have z3' := (Fr.of_below (S := fun _ => False) h2).cellv (HZ.out.set0.c3) (fun h => h); have f3' := ((Fr.of_below (S := fun _ => False) h2).frozen (p := ⟨z, 3, none⟩) (HZ.out.set0.lt) (fun h => h)).trans (HZ.out.set0.f 3); clear h1 h2 hg1)
  refine ⟨_, results_tmp rfl _ _ _, ?_⟩
  have hb := Fr.of_below (S := fun _ => False) H2.out
  have R1 := HZ.out.set0.far hb (fun h => h)
  have F3 := fr_put1 (S := fun k => k = z) (Fr.refl _ w1) rfl 3 (.slice (some ⟨g1, 0, none⟩) (lits 18446744073709551616 1).length cv)
  exact ⟨_, g1, rfl, R1.set3 _, HG.out, H1.out.far F3 (by have := HZ.out.lt; have := HG.out; show ¬ g1 = z; omega), (HF.out.trans (hb.mono (fun _ h => h.elim))).trans F3⟩
end Go.Proofs.YtgpoplfgngiilaaGreatDoor
namespace Go.Proofs.YtgpoplfgngiilaaGreatDoor
set_option linter.unusedVariables false
set_option linter.unusedSimpArgs false
open Go.RowKit Go.Proofs.YtgpoplfgngiilaaGreatDoorW.PrintWords

/-- A Float (of 512 bits). -/
def Fz (w : World) (z : Nat) (form : Int) (mant : Value) (exp : Int) : Prop := w.heap[z]? = some (.cells #[.int .u32 512, .int .u8 0, .int .i8 0, .int .u8 form, .bool false, mant, .int .i32 exp] 171 (0, 0))
theorem Fz.far {S : Nat → Prop} {w w' : World} {z : Nat} {f x : Int} {m : Value} (h : Fz w z f m x) (hf : Fr S w w') (hn : ¬ S z) : Fz w' z f m x := (hf.block z (Go.Proofs.YtgpoplfgngiilaaGreatDoorW.PrintWords.blk_lt h) hn).trans h
theorem Fz.lt {w : World} {z : Nat} {f x : Int} {m : Value} (h : Fz w z f m x) : z < w.heap.size := Go.Proofs.YtgpoplfgngiilaaGreatDoorW.PrintWords.blk_lt h
theorem Fz.c {w : World} {z : Nat} {f x : Int} {m : Value} (h : Fz w z f m x) : w.cell? ⟨z, 0, none⟩ = some (.int .u32 512) ∧ w.cell? ⟨z, 1, none⟩ = some (.int .u8 0) ∧ w.cell? ⟨z, 2, none⟩ = some (.int .i8 0) ∧ w.cell? ⟨z, 3, none⟩ = some (.int .u8 f) ∧ w.cell? ⟨z, 4, none⟩ = some (.bool false) ∧ w.cell? ⟨z, 5, none⟩ = some m ∧ w.cell? ⟨z, 6, none⟩ = some (.int .i32 x) :=
  ⟨blk_cell h 0, blk_cell h 1, blk_cell h 2, blk_cell h 3, blk_cell h 4, blk_cell h 5, blk_cell h 6⟩
theorem Fz.f {w : World} {z : Nat} {f x : Int} {m : Value} (h : Fz w z f m x) (i : Nat) : w.frozen? ⟨z, i, none⟩ = false := Go.Proofs.YtgpoplfgngiilaaGreatDoorW.PrintWords.blk_frozen h i

set_option maxHeartbeats 2000000 in
set_option maxRecDepth 1000000 in
theorem new_float (w : World) : Calls Tryz.prog 68 #[] w fun e w' => e = .returned (.pointer (some ⟨w.heap.size, 0, none⟩)) ∧ Fz w' w.heap.size 0 (.slice none 0 0) 0 ∧ Fr (fun _ => False) w w' := by
  go_enter Tryz.func68, Tryz.ntmps68
  go_wp2_with fail
  go_enter Tryz.func104, Tryz.ntmps104
  go_wp2_with fail
  go_ret
  exact ⟨rfl, heap_alloc_new w _, (Fr.refl _ _).alloc _⟩

set_option maxHeartbeats 2000000 in
set_option maxRecDepth 1000000 in
theorem float_sign (z : Nat) (f x : Int) (m : Value) (w : World) (hz : Fz w z f m x) (hf : f = 0 ∨ f = 1) : Calls Tryz.prog 71 #[.pointer (some ⟨z, 0, none⟩)] w fun e w' => e = .returned (.int .i64 f) ∧ w = w' := by
  obtain ⟨c0, c1, c2, c3, c4, c5, c6⟩ := hz.c
  rcases hf with rfl | rfl
  all_goals
    go_enter Tryz.func71, Tryz.ntmps71
    go_wp2_with fail
    go_ret
    exact ⟨rfl, rfl⟩

set_option maxHeartbeats 2000000 in
set_option maxRecDepth 1000000 in
theorem float_inf (z : Nat) (f x : Int) (m : Value) (w : World) (hz : Fz w z f m x) (hf : f = 0 ∨ f = 1) : Calls Tryz.prog 106 #[.pointer (some ⟨z, 0, none⟩)] w fun e w' => e = .returned (.bool false) ∧ w = w' := by
  obtain ⟨c0, c1, c2, c3, c4, c5, c6⟩ := hz.c
  rcases hf with rfl | rfl
  all_goals
    go_enter Tryz.func106, Tryz.ntmps106
    go_wp2_with fail
    go_ret
    exact ⟨rfl, rfl⟩

set_option maxHeartbeats 2000000 in
set_option maxRecDepth 1000000 in
theorem float_mantExp (z : Nat) (f x : Int) (m : Value) (w : World) (hz : Fz w z f m x) (hf : (f = 0 ∧ x = 0) ∨ f = 1) (hx : -5000 ≤ x ∧ x ≤ 5000) : Calls Tryz.prog 107 #[.pointer (some ⟨z, 0, none⟩), .pointer none] w fun e w' => e = .returned (.int .i64 x) ∧ w = w' := by
  obtain ⟨c0, c1, c2, c3, c4, c5, c6⟩ := hz.c
  obtain ⟨x1, x2⟩ := hx
  rcases hf with ⟨rfl, rfl⟩ | rfl
  all_goals
    go_enter Tryz.func107, Tryz.ntmps107
    go_wp2_with fail
    go_ret
    exact ⟨rfl, rfl⟩

set_option maxHeartbeats 2000000 in
set_option maxRecDepth 1000000 in
theorem float_small (z : Nat) (f x : Int) (m : Value) (w : World) (hz : Fz w z f m x) (hf : (f = 0 ∧ x = 0) ∨ f = 1) (hx : -4000 ≤ x ∧ x ≤ 4000) : Calls Tryz.prog 70 #[.pointer (some ⟨z, 0, none⟩)] w fun e w' => e = .returned (.bool true) ∧ w = w' := by
  have H1 := Aside0.mk (float_inf z f x m w hz (hf.imp (fun h => h.1) id))
  have H2 := Aside0.mk (float_mantExp z f x m w hz hf (by omega))
  obtain ⟨x1, x2⟩ := hx
  clear hz hf
  go_enter Tryz.func70, Tryz.ntmps70
  go_wp2_with (first | (go_at_call 106; refine H1.out.mono ?_; rintro e w1 ⟨rfl, rfl⟩) | (go_at_call 107; refine H2.out.mono ?_; rintro e w2 ⟨rfl, rfl⟩))
  go_ret
  refine ⟨?_, rfl⟩
  simp
  omega

set_option maxHeartbeats 2000000 in
set_option maxRecDepth 1000000 in
/-- round(0) of a Float whose mantissa is one word. -/
theorem float_round (z c : Nat) (A : Option Addr) (x : Int) (w : World) (hz : Fz w z 1 (.slice A 1 c) x) : Calls Tryz.prog 145 #[.pointer (some ⟨z, 0, none⟩), .int .u64 0] w fun e w' => e = .returned (.tuple #[]) ∧ Fz w' z 1 (.slice A 1 c) x ∧ Fr (fun k => k = z) w w' := by
  obtain ⟨c0, c1, c2, c3, c4, c5, c6⟩ := hz.c
  have f2 := hz.f 2
  have HZ := Aside0.mk hz
  clear hz
  go_enter Tryz.func145, Tryz.ntmps145
  go_wp2_with fail
  refine bodyPost_ret (results_none rfl _ _ _) rfl ?_
  have := Go.Proofs.YtgpoplfgngiilaaGreatDoorW.PrintWords.blk_set HZ.out 2 (.int .i8 0)
  exact ⟨rfl, this, fr_put1 (S := fun k => k = z) (Fr.refl _ w) rfl 2 _⟩
end Go.Proofs.YtgpoplfgngiilaaGreatDoor
