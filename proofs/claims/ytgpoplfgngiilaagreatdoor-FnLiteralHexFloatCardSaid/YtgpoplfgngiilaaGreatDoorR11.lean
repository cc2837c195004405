/- FnLiteralHexFloat, behind its card (G5). -/
import Derived.Test.YtgpoplfgngiilaaGreatDoorR10
import Derived.Laws.CopyOwn
set_option linter.unusedVariables false
set_option linter.unusedSimpArgs false
namespace Go.Proofs.YtgpoplfgngiilaaGreatDoor
set_option linter.unusedVariables false
set_option linter.unusedSimpArgs false
open Go.RowKit Go.Proofs.YtgpoplfgngiilaaGreatDoorW.PrintWords

/-- v is the number n in block g. -/
def NW (w : World) (g : Nat) (v : Value) (n : Nat) : Prop :=
  ∃ ys, v = .slice (some ⟨g, 0, none⟩) (lits 18446744073709551616 n).length ys.length ∧ Nb w g ys ∧ ys.take (lits 18446744073709551616 n).length = lits 18446744073709551616 n ∧ InR 18446744073709551616 ys ∧ ys.length ≤ 9223372036854775807
theorem NW.far {S : Nat → Prop} {w w' : World} {g : Nat} {v : Value} {n : Nat} (h : NW w g v n) (hf : Fr S w w') (hg : ¬ S g) : NW w' g v n := by
  obtain ⟨ys, h1, h2, h3⟩ := h
  exact ⟨ys, h1, h2.far hf hg, h3⟩
theorem NW.lt {w : World} {g : Nat} {v : Value} {n : Nat} (h : NW w g v n) : g < w.heap.size := by
  obtain ⟨ys, h1, h2, h3⟩ := h
  exact h2.lt
theorem NW.slice {w : World} {g : Nat} {v : Value} {n : Nat} (h : NW w g v n) : ∃ c, v = .slice (some ⟨g, 0, none⟩) (lits 18446744073709551616 n).length c := by
  obtain ⟨ys, h1, h2, h3⟩ := h
  exact ⟨_, h1⟩
theorem NV.toNW {base : Nat} {w : World} {v : Value} {n : Nat} (h : NV base w v (lits 18446744073709551616 n)) (h0 : 0 < n) : ∃ g, base ≤ g ∧ NW w g v n := by
  rcases h with ⟨_, h⟩ | ⟨g, ys, h1, h2, h3⟩
  · have := congrArg (valL 18446744073709551616) h
    rw [valL_lits _ (by decide)] at this
    simp [valL] at this; omega
  · exact ⟨g, h1, ys, h2, h3⟩
theorem wl_pos {n : Nat} (h : 0 < n) : 0 < (lits 18446744073709551616 n).length := by
  rw [lits_pos _ n (by decide) (by omega)]; simp
theorem wl_one {n : Nat} (h : 0 < n) (h2 : n < 18446744073709551616) : lits 18446744073709551616 n = [(n : Int)] := by
  rw [lits_pos _ n (by decide) (by omega), Nat.mod_eq_of_lt h2, Nat.div_eq_of_lt h2, lits_zero]

theorem wpList_copy_words {w : World} {ops : Array Oper} {rest : List Oper} {o : Oper} {a : Act} {Q : Exit → Act → World → Prop} (hgd : o.guard = none) (d s : Operand)
    (ho : o.op = .call { callee := .builtin .copy, args := #[d, s], argTypes := #[114, 114] })
    (gd gs off dLen dCap sLen sCap m : Nat) (zs xs : List Int) (hd : a.eval d = .slice (some ⟨gd, off, none⟩) dLen dCap) (hs : a.eval s = .slice (some ⟨gs, 0, none⟩) sLen sCap)
    (hm : m = Nat.min sLen dLen) (hZ : Nb w gd zs) (hX : Nb w gs xs) (hx : m ≤ xs.length) (hfit : off + m ≤ zs.length)
    (h : ∀ w', Nb w' gd (zs.take off ++ (xs.take m ++ zs.drop (off + m))) → Fr (fun k => k = gd) w w' → wpList Tryz.prog ops Q rest (a.put o.dst (goInt m)) w') : wpList Tryz.prog ops Q (o :: rest) a w := by
  have hl : ((xs.take m).map (Value.int .u64)).length = m := by simp; omega
  refine wpList_copy_own hgd d s 114 114 ho 167 Tryz.underlying114 (by kernel_rfl) gd off dLen dCap ⟨gs, 0, none⟩ sLen sCap hd hs _ 167 hZ ((xs.take m).map (Value.int .u64)) (by rw [hl]; exact hm) ?_ (by rw [hl]; simpa using hfit) (by intro v hv; obtain ⟨z, _, rfl⟩ := List.mem_map.1 hv; rfl) ?_
  · intro j v hj
    rw [List.getElem?_map] at hj
    obtain ⟨z, hz, rfl⟩ := Option.map_eq_some_iff.1 hj
    obtain ⟨hi, he⟩ := List.getElem?_eq_some_iff.1 hz
    rw [Addr.add_lit, Nat.zero_add, hX.cell j (by simp at hi; omega), ← he, List.getElem_take]
  · rw [hl]
    refine h _ ?_ ⟨rfl, rfl, rfl, by simp, fun k hk hn => setRow_other w gd k _ hn⟩
    unfold Nb
    rw [setRow_heap w gd _ _ 167 (0, 0) hZ]
    simp [List.map_drop]

set_option maxHeartbeats 2000000 in
set_option maxRecDepth 1000000 in
theorem make_nil (m : Nat) (hm0 : 0 < m) (hm : m ≤ 1000) : ∃ k, m ≤ k ∧ k ≤ 2000 ∧ ∀ w, Calls Tryz.prog 130 #[.slice none 0 0, .int .i64 m] w fun e w' => e = .returned (.slice (some ⟨w.heap.size, 0, none⟩) m k) ∧ w' = w.alloc (.cells (Array.replicate k (Value.int .u64 0)) 167) := by
  by_cases h : m = 1
  · subst h
    exact ⟨1, by decide, by decide, fun w => make_one none 0 w⟩
  · exact ⟨m + 4, by omega, by omega, fun w => make_new none 0 0 m (m + 4) rfl (by omega) (by omega) (by omega) w⟩

set_option maxHeartbeats 2000000 in
set_option maxRecDepth 1000000 in
theorem set_nil (n g : Nat) (v : Value) (w : World) (hv : NW w g v n) (h0 : 0 < n) (hl : (lits 18446744073709551616 n).length ≤ 1000) :
    Calls Tryz.prog 94 #[.slice none 0 0, v] w fun e w' => ∃ v', e = .returned v' ∧ NW w' w.heap.size v' n ∧ Fr (fun _ => False) w w' := by
  obtain ⟨ys, rfl, h2, h3, h4, h5⟩ := hv
  have hm0 := wl_pos h0
  obtain ⟨m, hm⟩ : ∃ m, (lits 18446744073709551616 n).length = m := ⟨_, rfl⟩
  rw [hm] at hm0 hl h3 ⊢
  obtain ⟨k, k1, k2, hmk⟩ := make_nil m hm0 hl
  have HMK := Aside0.mk hmk
  clear hmk
  have HZ := Aside0.mk (nb_new k w)
  have HX := Aside0.mk (h2.far ((Fr.refl (fun _ => False) w).alloc (.cells (Array.replicate k (Value.int .u64 0)) 167)) (fun h => h))
  have HQ := Aside0.mk (And.intro hm (And.intro h3 (And.intro h4 h5)))
  have hle : m ≤ ys.length := by have := congrArg List.length h3; rw [List.length_take, hm] at this; omega
  have HLE := Aside0.mk hle
  clear hm h2 h3 h4 h5 h0 hle
  go_enter Tryz.func94, Tryz.ntmps94
  go_wp2_with (first | (go_at_call 130; go_must (refine (HMK.out _).mono ?_); rintro e w1 ⟨rfl, rfl⟩) | ((with_reducible refine gate_builtin (b := .copy) (xs := #[.tmp 9, .tmp 10]) rfl ?_); refine wpList_copy_words rfl (.tmp 9) (.tmp 10) rfl w.heap.size g 0 m k m ys.length m (List.replicate k 0) ys rfl rfl (Nat.min_self m).symm HZ.out HX.out HLE.out (by simp; omega) ?_; intro w2 hn2 hf2; have HN2 := Aside0.mk hn2; have HF2 := Aside0.mk hf2; clear hn2 hf2))
  refine bodyPost_ret (v := .slice (some ⟨w.heap.size, 0, none⟩) m k) (by simp [results, Tryz.results94, go_sem]) rfl ?_
  obtain ⟨q1, q2, q3, q4⟩ := HQ.out
  have hN := HN2.out
  rw [List.take_zero, List.nil_append, Nat.zero_add, q2, List.drop_replicate] at hN
  have hlen : (lits 18446744073709551616 n ++ List.replicate (k - m) 0).length = k := by simp [q1]; omega
  refine ⟨_, rfl, ⟨_, ?_, hN, ?_, InR_append (InR_lits _ (by decide) n) (InR_replicate _), by omega⟩, ?_⟩
  · rw [hlen, q1]
  · rw [q1, List.take_append_of_le_length (by omega)]
    exact List.take_of_length_le (by omega)
  · exact ⟨HF2.out.os, HF2.out.tape, HF2.out.output, Nat.le_trans (by simp) HF2.out.size, fun j hj _ => (HF2.out.block j (by simp; omega) (by omega)).trans (hk_alloc _ hj rfl)⟩

set_option maxHeartbeats 2000000 in
set_option maxRecDepth 1000000 in
theorem setWord_zero (w : World) : Calls Tryz.prog 117 #[.slice none 0 0, .int .u64 0] w fun e w' => e = .returned (.slice none 0 0) ∧ w = w' := by
  go_enter Tryz.func117, Tryz.ntmps117
  go_wp2_with fail
  go_ret
  exact ⟨rfl, rfl⟩

/-- The words of a quotient, normed. -/
theorem dv_norm {U y g c : Nat} {ys : List Int} {w : World} (hy0 : 0 < y) (hl : (lits 18446744073709551616 U).length ≤ 1000) (hc : c = ys.length) (hcm : (lits 18446744073709551616 U).length ≤ c) (hc2 : c ≤ 9223372036854775807) (hR : InR 18446744073709551616 ys)
    (hN : Nb w g (dvW y (lits 18446744073709551616 U) ++ ys.drop (lits 18446744073709551616 U).length)) :
    Calls Tryz.prog 134 #[.slice (some ⟨g, 0, none⟩) (lits 18446744073709551616 U).length c] w fun e w' => ∃ v, e = .returned v ∧ NW w' g v (U / y) ∧ w = w' := by
  have hRU := InR_lits 18446744073709551616 (by decide) U
  have hval := valL_lits 18446744073709551616 (by decide) U
  obtain ⟨d1, d2⟩ := dv_div hy0 (lits 18446744073709551616 U)
  rw [hval] at d1
  have hlw := dvW_length y (lits 18446744073709551616 U)
  have hdR := dvW_R hy0 _ hRU
  generalize lits 18446744073709551616 U = xs at *
  have hall : InR 18446744073709551616 (dvW y xs ++ ys.drop xs.length) := InR_append hdR (InR_drop hR _)
  have hlen : (dvW y xs ++ ys.drop xs.length).length = c := by rw [List.length_append, hlw, List.length_drop]; omega
  have htk : (dvW y xs ++ ys.drop xs.length).take xs.length = dvW y xs := by
    have := List.take_left (l₁ := dvW y xs) (l₂ := ys.drop xs.length)
    rwa [hlw] at this
  refine (norm_calls g c xs.length _ w (by omega) hcm (by omega) hall hN).mono ?_
  rintro e w' ⟨n', rfl, h1, h2, rfl⟩
  rw [htk, d1] at h2
  have hn' : (lits 18446744073709551616 (U / y)).length = n' := by rw [← h2, List.length_take]; omega
  refine ⟨_, rfl, ⟨_, ?_, hN, ?_, hall, by omega⟩, rfl⟩
  · rw [hn', hlen]
  · rw [hn', h2]

set_option maxHeartbeats 2000000 in
set_option maxRecDepth 1000000 in
/-- z.divW(x, y), z nil. -/
theorem divW_nil (U g y : Nat) (v : Value) (w : World) (hv : NW w g v U) (h0 : 0 < U) (hl : (lits 18446744073709551616 U).length ≤ 1000) (hy0 : 0 < y) (hy : y < 18446744073709551616) :
    Calls Tryz.prog 194 #[.slice none 0 0, v, .int .u64 y] w fun e w' => ∃ v', e = .returned (.tuple #[v', .int .u64 ((U % y : Nat) : Int)]) ∧ NW w' w.heap.size v' (U / y) ∧ Fr (fun _ => False) w w' := by
  have hm0 := wl_pos h0
  have hb0 : ((y : Int) == 0) = false := beq_false_of_ne (by omega)
  by_cases h1 : y = 1
  · subst h1
    rw [Nat.mod_one, Nat.div_one]
    have HS := Aside0.mk (set_nil U g v w hv h0 hl)
    obtain ⟨c, rfl⟩ := hv.slice
    clear hv hl hm0 h0 hy0 hy hb0
    go_enter Tryz.func194, Tryz.ntmps194
    go_wp2_with (go_at_call 94; go_must (refine HS.out.mono ?_); rintro e w1 ⟨v', rfl, h1, h2⟩; obtain ⟨c', rfl⟩ := h1.slice; have H1 := Aside0.mk h1; have H2 := Aside0.mk h2; clear h1 h2)
    go_ret2
    exact ⟨_, rfl, H1.out, H2.out⟩
  · have hb1 : ((y : Int) == 1) = false := beq_false_of_ne (by omega)
    obtain ⟨m, hm⟩ : ∃ m, (lits 18446744073709551616 U).length = m := ⟨_, rfl⟩
    obtain ⟨k, k1, k2, hmk⟩ := make_nil m (by omega) (by omega)
    have HMK := Aside0.mk hmk
    have hval := valL_lits 18446744073709551616 (by decide) U
    have hlt := hv.lt
    obtain ⟨ys, rfl, h2, h3, h4, h5⟩ := hv
    have hX : XAt (w.alloc (.cells (Array.replicate k (Value.int .u64 0)) 167)) w.heap.size g (lits 18446744073709551616 U) (List.replicate k 0) :=
      Or.inr ⟨by omega, ys, h2.far ((Fr.refl (fun _ => False) w).alloc _) (fun h => h), h3⟩
    have HD := Aside0.mk (divWVW w.heap.size g k ys.length (lits 18446744073709551616 U) (List.replicate k 0) y m _ hm.symm (by omega) (by omega) (by simp; omega) (InR_lits _ (by decide) U) hy0 hy hX (nb_new k w))
    have HNO := Aside0.mk (fun W h => dv_norm (U := U) (y := y) (g := w.heap.size) (c := k) (ys := List.replicate k 0) (w := W) hy0 hl (by simp) (by omega) (by omega) (InR_replicate _) h)
    rw [hval] at HD
    rw [hm] at HNO ⊢
    have hbm : ((m : Int) == 0) = false := beq_false_of_ne (by omega)
    clear hmk h2 h3 h4 h5 h0 hX hm hl hval hy0 hy hlt h1
    go_enter Tryz.func194, Tryz.ntmps194
    go_wp2_with (first | (go_at_call 130; go_must (refine (HMK.out _).mono ?_); rintro e w1 ⟨rfl, rfl⟩) | (go_at_call 236; go_must (refine HD.out.mono ?_); rintro e w2 ⟨rfl, h1, h2⟩; have H1 := Aside0.mk h1; have H2 := Aside0.mk h2; clear h1 h2) | (go_at_call 134; go_must (refine (HNO.out _ H1.out).mono ?_); rintro e w3 ⟨v', rfl, h3, rfl⟩; obtain ⟨c', rfl⟩ := h3.slice; have H3 := Aside0.mk h3; clear h3))
    go_ret2
    refine ⟨_, rfl, H3.out, ⟨H2.out.os, H2.out.tape, H2.out.output, Nat.le_trans (by simp) H2.out.size, fun j hj _ => (H2.out.block j (by simp; omega) (by omega)).trans (hk_alloc _ hj rfl)⟩⟩

set_option maxHeartbeats 2000000 in
set_option maxRecDepth 1000000 in
/-- z.divW(z, y), y > 1. -/
theorem divW_self (U g y : Nat) (v : Value) (w : World) (hv : NW w g v U) (h0 : 0 < U) (hl : (lits 18446744073709551616 U).length ≤ 1000) (hy1 : 1 < y) (hy : y < 18446744073709551616) :
    Calls Tryz.prog 194 #[v, v, .int .u64 y] w fun e w' => ∃ v', e = .returned (.tuple #[v', .int .u64 ((U % y : Nat) : Int)]) ∧ NW w' g v' (U / y) ∧ Fr (fun k => k = g) w w' := by
  have hm0 := wl_pos h0
  have hb0 : ((y : Int) == 0) = false := beq_false_of_ne (by omega)
  have hb1 : ((y : Int) == 1) = false := beq_false_of_ne (by omega)
  obtain ⟨m, hm⟩ : ∃ m, (lits 18446744073709551616 U).length = m := ⟨_, rfl⟩
  have hval := valL_lits 18446744073709551616 (by decide) U
  obtain ⟨ys, rfl, h2, h3, h4, h5⟩ := hv
  have hle : m ≤ ys.length := by have := congrArg List.length h3; rw [List.length_take, hm] at this; omega
  have HMK := Aside0.mk (make_reuse (some ⟨g, 0, none⟩) m ys.length m hle w)
  have HD := Aside0.mk (divWVW g g ys.length ys.length (lits 18446744073709551616 U) ys y m w hm.symm (by omega) (by omega) hle (InR_lits _ (by decide) U) (by omega) hy (Or.inl ⟨rfl, h3⟩) h2)
  have HNO := Aside0.mk (fun W h => dv_norm (U := U) (y := y) (g := g) (c := ys.length) (ys := ys) (w := W) (by omega) hl rfl (by omega) h5 h4 h)
  rw [hval] at HD
  rw [hm] at HNO ⊢
  have hbm : ((m : Int) == 0) = false := beq_false_of_ne (by omega)
  clear h2 h3 h4 h5 h0 hm hl hval hy1 hy hle
  go_enter Tryz.func194, Tryz.ntmps194
  go_wp2_with (first | (go_at_call 130; go_must (refine HMK.out.mono ?_); rintro e w1 ⟨rfl, rfl⟩) | (go_at_call 236; go_must (refine HD.out.mono ?_); rintro e w2 ⟨rfl, h1, h2⟩; have H1 := Aside0.mk h1; have H2 := Aside0.mk h2; clear h1 h2) | (go_at_call 134; go_must (refine (HNO.out _ H1.out).mono ?_); rintro e w3 ⟨v', rfl, h3, rfl⟩; obtain ⟨c', rfl⟩ := h3.slice; have H3 := Aside0.mk h3; clear h3))
  go_ret2
  exact ⟨_, rfl, H3.out, H2.out⟩
end Go.Proofs.YtgpoplfgngiilaaGreatDoor
