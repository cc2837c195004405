/- FnLiteralHexFloat, behind its card (L2 K3 K3p K3m). -/
import Derived.Test.YtgpoplfgngiilaaGreatDoorR29
import Derived.Test.YtgpoplfgngiilaaGreatDoorR06
import Derived.Lib.ParseIntB
import Derived.Lib.BufSteps
import Derived.Laws.IdiomStrings
import Derived.Outline
set_option linter.unusedVariables false
set_option linter.unusedSimpArgs false
namespace Go.Proofs.YtgpoplfgngiilaaGreatDoor
set_option linter.unusedVariables false
set_option linter.unusedSimpArgs false
open Go.RowKit

/-- Decimal figures. -/
def Dg (l : List UInt8) : Prop := ∀ c ∈ l, 48 ≤ c.toNat ∧ c.toNat ≤ 57
theorem Dg.txt (n : Nat) : Dg (txt false 10 n) := fun c hc => by
  obtain ⟨h1, h2⟩ := Body_txt false 10 n (by decide) (by decide)
  obtain ⟨h3, h4⟩ := (h1 c hc).resolve_left (h2 c hc)
  unfold Cls at h3
  omega
theorem pum : ∀ (ds : List UInt8) (acc : Nat), Dg ds → pv 10 acc ds ≤ 1000000 → Lib.parseUintM 18446744073709551615 acc ds = .ok (pv 10 acc ds)
  | [], acc, _, _ => rfl
  | c :: ds, acc, hd, hp => by
    obtain ⟨h1, h2⟩ := hd c (by simp)
    have h95 : c ≠ 95 := fun e => by subst e; revert h2; decide
    have hv : dval c = c.toNat - 48 := by unfold dval; rw [if_pos h2]
    rw [pv_cons] at hp ⊢
    have hs : stepV 10 acc c = acc * 10 + (c.toNat - 48) := by unfold stepV; rw [if_neg h95, hv]
    rw [hs] at hp ⊢
    have hle := pv_le 10 (by decide) ds (acc * 10 + (c.toNat - 48))
    have ih := pum ds (acc * 10 + (c.toNat - 48)) (fun x hx => hd x (by simp [hx])) hp
    unfold Lib.parseUintM
    rw [if_pos ⟨h1, h2⟩, if_neg (by omega), if_neg (by omega), ih]
/-- The text that ParseInt is handed. -/
def expL (x : Int) : List UInt8 := (if x < 0 then [45] else []) ++ txt false 10 x.natAbs
theorem parse_exp (x : Int) (hx : x.natAbs ≤ 1000) : Lib.parseIntB 64 (expL x) = .ok x := by
  have hd := Dg.txt x.natAbs
  have hv := pv_txt false 10 x.natAbs (by decide) (by decide)
  have hne : txt false 10 x.natAbs ≠ [] := fun h => by
    have := txt_length false 10 x.natAbs (by decide)
    rw [h] at this
    simp at this
    omega
  have hu : Lib.parseUintB 64 (txt false 10 x.natAbs) = .ok x.natAbs := by
    unfold Lib.parseUintB
    rw [if_neg hne]
    have := pum (txt false 10 x.natAbs) 0 hd (by rw [hv]; omega)
    rw [hv] at this
    exact this
  unfold expL
  by_cases h0 : x < 0
  · rw [if_pos h0]
    show Lib.parseIntB 64 (45 :: txt false 10 x.natAbs) = _
    unfold Lib.parseIntB
    simp only
    rw [if_pos (Or.inr (by decide)), hu]
    have h45 : (45 : UInt8).toNat = 45 := by decide
    simp only [h45]
    rw [if_neg (by simp), if_neg (by simp; omega), if_pos trivial]
    congr 1
    omega
  · rw [if_neg h0, List.nil_append]
    generalize txt false 10 x.natAbs = l at *
    cases l with
    | nil => exact absurd rfl hne
    | cons c r =>
      obtain ⟨h1, h2⟩ := hd c (by simp)
      unfold Lib.parseIntB
      simp only
      rw [if_neg (by omega), hu]
      simp only
      rw [if_neg (by omega), if_neg (by omega), if_neg (by omega)]
      congr 1
      omega
end Go.Proofs.YtgpoplfgngiilaaGreatDoor
namespace Go.Proofs.YtgpoplfgngiilaaGreatDoor
set_option linter.unusedVariables false
set_option linter.unusedSimpArgs false
open Go.RowKit Go.Proofs.YtgpoplfgngiilaaGreatDoorW.PrintWords
attribute [local go_sem] me_read me_unread

/-- The cells of bytes. -/
def bv (l : List UInt8) : List Value := l.map (fun b => .int .u8 (b.toNat : Int))
theorem bv_snoc (l : List UInt8) (b : UInt8) : bv (l ++ [b]) = bv l ++ [.int .u8 (b.toNat : Int)] := by simp [bv]
/-- v is a row of one's own that holds these bytes. -/
def OB (B : Nat) (w : World) (v : Value) (l : List UInt8) : Prop := w.ownsRowF B 5 1 v l.length (bv l)
theorem OB.buf {B : Nat} {w : World} {v : Value} {l : List UInt8} (h : OB B w v l) (hB : B ≤ w.heap.size) : Lib.OwnBuf B 5 v l.length (bv l) w w := ⟨h, Below.refl _ _, hB⟩
theorem OB.fr {B : Nat} {w w' : World} {v : Value} {l : List UInt8} {S : Nat → Prop} (h : OB B w v l) (hf : Fr S w w') (hs : ∀ k, S k → k < B) : OB B w' v l := by
  refine ⟨h.1, ?_⟩
  rcases h.2 with hn | ⟨g, cap, cur, fz, rfl, hb, hg, rest⟩
  · exact Or.inl hn
  · refine Or.inr ⟨g, cap, cur, fz, rfl, hb, ?_, rest⟩
    rw [hf.block g (Array.getElem?_eq_some_iff.1 hg).1 (fun h => by have := hs g h; omega)]
    exact hg
theorem OB.grow {B : Nat} {w w' : World} {v : Value} {l : List UInt8} {c : UInt8} {x : Int} (hx : x = (c.toNat : Int)) (h : Lib.OwnBuf B 5 v (l.length + 1) (bv l ++ [.int .u8 x]) w w') : OB B w' v (l ++ [c]) ∧ Below B w w' := by
  subst hx
  refine ⟨?_, h.2.1⟩
  unfold OB
  rw [bv_snoc, List.length_append, List.length_singleton]
  exact h.1
/-- string(digits). -/
theorem OB.text {B : Nat} {w : World} {v : Value} {l : List UInt8} (h : OB B w v l) (h0 : l ≠ []) : (convert 44 9 v).run Tryz.prog w = .ok (.string (bstr l)) w := by
  have hc := fun g hg => h.cells (g := g) hg
  rcases h.2 with ⟨_, h1⟩ | ⟨g, cap, cur, fz, rfl, hb, hg, rest⟩
  · exact absurd (List.length_eq_zero_iff.1 h1) h0
  · exact run_convert_bytes_back w 44 9 5 ⟨g, 0, none⟩ cap l Tryz.underlying44 Tryz.underlying5 Tryz.underlying9 (fun j hj => hc g rfl j _ (by simp [bv, List.getElem?_map, List.getElem?_eq_getElem hj]))

/-- What the loop of scanExponent keeps. -/
def ERel (s : ByteArray) (r base P : Nat) (te : TypeId) (pe : Value) (pre ds : List UInt8) (w : World) (kq : Nat) (v8 v9 v10 v11 v12 v13 : Value) (w' : World) : Prop :=
  ∃ (k : Nat) (er v : Value) (ch pr : Int) (hd : Bool), v8 = er ∧ v9 = .int .u8 ch ∧ v = v10 ∧ v11 = .int .i32 pr ∧ v12 = .bool false ∧ v13 = .bool hd ∧
    Aside0 (P + k ≤ s.size ∧ kq = s.size - P - k ∧ (0 < k → hd = true)) ∧ Aside0 (pr = 46 ∨ pr = 48) ∧
    Aside0 (OB base w' v (pre ++ ds.take k)) ∧
    Aside0 ((∃ h : P + k < s.size, er = .nilIface ∧ ch = ((s[P + k]'h).toNat : Int) ∧ Rd w' r s (P + k + 1)) ∨ (P + k = s.size ∧ er = .iface te pe ∧ Rd w' r s s.size)) ∧
    Aside0 (Fr (fun k => k = r) w w')

set_option maxHeartbeats 4000000 in
set_option maxRecDepth 1000000 in
theorem scanE_0 (s : ByteArray) (r L : Nat) (x : Int) (te : TypeId) (pe : Value) (w : World) (hs2 : s.size ≤ 1000) (hL : L + 1 < s.size) (hc : (s[L]'(by omega)).toNat = 112 ∨ (s[L]'(by omega)).toNat = 80) 
    (ds : List UInt8) (hds : ds = (s.extract (L + 1) s.size).data.toList) (hD : Dg ds) (hr : Rd w r s L) (hE : w.cell? ⟨1, 0, none⟩ = some (.iface te pe)) (hr1 : r ≠ 1)
    (hq : ∀ W, (binOp .eql 85 (.iface te pe) (.iface te pe)).run Tryz.prog W = .ok (.bool true) W)
    (hP : ∀ W, Calls Tryz.prog 43 #[.string (bstr ([] ++ ds)), .int .i64 10, .int .i64 64] W fun e w' => e = .returned (.tuple #[.int .i64 x, .nilIface]) ∧ Below W.heap.size W w') :
    Calls Tryz.prog 112 #[.iface 133 (.pointer (some ⟨r, 0, none⟩)), .bool true, .bool true] w fun e w' => e = .returned (.tuple #[.int .i64 x, .int .i64 2, .nilIface]) ∧ Rd w' r s s.size ∧ Fr (fun k => k = r) w w' := by
  have HR := Aside0.mk hr
  have HB := Aside0.mk (Rd.lt hr)
  have hcl : ds.length = s.size - (L + 1) := by rw [hds, Lib.size_eq]; simp [ByteArray.size_extract]
  have HF := Aside0.mk (And.intro hE (And.intro hr1 (And.intro hD (And.intro hds hcl))))
  obtain ⟨S, hS⟩ : ∃ S, bstr ([] ++ ds) = S := ⟨_, rfl⟩
  rw [hS] at hP
  have HP := Aside0.mk hP
  have HSS := Aside0.mk hS
  obtain ⟨q, H0⟩ : ∃ q : Int, ((s[L]'(by omega)).toNat : Int) = q := ⟨_, rfl⟩
  have hq2 : q = 112 ∨ q = 80 := by omega
  obtain ⟨j0, e0⟩ := ext_get s (L + 1) 0 (by omega) ds hds
  obtain ⟨d0, H1⟩ : ∃ d0 : Int, ((s[L + 1 + 0]'(by omega)).toNat : Int) = d0 := ⟨_, rfl⟩
  have hd0 : 48 ≤ d0 ∧ d0 ≤ 57 := by
    have := hD _ (List.getElem_mem j0)
    rw [e0] at this
    omega
  have g43 : (d0 == 43) = false := beq_false_of_ne (by omega)
  have g45 : (d0 == 45) = false := beq_false_of_ne (by omega)
  clear hr hE hr1 hD hds hcl hP hc e0 hS hd0
  rcases hq2 with rfl | rfl
  all_goals
    go_enter Tryz.func112, Tryz.ntmps112
    go_wp2_with (first | (go_at_call 110; (refine (readByte_in r s L (by omega) (by omega) _ HR.out).mono ?_); rintro e w1 ⟨rfl, hr1, hf1⟩; rw [H0]; have HR1 := Aside0.mk hr1; have HF1 := Aside0.mk hf1; clear hr1 hf1) | (go_at_call 110; (refine (readByte_in r s (L + 1) (by omega) (by omega) _ HR1.out).mono ?_); rintro e w2 ⟨rfl, hr2, hf2⟩; rw [show ((s[L + 1]'(by omega)).toNat : Int) = d0 from H1]; have HR2 := Aside0.mk hr2; have HF2 := Aside0.mk (HF1.out.trans hf2); clear hr2 hf2))
    go_loopg [8, 9, 10, 11, 12, 13] (s.size - (L + 1)) (fun kq v8 v9 v10 v11 v12 v13 w' => ERel s r w.heap.size (L + 1) te pe [] ds w kq v8 v9 v10 v11 v12 v13 w')
    case atStart =>
      exact ⟨0, _, _, d0, 46, false, rfl, rfl, rfl, rfl, rfl, rfl, ⟨by omega, by omega, by omega⟩, ⟨Or.inl rfl⟩, ⟨World.ownsRowF_nil _ _ _ _⟩, ⟨Or.inl ⟨hL, rfl, H1.symm, HR2.out⟩⟩, ⟨HF2.out⟩⟩
    case round =>
      obtain ⟨k, er, v10, ch, pr, hd, rfl, rfl, rfl, rfl, rfl, rfl, HI, HPR, HO, HS, HW⟩ := hrel
      by_cases hk : L + 1 + k < s.size
      · obtain ⟨hj, hcj⟩ := ext_get s (L + 1) k hk ds HF.out.2.2.2.1
        obtain ⟨_, rfl, hch, hrd⟩ := HS.out.resolve_right (fun h => by omega)
        have HRd := Aside0.mk hrd
        have hdg := HF.out.2.2.1 _ (List.getElem_mem hj)
        rw [hcj] at hdg
        have h48 : 48 ≤ ch := by omega
        have h57 : ch ≤ 57 := by omega
        have hl0 : ds.length ≤ 1000 := by have := HF.out.2.2.2.2; omega
        have HT := Aside0.mk (show ([] ++ ds.take k) ++ [ds[k]'hj] = [] ++ ds.take (k + 1) by rw [List.append_assoc, List.take_add_one, List.getElem?_eq_getElem hj]; rfl)
        have HC := Aside0.mk (show ch = ((ds[k]'hj).toNat : Int) by rw [hch, hcj])
        have HL := Aside0.mk (show ([] ++ ds.take k).length + 1 ≤ 140737488355328 by simp; omega)
        clear hrd hdg hch hcj hl0
        by_cases hnx : L + 1 + k + 1 < s.size
        · go_wp2_with (first | ((with_reducible refine gate_builtin (b := .append) (xs := #[.tmp 68, .tmp 70]) rfl ?_); at_builtin; refine Lib.wpList_append_byte rfl (.tmp 68) (.tmp 70) 44 rfl w.heap.size 5 Tryz.t5 Tryz.underlying44 (by kernel_rfl) (by kernel_rfl) (by kernel_rfl) (by kernel_rfl) v10 _ _ rfl _ _ ch (HO.out.buf HW.out.size) rfl HL.out ?_; intro v' w2 hb2; obtain ⟨hn2, hb3⟩ := OB.grow HC.out hb2; have HO2 := Aside0.mk hn2; have HBm := Aside0.mk hb3; clear hn2 hb2 hb3) | (go_at_call 110; go_must (refine (readByte_in r s (L + 1 + k + 1) hnx (by omega) _ (Rd.below HRd.out HBm.out HB.out)).mono ?_); rintro e w3 ⟨rfl, hr3, hf3⟩; have HR3' := Aside0.mk hr3; have HF3' := Aside0.mk hf3; clear hr3 hf3))
          go_roundg (gk - 1)
          case measure => have := HI.out; omega
          case rel =>
            have hB := HB.out
            exact ⟨k + 1, _, _, _, 48, true, rfl, rfl, rfl, rfl, rfl, rfl, ⟨by omega, by have := HI.out; omega, fun _ => rfl⟩, ⟨Or.inr rfl⟩, ⟨by rw [← HT.out]; exact HO2.out.fr HF3'.out (fun k hk => by omega)⟩, ⟨Or.inl ⟨hnx, rfl, rfl, HR3'.out⟩⟩, ⟨(HW.out.call (Fr.of_below2 HBm.out) (fun k hk => Or.inr hk)).trans HF3'.out⟩⟩
        · have hE2 := HW.out.cellv HF.out.1 (fun h => HF.out.2.1 h.symm)
          have HE2 := Aside0.mk hE2
          clear hE2
          go_wp2_with (first | ((with_reducible refine gate_builtin (b := .append) (xs := #[.tmp 68, .tmp 70]) rfl ?_); at_builtin; refine Lib.wpList_append_byte rfl (.tmp 68) (.tmp 70) 44 rfl w.heap.size 5 Tryz.t5 Tryz.underlying44 (by kernel_rfl) (by kernel_rfl) (by kernel_rfl) (by kernel_rfl) v10 _ _ rfl _ _ ch (HO.out.buf HW.out.size) rfl HL.out ?_; intro v' w2 hb2; obtain ⟨hn2, hb3⟩ := OB.grow HC.out hb2; have HO2 := Aside0.mk hn2; have HBm := Aside0.mk hb3; clear hn2 hb2 hb3) | (go_at_call 110; go_must (refine (readByte_end r s (L + 1 + k + 1) (by omega) _ (.iface te pe) (Rd.below HRd.out HBm.out HB.out) ((HBm.out.cell (p := ⟨1, 0, none⟩) (World.block_lt_of_cell? w _ HF.out.1)).trans HE2.out)).mono ?_); rintro e w3 ⟨rfl, hr3, hf3⟩; have HR3' := Aside0.mk hr3; have HF3' := Aside0.mk hf3; clear hr3 hf3))
          go_roundg (gk - 1)
          case measure => have := HI.out; omega
          case rel =>
            have hB := HB.out
            exact ⟨k + 1, _, _, _, 48, true, rfl, rfl, rfl, rfl, rfl, rfl, ⟨by omega, by have := HI.out; omega, fun _ => rfl⟩, ⟨Or.inr rfl⟩, ⟨by rw [← HT.out]; exact HO2.out.fr HF3'.out (fun k hk => by omega)⟩, ⟨Or.inr ⟨by omega, rfl, by have := HR3'.out; rwa [show L + 1 + k + 1 = s.size by omega] at this⟩⟩, ⟨(HW.out.call (Fr.of_below2 HBm.out) (fun k hk => Or.inr hk)).trans HF3'.out⟩⟩
      · obtain ⟨hke, rfl, hrd⟩ := HS.out.resolve_left (fun h => hk h.1)
        have HRd := Aside0.mk hrd
        have hkl : k = ds.length := by have := HF.out.2.2.2.2; omega
        have hd1 : hd = true := HI.out.2.2 (by omega)
        have hcv := HO.out.text (by rw [hkl, List.take_length]; intro h; have := congrArg List.length h; simp only [List.length_append, List.length_cons, List.length_nil] at this; omega)
        rw [hkl, List.take_length, HSS.out] at hcv
        have hprb : (pr == 95) = false := by rcases HPR.out with rfl | rfl <;> decide
        have hev := HW.out.cellv HF.out.1 (fun h => HF.out.2.1 h.symm)
        subst hd1
        clear hrd hkl hke
        go_wp2_with (go_at_call 43; go_must (refine (HP.out _).mono ?_); rintro e w4 ⟨rfl, hb4⟩; have HB4 := Aside0.mk hb4; clear hb4)
        exact bodyPost_ret (v := .tuple #[.int .i64 x, .int .i64 2, .nilIface]) (by simp [results, Tryz.results112, go_sem]) rfl ⟨rfl, Rd.below HRd.out HB4.out (Nat.lt_of_lt_of_le HB.out HW.out.size), HW.out.below HB4.out⟩

end Go.Proofs.YtgpoplfgngiilaaGreatDoor
namespace Go.Proofs.YtgpoplfgngiilaaGreatDoor
set_option linter.unusedVariables false
set_option linter.unusedSimpArgs false
open Go.RowKit Go.Proofs.YtgpoplfgngiilaaGreatDoorW.PrintWords
attribute [local go_sem] me_read me_unread

set_option maxHeartbeats 4000000 in
set_option maxRecDepth 1000000 in
theorem scanE_p (s : ByteArray) (r L : Nat) (x : Int) (te : TypeId) (pe : Value) (w : World) (hs2 : s.size ≤ 1000) (hL : L + 1 + 1 < s.size) (hc : (s[L]'(by omega)).toNat = 112 ∨ (s[L]'(by omega)).toNat = 80) (hsg : (s[L + 1]'(by omega)).toNat = 43) 
    (ds : List UInt8) (hds : ds = (s.extract (L + 1 + 1) s.size).data.toList) (hD : Dg ds) (hr : Rd w r s L) (hE : w.cell? ⟨1, 0, none⟩ = some (.iface te pe)) (hr1 : r ≠ 1)
    (hq : ∀ W, (binOp .eql 85 (.iface te pe) (.iface te pe)).run Tryz.prog W = .ok (.bool true) W)
    (hP : ∀ W, Calls Tryz.prog 43 #[.string (bstr ([] ++ ds)), .int .i64 10, .int .i64 64] W fun e w' => e = .returned (.tuple #[.int .i64 x, .nilIface]) ∧ Below W.heap.size W w') :
    Calls Tryz.prog 112 #[.iface 133 (.pointer (some ⟨r, 0, none⟩)), .bool true, .bool true] w fun e w' => e = .returned (.tuple #[.int .i64 x, .int .i64 2, .nilIface]) ∧ Rd w' r s s.size ∧ Fr (fun k => k = r) w w' := by
  have HR := Aside0.mk hr
  have HB := Aside0.mk (Rd.lt hr)
  have hcl : ds.length = s.size - (L + 1 + 1) := by rw [hds, Lib.size_eq]; simp [ByteArray.size_extract]
  have HF := Aside0.mk (And.intro hE (And.intro hr1 (And.intro hD (And.intro hds hcl))))
  obtain ⟨S, hS⟩ : ∃ S, bstr ([] ++ ds) = S := ⟨_, rfl⟩
  rw [hS] at hP
  have HP := Aside0.mk hP
  have HSS := Aside0.mk hS
  obtain ⟨q, H0⟩ : ∃ q : Int, ((s[L]'(by omega)).toNat : Int) = q := ⟨_, rfl⟩
  have hq2 : q = 112 ∨ q = 80 := by omega
  obtain ⟨j0, e0⟩ := ext_get s (L + 1 + 1) 0 (by omega) ds hds
  have H2 : ((s[L + 1]'(by omega)).toNat : Int) = 43 := by omega
  obtain ⟨d0, H1⟩ : ∃ d0 : Int, ((s[L + 1 + 1 + 0]'(by omega)).toNat : Int) = d0 := ⟨_, rfl⟩
  clear hsg
  clear hr hE hr1 hD hds hcl hP hc e0 hS
  rcases hq2 with rfl | rfl
  all_goals
    go_enter Tryz.func112, Tryz.ntmps112
    go_wp2_with (first | (go_at_call 110; (refine (readByte_in r s L (by omega) (by omega) _ HR.out).mono ?_); rintro e w1 ⟨rfl, hr1, hf1⟩; rw [H0]; have HR1 := Aside0.mk hr1; have HF1 := Aside0.mk hf1; clear hr1 hf1) | (go_at_call 110; (refine (readByte_in r s (L + 1) (by omega) (by omega) _ HR1.out).mono ?_); rintro e w2 ⟨rfl, hr2, hf2⟩; rw [H2]; have HR2 := Aside0.mk hr2; have HF2 := Aside0.mk (HF1.out.trans hf2); clear hr2 hf2) | (go_at_call 110; (refine (readByte_in r s (L + 1 + 1) hL (by omega) _ HR2.out).mono ?_); rintro e w3 ⟨rfl, hr3, hf3⟩; rw [show ((s[L + 1 + 1]'hL).toNat : Int) = d0 from H1]; have HR3 := Aside0.mk hr3; have HF3 := Aside0.mk (HF2.out.trans hf3); clear hr3 hf3))
    go_loopg [8, 9, 10, 11, 12, 13] (s.size - (L + 1 + 1)) (fun kq v8 v9 v10 v11 v12 v13 w' => ERel s r w.heap.size (L + 1 + 1) te pe [] ds w kq v8 v9 v10 v11 v12 v13 w')
    case atStart =>
      exact ⟨0, _, _, d0, 46, false, rfl, rfl, rfl, rfl, rfl, rfl, ⟨by omega, by omega, by omega⟩, ⟨Or.inl rfl⟩, ⟨World.ownsRowF_nil _ _ _ _⟩, ⟨Or.inl ⟨hL, rfl, H1.symm, HR3.out⟩⟩, ⟨HF3.out⟩⟩
    case round =>
      obtain ⟨k, er, v10, ch, pr, hd, rfl, rfl, rfl, rfl, rfl, rfl, HI, HPR, HO, HS, HW⟩ := hrel
      by_cases hk : L + 1 + 1 + k < s.size
      · obtain ⟨hj, hcj⟩ := ext_get s (L + 1 + 1) k hk ds HF.out.2.2.2.1
        obtain ⟨_, rfl, hch, hrd⟩ := HS.out.resolve_right (fun h => by omega)
        have HRd := Aside0.mk hrd
        have hdg := HF.out.2.2.1 _ (List.getElem_mem hj)
        rw [hcj] at hdg
        have h48 : 48 ≤ ch := by omega
        have h57 : ch ≤ 57 := by omega
        have hl0 : ds.length ≤ 1000 := by have := HF.out.2.2.2.2; omega
        have HT := Aside0.mk (show ([] ++ ds.take k) ++ [ds[k]'hj] = [] ++ ds.take (k + 1) by rw [List.append_assoc, List.take_add_one, List.getElem?_eq_getElem hj]; rfl)
        have HC := Aside0.mk (show ch = ((ds[k]'hj).toNat : Int) by rw [hch, hcj])
        have HL := Aside0.mk (show ([] ++ ds.take k).length + 1 ≤ 140737488355328 by simp; omega)
        clear hrd hdg hch hcj hl0
        by_cases hnx : L + 1 + 1 + k + 1 < s.size
        · go_wp2_with (first | ((with_reducible refine gate_builtin (b := .append) (xs := #[.tmp 68, .tmp 70]) rfl ?_); at_builtin; refine Lib.wpList_append_byte rfl (.tmp 68) (.tmp 70) 44 rfl w.heap.size 5 Tryz.t5 Tryz.underlying44 (by kernel_rfl) (by kernel_rfl) (by kernel_rfl) (by kernel_rfl) v10 _ _ rfl _ _ ch (HO.out.buf HW.out.size) rfl HL.out ?_; intro v' w2 hb2; obtain ⟨hn2, hb3⟩ := OB.grow HC.out hb2; have HO2 := Aside0.mk hn2; have HBm := Aside0.mk hb3; clear hn2 hb2 hb3) | (go_at_call 110; go_must (refine (readByte_in r s (L + 1 + 1 + k + 1) hnx (by omega) _ (Rd.below HRd.out HBm.out HB.out)).mono ?_); rintro e w3 ⟨rfl, hr3, hf3⟩; have HR3' := Aside0.mk hr3; have HF3' := Aside0.mk hf3; clear hr3 hf3))
          go_roundg (gk - 1)
          case measure => have := HI.out; omega
          case rel =>
            have hB := HB.out
            exact ⟨k + 1, _, _, _, 48, true, rfl, rfl, rfl, rfl, rfl, rfl, ⟨by omega, by have := HI.out; omega, fun _ => rfl⟩, ⟨Or.inr rfl⟩, ⟨by rw [← HT.out]; exact HO2.out.fr HF3'.out (fun k hk => by omega)⟩, ⟨Or.inl ⟨hnx, rfl, rfl, HR3'.out⟩⟩, ⟨(HW.out.call (Fr.of_below2 HBm.out) (fun k hk => Or.inr hk)).trans HF3'.out⟩⟩
        · have hE2 := HW.out.cellv HF.out.1 (fun h => HF.out.2.1 h.symm)
          have HE2 := Aside0.mk hE2
          clear hE2
          go_wp2_with (first | ((with_reducible refine gate_builtin (b := .append) (xs := #[.tmp 68, .tmp 70]) rfl ?_); at_builtin; refine Lib.wpList_append_byte rfl (.tmp 68) (.tmp 70) 44 rfl w.heap.size 5 Tryz.t5 Tryz.underlying44 (by kernel_rfl) (by kernel_rfl) (by kernel_rfl) (by kernel_rfl) v10 _ _ rfl _ _ ch (HO.out.buf HW.out.size) rfl HL.out ?_; intro v' w2 hb2; obtain ⟨hn2, hb3⟩ := OB.grow HC.out hb2; have HO2 := Aside0.mk hn2; have HBm := Aside0.mk hb3; clear hn2 hb2 hb3) | (go_at_call 110; go_must (refine (readByte_end r s (L + 1 + 1 + k + 1) (by omega) _ (.iface te pe) (Rd.below HRd.out HBm.out HB.out) ((HBm.out.cell (p := ⟨1, 0, none⟩) (World.block_lt_of_cell? w _ HF.out.1)).trans HE2.out)).mono ?_); rintro e w3 ⟨rfl, hr3, hf3⟩; have HR3' := Aside0.mk hr3; have HF3' := Aside0.mk hf3; clear hr3 hf3))
          go_roundg (gk - 1)
          case measure => have := HI.out; omega
          case rel =>
            have hB := HB.out
            exact ⟨k + 1, _, _, _, 48, true, rfl, rfl, rfl, rfl, rfl, rfl, ⟨by omega, by have := HI.out; omega, fun _ => rfl⟩, ⟨Or.inr rfl⟩, ⟨by rw [← HT.out]; exact HO2.out.fr HF3'.out (fun k hk => by omega)⟩, ⟨Or.inr ⟨by omega, rfl, by have := HR3'.out; rwa [show L + 1 + 1 + k + 1 = s.size by omega] at this⟩⟩, ⟨(HW.out.call (Fr.of_below2 HBm.out) (fun k hk => Or.inr hk)).trans HF3'.out⟩⟩
      · obtain ⟨hke, rfl, hrd⟩ := HS.out.resolve_left (fun h => hk h.1)
        have HRd := Aside0.mk hrd
        have hkl : k = ds.length := by have := HF.out.2.2.2.2; omega
        have hd1 : hd = true := HI.out.2.2 (by omega)
        have hcv := HO.out.text (by rw [hkl, List.take_length]; intro h; have := congrArg List.length h; simp only [List.length_append, List.length_cons, List.length_nil] at this; omega)
        rw [hkl, List.take_length, HSS.out] at hcv
        have hprb : (pr == 95) = false := by rcases HPR.out with rfl | rfl <;> decide
        have hev := HW.out.cellv HF.out.1 (fun h => HF.out.2.1 h.symm)
        subst hd1
        clear hrd hkl hke
        go_wp2_with (go_at_call 43; go_must (refine (HP.out _).mono ?_); rintro e w4 ⟨rfl, hb4⟩; have HB4 := Aside0.mk hb4; clear hb4)
        exact bodyPost_ret (v := .tuple #[.int .i64 x, .int .i64 2, .nilIface]) (by simp [results, Tryz.results112, go_sem]) rfl ⟨rfl, Rd.below HRd.out HB4.out (Nat.lt_of_lt_of_le HB.out HW.out.size), HW.out.below HB4.out⟩

end Go.Proofs.YtgpoplfgngiilaaGreatDoor
namespace Go.Proofs.YtgpoplfgngiilaaGreatDoor
set_option linter.unusedVariables false
set_option linter.unusedSimpArgs false
open Go.RowKit Go.Proofs.YtgpoplfgngiilaaGreatDoorW.PrintWords
attribute [local go_sem] me_read me_unread

set_option maxHeartbeats 4000000 in
set_option maxRecDepth 1000000 in
theorem scanE_m (s : ByteArray) (r L : Nat) (x : Int) (te : TypeId) (pe : Value) (w : World) (hs2 : s.size ≤ 1000) (hL : L + 1 + 1 < s.size) (hc : (s[L]'(by omega)).toNat = 112 ∨ (s[L]'(by omega)).toNat = 80) (hsg : (s[L + 1]'(by omega)).toNat = 45) 
    (ds : List UInt8) (hds : ds = (s.extract (L + 1 + 1) s.size).data.toList) (hD : Dg ds) (hr : Rd w r s L) (hE : w.cell? ⟨1, 0, none⟩ = some (.iface te pe)) (hr1 : r ≠ 1)
    (hq : ∀ W, (binOp .eql 85 (.iface te pe) (.iface te pe)).run Tryz.prog W = .ok (.bool true) W)
    (hP : ∀ W, Calls Tryz.prog 43 #[.string (bstr ([45] ++ ds)), .int .i64 10, .int .i64 64] W fun e w' => e = .returned (.tuple #[.int .i64 x, .nilIface]) ∧ Below W.heap.size W w') :
    Calls Tryz.prog 112 #[.iface 133 (.pointer (some ⟨r, 0, none⟩)), .bool true, .bool true] w fun e w' => e = .returned (.tuple #[.int .i64 x, .int .i64 2, .nilIface]) ∧ Rd w' r s s.size ∧ Fr (fun k => k = r) w w' := by
  have HR := Aside0.mk hr
  have HB := Aside0.mk (Rd.lt hr)
  have hcl : ds.length = s.size - (L + 1 + 1) := by rw [hds, Lib.size_eq]; simp [ByteArray.size_extract]
  have HF := Aside0.mk (And.intro hE (And.intro hr1 (And.intro hD (And.intro hds hcl))))
  obtain ⟨S, hS⟩ : ∃ S, bstr ([45] ++ ds) = S := ⟨_, rfl⟩
  rw [hS] at hP
  have HP := Aside0.mk hP
  have HSS := Aside0.mk hS
  obtain ⟨q, H0⟩ : ∃ q : Int, ((s[L]'(by omega)).toNat : Int) = q := ⟨_, rfl⟩
  have hq2 : q = 112 ∨ q = 80 := by omega
  obtain ⟨j0, e0⟩ := ext_get s (L + 1 + 1) 0 (by omega) ds hds
  have H2 : ((s[L + 1]'(by omega)).toNat : Int) = 45 := by omega
  obtain ⟨d0, H1⟩ : ∃ d0 : Int, ((s[L + 1 + 1 + 0]'(by omega)).toNat : Int) = d0 := ⟨_, rfl⟩
  clear hsg
  clear hr hE hr1 hD hds hcl hP hc e0 hS
  rcases hq2 with rfl | rfl
  all_goals
    go_enter Tryz.func112, Tryz.ntmps112
    go_wp2_with (first | (go_at_call 110; (refine (readByte_in r s L (by omega) (by omega) _ HR.out).mono ?_); rintro e w1 ⟨rfl, hr1, hf1⟩; rw [H0]; have HR1 := Aside0.mk hr1; have HF1 := Aside0.mk hf1; clear hr1 hf1) | (go_at_call 110; (refine (readByte_in r s (L + 1) (by omega) (by omega) _ HR1.out).mono ?_); rintro e w2 ⟨rfl, hr2, hf2⟩; rw [H2]; have HR2 := Aside0.mk hr2; have HF2 := Aside0.mk (HF1.out.trans hf2); clear hr2 hf2) | ((with_reducible refine gate_builtin (b := .append) (xs := #[.tmp 52, .tmp 53]) rfl ?_); at_builtin; refine Lib.wpList_append_byte rfl (.tmp 52) (.tmp 53) 44 rfl w.heap.size 5 Tryz.t5 Tryz.underlying44 (by kernel_rfl) (by kernel_rfl) (by kernel_rfl) (by kernel_rfl) (.slice none 0 0) _ _ rfl _ _ 45 (OB.buf (l := []) (World.ownsRowF_nil _ _ _ _) HF2.out.size) rfl (by decide) ?_; intro vm wm hbm; obtain ⟨hnm, hbm3⟩ := OB.grow (l := []) (c := 45) rfl hbm; have HOM := Aside0.mk hnm; have HBM := Aside0.mk hbm3; clear hnm hbm hbm3) | (go_at_call 110; (refine (readByte_in r s (L + 1 + 1) hL (by omega) _ (Rd.below HR2.out HBM.out HB.out)).mono ?_); rintro e w3 ⟨rfl, hr3, hf3⟩; rw [show ((s[L + 1 + 1]'hL).toNat : Int) = d0 from H1]; have HR3 := Aside0.mk hr3; have HF3 := Aside0.mk ((HF2.out.call (Fr.of_below2 HBM.out) (fun k hk => Or.inr hk)).trans hf3); have HO3 := Aside0.mk (HOM.out.fr hf3 (fun k hk => by rw [hk]; exact HB.out)); clear hr3 hf3))
    go_loopg [8, 9, 10, 11, 12, 13] (s.size - (L + 1 + 1)) (fun kq v8 v9 v10 v11 v12 v13 w' => ERel s r w.heap.size (L + 1 + 1) te pe [45] ds w kq v8 v9 v10 v11 v12 v13 w')
    case atStart =>
      exact ⟨0, _, _, d0, 46, false, rfl, rfl, rfl, rfl, rfl, rfl, ⟨by omega, by omega, by omega⟩, ⟨Or.inl rfl⟩, ⟨HO3.out⟩, ⟨Or.inl ⟨hL, rfl, H1.symm, HR3.out⟩⟩, ⟨HF3.out⟩⟩
    case round =>
      obtain ⟨k, er, v10, ch, pr, hd, rfl, rfl, rfl, rfl, rfl, rfl, HI, HPR, HO, HS, HW⟩ := hrel
      by_cases hk : L + 1 + 1 + k < s.size
      · obtain ⟨hj, hcj⟩ := ext_get s (L + 1 + 1) k hk ds HF.out.2.2.2.1
        obtain ⟨_, rfl, hch, hrd⟩ := HS.out.resolve_right (fun h => by omega)
        have HRd := Aside0.mk hrd
        have hdg := HF.out.2.2.1 _ (List.getElem_mem hj)
        rw [hcj] at hdg
        have h48 : 48 ≤ ch := by omega
        have h57 : ch ≤ 57 := by omega
        have hl0 : ds.length ≤ 1000 := by have := HF.out.2.2.2.2; omega
        have HT := Aside0.mk (show ([45] ++ ds.take k) ++ [ds[k]'hj] = [45] ++ ds.take (k + 1) by rw [List.append_assoc, List.take_add_one, List.getElem?_eq_getElem hj]; rfl)
        have HC := Aside0.mk (show ch = ((ds[k]'hj).toNat : Int) by rw [hch, hcj])
        have HL := Aside0.mk (show ([45] ++ ds.take k).length + 1 ≤ 140737488355328 by simp; omega)
        clear hrd hdg hch hcj hl0
        by_cases hnx : L + 1 + 1 + k + 1 < s.size
        · go_wp2_with (first | ((with_reducible refine gate_builtin (b := .append) (xs := #[.tmp 68, .tmp 70]) rfl ?_); at_builtin; refine Lib.wpList_append_byte rfl (.tmp 68) (.tmp 70) 44 rfl w.heap.size 5 Tryz.t5 Tryz.underlying44 (by kernel_rfl) (by kernel_rfl) (by kernel_rfl) (by kernel_rfl) v10 _ _ rfl _ _ ch (HO.out.buf HW.out.size) rfl HL.out ?_; intro v' w2 hb2; obtain ⟨hn2, hb3⟩ := OB.grow HC.out hb2; have HO2 := Aside0.mk hn2; have HBm := Aside0.mk hb3; clear hn2 hb2 hb3) | (go_at_call 110; go_must (refine (readByte_in r s (L + 1 + 1 + k + 1) hnx (by omega) _ (Rd.below HRd.out HBm.out HB.out)).mono ?_); rintro e w3 ⟨rfl, hr3, hf3⟩; have HR3' := Aside0.mk hr3; have HF3' := Aside0.mk hf3; clear hr3 hf3))
          go_roundg (gk - 1)
          case measure => have := HI.out; omega
          case rel =>
            have hB := HB.out
            exact ⟨k + 1, _, _, _, 48, true, rfl, rfl, rfl, rfl, rfl, rfl, ⟨by omega, by have := HI.out; omega, fun _ => rfl⟩, ⟨Or.inr rfl⟩, ⟨by rw [← HT.out]; exact HO2.out.fr HF3'.out (fun k hk => by omega)⟩, ⟨Or.inl ⟨hnx, rfl, rfl, HR3'.out⟩⟩, ⟨(HW.out.call (Fr.of_below2 HBm.out) (fun k hk => Or.inr hk)).trans HF3'.out⟩⟩
        · have hE2 := HW.out.cellv HF.out.1 (fun h => HF.out.2.1 h.symm)
          have HE2 := Aside0.mk hE2
          clear hE2
          go_wp2_with (first | ((with_reducible refine gate_builtin (b := .append) (xs := #[.tmp 68, .tmp 70]) rfl ?_); at_builtin; refine Lib.wpList_append_byte rfl (.tmp 68) (.tmp 70) 44 rfl w.heap.size 5 Tryz.t5 Tryz.underlying44 (by kernel_rfl) (by kernel_rfl) (by kernel_rfl) (by kernel_rfl) v10 _ _ rfl _ _ ch (HO.out.buf HW.out.size) rfl HL.out ?_; intro v' w2 hb2; obtain ⟨hn2, hb3⟩ := OB.grow HC.out hb2; have HO2 := Aside0.mk hn2; have HBm := Aside0.mk hb3; clear hn2 hb2 hb3) | (go_at_call 110; go_must (refine (readByte_end r s (L + 1 + 1 + k + 1) (by omega) _ (.iface te pe) (Rd.below HRd.out HBm.out HB.out) ((HBm.out.cell (p := ⟨1, 0, none⟩) (World.block_lt_of_cell? w _ HF.out.1)).trans HE2.out)).mono ?_); rintro e w3 ⟨rfl, hr3, hf3⟩; have HR3' := Aside0.mk hr3; have HF3' := Aside0.mk hf3; clear hr3 hf3))
          go_roundg (gk - 1)
          case measure => have := HI.out; omega
          case rel =>
            have hB := HB.out
            exact ⟨k + 1, _, _, _, 48, true, rfl, rfl, rfl, rfl, rfl, rfl, ⟨by omega, by have := HI.out; omega, fun _ => rfl⟩, ⟨Or.inr rfl⟩, ⟨by rw [← HT.out]; exact HO2.out.fr HF3'.out (fun k hk => by omega)⟩, ⟨Or.inr ⟨by omega, rfl, by have := HR3'.out; rwa [show L + 1 + 1 + k + 1 = s.size by omega] at this⟩⟩, ⟨(HW.out.call (Fr.of_below2 HBm.out) (fun k hk => Or.inr hk)).trans HF3'.out⟩⟩
      · obtain ⟨hke, rfl, hrd⟩ := HS.out.resolve_left (fun h => hk h.1)
        have HRd := Aside0.mk hrd
        have hkl : k = ds.length := by have := HF.out.2.2.2.2; omega
        have hd1 : hd = true := HI.out.2.2 (by omega)
        have hcv := HO.out.text (by rw [hkl, List.take_length]; intro h; have := congrArg List.length h; simp only [List.length_append, List.length_cons, List.length_nil] at this; omega)
        rw [hkl, List.take_length, HSS.out] at hcv
        have hprb : (pr == 95) = false := by rcases HPR.out with rfl | rfl <;> decide
        have hev := HW.out.cellv HF.out.1 (fun h => HF.out.2.1 h.symm)
        subst hd1
        clear hrd hkl hke
        go_wp2_with (go_at_call 43; go_must (refine (HP.out _).mono ?_); rintro e w4 ⟨rfl, hb4⟩; have HB4 := Aside0.mk hb4; clear hb4)
        exact bodyPost_ret (v := .tuple #[.int .i64 x, .int .i64 2, .nilIface]) (by simp [results, Tryz.results112, go_sem]) rfl ⟨rfl, Rd.below HRd.out HB4.out (Nat.lt_of_lt_of_le HB.out HW.out.size), HW.out.below HB4.out⟩

end Go.Proofs.YtgpoplfgngiilaaGreatDoor
