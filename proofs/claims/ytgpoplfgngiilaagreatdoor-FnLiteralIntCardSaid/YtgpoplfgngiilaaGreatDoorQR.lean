/- FnLiteralInt returns true at every argument. -/
import Derived.Test.YtgpoplfgngiilaaGreatDoorQL1
import Derived.Test.YtgpoplfgngiilaaGreatDoorQL2
import Derived.Test.YtgpoplfgngiilaaGreatDoorChecked
import Derived.Test.YtgpoplfgngiilaaGreatDoorRows
import Derived.Lay
import Derived.ProofKit
import Derived.OpenShut
import Derived.OpenVars
import Derived.LaidLaws
import Derived.LaidEql
import Derived.SevenTiedAt
set_option linter.unusedVariables false
set_option linter.unusedSimpArgs false
namespace Go.Proofs.YtgpoplfgngiilaaGreatDoor
open Go.RowKit Go.Proofs.YtgpoplfgngiilaaGreatDoorW.PrintWords Go.Proofs.YtgpoplfgngiilaaGreatDoorW.PrintLast Go.Proofs.YtgpoplfgngiilaaGreatDoorW.PrintMore

theorem text_10 (great split : Bool) (V : Nat) (te : TypeId) (pe : Value) (hV : V < 18446744073709551616 ^ 10) (hq : ∀ W, (binOp .eql 85 (.iface te pe) (.iface te pe)).run Tryz.prog W = .ok (.bool true) W) :
    IntText (bstr ([] ++ us split (txt great 10 V))) V te pe := by
  rcases Nat.eq_zero_or_pos V with rfl | h
  · have e : us split (txt great 10 0) = [48] := by cases split <;> rfl
    rw [e]
    exact intText_zero te pe
  · exact intText_10 _ V te pe (figs_ok great split 10 V (by decide) (by decide) hV) h hV hq

theorem int_any (kind : Int) (a1 : Bool) (a2 : ByteArray) (a3 : Bool) (A : Option Addr) (ws : List Int) (c : Nat) (A5 : Option Addr) (ds : List Int) (c5 : Nat) (a6 : Bool) (A7 : Option Addr) (l7 : List Int) (c7 : Nat) (A8 : Option Addr) (l8 : List Int) (c8 : Nat) (form : Int) (great split : Bool) (w : World) (te : TypeId) (pe ev : Value)
    (hr : Kd.C (Kd.int .u64) w A ws.length ws) (hc : ws.length ≤ c) (hr5 : Kd.C (Kd.int .u64) w A5 ds.length ds) (hc5 : ds.length ≤ c5) (hr7 : Kd.C (Kd.int .u64) w A7 l7.length l7) (hc7 : l7.length ≤ c7) (hr8 : Kd.C (Kd.int .u64) w A8 l8.length l8) (hc8 : l8.length ≤ c8)
    (hR : InR 18446744073709551616 ws) (hf0 : 0 ≤ form) (hf1 : form ≤ 255) (hE : Errs w te pe ev) (hq : ∀ W, (binOp .eql 85 (.iface te pe) (.iface te pe)).run Tryz.prog W = .ok (.bool true) W) :
    Calls Tryz.prog 3 #[.agg #[.int .i64 kind, .bool a1, .string a2, .bool a3, .slice A ws.length c, .slice A5 ds.length c5, .bool a6, .slice A7 l7.length c7, .slice A8 l8.length c8], .int .u8 form, .bool great, .bool split] w fun e w' => e = .returned (.bool true) ∧ Below w.heap.size w w' := by
  obtain ⟨fits, hfits⟩ := fits_some kind a1 a2 a3 ws ds a6 l7 l8
  have hF : ∀ W, Below w.heap.size w W → Calls Tryz.prog 6 #[.agg #[.int .i64 kind, .bool a1, .string a2, .bool a3, .slice A ws.length c, .slice A5 ds.length c5, .bool a6, .slice A7 l7.length c7, .slice A8 l8.length c8]] W fun e w' => e = .returned (.bool fits) ∧ Below W.heap.size W w' := fun W hB =>
    Pr.laws_zzFits1.calls kind a1 a2 a3 A c ws A5 c5 ds a6 A7 c7 l7 A8 c8 l8 fits W (Kd.C_below hr hB) hc (Kd.C_below hr5 hB) hc5 (Kd.C_below hr7 hB) hc7 (Kd.C_below hr8 hB) hc8 hfits
  rcases whole_dich kind a1 a2 a3 A ws c A5 ds c5 a6 A7 l7 c7 A8 l8 c8 w hr hc hr5 hc5 hr7 hc7 hr8 hc8 hR with ⟨nb, ok, l, hs, hW⟩ | ⟨V, hV, hW⟩
  · exact int_skip fits nb ok l (fun _ => hs) kind a1 a2 a3 A _ c A5 _ c5 a6 A7 _ c7 A8 _ c8 form great split w hF hW
  · cases fits with
    | false => exact int_skip false false true _ (fun h => by cases h) kind a1 a2 a3 A _ c A5 _ c5 a6 A7 _ c7 A8 _ c8 form great split w hF hW
    | true =>
      have h8 : form % 8 = 0 ∨ form % 8 = 1 ∨ form % 8 = 2 ∨ form % 8 = 3 ∨ form % 8 = 4 ∨ form % 8 = 5 ∨ form % 8 = 6 ∨ form % 8 = 7 := by omega
      rcases h8 with hf | hf | hf | hf | hf | hf | hf | hf
      · exact int_0 V hV te pe ev kind a1 a2 a3 A _ c A5 _ c5 a6 A7 _ c7 A8 _ c8 form great split w hf0 hf1 hf hE (text_10 great split V te pe hV hq) hF hW
      · exact int_1 V hV te pe ev kind a1 a2 a3 A _ c A5 _ c5 a6 A7 _ c7 A8 _ c8 form great split w hf0 hf1 hf hE (intText_x _ V te pe (figs_ok great split 16 V (by decide) (by decide) hV) hV hq) hF hW
      · exact int_2 V hV te pe ev kind a1 a2 a3 A _ c A5 _ c5 a6 A7 _ c7 A8 _ c8 form great split w hf0 hf1 hf hE (intText_X _ V te pe (figs_ok great split 16 V (by decide) (by decide) hV) hV hq) hF hW
      · exact int_3 V hV te pe ev kind a1 a2 a3 A _ c A5 _ c5 a6 A7 _ c7 A8 _ c8 form great split w hf0 hf1 hf hE (intText_b _ V te pe (figs_ok great split 2 V (by decide) (by decide) hV) hV hq) hF hW
      · exact int_4 V hV te pe ev kind a1 a2 a3 A _ c A5 _ c5 a6 A7 _ c7 A8 _ c8 form great split w hf0 hf1 hf hE (intText_B _ V te pe (figs_ok great split 2 V (by decide) (by decide) hV) hV hq) hF hW
      · exact int_5 V hV te pe ev kind a1 a2 a3 A _ c A5 _ c5 a6 A7 _ c7 A8 _ c8 form great split w hf0 hf1 hf hE (intText_o _ V te pe (figs_ok great split 8 V (by decide) (by decide) hV) hV hq) hF hW
      · exact int_6 V hV te pe ev kind a1 a2 a3 A _ c A5 _ c5 a6 A7 _ c7 A8 _ c8 form great split w hf0 hf1 hf hE (intText_O _ V te pe (figs_ok great split 8 V (by decide) (by decide) hV) hV hq) hF hW
      · exact int_7 V hV te pe ev kind a1 a2 a3 A _ c A5 _ c5 a6 A7 _ c7 A8 _ c8 form great split w hf0 hf1 hf hE (intText_0 _ V te pe (figs_ok great split 8 V (by decide) (by decide) hV) hV hq) hF hW
end Go.Proofs.YtgpoplfgngiilaaGreatDoor
/- The value that FnLiteralInt is handed, opened. -/
namespace Go.Proofs.YtgpoplfgngiilaaGreatDoor
open Go Go.RowKit Go.Shelf Go.Lib Go.ChangeShapes Go.WideShapes Go.ChangeAt Go.Proofs.YtgpoplfgngiilaaGreatDoorW.PrintWords
set_option maxRecDepth 1000000

theorem array9 {α : Type} {cs : Array α} (h : cs.size = 9) : ∃ c0 c1 c2 c3 c4 c5 c6 c7 c8, cs = #[c0, c1, c2, c3, c4, c5, c6, c7, c8] := by
  obtain ⟨l⟩ := cs
  match l, h with
  | [c0, c1, c2, c3, c4, c5, c6, c7, c8], _ => exact ⟨c0, c1, c2, c3, c4, c5, c6, c7, c8, rfl⟩

theorem cells3 : Tryz.prog.cellsOf 3 = 1 := by kernel_rfl
theorem cells4 : Tryz.prog.cellsOf 4 = 1 := by kernel_rfl
theorem cells9 : Tryz.prog.cellsOf 9 = 1 := by kernel_rfl
theorem cells22 : Tryz.prog.cellsOf 22 = 1 := by kernel_rfl
theorem cells24 : Tryz.prog.cellsOf 24 = 2 := by kernel_rfl
theorem cells26 : Tryz.prog.cellsOf 26 = 9 := by kernel_rfl
theorem cells50 : Tryz.prog.cellsOf 50 = 1 := by kernel_rfl

theorem open_words {H : Type} {enc : TypeId × Value → H} {W : World} {sp : Nat → Bool} {held : Bool} {n : Nat} {cs : List Value} {x : DataW H × List MemPlace} (h : DataW.trod enc Tryz.prog W 0 sp held n 22 cs = some x) :
    ∃ A ws c, cs = [.slice A ws.length c] ∧ ws.length ≤ c ∧ Kd.C (Kd.int .u64) W A ws.length ws ∧ InR 18446744073709551616 ws := by
  rcases open_ints Tryz.underlying22 Tryz.underlying50 cells50 h with ⟨rfl, _⟩ | ⟨a, len, cap, zs, rfl, _, hl, hm, hz, _, hc, hw⟩
  · exact ⟨none, [], 0, rfl, Nat.le_refl _, C_nil none, fun _ h => by cases h⟩
  · have hlz : len ≤ zs.length := by rw [hz]; split <;> omega
    have hlen : (zs.take len).length = len := by rw [List.length_take]; omega
    have hml : maxLen = 9223372036854775807 := rfl
    refine ⟨some a, zs.take len, cap, by rw [hlen], by omega, Kd.C_of_reads (d := 0) ⟨rfl, by omega, fun _ => ⟨a, rfl, fun j hj => ?_⟩⟩, fun z hz' => ?_⟩
    · rw [hc j (by omega)]
      simp [List.getD, List.getElem?_take, show j < len by omega]
    · have := bounds_u64 (hw z (List.mem_of_mem_take hz'))
      omega

theorem open_value {H : Type} {enc : TypeId × Value → H} {W : World} {sp : Nat → Bool} {held : Bool} {r : Reach} {b0 : Nat} {v : Value} {d : DataW H} {p : List MemPlace} (hval : Value.okWide Tryz.prog W r b0 26 v) (h : DataW.Trod enc Tryz.prog W 0 sp held 26 v d p) :
    ∃ (kind : Int) (a1 : Bool) (a2 : ByteArray) (a3 : Bool) (A : Option Addr) (ws : List Int) (c : Nat) (A5 : Option Addr) (ds : List Int) (c5 : Nat) (a6 : Bool) (A7 : Option Addr) (l7 : List Int) (c7 : Nat) (A8 : Option Addr) (l8 : List Int) (c8 : Nat),
      v = .agg #[.int .i64 kind, .bool a1, .string a2, .bool a3, .slice A ws.length c, .slice A5 ds.length c5, .bool a6, .slice A7 l7.length c7, .slice A8 l8.length c8] ∧
      Kd.C (Kd.int .u64) W A ws.length ws ∧ ws.length ≤ c ∧ Kd.C (Kd.int .u64) W A5 ds.length ds ∧ ds.length ≤ c5 ∧ Kd.C (Kd.int .u64) W A7 l7.length l7 ∧ l7.length ≤ c7 ∧ Kd.C (Kd.int .u64) W A8 l8.length l8 ∧ l8.length ≤ c8 ∧ InR 18446744073709551616 ws := by
  obtain ⟨cs, rfl, hsz⟩ := okWide_struct Tryz.underlying26 hval
  obtain ⟨c0, c1, c2, c3, c4, c5, c6, c7, c8, rfl⟩ := array9 (hsz.trans cells26)
  obtain ⟨fuel, hf⟩ := h
  obtain ⟨xs, n, _, _, _, hlen, hfs⟩ := DataW.trod_struct Tryz.underlying26 hf
  match xs, hlen with
  | [y0, y1, y2, y3, y4, y5, y6], _ =>
    have g0 : DataW.trod enc Tryz.prog W 0 sp held n 3 ((([c0, c1, c2, c3, c4, c5, c6, c7, c8] : List Value).drop 0).take (Tryz.prog.cellsOf 3)) = some y0 := hfs 0 _ rfl
    rw [cells3] at g0
    have g1 : DataW.trod enc Tryz.prog W 0 sp held n 4 ((([c0, c1, c2, c3, c4, c5, c6, c7, c8] : List Value).drop 1).take (Tryz.prog.cellsOf 4)) = some y1 := hfs 1 _ rfl
    rw [cells4] at g1
    have g2 : DataW.trod enc Tryz.prog W 0 sp held n 9 ((([c0, c1, c2, c3, c4, c5, c6, c7, c8] : List Value).drop 2).take (Tryz.prog.cellsOf 9)) = some y2 := hfs 2 _ rfl
    rw [cells9] at g2
    have g3 : DataW.trod enc Tryz.prog W 0 sp held n 24 ((([c0, c1, c2, c3, c4, c5, c6, c7, c8] : List Value).drop 3).take (Tryz.prog.cellsOf 24)) = some y3 := hfs 3 _ rfl
    rw [cells24] at g3
    have g4 : DataW.trod enc Tryz.prog W 0 sp held n 22 ((([c0, c1, c2, c3, c4, c5, c6, c7, c8] : List Value).drop 5).take (Tryz.prog.cellsOf 22)) = some y4 := hfs 4 _ rfl
    rw [cells22] at g4
    have g5 : DataW.trod enc Tryz.prog W 0 sp held n 24 ((([c0, c1, c2, c3, c4, c5, c6, c7, c8] : List Value).drop 6).take (Tryz.prog.cellsOf 24)) = some y5 := hfs 5 _ rfl
    rw [cells24] at g5
    have g6 : DataW.trod enc Tryz.prog W 0 sp held n 22 ((([c0, c1, c2, c3, c4, c5, c6, c7, c8] : List Value).drop 8).take (Tryz.prog.cellsOf 22)) = some y6 := hfs 6 _ rfl
    rw [cells22] at g6
    clear hfs hf
    replace g0 : DataW.trod enc Tryz.prog W 0 sp held n 3 [c0] = some y0 := g0
    replace g1 : DataW.trod enc Tryz.prog W 0 sp held n 4 [c1] = some y1 := g1
    replace g2 : DataW.trod enc Tryz.prog W 0 sp held n 9 [c2] = some y2 := g2
    replace g3 : DataW.trod enc Tryz.prog W 0 sp held n 24 [c3, c4] = some y3 := g3
    replace g4 : DataW.trod enc Tryz.prog W 0 sp held n 22 [c5] = some y4 := g4
    replace g5 : DataW.trod enc Tryz.prog W 0 sp held n 24 [c6, c7] = some y5 := g5
    replace g6 : DataW.trod enc Tryz.prog W 0 sp held n 22 [c8] = some y6 := g6
    obtain ⟨kind, e0, _⟩ := DataW.trod_int Tryz.underlying3 g0
    obtain ⟨a1, e1, _⟩ := DataW.trod_bool Tryz.underlying4 g1
    obtain ⟨a2, e2, _⟩ := DataW.trod_string Tryz.underlying9 g2
    obtain ⟨z0, z1, n3, _, _, k0, k1⟩ := trod_struct2 Tryz.underlying24 g3
    obtain ⟨z2, z3, n5, _, _, k2, k3⟩ := trod_struct2 Tryz.underlying24 g5
    replace k0 : DataW.trod enc Tryz.prog W 0 sp held n3 4 ((([c3, c4] : List Value).drop 0).take (Tryz.prog.cellsOf 4)) = some z0 := k0
    rw [cells4] at k0
    replace k0 : DataW.trod enc Tryz.prog W 0 sp held n3 4 [c3] = some z0 := k0
    replace k1 : DataW.trod enc Tryz.prog W 0 sp held n3 22 ((([c3, c4] : List Value).drop 1).take (Tryz.prog.cellsOf 22)) = some z1 := k1
    rw [cells22] at k1
    replace k1 : DataW.trod enc Tryz.prog W 0 sp held n3 22 [c4] = some z1 := k1
    replace k2 : DataW.trod enc Tryz.prog W 0 sp held n5 4 ((([c6, c7] : List Value).drop 0).take (Tryz.prog.cellsOf 4)) = some z2 := k2
    rw [cells4] at k2
    replace k2 : DataW.trod enc Tryz.prog W 0 sp held n5 4 [c6] = some z2 := k2
    replace k3 : DataW.trod enc Tryz.prog W 0 sp held n5 22 ((([c6, c7] : List Value).drop 1).take (Tryz.prog.cellsOf 22)) = some z3 := k3
    rw [cells22] at k3
    replace k3 : DataW.trod enc Tryz.prog W 0 sp held n5 22 [c7] = some z3 := k3
    obtain ⟨a3, e3, _⟩ := DataW.trod_bool Tryz.underlying4 k0
    obtain ⟨a6, e6, _⟩ := DataW.trod_bool Tryz.underlying4 k2
    obtain ⟨A, ws, q4, e4, h4, C4, R4⟩ := open_words k1
    obtain ⟨A5, ds, q5, e5, h5, C5, _⟩ := open_words g4
    obtain ⟨A7, l7, q7, e7, h7, C7, _⟩ := open_words k3
    obtain ⟨A8, l8, q8, e8, h8, C8, _⟩ := open_words g6
    simp only [List.cons.injEq, and_true] at e0 e1 e2 e3 e4 e5 e6 e7 e8
    subst e0 e1 e2 e3 e4 e5 e6 e7 e8
    exact ⟨kind, a1, a2, a3, A, ws, q4, A5, ds, q5, a6, A7, l7, q7, A8, l8, q8, rfl, C4, h4, C5, h5, C7, h7, C8, h8, R4⟩
end Go.Proofs.YtgpoplfgngiilaaGreatDoor
/- io.EOF and strconv.ErrRange out of the row's laid data. -/
namespace Go.Proofs.YtgpoplfgngiilaaGreatDoor
open Go Go.RowKit Go.Shelf Go.Lib Go.ChangeShapes Go.WideShapes Go.ChangeAt Go.Proofs.YtgpoplfgngiilaaGreatDoorW.PrintWords
set_option maxRecDepth 1000000

theorem laid_at {P : Program} {w : World} : ∀ {l : List (String × DataW Unit)} {ps : List MemPlace}, DataW.LaidVars P w l ps → ∀ n d, (n, d) ∈ l →
    ∃ g t cs fuel p, P.globalNamed n = some g ∧ (P.globals[g]?).map (·.type) = some t ∧ w.var? P n = some cs ∧ DataW.trod (fun _ => ()) P w 0 (fun _ => true) false fuel t cs.toList = some (d, p) ∧ ∀ i, i < cs.size → MemPlace.cell g i ∈ ps
  | [], _, _, _, _, hm => by cases hm
  | (n', d') :: r, ps, h, n, d, hm => by
    obtain ⟨g, t, cs, fuel, p, q, h1, h2, h3, h4, h5, rfl⟩ := h
    rcases List.mem_cons.1 hm with e | e
    · cases e
      refine ⟨g, t, cs, fuel, p, h1, h2, h3, h4, fun i hi => ?_⟩
      refine List.mem_append_left _ (List.mem_append_left _ ?_)
      exact List.mem_map.2 ⟨i, List.mem_range.2 hi, by simp⟩
    · obtain ⟨g', t', cs', fuel', p', k1, k2, k3, k4, k5⟩ := laid_at h5 n d e
      exact ⟨g', t', cs', fuel', p', k1, k2, k3, k4, fun i hi => List.mem_append_right _ (k5 i hi)⟩

theorem trod_iface_cells {H : Type} {enc : TypeId × Value → H} {P : Program} {w : World} {base fuel : Nat} {sp : Nat → Bool} {t : TypeId} {ms : Array (String × TypeId)} {cs : List Value} {nm : String} {y : DataW H} {p : List MemPlace}
    (ht : P.underlying t = some (.interface ms)) (h : DataW.trod enc P w base sp false fuel t cs = some (.iface nm y, p)) : ∃ u v n, cs = [.iface u v] ∧ P.typeName? 3 u = some nm ∧ DataW.trod enc P w base sp false n u v.cells.toList = some (y, p) := by
  cases fuel with
  | zero => simp [DataW.trod] at h
  | succ n =>
    unfold DataW.trod at h
    rw [ht] at h
    split at h <;> simp_all
    rename_i u v _
    cases hn : P.typeName? 3 u with
    | none => rw [hn] at h; simp at h
    | some name =>
      rw [hn] at h
      simp only [Option.map_eq_some_iff, Prod.mk.injEq, DataW.iface.injEq] at h
      obtain ⟨x, h0, ⟨h1, h2⟩, h3⟩ := h
      refine ⟨u, v, ⟨rfl, rfl⟩, by rw [hn, h1], n, ?_⟩
      rw [h0, ← h2, ← h3]

theorem row279 (u : TypeId) (h : Tryz.prog.typeName? 3 u = some "*errors.errorString") : u = 279 :=
  typeName_ptr_named (nm := "errors.errorString") (by rw [show "*" ++ "errors.errorString" = "*errors.errorString" by decide]; kernel_rfl) (by kernel_rfl) (by decide) u (by rw [show "*" ++ "errors.errorString" = "*errors.errorString" by decide]; exact h)
theorem glob1 : Tryz.prog.globalNamed "io.EOF" = some 1 := by kernel_rfl
theorem glob2 : Tryz.prog.globalNamed "strconv.ErrRange" = some 2 := by kernel_rfl
theorem globt1 : (Tryz.prog.globals[1]?).map (·.type) = some 85 := by kernel_rfl
theorem globt2 : (Tryz.prog.globals[2]?).map (·.type) = some 85 := by kernel_rfl

theorem err_of {W : World} {laid : List (String × DataW Unit)} (hL : laidMet Tryz.prog laid W) {n : String} {y : DataW Unit} (hm : (n, .iface "*errors.errorString" (.ptr y)) ∈ laid) {g : Nat} (hg : Tryz.prog.globalNamed n = some g) (ht : (Tryz.prog.globals[g]?).map (·.type) = some 85) :
    ∃ a, W.cell? ⟨g, 0, none⟩ = some (.iface 279 (.pointer (some a))) := by
  obtain ⟨ps, hv, _, hok⟩ := hL
  obtain ⟨g', t', cs, fuel, p, k1, k2, k3, k4, k5⟩ := laid_at hv n _ hm
  obtain rfl := Option.some.inj (hg.symm.trans k1)
  obtain rfl := Option.some.inj (ht.symm.trans k2)
  obtain ⟨u, v, m, hcs, hn, hin⟩ := trod_iface_cells Tryz.underlying85 k4
  obtain rfl := row279 u hn
  obtain ⟨l⟩ := cs
  obtain rfl : l = [.iface 279 v] := hcs
  have hc : W.cell? ⟨g, 0, none⟩ = some (.iface 279 v) := by simpa using World.var?_cell hg k3 0
  obtain ⟨a, rfl⟩ := okWide_pointer Tryz.underlying279 ((hok g 0 (k5 0 (by simp))).2 279 v hc)
  rcases DataW.trod_pointer Tryz.underlying279 hin with ⟨_, h⟩ | ⟨b, _, _, _, _, h, _⟩
  · cases h
  · have e : a = some b := by simpa [Value.cells] using h
    subst e
    exact ⟨b, hc⟩

theorem eof_eq (a : Addr) (W : World) : (binOp .eql 85 (.iface 279 (.pointer (some a))) (.iface 279 (.pointer (some a)))).run Tryz.prog W = .ok (.bool true) W :=
  run_eql_iface_ptr_same W a Tryz.underlying85 Tryz.underlying279 (i := Tryz.t279) (j := Tryz.t281) (by kernel_rfl) (by kernel_rfl) (by kernel_rfl)
theorem eof_ne (a : Addr) (W : World) : (binOp .neq 85 (.iface 279 (.pointer (some a))) (.iface 279 (.pointer (some a)))).run Tryz.prog W = .ok (.bool false) W := by
  simp only [binOp]
  simp [Op.equal, Op.maxDepth, run_equalIn_iface_ptr_same W 9998 a Tryz.underlying85 Tryz.underlying279 (show Tryz.prog.info? 279 = some Tryz.t279 by kernel_rfl) (by kernel_rfl) (show Tryz.prog.info? 281 = some Tryz.t281 by kernel_rfl)]

theorem errs_of {W : World} (hL : laidMet Tryz.prog Rows.fnLiteralIntRow.laid W) : ∃ a ev, Errs W 279 (.pointer (some a)) ev := by
  obtain ⟨a, ha⟩ := err_of (n := "io.EOF") (y := .agg [.lit (.string [69, 79, 70])]) hL (by simp [Rows.fnLiteralIntRow, Rows.laid_io_EOF]) glob1 globt1
  obtain ⟨b, hb⟩ := err_of (n := "strconv.ErrRange") (y := .agg [.lit (.string [118, 97, 108, 117, 101, 32, 111, 117, 116, 32, 111, 102, 32, 114, 97, 110, 103, 101])]) hL (by simp [Rows.fnLiteralIntRow, Rows.laid_strconv_ErrRange]) glob2 globt2
  exact ⟨a, _, World.block_lt_of_cell? W ⟨2, 0, none⟩ hb, ha, hb, Or.inr ⟨_, _, rfl⟩, fun W' => eof_ne a W'⟩
end Go.Proofs.YtgpoplfgngiilaaGreatDoor
/- FnLiteralInt: the row's lifted half. Own work. -/
namespace Go.Proofs.YtgpoplfgngiilaaGreatDoor
open Go Go.RowKit Go.Shelf Go.Lib Go.ChangeShapes Go.WideShapes Go.ChangeAt Go.Proofs.YtgpoplfgngiilaaGreatDoorW.PrintWords
set_option maxRecDepth 1000000

theorem int_laidOut : laidOutB Tryz.prog = true := by kernel_rfl
theorem int_ownNone : ownKnob Tryz.prog.godebug = none := by kernel_rfl
theorem int_trodVars_len {H : Type} {enc : TypeId × Value → H} {P : Program} {w : World} {sp : Nat → Bool} : ∀ {ns : List String} {gs : List (DataW H)} {ps : List MemPlace}, DataW.TrodVars enc P w sp ns gs ps → gs.length = ns.length
  | [], [], _, _ => rfl
  | [], _ :: _, _, h => h.elim
  | _ :: _, [], _, h => h.elim
  | _ :: _, _ :: _, _, ⟨_, _, _, _, _, _, _, _, _, _, h, _⟩ => by simp [int_trodVars_len h]
theorem int_seven {α : Type} : ∀ {l : List α}, l.length = 7 → ∃ a b c d e f g, l = [a, b, c, d, e, f, g]
  | [a, b, c, d, e, f, g], _ => ⟨a, b, c, d, e, f, g, rfl⟩

set_option maxHeartbeats 2000000 in
theorem int_lifted (os : Os) (started : os.Started) (H : Type) (enc : TypeId × Value → H) :
    ReturnsInHanded {} Tryz.checked os 3 .any (fun w args => (Rows.fnLiteralIntSpec.pre enc Tryz.prog Tryz.f3 [] false w args ∧ laidMetH Tryz.prog Rows.fnLiteralIntRow.laid w) ∧ sizedMet enc Tryz.prog Tryz.f3 (OpenSpec.ofChange Rows.fnLiteralIntSpec) false w args)
      (Rows.fnLiteralIntSpec.post enc Tryz.prog Tryz.f3 false true false false) := by
  refine returnsInHanded_of_change_and (C := Tryz.checked) (X := fun w _ => laidMetH Tryz.prog Rows.fnLiteralIntRow.laid w) (fun _ _ _ hh h => h.of_heap hh) int_ownNone started (by kernel_rfl) Tryz.func3
    (ChangeSpec.witness_shaped (enc := enc) (C := Tryz.checked) (os := os) (X := fun w _ => laidMetH Tryz.prog Rows.fnLiteralIntRow.laid w) false (World.laidAll Tryz.prog os Rows.fnLiteralIntRow.laid) #[.agg #[.int .i64 0, .bool false, .string ⟨#[]⟩, .bool false, .slice none 0 0, .slice none 0 0, .bool false, .slice none 0 0, .slice none 0 0], .int .u8 0, .bool false, .bool false] 8 (World.laidAll_os _ _ _)
      (World.shaped_of_ZipB (by kernel_rfl) (by kernel_rfl)) (by kernel_rfl) (by kernel_rfl) (by kernel_rfl)
      (by rw [MakeChecks.laidMetH_plain _ _ _ (by kernel_rfl)]; exact laidMet_laidAll _ (by kernel_rfl) (by kernel_rfl))) ?_
  intro W base args ds gs before hval0 hW _ _ hL _
  have hval : ∀ (j : Nat) t v, Tryz.f3.params[j]? = some t → args[j]? = some v → Value.okWide Tryz.prog W .any base t v := hval0
  have hW' := hW
  obtain ⟨p, q, hA0, hV, rfl, _, _⟩ := hW
  have hA : DataW.TrodAll enc Tryz.prog W 0 (fun _ => true) true Tryz.f3.params.toList args.toList ds p := hA0
  rw [Tryz.params3] at hA hval
  obtain ⟨v0, vs0, d0, ds0, p0, q0, hargs, rfl, rfl, h0, r0⟩ := trodAll_cons hA
  obtain ⟨v1, vs1, d1, ds1, p1, q1, rfl, rfl, rfl, h1, r1⟩ := trodAll_cons r0
  obtain ⟨v2, vs2, d2, ds2, p2, q2, rfl, rfl, rfl, h2, r2⟩ := trodAll_cons r1
  obtain ⟨v3, vs3, d3, ds3, p3, q3, rfl, rfl, rfl, h3, r3⟩ := trodAll_cons r2
  obtain ⟨rfl, rfl, rfl⟩ := trodAll_nil r3
  obtain rfl : args = #[v0, v1, v2, v3] := by cases args; simp_all
  obtain ⟨a1, rfl, rfl, rfl, w1⟩ := open_int Tryz.underlying5 (hval 1 5 v1 rfl rfl) h1
  obtain ⟨b2, rfl, rfl, rfl⟩ := open_bool Tryz.underlying4 (hval 2 4 v2 rfl rfl) h2
  obtain ⟨b3, rfl, rfl, rfl⟩ := open_bool Tryz.underlying4 (hval 3 4 v3 rfl rfl) h3
  obtain ⟨kind, x1, x2, x3, A, ws, c, A5, dn, c5, x6, A7, l7, c7, A8, l8, c8, rfl, C4, k4, C5, k5, C7, k7, C8, k8, R4⟩ := open_value (hval 0 26 v0 rfl rfl) h0
  clear hA0 hval0
  simp only [List.append_nil] at hW'
  have bd1 : 0 ≤ a1 ∧ a1 ≤ 255 := by simpa [Lit.wf, IntKind.min, IntKind.max, IntKind.signed, IntKind.bits] using w1
  rw [MakeChecks.laidMetH_plain _ _ _ (by kernel_rfl)] at hL
  obtain ⟨ea, ev, hE⟩ := errs_of hL
  obtain ⟨g1, g2, g3, g4, g5, g6, g7, rfl⟩ := int_seven (show gs.length = 7 from int_trodVars_len hV)
  have hlt : ∀ x ∈ p0, x.block < W.heap.size := fun x hx => DataW.TrodAll.lt hA x (List.mem_append_left _ hx)
  refine (int_any kind x1 x2 x3 A ws c A5 dn c5 x6 A7 l7 c7 A8 l8 c8 a1 b2 b3 W 279 (.pointer (some ea)) ev C4 k4 C5 k5 C7 k7 C8 k8 R4 bd1.1 bd1.2 hE (fun W' => eof_eq ea W')).mono fun e W' ⟨he, hb⟩ => ?_
  subst he
  have hb0 := Below.trod int_laidOut (by kernel_rfl) (of_decide_eq_true (by kernel_rfl)) h0 hb hlt
  have hargs := trodAll_cons_mk hb0 (trodAll_cons_mk (shut_int Tryz.underlying5 w1) (trodAll_cons_mk (shut_bool Tryz.underlying4 b2) (trodAll_cons_mk (shut_bool Tryz.underlying4 b3) trodAll_mk0)))
  simp only [List.append_nil] at hargs
  exact ⟨_, rfl, _, _, _, [], p0, _, hW', trodAll_mk1 (shut_bool Tryz.underlying4 _), hargs, hb.trodVars int_laidOut (by kernel_rfl) hV, hb.frame _, fun h => by cases h⟩
end Go.Proofs.YtgpoplfgngiilaaGreatDoor
