/- FnLiteralHexFloat, behind its card (K15 K16). -/
import Derived.Test.YtgpoplfgngiilaaGreatDoorR37
import Derived.Test.YtgpoplfgngiilaaGreatDoorChecked
import Derived.Test.YtgpoplfgngiilaaGreatDoorRows
import Derived.Lay
import Derived.ProofKit
import Derived.OpenShut
import Derived.OpenVars
import Derived.LaidLaws
import Derived.LaidEql
set_option linter.unusedVariables false
set_option linter.unusedSimpArgs false
namespace Go.Proofs.YtgpoplfgngiilaaGreatDoor
set_option linter.unusedVariables false
set_option linter.unusedSimpArgs false
open Go.RowKit Go.Proofs.YtgpoplfgngiilaaGreatDoorW.PrintWords

theorem hex_any (n k e form : Int) (hn0 : 0 ≤ n) (hn1 : n < 18446744073709551616) (hk0 : 0 ≤ k) (hk1 : k ≤ 255) (he0 : -32768 ≤ e) (he1 : e ≤ 32767) (hf0 : 0 ≤ form) (hf1 : form ≤ 255)
    (te : TypeId) (pe : Value) (hq : ∀ W, (binOp .eql 85 (.iface te pe) (.iface te pe)).run Tryz.prog W = .ok (.bool true) W) (hq2 : ∀ W, (binOp .neq 85 (.iface te pe) (.iface te pe)).run Tryz.prog W = .ok (.bool false) W) (w : World) (hE : w.cell? ⟨1, 0, none⟩ = some (.iface te pe)) :
    Calls Tryz.prog 5 #[.int .u64 n, .int .u8 k, .int .i16 e, .int .u8 form] w fun e w' => e = .returned (.bool true) ∧ Below w.heap.size w w' := by
  obtain ⟨m, rfl⟩ : ∃ m : Nat, n = (m : Int) := ⟨n.toNat, by omega⟩
  have hx : (e.tmod 1001).natAbs ≤ 1000 := by
    rw [Int.natAbs_tmod]
    have := Nat.mod_lt e.natAbs (show 0 < (1001 : Int).natAbs by decide)
    have h2 : (1001 : Int).natAbs = 1001 := rfl
    omega
  obtain ⟨j0, h0⟩ : ∃ j0 : Nat, form % 2 = (j0 : Int) := ⟨(form % 2).toNat, by omega⟩
  obtain ⟨j1, h1⟩ : ∃ j1 : Nat, form / 2 % 2 = (j1 : Int) := ⟨(form / 2 % 2).toNat, by omega⟩
  have g0 : j0 = 0 ∨ j0 = 1 := by omega
  have g1 : j1 = 0 ∨ j1 = 1 := by omega
  have key : ∀ (C0 C1 : ByteArray) (c0 c1 : UInt8), (#[Value.string ⟨#[48, 120]⟩, .string ⟨#[48, 88]⟩] : Array Value)[j0]? = some (.string C0) → (#[Value.string ⟨#[112]⟩, .string ⟨#[80]⟩] : Array Value)[j1]? = some (.string C1) → C0 = bstr [48, c0] → C1 = bstr [c1] → (c0 = 120 ∨ c0 = 88) → (c1 = 112 ∨ c1 = 80) →
      Calls Tryz.prog 5 #[.int .u64 (m : Int), .int .u8 k, .int .i16 e, .int .u8 form] w fun e w' => e = .returned (.bool true) ∧ Below w.heap.size w w' := fun C0 C1 c0 c1 a b c d f g =>
    hex_law m (k % 20).toNat j0 j1 k e form (e.tmod 1001) C0 C1 (decide (form % 4 < 2)) (decide (form > 127)) (by omega) (by omega) hx hk0 hk1 he0 he1 hf0 hf1 (by omega) rfl h0 h1 (by omega) (by omega) rfl rfl a b c0 c1 c d f g te pe hq hq2 w hE
  rcases g0 with rfl | rfl <;> rcases g1 with rfl | rfl
  · exact key _ _ 120 112 rfl rfl rfl rfl (Or.inl rfl) (Or.inl rfl)
  · exact key _ _ 120 80 rfl rfl rfl rfl (Or.inl rfl) (Or.inr rfl)
  · exact key _ _ 88 112 rfl rfl rfl rfl (Or.inr rfl) (Or.inl rfl)
  · exact key _ _ 88 80 rfl rfl rfl rfl (Or.inr rfl) (Or.inr rfl)
end Go.Proofs.YtgpoplfgngiilaaGreatDoor
namespace Go.Proofs.YtgpoplfgngiilaaGreatDoor
open Go Go.RowKit Go.Shelf Go.Lib Go.ChangeShapes Go.WideShapes Go.ChangeAt Go.Proofs.YtgpoplfgngiilaaGreatDoorW.PrintWords
set_option maxRecDepth 1000000

theorem laid_at {P : Program} {w : World} : ∀ {l : List (String × DataW Unit)} {ps : List MemPlace}, DataW.LaidVars P w l ps → ∀ n d, (n, d) ∈ l →
    ∃ g t cs fuel p, P.globalNamed n = some g ∧ (P.globals[g]?).map (·.type) = some t ∧ w.var? P n = some cs ∧ DataW.trod (fun _ => ()) P w 0 (fun _ => true) false fuel t cs.toList = some (d, p) ∧ ∀ i, i < cs.size → MemPlace.cell g i ∈ ps
  | [], _, _, _, _, hm => by cases hm
  | (n', d') :: r, ps, h, n, d, hm => by
    obtain ⟨g, t, cs, fuel, p, q, h1, h2, h3, h4, h5, rfl⟩ := h
    rcases List.mem_cons.1 hm with e | e
    · cases e
      refine ⟨g, t, cs, fuel, p, h1, h2, h3, h4, fun i hi => ?_⟩
      refine List.mem_append_left _ (List.mem_append_left _ ?_)
      exact List.mem_map.2 ⟨i, List.mem_range.2 hi, by simp⟩
    · obtain ⟨g', t', cs', fuel', p', k1, k2, k3, k4, k5⟩ := laid_at h5 n d e
      exact ⟨g', t', cs', fuel', p', k1, k2, k3, k4, fun i hi => List.mem_append_right _ (k5 i hi)⟩

theorem trod_iface_cells {H : Type} {enc : TypeId × Value → H} {P : Program} {w : World} {base fuel : Nat} {sp : Nat → Bool} {t : TypeId} {ms : Array (String × TypeId)} {cs : List Value} {nm : String} {y : DataW H} {p : List MemPlace}
    (ht : P.underlying t = some (.interface ms)) (h : DataW.trod enc P w base sp false fuel t cs = some (.iface nm y, p)) : ∃ u v n, cs = [.iface u v] ∧ P.typeName? 3 u = some nm ∧ DataW.trod enc P w base sp false n u v.cells.toList = some (y, p) := by
  cases fuel with
  | zero => simp [DataW.trod] at h
  | succ n =>
    unfold DataW.trod at h
    rw [ht] at h
    split at h <;> simp_all
    rename_i u v _
    cases hn : P.typeName? 3 u with
    | none => rw [hn] at h; simp at h
    | some name =>
      rw [hn] at h
      simp only [Option.map_eq_some_iff, Prod.mk.injEq, DataW.iface.injEq] at h
      obtain ⟨x, h0, ⟨h1, h2⟩, h3⟩ := h
      refine ⟨u, v, ⟨rfl, rfl⟩, by rw [hn, h1], n, ?_⟩
      rw [h0, ← h2, ← h3]

theorem row279 (u : TypeId) (h : Tryz.prog.typeName? 3 u = some "*errors.errorString") : u = 279 :=
  typeName_ptr_named (nm := "errors.errorString") (by rw [show "*" ++ "errors.errorString" = "*errors.errorString" by decide]; kernel_rfl) (by kernel_rfl) (by decide) u (by rw [show "*" ++ "errors.errorString" = "*errors.errorString" by decide]; exact h)
theorem glob1 : Tryz.prog.globalNamed "io.EOF" = some 1 := by kernel_rfl
theorem globt1 : (Tryz.prog.globals[1]?).map (·.type) = some 85 := by kernel_rfl

theorem err_of {W : World} {laid : List (String × DataW Unit)} (hL : laidMet Tryz.prog laid W) {n : String} {y : DataW Unit} (hm : (n, .iface "*errors.errorString" (.ptr y)) ∈ laid) {g : Nat} (hg : Tryz.prog.globalNamed n = some g) (ht : (Tryz.prog.globals[g]?).map (·.type) = some 85) :
    ∃ a, W.cell? ⟨g, 0, none⟩ = some (.iface 279 (.pointer (some a))) := by
  obtain ⟨ps, hv, _, hok⟩ := hL
  obtain ⟨g', t', cs, fuel, p, k1, k2, k3, k4, k5⟩ := laid_at hv n _ hm
  obtain rfl := Option.some.inj (hg.symm.trans k1)
  obtain rfl := Option.some.inj (ht.symm.trans k2)
  obtain ⟨u, v, m, hcs, hn, hin⟩ := trod_iface_cells Tryz.underlying85 k4
  obtain rfl := row279 u hn
  obtain ⟨l⟩ := cs
  obtain rfl : l = [.iface 279 v] := hcs
  have hc : W.cell? ⟨g, 0, none⟩ = some (.iface 279 v) := by simpa using World.var?_cell hg k3 0
  obtain ⟨a, rfl⟩ := okWide_pointer Tryz.underlying279 ((hok g 0 (k5 0 (by simp))).2 279 v hc)
  rcases DataW.trod_pointer Tryz.underlying279 hin with ⟨_, h⟩ | ⟨b, _, _, _, _, h, _⟩
  · cases h
  · have e : a = some b := by simpa [Value.cells] using h
    subst e
    exact ⟨b, hc⟩

theorem eof_eq (a : Addr) (W : World) : (binOp .eql 85 (.iface 279 (.pointer (some a))) (.iface 279 (.pointer (some a)))).run Tryz.prog W = .ok (.bool true) W :=
  run_eql_iface_ptr_same W a Tryz.underlying85 Tryz.underlying279 (i := Tryz.t279) (j := Tryz.t281) (by kernel_rfl) (by kernel_rfl) (by kernel_rfl)
theorem eof_ne (a : Addr) (W : World) : (binOp .neq 85 (.iface 279 (.pointer (some a))) (.iface 279 (.pointer (some a)))).run Tryz.prog W = .ok (.bool false) W := by
  simp only [binOp]
  simp [Op.equal, Op.maxDepth, run_equalIn_iface_ptr_same W 9998 a Tryz.underlying85 Tryz.underlying279 (show Tryz.prog.info? 279 = some Tryz.t279 by kernel_rfl) (by kernel_rfl) (show Tryz.prog.info? 281 = some Tryz.t281 by kernel_rfl)]

theorem eof_of {W : World} (hL : laidMet Tryz.prog Rows.fnLiteralHexFloatRow.laid W) : ∃ a, W.cell? ⟨1, 0, none⟩ = some (.iface 279 (.pointer (some a))) :=
  err_of (n := "io.EOF") (y := .agg [.lit (.string [69, 79, 70])]) hL (by simp [Rows.fnLiteralHexFloatRow, Rows.laid_io_EOF]) glob1 globt1
end Go.Proofs.YtgpoplfgngiilaaGreatDoor
