/- Each form of an integer's text is read as its number. -/
import Derived.Test.YtgpoplfgngiilaaGreatDoorQD
import Derived.Test.YtgpoplfgngiilaaGreatDoorQE
import Derived.Test.YtgpoplfgngiilaaGreatDoorQD1
import Derived.Test.YtgpoplfgngiilaaGreatDoorQD2
import Derived.Test.YtgpoplfgngiilaaGreatDoorQD3
import Derived.Test.YtgpoplfgngiilaaGreatDoorQS2
import Derived.Test.YtgpoplfgngiilaaGreatDoorQS3
import Derived.Test.YtgpoplfgngiilaaGreatDoorQS4
import Derived.Test.YtgpoplfgngiilaaGreatDoorQS5
import Derived.Test.YtgpoplfgngiilaaGreatDoorQS6
set_option linter.unusedVariables false
set_option linter.unusedSimpArgs false
namespace Go.Proofs.YtgpoplfgngiilaaGreatDoor
open Go.RowKit Go.Proofs.YtgpoplfgngiilaaGreatDoorW.PrintWords


theorem intText_x (l : List UInt8) (V : Nat) (te : TypeId) (pe : Value) (hF : Figs 16 V l) (hV : V < 18446744073709551616 ^ 10) (hq : ∀ W, (binOp .eql 85 (.iface te pe) (.iface te pe)).run Tryz.prog W = .ok (.bool true) W) :
    IntText (bstr ([48, 120] ++ l)) V te pe := by
  have hsz : (bstr ([48, 120] ++ l)).size = 2 + l.length := by rw [bstr_size, List.length_append]; rfl
  have hl1 := hF.len1
  have hl2 := hF.len
  have hex := pre_ext [48, 120] l 2 rfl
  have hu : 95 ∈ l → ∀ W, Calls Tryz.prog 141 #[.string (bstr ([48, 120] ++ l))] W fun e W1 => e = .returned (.bool true) ∧ W = W1 := fun h W => by
    obtain ⟨hj, h1, h3, h4⟩ := hF.one h
    refine uok_x _ W 3 (by decide) (by omega) (by omega) rfl rfl ?_ ?_
    · have := pre_get [48, 120] l 1 hj (by rw [hsz]; show 2 + 1 < _; omega)
      have e : (bstr ([48, 120] ++ l))[3]'(by omega) = 95 := this.trans h1
      rw [e]; rfl
    · intro j hj2 h5 h6
      obtain ⟨i, rfl⟩ : ∃ i, j = 2 + i := ⟨j - 2, by omega⟩
      have hi : i < l.length := by omega
      have := pre_get [48, 120] l i hi hj2
      have e : (bstr ([48, 120] ++ l))[2 + i]'hj2 = l[i]'hi := this
      rw [e]
      exact fig16_of (b := 16) ((hF.body _ (List.getElem_mem hi)).resolve_left (h4 i hi (by omega)))
  refine ⟨by omega, by omega, fun _ => ⟨show (48 : Nat) ≠ 43 by decide, show (48 : Nat) ≠ 45 by decide⟩, fun w => ?_, fun h63 r w hr hE hr1 => ?_⟩
  · have hp := pu_x (bstr ([48, 120] ++ l)) w (by omega) (by omega) rfl rfl
    rw [← hex] at hp
    have := hp hF.body hu
    rwa [hF.val] at this
  · have := nscan_x (bstr ([48, 120] ++ l)) r te pe w (by omega) (by omega) rfl rfl hr hE hr1 hq l hex hF.body hF.und (by rw [hF.val]; omega)
    rwa [hF.val] at this

theorem intText_X (l : List UInt8) (V : Nat) (te : TypeId) (pe : Value) (hF : Figs 16 V l) (hV : V < 18446744073709551616 ^ 10) (hq : ∀ W, (binOp .eql 85 (.iface te pe) (.iface te pe)).run Tryz.prog W = .ok (.bool true) W) :
    IntText (bstr ([48, 88] ++ l)) V te pe := by
  have hsz : (bstr ([48, 88] ++ l)).size = 2 + l.length := by rw [bstr_size, List.length_append]; rfl
  have hl1 := hF.len1
  have hl2 := hF.len
  have hex := pre_ext [48, 88] l 2 rfl
  have hu : 95 ∈ l → ∀ W, Calls Tryz.prog 141 #[.string (bstr ([48, 88] ++ l))] W fun e W1 => e = .returned (.bool true) ∧ W = W1 := fun h W => by
    obtain ⟨hj, h1, h3, h4⟩ := hF.one h
    refine uok_X _ W 3 (by decide) (by omega) (by omega) rfl rfl ?_ ?_
    · have := pre_get [48, 88] l 1 hj (by rw [hsz]; show 2 + 1 < _; omega)
      have e : (bstr ([48, 88] ++ l))[3]'(by omega) = 95 := this.trans h1
      rw [e]; rfl
    · intro j hj2 h5 h6
      obtain ⟨i, rfl⟩ : ∃ i, j = 2 + i := ⟨j - 2, by omega⟩
      have hi : i < l.length := by omega
      have := pre_get [48, 88] l i hi hj2
      have e : (bstr ([48, 88] ++ l))[2 + i]'hj2 = l[i]'hi := this
      rw [e]
      exact fig16_of (b := 16) ((hF.body _ (List.getElem_mem hi)).resolve_left (h4 i hi (by omega)))
  refine ⟨by omega, by omega, fun _ => ⟨show (48 : Nat) ≠ 43 by decide, show (48 : Nat) ≠ 45 by decide⟩, fun w => ?_, fun h63 r w hr hE hr1 => ?_⟩
  · have hp := pu_X (bstr ([48, 88] ++ l)) w (by omega) (by omega) rfl rfl
    rw [← hex] at hp
    have := hp hF.body hu
    rwa [hF.val] at this
  · have := nscan_X (bstr ([48, 88] ++ l)) r te pe w (by omega) (by omega) rfl rfl hr hE hr1 hq l hex hF.body hF.und (by rw [hF.val]; omega)
    rwa [hF.val] at this

theorem intText_b (l : List UInt8) (V : Nat) (te : TypeId) (pe : Value) (hF : Figs 2 V l) (hV : V < 18446744073709551616 ^ 10) (hq : ∀ W, (binOp .eql 85 (.iface te pe) (.iface te pe)).run Tryz.prog W = .ok (.bool true) W) :
    IntText (bstr ([48, 98] ++ l)) V te pe := by
  have hsz : (bstr ([48, 98] ++ l)).size = 2 + l.length := by rw [bstr_size, List.length_append]; rfl
  have hl1 := hF.len1
  have hl2 := hF.len
  have hex := pre_ext [48, 98] l 2 rfl
  have hu : 95 ∈ l → ∀ W, Calls Tryz.prog 141 #[.string (bstr ([48, 98] ++ l))] W fun e W1 => e = .returned (.bool true) ∧ W = W1 := fun h W => by
    obtain ⟨hj, h1, h3, h4⟩ := hF.one h
    refine uok_b _ W 3 (by decide) (by omega) (by omega) rfl rfl ?_ ?_
    · have := pre_get [48, 98] l 1 hj (by rw [hsz]; show 2 + 1 < _; omega)
      have e : (bstr ([48, 98] ++ l))[3]'(by omega) = 95 := this.trans h1
      rw [e]; rfl
    · intro j hj2 h5 h6
      obtain ⟨i, rfl⟩ : ∃ i, j = 2 + i := ⟨j - 2, by omega⟩
      have hi : i < l.length := by omega
      have := pre_get [48, 98] l i hi hj2
      have e : (bstr ([48, 98] ++ l))[2 + i]'hj2 = l[i]'hi := this
      rw [e]
      exact fig10_of (b := 2) (by decide) ((hF.body _ (List.getElem_mem hi)).resolve_left (h4 i hi (by omega)))
  refine ⟨by omega, by omega, fun _ => ⟨show (48 : Nat) ≠ 43 by decide, show (48 : Nat) ≠ 45 by decide⟩, fun w => ?_, fun h63 r w hr hE hr1 => ?_⟩
  · have hp := pu_b (bstr ([48, 98] ++ l)) w (by omega) (by omega) rfl rfl
    rw [← hex] at hp
    have := hp hF.body hu
    rwa [hF.val] at this
  · have := nscan_b (bstr ([48, 98] ++ l)) r te pe w (by omega) (by omega) rfl rfl hr hE hr1 hq l hex hF.body hF.und (by rw [hF.val]; omega)
    rwa [hF.val] at this

theorem intText_B (l : List UInt8) (V : Nat) (te : TypeId) (pe : Value) (hF : Figs 2 V l) (hV : V < 18446744073709551616 ^ 10) (hq : ∀ W, (binOp .eql 85 (.iface te pe) (.iface te pe)).run Tryz.prog W = .ok (.bool true) W) :
    IntText (bstr ([48, 66] ++ l)) V te pe := by
  have hsz : (bstr ([48, 66] ++ l)).size = 2 + l.length := by rw [bstr_size, List.length_append]; rfl
  have hl1 := hF.len1
  have hl2 := hF.len
  have hex := pre_ext [48, 66] l 2 rfl
  have hu : 95 ∈ l → ∀ W, Calls Tryz.prog 141 #[.string (bstr ([48, 66] ++ l))] W fun e W1 => e = .returned (.bool true) ∧ W = W1 := fun h W => by
    obtain ⟨hj, h1, h3, h4⟩ := hF.one h
    refine uok_B _ W 3 (by decide) (by omega) (by omega) rfl rfl ?_ ?_
    · have := pre_get [48, 66] l 1 hj (by rw [hsz]; show 2 + 1 < _; omega)
      have e : (bstr ([48, 66] ++ l))[3]'(by omega) = 95 := this.trans h1
      rw [e]; rfl
    · intro j hj2 h5 h6
      obtain ⟨i, rfl⟩ : ∃ i, j = 2 + i := ⟨j - 2, by omega⟩
      have hi : i < l.length := by omega
      have := pre_get [48, 66] l i hi hj2
      have e : (bstr ([48, 66] ++ l))[2 + i]'hj2 = l[i]'hi := this
      rw [e]
      exact fig10_of (b := 2) (by decide) ((hF.body _ (List.getElem_mem hi)).resolve_left (h4 i hi (by omega)))
  refine ⟨by omega, by omega, fun _ => ⟨show (48 : Nat) ≠ 43 by decide, show (48 : Nat) ≠ 45 by decide⟩, fun w => ?_, fun h63 r w hr hE hr1 => ?_⟩
  · have hp := pu_B (bstr ([48, 66] ++ l)) w (by omega) (by omega) rfl rfl
    rw [← hex] at hp
    have := hp hF.body hu
    rwa [hF.val] at this
  · have := nscan_B (bstr ([48, 66] ++ l)) r te pe w (by omega) (by omega) rfl rfl hr hE hr1 hq l hex hF.body hF.und (by rw [hF.val]; omega)
    rwa [hF.val] at this

theorem intText_o (l : List UInt8) (V : Nat) (te : TypeId) (pe : Value) (hF : Figs 8 V l) (hV : V < 18446744073709551616 ^ 10) (hq : ∀ W, (binOp .eql 85 (.iface te pe) (.iface te pe)).run Tryz.prog W = .ok (.bool true) W) :
    IntText (bstr ([48, 111] ++ l)) V te pe := by
  have hsz : (bstr ([48, 111] ++ l)).size = 2 + l.length := by rw [bstr_size, List.length_append]; rfl
  have hl1 := hF.len1
  have hl2 := hF.len
  have hex := pre_ext [48, 111] l 2 rfl
  have hu : 95 ∈ l → ∀ W, Calls Tryz.prog 141 #[.string (bstr ([48, 111] ++ l))] W fun e W1 => e = .returned (.bool true) ∧ W = W1 := fun h W => by
    obtain ⟨hj, h1, h3, h4⟩ := hF.one h
    refine uok_o _ W 3 (by decide) (by omega) (by omega) rfl rfl ?_ ?_
    · have := pre_get [48, 111] l 1 hj (by rw [hsz]; show 2 + 1 < _; omega)
      have e : (bstr ([48, 111] ++ l))[3]'(by omega) = 95 := this.trans h1
      rw [e]; rfl
    · intro j hj2 h5 h6
      obtain ⟨i, rfl⟩ : ∃ i, j = 2 + i := ⟨j - 2, by omega⟩
      have hi : i < l.length := by omega
      have := pre_get [48, 111] l i hi hj2
      have e : (bstr ([48, 111] ++ l))[2 + i]'hj2 = l[i]'hi := this
      rw [e]
      exact fig10_of (b := 8) (by decide) ((hF.body _ (List.getElem_mem hi)).resolve_left (h4 i hi (by omega)))
  refine ⟨by omega, by omega, fun _ => ⟨show (48 : Nat) ≠ 43 by decide, show (48 : Nat) ≠ 45 by decide⟩, fun w => ?_, fun h63 r w hr hE hr1 => ?_⟩
  · have hp := pu_o (bstr ([48, 111] ++ l)) w (by omega) (by omega) rfl rfl
    rw [← hex] at hp
    have := hp hF.body hu
    rwa [hF.val] at this
  · have := nscan_o (bstr ([48, 111] ++ l)) r te pe w (by omega) (by omega) rfl rfl hr hE hr1 hq l hex hF.body hF.und (hF.pos (by omega)) (by rw [hF.val]; exact hV)
    rwa [hF.val] at this

theorem intText_O (l : List UInt8) (V : Nat) (te : TypeId) (pe : Value) (hF : Figs 8 V l) (hV : V < 18446744073709551616 ^ 10) (hq : ∀ W, (binOp .eql 85 (.iface te pe) (.iface te pe)).run Tryz.prog W = .ok (.bool true) W) :
    IntText (bstr ([48, 79] ++ l)) V te pe := by
  have hsz : (bstr ([48, 79] ++ l)).size = 2 + l.length := by rw [bstr_size, List.length_append]; rfl
  have hl1 := hF.len1
  have hl2 := hF.len
  have hex := pre_ext [48, 79] l 2 rfl
  have hu : 95 ∈ l → ∀ W, Calls Tryz.prog 141 #[.string (bstr ([48, 79] ++ l))] W fun e W1 => e = .returned (.bool true) ∧ W = W1 := fun h W => by
    obtain ⟨hj, h1, h3, h4⟩ := hF.one h
    refine uok_O _ W 3 (by decide) (by omega) (by omega) rfl rfl ?_ ?_
    · have := pre_get [48, 79] l 1 hj (by rw [hsz]; show 2 + 1 < _; omega)
      have e : (bstr ([48, 79] ++ l))[3]'(by omega) = 95 := this.trans h1
      rw [e]; rfl
    · intro j hj2 h5 h6
      obtain ⟨i, rfl⟩ : ∃ i, j = 2 + i := ⟨j - 2, by omega⟩
      have hi : i < l.length := by omega
      have := pre_get [48, 79] l i hi hj2
      have e : (bstr ([48, 79] ++ l))[2 + i]'hj2 = l[i]'hi := this
      rw [e]
      exact fig10_of (b := 8) (by decide) ((hF.body _ (List.getElem_mem hi)).resolve_left (h4 i hi (by omega)))
  refine ⟨by omega, by omega, fun _ => ⟨show (48 : Nat) ≠ 43 by decide, show (48 : Nat) ≠ 45 by decide⟩, fun w => ?_, fun h63 r w hr hE hr1 => ?_⟩
  · have hp := pu_O (bstr ([48, 79] ++ l)) w (by omega) (by omega) rfl rfl
    rw [← hex] at hp
    have := hp hF.body hu
    rwa [hF.val] at this
  · have := nscan_O (bstr ([48, 79] ++ l)) r te pe w (by omega) (by omega) rfl rfl hr hE hr1 hq l hex hF.body hF.und (hF.pos (by omega)) (by rw [hF.val]; exact hV)
    rwa [hF.val] at this

theorem intText_10 (l : List UInt8) (V : Nat) (te : TypeId) (pe : Value) (hF : Figs 10 V l) (h0 : 0 < V) (hV : V < 18446744073709551616 ^ 10) (hq : ∀ W, (binOp .eql 85 (.iface te pe) (.iface te pe)).run Tryz.prog W = .ok (.bool true) W) :
    IntText (bstr l) V te pe := by
  have hsz : (bstr l).size = l.length := bstr_size l
  have hl1 := hF.len1
  have hl2 := hF.len
  have hex : l = ((bstr l).extract 0 (bstr l).size).data.toList := pre_ext [] l 0 rfl
  have hex2 : l = (bstr l).data.toList := by simp [bstr]
  have hc := hF.fst hl1
  have hp := hF.pos h0 hl1
  have hb0 : (bstr l)[0]'(by omega) = l[0]'hl1 := bstr_get l 0 _
  have hn : 49 ≤ ((bstr l)[0]'(by omega)).toNat ∧ ((bstr l)[0]'(by omega)).toNat ≤ 57 := by
    rw [hb0]
    unfold Cls at hc
    omega
  have hu : 95 ∈ l → ∀ W, Calls Tryz.prog 141 #[.string (bstr l)] W fun e W1 => e = .returned (.bool true) ∧ W = W1 := fun h W => by
    obtain ⟨hj, h1, h3, h4⟩ := hF.one h
    refine uok_n _ W 1 (by decide) (by omega) (by omega) hn ?_ ?_
    · have e : (bstr l)[1]'(by omega) = 95 := (bstr_get l 1 _).trans h1
      rw [e]; rfl
    · intro j hj2 _ h6
      have hi : j < l.length := by omega
      have e : (bstr l)[j]'hj2 = l[j]'hi := bstr_get l j _
      rw [e]
      exact fig10_of (b := 10) (by decide) ((hF.body _ (List.getElem_mem hi)).resolve_left (h4 j hi h6))
  refine ⟨by omega, by omega, fun _ => ⟨by omega, by omega⟩, fun w => ?_, fun h63 r w hr hE hr1 => ?_⟩
  · have hp := pu_10 (bstr l) w (by omega) (by omega) (by omega)
    rw [← hex2] at hp
    have := hp hF.body hu
    rwa [hF.val] at this
  · have := nscan_10 (bstr l) r te pe w (by omega) (by omega) hr hE hr1 hq l hex hF.body hF.und (hF.pos (by omega)) (by rw [hF.val]; exact hV)
    rwa [hF.val] at this

theorem intText_0 (l : List UInt8) (V : Nat) (te : TypeId) (pe : Value) (hF : Figs 8 V l) (hV : V < 18446744073709551616 ^ 10) (hq : ∀ W, (binOp .eql 85 (.iface te pe) (.iface te pe)).run Tryz.prog W = .ok (.bool true) W) :
    IntText (bstr ([48] ++ l)) V te pe := by
  have hsz : (bstr ([48] ++ l)).size = 1 + l.length := by rw [bstr_size, List.length_append]; rfl
  have hl1 := hF.len1
  have hl2 := hF.len
  have hex := pre_ext [48] l 1 rfl
  have hc := hF.fst hl1
  have hb1 : (bstr ([48] ++ l))[1]'(by omega) = l[0]'hl1 := pre_get [48] l 0 hl1 _
  have hn : 48 ≤ ((bstr ([48] ++ l))[1]'(by omega)).toNat ∧ ((bstr ([48] ++ l))[1]'(by omega)).toNat ≤ 57 := by
    rw [hb1]
    unfold Cls at hc
    omega
  have hu : 95 ∈ l → ∀ W, Calls Tryz.prog 141 #[.string (bstr ([48] ++ l))] W fun e W1 => e = .returned (.bool true) ∧ W = W1 := fun h W => by
    obtain ⟨hj, h1, h3, h4⟩ := hF.one h
    refine uok_0 _ W 2 (by decide) (by omega) (by omega) rfl hn ?_ ?_
    · have e : (bstr ([48] ++ l))[2]'(by omega) = 95 := (pre_get [48] l 1 hj (by rw [hsz]; show 1 + 1 < _; omega)).trans h1
      rw [e]; rfl
    · intro j hj2 _ h6
      cases j with
      | zero => exact ⟨show (48 : Int) ≤ ((48 : Nat) : Int) by decide, show ((48 : Nat) : Int) ≤ 57 by decide⟩
      | succ i =>
        have hi : i < l.length := by omega
        have e : (bstr ([48] ++ l))[i + 1]'hj2 = l[i]'hi := bstr_get ([48] ++ l) (i + 1) _
        rw [e]
        exact fig10_of (b := 8) (by decide) ((hF.body _ (List.getElem_mem hi)).resolve_left (h4 i hi (by omega)))
  refine ⟨by omega, by omega, fun _ => ⟨show (48 : Nat) ≠ 43 by decide, show (48 : Nat) ≠ 45 by decide⟩, fun w => ?_, fun h63 r w hr hE hr1 => ?_⟩
  · by_cases h3 : 3 ≤ (bstr ([48] ++ l)).size
    · have hp := pu_0l (bstr ([48] ++ l)) w h3 (by omega) rfl hn
      rw [← hex] at hp
      have := hp hF.body hu
      rwa [hF.val] at this
    · have hp := pu_0s (bstr ([48] ++ l)) w (by omega) (by omega) (by omega) rfl
      rw [← hex] at hp
      have := hp hF.body hu
      rwa [hF.val] at this
  · have := nscan_0 (bstr ([48] ++ l)) r te pe w (by omega) (by omega) rfl hr hE hr1 hq l hex hF.body hF.und (hF.pos (by omega)) (by rw [hF.val]; exact hV)
    rwa [hF.val] at this

/-- The text 0. -/
theorem intText_zero (te : TypeId) (pe : Value) : IntText (bstr [48]) 0 te pe := by
  have hex : ([] : List UInt8) = ((bstr [48]).extract 1 (bstr [48]).size).data.toList := pre_ext [48] [] 1 rfl
  refine ⟨by decide, by decide, fun _ => ⟨show (48 : Nat) ≠ 43 by decide, show (48 : Nat) ≠ 45 by decide⟩, fun w => ?_, fun h63 => absurd h63 (by decide)⟩
  have hp := pu_0s (bstr [48]) w (by decide) (by decide) (by decide) rfl
  rw [← hex] at hp
  exact hp (fun c hc => by cases hc) (fun h => by cases h)
end Go.Proofs.YtgpoplfgngiilaaGreatDoor
