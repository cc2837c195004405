/- FnLiteralChar: the walk. -/
import Derived.Test.YtgpoplfgngiilaaGreatDoorC3
import Derived.Test.YtgpoplfgngiilaaGreatDoorM5
namespace Go.Proofs.YtgpoplfgngiilaaGreatDoor
open Go.RowKit Go.Proofs.YtgpoplfgngiilaaGreatDoorW.PrintWords Go.Proofs.YtgpoplfgngiilaaGreatDoorW.PrintLast Go.Proofs.YtgpoplfgngiilaaGreatDoorW.PrintMore

/-- UnquoteChar reads t as the character r. -/
def ReadsAs (w : World) (t : ByteArray) (r : Nat) : Prop := t.size ≤ 100 ∧ r < 1114112 ∧ ∀ W, Below w.heap.size w W → Calls Tryz.prog 48 #[.string t, .int .u8 39] W (Unq r W)

theorem bstr_get (l : List UInt8) (j : Nat) (h : j < (bstr l).size) : (bstr l)[j]'h = l[j]'(by rw [bstr_size] at h; exact h) := rfl
theorem bstr_mid (a l b : List UInt8) (m n : Nat) (hm : m = a.length) (hn : n = a.length + l.length) : (bstr (a ++ l ++ b)).extract m n = bstr l := by
  subst hm; subst hn
  apply ByteArray.ext
  simp only [ByteArray.data_extract, bstr]
  apply Array.ext'
  simp [List.extract_eq_take_drop]
theorem bstr_extract (a l : List UInt8) (m n : Nat) (hm : m = a.length) (hn : n = a.length + l.length) : (bstr (a ++ l)).extract m n = bstr l := by
  have := bstr_mid a l [] m n hm hn
  rwa [List.append_nil] at this
theorem bstr_of (t : ByteArray) : t = bstr t.data.toList := by
  apply ByteArray.ext
  simp [bstr]
theorem quote_inner (t : ByteArray) : ((⟨#[39]⟩ : ByteArray) ++ t ++ ⟨#[39]⟩).extract 1 (t.size + 1) = t := by
  have h1 : (⟨#[39]⟩ : ByteArray) = bstr [39] := rfl
  have hs : t.size = t.data.toList.length := by rw [Array.length_toList]; rfl
  rw [hs]
  generalize hl : t.data.toList = l
  have ht : t = bstr l := by rw [← hl]; exact bstr_of t
  rw [ht, h1, bstr_append, bstr_append]
  exact bstr_mid [39] l [39] 1 (l.length + 1) rfl (Nat.add_comm _ _)

theorem lit_q (t : ByteArray) (r : Nat) (w w0 : World) (hb : Below w0.heap.size w0 w) (h : ReadsAs w0 t r) :
    Calls Tryz.prog 11 #[.string (⟨#[39]⟩ ++ t ++ ⟨#[39]⟩), .int .i64 3] w fun e w' => ∃ v, e = .returned (.agg #[.int .i64 3, .bool false, .string ⟨#[]⟩, .bool false, v, .slice none 0 0, .bool false, .slice none 0 0, .slice none 0 0]) ∧ Kd.R (Kd.int .u64) 50 w' w.heap.size (fun _ => True) v (wordsOf64 r) ∧ Below w.heap.size w w' := by
  have hsz : ((⟨#[39]⟩ : ByteArray) ++ t ++ ⟨#[39]⟩).size = t.size + 2 := by
    simp only [ByteArray.size_append]
    show 1 + t.size + 1 = t.size + 2
    omega
  have hex : ((⟨#[39]⟩ : ByteArray) ++ t ++ ⟨#[39]⟩).extract 1 (((⟨#[39]⟩ : ByteArray) ++ t ++ ⟨#[39]⟩).size - 1) = t := by
    rw [hsz]
    exact quote_inner t
  refine literal_char _ r w (by omega) (by have := h.1; omega) h.2.1 ?_
  intro W hW
  rw [hex]
  exact h.2.2 W (hb.trans (hW.mono hb.size))

theorem words_of64 (r : Nat) (h : r < 9223372036854775808) : wordsOf64 r = lits 18446744073709551616 r := by
  unfold wordsOf64
  by_cases h0 : r = 0
  · subst h0; rw [if_pos (by rfl), lits_zero]
  · rw [if_neg (by omega), lits_pos _ r (by decide) h0, Nat.mod_eq_of_lt (by omega), Nat.div_eq_of_lt (by omega), lits_zero]
theorem of64_f (r : Nat) (h : r < 9223372036854775808) : Pr.spec_Of64.f 2000 (r : Int) = some (false, lits 65536 r, [1]) := by
  unfold Pr.spec_Of64.f
  have e : IntKind.u64.wrap (r : Int) = (r : Int) := wraps_u64 _ (by omega) (by omega)
  have hR : InR 18446744073709551616 [(r : Int)] := by intro x hx; simp at hx; subst hx; omega
  rw [if_neg (by omega), e, of_f [(r : Int)] hR (by simp) 2000 (by simp), Option.bind_some]
  have h1 := small_f 1 (by decide) 2000 (by decide)
  rw [show ((1 : Nat) : Int) = 1 from rfl] at h1
  rw [h1]
  have hv : valL 18446744073709551616 [(r : Int)] = r := by simp [valL]
  rw [hv]
  have h2 : lits 65536 1 = [1] := by rw [lits_pos 65536 1 (by decide) (by decide), show 1 / 65536 = 0 from rfl, lits_zero]; rfl
  rw [h2]
  rfl

/-- What IsInt asks, at a number below 2^63. -/
theorem isInt_facts (q : Nat) (h : q < 9223372036854775808) : Pr.spec_Of.f 2000 (wordsOf64 q) = some (lits 65536 q) ∧ Pr.spec_HasWords.f 2000 (wordsOf64 q) (lits 65536 q) = some true ∧ Pr.spec_same.f 2000 false (lits 65536 q) [1] false (lits 65536 q) [1] = some true := by
  have hl : (lits 65536 q).length ≤ 4 := (lits_figs 65536 4 q (by decide) (Nat.lt_of_lt_of_le h (by decide))).2
  have hl2 : (lits 18446744073709551616 q).length ≤ 1 := (lits_figs 18446744073709551616 1 q (by decide) (Nat.lt_of_lt_of_le h (by decide))).2
  rw [words_of64 q h]
  refine ⟨?_, ?_, ?_⟩
  · have h1 := of_f (lits 18446744073709551616 q) (InR_lits _ (by decide) q) (by omega) 2000 (by omega)
    rw [valL_lits _ (by decide)] at h1
    exact h1
  · obtain ⟨b, h1, h2⟩ := hasWords_f (lits 18446744073709551616 q) q (by omega) (by omega) 2000 (by omega)
    rw [h1, h2.2 rfl]
  · exact same_f false _ _ (by omega) (by simp) 2000 (by omega) (by simp)

end Go.Proofs.YtgpoplfgngiilaaGreatDoor
