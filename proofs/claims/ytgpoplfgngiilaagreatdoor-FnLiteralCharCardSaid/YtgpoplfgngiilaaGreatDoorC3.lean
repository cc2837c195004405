/- strconv.UnquoteChar at a character of several bytes; MakeFromLiteral and impl.Literal at a character. -/
import Derived.Test.YtgpoplfgngiilaaGreatDoorC2
import Derived.Test.YtgpoplfgngiilaaGreatDoorSh
import Derived.Test.YtgpoplfgngiilaaGreatDoorA5
namespace Go.Proofs.YtgpoplfgngiilaaGreatDoor
open Go.RowKit Go.Proofs.YtgpoplfgngiilaaGreatDoorW.PrintWords Go.Proofs.YtgpoplfgngiilaaGreatDoorW.PrintLast Go.Proofs.YtgpoplfgngiilaaGreatDoorW.PrintMore

set_option maxHeartbeats 2000000 in
set_option maxRecDepth 100000 in
/-- A character of several bytes that stands as it is. -/
theorem unq_utf8 (s : ByteArray) (n : Nat) (w : World) (hT : Lib.Utf8Tabs 6 7 w) (hs : 0 < s.size) (h0 : 128 ≤ (s[0]'(by omega)).toNat) (hd : Lib.decodeGo s = (n, s.size)) (hsz : s.size ≤ 100) :
    Calls Tryz.prog 48 #[.string s, .int .u8 39] w (Unq n w) := by
  have cD := Aside0.mk (Tryz.utf8_DecodeRuneInString s w hT)
  rw [hd] at cD
  have hs' : (0 : Int) < (s.size : Int) := by omega
  have H0 : 128 ≤ ((s[0]'(by omega)).toNat : Int) := by omega
  have e1 : (((s[0]'(by omega)).toNat : Int) == 39) = false := by rw [beq_eq_false_iff_ne]; omega
  have e3 : ((s.size : Int) == 0) = false := by rw [beq_eq_false_iff_ne]; omega
  clear h0 hd hT
  go_enter Tryz.func48, Tryz.ntmps48
  go_wp2_with (go_at_call 75; go_must (refine cD.out.mono ?_); rintro e w1 ⟨rfl, hB⟩; have HB := Aside0.mk hB; clear hB)
  go_quiet (fail)
  go_wp2
  exact bodyPost_ret (v := .tuple #[.int .i32 n, .bool true, .string _, .nilIface]) (by simp [results, Tryz.results48, go_sem]; rfl) rfl ⟨_, _, rfl, by repeat (first | exact HB.out | apply pw_below_drewN | apply below_drew1)⟩

set_option maxHeartbeats 2000000 in
set_option maxRecDepth 100000 in
/-- MakeFromLiteral of a character. -/
theorem fromLit_char (s : ByteArray) (n : Nat) (w : World) (hs : 2 ≤ s.size) (hs1 : s.size ≤ 1000) (hn : n < 1114112)
    (hU : Calls Tryz.prog 48 #[.string (s.extract 1 (s.size - 1)), .int .u8 39] w (Unq n w)) :
    Calls Tryz.prog 27 #[.string s, .int .i64 8, .int .u64 0] w fun e w' => e = .returned (.iface 88 (.int .i64 n)) ∧ Below w.heap.size w w' := by
  have HU := Aside0.mk hU
  have hs2 : (2 : Int) ≤ (s.size : Int) := by omega
  clear hU
  go_enter Tryz.func27, Tryz.ntmps27
  go_wp2_with (first | (go_at_call 48; go_must (refine HU.out.mono ?_); rintro e w1 ⟨m, t, rfl, hB⟩; have HB := Aside0.mk hB; clear hB) | (go_at_call 49; go_must (refine (makeInt64 _ _).mono ?_); rintro e w2 ⟨rfl, rfl⟩))
  go_ret
  exact ⟨rfl, HB.out⟩

set_option maxHeartbeats 2000000 in
set_option maxRecDepth 100000 in
/-- impl.Literal of a character. -/
theorem literal_char (s : ByteArray) (n : Nat) (w : World) (hs : 2 ≤ s.size) (hs1 : s.size ≤ 1000) (hn : n < 1114112)
    (hU : ∀ W, Below w.heap.size w W → Calls Tryz.prog 48 #[.string (s.extract 1 (s.size - 1)), .int .u8 39] W (Unq n W)) :
    Calls Tryz.prog 11 #[.string s, .int .i64 3] w fun e w' => ∃ v, e = .returned (.agg #[.int .i64 3, .bool false, .string ⟨#[]⟩, .bool false, v, .slice none 0 0, .bool false, .slice none 0 0, .slice none 0 0]) ∧ Kd.R (Kd.int .u64) 50 w' w.heap.size (fun _ => True) v (wordsOf64 n) ∧ Below w.heap.size w w' := by
  have HU := Aside0.mk hU
  have HS := Aside0.mk hs
  have HS1 := Aside0.mk hs1
  have HN := Aside0.mk hn
  clear hU hs hs1 hn
  have HB0 := Aside0.mk (show Below w.heap.size w ((w.alloc (Obj.cells #[.int .i64 0, .bool false, .string ⟨#[]⟩, .bool false, .slice none 0 0, .slice none 0 0, .bool false, .slice none 0 0, .slice none 0 0] 26)).alloc (Obj.cells #[.int .i64 5, .int .i64 6, .int .i64 7, .int .i64 8, .int .i64 9] 63)) from ((Below.refl w.heap.size w).alloc (Nat.le_refl _) _).alloc (by simp) _)
  go_enter Tryz.func11, Tryz.ntmps11
  go_wp2_with (first | (go_at_call 27; go_must (refine (fromLit_char s n _ HS.out HS1.out HN.out (HU.out _ HB0.out)).mono ?_); rintro e w1 ⟨rfl, hB⟩; have HB1 := Aside0.mk hB; clear hB) | (go_at_call 26; go_must (refine (told_int64 n _ (by have := HN.out; omega) (by have := HN.out; omega)).mono ?_); rintro e w2 ⟨v, rfl, hR, hB⟩; have HR := Aside0.mk hR; have HBB := Aside0.mk (HB1.out.trans (hB.mono HB1.out.size)); have hz := HBB.out.size; simp only [World.size_alloc] at hz; have hz0 : w.heap.size < w2.heap.size := (by omega); have HB2 := Aside0.mk hB; clear hB hR; have e0 : w2.cell? ⟨w.heap.size, 0, none⟩ = some (.int .i64 0) := ((HBB.out.cell (p := ⟨w.heap.size, 0, none⟩) (by simp; omega)).trans (by go_simp)); have f0 : w2.frozen? ⟨w.heap.size, 0, none⟩ = false := ((HBB.out.frozen (p := ⟨w.heap.size, 0, none⟩) (by simp; omega)).trans (by go_simp)); have e1 : w2.cell? ⟨w.heap.size, 1, none⟩ = some (.bool false) := ((HBB.out.cell (p := ⟨w.heap.size, 1, none⟩) (by simp; omega)).trans (by go_simp)); have f1 : w2.frozen? ⟨w.heap.size, 1, none⟩ = false := ((HBB.out.frozen (p := ⟨w.heap.size, 1, none⟩) (by simp; omega)).trans (by go_simp)); have e2 : w2.cell? ⟨w.heap.size, 2, none⟩ = some (.string ⟨#[]⟩) := ((HBB.out.cell (p := ⟨w.heap.size, 2, none⟩) (by simp; omega)).trans (by go_simp)); have f2 : w2.frozen? ⟨w.heap.size, 2, none⟩ = false := ((HBB.out.frozen (p := ⟨w.heap.size, 2, none⟩) (by simp; omega)).trans (by go_simp)); have e3 : w2.cell? ⟨w.heap.size, 3, none⟩ = some (.bool false) := ((HBB.out.cell (p := ⟨w.heap.size, 3, none⟩) (by simp; omega)).trans (by go_simp)); have f3 : w2.frozen? ⟨w.heap.size, 3, none⟩ = false := ((HBB.out.frozen (p := ⟨w.heap.size, 3, none⟩) (by simp; omega)).trans (by go_simp)); have e4 : w2.cell? ⟨w.heap.size, 4, none⟩ = some (.slice none 0 0) := ((HBB.out.cell (p := ⟨w.heap.size, 4, none⟩) (by simp; omega)).trans (by go_simp)); have f4 : w2.frozen? ⟨w.heap.size, 4, none⟩ = false := ((HBB.out.frozen (p := ⟨w.heap.size, 4, none⟩) (by simp; omega)).trans (by go_simp)); have e5 : w2.cell? ⟨w.heap.size, 5, none⟩ = some (.slice none 0 0) := ((HBB.out.cell (p := ⟨w.heap.size, 5, none⟩) (by simp; omega)).trans (by go_simp)); have f5 : w2.frozen? ⟨w.heap.size, 5, none⟩ = false := ((HBB.out.frozen (p := ⟨w.heap.size, 5, none⟩) (by simp; omega)).trans (by go_simp)); have e6 : w2.cell? ⟨w.heap.size, 6, none⟩ = some (.bool false) := ((HBB.out.cell (p := ⟨w.heap.size, 6, none⟩) (by simp; omega)).trans (by go_simp)); have f6 : w2.frozen? ⟨w.heap.size, 6, none⟩ = false := ((HBB.out.frozen (p := ⟨w.heap.size, 6, none⟩) (by simp; omega)).trans (by go_simp)); have e7 : w2.cell? ⟨w.heap.size, 7, none⟩ = some (.slice none 0 0) := ((HBB.out.cell (p := ⟨w.heap.size, 7, none⟩) (by simp; omega)).trans (by go_simp)); have f7 : w2.frozen? ⟨w.heap.size, 7, none⟩ = false := ((HBB.out.frozen (p := ⟨w.heap.size, 7, none⟩) (by simp; omega)).trans (by go_simp)); have e8 : w2.cell? ⟨w.heap.size, 8, none⟩ = some (.slice none 0 0) := ((HBB.out.cell (p := ⟨w.heap.size, 8, none⟩) (by simp; omega)).trans (by go_simp)); have f8 : w2.frozen? ⟨w.heap.size, 8, none⟩ = false := ((HBB.out.frozen (p := ⟨w.heap.size, 8, none⟩) (by simp; omega)).trans (by go_simp)); obtain ⟨Av, cv, rfl, -⟩ := Kd.R_reads HR.out))
  refine bodyPost_ret (v := .agg #[.int .i64 3, .bool false, .string ⟨#[]⟩, .bool false, .slice Av (wordsOf64 n).length cv, .slice none 0 0, .bool false, .slice none 0 0, .slice none 0 0]) (by simp [results, Tryz.results11, go_sem, e0, e1, e2, e3, e4, e5, e6, e7, e8]) rfl ⟨_, rfl, ?_, ?_⟩
  · refine R_after (N := w.heap.size + 2) HR.out (by have := HB1.out.size; simpa using this) (by have := HB1.out.size; simp at this; omega) ?_
    intro k h1 h2
    repeat (refine hk_set (by simp; omega) ?_)
    rfl
  · have hb0 : Below w.heap.size w w2 := HB0.out.trans (HBB.out.mono (by simp; omega))
    repeat (refine Below.setCell ?_ (by simp) _)
    exact hb0
end Go.Proofs.YtgpoplfgngiilaaGreatDoor
