/- Small words on worlds: a frame by a set of blocks, what a later world keeps. -/
import Derived.Test.YtgpoplfgngiilaaGreatDoorE2
namespace Go.Proofs.YtgpoplfgngiilaaGreatDoor
open Go.RowKit Go.Proofs.YtgpoplfgngiilaaGreatDoorW.PrintWords Go.Proofs.YtgpoplfgngiilaaGreatDoorW.PrintLast Go.Proofs.YtgpoplfgngiilaaGreatDoorW.PrintMore

/-- w' is w with new blocks, and perhaps other cells in the blocks of S. -/
structure Fr (S : Nat → Prop) (w w' : World) : Prop where
  os : w'.os = w.os
  tape : w'.tape = w.tape
  output : w'.output = w.output
  size : w.heap.size ≤ w'.heap.size
  block : ∀ k, k < w.heap.size → ¬ S k → w'.heap[k]? = w.heap[k]?

namespace Fr
variable {S S' : Nat → Prop} {w w' w2 : World}
theorem refl (S : Nat → Prop) (w : World) : Fr S w w := ⟨rfl, rfl, rfl, Nat.le_refl _, fun _ _ _ => rfl⟩
theorem mono (h : Fr S w w') (hs : ∀ k, S k → S' k) : Fr S' w w' := ⟨h.os, h.tape, h.output, h.size, fun k hk hn => h.block k hk (fun h' => hn (hs k h'))⟩
theorem trans (h : Fr S w w') (h2 : Fr S w' w2) : Fr S w w2 :=
  ⟨h2.os.trans h.os, h2.tape.trans h.tape, h2.output.trans h.output, Nat.le_trans h.size h2.size, fun k hk hn => (h2.block k (Nat.lt_of_lt_of_le hk h.size) hn).trans (h.block k hk hn)⟩
theorem of_below (h : Below w.heap.size w w') : Fr S w w' := ⟨h.os, h.tape, h.output, h.size, fun k hk _ => h.block k hk⟩
theorem below (h : Fr S w w') (hb : Below w'.heap.size w' w2) : Fr S w w2 := h.trans (of_below hb)
theorem drew (h : Fr S w w') : Fr S w w'.drew := ⟨h.os, h.tape, h.output, h.size, h.block⟩
theorem alloc (h : Fr S w w') (o : Obj) : Fr S w (w'.alloc o) := h.below ((Below.refl _ _).alloc (Nat.le_refl _) o)
theorem setCell (h : Fr S w w') {p : Addr} (hp : S p.block ∨ w.heap.size ≤ p.block) (u : Value) : Fr S w (w'.setCell p u) :=
  ⟨h.os, h.tape, h.output, by simpa [World.setCell] using h.size, fun k hk hn => (Below.heap_setCell w' p u k (fun e => by
    subst e
    rcases hp with hp | hp
    · exact hn hp
    · omega)).trans (h.block k hk hn)⟩
theorem call (h : Fr S w w') (h2 : Fr S' w' w2) (hs : ∀ k, S' k → S k ∨ w.heap.size ≤ k) : Fr S w w2 :=
  ⟨h2.os.trans h.os, h2.tape.trans h.tape, h2.output.trans h.output, Nat.le_trans h.size h2.size, fun k hk hn => (h2.block k (Nat.lt_of_lt_of_le hk h.size) (fun h' => (hs k h').elim hn (fun h3 => by omega))).trans (h.block k hk hn)⟩
theorem cell (h : Fr S w w') {p : Addr} (hp : p.block < w.heap.size) (hn : ¬ S p.block) : w'.cell? p = w.cell? p := World.cell?_of_block (h.block _ hp hn)
theorem frozen (h : Fr S w w') {p : Addr} (hp : p.block < w.heap.size) (hn : ¬ S p.block) : w'.frozen? p = w.frozen? p := World.frozen?_of_block (h.block _ hp hn)
theorem toBelow {B : Nat} (h : Fr S w w') (hB : B ≤ w.heap.size) (hs : ∀ k, S k → B ≤ k) : Below B w w' :=
  ⟨h.os, h.tape, h.output, h.size, fun k hk => h.block k (by omega) (fun h' => by have := hs k h'; omega)⟩
theorem cellv (h : Fr S w w') {p : Addr} {v : Value} (hc : w.cell? p = some v) (hn : ¬ S p.block) : w'.cell? p = some v := (h.cell (World.block_lt_of_cell? w p hc) hn).trans hc
end Fr

theorem C_fr {α : Type} {d : Kd α} {S ok : Nat → Prop} {w w' : World} {e base : Nat} {v : Value} {xs : List α} (h : Kd.V d e w base ok v xs) (hf : Fr S w w') (hs : ∀ k, ok k → ¬ S k) : Kd.V d e w' base ok v xs :=
  Kd.V_step h (fun k ho hk => hf.block k hk (hs k ho))

/-- A block's cells, read one by one. -/
theorem blk_cell {w : World} {g : Nat} {cs : Array Value} {t : TypeId} (h : w.heap[g]? = some (.cells cs t (0, 0))) (i : Nat) : w.cell? ⟨g, i, none⟩ = cs[i]? := cell_of_row w g i cs t (0, 0) h
theorem blk_lt {w : World} {g : Nat} {o : Obj} (h : w.heap[g]? = some o) : g < w.heap.size := (Array.getElem?_eq_some_iff.1 h).1

end Go.Proofs.YtgpoplfgngiilaaGreatDoor
