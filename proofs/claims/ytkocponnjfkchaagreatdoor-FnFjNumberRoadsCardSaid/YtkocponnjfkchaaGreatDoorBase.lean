/- World relations and readings that the walks use: plain definitions and lemmas, no program. -/
import Derived.WalkKit
import Derived.BigQuiet
import Derived.Deep.QuietTactic
import Derived.Deep.LoopGhost
import Derived.WalkSpells
import Derived.WalkLawsBesides
import Derived.Lib.Hide
import Derived.Lib.Strings
import Derived.Maps.AppendAt
import Derived.Deep.DeepCutAuto
import Derived.Deep.CutBlock
namespace Go.Proofs.YtkocponnjfkchaaGreatDoor
open Go.RowKit

/-- Of what was there in w, only blocks in S may have turned in w'. -/
structure Upd (S : Nat → Prop) (w w' : World) : Prop where
  os : w'.os = w.os
  tape : w'.tape = w.tape
  output : w'.output = w.output
  size : w.heap.size ≤ w'.heap.size
  block : ∀ k, k < w.heap.size → ¬ S k → w'.heap[k]? = w.heap[k]?

/-- No block. -/
def NoB : Nat → Prop := fun _ => False
/-- One block. -/
def OneB (g : Nat) : Nat → Prop := fun k => k = g

theorem Upd.refl (S : Nat → Prop) (w : World) : Upd S w w := ⟨rfl, rfl, rfl, Nat.le_refl _, fun _ _ _ => rfl⟩
theorem Upd.drewN {S : Nat → Prop} {w w' : World} (h : Upd S w w') (n : Nat) : Upd S w (w'.drewN n) := ⟨h.os, h.tape, h.output, h.size, h.block⟩
theorem Upd.drew {S : Nat → Prop} {w w' : World} (h : Upd S w w') : Upd S w w'.drew := ⟨h.os, h.tape, h.output, h.size, h.block⟩
theorem Upd.then {S S' : Nat → Prop} {w w1 w2 : World} (h : Upd S w w1) (k : Upd S' w1 w2) (hs : ∀ b, S' b → S b ∨ w.heap.size ≤ b) : Upd S w w2 := by
  refine ⟨k.os.trans h.os, k.tape.trans h.tape, k.output.trans h.output, Nat.le_trans h.size k.size, fun b hb hn => ?_⟩
  rw [k.block b (Nat.lt_of_lt_of_le hb h.size) (fun hc => ?_), h.block b hb hn]
  rcases hs b hc with h1 | h1
  · exact hn h1
  · exact absurd hb (Nat.not_lt.2 h1)
theorem Upd.trans {S : Nat → Prop} {w w1 w2 : World} (h : Upd S w w1) (k : Upd S w1 w2) : Upd S w w2 := h.then k fun _ hb => .inl hb
theorem Upd.mono {S S' : Nat → Prop} {w w1 : World} (h : Upd S w w1) (hs : ∀ b, S b → S' b) : Upd S' w w1 := ⟨h.os, h.tape, h.output, h.size, fun b hb hn => h.block b hb fun hc => hn (hs b hc)⟩
theorem Upd.of_none {S : Nat → Prop} {w w1 : World} (h : Upd NoB w w1) : Upd S w w1 := h.mono fun _ hb => hb.elim
theorem Upd.then_none {S : Nat → Prop} {w w1 w2 : World} (h : Upd S w w1) (k : Upd NoB w1 w2) : Upd S w w2 := h.then k fun _ hb => hb.elim
theorem Upd.alloc {S : Nat → Prop} {w w1 : World} (h : Upd S w w1) (o : Obj) : Upd S w (w1.alloc o) :=
  ⟨h.os, h.tape, h.output, by simp; exact Nat.le_succ_of_le h.size, fun b hb hn => by rw [Below.heap_alloc w1 o b (Nat.lt_of_lt_of_le hb h.size)]; exact h.block b hb hn⟩
theorem Upd.setCell {S : Nat → Prop} {w w1 : World} (h : Upd S w w1) {a : Addr} (ha : S a.block ∨ w.heap.size ≤ a.block) (u : Value) : Upd S w (w1.setCell a u) := by
  refine ⟨h.os, h.tape, h.output, by simp [World.setCell]; exact h.size, fun b hb hn => ?_⟩
  rw [Below.heap_setCell w1 a u b (by rintro rfl; exact ha.elim hn fun h1 => absurd hb (Nat.not_lt.2 h1))]
  exact h.block b hb hn
theorem Upd.setOne {g : Nat} {w w1 : World} (h : Upd (OneB g) w w1) (j : Nat) (u : Value) : Upd (OneB g) w (w1.setCell ⟨g, j, none⟩ u) := h.setCell (a := ⟨g, j, none⟩) (.inl (show OneB g g from rfl)) u
theorem Upd.of_grown {w w1 : World} {row : Option Nat} (hg : w.grownBy w1 row) : Upd (fun b => row = some b) w w1 :=
  ⟨hg.os, hg.tape, hg.output, hg.size, fun b hb hn => hg.block b hb fun hc => hn hc.symm⟩
theorem Upd.grown {S : Nat → Prop} {w w1 w2 : World} {row : Option Nat} (h : Upd S w w1) (hg : w1.grownBy w2 row) (hr : ∀ b, row = some b → S b ∨ w.heap.size ≤ b) : Upd S w w2 := h.then (Upd.of_grown hg) hr
theorem Upd.below {w w1 : World} (h : Upd NoB w w1) : Below w.heap.size w w1 := ⟨h.os, h.tape, h.output, h.size, fun b hb => h.block b hb fun hc => hc.elim⟩
theorem Upd.of_below {w w1 : World} (h : Below w.heap.size w w1) : Upd NoB w w1 := ⟨h.os, h.tape, h.output, h.size, fun b hb _ => h.block b hb⟩
theorem Upd.cell {S : Nat → Prop} {w w1 : World} (h : Upd S w w1) {a : Addr} {v : Value} (hc : w.cell? a = some v) (hn : ¬ S a.block) : w1.cell? a = some v :=
  (World.cell?_of_block (h.block a.block (World.block_lt_of_cell? w a hc) hn)).trans hc
theorem Upd.blk {S : Nat → Prop} {w w1 : World} (h : Upd S w w1) {b : Nat} {o : Obj} (hb : w.heap[b]? = some o) (hn : ¬ S b) : w1.heap[b]? = some o :=
  (h.block b (Array.getElem?_eq_some_iff.1 hb).1 hn).trans hb
theorem Upd.own {S : Nat → Prop} {w w1 : World} (h : Upd S w w1) {base : Nat} {e : TypeId} {size : Nat} {v : Value} {n : Nat} {xs : List Value} (ho : w.ownsRow base e size v n xs) (hn : ∀ b, v.ownBlock = some b → ¬ S b) : w1.ownsRow base e size v n xs := by
  refine ⟨ho.1, ?_⟩
  rcases ho.2 with h0 | ⟨g, cap, cur, rfl, hb, hgg, rest⟩
  · exact .inl h0
  · exact .inr ⟨g, cap, cur, rfl, hb, h.blk hgg (hn g rfl), rest⟩

/-- A new block of w1 reads whole. -/
theorem blk_new (w : World) (o : Obj) : (w.alloc o).heap[w.heap.size]? = some o := heap_alloc_new w o

/-! ### The reader of the reference: a block of two cells -/
/-- At block g lies a reader over s at place j. -/
structure RS (T g : Nat) (s : ByteArray) (j : Nat) (w : World) : Prop where
  blk : w.heap[g]? = some (.cells #[.string s, .int .i64 (j : Int)] T (0, 0))
theorem RS.c0 {T g j : Nat} {s : ByteArray} {w : World} (h : RS T g s j w) : w.cell? ⟨g, 0, none⟩ = some (.string s) := by rw [cell_of_row w g 0 _ _ _ h.blk]; rfl
theorem RS.c1 {T g j : Nat} {s : ByteArray} {w : World} (h : RS T g s j w) : w.cell? ⟨g, 1, none⟩ = some (.int .i64 (j : Int)) := by rw [cell_of_row w g 1 _ _ _ h.blk]; rfl
theorem RS.fz {T g j : Nat} {s : ByteArray} {w : World} (h : RS T g s j w) : w.frozen? ⟨g, 1, none⟩ = false := frozen_of_row w g 1 _ _ h.blk
theorem RS.lt {T g j : Nat} {s : ByteArray} {w : World} (h : RS T g s j w) : g < w.heap.size := (Array.getElem?_eq_some_iff.1 h.blk).1
theorem RS.set {T g j : Nat} {s : ByteArray} {w : World} (h : RS T g s j w) (k : Nat) : RS T g s k (w.setCell ⟨g, 1, none⟩ (.int .i64 (k : Int))) := ⟨by rw [heap_setCell_same w g 1 _ _ _ h.blk]; rfl⟩
theorem RS.drewN {T g j : Nat} {s : ByteArray} {w : World} (h : RS T g s j w) (n : Nat) : RS T g s j (w.drewN n) := ⟨h.blk⟩
theorem RS.drew {T g j : Nat} {s : ByteArray} {w : World} (h : RS T g s j w) : RS T g s j w.drew := ⟨h.blk⟩
theorem RS.upd {T g j : Nat} {s : ByteArray} {w w1 : World} {S : Nat → Prop} (h : RS T g s j w) (u : Upd S w w1) (hn : ¬ S g) : RS T g s j w1 := ⟨u.blk h.blk hn⟩

/-- The byte at a place, as a number. -/
def bAt (s : ByteArray) (i : Nat) : Nat := if h : i < s.size then (s[i]).toNat else 0
theorem bAt_eq {s : ByteArray} {i : Nat} (h : i < s.size) : bAt s i = (s[i]).toNat := by simp [bAt, h]
/-- Laid ahead of a walk: it speaks of bAt alone. -/
theorem get_bAt (s : ByteArray) : ∀ (n : Nat) (h : n < s.size), ((s[n]'h).toNat : Int) = (bAt s n : Int) := fun n h => by rw [bAt_eq h]
theorem bAt_le (s : ByteArray) (i : Nat) : bAt s i ≤ 255 := by
  unfold bAt
  split
  · have := (s[i]).toNat_lt; omega
  · omega

/-- A blank of RFC 8259. -/
def isBl (c : Int) : Bool := c == 32 || c == 9 || c == 10 || c == 13

end Go.Proofs.YtkocponnjfkchaaGreatDoor
