/- The package's arrayOrMap on an array: the blocks of its own, and its frame. -/
import Derived.Test.YtggdcpmampjncaaGreatDoorGj7
namespace Go.Proofs.YtggdcpmampjncaaGreatDoor
open Go.RowKit

/-- The frame of arrayOrMap. -/
theorem lit289 (g : Nat → Value) : ((List.range 289).map g).toArray = #[g 0, g 1, g 2, g 3, g 4, g 5, g 6, g 7, g 8, g 9, g 10, g 11, g 12, g 13, g 14, g 15, g 16, g 17, g 18, g 19, g 20, g 21, g 22, g 23, g 24, g 25, g 26, g 27, g 28, g 29, g 30, g 31, g 32, g 33, g 34, g 35, g 36, g 37, g 38, g 39, g 40, g 41, g 42, g 43, g 44, g 45, g 46, g 47, g 48, g 49, g 50, g 51, g 52, g 53, g 54, g 55, g 56, g 57, g 58, g 59, g 60, g 61, g 62, g 63, g 64, g 65, g 66, g 67, g 68, g 69, g 70, g 71, g 72, g 73, g 74, g 75, g 76, g 77, g 78, g 79, g 80, g 81, g 82, g 83, g 84, g 85, g 86, g 87, g 88, g 89, g 90, g 91, g 92, g 93, g 94, g 95, g 96, g 97, g 98, g 99, g 100, g 101, g 102, g 103, g 104, g 105, g 106, g 107, g 108, g 109, g 110, g 111, g 112, g 113, g 114, g 115, g 116, g 117, g 118, g 119, g 120, g 121, g 122, g 123, g 124, g 125, g 126, g 127, g 128, g 129, g 130, g 131, g 132, g 133, g 134, g 135, g 136, g 137, g 138, g 139, g 140, g 141, g 142, g 143, g 144, g 145, g 146, g 147, g 148, g 149, g 150, g 151, g 152, g 153, g 154, g 155, g 156, g 157, g 158, g 159, g 160, g 161, g 162, g 163, g 164, g 165, g 166, g 167, g 168, g 169, g 170, g 171, g 172, g 173, g 174, g 175, g 176, g 177, g 178, g 179, g 180, g 181, g 182, g 183, g 184, g 185, g 186, g 187, g 188, g 189, g 190, g 191, g 192, g 193, g 194, g 195, g 196, g 197, g 198, g 199, g 200, g 201, g 202, g 203, g 204, g 205, g 206, g 207, g 208, g 209, g 210, g 211, g 212, g 213, g 214, g 215, g 216, g 217, g 218, g 219, g 220, g 221, g 222, g 223, g 224, g 225, g 226, g 227, g 228, g 229, g 230, g 231, g 232, g 233, g 234, g 235, g 236, g 237, g 238, g 239, g 240, g 241, g 242, g 243, g 244, g 245, g 246, g 247, g 248, g 249, g 250, g 251, g 252, g 253, g 254, g 255, g 256, g 257, g 258, g 259, g 260, g 261, g 262, g 263, g 264, g 265, g 266, g 267, g 268, g 269, g 270, g 271, g 272, g 273, g 274, g 275, g 276, g 277, g 278, g 279, g 280, g 281, g 282, g 283, g 284, g 285, g 286, g 287, g 288] := by kernel_rfl
theorem cells5 {w : World} {B T : Nat} {a b c d e : Value} (h : w.heap[B]? = some (.cells #[a, b, c, d, e] T (0, 0))) :
    (w.cell? ⟨B, 0, none⟩ = some a ∧ w.cell? ⟨B, 1, none⟩ = some b ∧ w.cell? ⟨B, 2, none⟩ = some c ∧ w.cell? ⟨B, 3, none⟩ = some d ∧ w.cell? ⟨B, 4, none⟩ = some e) ∧
    (w.frozen? ⟨B, 0, none⟩ = false ∧ w.frozen? ⟨B, 1, none⟩ = false ∧ w.frozen? ⟨B, 2, none⟩ = false ∧ w.frozen? ⟨B, 3, none⟩ = false ∧ w.frozen? ⟨B, 4, none⟩ = false) := by
  refine ⟨⟨?_, ?_, ?_, ?_, ?_⟩, frozen_of_row w B 0 _ _ h, frozen_of_row w B 1 _ _ h, frozen_of_row w B 2 _ _ h, frozen_of_row w B 3 _ _ h, frozen_of_row w B 4 _ _ h⟩
  · rw [cell_of_row w B 0 _ _ _ h]; rfl
  · rw [cell_of_row w B 1 _ _ _ h]; rfl
  · rw [cell_of_row w B 2 _ _ _ h]; rfl
  · rw [cell_of_row w B 3 _ _ _ h]; rfl
  · rw [cell_of_row w B 4 _ _ _ h]; rfl
theorem cells6 {w : World} {B T : Nat} {a b c d e f : Value} (h : w.heap[B]? = some (.cells #[a, b, c, d, e, f] T (0, 0))) :
    (w.cell? ⟨B, 0, none⟩ = some a ∧ w.cell? ⟨B, 1, none⟩ = some b ∧ w.cell? ⟨B, 2, none⟩ = some c ∧ w.cell? ⟨B, 3, none⟩ = some d ∧ w.cell? ⟨B, 4, none⟩ = some e ∧ w.cell? ⟨B, 5, none⟩ = some f) ∧
    (w.frozen? ⟨B, 0, none⟩ = false ∧ w.frozen? ⟨B, 1, none⟩ = false ∧ w.frozen? ⟨B, 2, none⟩ = false ∧ w.frozen? ⟨B, 3, none⟩ = false ∧ w.frozen? ⟨B, 4, none⟩ = false ∧ w.frozen? ⟨B, 5, none⟩ = false) := by
  refine ⟨⟨?_, ?_, ?_, ?_, ?_, ?_⟩, frozen_of_row w B 0 _ _ h, frozen_of_row w B 1 _ _ h, frozen_of_row w B 2 _ _ h, frozen_of_row w B 3 _ _ h, frozen_of_row w B 4 _ _ h, frozen_of_row w B 5 _ _ h⟩
  · rw [cell_of_row w B 0 _ _ _ h]; rfl
  · rw [cell_of_row w B 1 _ _ _ h]; rfl
  · rw [cell_of_row w B 2 _ _ _ h]; rfl
  · rw [cell_of_row w B 3 _ _ _ h]; rfl
  · rw [cell_of_row w B 4 _ _ _ h]; rfl
  · rw [cell_of_row w B 5 _ _ _ h]; rfl

/-- The blocks of arrayOrMap's own: the box, the answer, the value, the key. -/
structure AMW (P : Nat) (u : ByteArray) (ix : Int) (v : Value) (vc : Int) (cs : List Value) (l : List Rs) (w0 w : World) : Prop where
  b0 : w.heap[P]? = some (.cells #[.int .i64 5, .string u, .string ByteArray.empty, .float .f64 0, .int .i64 ix, .slice none 0 0] 57 (0, 0))
  b1 : w.heap[P + 1]? = some (.cells #[v, .slice none 0 0, .map none, .map none, .int .u8 vc] 89 (0, 0))
  b2 : w.heap[P + 1 + 1]? = some (.cells cs.toArray 57 (0, 0))
  row : RowR (P + 4) w v l
  up : Upd NoB w0 w
  hB : w0.heap.size = P
  sz : P + 4 ≤ w.heap.size
section
variable {P : Nat} {u : ByteArray} {ix : Int} {v : Value} {vc : Int} {cs : List Value} {l : List Rs} {w0 w w1 : World}
theorem AMW.keep (h : AMW P u ix v vc cs l w0 w) (k : Upd NoB w w1) : AMW P u ix v vc cs l w0 w1 :=
  ⟨k.blk h.b0 fun hc => hc.elim, k.blk h.b1 fun hc => hc.elim, k.blk h.b2 fun hc => hc.elim, h.row.upd k (fun _ _ _ hc => hc.elim), h.up.trans k, h.hB, Nat.le_trans h.sz k.size⟩
theorem AMW.set2 (h : AMW P u ix v vc cs l w0 w) (j : Nat) (x : Value) : AMW P u ix v vc (cs.set j x) l w0 (w.setCell ⟨P + 1 + 1, j, none⟩ x) := by
  have k : Upd (OneB (P + 1 + 1)) w (w.setCell ⟨P + 1 + 1, j, none⟩ x) := (Upd.refl _ _).setOne j x
  refine ⟨k.blk h.b0 fun hc => by have : P = P + 1 + 1 := hc; omega, k.blk h.b1 fun hc => by have : P + 1 = P + 1 + 1 := hc; omega, ?_, h.row.upd k (fun b hb _ hc => by have : b = P + 1 + 1 := hc; omega), h.up.then k (fun b hb => .inr (by have : b = P + 1 + 1 := hb; have := h.hB; omega)), h.hB, Nat.le_trans h.sz k.size⟩
  rw [heap_setCell_same w (P + 1 + 1) j _ _ _ h.b2]
  simp
theorem AMW.setVc (h : AMW P u ix v vc cs l w0 w) (c : Int) : AMW P u ix v c cs l w0 (w.setCell ⟨P + 1, 4, none⟩ (.int .u8 c)) := by
  have k : Upd (OneB (P + 1)) w (w.setCell ⟨P + 1, 4, none⟩ (.int .u8 c)) := (Upd.refl _ _).setOne 4 _
  refine ⟨k.blk h.b0 fun hc => by have : P = P + 1 := hc; omega, ?_, k.blk h.b2 fun hc => by have : P + 1 + 1 = P + 1 := hc; omega, h.row.upd k (fun b hb _ hc => by have : b = P + 1 := hc; omega), h.up.then k (fun b hb => .inr (by have : b = P + 1 := hb; have := h.hB; omega)), h.hB, Nat.le_trans h.sz k.size⟩
  rw [heap_setCell_same w (P + 1) 4 _ _ _ h.b1]
  rfl
theorem AMW.app {v' : Value} {l' : List Rs} (h : AMW P u ix v vc cs l w0 w) (k : Upd (fun b => v.ownBlock = some b) w w1) (r : RowR (P + 4) w1 v' l') : AMW P u ix v' vc cs l' w0 (w1.setCell ⟨P + 1, 0, none⟩ v') := by
  have hb : ∀ b, v.ownBlock = some b → P + 4 ≤ b := fun b hb => (h.row.lt b hb).1
  have k2 : Upd (OneB (P + 1)) w1 (w1.setCell ⟨P + 1, 0, none⟩ v') := (Upd.refl _ _).setOne 0 _
  have hB := h.hB
  refine ⟨k2.blk (k.blk h.b0 fun hc => by have := hb _ hc; omega) fun hc => by have : P = P + 1 := hc; omega, ?_, k2.blk (k.blk h.b2 fun hc => by have := hb _ hc; omega) fun hc => by have : P + 1 + 1 = P + 1 := hc; omega, r.upd k2 (fun b hb _ hc => by have : b = P + 1 := hc; omega), (h.up.then k (fun b hc => .inr (by have := hb _ hc; omega))).then k2 (fun b hb => .inr (by have : b = P + 1 := hb; omega)), h.hB, Nat.le_trans (Nat.le_trans h.sz k.size) k2.size⟩
  rw [heap_setCell_same w1 (P + 1) 0 _ _ _ (k.blk h.b1 fun hc => by have := hb _ hc; omega)]
  rfl
end
theorem AMW.start (w : World) (u : ByteArray) (ix : Int) : AMW w.heap.size u ix (.slice none 0 0) 0 [.int .i64 0, .string ByteArray.empty, .string ByteArray.empty, .float .f64 0, .int .i64 0, .slice none 0 0] [] w
    ((((w.alloc (.cells #[.int .i64 5, .string u, .string ByteArray.empty, .float .f64 0, .int .i64 ix, .slice none 0 0] 57)).alloc (.cells #[.slice none 0 0, .slice none 0 0, .map none, .map none, .int .u8 0] 89)).alloc (.cells #[.int .i64 0, .string ByteArray.empty, .string ByteArray.empty, .float .f64 0, .int .i64 0, .slice none 0 0] 57)).alloc (.cells #[.int .i64 0, .string ByteArray.empty, .string ByteArray.empty, .float .f64 0, .int .i64 0, .slice none 0 0] 57)) := by
  refine ⟨?_, ?_, ?_, ⟨World.ownsRow_nil _ _ _ _, fun b hb => by simp [Value.ownBlock] at hb⟩, ((((Upd.refl _ _).alloc _).alloc _).alloc _).alloc _, rfl, by simp only [World.size_alloc]; omega⟩
  · exact (Below.heap_alloc _ _ w.heap.size (by simp only [World.size_alloc]; omega)).trans ((Below.heap_alloc _ _ w.heap.size (by simp only [World.size_alloc]; omega)).trans ((Below.heap_alloc _ _ w.heap.size (by simp only [World.size_alloc]; omega)).trans (heap_alloc_new w _)))
  · refine (Below.heap_alloc _ _ (w.heap.size + 1) (by simp only [World.size_alloc]; omega)).trans ((Below.heap_alloc _ _ (w.heap.size + 1) (by simp only [World.size_alloc]; omega)).trans ?_)
    have := heap_alloc_new (w.alloc (.cells #[.int .i64 5, .string u, .string ByteArray.empty, .float .f64 0, .int .i64 ix, .slice none 0 0] 57)) (.cells #[.slice none 0 0, .slice none 0 0, .map none, .map none, .int .u8 0] 89)
    rw [World.size_alloc] at this
    exact this
  · refine (Below.heap_alloc _ _ (w.heap.size + 1 + 1) (by simp only [World.size_alloc]; omega)).trans ?_
    have := heap_alloc_new ((w.alloc (.cells #[.int .i64 5, .string u, .string ByteArray.empty, .float .f64 0, .int .i64 ix, .slice none 0 0] 57)).alloc (.cells #[.slice none 0 0, .slice none 0 0, .map none, .map none, .int .u8 0] 89)) (.cells #[.int .i64 0, .string ByteArray.empty, .string ByteArray.empty, .float .f64 0, .int .i64 0, .slice none 0 0] 57)
    rw [World.size_alloc, World.size_alloc] at this
    exact this
end Go.Proofs.YtggdcpmampjncaaGreatDoor
