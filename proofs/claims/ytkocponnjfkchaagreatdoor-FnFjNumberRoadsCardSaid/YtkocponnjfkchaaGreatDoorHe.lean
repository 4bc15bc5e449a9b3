/- fastjson's small functions at a number: errors, a value of the cache, its type; the reference's IsNumber. -/
import Derived.Test.YtkocponnjfkchaaGreatDoorRn
import Derived.Test.YtkocponnjfkchaaGreatDoorHd
import Derived.Deep.AppendLies
import Derived.Deep.RegionHeld3
namespace Go.Proofs.YtkocponnjfkchaaGreatDoor
open Go.RowKit

/-- An error that is not nil. -/
def isErr (v : Value) : Prop := ∃ t x, v = .iface t x
theorem err_new (s : ByteArray) (w : World) :
    Calls Tryz.prog 21 #[.string s] w fun e w' => e = .returned (.iface 76 (.pointer (some ⟨w.heap.size, 0, none⟩))) ∧ Upd NoB w w' := by
  go_enter Tryz.func21, Tryz.ntmps21
  go_wp2_with fail
  go_ret
  exact ⟨rfl, (Upd.refl NoB w).alloc _⟩

/-- A value of text s and kind t lies at block B. -/
def VW (B : Nat) (s : ByteArray) (t : Int) (w : World) : Prop := ∃ cur : Array Value, w.heap[B]? = some (.cells cur 63 (0, 0)) ∧ cur[3]? = some (.string s) ∧ cur[4]? = some (.int .i64 t)
theorem VW.upd {B : Nat} {s : ByteArray} {t : Int} {w w' : World} {S : Nat → Prop} (h : VW B s t w) (u : Upd S w w') (hs : ¬ S B) : VW B s t w' := by
  obtain ⟨cur, h1, h2⟩ := h
  exact ⟨cur, u.blk h1 hs, h2⟩
theorem VW.cells {B : Nat} {s : ByteArray} {t : Int} {w : World} (h : VW B s t w) : (w.cell? ⟨B, 3, none⟩ = some (.string s) ∧ w.cell? ⟨B, 4, none⟩ = some (.int .i64 t)) ∧ w.frozen? ⟨B, 3, none⟩ = false ∧ w.frozen? ⟨B, 4, none⟩ = false := by
  obtain ⟨cur, h1, h2, h3⟩ := h
  exact ⟨⟨by rw [cell_of_row w B 3 _ _ _ h1]; exact h2, by rw [cell_of_row w B 4 _ _ _ h1]; exact h3⟩, frozen_of_row w B 3 _ _ h1, frozen_of_row w B 4 _ _ h1⟩
theorem VW.setT {B : Nat} {s : ByteArray} {t : Int} {w : World} (h : VW B s t w) (t' : Int) : VW B s t' (w.setCell ⟨B, 4, none⟩ (.int .i64 t')) := by
  obtain ⟨cur, h1, h2, h3⟩ := h
  have hlt : 4 < cur.size := (Array.getElem?_eq_some_iff.1 h3).1
  refine ⟨_, heap_setCell_same w B 4 _ _ _ h1, ?_, ?_⟩
  · rw [Array.getElem?_setIfInBounds]
    rw [if_neg (by omega)]
    exact h2
  · rw [Array.getElem?_setIfInBounds]
    rw [if_pos rfl, if_pos hlt]
theorem VW.setS {B : Nat} {s : ByteArray} {t : Int} {w : World} (h : VW B s t w) (s' : ByteArray) : VW B s' t (w.setCell ⟨B, 3, none⟩ (.string s')) := by
  obtain ⟨cur, h1, h2, h3⟩ := h
  have hlt : 3 < cur.size := (Array.getElem?_eq_some_iff.1 h2).1
  refine ⟨_, heap_setCell_same w B 3 _ _ _ h1, ?_, ?_⟩
  · rw [Array.getElem?_setIfInBounds]
    rw [if_pos rfl, if_pos hlt]
  · rw [Array.getElem?_setIfInBounds]
    rw [if_neg (by omega)]
    exact h3
theorem VW.lt {B : Nat} {s : ByteArray} {t : Int} {w : World} (h : VW B s t w) : B < w.heap.size := by
  obtain ⟨cur, h1, _⟩ := h
  exact (Array.getElem?_eq_some_iff.1 h1).1

theorem infoVal : (Tryz.prog.info? 63).map (fun i => (i.zero, i.size, i.bytes)) = some (some (.agg #[.slice none 0 0, .bool false, .slice none 0 0, .string ByteArray.empty, .int .i64 0]), 5, 80) := by kernel_rfl
/-- The cells of a new value. -/
def valC : List Value := [.slice none 0 0, .bool false, .slice none 0 0, .string ByteArray.empty, .int .i64 0]
/-- append(nil, Value{}), at a step of a plain region. -/
theorem wpList_app_val {w : World} {ops : Array Oper} {rest : List Oper} {o : Oper} {a : Act} {Q : Exit → Act → World → Prop} (hgd : o.guard = none) (sl x : Operand)
    (ho : o.op = .call { callee := .builtin .append, args := #[sl, x], argTypes := #[35, 35] })
    (hs : a.eval sl = .slice none 0 0) (ad : Addr) (hx : a.eval x = .slice (some ad) 1 1) (hnews : ∀ j u, valC[j]? = some u → w.cell? (ad.add j) = some u)
    (h : ∀ cap w', VW w.heap.size ByteArray.empty 0 w' → 1 ≤ cap → Upd NoB w w' → wpList Tryz.prog ops Q rest (a.put o.dst (.slice (some ⟨w.heap.size, 0, none⟩) 1 cap)) w') : wpList Tryz.prog ops Q (o :: rest) a w := by
  obtain ⟨i0, hi0, hz0, hz1, hz2⟩ := info_parts infoVal
  refine wpList_append_lies w hgd sl x 35 ho 0 63 i0 _ 5 80 Tryz.underlying35 hi0 hz0 hz1 hz2 rfl (by decide) (.slice none 0 0) 0 [] hs (World.ownsRow_nil w 0 _ 5) ad 1 1 valC hx rfl hnews
    (by intro u hu; simp only [valC, List.mem_cons, List.not_mem_nil, or_false] at hu; rcases hu with rfl | rfl | rfl | rfl | rfl <;> rfl)
    (by decide) (by unfold maxLen; omega) (by omega) (Nat.zero_le _) w.heap.size rfl ?_
  intro g cap w' ho' hg' hat _
  obtain rfl : g = w.heap.size := by
    rcases hat with e | e
    · simp [Value.ownBlock] at e
    · exact e
  rw [Nat.zero_add, List.nil_append] at ho'
  have hu := Upd.of_grown hg'
  rcases ho'.2 with ⟨h0, _⟩ | ⟨g, cap', cur, he, _, hh, hc, _⟩
  · cases h0
  · injection he with e1 e2 e3
    injection e1 with e1
    injection e1 with e1
    subst e1 e3
    refine h cap w' ⟨cur, hh, ?_, ?_⟩ hc (hu.mono fun b hb => by simp [Value.ownBlock] at hb)
    · have := World.ownsRow.cellAt ho' 3 (by decide)
      rw [cell_of_row w' _ 3 _ _ _ hh] at this
      exact this
    · have := World.ownsRow.cellAt ho' 4 (by decide)
      rw [cell_of_row w' _ 4 _ _ _ hh] at this
      exact this

theorem cells_lit (w : World) (cs : List Value) (t : TypeId) (a : Addr) (h : a = ⟨w.heap.size, 0, none⟩) : ∀ j u, cs[j]? = some u → (w.alloc (.cells cs.toArray t)).cell? (a.add j) = some u := by
  subst h
  intro j u hj
  have hadd : (⟨w.heap.size, 0, none⟩ : Addr).add j = ⟨w.heap.size, j, none⟩ := by unfold Addr.add; split <;> simp_all
  rw [hadd, cell_of_row _ _ j cs.toArray t (0, 0) (heap_alloc_new w _)]
  simpa using hj
theorem two_cells {w : World} {B T : Nat} {a b : Value} (h : w.heap[B]? = some (.cells #[a, b] T (0, 0))) :
    (w.cell? ⟨B, 0, none⟩ = some a ∧ w.cell? ⟨B, 1, none⟩ = some b) ∧ w.frozen? ⟨B, 0, none⟩ = false ∧ w.frozen? ⟨B, 1, none⟩ = false := by
  refine ⟨⟨?_, ?_⟩, frozen_of_row w B 0 _ _ h, frozen_of_row w B 1 _ _ h⟩
  · rw [cell_of_row w B 0 _ _ _ h]; rfl
  · rw [cell_of_row w B 1 _ _ _ h]; rfl
set_option maxHeartbeats 4000000 in
set_option maxRecDepth 4000 in
theorem getV_any (g T : Nat) (x : Value) (w : World) (hb : w.heap[g]? = some (.cells #[x, .slice none 0 0] T (0, 0))) :
    Calls Tryz.prog 19 #[.pointer (some ⟨g, 1, none⟩)] w fun e w' => ∃ B, e = .returned (.pointer (some ⟨B, 0, none⟩)) ∧ VW B ByteArray.empty 0 w' ∧ w.heap.size ≤ B ∧ (∃ sl, w'.heap[g]? = some (.cells #[x, sl] T (0, 0))) ∧ Upd (OneB g) w w' := by
  have HB := Lib.hid hb; clear hb
  have hg : g < w.heap.size := (Array.getElem?_eq_some_iff.1 HB.out).1
  obtain ⟨⟨c0, c1⟩, f0, f1⟩ := two_cells HB.out
  go_enter Tryz.func19, Tryz.ntmps19
  go_wp2_with fail
  go_region_held3 (fun w' => w'.cell? ⟨g, 1, none⟩ = some (.slice none 0 0)) (first | (go_keep; done)) (fail)
  all_goals
    have c1' : w.drew.cell? ⟨g, 1, none⟩ = some (.slice none 0 0) := c1
    have f1' : w.drew.frozen? ⟨g, 1, none⟩ = false := f1
    go_upto_region 3 with (fail)
    have HNews := Lib.hid (cells_lit w.drew valC 63 ⟨w.heap.size, 0, none⟩ rfl)
    go_wp2_with (at_builtin; refine wpList_app_val rfl _ _ rfl rfl ⟨w.heap.size, 0, none⟩ rfl ?hnews ?_)
    case hnews => exact HNews.out
    intro cap w2 hv hcap hu
    have hu2 : Upd NoB w w2 := ((Upd.refl NoB w).drew.alloc _).trans hu
    have hB2 := hu2.blk HB.out (fun h => h)
    obtain ⟨⟨d0, d1⟩, e0, e1⟩ := two_cells hB2
    have hB3 : (w2.setCell ⟨g, 1, none⟩ (.slice (some ⟨w.heap.size + 1, 0, none⟩) 1 cap)).heap[g]? = some (.cells #[x, .slice (some ⟨w.heap.size + 1, 0, none⟩) 1 cap] T (0, 0)) := by
      rw [heap_setCell_same w2 g 1 _ _ _ hB2]; rfl
    have hv : VW (w.heap.size + 1) ByteArray.empty 0 w2 := by simpa using hv
    have HV : Hid (VW (w.heap.size + 1) ByteArray.empty 0 (w2.setCell ⟨g, 1, none⟩ (.slice (some ⟨w.heap.size + 1, 0, none⟩) 1 cap))) := Lib.hid (hv.upd ((Upd.refl (OneB g) w2).setOne 1 _) (fun h => by have : w.heap.size + 1 = g := h; omega))
    have HU : Hid (Upd (OneB g) w (w2.setCell ⟨g, 1, none⟩ (.slice (some ⟨w.heap.size + 1, 0, none⟩) 1 cap))) := Lib.hid ((hu2.of_none).setOne 1 _)
    have hcap' : (1 : Int) ≤ (cap : Int) := by omega
    obtain ⟨⟨_, g1⟩, _⟩ := two_cells hB3
    have HB3 := Lib.hid hB3
    clear hv hu hu2 hB2 hB3 c1' f1' c0 c1 f0 f1
    go_wp2_with fail
    go_quiet (fail)
    all_goals
      go_wp2_with fail
      go_ret
      exact ⟨w.heap.size + 1, rfl, HV.out.upd ((Upd.refl NoB _).drewN _) (fun h => h), by omega, ⟨_, ((Upd.refl NoB _).drewN _).blk HB3.out (fun h => h)⟩, HU.out.drewN _⟩
end Go.Proofs.YtkocponnjfkchaaGreatDoor
