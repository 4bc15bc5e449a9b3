/- The reference's IsNumber. -/
import Derived.Test.YtkocponnjfkchaaGreatDoorRn
namespace Go.Proofs.YtkocponnjfkchaaGreatDoor
open Go.RowKit

/-- What IsNumber returns. -/
def IsNumRet (s : ByteArray) (w : World) (e : Ending) (w' : World) : Prop := ∃ b : Bool, e = .returned (.bool b) ∧ (b = true → PNum s 0 s.size) ∧ Upd NoB w w'
set_option maxHeartbeats 1000000 in
theorem IsNumber_any (s : ByteArray) (w : World) (hs : s.size ≤ 1099511627776) :
    Calls Tryz.prog 4 #[.string s] w (IsNumRet s w) := by
  have hR : RS 32 w.heap.size s 0 (w.alloc (.cells #[.string s, .int .i64 0] 32)) := ⟨heap_alloc_new w _⟩
  have HN := Lib.hid (number_any w.heap.size s 0 _ hs hR (Nat.zero_le _))
  clear hR
  go_enter Tryz.func4, Tryz.ntmps4
  go_wp2_with fail
  refine HN.out.mono ?_
  rintro e w1 ⟨b, j, rfl, hrs, hu, _, _, hp, _⟩
  have hu1 : Upd NoB w w1 := ((Upd.refl NoB w).alloc _).then hu (fun b hb => .inr (by have : b = w.heap.size := hb; omega))
  have HU := Lib.hid hu1
  have c1 := hrs.c1
  clear hu hu1 hrs
  cases b
  · clear hp
    go_wp2_with fail
    go_ret
    exact ⟨false, rfl, (fun h => by cases h), HU.out⟩
  by_cases hj : j = s.size
  · have hp' := Lib.hid (hp rfl)
    have e1 : ((j : Int) == (s.size : Int)) = true := by rw [hj]; exact beq_self_eq_true _
    have HJ := Lib.hid hj; clear hj hp
    go_wp2_with fail
    go_ret
    exact ⟨true, rfl, (fun _ => by have := hp'.out; rw [HJ.out] at this; exact this), HU.out⟩
  · have e1 : ((j : Int) == (s.size : Int)) = false := beq_eq_false_iff_ne.2 (by omega)
    clear hj hp
    go_wp2_with fail
    go_ret
    exact ⟨false, rfl, (fun h => by cases h), HU.out⟩
end Go.Proofs.YtkocponnjfkchaaGreatDoor
