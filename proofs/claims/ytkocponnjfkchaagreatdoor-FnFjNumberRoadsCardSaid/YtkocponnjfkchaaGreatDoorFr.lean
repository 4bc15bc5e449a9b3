/- Large frames whose slots are given by one function: cuts and loops with few binders (the kernel's cost of a cut grows with the number of binders). No program. -/
import Derived.Test.YtkocponnjfkchaaGreatDoorBase
namespace Go.Proofs.YtkocponnjfkchaaGreatDoor
open Go.RowKit

/-- The value of a slot in a list. -/
def slotOf : List Value → Nat → Value
  | [], _ => .bool false
  | v :: _, 0 => v
  | _ :: vs, n + 1 => slotOf vs n
theorem slots_eq : ∀ (l : List Value), l = (List.range l.length).map (slotOf l)
  | [] => rfl
  | v :: vs => by
    rw [List.length_cons, List.range_succ_eq_map, List.map_cons, List.map_map]
    exact congrArg (List.cons v) (slots_eq vs)
/-- A frame of n slots that hold what g says, of which R holds. -/
def FR (n : Nat) (R : (Nat → Value) → World → Prop) (a : Act) (w : World) : Prop := ∃ g : Nat → Value, a = ⟨((List.range n).map g).toArray, []⟩ ∧ R g w
theorem FR.intro {n : Nat} {R : (Nat → Value) → World → Prop} {l : List Value} {w : World} (hn : (l.length == n) = true) (h : R (slotOf l) w) : FR n R ⟨l.toArray, []⟩ w := by
  have e : l.length = n := by simpa using hn
  exact ⟨slotOf l, by subst e; exact congrArg (fun x => Act.mk x.toArray []) (slots_eq l), h⟩
theorem FR.rest {n : Nat} {R : (Nat → Value) → World → Prop} {X : Act → World → Prop} (h : ∀ g w, R g w → X ⟨((List.range n).map g).toArray, []⟩ w) : ∀ a w, FR n R a w → X a w := by
  rintro a w ⟨g, rfl, hr⟩
  exact h g w hr
end Go.Proofs.YtkocponnjfkchaaGreatDoor
