/- A scope in which the run jumps forward to labels. No program. -/
import Derived.Test.YtkocponnjfkchaaGreatDoorBase
import Derived.WalkMore
import Derived.ScopeJumps
namespace Go.Proofs.YtkocponnjfkchaaGreatDoor
open Go.RowKit

/-- As Q; by a goto to label l: J l. -/
def jumps (J : Nat → Act → World → Prop) (Q : Exit → Act → World → Prop) : Exit → Act → World → Prop
  | .goto l, a, w => J l a w
  | e, a, w => Q e a w
theorem jumps_ret {J : Nat → Act → World → Prop} {Q : Exit → Act → World → Prop} {a : Act} {w : World} : jumps J Q .ret a w = Q .ret a w := rfl
theorem jumps_normal {J : Nat → Act → World → Prop} {Q : Exit → Act → World → Prop} {a : Act} {w : World} : jumps J Q .normal a w = Q .normal a w := rfl

theorem results_tmp7 {fn : Func} {t1 t2 t3 t4 t5 t6 t7 : Tmp} (h : fn.results = #[.tmp t1, .tmp t2, .tmp t3, .tmp t4, .tmp t5, .tmp t6, .tmp t7]) (tmps : Array Value) (P : Program) (w : World) :
    (results fn tmps).run P w = .ok (.tuple #[tmps.getD t1 undef, tmps.getD t2 undef, tmps.getD t3 undef, tmps.getD t4 undef, tmps.getD t5 undef, tmps.getD t6 undef, tmps.getD t7 undef]) w := by
  simp [results, h]

section
variable {P : Program} {a : Act} {w : World} {Q : Exit → Act → World → Prop}
theorem wp_scope_down {c : Code} (J : Nat → Act → World → Prop) (first : c.wp P (jumps J Q) a w)
    (pass : ∀ l a w, J l a w → ∃ rest, findLabel c l = some rest ∧ rest.wp P (jumps (fun l' a' w' => l' < l ∧ J l' a' w') Q) a w) : (Code.scope c).wp P Q a w := by
  intro b k cs
  have key : ∀ n a w, J n a w → ∃ rest, findLabel c n = some rest ∧ ∃ e a' w', Q e a' w' ∧ Arrives P (lone (b.at a (.code rest :: .inScope c :: k)) cs w) b k cs e a' w' := by
    intro n
    induction n using Nat.strongRecOn with
    | _ n ih =>
      intro a w hJ
      obtain ⟨rest, hf, hp⟩ := pass n a w hJ
      refine ⟨rest, hf, ?_⟩
      obtain ⟨e, a₁, w₁, hq, harr⟩ := hp b (.inScope c :: k) cs
      cases e with
      | normal => exact ⟨.normal, a₁, w₁, hq, Steps.trans harr (.one step_inScope)⟩
      | exit id => exact ⟨.exit id, a₁, w₁, hq, fun k' hk => harr k' (by simp [exitTo, hk])⟩
      | goto l' =>
        obtain ⟨hlt, hJ'⟩ := hq
        obtain ⟨rest', hf', e₂, a₂, w₂, hq₂, harr₂⟩ := ih l' hlt a₁ w₁ hJ'
        exact ⟨e₂, a₂, w₂, hq₂, .of_steps (harr _ (by simp [gotoIn, hf'])) harr₂⟩
      | ret => exact ⟨_, a₁, w₁, hq, harr⟩
      | panic ch => exact ⟨_, a₁, w₁, hq, harr⟩
      | outgrown => exact ⟨_, a₁, w₁, hq, harr⟩
  obtain ⟨e, a₁, w₁, hq, harr⟩ := first b (.inScope c :: k) cs
  cases e with
  | normal => exact ⟨.normal, a₁, w₁, hq, .head step_scope (Steps.trans harr (.one step_inScope))⟩
  | exit id => exact ⟨.exit id, a₁, w₁, hq, fun k' hk => .head step_scope (harr k' (by simp [exitTo, hk]))⟩
  | goto l' =>
    obtain ⟨rest', hf', e₂, a₂, w₂, hq₂, harr₂⟩ := key _ a₁ w₁ hq
    exact ⟨e₂, a₂, w₂, hq₂, .of_steps (.head step_scope (harr _ (by simp [gotoIn, hf']))) harr₂⟩
  | ret => exact ⟨_, a₁, w₁, hq, .of_steps (.one step_scope) harr⟩
  | panic ch => exact ⟨_, a₁, w₁, hq, .of_steps (.one step_scope) harr⟩
  | outgrown => exact ⟨_, a₁, w₁, hq, .of_steps (.one step_scope) harr⟩

/-- What label 0 asks: its own rest, without a further goto. -/
def lab0 (P : Program) (r0 : Code) (Q : Exit → Act → World → Prop) (a : Act) (w : World) : Prop := r0.wp P (jumps (fun _ _ _ => False) Q) a w
def lab1 (P : Program) (r0 r1 : Code) (Q : Exit → Act → World → Prop) (a : Act) (w : World) : Prop := r1.wp P (jumps (fun l a w => l = 0 ∧ lab0 P r0 Q a w) Q) a w
theorem wp_scope_one {c r0 : Code} (l0 : Nat) (h0 : findLabel c l0 = some r0) (first : c.wp P (jumps (fun l a w => l = l0 ∧ lab0 P r0 Q a w) Q) a w) : (Code.scope c).wp P Q a w := by
  refine wp_scope_down (fun l a w => l = l0 ∧ lab0 P r0 Q a w) first ?_
  rintro l a w ⟨rfl, h⟩
  refine ⟨r0, h0, ?_⟩
  unfold lab0 at h
  refine wp_mono h fun e a w hq => ?_
  cases e <;> first | exact hq | exact hq.elim
theorem wp_scope_two {c r0 r1 : Code} (h0 : findLabel c 0 = some r0) (h1 : findLabel c 1 = some r1)
    (first : c.wp P (jumps (fun l a w => (l = 0 ∧ lab0 P r0 Q a w) ∨ (l = 1 ∧ lab1 P r0 r1 Q a w)) Q) a w) : (Code.scope c).wp P Q a w := by
  refine wp_scope_down _ first ?_
  rintro l a w (⟨rfl, h⟩ | ⟨rfl, h⟩)
  · refine ⟨r0, h0, ?_⟩
    unfold lab0 at h
    refine wp_mono h fun e a w hq => ?_
    cases e <;> first | exact hq | exact hq.elim
  · refine ⟨r1, h1, ?_⟩
    unfold lab1 at h
    refine wp_mono h fun e a w hq => ?_
    cases e <;> first | exact hq | (obtain ⟨rfl, h⟩ := hq; exact ⟨by omega, .inl ⟨rfl, h⟩⟩)
end
end Go.Proofs.YtkocponnjfkchaaGreatDoor
