/- Large frames whose slots are given by one function: cuts and loops with few binders (the kernel's cost of a cut grows with the number of binders). No program. A scope in which the run jumps forward to labels. No program. A scope in which the run jumps to labels, forward and back: what holds at each label, with a measure that every jump lowers. No program. -/
import Derived.Test.YtggdcpmampjncaaGreatDoorBase
import Derived.WalkMore
import Derived.ScopeJumps
namespace Go.Proofs.YtggdcpmampjncaaGreatDoor
open Go.RowKit

/-- The value of a slot in a list. -/
def slotOf : List Value → Nat → Value
  | [], _ => .bool false
  | v :: _, 0 => v
  | _ :: vs, n + 1 => slotOf vs n
theorem slots_eq : ∀ (l : List Value), l = (List.range l.length).map (slotOf l)
  | [] => rfl
  | v :: vs => by
    rw [List.length_cons, List.range_succ_eq_map, List.map_cons, List.map_map]
    exact congrArg (List.cons v) (slots_eq vs)
/-- A frame of n slots that hold what g says, of which R holds. -/
def FR (n : Nat) (R : (Nat → Value) → World → Prop) (a : Act) (w : World) : Prop := ∃ g : Nat → Value, a = ⟨((List.range n).map g).toArray, []⟩ ∧ R g w
theorem FR.intro {n : Nat} {R : (Nat → Value) → World → Prop} {l : List Value} {w : World} (hn : (l.length == n) = true) (h : R (slotOf l) w) : FR n R ⟨l.toArray, []⟩ w := by
  have e : l.length = n := by simpa using hn
  exact ⟨slotOf l, by subst e; exact congrArg (fun x => Act.mk x.toArray []) (slots_eq l), h⟩
theorem FR.rest {n : Nat} {R : (Nat → Value) → World → Prop} {X : Act → World → Prop} (h : ∀ g w, R g w → X ⟨((List.range n).map g).toArray, []⟩ w) : ∀ a w, FR n R a w → X a w := by
  rintro a w ⟨g, rfl, hr⟩
  exact h g w hr
end Go.Proofs.YtggdcpmampjncaaGreatDoor
namespace Go.Proofs.YtggdcpmampjncaaGreatDoor
open Go.RowKit

/-- As Q; by a goto to label l: J l. -/
def jumps (J : Nat → Act → World → Prop) (Q : Exit → Act → World → Prop) : Exit → Act → World → Prop
  | .goto l, a, w => J l a w
  | e, a, w => Q e a w
theorem jumps_ret {J : Nat → Act → World → Prop} {Q : Exit → Act → World → Prop} {a : Act} {w : World} : jumps J Q .ret a w = Q .ret a w := rfl
theorem jumps_normal {J : Nat → Act → World → Prop} {Q : Exit → Act → World → Prop} {a : Act} {w : World} : jumps J Q .normal a w = Q .normal a w := rfl

theorem results_tmp7 {fn : Func} {t1 t2 t3 t4 t5 t6 t7 : Tmp} (h : fn.results = #[.tmp t1, .tmp t2, .tmp t3, .tmp t4, .tmp t5, .tmp t6, .tmp t7]) (tmps : Array Value) (P : Program) (w : World) :
    (results fn tmps).run P w = .ok (.tuple #[tmps.getD t1 undef, tmps.getD t2 undef, tmps.getD t3 undef, tmps.getD t4 undef, tmps.getD t5 undef, tmps.getD t6 undef, tmps.getD t7 undef]) w := by
  simp [results, h]

section
variable {P : Program} {a : Act} {w : World} {Q : Exit → Act → World → Prop}
theorem wp_scope_down {c : Code} (J : Nat → Act → World → Prop) (first : c.wp P (jumps J Q) a w)
    (pass : ∀ l a w, J l a w → ∃ rest, findLabel c l = some rest ∧ rest.wp P (jumps (fun l' a' w' => l' < l ∧ J l' a' w') Q) a w) : (Code.scope c).wp P Q a w := by
  intro b k cs
  have key : ∀ n a w, J n a w → ∃ rest, findLabel c n = some rest ∧ ∃ e a' w', Q e a' w' ∧ Arrives P (lone (b.at a (.code rest :: .inScope c :: k)) cs w) b k cs e a' w' := by
    intro n
    induction n using Nat.strongRecOn with
    | _ n ih =>
      intro a w hJ
      obtain ⟨rest, hf, hp⟩ := pass n a w hJ
      refine ⟨rest, hf, ?_⟩
      obtain ⟨e, a₁, w₁, hq, harr⟩ := hp b (.inScope c :: k) cs
      cases e with
      | normal => exact ⟨.normal, a₁, w₁, hq, Steps.trans harr (.one step_inScope)⟩
      | exit id => exact ⟨.exit id, a₁, w₁, hq, fun k' hk => harr k' (by simp [exitTo, hk])⟩
      | goto l' =>
        obtain ⟨hlt, hJ'⟩ := hq
        obtain ⟨rest', hf', e₂, a₂, w₂, hq₂, harr₂⟩ := ih l' hlt a₁ w₁ hJ'
        exact ⟨e₂, a₂, w₂, hq₂, .of_steps (harr _ (by simp [gotoIn, hf'])) harr₂⟩
      | ret => exact ⟨_, a₁, w₁, hq, harr⟩
      | panic ch => exact ⟨_, a₁, w₁, hq, harr⟩
      | outgrown => exact ⟨_, a₁, w₁, hq, harr⟩
  obtain ⟨e, a₁, w₁, hq, harr⟩ := first b (.inScope c :: k) cs
  cases e with
  | normal => exact ⟨.normal, a₁, w₁, hq, .head step_scope (Steps.trans harr (.one step_inScope))⟩
  | exit id => exact ⟨.exit id, a₁, w₁, hq, fun k' hk => .head step_scope (harr k' (by simp [exitTo, hk]))⟩
  | goto l' =>
    obtain ⟨rest', hf', e₂, a₂, w₂, hq₂, harr₂⟩ := key _ a₁ w₁ hq
    exact ⟨e₂, a₂, w₂, hq₂, .of_steps (.head step_scope (harr _ (by simp [gotoIn, hf']))) harr₂⟩
  | ret => exact ⟨_, a₁, w₁, hq, .of_steps (.one step_scope) harr⟩
  | panic ch => exact ⟨_, a₁, w₁, hq, .of_steps (.one step_scope) harr⟩
  | outgrown => exact ⟨_, a₁, w₁, hq, .of_steps (.one step_scope) harr⟩

/-- What label 0 asks: its own rest, without a further goto. -/
def lab0 (P : Program) (r0 : Code) (Q : Exit → Act → World → Prop) (a : Act) (w : World) : Prop := r0.wp P (jumps (fun _ _ _ => False) Q) a w
def lab1 (P : Program) (r0 r1 : Code) (Q : Exit → Act → World → Prop) (a : Act) (w : World) : Prop := r1.wp P (jumps (fun l a w => l = 0 ∧ lab0 P r0 Q a w) Q) a w
theorem wp_scope_one {c r0 : Code} (l0 : Nat) (h0 : findLabel c l0 = some r0) (first : c.wp P (jumps (fun l a w => l = l0 ∧ lab0 P r0 Q a w) Q) a w) : (Code.scope c).wp P Q a w := by
  refine wp_scope_down (fun l a w => l = l0 ∧ lab0 P r0 Q a w) first ?_
  rintro l a w ⟨rfl, h⟩
  refine ⟨r0, h0, ?_⟩
  unfold lab0 at h
  refine wp_mono h fun e a w hq => ?_
  cases e <;> first | exact hq | exact hq.elim
theorem wp_scope_two {c r0 r1 : Code} (h0 : findLabel c 0 = some r0) (h1 : findLabel c 1 = some r1)
    (first : c.wp P (jumps (fun l a w => (l = 0 ∧ lab0 P r0 Q a w) ∨ (l = 1 ∧ lab1 P r0 r1 Q a w)) Q) a w) : (Code.scope c).wp P Q a w := by
  refine wp_scope_down _ first ?_
  rintro l a w (⟨rfl, h⟩ | ⟨rfl, h⟩)
  · refine ⟨r0, h0, ?_⟩
    unfold lab0 at h
    refine wp_mono h fun e a w hq => ?_
    cases e <;> first | exact hq | exact hq.elim
  · refine ⟨r1, h1, ?_⟩
    unfold lab1 at h
    refine wp_mono h fun e a w hq => ?_
    cases e <;> first | exact hq | (obtain ⟨rfl, h⟩ := hq; exact ⟨by omega, .inl ⟨rfl, h⟩⟩)
end
end Go.Proofs.YtggdcpmampjncaaGreatDoor
namespace Go.Proofs.YtggdcpmampjncaaGreatDoor
open Go.RowKit

section
variable {P : Program} {a : Act} {w : World} {Q : Exit → Act → World → Prop}
theorem jumps_mono {J J' : Nat → Act → World → Prop} (h : ∀ l a w, J l a w → J' l a w) {e : Exit} {a : Act} {w : World} (hq : jumps J Q e a w) : jumps J' Q e a w := by
  cases e <;> first | exact hq | exact h _ _ _ hq
theorem wp_scope_m0 {c : Code} (J : Nat → Nat → Act → World → Prop) (first : c.wp P (jumps (fun l a w => ∃ m, J l m a w) Q) a w)
    (pass : ∀ m l a w, J l m a w → ∃ rest, findLabel c l = some rest ∧ rest.wp P (jumps (fun l' a' w' => ∃ m', m' < m ∧ J l' m' a' w') Q) a w) : (Code.scope c).wp P Q a w := by
  intro b k cs
  have key : ∀ m l a w, J l m a w → ∃ rest, findLabel c l = some rest ∧ ∃ e a' w', Q e a' w' ∧ Arrives P (lone (b.at a (.code rest :: .inScope c :: k)) cs w) b k cs e a' w' := by
    intro m
    induction m using Nat.strongRecOn with
    | _ m ih =>
      intro l a w hJ
      obtain ⟨rest, hf, hp⟩ := pass m l a w hJ
      refine ⟨rest, hf, ?_⟩
      obtain ⟨e, a₁, w₁, hq, harr⟩ := hp b (.inScope c :: k) cs
      cases e with
      | normal => exact ⟨.normal, a₁, w₁, hq, Steps.trans harr (.one step_inScope)⟩
      | exit id => exact ⟨.exit id, a₁, w₁, hq, fun k' hk => harr k' (by simp [exitTo, hk])⟩
      | goto l' =>
        obtain ⟨m', hlt, hJ'⟩ := hq
        obtain ⟨rest', hf', e₂, a₂, w₂, hq₂, harr₂⟩ := ih m' hlt l' a₁ w₁ hJ'
        exact ⟨e₂, a₂, w₂, hq₂, .of_steps (harr _ (by simp [gotoIn, hf'])) harr₂⟩
      | ret => exact ⟨_, a₁, w₁, hq, harr⟩
      | panic ch => exact ⟨_, a₁, w₁, hq, harr⟩
      | outgrown => exact ⟨_, a₁, w₁, hq, harr⟩
  obtain ⟨e, a₁, w₁, hq, harr⟩ := first b (.inScope c :: k) cs
  cases e with
  | normal => exact ⟨.normal, a₁, w₁, hq, .head step_scope (Steps.trans harr (.one step_inScope))⟩
  | exit id => exact ⟨.exit id, a₁, w₁, hq, fun k' hk => .head step_scope (harr k' (by simp [exitTo, hk]))⟩
  | goto l' =>
    obtain ⟨m', hJ'⟩ := hq
    obtain ⟨rest', hf', e₂, a₂, w₂, hq₂, harr₂⟩ := key m' _ a₁ w₁ hJ'
    exact ⟨e₂, a₂, w₂, hq₂, .of_steps (.head step_scope (harr _ (by simp [gotoIn, hf']))) harr₂⟩
  | ret => exact ⟨_, a₁, w₁, hq, .of_steps (.one step_scope) harr⟩
  | panic ch => exact ⟨_, a₁, w₁, hq, .of_steps (.one step_scope) harr⟩
  | outgrown => exact ⟨_, a₁, w₁, hq, .of_steps (.one step_scope) harr⟩

/-- The same; a part that falls through into a label has what is shown of that label. -/
theorem wp_scope_m {c : Code} (J : Nat → Nat → Act → World → Prop)
    (pass : ∀ m l a w, J l m a w → (∀ l' m' a' w' X, m' < m → J l' m' a' w' → findLabel c l' = some (.seq .skip X) → X.wp P (jumps (fun l a w => ∃ m'', m'' < m ∧ J l m'' a w) Q) a' w') →
      ∃ X, findLabel c l = some (.seq .skip X) ∧ X.wp P (jumps (fun l' a' w' => ∃ m', m' < m ∧ J l' m' a' w') Q) a w)
    (first : (∀ l m a w X, J l m a w → findLabel c l = some (.seq .skip X) → X.wp P (jumps (fun l a w => ∃ m, J l m a w) Q) a w) → c.wp P (jumps (fun l a w => ∃ m, J l m a w) Q) a w) : (Code.scope c).wp P Q a w := by
  have key : ∀ m l a w, J l m a w → ∃ X, findLabel c l = some (.seq .skip X) ∧ X.wp P (jumps (fun l' a' w' => ∃ m', m' < m ∧ J l' m' a' w') Q) a w := by
    intro m
    induction m using Nat.strongRecOn with
    | _ m ih =>
      intro l a w hJ
      refine pass m l a w hJ ?_
      intro l' m' a' w' X hlt hJ' hf
      obtain ⟨Y, hf', hp⟩ := ih m' hlt l' a' w' hJ'
      rw [hf] at hf'
      injection hf' with hf'
      injection hf' with _ hf'
      subst hf'
      exact wp_mono hp fun e a w hq => jumps_mono (fun l a w ⟨m'', h1, h2⟩ => ⟨m'', Nat.lt_trans h1 hlt, h2⟩) hq
  refine wp_scope_m0 J (first ?_) fun m l a w hJ => ?_
  · intro l m a w X hJ hf
    obtain ⟨Y, hf', hp⟩ := key m l a w hJ
    rw [hf] at hf'
    injection hf' with hf'
    injection hf' with _ hf'
    subst hf'
    exact wp_mono hp fun e a w hq => jumps_mono (fun l a w ⟨m'', _, h2⟩ => ⟨m'', h2⟩) hq
  · obtain ⟨X, hf, hp⟩ := key m l a w hJ
    exact ⟨_, hf, wp_seq (wp_skip hp)⟩
end
end Go.Proofs.YtggdcpmampjncaaGreatDoor
