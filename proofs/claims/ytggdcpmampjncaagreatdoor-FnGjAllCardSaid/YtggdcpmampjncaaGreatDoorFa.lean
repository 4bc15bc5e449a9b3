/- The package's ForEach: what lies ahead of a place in an array or an object; the pairs that it passes. No walk. -/
import Derived.Test.YtggdcpmampjncaaGreatDoorEn
namespace Go.Proofs.YtggdcpmampjncaaGreatDoor
open Go.RowKit

/-- Nothing but blanks and closing brackets from i on. -/
def Tl (u : ByteArray) (i : Nat) : Prop := i ≤ u.size ∧ ∀ k, i ≤ k → k < u.size → bAt u k ≤ 32 ∨ bAt u k = 93 ∨ bAt u k = 125
/-- Bytes that the loop passes over. -/
def Sk (u : ByteArray) (i j : Nat) : Prop := i ≤ j ∧ ∀ k, i ≤ k → k < j → bAt u k ≤ 32 ∨ bAt u k = 44 ∨ bAt u k = 58
/-- The elements ps ahead of a place. -/
def AtE (u : ByteArray) : Nat → List Pl → Prop
  | i, [] => Tl u i
  | i, p :: ps => Sk u i p.b ∧ PVal u p ∧ EndB u p.e ∧ p.e < u.size ∧ AtE u (p.e + 1) ps
/-- The members ahead of a place. -/
def AtM (u : ByteArray) : Nat → List Pl → List (Nat × Nat) → Prop
  | i, [], ns => ns = [] ∧ Tl u i
  | i, p :: ps, ns => ∃ m ms, ns = m :: ms ∧ (i ≤ m.1 ∧ ∀ k, i ≤ k → k < m.1 → bAt u k ≠ 34) ∧ PStr u m.1 m.2 ∧ Sk u m.2 p.b ∧ PVal u p ∧ EndB u p.e ∧ p.e < u.size ∧ AtM u (p.e + 1) ps ms
theorem bl_le {c : Nat} (h : isBl c = true) : c ≤ 32 := by
  simp only [isBl, Bool.or_eq_true, beq_iff_eq] at h
  omega
theorem end_of {u : ByteArray} {e c : Nat} (hb : Bls u e c) (hc : c < u.size) (h : bAt u c = 44 ∨ bAt u c = 93 ∨ bAt u c = 125) : EndB u e ∧ e < u.size := by
  have h1 := hb.1
  refine ⟨⟨by omega, fun hx => ?_⟩, by omega⟩
  by_cases g : e < c
  · have := bl_le (hb.2.2 e (Nat.le_refl _) g); omega
  · have : e = c := by omega
    rw [this]; omega
theorem tail_of {u : ByteArray} {a c : Nat} (hb : Bls u a c) (hc : c < u.size) (h : bAt u c = 93 ∨ bAt u c = 125) (ht : Bls u (c + 1) u.size) (i : Nat) (hi : a ≤ i) (hi2 : i ≤ c + 1) : Tl u i := by
  refine ⟨by omega, fun k h1 h2 => ?_⟩
  by_cases g : k < c
  · exact .inl (bl_le (hb.2.2 k (by omega) g))
  by_cases g2 : k = c
  · rw [g2]; exact .inr h
  · exact .inl (bl_le (ht.2.2 k (by omega) h2))
theorem AtE.of {u : ByteArray} : ∀ (ps : List Pl) (c e i : Nat), PEls u ps c e → Sk u i c → Bls u e u.size → AtE u i ps
  | [], c, e, i, h, _, _ => by simp only [PEls] at h
  | p :: ps, c, e, i, h, hs, ht => by
    simp only [PEls] at h
    obtain ⟨rfl, h2, h3, d, h4, h5, h6⟩ := h
    have hd := h4.1
    simp only [AtE]
    rcases h6 with ⟨rfl, h6, rfl⟩ | ⟨h6, f, h7, h8⟩
    · obtain ⟨g1, g2⟩ := end_of h4 h5 (.inr (.inl h6))
      exact ⟨hs, h2, g1, g2, by simp only [AtE]; exact tail_of h4 h5 (.inl h6) ht _ (by omega) (by omega)⟩
    · obtain ⟨g1, g2⟩ := end_of h4 h5 (.inl h6)
      have hf := h7.1
      refine ⟨hs, h2, g1, g2, AtE.of ps f e _ h8 ⟨by omega, fun k k1 k2 => ?_⟩ ht⟩
      by_cases q1 : k < d
      · exact .inl (bl_le (h4.2.2 k (by omega) q1))
      by_cases q2 : k = d
      · rw [q2]; exact .inr (.inl h6)
      · exact .inl (bl_le (h7.2.2 k (by omega) k2))
theorem AtM.of {u : ByteArray} : ∀ (ps : List Pl) (ns : List (Nat × Nat)) (c e i : Nat), PMems u ps ns c e → i ≤ c → (∀ k, i ≤ k → k < c → bAt u k ≠ 34) → Bls u e u.size → AtM u i ps ns
  | [], ns, c, e, i, h, _, _, _ => by simp only [PMems] at h
  | p :: ps, ns, c, e, i, h, hi, hs, ht => by
    simp only [PMems] at h
    obtain ⟨m, ms, rfl, h1, d, h2, h3, h4, f, h5, rfl, h7, h8, g, h9, h10, h11⟩ := h
    have hd := h2.1
    have hf := h5.1
    have hg := h9.1
    simp only [AtM]
    have hsk : Sk u m p.b := ⟨by omega, fun k k1 k2 => by
      by_cases q1 : k < d
      · exact .inl (bl_le (h2.2.2 k k1 q1))
      by_cases q2 : k = d
      · rw [q2]; exact .inr (.inr h4)
      · exact .inl (bl_le (h5.2.2 k (by omega) k2))⟩
    rcases h11 with ⟨rfl, rfl, h11, rfl⟩ | ⟨h11, x, h12, h13⟩
    · obtain ⟨g1, g2⟩ := end_of h9 h10 (.inr (.inr h11))
      exact ⟨(c, m), [], rfl, ⟨hi, hs⟩, h1, hsk, h7, g1, g2, by simp only [AtM]; exact ⟨trivial, tail_of h9 h10 (.inr h11) ht _ (by omega) (by omega)⟩⟩
    · obtain ⟨g1, g2⟩ := end_of h9 h10 (.inl h11)
      have hx := h12.1
      refine ⟨(c, m), ms, rfl, ⟨hi, hs⟩, h1, hsk, h7, g1, g2, AtM.of ps ms x e _ h13 (by omega) (fun k k1 k2 => ?_) ht⟩
      by_cases q1 : k < g
      · have := bl_le (h9.2.2 k (by omega) q1); omega
      by_cases q2 : k = g
      · rw [q2]; omega
      · have := bl_le (h12.2.2 k (by omega) k2); omega
theorem AtE.start {u : ByteArray} {q : Pl} (h : PVal u q) (hb : q.b = 0) (hk : q.kind = 5) (ht : Bls u q.e u.size) : AtE u 1 q.kids := by
  obtain ⟨k, b, e, ns, ks⟩ := q
  simp only [PVal] at h
  simp only [Pl.b, Pl.e, Pl.kind, Pl.kids] at *
  subst hb
  rcases h with ⟨rfl, _⟩ | ⟨rfl, _⟩ | ⟨rfl, _⟩ | ⟨rfl, _⟩ | ⟨rfl, _⟩ | ⟨rfl, h1, h2, rfl, c, h3, h4⟩ | ⟨rfl, _⟩
  all_goals first | (exfalso; omega) | skip
  rcases h4 with ⟨rfl, h4, h5, rfl⟩ | h4
  · simp only [AtE]; exact tail_of h3 h4 (.inl h5) ht _ (by omega) (by have := h3.1; omega)
  · exact AtE.of _ _ _ _ h4 ⟨h3.1, fun k k1 k2 => .inl (bl_le (h3.2.2 k k1 k2))⟩ ht
theorem AtM.start {u : ByteArray} {q : Pl} (h : PVal u q) (hb : q.b = 0) (hk : q.kind = 6) (ht : Bls u q.e u.size) : AtM u 1 q.kids q.names := by
  obtain ⟨k, b, e, ns, ks⟩ := q
  simp only [PVal] at h
  simp only [Pl.b, Pl.e, Pl.kind, Pl.kids, Pl.names] at *
  subst hb
  rcases h with ⟨rfl, _⟩ | ⟨rfl, _⟩ | ⟨rfl, _⟩ | ⟨rfl, _⟩ | ⟨rfl, _⟩ | ⟨rfl, _⟩ | ⟨rfl, h1, h2, c, h3, h4⟩
  all_goals first | (exfalso; omega) | skip
  rcases h4 with ⟨rfl, rfl, h4, h5, rfl⟩ | h4
  · simp only [AtM]; exact ⟨trivial, tail_of h3 h4 (.inr h5) ht _ (by omega) (by have := h3.1; omega)⟩
  · exact AtM.of _ _ _ _ _ h4 h3.1 (fun k k1 k2 => by have := bl_le (h3.2.2 k k1 k2); omega) ht
/-- The first byte of a value. -/
theorem PVal.byte {u : ByteArray} {p : Pl} (h : PVal u p) : 32 < bAt u p.b ∧ bAt u p.b ≠ 44 ∧ bAt u p.b ≠ 58 ∧ p.b < u.size := by
  obtain ⟨h1, h2⟩ := h.tag
  omega

/-! ### The pairs -/
/-- Two results have the same fields, but for the index. -/
def Rs.eqv (r r' : Rs) : Prop := r.ty = r'.ty ∧ r.raw = r'.raw ∧ r.st = r'.st ∧ r.f = r'.f
theorem Rs.eqv.ex {r r' : Rs} (h : r.eqv r') : r.ex = r'.ex := by unfold Rs.ex; rw [h.1, h.2.1]
/-- An array's j-th key. -/
def KA (j : Nat) (k : Rs) : Prop := k.ty = 2 ∧ k.raw = ByteArray.empty ∧ k.st = ByteArray.empty ∧ k.f = keyF (j + 1)
theorem KA.uniq {j : Nat} {k k' : Rs} (h : KA j k) (h' : KA j k') : k.eqv k' := ⟨h.1.trans h'.1.symm, h.2.1.trans h'.2.1.symm, h.2.2.1.trans h'.2.2.1.symm, h.2.2.2.trans h'.2.2.2.symm⟩
/-- An object's j-th key. -/
def KM (u : ByteArray) (ms : List (Nat × Nat)) (ts : List (List UInt8)) (j : Nat) (k : Rs) : Prop := ∃ m t, ms[j]? = some m ∧ ts[j]? = some t ∧ k.ty = 3 ∧ k.raw = u.extract m.1 m.2 ∧ k.st = bs t ∧ k.f = 0
theorem KM.uniq {u : ByteArray} {ms : List (Nat × Nat)} {ts : List (List UInt8)} {j : Nat} {k k' : Rs} (h : KM u ms ts j k) (h' : KM u ms ts j k') : k.eqv k' := by
  obtain ⟨m, t, h1, h2, h3, h4, h5, h6⟩ := h
  obtain ⟨m', t', k1, k2, k3, k4, k5, k6⟩ := h'
  obtain rfl : m = m' := Option.some.inj (h1.symm.trans k1)
  obtain rfl : t = t' := Option.some.inj (h2.symm.trans k2)
  exact ⟨h3.trans k3.symm, h4.trans k4.symm, h5.trans k5.symm, h6.trans k6.symm⟩
/-- The pairs passed so far: K of the keys, V of the values. -/
def Ev (K V : Nat → Rs → Prop) (l : List (Rs × Rs)) : Prop := ∀ j k v, l[j]? = some (k, v) → K j k ∧ V j v
theorem Ev.nil (K V : Nat → Rs → Prop) : Ev K V [] := fun j k v h => by simp at h
theorem Ev.snoc {K V : Nat → Rs → Prop} {l : List (Rs × Rs)} {k v : Rs} (h : Ev K V l) (hk : K l.length k) (hv : V l.length v) : Ev K V (l ++ [(k, v)]) := by
  intro j k' v' hj
  by_cases hl : j < l.length
  · rw [List.getElem?_append_left hl] at hj
    exact h j k' v' hj
  · rw [List.getElem?_append_right (by omega)] at hj
    have h0 : j - l.length = 0 := by
      by_cases h0 : j - l.length = 0
      · exact h0
      · rw [List.getElem?_eq_none (by simp; omega)] at hj; cases hj
    rw [h0] at hj
    simp only [List.getElem?_cons_zero, Option.some.injEq, Prod.mk.injEq] at hj
    obtain ⟨rfl, rfl⟩ := hj
    rw [show j = l.length by omega]
    exact ⟨hk, hv⟩
/-- The j-th value, in full. -/
def VI (u : ByteArray) (ps : List Pl) (ns : List Nd) (j : Nat) (r : Rs) : Prop := ∃ p m, ps[j]? = some p ∧ ns[j]? = some m ∧ RsIn u p m r
theorem VI.uniq {u : ByteArray} {ps : List Pl} {ns : List Nd} {j : Nat} {r r' : Rs} (h : VI u ps ns j r) (h' : VI u ps ns j r') : r.eqv r' := by
  obtain ⟨p, m, h1, h2, h3⟩ := h
  obtain ⟨p', m', k1, k2, k3⟩ := h'
  obtain rfl : p = p' := Option.some.inj (h1.symm.trans k1)
  obtain rfl : m = m' := Option.some.inj (h2.symm.trans k2)
  exact h3.uniq k3
/-- How many of N pairs are taken. -/
def cutN (stop : Int) (N : Nat) : Nat := if 0 < stop ∧ stop < (N : Int) then stop.toNat else N
/-- It has not stopped at j pairs. -/
def Going (stop : Int) (j : Nat) : Prop := stop ≤ 0 ∨ (j : Int) < stop
theorem Going.zero (stop : Int) : Going stop 0 := by unfold Going; omega
theorem Going.all {stop : Int} {N : Nat} (h : Going stop N) : cutN stop N = N := by unfold cutN Going at *; rw [if_neg (by omega)]
theorem Going.last {stop : Int} {N j : Nat} (_h : Going stop j) (hj : j < N) (he : ((j : Int) + 1) = stop) : cutN stop N = j + 1 := by
  unfold cutN Going at *
  split <;> omega
theorem Going.next {stop : Int} {j : Nat} (h : Going stop j) (he : ¬ ((j : Int) + 1) = stop) : Going stop (j + 1) := by unfold Going at *; omega
end Go.Proofs.YtggdcpmampjncaaGreatDoor
