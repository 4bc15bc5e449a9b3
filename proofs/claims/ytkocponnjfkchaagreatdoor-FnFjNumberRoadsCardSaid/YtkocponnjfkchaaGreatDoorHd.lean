/- Decimal digits of a text: their value; the parts of a number. No walk. -/
import Derived.Test.YtkocponnjfkchaaGreatDoorGram
namespace Go.Proofs.YtkocponnjfkchaaGreatDoor

/-- d0 with k digits from a behind it. -/
def dv (d0 : Nat) (s : ByteArray) (a : Nat) : Nat → Nat
  | 0 => d0
  | k + 1 => dv d0 s a k * 10 + (bAt s (a + k) - 48)
theorem dv_lt {d0 n : Nat} {s : ByteArray} {a : Nat} (h0 : d0 < 10 ^ n) : ∀ k, (∀ q, q < k → bAt s (a + q) ≤ 57) → dv d0 s a k < 10 ^ (n + k)
  | 0, _ => h0
  | k + 1, h => by
    have h1 := dv_lt h0 k fun q hq => h q (by omega)
    have h2 := h k (by omega)
    rw [show n + (k + 1) = (n + k) + 1 by omega, Nat.pow_succ]
    show dv d0 s a k * 10 + (bAt s (a + k) - 48) < _
    omega
theorem dv_mono {d0 : Nat} {s : ByteArray} {a : Nat} : ∀ (m k : Nat), dv d0 s a k ≤ dv d0 s a (k + m)
  | 0, _ => Nat.le_refl _
  | m + 1, k => by
    have h := dv_mono (d0 := d0) (s := s) (a := a) m k
    show _ ≤ dv d0 s a (k + m) * 10 + _
    omega
/-- A number's parts: the sign's end, the whole part's, the fraction's. -/
structure NumD (s : ByteArray) (a b c : Nat) : Prop where
  sg : Sgn s 0 a
  ip : Digs s a b
  ab : a < b
  fp : FracP s b c
  ep : ExpP s c s.size
theorem bAt_out {s : ByteArray} {k : Nat} (h : s.size ≤ k) : bAt s k = 0 := by unfold bAt; rw [dif_neg (by omega)]
theorem PNum.parts {s : ByteArray} (h : PNum s 0 s.size) : ∃ a b c, NumD s a b c := by
  obtain ⟨a, b, c, h1, h2, h3, h4⟩ := h
  have hend : b ≤ s.size → (b < s.size → ¬ (48 ≤ bAt s b ∧ bAt s b ≤ 57)) := fun _ hb => by
    rcases h3 with ⟨rfl, h5⟩ | ⟨_, h5, _⟩
    · rcases h4 with ⟨h6, _⟩ | ⟨_, h6, _⟩
      · omega
      · omega
    · omega
  rcases h2 with ⟨g1, g2, rfl⟩ | ⟨_, g2, g3⟩
  · refine ⟨a, a + 1, c, h1, ⟨by omega, by omega, fun k k1 k2 => ?_, hend (by omega)⟩, by omega, h3, h4⟩
    obtain rfl : k = a := by omega
    omega
  · exact ⟨a, b, c, h1, g3, g2, h3, h4⟩
/-- Where the exponent's digits begin. -/
def exD (s : ByteArray) (c : Nat) : Nat := if bAt s (c + 1) = 43 ∨ bAt s (c + 1) = 45 then c + 2 else c + 1
theorem NumD.bounds {s : ByteArray} {a b c : Nat} (h : NumD s a b c) : a ≤ 1 ∧ b ≤ c ∧ c ≤ s.size ∧ 0 < s.size := by
  obtain ⟨h1, h2, h3, h4, h5⟩ := h
  have h6 := h2.2.1
  have ha : a ≤ 1 := by rcases h1 with ⟨rfl, _⟩ | ⟨_, _, rfl⟩ <;> omega
  have hb : b ≤ c ∧ c ≤ s.size := by
    rcases h4 with ⟨rfl, _⟩ | ⟨_, _, g1, g2⟩
    · omega
    · have := g2.2.1; omega
  omega
theorem NumD.exp {s : ByteArray} {a b c : Nat} (h : NumD s a b c) (hc : c < s.size) : (bAt s c = 101 ∨ bAt s c = 69) ∧ exD s c < s.size ∧ Digs s (exD s c) s.size ∧ c + 1 ≤ exD s c := by
  rcases h.ep with ⟨g, _⟩ | ⟨_, g1, d, g2, g3, g4⟩
  · omega
  · have hd : exD s c = d := by
      unfold exD
      rcases g2 with ⟨rfl, g5, g6⟩ | ⟨_, g5, rfl⟩
      · rw [if_neg (by omega)]
      · rw [if_pos g5]
    rw [hd]
    exact ⟨g1, g3, g4, by rcases g2 with ⟨rfl, _⟩ | ⟨_, _, rfl⟩ <;> omega⟩
theorem NumD.frac {s : ByteArray} {a b c : Nat} (h : NumD s a b c) (hb : b < c) : bAt s b = 46 ∧ b + 1 < c ∧ Digs s (b + 1) c := by
  rcases h.fp with ⟨g, _⟩ | ⟨_, g1, g2, g3⟩
  · omega
  · exact ⟨g1, g2, g3⟩
/-- Whether a minus stands ahead. -/
def mnS (s : ByteArray) : Bool := decide (bAt s 0 = 45)
theorem NumD.minus {s : ByteArray} {a b c : Nat} (h : NumD s a b c) : (mnS s = true ∧ bAt s 0 = 45 ∧ a = 1) ∨ (mnS s = false ∧ bAt s 0 ≠ 45 ∧ a = 0) := by
  unfold mnS
  rcases h.sg with ⟨rfl, g⟩ | ⟨_, g, rfl⟩
  · exact .inr ⟨decide_eq_false g, g, rfl⟩
  · exact .inl ⟨decide_eq_true g, g, rfl⟩
/-- All its bytes are those of numbers. -/
theorem NumD.bytes {s : ByteArray} {a b c : Nat} (h : NumD s a b c) : ∀ k, k < s.size → (48 ≤ bAt s k ∧ bAt s k ≤ 57) ∨ bAt s k = 46 ∨ bAt s k = 45 ∨ bAt s k = 101 ∨ bAt s k = 69 ∨ bAt s k = 43 := by
  intro k hk
  obtain ⟨hb1, hb2, hb3, hb4⟩ := h.bounds
  by_cases h1 : k < a
  · rcases h.minus with ⟨_, g, rfl⟩ | ⟨_, _, rfl⟩
    · obtain rfl : k = 0 := by omega
      omega
    · omega
  by_cases h2 : k < b
  · exact .inl (h.ip.2.2.1 k (by omega) h2)
  by_cases h3 : k < c
  · obtain ⟨g1, g2, g3⟩ := h.frac (by omega)
    by_cases h4 : k = b
    · rw [h4]; omega
    · exact .inl (g3.2.2.1 k (by omega) h3)
  obtain ⟨g1, g2, g3, g4⟩ := h.exp (by omega)
  by_cases h5 : k = c
  · rw [h5]; omega
  by_cases h6 : k < exD s c
  · have h7 : exD s c = c + 2 ∧ (bAt s (c + 1) = 43 ∨ bAt s (c + 1) = 45) := by
      unfold exD at h6 ⊢
      split
      · rename_i hx; exact ⟨rfl, hx⟩
      · rename_i hx; rw [if_neg hx] at h6; omega
    obtain rfl : k = c + 1 := by omega
    omega
  · exact .inl (g3.2.2.1 k (by omega) hk)
end Go.Proofs.YtkocponnjfkchaaGreatDoor
