/- strconv's multiprecision decimal in memory: a block of 804 cells. No program. Digits and the numbers that they write. No program. -/
import Derived.Test.YtkocponnjfkchaaGreatDoorBase
import Derived.Laws.BitsLemmas
import Derived.Laws.Bits64
namespace Go.Proofs.YtkocponnjfkchaaGreatDoor
open Go.RowKit

theorem u64_wrap (n : Int) : IntKind.u64.wrap n = n % 18446744073709551616 := by simp [IntKind.wrap, IntKind.bits, IntKind.signed]
theorem u64_rng (n : Int) : 0 ≤ IntKind.u64.wrap n ∧ IntKind.u64.wrap n ≤ 18446744073709551615 := by rw [u64_wrap]; omega
theorem bits_rng (op : BinOp) (a b : Int) : 0 ≤ bits op .u64 a b ∧ bits op .u64 a b ≤ 18446744073709551615 := by unfold bits; exact u64_rng _
/-- At block g lies a decimal with the bytes D, nd digits, the point at dp. -/
structure DC (T g : Nat) (D : Nat → Nat) (nd dp : Int) (ng tr : Bool) (w : World) : Prop where
  blk : ∃ cs : Array Value, w.heap[g]? = some (.cells cs T (0, 0)) ∧ cs.size = 804 ∧ (∀ i, i < 800 → cs[i]? = some (.int .u8 (D i : Int))) ∧
    cs[800]? = some (.int .i64 nd) ∧ cs[801]? = some (.int .i64 dp) ∧ cs[802]? = some (.bool ng) ∧ cs[803]? = some (.bool tr)
  le : ∀ i, i < 800 → D i ≤ 255

section
variable {T g : Nat} {D : Nat → Nat} {nd dp : Int} {ng tr : Bool} {w : World}
theorem DC.c (h : DC T g D nd dp ng tr w) : ∀ i, i < 800 → w.cell? ⟨g, i, none⟩ = some (.int .u8 (D i : Int)) := by
  obtain ⟨cs, hb, _, h1, _⟩ := h.blk
  intro i hi; rw [cell_of_row w g i _ _ _ hb]; exact h1 i hi
theorem DC.cnd (h : DC T g D nd dp ng tr w) : w.cell? ⟨g, 800, none⟩ = some (.int .i64 nd) := by
  obtain ⟨cs, hb, _, _, h1, _⟩ := h.blk
  rw [cell_of_row w g 800 _ _ _ hb]; exact h1
theorem DC.cdp (h : DC T g D nd dp ng tr w) : w.cell? ⟨g, 801, none⟩ = some (.int .i64 dp) := by
  obtain ⟨cs, hb, _, _, _, h1, _⟩ := h.blk
  rw [cell_of_row w g 801 _ _ _ hb]; exact h1
theorem DC.cng (h : DC T g D nd dp ng tr w) : w.cell? ⟨g, 802, none⟩ = some (.bool ng) := by
  obtain ⟨cs, hb, _, _, _, _, h1, _⟩ := h.blk
  rw [cell_of_row w g 802 _ _ _ hb]; exact h1
theorem DC.ctr (h : DC T g D nd dp ng tr w) : w.cell? ⟨g, 803, none⟩ = some (.bool tr) := by
  obtain ⟨cs, hb, _, _, _, _, _, h1⟩ := h.blk
  rw [cell_of_row w g 803 _ _ _ hb]; exact h1
theorem DC.fz (h : DC T g D nd dp ng tr w) (i : Nat) : w.frozen? ⟨g, i, none⟩ = false := by
  obtain ⟨cs, hb, _⟩ := h.blk
  exact frozen_of_row w g i _ _ hb
theorem DC.lt (h : DC T g D nd dp ng tr w) : g < w.heap.size := by
  obtain ⟨cs, hb, _⟩ := h.blk
  exact (Array.getElem?_eq_some_iff.1 hb).1
theorem DC.drewN (h : DC T g D nd dp ng tr w) (n : Nat) : DC T g D nd dp ng tr (w.drewN n) := ⟨h.blk, h.le⟩
theorem DC.drew (h : DC T g D nd dp ng tr w) : DC T g D nd dp ng tr w.drew := ⟨h.blk, h.le⟩
theorem DC.upd {w1 : World} {S : Nat → Prop} (h : DC T g D nd dp ng tr w) (u : Upd S w w1) (hn : ¬ S g) : DC T g D nd dp ng tr w1 := by
  obtain ⟨cs, hb, r⟩ := h.blk
  exact ⟨⟨cs, u.blk hb hn, r⟩, h.le⟩
theorem getElem?_sIB {cs : Array Value} {i j : Nat} {v : Value} (hi : i < cs.size) : (cs.setIfInBounds i v)[j]? = if i = j then some v else cs[j]? := by
  rw [Array.getElem?_setIfInBounds]
  split <;> simp_all
theorem DC.setD (h : DC T g D nd dp ng tr w) {i : Nat} (hi : i < 800) {v : Nat} (hv : v ≤ 255) : DC T g (fun k => if i = k then v else D k) nd dp ng tr (w.setCell ⟨g, i, none⟩ (.int .u8 (v : Int))) := by
  obtain ⟨cs, hb, hz, h0, h1, h2, h3, h4⟩ := h.blk
  refine ⟨⟨cs.setIfInBounds i (.int .u8 (v : Int)), by rw [heap_setCell_same w g i _ _ _ hb], by simpa using hz, fun k hk => ?_, ?_, ?_, ?_, ?_⟩, fun k hk => ?_⟩
  · rw [getElem?_sIB (by omega)]; split
    · simp
    · exact h0 k hk
  · rw [getElem?_sIB (by omega), if_neg (by omega)]; exact h1
  · rw [getElem?_sIB (by omega), if_neg (by omega)]; exact h2
  · rw [getElem?_sIB (by omega), if_neg (by omega)]; exact h3
  · rw [getElem?_sIB (by omega), if_neg (by omega)]; exact h4
  · show (if i = k then v else D k) ≤ 255
    split
    · exact hv
    · exact h.le k hk
theorem DC.setNd (h : DC T g D nd dp ng tr w) (v : Int) : DC T g D v dp ng tr (w.setCell ⟨g, 800, none⟩ (.int .i64 v)) := by
  obtain ⟨cs, hb, hz, h0, h1, h2, h3, h4⟩ := h.blk
  refine ⟨⟨cs.setIfInBounds 800 (.int .i64 v), by rw [heap_setCell_same w g 800 _ _ _ hb], by simpa using hz, fun k hk => ?_, ?_, ?_, ?_, ?_⟩, h.le⟩
  · rw [getElem?_sIB (by omega), if_neg (by omega)]; exact h0 k hk
  · rw [getElem?_sIB (by omega), if_pos rfl]
  · rw [getElem?_sIB (by omega), if_neg (by omega)]; exact h2
  · rw [getElem?_sIB (by omega), if_neg (by omega)]; exact h3
  · rw [getElem?_sIB (by omega), if_neg (by omega)]; exact h4
theorem DC.setDp (h : DC T g D nd dp ng tr w) (v : Int) : DC T g D nd v ng tr (w.setCell ⟨g, 801, none⟩ (.int .i64 v)) := by
  obtain ⟨cs, hb, hz, h0, h1, h2, h3, h4⟩ := h.blk
  refine ⟨⟨cs.setIfInBounds 801 (.int .i64 v), by rw [heap_setCell_same w g 801 _ _ _ hb], by simpa using hz, fun k hk => ?_, ?_, ?_, ?_, ?_⟩, h.le⟩
  · rw [getElem?_sIB (by omega), if_neg (by omega)]; exact h0 k hk
  · rw [getElem?_sIB (by omega), if_neg (by omega)]; exact h1
  · rw [getElem?_sIB (by omega), if_pos rfl]
  · rw [getElem?_sIB (by omega), if_neg (by omega)]; exact h3
  · rw [getElem?_sIB (by omega), if_neg (by omega)]; exact h4
theorem DC.setNg (h : DC T g D nd dp ng tr w) (v : Bool) : DC T g D nd dp v tr (w.setCell ⟨g, 802, none⟩ (.bool v)) := by
  obtain ⟨cs, hb, hz, h0, h1, h2, h3, h4⟩ := h.blk
  refine ⟨⟨cs.setIfInBounds 802 (.bool v), by rw [heap_setCell_same w g 802 _ _ _ hb], by simpa using hz, fun k hk => ?_, ?_, ?_, ?_, ?_⟩, h.le⟩
  · rw [getElem?_sIB (by omega), if_neg (by omega)]; exact h0 k hk
  · rw [getElem?_sIB (by omega), if_neg (by omega)]; exact h1
  · rw [getElem?_sIB (by omega), if_neg (by omega)]; exact h2
  · rw [getElem?_sIB (by omega), if_pos rfl]
  · rw [getElem?_sIB (by omega), if_neg (by omega)]; exact h4
theorem DC.setTr (h : DC T g D nd dp ng tr w) (v : Bool) : DC T g D nd dp ng v (w.setCell ⟨g, 803, none⟩ (.bool v)) := by
  obtain ⟨cs, hb, hz, h0, h1, h2, h3, h4⟩ := h.blk
  refine ⟨⟨cs.setIfInBounds 803 (.bool v), by rw [heap_setCell_same w g 803 _ _ _ hb], by simpa using hz, fun k hk => ?_, ?_, ?_, ?_, ?_⟩, h.le⟩
  · rw [getElem?_sIB (by omega), if_neg (by omega)]; exact h0 k hk
  · rw [getElem?_sIB (by omega), if_neg (by omega)]; exact h1
  · rw [getElem?_sIB (by omega), if_neg (by omega)]; exact h2
  · rw [getElem?_sIB (by omega), if_neg (by omega)]; exact h3
  · rw [getElem?_sIB (by omega), if_pos rfl]
end

/-- Runs of a step relation to an outcome. -/
inductive Run {S O : Type} (st : S → S ⊕ O → Prop) : S → O → Prop
  | done {a : S} {y : O} (h : st a (.inr y)) : Run st a y
  | step {a b : S} {y : O} (h : st a (.inl b)) (r : Run st b y) : Run st a y
theorem Run.uniq {S O : Type} {st : S → S ⊕ O → Prop} (hst : ∀ a x y, st a x → st a y → x = y) {a : S} {y : O} (h : Run st a y) : ∀ {y'}, Run st a y' → y = y' := by
  induction h with
  | done h =>
    intro y' h'
    cases h' with
    | done h2 => have e := hst _ _ _ h h2; injection e
    | step h2 _ => have e := hst _ _ _ h h2; cases e
  | step h _ ih =>
    intro y' h'
    cases h' with
    | done h2 => have e := hst _ _ _ h h2; cases e
    | step h2 r2 =>
      have e := hst _ _ _ h h2
      injection e with e
      subst e
      exact ih r2
/-- The step relation of a function. -/
def Of {S O : Type} (f : S → S ⊕ O) (a : S) (x : S ⊕ O) : Prop := f a = x
theorem Of.uniq {S O : Type} (f : S → S ⊕ O) : ∀ a x y, Of f a x → Of f a y → x = y := fun _ _ _ h k => h.symm.trans k
/-- A digit put at a place. -/
def put (E : Nat → Nat) (i v : Nat) : Nat → Nat := fun x => if i = x then v else E x
/-- The number of digits without the zeros at the end. -/
def trimN (D : Nat → Nat) : Nat → Nat
  | 0 => 0
  | n + 1 => if D n = 48 then trimN D n else n + 1
theorem trimN_step {D : Nat → Nat} {g : Nat} (h : 0 < g) (hz : D (g - 1) = 48) : trimN D (g - 1) = trimN D g := by
  obtain ⟨k, rfl⟩ : ∃ k, g = k + 1 := ⟨g - 1, by omega⟩
  rw [trimN, if_pos (by simpa using hz)]
  rfl
theorem trimN_stop {D : Nat → Nat} {g : Nat} (h : 0 < g) (hz : D (g - 1) ≠ 48) : trimN D g = g := by
  obtain ⟨k, rfl⟩ : ∃ k, g = k + 1 := ⟨g - 1, by omega⟩
  rw [trimN, if_neg (by simpa using hz)]

/-- A decimal as the walks keep it: nd digits '0' to '9', the first not '0'. -/
structure DI (D : Nat → Nat) (n : Nat) : Prop where
  le : n ≤ 800
  dig : ∀ i, i < n → 48 ≤ D i ∧ D i ≤ 57
  top : 0 < n → D 0 ≠ 48
end Go.Proofs.YtkocponnjfkchaaGreatDoor
namespace Go.Proofs.YtkocponnjfkchaaGreatDoor

/-- The number that the first j digits write. -/
def pv (D : Nat → Nat) : Nat → Nat
  | 0 => 0
  | j + 1 => pv D j * 10 + (D j - 48)
theorem pv_congr {D E : Nat → Nat} : ∀ {j : Nat}, (∀ i, i < j → D i = E i) → pv D j = pv E j
  | 0, _ => rfl
  | j + 1, h => by simp only [pv]; rw [pv_congr (j := j) fun i hi => h i (by omega), h j (by omega)]
theorem pv_lt {D : Nat → Nat} : ∀ {j : Nat}, (∀ i, i < j → D i ≤ 57) → pv D j < 10 ^ j
  | 0, _ => by simp [pv]
  | j + 1, h => by
    have := pv_lt (D := D) (j := j) fun i hi => h i (by omega)
    have := h j (by omega)
    simp only [pv, Nat.pow_succ]; omega
/-- Further digits. -/
theorem pv_step {D : Nat → Nat} {i : Nat} : ∀ {k : Nat}, (∀ q, i ≤ q → q < i + k → D q ≤ 57) → pv D i * 10 ^ k ≤ pv D (i + k) ∧ pv D (i + k) < (pv D i + 1) * 10 ^ k
  | 0, _ => by simp
  | k + 1, h => by
    have ⟨h1, h2⟩ := pv_step (D := D) (i := i) (k := k) fun q h3 h4 => h q h3 (by omega)
    have h5 := h (i + k) (by omega) (by omega)
    rw [show i + (k + 1) = (i + k) + 1 by omega]
    simp only [pv, Nat.pow_succ]
    rw [← Nat.mul_assoc, ← Nat.mul_assoc]
    generalize pv D i * 10 ^ k = a at *
    generalize (pv D i + 1) * 10 ^ k = b at *
    omega
theorem pv_top {D : Nat → Nat} {n : Nat} (h0 : 0 < n) (hd : ∀ i, i < n → 48 ≤ D i ∧ D i ≤ 57) (ht : D 0 ≠ 48) : 10 ^ (n - 1) ≤ pv D n := by
  have := (pv_step (D := D) (i := 1) (k := n - 1) fun q h1 h2 => (hd q (by omega)).2).1
  rw [show 1 + (n - 1) = n by omega] at this
  have h2 : pv D 1 = D 0 - 48 := by simp [pv]
  have h3 := hd 0 h0
  rw [h2] at this
  refine Nat.le_trans ?_ this
  exact Nat.le_mul_of_pos_left _ (by omega)

/-- Two rows of digits that are alike up to i, the first one ending there. -/
theorem pv_short {D E : Nat → Nat} {n m : Nat} (hnm : n < m) (heq : ∀ i, i < n → D i = E i) (hE : ∀ i, i < m → 48 ≤ E i ∧ E i ≤ 57) (hlast : E (m - 1) ≠ 48) : pv D n * 10 ^ m < pv E m * 10 ^ n := by
  have h1 := (pv_step (D := E) (i := n) (k := m - 1 - n) fun q h1 h2 => (hE q (by omega)).2).1
  rw [show n + (m - 1 - n) = m - 1 by omega] at h1
  have h2 : pv E m = pv E (m - 1) * 10 + (E (m - 1) - 48) := by
    have : m = (m - 1) + 1 := by omega
    rw [this]; simp only [pv]; simp
  have h3 := hE (m - 1) (by omega)
  rw [pv_congr heq]
  have e : 10 ^ m = 10 ^ (m - 1 - n) * 10 * 10 ^ n := by rw [← Nat.pow_succ, ← Nat.pow_add]; congr 1; omega
  rw [e, ← Nat.mul_assoc]
  have h10 : 0 < 10 ^ n := Nat.pow_pos (by omega)
  refine Nat.mul_lt_mul_of_pos_right ?_ h10
  rw [h2, ← Nat.mul_assoc]
  omega
/-- Two rows of digits that are alike up to i and part there. -/
theorem pv_less {D E : Nat → Nat} {n m i : Nat} (hin : i < n) (him : i < m) (heq : ∀ q, q < i → D q = E q) (hD : ∀ i, i < n → 48 ≤ D i ∧ D i ≤ 57) (hE : ∀ i, i < m → 48 ≤ E i ∧ E i ≤ 57) (hl : D i < E i) :
    pv D n * 10 ^ m < pv E m * 10 ^ n := by
  have h1 := (pv_step (D := D) (i := i + 1) (k := n - (i + 1)) fun q h1 h2 => (hD q (by omega)).2).2
  have h2 := (pv_step (D := E) (i := i + 1) (k := m - (i + 1)) fun q h1 h2 => (hE q (by omega)).2).1
  rw [show i + 1 + (n - (i + 1)) = n by omega] at h1
  rw [show i + 1 + (m - (i + 1)) = m by omega] at h2
  have h3 : pv D (i + 1) + 1 ≤ pv E (i + 1) := by
    simp only [pv]; rw [pv_congr heq]
    have := hD i hin; have := hE i him; omega
  have e1 : 10 ^ m = 10 ^ (m - (i + 1)) * 10 ^ (i + 1) := by rw [← Nat.pow_add]; congr 1; omega
  have e2 : 10 ^ n = 10 ^ (n - (i + 1)) * 10 ^ (i + 1) := by rw [← Nat.pow_add]; congr 1; omega
  have p1 : 0 < 10 ^ m := Nat.pow_pos (by omega)
  calc pv D n * 10 ^ m < (pv D (i + 1) + 1) * 10 ^ (n - (i + 1)) * 10 ^ m := Nat.mul_lt_mul_of_pos_right h1 p1
    _ ≤ pv E (i + 1) * 10 ^ (n - (i + 1)) * 10 ^ m := Nat.mul_le_mul_right _ (Nat.mul_le_mul_right _ h3)
    _ = pv E (i + 1) * 10 ^ (m - (i + 1)) * 10 ^ n := by rw [e1, e2]; simp only [Nat.mul_assoc, Nat.mul_comm, Nat.mul_left_comm]
    _ ≤ pv E m * 10 ^ n := Nat.mul_le_mul_right _ h2
theorem pv_alike {D E : Nat → Nat} {n m : Nat} (hmn : m ≤ n) (heq : ∀ q, q < m → D q = E q) (hD : ∀ i, i < n → 48 ≤ D i ∧ D i ≤ 57) : pv E m * 10 ^ n ≤ pv D n * 10 ^ m := by
  have h1 := (pv_step (D := D) (i := m) (k := n - m) fun q h1 h2 => (hD q (by omega)).2).1
  rw [show m + (n - m) = n by omega] at h1
  rw [← pv_congr heq]
  have e : 10 ^ n = 10 ^ (n - m) * 10 ^ m := by rw [← Nat.pow_add]; congr 1; omega
  rw [e, ← Nat.mul_assoc]
  exact Nat.mul_le_mul_right _ h1

/-- The number of digits of V·2^k, by the comparison with 5^k (m digits). -/
theorem shl_digits {V k n m : Nat} (hn : 0 < n) (hmk : m ≤ k) (hm0 : 0 < m) (hV0 : 10 ^ (n - 1) ≤ V) (hV1 : V < 10 ^ n) (hC0 : 10 ^ (m - 1) ≤ 5 ^ k) (hC1 : 5 ^ k < 10 ^ m) :
    (V * 10 ^ m < 5 ^ k * 10 ^ n → 10 ^ (n + (k - m) - 1) ≤ V * 2 ^ k ∧ V * 2 ^ k < 10 ^ (n + (k - m))) ∧
    (5 ^ k * 10 ^ n ≤ V * 10 ^ m → 10 ^ (n + (k - m)) ≤ V * 2 ^ k ∧ V * 2 ^ k < 10 ^ (n + (k - m) + 1)) := by
  have h25 : 2 ^ k * 5 ^ k = 10 ^ k := by rw [← Nat.mul_pow]
  have p5 : 0 < 5 ^ k := Nat.pow_pos (by omega)
  have p2 : 0 < 2 ^ k := Nat.pow_pos (by omega)
  have pm : 0 < 10 ^ m := Nat.pow_pos (by omega)
  have pm1 : 0 < 10 ^ (m - 1) := Nat.pow_pos (by omega)
  have em : ∀ x, 10 ^ (x + (k - m)) * 10 ^ m = 10 ^ x * 10 ^ k := fun x => by rw [← Nat.pow_add, ← Nat.pow_add]; congr 1; omega
  have hVk : V * 2 ^ k * 5 ^ k = V * 10 ^ k := by rw [Nat.mul_assoc, h25]
  constructor
  · intro h
    constructor
    · -- V·2^k·10^m ≥ V·2^k·5^k = V·10^k ≥ 10^(n-1)·10^k
      have : 10 ^ (n - 1) * 10 ^ k ≤ V * 2 ^ k * 10 ^ m := by
        calc 10 ^ (n - 1) * 10 ^ k ≤ V * 10 ^ k := Nat.mul_le_mul_right _ hV0
          _ = V * 2 ^ k * 5 ^ k := hVk.symm
          _ ≤ V * 2 ^ k * 10 ^ m := Nat.mul_le_mul_left _ (Nat.le_of_lt hC1)
      have e : n + (k - m) - 1 = (n - 1) + (k - m) := by omega
      rw [e]
      exact Nat.le_of_mul_le_mul_right (by rw [em]; exact this) pm
    · refine Nat.lt_of_mul_lt_mul_right (a := 10 ^ m) ?_
      rw [em]
      calc V * 2 ^ k * 10 ^ m = V * 10 ^ m * 2 ^ k := by simp only [Nat.mul_assoc, Nat.mul_comm, Nat.mul_left_comm]
        _ < 5 ^ k * 10 ^ n * 2 ^ k := Nat.mul_lt_mul_of_pos_right h p2
        _ = 10 ^ n * 10 ^ k := by rw [← h25]; simp only [Nat.mul_assoc, Nat.mul_comm]
  · intro h
    constructor
    · refine Nat.le_of_mul_le_mul_right (c := 10 ^ m) ?_ pm
      rw [em]
      calc 10 ^ n * 10 ^ k = 5 ^ k * 10 ^ n * 2 ^ k := by rw [← h25]; simp only [Nat.mul_assoc, Nat.mul_comm]
        _ ≤ V * 10 ^ m * 2 ^ k := Nat.mul_le_mul_right _ h
        _ = V * 2 ^ k * 10 ^ m := by simp only [Nat.mul_assoc, Nat.mul_comm, Nat.mul_left_comm]
    · refine Nat.lt_of_mul_lt_mul_right (a := 10 ^ (m - 1)) ?_
      have e : 10 ^ (n + (k - m) + 1) * 10 ^ (m - 1) = 10 ^ n * 10 ^ k := by rw [← Nat.pow_add, ← Nat.pow_add]; congr 1; omega
      rw [e]
      calc V * 2 ^ k * 10 ^ (m - 1) ≤ V * 2 ^ k * 5 ^ k := Nat.mul_le_mul_left _ hC0
        _ = V * 10 ^ k := hVk
        _ < 10 ^ n * 10 ^ k := Nat.mul_lt_mul_of_pos_right hV1 (Nat.pow_pos (by omega))

/-- The carry of the left shift at place r: what stands above the written digits. -/
def cry (D : Nat → Nat) (n k r : Nat) : Nat := ((pv D n - pv D r * 10 ^ (n - r)) * 2 ^ k) / 10 ^ (n - r)
theorem cry_end (D : Nat → Nat) (n k : Nat) : cry D n k n = 0 := by simp [cry]
theorem cry_zero (D : Nat → Nat) (n k : Nat) : cry D n k 0 = pv D n * 2 ^ k / 10 ^ n := by simp [cry, pv]
theorem cry_step {D : Nat → Nat} {n k r : Nat} (hr : r < n) (hd : ∀ i, i < n → 48 ≤ D i ∧ D i ≤ 57) : cry D n k r = ((D r - 48) * 2 ^ k + cry D n k (r + 1)) / 10 := by
  have h1 := (pv_step (D := D) (i := r + 1) (k := n - (r + 1)) fun q h1 h2 => (hd q (by omega)).2).1
  rw [show r + 1 + (n - (r + 1)) = n by omega] at h1
  unfold cry
  generalize hx : pv D n - pv D (r + 1) * 10 ^ (n - (r + 1)) = x
  have e1 : pv D n - pv D r * 10 ^ (n - r) = (D r - 48) * 10 ^ (n - (r + 1)) + x := by
    have e2 : 10 ^ (n - r) = 10 * 10 ^ (n - (r + 1)) := by rw [← Nat.pow_succ']; congr 1; omega
    have e3 : pv D (r + 1) * 10 ^ (n - (r + 1)) = pv D r * 10 ^ (n - r) + (D r - 48) * 10 ^ (n - (r + 1)) := by
      rw [e2]; simp only [pv]; rw [Nat.add_mul, Nat.mul_assoc]
    omega
  have p : 0 < 10 ^ (n - (r + 1)) := Nat.pow_pos (by omega)
  rw [e1, show 10 ^ (n - r) = 10 ^ (n - (r + 1)) * 10 by rw [← Nat.pow_succ]; congr 1; omega, ← Nat.div_div_eq_div_mul]
  congr 1
  rw [Nat.add_mul, show (D r - 48) * 10 ^ (n - (r + 1)) * 2 ^ k = (D r - 48) * 2 ^ k * 10 ^ (n - (r + 1)) by simp only [Nat.mul_comm, Nat.mul_left_comm]]
  rw [Nat.add_comm, Nat.add_mul_div_right _ _ p, Nat.add_comm]
theorem cry_lt {D : Nat → Nat} {n k r : Nat} (hr : r ≤ n) (hd : ∀ i, i < n → 48 ≤ D i ∧ D i ≤ 57) : cry D n k r < 2 ^ k := by
  have h1 := (pv_step (D := D) (i := r) (k := n - r) fun q h1 h2 => (hd q (by omega)).2)
  rw [show r + (n - r) = n by omega] at h1
  unfold cry
  have p : 0 < 10 ^ (n - r) := Nat.pow_pos (by omega)
  rw [Nat.div_lt_iff_lt_mul p, Nat.mul_comm]
  refine Nat.mul_lt_mul_of_pos_left ?_ (Nat.pow_pos (by omega))
  have := h1.2; rw [Nat.add_mul] at this; omega

theorem idiv_nat (N M : Nat) : (N : Int) / (M : Int) = ((N / M : Nat) : Int) := by simp
theorem idiv_ne {N M : Nat} (h0 : 0 < M) (h : M ≤ N) : ((N : Int) / (M : Int) == 0) = false := by
  have h1 := Nat.div_pos h h0
  rw [idiv_nat]
  simp only [beq_eq_false_iff_ne, ne_eq]
  omega
theorem and_mask {N k : Nat} (hN : N < 18446744073709551616) (hk : k < 64) : bits .and .u64 (N : Int) ((2 ^ k : Nat) - 1 : Int) = ((N % 2 ^ k : Nat) : Int) := by
  have h := bits_mask .u64 64 (by decide) (fun n h0 h1 => by rw [IntKind.wrap_u64]; omega) k (by omega) (N : Int) (by omega) (by omega)
  simpa using h
theorem dvd_step {j k N : Nat} (h : 2 ^ j ∣ N) : 2 ^ (j + 1) ∣ (N % 2 ^ k) * 10 := by
  have h10 : ∀ x : Nat, x * 10 = x * 5 * 2 := fun x => by omega
  rw [h10, Nat.pow_succ]
  refine Nat.mul_dvd_mul ?_ (Nat.dvd_refl _)
  refine Nat.dvd_trans ?_ (Nat.dvd_mul_right _ _)
  by_cases hjk : j ≤ k
  · exact (Nat.dvd_mod_iff (Nat.pow_dvd_pow 2 hjk)).2 h
  · have : N % 2 ^ k = 0 := Nat.mod_eq_zero_of_dvd (Nat.dvd_trans (Nat.pow_dvd_pow 2 (by omega)) h)
    rw [this]; exact Nat.dvd_zero _
end Go.Proofs.YtkocponnjfkchaaGreatDoor
