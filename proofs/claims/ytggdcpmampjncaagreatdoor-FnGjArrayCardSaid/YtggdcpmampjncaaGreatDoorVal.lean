/- A result that is a value. Plain law. -/
import Derived.Test.YtggdcpmampjncaaGreatDoorGj14
namespace Go.Proofs.YtggdcpmampjncaaGreatDoor
open Go.RowKit

/-- A result is a value: its kind, its text, which reads as the value, a string's characters. -/
def IsV (r : Rs) (n : Nd) : Prop := r.ty = kindOf n.kind ∧ r.raw.size ≤ 1048576 ∧ (∃ p, PText r.raw p ∧ TreeR r.raw p n) ∧ (n.kind = 4 → r.st = bs n.text)
theorem IsV.read {r : Rs} {n : Nd} (h : IsV r n) : ∀ p, PText r.raw p → ∃ m, TreeR r.raw p m := by
  obtain ⟨_, _, ⟨q, h1, h2⟩, _⟩ := h
  intro p hp
  obtain rfl := PText.uniq hp h1
  exact ⟨n, h2⟩
theorem IsV.size {r : Rs} {n : Nd} (h : IsV r n) : 0 < r.raw.size := by
  obtain ⟨_, _, ⟨q, ⟨a, h1, h2, h3, h4, h5⟩, _⟩, _⟩ := h
  have := PVal.lt q h3
  omega
theorem PVal.sub {s : ByteArray} {p : Pl} (h : PVal s p) (he : p.e ≤ s.size) : PText (s.extract p.b p.e) (p.sh p.b) := by
  have hl := PVal.lt p h
  exact PVal.text ⟨Nat.le_of_lt hl, he, rfl⟩ h (Nat.le_refl _) ⟨Nat.le_refl _, he, fun k h1 h2 => by omega⟩
theorem TreeR.kind {s : ByteArray} {p : Pl} {n : Nd} (h : TreeR s p n) : n.kind = p.kind := by
  cases p
  simp only [TreeR] at h
  exact h.1
theorem TreeR.str {s : ByteArray} {p : Pl} {n : Nd} (h : TreeR s p n) (hk : p.kind = 4) : UQ s (p.b + 1) p.e n.text := by
  obtain ⟨k, b, e, ns, ks⟩ := p
  simp only [TreeR, Pl.kind, Pl.b, Pl.e] at *
  rcases h.2.1 with ⟨h, _⟩ | ⟨_, h⟩ | ⟨_, h, _⟩
  · omega
  · exact h
  · omega
theorem TreeR.kids {s : ByteArray} {p : Pl} {n : Nd} (h : TreeR s p n) : TreesR s p.kids n.kids := by
  cases p
  simp only [TreeR, Pl.kids] at *
  exact h.2.2.2
/-- The value at a place of a text. -/
theorem IsAt.isV {s : ByteArray} {q : Pl} {r : Rs} {m : Nd} (h : IsAt s q r) (hv : PVal s q) (he : q.e ≤ s.size) (hs : s.size ≤ 1048576) (ht : TreeR s q m) : IsV r m := by
  obtain ⟨h1, h2, h3⟩ := h
  have hl := PVal.lt q hv
  refine ⟨by rw [h1, ht.kind], by rw [h2, ByteArray.size_extract]; omega, ⟨q.sh q.b, by rw [h2]; exact hv.sub he, ?_⟩, fun hk => ?_⟩
  · rw [h2]
    exact TreeR.sh ⟨Nat.le_of_lt hl, he, rfl⟩ q m hv ht (Nat.le_refl _) (Nat.le_refl _)
  · rw [ht.kind] at hk
    obtain ⟨t, h4, h5⟩ := h3 hk
    rw [h5, h4.uniq (ht.str hk)]
    rfl
/-- Each of a row is a value. -/
def AllV : List Rs → List Nd → Prop
  | l, [] => l = []
  | l, n :: ns => ∃ r rest, l = r :: rest ∧ IsV r n ∧ AllV rest ns
theorem AllV.of {s : ByteArray} (hs : s.size ≤ 1048576) : ∀ (ps : List Pl) (l : List Rs) (ns : List Nd), AllAt s ps l → TreesR s ps ns → (∀ q ∈ ps, PVal s q ∧ q.e ≤ s.size) → AllV l ns
  | [], l, ns, h, ht, _ => by
    simp only [AllAt] at h
    simp only [TreesR] at ht
    subst h ht
    simp only [AllV]
  | p :: ps, l, ns, h, ht, hp => by
    simp only [AllAt] at h
    simp only [TreesR] at ht
    obtain ⟨r, l', rfl, h1, h2⟩ := h
    obtain ⟨n, ns', rfl, h3, h4⟩ := ht
    have hq := hp p (List.mem_cons_self ..)
    simp only [AllV]
    exact ⟨r, l', rfl, h1.isV hq.1 hq.2 hs h3, AllV.of hs ps l' ns' h2 h4 (fun q hq => hp q (List.mem_cons_of_mem _ hq))⟩
theorem AllV.len : ∀ (l : List Rs) (ns : List Nd), AllV l ns → l.length = ns.length
  | l, [], h => by simp only [AllV] at h; subst h; rfl
  | l, n :: ns, h => by
    simp only [AllV] at h
    obtain ⟨r, l', rfl, _, h2⟩ := h
    simp [AllV.len l' ns h2]
theorem AllV.at : ∀ (ds : List Nd) (q : Nd) (rs : List Nd) (l : List Rs), AllV l (ds ++ q :: rs) → ∃ dl r rl, l = dl ++ r :: rl ∧ dl.length = ds.length ∧ IsV r q ∧ AllV rl rs
  | [], q, rs, l, h => by
    simp only [List.nil_append, AllV] at h
    obtain ⟨r, l', rfl, h1, h2⟩ := h
    exact ⟨[], r, l', rfl, rfl, h1, h2⟩
  | d :: ds, q, rs, l, h => by
    simp only [List.cons_append, AllV] at h
    obtain ⟨r, l', rfl, _, h2⟩ := h
    obtain ⟨dl, r2, rl, rfl, h3, h4, h5⟩ := AllV.at ds q rs l' h2
    exact ⟨r :: dl, r2, rl, rfl, by rw [List.length_cons, h3]; rfl, h4, h5⟩
theorem AllV.raw : ∀ (ns : List Nd) (l : List Rs), AllV l ns → ∀ r ∈ l, 0 < r.raw.size
  | [], l, h => by simp only [AllV] at h; subst h; simp
  | n :: ns, l, h => by
    simp only [AllV] at h
    obtain ⟨r, l', rfl, h1, h2⟩ := h
    intro x hx
    rcases List.mem_cons.1 hx with rfl | hx
    · exact h1.size
    · exact AllV.raw ns l' h2 x hx
end Go.Proofs.YtggdcpmampjncaaGreatDoor
