/- JSON texts by positions: strings, numbers, words, values. No program. JSON texts by positions: a text is read in one way only. No program. -/
import Derived.Test.YtkocponnjfkchaaGreatDoorBase
namespace Go.Proofs.YtkocponnjfkchaaGreatDoor

/-- A place of a JSON text: kind, begin, end, the names' spans, the kids. -/
inductive Pl where
  | mk (kind b e : Nat) (names : List (Nat × Nat)) (kids : List Pl)
def Pl.kind : Pl → Nat | .mk k _ _ _ _ => k
def Pl.b : Pl → Nat | .mk _ b _ _ _ => b
def Pl.e : Pl → Nat | .mk _ _ e _ _ => e
def Pl.names : Pl → List (Nat × Nat) | .mk _ _ _ n _ => n
def Pl.kids : Pl → List Pl | .mk _ _ _ _ k => k

/-- A hexadecimal digit. -/
def isHx (c : Int) : Bool := (48 ≤ c && c ≤ 57) || (97 ≤ c && c ≤ 102) || (65 ≤ c && c ≤ 70)
/-- Its value. -/
def hxV (c : Int) : Int := if 48 ≤ c ∧ c ≤ 57 then c - 48 else if 97 ≤ c ∧ c ≤ 102 then c - 87 else if 65 ≤ c ∧ c ≤ 70 then c - 55 else 0
/-- The digits from i on end at j. -/
def Digs (s : ByteArray) (i j : Nat) : Prop := i ≤ j ∧ j ≤ s.size ∧ (∀ k, i ≤ k → k < j → 48 ≤ bAt s k ∧ bAt s k ≤ 57) ∧ (j < s.size → ¬ (48 ≤ bAt s j ∧ bAt s j ≤ 57))
/-- The word l stands at i. -/
def Wd (s : ByteArray) (i : Nat) (l : List UInt8) : Prop := i + l.length ≤ s.size ∧ (s.data.toList.drop i).take l.length = l
/-- What stands behind a backslash from i on ends at j. -/
def Esc (s : ByteArray) (i j : Nat) : Prop :=
  (i < s.size ∧ j = i + 1 ∧ (bAt s i = 34 ∨ bAt s i = 92 ∨ bAt s i = 47 ∨ bAt s i = 98 ∨ bAt s i = 102 ∨ bAt s i = 110 ∨ bAt s i = 114 ∨ bAt s i = 116)) ∨
  (i + 4 < s.size ∧ j = i + 5 ∧ bAt s i = 117 ∧ ∀ k, k < 4 → isHx (bAt s (i + 1 + k)) = true)
theorem lt_of_bAt {s : ByteArray} {i : Nat} (h : 0 < bAt s i) : i < s.size := by
  by_cases hi : i < s.size
  · exact hi
  · simp [bAt, hi] at h
/-- A string's rest from k on ends at e. -/
inductive SB (s : ByteArray) : Nat → Nat → Prop where
  | close {k : Nat} (h : k < s.size) (c : bAt s k = 34) : SB s k (k + 1)
  | plain {k e : Nat} (h : k < s.size) (c1 : bAt s k ≠ 34) (c2 : 32 ≤ bAt s k) (c3 : bAt s k ≠ 92) (r : SB s (k + 1) e) : SB s k e
  | esc {k m e : Nat} (h : k < s.size) (c : bAt s k = 92) (x : Esc s (k + 1) m) (r : SB s m e) : SB s k e
/-- A sign or none. -/
def Sgn (s : ByteArray) (i a : Nat) : Prop := (a = i ∧ bAt s i ≠ 45) ∨ (i < s.size ∧ bAt s i = 45 ∧ a = i + 1)
/-- The whole part. -/
def IntP (s : ByteArray) (a b : Nat) : Prop := (a < s.size ∧ bAt s a = 48 ∧ b = a + 1) ∨ (bAt s a ≠ 48 ∧ a < b ∧ Digs s a b)
def FracP (s : ByteArray) (b c : Nat) : Prop := (c = b ∧ bAt s b ≠ 46) ∨ (b < s.size ∧ bAt s b = 46 ∧ b + 1 < c ∧ Digs s (b + 1) c)
def ExpP (s : ByteArray) (c j : Nat) : Prop := (j = c ∧ bAt s c ≠ 101 ∧ bAt s c ≠ 69) ∨ (c < s.size ∧ (bAt s c = 101 ∨ bAt s c = 69) ∧ ∃ d, ((d = c + 1 ∧ bAt s (c + 1) ≠ 43 ∧ bAt s (c + 1) ≠ 45) ∨ (c + 1 < s.size ∧ (bAt s (c + 1) = 43 ∨ bAt s (c + 1) = 45) ∧ d = c + 2)) ∧ d < j ∧ Digs s d j)
/-- A number from i to j. -/
def PNum (s : ByteArray) (i j : Nat) : Prop := ∃ a b c, Sgn s i a ∧ IntP s a b ∧ FracP s b c ∧ ExpP s c j
/-- Blanks from a to c. -/
def Bls (s : ByteArray) (a c : Nat) : Prop := a ≤ c ∧ c ≤ s.size ∧ ∀ k, a ≤ k → k < c → isBl (bAt s k) = true
/-- A string with its quotation marks from i to j. -/
def PStr (s : ByteArray) (i j : Nat) : Prop := i < s.size ∧ bAt s i = 34 ∧ SB s (i + 1) j ∧ j ≤ s.size
def wNull : List UInt8 := [110, 117, 108, 108]
def wFalse : List UInt8 := [102, 97, 108, 115, 101]
def wTrue : List UInt8 := [116, 114, 117, 101]

mutual
/-- A place is that of a value of the text. -/
def PVal (s : ByteArray) : Pl → Prop
  | .mk k b e ns ks =>
    (k = 0 ∧ Wd s b wNull ∧ e = b + 4 ∧ ns = [] ∧ ks = []) ∨ (k = 1 ∧ Wd s b wFalse ∧ e = b + 5 ∧ ns = [] ∧ ks = []) ∨ (k = 2 ∧ Wd s b wTrue ∧ e = b + 4 ∧ ns = [] ∧ ks = []) ∨
    (k = 3 ∧ b < s.size ∧ (bAt s b = 45 ∨ 48 ≤ bAt s b ∧ bAt s b ≤ 57) ∧ PNum s b e ∧ ns = [] ∧ ks = []) ∨ (k = 4 ∧ PStr s b e ∧ ns = [] ∧ ks = []) ∨
    (k = 5 ∧ b < s.size ∧ bAt s b = 91 ∧ ns = [] ∧ ∃ c, Bls s (b + 1) c ∧ ((ks = [] ∧ c < s.size ∧ bAt s c = 93 ∧ e = c + 1) ∨ PEls s ks c e)) ∨
    (k = 6 ∧ b < s.size ∧ bAt s b = 123 ∧ ∃ c, Bls s (b + 1) c ∧ ((ks = [] ∧ ns = [] ∧ c < s.size ∧ bAt s c = 125 ∧ e = c + 1) ∨ PMems s ks ns c e))
/-- The elements of an array from the first one's begin on, to behind the bracket. -/
def PEls (s : ByteArray) : List Pl → Nat → Nat → Prop
  | [], _, _ => False
  | p :: ps, a, e => p.b = a ∧ PVal s p ∧ p.e ≤ s.size ∧ ∃ c, Bls s p.e c ∧ c < s.size ∧ ((ps = [] ∧ bAt s c = 93 ∧ e = c + 1) ∨ (bAt s c = 44 ∧ ∃ d, Bls s (c + 1) d ∧ PEls s ps d e))
/-- The members of an object, likewise. -/
def PMems (s : ByteArray) : List Pl → List (Nat × Nat) → Nat → Nat → Prop
  | [], _, _, _ => False
  | p :: ps, ns, a, e => ∃ m ms, ns = (a, m) :: ms ∧ PStr s a m ∧ ∃ c, Bls s m c ∧ c < s.size ∧ bAt s c = 58 ∧ ∃ d, Bls s (c + 1) d ∧ p.b = d ∧ PVal s p ∧ p.e ≤ s.size ∧
      ∃ f, Bls s p.e f ∧ f < s.size ∧ ((ps = [] ∧ ms = [] ∧ bAt s f = 125 ∧ e = f + 1) ∨ (bAt s f = 44 ∧ ∃ h, Bls s (f + 1) h ∧ PMems s ps ms h e))
end
/-- The whole text is a value with blanks around it. -/
def PText (s : ByteArray) (p : Pl) : Prop := ∃ a, Bls s 0 a ∧ p.b = a ∧ PVal s p ∧ p.e ≤ s.size ∧ Bls s p.e s.size

end Go.Proofs.YtkocponnjfkchaaGreatDoor
namespace Go.Proofs.YtkocponnjfkchaaGreatDoor

theorem Digs.uniq {s : ByteArray} {i j j' : Nat} (h : Digs s i j) (h' : Digs s i j') : j = j' := by
  obtain ⟨a1, a2, a3, a4⟩ := h
  obtain ⟨b1, b2, b3, b4⟩ := h'
  rcases Nat.lt_trichotomy j j' with h | h | h
  · exact absurd (b3 j a1 h) (a4 (by omega))
  · exact h
  · exact absurd (a3 j' b1 h) (b4 (by omega))
theorem Sgn.uniq {s : ByteArray} {i a a' : Nat} (h : Sgn s i a) (h' : Sgn s i a') : a = a' := by
  rcases h with ⟨h1, h2⟩ | ⟨h1, h2, h3⟩ <;> rcases h' with ⟨k1, k2⟩ | ⟨k1, k2, k3⟩ <;> omega
theorem IntP.uniq {s : ByteArray} {a b b' : Nat} (h : IntP s a b) (h' : IntP s a b') : b = b' := by
  rcases h with ⟨h1, h2, h3⟩ | ⟨h1, h2, h3⟩ <;> rcases h' with ⟨k1, k2, k3⟩ | ⟨k1, k2, k3⟩
  · omega
  · omega
  · omega
  · exact h3.uniq k3
theorem FracP.uniq {s : ByteArray} {a b b' : Nat} (h : FracP s a b) (h' : FracP s a b') : b = b' := by
  rcases h with ⟨h1, h2⟩ | ⟨h1, h2, h3, h4⟩ <;> rcases h' with ⟨k1, k2⟩ | ⟨k1, k2, k3, k4⟩
  · omega
  · omega
  · omega
  · exact h4.uniq k4
theorem ExpP.uniq {s : ByteArray} {a b b' : Nat} (h : ExpP s a b) (h' : ExpP s a b') : b = b' := by
  rcases h with ⟨h1, h2⟩ | ⟨h1, h2, d, h3, h4, h5⟩ <;> rcases h' with ⟨k1, k2⟩ | ⟨k1, k2, d', k3, k4, k5⟩
  · omega
  · omega
  · omega
  · have e : d = d' := by
      rcases h3 with ⟨h3, h6⟩ | ⟨h3, h6, h7⟩ <;> rcases k3 with ⟨k3, k6⟩ | ⟨k3, k6, k7⟩ <;> omega
    subst e
    exact h5.uniq k5
theorem PNum.uniq {s : ByteArray} {i j j' : Nat} (h : PNum s i j) (h' : PNum s i j') : j = j' := by
  obtain ⟨a, b, c, h1, h2, h3, h4⟩ := h
  obtain ⟨a', b', c', k1, k2, k3, k4⟩ := h'
  obtain rfl := h1.uniq k1
  obtain rfl := h2.uniq k2
  obtain rfl := h3.uniq k3
  exact h4.uniq k4
theorem Esc.uniq {s : ByteArray} {i j j' : Nat} (h : Esc s i j) (h' : Esc s i j') : j = j' := by
  rcases h with ⟨h1, h2, h3⟩ | ⟨h1, h2, h3, h4⟩ <;> rcases h' with ⟨k1, k2, k3⟩ | ⟨k1, k2, k3, k4⟩ <;> omega
theorem Esc.lt {s : ByteArray} {i j : Nat} (h : Esc s i j) : i < j ∧ j ≤ s.size := by
  rcases h with ⟨h1, h2, _⟩ | ⟨h1, h2, _⟩ <;> omega

/-- One way at each step of a string's rest. -/
theorem SB_plain {s : ByteArray} {k e : Nat} (h : k < s.size) (c1 : bAt s k ≠ 34) (c2 : 32 ≤ bAt s k) (c3 : bAt s k ≠ 92) : SB s k e ↔ SB s (k + 1) e :=
  ⟨fun x => by
    cases x with
    | close _ c => exact absurd c c1
    | plain _ _ _ _ r => exact r
    | esc _ c _ _ => exact absurd c c3, .plain h c1 c2 c3⟩
theorem SB_esc {s : ByteArray} {k m e : Nat} (h : k < s.size) (c : bAt s k = 92) (x : Esc s (k + 1) m) : SB s k e ↔ SB s m e :=
  ⟨fun y => by
    cases y with
    | close _ d => omega
    | plain _ _ _ d _ => exact absurd c d
    | esc _ _ x' r => rw [x.uniq x']; exact r, .esc h c x⟩
theorem SB_low {s : ByteArray} {k e : Nat} (c : bAt s k < 32) : ¬ SB s k e := fun y => by
  cases y with
  | close _ d => omega
  | plain _ _ d _ _ => omega
  | esc _ d _ _ => omega
theorem SB_end {s : ByteArray} {k e : Nat} (c : s.size ≤ k) : ¬ SB s k e := fun y => by
  cases y <;> omega
theorem SB_bad {s : ByteArray} {k e : Nat} (c : bAt s k = 92) (x : ∀ m, ¬ Esc s (k + 1) m) : ¬ SB s k e := fun y => by
  cases y with
  | close _ d => omega
  | plain _ _ _ d _ => omega
  | esc _ _ x' _ => exact x _ x'
theorem SB_close {s : ByteArray} {k e : Nat} (c : bAt s k = 34) (h : SB s k e) : e = k + 1 := by
  cases h with
  | close _ _ => rfl
  | plain _ d _ _ _ => omega
  | esc _ d _ _ => omega
theorem SB.uniq {s : ByteArray} {k e : Nat} (h : SB s k e) : ∀ {e'}, SB s k e' → e = e' := by
  induction h with
  | close h c => intro e' h'; exact (SB_close c h').symm
  | plain h c1 c2 c3 r ih => intro e' h'; exact ih ((SB_plain h c1 c2 c3).1 h')
  | esc h c x r ih => intro e' h'; exact ih ((SB_esc h c x).1 h')
theorem SB.lt {s : ByteArray} {k e : Nat} (h : SB s k e) : k < e ∧ e ≤ s.size := by
  induction h with
  | close h c => omega
  | plain h c1 c2 c3 r ih => omega
  | esc h c x r ih => have := x.lt; omega
theorem PStr.uniq {s : ByteArray} {i j j' : Nat} (h : PStr s i j) (h' : PStr s i j') : j = j' := h.2.2.1.uniq h'.2.2.1

/-- Blanks end in one place ahead of what is none. -/
theorem Bls.uniq {s : ByteArray} {a c c' : Nat} (h : Bls s a c) (h' : Bls s a c') (hc : isBl (bAt s c) = false) (hc' : isBl (bAt s c') = false) : c = c' := by
  obtain ⟨a1, a2, a3⟩ := h
  obtain ⟨b1, b2, b3⟩ := h'
  rcases Nat.lt_trichotomy c c' with h | h | h
  · have := b3 c a1 h; rw [hc] at this; cases this
  · exact h
  · have := a3 c' b1 h; rw [hc'] at this; cases this
/-- Blanks up to c, and behind them the text ends or none stands. -/
def BlsM (s : ByteArray) (a c : Nat) : Prop := Bls s a c ∧ isBl (bAt s c) = false
theorem BlsM.mk' {s : ByteArray} {a c : Nat} (h1 : a ≤ c) (h2 : c ≤ s.size) (h3 : ∀ k, a ≤ k → k < c → isBl (bAt s k) = true) (h4 : c < s.size → isBl (bAt s c) = false) : BlsM s a c := by
  refine ⟨⟨h1, h2, h3⟩, ?_⟩
  by_cases h : c < s.size
  · exact h4 h
  · simp [bAt, h, isBl]
theorem Wd_at {s : ByteArray} {i : Nat} {a : UInt8} {l : List UInt8} (h : Wd s i (a :: l)) : i < s.size ∧ bAt s i = a.toNat := by
  obtain ⟨h1, h2⟩ := h
  have hi : i < s.size := by simp at h1; omega
  refine ⟨hi, ?_⟩
  have e : (s.data.toList.drop i)[0]? = some a := by
    have := congrArg (fun l => l[0]?) h2
    simp only [List.getElem?_take, List.length_cons] at this
    simpa using this
  rw [List.getElem?_drop] at e
  rw [bAt_eq hi]
  simp only [Nat.add_zero, Array.getElem?_toList] at e
  have e2 : s.data[i]? = some s[i] := Array.getElem?_eq_getElem (show i < s.data.size from hi)
  rw [e2] at e
  injection e with e
  rw [e]
/-- The byte at which a value begins. -/
theorem PVal.first {s : ByteArray} {p : Pl} (h : PVal s p) : p.b < s.size ∧
    ((p.kind = 0 ∧ bAt s p.b = 110) ∨ (p.kind = 1 ∧ bAt s p.b = 102) ∨ (p.kind = 2 ∧ bAt s p.b = 116) ∨ (p.kind = 3 ∧ (bAt s p.b = 45 ∨ 48 ≤ bAt s p.b ∧ bAt s p.b ≤ 57)) ∨ (p.kind = 4 ∧ bAt s p.b = 34) ∨ (p.kind = 5 ∧ bAt s p.b = 91) ∨ (p.kind = 6 ∧ bAt s p.b = 123)) := by
  obtain ⟨k, b, e, ns, ks⟩ := p
  simp only [PVal] at h
  simp only [Pl.b, Pl.kind]
  rcases h with ⟨rfl, h, _⟩ | ⟨rfl, h, _⟩ | ⟨rfl, h, _⟩ | ⟨rfl, h1, h2, _⟩ | ⟨rfl, h, _⟩ | ⟨rfl, h1, h2, _⟩ | ⟨rfl, h1, h2, _⟩
  · have := Wd_at h; exact ⟨this.1, .inl ⟨rfl, this.2⟩⟩
  · have := Wd_at h; exact ⟨this.1, .inr (.inl ⟨rfl, this.2⟩)⟩
  · have := Wd_at h; exact ⟨this.1, .inr (.inr (.inl ⟨rfl, this.2⟩))⟩
  · exact ⟨h1, .inr (.inr (.inr (.inl ⟨rfl, h2⟩)))⟩
  · exact ⟨h.1, .inr (.inr (.inr (.inr (.inl ⟨rfl, h.2.1⟩))))⟩
  · exact ⟨h1, .inr (.inr (.inr (.inr (.inr (.inl ⟨rfl, h2⟩)))))⟩
  · exact ⟨h1, .inr (.inr (.inr (.inr (.inr (.inr ⟨rfl, h2⟩)))))⟩
theorem isBl_not {c : Nat} (h : c ≠ 32 ∧ c ≠ 9 ∧ c ≠ 10 ∧ c ≠ 13) : isBl (c : Int) = false := by
  simp only [isBl, Bool.or_eq_false_iff, beq_eq_false_iff_ne, ne_eq]
  omega
theorem PVal.notBl {s : ByteArray} {p : Pl} (h : PVal s p) : isBl (bAt s p.b) = false := isBl_not (by have := h.first.2; omega)
theorem PEls.notBl {s : ByteArray} {ps : List Pl} {a e : Nat} (h : PEls s ps a e) : isBl (bAt s a) = false := by
  cases ps with
  | nil => simp only [PEls] at h
  | cons p ps => simp only [PEls] at h; rw [← h.1]; exact h.2.1.notBl
theorem PMems.notBl {s : ByteArray} {ps : List Pl} {ns : List (Nat × Nat)} {a e : Nat} (h : PMems s ps ns a e) : isBl (bAt s a) = false := by
  cases ps with
  | nil => simp only [PMems] at h
  | cons p ps => rw [PMems] at h; obtain ⟨m, ms, _, h, _⟩ := h; exact isBl_not (by have := h.2.1; omega)

mutual
theorem PVal.uniq {s : ByteArray} : ∀ (p q : Pl), PVal s p → PVal s q → p.b = q.b → p = q
  | .mk k b e ns ks, .mk k' b' e' ns' ks', h, h', hb => by
    have f := h.first
    have f' := h'.first
    simp only [Pl.b, Pl.kind] at f f' hb
    subst hb
    have hk : k = k' := by omega
    subst hk
    simp only [PVal] at h h'
    rcases h with ⟨rfl, h1, rfl, rfl, rfl⟩ | ⟨rfl, h1, rfl, rfl, rfl⟩ | ⟨rfl, h1, rfl, rfl, rfl⟩ | ⟨rfl, h1, h2, h3, rfl, rfl⟩ | ⟨rfl, h1, rfl, rfl⟩ | ⟨rfl, h1, h2, rfl, c, h3, h4⟩ | ⟨rfl, h1, h2, c, h3, h4⟩
    all_goals rcases h' with ⟨hk, k1, e2, e3, e4⟩ | ⟨hk, k1, e2, e3, e4⟩ | ⟨hk, k1, e2, e3, e4⟩ | ⟨hk, k1, k2, k3, e3, e4⟩ | ⟨hk, k1, e3, e4⟩ | ⟨hk, k1, k2, e3, c', k3, k4⟩ | ⟨hk, k1, k2, c', k3, k4⟩
    all_goals first | (exfalso; omega) | skip
    · rw [e2, e3, e4]
    · rw [e2, e3, e4]
    · rw [e2, e3, e4]
    · rw [h3.uniq k3, e3, e4]
    · rw [h1.uniq k1, e3, e4]
    · have nb : isBl (bAt s c) = false := by
        rcases h4 with ⟨_, _, h, _⟩ | h
        · exact isBl_not (by omega)
        · exact h.notBl
      have nb' : isBl (bAt s c') = false := by
        rcases k4 with ⟨_, _, h, _⟩ | h
        · exact isBl_not (by omega)
        · exact h.notBl
      obtain rfl := h3.uniq k3 nb nb'
      subst e3
      rcases h4 with ⟨rfl, g1, g2, rfl⟩ | h4
      · rcases k4 with ⟨rfl, _, _, rfl⟩ | k4
        · rfl
        · exfalso
          cases ks' with
          | nil => simp only [PEls] at k4
          | cons p ps => simp only [PEls] at k4; have := k4.2.1.first.2; rw [k4.1] at this; omega
      · rcases k4 with ⟨rfl, g1, g2, rfl⟩ | k4
        · exfalso
          cases ks with
          | nil => simp only [PEls] at h4
          | cons p ps => simp only [PEls] at h4; have := h4.2.1.first.2; rw [h4.1] at this; omega
        · obtain ⟨rfl, rfl⟩ := PEls.uniq ks ks' c e e' h4 k4
          rfl
    · have nb : isBl (bAt s c) = false := by
        rcases h4 with ⟨_, _, _, h, _⟩ | h
        · exact isBl_not (by omega)
        · exact h.notBl
      have nb' : isBl (bAt s c') = false := by
        rcases k4 with ⟨_, _, _, h, _⟩ | h
        · exact isBl_not (by omega)
        · exact h.notBl
      obtain rfl := h3.uniq k3 nb nb'
      rcases h4 with ⟨rfl, rfl, g1, g2, rfl⟩ | h4
      · rcases k4 with ⟨rfl, rfl, _, _, rfl⟩ | k4
        · rfl
        · exfalso
          cases ks' with
          | nil => simp only [PMems] at k4
          | cons p ps => rw [PMems] at k4; obtain ⟨m, ms, _, h, _⟩ := k4; have := h.2.1; omega
      · rcases k4 with ⟨rfl, rfl, g1, g2, rfl⟩ | k4
        · exfalso
          cases ks with
          | nil => simp only [PMems] at h4
          | cons p ps => rw [PMems] at h4; obtain ⟨m, ms, _, h, _⟩ := h4; have := h.2.1; omega
        · obtain ⟨rfl, rfl, rfl⟩ := PMems.uniq ks ks' ns ns' c e e' h4 k4
          rfl
theorem PEls.uniq {s : ByteArray} : ∀ (ps qs : List Pl) (a e e' : Nat), PEls s ps a e → PEls s qs a e' → ps = qs ∧ e = e'
  | [], _, _, _, _, h, _ => by simp only [PEls] at h
  | _ :: _, [], _, _, _, _, h => by simp only [PEls] at h
  | p :: ps, q :: qs, a, e, e', h, h' => by
    simp only [PEls] at h h'
    obtain ⟨h1, h2, h3, c, h4, h5, h6⟩ := h
    obtain ⟨k1, k2, k3, c', k4, k5, k6⟩ := h'
    obtain rfl := PVal.uniq p q h2 k2 (h1.trans k1.symm)
    have nb : isBl (bAt s c) = false := isBl_not (by omega)
    have nb' : isBl (bAt s c') = false := isBl_not (by omega)
    obtain rfl := h4.uniq k4 nb nb'
    rcases h6 with ⟨rfl, h6, rfl⟩ | ⟨h6, d, h7, h8⟩
    · rcases k6 with ⟨rfl, k6, rfl⟩ | ⟨k6, _⟩
      · exact ⟨rfl, rfl⟩
      · omega
    · rcases k6 with ⟨rfl, k6, rfl⟩ | ⟨k6, d', k7, k8⟩
      · omega
      · obtain rfl := h7.uniq k7 h8.notBl k8.notBl
        obtain ⟨rfl, rfl⟩ := PEls.uniq ps qs d e e' h8 k8
        exact ⟨rfl, rfl⟩
theorem PMems.uniq {s : ByteArray} : ∀ (ps qs : List Pl) (ns ns' : List (Nat × Nat)) (a e e' : Nat), PMems s ps ns a e → PMems s qs ns' a e' → ps = qs ∧ ns = ns' ∧ e = e'
  | [], _, _, _, _, _, _, h, _ => by simp only [PMems] at h
  | _ :: _, [], _, _, _, _, _, _, h => by simp only [PMems] at h
  | p :: ps, q :: qs, ns, ns', a, e, e', h, h' => by
    rw [PMems] at h h'
    obtain ⟨m, ms, rfl, h1, c, h2, h3, h4, d, h5, h6, h7, h8, f, h9, h10, h11⟩ := h
    obtain ⟨m', ms', rfl, k1, c', k2, k3, k4, d', k5, k6, k7, k8, f', k9, k10, k11⟩ := h'
    obtain rfl := h1.uniq k1
    obtain rfl := h2.uniq k2 (isBl_not (by omega)) (isBl_not (by omega))
    obtain rfl := h5.uniq k5 (by rw [← h6]; exact h7.notBl) (by rw [← k6]; exact k7.notBl)
    obtain rfl := PVal.uniq p q h7 k7 (h6.trans k6.symm)
    obtain rfl := h9.uniq k9 (isBl_not (by omega)) (isBl_not (by omega))
    rcases h11 with ⟨rfl, rfl, h11, rfl⟩ | ⟨h11, g, h12, h13⟩
    · rcases k11 with ⟨rfl, rfl, k11, rfl⟩ | ⟨k11, _⟩
      · exact ⟨rfl, rfl, rfl⟩
      · omega
    · rcases k11 with ⟨rfl, rfl, k11, rfl⟩ | ⟨k11, g', k12, k13⟩
      · omega
      · obtain rfl := h12.uniq k12 h13.notBl k13.notBl
        obtain ⟨rfl, rfl, rfl⟩ := PMems.uniq ps qs ms ms' g e e' h13 k13
        exact ⟨rfl, rfl, rfl⟩
end
theorem PText.uniq {s : ByteArray} {p q : Pl} (h : PText s p) (h' : PText s q) : p = q := by
  obtain ⟨a, h1, h2, h3, _⟩ := h
  obtain ⟨a', k1, k2, k3, _⟩ := h'
  have e : a = a' := h1.uniq k1 (by rw [← h2]; exact h3.notBl) (by rw [← k2]; exact k3.notBl)
  subst e
  exact PVal.uniq p q h3 k3 (h2.trans k2.symm)

/-! ### What the reader sees when it says no -/
theorem ne_of_take {s : ByteArray} {i : Nat} {c : Int} (h : i < s.size → (bAt s i : Int) ≠ c) (h0 : c ≠ 0) : (bAt s i : Int) ≠ c := by
  by_cases hi : i < s.size
  · exact h hi
  · simp [bAt, hi]; exact fun e => h0 e.symm
/-- The array's rest behind its bracket: blanks, then the closing bracket or elements. -/
def ArrB (s : ByteArray) (a : Nat) (ks : List Pl) (e : Nat) : Prop := ∃ c, Bls s a c ∧ ((ks = [] ∧ c < s.size ∧ bAt s c = 93 ∧ e = c + 1) ∨ PEls s ks c e)
def ObjB (s : ByteArray) (a : Nat) (ks : List Pl) (ns : List (Nat × Nat)) (e : Nat) : Prop := ∃ c, Bls s a c ∧ ((ks = [] ∧ ns = [] ∧ c < s.size ∧ bAt s c = 125 ∧ e = c + 1) ∨ PMems s ks ns c e)
theorem arr_no {s : ByteArray} {a c j : Nat} (hm : BlsM s a c) (hne : (bAt s c : Int) ≠ 93) (hinv : ∀ qs e, PEls s qs c e → ∃ rs, PEls s rs j e) (hno : ∀ rs e, ¬ PEls s rs j e) : ∀ ks e, ¬ ArrB s a ks e := by
  rintro ks e ⟨c', h1, ⟨_, _, h2, _⟩ | h2⟩
  · obtain rfl := h1.uniq hm.1 (isBl_not (by omega)) hm.2
    omega
  · obtain rfl := h1.uniq hm.1 h2.notBl hm.2
    obtain ⟨rs, h⟩ := hinv _ _ h2
    exact hno _ _ h
theorem els_no_val {s : ByteArray} {j : Nat} (h : ∀ q, PVal s q → q.b ≠ j) : ∀ rs e, ¬ PEls s rs j e := by
  intro rs e hr
  cases rs with
  | nil => simp only [PEls] at hr
  | cons p ps => simp only [PEls] at hr; exact h p hr.2.1 hr.1
theorem els_cases {s : ByteArray} {j : Nat} {p : Pl} (hp : PVal s p) (hb : p.b = j) {c : Nat} (hm : BlsM s p.e c) {qs : List Pl} {e : Nat} (h : PEls s qs j e) :
    (bAt s c = 93 ∧ qs = [p] ∧ e = c + 1) ∨ (bAt s c = 44 ∧ ∃ d ps, Bls s (c + 1) d ∧ PEls s ps d e) := by
  cases qs with
  | nil => simp only [PEls] at h
  | cons q qs =>
    simp only [PEls] at h
    obtain ⟨h1, h2, h3, c', h4, h5, h6⟩ := h
    obtain rfl := PVal.uniq p q hp h2 (hb.trans h1.symm)
    obtain rfl := h4.uniq hm.1 (isBl_not (by omega)) hm.2
    rcases h6 with ⟨rfl, h6, rfl⟩ | ⟨h6, d, h7, h8⟩
    · exact .inl ⟨h6, rfl, rfl⟩
    · exact .inr ⟨h6, d, qs, h7, h8⟩
theorem els_no_sep {s : ByteArray} {j : Nat} {p : Pl} (hp : PVal s p) (hb : p.b = j) {c : Nat} (hm : BlsM s p.e c) (h1 : (bAt s c : Int) ≠ 93) (h2 : (bAt s c : Int) ≠ 44) : ∀ rs e, ¬ PEls s rs j e := by
  intro rs e h
  rcases els_cases hp hb hm h with ⟨h3, _⟩ | ⟨h3, _⟩ <;> omega
theorem els_step {s : ByteArray} {j : Nat} {p : Pl} (hp : PVal s p) (hb : p.b = j) {c d : Nat} (hm : BlsM s p.e c) (h1 : (bAt s c : Int) = 44) (hd : BlsM s (c + 1) d) : ∀ qs e, PEls s qs j e → ∃ rs, PEls s rs d e := by
  intro qs e h
  rcases els_cases hp hb hm h with ⟨h3, _⟩ | ⟨h3, d', ps, h4, h5⟩
  · omega
  · obtain rfl := h4.uniq hd.1 h5.notBl hd.2
    exact ⟨ps, h5⟩

theorem obj_no {s : ByteArray} {a c j : Nat} (hm : BlsM s a c) (hne : (bAt s c : Int) ≠ 125) (hinv : ∀ qs ns e, PMems s qs ns c e → ∃ rs ms, PMems s rs ms j e) (hno : ∀ rs ms e, ¬ PMems s rs ms j e) : ∀ ks ns e, ¬ ObjB s a ks ns e := by
  rintro ks ns e ⟨c', h1, ⟨_, _, _, h2, _⟩ | h2⟩
  · obtain rfl := h1.uniq hm.1 (isBl_not (by omega)) hm.2
    omega
  · obtain rfl := h1.uniq hm.1 h2.notBl hm.2
    obtain ⟨rs, ms, h⟩ := hinv _ _ _ h2
    exact hno _ _ _ h
theorem mems_no_q {s : ByteArray} {j : Nat} (h : (bAt s j : Int) ≠ 34) : ∀ rs ms e, ¬ PMems s rs ms j e := by
  intro rs ms e hr
  cases rs with
  | nil => simp only [PMems] at hr
  | cons p ps => rw [PMems] at hr; obtain ⟨m, ms, _, h1, _⟩ := hr; have := h1.2.1; omega
theorem mems_no_str {s : ByteArray} {j : Nat} (h : ∀ m, ¬ SB s (j + 1) m) : ∀ rs ms e, ¬ PMems s rs ms j e := by
  intro rs ms e hr
  cases rs with
  | nil => simp only [PMems] at hr
  | cons p ps => rw [PMems] at hr; obtain ⟨m, ms, _, h1, _⟩ := hr; exact h _ h1.2.2.1
theorem mems_no_colon {s : ByteArray} {j m c : Nat} (hs : PStr s j m) (hm : BlsM s m c) (h : (bAt s c : Int) ≠ 58) : ∀ rs ms e, ¬ PMems s rs ms j e := by
  intro rs ms e hr
  cases rs with
  | nil => simp only [PMems] at hr
  | cons p ps =>
    rw [PMems] at hr
    obtain ⟨m', ms, _, h1, c', h2, h3, h4, _⟩ := hr
    obtain rfl := h1.uniq hs
    obtain rfl := h2.uniq hm.1 (isBl_not (by omega)) hm.2
    omega
/-- A member's value begins behind the colon and blanks. -/
theorem mems_val {s : ByteArray} {j m c d : Nat} (hs : PStr s j m) (hm : BlsM s m c) (hd : BlsM s (c + 1) d) {qs : List Pl} {ns : List (Nat × Nat)} {e : Nat} (h : PMems s qs ns j e) :
    ∃ q ps, q.b = d ∧ PVal s q ∧ ∃ f, Bls s q.e f ∧ (bAt s f = 125 ∨ (bAt s f = 44 ∧ ∃ x ms, Bls s (f + 1) x ∧ PMems s ps ms x e)) := by
  cases qs with
  | nil => simp only [PMems] at h
  | cons p ps =>
    rw [PMems] at h
    obtain ⟨m', ms, _, h1, c', h2, h3, h4, d', h5, h6, h7, h8, f, h9, h10, h11⟩ := h
    obtain rfl := h1.uniq hs
    obtain rfl := h2.uniq hm.1 (isBl_not (by omega)) hm.2
    obtain rfl := h5.uniq hd.1 (by rw [← h6]; exact h7.notBl) hd.2
    refine ⟨p, ps, h6, h7, f, h9, ?_⟩
    rcases h11 with ⟨_, _, h11, _⟩ | ⟨h11, x, h12, h13⟩
    · exact .inl h11
    · exact .inr ⟨h11, x, ms, h12, h13⟩
theorem mems_no_val {s : ByteArray} {j m c d : Nat} (hs : PStr s j m) (hm : BlsM s m c) (hd : BlsM s (c + 1) d) (h : ∀ q, PVal s q → q.b ≠ d) : ∀ rs ms e, ¬ PMems s rs ms j e := by
  intro rs ms e hr
  obtain ⟨q, ps, h1, h2, _⟩ := mems_val hs hm hd hr
  exact h q h2 h1
theorem mems_no_sep {s : ByteArray} {j m c d f : Nat} (hs : PStr s j m) (hm : BlsM s m c) (hd : BlsM s (c + 1) d) {p : Pl} (hp : PVal s p) (hb : p.b = d) (hf : BlsM s p.e f) (h1 : (bAt s f : Int) ≠ 125) (h2 : (bAt s f : Int) ≠ 44) : ∀ rs ms e, ¬ PMems s rs ms j e := by
  intro rs ms e hr
  obtain ⟨q, ps, k1, k2, f', k3, k4⟩ := mems_val hs hm hd hr
  obtain rfl := PVal.uniq p q hp k2 (hb.trans k1.symm)
  obtain rfl := k3.uniq hf.1 (isBl_not (by omega)) hf.2
  omega
theorem mems_step {s : ByteArray} {j m c d f x : Nat} (hs : PStr s j m) (hm : BlsM s m c) (hd : BlsM s (c + 1) d) {p : Pl} (hp : PVal s p) (hb : p.b = d) (hf : BlsM s p.e f) (h2 : (bAt s f : Int) = 44) (hx : BlsM s (f + 1) x) : ∀ qs ns e, PMems s qs ns j e → ∃ rs ms, PMems s rs ms x e := by
  intro rs ms e hr
  obtain ⟨q, ps, k1, k2, f', k3, k4⟩ := mems_val hs hm hd hr
  obtain rfl := PVal.uniq p q hp k2 (hb.trans k1.symm)
  obtain rfl := k3.uniq hf.1 (isBl_not (by omega)) hf.2
  rcases k4 with k4 | ⟨_, x', ms', k5, k6⟩
  · omega
  · obtain rfl := k5.uniq hx.1 k6.notBl hx.2
    exact ⟨ps, ms', k6⟩
/-- No value begins with such a byte. -/
theorem val_no_first {s : ByteArray} {i : Nat} (h : ¬ (bAt s i = 110 ∨ bAt s i = 102 ∨ bAt s i = 116 ∨ bAt s i = 45 ∨ (48 ≤ bAt s i ∧ bAt s i ≤ 57) ∨ bAt s i = 34 ∨ bAt s i = 91 ∨ bAt s i = 123)) : ∀ q, PVal s q → q.b ≠ i := by
  rintro q hq rfl
  have := hq.first
  omega
theorem val_no_word {s : ByteArray} {i : Nat} (h1 : bAt s i ≠ 123) (h2 : bAt s i ≠ 91) (h3 : bAt s i ≠ 34) (h4 : bAt s i ≠ 45) (h5 : ¬ (48 ≤ bAt s i ∧ bAt s i ≤ 57)) (w1 : ¬ Wd s i wNull) (w2 : ¬ Wd s i wFalse) (w3 : ¬ Wd s i wTrue) : ∀ q, PVal s q → q.b ≠ i := by
  rintro ⟨k, b, e, ns, ks⟩ hq rfl
  simp only [PVal] at hq
  simp only [Pl.b] at *
  rcases hq with ⟨_, h, _⟩ | ⟨_, h, _⟩ | ⟨_, h, _⟩ | ⟨_, _, h, _⟩ | ⟨_, h, _⟩ | ⟨_, _, h, _⟩ | ⟨_, _, h, _⟩
  · exact w1 h
  · exact w2 h
  · exact w3 h
  · omega
  · exact h3 h.2.1
  · exact h2 h
  · exact h1 h
theorem val_no_num {s : ByteArray} {i : Nat} (h : bAt s i = 45 ∨ (48 ≤ bAt s i ∧ bAt s i ≤ 57)) (hn : ∀ m, ¬ PNum s i m) : ∀ q, PVal s q → q.b ≠ i := by
  rintro ⟨k, b, e, ns, ks⟩ hq rfl
  have f := hq.first
  simp only [PVal] at hq
  simp only [Pl.b, Pl.kind] at *
  rcases hq with ⟨rfl, _⟩ | ⟨rfl, _⟩ | ⟨rfl, _⟩ | ⟨rfl, _, _, hq, _⟩ | ⟨rfl, _⟩ | ⟨rfl, _⟩ | ⟨rfl, _⟩
  all_goals first | exact hn _ hq | omega
theorem val_no_str {s : ByteArray} {i : Nat} (h : bAt s i = 34) (hn : ∀ m, ¬ SB s (i + 1) m) : ∀ q, PVal s q → q.b ≠ i := by
  rintro ⟨k, b, e, ns, ks⟩ hq rfl
  have f := hq.first
  simp only [PVal] at hq
  simp only [Pl.b, Pl.kind] at *
  rcases hq with ⟨rfl, _⟩ | ⟨rfl, _⟩ | ⟨rfl, _⟩ | ⟨rfl, _⟩ | ⟨rfl, hq, _⟩ | ⟨rfl, _⟩ | ⟨rfl, _⟩
  all_goals first | exact hn _ hq.2.2.1 | omega
theorem val_no_arr {s : ByteArray} {i : Nat} (h : bAt s i = 91) (hn : ∀ ks e, ¬ ArrB s (i + 1) ks e) : ∀ q, PVal s q → q.b ≠ i := by
  rintro ⟨k, b, e, ns, ks⟩ hq rfl
  have f := hq.first
  simp only [PVal] at hq
  simp only [Pl.b, Pl.kind] at *
  rcases hq with ⟨rfl, _⟩ | ⟨rfl, _⟩ | ⟨rfl, _⟩ | ⟨rfl, _⟩ | ⟨rfl, _⟩ | ⟨rfl, _, _, _, hq⟩ | ⟨rfl, _⟩
  all_goals first | exact hn _ _ hq | omega
theorem val_no_obj {s : ByteArray} {i : Nat} (h : bAt s i = 123) (hn : ∀ ks ns e, ¬ ObjB s (i + 1) ks ns e) : ∀ q, PVal s q → q.b ≠ i := by
  rintro ⟨k, b, e, ns, ks⟩ hq rfl
  have f := hq.first
  simp only [PVal] at hq
  simp only [Pl.b, Pl.kind] at *
  rcases hq with ⟨rfl, _⟩ | ⟨rfl, _⟩ | ⟨rfl, _⟩ | ⟨rfl, _⟩ | ⟨rfl, _⟩ | ⟨rfl, _⟩ | ⟨rfl, _, _, hq⟩
  all_goals first | exact hn _ _ _ hq | omega
end Go.Proofs.YtkocponnjfkchaaGreatDoor
