/- The characters of JSON strings, the tree of a JSON text, as plain data. No program. A value of a JSON text stands in a part of the text as it stands in the text. No program. What the package's scanners find: a string's closing quotation mark by counting backslashes, an array's or object's end by counting brackets. No program. -/
import Derived.Test.YtggdcpmampjncaaGreatDoorGram
namespace Go.Proofs.YtggdcpmampjncaaGreatDoor

/-! ### Escapes of four hexadecimal digits -/
/-- The number of the first q digits of the escape at k. -/
def uP (s : ByteArray) (k : Nat) : Nat → Int
  | 0 => 0
  | q + 1 => uP s k q * 16 + hxV (bAt s (k + 2 + q))
/-- The number of the escape at k. -/
def uV (s : ByteArray) (k : Nat) : Int := uP s k 4
/-- An escape of four hexadecimal digits stands at k. -/
def isU (s : ByteArray) (k : Nat) : Prop := k + 6 ≤ s.size ∧ bAt s k = 92 ∧ bAt s (k + 1) = 117 ∧ ∀ q, q < 4 → isHx (bAt s (k + 2 + q)) = true
def isHi (n : Int) : Prop := 55296 ≤ n ∧ n ≤ 56319
def isLo (n : Int) : Prop := 56320 ≤ n ∧ n ≤ 57343
theorem hxV_rng {c : Int} (_h : isHx c = true) : 0 ≤ hxV c ∧ hxV c ≤ 15 := by
  simp only [isHx, Bool.or_eq_true, Bool.and_eq_true, decide_eq_true_eq] at _h
  unfold hxV
  (repeat' split) <;> omega
theorem uV_rng {s : ByteArray} {k : Nat} (h : isU s k) : 0 ≤ uV s k ∧ uV s k ≤ 65535 := by
  have h0 := hxV_rng (h.2.2.2 0 (by omega))
  have h1 := hxV_rng (h.2.2.2 1 (by omega))
  have h2 := hxV_rng (h.2.2.2 2 (by omega))
  have h3 := hxV_rng (h.2.2.2 3 (by omega))
  simp only [uV, uP]
  omega
theorem isU.esc {s : ByteArray} {k : Nat} (h : isU s k) : Esc s (k + 1) (k + 6) := .inr ⟨by have := h.1; omega, rfl, h.2.2.1, fun q hq => by have := h.2.2.2 q hq; rw [show k + 1 + 1 + q = k + 2 + q by omega]; exact this⟩
theorem esc_isU {s : ByteArray} {k m : Nat} (c : bAt s k = 92) (h : Esc s (k + 1) m) : (isU s k ∧ m = k + 6) ∨ (¬ isU s k ∧ k + 1 < s.size ∧ m = k + 2 ∧ (bAt s (k + 1) = 34 ∨ bAt s (k + 1) = 92 ∨ bAt s (k + 1) = 47 ∨ bAt s (k + 1) = 98 ∨ bAt s (k + 1) = 102 ∨ bAt s (k + 1) = 110 ∨ bAt s (k + 1) = 114 ∨ bAt s (k + 1) = 116)) := by
  rcases h with ⟨h1, h2, h3⟩ | ⟨h1, h2, h3, h4⟩
  · exact .inr ⟨fun hu => by have := hu.2.2.1; omega, h1, by omega, h3⟩
  · exact .inl ⟨⟨by omega, c, h3, fun q hq => by have := h4 q hq; rw [show k + 2 + q = k + 1 + 1 + q by omega]; exact this⟩, by omega⟩

/-! ### Half pairs stand beside their other half -/
inductive PR (s : ByteArray) : Nat → Prop where
  | done {k : Nat} (h : s.size ≤ k) : PR s k
  | plain {k : Nat} (h : k < s.size) (c : bAt s k ≠ 92) (r : PR s (k + 1)) : PR s k
  | short {k : Nat} (h : k < s.size) (c : bAt s k = 92) (u : ¬ isU s k) (r : PR s (k + 2)) : PR s k
  | pair {k : Nat} (u : isU s k) (hi : isHi (uV s k)) (v : isU s (k + 6)) (lo : isLo (uV s (k + 6))) (r : PR s (k + 12)) : PR s k
  | uni {k : Nat} (u : isU s k) (hi : ¬ isHi (uV s k)) (lo : ¬ isLo (uV s k)) (r : PR s (k + 6)) : PR s k
theorem PR.step {s : ByteArray} {k : Nat} (h : PR s k) (c : bAt s k ≠ 92) : PR s (k + 1) := by
  cases h with
  | done h => exact .done (by omega)
  | plain _ _ r => exact r
  | short _ c' _ _ => exact absurd c' c
  | pair u _ _ _ _ => exact absurd u.2.1 c
  | uni u _ _ _ => exact absurd u.2.1 c
theorem PR.skip {s : ByteArray} {k m : Nat} (h : PR s k) (hkm : k ≤ m) (c : ∀ q, k ≤ q → q < m → bAt s q ≠ 92) : PR s m := by
  obtain ⟨n, rfl⟩ : ∃ n, m = k + n := ⟨m - k, by omega⟩
  induction n with
  | zero => exact h
  | succ n ih =>
    have h1 := ih (by omega) (fun q h1 h2 => c q h1 (by omega))
    exact h1.step (c (k + n) (by omega) (by omega))

/-! ### Characters -/
def b8 (n : Int) : UInt8 := UInt8.ofNat n.toNat
/-- A character in UTF-8. -/
def enc (c : Int) : List UInt8 :=
  if c < 128 then [b8 c] else if c < 2048 then [b8 (192 + c / 64), b8 (128 + c % 64)] else if c < 65536 then [b8 (224 + c / 4096), b8 (128 + c / 64 % 64), b8 (128 + c % 64)]
  else [b8 (240 + c / 262144), b8 (128 + c / 4096 % 64), b8 (128 + c / 64 % 64), b8 (128 + c % 64)]
/-- What a backslash and a letter stand for. -/
def shC (c : Nat) : Nat := if c = 98 then 8 else if c = 102 then 12 else if c = 110 then 10 else if c = 114 then 13 else if c = 116 then 9 else c
/-- The character of a pair. -/
def prC (n m : Int) : Int := 65536 + (n - 55296) * 1024 + (m - 56320)
/-- The string whose rest from k on ends at e has the characters out. -/
inductive UQ (s : ByteArray) : Nat → Nat → List UInt8 → Prop where
  | close {k : Nat} (h : k < s.size) (c : bAt s k = 34) : UQ s k (k + 1) []
  | plain {k e : Nat} {out : List UInt8} (h : k < s.size) (c1 : bAt s k ≠ 34) (c2 : 32 ≤ bAt s k) (c3 : bAt s k ≠ 92) (r : UQ s (k + 1) e out) : UQ s k e (UInt8.ofNat (bAt s k) :: out)
  | short {k e : Nat} {out : List UInt8} (h : k + 1 < s.size) (c : bAt s k = 92) (x : bAt s (k + 1) = 34 ∨ bAt s (k + 1) = 92 ∨ bAt s (k + 1) = 47 ∨ bAt s (k + 1) = 98 ∨ bAt s (k + 1) = 102 ∨ bAt s (k + 1) = 110 ∨ bAt s (k + 1) = 114 ∨ bAt s (k + 1) = 116) (r : UQ s (k + 2) e out) : UQ s k e (UInt8.ofNat (shC (bAt s (k + 1))) :: out)
  | uni {k e : Nat} {out : List UInt8} (u : isU s k) (hi : ¬ isHi (uV s k)) (lo : ¬ isLo (uV s k)) (r : UQ s (k + 6) e out) : UQ s k e (enc (uV s k) ++ out)
  | pair {k e : Nat} {out : List UInt8} (u : isU s k) (hi : isHi (uV s k)) (v : isU s (k + 6)) (lo : isLo (uV s (k + 6))) (r : UQ s (k + 12) e out) : UQ s k e (enc (prC (uV s k) (uV s (k + 6))) ++ out)
theorem not_isU_short {s : ByteArray} {k : Nat} (x : bAt s (k + 1) = 34 ∨ bAt s (k + 1) = 92 ∨ bAt s (k + 1) = 47 ∨ bAt s (k + 1) = 98 ∨ bAt s (k + 1) = 102 ∨ bAt s (k + 1) = 110 ∨ bAt s (k + 1) = 114 ∨ bAt s (k + 1) = 116) : ¬ isU s k := fun u => by have := u.2.2.1; omega
theorem UQ.sb {s : ByteArray} {k e : Nat} {out : List UInt8} (h : UQ s k e out) : SB s k e := by
  induction h with
  | close h c => exact .close h c
  | plain h c1 c2 c3 _ ih => exact .plain h c1 c2 c3 ih
  | short h c x _ ih => exact .esc (by omega) c (.inl ⟨h, rfl, x⟩) ih
  | uni u _ _ _ ih => exact .esc (by have := u.1; omega) u.2.1 u.esc ih
  | pair u _ v _ _ ih => exact .esc (by have := u.1; omega) u.2.1 u.esc (.esc (by have := v.1; omega) v.2.1 v.esc ih)
theorem UQ.uniq {s : ByteArray} {k e : Nat} {out : List UInt8} (h : UQ s k e out) : ∀ {e' out'}, UQ s k e' out' → out = out' := by
  induction h with
  | close h c =>
    intro e' out' h'
    cases h' with
    | close _ _ => rfl
    | plain _ c1 _ _ _ => exact absurd c c1
    | short _ c1 _ _ => omega
    | uni u _ _ _ => have := u.2.1; omega
    | pair u _ _ _ _ => have := u.2.1; omega
  | plain h c1 c2 c3 _ ih =>
    intro e' out' h'
    cases h' with
    | close _ c => exact absurd c c1
    | plain _ _ _ _ r => rw [ih r]
    | short _ c1 _ _ => omega
    | uni u _ _ _ => have := u.2.1; omega
    | pair u _ _ _ _ => have := u.2.1; omega
  | short h c x _ ih =>
    intro e' out' h'
    cases h' with
    | close _ c => omega
    | plain _ _ _ c3 _ => omega
    | short _ _ _ r => rw [ih r]
    | uni u _ _ _ => exact absurd u (not_isU_short x)
    | pair u _ _ _ _ => exact absurd u (not_isU_short x)
  | uni u hi lo _ ih =>
    intro e' out' h'
    cases h' with
    | close _ c => have := u.2.1; omega
    | plain _ _ _ c3 _ => have := u.2.1; omega
    | short _ _ x _ => exact absurd u (not_isU_short x)
    | uni _ _ _ r => rw [ih r]
    | pair _ hi' _ _ _ => exact absurd hi' hi
  | pair u hi v lo _ ih =>
    intro e' out' h'
    cases h' with
    | close _ c => have := u.2.1; omega
    | plain _ _ _ c3 _ => have := u.2.1; omega
    | short _ _ x _ => exact absurd u (not_isU_short x)
    | uni _ hi' _ _ => exact absurd hi hi'
    | pair _ _ _ _ r => rw [ih r]
theorem UQ.inv {s : ByteArray} {k e : Nat} {out : List UInt8} (h : UQ s k e out) :
    (k < s.size ∧ bAt s k = 34 ∧ e = k + 1 ∧ out = []) ∨
    (k < s.size ∧ bAt s k ≠ 34 ∧ 32 ≤ bAt s k ∧ bAt s k ≠ 92 ∧ ∃ r, out = UInt8.ofNat (bAt s k) :: r ∧ UQ s (k + 1) e r) ∨
    (k + 1 < s.size ∧ bAt s k = 92 ∧ (bAt s (k + 1) = 34 ∨ bAt s (k + 1) = 92 ∨ bAt s (k + 1) = 47 ∨ bAt s (k + 1) = 98 ∨ bAt s (k + 1) = 102 ∨ bAt s (k + 1) = 110 ∨ bAt s (k + 1) = 114 ∨ bAt s (k + 1) = 116) ∧ ∃ r, out = UInt8.ofNat (shC (bAt s (k + 1))) :: r ∧ UQ s (k + 2) e r) ∨
    (isU s k ∧ ¬ isHi (uV s k) ∧ ¬ isLo (uV s k) ∧ ∃ r, out = enc (uV s k) ++ r ∧ UQ s (k + 6) e r) ∨
    (isU s k ∧ isHi (uV s k) ∧ isU s (k + 6) ∧ isLo (uV s (k + 6)) ∧ ∃ r, out = enc (prC (uV s k) (uV s (k + 6))) ++ r ∧ UQ s (k + 12) e r) := by
  cases h with
  | close h c => exact .inl ⟨h, c, rfl, rfl⟩
  | plain h c1 c2 c3 r => exact .inr (.inl ⟨h, c1, c2, c3, _, rfl, r⟩)
  | short h c x r => exact .inr (.inr (.inl ⟨h, c, x, _, rfl, r⟩))
  | uni u hi lo r => exact .inr (.inr (.inr (.inl ⟨u, hi, lo, _, rfl, r⟩)))
  | pair u hi v lo r => exact .inr (.inr (.inr (.inr ⟨u, hi, v, lo, _, rfl, r⟩)))
theorem SB.chars {s : ByteArray} : ∀ n k e, e - k ≤ n → SB s k e → PR s k → ∃ out, UQ s k e out ∧ PR s e := by
  intro n
  induction n with
  | zero => intro k e hn h _; have := h.lt; omega
  | succ n ih =>
    intro k e hn h hp
    have hlt := h.lt
    cases h with
    | close h c => exact ⟨[], .close h c, hp.step (by omega)⟩
    | plain h c1 c2 c3 r =>
      obtain ⟨out, h1, h2⟩ := ih (k + 1) e (by omega) r (hp.step c3)
      exact ⟨_, .plain h c1 c2 c3 h1, h2⟩
    | esc h c x r =>
      rcases esc_isU c x with ⟨u, rfl⟩ | ⟨u, hk, rfl, hx⟩
      · cases hp with
        | done h' => omega
        | plain _ c' _ => exact absurd c c'
        | short _ _ u' _ => exact absurd u u'
        | uni _ hi lo r' =>
          obtain ⟨out, h1, h2⟩ := ih (k + 6) e (by omega) r r'
          exact ⟨_, .uni u hi lo h1, h2⟩
        | pair _ hi v lo r' =>
          have r2 := (SB_esc (by have := v.1; omega) v.2.1 v.esc).1 r
          have hl2 := r2.lt
          obtain ⟨out, h1, h2⟩ := ih (k + 12) e (by omega) r2 r'
          exact ⟨_, .pair u hi v lo h1, h2⟩
      · cases hp with
        | done h' => omega
        | plain _ c' _ => exact absurd c c'
        | short _ _ _ r' =>
          obtain ⟨out, h1, h2⟩ := ih (k + 2) e (by omega) r r'
          exact ⟨_, .short hk c hx h1, h2⟩
        | uni u' _ _ _ => exact absurd u' u
        | pair u' _ _ _ _ => exact absurd u' u

/-! ### The tree of a text -/
inductive Nd where
  | mk (kind : Nat) (text : List UInt8) (keys : List (List UInt8)) (kids : List Nd)
def Nd.kind : Nd → Nat | .mk k _ _ _ => k
def Nd.text : Nd → List UInt8 | .mk _ t _ _ => t
def Nd.keys : Nd → List (List UInt8) | .mk _ _ k _ => k
def Nd.kids : Nd → List Nd | .mk _ _ _ k => k
/-- The bytes from b to e. -/
def cut (s : ByteArray) (b e : Nat) : List UInt8 := (s.data.toList.drop b).take (e - b)
def KeysR (s : ByteArray) : List (Nat × Nat) → List (List UInt8) → Prop
  | [], l => l = []
  | m :: ms, l => ∃ t rest, l = t :: rest ∧ PStr s m.1 m.2 ∧ UQ s (m.1 + 1) m.2 t ∧ KeysR s ms rest
mutual
/-- The tree of a place. -/
def TreeR (s : ByteArray) : Pl → Nd → Prop
  | .mk k b e ns ks, n => n.kind = k ∧ ((k = 3 ∧ n.text = cut s b e) ∨ (k = 4 ∧ UQ s (b + 1) e n.text) ∨ (k ≠ 3 ∧ k ≠ 4 ∧ n.text = [])) ∧ KeysR s ns n.keys ∧ TreesR s ks n.kids
def TreesR (s : ByteArray) : List Pl → List Nd → Prop
  | [], l => l = []
  | p :: ps, l => ∃ n rest, l = n :: rest ∧ TreeR s p n ∧ TreesR s ps rest
end
theorem KeysR.uniq {s : ByteArray} : ∀ {ms : List (Nat × Nat)} {l l' : List (List UInt8)}, KeysR s ms l → KeysR s ms l' → l = l'
  | [], l, l', h, h' => by simp only [KeysR] at h h'; rw [h, h']
  | m :: ms, l, l', h, h' => by
    simp only [KeysR] at h h'
    obtain ⟨t, r, rfl, _, h1, h2⟩ := h
    obtain ⟨t', r', rfl, _, k1, k2⟩ := h'
    rw [h1.uniq k1, KeysR.uniq h2 k2]
mutual
theorem TreeR.uniq {s : ByteArray} : ∀ (p : Pl) (n n' : Nd), TreeR s p n → TreeR s p n' → n = n'
  | .mk k b e ns ks, .mk k1 t1 y1 d1, .mk k2 t2 y2 d2, h, h' => by
    simp only [TreeR, Nd.kind, Nd.text, Nd.keys, Nd.kids] at h h'
    obtain ⟨rfl, h1, h2, h3⟩ := h
    obtain ⟨rfl, k1, k2, k3⟩ := h'
    rw [h2.uniq k2, TreesR.uniq ks d1 d2 h3 k3]
    have e : t1 = t2 := by
      rcases h1 with ⟨h1, h4⟩ | ⟨h1, h4⟩ | ⟨h1, h5, h4⟩ <;> rcases k1 with ⟨k1, k4⟩ | ⟨k1, k4⟩ | ⟨k1, k5, k4⟩
      all_goals first | (exfalso; omega) | skip
      · rw [h4, k4]
      · exact h4.uniq k4
      · rw [h4, k4]
    rw [e]
theorem TreesR.uniq {s : ByteArray} : ∀ (ps : List Pl) (l l' : List Nd), TreesR s ps l → TreesR s ps l' → l = l'
  | [], l, l', h, h' => by simp only [TreesR] at h h'; rw [h, h']
  | p :: ps, l, l', h, h' => by
    simp only [TreesR] at h h'
    obtain ⟨n, r, rfl, h1, h2⟩ := h
    obtain ⟨n', r', rfl, k1, k2⟩ := h'
    rw [TreeR.uniq p n n' h1 k1, TreesR.uniq ps r r' h2 k2]
end
/-- The bytes of numbers. -/
def nmB (c : Nat) : Prop := (48 ≤ c ∧ c ≤ 57) ∨ c = 43 ∨ c = 45 ∨ c = 46 ∨ c = 69 ∨ c = 101
theorem PNum.bytes {s : ByteArray} {i j : Nat} (h : PNum s i j) : i ≤ j ∧ ∀ q, i ≤ q → q < j → nmB (bAt s q) := by
  obtain ⟨a, b, c, h1, h2, h3, h4⟩ := h
  have e1 : i ≤ a ∧ ∀ q, i ≤ q → q < a → nmB (bAt s q) := by
    rcases h1 with ⟨rfl, _⟩ | ⟨_, h, rfl⟩
    · exact ⟨Nat.le_refl _, fun q _ _ => by omega⟩
    · refine ⟨by omega, fun q _ _ => ?_⟩
      obtain rfl : q = i := by omega
      unfold nmB; omega
  have e2 : a ≤ b ∧ ∀ q, a ≤ q → q < b → nmB (bAt s q) := by
    rcases h2 with ⟨_, h, rfl⟩ | ⟨_, h, hd⟩
    · refine ⟨by omega, fun q _ _ => ?_⟩
      obtain rfl : q = a := by omega
      unfold nmB; omega
    · exact ⟨by omega, fun q k1 k2 => .inl (hd.2.2.1 q k1 k2)⟩
  have e3 : b ≤ c ∧ ∀ q, b ≤ q → q < c → nmB (bAt s q) := by
    rcases h3 with ⟨rfl, _⟩ | ⟨_, h, h', hd⟩
    · exact ⟨Nat.le_refl _, fun q _ _ => by omega⟩
    · refine ⟨by omega, fun q k1 k2 => ?_⟩
      by_cases e : q = b
      · subst e; unfold nmB; omega
      · exact .inl (hd.2.2.1 q (by omega) k2)
  have e4 : c ≤ j ∧ ∀ q, c ≤ q → q < j → nmB (bAt s q) := by
    rcases h4 with ⟨rfl, _⟩ | ⟨_, h, d, h5, h6, hd⟩
    · exact ⟨Nat.le_refl _, fun q _ _ => by omega⟩
    · have hd' : c + 1 ≤ d := by omega
      refine ⟨by omega, fun q k1 k2 => ?_⟩
      by_cases e : q = c
      · subst e; unfold nmB; omega
      by_cases e2 : q < d
      · rcases h5 with ⟨h5, _⟩ | ⟨_, h7, h8⟩
        · omega
        · obtain rfl : q = c + 1 := by omega
          unfold nmB; omega
      · exact .inl (hd.2.2.1 q (by omega) k2)
  refine ⟨by omega, fun q k1 k2 => ?_⟩
  by_cases g1 : q < a
  · exact e1.2 q k1 g1
  by_cases g2 : q < b
  · exact e2.2 q (by omega) g2
  by_cases g3 : q < c
  · exact e3.2 q (by omega) g3
  exact e4.2 q (by omega) k2
theorem Wd_byte {s : ByteArray} {i : Nat} {l : List UInt8} (h : Wd s i l) : ∀ q (hq : q < l.length), bAt s (i + q) = (l[q]).toNat := by
  intro q hq
  obtain ⟨h1, h2⟩ := h
  have hi : i + q < s.size := by omega
  have e : ((s.data.toList.drop i).take l.length)[q]? = l[q]? := by rw [h2]
  rw [List.getElem?_take, if_pos hq, List.getElem?_drop, Array.getElem?_toList, List.getElem?_eq_getElem hq] at e
  have e2 : s.data[i + q]? = some s[i + q] := Array.getElem?_eq_getElem (show i + q < s.data.size from hi)
  rw [e2] at e
  injection e with e
  rw [bAt_eq hi, e]
theorem Wd_no {s : ByteArray} {i : Nat} {l : List UInt8} (h : Wd s i l) (hl : ∀ x ∈ l, x.toNat ≠ 92) : ∀ q, i ≤ q → q < i + l.length → bAt s q ≠ 92 := by
  intro q h1 h2
  have := Wd_byte h (q - i) (by omega)
  rw [show i + (q - i) = q by omega] at this
  rw [this]
  exact hl _ (List.getElem_mem _)
theorem Bls.no {s : ByteArray} {a c : Nat} (h : Bls s a c) : ∀ q, a ≤ q → q < c → bAt s q ≠ 92 := by
  intro q h1 h2 e
  have := h.2.2 q h1 h2
  rw [e] at this
  cases this
theorem PR.blanks {s : ByteArray} {a c : Nat} (h : PR s a) (b : Bls s a c) : PR s c := h.skip b.1 b.no

theorem PR.str {s : ByteArray} {a m : Nat} (h : PR s a) (b : PStr s a m) : ∃ t, UQ s (a + 1) m t ∧ PR s m := SB.chars _ (a + 1) m (Nat.le_refl _) b.2.2.1 (h.step (by have := b.2.1; omega))

mutual
theorem tree_ex {s : ByteArray} : ∀ (p : Pl), PVal s p → PR s p.b → ∃ n, TreeR s p n ∧ PR s p.e
  | .mk k b e ns ks, h, hp => by
    simp only [PVal] at h
    simp only [Pl.b, Pl.e] at *
    rcases h with ⟨rfl, h1, rfl, rfl, rfl⟩ | ⟨rfl, h1, rfl, rfl, rfl⟩ | ⟨rfl, h1, rfl, rfl, rfl⟩ | ⟨rfl, h1, h2, h3, rfl, rfl⟩ | ⟨rfl, h1, rfl, rfl⟩ | ⟨rfl, h1, h2, rfl, c, h3, h4⟩ | ⟨rfl, h1, h2, c, h3, h4⟩
    · exact ⟨.mk 0 [] [] [], by simp [TreeR, TreesR, KeysR, Nd.kind, Nd.text, Nd.keys, Nd.kids], hp.skip (by omega) (Wd_no h1 (by decide))⟩
    · exact ⟨.mk 1 [] [] [], by simp [TreeR, TreesR, KeysR, Nd.kind, Nd.text, Nd.keys, Nd.kids], hp.skip (by omega) (Wd_no h1 (by decide))⟩
    · exact ⟨.mk 2 [] [] [], by simp [TreeR, TreesR, KeysR, Nd.kind, Nd.text, Nd.keys, Nd.kids], hp.skip (by omega) (Wd_no h1 (by decide))⟩
    · exact ⟨.mk 3 (cut s b e) [] [], by simp [TreeR, TreesR, KeysR, Nd.kind, Nd.text, Nd.keys, Nd.kids], hp.skip h3.bytes.1 (fun q k1 k2 => by have := h3.bytes.2 q k1 k2; unfold nmB at this; omega)⟩
    · obtain ⟨t, h4, h5⟩ := hp.str h1
      exact ⟨.mk 4 t [] [], by simp [TreeR, TreesR, KeysR, Nd.kind, Nd.text, Nd.keys, Nd.kids, h4], h5⟩
    · have hp1 := (hp.step (by omega)).blanks h3
      rcases h4 with ⟨rfl, h4, h5, rfl⟩ | h4
      · exact ⟨.mk 5 [] [] [], by simp [TreeR, TreesR, KeysR, Nd.kind, Nd.text, Nd.keys, Nd.kids], hp1.step (by omega)⟩
      · obtain ⟨l, h5, h6⟩ := trees_ex ks c e h4 hp1
        exact ⟨.mk 5 [] [] l, by simp [TreeR, KeysR, Nd.kind, Nd.text, Nd.keys, Nd.kids, h5], h6⟩
    · have hp1 := (hp.step (by omega)).blanks h3
      rcases h4 with ⟨rfl, rfl, h4, h5, rfl⟩ | h4
      · exact ⟨.mk 6 [] [] [], by simp [TreeR, TreesR, KeysR, Nd.kind, Nd.text, Nd.keys, Nd.kids], hp1.step (by omega)⟩
      · obtain ⟨y, l, h5, h6, h7⟩ := mtrees_ex ks ns c e h4 hp1
        exact ⟨.mk 6 [] y l, by simp [TreeR, Nd.kind, Nd.text, Nd.keys, Nd.kids, h5, h6], h7⟩
theorem trees_ex {s : ByteArray} : ∀ (ps : List Pl) (a e : Nat), PEls s ps a e → PR s a → ∃ l, TreesR s ps l ∧ PR s e
  | [], _, _, h, _ => by simp only [PEls] at h
  | p :: ps, a, e, h, hp => by
    simp only [PEls] at h
    obtain ⟨h1, h2, h3, c, h4, h5, h6⟩ := h
    obtain ⟨n, k1, k2⟩ := tree_ex p h2 (by rw [h1]; exact hp)
    have hp1 := k2.blanks h4
    rcases h6 with ⟨rfl, h6, rfl⟩ | ⟨h6, d, h7, h8⟩
    · exact ⟨[n], by simp only [TreesR]; exact ⟨n, [], rfl, k1, rfl⟩, hp1.step (by omega)⟩
    · obtain ⟨l, k3, k4⟩ := trees_ex ps d e h8 ((hp1.step (by omega)).blanks h7)
      exact ⟨n :: l, by simp only [TreesR]; exact ⟨n, l, rfl, k1, k3⟩, k4⟩
theorem mtrees_ex {s : ByteArray} : ∀ (ps : List Pl) (ns : List (Nat × Nat)) (a e : Nat), PMems s ps ns a e → PR s a → ∃ y l, KeysR s ns y ∧ TreesR s ps l ∧ PR s e
  | [], _, _, _, h, _ => by simp only [PMems] at h
  | p :: ps, ns, a, e, h, hp => by
    rw [PMems] at h
    obtain ⟨m, ms, rfl, h1, c, h2, h3, h4, d, h5, h6, h7, h8, f, h9, h10, h11⟩ := h
    obtain ⟨t, g1, g2⟩ := hp.str h1
    obtain ⟨n, k1, k2⟩ := tree_ex p h7 (by rw [h6]; exact ((g2.blanks h2).step (by omega)).blanks h5)
    have hp1 := k2.blanks h9
    rcases h11 with ⟨rfl, rfl, h11, rfl⟩ | ⟨h11, x, h12, h13⟩
    · exact ⟨[t], [n], by simp only [KeysR]; exact ⟨t, [], rfl, h1, g1, rfl⟩, by simp only [TreesR]; exact ⟨n, [], rfl, k1, rfl⟩, hp1.step (by omega)⟩
    · obtain ⟨y, l, k3, k4, k5⟩ := mtrees_ex ps ms x e h13 ((hp1.step (by omega)).blanks h12)
      exact ⟨t :: y, n :: l, by simp only [KeysR]; exact ⟨t, y, rfl, h1, g1, k3⟩, by simp only [TreesR]; exact ⟨n, l, rfl, k1, k4⟩, k5⟩
end
theorem text_tree {s : ByteArray} {p : Pl} (h : PText s p) (hp : PR s 0) : ∃ n, TreeR s p n ∧ PR s p.b := by
  obtain ⟨a, h1, h2, h3, _⟩ := h
  have hp1 : PR s p.b := by rw [h2]; exact hp.blanks h1
  obtain ⟨n, h4, _⟩ := tree_ex p h3 hp1
  exact ⟨n, h4, hp1⟩
end Go.Proofs.YtggdcpmampjncaaGreatDoor
namespace Go.Proofs.YtggdcpmampjncaaGreatDoor

/-- s' is s from a to b. -/
structure Sub (s s' : ByteArray) (a b : Nat) : Prop where
  ab : a ≤ b
  bs : b ≤ s.size
  eq : s' = s.extract a b
theorem Sub.size {s s' : ByteArray} {a b : Nat} (h : Sub s s' a b) : s'.size = b - a := by have := h.bs; rw [h.eq, ByteArray.size_extract]; omega
theorem Sub.at {s s' : ByteArray} {a b : Nat} (h : Sub s s' a b) {k : Nat} (h1 : a ≤ k) (h2 : k < b) : bAt s' (k - a) = bAt s k := by
  have hz := h.size
  have hb := h.bs
  have h3 : k - a < s'.size := by omega
  have h4 : k < s.size := by omega
  rw [bAt_eq h3, bAt_eq h4]
  obtain ⟨_, _, rfl⟩ := h
  rw [ByteArray.getElem_extract]
  congr 2
  omega
theorem Sub.at_end {s s' : ByteArray} {a b : Nat} (h : Sub s s' a b) {k : Nat} (h2 : b ≤ k) : bAt s' (k - a) = 0 := by
  have hz := h.size
  simp [bAt, show ¬ (k - a < s'.size) by omega]
/-- A byte that is not c stays none, for c that is not 0. -/
theorem Sub.ne {s s' : ByteArray} {a b : Nat} (h : Sub s s' a b) {k c : Nat} (h1 : a ≤ k) (hc : c ≠ 0) (hn : bAt s k ≠ c) : bAt s' (k - a) ≠ c := by
  by_cases h2 : k < b
  · rw [h.at h1 h2]; exact hn
  · rw [h.at_end (by omega)]; omega
theorem Sub.list {s s' : ByteArray} {a b : Nat} (h : Sub s s' a b) : s'.data.toList = (s.data.toList.drop a).take (b - a) := by
  rw [h.eq, ByteArray.data_extract, Array.toList_extract, List.extract_eq_take_drop]

section
variable {s s' : ByteArray} {a b : Nat} (S : Sub s s' a b)
include S
theorem Digs.sh {i j : Nat} (h : Digs s i j) (ha : a ≤ i) (hb : j ≤ b) : Digs s' (i - a) (j - a) := by
  obtain ⟨h1, h2, h3, h4⟩ := h
  have hz := S.size
  refine ⟨by omega, by omega, fun k k1 k2 => ?_, fun h => ?_⟩
  · have := h3 (k + a) (by omega) (by omega)
    rw [← S.at (by omega) (by omega), Nat.add_sub_cancel] at this
    exact this
  · rw [S.at (by omega) (by omega)]; exact h4 (by have := S.bs; omega)
theorem Sgn.sh {i j : Nat} (h : Sgn s i j) (ha : a ≤ i) (_hb : j ≤ b) (hi : i < b) : Sgn s' (i - a) (j - a) := by
  have hz := S.size
  rcases h with ⟨h1, h2⟩ | ⟨h1, h2, h3⟩
  · exact .inl ⟨by omega, S.ne ha (by omega) h2⟩
  · exact .inr ⟨by omega, by rw [S.at ha hi]; exact h2, by omega⟩
theorem IntP.sh {i j : Nat} (h : IntP s i j) (ha : a ≤ i) (hb : j ≤ b) : IntP s' (i - a) (j - a) := by
  have hz := S.size
  rcases h with ⟨h1, h2, h3⟩ | ⟨h1, h2, h3⟩
  · exact .inl ⟨by omega, by rw [S.at ha (by omega)]; exact h2, by omega⟩
  · exact .inr ⟨S.ne ha (by omega) h1, by omega, h3.sh S ha hb⟩
theorem FracP.sh {i j : Nat} (h : FracP s i j) (ha : a ≤ i) (hb : j ≤ b) : FracP s' (i - a) (j - a) := by
  have hz := S.size
  rcases h with ⟨h1, h2⟩ | ⟨h1, h2, h3, h4⟩
  · exact .inl ⟨by omega, S.ne ha (by omega) h2⟩
  · have := h4.sh S (by omega) hb
    rw [show i + 1 - a = i - a + 1 by omega] at this
    exact .inr ⟨by omega, by rw [S.at ha (by omega)]; exact h2, by omega, this⟩
theorem ExpP.sh {i j : Nat} (h : ExpP s i j) (ha : a ≤ i) (hb : j ≤ b) : ExpP s' (i - a) (j - a) := by
  have hz := S.size
  rcases h with ⟨h1, h2, h3⟩ | ⟨h1, h2, d, h3, h4, h5⟩
  · exact .inl ⟨by omega, S.ne ha (by omega) h2, S.ne ha (by omega) h3⟩
  · have hd : i + 1 ≤ d := by omega
    refine .inr ⟨by omega, by rw [S.at ha (by omega)]; exact h2, d - a, ?_, by omega, h5.sh S (by omega) hb⟩
    rcases h3 with ⟨h3, h6, h7⟩ | ⟨h3, h6, h7⟩
    · have k1 := S.ne (k := i + 1) (by omega) (by omega) h6
      have k2 := S.ne (k := i + 1) (by omega) (by omega) h7
      rw [show i + 1 - a = i - a + 1 by omega] at k1 k2
      exact .inl ⟨by omega, k1, k2⟩
    · have k1 := S.at (k := i + 1) (by omega) (by omega)
      rw [show i + 1 - a = i - a + 1 by omega] at k1
      exact .inr ⟨by omega, by rw [k1]; exact h6, by omega⟩
theorem PNum.sh {i j : Nat} (h : PNum s i j) (ha : a ≤ i) (hb : j ≤ b) : PNum s' (i - a) (j - a) := by
  obtain ⟨x, y, z, h1, h2, h3, h4⟩ := h
  have e1 : i ≤ x := by rcases h1 with ⟨h, _⟩ | ⟨_, _, h⟩ <;> omega
  have e2 : x < y := by rcases h2 with ⟨_, _, h⟩ | ⟨_, h, _⟩ <;> omega
  have e3 : y ≤ z := by rcases h3 with ⟨h, _⟩ | ⟨_, _, h, _⟩ <;> omega
  have e4 : z ≤ j := by
    rcases h4 with ⟨h, _⟩ | ⟨_, _, d, h5, h, _⟩
    · omega
    · omega
  exact ⟨x - a, y - a, z - a, h1.sh S ha (by omega) (by omega), h2.sh S (by omega) (by omega), h3.sh S (by omega) (by omega), h4.sh S (by omega) hb⟩
theorem Esc.sh {i j : Nat} (h : Esc s i j) (ha : a ≤ i) (hb : j ≤ b) : Esc s' (i - a) (j - a) := by
  have hz := S.size
  rcases h with ⟨h1, h2, h3⟩ | ⟨h1, h2, h3, h4⟩
  · exact .inl ⟨by omega, by omega, by rw [S.at ha (by omega)]; exact h3⟩
  · refine .inr ⟨by omega, by omega, by rw [S.at ha (by omega)]; exact h3, fun q hq => ?_⟩
    rw [show i - a + 1 + q = i + 1 + q - a by omega, S.at (by omega) (by omega)]
    exact h4 q hq
theorem SB.sh {i j : Nat} (h : SB s i j) : a ≤ i → j ≤ b → SB s' (i - a) (j - a) := by
  have hz := S.size
  induction h with
  | @close k h c =>
    intro ha hb
    have := SB.close (s := s') (k := k - a) (by omega) (by rw [S.at ha (by omega)]; exact c)
    rw [show k - a + 1 = k + 1 - a by omega] at this
    exact this
  | @plain k e h c1 c2 c3 r ih =>
    intro ha hb
    have hl := r.lt
    refine .plain (by omega) ?_ ?_ ?_ (by have := ih (by omega) hb; rw [show k + 1 - a = k - a + 1 by omega] at this; exact this)
    all_goals rw [S.at ha (by omega)]; assumption
  | @esc k m e h c x r ih =>
    intro ha hb
    have hl := r.lt
    have hx := x.lt
    have x' := x.sh S (by omega) (by omega)
    rw [show k + 1 - a = k - a + 1 by omega] at x'
    exact .esc (by omega) (by rw [S.at ha (by omega)]; exact c) x' (ih (by omega) hb)
theorem PStr.sh {i j : Nat} (h : PStr s i j) (ha : a ≤ i) (hb : j ≤ b) : PStr s' (i - a) (j - a) := by
  have hz := S.size
  obtain ⟨h1, h2, h3, h4⟩ := h
  have hl := h3.lt
  have := h3.sh S (by omega) hb
  rw [show i + 1 - a = i - a + 1 by omega] at this
  exact ⟨by omega, by rw [S.at ha (by omega)]; exact h2, this, by omega⟩
theorem Bls.sh {i j : Nat} (h : Bls s i j) (ha : a ≤ i) (hb : j ≤ b) : Bls s' (i - a) (j - a) := by
  have hz := S.size
  obtain ⟨h1, h2, h3⟩ := h
  refine ⟨by omega, by omega, fun k k1 k2 => ?_⟩
  have := h3 (k + a) (by omega) (by omega)
  rw [← S.at (by omega) (by omega), Nat.add_sub_cancel] at this
  exact this
theorem Wd.sh {i : Nat} {l : List UInt8} (h : Wd s i l) (ha : a ≤ i) (hb : i + l.length ≤ b) : Wd s' (i - a) l := by
  have hz := S.size
  obtain ⟨h1, h2⟩ := h
  refine ⟨by omega, ?_⟩
  rw [S.list, List.drop_take, List.drop_drop, List.take_take, show a + (i - a) = i by omega, Nat.min_eq_left (by omega)]
  exact h2
theorem cut_sh {i j : Nat} (ha : a ≤ i) (hb : j ≤ b) : cut s' (i - a) (j - a) = cut s i j := by
  unfold cut
  rw [S.list, List.drop_take, List.drop_drop, List.take_take, show a + (i - a) = i by omega, Nat.min_eq_left (by omega), show j - a - (i - a) = j - i by omega]
theorem isU.sh {k : Nat} (h : isU s k) (ha : a ≤ k) (hb : k + 6 ≤ b) : isU s' (k - a) := by
  have hz := S.size
  obtain ⟨h1, h2, h3, h4⟩ := h
  refine ⟨by omega, by rw [S.at ha (by omega)]; exact h2, ?_, fun q hq => ?_⟩
  · rw [show k - a + 1 = k + 1 - a by omega, S.at (by omega) (by omega)]; exact h3
  · rw [show k - a + 2 + q = k + 2 + q - a by omega, S.at (by omega) (by omega)]; exact h4 q hq
theorem uV_sh {k : Nat} (ha : a ≤ k) (hb : k + 6 ≤ b) : uV s' (k - a) = uV s k := by
  have h : ∀ q, q ≤ 4 → uP s' (k - a) q = uP s k q := by
    intro q
    induction q with
    | zero => intro _; rfl
    | succ q ih =>
      intro hq
      simp only [uP]
      rw [ih (by omega), show k - a + 2 + q = k + 2 + q - a by omega, S.at (by omega) (by omega)]
  exact h 4 (Nat.le_refl _)
theorem UQ.sh {i j : Nat} {out : List UInt8} (h : UQ s i j out) : a ≤ i → j ≤ b → UQ s' (i - a) (j - a) out := by
  have hz := S.size
  induction h with
  | @close k h c =>
    intro ha hb
    have := UQ.close (s := s') (k := k - a) (by omega) (by rw [S.at ha (by omega)]; exact c)
    rw [show k - a + 1 = k + 1 - a by omega] at this
    exact this
  | @plain k e out h c1 c2 c3 r ih =>
    intro ha hb
    have hl := r.sb.lt
    have e := S.at ha (k := k) (by omega)
    rw [← e]
    exact .plain (by omega) (by rw [e]; exact c1) (by rw [e]; exact c2) (by rw [e]; exact c3) (by have := ih (by omega) hb; rw [show k + 1 - a = k - a + 1 by omega] at this; exact this)
  | @short k e out h c x r ih =>
    intro ha hb
    have hl := r.sb.lt
    have e := S.at (k := k + 1) (by omega) (by omega)
    rw [show k + 1 - a = k - a + 1 by omega] at e
    have := ih (by omega) hb
    rw [show k + 2 - a = k - a + 2 by omega] at this
    rw [← e]
    exact .short (by omega) (by rw [S.at ha (by omega)]; exact c) (by rw [e]; exact x) this
  | @uni k e out u hi lo r ih =>
    intro ha hb
    have hl := r.sb.lt
    have e := uV_sh S ha (k := k) (by omega)
    have := ih (by omega) hb
    rw [show k + 6 - a = k - a + 6 by omega] at this
    rw [← e] at hi lo ⊢
    exact .uni (u.sh S ha (by omega)) hi lo this
  | @pair k e out u hi v lo r ih =>
    intro ha hb
    have hl := r.sb.lt
    have e := uV_sh S ha (k := k) (by omega)
    have e2 := uV_sh S (k := k + 6) (by omega) (by omega)
    have := ih (by omega) hb
    have v' := v.sh S (by omega) (by omega)
    rw [show k + 12 - a = k - a + 12 by omega] at this
    rw [show k + 6 - a = k - a + 6 by omega] at e2 v'
    rw [← e] at hi ⊢
    rw [← e2] at lo ⊢
    exact .pair (u.sh S ha (by omega)) hi v' lo this
end

/-! ### The order of places -/
theorem PNum.lt {s : ByteArray} {i j : Nat} (h : PNum s i j) : i < j := by
  obtain ⟨x, y, z, h1, h2, h3, h4⟩ := h
  have e1 : i ≤ x := by rcases h1 with ⟨h, _⟩ | ⟨_, _, h⟩ <;> omega
  have e2 : x < y := by rcases h2 with ⟨_, _, h⟩ | ⟨_, h, _⟩ <;> omega
  have e3 : y ≤ z := by rcases h3 with ⟨h, _⟩ | ⟨_, _, h, _⟩ <;> omega
  rcases h4 with ⟨h, _⟩ | ⟨_, _, d, h5, h, _⟩ <;> omega
mutual
theorem PVal.lt {s : ByteArray} : ∀ (p : Pl), PVal s p → p.b < p.e
  | .mk k b e ns ks, h => by
    simp only [PVal] at h
    simp only [Pl.b, Pl.e] at *
    rcases h with ⟨rfl, h1, rfl, rfl, rfl⟩ | ⟨rfl, h1, rfl, rfl, rfl⟩ | ⟨rfl, h1, rfl, rfl, rfl⟩ | ⟨rfl, h1, h2, h3, rfl, rfl⟩ | ⟨rfl, h1, rfl, rfl⟩ | ⟨rfl, h1, h2, rfl, c, h3, h4⟩ | ⟨rfl, h1, h2, c, h3, h4⟩
    · omega
    · omega
    · omega
    · exact h3.lt
    · have := h1.2.2.1.lt; omega
    · have := h3.1
      rcases h4 with ⟨rfl, h4, h5, rfl⟩ | h4
      · omega
      · have := PEls.lt ks c e h4; omega
    · have := h3.1
      rcases h4 with ⟨rfl, rfl, h4, h5, rfl⟩ | h4
      · omega
      · have := PMems.lt ks ns c e h4; omega
theorem PEls.lt {s : ByteArray} : ∀ (ps : List Pl) (a e : Nat), PEls s ps a e → a < e
  | [], _, _, h => by simp only [PEls] at h
  | p :: ps, a, e, h => by
    simp only [PEls] at h
    obtain ⟨h1, h2, h3, c, h4, h5, h6⟩ := h
    have := PVal.lt p h2
    have := h4.1
    rcases h6 with ⟨rfl, h6, rfl⟩ | ⟨h6, d, h7, h8⟩
    · omega
    · have := h7.1
      have := PEls.lt ps d e h8
      omega
theorem PMems.lt {s : ByteArray} : ∀ (ps : List Pl) (ns : List (Nat × Nat)) (a e : Nat), PMems s ps ns a e → a < e
  | [], _, _, _, h => by simp only [PMems] at h
  | p :: ps, ns, a, e, h => by
    rw [PMems] at h
    obtain ⟨m, ms, rfl, h1, c, h2, h3, h4, d, h5, h6, h7, h8, f, h9, h10, h11⟩ := h
    have := h1.2.2.1.lt
    have := h2.1
    have := h5.1
    have := PVal.lt p h7
    have := h9.1
    rcases h11 with ⟨rfl, rfl, h11, rfl⟩ | ⟨h11, x, h12, h13⟩
    · omega
    · have := h12.1
      have := PMems.lt ps ms x e h13
      omega
end

/-! ### Places moved -/
def shN (a : Nat) (ns : List (Nat × Nat)) : List (Nat × Nat) := ns.map fun m => (m.1 - a, m.2 - a)
mutual
/-- A place with its offsets less a. -/
def Pl.sh (a : Nat) : Pl → Pl
  | .mk k b e ns ks => .mk k (b - a) (e - a) (shN a ns) (shK a ks)
def shK (a : Nat) : List Pl → List Pl
  | [] => []
  | p :: ps => p.sh a :: shK a ps
end
theorem Pl.sh_b (a : Nat) (p : Pl) : (p.sh a).b = p.b - a := by cases p; simp only [Pl.sh, Pl.b]
theorem Pl.sh_e (a : Nat) (p : Pl) : (p.sh a).e = p.e - a := by cases p; simp only [Pl.sh, Pl.e]
mutual
theorem PVal.sh {s s' : ByteArray} {a b : Nat} (S : Sub s s' a b) : ∀ (p : Pl), PVal s p → a ≤ p.b → p.e ≤ b → PVal s' (p.sh a)
  | .mk k i e ns ks, h, ha, hb => by
    have hz := S.size
    have hlt := PVal.lt _ h
    simp only [PVal] at h
    simp only [Pl.b, Pl.e] at *
    simp only [Pl.sh, PVal]
    rcases h with ⟨rfl, h1, rfl, rfl, rfl⟩ | ⟨rfl, h1, rfl, rfl, rfl⟩ | ⟨rfl, h1, rfl, rfl, rfl⟩ | ⟨rfl, h1, h2, h3, rfl, rfl⟩ | ⟨rfl, h1, rfl, rfl⟩ | ⟨rfl, h1, h2, rfl, c, h3, h4⟩ | ⟨rfl, h1, h2, c, h3, h4⟩
    · exact .inl ⟨rfl, h1.sh S ha hb, by omega, rfl, by simp only [shK]⟩
    · exact .inr (.inl ⟨rfl, h1.sh S ha hb, by omega, rfl, by simp only [shK]⟩)
    · exact .inr (.inr (.inl ⟨rfl, h1.sh S ha hb, by omega, rfl, by simp only [shK]⟩))
    · exact .inr (.inr (.inr (.inl ⟨rfl, by omega, by rw [S.at ha (by omega)]; exact h2, h3.sh S ha hb, rfl, by simp only [shK]⟩)))
    · exact .inr (.inr (.inr (.inr (.inl ⟨rfl, h1.sh S ha hb, rfl, by simp only [shK]⟩))))
    · have hc := h3.1
      rcases h4 with ⟨rfl, h4, h5, rfl⟩ | h4
      · have h3' := h3.sh S (by omega) (by omega)
        rw [show i + 1 - a = i - a + 1 by omega] at h3'
        exact .inr (.inr (.inr (.inr (.inr (.inl ⟨rfl, by omega, by rw [S.at ha (by omega)]; exact h2, rfl, c - a, h3', .inl ⟨by simp only [shK], by omega, by rw [S.at (by omega) (by omega)]; exact h5, by omega⟩⟩)))))
      · have hl := PEls.lt ks c e h4
        have h3' := h3.sh S (by omega) (by omega)
        rw [show i + 1 - a = i - a + 1 by omega] at h3'
        exact .inr (.inr (.inr (.inr (.inr (.inl ⟨rfl, by omega, by rw [S.at ha (by omega)]; exact h2, rfl, c - a, h3', .inr (PEls.sh S ks c e h4 (by omega) hb)⟩)))))
    · have hc := h3.1
      rcases h4 with ⟨rfl, rfl, h4, h5, rfl⟩ | h4
      · have h3' := h3.sh S (by omega) (by omega)
        rw [show i + 1 - a = i - a + 1 by omega] at h3'
        exact .inr (.inr (.inr (.inr (.inr (.inr ⟨rfl, by omega, by rw [S.at ha (by omega)]; exact h2, c - a, h3', .inl ⟨by simp only [shK], rfl, by omega, by rw [S.at (by omega) (by omega)]; exact h5, by omega⟩⟩)))))
      · have hl := PMems.lt ks ns c e h4
        have h3' := h3.sh S (by omega) (by omega)
        rw [show i + 1 - a = i - a + 1 by omega] at h3'
        exact .inr (.inr (.inr (.inr (.inr (.inr ⟨rfl, by omega, by rw [S.at ha (by omega)]; exact h2, c - a, h3', .inr (PMems.sh S ks ns c e h4 (by omega) hb)⟩)))))
theorem PEls.sh {s s' : ByteArray} {a b : Nat} (S : Sub s s' a b) : ∀ (ps : List Pl) (i e : Nat), PEls s ps i e → a ≤ i → e ≤ b → PEls s' (shK a ps) (i - a) (e - a)
  | [], _, _, h, _, _ => by simp only [PEls] at h
  | p :: ps, i, e, h, ha, hb => by
    have hz := S.size
    simp only [PEls] at h
    simp only [shK, PEls]
    obtain ⟨h1, h2, h3, c, h4, h5, h6⟩ := h
    have hl := PVal.lt p h2
    have hc := h4.1
    have hce : c < e := by
      rcases h6 with ⟨rfl, h6, rfl⟩ | ⟨h6, d, h7, h8⟩
      · omega
      · have := h7.1; have := PEls.lt ps d e h8; omega
    rw [Pl.sh_b, Pl.sh_e]
    refine ⟨by rw [h1], PVal.sh S p h2 (by omega) (by omega), by omega, c - a, h4.sh S (by omega) (by omega), by omega, ?_⟩
    rcases h6 with ⟨rfl, h6, rfl⟩ | ⟨h6, d, h7, h8⟩
    · exact .inl ⟨by simp only [shK], by rw [S.at (by omega) (by omega)]; exact h6, by omega⟩
    · have hl2 := PEls.lt ps d e h8
      have hd := h7.1
      have h7' := h7.sh S (by omega) (by omega)
      rw [show c + 1 - a = c - a + 1 by omega] at h7'
      exact .inr ⟨by rw [S.at (by omega) (by omega)]; exact h6, d - a, h7', PEls.sh S ps d e h8 (by omega) hb⟩
theorem PMems.sh {s s' : ByteArray} {a b : Nat} (S : Sub s s' a b) : ∀ (ps : List Pl) (ns : List (Nat × Nat)) (i e : Nat), PMems s ps ns i e → a ≤ i → e ≤ b → PMems s' (shK a ps) (shN a ns) (i - a) (e - a)
  | [], _, _, _, h, _, _ => by simp only [PMems] at h
  | p :: ps, ns, i, e, h, ha, hb => by
    have hz := S.size
    rw [PMems] at h
    simp only [shK]
    rw [PMems]
    obtain ⟨m, ms, rfl, h1, c, h2, h3, h4, d, h5, h6, h7, h8, f, h9, h10, h11⟩ := h
    have l1 := h1.2.2.1.lt
    have l2 := h2.1
    have l3 := h5.1
    have l4 := PVal.lt p h7
    have l5 := h9.1
    have hfe : f < e := by
      rcases h11 with ⟨rfl, rfl, h11, rfl⟩ | ⟨h11, x, h12, h13⟩
      · omega
      · have := h12.1; have := PMems.lt ps ms x e h13; omega
    have h5' := h5.sh S (by omega) (by omega)
    rw [show c + 1 - a = c - a + 1 by omega] at h5'
    rw [Pl.sh_b, Pl.sh_e]
    refine ⟨m - a, shN a ms, rfl, h1.sh S ha (by omega), c - a, h2.sh S (by omega) (by omega), by omega, by rw [S.at (by omega) (by omega)]; exact h4, d - a, h5', by rw [h6], PVal.sh S p h7 (by omega) (by omega), by omega, f - a, h9.sh S (by omega) (by omega), by omega, ?_⟩
    rcases h11 with ⟨rfl, rfl, h11, rfl⟩ | ⟨h11, x, h12, h13⟩
    · exact .inl ⟨by simp only [shK], rfl, by rw [S.at (by omega) (by omega)]; exact h11, by omega⟩
    · have hl2 := PMems.lt ps ms x e h13
      have hd := h12.1
      have h12' := h12.sh S (by omega) (by omega)
      rw [show f + 1 - a = f - a + 1 by omega] at h12'
      exact .inr ⟨by rw [S.at (by omega) (by omega)]; exact h11, x - a, h12', PMems.sh S ps ms x e h13 (by omega) hb⟩
end
/-- A value of a text, with what blanks stand behind it, is a text. -/
theorem PVal.text {s s' : ByteArray} {b : Nat} {p : Pl} (S : Sub s s' p.b b) (h : PVal s p) (he : p.e ≤ b) (hb : Bls s p.e b) : PText s' (p.sh p.b) := by
  have hz := S.size
  have hl := PVal.lt p h
  refine ⟨0, ⟨Nat.le_refl _, Nat.zero_le _, fun k _ h2 => by omega⟩, by rw [Pl.sh_b]; omega, PVal.sh S p h (Nat.le_refl _) he, by rw [Pl.sh_e]; omega, ?_⟩
  have := hb.sh S (by omega) (Nat.le_refl _)
  rw [Pl.sh_e, hz]
  exact this

theorem KeysR.sh {s s' : ByteArray} {a b : Nat} (S : Sub s s' a b) : ∀ {ms : List (Nat × Nat)} {l : List (List UInt8)}, KeysR s ms l → (∀ m ∈ ms, a ≤ m.1 ∧ m.2 ≤ b) → KeysR s' (shN a ms) l
  | [], l, h, _ => by simp only [KeysR] at h; simp only [shN, List.map_nil, KeysR]; exact h
  | m :: ms, l, h, hb => by
    simp only [KeysR] at h
    obtain ⟨t, r, rfl, h0, h1, h2⟩ := h
    have hm := hb m (by simp)
    have h1' := h1.sh S (by omega) hm.2
    rw [show m.1 + 1 - a = m.1 - a + 1 by omega] at h1'
    have := KeysR.sh S h2 (fun x hx => hb x (by simp [hx]))
    simp only [shN, List.map_cons, KeysR] at this ⊢
    exact ⟨t, r, rfl, h0.sh S hm.1 hm.2, h1', this⟩
/-- The names of members lie within. -/
theorem PMems.names {s : ByteArray} : ∀ (ps : List Pl) (ns : List (Nat × Nat)) (a e : Nat), PMems s ps ns a e → ∀ m ∈ ns, a ≤ m.1 ∧ m.2 ≤ e
  | [], _, _, _, h => by simp only [PMems] at h
  | p :: ps, ns, a, e, h => by
    have hlt := PMems.lt _ _ _ _ h
    rw [PMems] at h
    obtain ⟨m, ms, rfl, h1, c, h2, h3, h4, d, h5, h6, h7, h8, f, h9, h10, h11⟩ := h
    have l1 := h1.2.2.1.lt
    have l2 := h2.1
    have l3 := h5.1
    have l4 := PVal.lt p h7
    have l5 := h9.1
    intro x hx
    rcases List.mem_cons.1 hx with rfl | hx
    · refine ⟨Nat.le_refl _, ?_⟩
      rcases h11 with ⟨rfl, rfl, h11, rfl⟩ | ⟨h11, x, h12, h13⟩
      · show m ≤ _; omega
      · have := h12.1; have := PMems.lt ps ms x e h13; show m ≤ e; omega
    · rcases h11 with ⟨rfl, rfl, h11, rfl⟩ | ⟨h11, y, h12, h13⟩
      · simp at hx
      · have := PMems.names ps ms y e h13 x hx
        have := h12.1
        omega
mutual
theorem TreeR.sh {s s' : ByteArray} {a b : Nat} (S : Sub s s' a b) : ∀ (p : Pl) (n : Nd), PVal s p → TreeR s p n → a ≤ p.b → p.e ≤ b → TreeR s' (p.sh a) n
  | .mk k i e ns ks, .mk k' t y d, hv, h, ha, hb => by
    have hlt := PVal.lt _ hv
    simp only [PVal] at hv
    simp only [TreeR, Pl.sh, Pl.b, Pl.e, Nd.kind, Nd.text, Nd.keys, Nd.kids] at *
    obtain ⟨rfl, h1, h2, h3⟩ := h
    refine ⟨rfl, ?_, ?_, ?_⟩
    · rcases h1 with ⟨h1, h4⟩ | ⟨h1, h4⟩ | h1
      · exact .inl ⟨h1, by rw [cut_sh S ha hb]; exact h4⟩
      · have := h4.sh S (by omega) hb
        rw [show i + 1 - a = i - a + 1 by omega] at this
        exact .inr (.inl ⟨h1, this⟩)
      · exact .inr (.inr h1)
    · rcases hv with ⟨_, _, _, rfl, _⟩ | ⟨_, _, _, rfl, _⟩ | ⟨_, _, _, rfl, _⟩ | ⟨_, _, _, _, rfl, _⟩ | ⟨_, _, rfl, _⟩ | ⟨_, _, _, rfl, _⟩ | ⟨_, _, _, c, g3, ⟨_, rfl, _⟩ | g4⟩
      all_goals first | exact KeysR.sh S h2 (fun m hm => by simp at hm) | skip
      have l1 := g3.1
      exact KeysR.sh S h2 (fun m hm => by have := PMems.names _ _ _ _ g4 m hm; omega)
    · rcases hv with ⟨_, _, _, _, rfl⟩ | ⟨_, _, _, _, rfl⟩ | ⟨_, _, _, _, rfl⟩ | ⟨_, _, _, _, _, rfl⟩ | ⟨_, _, _, rfl⟩ | ⟨_, _, _, _, c, g3, ⟨rfl, _⟩ | g4⟩ | ⟨_, _, _, c, g3, ⟨rfl, _⟩ | g4⟩
      all_goals first | (simp only [shK, TreesR] at *; exact h3) | skip
      · have l1 := g3.1
        exact TreesR.shE S ks d c e g4 h3 (by omega) hb
      · have l1 := g3.1
        exact TreesR.shM S ks d ns c e g4 h3 (by omega) hb
theorem TreesR.shE {s s' : ByteArray} {a b : Nat} (S : Sub s s' a b) : ∀ (ps : List Pl) (l : List Nd) (i e : Nat), PEls s ps i e → TreesR s ps l → a ≤ i → e ≤ b → TreesR s' (shK a ps) l
  | [], _, _, _, h, _, _, _ => by simp only [PEls] at h
  | p :: ps, l, i, e, h, ht, ha, hb => by
    simp only [PEls] at h
    simp only [TreesR, shK] at ht ⊢
    obtain ⟨n, r, rfl, k1, k2⟩ := ht
    obtain ⟨h1, h2, h3, c, h4, h5, h6⟩ := h
    have hl := PVal.lt p h2
    have hc := h4.1
    rcases h6 with ⟨rfl, h6, rfl⟩ | ⟨h6, d, h7, h8⟩
    · simp only [TreesR] at k2
      exact ⟨n, r, rfl, TreeR.sh S p n h2 k1 (by omega) (by omega), by simp only [shK, TreesR]; exact k2⟩
    · have hl2 := PEls.lt ps d e h8
      have hd := h7.1
      exact ⟨n, r, rfl, TreeR.sh S p n h2 k1 (by omega) (by omega), TreesR.shE S ps r d e h8 k2 (by omega) hb⟩
theorem TreesR.shM {s s' : ByteArray} {a b : Nat} (S : Sub s s' a b) : ∀ (ps : List Pl) (l : List Nd) (ns : List (Nat × Nat)) (i e : Nat), PMems s ps ns i e → TreesR s ps l → a ≤ i → e ≤ b → TreesR s' (shK a ps) l
  | [], _, _, _, _, h, _, _, _ => by simp only [PMems] at h
  | p :: ps, l, ns, i, e, h, ht, ha, hb => by
    rw [PMems] at h
    simp only [TreesR, shK] at ht ⊢
    obtain ⟨n, r, rfl, k1, k2⟩ := ht
    obtain ⟨m, ms, rfl, h1, c, h2, h3, h4, d, h5, h6, h7, h8, f, h9, h10, h11⟩ := h
    have l1 := h1.2.2.1.lt
    have l2 := h2.1
    have l3 := h5.1
    have l4 := PVal.lt p h7
    have l5 := h9.1
    rcases h11 with ⟨rfl, rfl, h11, rfl⟩ | ⟨h11, x, h12, h13⟩
    · simp only [TreesR] at k2
      exact ⟨n, r, rfl, TreeR.sh S p n h7 k1 (by omega) (by omega), by simp only [shK, TreesR]; exact k2⟩
    · have hl2 := PMems.lt ps ms x e h13
      have hd := h12.1
      exact ⟨n, r, rfl, TreeR.sh S p n h7 k1 (by omega) (by omega), TreesR.shM S ps r ms x e h13 k2 (by omega) hb⟩
end
end Go.Proofs.YtggdcpmampjncaaGreatDoor
namespace Go.Proofs.YtggdcpmampjncaaGreatDoor

/-! ### Backslashes ahead of a place -/
/-- How many backslashes stand directly ahead of k + d, not before k. -/
def bsl (s : ByteArray) (k : Nat) : Nat → Nat
  | 0 => 0
  | d + 1 => if bAt s (k + d) = 92 then bsl s k d + 1 else 0
theorem bsl_le (s : ByteArray) (k : Nat) : ∀ d, bsl s k d ≤ d
  | 0 => Nat.le_refl _
  | d + 1 => by
    have := bsl_le s k d
    simp only [bsl]
    split <;> omega
/-- Behind a byte that is no backslash the count begins anew. -/
theorem bsl_shift (s : ByteArray) (k m : Nat) (hm : bAt s (k + m) ≠ 92) : ∀ d, bsl s k (m + 1 + d) = bsl s (k + m + 1) d
  | 0 => by simp only [bsl]; rw [if_neg hm]
  | d + 1 => by
    rw [show m + 1 + (d + 1) = (m + 1 + d) + 1 by omega]
    simp only [bsl]
    rw [bsl_shift s k m hm d, show k + (m + 1 + d) = k + m + 1 + d by omega]
/-- Two backslashes ahead do not change whether the count is even. -/
theorem bsl_two (s : ByteArray) (k : Nat) (h0 : bAt s k = 92) (h1 : bAt s (k + 1) = 92) : ∀ d, bsl s k (2 + d) % 2 = bsl s (k + 2) d % 2
  | 0 => by simp [bsl, h0, h1]
  | d + 1 => by
    have ih := bsl_two s k h0 h1 d
    rw [show 2 + (d + 1) = (2 + d) + 1 by omega]
    simp only [bsl]
    rw [show k + (2 + d) = k + 2 + d by omega]
    split
    · omega
    · rfl
/-- The rest of a string: each quotation mark in it stands behind an odd number of backslashes, the closing one behind an even number. -/
theorem SB.quotes {s : ByteArray} {k e : Nat} (h : SB s k e) : bAt s (e - 1) = 34 ∧ bsl s k (e - 1 - k) % 2 = 0 ∧ ∀ q, k ≤ q → q < e - 1 → bAt s q = 34 → bsl s k (q - k) % 2 = 1 := by
  induction h with
  | @close k h c =>
    refine ⟨by rw [Nat.add_sub_cancel]; exact c, by rw [show k + 1 - 1 - k = 0 by omega]; rfl, fun q h1 h2 _ => by omega⟩
  | @plain k e h c1 c2 c3 r ih =>
    have hl := r.lt
    obtain ⟨i1, i2, i3⟩ := ih
    have hsh : ∀ q, k + 1 ≤ q → bsl s k (q - k) = bsl s (k + 1) (q - (k + 1)) := fun q hq => by
      have := bsl_shift s k 0 (by simpa using c3) (q - (k + 1))
      rw [show 0 + 1 + (q - (k + 1)) = q - k by omega] at this
      simpa using this
    refine ⟨i1, by rw [hsh _ (by omega)]; exact i2, fun q h1 h2 h3 => ?_⟩
    by_cases e : q = k
    · subst e; exact absurd h3 c1
    · rw [hsh q (by omega)]; exact i3 q (by omega) h2 h3
  | @esc k m e h c x r ih =>
    have hl := r.lt
    have hx := x.lt
    obtain ⟨i1, i2, i3⟩ := ih
    have hsh : ∀ q, m ≤ q → bsl s k (q - k) % 2 = bsl s m (q - m) % 2 := fun q hq => by
      by_cases hb : bAt s (m - 1) = 92
      · have hm : m = k + 2 ∧ bAt s (k + 1) = 92 := by
          rcases x with ⟨_, x2, x3⟩ | ⟨x1, x2, x3, x4⟩
          · have : m - 1 = k + 1 := by omega
            exact ⟨by omega, by rw [← this]; exact hb⟩
          · have := x4 3 (by omega)
            rw [show k + 1 + 1 + 3 = m - 1 by omega, hb] at this
            exact absurd this (by decide)
        obtain ⟨rfl, hm2⟩ := hm
        have := bsl_two s k c hm2 (q - (k + 2))
        rw [show 2 + (q - (k + 2)) = q - k by omega] at this
        exact this
      · have := bsl_shift s k (m - 1 - k) (by rw [show k + (m - 1 - k) = m - 1 by omega]; exact hb) (q - m)
        rw [show m - 1 - k + 1 + (q - m) = q - k by omega, show k + (m - 1 - k) + 1 = m by omega] at this
        rw [this]
    refine ⟨i1, by rw [hsh _ (by omega)]; exact i2, fun q h1 h2 h3 => ?_⟩
    by_cases hq : m ≤ q
    · rw [hsh q hq]; exact i3 q hq h2 h3
    by_cases e : q = k
    · subst e; rw [c] at h3; omega
    by_cases e1 : q = k + 1
    · subst e1
      rw [show k + 1 - k = 0 + 1 by omega]
      simp [bsl, c]
    · rcases x with ⟨_, x2, x3⟩ | ⟨x1, x2, x3, x4⟩
      · omega
      · have := x4 (q - (k + 2)) (by omega)
        rw [show k + 1 + 1 + (q - (k + 2)) = q by omega, h3] at this
        exact absurd this (by decide)
/-- Without backslashes the characters are the bytes. -/
theorem UQ.plainBytes {s : ByteArray} {k e : Nat} {out : List UInt8} (h : UQ s k e out) : (∀ q, k ≤ q → q < e - 1 → bAt s q ≠ 92) → out = cut s k (e - 1) := by
  induction h with
  | @close k h c => intro _; simp [cut]
  | @plain k e out h c1 c2 c3 r ih =>
    intro hq
    have hl := r.sb.lt
    rw [ih (fun q h1 h2 => hq q (by omega) h2)]
    unfold cut
    have hk : k < s.data.toList.length := by simpa using h
    rw [List.drop_eq_getElem_cons hk, show e - 1 - k = (e - 1 - (k + 1)) + 1 by omega, List.take_succ_cons, bAt_eq h]
    congr 1
    simp
    rfl
  | @short k e out h c x r ih =>
    intro hq
    have hl := r.sb.lt
    exact absurd c (hq k (Nat.le_refl _) (by omega))
  | @uni k e out u hi lo r ih =>
    intro hq
    have hl := r.sb.lt
    exact absurd u.2.1 (hq k (Nat.le_refl _) (by omega))
  | @pair k e out u hi v lo r ih =>
    intro hq
    have hl := r.sb.lt
    exact absurd u.2.1 (hq k (Nat.le_refl _) (by omega))

/-! ### Brackets -/
def isB (c : Nat) : Prop := c = 34 ∨ c = 123 ∨ c = 91 ∨ c = 40 ∨ c = 125 ∨ c = 93 ∨ c = 41
/-- From i on at depth d the scanner comes to the end e. -/
inductive SQ (s : ByteArray) : Nat → Nat → Nat → Prop where
  | skip {i d e : Nat} (h : i < s.size) (c : ¬ isB (bAt s i)) (r : SQ s (i + 1) d e) : SQ s i d e
  | «open» {i d e : Nat} (h : i < s.size) (c : bAt s i = 123 ∨ bAt s i = 91) (r : SQ s (i + 1) (d + 1) e) : SQ s i d e
  | shut {i : Nat} (h : i < s.size) (c : bAt s i = 125 ∨ bAt s i = 93) : SQ s i 1 (i + 1)
  | down {i d e : Nat} (h : i < s.size) (c : bAt s i = 125 ∨ bAt s i = 93) (hd : 1 ≤ d) (r : SQ s (i + 1) d e) : SQ s i (d + 1) e
  | str {i d m e : Nat} (h : PStr s i m) (r : SQ s m d e) : SQ s i d e
theorem SQ.skips {s : ByteArray} {i j d e : Nat} (hij : i ≤ j) (hj : j ≤ s.size) (h : ∀ q, i ≤ q → q < j → ¬ isB (bAt s q)) (r : SQ s j d e) : SQ s i d e := by
  obtain ⟨n, rfl⟩ : ∃ n, j = i + n := ⟨j - i, by omega⟩
  induction n with
  | zero => exact r
  | succ n ih => exact ih (by omega) (by omega) (fun q h1 h2 => h q h1 (by omega)) (.skip (by omega) (h (i + n) (by omega) (by omega)) r)
theorem SQ.blanks {s : ByteArray} {i j d e : Nat} (b : Bls s i j) (r : SQ s j d e) : SQ s i d e := by
  refine SQ.skips b.1 b.2.1 (fun q h1 h2 hc => ?_) r
  have := b.2.2 q h1 h2
  unfold isB at hc
  simp only [isBl, Bool.or_eq_true, beq_iff_eq] at this
  omega
theorem Wd_ok {s : ByteArray} {i : Nat} {l : List UInt8} (h : Wd s i l) (hl : ∀ x ∈ l, 97 ≤ x.toNat ∧ x.toNat ≤ 122) : ∀ q, i ≤ q → q < i + l.length → 97 ≤ bAt s q ∧ bAt s q ≤ 122 := by
  intro q h1 h2
  have := Wd_byte h (q - i) (by omega)
  rw [show i + (q - i) = q by omega] at this
  rw [this]
  exact hl _ (List.getElem_mem _)
theorem isB_az {c : Nat} (h : 97 ≤ c ∧ c ≤ 122) : ¬ isB c := by unfold isB; omega
mutual
theorem SQ.val {s : ByteArray} : ∀ (p : Pl), PVal s p → ∀ d e, 1 ≤ d → SQ s p.e d e → SQ s p.b d e
  | .mk k b e ns ks, h, d, x, hd, r => by
    have hlt := PVal.lt _ h
    simp only [PVal] at h
    simp only [Pl.b, Pl.e] at *
    rcases h with ⟨rfl, h1, rfl, rfl, rfl⟩ | ⟨rfl, h1, rfl, rfl, rfl⟩ | ⟨rfl, h1, rfl, rfl, rfl⟩ | ⟨rfl, h1, h2, h3, rfl, rfl⟩ | ⟨rfl, h1, rfl, rfl⟩ | ⟨rfl, h1, h2, rfl, c, h3, h4⟩ | ⟨rfl, h1, h2, c, h3, h4⟩
    · exact SQ.skips (by omega) h1.1 (fun q k1 k2 => isB_az (Wd_ok h1 (by decide) q k1 k2)) r
    · exact SQ.skips (by omega) h1.1 (fun q k1 k2 => isB_az (Wd_ok h1 (by decide) q k1 k2)) r
    · exact SQ.skips (by omega) h1.1 (fun q k1 k2 => isB_az (Wd_ok h1 (by decide) q k1 k2)) r
    · have hb := h3.bytes
      have he : e ≤ s.size := by
        obtain ⟨_, _, _, _, _, _, g⟩ := h3
        by_cases hs : e ≤ s.size
        · exact hs
        · have := hb.2 (e - 1) (by omega) (by omega)
          unfold nmB at this
          simp [bAt, show ¬ e - 1 < s.size by omega] at this
      exact SQ.skips hb.1 he (fun q k1 k2 hc => by have := hb.2 q k1 k2; unfold nmB at this; unfold isB at hc; omega) r
    · exact .str h1 r
    · refine .open h1 (.inr h2) (SQ.blanks h3 ?_)
      rcases h4 with ⟨rfl, h4, h5, rfl⟩ | h4
      · exact .down h4 (.inr h5) hd r
      · exact SQ.els ks c e h4 d x hd r
    · refine .open h1 (.inl h2) (SQ.blanks h3 ?_)
      rcases h4 with ⟨rfl, rfl, h4, h5, rfl⟩ | h4
      · exact .down h4 (.inl h5) hd r
      · exact SQ.mems ks ns c e h4 d x hd r
theorem SQ.els {s : ByteArray} : ∀ (ps : List Pl) (a e : Nat), PEls s ps a e → ∀ d x, 1 ≤ d → SQ s e d x → SQ s a (d + 1) x
  | [], _, _, h, _, _, _, _ => by simp only [PEls] at h
  | p :: ps, a, e, h, d, x, hd, r => by
    simp only [PEls] at h
    obtain ⟨h1, h2, h3, c, h4, h5, h6⟩ := h
    rw [← h1]
    refine SQ.val p h2 (d + 1) x (by omega) (SQ.blanks h4 ?_)
    rcases h6 with ⟨rfl, h6, rfl⟩ | ⟨h6, g, h7, h8⟩
    · exact .down h5 (.inr h6) hd r
    · exact .skip h5 (by unfold isB; omega) (SQ.blanks h7 (SQ.els ps g e h8 d x hd r))
theorem SQ.mems {s : ByteArray} : ∀ (ps : List Pl) (ns : List (Nat × Nat)) (a e : Nat), PMems s ps ns a e → ∀ d x, 1 ≤ d → SQ s e d x → SQ s a (d + 1) x
  | [], _, _, _, h, _, _, _, _ => by simp only [PMems] at h
  | p :: ps, ns, a, e, h, d, x, hd, r => by
    rw [PMems] at h
    obtain ⟨m, ms, rfl, h1, c, h2, h3, h4, g, h5, h6, h7, h8, f, h9, h10, h11⟩ := h
    refine .str h1 (SQ.blanks h2 (.skip h3 (by unfold isB; omega) (SQ.blanks h5 ?_)))
    rw [← h6]
    refine SQ.val p h7 (d + 1) x (by omega) (SQ.blanks h9 ?_)
    rcases h11 with ⟨rfl, rfl, h11, rfl⟩ | ⟨h11, y, h12, h13⟩
    · exact .down h10 (.inl h11) hd r
    · exact .skip h10 (by unfold isB; omega) (SQ.blanks h12 (SQ.mems ps ms y e h13 d x hd r))
end
/-- An array or object from behind its opening bracket on. -/
theorem SQ.whole {s : ByteArray} {p : Pl} (h : PVal s p) (hk : p.kind = 5 ∨ p.kind = 6) : SQ s (p.b + 1) 1 p.e := by
  obtain ⟨k, b, e, ns, ks⟩ := p
  simp only [PVal] at h
  simp only [Pl.b, Pl.e, Pl.kind] at *
  have hlast : ∀ (ps : List Pl) (a e : Nat), PEls s ps a e → SQ s a 1 e := by
    intro ps
    induction ps with
    | nil => intro a e h; simp only [PEls] at h
    | cons p ps ih =>
      intro a e h
      simp only [PEls] at h
      obtain ⟨h1, h2, h3, c, h4, h5, h6⟩ := h
      rw [← h1]
      refine SQ.val p h2 1 e (by omega) (SQ.blanks h4 ?_)
      rcases h6 with ⟨rfl, h6, rfl⟩ | ⟨h6, g, h7, h8⟩
      · exact .shut h5 (.inr h6)
      · exact .skip h5 (by unfold isB; omega) (SQ.blanks h7 (ih g e h8))
  have hlastM : ∀ (ps : List Pl) (ns : List (Nat × Nat)) (a e : Nat), PMems s ps ns a e → SQ s a 1 e := by
    intro ps
    induction ps with
    | nil => intro ns a e h; simp only [PMems] at h
    | cons p ps ih =>
      intro ns a e h
      rw [PMems] at h
      obtain ⟨m, ms, rfl, h1, c, h2, h3, h4, g, h5, h6, h7, h8, f, h9, h10, h11⟩ := h
      refine .str h1 (SQ.blanks h2 (.skip h3 (by unfold isB; omega) (SQ.blanks h5 ?_)))
      rw [← h6]
      refine SQ.val p h7 1 e (by omega) (SQ.blanks h9 ?_)
      rcases h11 with ⟨rfl, rfl, h11, rfl⟩ | ⟨h11, y, h12, h13⟩
      · exact .shut h10 (.inl h11)
      · exact .skip h10 (by unfold isB; omega) (SQ.blanks h12 (ih ms y e h13))
  rcases h with ⟨rfl, _⟩ | ⟨rfl, _⟩ | ⟨rfl, _⟩ | ⟨rfl, _⟩ | ⟨rfl, _⟩ | ⟨rfl, h1, h2, rfl, c, h3, h4⟩ | ⟨rfl, h1, h2, c, h3, h4⟩
  all_goals first | (exfalso; omega) | skip
  · refine SQ.blanks h3 ?_
    rcases h4 with ⟨rfl, h4, h5, rfl⟩ | h4
    · exact .shut h4 (.inr h5)
    · exact hlast ks c e h4
  · refine SQ.blanks h3 ?_
    rcases h4 with ⟨rfl, rfl, h4, h5, rfl⟩ | h4
    · exact .shut h4 (.inl h5)
    · exact hlastM ks ns c e h4
theorem SQ.lt {s : ByteArray} {i d e : Nat} (h : SQ s i d e) : i < e ∧ e ≤ s.size := by
  induction h with
  | skip h c r ih => omega
  | «open» h c r ih => omega
  | shut h c => omega
  | down h c hd r ih => omega
  | str h r ih => have := h.2.2.1.lt; omega
end Go.Proofs.YtggdcpmampjncaaGreatDoor
