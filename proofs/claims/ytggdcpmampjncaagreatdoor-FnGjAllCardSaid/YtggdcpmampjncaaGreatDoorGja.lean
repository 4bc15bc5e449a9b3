/- The package's Array: rows of results, and what an element's result is. The package's arrayOrMap: what it calls on an array's element. The package's arrayOrMap on an array: the blocks of its own, and its frame. -/
import Derived.Test.YtggdcpmampjncaaGreatDoorGj6
import Derived.Test.YtggdcpmampjncaaGreatDoorSpec4
import Derived.Test.YtggdcpmampjncaaGreatDoorGj2
import Derived.Test.YtggdcpmampjncaaGreatDoorSc
namespace Go.Proofs.YtggdcpmampjncaaGreatDoor
open Go.RowKit

theorem infoRes : (Tryz.prog.info? 57).map (fun i => (i.zero, i.size, i.bytes)) = some (some (.agg #[.int .i64 0, .string ByteArray.empty, .string ByteArray.empty, .float .f64 0, .int .i64 0, .slice none 0 0]), 6, 80) := by kernel_rfl

/-- A result of the package, as plain data. -/
structure Rs where
  ty : Nat
  raw : ByteArray
  st : ByteArray
  f : Nat
  ix : Int
/-- Its cells. -/
def Rs.cells (r : Rs) : List Value := [.int .i64 (r.ty : Int), .string r.raw, .string r.st, .float .f64 r.f, .int .i64 r.ix, .slice none 0 0]
def rcells (l : List Rs) : List Value := l.flatMap Rs.cells
theorem rcells_snoc (l : List Rs) (r : Rs) : rcells (l ++ [r]) = rcells l ++ r.cells := by simp [rcells]
theorem rcells_len (l : List Rs) : (rcells l).length = l.length * 6 := by
  induction l with
  | nil => rfl
  | cons r l ih => simp only [rcells, List.flatMap_cons, List.length_append, List.length_cons] at *; rw [ih]; simp [Rs.cells]; omega
/-- A row of results of the call's own. -/
def RowR (B : Nat) (w : World) (v : Value) (l : List Rs) : Prop := w.ownsRow 0 57 6 v l.length (rcells l) ∧ ∀ b, v.ownBlock = some b → B ≤ b
theorem RowR.upd {B : Nat} {w w' : World} {S : Nat → Prop} {v : Value} {l : List Rs} (h : RowR B w v l) (u : Upd S w w') (hs : ∀ b, B ≤ b → b < w.heap.size → ¬ S b) : RowR B w' v l :=
  ⟨u.own h.1 fun b hb => hs b (h.2 b hb) (h.1.lt b hb).2, h.2⟩
theorem RowR.lt {B : Nat} {w : World} {v : Value} {l : List Rs} (h : RowR B w v l) : ∀ b, v.ownBlock = some b → B ≤ b ∧ b < w.heap.size := fun b hb => ⟨h.2 b hb, (h.1.lt b hb).2⟩
theorem RowR.len {B : Nat} {w : World} {v : Value} {l : List Rs} (h : RowR B w v l) : ∃ a c, v = .slice a l.length c := by
  rcases h.1.2 with ⟨rfl, h0⟩ | ⟨g, cap, cur, rfl, _⟩
  · exact ⟨none, 0, by rw [h0]⟩
  · exact ⟨_, cap, rfl⟩
theorem RowR.mono {B B' : Nat} {w : World} {v : Value} {l : List Rs} (h : RowR B w v l) (hb : B' ≤ B) : RowR B' w v l := ⟨h.1, fun b k => Nat.le_trans hb (h.2 b k)⟩
theorem wpList_app_res {w : World} {ops : Array Oper} {rest : List Oper} {o : Oper} {a : Act} {Q : Exit → Act → World → Prop} (hgd : o.guard = none) (sl x : Operand)
    (ho : o.op = .call { callee := .builtin .append, args := #[sl, x], argTypes := #[53, 53] })
    (B : Nat) (v : Value) (l : List Rs) (hs : a.eval sl = v) (hown : RowR B w v l) (r : Rs)
    (ad : Addr) (c : Nat) (hx : a.eval x = .slice (some ad) 1 c) (hnews : ∀ j u, r.cells[j]? = some u → w.cell? (ad.add j) = some u)
    (hb : l.length + 1 ≤ 1000000000) (hB : B ≤ w.heap.size)
    (h : ∀ v' w', RowR B w' v' (l ++ [r]) → Upd (fun b => v.ownBlock = some b) w w' → (v'.ownBlock = v.ownBlock ∨ v'.ownBlock = some w.heap.size) → wpList Tryz.prog ops Q rest (a.put o.dst v') w') : wpList Tryz.prog ops Q (o :: rest) a w := by
  obtain ⟨i0, hi0, hz0, hz1, hz2⟩ := info_parts infoRes
  refine wpList_append_own_at w hgd sl x 53 ho 0 57 i0 _ 6 80 Tryz.underlying53 hi0 hz0 hz1 hz2 rfl (by decide) v l.length (rcells l) hs hown.1 ad 1 c r.cells hx rfl hnews
    (by intro u hu; simp only [Rs.cells, List.mem_cons, List.not_mem_nil, or_false] at hu; rcases hu with rfl | rfl | rfl | rfl | rfl | rfl <;> rfl)
    (by unfold maxLen; omega) (by omega) (Nat.zero_le _) ?_
  intro v' w' ho' hg' _ hat
  refine h v' w' ⟨?_, fun b hb => ?_⟩ ((Upd.of_grown hg').mono fun b hb => hb) hat
  · rw [List.length_append, rcells_snoc]; exact ho'
  · rcases hat with e | e
    · exact hown.2 b (by rw [← e]; exact hb)
    · rw [e] at hb; injection hb with hb; omega

/-- The package's kind for a kind of the reference. -/
def kindOf (k : Nat) : Nat := if k = 1 then 1 else if k = 3 then 2 else if k = 4 then 3 else if k = 2 then 4 else if k = 5 ∨ k = 6 then 5 else 0
/-- A result is the value at a place of u. -/
def IsAt (u : ByteArray) (p : Pl) (r : Rs) : Prop := r.ty = kindOf p.kind ∧ r.raw = u.extract p.b p.e ∧ (p.kind = 4 → ∃ t, UQ u (p.b + 1) p.e t ∧ r.st = ⟨t.toArray⟩)
/-- Each of a row. -/
def AllAt (u : ByteArray) : List Pl → List Rs → Prop
  | [], l => l = []
  | p :: ps, l => ∃ r rest, l = r :: rest ∧ IsAt u p r ∧ AllAt u ps rest
theorem AllAt.snoc {u : ByteArray} {p : Pl} {r : Rs} (h : IsAt u p r) : ∀ (ps : List Pl) (l : List Rs), AllAt u ps l → AllAt u (ps ++ [p]) (l ++ [r])
  | [], l, h1 => by simp only [AllAt] at h1; subst h1; simp only [List.nil_append, AllAt]; exact ⟨r, [], rfl, h, rfl⟩
  | q :: ps, l, h1 => by
    simp only [AllAt, List.cons_append] at h1 ⊢
    obtain ⟨x, l', rfl, h2, h3⟩ := h1
    exact ⟨x, l' ++ [r], rfl, h2, AllAt.snoc h ps l' h3⟩
theorem AllAt.len {u : ByteArray} : ∀ (ps : List Pl) (l : List Rs), AllAt u ps l → l.length = ps.length
  | [], l, h => by simp only [AllAt] at h; rw [h]; rfl
  | p :: ps, l, h => by
    simp only [AllAt] at h
    obtain ⟨r, l', rfl, _, h2⟩ := h
    simp [AllAt.len ps l' h2]

/-- From i on: blanks and commas, then the elements ps, or the closing bracket. -/
def NE (u : ByteArray) (i : Nat) (ps : List Pl) : Prop := ∃ c, i ≤ c ∧ c < u.size ∧ (∀ q, i ≤ q → q < c → isBl (bAt u q) = true ∨ bAt u q = 44) ∧ ((ps = [] ∧ bAt u c = 93) ∨ ∃ e, PEls u ps c e)
theorem PEls.head {u : ByteArray} {ps : List Pl} {c e : Nat} (h : PEls u ps c e) : ∃ p qs, ps = p :: qs ∧ p.b = c ∧ PVal u p ∧ NE u p.e qs ∧ (bAt u p.e ≤ 32 ∨ bAt u p.e = 44 ∨ bAt u p.e = 93) ∧ p.e < u.size := by
  cases ps with
  | nil => simp only [PEls] at h
  | cons p ps =>
    simp only [PEls] at h
    obtain ⟨h1, h2, h3, c', h4, h5, h6⟩ := h
    have hb := h4.1
    have hend : (bAt u p.e ≤ 32 ∨ bAt u p.e = 44 ∨ bAt u p.e = 93) := by
      by_cases hx : p.e < c'
      · have := h4.2.2 p.e (Nat.le_refl _) hx
        simp only [isBl, Bool.or_eq_true, beq_iff_eq] at this
        omega
      · have : p.e = c' := by omega
        rw [this]
        omega
    refine ⟨p, ps, rfl, h1, h2, ?_, hend, by omega⟩
    rcases h6 with ⟨rfl, h6, rfl⟩ | ⟨h6, d, h7, h8⟩
    · exact ⟨c', hb, h5, fun q k1 k2 => .inl (h4.2.2 q k1 k2), .inl ⟨rfl, h6⟩⟩
    · have hd := h7.1
      have hlt := PEls.lt ps d e h8
      have hle := (PEls.le ps d e h8).1
      refine ⟨d, by omega, by omega, fun q k1 k2 => ?_, .inr ⟨e, h8⟩⟩
      by_cases g1 : q < c'
      · exact .inl (h4.2.2 q k1 g1)
      by_cases g2 : q = c'
      · subst g2; exact .inr h6
      · exact .inl (h7.2.2 q (by omega) k2)
/-- An array's elements, from behind its bracket on. -/
theorem NE.start {u : ByteArray} {p : Pl} (h : PVal u p) (hk : p.kind = 5) : NE u (p.b + 1) p.kids := by
  obtain ⟨k, b, e, ns, ks⟩ := p
  simp only [PVal] at h
  simp only [Pl.b, Pl.kind, Pl.kids] at *
  rcases h with ⟨rfl, _⟩ | ⟨rfl, _⟩ | ⟨rfl, _⟩ | ⟨rfl, _⟩ | ⟨rfl, _⟩ | ⟨rfl, h1, h2, rfl, c, h3, h4⟩ | ⟨rfl, _⟩
  all_goals first | (exfalso; omega) | skip
  rcases h4 with ⟨rfl, h4, h5, rfl⟩ | h4
  · exact ⟨c, h3.1, h4, fun q k1 k2 => .inl (h3.2.2 q k1 k2), .inl ⟨rfl, h5⟩⟩
  · have hlt := PEls.lt ks c e h4
    have hle := (PEls.le ks c e h4).1
    exact ⟨c, h3.1, by omega, fun q k1 k2 => .inl (h3.2.2 q k1 k2), .inr ⟨e, h4⟩⟩
/-- The strings among the elements have their characters. -/
def Strs (u : ByteArray) (ps : List Pl) : Prop := ∀ p ∈ ps, p.kind = 4 → ∃ t, UQ u (p.b + 1) p.e t
theorem Strs.of_trees {u : ByteArray} : ∀ (ps : List Pl) (l : List Nd), TreesR u ps l → Strs u ps
  | [], _, _ => fun p hp => by simp at hp
  | q :: ps, l, h => by
    simp only [TreesR] at h
    obtain ⟨n, r, rfl, h1, h2⟩ := h
    intro p hp hk
    rcases List.mem_cons.1 hp with rfl | hp
    · obtain ⟨k, b, e, ns, ks⟩ := p
      simp only [TreeR, Pl.kind, Pl.b, Pl.e] at *
      subst hk
      rcases h1.2.1 with ⟨h, _⟩ | ⟨_, h⟩ | ⟨_, h, _⟩
      · omega
      · exact ⟨_, h⟩
      · exact absurd rfl h
    · exact Strs.of_trees ps r h2 p hp hk
end Go.Proofs.YtggdcpmampjncaaGreatDoor
namespace Go.Proofs.YtggdcpmampjncaaGreatDoor
open Go.RowKit

theorem ext_ext (u : ByteArray) {c n e : Nat} (h : e ≤ n) (_hn : n ≤ u.size) : (u.extract c n).extract 0 (e - c) = u.extract c e := by
  by_cases hc : c ≤ e
  · rw [ByteArray.extract_extract]
    congr 1 <;> omega
  · ext1
    simp only [ByteArray.data_extract, Array.extract_extract]
    rw [Array.extract_empty_of_stop_le_start (by omega), Array.extract_empty_of_stop_le_start (by omega)]
/-- What ends an element. -/
def EndB (u : ByteArray) (e : Nat) : Prop := e ≤ u.size ∧ (e < u.size → bAt u e ≤ 32 ∨ bAt u e = 44 ∨ bAt u e = 93 ∨ bAt u e = 125)
theorem sub_end (u : ByteArray) {c : Nat} (h : c ≤ u.size) : Sub u (u.extract c u.size) c u.size := ⟨h, Nat.le_refl _, rfl⟩
theorem EndB.at {u : ByteArray} {c e : Nat} (h : EndB u e) (hc : c ≤ e) (hz : e < u.size) : bAt (u.extract c u.size) (e - c) = bAt u e := (sub_end u (by have := h.1; omega)).at hc hz

theorem sq_at (u : ByteArray) (p : Pl) (w : World) (hs : u.size ≤ 1048576) (h : PVal u p) (hk : p.kind = 5 ∨ p.kind = 6) (he : EndB u p.e) :
    Calls Tryz.prog 62 #[.string (u.extract p.b u.size)] w fun r w' => r = .returned (.string (u.extract p.b p.e)) ∧ w = w' := by
  have hlt := PVal.lt p h
  have hz := he.1
  have S := sub_end u (c := p.b) (by omega)
  have h2 := PVal.sh S p h (Nat.le_refl _) (by omega)
  have hk2 : (p.sh p.b).kind = 5 ∨ (p.sh p.b).kind = 6 := by cases p; exact hk
  have h3 := SQ.whole h2 hk2
  rw [Pl.sh_b, Pl.sh_e, Nat.sub_self] at h3
  have h0 : bAt (u.extract p.b u.size) 0 ≠ 34 := by
    have := S.at (k := p.b) (Nat.le_refl _) (by omega)
    rw [Nat.sub_self] at this
    rw [this]
    obtain ⟨k, b, e, ns, ks⟩ := p
    simp only [PVal] at h
    simp only [Pl.kind, Pl.b] at *
    omega
  have hzz := S.size
  have := squash_any (u.extract p.b u.size) (p.e - p.b) w (by omega) h0 (by omega) h3
  rw [ext_ext u (by omega) (Nat.le_refl _)] at this
  exact this
theorem lit_at (u : ByteArray) (p : Pl) (w : World) (hs : u.size ≤ 1048576) (h : PVal u p) (hk : p.kind ≤ 2) (he : EndB u p.e) :
    Calls Tryz.prog 51 #[.string (u.extract p.b u.size)] w fun r w' => r = .returned (.string (u.extract p.b p.e)) ∧ w = w' := by
  have hlt := PVal.lt p h
  have hz := he.1
  have S := sub_end u (c := p.b) (by omega)
  have hzz := S.size
  have hw : ∀ k, p.b ≤ k → k < p.e → 97 ≤ bAt u k ∧ bAt u k ≤ 122 := by
    obtain ⟨k, b, e, ns, ks⟩ := p
    simp only [PVal] at h
    simp only [Pl.kind, Pl.b, Pl.e] at *
    rcases h with ⟨rfl, h1, rfl, rfl, rfl⟩ | ⟨rfl, h1, rfl, rfl, rfl⟩ | ⟨rfl, h1, rfl, rfl, rfl⟩ | ⟨rfl, _⟩ | ⟨rfl, _⟩ | ⟨rfl, _⟩ | ⟨rfl, _⟩
    · exact Wd_ok h1 (by decide)
    · exact Wd_ok h1 (by decide)
    · exact Wd_ok h1 (by decide)
    all_goals omega
  have := tolit_any (u.extract p.b u.size) (p.e - p.b) w (by omega) (by omega) (by omega) (fun k k1 k2 => by
      have g := hw (k + p.b) (by omega) (by omega)
      rw [← S.at (by omega) (by omega), Nat.add_sub_cancel] at g
      exact g) (fun hx => by
      have hy : p.e < u.size := by omega
      rw [he.at (by omega) hy]
      have := he.2 hy
      omega)
  rw [ext_ext u (by omega) (Nat.le_refl _)] at this
  exact this
theorem num_at (lo : Nat) (u : ByteArray) (p : Pl) (w : World) (hs : u.size ≤ 1048576) (hT : Tabs lo w) (hlo : lo ≤ w.heap.size) (h : PVal u p) (hk : p.kind = 3) (he : EndB u p.e) :
    Calls Tryz.prog 50 #[.string (u.extract p.b u.size)] w fun r w' => (∃ f : Nat, r = .returned (.tuple #[.string (u.extract p.b p.e), .float .f64 f]) ∧ NumR (u.extract p.b p.e) f) ∧ Upd NoB w w' := by
  have hlt := PVal.lt p h
  have hz := he.1
  have S := sub_end u (c := p.b) (by omega)
  have hzz := S.size
  have hw : ∀ k, p.b ≤ k → k < p.e → nmB (bAt u k) := by
    obtain ⟨k, b, e, ns, ks⟩ := p
    simp only [PVal] at h
    simp only [Pl.kind, Pl.b, Pl.e] at *
    rcases h with ⟨rfl, _⟩ | ⟨rfl, _⟩ | ⟨rfl, _⟩ | ⟨rfl, h1, h2, h3, _⟩ | ⟨rfl, _⟩ | ⟨rfl, _⟩ | ⟨rfl, _⟩
    all_goals first | (exfalso; omega) | skip
    exact h3.bytes.2
  have := tonum_any lo (u.extract p.b u.size) (p.e - p.b) w (by omega) hT hlo (by omega) (by omega) (fun k k2 => by
      have g := hw (k + p.b) (by omega) (by omega)
      rw [← S.at (by omega) (by omega), Nat.add_sub_cancel] at g
      exact g) (fun hx => by
      have hy : p.e < u.size := by omega
      rw [he.at (by omega) hy]
      have := he.2 hy
      omega)
  unfold TnRet at this
  rw [ext_ext u (by omega) (Nat.le_refl _)] at this
  exact this
theorem str_at (u : ByteArray) (p : Pl) (t : List UInt8) (w : World) (hs : u.size ≤ 1048576) (h : PVal u p) (hk : p.kind = 4) (he : EndB u p.e) (hq : UQ u (p.b + 1) p.e t) :
    Calls Tryz.prog 52 #[.string (u.extract p.b u.size)] w fun r w' => r = .returned (.tuple #[.string (u.extract p.b p.e), .string ⟨t.toArray⟩]) ∧ Upd NoB w w' := by
  have hlt := PVal.lt p h
  have hz := he.1
  have S := sub_end u (c := p.b) (by omega)
  have hzz := S.size
  have hp : PStr u p.b p.e := by
    obtain ⟨k, b, e, ns, ks⟩ := p
    simp only [PVal] at h
    simp only [Pl.kind, Pl.b, Pl.e] at *
    rcases h with ⟨rfl, _⟩ | ⟨rfl, _⟩ | ⟨rfl, _⟩ | ⟨rfl, _⟩ | ⟨rfl, h1, _⟩ | ⟨rfl, _⟩ | ⟨rfl, _⟩
    all_goals first | (exfalso; omega) | skip
    exact h1
  have h1 := hp.sh S (Nat.le_refl _) (by omega)
  have h2 := hq.sh S (by omega) (by omega)
  rw [Nat.sub_self] at h1
  rw [show p.b + 1 - p.b = 1 by omega] at h2
  have := tostr_any (u.extract p.b u.size) (p.e - p.b) t w (by omega) h1 h2
  rw [ext_ext u (by omega) (Nat.le_refl _)] at this
  exact this
/-- The first byte of an element. -/
theorem PVal.tag {u : ByteArray} {p : Pl} (h : PVal u p) : p.b < u.size ∧ ((p.kind = 0 ∧ bAt u p.b = 110) ∨ (p.kind = 1 ∧ bAt u p.b = 102) ∨ (p.kind = 2 ∧ bAt u p.b = 116) ∨ (p.kind = 3 ∧ (bAt u p.b = 45 ∨ 48 ≤ bAt u p.b ∧ bAt u p.b ≤ 57)) ∨ (p.kind = 4 ∧ bAt u p.b = 34) ∨ (p.kind = 5 ∧ bAt u p.b = 91) ∨ (p.kind = 6 ∧ bAt u p.b = 123)) := by
  obtain ⟨k, b, e, ns, ks⟩ := p
  simp only [PVal] at h
  simp only [Pl.kind, Pl.b] at *
  rcases h with ⟨rfl, h1, _⟩ | ⟨rfl, h1, _⟩ | ⟨rfl, h1, _⟩ | ⟨rfl, h1, h2, _⟩ | ⟨rfl, h1, _⟩ | ⟨rfl, h1, h2, _⟩ | ⟨rfl, h1, h2, _⟩
  · have := Wd_at h1; exact ⟨this.1, .inl ⟨rfl, this.2⟩⟩
  · have := Wd_at h1; exact ⟨this.1, .inr (.inl ⟨rfl, this.2⟩)⟩
  · have := Wd_at h1; exact ⟨this.1, .inr (.inr (.inl ⟨rfl, this.2⟩))⟩
  · exact ⟨h1, by simp [h2]⟩
  · exact ⟨h1.1, by simp [h1.2.1]⟩
  · exact ⟨h1, by simp [h2]⟩
  · exact ⟨h1, by simp [h2]⟩
end Go.Proofs.YtggdcpmampjncaaGreatDoor
namespace Go.Proofs.YtggdcpmampjncaaGreatDoor
open Go.RowKit

/-- The frame of arrayOrMap. -/
theorem lit289 (g : Nat → Value) : ((List.range 289).map g).toArray = #[g 0, g 1, g 2, g 3, g 4, g 5, g 6, g 7, g 8, g 9, g 10, g 11, g 12, g 13, g 14, g 15, g 16, g 17, g 18, g 19, g 20, g 21, g 22, g 23, g 24, g 25, g 26, g 27, g 28, g 29, g 30, g 31, g 32, g 33, g 34, g 35, g 36, g 37, g 38, g 39, g 40, g 41, g 42, g 43, g 44, g 45, g 46, g 47, g 48, g 49, g 50, g 51, g 52, g 53, g 54, g 55, g 56, g 57, g 58, g 59, g 60, g 61, g 62, g 63, g 64, g 65, g 66, g 67, g 68, g 69, g 70, g 71, g 72, g 73, g 74, g 75, g 76, g 77, g 78, g 79, g 80, g 81, g 82, g 83, g 84, g 85, g 86, g 87, g 88, g 89, g 90, g 91, g 92, g 93, g 94, g 95, g 96, g 97, g 98, g 99, g 100, g 101, g 102, g 103, g 104, g 105, g 106, g 107, g 108, g 109, g 110, g 111, g 112, g 113, g 114, g 115, g 116, g 117, g 118, g 119, g 120, g 121, g 122, g 123, g 124, g 125, g 126, g 127, g 128, g 129, g 130, g 131, g 132, g 133, g 134, g 135, g 136, g 137, g 138, g 139, g 140, g 141, g 142, g 143, g 144, g 145, g 146, g 147, g 148, g 149, g 150, g 151, g 152, g 153, g 154, g 155, g 156, g 157, g 158, g 159, g 160, g 161, g 162, g 163, g 164, g 165, g 166, g 167, g 168, g 169, g 170, g 171, g 172, g 173, g 174, g 175, g 176, g 177, g 178, g 179, g 180, g 181, g 182, g 183, g 184, g 185, g 186, g 187, g 188, g 189, g 190, g 191, g 192, g 193, g 194, g 195, g 196, g 197, g 198, g 199, g 200, g 201, g 202, g 203, g 204, g 205, g 206, g 207, g 208, g 209, g 210, g 211, g 212, g 213, g 214, g 215, g 216, g 217, g 218, g 219, g 220, g 221, g 222, g 223, g 224, g 225, g 226, g 227, g 228, g 229, g 230, g 231, g 232, g 233, g 234, g 235, g 236, g 237, g 238, g 239, g 240, g 241, g 242, g 243, g 244, g 245, g 246, g 247, g 248, g 249, g 250, g 251, g 252, g 253, g 254, g 255, g 256, g 257, g 258, g 259, g 260, g 261, g 262, g 263, g 264, g 265, g 266, g 267, g 268, g 269, g 270, g 271, g 272, g 273, g 274, g 275, g 276, g 277, g 278, g 279, g 280, g 281, g 282, g 283, g 284, g 285, g 286, g 287, g 288] := by kernel_rfl
theorem cells5 {w : World} {B T : Nat} {a b c d e : Value} (h : w.heap[B]? = some (.cells #[a, b, c, d, e] T (0, 0))) :
    (w.cell? ⟨B, 0, none⟩ = some a ∧ w.cell? ⟨B, 1, none⟩ = some b ∧ w.cell? ⟨B, 2, none⟩ = some c ∧ w.cell? ⟨B, 3, none⟩ = some d ∧ w.cell? ⟨B, 4, none⟩ = some e) ∧
    (w.frozen? ⟨B, 0, none⟩ = false ∧ w.frozen? ⟨B, 1, none⟩ = false ∧ w.frozen? ⟨B, 2, none⟩ = false ∧ w.frozen? ⟨B, 3, none⟩ = false ∧ w.frozen? ⟨B, 4, none⟩ = false) := by
  refine ⟨⟨?_, ?_, ?_, ?_, ?_⟩, frozen_of_row w B 0 _ _ h, frozen_of_row w B 1 _ _ h, frozen_of_row w B 2 _ _ h, frozen_of_row w B 3 _ _ h, frozen_of_row w B 4 _ _ h⟩
  · rw [cell_of_row w B 0 _ _ _ h]; rfl
  · rw [cell_of_row w B 1 _ _ _ h]; rfl
  · rw [cell_of_row w B 2 _ _ _ h]; rfl
  · rw [cell_of_row w B 3 _ _ _ h]; rfl
  · rw [cell_of_row w B 4 _ _ _ h]; rfl
theorem cells6 {w : World} {B T : Nat} {a b c d e f : Value} (h : w.heap[B]? = some (.cells #[a, b, c, d, e, f] T (0, 0))) :
    (w.cell? ⟨B, 0, none⟩ = some a ∧ w.cell? ⟨B, 1, none⟩ = some b ∧ w.cell? ⟨B, 2, none⟩ = some c ∧ w.cell? ⟨B, 3, none⟩ = some d ∧ w.cell? ⟨B, 4, none⟩ = some e ∧ w.cell? ⟨B, 5, none⟩ = some f) ∧
    (w.frozen? ⟨B, 0, none⟩ = false ∧ w.frozen? ⟨B, 1, none⟩ = false ∧ w.frozen? ⟨B, 2, none⟩ = false ∧ w.frozen? ⟨B, 3, none⟩ = false ∧ w.frozen? ⟨B, 4, none⟩ = false ∧ w.frozen? ⟨B, 5, none⟩ = false) := by
  refine ⟨⟨?_, ?_, ?_, ?_, ?_, ?_⟩, frozen_of_row w B 0 _ _ h, frozen_of_row w B 1 _ _ h, frozen_of_row w B 2 _ _ h, frozen_of_row w B 3 _ _ h, frozen_of_row w B 4 _ _ h, frozen_of_row w B 5 _ _ h⟩
  · rw [cell_of_row w B 0 _ _ _ h]; rfl
  · rw [cell_of_row w B 1 _ _ _ h]; rfl
  · rw [cell_of_row w B 2 _ _ _ h]; rfl
  · rw [cell_of_row w B 3 _ _ _ h]; rfl
  · rw [cell_of_row w B 4 _ _ _ h]; rfl
  · rw [cell_of_row w B 5 _ _ _ h]; rfl

/-- The blocks of arrayOrMap's own: the box, the answer, the value, the key. -/
structure AMW (P : Nat) (u : ByteArray) (ix : Int) (v : Value) (vc : Int) (cs : List Value) (l : List Rs) (w0 w : World) : Prop where
  b0 : w.heap[P]? = some (.cells #[.int .i64 5, .string u, .string ByteArray.empty, .float .f64 0, .int .i64 ix, .slice none 0 0] 57 (0, 0))
  b1 : w.heap[P + 1]? = some (.cells #[v, .slice none 0 0, .map none, .map none, .int .u8 vc] 89 (0, 0))
  b2 : w.heap[P + 1 + 1]? = some (.cells cs.toArray 57 (0, 0))
  row : RowR (P + 4) w v l
  up : Upd NoB w0 w
  hB : w0.heap.size = P
  sz : P + 4 ≤ w.heap.size
section
variable {P : Nat} {u : ByteArray} {ix : Int} {v : Value} {vc : Int} {cs : List Value} {l : List Rs} {w0 w w1 : World}
theorem AMW.keep (h : AMW P u ix v vc cs l w0 w) (k : Upd NoB w w1) : AMW P u ix v vc cs l w0 w1 :=
  ⟨k.blk h.b0 fun hc => hc.elim, k.blk h.b1 fun hc => hc.elim, k.blk h.b2 fun hc => hc.elim, h.row.upd k (fun _ _ _ hc => hc.elim), h.up.trans k, h.hB, Nat.le_trans h.sz k.size⟩
theorem AMW.set2 (h : AMW P u ix v vc cs l w0 w) (j : Nat) (x : Value) : AMW P u ix v vc (cs.set j x) l w0 (w.setCell ⟨P + 1 + 1, j, none⟩ x) := by
  have k : Upd (OneB (P + 1 + 1)) w (w.setCell ⟨P + 1 + 1, j, none⟩ x) := (Upd.refl _ _).setOne j x
  refine ⟨k.blk h.b0 fun hc => by have : P = P + 1 + 1 := hc; omega, k.blk h.b1 fun hc => by have : P + 1 = P + 1 + 1 := hc; omega, ?_, h.row.upd k (fun b hb _ hc => by have : b = P + 1 + 1 := hc; omega), h.up.then k (fun b hb => .inr (by have : b = P + 1 + 1 := hb; have := h.hB; omega)), h.hB, Nat.le_trans h.sz k.size⟩
  rw [heap_setCell_same w (P + 1 + 1) j _ _ _ h.b2]
  simp
theorem AMW.setVc (h : AMW P u ix v vc cs l w0 w) (c : Int) : AMW P u ix v c cs l w0 (w.setCell ⟨P + 1, 4, none⟩ (.int .u8 c)) := by
  have k : Upd (OneB (P + 1)) w (w.setCell ⟨P + 1, 4, none⟩ (.int .u8 c)) := (Upd.refl _ _).setOne 4 _
  refine ⟨k.blk h.b0 fun hc => by have : P = P + 1 := hc; omega, ?_, k.blk h.b2 fun hc => by have : P + 1 + 1 = P + 1 := hc; omega, h.row.upd k (fun b hb _ hc => by have : b = P + 1 := hc; omega), h.up.then k (fun b hb => .inr (by have : b = P + 1 := hb; have := h.hB; omega)), h.hB, Nat.le_trans h.sz k.size⟩
  rw [heap_setCell_same w (P + 1) 4 _ _ _ h.b1]
  rfl
theorem AMW.app {v' : Value} {l' : List Rs} (h : AMW P u ix v vc cs l w0 w) (k : Upd (fun b => v.ownBlock = some b) w w1) (r : RowR (P + 4) w1 v' l') : AMW P u ix v' vc cs l' w0 (w1.setCell ⟨P + 1, 0, none⟩ v') := by
  have hb : ∀ b, v.ownBlock = some b → P + 4 ≤ b := fun b hb => (h.row.lt b hb).1
  have k2 : Upd (OneB (P + 1)) w1 (w1.setCell ⟨P + 1, 0, none⟩ v') := (Upd.refl _ _).setOne 0 _
  have hB := h.hB
  refine ⟨k2.blk (k.blk h.b0 fun hc => by have := hb _ hc; omega) fun hc => by have : P = P + 1 := hc; omega, ?_, k2.blk (k.blk h.b2 fun hc => by have := hb _ hc; omega) fun hc => by have : P + 1 + 1 = P + 1 := hc; omega, r.upd k2 (fun b hb _ hc => by have : b = P + 1 := hc; omega), (h.up.then k (fun b hc => .inr (by have := hb _ hc; omega))).then k2 (fun b hb => .inr (by have : b = P + 1 := hb; omega)), h.hB, Nat.le_trans (Nat.le_trans h.sz k.size) k2.size⟩
  rw [heap_setCell_same w1 (P + 1) 0 _ _ _ (k.blk h.b1 fun hc => by have := hb _ hc; omega)]
  rfl
end
theorem AMW.start (w : World) (u : ByteArray) (ix : Int) : AMW w.heap.size u ix (.slice none 0 0) 0 [.int .i64 0, .string ByteArray.empty, .string ByteArray.empty, .float .f64 0, .int .i64 0, .slice none 0 0] [] w
    ((((w.alloc (.cells #[.int .i64 5, .string u, .string ByteArray.empty, .float .f64 0, .int .i64 ix, .slice none 0 0] 57)).alloc (.cells #[.slice none 0 0, .slice none 0 0, .map none, .map none, .int .u8 0] 89)).alloc (.cells #[.int .i64 0, .string ByteArray.empty, .string ByteArray.empty, .float .f64 0, .int .i64 0, .slice none 0 0] 57)).alloc (.cells #[.int .i64 0, .string ByteArray.empty, .string ByteArray.empty, .float .f64 0, .int .i64 0, .slice none 0 0] 57)) := by
  refine ⟨?_, ?_, ?_, ⟨World.ownsRow_nil _ _ _ _, fun b hb => by simp [Value.ownBlock] at hb⟩, ((((Upd.refl _ _).alloc _).alloc _).alloc _).alloc _, rfl, by simp only [World.size_alloc]; omega⟩
  · exact (Below.heap_alloc _ _ w.heap.size (by simp only [World.size_alloc]; omega)).trans ((Below.heap_alloc _ _ w.heap.size (by simp only [World.size_alloc]; omega)).trans ((Below.heap_alloc _ _ w.heap.size (by simp only [World.size_alloc]; omega)).trans (heap_alloc_new w _)))
  · refine (Below.heap_alloc _ _ (w.heap.size + 1) (by simp only [World.size_alloc]; omega)).trans ((Below.heap_alloc _ _ (w.heap.size + 1) (by simp only [World.size_alloc]; omega)).trans ?_)
    have := heap_alloc_new (w.alloc (.cells #[.int .i64 5, .string u, .string ByteArray.empty, .float .f64 0, .int .i64 ix, .slice none 0 0] 57)) (.cells #[.slice none 0 0, .slice none 0 0, .map none, .map none, .int .u8 0] 89)
    rw [World.size_alloc] at this
    exact this
  · refine (Below.heap_alloc _ _ (w.heap.size + 1 + 1) (by simp only [World.size_alloc]; omega)).trans ?_
    have := heap_alloc_new ((w.alloc (.cells #[.int .i64 5, .string u, .string ByteArray.empty, .float .f64 0, .int .i64 ix, .slice none 0 0] 57)).alloc (.cells #[.slice none 0 0, .slice none 0 0, .map none, .map none, .int .u8 0] 89)) (.cells #[.int .i64 0, .string ByteArray.empty, .string ByteArray.empty, .float .f64 0, .int .i64 0, .slice none 0 0] 57)
    rw [World.size_alloc, World.size_alloc] at this
    exact this
end Go.Proofs.YtggdcpmampjncaaGreatDoor
