/- A result that is a value. Plain law. The package's Parse on a JSON text: its value as a result. -/
import Derived.Test.YtggdcpmampjncaaGreatDoorGjb
namespace Go.Proofs.YtggdcpmampjncaaGreatDoor
open Go.RowKit

/-- A result is a value: its kind, its text, which reads as the value, a string's characters. -/
def IsV (r : Rs) (n : Nd) : Prop := r.ty = kindOf n.kind ∧ r.raw.size ≤ 1048576 ∧ (∃ p, PText r.raw p ∧ TreeR r.raw p n) ∧ (n.kind = 4 → r.st = bs n.text)
theorem IsV.read {r : Rs} {n : Nd} (h : IsV r n) : ∀ p, PText r.raw p → ∃ m, TreeR r.raw p m := by
  obtain ⟨_, _, ⟨q, h1, h2⟩, _⟩ := h
  intro p hp
  obtain rfl := PText.uniq hp h1
  exact ⟨n, h2⟩
theorem IsV.size {r : Rs} {n : Nd} (h : IsV r n) : 0 < r.raw.size := by
  obtain ⟨_, _, ⟨q, ⟨a, h1, h2, h3, h4, h5⟩, _⟩, _⟩ := h
  have := PVal.lt q h3
  omega
theorem PVal.sub {s : ByteArray} {p : Pl} (h : PVal s p) (he : p.e ≤ s.size) : PText (s.extract p.b p.e) (p.sh p.b) := by
  have hl := PVal.lt p h
  exact PVal.text ⟨Nat.le_of_lt hl, he, rfl⟩ h (Nat.le_refl _) ⟨Nat.le_refl _, he, fun k h1 h2 => by omega⟩
theorem TreeR.kind {s : ByteArray} {p : Pl} {n : Nd} (h : TreeR s p n) : n.kind = p.kind := by
  cases p
  simp only [TreeR] at h
  exact h.1
theorem TreeR.str {s : ByteArray} {p : Pl} {n : Nd} (h : TreeR s p n) (hk : p.kind = 4) : UQ s (p.b + 1) p.e n.text := by
  obtain ⟨k, b, e, ns, ks⟩ := p
  simp only [TreeR, Pl.kind, Pl.b, Pl.e] at *
  rcases h.2.1 with ⟨h, _⟩ | ⟨_, h⟩ | ⟨_, h, _⟩
  · omega
  · exact h
  · omega
theorem TreeR.kids {s : ByteArray} {p : Pl} {n : Nd} (h : TreeR s p n) : TreesR s p.kids n.kids := by
  cases p
  simp only [TreeR, Pl.kids] at *
  exact h.2.2.2
/-- The value at a place of a text. -/
theorem IsAt.isV {s : ByteArray} {q : Pl} {r : Rs} {m : Nd} (h : IsAt s q r) (hv : PVal s q) (he : q.e ≤ s.size) (hs : s.size ≤ 1048576) (ht : TreeR s q m) : IsV r m := by
  obtain ⟨h1, h2, h3⟩ := h
  have hl := PVal.lt q hv
  refine ⟨by rw [h1, ht.kind], by rw [h2, ByteArray.size_extract]; omega, ⟨q.sh q.b, by rw [h2]; exact hv.sub he, ?_⟩, fun hk => ?_⟩
  · rw [h2]
    exact TreeR.sh ⟨Nat.le_of_lt hl, he, rfl⟩ q m hv ht (Nat.le_refl _) (Nat.le_refl _)
  · rw [ht.kind] at hk
    obtain ⟨t, h4, h5⟩ := h3 hk
    rw [h5, h4.uniq (ht.str hk)]
    rfl
/-- Each of a row is a value. -/
def AllV : List Rs → List Nd → Prop
  | l, [] => l = []
  | l, n :: ns => ∃ r rest, l = r :: rest ∧ IsV r n ∧ AllV rest ns
theorem AllV.of {s : ByteArray} (hs : s.size ≤ 1048576) : ∀ (ps : List Pl) (l : List Rs) (ns : List Nd), AllAt s ps l → TreesR s ps ns → (∀ q ∈ ps, PVal s q ∧ q.e ≤ s.size) → AllV l ns
  | [], l, ns, h, ht, _ => by
    simp only [AllAt] at h
    simp only [TreesR] at ht
    subst h ht
    simp only [AllV]
  | p :: ps, l, ns, h, ht, hp => by
    simp only [AllAt] at h
    simp only [TreesR] at ht
    obtain ⟨r, l', rfl, h1, h2⟩ := h
    obtain ⟨n, ns', rfl, h3, h4⟩ := ht
    have hq := hp p (List.mem_cons_self ..)
    simp only [AllV]
    exact ⟨r, l', rfl, h1.isV hq.1 hq.2 hs h3, AllV.of hs ps l' ns' h2 h4 (fun q hq => hp q (List.mem_cons_of_mem _ hq))⟩
theorem AllV.len : ∀ (l : List Rs) (ns : List Nd), AllV l ns → l.length = ns.length
  | l, [], h => by simp only [AllV] at h; subst h; rfl
  | l, n :: ns, h => by
    simp only [AllV] at h
    obtain ⟨r, l', rfl, _, h2⟩ := h
    simp [AllV.len l' ns h2]
theorem AllV.at : ∀ (ds : List Nd) (q : Nd) (rs : List Nd) (l : List Rs), AllV l (ds ++ q :: rs) → ∃ dl r rl, l = dl ++ r :: rl ∧ dl.length = ds.length ∧ IsV r q ∧ AllV rl rs
  | [], q, rs, l, h => by
    simp only [List.nil_append, AllV] at h
    obtain ⟨r, l', rfl, h1, h2⟩ := h
    exact ⟨[], r, l', rfl, rfl, h1, h2⟩
  | d :: ds, q, rs, l, h => by
    simp only [List.cons_append, AllV] at h
    obtain ⟨r, l', rfl, _, h2⟩ := h
    obtain ⟨dl, r2, rl, rfl, h3, h4, h5⟩ := AllV.at ds q rs l' h2
    exact ⟨r :: dl, r2, rl, rfl, by rw [List.length_cons, h3]; rfl, h4, h5⟩
theorem AllV.raw : ∀ (ns : List Nd) (l : List Rs), AllV l ns → ∀ r ∈ l, 0 < r.raw.size
  | [], l, h => by simp only [AllV] at h; subst h; simp
  | n :: ns, l, h => by
    simp only [AllV] at h
    obtain ⟨r, l', rfl, h1, h2⟩ := h
    intro x hx
    rcases List.mem_cons.1 hx with rfl | hx
    · exact h1.size
    · exact AllV.raw ns l' h2 x hx
end Go.Proofs.YtggdcpmampjncaaGreatDoor
namespace Go.Proofs.YtggdcpmampjncaaGreatDoor
open Go.RowKit

/-- The result of a whole text. -/
def Top (r : Rs) (n : Nd) : Prop := IsV r n ∧ (r.ty = 5 → r.st = ByteArray.empty ∧ r.f = 0) ∧ (n.kind = 5 → bAt r.raw 0 = 91) ∧ (n.kind = 6 → bAt r.raw 0 = 123)
theorem EndB.of_text {s : ByteArray} {p : Pl} (h : PText s p) : EndB s p.e := by
  obtain ⟨a, _, _, _, h4, h5⟩ := h
  refine ⟨h4, fun hx => .inl ?_⟩
  have := h5.2.2 p.e (Nat.le_refl _) hx
  simp only [isBl, Bool.or_eq_true, beq_iff_eq] at this
  omega
/-- A value that is no array and no object, as it stands. -/
theorem Top.of_at {s : ByteArray} {p : Pl} {n : Nd} {r : Rs} (hs : s.size ≤ 1048576) (hp : PText s p) (hn : TreeR s p n) (h : IsAt s p r) (hk : p.kind ≤ 4) : Top r n := by
  obtain ⟨a, h1, h2, h3, h4, h5⟩ := hp
  refine ⟨h.isV h3 h4 hs hn, fun h5 => ?_, fun h5 => ?_, fun h5 => ?_⟩
  · have := h.1
    unfold kindOf at this
    have hk' : p.kind = 0 ∨ p.kind = 1 ∨ p.kind = 2 ∨ p.kind = 3 ∨ p.kind = 4 := by omega
    rcases hk' with e | e | e | e | e <;> rw [e] at this <;> simp at this <;> omega
  · rw [hn.kind] at h5; omega
  · rw [hn.kind] at h5; omega
/-- An array or an object, with what stands behind it. -/
theorem Top.of_json {s : ByteArray} {p : Pl} {n : Nd} (hs : s.size ≤ 1048576) (hp : PText s p) (hn : TreeR s p n) (hk : p.kind = 5 ∨ p.kind = 6) (i : Int) : Top ⟨5, s.extract p.b s.size, ByteArray.empty, 0, i⟩ n := by
  obtain ⟨a, h1, h2, h3, h4, h5⟩ := hp
  have hl := PVal.lt p h3
  have S : Sub s (s.extract p.b s.size) p.b s.size := ⟨by omega, Nat.le_refl _, rfl⟩
  have hb := S.at (k := p.b) (Nat.le_refl _) (by omega)
  rw [Nat.sub_self] at hb
  have ht := h3.tag
  refine ⟨⟨?_, ?_, ⟨p.sh p.b, PVal.text S h3 h4 h5, TreeR.sh S p n h3 hn (Nat.le_refl _) h4⟩, fun h => ?_⟩, fun _ => ⟨rfl, rfl⟩, fun h => ?_, fun h => ?_⟩
  · rw [hn.kind]; rcases hk with e | e <;> rw [e] <;> rfl
  · show (s.extract p.b s.size).size ≤ _; rw [S.size]; omega
  · rw [hn.kind] at h; omega
  · rw [hn.kind] at h; show bAt (s.extract p.b s.size) 0 = _; rw [hb]; omega
  · rw [hn.kind] at h; show bAt (s.extract p.b s.size) 0 = _; rw [hb]; omega

/-- The result of a whole text, in full. -/
def RsOf (s : ByteArray) (p : Pl) (n : Nd) (r : Rs) : Prop :=
  r.ty = kindOf n.kind ∧ r.raw = s.extract p.b (if 5 ≤ p.kind then s.size else p.e) ∧ r.st = (if p.kind = 4 then bs n.text else ByteArray.empty) ∧ (p.kind = 3 → NumR r.raw r.f) ∧ (p.kind ≠ 3 → r.f = 0)
theorem RsOf.uniq {s : ByteArray} {p : Pl} {n : Nd} {r r' : Rs} (h : RsOf s p n r) (h' : RsOf s p n r') : r.ty = r'.ty ∧ r.raw = r'.raw ∧ r.st = r'.st ∧ r.f = r'.f := by
  obtain ⟨h1, h2, h3, h4, h5⟩ := h
  obtain ⟨k1, k2, k3, k4, k5⟩ := h'
  refine ⟨h1.trans k1.symm, h2.trans k2.symm, h3.trans k3.symm, ?_⟩
  by_cases hk : p.kind = 3
  · have a := h4 hk
    have b := k4 hk
    rw [h2] at a
    rw [k2] at b
    exact a.uniq b
  · rw [h5 hk, k5 hk]
/-- Parse's blocks: the answer, the value. -/
structure PsW (B : Nat) (cs : List Value) (w0 w : World) : Prop where
  b0 : w.heap[B]? = some (.cells #[.int .i64 0, .string ByteArray.empty, .string ByteArray.empty, .float .f64 0, .int .i64 0, .slice none 0 0] 57 (0, 0))
  b1 : w.heap[B + 1]? = some (.cells cs.toArray 57 (0, 0))
  up : Upd NoB w0 w
  hB : w0.heap.size = B
  sz : B + 2 ≤ w.heap.size
section
variable {B : Nat} {cs : List Value} {w0 w w1 : World}
theorem PsW.keep (h : PsW B cs w0 w) (k : Upd NoB w w1) : PsW B cs w0 w1 :=
  ⟨k.blk h.b0 fun hc => hc.elim, k.blk h.b1 fun hc => hc.elim, h.up.trans k, h.hB, Nat.le_trans h.sz k.size⟩
theorem PsW.set1 (h : PsW B cs w0 w) (j : Nat) (x : Value) : PsW B (cs.set j x) w0 (w.setCell ⟨B + 1, j, none⟩ x) := by
  have k : Upd (OneB (B + 1)) w (w.setCell ⟨B + 1, j, none⟩ x) := (Upd.refl _ _).setOne j x
  refine ⟨k.blk h.b0 fun hc => by have : B = B + 1 := hc; omega, ?_, h.up.then k (fun b hb => .inr (by have : b = B + 1 := hb; have := h.hB; omega)), h.hB, Nat.le_trans h.sz k.size⟩
  rw [heap_setCell_same w (B + 1) j _ _ _ h.b1]
  simp
end
theorem PsW.start (w : World) : PsW w.heap.size [.int .i64 0, .string ByteArray.empty, .string ByteArray.empty, .float .f64 0, .int .i64 0, .slice none 0 0] w
    ((w.alloc (.cells #[.int .i64 0, .string ByteArray.empty, .string ByteArray.empty, .float .f64 0, .int .i64 0, .slice none 0 0] 57)).alloc (.cells #[.int .i64 0, .string ByteArray.empty, .string ByteArray.empty, .float .f64 0, .int .i64 0, .slice none 0 0] 57)) := by
  refine ⟨(Below.heap_alloc _ _ w.heap.size (by simp)).trans (heap_alloc_new w _), ?_, ((Upd.refl _ _).alloc _).alloc _, rfl, by simp⟩
  have := heap_alloc_new (w.alloc (.cells #[.int .i64 0, .string ByteArray.empty, .string ByteArray.empty, .float .f64 0, .int .i64 0, .slice none 0 0] 57)) (.cells #[.int .i64 0, .string ByteArray.empty, .string ByteArray.empty, .float .f64 0, .int .i64 0, .slice none 0 0] 57)
  rw [World.size_alloc] at this
  exact this
/-- What Parse returns. -/
def PsRet (n : Nd) (w : World) (e : Ending) (w' : World) : Prop := ∃ r : Rs, e = .returned (.agg #[.int .i64 (r.ty : Int), .string r.raw, .string r.st, .float .f64 r.f, .int .i64 r.ix, .slice none 0 0]) ∧ Top r n ∧ Upd NoB w w'
def PsRet2 (s : ByteArray) (p : Pl) (n : Nd) (w : World) (e : Ending) (w' : World) : Prop := ∃ r : Rs, (Top r n ∧ RsOf s p n r ∧ r.ix = (p.b : Int)) ∧ e = .returned (.agg #[.int .i64 (r.ty : Int), .string r.raw, .string r.st, .float .f64 r.f, .int .i64 r.ix, .slice none 0 0]) ∧ Upd NoB w w'
theorem PsRet2.one {s : ByteArray} {p : Pl} {n : Nd} {w : World} {e : Ending} {w' : World} (h : PsRet2 s p n w e w') : PsRet n w e w' := by
  obtain ⟨r, h1, h2, h3⟩ := h
  exact ⟨r, h2, h1.1, h3⟩
theorem lit123 (g : Nat → Value) : ((List.range 123).map g).toArray = #[g 0, g 1, g 2, g 3, g 4, g 5, g 6, g 7, g 8, g 9, g 10, g 11, g 12, g 13, g 14, g 15, g 16, g 17, g 18, g 19, g 20, g 21, g 22, g 23, g 24, g 25, g 26, g 27, g 28, g 29, g 30, g 31, g 32, g 33, g 34, g 35, g 36, g 37, g 38, g 39, g 40, g 41, g 42, g 43, g 44, g 45, g 46, g 47, g 48, g 49, g 50, g 51, g 52, g 53, g 54, g 55, g 56, g 57, g 58, g 59, g 60, g 61, g 62, g 63, g 64, g 65, g 66, g 67, g 68, g 69, g 70, g 71, g 72, g 73, g 74, g 75, g 76, g 77, g 78, g 79, g 80, g 81, g 82, g 83, g 84, g 85, g 86, g 87, g 88, g 89, g 90, g 91, g 92, g 93, g 94, g 95, g 96, g 97, g 98, g 99, g 100, g 101, g 102, g 103, g 104, g 105, g 106, g 107, g 108, g 109, g 110, g 111, g 112, g 113, g 114, g 115, g 116, g 117, g 118, g 119, g 120, g 121, g 122] := by kernel_rfl

set_option maxHeartbeats 4000000 in
set_option maxRecDepth 8000 in
theorem Parse_is (lo : Nat) (s : ByteArray) (p : Pl) (n : Nd) (w : World) (hs : s.size ≤ 1048576) (hp : PText s p) (hn : TreeR s p n) (hT : Tabs lo w) (hlo : lo ≤ w.heap.size) :
    Calls Tryz.prog 26 #[.string s] w (PsRet2 s p n w) := by
  have hB := get_bAt s
  have HP := Lib.hid hp
  have HN := Lib.hid hn; clear hn
  have HT := Lib.hid hT; clear hT
  have HEnd := Lib.hid (EndB.of_text hp)
  obtain ⟨a, hbl, hpb, hpv, hpe, _⟩ := hp
  subst hpb
  obtain ⟨htz, htag⟩ := hpv.tag
  have hlt := PVal.lt p hpv
  have HPV := Lib.hid hpv; clear hpv
  have HTag := Lib.hid htag; clear htag
  have HBl := Lib.hid hbl.2.2; clear hbl
  go_enter Tryz.func26, Tryz.ntmps26
  go_upto_block 0 with (fail)
  have hA := PsW.start w
  generalize hw1 : ((w.alloc (.cells #[.int .i64 0, .string ByteArray.empty, .string ByteArray.empty, .float .f64 0, .int .i64 0, .slice none 0 0] 57)).alloc (.cells #[.int .i64 0, .string ByteArray.empty, .string ByteArray.empty, .float .f64 0, .int .i64 0, .slice none 0 0] 57)) = w1 at hA
  first | rw [hw1] | (rw [show ((w.alloc (.cells #[.int .i64 0, .string ⟨#[]⟩, .string ⟨#[]⟩, .float .f64 0, .int .i64 0, .slice none 0 0] 57)).alloc (.cells #[.int .i64 0, .string ⟨#[]⟩, .string ⟨#[]⟩, .float .f64 0, .int .i64 0, .slice none 0 0] 57)) = w1 from hw1])
  clear hw1
  have HA := Lib.hid hA; clear hA
  refine wp_cut (FR 123 (fun g wx => ∃ r : Rs, (g 2 = .pointer (some ⟨w.heap.size, 0, none⟩) ∧ g 3 = .pointer (some ⟨w.heap.size + 1, 0, none⟩) ∧ g 4 = .int .i64 (p.b : Int)) ∧ (Top r n ∧ RsOf s p n r) ∧ PsW w.heap.size [.int .i64 (r.ty : Int), .string r.raw, .string r.st, .float .f64 r.f, .int .i64 0, .slice none 0 0] w wx)) ?rest ?first
  case first =>
    intro J K hJ hK
    go_wp2_with fail
    refine wp_loop_ghost_k (fun mm => FR 123 (fun g wx => ∃ k : Nat, mm = p.b - k ∧ (g 0 = .string s ∧ g 2 = .pointer (some ⟨w.heap.size, 0, none⟩) ∧ g 3 = .pointer (some ⟨w.heap.size + 1, 0, none⟩) ∧ g 4 = .int .i64 (k : Int)) ∧ k ≤ p.b ∧ wx = w1)) p.b ?atStart ?round
    case atStart =>
      refine FR.intro (by rfl) ?_
      exact ⟨0, rfl, ⟨rfl, rfl, rfl, rfl⟩, Nat.zero_le _, rfl⟩
    case round =>
      intro gk
      refine FR.rest ?_
      rintro g w2 ⟨k, hm, ⟨e0, e2, e3, e4⟩, hk, rfl⟩
      rw [lit123]
      simp only [e0, e2, e3, e4]
      clear e0 e2 e3 e4
      intro J2 K2 hJ2 hK2
      have Hm := Lib.hid hm; clear hm
      have hb := bAt_le s k
      by_cases hx : k < p.b
      · have hb1 := HBl.out k (Nat.zero_le _) hx
        have h32 : (bAt s k : Int) ≤ 32 := by
          simp only [isBl, Bool.or_eq_true, beq_iff_eq] at hb1
          omega
        have hkz : (k : Int) < (s.size : Int) := by omega
        have e123 : ((bAt s k : Int) == 123) = false := by simp; omega
        have e91 : ((bAt s k : Int) == 91) = false := by simp; omega
        clear hb1
        as_aux_lemma =>
          go_wp2_with fail
          refine Handed.intro (p.b - (k + 1)) ?_ ?_
          · have := Hm.out; omega
          go_step
          refine FR.intro (by rfl) ?_
          exact ⟨k + 1, rfl, ⟨rfl, rfl, rfl, by simp only [slotOf]; congr 1⟩, by omega, rfl⟩
      obtain rfl : k = p.b := by omega
      clear hx hk
      have hkz : (p.b : Int) < (s.size : Int) := by omega
      have hfl : ∀ a f wx, (store a (.float .f64 f)).run Tryz.prog wx = stored Tryz.prog wx a (.float .f64 f) .plain := fun a f wx => run_store _ wx a _ .plain rfl
      obtain ⟨⟨q0, q1, q2, q3, q4, q5⟩, f0, f1, f2, f3, f4, f5⟩ := cells6 HA.out.b1
      rcases HTag.out with ⟨hk, hb⟩ | ⟨hk, hb⟩ | ⟨hk, hb⟩ | ⟨hk, hb⟩ | ⟨hk, hb⟩ | ⟨hk, hb⟩ | ⟨hk, hb⟩
      · have hbv : (bAt s p.b : Int) = 110 := by rw [hb]; rfl
        have hu : p.b + 1 < s.size ∧ bAt s (p.b + 1) = 117 := by
          have h := HPV.out
          obtain ⟨k, b, e, ns, ks⟩ := p
          simp only [PVal] at h
          simp only [Pl.kind, Pl.b] at *
          rcases h with ⟨_, h1, _⟩ | ⟨h, _⟩ | ⟨h, _⟩ | ⟨h, _⟩ | ⟨h, _⟩ | ⟨h, _⟩ | ⟨h, _⟩
          · have := Wd_byte h1 1 (by decide)
            have hz := h1.1
            simp only [wNull, List.length_cons, List.length_nil] at hz
            exact ⟨by omega, this⟩
          all_goals omega
        have hu1 : (p.b : Int) + 1 < (s.size : Int) := by omega
        have hu2 : (bAt s (p.b + 1) : Int) = 117 := by rw [hu.2]; rfl
        have Hc := Lib.hid (fun wx => lit_at s p wx hs HPV.out (by omega) HEnd.out)
        have HI : Hid (Top ⟨0, s.extract p.b p.e, ByteArray.empty, 0, 0⟩ n ∧ RsOf s p n ⟨0, s.extract p.b p.e, ByteArray.empty, 0, 0⟩) := Lib.hid ⟨Top.of_at hs HP.out HN.out ⟨by rw [hk]; rfl, rfl, fun h => by omega⟩ (by omega), by rw [HN.out.kind, hk]; rfl, by rw [hk]; rfl, by rw [hk]; rfl, fun h => by omega, fun _ => rfl⟩
        clear hb hk hu
        as_aux_lemma =>
          go_wp2_with fail
          refine (Hc.out _).mono ?_
          rintro r w4 ⟨rfl, rfl⟩
          go_wp2_with fail
          refine Met.intro ?_
          go_step
          refine FR.intro (by rfl) ?_
          exact ⟨⟨0, s.extract p.b p.e, ByteArray.empty, 0, 0⟩, ⟨rfl, rfl, rfl⟩, HI.out, (HA.out.set1 0 _).set1 1 _⟩
      · have hbv : (bAt s p.b : Int) = 102 := by rw [hb]; rfl
        have Hc := Lib.hid (fun wx => lit_at s p wx hs HPV.out (by omega) HEnd.out)
        have HI : Hid (Top ⟨1, s.extract p.b p.e, ByteArray.empty, 0, 0⟩ n ∧ RsOf s p n ⟨1, s.extract p.b p.e, ByteArray.empty, 0, 0⟩) := Lib.hid ⟨Top.of_at hs HP.out HN.out ⟨by rw [hk]; rfl, rfl, fun h => by omega⟩ (by omega), by rw [HN.out.kind, hk]; rfl, by rw [hk]; rfl, by rw [hk]; rfl, fun h => by omega, fun _ => rfl⟩
        clear hb hk
        as_aux_lemma =>
          go_wp2_with fail
          refine (Hc.out _).mono ?_
          rintro r w4 ⟨rfl, rfl⟩
          go_wp2_with fail
          refine Met.intro ?_
          go_step
          refine FR.intro (by rfl) ?_
          exact ⟨⟨1, s.extract p.b p.e, ByteArray.empty, 0, 0⟩, ⟨rfl, rfl, rfl⟩, HI.out, (HA.out.set1 0 _).set1 1 _⟩
      · have hbv : (bAt s p.b : Int) = 116 := by rw [hb]; rfl
        have Hc := Lib.hid (fun wx => lit_at s p wx hs HPV.out (by omega) HEnd.out)
        have HI : Hid (Top ⟨4, s.extract p.b p.e, ByteArray.empty, 0, 0⟩ n ∧ RsOf s p n ⟨4, s.extract p.b p.e, ByteArray.empty, 0, 0⟩) := Lib.hid ⟨Top.of_at hs HP.out HN.out ⟨by rw [hk]; rfl, rfl, fun h => by omega⟩ (by omega), by rw [HN.out.kind, hk]; rfl, by rw [hk]; rfl, by rw [hk]; rfl, fun h => by omega, fun _ => rfl⟩
        clear hb hk
        as_aux_lemma =>
          go_wp2_with fail
          refine (Hc.out _).mono ?_
          rintro r w4 ⟨rfl, rfl⟩
          go_wp2_with fail
          refine Met.intro ?_
          go_step
          refine FR.intro (by rfl) ?_
          exact ⟨⟨4, s.extract p.b p.e, ByteArray.empty, 0, 0⟩, ⟨rfl, rfl, rfl⟩, HI.out, (HA.out.set1 0 _).set1 1 _⟩
      · have Hc := Lib.hid (fun wx hT hl => num_at lo s p wx hs hT hl HPV.out hk HEnd.out)
        have HI : Hid (∀ f, NumR (s.extract p.b p.e) f → Top ⟨2, s.extract p.b p.e, ByteArray.empty, f, 0⟩ n ∧ RsOf s p n ⟨2, s.extract p.b p.e, ByteArray.empty, f, 0⟩) := Lib.hid fun f hf => ⟨Top.of_at hs HP.out HN.out ⟨by rw [hk]; rfl, rfl, fun h => by omega⟩ (by omega), by rw [HN.out.kind, hk]; rfl, by rw [hk]; rfl, by rw [hk]; rfl, fun _ => hf, fun h => absurd hk h⟩
        have HT1 : Hid (Tabs lo (w2.setCell ⟨w.heap.size + 1, 0, none⟩ (.int .i64 2))) := Lib.hid (HT.out.upd (HA.out.set1 0 (.int .i64 2)).up (fun _ hb => hb.elim))
        have HL1 : Hid (lo ≤ (w2.setCell ⟨w.heap.size + 1, 0, none⟩ (.int .i64 2)).heap.size) := Lib.hid (by have := (HA.out.set1 0 (.int .i64 2)).sz; omega)
        have hd : (bAt s p.b : Int) = 45 ∨ (bAt s p.b : Int) = 48 ∨ (bAt s p.b : Int) = 49 ∨ (bAt s p.b : Int) = 50 ∨ (bAt s p.b : Int) = 51 ∨ (bAt s p.b : Int) = 52 ∨ (bAt s p.b : Int) = 53 ∨ (bAt s p.b : Int) = 54 ∨ (bAt s p.b : Int) = 55 ∨ (bAt s p.b : Int) = 56 ∨ (bAt s p.b : Int) = 57 := by omega
        clear hb hk
        rcases hd with hbv | hbv | hbv | hbv | hbv | hbv | hbv | hbv | hbv | hbv | hbv
        all_goals
          as_aux_lemma =>
            go_wp2_with fail
            refine (Hc.out _ HT1.out HL1.out).mono ?_
            rintro r w4 ⟨⟨f, rfl, hnr⟩, hu4⟩
            have HNR := Lib.hid hnr; clear hnr
            have ha4 := (HA.out.set1 0 (.int .i64 2)).keep hu4
            obtain ⟨⟨v0, v1, v2, v3, v4, v5⟩, f0, f1, f2, f3, f4, f5⟩ := cells6 ha4.b1
            have HA4 := Lib.hid ha4; clear ha4 hu4
            go_wp2_with fail
            refine Met.intro ?_
            go_step
            refine FR.intro (by rfl) ?_
            exact ⟨⟨2, s.extract p.b p.e, ByteArray.empty, f, 0⟩, ⟨rfl, rfl, rfl⟩, HI.out f HNR.out, (HA4.out.set1 1 _).set1 3 _⟩
      · have hbv : (bAt s p.b : Int) = 34 := by rw [hb]; rfl
        have ht := HN.out.str hk
        have Hc := Lib.hid (fun wx => str_at s p n.text wx hs HPV.out hk HEnd.out ht)
        have HI : Hid (Top ⟨3, s.extract p.b p.e, ⟨n.text.toArray⟩, 0, 0⟩ n ∧ RsOf s p n ⟨3, s.extract p.b p.e, ⟨n.text.toArray⟩, 0, 0⟩) := Lib.hid ⟨Top.of_at hs HP.out HN.out ⟨by rw [hk]; rfl, rfl, fun _ => ⟨n.text, ht, rfl⟩⟩ (by omega), by rw [HN.out.kind, hk]; rfl, by rw [hk]; rfl, by rw [hk]; rfl, fun h => by omega, fun _ => rfl⟩
        clear hb hk ht
        as_aux_lemma =>
          go_wp2_with fail
          refine (Hc.out _).mono ?_
          rintro r w4 ⟨rfl, hu4⟩
          have ha4 := (HA.out.set1 0 (.int .i64 3)).keep hu4
          obtain ⟨⟨v0, v1, v2, v3, v4, v5⟩, f0, f1, f2, f3, f4, f5⟩ := cells6 ha4.b1
          have HA4 := Lib.hid ha4; clear ha4 hu4
          go_wp2_with fail
          refine Met.intro ?_
          go_step
          refine FR.intro (by rfl) ?_
          exact ⟨⟨3, s.extract p.b p.e, ⟨n.text.toArray⟩, 0, 0⟩, ⟨rfl, rfl, rfl⟩, HI.out, (HA4.out.set1 1 _).set1 2 _⟩
      · have hbv : (bAt s p.b : Int) = 91 := by rw [hb]; rfl
        have HI : Hid (Top ⟨5, s.extract p.b s.size, ByteArray.empty, 0, 0⟩ n ∧ RsOf s p n ⟨5, s.extract p.b s.size, ByteArray.empty, 0, 0⟩) := Lib.hid ⟨Top.of_json hs HP.out HN.out (.inl hk) 0, by rw [HN.out.kind, hk]; rfl, by rw [hk]; rfl, by rw [hk]; rfl, fun h => by omega, fun _ => rfl⟩
        clear hb hk
        as_aux_lemma =>
          go_wp2_with fail
          refine Met.intro ?_
          go_step
          refine FR.intro (by rfl) ?_
          exact ⟨⟨5, s.extract p.b s.size, ByteArray.empty, 0, 0⟩, ⟨rfl, rfl, rfl⟩, HI.out, (HA.out.set1 0 _).set1 1 _⟩
      · have hbv : (bAt s p.b : Int) = 123 := by rw [hb]; rfl
        have HI : Hid (Top ⟨5, s.extract p.b s.size, ByteArray.empty, 0, 0⟩ n ∧ RsOf s p n ⟨5, s.extract p.b s.size, ByteArray.empty, 0, 0⟩) := Lib.hid ⟨Top.of_json hs HP.out HN.out (.inr hk) 0, by rw [HN.out.kind, hk]; rfl, by rw [hk]; rfl, by rw [hk]; rfl, fun h => by omega, fun _ => rfl⟩
        clear hb hk
        as_aux_lemma =>
          go_wp2_with fail
          refine Met.intro ?_
          go_step
          refine FR.intro (by rfl) ?_
          exact ⟨⟨5, s.extract p.b s.size, ByteArray.empty, 0, 0⟩, ⟨rfl, rfl, rfl⟩, HI.out, (HA.out.set1 0 _).set1 1 _⟩
  case rest =>
  refine FR.rest ?_
  rintro g w4 ⟨r, ⟨e2, e3, e4⟩, htop, ha⟩
  rw [lit123]
  simp only [e2, e3, e4]
  clear e2 e3 e4
  have HTop := Lib.hid htop; clear htop
  have hfl := fl_store
  have HX := Lib.hid (fun wx => Exists_any ⟨r.ty, r.raw, r.st, r.f, 0⟩ wx HTop.out.1.1.size)
  obtain ⟨⟨q0, q1, q2, q3, q4, q5⟩, f0, f1, f2, f3, f4, f5⟩ := cells6 ha.b1
  have HA2 := Lib.hid ha; clear ha
  go_wp2_with fail
  refine (HX.out _).mono ?_
  rintro e w5 ⟨rfl, hu5⟩
  have ha5 := HA2.out.keep hu5
  clear q0 q1 q2 q3 q4 q5 f0 f1 f2 f3 f4 f5 hu5
  obtain ⟨⟨q0, q1, q2, q3, q4, q5⟩, f0, f1, f2, f3, f4, f5⟩ := cells6 ha5.b1
  have ha6 := ha5.set1 4 (.int .i64 (p.b : Int))
  obtain ⟨⟨r0, r1, r2, r3, r4, r5⟩, s0, s1, s2, s3, s4, s5⟩ := cells6 ha6.b0
  have HA6 := Lib.hid ha6
  clear ha5 ha6
  go_wp2_with fail
  refine bodyPost_ret (v := .agg #[.int .i64 (r.ty : Int), .string r.raw, .string r.st, .float .f64 r.f, .int .i64 (p.b : Int), .slice none 0 0]) (by simp [results, Tryz.results26, go_sem, r0, r1, r2, r3, r4, r5]) rfl ?_
  have U : Upd (OneB w.heap.size) (w5.setCell ⟨w.heap.size + 1, 4, none⟩ (.int .i64 (p.b : Int))) (((((((w5.setCell ⟨w.heap.size + 1, 4, none⟩ (.int .i64 (p.b : Int))).setCell ⟨w.heap.size, 0, none⟩ (.int .i64 (r.ty : Int))).setCell ⟨w.heap.size, 1, none⟩ (.string r.raw)).setCell ⟨w.heap.size, 2, none⟩ (.string r.st)).setCell ⟨w.heap.size, 3, none⟩ (.float .f64 r.f)).setCell ⟨w.heap.size, 4, none⟩ (.int .i64 (p.b : Int))).setCell ⟨w.heap.size, 5, none⟩ (.slice none 0 0)) :=
    ((((((Upd.refl _ _).setOne 0 _).setOne 1 _).setOne 2 _).setOne 3 _).setOne 4 _).setOne 5 _
  exact ⟨⟨r.ty, r.raw, r.st, r.f, (p.b : Int)⟩, ⟨HTop.out.1, HTop.out.2, rfl⟩, rfl, HA6.out.up.then U (fun b hb => .inr (Nat.le_of_eq hb.symm))⟩
theorem Parse_any (lo : Nat) (s : ByteArray) (p : Pl) (n : Nd) (w : World) (hs : s.size ≤ 1048576) (hp : PText s p) (hn : TreeR s p n) (hT : Tabs lo w) (hlo : lo ≤ w.heap.size) :
    Calls Tryz.prog 26 #[.string s] w (PsRet n w) :=
  (Parse_is lo s p n w hs hp hn hT hlo).mono fun _ _ h => h.one
end Go.Proofs.YtggdcpmampjncaaGreatDoor
