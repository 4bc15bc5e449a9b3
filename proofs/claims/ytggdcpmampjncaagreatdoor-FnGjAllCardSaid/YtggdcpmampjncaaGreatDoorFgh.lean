/- The law's gjAlike and gjPairs: they say yes to what ForEach passes of a text. The package's Valid of a text that is an empty array or an empty object with blanks around and within: yes. -/
import Derived.Test.YtggdcpmampjncaaGreatDoorFef
import Derived.Test.YtggdcpmampjncaaGreatDoorIsm
namespace Go.Proofs.YtggdcpmampjncaaGreatDoor
open Go.RowKit

set_option maxHeartbeats 4000000 in
set_option maxRecDepth 4000 in
theorem gjAlike_any (ty : Nat) (raw st : ByteArray) (f : Nat) (x : Bool) (w : World) :
    Calls Tryz.prog 31 #[.agg #[.int .i64 (ty : Int), .string raw, .string st, .float .f64 f, .bool x], .agg #[.int .i64 (ty : Int), .string raw, .string st, .float .f64 f, .bool x]] w fun e w' => e = .returned (.bool true) ∧ Upd NoB w w' := by
  have hb0 : ((w.alloc (.cells #[.int .i64 (ty : Int), .string raw, .string st, .float .f64 f, .bool x] 38)).alloc (.cells #[.int .i64 (ty : Int), .string raw, .string st, .float .f64 f, .bool x] 38)).heap[w.heap.size]? = some (.cells #[.int .i64 (ty : Int), .string raw, .string st, .float .f64 f, .bool x] 38 (0, 0)) :=
    (Below.heap_alloc _ _ w.heap.size (by simp)).trans (heap_alloc_new w _)
  have hb1 := heap_alloc_new (w.alloc (.cells #[.int .i64 (ty : Int), .string raw, .string st, .float .f64 f, .bool x] 38)) (.cells #[.int .i64 (ty : Int), .string raw, .string st, .float .f64 f, .bool x] 38)
  rw [World.size_alloc] at hb1
  have HU := Lib.hid (((Upd.refl NoB w).alloc (.cells #[.int .i64 (ty : Int), .string raw, .string st, .float .f64 f, .bool x] 38)).alloc (.cells #[.int .i64 (ty : Int), .string raw, .string st, .float .f64 f, .bool x] 38))
  have HB0 := Lib.hid hb0
  have HB1 := Lib.hid hb1
  clear hb0 hb1
  go_enter Tryz.func31, Tryz.ntmps31
  go_upto_region 1 with (fail)
  obtain ⟨⟨p0, p1, p2, p3, p4⟩, _⟩ := cells5 HB0.out
  obtain ⟨⟨q0, q1, q2, q3, q4⟩, _⟩ := cells5 HB1.out
  generalize ((w.alloc (.cells #[.int .i64 (ty : Int), .string raw, .string st, .float .f64 f, .bool x] 38)).alloc (.cells #[.int .i64 (ty : Int), .string raw, .string st, .float .f64 f, .bool x] 38)) = w1 at p0 p1 p2 p3 p4 q0 q1 q2 q3 q4 HU ⊢
  clear HB0 HB1
  by_cases ho : FloatKind.f64.format.order f f = some .eq
  · have e1 : (FloatKind.f64.format.order f f == some .eq) = true := by rw [ho]; rfl
    have e2 : (FloatKind.f64.format.order f f != some .eq) = false := by rw [ho]; rfl
    go_wp2_with fail
    go_ret
    exact ⟨rfl, HU.out⟩
  · have e1 : (FloatKind.f64.format.order f f == some .eq) = false := beq_eq_false_iff_ne.2 ho
    have e2 : (FloatKind.f64.format.order f f != some .eq) = true := bne_iff_ne.2 ho
    go_wp2_with fail
    go_ret
    exact ⟨rfl, HU.out⟩
theorem flat_get : ∀ (l : List (Rs × Rs)) (j i : Nat) (k v : Rs), l[j]? = some (k, v) → i < 10 → (l.flatMap fun p => pairC p.1 p.2)[j * 10 + i]? = (pairC k v)[i]?
  | [], j, i, k, v, h, _ => by simp at h
  | (a, b) :: l, 0, i, k, v, h, hi => by
    simp only [List.getElem?_cons_zero, Option.some.injEq, Prod.mk.injEq] at h
    obtain ⟨rfl, rfl⟩ := h
    rw [List.flatMap_cons, List.getElem?_append_left (by show 0 * 10 + i < 10; omega), Nat.zero_mul, Nat.zero_add]
  | (a, b) :: l, j + 1, i, k, v, h, hi => by
    rw [List.getElem?_cons_succ] at h
    rw [List.flatMap_cons, List.getElem?_append_right (by show 10 ≤ _; omega), show (j + 1) * 10 + i - (pairC a b).length = j * 10 + i by show (j + 1) * 10 + i - 10 = _; omega]
    exact flat_get l j i k v h hi
theorem flat_len (l : List (Rs × Rs)) : (l.flatMap fun p => pairC p.1 p.2).length = l.length * 10 := by
  induction l with
  | nil => rfl
  | cons a l ih => rw [List.flatMap_cons, List.length_append, ih, List.length_cons]; show 10 + _ = _; omega
theorem RowQ.at {hi : Nat} {w : World} {va : Option Addr} {vc : Nat} {l : List (Rs × Rs)} (h : RowQ hi w (.slice va l.length vc) l) {j : Nat} {k v : Rs} (hj : l[j]? = some (k, v)) :
    ∃ g, va = some ⟨g, 0, none⟩ ∧ l.length ≤ vc ∧ ∀ i u, (pairC k v)[i]? = some u → w.cell? ⟨g, j * 10 + i, none⟩ = some u := by
  have hlt : j < l.length := (List.getElem?_eq_some_iff.1 hj).1
  obtain ⟨h1, h2⟩ := h
  rcases h1.2 with ⟨_, h0⟩ | ⟨g, cap, cur, he, _, _, hc, _⟩
  · omega
  · injection he with e1 e2 e3
    subst e1 e3
    refine ⟨g, rfl, hc, fun i u hu => ?_⟩
    have hi : i < 10 := (List.getElem?_eq_some_iff.1 hu).1
    rw [World.ownsRow.cellAt h1 (j * 10 + i) (by omega), flat_get l j i k v hj hi]
    exact hu
/-- The pairs are the same. -/
theorem Ev.cells {s : ByteArray} {p : Pl} {n : Nd} {l l' : List (Rs × Rs)} (h : Ev (KX s p n) (VX s p n) l) (h' : Ev (KX s p n) (VX s p n) l') (hl : l.length = l'.length) : (l.flatMap fun p => pairC p.1 p.2) = l'.flatMap fun p => pairC p.1 p.2 := by
  apply List.ext_getElem?
  intro i
  by_cases hi : i < l.length * 10
  · have hj : i / 10 < l.length := by omega
    have hj' : i / 10 < l'.length := by omega
    have e1 : l[i / 10]? = some (l[i / 10].1, l[i / 10].2) := List.getElem?_eq_getElem hj
    have e2 : l'[i / 10]? = some (l'[i / 10].1, l'[i / 10].2) := List.getElem?_eq_getElem hj'
    have hk := KX.uniq (h _ _ _ e1).1 (h' _ _ _ e2).1
    have hv := VX.uniq (h _ _ _ e1).2 (h' _ _ _ e2).2
    have g1 := flat_get l (i / 10) (i % 10) _ _ e1 (by omega)
    have g2 := flat_get l' (i / 10) (i % 10) _ _ e2 (by omega)
    rw [show i / 10 * 10 + i % 10 = i by omega] at g1 g2
    rw [g1, g2]
    unfold pairC
    rw [hk.1, hk.2.1, hk.2.2.1, hk.2.2.2, hv.1, hv.2.1, hv.2.2.1, hv.2.2.2, hk.ex, hv.ex]
  · rw [List.getElem?_eq_none (by rw [flat_len]; omega), List.getElem?_eq_none (by rw [flat_len]; omega)]
theorem RowQ.alike {hi : Nat} {w : World} {v : Value} {s : ByteArray} {p : Pl} {n : Nd} {l l' : List (Rs × Rs)} (h : Ev (KX s p n) (VX s p n) l) (h' : Ev (KX s p n) (VX s p n) l') (hl : l.length = l'.length) (hr : RowQ hi w v l') : RowQ hi w v l := by
  obtain ⟨h1, h2⟩ := hr
  refine ⟨?_, h2⟩
  rw [hl, h.cells h' hl]
  exact h1
theorem lit50 (g : Nat → Value) : ((List.range 50).map g).toArray = #[g 0, g 1, g 2, g 3, g 4, g 5, g 6, g 7, g 8, g 9, g 10, g 11, g 12, g 13, g 14, g 15, g 16, g 17, g 18, g 19, g 20, g 21, g 22, g 23, g 24, g 25, g 26, g 27, g 28, g 29, g 30, g 31, g 32, g 33, g 34, g 35, g 36, g 37, g 38, g 39, g 40, g 41, g 42, g 43, g 44, g 45, g 46, g 47, g 48, g 49] := by kernel_rfl

set_option maxHeartbeats 8000000 in
set_option maxRecDepth 8000 in
theorem gjPairs_any (lo hi : Nat) (s : ByteArray) (p : Pl) (n : Nd) (stop : Int) (va : Option Addr) (vc : Nat) (l : List (Rs × Rs)) (w : World) (hs : s.size ≤ 1048576)
    (hp : PText s p) (hn : TreeR s p n) (hT : Tabs lo w) (hlo : lo ≤ w.heap.size) (hvt : VT w) (hvl : 0 < lo)
    (hl : l.length = cutN stop (NX p)) (hlb : l.length ≤ 1048577) (hev : Ev (KX s p n) (VX s p n) l) (hrow : RowQ hi w (.slice va l.length vc) l) :
    Calls Tryz.prog 13 #[.slice va l.length vc, .string s, .int .i64 stop] w fun e w' => e = .returned (.bool true) ∧ Upd NoB w w' := by
  have HP := Lib.hid (GjParse_is lo s p n w hs hp hn hT hlo)
  have HE := Lib.hid (fun r wx hr hT hlo hvt => GjResultEach_any lo s p n r stop wx hs hp hn hr hT hlo hvt hvl)
  have HT := Lib.hid hT; clear hT
  have HVT := Lib.hid hvt; clear hvt
  have HRow := Lib.hid hrow; clear hrow
  have HL := Lib.hid hl; clear hl
  have HEv := Lib.hid hev; clear hev
  clear hp hn
  go_enter Tryz.func13, Tryz.ntmps13
  go_wp2_with fail
  refine HP.out.mono ?_
  rintro e w1 ⟨r, rfl, ⟨_, hr⟩, hu1⟩
  have HR := Lib.hid hr; clear hr
  have HU1 := Lib.hid hu1; clear hu1
  go_wp2_with fail
  refine (HE.out r w1 HR.out (HT.out.upd HU1.out (fun _ h => h.elim)) (Nat.le_trans hlo HU1.out.size) (HVT.out.upd HU1.out)).mono ?_
  rintro e w2 ⟨v2, l2, rfl, hl2, hev2, hrow2, hu2⟩
  have hll : l.length = l2.length := by rw [HL.out, hl2]
  have hrow3 := RowQ.alike HEv.out hev2 hll hrow2
  obtain ⟨vb, vd, rfl⟩ := hrow3.len
  have HRow2 := Lib.hid hrow3
  have HU2 := Lib.hid (HU1.out.trans hu2)
  clear hl2 hev2 hrow2 hu2 hrow3 hll
  have hne : ((l.length : Int) != (l.length : Int)) = false := by simp
  go_wp2_with fail
  refine wp_loop_ghost_k (fun mm => FR 50 (fun g wx => ∃ j : Nat, mm = l.length - j ∧ (g 0 = .slice va l.length vc ∧ g 7 = .slice vb l.length vd ∧ g 19 = .int .i64 (l.length : Int) ∧ g 20 = .int .i64 (j : Int)) ∧ j ≤ l.length ∧ Upd NoB w2 wx)) l.length ?atStart ?round
  case atStart =>
    refine FR.intro (by rfl) ?_
    exact ⟨0, rfl, ⟨rfl, rfl, rfl, rfl⟩, Nat.zero_le _, Upd.refl _ _⟩
  case round =>
    clear hne
    intro gk
    refine FR.rest ?_
    rintro g wx ⟨j, hm, ⟨e0, e7, e19, e20⟩, hj, hu⟩
    rw [lit50]
    simp only [e0, e7, e19, e20]
    clear e0 e7 e19 e20
    intro J2 K2 hJ2 hK2
    have Hm := Lib.hid hm; clear hm
    have HU := Lib.hid hu; clear hu
    by_cases hlt : j < l.length
    rotate_left
    · have hnlt : ¬ (j : Int) < (l.length : Int) := by omega
      go_wp2_with fail
      go_ret
      exact ⟨rfl, HU2.out.trans HU.out⟩
    have hlt' : (j : Int) < (l.length : Int) := by omega
    have hrowa := HRow.out.upd (HU2.out.trans HU.out) (fun _ _ _ h => h)
    have hrowb := HRow2.out.upd HU.out (fun _ _ _ h => h)
    obtain ⟨k, v, hlj⟩ : ∃ k v, l[j]? = some (k, v) := ⟨l[j].1, l[j].2, List.getElem?_eq_getElem hlt⟩
    obtain ⟨ga, rfl, hca, da⟩ := hrowa.at hlj
    obtain ⟨gb, rfl, hcb, db⟩ := hrowb.at hlj
    have a0 := da 0 _ rfl
    have a1 := da 1 _ rfl
    have a2 := da 2 _ rfl
    have a3 := da 3 _ rfl
    have a4 := da 4 _ rfl
    have a5 := da 5 _ rfl
    have a6 := da 6 _ rfl
    have a7 := da 7 _ rfl
    have a8 := da 8 _ rfl
    have a9 := da 9 _ rfl
    have b0 := db 0 _ rfl
    have b1 := db 1 _ rfl
    have b2 := db 2 _ rfl
    have b3 := db 3 _ rfl
    have b4 := db 4 _ rfl
    have b5 := db 5 _ rfl
    have b6 := db 6 _ rfl
    have b7 := db 7 _ rfl
    have b8 := db 8 _ rfl
    have b9 := db 9 _ rfl
    rw [Nat.add_zero] at a0 b0
    have hca' : (l.length : Int) ≤ (vc : Int) := by omega
    have hcb' : (l.length : Int) ≤ (vd : Int) := by omega
    have hd0 : (0 : Int) ≤ (j : Int) := by omega
    have hdb : (j : Int) ≤ 1048577 := by omega
    have HC := Lib.hid (fun (r : Rs) wx => gjAlike_any r.ty r.raw r.st r.f r.ex wx)
    clear da db hrowa hrowb hca hcb hlj
    go_wp2_with fail
    go_region_held3 (fun w' => w'.cell? ⟨ga, j * 10, none⟩ = some (.int .i64 (k.ty : Int)) ∧ w'.cell? ⟨ga, j * 10 + 1, none⟩ = some (.string k.raw) ∧ w'.cell? ⟨ga, j * 10 + 2, none⟩ = some (.string k.st) ∧ w'.cell? ⟨ga, j * 10 + 3, none⟩ = some (.float .f64 k.f) ∧ w'.cell? ⟨ga, j * 10 + 4, none⟩ = some (.bool k.ex) ∧ w'.cell? ⟨ga, j * 10 + 5, none⟩ = some (.int .i64 (v.ty : Int)) ∧ w'.cell? ⟨ga, j * 10 + 5 + 1, none⟩ = some (.string v.raw) ∧ w'.cell? ⟨ga, j * 10 + 5 + 2, none⟩ = some (.string v.st) ∧ w'.cell? ⟨ga, j * 10 + 5 + 3, none⟩ = some (.float .f64 v.f) ∧ w'.cell? ⟨ga, j * 10 + 5 + 4, none⟩ = some (.bool v.ex) ∧ w'.cell? ⟨gb, j * 10, none⟩ = some (.int .i64 (k.ty : Int)) ∧ w'.cell? ⟨gb, j * 10 + 1, none⟩ = some (.string k.raw) ∧ w'.cell? ⟨gb, j * 10 + 2, none⟩ = some (.string k.st) ∧ w'.cell? ⟨gb, j * 10 + 3, none⟩ = some (.float .f64 k.f) ∧ w'.cell? ⟨gb, j * 10 + 4, none⟩ = some (.bool k.ex) ∧ w'.cell? ⟨gb, j * 10 + 5, none⟩ = some (.int .i64 (v.ty : Int)) ∧ w'.cell? ⟨gb, j * 10 + 5 + 1, none⟩ = some (.string v.raw) ∧ w'.cell? ⟨gb, j * 10 + 5 + 2, none⟩ = some (.string v.st) ∧ w'.cell? ⟨gb, j * 10 + 5 + 3, none⟩ = some (.float .f64 v.f) ∧ w'.cell? ⟨gb, j * 10 + 5 + 4, none⟩ = some (.bool v.ex)) (first | (go_keep; done) | (go_split_ands; exact ⟨hu6.cell (by assumption) (fun h => h), hu6.cell (by assumption) (fun h => h), hu6.cell (by assumption) (fun h => h), hu6.cell (by assumption) (fun h => h), hu6.cell (by assumption) (fun h => h), hu6.cell (by assumption) (fun h => h), hu6.cell (by assumption) (fun h => h), hu6.cell (by assumption) (fun h => h), hu6.cell (by assumption) (fun h => h), hu6.cell (by assumption) (fun h => h), hu6.cell (by assumption) (fun h => h), hu6.cell (by assumption) (fun h => h), hu6.cell (by assumption) (fun h => h), hu6.cell (by assumption) (fun h => h), hu6.cell (by assumption) (fun h => h), hu6.cell (by assumption) (fun h => h), hu6.cell (by assumption) (fun h => h), hu6.cell (by assumption) (fun h => h), hu6.cell (by assumption) (fun h => h), hu6.cell (by assumption) (fun h => h)⟩) | (go_split_ands; exact ⟨hu5.cell (by assumption) (fun h => h), hu5.cell (by assumption) (fun h => h), hu5.cell (by assumption) (fun h => h), hu5.cell (by assumption) (fun h => h), hu5.cell (by assumption) (fun h => h), hu5.cell (by assumption) (fun h => h), hu5.cell (by assumption) (fun h => h), hu5.cell (by assumption) (fun h => h), hu5.cell (by assumption) (fun h => h), hu5.cell (by assumption) (fun h => h), hu5.cell (by assumption) (fun h => h), hu5.cell (by assumption) (fun h => h), hu5.cell (by assumption) (fun h => h), hu5.cell (by assumption) (fun h => h), hu5.cell (by assumption) (fun h => h), hu5.cell (by assumption) (fun h => h), hu5.cell (by assumption) (fun h => h), hu5.cell (by assumption) (fun h => h), hu5.cell (by assumption) (fun h => h), hu5.cell (by assumption) (fun h => h)⟩)) (first | (go_at_call_of 31 (k.raw); refine (HC.out k _).mono ?_; rintro e w5 ⟨rfl, hu5⟩) | (go_at_call_of 31 (v.raw); refine (HC.out v _).mono ?_; rintro e w6 ⟨rfl, hu6⟩))
    all_goals
      have HU6 := Lib.hid ((HU.out.drew.trans hu5).trans hu6)
      clear hu5 hu6
      go_wp2_with fail
      refine Handed.intro (l.length - (j + 1)) ?_ ?_
      · have := Hm.out; omega
      go_step
      refine FR.intro (by rfl) ?_
      exact ⟨j + 1, rfl, ⟨rfl, rfl, rfl, by simp only [slotOf]; congr 1⟩, hlt, HU6.out⟩
end Go.Proofs.YtggdcpmampjncaaGreatDoor
namespace Go.Proofs.YtggdcpmampjncaaGreatDoor
open Go.RowKit

theorem lit57 (g : Nat → Value) : ((List.range 57).map g).toArray = #[g 0, g 1, g 2, g 3, g 4, g 5, g 6, g 7, g 8, g 9, g 10, g 11, g 12, g 13, g 14, g 15, g 16, g 17, g 18, g 19, g 20, g 21, g 22, g 23, g 24, g 25, g 26, g 27, g 28, g 29, g 30, g 31, g 32, g 33, g 34, g 35, g 36, g 37, g 38, g 39, g 40, g 41, g 42, g 43, g 44, g 45, g 46, g 47, g 48, g 49, g 50, g 51, g 52, g 53, g 54, g 55, g 56] := by kernel_rfl
theorem lit89 (g : Nat → Value) : ((List.range 89).map g).toArray = #[g 0, g 1, g 2, g 3, g 4, g 5, g 6, g 7, g 8, g 9, g 10, g 11, g 12, g 13, g 14, g 15, g 16, g 17, g 18, g 19, g 20, g 21, g 22, g 23, g 24, g 25, g 26, g 27, g 28, g 29, g 30, g 31, g 32, g 33, g 34, g 35, g 36, g 37, g 38, g 39, g 40, g 41, g 42, g 43, g 44, g 45, g 46, g 47, g 48, g 49, g 50, g 51, g 52, g 53, g 54, g 55, g 56, g 57, g 58, g 59, g 60, g 61, g 62, g 63, g 64, g 65, g 66, g 67, g 68, g 69, g 70, g 71, g 72, g 73, g 74, g 75, g 76, g 77, g 78, g 79, g 80, g 81, g 82, g 83, g 84, g 85, g 86, g 87, g 88] := by kernel_rfl
theorem lit48 (g : Nat → Value) : ((List.range 48).map g).toArray = #[g 0, g 1, g 2, g 3, g 4, g 5, g 6, g 7, g 8, g 9, g 10, g 11, g 12, g 13, g 14, g 15, g 16, g 17, g 18, g 19, g 20, g 21, g 22, g 23, g 24, g 25, g 26, g 27, g 28, g 29, g 30, g 31, g 32, g 33, g 34, g 35, g 36, g 37, g 38, g 39, g 40, g 41, g 42, g 43, g 44, g 45, g 46, g 47] := by kernel_rfl
theorem lit94 (g : Nat → Value) : ((List.range 94).map g).toArray = #[g 0, g 1, g 2, g 3, g 4, g 5, g 6, g 7, g 8, g 9, g 10, g 11, g 12, g 13, g 14, g 15, g 16, g 17, g 18, g 19, g 20, g 21, g 22, g 23, g 24, g 25, g 26, g 27, g 28, g 29, g 30, g 31, g 32, g 33, g 34, g 35, g 36, g 37, g 38, g 39, g 40, g 41, g 42, g 43, g 44, g 45, g 46, g 47, g 48, g 49, g 50, g 51, g 52, g 53, g 54, g 55, g 56, g 57, g 58, g 59, g 60, g 61, g 62, g 63, g 64, g 65, g 66, g 67, g 68, g 69, g 70, g 71, g 72, g 73, g 74, g 75, g 76, g 77, g 78, g 79, g 80, g 81, g 82, g 83, g 84, g 85, g 86, g 87, g 88, g 89, g 90, g 91, g 92, g 93] := by kernel_rfl
/-- A text's bytes lie in a block. -/
def BV (s : ByteArray) (g : Nat) (w : World) : Prop := ∀ k, k < s.size → w.cell? ⟨g, k, none⟩ = some (.int .u8 (bAt s k : Int))
theorem bl_four {c : Nat} (h : isBl c = true) : c = 32 ∨ c = 9 ∨ c = 10 ∨ c = 13 := by
  simp only [isBl, Bool.or_eq_true, beq_iff_eq] at h
  omega

set_option maxHeartbeats 4000000 in
set_option maxRecDepth 8000 in
theorem varr_any (s : ByteArray) (g0 cp i c : Nat) (w : World) (hs : s.size ≤ 1048576) (hcp : s.size ≤ cp) (hbv : BV s g0 w) (hic : i ≤ c) (hc : c < s.size) (hbl : ∀ k, i ≤ k → k < c → isBl (bAt s k) = true) (hcl : bAt s c = 93) :
    Calls Tryz.prog 79 #[.slice (some ⟨g0, 0, none⟩) s.size cp, .int .i64 (i : Int)] w fun e w' => e = .returned (.tuple #[.int .i64 ((c : Int) + 1), .bool true]) ∧ w' = w := by
  have HB := Lib.hid hbv; clear hbv
  have HBl := Lib.hid hbl; clear hbl
  go_enter Tryz.func79, Tryz.ntmps79
  go_wp2_with fail
  refine wp_loop_ghost_k (fun mm => FR 57 (fun g wx => ∃ k : Nat, mm = c - k ∧ (g 0 = .slice (some ⟨g0, 0, none⟩) s.size cp ∧ g 1 = .int .i64 (k : Int)) ∧ i ≤ k ∧ k ≤ c ∧ wx = w)) (c - i) ?atStart ?round
  case atStart =>
    refine FR.intro (by rfl) ?_
    exact ⟨i, rfl, ⟨rfl, rfl⟩, Nat.le_refl _, hic, rfl⟩
  case round =>
    intro gk
    refine FR.rest ?_
    rintro g wx ⟨k, hm, ⟨e0, e1⟩, hk1, hk2, rfl⟩
    rw [lit57]
    simp only [e0, e1]
    clear e0 e1
    intro J2 K2 hJ2 hK2
    have Hm := Lib.hid hm; clear hm
    have hcell := HB.out k (by omega)
    have hkz : (k : Int) < (s.size : Int) := by omega
    have hcz : (s.size : Int) ≤ (cp : Int) := by omega
    have hk0 : (0 : Int) ≤ (k : Int) := by omega
    by_cases hx : k < c
    · rcases bl_four (HBl.out k hk1 hx) with h | h | h | h
      all_goals
        rw [h] at hcell
        clear h
        as_aux_lemma =>
          go_wp2_with fail
          refine Handed.intro (c - (k + 1)) ?_ ?_
          · have := Hm.out; omega
          go_step
          refine FR.intro (by rfl) ?_
          exact ⟨k + 1, rfl, ⟨rfl, by simp only [slotOf]; congr 1⟩, by omega, by omega, rfl⟩
    obtain rfl : k = c := by omega
    rw [hcl] at hcell
    go_wp2_with fail
    refine bodyPost_ret (v := .tuple #[.int .i64 ((k : Int) + 1), .bool true]) (by simp [results, Tryz.results79, go_sem]) rfl ?_
    exact ⟨rfl, rfl⟩

set_option maxHeartbeats 4000000 in
set_option maxRecDepth 8000 in
theorem vobj_any (s : ByteArray) (g0 cp i c : Nat) (w : World) (hs : s.size ≤ 1048576) (hcp : s.size ≤ cp) (hbv : BV s g0 w) (hic : i ≤ c) (hc : c < s.size) (hbl : ∀ k, i ≤ k → k < c → isBl (bAt s k) = true) (hcl : bAt s c = 125) :
    Calls Tryz.prog 78 #[.slice (some ⟨g0, 0, none⟩) s.size cp, .int .i64 (i : Int)] w fun e w' => e = .returned (.tuple #[.int .i64 ((c : Int) + 1), .bool true]) ∧ w' = w := by
  have HB := Lib.hid hbv; clear hbv
  have HBl := Lib.hid hbl; clear hbl
  go_enter Tryz.func78, Tryz.ntmps78
  go_wp2_with fail
  refine wp_loop_ghost_k (fun mm => FR 94 (fun g wx => ∃ k : Nat, mm = c - k ∧ (g 0 = .slice (some ⟨g0, 0, none⟩) s.size cp ∧ g 1 = .int .i64 (k : Int)) ∧ i ≤ k ∧ k ≤ c ∧ wx = w)) (c - i) ?atStart ?round
  case atStart =>
    refine FR.intro (by rfl) ?_
    exact ⟨i, rfl, ⟨rfl, rfl⟩, Nat.le_refl _, hic, rfl⟩
  case round =>
    intro gk
    refine FR.rest ?_
    rintro g wx ⟨k, hm, ⟨e0, e1⟩, hk1, hk2, rfl⟩
    rw [lit94]
    simp only [e0, e1]
    clear e0 e1
    intro J2 K2 hJ2 hK2
    have Hm := Lib.hid hm; clear hm
    have hcell := HB.out k (by omega)
    have hkz : (k : Int) < (s.size : Int) := by omega
    have hcz : (s.size : Int) ≤ (cp : Int) := by omega
    have hk0 : (0 : Int) ≤ (k : Int) := by omega
    by_cases hx : k < c
    · rcases bl_four (HBl.out k hk1 hx) with h | h | h | h
      all_goals
        rw [h] at hcell
        clear h
        as_aux_lemma =>
          go_wp2_with fail
          refine Handed.intro (c - (k + 1)) ?_ ?_
          · have := Hm.out; omega
          go_step
          refine FR.intro (by rfl) ?_
          exact ⟨k + 1, rfl, ⟨rfl, by simp only [slotOf]; congr 1⟩, by omega, by omega, rfl⟩
    obtain rfl : k = c := by omega
    rw [hcl] at hcell
    go_wp2_with fail
    refine bodyPost_ret (v := .tuple #[.int .i64 ((k : Int) + 1), .bool true]) (by simp [results, Tryz.results78, go_sem]) rfl ?_
    exact ⟨rfl, rfl⟩

set_option maxHeartbeats 4000000 in
set_option maxRecDepth 8000 in
theorem vany_arr (s : ByteArray) (g0 cp i c : Nat) (w : World) (hs : s.size ≤ 1048576) (hcp : s.size ≤ cp) (hbv : BV s g0 w) (hi : bAt s i = 91) (hic : i + 1 ≤ c) (hc : c < s.size) (hbl : ∀ k, i + 1 ≤ k → k < c → isBl (bAt s k) = true) (hcl : bAt s c = 93) :
    Calls Tryz.prog 68 #[.slice (some ⟨g0, 0, none⟩) s.size cp, .int .i64 (i : Int)] w fun e w' => e = .returned (.tuple #[.int .i64 ((c : Int) + 1), .bool true]) ∧ w' = w := by
  have hcell := hbv i (by omega)
  rw [hi] at hcell
  have hcn := varr_any s g0 cp (i + 1) c w hs hcp hbv hic hc hbl hcl
  rw [show ((i + 1 : Nat) : Int) = (i : Int) + 1 from rfl] at hcn
  have HC := Lib.hid hcn; clear hcn
  clear hbv hbl
  have hkz : (i : Int) < (s.size : Int) := by omega
  have hcz : (s.size : Int) ≤ (cp : Int) := by omega
  have hk0 : (0 : Int) ≤ (i : Int) := by omega
  go_enter Tryz.func68, Tryz.ntmps68
  go_wp2_with fail
  refine wp_loop_ghost_k (fun mm => FR 89 (fun g wx => mm = 0 ∧ (g 0 = .slice (some ⟨g0, 0, none⟩) s.size cp ∧ g 1 = .int .i64 (i : Int)) ∧ wx = w)) 0 ?atStart ?round
  case atStart =>
    refine FR.intro (by rfl) ?_
    exact ⟨rfl, ⟨rfl, rfl⟩, rfl⟩
  case round =>
    intro gk
    refine FR.rest ?_
    rintro g wx ⟨hm, ⟨e0, e1⟩, rfl⟩
    rw [lit89]
    simp only [e0, e1]
    clear e0 e1 hm
    intro J2 K2 hJ2 hK2
    go_wp2_with fail
    refine HC.out.mono ?_
    rintro e w2 ⟨rfl, rfl⟩
    go_wp2_with fail
    refine bodyPost_ret (v := .tuple #[.int .i64 ((c : Int) + 1), .bool true]) (by simp [results, Tryz.results68, go_sem]) rfl ?_
    exact ⟨rfl, rfl⟩

set_option maxHeartbeats 4000000 in
set_option maxRecDepth 8000 in
theorem vany_obj (s : ByteArray) (g0 cp i c : Nat) (w : World) (hs : s.size ≤ 1048576) (hcp : s.size ≤ cp) (hbv : BV s g0 w) (hi : bAt s i = 123) (hic : i + 1 ≤ c) (hc : c < s.size) (hbl : ∀ k, i + 1 ≤ k → k < c → isBl (bAt s k) = true) (hcl : bAt s c = 125) :
    Calls Tryz.prog 68 #[.slice (some ⟨g0, 0, none⟩) s.size cp, .int .i64 (i : Int)] w fun e w' => e = .returned (.tuple #[.int .i64 ((c : Int) + 1), .bool true]) ∧ w' = w := by
  have hcell := hbv i (by omega)
  rw [hi] at hcell
  have hcn := vobj_any s g0 cp (i + 1) c w hs hcp hbv hic hc hbl hcl
  rw [show ((i + 1 : Nat) : Int) = (i : Int) + 1 from rfl] at hcn
  have HC := Lib.hid hcn; clear hcn
  clear hbv hbl
  have hkz : (i : Int) < (s.size : Int) := by omega
  have hcz : (s.size : Int) ≤ (cp : Int) := by omega
  have hk0 : (0 : Int) ≤ (i : Int) := by omega
  go_enter Tryz.func68, Tryz.ntmps68
  go_wp2_with fail
  refine wp_loop_ghost_k (fun mm => FR 89 (fun g wx => mm = 0 ∧ (g 0 = .slice (some ⟨g0, 0, none⟩) s.size cp ∧ g 1 = .int .i64 (i : Int)) ∧ wx = w)) 0 ?atStart ?round
  case atStart =>
    refine FR.intro (by rfl) ?_
    exact ⟨rfl, ⟨rfl, rfl⟩, rfl⟩
  case round =>
    intro gk
    refine FR.rest ?_
    rintro g wx ⟨hm, ⟨e0, e1⟩, rfl⟩
    rw [lit89]
    simp only [e0, e1]
    clear e0 e1 hm
    intro J2 K2 hJ2 hK2
    go_wp2_with fail
    refine HC.out.mono ?_
    rintro e w2 ⟨rfl, rfl⟩
    go_wp2_with fail
    refine bodyPost_ret (v := .tuple #[.int .i64 ((c : Int) + 1), .bool true]) (by simp [results, Tryz.results68, go_sem]) rfl ?_
    exact ⟨rfl, rfl⟩

set_option maxHeartbeats 4000000 in
set_option maxRecDepth 8000 in
theorem vpay_any (s : ByteArray) (g0 cp i e : Nat) (w : World) (hs : s.size ≤ 1048576) (hcp : s.size ≤ cp) (hbv : BV s g0 w) (hi : i < s.size) (he : e ≤ s.size) (hbl : ∀ k, k < i → isBl (bAt s k) = true) (hbe : ∀ k, e ≤ k → k < s.size → isBl (bAt s k) = true) (hx : bAt s i = 91 ∨ bAt s i = 123)
    (hV : Calls Tryz.prog 68 #[.slice (some ⟨g0, 0, none⟩) s.size cp, .int .i64 (i : Int)] w fun r w' => r = .returned (.tuple #[.int .i64 (e : Int), .bool true]) ∧ w' = w) :
    Calls Tryz.prog 56 #[.slice (some ⟨g0, 0, none⟩) s.size cp, .int .i64 0] w fun r w' => r = .returned (.tuple #[.int .i64 (s.size : Int), .bool true]) ∧ w' = w := by
  have HB := Lib.hid hbv; clear hbv
  have HBl := Lib.hid hbl; clear hbl
  have HBe := Lib.hid hbe; clear hbe
  have HV := Lib.hid hV; clear hV
  go_enter Tryz.func56, Tryz.ntmps56
  go_wp2_with fail
  refine wp_loop_ghost_k (fun mm => FR 48 (fun g wx => ∃ k : Nat, mm = i - k ∧ (g 0 = .slice (some ⟨g0, 0, none⟩) s.size cp ∧ g 1 = .int .i64 (k : Int)) ∧ k ≤ i ∧ wx = w)) i ?atStart ?round
  case atStart =>
    refine FR.intro (by rfl) ?_
    exact ⟨0, rfl, ⟨rfl, rfl⟩, Nat.zero_le _, rfl⟩
  case round =>
    intro gk
    refine FR.rest ?_
    rintro g wx ⟨k, hm, ⟨e0, e1⟩, hk2, rfl⟩
    rw [lit48]
    simp only [e0, e1]
    clear e0 e1
    intro J2 K2 hJ2 hK2
    have Hm := Lib.hid hm; clear hm
    have hcell := HB.out k (by omega)
    have hkz : (k : Int) < (s.size : Int) := by omega
    have hcz : (s.size : Int) ≤ (cp : Int) := by omega
    have hk0 : (0 : Int) ≤ (k : Int) := by omega
    by_cases hlt : k < i
    · rcases bl_four (HBl.out k hlt) with h | h | h | h
      all_goals
        rw [h] at hcell
        clear h
        as_aux_lemma =>
          go_wp2_with fail
          refine Handed.intro (i - (k + 1)) ?_ ?_
          · have := Hm.out; omega
          go_step
          refine FR.intro (by rfl) ?_
          exact ⟨k + 1, rfl, ⟨rfl, by simp only [slotOf]; congr 1⟩, by omega, rfl⟩
    obtain rfl : k = i := by omega
    rcases hx with hx | hx
    all_goals
      rw [hx] at hcell
      clear hx
      go_wp2_with fail
      refine HV.out.mono ?_
      rintro r w2 ⟨rfl, rfl⟩
      clear hcell
      go_wp2_with fail
      refine wp_loop_ghost_k (fun mm => FR 48 (fun g wx => ∃ k : Nat, mm = s.size - k ∧ (g 0 = .slice (some ⟨g0, 0, none⟩) s.size cp ∧ g 1 = .int .i64 (k : Int)) ∧ e ≤ k ∧ k ≤ s.size ∧ wx = w2)) (s.size - e) ?atStart2 ?round2
      case atStart2 =>
        refine FR.intro (by rfl) ?_
        exact ⟨e, rfl, ⟨rfl, rfl⟩, Nat.le_refl _, he, rfl⟩
      case round2 =>
        clear hkz hk0
        intro gk2
        refine FR.rest ?_
        rintro g wx ⟨x, hm2, ⟨e0, e1⟩, hx1, hx2, rfl⟩
        rw [lit48]
        simp only [e0, e1]
        clear e0 e1
        intro J3 K3 hJ3 hK3
        have Hm2 := Lib.hid hm2; clear hm2
        by_cases hlx : x < s.size
        · have hcell := HB.out x hlx
          have hkz : (x : Int) < (s.size : Int) := by omega
          have hk0 : (0 : Int) ≤ (x : Int) := by omega
          rcases bl_four (HBe.out x hx1 hlx) with h | h | h | h
          all_goals
            rw [h] at hcell
            clear h
            as_aux_lemma =>
              go_wp2_with fail
              refine Handed.intro (s.size - (x + 1)) ?_ ?_
              · have := Hm2.out; omega
              go_step
              refine FR.intro (by rfl) ?_
              exact ⟨x + 1, rfl, ⟨rfl, by simp only [slotOf]; congr 1⟩, by omega, by omega, rfl⟩
        obtain rfl : x = s.size := by omega
        have hkz : ¬ (s.size : Int) < (s.size : Int) := by omega
        go_wp2_with fail
        refine bodyPost_ret (v := .tuple #[.int .i64 (s.size : Int), .bool true]) (by simp [results, Tryz.results56, go_sem]) rfl ?_
        exact ⟨rfl, rfl⟩

/-- Valid of an empty array or object. -/
theorem hollow {s : ByteArray} {p : Pl} (h : PText s p) (hk : 5 ≤ p.kind) (hn : p.kids = []) : ∃ c, p.b + 1 ≤ c ∧ c < s.size ∧ p.e = c + 1 ∧ (∀ k, p.b + 1 ≤ k → k < c → isBl (bAt s k) = true) ∧ ((bAt s p.b = 91 ∧ bAt s c = 93) ∨ (bAt s p.b = 123 ∧ bAt s c = 125)) := by
  obtain ⟨a, _, _, h3, _, _⟩ := h
  obtain ⟨k, b, e, ns, ks⟩ := p
  simp only [PVal] at h3
  simp only [Pl.b, Pl.e, Pl.kind, Pl.kids] at *
  subst hn
  rcases h3 with ⟨rfl, _⟩ | ⟨rfl, _⟩ | ⟨rfl, _⟩ | ⟨rfl, _⟩ | ⟨rfl, _⟩ | ⟨rfl, h1, h2, rfl, c, h3, h4⟩ | ⟨rfl, h1, h2, c, h3, h4⟩
  all_goals first | (exfalso; omega) | skip
  · rcases h4 with ⟨_, h4, h5, rfl⟩ | h4
    · exact ⟨c, h3.1, h4, rfl, h3.2.2, .inl ⟨h2, h5⟩⟩
    · simp only [PEls] at h4
  · rcases h4 with ⟨_, _, h4, h5, rfl⟩ | h4
    · exact ⟨c, h3.1, h4, rfl, h3.2.2, .inr ⟨h2, h5⟩⟩
    · simp only [PMems] at h4

set_option maxHeartbeats 4000000 in
set_option maxRecDepth 4000 in
theorem GjValid_any (s : ByteArray) (p : Pl) (w : World) (hs : s.size ≤ 1048576) (hp : PText s p) (hk : 5 ≤ p.kind) (hn : p.kids = []) :
    Calls Tryz.prog 14 #[.string s] w fun e w' => e = .returned (.bool true) ∧ Upd NoB w w' := by
  obtain ⟨c, h1, h2, h3, h4, h5⟩ := hollow hp hk hn
  obtain ⟨a, b1, b2, _, b4, b5⟩ := hp
  have hcv := Lib.run_convert_string_bytes (P := Tryz.prog) w 9 91 5 s Tryz.underlying9 Tryz.underlying91 Tryz.underlying5
  have hcell : BV s w.heap.size (Lib.bytesWorld w 5 s) := fun j hj => by
    rw [Lib.bytesWorld_cell w _ s j hj, bAt_eq hj]
    congr 3
    have : j < s.data.toList.length := by simpa using hj
    rw [List.getD_eq_getElem?_getD, List.getElem?_eq_getElem this]
    rfl
  have hup : Upd NoB w (Lib.bytesWorld w 5 s) := ⟨rfl, rfl, rfl, by rw [Lib.bytesWorld_size]; omega, fun k hk _ => Lib.bytesWorld_at_old w _ s k hk⟩
  have hcap : s.size ≤ grownCap w s.size 0 5 := by
    exact grownCap_ge _ _ _ _
  generalize Lib.bytesWorld w 5 s = wB at *
  generalize grownCap w s.size 0 5 = cp at *
  have hV : Calls Tryz.prog 68 #[.slice (some ⟨w.heap.size, 0, none⟩) s.size cp, .int .i64 (p.b : Int)] wB fun r w' => r = .returned (.tuple #[.int .i64 (p.e : Int), .bool true]) ∧ w' = wB := by
    rw [h3, show ((c + 1 : Nat) : Int) = (c : Int) + 1 from rfl]
    rcases h5 with ⟨g1, g2⟩ | ⟨g1, g2⟩
    · exact vany_arr s w.heap.size cp p.b c wB hs hcap hcell g1 h1 h2 h4 g2
    · exact vany_obj s w.heap.size cp p.b c wB hs hcap hcell g1 h1 h2 h4 g2
  have HP := Lib.hid (vpay_any s w.heap.size cp p.b p.e wB hs hcap hcell (by omega) b4 (fun k hk => b1.2.2 k (Nat.zero_le _) (by omega)) (fun k g1 g2 => b5.2.2 k g1 g2) (by rcases h5 with h | h; exact .inl h.1; exact .inr h.1) hV)
  have HU := Lib.hid hup
  clear hV hcell hup h1 h2 h3 h4 h5 b1 b2 b4 b5 hcap
  have HS : Hid (Calls Tryz.prog 57 #[.string s] w fun e w' => e = .returned (.slice (some ⟨w.heap.size, 0, none⟩) s.size cp) ∧ w' = wB) := Lib.hid (by
    go_enter Tryz.func57, Tryz.ntmps57
    go_wp2_with fail
    go_ret
    exact ⟨rfl, rfl⟩)
  have HVd : Hid (Calls Tryz.prog 32 #[.string s] w fun e w' => e = .returned (.bool true) ∧ w' = wB) := Lib.hid (by
    go_enter Tryz.func32, Tryz.ntmps32
    go_wp2_with fail
    refine HS.out.mono ?_
    rintro e w1 ⟨rfl, rfl⟩
    go_wp2_with fail
    refine HP.out.mono ?_
    rintro e w2 ⟨rfl, rfl⟩
    go_wp2_with fail
    go_ret
    exact ⟨rfl, rfl⟩)
  go_enter Tryz.func14, Tryz.ntmps14
  go_wp2_with fail
  refine HVd.out.mono ?_
  rintro e w1 ⟨rfl, rfl⟩
  go_wp2_with fail
  go_ret
  exact ⟨rfl, HU.out⟩
end Go.Proofs.YtggdcpmampjncaaGreatDoor
