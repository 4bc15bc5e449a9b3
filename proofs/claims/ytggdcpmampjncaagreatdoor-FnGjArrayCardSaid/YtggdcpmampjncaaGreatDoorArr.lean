/- GjParse and GjResultArray of a JSON text; FnGjArray returns true. -/
import Derived.Test.YtggdcpmampjncaaGreatDoorPs
import Derived.Test.YtggdcpmampjncaaGreatDoorIs
import Derived.Laws.OwnMore
namespace Go.Proofs.YtggdcpmampjncaaGreatDoor
open Go.RowKit

set_option maxHeartbeats 4000000 in
theorem GjParse_any (lo : Nat) (s : ByteArray) (p : Pl) (n : Nd) (w : World) (hs : s.size ≤ 1048576) (hp : PText s p) (hn : TreeR s p n) (hT : Tabs lo w) (hlo : lo ≤ w.heap.size) :
    Calls Tryz.prog 10 #[.string s] w fun e w' => ∃ r : Rs, e = .returned (.agg #[.int .i64 (r.ty : Int), .string r.raw, .string r.st, .float .f64 r.f, .bool true]) ∧ Top r n ∧ Upd NoB w w' := by
  have HPs := Lib.hid (fun wx hT hl => Parse_any lo s p n wx hs hp hn hT hl)
  have HT := Lib.hid hT
  clear hT hp hn
  go_enter Tryz.func10, Tryz.ntmps10
  go_wp2_with fail
  refine (HPs.out _ (HT.out.upd ((Upd.refl NoB w).alloc _) (fun _ h => h.elim)) (by simp; omega)).mono ?_
  rintro e w1 ⟨r, rfl, htop, hu1⟩
  have HTop := Lib.hid htop; clear htop
  have HU1 := Lib.hid hu1; clear hu1
  go_wp2_with fail
  refine (gj_any r w1 HTop.out.1.size).mono ?_
  rintro e w2 ⟨rfl, hu2⟩
  have hb := (HU1.out.trans hu2).blk (heap_alloc_new w _) (fun h => h)
  obtain ⟨⟨c0, c1, c2, c3, c4⟩, q0, q1, q2, q3, q4⟩ := cells5 hb
  have HU2 := Lib.hid (((Upd.refl NoB w).alloc _).trans (HU1.out.trans hu2))
  clear hu2 hb
  have hfl := fl_store
  go_wp2_with fail
  refine bodyPost_ret (v := .agg #[.int .i64 (r.ty : Int), .string r.raw, .string r.st, .float .f64 r.f, .bool true]) (by simp [results, Tryz.results10, go_sem, c0, c1, c2, c3, c4]) rfl ?_
  have U : Upd (OneB w.heap.size) w2 (((((w2.setCell ⟨w.heap.size, 0, none⟩ (.int .i64 (r.ty : Int))).setCell ⟨w.heap.size, 1, none⟩ (.string r.raw)).setCell ⟨w.heap.size, 2, none⟩ (.string r.st)).setCell ⟨w.heap.size, 3, none⟩ (.float .f64 r.f)).setCell ⟨w.heap.size, 4, none⟩ (.bool true)) :=
    (((((Upd.refl _ _).setOne 0 _).setOne 1 _).setOne 2 _).setOne 3 _).setOne 4 _
  exact ⟨r, rfl, HTop.out, HU2.out.then U (fun b hb => .inr (Nat.le_of_eq hb.symm))⟩

set_option maxHeartbeats 1000000 in
theorem gjOf_gen (r : Rs) (w : World) :
    Calls Tryz.prog 21 #[.agg #[.int .i64 (r.ty : Int), .string r.raw, .string r.st, .float .f64 r.f, .bool true]] w fun e w' => e = .returned (.agg #[.int .i64 (r.ty : Int), .string r.raw, .string r.st, .float .f64 r.f, .int .i64 0, .slice none 0 0]) ∧ Upd NoB w w' := by
  have hfl := fl_store
  go_enter Tryz.func21, Tryz.ntmps21
  go_wp2_with fail
  have hb := cells6 (heap_alloc_new (w.alloc (.cells #[.int .i64 (r.ty : Int), .string r.raw, .string r.st, .float .f64 r.f, .bool true] 38)) (.cells #[.int .i64 (r.ty : Int), .string r.raw, .string r.st, .float .f64 r.f, .int .i64 0, .slice none 0 0] 57))
  rw [World.size_alloc] at hb
  obtain ⟨⟨r0, r1, r2, r3, r4, r5⟩, _⟩ := hb
  refine bodyPost_ret (v := .agg #[.int .i64 (r.ty : Int), .string r.raw, .string r.st, .float .f64 r.f, .int .i64 0, .slice none 0 0]) (by simp [results, Tryz.results21, go_sem, r0, r1, r2, r3, r4, r5]) rfl ?_
  exact ⟨rfl, ((Upd.refl NoB w).alloc _).alloc _⟩

set_option maxHeartbeats 1000000 in
theorem IsArray_no (r : Rs) (w : World) (hz : 0 < r.raw.size) (h : r.ty = 5 → bAt r.raw 0 ≠ 91) :
    Calls Tryz.prog 45 #[.agg #[.int .i64 (r.ty : Int), .string r.raw, .string r.st, .float .f64 r.f, .int .i64 0, .slice none 0 0]] w fun e w' => e = .returned (.bool false) ∧ Upd NoB w w' := by
  have hB := get_bAt r.raw
  have hz' : (0 : Int) < (r.raw.size : Int) := by omega
  by_cases h5 : r.ty = 5
  · have e5 : ((r.ty : Int) == 5) = true := by rw [h5]; rfl
    have e91 : ((bAt r.raw 0 : Int) == 91) = false := by have := h h5; simp; omega
    clear h h5
    go_enter Tryz.func45, Tryz.ntmps45
    go_wp2_with fail
    go_ret
    exact ⟨rfl, (Upd.refl NoB w).alloc _⟩
  · have e5 : ((r.ty : Int) == 5) = false := by simp; omega
    clear h h5
    go_enter Tryz.func45, Tryz.ntmps45
    go_wp2_with fail
    go_ret
    exact ⟨rfl, (Upd.refl NoB w).alloc _⟩

/-- The elements that Array gives. -/
def want (n : Nd) : List Nd := if n.kind = 0 then [] else if n.kind = 5 then n.kids else [n]
theorem kindOf_zero {k : Nat} (hk : k ≤ 6) (h : kindOf k = 0) : k = 0 := by
  obtain rfl | rfl | rfl | rfl | rfl | rfl | rfl : k = 0 ∨ k = 1 ∨ k = 2 ∨ k = 3 ∨ k = 4 ∨ k = 5 ∨ k = 6 := by omega
  all_goals first | rfl | (exfalso; revert h; decide)
theorem kindOf_five {k : Nat} (hk : k ≤ 6) (h : kindOf k = 5) : k = 5 ∨ k = 6 := by
  obtain rfl | rfl | rfl | rfl | rfl | rfl | rfl : k = 0 ∨ k = 1 ∨ k = 2 ∨ k = 3 ∨ k = 4 ∨ k = 5 ∨ k = 6 := by omega
  all_goals first | omega | (exfalso; revert h; decide)
theorem IsV.kind {r : Rs} {n : Nd} (h : IsV r n) : n.kind ≤ 6 := by
  obtain ⟨_, _, ⟨q, ⟨_, _, _, h3, _⟩, h2⟩, _⟩ := h
  rw [h2.kind]
  exact PVal.kind_le h3
theorem Top.arr {r : Rs} {n : Nd} (h : Top r n) (hk : n.kind = 5) : ∃ q, PText r.raw q ∧ TreeR r.raw q n ∧ PVal r.raw q ∧ q.kind = 5 ∧ NE r.raw 1 q.kids ∧ Strs r.raw q.kids := by
  obtain ⟨⟨_, _, ⟨q, hq1, hq2⟩, _⟩, _, h91, _⟩ := h
  have h0 := h91 hk
  obtain ⟨a, h1, h2, h3, h4, h5⟩ := id hq1
  have hqk : q.kind = 5 := by rw [← hq2.kind]; exact hk
  have hlt := PVal.lt q h3
  have hb : q.b = 0 := by
    by_cases hb : q.b = 0
    · exact hb
    · have := h1.2.2 0 (by omega) (by omega)
      simp only [isBl, Bool.or_eq_true, beq_iff_eq] at this
      omega
  have hne := NE.start h3 hqk
  rw [hb] at hne
  exact ⟨q, hq1, hq2, h3, hqk, hne, Strs.of_trees _ _ hq2.kids⟩

/-- What Array returns on a value. -/
def ATop (n : Nd) (w : World) (e : Ending) (w' : World) : Prop := ∃ v l, e = .returned v ∧ AllV l (want n) ∧ RowR w.heap.size w' v l ∧ Upd NoB w w'
set_option maxHeartbeats 4000000 in
theorem Array_top (lo : Nat) (r : Rs) (n : Nd) (w : World) (h : Top r n) (hT : Tabs lo w) (hlo : lo ≤ w.heap.size) :
    Calls Tryz.prog 22 #[.agg #[.int .i64 (r.ty : Int), .string r.raw, .string r.st, .float .f64 r.f, .int .i64 0, .slice none 0 0]] w (ATop n w) := by
  by_cases hk : n.kind = 5
  · obtain ⟨q, hq1, hq2, hq3, hq4, hne, hst⟩ := h.arr hk
    obtain ⟨hv, h5, h91, _⟩ := h
    have hty : r.ty = 5 := by rw [hv.1, hk]; rfl
    obtain ⟨e1, e2⟩ := h5 hty
    have hz := hv.size
    have h0 := h91 hk
    have hsz := hv.2.1
    obtain ⟨ty, raw, st, f, ix⟩ := r
    dsimp only at *
    subst hty e1 e2
    refine (Array_any lo raw q.kids w hsz h0 hz hne hst hT hlo).mono ?_
    rintro e w' ⟨v, l, rfl, h1, h2, h3⟩
    refine ⟨v, l, rfl, ?_, h2, h3⟩
    rw [want, if_neg (by omega), if_pos hk]
    exact AllV.of hsz q.kids l n.kids h1 hq2.kids (PVal.kids hq3 hq4).1
  have HV := Lib.hid h.1
  by_cases h0 : n.kind = 0
  · have e0 : ((r.ty : Int) == 0) = true := by rw [h.1.1, h0]; rfl
    have hw : want n = [] := by rw [want, if_pos h0]
    have HW := Lib.hid hw
    clear hw h hk h0 hT
    go_enter Tryz.func22, Tryz.ntmps22
    go_wp2_with fail
    go_ret
    refine ⟨.slice (some ⟨w.heap.size + 1, 0, none⟩) 0 0, [], rfl, by rw [HW.out]; simp only [AllV], ?_, ((Upd.refl NoB w).alloc _).alloc _⟩
    have := World.ownsRow_lit (base := 0) (size := 6) (e := 57) (w.alloc (.cells #[.int .i64 (r.ty : Int), .string r.raw, .string r.st, .float .f64 r.f, .int .i64 0, .slice none 0 0] 57)) #[] 0 (Nat.zero_le _) (Nat.zero_le _) rfl
    rw [World.size_alloc] at this
    exact ⟨this, fun b hb => by simp [Value.ownBlock] at hb; omega⟩
  have e0 : ((r.ty : Int) == 0) = false := by
    have : r.ty ≠ 0 := fun e => h0 (kindOf_zero h.1.kind (by rw [← h.1.1]; exact e))
    simp; omega
  have hna : r.ty = 5 → bAt r.raw 0 ≠ 91 := fun e => by
    have := kindOf_five h.1.kind (by rw [← h.1.1]; exact e)
    have := h.2.2.2 (by omega)
    omega
  have HI := Lib.hid (fun wx => IsArray_no r wx h.1.size hna)
  have hw : want n = [n] := by rw [want, if_neg h0, if_neg hk]
  have HW := Lib.hid hw
  clear hw h hk h0 hT hna
  go_enter Tryz.func22, Tryz.ntmps22
  go_wp2_with fail
  refine (HI.out _).mono ?_
  rintro e w1 ⟨rfl, hu1⟩
  have hb0 := cells6 (hu1.blk (heap_alloc_new w _) (fun h => h.elim))
  have HU1 := Lib.hid (((Upd.refl NoB w).alloc _).trans hu1)
  clear hu1
  obtain ⟨⟨p0, p1, p2, p3, p4, p5⟩, _⟩ := hb0
  go_wp2_with fail
  go_ret
  refine ⟨.slice (some ⟨w1.heap.size, 0, none⟩) 1 1, [⟨r.ty, r.raw, r.st, r.f, 0⟩], rfl, by rw [HW.out]; simp only [AllV]; exact ⟨_, [], rfl, HV.out, rfl⟩, ?_, HU1.out.alloc _⟩
  have := World.ownsRow_lit (base := 0) (size := 6) (e := 57) w1 #[.int .i64 (r.ty : Int), .string r.raw, .string r.st, .float .f64 r.f, .int .i64 0, .slice none 0 0] 1 (Nat.zero_le _) (by decide) rfl
  have hs1 := HU1.out.size
  exact ⟨this, fun b hb => by simp [Value.ownBlock] at hb; omega⟩

/-- What GjResultArray returns on a value. -/
def GTop (n : Nd) (w : World) (e : Ending) (w' : World) : Prop := ∃ v l, e = .returned v ∧ AllV l (want n) ∧ RowG w.heap.size w' v l ∧ Upd NoB w w'
theorem want_len {r : Rs} {n : Nd} (h : Top r n) : (want n).length ≤ 1048577 := by
  unfold want
  split
  · simp
  · split
    · rename_i h5
      obtain ⟨q, hq1, hq2, hq3, hq4, _, _⟩ := h.arr h5
      have h1 := (PVal.kids hq3 hq4).2
      have h2 := h.1.2.1
      have h3 : ∀ (ps : List Pl) (l : List Nd), TreesR r.raw ps l → l.length = ps.length := by
        intro ps
        induction ps with
        | nil => intro l h; simp only [TreesR] at h; rw [h]; rfl
        | cons p ps ih => intro l h; simp only [TreesR] at h; obtain ⟨n, rest, rfl, _, h2⟩ := h; simp [ih rest h2]
      rw [h3 _ _ hq2.kids]
      omega
    · simp
set_option maxHeartbeats 4000000 in
set_option maxRecDepth 4000 in
theorem GjResultArray_top (lo : Nat) (r : Rs) (n : Nd) (w : World) (h : Top r n) (hT : Tabs lo w) (hlo : lo ≤ w.heap.size) :
    Calls Tryz.prog 8 #[.agg #[.int .i64 (r.ty : Int), .string r.raw, .string r.st, .float .f64 r.f, .bool true]] w (GTop n w) := by
  have HO := Lib.hid (fun wx => gjOf_gen r wx)
  have HA := Lib.hid (fun wx (hT : Tabs lo wx) (hl : lo ≤ wx.heap.size) => Array_top lo r n wx h hT hl)
  have HT := Lib.hid hT
  have HL := Lib.hid (want_len h)
  clear hT h
  go_enter Tryz.func8, Tryz.ntmps8
  go_wp2_with fail
  refine (HO.out _).mono ?_
  rintro e w1 ⟨rfl, hu1⟩
  have HU1 := Lib.hid (((Upd.refl NoB w).alloc (.cells #[.int .i64 (r.ty : Int), .string r.raw, .string r.st, .float .f64 r.f, .bool true] 38)).trans hu1)
  clear hu1
  have HT1 := Lib.hid (HT.out.upd HU1.out (fun _ h => h.elim))
  have hs1 := HU1.out.size
  go_wp2_with fail
  refine (HA.out _ HT1.out (by omega)).mono ?_
  rintro e w2 ⟨v, l, rfl, h1, h2, h3⟩
  obtain ⟨va, vc, rfl⟩ := h2.len
  have H1 := Lib.hid h1
  have H2 := Lib.hid h2; clear h2
  have H3 := Lib.hid (HU1.out.trans h3); clear h3
  have HLL := Lib.hid (AllV.len _ _ h1)
  clear h1
  go_wp2_with fail
  refine (gjAll_any w1.heap.size l (.slice va l.length vc) w2 (by have := HLL.out; have := HL.out; omega) H2.out (AllV.raw _ _ H1.out)).mono ?_
  rintro e w3 ⟨v3, rfl, hr3, hu3⟩
  obtain ⟨va3, vc3, rfl⟩ := hr3.len
  have HR3 := Lib.hid hr3; clear hr3
  have HU3 := Lib.hid hu3; clear hu3
  go_wp2_with fail
  go_ret
  exact ⟨.slice va3 l.length vc3, l, rfl, H1.out, ⟨HR3.out.1, fun b hb => Nat.le_trans H3.out.size (HR3.out.2 b hb)⟩, H3.out.trans HU3.out⟩

theorem lit64 (g : Nat → Value) : ((List.range 64).map g).toArray = #[g 0, g 1, g 2, g 3, g 4, g 5, g 6, g 7, g 8, g 9, g 10, g 11, g 12, g 13, g 14, g 15, g 16, g 17, g 18, g 19, g 20, g 21, g 22, g 23, g 24, g 25, g 26, g 27, g 28, g 29, g 30, g 31, g 32, g 33, g 34, g 35, g 36, g 37, g 38, g 39, g 40, g 41, g 42, g 43, g 44, g 45, g 46, g 47, g 48, g 49, g 50, g 51, g 52, g 53, g 54, g 55, g 56, g 57, g 58, g 59, g 60, g 61, g 62, g 63] := by kernel_rfl
set_option maxHeartbeats 4000000 in
set_option maxRecDepth 8000 in
theorem array_any (lo : Nat) (s : ByteArray) (w : World) (hT : Tabs lo w) (hlo : lo ≤ w.heap.size) :
    Calls Tryz.prog 4 #[.string s] w (TrueRet w) := by
  have HT := Lib.hid hT; clear hT
  by_cases hbig : (2147483647 : Int) < (s.size : Int)
  · go_enter Tryz.func4, Tryz.ntmps4
    go_wp2_with fail
    go_ret
    exact ⟨rfl, Upd.refl _ _⟩
  have hs : s.size ≤ 2147483647 := by omega
  go_enter Tryz.func4, Tryz.ntmps4
  go_wp2_with fail
  refine (gjText_any s w (by omega)).mono ?_
  rintro e w1 ⟨b, n, yv, dv, rfl, hu1, hrd, hb⟩
  obtain ⟨ya, yc, da, dc, rfl, rfl⟩ := hrd.shape
  have HU1 := Lib.hid hu1; clear hu1
  have HRd := Lib.hid hrd; clear hrd
  cases b
  · clear hb
    go_wp2_with fail
    go_ret
    exact ⟨rfl, HU1.out.alloc _⟩
  obtain ⟨hs2, hpr, p, hpt, htr, hpb⟩ := hb rfl
  clear hb hpr hpb
  have HP := Lib.hid (fun wx (hT : Tabs lo wx) hl => GjParse_any lo s p n wx (by omega) hpt htr hT hl)
  clear hpt htr
  have hsz1 := HU1.out.size
  go_wp2_with fail
  refine (HP.out _ (HT.out.upd (HU1.out.alloc _) (fun _ h => h.elim)) (by simp; omega)).mono ?_
  rintro e w2 ⟨r, rfl, htop, hu2⟩
  have hsz2 := hu2.size
  rw [World.size_alloc] at hsz2
  have hb2 := hu2.blk (heap_alloc_new w1 _) (fun h => h)
  have HB2 := Lib.hid hb2
  have HU2 := Lib.hid ((HU1.out.alloc _).trans hu2)
  have HRd2 := Lib.hid (RdD.upd (((Upd.refl NoB w1).alloc _).trans hu2) (fun _ _ h => h) _ _ _ HRd.out)
  clear hb2 hu2
  have HTop := Lib.hid htop; clear htop
  go_wp2_with fail
  refine (GjResultArray_top lo r n w2 HTop.out (HT.out.upd HU2.out (fun _ h => h.elim)) (by omega)).mono ?_
  rintro e w3 ⟨v, l, rfl, hall, hrow, hu3⟩
  obtain ⟨va, vc, rfl⟩ := hrow.len
  have HAll := Lib.hid hall; clear hall
  have HRow := Lib.hid hrow; clear hrow
  have HRd3 := Lib.hid (RdD.upd hu3 (fun _ _ h => h) _ _ _ HRd2.out)
  have HB3 := Lib.hid (hu3.blk HB2.out (fun h => h))
  have HU3 := Lib.hid (HU2.out.trans hu3)
  clear hu3
  obtain ⟨⟨c0, c1, c2, c3⟩, _⟩ := four_cells HB3.out
  have HLL := Lib.hid (AllV.len _ _ HAll.out)
  by_cases h0 : n.kind = 0
  · have e0 : ((n.kind : Int) == 0) = true := by rw [h0]; rfl
    have hl0 : ((l.length : Int) == 0) = true := by have := HLL.out; rw [want, if_pos h0] at this; rw [this]; rfl
    clear h0
    go_wp2_with fail
    go_ret
    exact ⟨rfl, HU3.out⟩
  have e0 : ((n.kind : Int) == 0) = false := by simp; omega
  by_cases h5 : n.kind = 5
  rotate_left
  · have e5 : ((n.kind : Int) != 5) = true := by simp; omega
    have hw : want n = [n] := by rw [want, if_neg h0, if_neg h5]
    have hone : l.length = 1 := by have := HLL.out; rw [hw] at this; exact this
    have hl1 : ((l.length : Int) == 1) = true := by rw [hone]; rfl
    obtain ⟨r1, rfl, hv⟩ : ∃ r1, l = [r1] ∧ IsV r1 n := by
      have := HAll.out
      rw [hw] at this
      simp only [AllV] at this
      obtain ⟨r1, rest, rfl, h1, rfl⟩ := this
      exact ⟨r1, rfl, h1⟩
    have hrw : RowG w2.heap.size w3 (.slice va [r1].length vc) ([] ++ r1 :: []) := HRow.out
    obtain ⟨gb, cap, he, hcap, d0, d1, d2, d3, d4⟩ := hrw.at
    injection he with he1 he2 he3
    subst he1 he3
    have HC := Lib.hid (fun wx F yv dv h => gjIs_any r1 n F yv dv wx hv h)
    have hcap' : (1 : Int) ≤ (vc : Int) := by simp at hcap; omega
    simp only [List.length_nil, Nat.zero_mul, Nat.zero_add] at d0 d1 d2 d3 d4
    clear hw hone he2 hcap hrw h0 h5 hv
    go_wp2_with fail
    go_region_held3 (fun w' => w'.cell? ⟨gb, 0, none⟩ = some (.int .i64 (r1.ty : Int)) ∧ w'.cell? ⟨gb, 1, none⟩ = some (.string r1.raw) ∧ w'.cell? ⟨gb, 2, none⟩ = some (.string r1.st) ∧ w'.cell? ⟨gb, 3, none⟩ = some (.float .f64 r1.f) ∧ w'.cell? ⟨gb, 4, none⟩ = some (.bool true) ∧ w'.cell? ⟨w1.heap.size, 0, none⟩ = some (.int .i64 (n.kind : Int)) ∧ w'.cell? ⟨w1.heap.size, 1, none⟩ = some (.string (bs n.text)) ∧ w'.cell? ⟨w1.heap.size, 2, none⟩ = some (.slice ya n.keys.length yc) ∧ w'.cell? ⟨w1.heap.size, 3, none⟩ = some (.slice da n.kids.length dc))
      (first | (go_keep; done) | (go_split_ands; exact ⟨hu5.cell (by assumption) (fun h => h), hu5.cell (by assumption) (fun h => h), hu5.cell (by assumption) (fun h => h), hu5.cell (by assumption) (fun h => h), hu5.cell (by assumption) (fun h => h), hu5.cell (by assumption) (fun h => h), hu5.cell (by assumption) (fun h => h), hu5.cell (by assumption) (fun h => h), hu5.cell (by assumption) (fun h => h)⟩))
      (first | (go_at_call 11; refine (HC.out _ _ _ _ (RdD.upd (Upd.refl NoB w3).drew (fun _ _ h => h) _ _ _ HRd3.out)).mono ?_; rintro e w5 ⟨rfl, hu5⟩))
    all_goals
      have HU5 := Lib.hid (HU3.out.drew.trans hu5)
      clear hu5
      go_wp2_with fail
      go_ret
      exact ⟨rfl, HU5.out⟩
  have e5 : ((n.kind : Int) != 5) = false := by rw [h5]; rfl
  have hw : want n = n.kids := by rw [want, if_neg h0, if_pos h5]
  have hlk : l.length = n.kids.length := by have := HLL.out; rw [hw] at this; exact this
  have hlen : ((l.length : Int) != (n.kids.length : Int)) = false := by simp; omega
  have HAk : Hid (AllV l n.kids) := Lib.hid (by have := HAll.out; rw [hw] at this; exact this)
  have HLk := Lib.hid hlk
  have HLB : Hid (l.length ≤ 1048577) := Lib.hid (by have := want_len HTop.out; have := HLL.out; omega)
  clear hw hlk h0 h5
  go_wp2_with fail
  refine wp_loop_ghost_k (fun mm => FR 64 (fun g wx => ∃ ds rs, mm = rs.length ∧ n.kids = ds ++ rs ∧ (g 3 = .pointer (some ⟨w1.heap.size, 0, none⟩) ∧ g 5 = .slice va l.length vc ∧ g 48 = .int .i64 (l.length : Int) ∧ g 49 = .int .i64 (ds.length : Int)) ∧ Upd NoB w3 wx)) l.length ?atStart ?round
  case atStart =>
    refine FR.intro (by rfl) ?_
    exact ⟨[], n.kids, HLk.out, rfl, ⟨rfl, rfl, rfl, rfl⟩, Upd.refl _ _⟩
  case round =>
    clear c0 c1 c2 c3 hlen
    intro gk
    refine FR.rest ?_
    rintro g wx ⟨ds, rs, hm, hds, ⟨e3, e5, e48, e49⟩, hu⟩
    rw [lit64]
    simp only [e3, e5, e48, e49]
    clear e3 e5 e48 e49
    intro J2 K2 hJ2 hK2
    have Hm := Lib.hid hm; clear hm
    have HU := Lib.hid hu; clear hu
    cases rs with
    | nil =>
      have hdl : l.length = ds.length := by rw [HLk.out, hds, List.append_nil]
      clear hds
      rw [hdl]
      go_wp2_with fail
      go_ret
      exact ⟨rfl, HU3.out.trans HU.out⟩
    | cons q rs =>
      have hlt : (ds.length : Int) < (l.length : Int) := by rw [HLk.out, hds, List.length_append, List.length_cons]; omega
      have hall := HAk.out
      rw [hds] at hall
      obtain ⟨dl, r, rl, hl, hdl, hv, _⟩ := AllV.at ds q rs l hall
      have hrow := HRow.out.upd HU.out (fun _ _ _ h => h)
      rw [hl] at hrow
      obtain ⟨gb, cap, he, hcap, d0, d1, d2, d3, d4⟩ := hrow.at
      rw [← hl] at he hcap
      rw [hdl] at d0 d1 d2 d3 d4
      injection he with he1 he2 he3
      subst he1 he3
      have hrk := (RdD_mk.1 (RdD.upd HU.out (fun _ _ h => h) _ _ _ HRd3.out)).2
      rw [hds] at hrk
      obtain ⟨gq, qn, qk, rfl, hqc, ⟨q0, q1, q2, q3⟩, hqr⟩ := hrk.at
      obtain ⟨qna, qnc, qka, qkc, rfl, rfl⟩ := hqr.shape
      obtain ⟨⟨c0, c1, c2, c3⟩, _⟩ := four_cells (HU.out.blk HB3.out (fun h => h))
      have hltk : (ds.length : Int) < (n.kids.length : Int) := by rw [hds, List.length_append, List.length_cons]; omega
      have hkc : (n.kids.length : Int) ≤ (dc : Int) := by rw [hds]; omega
      have hvc : (l.length : Int) ≤ (vc : Int) := by omega
      have HDS := Lib.hid hds
      have HC := Lib.hid (gjIs_any r q _ _ _ wx.drew hv (RdD.upd (Upd.refl NoB wx).drew (fun _ _ h => h) _ _ _ hqr))
      clear hl hdl hall hrow he2 hrk hqr hds hqc hcap hv
      have hd0 : (0 : Int) ≤ (ds.length : Int) := by omega
      have hdb : (ds.length : Int) ≤ 1048577 := by have := HLB.out; omega
      go_wp2_with fail
      go_region_held3 (fun w' => w'.cell? ⟨gb, ds.length * 5, none⟩ = some (.int .i64 (r.ty : Int)) ∧ w'.cell? ⟨gb, ds.length * 5 + 1, none⟩ = some (.string r.raw) ∧ w'.cell? ⟨gb, ds.length * 5 + 2, none⟩ = some (.string r.st) ∧ w'.cell? ⟨gb, ds.length * 5 + 3, none⟩ = some (.float .f64 r.f) ∧ w'.cell? ⟨gb, ds.length * 5 + 4, none⟩ = some (.bool true) ∧ w'.cell? ⟨gq, ds.length * 4, none⟩ = some (.int .i64 (q.kind : Int)) ∧ w'.cell? ⟨gq, ds.length * 4 + 1, none⟩ = some (.string (bs q.text)) ∧ w'.cell? ⟨gq, ds.length * 4 + 2, none⟩ = some (.slice qna q.keys.length qnc) ∧ w'.cell? ⟨gq, ds.length * 4 + 3, none⟩ = some (.slice qka q.kids.length qkc) ∧ w'.cell? ⟨w1.heap.size, 3, none⟩ = some (.slice (some ⟨gq, 0, none⟩) n.kids.length dc))
        (first | (go_keep; done) | (go_split_ands; exact ⟨hu5.cell (by assumption) (fun h => h), hu5.cell (by assumption) (fun h => h), hu5.cell (by assumption) (fun h => h), hu5.cell (by assumption) (fun h => h), hu5.cell (by assumption) (fun h => h), hu5.cell (by assumption) (fun h => h), hu5.cell (by assumption) (fun h => h), hu5.cell (by assumption) (fun h => h), hu5.cell (by assumption) (fun h => h), hu5.cell (by assumption) (fun h => h)⟩))
        (first | (go_at_call 11; refine HC.out.mono ?_; rintro e w5 ⟨rfl, hu5⟩))
      all_goals
        have HU5 := Lib.hid ((HU.out.drew).trans hu5)
        clear hu5
        go_wp2_with fail
        refine Handed.intro rs.length ?_ ?_
        · have := Hm.out; rw [List.length_cons] at this; omega
        go_step
        refine FR.intro (by rfl) ?_
        exact ⟨ds ++ [q], rs, rfl, by rw [HDS.out, List.append_assoc]; rfl, ⟨rfl, rfl, rfl, by simp only [slotOf, List.length_append, List.length_singleton]; congr 1⟩, HU5.out⟩
end Go.Proofs.YtggdcpmampjncaaGreatDoor
