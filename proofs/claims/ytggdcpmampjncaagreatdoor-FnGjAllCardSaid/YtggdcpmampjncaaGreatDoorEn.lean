/- The package's ForEach: parseAny where no value stands. The package's ForEach: the numbers of an array's elements. GjParse of a JSON text, in full; gjOf of a result. The thin package's gj of any result. -/
import Derived.Test.YtggdcpmampjncaaGreatDoorEd
import Derived.Laws.OwnMore
namespace Go.Proofs.YtggdcpmampjncaaGreatDoor
open Go.RowKit

set_option maxHeartbeats 4000000 in
set_option maxRecDepth 8000 in
theorem pany_none (s : ByteArray) (i0 : Nat) (w : World) (hs : s.size ≤ 1048576) (hi0 : i0 ≤ s.size) (hno : ∀ k, i0 ≤ k → k < s.size → bAt s k ≤ 32 ∨ bAt s k = 93 ∨ bAt s k = 125) :
    Calls Tryz.prog 67 #[.string s, .int .i64 (i0 : Int), .bool true] w fun r w' => r = .returned (.tuple #[.int .i64 (s.size : Int), .agg #[.int .i64 0, .string ByteArray.empty, .string ByteArray.empty, .float .f64 0, .int .i64 0, .slice none 0 0], .bool false]) ∧ Upd NoB w w' := by
  have hB := get_bAt s
  have HNo := Lib.hid hno; clear hno
  go_enter Tryz.func67, Tryz.ntmps67
  go_upto_block 0 with (fail)
  have hA := PsW.start w
  generalize hw1 : ((w.alloc (.cells #[.int .i64 0, .string ByteArray.empty, .string ByteArray.empty, .float .f64 0, .int .i64 0, .slice none 0 0] 57)).alloc (.cells #[.int .i64 0, .string ByteArray.empty, .string ByteArray.empty, .float .f64 0, .int .i64 0, .slice none 0 0] 57)) = w1 at hA
  first | rw [hw1] | (rw [show ((w.alloc (.cells #[.int .i64 0, .string ⟨#[]⟩, .string ⟨#[]⟩, .float .f64 0, .int .i64 0, .slice none 0 0] 57)).alloc (.cells #[.int .i64 0, .string ⟨#[]⟩, .string ⟨#[]⟩, .float .f64 0, .int .i64 0, .slice none 0 0] 57)) = w1 from hw1])
  clear hw1
  have HA := Lib.hid hA; clear hA
  refine wp_cut (FR 170 (fun g wx => (g 1 = .int .i64 (s.size : Int) ∧ g 7 = .pointer (some ⟨w.heap.size, 0, none⟩) ∧ g 9 = .pointer (some ⟨w.heap.size + 1, 0, none⟩)) ∧ wx = w1)) ?rest ?first
  case first =>
    intro J0 K0 hJ0 hK0
    go_wp2_with fail
    refine wp_loop_ghost_k (fun mm => FR 170 (fun g wx => ∃ i : Nat, mm = s.size - i ∧ (g 0 = .string s ∧ g 1 = .int .i64 (i : Int) ∧ g 7 = .pointer (some ⟨w.heap.size, 0, none⟩) ∧ g 9 = .pointer (some ⟨w.heap.size + 1, 0, none⟩)) ∧ i0 ≤ i ∧ i ≤ s.size ∧ wx = w1)) (s.size - i0) ?atStart ?round
    case atStart =>
      refine FR.intro (by rfl) ?_
      exact ⟨i0, rfl, ⟨rfl, rfl, rfl, rfl⟩, by omega, hi0, rfl⟩
    case round =>
      intro gk
      refine FR.rest ?_
      rintro g w2 ⟨i, hm, ⟨e0, e1, e7, e9⟩, hi1, hi2, rfl⟩
      rw [lit170]
      simp only [e0, e1, e7, e9]
      clear e0 e1 e7 e9
      intro J2 K2 hJ2 hK2
      have Hm := Lib.hid hm; clear hm
      have hb := bAt_le s i
      by_cases hlt : i < s.size
      rotate_left
      · have hz : i = s.size := by omega
        have HZ := Lib.hid hz; clear hz
        go_wp2_with fail
        refine Met.intro ?_
        go_step
        refine FR.intro (by rfl) ?_
        exact ⟨⟨by rw [← HZ.out]; rfl, rfl, rfl⟩, rfl⟩
      have hc : (bAt s i : Int) ≤ 32 ∨ (bAt s i : Int) = 93 ∨ (bAt s i : Int) = 125 := by have := HNo.out i hi1 hlt; omega
      have e123 : ((bAt s i : Int) == 123) = false := by simp; omega
      have e91 : ((bAt s i : Int) == 91) = false := by simp; omega
      rcases hc with hc | hc | hc
      · go_wp2_with fail
        refine Handed.intro (s.size - (i + 1)) ?_ ?_
        · have := Hm.out; omega
        go_step
        refine FR.intro (by rfl) ?_
        exact ⟨i + 1, rfl, ⟨rfl, by simp only [slotOf] <;> go_num, rfl, rfl⟩, by omega, by omega, rfl⟩
      all_goals
        clear e123 e91
        go_wp2_with fail
        refine Handed.intro (s.size - (i + 1)) ?_ ?_
        · have := Hm.out; omega
        go_step
        refine FR.intro (by rfl) ?_
        exact ⟨i + 1, rfl, ⟨rfl, by simp only [slotOf] <;> go_num, rfl, rfl⟩, by omega, by omega, rfl⟩
  case rest =>
  refine FR.rest ?_
  rintro g w2 ⟨⟨e1, e7, e9⟩, rfl⟩
  rw [lit170]
  simp only [e1, e7, e9]
  clear e1 e7 e9
  obtain ⟨⟨y0, y1, y2, y3, y4, y5⟩, _⟩ := cells6 HA.out.b1
  obtain ⟨⟨x0, x1, x2, x3, x4, x5⟩, u0, u1, u2, u3, u4, u5⟩ := cells6 HA.out.b0
  have hfl := fl_store
  go_wp2_with fail
  go_region_held3 (fun w' => w'.cell? ⟨w.heap.size + 1, 0, none⟩ = some (.int .i64 0) ∧ w'.cell? ⟨w.heap.size + 1, 1, none⟩ = some (.string ByteArray.empty) ∧ w'.cell? ⟨w.heap.size + 1, 2, none⟩ = some (.string ByteArray.empty) ∧ w'.cell? ⟨w.heap.size + 1, 3, none⟩ = some (.float .f64 0) ∧ w'.cell? ⟨w.heap.size + 1, 4, none⟩ = some (.int .i64 0) ∧ w'.cell? ⟨w.heap.size + 1, 5, none⟩ = some (.slice none 0 0)) (first | (go_keep; done) | skip) (fail)
  go_wp2_with fail
  refine bodyPost_ret (v := .tuple #[.int .i64 (s.size : Int), .agg #[.int .i64 0, .string ByteArray.empty, .string ByteArray.empty, .float .f64 0, .int .i64 0, .slice none 0 0], .bool false]) (by simp [results, Tryz.results67, go_sem, x0, x1, x2, x3, x4, x5]) rfl ?_
  refine ⟨rfl, HA.out.up.then (S' := OneB w.heap.size) ?_ (fun b hb => .inr (Nat.le_of_eq hb.symm))⟩
  exact (((((((Upd.refl _ _).setOne 0 _).setOne 1 _).setOne 2 _).setOne 3 _).setOne 4 _).setOne 5 _).drew
end Go.Proofs.YtggdcpmampjncaaGreatDoor
namespace Go.Proofs.YtggdcpmampjncaaGreatDoor
open Go.RowKit

theorem one_fz : FZ 4607182418800017408 := f10_fz (k := 0) (by decide)
theorem add_nn {a t : Nat} (ha : NN a) (ht : FZ t) : ∃ r, FloatKind.f64.format.add a t = some r ∧ NN r := by
  obtain ⟨s, n, j, hr, hn⟩ := ht
  unfold NN at ha
  show ∃ r, ((Ieee.double.read a).sum (Ieee.double.read t)).map Ieee.double.write = some r ∧ NN r
  rw [hr]
  cases hd : Ieee.double.read a with
  | number s' m p => exact ⟨_, rfl, write_nn rfl⟩
  | infinity s' => exact ⟨_, rfl, write_nn rfl⟩
  | nan s' t => rw [hd] at ha; exact Bool.noConfusion ha
theorem fadd_run {P : Program} (t : TypeId) {a b r : Nat} (h : FloatKind.f64.format.add a b = some r) (w : World) : (binOp .add t (.float .f64 a) (.float .f64 b)).run P w = .ok (.float .f64 r) w := by
  have h' : (Op.floatArith .add .f64 a b).run P w = .ok (.float .f64 r) w := by simp [Op.floatArith, h]
  simpa [binOp] using h'
/-- The number of the j-th element as the key has it: j sums of one from -1. -/
def keyF : Nat → Nat
  | 0 => 13830554455654793216
  | j + 1 => (FloatKind.f64.format.add (keyF j) 4607182418800017408).getD 0
theorem keyF_nn : ∀ j, NN (keyF j)
  | 0 => by show (Ieee.double.read 13830554455654793216).isNaN = false; decide +kernel
  | j + 1 => by
    obtain ⟨r, h1, h2⟩ := add_nn (keyF_nn j) one_fz
    unfold keyF
    rw [h1]
    exact h2
theorem keyF_add (j : Nat) : FloatKind.f64.format.add (keyF j) 4607182418800017408 = some (keyF (j + 1)) := by
  obtain ⟨r, h1, _⟩ := add_nn (keyF_nn j) one_fz
  rw [h1]
  show some r = some ((FloatKind.f64.format.add (keyF j) 4607182418800017408).getD 0)
  rw [h1]
  rfl
end Go.Proofs.YtggdcpmampjncaaGreatDoor
namespace Go.Proofs.YtggdcpmampjncaaGreatDoor
open Go.RowKit

set_option maxHeartbeats 4000000 in
theorem GjParse_is (lo : Nat) (s : ByteArray) (p : Pl) (n : Nd) (w : World) (hs : s.size ≤ 1048576) (hp : PText s p) (hn : TreeR s p n) (hT : Tabs lo w) (hlo : lo ≤ w.heap.size) :
    Calls Tryz.prog 10 #[.string s] w fun e w' => ∃ r : Rs, e = .returned (.agg #[.int .i64 (r.ty : Int), .string r.raw, .string r.st, .float .f64 r.f, .bool true]) ∧ (Top r n ∧ RsOf s p n r) ∧ Upd NoB w w' := by
  have HPs := Lib.hid (fun wx hT hl => Parse_is lo s p n wx hs hp hn hT hl)
  have HT := Lib.hid hT
  clear hT hp hn
  go_enter Tryz.func10, Tryz.ntmps10
  go_wp2_with fail
  refine (HPs.out _ (HT.out.upd ((Upd.refl NoB w).alloc _) (fun _ h => h.elim)) (by simp; omega)).mono ?_
  rintro e w1 ⟨r, htop, rfl, hu1⟩
  have HTop := Lib.hid htop; clear htop
  have HU1 := Lib.hid hu1; clear hu1
  go_wp2_with fail
  refine (gj_any r w1 HTop.out.1.1.size).mono ?_
  rintro e w2 ⟨rfl, hu2⟩
  have hb := (HU1.out.trans hu2).blk (heap_alloc_new w _) (fun h => h)
  obtain ⟨⟨c0, c1, c2, c3, c4⟩, q0, q1, q2, q3, q4⟩ := cells5 hb
  have HU2 := Lib.hid (((Upd.refl NoB w).alloc _).trans (HU1.out.trans hu2))
  clear hu2 hb
  have hfl := fl_store
  go_wp2_with fail
  refine bodyPost_ret (v := .agg #[.int .i64 (r.ty : Int), .string r.raw, .string r.st, .float .f64 r.f, .bool true]) (by simp [results, Tryz.results10, go_sem, c0, c1, c2, c3, c4]) rfl ?_
  have U : Upd (OneB w.heap.size) w2 (((((w2.setCell ⟨w.heap.size, 0, none⟩ (.int .i64 (r.ty : Int))).setCell ⟨w.heap.size, 1, none⟩ (.string r.raw)).setCell ⟨w.heap.size, 2, none⟩ (.string r.st)).setCell ⟨w.heap.size, 3, none⟩ (.float .f64 r.f)).setCell ⟨w.heap.size, 4, none⟩ (.bool true)) :=
    (((((Upd.refl _ _).setOne 0 _).setOne 1 _).setOne 2 _).setOne 3 _).setOne 4 _
  exact ⟨r, rfl, ⟨HTop.out.1, HTop.out.2.1⟩, HU2.out.then U (fun b hb => .inr (Nat.le_of_eq hb.symm))⟩

set_option maxHeartbeats 1000000 in
theorem gjOf_gen2 (r : Rs) (w : World) :
    Calls Tryz.prog 21 #[.agg #[.int .i64 (r.ty : Int), .string r.raw, .string r.st, .float .f64 r.f, .bool true]] w fun e w' => e = .returned (.agg #[.int .i64 (r.ty : Int), .string r.raw, .string r.st, .float .f64 r.f, .int .i64 0, .slice none 0 0]) ∧ Upd NoB w w' := by
  have hfl := fl_store
  go_enter Tryz.func21, Tryz.ntmps21
  go_wp2_with fail
  have hb := cells6 (heap_alloc_new (w.alloc (.cells #[.int .i64 (r.ty : Int), .string r.raw, .string r.st, .float .f64 r.f, .bool true] 38)) (.cells #[.int .i64 (r.ty : Int), .string r.raw, .string r.st, .float .f64 r.f, .int .i64 0, .slice none 0 0] 57))
  rw [World.size_alloc] at hb
  obtain ⟨⟨r0, r1, r2, r3, r4, r5⟩, _⟩ := hb
  refine bodyPost_ret (v := .agg #[.int .i64 (r.ty : Int), .string r.raw, .string r.st, .float .f64 r.f, .int .i64 0, .slice none 0 0]) (by simp [results, Tryz.results21, go_sem, r0, r1, r2, r3, r4, r5]) rfl ?_
  exact ⟨rfl, ((Upd.refl NoB w).alloc _).alloc _⟩
end Go.Proofs.YtggdcpmampjncaaGreatDoor
namespace Go.Proofs.YtggdcpmampjncaaGreatDoor
open Go.RowKit

/-- Whether a result exists. -/
def Rs.ex (r : Rs) : Bool := decide (r.ty ≠ 0 ∨ r.raw.size ≠ 0)
set_option maxHeartbeats 1000000 in
theorem Exists_gen (r : Rs) (w : World) :
    Calls Tryz.prog 49 #[.agg #[.int .i64 (r.ty : Int), .string r.raw, .string r.st, .float .f64 r.f, .int .i64 r.ix, .slice none 0 0]] w fun e w' => e = .returned (.bool r.ex) ∧ Upd NoB w w' := by
  by_cases hz : 0 < r.raw.size
  · have : r.ex = true := by unfold Rs.ex; exact decide_eq_true (.inr (by omega))
    rw [this]
    exact Exists_any r w hz
  have hz' : ((r.raw.size : Int) != 0) = false := bne_eq_false_iff_eq.2 (by omega)
  by_cases h : r.ty = 0
  · have e0 : ((r.ty : Int) != 0) = false := by simp; omega
    have hx : r.ex = false := by unfold Rs.ex; exact decide_eq_false (by omega)
    rw [hx]
    clear hx h
    go_enter Tryz.func49, Tryz.ntmps49
    go_wp2_with fail
    go_ret
    exact ⟨rfl, (Upd.refl NoB w).alloc _⟩
  · have e0 : ((r.ty : Int) != 0) = true := by simp; omega
    have hx : r.ex = true := by unfold Rs.ex; exact decide_eq_true (.inl h)
    rw [hx]
    clear hx h
    go_enter Tryz.func49, Tryz.ntmps49
    go_wp2_with fail
    go_ret
    exact ⟨rfl, (Upd.refl NoB w).alloc _⟩

set_option maxHeartbeats 4000000 in
theorem gj_gen (r : Rs) (w : World) :
    Calls Tryz.prog 25 #[.agg #[.int .i64 (r.ty : Int), .string r.raw, .string r.st, .float .f64 r.f, .int .i64 r.ix, .slice none 0 0]] w fun e w' => e = .returned (.agg #[.int .i64 (r.ty : Int), .string r.raw, .string r.st, .float .f64 r.f, .bool r.ex]) ∧ Upd NoB w w' := by
  have hfl := fl_store
  have HX := Lib.hid (fun wx => Exists_gen r wx)
  go_enter Tryz.func25, Tryz.ntmps25
  go_wp2_with fail
  have hb0 : ((w.alloc (.cells #[.int .i64 (r.ty : Int), .string r.raw, .string r.st, .float .f64 r.f, .int .i64 r.ix, .slice none 0 0] 57)).alloc (.cells #[.int .i64 0, .string ⟨#[]⟩, .string ⟨#[]⟩, .float .f64 0, .bool false] 38)).heap[w.heap.size]? = some (.cells #[.int .i64 (r.ty : Int), .string r.raw, .string r.st, .float .f64 r.f, .int .i64 r.ix, .slice none 0 0] 57 (0, 0)) :=
    (Below.heap_alloc _ _ w.heap.size (by simp)).trans (heap_alloc_new w _)
  have hb1 := heap_alloc_new (w.alloc (.cells #[.int .i64 (r.ty : Int), .string r.raw, .string r.st, .float .f64 r.f, .int .i64 r.ix, .slice none 0 0] 57)) (.cells #[.int .i64 0, .string ⟨#[]⟩, .string ⟨#[]⟩, .float .f64 0, .bool false] 38)
  rw [World.size_alloc] at hb1
  have HU := Lib.hid (((Upd.refl NoB w).alloc (.cells #[.int .i64 (r.ty : Int), .string r.raw, .string r.st, .float .f64 r.f, .int .i64 r.ix, .slice none 0 0] 57)).alloc (.cells #[.int .i64 0, .string ⟨#[]⟩, .string ⟨#[]⟩, .float .f64 0, .bool false] 38))
  generalize ((w.alloc (.cells #[.int .i64 (r.ty : Int), .string r.raw, .string r.st, .float .f64 r.f, .int .i64 r.ix, .slice none 0 0] 57)).alloc (.cells #[.int .i64 0, .string ⟨#[]⟩, .string ⟨#[]⟩, .float .f64 0, .bool false] 38)) = w1 at hb0 hb1 HU ⊢
  obtain ⟨⟨p0, p1, p2, p3, p4, p5⟩, _⟩ := cells6 hb0
  have HB := Lib.hid hb1
  obtain ⟨⟨c0, c1, c2, c3, c4⟩, q0, q1, q2, q3, q4⟩ := cells5 hb1
  clear hb0 hb1
  go_region_held3 (fun w' => w'.cell? ⟨w.heap.size, 0, none⟩ = some (.int .i64 (r.ty : Int)) ∧ w'.cell? ⟨w.heap.size, 1, none⟩ = some (.string r.raw) ∧ w'.cell? ⟨w.heap.size, 2, none⟩ = some (.string r.st) ∧ w'.cell? ⟨w.heap.size, 3, none⟩ = some (.float .f64 r.f) ∧ w'.cell? ⟨w.heap.size, 4, none⟩ = some (.int .i64 r.ix) ∧ w'.cell? ⟨w.heap.size, 5, none⟩ = some (.slice none 0 0)) (first | (go_keep; done) | (go_split_ands; exact ⟨hu2.cell (by assumption) (fun h => h), hu2.cell (by assumption) (fun h => h), hu2.cell (by assumption) (fun h => h), hu2.cell (by assumption) (fun h => h), hu2.cell (by assumption) (fun h => h), hu2.cell (by assumption) (fun h => h)⟩)) (first | (go_at_call 49; refine (HX.out _).mono ?_; rintro e w2 ⟨rfl, hu2⟩; obtain ⟨⟨d0, d1, d2, d3, d4⟩, g0, g1, g2, g3, g4⟩ := cells5 (((Upd.refl NoB w1).drew.trans hu2).blk HB.out (fun h => h))))
  have HU3 := Lib.hid ((HU.out.drew).trans hu2)
  clear hu2
  go_wp2_with fail
  refine bodyPost_ret (v := .agg #[.int .i64 (r.ty : Int), .string r.raw, .string r.st, .float .f64 r.f, .bool r.ex]) (by simp [results, Tryz.results25, go_sem, d0, d1, d2, d3, d4]) rfl ?_
  refine ⟨rfl, ?_⟩
  have U : Upd (OneB (w.heap.size + 1)) w2 (((((w2.setCell ⟨w.heap.size + 1, 0, none⟩ (.int .i64 (r.ty : Int))).setCell ⟨w.heap.size + 1, 1, none⟩ (.string r.raw)).setCell ⟨w.heap.size + 1, 2, none⟩ (.string r.st)).setCell ⟨w.heap.size + 1, 3, none⟩ (.float .f64 r.f)).setCell ⟨w.heap.size + 1, 4, none⟩ (.bool r.ex)) := (((((Upd.refl _ _).setOne 0 _).setOne 1 _).setOne 2 _).setOne 3 _).setOne 4 _
  exact HU3.out.then U (fun b hb => .inr (by have : b = w.heap.size + 1 := hb; omega))
end Go.Proofs.YtggdcpmampjncaaGreatDoor
