/- The law's gjIs at a result that is the value: it says yes. -/
import Derived.Test.YtggdcpmampjncaaGreatDoorVal
import Derived.Test.YtggdcpmampjncaaGreatDoorSame
namespace Go.Proofs.YtggdcpmampjncaaGreatDoor
open Go.RowKit

set_option maxHeartbeats 8000000 in
set_option maxRecDepth 8000 in
theorem gjIs_any (r : Rs) (n : Nd) (F : Nat → Prop) (yv dv : Value) (w : World) (hv : IsV r n) (hrd : RdD w F n yv dv) :
    Calls Tryz.prog 11 #[.agg #[.int .i64 (r.ty : Int), .string r.raw, .string r.st, .float .f64 r.f, .bool true], .agg #[.int .i64 (n.kind : Int), .string (bs n.text), yv, dv]] w fun e w' => e = .returned (.bool true) ∧ Upd NoB w w' := by
  obtain ⟨ty, raw, st, f, ix⟩ := r
  have HRead := Lib.hid (fun wx => Read_any raw wx (Nat.le_trans hv.2.1 (by decide)) hv.read)
  obtain ⟨h1, h2, ⟨p, hp1, hp2⟩, h4⟩ := hv
  dsimp only at h1 h2 hp1 hp2 h4
  subst h1
  have hk6 : n.kind ≤ 6 := by
    obtain ⟨_, _, _, h, _⟩ := hp1
    rw [hp2.kind]
    exact PVal.kind_le h
  have HK := Lib.hid (fun wx => gjKind_any n.kind wx hk6)
  have HP : Hid (PText raw p ∧ TreeR raw p n) := Lib.hid ⟨hp1, hp2⟩
  have HSt := Lib.hid h4
  have HSm := Lib.hid (same_all n)
  have HRd := Lib.hid hrd
  obtain ⟨ya, yc, da, dc, rfl, rfl⟩ := hrd.shape
  clear hp1 hp2 h4 h2 hk6 hrd
  go_enter Tryz.func11, Tryz.ntmps11
  go_upto_region 1 with (fail)
  have hb0 : ((w.alloc (.cells #[.int .i64 (kindOf n.kind : Int), .string raw, .string st, .float .f64 f, .bool true] 38)).alloc (.cells #[.int .i64 (n.kind : Int), .string (bs n.text), .slice ya n.keys.length yc, .slice da n.kids.length dc] 25)).heap[w.heap.size]? = some (.cells #[.int .i64 (kindOf n.kind : Int), .string raw, .string st, .float .f64 f, .bool true] 38 (0, 0)) :=
    (Below.heap_alloc _ _ w.heap.size (by simp)).trans (heap_alloc_new w _)
  have hb1 := heap_alloc_new (w.alloc (.cells #[.int .i64 (kindOf n.kind : Int), .string raw, .string st, .float .f64 f, .bool true] 38)) (.cells #[.int .i64 (n.kind : Int), .string (bs n.text), .slice ya n.keys.length yc, .slice da n.kids.length dc] 25)
  rw [World.size_alloc] at hb1
  have HU := Lib.hid (((Upd.refl NoB w).alloc (.cells #[.int .i64 (kindOf n.kind : Int), .string raw, .string st, .float .f64 f, .bool true] 38)).alloc (.cells #[.int .i64 (n.kind : Int), .string (bs n.text), .slice ya n.keys.length yc, .slice da n.kids.length dc] 25))
  generalize ((w.alloc (.cells #[.int .i64 (kindOf n.kind : Int), .string raw, .string st, .float .f64 f, .bool true] 38)).alloc (.cells #[.int .i64 (n.kind : Int), .string (bs n.text), .slice ya n.keys.length yc, .slice da n.kids.length dc] 25)) = w1 at hb0 hb1 HU ⊢
  have HB0 := Lib.hid hb0
  have HB1 := Lib.hid hb1
  obtain ⟨⟨p0, p1, p2, p3, p4⟩, _⟩ := cells5 hb0
  clear hb0 hb1
  go_wp2_with fail
  refine (HRead.out _).mono ?_
  rintro e w2 ⟨b, m, yv', dv', rfl, hu2, hrd2, ht, hf⟩
  obtain rfl : b = true := by
    cases b
    · exact absurd HP.out.1 (hf rfl p)
    · rfl
  obtain ⟨q, hq1, hq2⟩ := ht rfl
  obtain rfl : q = p := PText.uniq hq1 HP.out.1
  obtain rfl : m = n := TreeR.uniq _ _ _ hq2 HP.out.2
  obtain ⟨ya', yc', da', dc', rfl, rfl⟩ := hrd2.shape
  have hd3 := RdD.upd ((Upd.refl NoB w2).alloc (.cells #[.int .i64 (m.kind : Int), .string (bs m.text), .slice ya' m.keys.length yc', .slice da' m.kids.length dc'] 25)) (fun _ _ h => h) _ _ _ hrd2
  have hu3 := hu2.alloc (.cells #[.int .i64 (m.kind : Int), .string (bs m.text), .slice ya' m.keys.length yc', .slice da' m.kids.length dc'] 25)
  have hb3 := heap_alloc_new w2 (.cells #[.int .i64 (m.kind : Int), .string (bs m.text), .slice ya' m.keys.length yc', .slice da' m.kids.length dc'] 25)
  have HC := Lib.hid (HSm.out _ _ F _ _ _ _ (RdD.upd (Upd.refl NoB (w2.alloc (.cells #[.int .i64 (m.kind : Int), .string (bs m.text), .slice ya' m.keys.length yc', .slice da' m.kids.length dc'] 25))).drew (fun _ _ h => h) _ _ _ hd3) (RdD.upd (HU.out.trans hu3).drew (fun _ _ h => h) _ _ _ HRd.out))
  clear hq1 hq2 ht hf hrd2 hd3 hu2 p0 p1 p2 p3 p4
  obtain ⟨⟨p0, p1, p2, p3, p4⟩, _⟩ := cells5 (hu3.blk HB0.out (fun h => h))
  obtain ⟨⟨q0, q1, q2, q3⟩, _⟩ := four_cells (hu3.blk HB1.out (fun h => h))
  obtain ⟨⟨c0, c1, c2, c3⟩, _⟩ := four_cells hb3
  have HU3 := Lib.hid (HU.out.trans hu3)
  clear hu3 hb3
  go_wp2_with fail
  go_region_held3 (fun w' => w'.cell? ⟨w.heap.size, 0, none⟩ = some (.int .i64 (kindOf m.kind : Int)) ∧ w'.cell? ⟨w.heap.size, 2, none⟩ = some (.string st) ∧ w'.cell? ⟨w.heap.size, 4, none⟩ = some (.bool true) ∧ w'.cell? ⟨w.heap.size + 1, 0, none⟩ = some (.int .i64 (m.kind : Int)) ∧ w'.cell? ⟨w.heap.size + 1, 1, none⟩ = some (.string (bs m.text)) ∧ w'.cell? ⟨w.heap.size + 1, 2, none⟩ = some (.slice ya m.keys.length yc) ∧ w'.cell? ⟨w.heap.size + 1, 3, none⟩ = some (.slice da m.kids.length dc) ∧ w'.cell? ⟨w2.heap.size, 0, none⟩ = some (.int .i64 (m.kind : Int)) ∧ w'.cell? ⟨w2.heap.size, 1, none⟩ = some (.string (bs m.text)) ∧ w'.cell? ⟨w2.heap.size, 2, none⟩ = some (.slice ya' m.keys.length yc') ∧ w'.cell? ⟨w2.heap.size, 3, none⟩ = some (.slice da' m.kids.length dc'))
    (first | (go_keep; done) | (go_split_ands; exact ⟨hu5.cell (by assumption) (fun h => h), hu5.cell (by assumption) (fun h => h), hu5.cell (by assumption) (fun h => h), hu5.cell (by assumption) (fun h => h), hu5.cell (by assumption) (fun h => h), hu5.cell (by assumption) (fun h => h), hu5.cell (by assumption) (fun h => h), hu5.cell (by assumption) (fun h => h), hu5.cell (by assumption) (fun h => h), hu5.cell (by assumption) (fun h => h), hu5.cell (by assumption) (fun h => h)⟩))
    (first | (go_at_call 23; refine (HK.out _).mono ?_; rintro e w4 ⟨rfl, rfl⟩) | (go_at_call 27; refine HC.out.mono ?_; rintro e w5 ⟨rfl, hu5⟩))
  all_goals
    have HU5 := Lib.hid (HU3.out.drew.trans hu5)
    clear hu5
    by_cases c4 : m.kind = 4
    · have e4 : ((m.kind : Int) != 4) = false := by rw [c4]; rfl
      obtain rfl := HSt.out c4
      clear c4
      go_wp2_with fail
      go_ret
      exact ⟨rfl, HU5.out⟩
    · have e4 : ((m.kind : Int) != 4) = true := by simp; omega
      clear c4
      go_wp2_with fail
      go_ret
      exact ⟨rfl, HU5.out⟩
end Go.Proofs.YtggdcpmampjncaaGreatDoor
