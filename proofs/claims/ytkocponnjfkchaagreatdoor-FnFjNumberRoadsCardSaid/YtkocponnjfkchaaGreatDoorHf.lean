/- fastjson's numbers: NewNumberString, the methods, the thin package's calls, each by what fastfloat makes of the text. -/
import Derived.Test.YtkocponnjfkchaaGreatDoorHe
import Derived.Test.YtkocponnjfkchaaGreatDoorHg
namespace Go.Proofs.YtkocponnjfkchaaGreatDoor
open Go.RowKit

/-- All tables. -/
def TabsF (lo : Nat) (w : World) : Prop := Tabs lo w ∧ PT lo w
theorem TabsF.upd {lo : Nat} {w w1 : World} {S : Nat → Prop} (h : TabsF lo w) (u : Upd S w w1) (hS : ∀ b, S b → lo ≤ b) : TabsF lo w1 := ⟨h.1.upd u hS, h.2.upd u hS⟩
/-- No error where ok, else one. -/
def ErrIf (ok : Bool) (ev : Value) : Prop := (ok = true ∧ ev = .nilIface) ∨ (ok = false ∧ isErr ev)
set_option maxHeartbeats 1000000 in
theorem NewNum_any (g : Nat) (s : ByteArray) (x : Value) (T : Nat) (w : World) (hb : w.heap[g]? = some (.cells #[x, .slice none 0 0] T (0, 0))) :
    Calls Tryz.prog 12 #[.pointer (some ⟨g, 0, none⟩), .string s] w fun e w' => ∃ B, e = .returned (.pointer (some ⟨B, 0, none⟩)) ∧ VW B s 4 w' ∧ Upd (OneB g) w w' := by
  have HG := Lib.hid (getV_any g T x w hb)
  have hg : g < w.heap.size := (Array.getElem?_eq_some_iff.1 hb).1
  clear hb
  go_enter Tryz.func12, Tryz.ntmps12
  go_wp2_with fail
  refine HG.out.mono ?_
  rintro e w1 ⟨B, rfl, hv, hB, _, hu⟩
  obtain ⟨⟨c3, c4⟩, f3, f4⟩ := hv.cells
  have hv1 := hv.setT 4
  obtain ⟨⟨d3, d4⟩, g3, g4⟩ := hv1.cells
  have HV := Lib.hid (hv1.setS s)
  have HU : Hid (Upd (OneB g) w ((w1.setCell ⟨B, 4, none⟩ (.int .i64 4)).setCell ⟨B, 3, none⟩ (.string s))) := Lib.hid (hu.then (((Upd.refl (OneB B) w1).setOne 4 _).setOne 3 _) (fun b hb => .inr (by have : b = B := hb; omega)))
  clear hv hv1 hu
  go_wp2_with fail
  go_ret
  exact ⟨B, rfl, HV.out, HU.out⟩
set_option maxHeartbeats 1000000 in
theorem Type_any (B : Nat) (s : ByteArray) (w : World) (hv : VW B s 4 w) :
    Calls Tryz.prog 20 #[.pointer (some ⟨B, 0, none⟩)] w fun e w' => e = .returned (.int .i64 4) ∧ w' = w := by
  obtain ⟨⟨c3, c4⟩, f3, f4⟩ := hv.cells
  clear hv
  go_enter Tryz.func20, Tryz.ntmps20
  go_wp2_with fail
  go_ret
  exact ⟨rfl, rfl⟩

/-- What fastfloat.ParseInt64 is known to make of a text. -/
def FIOk (lo : Nat) (s : ByteArray) (R : Int → Bool → Prop) : Prop := ∀ w, TabsF lo w → lo ≤ w.heap.size → Calls Tryz.prog 22 #[.string s] w fun e w' => (∃ x ok ev, R x ok ∧ e = .returned (.tuple #[.int .i64 x, ev]) ∧ ErrIf ok ev) ∧ Upd NoB w w'
set_option maxHeartbeats 1000000 in
theorem VInt64_any (lo B : Nat) (s : ByteArray) (R : Int → Bool → Prop) (w : World) (h : FIOk lo s R) (hv : VW B s 4 w) (hT : TabsF lo w) (hlo : lo ≤ w.heap.size) :
    Calls Tryz.prog 13 #[.pointer (some ⟨B, 0, none⟩)] w fun e w' => (∃ x ok ev, R x ok ∧ e = .returned (.tuple #[.int .i64 x, ev]) ∧ ErrIf ok ev) ∧ Upd NoB w w' := by
  have HT := Lib.hid (Type_any B s w hv)
  have HF := Lib.hid (h w hT hlo)
  obtain ⟨⟨c3, c4⟩, f3, f4⟩ := hv.cells
  clear hv h hT
  go_enter Tryz.func13, Tryz.ntmps13
  go_wp2_with fail
  refine HT.out.mono ?_
  rintro e w1 ⟨rfl, rfl⟩
  go_wp2_with fail
  refine HF.out.mono ?_
  rintro e w2 ⟨⟨x, ok, ev, hR, rfl, hev⟩, hu⟩
  have HE := Lib.hid hev; clear hev
  have HRR := Lib.hid hR; clear hR
  go_wp2_with fail
  refine bodyPost_ret (v := .tuple #[.int .i64 x, ev]) (by simp [results, Tryz.results13, go_sem]) rfl ?_
  exact ⟨⟨x, ok, ev, HRR.out, rfl, HE.out⟩, hu⟩
set_option maxHeartbeats 1000000 in
theorem FjNumberInt64_any (lo : Nat) (s : ByteArray) (R : Int → Bool → Prop) (w : World) (h : FIOk lo s R) (hT : TabsF lo w) (hlo : lo ≤ w.heap.size) :
    Calls Tryz.prog 5 #[.string s] w fun e w' => (∃ x ok, R x ok ∧ e = .returned (.tuple #[.int .i64 x, .bool ok])) ∧ Upd NoB w w' := by
  have HH := Lib.hid h; clear h
  have HT := Lib.hid hT; clear hT
  go_enter Tryz.func5, Tryz.ntmps5
  go_wp2_with fail
  refine (NewNum_any w.heap.size s (.slice none 0 0) 39 _ (heap_alloc_new w _)).mono ?_
  rintro e w1 ⟨B, rfl, hv, hu1⟩
  have hu1' : Upd NoB w w1 := ((Upd.refl NoB w).alloc _).then hu1 (fun b hb => .inr (by have : b = w.heap.size := hb; omega))
  have HU1 := Lib.hid hu1'
  have HV := Lib.hid hv
  clear hu1 hu1' hv
  go_wp2_with fail
  refine (VInt64_any lo B s R w1 HH.out HV.out (HT.out.upd HU1.out (fun _ h => h.elim)) (Nat.le_trans hlo HU1.out.size)).mono ?_
  rintro e w2 ⟨⟨x, ok, ev, hR, rfl, hev⟩, hu2⟩
  have HRR := Lib.hid hR; clear hR
  have HU2 := Lib.hid (HU1.out.trans hu2)
  clear hu2
  rcases hev with ⟨rfl, rfl⟩ | ⟨rfl, t, y, rfl⟩
  · go_wp2_with fail
    go_region_held3 (fun _ => True) (first | (go_keep; done) | trivial) (fail)
    all_goals
      go_wp2_with fail
      refine bodyPost_ret (v := .tuple #[.int .i64 x, .bool true]) (by simp [results, Tryz.results5, go_sem]) rfl ?_
      exact ⟨⟨x, true, HRR.out, rfl⟩, HU2.out.drew⟩
  · go_wp2_with fail
    go_region_held3 (fun _ => True) (first | (go_keep; done) | trivial) (fail)
    all_goals
      go_wp2_with fail
      refine bodyPost_ret (v := .tuple #[.int .i64 x, .bool false]) (by simp [results, Tryz.results5, go_sem]) rfl ?_
      exact ⟨⟨x, false, HRR.out, rfl⟩, HU2.out.drew⟩

/-- What fastfloat.ParseUint64 is known to make of a text. -/
def FUOk (lo : Nat) (s : ByteArray) (R : Int → Bool → Prop) : Prop := ∀ w, TabsF lo w → lo ≤ w.heap.size → Calls Tryz.prog 27 #[.string s] w fun e w' => (∃ x ok ev, R x ok ∧ e = .returned (.tuple #[.int .u64 x, ev]) ∧ ErrIf ok ev) ∧ Upd NoB w w'
set_option maxHeartbeats 1000000 in
theorem VUint64_any (lo B : Nat) (s : ByteArray) (R : Int → Bool → Prop) (w : World) (h : FUOk lo s R) (hv : VW B s 4 w) (hT : TabsF lo w) (hlo : lo ≤ w.heap.size) :
    Calls Tryz.prog 15 #[.pointer (some ⟨B, 0, none⟩)] w fun e w' => (∃ x ok ev, R x ok ∧ e = .returned (.tuple #[.int .u64 x, ev]) ∧ ErrIf ok ev) ∧ Upd NoB w w' := by
  have HT := Lib.hid (Type_any B s w hv)
  have HF := Lib.hid (h w hT hlo)
  obtain ⟨⟨c3, c4⟩, f3, f4⟩ := hv.cells
  clear hv h hT
  go_enter Tryz.func15, Tryz.ntmps15
  go_wp2_with fail
  refine HT.out.mono ?_
  rintro e w1 ⟨rfl, rfl⟩
  go_wp2_with fail
  refine HF.out.mono ?_
  rintro e w2 ⟨⟨x, ok, ev, hR, rfl, hev⟩, hu⟩
  have HE := Lib.hid hev; clear hev
  have HRR := Lib.hid hR; clear hR
  go_wp2_with fail
  refine bodyPost_ret (v := .tuple #[.int .u64 x, ev]) (by simp [results, Tryz.results15, go_sem]) rfl ?_
  exact ⟨⟨x, ok, ev, HRR.out, rfl, HE.out⟩, hu⟩
set_option maxHeartbeats 1000000 in
theorem FjNumberUint64_any (lo : Nat) (s : ByteArray) (R : Int → Bool → Prop) (w : World) (h : FUOk lo s R) (hT : TabsF lo w) (hlo : lo ≤ w.heap.size) :
    Calls Tryz.prog 7 #[.string s] w fun e w' => (∃ x ok, R x ok ∧ e = .returned (.tuple #[.int .u64 x, .bool ok])) ∧ Upd NoB w w' := by
  have HH := Lib.hid h; clear h
  have HT := Lib.hid hT; clear hT
  go_enter Tryz.func7, Tryz.ntmps7
  go_wp2_with fail
  refine (NewNum_any w.heap.size s (.slice none 0 0) 39 _ (heap_alloc_new w _)).mono ?_
  rintro e w1 ⟨B, rfl, hv, hu1⟩
  have hu1' : Upd NoB w w1 := ((Upd.refl NoB w).alloc _).then hu1 (fun b hb => .inr (by have : b = w.heap.size := hb; omega))
  have HU1 := Lib.hid hu1'
  have HV := Lib.hid hv
  clear hu1 hu1' hv
  go_wp2_with fail
  refine (VUint64_any lo B s R w1 HH.out HV.out (HT.out.upd HU1.out (fun _ h => h.elim)) (Nat.le_trans hlo HU1.out.size)).mono ?_
  rintro e w2 ⟨⟨x, ok, ev, hR, rfl, hev⟩, hu2⟩
  have HRR := Lib.hid hR; clear hR
  have HU2 := Lib.hid (HU1.out.trans hu2)
  clear hu2
  rcases hev with ⟨rfl, rfl⟩ | ⟨rfl, t, y, rfl⟩
  · go_wp2_with fail
    go_region_held3 (fun _ => True) (first | (go_keep; done) | trivial) (fail)
    all_goals
      go_wp2_with fail
      refine bodyPost_ret (v := .tuple #[.int .u64 x, .bool true]) (by simp [results, Tryz.results7, go_sem]) rfl ?_
      exact ⟨⟨x, true, HRR.out, rfl⟩, HU2.out.drew⟩
  · go_wp2_with fail
    go_region_held3 (fun _ => True) (first | (go_keep; done) | trivial) (fail)
    all_goals
      go_wp2_with fail
      refine bodyPost_ret (v := .tuple #[.int .u64 x, .bool false]) (by simp [results, Tryz.results7, go_sem]) rfl ?_
      exact ⟨⟨x, false, HRR.out, rfl⟩, HU2.out.drew⟩

/-- What fastfloat.Parse is known to make of a text. -/
def FFOk (lo : Nat) (s : ByteArray) (R : Nat → Bool → Prop) : Prop := ∀ w, TabsF lo w → lo ≤ w.heap.size → Calls Tryz.prog 28 #[.string s] w fun e w' => (∃ x ok ev, R x ok ∧ e = .returned (.tuple #[.float .f64 x, ev]) ∧ ErrIf ok ev) ∧ Upd NoB w w'
set_option maxHeartbeats 1000000 in
theorem VFloat64_any (lo B : Nat) (s : ByteArray) (R : Nat → Bool → Prop) (w : World) (h : FFOk lo s R) (hv : VW B s 4 w) (hT : TabsF lo w) (hlo : lo ≤ w.heap.size) :
    Calls Tryz.prog 16 #[.pointer (some ⟨B, 0, none⟩)] w fun e w' => (∃ x ok ev, R x ok ∧ e = .returned (.tuple #[.float .f64 x, ev]) ∧ ErrIf ok ev) ∧ Upd NoB w w' := by
  have HT := Lib.hid (Type_any B s w hv)
  have HF := Lib.hid (h w hT hlo)
  obtain ⟨⟨c3, c4⟩, f3, f4⟩ := hv.cells
  clear hv h hT
  go_enter Tryz.func16, Tryz.ntmps16
  go_wp2_with fail
  refine HT.out.mono ?_
  rintro e w1 ⟨rfl, rfl⟩
  go_wp2_with fail
  refine HF.out.mono ?_
  rintro e w2 ⟨⟨x, ok, ev, hR, rfl, hev⟩, hu⟩
  have HE := Lib.hid hev; clear hev
  have HRR := Lib.hid hR; clear hR
  go_wp2_with fail
  refine bodyPost_ret (v := .tuple #[.float .f64 x, ev]) (by simp [results, Tryz.results16, go_sem]) rfl ?_
  exact ⟨⟨x, ok, ev, HRR.out, rfl, HE.out⟩, hu⟩
set_option maxHeartbeats 1000000 in
theorem FjNumberFloat_any (lo : Nat) (s : ByteArray) (R : Nat → Bool → Prop) (w : World) (h : FFOk lo s R) (hT : TabsF lo w) (hlo : lo ≤ w.heap.size) :
    Calls Tryz.prog 9 #[.string s] w fun e w' => (∃ x ok, R x ok ∧ e = .returned (.tuple #[.float .f64 x, .bool ok])) ∧ Upd NoB w w' := by
  have HH := Lib.hid h; clear h
  have HT := Lib.hid hT; clear hT
  go_enter Tryz.func9, Tryz.ntmps9
  go_wp2_with fail
  refine (NewNum_any w.heap.size s (.slice none 0 0) 39 _ (heap_alloc_new w _)).mono ?_
  rintro e w1 ⟨B, rfl, hv, hu1⟩
  have hu1' : Upd NoB w w1 := ((Upd.refl NoB w).alloc _).then hu1 (fun b hb => .inr (by have : b = w.heap.size := hb; omega))
  have HU1 := Lib.hid hu1'
  have HV := Lib.hid hv
  clear hu1 hu1' hv
  go_wp2_with fail
  refine (VFloat64_any lo B s R w1 HH.out HV.out (HT.out.upd HU1.out (fun _ h => h.elim)) (Nat.le_trans hlo HU1.out.size)).mono ?_
  rintro e w2 ⟨⟨x, ok, ev, hR, rfl, hev⟩, hu2⟩
  have HRR := Lib.hid hR; clear hR
  have HU2 := Lib.hid (HU1.out.trans hu2)
  clear hu2
  rcases hev with ⟨rfl, rfl⟩ | ⟨rfl, t, y, rfl⟩
  · go_wp2_with fail
    go_region_held3 (fun _ => True) (first | (go_keep; done) | trivial) (fail)
    all_goals
      go_wp2_with fail
      refine bodyPost_ret (v := .tuple #[.float .f64 x, .bool true]) (by simp [results, Tryz.results9, go_sem]) rfl ?_
      exact ⟨⟨x, true, HRR.out, rfl⟩, HU2.out.drew⟩
  · go_wp2_with fail
    go_region_held3 (fun _ => True) (first | (go_keep; done) | trivial) (fail)
    all_goals
      go_wp2_with fail
      refine bodyPost_ret (v := .tuple #[.float .f64 x, .bool false]) (by simp [results, Tryz.results9, go_sem]) rfl ?_
      exact ⟨⟨x, false, HRR.out, rfl⟩, HU2.out.drew⟩
end Go.Proofs.YtkocponnjfkchaaGreatDoor
