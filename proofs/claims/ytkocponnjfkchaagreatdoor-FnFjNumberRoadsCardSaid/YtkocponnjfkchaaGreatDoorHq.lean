/- fastjson's Parse of a number's text; the thin package's calls behind it. -/
import Derived.Test.YtkocponnjfkchaaGreatDoorHp
namespace Go.Proofs.YtkocponnjfkchaaGreatDoor
open Go.RowKit

theorem infoByte8 : (Tryz.prog.info? 5).map (fun i => (i.zero, i.size, i.bytes)) = some (some (.int .u8 0), 1, 1) := by kernel_rfl
/-- append(nil, s...): a new block of the text's bytes. -/
theorem app_text (s : ByteArray) (w : World) (hz : 0 < s.size) (hs : s.size ≤ 1048576) : ∃ cp W, (∀ ty, (Builtin.append_ #[34, 9] ty #[.slice none 0 0, .string s]).run Tryz.prog w = .ok (.slice (some ⟨w.heap.size, 0, none⟩) s.size cp) W) ∧
    (∀ j, j < s.size → W.cell? ⟨w.heap.size, j, none⟩ = some (.int .u8 (bAt s j : Int))) ∧ Upd NoB w W ∧ w.heap.size < W.heap.size := by
  obtain ⟨i0, hi0, hz0, hz1, hz2⟩ := info_parts infoByte8
  have hsrc : Src Tryz.prog i0.size 9 (.string s) s.size (byteCells s) w := by rw [hz1]; exact Src.ofString w Tryz.underlying9 s
  refine ⟨grownCap w (0 + s.size) 0 5, w.drew.alloc (.cells (([] ++ byteCells s).toArray ++ Builtin.zeroCells (Value.cells (.int .u8 0)) (grownCap w (0 + s.size) 0 5 - (0 + s.size))) 5), fun ty => ?_, fun j hj => ?_, (Upd.refl NoB w).drew.alloc _, by simp⟩
  · have h := run_append_grow_src w 34 9 ty 5 i0 _ Tryz.underlying34 hi0 hz0 none 0 0 [] (run_firstCells_none w.drew i0.size 0 0 0) (.string s) s.size (byteCells s) hsrc (by omega) (by omega) (by
      rw [hz2, Nat.mul_one]
      have := nextslicecap_le (need := 0 + s.size) (old := 0) (by omega)
      omega)
    rw [Nat.zero_add] at h ⊢
    exact h
  · have hb := heap_alloc_new w.drew (.cells (([] ++ byteCells s).toArray ++ Builtin.zeroCells (Value.cells (.int .u8 0)) (grownCap w (0 + s.size) 0 5 - (0 + s.size))) 5)
    have hl := byteCells_length s
    have hb' : (w.drew.alloc (.cells (([] ++ byteCells s).toArray ++ Builtin.zeroCells (Value.cells (.int .u8 0)) (grownCap w (0 + s.size) 0 5 - (0 + s.size))) 5)).heap[w.heap.size]? = _ := hb
    rw [cell_of_row _ _ j _ _ _ hb', List.nil_append, Array.getElem?_append_left (by simp; omega), List.getElem?_toArray, byteCells, List.getElem?_map]
    have hj' : j < s.data.toList.length := by simpa using hj
    rw [List.getElem?_eq_getElem hj', bAt_eq hj]
    rfl

theorem wpList_app_text {w : World} {ops : Array Oper} {rest : List Oper} {o : Oper} {a : Act} {Q : Exit → Act → World → Prop} (hgd : o.guard = none) (sl x : Operand)
    (ho : o.op = .call { callee := .builtin .append, args := #[sl, x], argTypes := #[34, 9] })
    (s : ByteArray) (hs : a.eval sl = .slice none 0 0) (hx : a.eval x = .string s) (hz : 0 < s.size) (hsz : s.size ≤ 1048576)
    (h : ∀ cp W, (∀ j, j < s.size → W.cell? ⟨w.heap.size, j, none⟩ = some (.int .u8 (bAt s j : Int))) → Upd NoB w W → w.heap.size < W.heap.size → wpList Tryz.prog ops Q rest (a.put o.dst (.slice (some ⟨w.heap.size, 0, none⟩) s.size cp)) W) : wpList Tryz.prog ops Q (o :: rest) a w := by
  obtain ⟨cp, W, hr, h2, h3, h4⟩ := app_text s w hz hsz
  refine wpList_plain hgd fun _ hK => ?_
  unfold Oper.wp execOp
  simp only [ho, resolve, invoke, builtin, Sem.run_bind, Sem.run_pure, Result.andThen_ok, List.map_toArray, List.map_cons, List.map_nil, hs, hx, hr]
  exact hK _ _ (h cp W h2 h3 h4)

set_option maxHeartbeats 4000000 in
set_option maxRecDepth 8000 in
theorem Parse_num (g : Nat) (s : ByteArray) (w : World) (hs : s.size ≤ 1048576) (hz : 0 < s.size) (h : ∀ k, k < s.size → (48 ≤ bAt s k ∧ bAt s k ≤ 57) ∨ bAt s k = 46 ∨ bAt s k = 45 ∨ bAt s k = 101 ∨ bAt s k = 69 ∨ bAt s k = 43) (hb : w.heap[g]? = some (.cells #[.slice none 0 0, .slice none 0 0] 46 (0, 0))) :
    Calls Tryz.prog 14 #[.pointer (some ⟨g, 0, none⟩), .string s] w fun e w' => ∃ B, e = .returned (.tuple #[.pointer (some ⟨B, 0, none⟩), .nilIface]) ∧ VW B s 4 w' ∧ Upd (OneB g) w w' := by
  have h0 := h 0 hz
  have HS := Lib.hid (skipWS_num s w hz (by omega))
  have HB := Lib.hid hb; clear hb
  have hg : g < w.heap.size := (Array.getElem?_eq_some_iff.1 HB.out).1
  obtain ⟨⟨c0, c1⟩, f0, f1⟩ := two_cells HB.out
  have HPV := Lib.hid (fun T x wx hb => parseValue_num g T x s wx hs hz h hb)
  clear h h0
  go_enter Tryz.func14, Tryz.ntmps14
  go_wp2_with fail
  refine HS.out.mono ?_
  rintro e w ⟨rfl, rfl⟩
  go_wp2_with (at_builtin; refine wpList_app_text rfl _ _ rfl s rfl rfl hz hs ?_)
  intro cp W hcell hup hlt
  have HC := Lib.hid hcell; clear hcell
  have hBW := hup.blk HB.out (fun h => h)
  obtain ⟨⟨d0, d1⟩, g0, g1⟩ := two_cells hBW
  have hB3 : (W.setCell ⟨g, 0, none⟩ (.slice (some ⟨w.heap.size, 0, none⟩) s.size cp)).heap[g]? = some (.cells #[.slice (some ⟨w.heap.size, 0, none⟩) s.size cp, .slice none 0 0] 46 (0, 0)) := by
    rw [heap_setCell_same W g 0 _ _ _ hBW]; rfl
  have HR := Lib.hid (reset_any g 46 _ _ hB3)
  have HU3 : Hid (Upd (OneB g) w (W.setCell ⟨g, 0, none⟩ (.slice (some ⟨w.heap.size, 0, none⟩) s.size cp))) := Lib.hid ((hup.of_none).setOne 0 _)
  have HC3 : Hid (∀ j, j < s.size → (W.setCell ⟨g, 0, none⟩ (.slice (some ⟨w.heap.size, 0, none⟩) s.size cp)).cell? ⟨w.heap.size, j, none⟩ = some (.int .u8 (bAt s j : Int))) := Lib.hid (fun j hj => ((Upd.refl (OneB g) W).setOne 0 _).cell (HC.out j hj) (fun h => by have : w.heap.size = g := h; omega))
  clear hup hBW hB3 c0 c1 f0 f1 HC
  go_wp2_with fail
  refine HR.out.mono ?_
  rintro e w5 ⟨rfl, hb5, hu5⟩
  have HB5 := Lib.hid hb5
  have HC5 : Hid (∀ j, j < s.size → w5.cell? ⟨w.heap.size, j, none⟩ = some (.int .u8 (bAt s j : Int))) := Lib.hid (fun j hj => hu5.cell (HC3.out j hj) (fun h => by have : w.heap.size = g := h; omega))
  have HU5 := Lib.hid (HU3.out.trans hu5)
  clear hu5 d0 d1 g0 g1
  obtain ⟨⟨d0, d1⟩, g0, g1⟩ := two_cells hb5
  clear hb5
  have hcv : (convert 34 9 (.slice (some ⟨w.heap.size, 0, none⟩) s.size cp)).run Tryz.prog w5.drew = .ok (.string s) w5.drew := by
    have hl : s.data.toList.length = s.size := by simp
    have h := run_convert_bytes_back (P := Tryz.prog) w5.drew 34 9 5 ⟨w.heap.size, 0, none⟩ cp s.data.toList Tryz.underlying34 Tryz.underlying5 Tryz.underlying9 (fun j hj => by
      have hj' : j < s.size := by omega
      have h1 := HC5.out j hj'
      rw [bAt_eq hj'] at h1
      rw [Addr.add_lit, Nat.zero_add]
      exact h1)
    rw [hl] at h
    exact h
  have HBS := Lib.hid (b2s_any _ s w5.drew hcv)
  have HPV5 := Lib.hid (HPV.out 46 _ w5.drew HB5.out)
  have HSN := Lib.hid (fun wx => skipWS_none wx)
  go_wp2_with fail
  go_region_held3 (fun w' => w'.cell? ⟨g, 0, none⟩ = some (.slice (some ⟨w.heap.size, 0, none⟩) s.size cp)) (first | (go_keep; done) | assumption) (first | (go_at_call 26; refine HBS.out.mono ?_; rintro e w6 ⟨rfl, rfl⟩) | (go_at_call 25; refine HPV5.out.mono ?_; rintro e w7 ⟨B, rfl, hv7, ⟨sl, hsl⟩, hu7⟩; obtain ⟨⟨k0, k1⟩, _⟩ := two_cells hsl))
  all_goals
    have HV7 := Lib.hid hv7
    have HU7 := Lib.hid (HU5.out.drew.trans hu7)
    clear hv7 hu7 hsl k0 k1
    go_wp2_with fail
    refine (HSN.out _).mono ?_
    rintro e w8 ⟨rfl, rfl⟩
    go_wp2_with fail
    refine bodyPost_ret (v := .tuple #[.pointer (some ⟨B, 0, none⟩), .nilIface]) (by simp [results, Tryz.results14, go_sem]) rfl ?_
    exact ⟨B, rfl, HV7.out, HU7.out⟩

set_option maxHeartbeats 4000000 in
theorem FjInt64_any (lo : Nat) (s : ByteArray) (R : Int → Bool → Prop) (w : World) (hs : s.size ≤ 1048576) (hz : 0 < s.size) (hn : ∀ k, k < s.size → (48 ≤ bAt s k ∧ bAt s k ≤ 57) ∨ bAt s k = 46 ∨ bAt s k = 45 ∨ bAt s k = 101 ∨ bAt s k = 69 ∨ bAt s k = 43) (h : FIOk lo s R) (hT : TabsF lo w) (hlo : lo ≤ w.heap.size) :
    Calls Tryz.prog 6 #[.string s] w fun e w' => (∃ x ok, R x ok ∧ e = .returned (.tuple #[.int .i64 x, .bool ok])) ∧ Upd NoB w w' := by
  have HH := Lib.hid h; clear h
  have HT := Lib.hid hT; clear hT
  have HP := Lib.hid (fun g wx hb => Parse_num g s wx hs hz hn hb)
  clear hn
  go_enter Tryz.func6, Tryz.ntmps6
  go_wp2_with fail
  refine (HP.out w.heap.size _ (heap_alloc_new w _)).mono ?_
  rintro e w1 ⟨B, rfl, hv, hu1⟩
  have hu1' : Upd NoB w w1 := ((Upd.refl NoB w).alloc _).then hu1 (fun b hb => .inr (by have : b = w.heap.size := hb; omega))
  have HU1 := Lib.hid hu1'
  have HV := Lib.hid hv
  clear hu1 hu1' hv
  go_wp2_with fail
  refine (VInt64_any lo B s R w1 HH.out HV.out (HT.out.upd HU1.out (fun _ h => h.elim)) (Nat.le_trans hlo HU1.out.size)).mono ?_
  rintro e w2 ⟨⟨x, ok, ev, hR, rfl, hev⟩, hu2⟩
  have HRR := Lib.hid hR; clear hR
  have HU2 := Lib.hid (HU1.out.trans hu2)
  clear hu2
  rcases hev with ⟨rfl, rfl⟩ | ⟨rfl, t, y, rfl⟩
  · go_wp2_with fail
    go_region_held3 (fun _ => True) (first | (go_keep; done) | trivial) (fail)
    all_goals
      go_wp2_with fail
      refine bodyPost_ret (v := .tuple #[.int .i64 x, .bool true]) (by simp [results, Tryz.results6, go_sem]) rfl ?_
      exact ⟨⟨x, true, HRR.out, rfl⟩, HU2.out.drew⟩
  · go_wp2_with fail
    go_region_held3 (fun _ => True) (first | (go_keep; done) | trivial) (fail)
    all_goals
      go_wp2_with fail
      refine bodyPost_ret (v := .tuple #[.int .i64 x, .bool false]) (by simp [results, Tryz.results6, go_sem]) rfl ?_
      exact ⟨⟨x, false, HRR.out, rfl⟩, HU2.out.drew⟩

set_option maxHeartbeats 4000000 in
theorem FjUint64_any (lo : Nat) (s : ByteArray) (R : Int → Bool → Prop) (w : World) (hs : s.size ≤ 1048576) (hz : 0 < s.size) (hn : ∀ k, k < s.size → (48 ≤ bAt s k ∧ bAt s k ≤ 57) ∨ bAt s k = 46 ∨ bAt s k = 45 ∨ bAt s k = 101 ∨ bAt s k = 69 ∨ bAt s k = 43) (h : FUOk lo s R) (hT : TabsF lo w) (hlo : lo ≤ w.heap.size) :
    Calls Tryz.prog 8 #[.string s] w fun e w' => (∃ x ok, R x ok ∧ e = .returned (.tuple #[.int .u64 x, .bool ok])) ∧ Upd NoB w w' := by
  have HH := Lib.hid h; clear h
  have HT := Lib.hid hT; clear hT
  have HP := Lib.hid (fun g wx hb => Parse_num g s wx hs hz hn hb)
  clear hn
  go_enter Tryz.func8, Tryz.ntmps8
  go_wp2_with fail
  refine (HP.out w.heap.size _ (heap_alloc_new w _)).mono ?_
  rintro e w1 ⟨B, rfl, hv, hu1⟩
  have hu1' : Upd NoB w w1 := ((Upd.refl NoB w).alloc _).then hu1 (fun b hb => .inr (by have : b = w.heap.size := hb; omega))
  have HU1 := Lib.hid hu1'
  have HV := Lib.hid hv
  clear hu1 hu1' hv
  go_wp2_with fail
  refine (VUint64_any lo B s R w1 HH.out HV.out (HT.out.upd HU1.out (fun _ h => h.elim)) (Nat.le_trans hlo HU1.out.size)).mono ?_
  rintro e w2 ⟨⟨x, ok, ev, hR, rfl, hev⟩, hu2⟩
  have HRR := Lib.hid hR; clear hR
  have HU2 := Lib.hid (HU1.out.trans hu2)
  clear hu2
  rcases hev with ⟨rfl, rfl⟩ | ⟨rfl, t, y, rfl⟩
  · go_wp2_with fail
    go_region_held3 (fun _ => True) (first | (go_keep; done) | trivial) (fail)
    all_goals
      go_wp2_with fail
      refine bodyPost_ret (v := .tuple #[.int .u64 x, .bool true]) (by simp [results, Tryz.results8, go_sem]) rfl ?_
      exact ⟨⟨x, true, HRR.out, rfl⟩, HU2.out.drew⟩
  · go_wp2_with fail
    go_region_held3 (fun _ => True) (first | (go_keep; done) | trivial) (fail)
    all_goals
      go_wp2_with fail
      refine bodyPost_ret (v := .tuple #[.int .u64 x, .bool false]) (by simp [results, Tryz.results8, go_sem]) rfl ?_
      exact ⟨⟨x, false, HRR.out, rfl⟩, HU2.out.drew⟩

set_option maxHeartbeats 4000000 in
theorem FjFloat_any (lo : Nat) (s : ByteArray) (R : Nat → Bool → Prop) (w : World) (hs : s.size ≤ 1048576) (hz : 0 < s.size) (hn : ∀ k, k < s.size → (48 ≤ bAt s k ∧ bAt s k ≤ 57) ∨ bAt s k = 46 ∨ bAt s k = 45 ∨ bAt s k = 101 ∨ bAt s k = 69 ∨ bAt s k = 43) (h : FFOk lo s R) (hT : TabsF lo w) (hlo : lo ≤ w.heap.size) :
    Calls Tryz.prog 10 #[.string s] w fun e w' => (∃ x ok, R x ok ∧ e = .returned (.tuple #[.float .f64 x, .bool ok])) ∧ Upd NoB w w' := by
  have HH := Lib.hid h; clear h
  have HT := Lib.hid hT; clear hT
  have HP := Lib.hid (fun g wx hb => Parse_num g s wx hs hz hn hb)
  clear hn
  go_enter Tryz.func10, Tryz.ntmps10
  go_wp2_with fail
  refine (HP.out w.heap.size _ (heap_alloc_new w _)).mono ?_
  rintro e w1 ⟨B, rfl, hv, hu1⟩
  have hu1' : Upd NoB w w1 := ((Upd.refl NoB w).alloc _).then hu1 (fun b hb => .inr (by have : b = w.heap.size := hb; omega))
  have HU1 := Lib.hid hu1'
  have HV := Lib.hid hv
  clear hu1 hu1' hv
  go_wp2_with fail
  refine (VFloat64_any lo B s R w1 HH.out HV.out (HT.out.upd HU1.out (fun _ h => h.elim)) (Nat.le_trans hlo HU1.out.size)).mono ?_
  rintro e w2 ⟨⟨x, ok, ev, hR, rfl, hev⟩, hu2⟩
  have HRR := Lib.hid hR; clear hR
  have HU2 := Lib.hid (HU1.out.trans hu2)
  clear hu2
  rcases hev with ⟨rfl, rfl⟩ | ⟨rfl, t, y, rfl⟩
  · go_wp2_with fail
    go_region_held3 (fun _ => True) (first | (go_keep; done) | trivial) (fail)
    all_goals
      go_wp2_with fail
      refine bodyPost_ret (v := .tuple #[.float .f64 x, .bool true]) (by simp [results, Tryz.results10, go_sem]) rfl ?_
      exact ⟨⟨x, true, HRR.out, rfl⟩, HU2.out.drew⟩
  · go_wp2_with fail
    go_region_held3 (fun _ => True) (first | (go_keep; done) | trivial) (fail)
    all_goals
      go_wp2_with fail
      refine bodyPost_ret (v := .tuple #[.float .f64 x, .bool false]) (by simp [results, Tryz.results10, go_sem]) rfl ?_
      exact ⟨⟨x, false, HRR.out, rfl⟩, HU2.out.drew⟩
end Go.Proofs.YtkocponnjfkchaaGreatDoor
