/- fastjson's Parser at a number's text: the value of that text. -/
import Derived.Test.YtkocponnjfkchaaGreatDoorHf
import Derived.Test.YtkocponnjfkchaaGreatDoorFr
import Derived.Deep.AppendSrc
namespace Go.Proofs.YtkocponnjfkchaaGreatDoor
open Go.RowKit

theorem lit95 (g : Nat → Value) : ((List.range 95).map g).toArray = #[g 0, g 1, g 2, g 3, g 4, g 5, g 6, g 7, g 8, g 9, g 10, g 11, g 12, g 13, g 14, g 15, g 16, g 17, g 18, g 19, g 20, g 21, g 22, g 23, g 24, g 25, g 26, g 27, g 28, g 29, g 30, g 31, g 32, g 33, g 34, g 35, g 36, g 37, g 38, g 39, g 40, g 41, g 42, g 43, g 44, g 45, g 46, g 47, g 48, g 49, g 50, g 51, g 52, g 53, g 54, g 55, g 56, g 57, g 58, g 59, g 60, g 61, g 62, g 63, g 64, g 65, g 66, g 67, g 68, g 69, g 70, g 71, g 72, g 73, g 74, g 75, g 76, g 77, g 78, g 79, g 80, g 81, g 82, g 83, g 84, g 85, g 86, g 87, g 88, g 89, g 90, g 91, g 92, g 93, g 94] := by kernel_rfl
set_option maxHeartbeats 1000000 in
theorem skipWS_num (s : ByteArray) (w : World) (hz : 0 < s.size) (h : 32 < bAt s 0) :
    Calls Tryz.prog 23 #[.string s] w fun e w' => e = .returned (.string s) ∧ w' = w := by
  have hB := get_bAt s
  have hz' : (0 : Int) < (s.size : Int) := by omega
  have e0 : ((s.size : Int) == 0) = false := beq_eq_false_iff_ne.2 (by omega)
  have h32 : (32 : Int) < (bAt s 0 : Int) := by omega
  go_enter Tryz.func23, Tryz.ntmps23
  go_wp2_with fail
  go_ret
  exact ⟨rfl, rfl⟩
set_option maxHeartbeats 1000000 in
theorem skipWS_none (w : World) :
    Calls Tryz.prog 23 #[.string ByteArray.empty] w fun e w' => e = .returned (.string ByteArray.empty) ∧ w' = w := by
  go_enter Tryz.func23, Tryz.ntmps23
  go_wp2_with fail
  go_ret
  exact ⟨rfl, rfl⟩
set_option maxHeartbeats 1000000 in
theorem b2s_any (v : Value) (s : ByteArray) (w : World) (h : (convert 34 9 v).run Tryz.prog w = .ok (.string s) w) :
    Calls Tryz.prog 26 #[v] w fun e w' => e = .returned (.string s) ∧ w' = w := by
  go_enter Tryz.func26, Tryz.ntmps26
  go_wp2_with fail
  go_ret
  exact ⟨rfl, rfl⟩
set_option maxHeartbeats 1000000 in
theorem reset_any (g T : Nat) (x : Value) (w : World) (hb : w.heap[g]? = some (.cells #[x, .slice none 0 0] T (0, 0))) :
    Calls Tryz.prog 24 #[.pointer (some ⟨g, 1, none⟩)] w fun e w' => e = .returned (.tuple #[]) ∧ w'.heap[g]? = some (.cells #[x, .slice none 0 0] T (0, 0)) ∧ Upd (OneB g) w w' := by
  have HB := Lib.hid hb; clear hb
  obtain ⟨⟨c0, c1⟩, f0, f1⟩ := two_cells HB.out
  have hB2 : Hid ((w.setCell ⟨g, 1, none⟩ (.slice none 0 0)).heap[g]? = some (.cells #[x, .slice none 0 0] T (0, 0))) := Lib.hid (by rw [heap_setCell_same w g 1 _ _ _ HB.out]; rfl)
  go_enter Tryz.func24, Tryz.ntmps24
  go_wp2_with fail
  refine wp_loop_rounds 1 ?_
  rw [rounds_succ]
  go_wp2_with fail
  go_end0
  exact ⟨rfl, hB2.out, (Upd.refl (OneB g) w).setOne 1 _⟩

set_option maxHeartbeats 4000000 in
set_option maxRecDepth 8000 in
theorem rawNum_any (s : ByteArray) (w : World) (hs : s.size ≤ 1048576) (h : ∀ k, k < s.size → (48 ≤ bAt s k ∧ bAt s k ≤ 57) ∨ bAt s k = 46 ∨ bAt s k = 45 ∨ bAt s k = 101 ∨ bAt s k = 69 ∨ bAt s k = 43) :
    Calls Tryz.prog 38 #[.string s] w fun e w' => e = .returned (.tuple #[.string s, .string ByteArray.empty, .nilIface]) ∧ w' = w := by
  have hB := get_bAt s
  have H := Lib.hid h; clear h
  go_enter Tryz.func38, Tryz.ntmps38
  go_wp2_with fail
  refine wp_loop_ghost_k (fun mm => FR 95 (fun g wx => ∃ k : Nat, mm = s.size - k ∧ (g 0 = .string s ∧ g 10 = .int .i64 (s.size : Int) ∧ g 11 = .int .i64 (k : Int)) ∧ k ≤ s.size ∧ wx = w)) s.size ?atStart ?round
  case atStart =>
    refine FR.intro (by rfl) ?_
    exact ⟨0, rfl, ⟨rfl, rfl, rfl⟩, Nat.zero_le _, rfl⟩
  case round =>
    intro gk
    refine FR.rest ?_
    rintro g wx ⟨k, hm, ⟨e0, e10, e11⟩, hk, rfl⟩
    rw [lit95]
    simp only [e0, e10, e11]
    clear e0 e10 e11
    intro J2 K2 hJ2 hK2
    have Hm := Lib.hid hm; clear hm
    by_cases hlt : k < s.size
    rotate_left
    · have hkz : ¬ (k : Int) < (s.size : Int) := by omega
      go_wp2_with fail
      refine bodyPost_ret (v := .tuple #[.string s, .string ByteArray.empty, .nilIface]) (by first | (simp [results, Tryz.results38, go_sem]; done) | (simp [results, Tryz.results38, go_sem]; rfl)) rfl ?_
      exact ⟨rfl, rfl⟩
    have hkz : (k : Int) < (s.size : Int) := by omega
    rcases H.out k hlt with ⟨h1, h2⟩ | h | h | h | h | h
    · have g1 : (48 : Int) ≤ (bAt s k : Int) := by omega
      have g2 : (bAt s k : Int) ≤ 57 := by omega
      clear h1 h2
      as_aux_lemma =>
        go_wp2_with fail
        refine Handed.intro (s.size - (k + 1)) ?_ ?_
        · have := Hm.out; omega
        go_step
        refine FR.intro (by rfl) ?_
        exact ⟨k + 1, rfl, ⟨rfl, rfl, by simp only [slotOf]; congr 1⟩, hlt, rfl⟩
    · have hbv : (bAt s k : Int) = 46 := by omega
      clear h
      as_aux_lemma =>
        go_wp2_with fail
        refine Handed.intro (s.size - (k + 1)) ?_ ?_
        · have := Hm.out; omega
        go_step
        refine FR.intro (by rfl) ?_
        exact ⟨k + 1, rfl, ⟨rfl, rfl, by simp only [slotOf]; congr 1⟩, hlt, rfl⟩
    · have hbv : (bAt s k : Int) = 45 := by omega
      clear h
      as_aux_lemma =>
        go_wp2_with fail
        refine Handed.intro (s.size - (k + 1)) ?_ ?_
        · have := Hm.out; omega
        go_step
        refine FR.intro (by rfl) ?_
        exact ⟨k + 1, rfl, ⟨rfl, rfl, by simp only [slotOf]; congr 1⟩, hlt, rfl⟩
    · have hbv : (bAt s k : Int) = 101 := by omega
      clear h
      as_aux_lemma =>
        go_wp2_with fail
        refine Handed.intro (s.size - (k + 1)) ?_ ?_
        · have := Hm.out; omega
        go_step
        refine FR.intro (by rfl) ?_
        exact ⟨k + 1, rfl, ⟨rfl, rfl, by simp only [slotOf]; congr 1⟩, hlt, rfl⟩
    · have hbv : (bAt s k : Int) = 69 := by omega
      clear h
      as_aux_lemma =>
        go_wp2_with fail
        refine Handed.intro (s.size - (k + 1)) ?_ ?_
        · have := Hm.out; omega
        go_step
        refine FR.intro (by rfl) ?_
        exact ⟨k + 1, rfl, ⟨rfl, rfl, by simp only [slotOf]; congr 1⟩, hlt, rfl⟩
    · have hbv : (bAt s k : Int) = 43 := by omega
      clear h
      as_aux_lemma =>
        go_wp2_with fail
        refine Handed.intro (s.size - (k + 1)) ?_ ?_
        · have := Hm.out; omega
        go_step
        refine FR.intro (by rfl) ?_
        exact ⟨k + 1, rfl, ⟨rfl, rfl, by simp only [slotOf]; congr 1⟩, hlt, rfl⟩

set_option maxHeartbeats 4000000 in
set_option maxRecDepth 8000 in
theorem parseValue_num (g T : Nat) (x : Value) (s : ByteArray) (w : World) (hs : s.size ≤ 1048576) (hz : 0 < s.size) (h : ∀ k, k < s.size → (48 ≤ bAt s k ∧ bAt s k ≤ 57) ∨ bAt s k = 46 ∨ bAt s k = 45 ∨ bAt s k = 101 ∨ bAt s k = 69 ∨ bAt s k = 43) (hb : w.heap[g]? = some (.cells #[x, .slice none 0 0] T (0, 0))) :
    Calls Tryz.prog 25 #[.pointer (some ⟨g, 1, none⟩), .string s, .int .i64 0] w fun e w' => ∃ B, e = .returned (.tuple #[.pointer (some ⟨B, 0, none⟩), .string ByteArray.empty, .nilIface]) ∧ VW B s 4 w' ∧ (∃ sl, w'.heap[g]? = some (.cells #[x, sl] T (0, 0))) ∧ Upd (OneB g) w w' := by
  have hB := get_bAt s
  have hz' : (0 : Int) < (s.size : Int) := by omega
  have e0 : ((s.size : Int) == 0) = false := beq_eq_false_iff_ne.2 (by omega)
  have h0 := h 0 hz
  have e1 : ((bAt s 0 : Int) == 123) = false := by simp; omega
  have e2 : ((bAt s 0 : Int) == 91) = false := by simp; omega
  have e3 : ((bAt s 0 : Int) == 34) = false := by simp; omega
  have e4 : ((bAt s 0 : Int) == 116) = false := by simp; omega
  have e5 : ((bAt s 0 : Int) == 102) = false := by simp; omega
  have e6 : ((bAt s 0 : Int) == 110) = false := by simp; omega
  have HR := Lib.hid (fun wx => rawNum_any s wx hs h)
  have HG := Lib.hid (getV_any g T x w hb)
  have hg : g < w.heap.size := (Array.getElem?_eq_some_iff.1 hb).1
  clear h h0 hb
  go_enter Tryz.func25, Tryz.ntmps25
  go_upto_if 37 with (fail)
  go_upto_if 52 with (fail)
  go_wp2_with fail
  refine (HR.out _).mono ?_
  rintro e w ⟨rfl, rfl⟩
  go_wp2_with fail
  refine HG.out.mono ?_
  rintro e w1 ⟨B, rfl, hv, hBw, ⟨sl, hsl⟩, hu⟩
  have HSl := Lib.hid (((((Upd.refl (OneB B) w1).setOne 4 (.int .i64 4)).setOne 3 (.string s))).blk hsl (fun h => by have : g = B := h; omega))
  clear hsl
  obtain ⟨⟨c3, c4⟩, f3, f4⟩ := hv.cells
  have hv1 := hv.setT 4
  obtain ⟨⟨d3, d4⟩, g3, g4⟩ := hv1.cells
  have HV := Lib.hid (hv1.setS s)
  have HU : Hid (Upd (OneB g) w ((w1.setCell ⟨B, 4, none⟩ (.int .i64 4)).setCell ⟨B, 3, none⟩ (.string s))) := Lib.hid (hu.then (((Upd.refl (OneB B) w1).setOne 4 _).setOne 3 _) (fun b hb => .inr (by have : b = B := hb; omega)))
  clear hv hv1 hu
  go_wp2_with fail
  refine bodyPost_ret (v := .tuple #[.pointer (some ⟨B, 0, none⟩), .string ByteArray.empty, .nilIface]) (by first | (simp [results, Tryz.results25, go_sem]; done) | (simp [results, Tryz.results25, go_sem]; rfl)) rfl ?_
  exact ⟨B, rfl, HV.out, ⟨sl, HSl.out⟩, HU.out⟩
end Go.Proofs.YtkocponnjfkchaaGreatDoor
