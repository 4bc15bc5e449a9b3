/- The reference's reader: digits, words, escapes, strings, numbers. -/
import Derived.Test.YtggdcpmampjncaaGreatDoorRead1
import Derived.Test.YtggdcpmampjncaaGreatDoorGram
namespace Go.Proofs.YtggdcpmampjncaaGreatDoor
open Go.RowKit

theorem ret_pair {k : IntKind} {a b : Int} {p q : Bool} (h : a = b) (h' : p = q) : Ending.returned (.tuple #[.int k a, .bool p]) = .returned (.tuple #[.int k b, .bool q]) := by rw [h, h']
theorem ret_b {p q : Bool} (h : p = q) : Ending.returned (.bool p) = .returned (.bool q) := by rw [h]
set_option maxHeartbeats 400000 in
theorem hexDigit_any (c : Int) (w : World) (h0 : 0 ≤ c) (h1 : c ≤ 255) :
    Calls Tryz.prog 58 #[.int .u8 c] w fun e w' => e = .returned (.tuple #[.int .i64 (hxV c), .bool (isHx c)]) ∧ w = w' := by
  go_enter Tryz.func58, Tryz.ntmps58
  go_wp2
  all_goals
    go_ret2
    refine ⟨?_, rfl⟩
    have e1 : hxV c = hxV c := rfl
    clear e1
    refine ret_pair ?_ ?_
    · unfold hxV; (repeat' split) <;> omega
    · first | (simp [isHx]; done) | (simp [isHx]; omega) | trace_state

set_option maxHeartbeats 400000 in
theorem digits_any (g : Nat) (s : ByteArray) (i : Nat) (w : World) (hs : s.size ≤ maxLen) (hr : RS 50 g s i w) (hi : i ≤ s.size) :
    Calls Tryz.prog 61 #[.pointer (some ⟨g, 0, none⟩)] w fun e w' =>
      ∃ j, e = .returned (.bool (decide (i < j))) ∧ RS 50 g s j w' ∧ Upd (OneB g) w w' ∧ Digs s i j := by
  have hs' := hs
  unfold maxLen at hs
  have hc0 := hr.c0
  have hc1 := hr.c1
  go_enter Tryz.func61, Tryz.ntmps61
  go_wp2_with (go_at_call 39; refine (here_any g s i _ hs' hr).mono ?_; rintro e w' ⟨rfl, n, rfl⟩)
  go_loopg [4] (s.size - i) (fun k c wr => ∃ j, k = s.size - j ∧ c = .int .u8 (bAt s j : Int) ∧ i ≤ j ∧ j ≤ s.size ∧ RS 50 g s j wr ∧ Upd (OneB g) w wr ∧ (∀ k, i ≤ k → k < j → 48 ≤ bAt s k ∧ bAt s k ≤ 57))
  case atStart => exact ⟨i, rfl, rfl, Nat.le_refl _, hi, hr.drewN _, (Upd.refl _ _).drewN _, fun k h1 h2 => by omega⟩
  case round =>
    obtain ⟨j, hk, rfl, hij, hj, hrj, hu, hb⟩ := hrel
    have Hk := Lib.hid hk; clear hk
    have Hb := Lib.hid hb; clear hb
    have hc0 := hrj.c0
    have hc1 := hrj.c1
    have hfz := hrj.fz
    by_cases h1 : 48 ≤ (bAt s j : Int)
    · by_cases h2 : (bAt s j : Int) ≤ 57
      · have hlt : j < s.size := by
          by_cases h : j < s.size
          · exact h
          · simp [bAt, h] at h1
        go_wp2_with (go_at_call 39; refine (here_any g s (j + 1) _ hs' (hrj.set _)).mono ?_; rintro e w' ⟨rfl, n, rfl⟩)
        go_roundg (s.size - (j + 1))
        case measure => have := Hk.out; omega
        case rel => exact ⟨j + 1, rfl, rfl, by omega, by omega, by first | exact (hrj.set (j + 1)).drewN _ | exact (hrj.drewN _).set (j + 1), by first | exact (hu.setOne _ _).drewN _ | exact (hu.drewN _).setOne _ _, fun k h3 h4 => by
          by_cases e : k = j
          · subst e; omega
          · exact Hb.out k h3 (by omega)⟩
      · go_wp2_with fail
        go_ret
        exact ⟨j, rfl, hrj, hu, hij, hj, Hb.out, fun _ => by omega⟩
    · go_wp2_with fail
      go_ret
      exact ⟨j, rfl, hrj, hu, hij, hj, Hb.out, fun _ => by omega⟩

set_option maxHeartbeats 400000 in
theorem word_any (g : Nat) (s t : ByteArray) (i : Nat) (w : World) (hs : s.size ≤ 1099511627776) (ht : t.size ≤ 1099511627776) (hr : RS 50 g s i w) (hi : i ≤ s.size) :
    Calls Tryz.prog 44 #[.pointer (some ⟨g, 0, none⟩), .string t] w fun e w' =>
      ∃ b j, e = .returned (.bool b) ∧ RS 50 g s j w' ∧ Upd (OneB g) w w' ∧ (b = true → Wd s i t.data.toList ∧ j = i + t.size) ∧ (b = false → j = i ∧ ¬ Wd s i t.data.toList) := by
  have hc0 := hr.c0
  have hc1 := hr.c1
  have hfz := hr.fz
  by_cases hlt : (s.size : Int) - i < t.size
  · go_enter Tryz.func44, Tryz.ntmps44
    go_wp2
    go_quiet (fail)
    go_wp2
    go_ret
    exact ⟨false, i, rfl, hr.drewN _, (Upd.refl _ _).drewN _, (fun h => by cases h), fun _ => ⟨rfl, fun hw => by have := hw.1; simp at this; omega⟩⟩
  · have hle : i + t.size ≤ s.size := by omega
    have hlf : ¬ ((s.size : Int) - i < t.size) := by omega
    have hw1 : IntKind.i64.wrap ((s.size : Int) - i) = (s.size : Int) - i := IntWalk.i64_in _ (by omega)
    have hw2 : IntKind.i64.wrap ((i : Int) + t.size) = (i : Int) + t.size := IntWalk.i64_in _ (by omega)
    have hw3 : ((i : Int) + t.size).toNat = i + t.size := by omega
    have hd : decide ((s.size : Int) - i < t.size) = false := by simpa using hlf
    have hsl : ∀ wx, (Instr.slice 9 (.string s) (some (.int .i64 (i : Int))) (some (.int .i64 ((i : Int) + t.size))) none).run Tryz.prog wx = .ok (.string (s.extract i (i + t.size))) wx := fun wx => by
      have h := run_slice_string (P := Tryz.prog) wx 9 s .i64 .i64 (i : Int) ((i : Int) + t.size) Tryz.underlying9 (by omega) (by omega) (by omega)
      rw [hw3, Int.toNat_natCast] at h
      exact h
    go_enter Tryz.func44, Tryz.ntmps44
    go_wp2
    go_quiet (fail)
    clear hw1 hw2 hw3 hsl
    go_wp2
    · have hq : (!(s.extract i (i + t.size)).toList == t.toList) = true := by assumption
      rw [Lib.extract_toList, Lib.toList_data] at hq
      go_ret
      exact ⟨false, i, rfl, hr.drewN _, (Upd.refl _ _).drewN _, (fun h => by cases h), fun _ => ⟨rfl, fun hw => by have := hw.2; simp [Nat.add_sub_cancel_left] at hq; exact hq (by simpa using this)⟩⟩
    · have hq : (!(s.extract i (i + t.size)).toList == t.toList) = false := by assumption
      rw [Lib.extract_toList, Lib.toList_data] at hq
      go_ret
      exact ⟨true, i + t.size, rfl, (hr.drewN _).set (i + t.size), ((Upd.refl _ _).drewN _).setOne _ _, fun _ => ⟨⟨by simpa using hle, by simpa [Nat.add_sub_cancel_left] using hq⟩, rfl⟩, (fun h => by cases h)⟩

set_option maxHeartbeats 400000 in
theorem escape_any (g : Nat) (s : ByteArray) (i : Nat) (w : World) (hs : s.size ≤ 1099511627776) (hr : RS 50 g s i w) (hi : i ≤ s.size) :
    Calls Tryz.prog 60 #[.pointer (some ⟨g, 0, none⟩)] w fun e w' =>
      ∃ b j, e = .returned (.bool b) ∧ RS 50 g s j w' ∧ Upd (OneB g) w w' ∧ i ≤ j ∧ j ≤ s.size ∧ (b = true → Esc s i j) ∧ (b = false → ∀ m, ¬ Esc s i m) := by
  have hs' : s.size ≤ maxLen := by unfold maxLen; omega
  have hc0 := hr.c0
  have hc1 := hr.c1
  have hfz := hr.fz
  have hb := bAt_le s i
  by_cases hu : bAt s i = 117
  · have hlt : i < s.size := lt_of_bAt (by omega)
    have h117 : Calls Tryz.prog 39 #[.pointer (some ⟨g, 0, none⟩)] w fun e w' => e = .returned (.int .u8 117) ∧ ∃ n, w' = w.drewN n := (here_any g s i w hs' hr).mono fun _ _ h => ⟨by rw [h.1, hu]; rfl, h.2⟩
    have Hu := Lib.hid hu
    have H1 := Lib.hid h117
    clear hu h117
    go_enter Tryz.func60, Tryz.ntmps60
    go_wp2_with (go_at_call 39; refine H1.out.mono ?_; rintro e w' ⟨rfl, n, rfl⟩)
    clear H1
    go_loopg [3] 4 (fun m c wr => ∃ k : Nat, m = 4 - k ∧ k ≤ 4 ∧ c = .int .i64 (k : Int) ∧ i + 1 + k ≤ s.size ∧ RS 50 g s (i + 1 + k) wr ∧ Upd (OneB g) w wr ∧ (∀ q, q < k → isHx (bAt s (i + 1 + q)) = true))
    case atStart => exact ⟨0, rfl, by omega, rfl, by omega, by first | exact (hr.drewN _).set (i + 1) | exact (hr.set (i + 1)).drewN _, by first | exact ((Upd.refl _ _).drewN _).setOne _ _ | exact ((Upd.refl _ _).setOne _ _).drewN _, fun q hq => by omega⟩
    case round =>
      obtain ⟨k, hm, hk, rfl, hsz, hrj, huj, hall⟩ := hrel
      have Hm := Lib.hid hm; clear hm
      have Ha := Lib.hid hall; clear hall
      have hc0 := hrj.c0
      have hc1 := hrj.c1
      have hfz := hrj.fz
      have hb4 := bAt_le s (i + 1 + k)
      clear hr
      by_cases hlk : k < 4
      · by_cases hx : isHx (bAt s (i + 1 + k)) = true
        · have hlt2 : i + 1 + k < s.size := lt_of_bAt (by simp [isHx] at hx; omega)
          have Hx := Lib.hid hx
          go_wp2_with (first | (go_at_call 39; refine (here_any g s (i + 1 + k) _ hs' hrj).mono ?_; rintro e w' ⟨rfl, n, rfl⟩) | (go_at_call 58; refine (hexDigit_any _ _ (by omega) (by omega)).mono ?_; rintro e w' ⟨rfl, rfl⟩))
          go_roundg (4 - (k + 1))
          case measure => have := Hm.out; omega
          case rel => exact ⟨k + 1, rfl, by omega, by go_num, by omega, by first | exact (hrj.drewN _).set (i + 1 + (k + 1)) | exact (hrj.set (i + 1 + (k + 1))).drewN _, by first | exact (huj.drewN _).setOne _ _ | exact (huj.setOne _ _).drewN _, fun q hq => by
            by_cases e : q = k
            · subst e; exact Hx.out
            · exact Ha.out q (by omega)⟩
        · have hxf : isHx (bAt s (i + 1 + k)) = false := by simpa using hx
          clear hx
          go_wp2_with (first | (go_at_call 39; refine (here_any g s (i + 1 + k) _ hs' hrj).mono ?_; rintro e w' ⟨rfl, n, rfl⟩) | (go_at_call 58; refine (hexDigit_any _ _ (by omega) (by omega)).mono ?_; rintro e w' ⟨rfl, rfl⟩))
          go_ret
          exact ⟨false, _, rfl, hrj.drewN _, huj.drewN _, by omega, by omega, (fun h => by cases h), fun _ m hm => by
            have hu := Hu.out
            rcases hm with ⟨_, _, h3⟩ | ⟨_, _, _, h4⟩
            · omega
            · have := h4 k (by omega); rw [hxf] at this; cases this⟩
      · obtain rfl : k = 4 := by omega
        go_wp2_with fail
        go_ret
        exact ⟨true, _, rfl, hrj, huj, by omega, by omega, (fun _ => .inr ⟨by omega, rfl, Hu.out, Ha.out⟩), (fun h => by cases h)⟩
  · have hf : ((bAt s i : Int) == 117) = false := by simp; omega
    go_enter Tryz.func60, Tryz.ntmps60
    go_wp2_with (go_at_call 39; refine (here_any g s i _ hs' hr).mono ?_; rintro e w' ⟨rfl, n, rfl⟩)
    all_goals go_ret
    all_goals first | exact ⟨true, i + 1, rfl, by first | exact (hr.drewN _).set (i + 1) | exact (hr.set (i + 1)).drewN _, by first | exact ((Upd.refl _ _).drewN _).setOne _ _ | exact ((Upd.refl _ _).setOne _ _).drewN _, by omega, by have : i < s.size := lt_of_bAt (by (try simp only [beq_iff_eq, beq_eq_false_iff_ne, ne_eq] at *); omega); omega, (fun _ => .inl ⟨lt_of_bAt (by (try simp only [beq_iff_eq, beq_eq_false_iff_ne, ne_eq] at *); omega), rfl, by (try simp only [beq_iff_eq, beq_eq_false_iff_ne, ne_eq] at *); omega⟩), (fun h => by cases h)⟩ | exact ⟨false, i, rfl, hr.drewN _, (Upd.refl _ _).drewN _, by omega, by omega, (fun h => by cases h), fun _ m hm => by
        (try simp only [beq_eq_false_iff_ne, ne_eq] at *)
        rcases hm with ⟨_, _, h3⟩ | ⟨_, _, h3, _⟩ <;> omega⟩

set_option maxHeartbeats 400000 in
theorem quoted_any (g : Nat) (s : ByteArray) (i : Nat) (w : World) (hs : s.size ≤ 1099511627776) (hr : RS 50 g s i w) (hi : i < s.size) :
    Calls Tryz.prog 42 #[.pointer (some ⟨g, 0, none⟩)] w fun e w' =>
      ∃ b j, e = .returned (.bool b) ∧ RS 50 g s j w' ∧ Upd (OneB g) w w' ∧ i < j ∧ j ≤ s.size ∧ (b = true → SB s (i + 1) j) ∧ (b = false → ∀ m, ¬ SB s (i + 1) m) := by
  have hs' : s.size ≤ maxLen := by unfold maxLen; omega
  have hc0 := hr.c0
  have hc1 := hr.c1
  have hfz := hr.fz
  go_enter Tryz.func42, Tryz.ntmps42
  go_wp2_with fail
  clear hc0 hc1 hfz
  go_loopg [] (s.size - (i + 1)) (fun m wr => ∃ j, m = s.size - j ∧ i + 1 ≤ j ∧ j ≤ s.size ∧ RS 50 g s j wr ∧ Upd (OneB g) w wr ∧ (∀ e, SB s j e ↔ SB s (i + 1) e))
  case atStart => exact ⟨i + 1, rfl, by omega, by omega, hr.set (i + 1), (Upd.refl _ _).setOne _ _, fun e => Iff.rfl⟩
  case round =>
    obtain ⟨j, hm, hij, hj, hrj, hu, hsb⟩ := hrel
    have Hm := Lib.hid hm; clear hm
    have Hsb := Lib.hid hsb; clear hsb
    have hB := get_bAt s
    have hb := bAt_le s j
    have hc0 := hrj.c0
    have hc1 := hrj.c1
    have hfz := hrj.fz
    clear hr
    by_cases hlt : j < s.size
    · go_wp2_with fail
      go_quiet (fail)
      go_wp2_with fail
      go_quiet (fail)
      go_wp2_with (go_at_call 60; refine (escape_any g s (j + 1) _ hs (by first | exact (hrj.drewN _).set (j + 1) | exact (hrj.set (j + 1)).drewN _ | exact ((hrj.drewN _).drewN _).set (j + 1)) (by omega)).mono ?_; rintro e w' ⟨b, k, rfl, hr', hu', hjk, hk, hx, hnx⟩; cases b)
      · go_ret
        exact ⟨true, j + 1, rfl, by first | exact (hrj.drewN _).set (j + 1) | exact ((hrj.drewN _).drewN _).set (j + 1), by first | exact (hu.drewN _).setOne _ _ | exact ((hu.drewN _).drewN _).setOne _ _, by omega, by omega, (fun _ => (Hsb.out _).1 (.close hlt (by (try simp only [beq_iff_eq] at *); omega))), (fun h => by cases h)⟩
      · go_ret
        exact ⟨false, j + 1, rfl, by first | exact (hrj.drewN _).set (j + 1) | exact ((hrj.drewN _).drewN _).set (j + 1), by first | exact (hu.drewN _).setOne _ _ | exact ((hu.drewN _).drewN _).setOne _ _, by omega, by omega, (fun h => by cases h), fun _ m hm => SB_low (by omega) ((Hsb.out m).2 hm)⟩
      · go_ret
        exact ⟨false, k, rfl, hr', (by first | exact (hu.drewN _).setOne _ _ | exact ((hu.drewN _).drewN _).setOne _ _ : Upd (OneB g) w _).trans hu', by omega, by omega, (fun h => by cases h), fun _ m hm => SB_bad (by (try simp only [beq_iff_eq, beq_eq_false_iff_ne, ne_eq] at *); omega) (hnx trivial) ((Hsb.out m).2 hm)⟩
      · go_roundg (s.size - k)
        case measure => have := Hm.out; omega
        case rel => exact ⟨k, rfl, by omega, by omega, hr', (by first | exact (hu.drewN _).setOne _ _ | exact ((hu.drewN _).drewN _).setOne _ _ : Upd (OneB g) w _).trans hu', fun e => (SB_esc hlt (by (try simp only [beq_iff_eq, beq_eq_false_iff_ne, ne_eq] at *); omega) (hx trivial)).symm.trans (Hsb.out e)⟩
      · go_roundg (s.size - (j + 1))
        case measure => have := Hm.out; omega
        case rel => exact ⟨j + 1, rfl, by omega, by omega, by first | exact (hrj.drewN _).set (j + 1) | exact ((hrj.drewN _).drewN _).set (j + 1), by first | exact (hu.drewN _).setOne _ _ | exact ((hu.drewN _).drewN _).setOne _ _, fun e => (SB_plain hlt (by (try simp only [beq_eq_false_iff_ne, ne_eq] at *); omega) (by omega) (by (try simp only [beq_eq_false_iff_ne, ne_eq] at *); omega)).symm.trans (Hsb.out e)⟩
    · go_wp2_with fail
      go_quiet (fail)
      go_wp2_with fail
      go_ret
      exact ⟨false, j, rfl, hrj.drewN _, hu.drewN _, by omega, by omega, (fun h => by cases h), fun _ m hm => SB_end (by omega) ((Hsb.out m).2 hm)⟩

theorem PNum.exp {s : ByteArray} {i b c m : Nat} (h : PNum s i m) (h1 : ∃ a, Sgn s i a ∧ IntP s a b) (h2 : FracP s b c) : ExpP s c m := by
  obtain ⟨a', b', c', k1, k2, k3, k4⟩ := h
  obtain ⟨a, g1, g2⟩ := h1
  obtain rfl := k1.uniq g1
  obtain rfl := k2.uniq g2
  obtain rfl := k3.uniq h2
  exact k4

/-- What number returns. -/
def NumRet (g : Nat) (s : ByteArray) (i : Nat) (w : World) (e : Ending) (w' : World) : Prop :=
  ∃ b j, e = .returned (.bool b) ∧ RS 50 g s j w' ∧ Upd (OneB g) w w' ∧ i ≤ j ∧ j ≤ s.size ∧ (b = true → PNum s i j) ∧ (b = false → ∀ m, ¬ PNum s i m)

set_option maxHeartbeats 1000000 in
theorem number_any (g : Nat) (s : ByteArray) (i : Nat) (w : World) (hs : s.size ≤ 1099511627776) (hr : RS 50 g s i w) (hi : i ≤ s.size) :
    Calls Tryz.prog 43 #[.pointer (some ⟨g, 0, none⟩)] w fun e w' => NumRet g s i w e w' := by
  have hs' : s.size ≤ maxLen := by unfold maxLen; omega
  go_enter Tryz.func43, Tryz.ntmps43
  go_wp2_with fail
  refine (take_any g s i 45 w hs' hr (by omega) (by omega)).mono ?_
  rintro e w1 ⟨b1, a, rfl, hr1, hu1, ht1, hf1⟩
  have Hs : Hid (Sgn s i a ∧ i ≤ a ∧ a ≤ s.size) := by
    cases b1
    · obtain ⟨rfl, hne⟩ := hf1 rfl; exact ⟨.inl ⟨rfl, by
        by_cases h : a < s.size
        · have := hne h; omega
        · simp [bAt, h]⟩, by omega, by omega⟩
    · obtain ⟨h1, h2, rfl⟩ := ht1 rfl; exact ⟨.inr ⟨h1, by omega, rfl⟩, by omega, by omega⟩
  clear ht1 hf1 hr
  go_upto_region 2 with (fail)
  go_cut [12] (fun s12 wx => ∃ r b, s12 = .bool r ∧ RS 50 g s b wx ∧ Upd (OneB g) w wx ∧ i ≤ b ∧ b ≤ s.size ∧ (r = false → ∃ a, Sgn s i a ∧ IntP s a b) ∧ (r = true → ∀ m, ¬ PNum s i m))
  case first =>
    go_wp2_with fail
    refine (take_any g s a 48 w1 hs' hr1 (by omega) (by omega)).mono ?_
    rintro e w2 ⟨b2, a2, rfl, hr2, hu2, ht2, hf2⟩
    cases b2
    · obtain ⟨rfl, hne⟩ := hf2 rfl
      have Hne : Hid (bAt s a2 ≠ 48) := Lib.hid (by
        by_cases h : a2 < s.size
        · have := hne h; omega
        · simp [bAt, h])
      clear ht2 hf2 hne
      go_wp2_with fail
      refine (digits_any g s a2 w2 hs' hr2 Hs.out.2.2).mono ?_
      rintro e w3 ⟨b3, rfl, hr3, hu3, hd3⟩
      by_cases hlt : a2 < b3
      · have Hl := Lib.hid hlt
        rw [show decide (a2 < b3) = true by simpa using hlt]
        go_wp2_with fail
        go_meet
        exact ⟨false, b3, rfl, hr3, (hu1.trans hu2).trans hu3, by have := Hs.out; omega, hd3.2.1, (fun _ => ⟨a2, Hs.out.1, .inr ⟨Hne.out, hlt, hd3⟩⟩), (fun h => by cases h)⟩
      · rw [show decide (a2 < b3) = false by simpa using hlt]
        go_wp2_with fail
        go_meet
        exact ⟨true, b3, rfl, hr3, (hu1.trans hu2).trans hu3, by have := Hs.out; have := hd3.1; omega, hd3.2.1, (fun h => by cases h), fun _ m hm => by
          obtain ⟨a', b', c', h1, h2, _⟩ := hm
          obtain rfl := h1.uniq Hs.out.1
          have := Hne.out
          rcases h2 with ⟨_, h, _⟩ | ⟨_, h3, h4⟩
          · omega
          · have := h4.uniq hd3; omega⟩
    · obtain ⟨h1, h2, rfl⟩ := ht2 rfl
      clear ht2 hf2
      go_wp2_with fail
      go_meet
      exact ⟨false, a + 1, rfl, hr2, hu1.trans hu2, by have := Hs.out; omega, by omega, (fun _ => ⟨a, Hs.out.1, .inl ⟨h1, by omega, rfl⟩⟩), (fun h => by cases h)⟩
  case rest =>
  obtain ⟨r, b, rfl, hrb, hub, hib, hbs, hint, hnint⟩ := hcut
  clear hr1 hu1 Hs
  cases r
  · have Hi := Lib.hid (hint rfl)
    clear hint hnint
    go_upto_region 4 with (fail)
    go_cut [19] (fun s19 wx => ∃ r c, s19 = .bool r ∧ RS 50 g s c wx ∧ Upd (OneB g) w wx ∧ i ≤ c ∧ c ≤ s.size ∧ (r = false → FracP s b c) ∧ (r = true → ∀ m, ¬ FracP s b m))
    case first =>
      go_wp2_with fail
      refine (take_any g s b 46 _ hs' hrb (by omega) (by omega)).mono ?_
      rintro e w2 ⟨b2, a2, rfl, hr2, hu2, ht2, hf2⟩
      cases b2
      · obtain ⟨rfl, hne⟩ := hf2 rfl
        have Hne : Hid (bAt s a2 ≠ 46) := Lib.hid (by
          by_cases h : a2 < s.size
          · have := hne h; omega
          · simp [bAt, h])
        clear ht2 hf2 hne
        go_wp2_with fail
        go_meet
        exact ⟨false, a2, rfl, hr2, hub.trans hu2, hib, hbs, (fun _ => .inl ⟨rfl, Hne.out⟩), (fun h => by cases h)⟩
      · obtain ⟨h1, h2, rfl⟩ := ht2 rfl
        clear ht2 hf2
        go_wp2_with fail
        refine (digits_any g s (b + 1) w2 hs' hr2 (by omega)).mono ?_
        rintro e w3 ⟨b3, rfl, hr3, hu3, hd3⟩
        by_cases hlt : b + 1 < b3
        · rw [show decide (b + 1 < b3) = true by simpa using hlt]
          go_wp2_with fail
          go_meet
          exact ⟨false, b3, rfl, hr3, (hub.trans hu2).trans hu3, by omega, hd3.2.1, (fun _ => .inr ⟨h1, by omega, hlt, hd3⟩), (fun h => by cases h)⟩
        · rw [show decide (b + 1 < b3) = false by simpa using hlt]
          go_wp2_with fail
          go_meet
          exact ⟨true, b3, rfl, hr3, (hub.trans hu2).trans hu3, by have := hd3.1; omega, hd3.2.1, (fun h => by cases h), fun _ m hm => by
            rcases hm with ⟨_, h3⟩ | ⟨_, _, h3, h4⟩
            · omega
            · have := h4.uniq hd3; omega⟩
    case rest =>
    obtain ⟨r, c, rfl, hrc, huc, hic, hcs, hfr, hnfr⟩ := hcut
    cases r
    · have Hf := Lib.hid (hfr rfl)
      clear hfr hnfr hrb hub
      go_upto_region 6 with (fail)
      go_cut [25] (fun s25 wx => ∃ r d, s25 = .bool r ∧ RS 50 g s d wx ∧ Upd (OneB g) w wx ∧ d ≤ s.size ∧ (r = false → d = c ∧ bAt s c ≠ 101 ∧ bAt s c ≠ 69) ∧ (r = true → c < s.size ∧ (bAt s c = 101 ∨ bAt s c = 69) ∧ d = c + 1))
      case first =>
        go_wp2_with fail
        refine (take_any g s c 101 _ hs' hrc (by omega) (by omega)).mono ?_
        rintro e w2 ⟨b2, a2, rfl, hr2, hu2, ht2, hf2⟩
        cases b2
        · obtain ⟨rfl, hne⟩ := hf2 rfl
          have Hne : Hid (bAt s a2 ≠ 101) := Lib.hid (by
            by_cases h : a2 < s.size
            · have := hne h; omega
            · simp [bAt, h])
          clear ht2 hf2 hne
          go_wp2_with fail
          refine (take_any g s a2 69 _ hs' hr2 (by omega) (by omega)).mono ?_
          rintro e w3 ⟨b3, a3, rfl, hr3, hu3, ht3, hf3⟩
          go_wp2_with fail
          go_meet
          exact ⟨b3, a3, rfl, hr3, (huc.trans hu2).trans hu3, by cases b3 <;> simp_all <;> omega, fun h => ⟨(hf3 h).1, Hne.out, by
            by_cases h' : a2 < s.size
            · have := (hf3 h).2 h'; omega
            · simp [bAt, h']⟩, fun h => ⟨(ht3 h).1, .inr (by have := (ht3 h).2.1; omega), (ht3 h).2.2⟩⟩
        · obtain ⟨h1, h2, rfl⟩ := ht2 rfl
          clear ht2 hf2
          go_wp2_with fail
          go_meet
          exact ⟨true, c + 1, rfl, hr2, huc.trans hu2, by omega, (fun h => by cases h), fun _ => ⟨h1, .inl (by omega), rfl⟩⟩
      case rest =>
      obtain ⟨r, d, rfl, hrd, hud, hds, hd0, hd1⟩ := hcut
      clear hrc huc
      cases r
      · obtain ⟨rfl, hd2⟩ := hd0 rfl
        have Hd2 := Lib.hid hd2
        clear hd0 hd1 hd2
        go_wp2_with fail
        go_ret
        exact ⟨true, d, rfl, hrd, hud, hic, hds, fun _ => by obtain ⟨a, h1, h2⟩ := Hi.out; exact ⟨a, b, d, h1, h2, Hf.out, .inl ⟨rfl, Hd2.out⟩⟩, (fun h => by cases h)⟩
      · obtain ⟨h1, h2, rfl⟩ := hd1 rfl
        clear hd0 hd1
        have H2 := Lib.hid h2
        clear h2
        go_wp2_with fail
        refine (take_any g s (c + 1) 43 _ hs' hrd (by omega) (by omega)).mono ?_
        rintro e w2 ⟨b2, a2, rfl, hr2, hu2, ht2, hf2⟩
        cases b2
        · obtain ⟨rfl, hne⟩ := hf2 rfl
          have hne2 : bAt s (c + 1) ≠ 43 := by
            by_cases h : c + 1 < s.size
            · have := hne h; omega
            · simp [bAt, h]
          have Hne := Lib.hid hne2
          clear ht2 hf2 hne hne2
          go_wp2_with fail
          refine (take_any g s (c + 1) 45 _ hs' hr2 (by omega) (by omega)).mono ?_
          rintro e w3 ⟨b3, a3, rfl, hr3, hu3, ht3, hf3⟩
          have Hd : Hid (((a3 = c + 1 ∧ bAt s (c + 1) ≠ 43 ∧ bAt s (c + 1) ≠ 45) ∨ (c + 1 < s.size ∧ (bAt s (c + 1) = 43 ∨ bAt s (c + 1) = 45) ∧ a3 = c + 2)) ∧ a3 ≤ s.size) := by
            cases b3
            · obtain ⟨rfl, hne⟩ := hf3 rfl; exact ⟨.inl ⟨rfl, Hne.out, by
                by_cases h : c + 1 < s.size
                · have := hne h; omega
                · simp [bAt, h]⟩, by omega⟩
            · obtain ⟨g1, g2, rfl⟩ := ht3 rfl; exact ⟨.inr ⟨g1, .inr (by omega), rfl⟩, by omega⟩
          clear ht3 hf3
          go_wp2_with fail
          refine (digits_any g s a3 w3 hs' hr3 Hd.out.2).mono ?_
          rintro e w4 ⟨b4, rfl, hr4, hu4, hd4⟩
          go_wp2_with fail
          go_ret
          exact ⟨_, b4, rfl, hr4, ((hud.trans hu2).trans hu3).trans hu4, by have := hd4.1; have := Hd.out; omega, hd4.2.1, fun h => by obtain ⟨a, g1, g2⟩ := Hi.out; exact ⟨a, b, c, g1, g2, Hf.out, .inr ⟨h1, H2.out, a3, Hd.out.1, by simpa using h, hd4⟩⟩, fun h m hm => by
            have hm := PNum.exp hm Hi.out Hf.out
            rcases hm with ⟨_, h5, h6⟩ | ⟨_, _, d', h5, h6, h7⟩
            · have := H2.out; omega
            · obtain rfl : d' = a3 := by
                have h8 := Hd.out.1; have h9 := Hne.out; rcases h5 with ⟨h5, h10⟩ | ⟨h5, h10, h11⟩ <;> rcases h8 with ⟨h8, h12⟩ | ⟨h8, h12, h13⟩ <;> omega
              have := h7.uniq hd4; simp at h; omega⟩
        · obtain ⟨g1, g2, rfl⟩ := ht2 rfl
          clear ht2 hf2
          go_wp2_with fail
          refine (digits_any g s (c + 1 + 1) w2 hs' hr2 (by omega)).mono ?_
          rintro e w4 ⟨b4, rfl, hr4, hu4, hd4⟩
          go_wp2_with fail
          go_ret
          exact ⟨_, b4, rfl, hr4, (hud.trans hu2).trans hu4, by have := hd4.1; omega, hd4.2.1, fun h => by obtain ⟨a, k1, k2⟩ := Hi.out; exact ⟨a, b, c, k1, k2, Hf.out, .inr ⟨h1, H2.out, c + 2, .inr ⟨g1, .inl (by omega), rfl⟩, by simpa using h, hd4⟩⟩, fun h m hm => by
            have hm := PNum.exp hm Hi.out Hf.out
            rcases hm with ⟨_, h5, h6⟩ | ⟨_, _, d', h5, h6, h7⟩
            · have := H2.out; omega
            · obtain rfl : d' = c + 1 + 1 := by
                rcases h5 with ⟨h5, h10⟩ | ⟨h5, h10, h11⟩ <;> omega
              have := h7.uniq hd4; simp at h; omega⟩
    · go_wp2_with fail
      go_ret
      exact ⟨false, c, rfl, hrc, huc, hic, hcs, (fun h => by cases h), fun _ m hm => by
        obtain ⟨a', b', c', h1, h2, h3, _⟩ := hm
        obtain ⟨a, g1, g2⟩ := Hi.out
        obtain rfl := h1.uniq g1
        obtain rfl := h2.uniq g2
        exact hnfr trivial _ h3⟩
  · go_wp2_with fail
    go_ret
    exact ⟨false, b, rfl, hrb, hub, hib, hbs, (fun h => by cases h), fun _ => hnint trivial⟩
end Go.Proofs.YtggdcpmampjncaaGreatDoor
