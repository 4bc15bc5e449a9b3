/- The reference's reader: the walks of its small functions. -/
import Derived.Test.YtggdcpmampjncaaGreatDoorProg
import Derived.Test.YtggdcpmampjncaaGreatDoorBase
namespace Go.Proofs.YtggdcpmampjncaaGreatDoor
open Go.RowKit

set_option maxHeartbeats 400000 in
theorem Blank_any (c : Int) (w : World) (_h0 : 0 ≤ c) (_h1 : c ≤ 255) :
    Calls Tryz.prog 38 #[.int .u8 c] w fun e w' => e = .returned (.bool (isBl c)) ∧ w = w' := by
  go_enter Tryz.func38, Tryz.ntmps38
  go_wp2
  all_goals
    go_ret
    refine ⟨?_, rfl⟩
    simp_all [isBl]

set_option maxHeartbeats 400000 in
theorem here_any (g : Nat) (s : ByteArray) (i : Nat) (w : World) (_hs : s.size ≤ maxLen) (hr : RS 50 g s i w) :
    Calls Tryz.prog 39 #[.pointer (some ⟨g, 0, none⟩)] w fun e w' => e = .returned (.int .u8 (bAt s i : Int)) ∧ ∃ n, w' = w.drewN n := by
  unfold maxLen at _hs
  have hc0 := hr.c0
  have hc1 := hr.c1
  by_cases hi : i < s.size
  · have HB := Lib.hid (bAt_eq hi)
    go_enter Tryz.func39, Tryz.ntmps39
    go_wp2
    go_quiet (fail)
    go_wp2
    go_quiet (fail)
    go_wp2
    go_ret
    exact ⟨by rw [HB.out]; rfl, _, World.drewN_drewN ..⟩
  · have HB := Lib.hid (show bAt s i = 0 by simp [bAt, hi])
    go_enter Tryz.func39, Tryz.ntmps39
    go_wp2
    go_quiet (fail)
    go_wp2
    go_ret
    exact ⟨by rw [HB.out]; rfl, _, rfl⟩

set_option maxHeartbeats 400000 in
theorem take_any (g : Nat) (s : ByteArray) (i : Nat) (c : Int) (w : World) (hs : s.size ≤ maxLen) (hr : RS 50 g s i w) (_h0 : 0 ≤ c) (_h1 : c ≤ 255) :
    Calls Tryz.prog 59 #[.pointer (some ⟨g, 0, none⟩), .int .u8 c] w fun e w' =>
      ∃ b j, e = .returned (.bool b) ∧ RS 50 g s j w' ∧ Upd (OneB g) w w' ∧ (b = true → i < s.size ∧ (bAt s i : Int) = c ∧ j = i + 1) ∧ (b = false → j = i ∧ (i < s.size → (bAt s i : Int) ≠ c)) := by
  unfold maxLen at hs
  have hc0 := hr.c0
  have hc1 := hr.c1
  have hfz := hr.fz
  by_cases hi : i < s.size
  · have HB := Lib.hid (bAt_eq hi)
    by_cases hc : ((s[i].toNat : Int) == c) = true
    · go_enter Tryz.func59, Tryz.ntmps59
      go_wp2
      go_quiet (fail)
      go_wp2
      go_ret
      exact ⟨true, i + 1, rfl, (hr.drewN _).set (i + 1), ((Upd.refl _ _).drewN _).setOne _ _, fun _ => ⟨hi, by rw [HB.out]; simpa using hc, rfl⟩, (fun h => by cases h)⟩
    · have hcf : ((s[i].toNat : Int) == c) = false := by simpa using hc
      go_enter Tryz.func59, Tryz.ntmps59
      go_wp2
      go_quiet (fail)
      go_wp2
      go_ret
      exact ⟨false, i, rfl, hr.drewN _, (Upd.refl _ _).drewN _, (fun h => by cases h), fun _ => ⟨rfl, fun _ => by rw [HB.out]; simpa using hc⟩⟩
  · go_enter Tryz.func59, Tryz.ntmps59
    go_wp2
    go_quiet (fail)
    go_wp2
    go_ret
    exact ⟨false, i, rfl, hr.drewN _, (Upd.refl _ _).drewN _, (fun h => by cases h), fun _ => ⟨rfl, fun h => absurd h hi⟩⟩

set_option maxHeartbeats 400000 in
theorem blanks_any (g : Nat) (s : ByteArray) (i : Nat) (w : World) (hs : s.size ≤ maxLen) (hr : RS 50 g s i w) (hi : i ≤ s.size) :
    Calls Tryz.prog 18 #[.pointer (some ⟨g, 0, none⟩)] w fun e w' =>
      e = .returned (.tuple #[]) ∧ ∃ j, i ≤ j ∧ j ≤ s.size ∧ RS 50 g s j w' ∧ Upd (OneB g) w w' ∧ (∀ k, i ≤ k → k < j → isBl (bAt s k) = true) ∧ (j < s.size → isBl (bAt s j) = false) := by
  unfold maxLen at hs
  go_enter Tryz.func18, Tryz.ntmps18
  go_wp2
  go_loopg [] (s.size - i) (fun k wr => ∃ j, k = s.size - j ∧ i ≤ j ∧ j ≤ s.size ∧ RS 50 g s j wr ∧ Upd (OneB g) w wr ∧ (∀ k, i ≤ k → k < j → isBl (bAt s k) = true))
  case atStart => exact ⟨i, rfl, Nat.le_refl _, hi, hr, Upd.refl _ _, fun k h1 h2 => by omega⟩
  case round =>
    obtain ⟨j, hk, hij, hj, hrj, hu, hb⟩ := hrel
    have Hk := Lib.hid hk; clear hk
    have Hb := Lib.hid hb; clear hb
    have hc0 := hrj.c0
    have hc1 := hrj.c1
    have hfz := hrj.fz
    by_cases hlt : j < s.size
    · have HB := Lib.hid (bAt_eq hlt)
      have hle := (s[j]).toNat_lt
      by_cases hbl : isBl (s[j].toNat : Int) = true
      · have Hbl := Lib.hid hbl
        go_wp2
        go_quiet ((go_at_call 38; exact Calls.quiet_of_same ((Blank_any _ _ (by omega) (by omega)).mono fun _ _ h => ⟨h.1, h.2.symm⟩)))
        go_wp2
        go_roundg (s.size - (j + 1))
        case measure => have := Hk.out; omega
        case rel => exact ⟨j + 1, rfl, by omega, by omega, (hrj.drewN _).set (j + 1), (hu.drewN _).setOne _ _, fun k h1 h2 => by
          by_cases e : k = j
          · subst e; rw [HB.out]; exact Hbl.out
          · exact Hb.out k h1 (by omega)⟩
      · have hbf : isBl (s[j].toNat : Int) = false := by simpa using hbl
        clear hbl
        go_wp2
        go_quiet ((go_at_call 38; exact Calls.quiet_of_same ((Blank_any _ _ (by omega) (by omega)).mono fun _ _ h => ⟨h.1, h.2.symm⟩)))
        go_wp2
        go_end0
        exact ⟨rfl, j, hij, hj, hrj.drewN _, hu.drewN _, Hb.out, fun _ => by rw [HB.out]; exact hbf⟩
    · go_wp2
      go_quiet (fail)
      go_wp2
      go_end0
      exact ⟨rfl, j, hij, hj, hrj.drewN _, hu.drewN _, Hb.out, fun h => absurd h hlt⟩
end Go.Proofs.YtggdcpmampjncaaGreatDoor
