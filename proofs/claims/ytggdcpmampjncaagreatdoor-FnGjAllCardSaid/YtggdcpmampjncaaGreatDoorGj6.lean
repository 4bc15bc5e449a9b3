/- The package's tostr: a string's text and its characters. -/
import Derived.Test.YtggdcpmampjncaaGreatDoorGj2
import Derived.Test.YtggdcpmampjncaaGreatDoorGj5
import Derived.Test.YtggdcpmampjncaaGreatDoorSpec3
import Derived.Deep.RegionHeld3
namespace Go.Proofs.YtggdcpmampjncaaGreatDoor
open Go.RowKit

/-- The frame of tostr. -/
theorem lit97 (g : Nat → Value) : ((List.range 97).map g).toArray = #[g 0, g 1, g 2, g 3, g 4, g 5, g 6, g 7, g 8, g 9, g 10, g 11, g 12, g 13, g 14, g 15, g 16, g 17, g 18, g 19, g 20, g 21, g 22, g 23, g 24, g 25, g 26, g 27, g 28, g 29, g 30, g 31, g 32, g 33, g 34, g 35, g 36, g 37, g 38, g 39, g 40, g 41, g 42, g 43, g 44, g 45, g 46, g 47, g 48, g 49, g 50, g 51, g 52, g 53, g 54, g 55, g 56, g 57, g 58, g 59, g 60, g 61, g 62, g 63, g 64, g 65, g 66, g 67, g 68, g 69, g 70, g 71, g 72, g 73, g 74, g 75, g 76, g 77, g 78, g 79, g 80, g 81, g 82, g 83, g 84, g 85, g 86, g 87, g 88, g 89, g 90, g 91, g 92, g 93, g 94, g 95, g 96] := by kernel_rfl

set_option maxHeartbeats 4000000 in
set_option maxRecDepth 4000 in
theorem tostr_any (u : ByteArray) (e : Nat) (out : List UInt8) (w : World) (hs : u.size ≤ 1048576) (hp : PStr u 0 e) (h : UQ u 1 e out) :
    Calls Tryz.prog 52 #[.string u] w fun r w' => r = .returned (.tuple #[.string (u.extract 0 e), .string ⟨out.toArray⟩]) ∧ Upd NoB w w' := by
  have hB := get_bAt u
  have hl := h.sb.lt
  obtain ⟨m, rfl⟩ : ∃ m, e = m + 1 := ⟨e - 1, by omega⟩
  have hquo := h.sb.quotes
  simp only [Nat.add_sub_cancel] at hquo
  have HQ1 := Lib.hid hquo.1
  have HQ2 := Lib.hid hquo.2.1
  have HQ3 := Lib.hid hquo.2.2
  have HUQ := Lib.hid h
  have hslA : ∀ wx, (Instr.slice 9 (.string u) none (some (.int .i64 ((m : Int) + 1))) none).run Tryz.prog wx = .ok (.string (u.extract 0 (m + 1))) wx := fun wx => by
    have := slice_to u (m + 1) hl.2 wx
    rw [show ((m + 1 : Nat) : Int) = (m : Int) + 1 by omega] at this
    exact this
  have hslB : ∀ wx, (Instr.slice 9 (.string u) (some (.int .i64 1)) (some (.int .i64 (m : Int))) none).run Tryz.prog wx = .ok (.string (u.extract 1 m)) wx := fun wx => by
    have h := run_slice_string (P := Tryz.prog) wx 9 u .i64 .i64 1 (m : Int) Tryz.underlying9 (by omega) (by omega) (by omega)
    rw [Int.toNat_natCast] at h
    exact h
  have HUn := Lib.hid (fun wx => unescape_any u (u.extract 1 m) (m + 1) out wx hs (by omega) ⟨by omega, by omega, rfl⟩ h)
  have HSA := Lib.hid hslA
  have HSB := Lib.hid hslB
  clear hquo h hp hslA hslB
  go_enter Tryz.func52, Tryz.ntmps52
  go_wp2_with fail
  refine wp_loop_ghost_k (fun mm => FR 97 (fun g wx => ∃ i : Nat, mm = u.size - i ∧ (g 0 = .string u ∧ g 4 = .int .i64 (i : Int)) ∧ 1 ≤ i ∧ i ≤ m ∧ (∀ q, 1 ≤ q → q < i → bAt u q ≠ 92) ∧ w = wx)) (u.size - 1) ?atStart ?round
  case atStart =>
    refine FR.intro (by rfl) ?_
    exact ⟨1, rfl, ⟨rfl, rfl⟩, by omega, by omega, fun q h1 h2 => by omega, rfl⟩
  case round =>
    intro gk
    refine FR.rest ?_
    rintro g wc ⟨i, hm, ⟨e0, e4⟩, hi1, hi2, hno, rfl⟩
    rw [lit97]
    simp only [e0, e4]
    clear e0 e4
    intro J2 K2 hJ2 hK2
    have Hm := Lib.hid hm; clear hm
    have HNo := Lib.hid hno; clear hno
    have hb := bAt_le u i
    have hiz : i < u.size := by omega
    by_cases c92 : 92 < (bAt u i : Int)
    · have hne : i + 1 ≤ m := by
        have : i ≠ m := by rintro rfl; have := HQ1.out; omega
        omega
      have HNo2 : Hid (∀ q, 1 ≤ q → q < i + 1 → bAt u q ≠ 92) := Lib.hid (fun q h1 h2 => by
        by_cases hq : q = i
        · subst hq; omega
        · exact HNo.out q h1 (by omega))
      as_aux_lemma =>
        go_wp2_with fail
        refine Handed.intro (u.size - (i + 1)) ?_ ?_
        · have := Hm.out; omega
        go_step
        refine FR.intro (by rfl) ?_
        exact ⟨i + 1, rfl, ⟨rfl, rfl⟩, by omega, by omega, HNo2.out, rfl⟩
    have hbz : bsl u 1 (i - 1) = 0 := by
      obtain ⟨d, hd⟩ : ∃ d, i = 1 + d := ⟨i - 1, by omega⟩
      subst hd
      rw [Nat.add_sub_cancel_left]
      cases d with
      | zero => rfl
      | succ d => rw [bsl_step, if_neg (HNo.out (1 + d) (by omega) (by omega))]
    by_cases c34 : bAt u i = 34
    · have hie : i = m := by
        by_cases hx : i = m
        · exact hx
        · exfalso
          have := HQ3.out i hi1 (by omega) c34
          rw [hbz] at this
          omega
      have hout : (⟨out.toArray⟩ : ByteArray) = u.extract 1 m := by
        rw [HUQ.out.plainBytes (fun q h1 h2 => HNo.out q h1 (by omega)), bs_cut (by omega) (by omega)]
        rfl
      have HO := Lib.hid hout
      have hsl1 := HSA.out
      have hsl2 := HSB.out
      have e34 : ((bAt u m : Int) == 34) = true := by rw [HQ1.out]; rfl
      have g1 : ¬ 92 < (bAt u m : Int) := by have := HQ1.out; omega
      have g2 : (0 : Int) ≤ (m : Int) + 1 := by omega
      have g3 : (m : Int) + 1 ≤ (u.size : Int) := by omega
      subst hie
      clear c34 c92 hbz hout hb
      as_aux_lemma =>
        go_wp2_with fail
        go_quiet (fail)
        go_wp2_with fail
        go_ret2
        exact ⟨by rw [HO.out]; rfl, (Upd.refl _ _).drewN _⟩
    have e34 : ((bAt u i : Int) == 34) = false := by simp; omega
    have hne : i + 1 ≤ m := by
      have : i ≠ m := by rintro rfl; exact c34 HQ1.out
      omega
    clear c34
    by_cases d92 : bAt u i = 92
    rotate_left
    · have e92 : ((bAt u i : Int) == 92) = false := by simp; omega
      have HNo2 : Hid (∀ q, 1 ≤ q → q < i + 1 → bAt u q ≠ 92) := Lib.hid (fun q h1 h2 => by
        by_cases hq : q = i
        · subst hq; exact d92
        · exact HNo.out q h1 (by omega))
      clear d92 hbz
      as_aux_lemma =>
        go_wp2_with fail
        refine Handed.intro (u.size - (i + 1)) ?_ ?_
        · have := Hm.out; omega
        go_step
        refine FR.intro (by rfl) ?_
        exact ⟨i + 1, rfl, ⟨rfl, rfl⟩, by omega, by omega, HNo2.out, rfl⟩
    -- behind the first backslash
    have e92 : ((bAt u i : Int) == 92) = true := by rw [d92]; rfl
    clear d92 hbz
    go_upto_block 2 with (fail)
    refine wp_cut (fun _ _ => False) (fun _ _ h => h.elim) ?_
    intro J3 K3 hJ3 hK3
    go_wp2_with fail
    refine wp_loop_ghost_k (fun mm => FR 97 (fun g wx => ∃ q : Nat, mm = u.size - q ∧ (g 0 = .string u ∧ g 4 = .int .i64 (q : Int)) ∧ 2 ≤ q ∧ q ≤ m ∧ w = wx)) (u.size - (i + 1)) ?atStart2 ?round2
    case atStart2 =>
      refine FR.intro (by rfl) ?_
      exact ⟨i + 1, rfl, ⟨rfl, rfl⟩, by omega, by omega, rfl⟩
    case round2 =>
      clear Hm HNo e92 e34 c92 hb
      intro gk2
      refine FR.rest ?_
      rintro g wc ⟨q, hm2, ⟨e0, e4⟩, hq1, hq2, rfl⟩
      rw [lit97]
      simp only [e0, e4]
      clear e0 e4
      intro J4 K4 hJ4 hK4
      have Hm2 := Lib.hid hm2; clear hm2
      have hbq := bAt_le u q
      have hqz : q < u.size := by omega
      by_cases c92 : 92 < (bAt u q : Int)
      · have hne : q + 1 ≤ m := by
          have : q ≠ m := by rintro rfl; have := HQ1.out; omega
          omega
        as_aux_lemma =>
          go_wp2_with fail
          refine Handed.intro (u.size - (q + 1)) ?_ ?_
          · have := Hm2.out; omega
          go_step
          refine FR.intro (by rfl) ?_
          exact ⟨q + 1, rfl, ⟨rfl, rfl⟩, by omega, by omega, rfl⟩
      by_cases c34 : bAt u q = 34
      rotate_left
      · have e34 : ((bAt u q : Int) == 34) = false := by simp; omega
        have hne : q + 1 ≤ m := by
          have : q ≠ m := by rintro rfl; exact c34 HQ1.out
          omega
        clear c34
        as_aux_lemma =>
          go_wp2_with fail
          refine Handed.intro (u.size - (q + 1)) ?_ ?_
          · have := Hm2.out; omega
          go_step
          refine FR.intro (by rfl) ?_
          exact ⟨q + 1, rfl, ⟨rfl, rfl⟩, by omega, by omega, rfl⟩
      have e34 : ((bAt u q : Int) == 34) = true := by rw [c34]; rfl
      have C34 := Lib.hid c34; clear c34
      have hbq1 := bAt_le u (q - 1)
      have hq1' : ((q - 1 : Nat) : Int) = (q : Int) - 1 := by omega
      have HRETs : True := trivial
      by_cases p92 : bAt u (q - 1) = 92
      rotate_left
      · have e92 : ((bAt u (q - 1) : Int) == 92) = false := by simp; omega
        have hqm : q = m := by
          by_cases hx : q = m
          · exact hx
          · exfalso
            have h1 := HQ3.out q (by omega) (by omega) C34.out
            rw [show q - 1 = (q - 1 - 1) + 1 by omega, bsl_step, show 1 + (q - 1 - 1) = q - 1 by omega, if_neg p92] at h1
            omega
        have hsl1 := HSA.out
        have hsl2 := HSB.out
        have g2 : (0 : Int) ≤ (m : Int) + 1 := by omega
        have g3 : (m : Int) + 1 ≤ (u.size : Int) := by omega
        have g4 : (1 : Int) ≤ (m : Int) := by omega
        have g5 : (m : Int) ≤ (u.size : Int) := by omega
        have hw : IntKind.i64.wrap ((m : Int) + 1) = (m : Int) + 1 := IntWalk.i64_in _ (by omega)
        subst hqm
        clear p92
        go_wp2_with fail
        go_region_held3 (fun _ => True) (trivial) (first | (go_at_call 65; refine (HUn.out _).mono ?_; rintro e w2 ⟨rfl, hu2⟩))
        all_goals
          go_wp2_with fail
          go_ret2
          exact ⟨rfl, (Upd.refl NoB w).drew.trans hu2⟩
      have e92 : ((bAt u (q - 1) : Int) == 92) = true := by rw [p92]; rfl
      have P92 := Lib.hid p92; clear p92
      have HN := Lib.hid (show bsl u 1 (q - 1) = bsl u 1 (q - 1 - 1) + 1 by
        rw [show q - 1 = (q - 1 - 1) + 1 by omega, bsl_step, show 1 + (q - 1 - 1) = q - 1 by omega, if_pos P92.out]; rfl)
      go_upto_block 4 with (fail)
      refine wp_cut (FR 97 (fun g wx => ∃ n : Nat, (g 0 = .string u ∧ g 4 = .int .i64 (q : Int) ∧ g 5 = .int .i64 (n : Int)) ∧ n = bsl u 1 (q - 1 - 1) ∧ w = wx)) ?restN ?firstN
      case firstN =>
        intro J5 K5 hJ5 hK5
        go_wp2_with fail
        refine wp_loop_ghost_k (fun mm => FR 97 (fun g wx => ∃ n : Nat, mm = q - 1 - 1 - n ∧ (g 0 = .string u ∧ g 4 = .int .i64 (q : Int) ∧ g 5 = .int .i64 (n : Int) ∧ g 6 = .int .i64 ((q : Int) - 2 - (n : Int))) ∧ n ≤ q - 1 - 1 ∧ bsl u 1 (q - 1 - 1) = n + bsl u 1 (q - 1 - 1 - n) ∧ w = wx)) (q - 1 - 1) ?atStart3 ?round3
        case atStart3 =>
          refine FR.intro (by rfl) ?_
          exact ⟨0, rfl, ⟨rfl, rfl, rfl, by simp only [slotOf]; congr 1; omega⟩, by omega, by simp, rfl⟩
        case round3 =>
          intro gk3
          refine FR.rest ?_
          rintro g wc ⟨n, hm3, ⟨e0, e4, e5, e6⟩, hn1, hn2, rfl⟩
          rw [lit97]
          simp only [e0, e4, e5, e6]
          clear e0 e4 e5 e6
          intro J6 K6 hJ6 hK6
          have Hm3 := Lib.hid hm3; clear hm3
          have HN2 := Lib.hid hn2; clear hn2
          by_cases hn : n < q - 1 - 1
          · obtain ⟨j, hj⟩ : ∃ j : Nat, (q : Int) - 2 - (n : Int) = (j : Int) := ⟨q - 2 - n, by omega⟩
            have hj' : j = 1 + (q - 1 - 1 - n - 1) := by omega
            have hjz : j < u.size := by omega
            have hji : (0 : Int) < (j : Int) := by omega
            have hbj := bAt_le u j
            have hst := bsl_step u 1 (q - 1 - 1 - n - 1)
            rw [← hj', show q - 1 - 1 - n - 1 + 1 = q - 1 - 1 - n by omega] at hst
            have HJ := Lib.hid hj'; clear hj'
            have HJ2 := Lib.hid hj
            rw [hj]
            clear hj
            by_cases b92 : bAt u j = 92
            · have eb : ((bAt u j : Int) != 92) = false := by rw [b92]; rfl
              rw [if_pos b92] at hst
              have HST := Lib.hid hst; clear hst b92
              as_aux_lemma =>
                go_wp2_with fail
                refine Handed.intro (q - 1 - 1 - (n + 1)) ?_ ?_
                · have := Hm3.out; omega
                go_step
                refine FR.intro (by rfl) ?_
                exact ⟨n + 1, rfl, ⟨rfl, rfl, rfl, by simp only [slotOf]; congr 1; have := HJ2.out; omega⟩, by omega, by rw [HN2.out, HST.out, show q - 1 - 1 - (n + 1) = q - 1 - 1 - n - 1 by omega]; omega, rfl⟩
            · have eb : ((bAt u j : Int) != 92) = true := by simp; omega
              rw [if_neg b92] at hst
              have HST := Lib.hid hst; clear hst b92
              as_aux_lemma =>
                go_wp2_with fail
                refine Met.intro ?_
                go_step
                refine FR.intro (by rfl) ?_
                exact ⟨n, ⟨rfl, rfl, rfl⟩, by have h1 := HN2.out; have h2 := HST.out; omega, rfl⟩
          · have hx : n = q - 1 - 1 := by omega
            have hf : ¬ ((0 : Int) < (q : Int) - 2 - (n : Int)) := by omega
            have HX := Lib.hid hx; clear hx
            as_aux_lemma =>
              go_wp2_with fail
              refine Met.intro ?_
              go_step
              refine FR.intro (by rfl) ?_
              exact ⟨n, ⟨rfl, rfl, rfl⟩, by have h1 := HN2.out; rw [← HX.out, Nat.sub_self] at h1; rw [← HX.out]; simpa [bsl] using h1.symm, rfl⟩
      case restN =>
      refine FR.rest ?_
      rintro g wc ⟨n, ⟨e0, e4, e5⟩, hnn, rfl⟩
      rw [lit97]
      simp only [e0, e4, e5]
      clear e0 e4 e5
      have HNN := Lib.hid hnn; clear hnn
      by_cases hx : q = m
      · have hodd : (n : Int).tmod 2 = 1 := by
          have h1 := HQ2.out
          rw [← hx, HN.out, ← HNN.out] at h1
          rw [Int.tmod_eq_emod_of_nonneg (by omega)]
          omega
        have hsl1 := HSA.out
        have hsl2 := HSB.out
        have g2 : (0 : Int) ≤ (m : Int) + 1 := by omega
        have g3 : (m : Int) + 1 ≤ (u.size : Int) := by omega
        have g4 : (1 : Int) ≤ (m : Int) := by omega
        have g5 : (m : Int) ≤ (u.size : Int) := by omega
        have hw : IntKind.i64.wrap ((m : Int) + 1) = (m : Int) + 1 := IntWalk.i64_in _ (by omega)
        subst hx
        go_wp2_with fail
        go_region_held3 (fun _ => True) (trivial) (first | (go_at_call 65; refine (HUn.out _).mono ?_; rintro e w2 ⟨rfl, hu2⟩))
        all_goals
          go_wp2_with fail
          go_ret2
          exact ⟨rfl, (Upd.refl NoB w).drew.trans hu2⟩
      · have hev : (n : Int).tmod 2 = 0 := by
          have h1 := HQ3.out q (by omega) (by omega) C34.out
          rw [HN.out, ← HNN.out] at h1
          rw [Int.tmod_eq_emod_of_nonneg (by omega)]
          omega
        have hne : q + 1 ≤ m := by omega
        clear hx
        as_aux_lemma =>
          go_wp2_with fail
          refine Handed.intro (u.size - (q + 1)) ?_ ?_
          · have := Hm2.out; omega
          go_step
          refine FR.intro (by rfl) ?_
          exact ⟨q + 1, rfl, ⟨rfl, rfl⟩, by omega, by omega, rfl⟩
end Go.Proofs.YtggdcpmampjncaaGreatDoor
