/- The package's squash: the text of an array or object. -/
import Derived.Test.YtggdcpmampjncaaGreatDoorGj1
import Derived.Test.YtggdcpmampjncaaGreatDoorSc
namespace Go.Proofs.YtggdcpmampjncaaGreatDoor
open Go.RowKit

/-- The frame of squash. -/
theorem lit101 (g : Nat → Value) : ((List.range 101).map g).toArray = #[g 0, g 1, g 2, g 3, g 4, g 5, g 6, g 7, g 8, g 9, g 10, g 11, g 12, g 13, g 14, g 15, g 16, g 17, g 18, g 19, g 20, g 21, g 22, g 23, g 24, g 25, g 26, g 27, g 28, g 29, g 30, g 31, g 32, g 33, g 34, g 35, g 36, g 37, g 38, g 39, g 40, g 41, g 42, g 43, g 44, g 45, g 46, g 47, g 48, g 49, g 50, g 51, g 52, g 53, g 54, g 55, g 56, g 57, g 58, g 59, g 60, g 61, g 62, g 63, g 64, g 65, g 66, g 67, g 68, g 69, g 70, g 71, g 72, g 73, g 74, g 75, g 76, g 77, g 78, g 79, g 80, g 81, g 82, g 83, g 84, g 85, g 86, g 87, g 88, g 89, g 90, g 91, g 92, g 93, g 94, g 95, g 96, g 97, g 98, g 99, g 100] := by kernel_rfl
theorem bsl_step (s : ByteArray) (k d : Nat) : bsl s k (d + 1) = if bAt s (k + d) = 92 then bsl s k d + 1 else 0 := rfl
/-- The cases of the scanner at a byte. -/
theorem SQ.inv {s : ByteArray} {i d e : Nat} (h : SQ s i d e) :
    (i < s.size ∧ ¬ isB (bAt s i) ∧ SQ s (i + 1) d e) ∨ (i < s.size ∧ (bAt s i = 123 ∨ bAt s i = 91) ∧ SQ s (i + 1) (d + 1) e) ∨ (i < s.size ∧ (bAt s i = 125 ∨ bAt s i = 93) ∧ d = 1 ∧ e = i + 1) ∨
    (i < s.size ∧ (bAt s i = 125 ∨ bAt s i = 93) ∧ ∃ d', d = d' + 1 ∧ 1 ≤ d' ∧ SQ s (i + 1) d' e) ∨ (∃ m, PStr s i m ∧ SQ s m d e) := by
  cases h with
  | skip h c r => exact .inl ⟨h, c, r⟩
  | «open» h c r => exact .inr (.inl ⟨h, c, r⟩)
  | shut h c => exact .inr (.inr (.inl ⟨h, c, rfl, rfl⟩))
  | down h c hd r => exact .inr (.inr (.inr (.inl ⟨h, c, _, rfl, hd, r⟩)))
  | str h r => exact .inr (.inr (.inr (.inr ⟨_, h, r⟩)))
theorem SQ.deep {s : ByteArray} {i d e : Nat} (_h : SQ s i d e) : d ≤ d + (s.size - i) := by omega

set_option maxHeartbeats 4000000 in
set_option maxRecDepth 4000 in
theorem squash_any (u : ByteArray) (e : Nat) (w : World) (hs : u.size ≤ 1099511627776) (h0 : bAt u 0 ≠ 34) (hz : 0 < u.size) (hq : SQ u 1 1 e) :
    Calls Tryz.prog 62 #[.string u] w fun r w' => r = .returned (.string (u.extract 0 e)) ∧ w = w' := by
  have hB := get_bAt u
  have hle := hq.lt
  have e34 : ((bAt u 0 : Int) != 34) = true := by simp; omega
  have HQ := Lib.hid hq; clear hq
  have H0 := Lib.hid h0; clear h0
  go_enter Tryz.func62, Tryz.ntmps62
  go_wp2_with fail
  refine wp_loop_ghost_k (fun mm => FR 101 (fun g wx => ∃ i d : Nat, mm = u.size - i ∧ (g 0 = .string u ∧ g 3 = .int .i64 (i : Int) ∧ g 4 = .int .i64 (d : Int)) ∧ SQ u i d e ∧ d ≤ i ∧ 1 ≤ d ∧ w = wx)) (u.size - 1) ?atStart ?round
  case atStart =>
    refine FR.intro (by rfl) ?_
    exact ⟨1, 1, rfl, ⟨rfl, rfl, rfl⟩, HQ.out, by omega, by omega, rfl⟩
  case round =>
    intro gk
    refine FR.rest ?_
    rintro g wc ⟨i, d, hm, ⟨e0, e3, e4⟩, hsq, hdi, hd1, rfl⟩
    rw [lit101]
    simp only [e0, e3, e4]
    clear e0 e3 e4
    intro J2 K2 hJ2 hK2
    have Hm := Lib.hid hm; clear hm
    have hlt := hsq.lt
    have hb := bAt_le u i
    have hi : i < u.size := by omega
    rcases hsq.inv with ⟨_, hn, r⟩ | ⟨_, hc, r⟩ | ⟨_, hc, rfl, rfl⟩ | ⟨_, hc, d', rfl, hd', r⟩ | ⟨m, hp, r⟩
    · -- no bracket
      have HR := Lib.hid r
      unfold isB at hn
      have f34 : ((bAt u i : Int) == 34) = false := by simp; omega
      have f123 : ((bAt u i : Int) == 123) = false := by simp; omega
      have f91 : ((bAt u i : Int) == 91) = false := by simp; omega
      have f40 : ((bAt u i : Int) == 40) = false := by simp; omega
      have f125 : ((bAt u i : Int) == 125) = false := by simp; omega
      have f93 : ((bAt u i : Int) == 93) = false := by simp; omega
      have f41 : ((bAt u i : Int) == 41) = false := by simp; omega
      clear hn r hsq
      by_cases g1 : 34 ≤ (bAt u i : Int)
      · by_cases g2 : (bAt u i : Int) ≤ 125
        · have : True := trivial
          as_aux_lemma =>
            go_wp2_with fail
            refine Handed.intro (u.size - (i + 1)) ?_ ?_
            · have := Hm.out; omega
            go_step
            refine FR.intro (by rfl) ?_
            exact ⟨i + 1, d, rfl, ⟨rfl, rfl, rfl⟩, HR.out, by omega, by omega, rfl⟩
        · have : True := trivial
          as_aux_lemma =>
            go_wp2_with fail
            refine Handed.intro (u.size - (i + 1)) ?_ ?_
            · have := Hm.out; omega
            go_step
            refine FR.intro (by rfl) ?_
            exact ⟨i + 1, d, rfl, ⟨rfl, rfl, rfl⟩, HR.out, by omega, by omega, rfl⟩
      · have : True := trivial
        as_aux_lemma =>
          go_wp2_with fail
          refine Handed.intro (u.size - (i + 1)) ?_ ?_
          · have := Hm.out; omega
          go_step
          refine FR.intro (by rfl) ?_
          exact ⟨i + 1, d, rfl, ⟨rfl, rfl, rfl⟩, HR.out, by omega, by omega, rfl⟩
    · -- an opening one
      have HR := Lib.hid r
      have f34 : ((bAt u i : Int) == 34) = false := by simp; omega
      have g1 : 34 ≤ (bAt u i : Int) := by omega
      have g2 : (bAt u i : Int) ≤ 125 := by omega
      clear r hsq
      rcases hc with hc | hc
      · have f123 : ((bAt u i : Int) == 123) = true := by rw [hc]; rfl
        clear hc
        as_aux_lemma =>
          go_wp2_with fail
          refine Handed.intro (u.size - (i + 1)) ?_ ?_
          · have := Hm.out; omega
          go_step
          refine FR.intro (by rfl) ?_
          exact ⟨i + 1, d + 1, rfl, ⟨rfl, rfl, rfl⟩, HR.out, by omega, by omega, rfl⟩
      · have f123 : ((bAt u i : Int) == 123) = false := by rw [hc]; rfl
        have f91 : ((bAt u i : Int) == 91) = true := by rw [hc]; rfl
        clear hc
        as_aux_lemma =>
          go_wp2_with fail
          refine Handed.intro (u.size - (i + 1)) ?_ ?_
          · have := Hm.out; omega
          go_step
          refine FR.intro (by rfl) ?_
          exact ⟨i + 1, d + 1, rfl, ⟨rfl, rfl, rfl⟩, HR.out, by omega, by omega, rfl⟩
    · -- the last one
      have f34 : ((bAt u i : Int) == 34) = false := by simp; omega
      have f123 : ((bAt u i : Int) == 123) = false := by simp; omega
      have f91 : ((bAt u i : Int) == 91) = false := by simp; omega
      have f40 : ((bAt u i : Int) == 40) = false := by simp; omega
      have g1 : 34 ≤ (bAt u i : Int) := by omega
      have g2 : (bAt u i : Int) ≤ 125 := by omega
      have hsl := slice_to u (i + 1) (by omega)
      rw [show ((i + 1 : Nat) : Int) = (i : Int) + 1 by omega] at hsl
      clear hsq
      rcases hc with hc | hc
      · have f125 : ((bAt u i : Int) == 125) = true := by rw [hc]; rfl
        clear hc
        as_aux_lemma =>
          go_wp2_with fail
          go_ret
          exact ⟨rfl, rfl⟩
      · have f125 : ((bAt u i : Int) == 125) = false := by rw [hc]; rfl
        have f93 : ((bAt u i : Int) == 93) = true := by rw [hc]; rfl
        clear hc
        as_aux_lemma =>
          go_wp2_with fail
          go_ret
          exact ⟨rfl, rfl⟩
    · -- a closing one
      have HR := Lib.hid r
      have f34 : ((bAt u i : Int) == 34) = false := by simp; omega
      have f123 : ((bAt u i : Int) == 123) = false := by simp; omega
      have f91 : ((bAt u i : Int) == 91) = false := by simp; omega
      have f40 : ((bAt u i : Int) == 40) = false := by simp; omega
      have g1 : 34 ≤ (bAt u i : Int) := by omega
      have g2 : (bAt u i : Int) ≤ 125 := by omega
      have hd0 : ((d' : Int) == 0) = false := by simp; omega
      have hdd : IntKind.i64.wrap (((d' + 1 : Nat) : Int) - 1) = (d' : Int) := by rw [show ((d' + 1 : Nat) : Int) - 1 = (d' : Int) by omega]; exact IntWalk.i64_in _ (by omega)
      clear r hsq
      rcases hc with hc | hc
      · have f125 : ((bAt u i : Int) == 125) = true := by rw [hc]; rfl
        clear hc
        as_aux_lemma =>
          go_wp2_with fail
          refine Handed.intro (u.size - (i + 1)) ?_ ?_
          · have := Hm.out; omega
          go_step
          refine FR.intro (by rfl) ?_
          exact ⟨i + 1, d', rfl, ⟨rfl, rfl, rfl⟩, HR.out, by omega, by omega, rfl⟩
      · have f125 : ((bAt u i : Int) == 125) = false := by rw [hc]; rfl
        have f93 : ((bAt u i : Int) == 93) = true := by rw [hc]; rfl
        clear hc
        as_aux_lemma =>
          go_wp2_with fail
          refine Handed.intro (u.size - (i + 1)) ?_ ?_
          · have := Hm.out; omega
          go_step
          refine FR.intro (by rfl) ?_
          exact ⟨i + 1, d', rfl, ⟨rfl, rfl, rfl⟩, HR.out, by omega, by omega, rfl⟩
    · -- a string
      have HR := Lib.hid r
      have hl := hp.2.2.1.lt
      have hquo := hp.2.2.1.quotes
      have HQ1 := Lib.hid hquo.1
      have HQ2 := Lib.hid hquo.2.1
      have HQ3 := Lib.hid hquo.2.2
      have h34 := hp.2.1
      have f34 : ((bAt u i : Int) == 34) = true := by rw [h34]; rfl
      have H34 := Lib.hid h34
      have g1 : 34 ≤ (bAt u i : Int) := by omega
      have g2 : (bAt u i : Int) ≤ 125 := by omega
      have hdn : ((d : Int) == 0) = false := by simp; omega
      clear hsq r hp hquo h34
      go_upto_block 3 with (fail)
      refine wp_cut (FR 101 (fun g wx => (g 0 = .string u ∧ g 3 = .int .i64 ((m - 1 : Nat) : Int) ∧ g 4 = .int .i64 (d : Int)) ∧ w = wx)) ?restS ?firstS
      case firstS =>
        intro J3 K3 hJ3 hK3
        go_wp2_with fail
        refine wp_loop_ghost_k (fun mm => FR 101 (fun g wx => ∃ q : Nat, mm = u.size - q ∧ (g 0 = .string u ∧ g 3 = .int .i64 (q : Int) ∧ g 4 = .int .i64 (d : Int) ∧ g 5 = .int .i64 ((i + 1 : Nat) : Int)) ∧ i + 1 ≤ q ∧ q ≤ m - 1 ∧ w = wx)) (u.size - (i + 1)) ?atStart2 ?round2
        case atStart2 =>
          refine FR.intro (by rfl) ?_
          exact ⟨i + 1, rfl, ⟨rfl, rfl, rfl, rfl⟩, by omega, by omega, rfl⟩
        case round2 =>
          intro gk2
          refine FR.rest ?_
          rintro g wc ⟨q, hm2, ⟨e0, e3, e4, e5⟩, hq1, hq2, rfl⟩
          rw [lit101]
          simp only [e0, e3, e4, e5]
          clear e0 e3 e4 e5
          intro J4 K4 hJ4 hK4
          have Hm2 := Lib.hid hm2; clear hm2
          have hbq := bAt_le u q
          have hqz : q < u.size := by omega
          by_cases c92 : 92 < (bAt u q : Int)
          · have hne : q + 1 ≤ m - 1 := by
              have : q ≠ m - 1 := by rintro rfl; have := HQ1.out; omega
              omega
            as_aux_lemma =>
              go_wp2_with fail
              refine Handed.intro (u.size - (q + 1)) ?_ ?_
              · have := Hm2.out; omega
              go_step
              refine FR.intro (by rfl) ?_
              exact ⟨q + 1, rfl, ⟨rfl, rfl, rfl, rfl⟩, by omega, by omega, rfl⟩
          by_cases c34 : bAt u q = 34
          rotate_left
          · have e34 : ((bAt u q : Int) == 34) = false := by simp; omega
            have hne : q + 1 ≤ m - 1 := by
              have : q ≠ m - 1 := by rintro rfl; exact c34 HQ1.out
              omega
            clear c34
            as_aux_lemma =>
              go_wp2_with fail
              refine Handed.intro (u.size - (q + 1)) ?_ ?_
              · have := Hm2.out; omega
              go_step
              refine FR.intro (by rfl) ?_
              exact ⟨q + 1, rfl, ⟨rfl, rfl, rfl, rfl⟩, by omega, by omega, rfl⟩
          have e34 : ((bAt u q : Int) == 34) = true := by rw [c34]; rfl
          have C34 := Lib.hid c34; clear c34
          have hbq1 := bAt_le u (q - 1)
          have hq1' : ((q - 1 : Nat) : Int) = (q : Int) - 1 := by omega
          by_cases p92 : bAt u (q - 1) = 92
          rotate_left
          · have e92 : ((bAt u (q - 1) : Int) == 92) = false := by simp; omega
            have hqm : m - 1 = q := by
              by_cases hx : q = m - 1
              · exact hx.symm
              · exfalso
                have h1 := HQ3.out q hq1 (by omega) C34.out
                by_cases hqi : q = i + 1
                · subst hqi; simp [bsl] at h1
                · rw [show q - (i + 1) = (q - 1 - (i + 1)) + 1 by omega, bsl_step, show i + 1 + (q - 1 - (i + 1)) = q - 1 by omega, if_neg p92] at h1
                  omega
            clear p92
            have HQM := Lib.hid hqm; clear hqm
            as_aux_lemma =>
              go_wp2_with fail
              refine Met.intro ?_
              go_step
              refine FR.intro (by rfl) ?_
              exact ⟨by rw [HQM.out]; exact ⟨rfl, rfl, rfl⟩, rfl⟩
          have e92 : ((bAt u (q - 1) : Int) == 92) = true := by rw [p92]; rfl
          have hqi : i + 1 < q := by
            by_cases hx : q = i + 1
            · exfalso
              rw [hx, Nat.add_sub_cancel, H34.out] at p92
              omega
            · omega
          have P92 := Lib.hid p92; clear p92
          have HN := Lib.hid (show bsl u (i + 1) (q - (i + 1)) = bsl u (i + 1) (q - 1 - (i + 1)) + 1 by
            rw [show q - (i + 1) = (q - 1 - (i + 1)) + 1 by omega, bsl_step, show i + 1 + (q - 1 - (i + 1)) = q - 1 by omega, if_pos P92.out])
          go_upto_block 5 with (fail)
          refine wp_cut (FR 101 (fun g wx => ∃ n : Nat, (g 0 = .string u ∧ g 3 = .int .i64 (q : Int) ∧ g 4 = .int .i64 (d : Int) ∧ g 5 = .int .i64 ((i + 1 : Nat) : Int) ∧ g 6 = .int .i64 (n : Int)) ∧ n = bsl u (i + 1) (q - 1 - (i + 1)) ∧ w = wx)) ?restN ?firstN
          case firstN =>
            intro J5 K5 hJ5 hK5
            go_wp2_with fail
            refine wp_loop_ghost_k (fun mm => FR 101 (fun g wx => ∃ n : Nat, mm = q - 1 - (i + 1) - n ∧ (g 0 = .string u ∧ g 3 = .int .i64 (q : Int) ∧ g 4 = .int .i64 (d : Int) ∧ g 5 = .int .i64 ((i + 1 : Nat) : Int) ∧ g 6 = .int .i64 (n : Int) ∧ g 7 = .int .i64 ((q : Int) - 2 - (n : Int))) ∧ n ≤ q - 1 - (i + 1) ∧ bsl u (i + 1) (q - 1 - (i + 1)) = n + bsl u (i + 1) (q - 1 - (i + 1) - n) ∧ w = wx)) (q - 1 - (i + 1)) ?atStart3 ?round3
            case atStart3 =>
              refine FR.intro (by rfl) ?_
              exact ⟨0, rfl, ⟨rfl, rfl, rfl, rfl, rfl, by simp only [slotOf]; congr 1; omega⟩, by omega, by simp, rfl⟩
            case round3 =>
              intro gk3
              refine FR.rest ?_
              rintro g wc ⟨n, hm3, ⟨e0, e3, e4, e5, e6, e7⟩, hn1, hn2, rfl⟩
              rw [lit101]
              simp only [e0, e3, e4, e5, e6, e7]
              clear e0 e3 e4 e5 e6 e7
              intro J6 K6 hJ6 hK6
              have Hm3 := Lib.hid hm3; clear hm3
              have HN2 := Lib.hid hn2; clear hn2
              by_cases hn : n < q - 1 - (i + 1)
              · obtain ⟨j, hj⟩ : ∃ j : Nat, (q : Int) - 2 - (n : Int) = (j : Int) := ⟨q - 2 - n, by omega⟩
                have hj' : j = i + 1 + (q - 1 - (i + 1) - n - 1) := by omega
                have hjz : j < u.size := by omega
                have hji : (i : Int) < (j : Int) := by omega
                have hbj := bAt_le u j
                have hst := bsl_step u (i + 1) (q - 1 - (i + 1) - n - 1)
                rw [← hj', show q - 1 - (i + 1) - n - 1 + 1 = q - 1 - (i + 1) - n by omega] at hst
                have HJ := Lib.hid hj'; clear hj'
                have HJ2 := Lib.hid hj
                rw [hj]
                clear hj
                by_cases b92 : bAt u j = 92
                · have eb : ((bAt u j : Int) != 92) = false := by rw [b92]; rfl
                  rw [if_pos b92] at hst
                  have HST := Lib.hid hst; clear hst b92
                  as_aux_lemma =>
                    go_wp2_with fail
                    refine Handed.intro (q - 1 - (i + 1) - (n + 1)) ?_ ?_
                    · have := Hm3.out; omega
                    go_step
                    refine FR.intro (by rfl) ?_
                    exact ⟨n + 1, rfl, ⟨rfl, rfl, rfl, rfl, rfl, by simp only [slotOf]; congr 1; have := HJ2.out; omega⟩, by omega, by rw [HN2.out, HST.out, show q - 1 - (i + 1) - (n + 1) = q - 1 - (i + 1) - n - 1 by omega]; omega, rfl⟩
                · have eb : ((bAt u j : Int) != 92) = true := by simp; omega
                  rw [if_neg b92] at hst
                  have HST := Lib.hid hst; clear hst b92
                  as_aux_lemma =>
                    go_wp2_with fail
                    refine Met.intro ?_
                    go_step
                    refine FR.intro (by rfl) ?_
                    exact ⟨n, ⟨rfl, rfl, rfl, rfl, rfl⟩, by have h1 := HN2.out; have h2 := HST.out; omega, rfl⟩
              · have hx : n = q - 1 - (i + 1) := by omega
                have hf : ¬ ((i : Int) < (q : Int) - 2 - (n : Int)) := by omega
                have HX := Lib.hid hx; clear hx
                as_aux_lemma =>
                  go_wp2_with fail
                  refine Met.intro ?_
                  go_step
                  refine FR.intro (by rfl) ?_
                  exact ⟨n, ⟨rfl, rfl, rfl, rfl, rfl⟩, by have h1 := HN2.out; rw [← HX.out, Nat.sub_self] at h1; rw [← HX.out]; simpa [bsl] using h1.symm, rfl⟩
          case restN =>
          refine FR.rest ?_
          rintro g wc ⟨n, ⟨e0, e3, e4, e5, e6⟩, hnn, rfl⟩
          rw [lit101]
          simp only [e0, e3, e4, e5, e6]
          clear e0 e3 e4 e5 e6
          have HNN := Lib.hid hnn; clear hnn
          by_cases hx : q = m - 1
          · have hodd : (n : Int).tmod 2 = 1 := by
              have h1 := HQ2.out
              rw [← hx, HN.out, ← HNN.out] at h1
              rw [Int.tmod_eq_emod_of_nonneg (by omega)]
              omega
            have HX := Lib.hid hx; clear hx
            as_aux_lemma =>
              go_wp2_with fail
              refine Met.intro ?_
              go_step
              refine FR.intro (by rfl) ?_
              exact ⟨by rw [← HX.out]; exact ⟨rfl, rfl, rfl⟩, rfl⟩
          · have hev : (n : Int).tmod 2 = 0 := by
              have h1 := HQ3.out q hq1 (by omega) C34.out
              rw [HN.out, ← HNN.out] at h1
              rw [Int.tmod_eq_emod_of_nonneg (by omega)]
              omega
            have hne : q + 1 ≤ m - 1 := by omega
            clear hx
            as_aux_lemma =>
              go_wp2_with fail
              refine Handed.intro (u.size - (q + 1)) ?_ ?_
              · have := Hm2.out; omega
              go_step
              refine FR.intro (by rfl) ?_
              exact ⟨q + 1, rfl, ⟨rfl, rfl, rfl, rfl⟩, by omega, by omega, rfl⟩
      case restS =>
      refine FR.rest ?_
      rintro g wc ⟨⟨e0, e3, e4⟩, rfl⟩
      rw [lit101]
      simp only [e0, e3, e4]
      clear e0 e3 e4
      have hmm : IntKind.i64.wrap (((m - 1 : Nat) : Int) + 1) = (m : Int) := by rw [show ((m - 1 : Nat) : Int) + 1 = (m : Int) by omega]; exact IntWalk.i64_in _ (by omega)
      as_aux_lemma =>
        go_wp2_with fail
        refine Handed.intro (u.size - m) ?_ ?_
        · have := Hm.out; omega
        go_step
        refine FR.intro (by rfl) ?_
        exact ⟨m, d, rfl, ⟨rfl, by simp only [slotOf] <;> first | rfl | (congr 1; omega), rfl⟩, HR.out, by omega, by omega, rfl⟩
end Go.Proofs.YtggdcpmampjncaaGreatDoor
