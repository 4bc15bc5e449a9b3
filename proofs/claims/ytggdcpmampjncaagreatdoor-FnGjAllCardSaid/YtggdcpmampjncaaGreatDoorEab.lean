/- The package's ForEach: its scanners of literals, numbers and strings, each at a place of the text. The package's ForEach: its scanner of strings, at a place of the text. -/
import Derived.Test.YtggdcpmampjncaaGreatDoorGja
import Derived.Test.YtggdcpmampjncaaGreatDoorSc
namespace Go.Proofs.YtggdcpmampjncaaGreatDoor
open Go.RowKit

theorem slice_mid (u : ByteArray) (i e : Nat) (h1 : i ≤ e) (h2 : e ≤ u.size) (wx : World) : (Instr.slice 9 (.string u) (some (.int .i64 (i : Int))) (some (.int .i64 (e : Int))) none).run Tryz.prog wx = .ok (.string (u.extract i e)) wx := by
  have h := run_slice_string (P := Tryz.prog) wx 9 u .i64 .i64 (i : Int) (e : Int) Tryz.underlying9 (by omega) (by omega) (by omega)
  rw [Int.toNat_natCast, Int.toNat_natCast] at h
  exact h
theorem slice_tail (u : ByteArray) (i : Nat) (h1 : i ≤ u.size) (wx : World) : (Instr.slice 9 (.string u) (some (.int .i64 (i : Int))) none none).run Tryz.prog wx = .ok (.string (u.extract i u.size)) wx := by
  have h := run_slice_string_from_if (P := Tryz.prog) (w := wx) 9 u .i64 (i : Int) Tryz.underlying9
  rw [if_pos (by omega), Int.toNat_natCast] at h
  exact h

set_option maxHeartbeats 1000000 in
set_option maxRecDepth 4000 in
theorem plit_any (u : ByteArray) (i e : Nat) (w : World) (hs : u.size ≤ 1048576) (h1 : i < e) (h2 : e ≤ u.size) (h3 : ∀ k, i < k → k < e → 97 ≤ bAt u k ∧ bAt u k ≤ 122) (h4 : e < u.size → ¬ (97 ≤ bAt u e ∧ bAt u e ≤ 122)) :
    Calls Tryz.prog 76 #[.string u, .int .i64 (i : Int)] w fun r w' => r = .returned (.tuple #[.int .i64 (e : Int), .string (u.extract i e)]) ∧ Upd NoB w w' := by
  have hB := get_bAt u
  have H3 := Lib.hid h3; clear h3
  have H4 := Lib.hid h4; clear h4
  go_enter Tryz.func76, Tryz.ntmps76
  go_wp2_with fail
  go_loopg [1] (u.size - (i + 1)) (fun m v1 wr => ∃ k : Nat, m = u.size - k ∧ v1 = .int .i64 (k : Int) ∧ i < k ∧ k ≤ e ∧ w = wr)
  case atStart => exact ⟨i + 1, rfl, by go_num, by omega, h1, rfl⟩
  case round =>
    obtain ⟨k, hm, rfl, hk1, hke, rfl⟩ := hrel
    have Hm := Lib.hid hm; clear hm
    have hb := bAt_le u k
    by_cases hlt : k < u.size
    rotate_left
    · obtain rfl : k = e := by omega
      have hsl := slice_tail u i (by omega)
      have hz : u.size = k := by omega
      rw [hz] at hsl
      have HZ := Lib.hid hz; clear hz
      as_aux_lemma =>
        go_wp2_with fail
        go_quiet (fail)
        go_wp2_with fail
        go_ret2
        exact ⟨rfl, (Upd.refl _ _).drewN _⟩
    have hsl := slice_mid u i k (by omega) (by omega)
    by_cases hd : k = e
    · subst hd
      have hn := H4.out hlt
      by_cases c1 : (bAt u k : Int) < 97
      · have : True := trivial
        as_aux_lemma =>
          go_wp2_with fail
          go_quiet (fail)
          go_wp2_with fail
          go_ret2
          exact ⟨rfl, (Upd.refl _ _).drewN _⟩
      · have c2 : 122 < (bAt u k : Int) := by omega
        as_aux_lemma =>
          go_wp2_with fail
          go_quiet (fail)
          go_wp2_with fail
          go_ret2
          exact ⟨rfl, (Upd.refl _ _).drewN _⟩
    · have hy := H3.out k hk1 (by omega)
      have c1 : ¬ (bAt u k : Int) < 97 := by omega
      have c2 : ¬ 122 < (bAt u k : Int) := by omega
      go_wp2_with fail
      go_roundg (u.size - (k + 1))
      case measure => have := Hm.out; omega
      case rel => exact ⟨k + 1, rfl, by go_num, by omega, by omega, rfl⟩
set_option maxHeartbeats 1000000 in
set_option maxRecDepth 4000 in
theorem pnum_any (u : ByteArray) (i e : Nat) (w : World) (hs : u.size ≤ 1048576) (h1 : i < e) (h2 : e ≤ u.size) (h3 : ∀ k, i < k → k < e → nmB (bAt u k)) (h4 : e < u.size → bAt u e ≤ 32 ∨ bAt u e = 44 ∨ bAt u e = 93 ∨ bAt u e = 125) :
    Calls Tryz.prog 77 #[.string u, .int .i64 (i : Int)] w fun r w' => r = .returned (.tuple #[.int .i64 (e : Int), .string (u.extract i e)]) ∧ Upd NoB w w' := by
  have hB := get_bAt u
  have H3 := Lib.hid h3; clear h3
  have H4 := Lib.hid h4; clear h4
  go_enter Tryz.func77, Tryz.ntmps77
  go_wp2_with fail
  go_loopg [1] (u.size - (i + 1)) (fun m v1 wr => ∃ k : Nat, m = u.size - k ∧ v1 = .int .i64 (k : Int) ∧ i < k ∧ k ≤ e ∧ w = wr)
  case atStart => exact ⟨i + 1, rfl, by go_num, by omega, h1, rfl⟩
  case round =>
    obtain ⟨k, hm, rfl, hk1, hke, rfl⟩ := hrel
    have Hm := Lib.hid hm; clear hm
    have hb := bAt_le u k
    by_cases hlt : k < u.size
    rotate_left
    · obtain rfl : k = e := by omega
      have hsl := slice_tail u i (by omega)
      have hz : u.size = k := by omega
      rw [hz] at hsl
      have HZ := Lib.hid hz; clear hz
      as_aux_lemma =>
        go_wp2_with fail
        go_quiet (fail)
        go_wp2_with fail
        go_ret2
        exact ⟨rfl, (Upd.refl _ _).drewN _⟩
    have hsl := slice_mid u i k (by omega) (by omega)
    by_cases hd : k = e
    · subst hd
      have hn := H4.out hlt
      by_cases c32 : (bAt u k : Int) ≤ 32
      · clear hn
        as_aux_lemma =>
          go_wp2_with fail
          go_quiet (fail)
          go_wp2_with fail
          go_ret2
          exact ⟨rfl, (Upd.refl _ _).drewN _⟩
      by_cases c44 : bAt u k = 44
      · have e44 : ((bAt u k : Int) == 44) = true := by rw [c44]; rfl
        clear hn c44
        as_aux_lemma =>
          go_wp2_with fail
          go_quiet (fail)
          go_wp2_with fail
          go_ret2
          exact ⟨rfl, (Upd.refl _ _).drewN _⟩
      have e44 : ((bAt u k : Int) == 44) = false := by simp; omega
      by_cases c93 : bAt u k = 93
      · have e93 : ((bAt u k : Int) == 93) = true := by rw [c93]; rfl
        clear hn c44 c93
        as_aux_lemma =>
          go_wp2_with fail
          go_quiet (fail)
          go_wp2_with fail
          go_ret2
          exact ⟨rfl, (Upd.refl _ _).drewN _⟩
      · have e93 : ((bAt u k : Int) == 93) = false := by simp; omega
        have e125 : ((bAt u k : Int) == 125) = true := by simp; omega
        clear hn c44 c93
        as_aux_lemma =>
          go_wp2_with fail
          go_quiet (fail)
          go_wp2_with fail
          go_ret2
          exact ⟨rfl, (Upd.refl _ _).drewN _⟩
    · have hy := H3.out k hk1 (by omega)
      unfold nmB at hy
      have c32 : ¬ (bAt u k : Int) ≤ 32 := by omega
      have e44 : ((bAt u k : Int) == 44) = false := by simp; omega
      have e93 : ((bAt u k : Int) == 93) = false := by simp; omega
      have e125 : ((bAt u k : Int) == 125) = false := by simp; omega
      clear hy
      go_wp2_with fail
      go_roundg (u.size - (k + 1))
      case measure => have := Hm.out; omega
      case rel => exact ⟨k + 1, rfl, by go_num, by omega, by omega, rfl⟩
end Go.Proofs.YtggdcpmampjncaaGreatDoor
namespace Go.Proofs.YtggdcpmampjncaaGreatDoor
open Go.RowKit

theorem lit87 (g : Nat → Value) : ((List.range 87).map g).toArray = #[g 0, g 1, g 2, g 3, g 4, g 5, g 6, g 7, g 8, g 9, g 10, g 11, g 12, g 13, g 14, g 15, g 16, g 17, g 18, g 19, g 20, g 21, g 22, g 23, g 24, g 25, g 26, g 27, g 28, g 29, g 30, g 31, g 32, g 33, g 34, g 35, g 36, g 37, g 38, g 39, g 40, g 41, g 42, g 43, g 44, g 45, g 46, g 47, g 48, g 49, g 50, g 51, g 52, g 53, g 54, g 55, g 56, g 57, g 58, g 59, g 60, g 61, g 62, g 63, g 64, g 65, g 66, g 67, g 68, g 69, g 70, g 71, g 72, g 73, g 74, g 75, g 76, g 77, g 78, g 79, g 80, g 81, g 82, g 83, g 84, g 85, g 86] := by kernel_rfl
theorem results_tmp4 {fn : Func} {t1 t2 t3 t4 : Tmp} (h : fn.results = #[.tmp t1, .tmp t2, .tmp t3, .tmp t4]) (tmps : Array Value) (P : Program) (w : World) :
    (results fn tmps).run P w = .ok (.tuple #[tmps.getD t1 undef, tmps.getD t2 undef, tmps.getD t3 undef, tmps.getD t4 undef]) w := by
  simp [results, h]
/-- What parseString returns: the place behind, the text, whether a backslash stands in it. -/
def StrR (u : ByteArray) (b e : Nat) (r : Ending) : Prop := ∃ v : Bool, r = .returned (.tuple #[.int .i64 (e : Int), .string (u.extract b e), .bool v, .bool true]) ∧ (v = false → ∀ q, b + 1 ≤ q → q < e - 1 → bAt u q ≠ 92)

set_option maxHeartbeats 4000000 in
set_option maxRecDepth 4000 in
theorem pstr_any (u : ByteArray) (b e : Nat) (w : World) (hs : u.size ≤ 1048576) (hp : PStr u b e) :
    Calls Tryz.prog 66 #[.string u, .int .i64 ((b : Int) + 1)] w fun r w' => StrR u b e r ∧ Upd NoB w w' := by
  have hB := get_bAt u
  have hsb := hp.2.2.1
  have hl := hsb.lt
  have H34 := Lib.hid hp.2.1
  obtain ⟨m, rfl⟩ : ∃ m, e = m + 1 := ⟨e - 1, by omega⟩
  have hquo := hsb.quotes
  simp only [Nat.add_sub_cancel] at hquo
  obtain ⟨K, hK⟩ : ∃ K, K = b + 1 := ⟨_, rfl⟩
  rw [← hK] at hquo hl
  have HQ1 := Lib.hid hquo.1
  have HQ2 := Lib.hid hquo.2.1
  have HQ3 := Lib.hid hquo.2.2
  have HK := Lib.hid hK
  have hsl := slice_mid u b (m + 1) (by omega) (by omega)
  rw [show ((m + 1 : Nat) : Int) = (m : Int) + 1 by omega] at hsl
  rw [show (b : Int) = (K : Int) - 1 by omega] at hsl
  have HSL := Lib.hid hsl
  have hKi : (b : Int) + 1 = (K : Int) := by omega
  rw [hKi]
  clear hquo hp hsb hsl hK hKi
  go_enter Tryz.func66, Tryz.ntmps66
  go_upto_block 0 with (fail)
  refine wp_cut (fun _ _ => False) (fun _ _ h => h.elim) ?_
  intro J K1 hJ hK1
  go_wp2_with fail
  refine wp_loop_ghost_k (fun mm => FR 87 (fun g wx => ∃ i : Nat, mm = u.size - i ∧ (g 0 = .string u ∧ g 1 = .int .i64 (i : Int) ∧ g 8 = .int .i64 (K : Int)) ∧ K ≤ i ∧ i ≤ m ∧ (∀ q, K ≤ q → q < i → bAt u q ≠ 92) ∧ w = wx)) (u.size - K) ?atStart ?round
  case atStart =>
    refine FR.intro (by rfl) ?_
    exact ⟨K, rfl, ⟨rfl, rfl, rfl⟩, by omega, by omega, fun q h1 h2 => by omega, rfl⟩
  case round =>
    intro gk
    refine FR.rest ?_
    rintro g wc ⟨i, hm, ⟨e0, e1, e8⟩, hi1, hi2, hno, rfl⟩
    rw [lit87]
    simp only [e0, e1, e8]
    clear e0 e1 e8
    intro J2 K2 hJ2 hK2
    have Hm := Lib.hid hm; clear hm
    have HNo := Lib.hid hno; clear hno
    have hb := bAt_le u i
    have hiz : i < u.size := by omega
    by_cases c92 : 92 < (bAt u i : Int)
    · have hne : i + 1 ≤ m := by
        have : i ≠ m := by rintro rfl; have := HQ1.out; omega
        omega
      have HNo2 : Hid (∀ q, K ≤ q → q < i + 1 → bAt u q ≠ 92) := Lib.hid (fun q h1 h2 => by
        by_cases hq : q = i
        · subst hq; omega
        · exact HNo.out q h1 (by omega))
      as_aux_lemma =>
        go_wp2_with fail
        refine Handed.intro (u.size - (i + 1)) ?_ ?_
        · have := Hm.out; omega
        go_step
        refine FR.intro (by rfl) ?_
        exact ⟨i + 1, rfl, ⟨rfl, rfl, rfl⟩, by omega, by omega, HNo2.out, rfl⟩
    have hbz : bsl u K (i - K) = 0 := by
      obtain ⟨d, hd⟩ : ∃ d, i = K + d := ⟨i - K, by omega⟩
      subst hd
      rw [Nat.add_sub_cancel_left]
      cases d with
      | zero => rfl
      | succ d => rw [bsl_step, if_neg (HNo.out (K + d) (by omega) (by omega))]
    by_cases c34 : bAt u i = 34
    · have hie : i = m := by
        by_cases hx : i = m
        · exact hx
        · exfalso
          have := HQ3.out i hi1 (by omega) c34
          rw [hbz] at this
          omega
      have hsl := HSL.out
      have e34 : ((bAt u m : Int) == 34) = true := by rw [HQ1.out]; rfl
      have g1 : ¬ 92 < (bAt u m : Int) := by have := HQ1.out; omega
      have g2 : (0 : Int) ≤ (m : Int) + 1 := by omega
      have g3 : (m : Int) + 1 ≤ (u.size : Int) := by omega
      have HNo3 : Hid (∀ q, b + 1 ≤ q → q < m + 1 - 1 → bAt u q ≠ 92) := Lib.hid fun q h1 h2 => HNo.out q (by have := HK.out; omega) (by omega)
      subst hie
      clear c34 c92 hbz hb
      as_aux_lemma =>
        go_wp2_with fail
        go_quiet (fail)
        go_wp2_with fail
        refine bodyPost_ret (results_tmp4 rfl _ _ _) rfl ?_
        exact ⟨⟨false, rfl, fun _ => HNo3.out⟩, (Upd.refl _ _).drewN _⟩
    have e34 : ((bAt u i : Int) == 34) = false := by simp; omega
    have hne : i + 1 ≤ m := by
      have : i ≠ m := by rintro rfl; exact c34 HQ1.out
      omega
    clear c34
    by_cases d92 : bAt u i = 92
    rotate_left
    · have e92 : ((bAt u i : Int) == 92) = false := by simp; omega
      have HNo2 : Hid (∀ q, K ≤ q → q < i + 1 → bAt u q ≠ 92) := Lib.hid (fun q h1 h2 => by
        by_cases hq : q = i
        · subst hq; exact d92
        · exact HNo.out q h1 (by omega))
      clear d92 hbz
      as_aux_lemma =>
        go_wp2_with fail
        refine Handed.intro (u.size - (i + 1)) ?_ ?_
        · have := Hm.out; omega
        go_step
        refine FR.intro (by rfl) ?_
        exact ⟨i + 1, rfl, ⟨rfl, rfl, rfl⟩, by omega, by omega, HNo2.out, rfl⟩
    -- behind the first backslash
    have e92 : ((bAt u i : Int) == 92) = true := by rw [d92]; rfl
    clear d92 hbz
    go_upto_block 2 with (fail)
    refine wp_cut (fun _ _ => False) (fun _ _ h => h.elim) ?_
    intro J3 K3 hJ3 hK3
    go_wp2_with fail
    refine wp_loop_ghost_k (fun mm => FR 87 (fun g wx => ∃ q : Nat, mm = u.size - q ∧ (g 0 = .string u ∧ g 1 = .int .i64 (q : Int) ∧ g 8 = .int .i64 (K : Int)) ∧ K + 1 ≤ q ∧ q ≤ m ∧ w = wx)) (u.size - (i + 1)) ?atStart2 ?round2
    case atStart2 =>
      refine FR.intro (by rfl) ?_
      exact ⟨i + 1, rfl, ⟨rfl, rfl, rfl⟩, by omega, by omega, rfl⟩
    case round2 =>
      clear Hm HNo e92 e34 c92 hb
      intro gk2
      refine FR.rest ?_
      rintro g wc ⟨q, hm2, ⟨e0, e1, e8⟩, hq1, hq2, rfl⟩
      rw [lit87]
      simp only [e0, e1, e8]
      clear e0 e1 e8
      intro J4 K4 hJ4 hK4
      have Hm2 := Lib.hid hm2; clear hm2
      have hbq := bAt_le u q
      have hqz : q < u.size := by omega
      by_cases c92 : 92 < (bAt u q : Int)
      · have hne : q + 1 ≤ m := by
          have : q ≠ m := by rintro rfl; have := HQ1.out; omega
          omega
        as_aux_lemma =>
          go_wp2_with fail
          refine Handed.intro (u.size - (q + 1)) ?_ ?_
          · have := Hm2.out; omega
          go_step
          refine FR.intro (by rfl) ?_
          exact ⟨q + 1, rfl, ⟨rfl, rfl, rfl⟩, by omega, by omega, rfl⟩
      by_cases c34 : bAt u q = 34
      rotate_left
      · have e34 : ((bAt u q : Int) == 34) = false := by simp; omega
        have hne : q + 1 ≤ m := by
          have : q ≠ m := by rintro rfl; exact c34 HQ1.out
          omega
        clear c34
        as_aux_lemma =>
          go_wp2_with fail
          refine Handed.intro (u.size - (q + 1)) ?_ ?_
          · have := Hm2.out; omega
          go_step
          refine FR.intro (by rfl) ?_
          exact ⟨q + 1, rfl, ⟨rfl, rfl, rfl⟩, by omega, by omega, rfl⟩
      have e34 : ((bAt u q : Int) == 34) = true := by rw [c34]; rfl
      have C34 := Lib.hid c34; clear c34
      have hbq1 := bAt_le u (q - 1)
      have hq1' : ((q - 1 : Nat) : Int) = (q : Int) - 1 := by omega
      by_cases p92 : bAt u (q - 1) = 92
      rotate_left
      · have e92 : ((bAt u (q - 1) : Int) == 92) = false := by simp; omega
        have hqm : q = m := by
          by_cases hx : q = m
          · exact hx
          · exfalso
            have h1 := HQ3.out q (by omega) (by omega) C34.out
            rw [show q - K = (q - 1 - K) + 1 by omega, bsl_step, show K + (q - 1 - K) = q - 1 by omega, if_neg p92] at h1
            omega
        have hsl := HSL.out
        have g2 : (0 : Int) ≤ (m : Int) + 1 := by omega
        have g3 : (m : Int) + 1 ≤ (u.size : Int) := by omega
        subst hqm
        clear p92
        as_aux_lemma =>
          go_wp2_with fail
          go_quiet (fail)
          go_wp2_with fail
          refine bodyPost_ret (results_tmp4 rfl _ _ _) rfl ?_
          exact ⟨⟨true, rfl, fun h => Bool.noConfusion h⟩, (Upd.refl _ _).drewN _⟩
      have e92 : ((bAt u (q - 1) : Int) == 92) = true := by rw [p92]; rfl
      have P92 := Lib.hid p92; clear p92
      have HN := Lib.hid (show bsl u K (q - K) = bsl u K (q - 1 - K) + 1 by
        rw [show q - K = (q - 1 - K) + 1 by omega, bsl_step, show K + (q - 1 - K) = q - 1 by omega, if_pos P92.out])
      go_upto_block 4 with (fail)
      refine wp_cut (FR 87 (fun g wx => ∃ n : Nat, (g 0 = .string u ∧ g 1 = .int .i64 (q : Int) ∧ g 8 = .int .i64 (K : Int) ∧ g 9 = .int .i64 (n : Int)) ∧ n = bsl u K (q - 1 - K) ∧ w = wx)) ?restN ?firstN
      case firstN =>
        intro J5 K5 hJ5 hK5
        go_wp2_with fail
        refine wp_loop_ghost_k (fun mm => FR 87 (fun g wx => ∃ n : Nat, mm = q - 1 - K - n ∧ (g 0 = .string u ∧ g 1 = .int .i64 (q : Int) ∧ g 8 = .int .i64 (K : Int) ∧ g 9 = .int .i64 (n : Int) ∧ g 10 = .int .i64 ((q : Int) - 2 - (n : Int))) ∧ n ≤ q - 1 - K ∧ bsl u K (q - 1 - K) = n + bsl u K (q - 1 - K - n) ∧ w = wx)) (q - 1 - K) ?atStart3 ?round3
        case atStart3 =>
          refine FR.intro (by rfl) ?_
          exact ⟨0, rfl, ⟨rfl, rfl, rfl, rfl, by simp only [slotOf]; congr 1; omega⟩, by omega, by simp, rfl⟩
        case round3 =>
          intro gk3
          refine FR.rest ?_
          rintro g wc ⟨n, hm3, ⟨e0, e1, e8, e9, e10⟩, hn1, hn2, rfl⟩
          rw [lit87]
          simp only [e0, e1, e8, e9, e10]
          clear e0 e1 e8 e9 e10
          intro J6 K6 hJ6 hK6
          have Hm3 := Lib.hid hm3; clear hm3
          have HN2 := Lib.hid hn2; clear hn2
          by_cases hn : n < q - 1 - K
          · obtain ⟨j, hj⟩ : ∃ j : Nat, (q : Int) - 2 - (n : Int) = (j : Int) := ⟨q - 2 - n, by omega⟩
            have hj' : j = K + (q - 1 - K - n - 1) := by omega
            have hjz : j < u.size := by omega
            have hK1 : 1 ≤ K := by have := HK.out; omega
            have hji : (0 : Int) < (j : Int) := by omega
            have hbj := bAt_le u j
            have hst := bsl_step u K (q - 1 - K - n - 1)
            rw [← hj', show q - 1 - K - n - 1 + 1 = q - 1 - K - n by omega] at hst
            have HJ := Lib.hid hj'; clear hj'
            have HJ2 := Lib.hid hj
            rw [hj]
            clear hj
            by_cases b92 : bAt u j = 92
            · have eb : ((bAt u j : Int) != 92) = false := by rw [b92]; rfl
              rw [if_pos b92] at hst
              have HST := Lib.hid hst; clear hst b92
              as_aux_lemma =>
                go_wp2_with fail
                refine Handed.intro (q - 1 - K - (n + 1)) ?_ ?_
                · have := Hm3.out; omega
                go_step
                refine FR.intro (by rfl) ?_
                exact ⟨n + 1, rfl, ⟨rfl, rfl, rfl, rfl, by simp only [slotOf]; congr 1; have := HJ2.out; omega⟩, by omega, by rw [HN2.out, HST.out, show q - 1 - K - (n + 1) = q - 1 - K - n - 1 by omega]; omega, rfl⟩
            · have eb : ((bAt u j : Int) != 92) = true := by simp; omega
              rw [if_neg b92] at hst
              have HST := Lib.hid hst; clear hst b92
              as_aux_lemma =>
                go_wp2_with fail
                refine Met.intro ?_
                go_step
                refine FR.intro (by rfl) ?_
                exact ⟨n, ⟨rfl, rfl, rfl, rfl⟩, by have h1 := HN2.out; have h2 := HST.out; omega, rfl⟩
          · have hx : n = q - 1 - K := by omega
            have HX := Lib.hid hx; clear hx
            have HE : Hid (n = bsl u K (q - 1 - K)) := Lib.hid (by have h1 := HN2.out; rw [← HX.out, Nat.sub_self] at h1; rw [← HX.out]; simpa [bsl] using h1.symm)
            have hjb : (q : Int) - 2 - (n : Int) = (b : Int) := by have := HX.out; have := HK.out; omega
            rw [hjb]
            clear hjb
            by_cases hb0 : b = 0
            · have hf : ¬ ((0 : Int) < (b : Int)) := by omega
              clear hb0
              as_aux_lemma =>
                go_wp2_with fail
                refine Met.intro ?_
                go_step
                refine FR.intro (by rfl) ?_
                exact ⟨n, ⟨rfl, rfl, rfl, rfl⟩, HE.out, rfl⟩
            · have hf : (0 : Int) < (b : Int) := by omega
              have hbz : b < u.size := by have := HK.out; omega
              have eb : ((bAt u b : Int) != 92) = true := by rw [H34.out]; rfl
              have hbb := bAt_le u b
              clear hb0
              as_aux_lemma =>
                go_wp2_with fail
                refine Met.intro ?_
                go_step
                refine FR.intro (by rfl) ?_
                exact ⟨n, ⟨rfl, rfl, rfl, rfl⟩, HE.out, rfl⟩
      case restN =>
      refine FR.rest ?_
      rintro g wc ⟨n, ⟨e0, e1, e8, e9⟩, hnn, rfl⟩
      rw [lit87]
      simp only [e0, e1, e8, e9]
      clear e0 e1 e8 e9
      have HNN := Lib.hid hnn; clear hnn
      by_cases hx : q = m
      · have hodd : (n : Int).tmod 2 = 1 := by
          have h1 := HQ2.out
          rw [← hx, HN.out, ← HNN.out] at h1
          rw [Int.tmod_eq_emod_of_nonneg (by omega)]
          omega
        have hsl := HSL.out
        have g2 : (0 : Int) ≤ (m : Int) + 1 := by omega
        have g3 : (m : Int) + 1 ≤ (u.size : Int) := by omega
        subst hx
        as_aux_lemma =>
          go_wp2_with fail
          go_quiet (fail)
          go_wp2_with fail
          refine bodyPost_ret (results_tmp4 rfl _ _ _) rfl ?_
          exact ⟨⟨true, rfl, fun h => Bool.noConfusion h⟩, (Upd.refl _ _).drewN _⟩
      · have hev : (n : Int).tmod 2 = 0 := by
          have h1 := HQ3.out q (by omega) (by omega) C34.out
          rw [HN.out, ← HNN.out] at h1
          rw [Int.tmod_eq_emod_of_nonneg (by omega)]
          omega
        have hne : q + 1 ≤ m := by omega
        clear hx
        as_aux_lemma =>
          go_wp2_with fail
          refine Handed.intro (u.size - (q + 1)) ?_ ?_
          · have := Hm2.out; omega
          go_step
          refine FR.intro (by rfl) ?_
          exact ⟨q + 1, rfl, ⟨rfl, rfl, rfl⟩, by omega, by omega, rfl⟩
end Go.Proofs.YtggdcpmampjncaaGreatDoor
