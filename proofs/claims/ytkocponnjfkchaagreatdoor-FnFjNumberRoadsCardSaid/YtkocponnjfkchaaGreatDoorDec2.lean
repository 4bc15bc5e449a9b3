/- strconv's decimal: the right shift. -/
import Derived.Test.YtkocponnjfkchaaGreatDoorDec1
namespace Go.Proofs.YtkocponnjfkchaaGreatDoor
open Go.RowKit

/-- The right shift's first phase: digits are taken in. -/
def rs1 (D : Nat → Nat) (n M : Nat) : Nat × Nat → (Nat × Nat) ⊕ (Nat × Nat) := fun a =>
  if a.2 < M then (if a.1 < n then .inl (a.1 + 1, a.2 * 10 + (D a.1 - 48)) else .inl (a.1 + 1, a.2 * 10)) else .inr a
/-- Its second: a digit in, a digit out. -/
def rs2 (D : Nat → Nat) (n r M : Nat) : Nat × Nat × (Nat → Nat) → (Nat × Nat × (Nat → Nat)) ⊕ (Nat × Nat × (Nat → Nat)) := fun a =>
  if r + a.1 < n then .inl (a.1 + 1, (a.2.1 % M) * 10 + (D (r + a.1) - 48), put a.2.2 a.1 (a.2.1 / M + 48)) else .inr a
/-- Its third: further digits out. -/
def rs3 (M : Nat) : Nat × Nat × (Nat → Nat) × Bool → (Nat × Nat × (Nat → Nat) × Bool) ⊕ (Nat × (Nat → Nat) × Bool) := fun a =>
  if 0 < a.2.1 then (if a.1 < 800 then .inl (a.1 + 1, (a.2.1 % M) * 10, put a.2.2.1 a.1 (a.2.1 / M + 48), a.2.2.2) else if 0 < a.2.1 / M then .inl (a.1, (a.2.1 % M) * 10, a.2.2.1, true) else .inl (a.1, (a.2.1 % M) * 10, a.2.2.1, a.2.2.2)) else .inr (a.1, a.2.2.1, a.2.2.2)
theorem rs1_in {D : Nat → Nat} {n M r N : Nat} (h1 : N < M) (h2 : r < n) : Of (rs1 D n M) (r, N) (.inl (r + 1, N * 10 + (D r - 48))) := by simp [Of, rs1, h1, h2]
theorem rs1_ze {D : Nat → Nat} {n M r N : Nat} (h1 : N < M) (h2 : n ≤ r) : Of (rs1 D n M) (r, N) (.inl (r + 1, N * 10)) := by simp [Of, rs1, h1, Nat.not_lt.2 h2]
theorem rs1_end {D : Nat → Nat} {n M r N : Nat} (h1 : ¬ N < M) : Of (rs1 D n M) (r, N) (.inr (r, N)) := by simp [Of, rs1, h1]
theorem rs2_in {D : Nat → Nat} {n r M i N : Nat} {E : Nat → Nat} (h : r + i < n) : Of (rs2 D n r M) (i, N, E) (.inl (i + 1, (N % M) * 10 + (D (r + i) - 48), put E i (N / M + 48))) := by simp [Of, rs2, h]
theorem rs2_end {D : Nat → Nat} {n r M i N : Nat} {E : Nat → Nat} (h : ¬ r + i < n) : Of (rs2 D n r M) (i, N, E) (.inr (i, N, E)) := by simp [Of, rs2, h]
theorem rs3_in {M x N : Nat} {E : Nat → Nat} {t : Bool} (h : 0 < N) (h2 : x < 800) : Of (rs3 M) (x, N, E, t) (.inl (x + 1, (N % M) * 10, put E x (N / M + 48), t)) := by simp [Of, rs3, h, h2]
theorem rs3_tr {M x N : Nat} {E : Nat → Nat} {t : Bool} (h : 0 < N) (h2 : ¬ x < 800) (h3 : 0 < N / M) : Of (rs3 M) (x, N, E, t) (.inl (x, (N % M) * 10, E, true)) := by simp only [Of, rs3]; rw [if_pos h, if_neg h2, if_pos h3]
theorem rs3_no {M x N : Nat} {E : Nat → Nat} {t : Bool} (h : 0 < N) (h2 : ¬ x < 800) (h3 : ¬ 0 < N / M) : Of (rs3 M) (x, N, E, t) (.inl (x, (N % M) * 10, E, t)) := by simp only [Of, rs3]; rw [if_pos h, if_neg h2, if_neg h3]
theorem rs3_end {M x : Nat} {E : Nat → Nat} {t : Bool} : Of (rs3 M) (x, 0, E, t) (.inr (x, E, t)) := by simp [Of, rs3]
/-- What the right shift makes of a decimal. -/
def RSh (D : Nat → Nat) (n : Nat) (dp : Int) (tr : Bool) (k : Nat) (D' : Nat → Nat) (n' : Nat) (dp' : Int) (tr' : Bool) : Prop :=
  ∃ r N i N2 E x, Run (Of (rs1 D n (2 ^ k))) (0, 0) (r, N) ∧ Run (Of (rs2 D n r (2 ^ k))) (0, N, D) (i, N2, E) ∧ Run (Of (rs3 (2 ^ k))) (i, N2, E, tr) (x, D', tr') ∧ n' = trimN D' x ∧ dp' = dp - ((r : Int) - 1)
theorem RSh.uniq {D : Nat → Nat} {n : Nat} {dp : Int} {tr : Bool} {k : Nat} {D1 D2 : Nat → Nat} {n1 n2 : Nat} {p1 p2 : Int} {t1 t2 : Bool} (h : RSh D n dp tr k D1 n1 p1 t1) (h' : RSh D n dp tr k D2 n2 p2 t2) : D1 = D2 ∧ n1 = n2 ∧ p1 = p2 ∧ t1 = t2 := by
  obtain ⟨r, N, i, N2, E, x, h1, h2, h3, rfl, rfl⟩ := h
  obtain ⟨r', N', i', N2', E', x', k1, k2, k3, rfl, rfl⟩ := h'
  have e1 := h1.uniq (Of.uniq _) k1
  simp only [Prod.mk.injEq] at e1
  obtain ⟨rfl, rfl⟩ := e1
  have e2 := h2.uniq (Of.uniq _) k2
  simp only [Prod.mk.injEq] at e2
  obtain ⟨rfl, rfl, rfl⟩ := e2
  have e3 := h3.uniq (Of.uniq _) k3
  simp only [Prod.mk.injEq] at e3
  obtain ⟨rfl, rfl, rfl⟩ := e3
  exact ⟨rfl, rfl, rfl, rfl⟩

set_option maxHeartbeats 1000000 in
set_option maxRecDepth 4000 in
theorem rightShift_any (g : Nat) (D : Nat → Nat) (n : Nat) (dp : Int) (ng tr : Bool) (k : Nat) (w : World) (h : DC 139 g D n dp ng tr w) (hn : DI D n) (h0 : 0 < n) (hk0 : 1 ≤ k) (hk1 : k ≤ 60) (hdp0 : -1099511627776 ≤ dp) (hdp1 : dp ≤ 1099511627776) :
    Calls Tryz.prog 110 #[.pointer (some ⟨g, 0, none⟩), .int .u64 (k : Int)] w fun e w' =>
      e = .returned (.tuple #[]) ∧ ∃ (D' : Nat → Nat) (n' : Nat) (dp' : Int) (tr' : Bool), DC 139 g D' n' dp' ng tr' w' ∧ DI D' n' ∧ 0 < n' ∧ Upd (OneB g) w w' ∧ dp' ≤ dp ∧ dp - 900 ≤ dp' ∧ 10 * dp' + D' 0 < 10 * dp + D 0 ∧ RSh D n dp tr k D' n' dp' tr' := by
  have hle := hn.le
  have hc0 := h.cnd
  obtain ⟨M, hMM⟩ : ∃ M : Nat, M = 2 ^ k := ⟨_, rfl⟩
  have hM : M ≤ 1152921504606846976 := by rw [hMM]; exact Nat.le_trans (Nat.pow_le_pow_right (by omega) hk1) (by decide)
  have hM2 : 2 ≤ M := by rw [hMM]; exact Nat.le_trans (by decide) (Nat.pow_le_pow_right (n := 2) (by omega) hk0)
  have hMc : (2 : Int) ^ k = (M : Int) := by rw [hMM, Int.natCast_pow]; rfl
  have HMM := Lib.hid hMM; clear hMM
  have HD := Lib.hid hn.dig
  go_enter Tryz.func110, Tryz.ntmps110
  go_upto_block 0 with (fail)
  go_cut [4, 6] (fun s4 s6 wx => ∃ (r N : Nat), s4 = .int .i64 (r : Int) ∧ s6 = .int .u64 (N : Int) ∧ M ≤ N ∧ N < 10 * M ∧ 1 ≤ r ∧ r ≤ n + 65 ∧ (r = 1 → N = D 0 - 48) ∧ Run (Of (rs1 D n M)) (0, 0) (r, N) ∧ w = wx)
  case first =>
    go_wp2_with fail
    go_loopg [4, 6] n (fun m v x wr => ∃ (r : Nat), m = n - r ∧ v = .int .i64 (r : Int) ∧ x = .int .u64 (pv D r : Int) ∧ r ≤ n ∧ pv D r < 10 * M ∧ (∀ y, Run (Of (rs1 D n M)) (r, pv D r) y → Run (Of (rs1 D n M)) (0, 0) y) ∧ w = wr)
    case atStart => exact ⟨0, rfl, rfl, rfl, Nat.zero_le _, by simp [pv]; omega, fun _ h => h, rfl⟩
    case round =>
      obtain ⟨r, hm, rfl, rfl, hr, hN, hR1, rfl⟩ := hrel
      have Hm := Lib.hid hm; clear hm
      have HR1 := Lib.hid hR1; clear hR1
      by_cases hlt : pv D r < M
      · have hq : (pv D r : Int) / (M : Int) = 0 := Int.ediv_eq_zero_of_lt (by omega) (by omega)
        by_cases hrn : r < n
        · have hcd := h.c r (by omega)
          have hd := HD.out r hrn
          go_wp2_with fail
          go_roundg (n - (r + 1))
          case measure => have := Hm.out; omega
          case rel => exact ⟨r + 1, rfl, rfl, by simp only [pv]; congr 1; omega, by omega, by simp only [pv]; omega, fun y h => HR1.out y (.step (rs1_in hlt hrn) h), rfl⟩
        · obtain rfl : r = n := by omega
          have hp : 1 ≤ pv D r := Nat.le_trans (Nat.pow_pos (by omega)) (pv_top h0 HD.out (hn.top h0))
          have hpz : ((pv D r : Int) == 0) = false := by simp; omega
          go_wp2_with fail
          go_loopg [4, 6] (10 * M - pv D r) (fun m v x wr => ∃ (i N : Nat), m = 10 * M - N ∧ v = .int .i64 ((r + i : Nat) : Int) ∧ x = .int .u64 (N : Int) ∧ 2 ^ i ≤ N ∧ N < 10 * M ∧ (i = 0 → N < M) ∧ (∀ y, Run (Of (rs1 D r M)) (r + i, N) y → Run (Of (rs1 D r M)) (0, 0) y) ∧ w = wr)
          case atStart => exact ⟨0, pv D r, rfl, rfl, rfl, by simpa using hp, hN, fun _ => hlt, HR1.out, rfl⟩
          case round =>
            obtain ⟨i, N, hm, rfl, rfl, hi, hN, hz, hR2, rfl⟩ := hrel
            have Hm := Lib.hid hm; clear hm
            have HR2 := Lib.hid hR2; clear hR2
            have Hi := Lib.hid hi; clear hi
            have hi65 : i ≤ 64 := by
              by_cases hc : i ≤ 64
              · exact hc
              · have h1 : 2 ^ 65 ≤ 2 ^ i := Nat.pow_le_pow_right (by omega) (by omega)
                have h2 : (2 : Nat) ^ 65 = 36893488147419103232 := by decide
                have := Hi.out
                omega
            by_cases hl2 : N < M
            · have hq2 : (N : Int) / (M : Int) = 0 := Int.ediv_eq_zero_of_lt (by omega) (by omega)
              go_wp2_with fail
              go_roundg (10 * M - N * 10)
              case measure => have := Hm.out; have : 1 ≤ N := Nat.le_trans (Nat.pow_pos (by omega)) Hi.out; omega
              case rel => exact ⟨i + 1, N * 10, rfl, by go_num, by go_num, by rw [Nat.pow_succ]; have := Hi.out; omega, by omega, (fun h => by omega), fun y h => HR2.out y (.step (rs1_ze hl2 (by omega)) h), rfl⟩
            · have hq2 : ((N : Int) / (M : Int) == 0) = false := idiv_ne (by omega) (by omega)
              go_wp2_with fail
              go_meet
              exact ⟨r + i, N, rfl, rfl, by omega, hN, by omega, by omega, (fun he => by have := hz (by omega); omega), HR2.out _ (.done (rs1_end hl2)), rfl⟩
      · have hq : ((pv D r : Int) / (M : Int) == 0) = false := idiv_ne (by omega) (by omega)
        go_wp2_with fail
        go_meet
        exact ⟨r, pv D r, rfl, rfl, by omega, hN, by by_cases e : r = 0; (subst e; simp [pv] at hlt; omega); omega, by omega, (fun he => by subst he; simp [pv]), HR1.out _ (.done (rs1_end hlt)), rfl⟩
  case rest =>
  obtain ⟨r, N, rfl, rfl, hMN, hN10, hr1, hr65, hone, hRun1, rfl⟩ := hcut
  have HRun1 := Lib.hid hRun1; clear hRun1
  have hdp := h.cdp
  have hfz := h.fz 801
  have HA : ∀ x : Nat, x < 10 * M → bits .and .u64 (x : Int) ((M : Int) - 1) = ((x % M : Nat) : Int) := fun x hx => by
    have := and_mask (N := x) (k := k) (by omega) (by omega)
    rw [← HMM.out] at this; exact this
  have HA' := Lib.hid HA; clear HA
  go_upto_block 4 with (fail)
  have hU0 : Upd (OneB g) w (w.setCell ⟨g, 801, none⟩ (.int .i64 (dp - ((r : Int) - 1)))) := (Upd.refl _ _).setOne _ _
  have h1 := h.setDp (dp - ((r : Int) - 1))
  generalize w.setCell ⟨g, 801, none⟩ (.int .i64 (dp - ((r : Int) - 1))) = w0 at *
  go_wp2_with fail
  go_loopg [4, 5, 6] n (fun m v4 v5 v6 wr => ∃ (i N' : Nat) (E : Nat → Nat), m = n - i ∧ v4 = .int .i64 ((r + i : Nat) : Int) ∧ v5 = .int .i64 (i : Int) ∧ v6 = .int .u64 (N' : Int) ∧ i ≤ n - r ∧ N' < 10 * M ∧ (i = 0 → N' = N) ∧
    DC 139 g E n (dp - ((r : Int) - 1)) ng tr wr ∧ Upd (OneB g) w wr ∧ (∀ q, q < i → 48 ≤ E q ∧ E q ≤ 57) ∧ (∀ q, i ≤ q → E q = D q) ∧ (0 < i → E 0 = 48 + N / M) ∧ (∀ y, Run (Of (rs2 D n r M)) (i, N', E) y → Run (Of (rs2 D n r M)) (0, N, D) y))
  case atStart => exact ⟨0, N, D, rfl, rfl, rfl, rfl, Nat.zero_le _, hN10, fun _ => rfl, h1, hU0, fun q hq => by omega, fun q _ => rfl, (fun h => by omega), fun _ h => h⟩
  case round =>
    obtain ⟨i, N', E, hm, rfl, rfl, rfl, hi, hN', hi0, hE, hU, hdg, hrst, htop, hR2⟩ := hrel
    have HR2 := Lib.hid hR2; clear hR2
    have Hm := Lib.hid hm; clear hm
    have Hi0 := Lib.hid hi0; clear hi0
    have Hdg := Lib.hid hdg; clear hdg
    have Hrst := Lib.hid hrst; clear hrst
    have Htop := Lib.hid htop; clear htop
    have hcn := hE.cnd
    by_cases hlt : r + i < n
    · have hcd := hE.c (r + i) (by omega)
      rw [Hrst.out (r + i) (by omega)] at hcd
      have hd := HD.out (r + i) hlt
      have hq := idiv_nat N' M
      have hq9 : N' / M ≤ 9 := by
        have : N' / M < 10 := by rw [Nat.div_lt_iff_lt_mul (by omega)]; omega
        omega
      have hand := HA'.out N' hN'
      have hmod : N' % M < M := Nat.mod_lt _ (by omega)
      have hfz := hE.fz i
      have hci := hE.c i (by omega)
      have HQ : Hid (i = 0 → N' / M = N / M) := Lib.hid fun e => by rw [Hi0.out e]
      have HS := Lib.hid (fun y h => HR2.out y (.step (rs2_in hlt) h))
      clear HR2
      generalize N' / M = q at *
      generalize N' % M = z at *
      go_wp2_with fail
      go_roundg (n - (i + 1))
      case measure => have := Hm.out; omega
      case rel => exact ⟨i + 1, z * 10 + (D (r + i) - 48), fun x => if i = x then q + 48 else E x, rfl, by go_num, by go_num, by congr 1; omega, by omega, by omega, (fun h => by omega), by first | exact hE.setD (by omega) (by omega) | (have := hE.setD (i := i) (by omega) (v := q + 48) (by omega); exact_mod_cast this), hU.setOne _ _, fun x hx => by
          show 48 ≤ (if i = x then q + 48 else E x) ∧ (if i = x then q + 48 else E x) ≤ 57
          split
          · omega
          · exact Hdg.out x (by omega), fun x hx => by
          show (if i = x then q + 48 else E x) = D x
          rw [if_neg (by omega)]; exact Hrst.out x (by omega), fun _ => by
          show (if i = 0 then q + 48 else E 0) = 48 + N / M
          split
          · rename_i e; rw [HQ.out e]; omega
          · exact Htop.out (by omega), HS.out⟩
    · have HRun2 := Lib.hid (HR2.out _ (.done (rs2_end hlt)))
      clear HR2
      have hi8 : i ≤ 800 := by omega
      go_wp2_with fail
      go_loopg [5, 6] (k + 5) (fun m v5 v6 wr => ∃ (j x N' : Nat) (E : Nat → Nat) (tr' : Bool), m = k + 5 - j ∧ v5 = .int .i64 (x : Int) ∧ v6 = .int .u64 (N' : Int) ∧ x ≤ 800 ∧ N' < 10 * M ∧ 2 ^ j ∣ N' ∧ (x = 0 → N' = N) ∧
        DC 139 g E n (dp - ((r : Int) - 1)) ng tr' wr ∧ Upd (OneB g) w wr ∧ (∀ q, q < x → 48 ≤ E q ∧ E q ≤ 57) ∧ (0 < x → E 0 = 48 + N / M) ∧ (∀ y, Run (Of (rs3 M)) (x, N', E, tr') y → RSh D n dp tr k y.2.1 (trimN y.2.1 y.1) (dp - ((r : Int) - 1)) y.2.2))
      case atStart => exact ⟨0, i, N', E, tr, rfl, rfl, rfl, hi8, hN', by simp, Hi0.out, hE, hU, Hdg.out, Htop.out, fun y h => by
        have h1 := HRun1.out
        have h2 := HRun2.out
        rw [HMM.out] at h h1 h2
        exact ⟨r, N, i, N', E, y.1, h1, h2, h, rfl, rfl⟩⟩
      case round =>
        clear hE hU hcn hN' Hdg Hi0 Htop Hrst Hm hlt hi hi8
        obtain ⟨j, x, N', E, tr', hm, rfl, rfl, hx8, hN', hj, hx0, hE, hU, hdg, htop, hR3⟩ := hrel
        have HR3 := Lib.hid hR3; clear hR3 HRun1 HRun2
        have Hm := Lib.hid hm; clear hm
        have Hx0 := Lib.hid hx0; clear hx0
        have Hdg := Lib.hid hdg; clear hdg
        have Htop := Lib.hid htop; clear htop
        have Hj := Lib.hid hj; clear hj
        by_cases hz : 0 < N'
        · have hjk : j < k + 4 := by
            have h1 := Nat.le_of_dvd hz Hj.out
            by_cases hc : j < k + 4
            · exact hc
            · have h2 : 2 ^ (k + 4) ≤ 2 ^ j := Nat.pow_le_pow_right (by omega) (by omega)
              rw [Nat.pow_add, ← HMM.out] at h2
              omega
          have hq := idiv_nat N' M
          have hq9 : N' / M ≤ 9 := by
            have : N' / M < 10 := by rw [Nat.div_lt_iff_lt_mul (by omega)]; omega
            omega
          have hand := HA'.out N' hN'
          have hmod : N' % M < M := Nat.mod_lt _ (by omega)
          have HQ : Hid (x = 0 → N' / M = N / M) := Lib.hid fun e => by rw [Hx0.out e]
          have HJ : Hid (2 ^ (j + 1) ∣ (N' % M) * 10) := Lib.hid (by rw [HMM.out]; exact dvd_step Hj.out)
          have HS1 := Lib.hid (fun (hx : x < 800) y h => HR3.out y (.step (rs3_in hz hx) h))
          have HS2 := Lib.hid (fun (hx : ¬ x < 800) (h3 : 0 < N' / M) y h => HR3.out y (.step (rs3_tr hz hx h3) h))
          have HS3 := Lib.hid (fun (hx : ¬ x < 800) (h3 : ¬ 0 < N' / M) y h => HR3.out y (.step (rs3_no hz hx h3) h))
          clear HR3
          generalize N' / M = q at *
          generalize N' % M = z at *
          by_cases hx : x < 800
          · have hfz := hE.fz x
            have hci := hE.c x hx
            go_wp2_with fail
            go_roundg (k + 5 - (j + 1))
            case measure => have := Hm.out; omega
            case rel => exact ⟨j + 1, x + 1, z * 10, fun y => if x = y then q + 48 else E y, tr', rfl, by go_num, by go_num, by omega, by omega, HJ.out, (fun h => by omega), by have := hE.setD (i := x) (by omega) (v := q + 48) (by omega); exact_mod_cast this, hU.setOne _ _, fun y hy => by
                show 48 ≤ (if x = y then q + 48 else E y) ∧ (if x = y then q + 48 else E y) ≤ 57
                split
                · omega
                · exact Hdg.out y (by omega), fun _ => by
                show (if x = 0 then q + 48 else E 0) = 48 + N / M
                split
                · rename_i e; rw [HQ.out e]; omega
                · exact Htop.out (by omega), HS1.out hx⟩
          · have hfz := hE.fz 803
            have hct := hE.ctr
            by_cases hq0 : 0 < q
            · have hq1 : (0 : Int) < (q : Int) := by omega
              go_wp2_with fail
              go_roundg (k + 5 - (j + 1))
              case measure => have := Hm.out; omega
              case rel => exact ⟨j + 1, x, z * 10, E, true, rfl, rfl, by go_num, by omega, by omega, HJ.out, (fun h => by omega), hE.setTr true, hU.setOne _ _, Hdg.out, Htop.out, HS2.out hx hq0⟩
            · have hq1 : ¬ (0 : Int) < (q : Int) := by omega
              go_wp2_with fail
              go_roundg (k + 5 - (j + 1))
              case measure => have := Hm.out; omega
              case rel => exact ⟨j + 1, x, z * 10, E, tr', rfl, rfl, by go_num, by omega, by omega, HJ.out, (fun h => by omega), hE, hU, Hdg.out, Htop.out, HS3.out hx hq0⟩
        · obtain rfl : N' = 0 := by omega
          have hx1 : 0 < x := by
            by_cases e : x = 0
            · have := Hx0.out e; omega
            · omega
          have hfz := hE.fz 800
          have hcn := hE.cnd
          have hDI : DI E x := ⟨hx8, Hdg.out, fun _ => by
            have := Htop.out hx1
            have : 0 < N / M := Nat.div_pos hMN (by omega)
            omega⟩
          have htr := trim_any g E x (dp - ((r : Int) - 1)) ng tr' _ (hE.setNd (x : Int)) hDI hx1
          go_wp2_with (go_at_call 116; refine htr.mono ?_; rintro e w' ⟨rfl, n', h1, h2, h3, h4, h5⟩)
          go_end0
          have ht0 := Htop.out hx1
          have hd0 := HD.out 0 h0
          have hd1 := hn.top h0
          have hNM : N / M < 10 := by rw [Nat.div_lt_iff_lt_mul (by omega)]; omega
          have hNM2 : N / M ≤ N / 2 := Nat.div_le_div_left hM2 (by omega)
          refine ⟨rfl, E, n', dp - ((r : Int) - 1), tr', h3, ⟨by omega, fun q hq => Hdg.out q (by omega), fun _ => hDI.top hx1⟩, h1, (hU.setOne _ _).trans h4, by omega, by omega, ?_, ?_⟩
          rotate_left
          · have := HR3.out _ (.done rs3_end)
            rw [h5]
            exact this
          by_cases e : r = 1
          · have := hone e; omega
          · omega
end Go.Proofs.YtkocponnjfkchaaGreatDoor
