/- strconv's decimal: the left shift. strconv's decimal: Shift. -/
import Derived.Test.YtkocponnjfkchaaGreatDoorDec1
import Derived.Test.YtkocponnjfkchaaGreatDoorTabs
import Derived.Test.YtkocponnjfkchaaGreatDoorDec2
namespace Go.Proofs.YtkocponnjfkchaaGreatDoor
open Go.RowKit

theorem slice_arr (g n : Nat) (hn : n ≤ 800) (wx : World) : (Instr.sliceAt 137 (.pointer (some ⟨g, 0, none⟩)) (some (.int .i64 0)) (some (.int .i64 (n : Int))) none).run Tryz.prog wx = .ok (.slice (some ⟨g, 0, none⟩) n 800) wx := by
  have ha : Tryz.prog.arrayLen 137 = 800 := by simp [Program.arrayLen, Tryz.underlying137]
  have he : Tryz.prog.elem 137 = 5 := by simp [Program.elem, Tryz.underlying137]
  rw [run_sliceAt_array_lh wx 137 ⟨g, 0, none⟩ (by rw [ha, he]; exact Tryz.underlying137) .i64 .i64 0 (n : Int) (by omega) (by omega) (by rw [ha]; omega)]
  rw [he, ha]
  simp [Result.andThen, slicedAt, Addr.add, go_sem]

/-- The left shift's first phase: a digit in, a digit out, from the right. -/
def lsA (D : Nat → Nat) (n k dl M : Nat) : Nat × (Nat → Nat) × Bool → (Nat × (Nat → Nat) × Bool) ⊕ ((Nat → Nat) × Bool)
  | (0, E, t) => .inr (E, t)
  | (i + 1, E, t) => if i + dl < 800 then .inl (i, put E (i + dl) ((cry D n k (i + 1) + (D i - 48) * M) % 10 + 48), t) else if (cry D n k (i + 1) + (D i - 48) * M) % 10 = 0 then .inl (i, E, t) else .inl (i, E, true)
/-- Its second: further digits out. -/
def lsB : Nat × Nat × (Nat → Nat) × Bool → (Nat × Nat × (Nat → Nat) × Bool) ⊕ ((Nat → Nat) × Bool)
  | (0, _, E, t) => .inr (E, t)
  | (i + 1, N, E, t) => if 0 < N then .inl (i, N / 10, put E i (N % 10 + 48), t) else .inr (E, t)
theorem lsA_in {D : Nat → Nat} {n k dl M i : Nat} {E : Nat → Nat} {t : Bool} (h : i + dl < 800) : Of (lsA D n k dl M) (i + 1, E, t) (.inl (i, put E (i + dl) ((cry D n k (i + 1) + (D i - 48) * M) % 10 + 48), t)) := by simp only [Of, lsA]; rw [if_pos h]
theorem lsA_no {D : Nat → Nat} {n k dl M i : Nat} {E : Nat → Nat} {t : Bool} (h : ¬ i + dl < 800) (h2 : (cry D n k (i + 1) + (D i - 48) * M) % 10 = 0) : Of (lsA D n k dl M) (i + 1, E, t) (.inl (i, E, t)) := by simp only [Of, lsA]; rw [if_neg h, if_pos h2]
theorem lsA_tr {D : Nat → Nat} {n k dl M i : Nat} {E : Nat → Nat} {t : Bool} (h : ¬ i + dl < 800) (h2 : ¬ (cry D n k (i + 1) + (D i - 48) * M) % 10 = 0) : Of (lsA D n k dl M) (i + 1, E, t) (.inl (i, E, true)) := by simp only [Of, lsA]; rw [if_neg h, if_neg h2]
theorem lsA_end {D : Nat → Nat} {n k dl M : Nat} {E : Nat → Nat} {t : Bool} : Of (lsA D n k dl M) (0, E, t) (.inr (E, t)) := rfl
theorem lsB_in {i N : Nat} {E : Nat → Nat} {t : Bool} (h : 0 < N) : Of lsB (i + 1, N, E, t) (.inl (i, N / 10, put E i (N % 10 + 48), t)) := by simp only [Of, lsB]; rw [if_pos h]
theorem lsB_end {m : Nat} {E : Nat → Nat} {t : Bool} : Of lsB (m, 0, E, t) (.inr (E, t)) := by cases m <;> simp [Of, lsB]
/-- How many digits the left shift adds. -/
def lsD (D : Nat → Nat) (n k : Nat) : Nat := if pv D n * 10 ^ (cheatS k).size < pv (bAt (cheatS k)) (cheatS k).size * 10 ^ n then k - (cheatS k).size else k - (cheatS k).size + 1
/-- What the left shift makes of a decimal. -/
def LS (D : Nat → Nat) (n : Nat) (dp : Int) (tr : Bool) (k : Nat) (D' : Nat → Nat) (n' : Nat) (dp' : Int) (tr' : Bool) : Prop :=
  ∃ E t, Run (Of (lsA D n k (lsD D n k) (2 ^ k))) (n, D, tr) (E, t) ∧ Run (Of lsB) (lsD D n k, cry D n k 0, E, t) (D', tr') ∧ n' = trimN D' (min 800 (n + lsD D n k)) ∧ dp' = dp + (lsD D n k : Int)
theorem LS.uniq {D : Nat → Nat} {n : Nat} {dp : Int} {tr : Bool} {k : Nat} {D1 D2 : Nat → Nat} {n1 n2 : Nat} {p1 p2 : Int} {t1 t2 : Bool} (h : LS D n dp tr k D1 n1 p1 t1) (h' : LS D n dp tr k D2 n2 p2 t2) : D1 = D2 ∧ n1 = n2 ∧ p1 = p2 ∧ t1 = t2 := by
  obtain ⟨E, t, h1, h2, rfl, rfl⟩ := h
  obtain ⟨E', t', k1, k2, rfl, rfl⟩ := h'
  have e1 := h1.uniq (Of.uniq _) k1
  simp only [Prod.mk.injEq] at e1
  obtain ⟨rfl, rfl⟩ := e1
  have e2 := h2.uniq (Of.uniq _) k2
  simp only [Prod.mk.injEq] at e2
  obtain ⟨rfl, rfl⟩ := e2
  exact ⟨rfl, rfl, rfl, rfl⟩

set_option maxHeartbeats 1000000 in
set_option maxRecDepth 4000 in
theorem leftShift_any (g : Nat) (D : Nat → Nat) (n : Nat) (dp : Int) (ng tr : Bool) (k : Nat) (w : World) (h : DC 139 g D n dp ng tr w) (hn : DI D n) (h0 : 0 < n) (hk0 : 1 ≤ k) (hk1 : k ≤ 60) (hdp0 : -1099511627776 ≤ dp) (hdp1 : dp ≤ 1099511627776)
    (B o c : Nat) (hL : LC 16 B o c w) (_hgB : g ≠ B) (_hgG : g ≠ 16) :
    Calls Tryz.prog 109 #[.pointer (some ⟨g, 0, none⟩), .int .u64 (k : Int)] w fun e w' =>
      e = .returned (.tuple #[]) ∧ ∃ (D' : Nat → Nat) (n' : Nat) (dp' : Int) (tr' : Bool), DC 139 g D' n' dp' ng tr' w' ∧ DI D' n' ∧ 0 < n' ∧ Upd (OneB g) w w' ∧ dp ≤ dp' ∧ dp' ≤ dp + 100 ∧ 10 * dp + D 0 < 10 * dp' + D' 0 ∧ LS D n dp tr k D' n' dp' tr' := by
  have hle := hn.le
  have hc0 := h.cnd
  have HC := Lib.hid (cheat k hk0 hk1)
  have hLv := hL.var
  have hLd := hL.d k (by omega)
  have hLs := hL.s k (by omega)
  have hV0 := pv_top h0 hn.dig (hn.top h0)
  have hV1 : pv D n < 10 ^ n := pv_lt fun i hi => (hn.dig i hi).2
  have HS := Lib.hid (shl_digits (V := pv D n) (k := k) (n := n) (m := (cheatS k).size) h0 HC.out.mlk HC.out.m1 hV0 hV1 HC.out.lo HC.out.hi)
  have HP := Lib.hid (fun x => prefixIsLessThan_is g 800 D n (cheatS k) (w.drewN x) hle hn.dig (fun i hi => (h.drewN x).c i (by omega)) (by have := HC.out.m60; omega) HC.out.dig HC.out.last)
  clear hV0 hV1
  have hmk := HC.out.mlk
  have hm1 := HC.out.m1
  have hdd := Lib.hid HC.out.d
  generalize cheatD k = dl at *
  obtain ⟨M, hMM⟩ : ∃ M : Nat, M = 2 ^ k := ⟨_, rfl⟩
  have hM : M ≤ 1152921504606846976 := by rw [hMM]; exact Nat.le_trans (Nat.pow_le_pow_right (by omega) hk1) (by decide)
  have hM2 : 2 ≤ M := by rw [hMM]; exact Nat.le_trans (by decide) (Nat.pow_le_pow_right (n := 2) (by omega) hk0)
  have hMc : (2 : Int) ^ k = (M : Int) := by rw [hMM, Int.natCast_pow]; rfl
  have HMM := Lib.hid hMM; clear hMM
  have hsl := slice_arr g n hle
  go_enter Tryz.func109, Tryz.ntmps109
  go_upto_region 1 with (fail)
  go_cut [30] (fun s30 wx => s30 = .bool (decide (pv D n * 10 ^ (cheatS k).size < pv (bAt (cheatS k)) (cheatS k).size * 10 ^ n)) ∧ ∃ x, wx = w.drewN x)
  case first =>
    go_quiet ((go_at_call 115; exact Calls.quiet_of (HP.out _)))
    go_wp2_with fail
    go_meet
    exact ⟨rfl, _, rfl⟩
  case rest =>
  obtain ⟨rfl, x, rfl⟩ := hcut
  clear HP hsl
  go_upto_if 30 with (fail)
  go_cut [4] (fun s4 wx => ∃ (dl' : Nat), s4 = .int .i64 (dl' : Int) ∧ dl' ≤ 60 ∧ pv D n * M < 10 ^ (n + dl') ∧ 10 ^ (n + dl' - 1) ≤ pv D n * M ∧ dl' = lsD D n k ∧ wx = w.drewN x)
  case first =>
    by_cases hless : pv D n * 10 ^ (cheatS k).size < pv (bAt (cheatS k)) (cheatS k).size * 10 ^ n
    · rw [decide_eq_true hless]
      have HLS : Hid (lsD D n k = k - (cheatS k).size) := Lib.hid (if_pos hless)
      have H := HC.out.v
      rw [H] at hless
      have h1 := HS.out.1 hless
      have h2 := hdd.out
      rw [← HMM.out] at h1
      have H1 := Lib.hid h1
      clear h1 hless H
      go_wp2_with fail
      go_meet
      exact ⟨k - (cheatS k).size, by go_num, by omega, H1.out.2, H1.out.1, HLS.out.symm, rfl⟩
    · rw [decide_eq_false hless]
      have HLS : Hid (lsD D n k = k - (cheatS k).size + 1) := Lib.hid (if_neg hless)
      have H := HC.out.v
      rw [H] at hless
      have h1 := HS.out.2 (by omega)
      have h2 := hdd.out
      rw [← HMM.out] at h1
      have H1 := Lib.hid h1
      clear h1 hless H
      go_wp2_with fail
      go_meet
      exact ⟨k - (cheatS k).size + 1, by go_num, by omega, H1.out.2, H1.out.1, HLS.out.symm, rfl⟩
  case rest =>
  obtain ⟨dl', rfl, hdl, hlt, hge, hLSD, rfl⟩ := hcut
  have HLSD := Lib.hid hLSD; clear hLSD
  have HLT := Lib.hid hlt
  have HGE := Lib.hid hge
  clear hlt hge HS HC hdd hLd hLs hLv
  have hw := h.drewN x
  have hU0 : Upd (OneB g) w (w.drewN x) := (Upd.refl _ _).drewN _
  have HD := Lib.hid hn.dig
  generalize w.drewN x = w0 at *
  have hc0 := hw.cnd
  go_upto_block 0 with (fail)
  go_wp2_with fail
  go_loopg [5, 6, 7] n (fun m v5 v6 v7 wr => ∃ (E : Nat → Nat) (tr' : Bool), m ≤ n ∧ v5 = .int .i64 ((m : Int) - 1) ∧ v6 = .int .i64 ((m + dl' : Nat) : Int) ∧ v7 = .int .u64 (cry D n k m : Int) ∧
    DC 139 g E n dp ng tr' wr ∧ Upd (OneB g) w wr ∧ (∀ q, q < m → E q = D q) ∧ (∀ q, m + dl' ≤ q → q < n + dl' → q < 800 → 48 ≤ E q ∧ E q ≤ 57) ∧ (m = 0 → dl' = 0 → 48 + 2 * (D 0 - 48) ≤ E 0) ∧ (∀ y, Run (Of (lsA D n k dl' M)) (m, E, tr') y → Run (Of (lsA D n k dl' M)) (n, D, tr) y))
  case atStart => exact ⟨D, tr, Nat.le_refl _, by go_num, by go_num, by rw [cry_end]; rfl, hw, hU0, fun q _ => rfl, fun q h1 h2 => by omega, (fun h => by omega), fun _ h => h⟩
  case round =>
    obtain ⟨E, tr', hm, rfl, rfl, rfl, hE, hU, heq, hdg, htop, hRA⟩ := hrel
    have HRA := Lib.hid hRA; clear hRA
    have Heq := Lib.hid heq; clear heq
    have Hdg := Lib.hid hdg; clear hdg
    have Htop := Lib.hid htop; clear htop
    clear hU0 hw
    by_cases hz : 0 < gk
    · obtain ⟨i, rfl⟩ : ∃ i, gk = i + 1 := ⟨gk - 1, by omega⟩
      have hcd := hE.c i (by omega)
      rw [Heq.out i (by omega)] at hcd
      have hd := HD.out i (by omega)
      have hc := cry_lt (D := D) (n := n) (k := k) (r := i + 1) (by omega) HD.out
      rw [← HMM.out] at hc
      have Hs := Lib.hid (cry_step (D := D) (n := n) (k := k) (r := i) (by omega) HD.out)
      rw [← HMM.out] at Hs
      have HS1 := Lib.hid (fun (hx : i + dl' < 800) y h => HRA.out y (.step (lsA_in hx) h))
      have HS2 := Lib.hid (fun (hx : ¬ i + dl' < 800) (h2 : (cry D n k (i + 1) + (D i - 48) * M) % 10 = 0) y h => HRA.out y (.step (lsA_no hx h2) h))
      have HS3 := Lib.hid (fun (hx : ¬ i + dl' < 800) (h2 : ¬ (cry D n k (i + 1) + (D i - 48) * M) % 10 = 0) y h => HRA.out y (.step (lsA_tr hx h2) h))
      clear HRA
      generalize cry D n k (i + 1) = c1 at *
      have hp9 : (D i - 48) * M ≤ 9 * M := Nat.mul_le_mul_right _ (by omega)
      have hp : ((D i : Int) - 48) * (M : Int) = (((D i - 48) * M : Nat) : Int) := by
        rw [Int.natCast_mul, Int.natCast_sub (by omega)]; rfl
      have Hp2 : Hid (2 * (D i - 48) ≤ (D i - 48) * M) := Lib.hid (by rw [Nat.mul_comm 2]; exact Nat.mul_le_mul_left _ hM2)
      generalize (D i - 48) * M = p at *
      have hi1 : ((i + 1 : Nat) : Int) - 1 = (i : Int) := by omega
      have hi2 : ((i + 1 + dl' : Nat) : Int) - 1 = ((i + dl' : Nat) : Int) := by omega
      by_cases hx : i + dl' < 800
      · have hfz := hE.fz (i + dl')
        have hci := hE.c (i + dl') hx
        go_wp2_with fail
        go_roundg i
        case measure => omega
        case rel =>
          refine ⟨fun y => if i + dl' = y then (c1 + p) % 10 + 48 else E y, tr', by omega, by go_num, by go_num, by rw [Hs.out]; congr 1; omega, ?_, ?_, ?_, ?_, ?_, HS1.out hx⟩
          · have := hE.setD (i := i + dl') hx (v := (c1 + p) % 10 + 48) (by omega)
            rw [show ((c1 : Int) + p - 10 * (((c1 : Int) + p) / 10) + 48) = (((c1 + p) % 10 + 48 : Nat) : Int) by omega]
            exact this
          · exact hU.setOne _ _
          · intro q hq
            show (if i + dl' = q then (c1 + p) % 10 + 48 else E q) = D q
            rw [if_neg (by omega)]; exact Heq.out q (by omega)
          · intro q h1 h2 h3
            show 48 ≤ (if i + dl' = q then (c1 + p) % 10 + 48 else E q) ∧ (if i + dl' = q then (c1 + p) % 10 + 48 else E q) ≤ 57
            split
            · omega
            · exact Hdg.out q (by omega) h2 h3
          · intro h1 h2
            subst h1; subst h2
            show 48 + 2 * (D 0 - 48) ≤ (if 0 + 0 = 0 then (c1 + p) % 10 + 48 else E 0)
            have h3 := Hs.out
            rw [cry_zero, ← HMM.out, Nat.div_eq_of_lt (by simpa using HLT.out)] at h3
            have := Hp2.out
            rw [if_pos rfl]; omega
      · have hfz := hE.fz 803
        have hct := hE.ctr
        by_cases hr0 : (c1 + p) % 10 = 0
        · have hrem : ((c1 : Int) + p - 10 * (((c1 : Int) + p) / 10) != 0) = false := by simp; omega
          go_wp2_with fail
          go_roundg i
          case measure => omega
          case rel => exact ⟨E, tr', by omega, by go_num, by go_num, by rw [Hs.out]; congr 1; omega, hE, hU, fun q hq => Heq.out q (by omega), fun q h1 h2 h3 => by omega, (fun h1 h2 => by omega), HS2.out hx hr0⟩
        · have hrem : ((c1 : Int) + p - 10 * (((c1 : Int) + p) / 10) != 0) = true := by simp; omega
          go_wp2_with fail
          go_roundg i
          case measure => omega
          case rel => exact ⟨E, true, by omega, by go_num, by go_num, by rw [Hs.out]; congr 1; omega, hE.setTr true, hU.setOne _ _, fun q hq => Heq.out q (by omega), fun q h1 h2 h3 => by omega, (fun h1 h2 => by omega), HS3.out hx hr0⟩
    · obtain rfl : gk = 0 := by omega
      have hv0 : cry D n k 0 < 10 ^ dl' := by
        rw [cry_zero, ← HMM.out, Nat.div_lt_iff_lt_mul (Nat.pow_pos (by omega)), ← Nat.pow_add, Nat.add_comm dl' n]
        exact HLT.out
      have hv1 : 0 < dl' → 10 ^ (dl' - 1) ≤ cry D n k 0 := fun hd => by
        rw [cry_zero, ← HMM.out, Nat.le_div_iff_mul_le (Nat.pow_pos (by omega)), ← Nat.pow_add, show dl' - 1 + n = n + dl' - 1 by omega]
        exact HGE.out
      have hc := cry_lt (D := D) (n := n) (k := k) (r := 0) (by omega) HD.out
      rw [← HMM.out] at hc
      have HB : Hid (∀ y, Run (Of lsB) (dl', cry D n k 0, E, tr') y → LS D n dp tr k y.1 (trimN y.1 (min 800 (n + dl'))) (dp + (dl' : Int)) y.2) := Lib.hid (fun y h => by
        have h1 := HRA.out _ (.done lsA_end)
        rw [HMM.out, HLSD.out] at h1
        rw [HLSD.out] at h ⊢
        exact ⟨E, tr', h1, h, rfl, rfl⟩)
      have Hv0 := Lib.hid hv0; clear hv0
      have Hv1 := Lib.hid hv1; clear hv1
      generalize cry D n k 0 = N0 at *
      have Hdl0 : Hid (dl' = 0 → 48 + 2 * (D 0 - 48) ≤ E 0) := Lib.hid (Htop.out rfl)
      clear HLT HGE
      go_wp2_with fail
      go_loopg [6, 7] dl' (fun m v6 v7 wr => ∃ (N : Nat) (E : Nat → Nat) (tr' : Bool), m ≤ dl' ∧ v6 = .int .i64 (m : Int) ∧ v7 = .int .u64 (N : Int) ∧ N < M ∧ N < 10 ^ m ∧ (0 < m → 10 ^ (m - 1) ≤ N) ∧
        DC 139 g E n dp ng tr' wr ∧ Upd (OneB g) w wr ∧ (∀ q, m ≤ q → q < n + dl' → q < 800 → 48 ≤ E q ∧ E q ≤ 57) ∧ (m = 0 → (0 < dl' → E 0 ≠ 48) ∧ (dl' = 0 → 48 + 2 * (D 0 - 48) ≤ E 0)) ∧ (∀ y, Run (Of lsB) (m, N, E, tr') y → LS D n dp tr k y.1 (trimN y.1 (min 800 (n + dl'))) (dp + (dl' : Int)) y.2))
      case atStart => exact ⟨N0, E, tr', Nat.le_refl _, by go_num, rfl, hc, Hv0.out, Hv1.out, hE, hU, fun q h1 h2 h3 => Hdg.out q (by omega) h2 h3, (fun hz => ⟨fun h => by omega, Hdl0.out⟩), HB.out⟩
      case round =>
        clear hE hU Hdg Htop Hdl0 Heq hc Hv0 Hv1 HB HRA
        obtain ⟨N, E, tr', hm, rfl, rfl, hNM, hN0, hN1, hE, hU, hdg, htop, hRB⟩ := hrel
        have HRB := Lib.hid hRB; clear hRB
        have HN0 := Lib.hid hN0; clear hN0
        have HN1 := Lib.hid hN1; clear hN1
        have Hdg := Lib.hid hdg; clear hdg
        have Htop := Lib.hid htop; clear htop
        by_cases hz : 0 < N
        · have hm0 : 0 < gk := by
            by_cases e : 0 < gk
            · exact e
            · have := HN0.out; rw [show gk = 0 by omega] at this; simp at this; omega
          obtain ⟨i, rfl⟩ : ∃ i, gk = i + 1 := ⟨gk - 1, by omega⟩
          have hfz := hE.fz i
          have hci := hE.c i (by omega)
          have hi1 : ((i + 1 : Nat) : Int) - 1 = (i : Int) := by omega
          go_wp2_with fail
          go_roundg i
          case measure => omega
          case rel =>
            have hpi : 10 ^ (i + 1) = 10 ^ i * 10 := Nat.pow_succ 10 i
            have h9 := HN0.out
            refine ⟨N / 10, fun y => if i = y then N % 10 + 48 else E y, tr', by omega, by go_num, by congr 1, by omega, by omega, ?_, ?_, hU.setOne _ _, ?_, ?_, fun y h => HRB.out y (.step (lsB_in hz) h)⟩
            · intro hi0
              have h1 := HN1.out (by omega)
              rw [show i + 1 - 1 = (i - 1) + 1 by omega, Nat.pow_succ] at h1
              omega
            · have := hE.setD (i := i) (by omega) (v := N % 10 + 48) (by omega)
              rw [show ((N : Int) - 10 * ((N : Int) / 10) + 48) = ((N % 10 + 48 : Nat) : Int) by omega]
              exact this
            · intro q h1 h2 h3
              show 48 ≤ (if i = q then N % 10 + 48 else E q) ∧ (if i = q then N % 10 + 48 else E q) ≤ 57
              split
              · omega
              · exact Hdg.out q (by omega) h2 h3
            · intro hi0
              subst hi0
              refine ⟨fun _ => ?_, fun h => by omega⟩
              show (if 0 = 0 then N % 10 + 48 else E 0) ≠ 48
              rw [if_pos rfl]
              simp at h9
              omega
        · have hm0 : gk = 0 := by
            by_cases e : 0 < gk
            · have h1 := HN1.out e
              have h2 : 0 < 10 ^ (gk - 1) := Nat.pow_pos (by omega)
              omega
            · omega
          obtain rfl : N = 0 := by omega
          subst hm0
          have htop := Htop.out rfl
          have hD0 := HD.out 0 h0
          have hDt := hn.top h0
          have hE0 : 48 < E 0 ∧ E 0 ≤ 57 := by
            have := Hdg.out 0 (Nat.le_refl _) (by omega) (by omega)
            by_cases e : 0 < dl'
            · have := htop.1 e; omega
            · have := htop.2 (by omega); omega
          have hfin : 10 * dp + (D 0 : Int) < 10 * (dp + (dl' : Int)) + (E 0 : Int) := by
            by_cases e : 0 < dl'
            · omega
            · have := htop.2 (by omega); omega
          have hfz := hE.fz 800
          have hfz1 := hE.fz 801
          have hcn := hE.cnd
          have hcp := hE.cdp
          have HF := Lib.hid hfin
          have HLS := Lib.hid (HRB.out _ (.done lsB_end))
          clear HRB
          clear hfin htop hD0 hDt
          by_cases hbig : 800 ≤ n + dl'
          · have hDI : DI E 800 := ⟨Nat.le_refl _, fun q hq => Hdg.out q (by omega) (by omega) hq, fun _ => by omega⟩
            have htr := trim_any g E 800 (dp + dl') ng tr' _ (((hE.setNd ((n : Int) + dl')).setNd ((800 : Nat) : Int)).setDp (dp + (dl' : Int))) hDI (by omega)
            go_wp2_with (go_at_call 116; refine htr.mono ?_; rintro e w' ⟨rfl, n', h1, h2, h3, h4, h5⟩)
            go_end0
            exact ⟨rfl, E, n', dp + dl', tr', h3, ⟨by omega, fun q hq => hDI.dig q (by omega), fun _ => hDI.top (by omega)⟩, h1, (((hU.setOne _ _).setOne _ _).setOne _ _).trans h4, by omega, by omega, HF.out, by have := HLS.out; rw [Nat.min_eq_left hbig] at this; rw [h5]; exact this⟩
          · have hDI : DI E (n + dl') := ⟨by omega, fun q hq => Hdg.out q (by omega) hq (by omega), fun _ => by omega⟩
            have htr := trim_any g E (n + dl') (dp + dl') ng tr' _ ((hE.setNd ((n + dl' : Nat) : Int)).setDp (dp + (dl' : Int))) hDI (by omega)
            rw [show ((n + dl' : Nat) : Int) = (n : Int) + dl' by omega] at htr
            go_wp2_with (go_at_call 116; refine htr.mono ?_; rintro e w' ⟨rfl, n', h1, h2, h3, h4, h5⟩)
            go_end0
            exact ⟨rfl, E, n', dp + dl', tr', h3, ⟨by omega, fun q hq => hDI.dig q (by omega), fun _ => hDI.top (by omega)⟩, h1, ((hU.setOne _ _).setOne _ _).trans h4, by omega, by omega, HF.out, by have := HLS.out; rw [Nat.min_eq_right (by omega)] at this; rw [h5]; exact this⟩
end Go.Proofs.YtkocponnjfkchaaGreatDoor
namespace Go.Proofs.YtkocponnjfkchaaGreatDoor
open Go.RowKit

set_option maxHeartbeats 1000000 in
theorem Shift_left (g : Nat) (D : Nat → Nat) (n : Nat) (dp : Int) (ng tr : Bool) (k : Nat) (w : World) (h : DC 139 g D n dp ng tr w) (hn : DI D n) (h0 : 0 < n) (hk0 : 1 ≤ k) (hk1 : k ≤ 60) (hdp0 : -1099511627776 ≤ dp) (hdp1 : dp ≤ 1099511627776)
    (B o c : Nat) (hL : LC 16 B o c w) (hgB : g ≠ B) (hgG : g ≠ 16) :
    Calls Tryz.prog 101 #[.pointer (some ⟨g, 0, none⟩), .int .i64 (k : Int)] w fun e w' =>
      e = .returned (.tuple #[]) ∧ ∃ (D' : Nat → Nat) (n' : Nat) (dp' : Int) (tr' : Bool), DC 139 g D' n' dp' ng tr' w' ∧ DI D' n' ∧ 0 < n' ∧ Upd (OneB g) w w' ∧ dp ≤ dp' ∧ dp' ≤ dp + 100 ∧ 10 * dp + D 0 < 10 * dp' + D' 0 ∧ LS D n dp tr k D' n' dp' tr' := by
  have HL := Lib.hid (leftShift_any g D n dp ng tr k w h hn h0 hk0 hk1 hdp0 hdp1 B o c hL hgB hgG)
  have hc0 := h.cnd
  have hz : ((n : Int) == 0) = false := by simp; omega
  go_enter Tryz.func101, Tryz.ntmps101
  go_wp2_with fail
  go_loopg [1] 0 (fun m v wr => m = 0 ∧ v = .int .i64 (k : Int) ∧ w = wr)
  case atStart => exact ⟨rfl, rfl, rfl⟩
  case round =>
    obtain ⟨_, rfl, rfl⟩ := hrel
    go_wp2_with (go_at_call 109; refine HL.out.mono ?_; rintro e w' ⟨rfl, h1⟩)
    go_end0
    exact ⟨rfl, h1⟩

/-- A decimal's state. -/
abbrev DSt := (Nat → Nat) × Nat × Int × Bool
/-- The right shift's rounds of 60. -/
def srS : Nat × DSt → (Nat × DSt) ⊕ DSt → Prop := fun a x =>
  if 60 < a.1 then ∃ y : DSt, RSh a.2.1 a.2.2.1 a.2.2.2.1 a.2.2.2.2 60 y.1 y.2.1 y.2.2.1 y.2.2.2 ∧ x = .inl (a.1 - 60, y) else ∃ y : DSt, RSh a.2.1 a.2.2.1 a.2.2.2.1 a.2.2.2.2 a.1 y.1 y.2.1 y.2.2.1 y.2.2.2 ∧ x = .inr y
theorem srS.uniq : ∀ a x y, srS a x → srS a y → x = y := by
  intro a x y h h'
  unfold srS at h h'
  split at h
  · rename_i hc
    rw [if_pos hc] at h'
    obtain ⟨⟨y1, y2, y3, y4⟩, h1, rfl⟩ := h
    obtain ⟨⟨z1, z2, z3, z4⟩, k1, rfl⟩ := h'
    obtain ⟨rfl, rfl, rfl, rfl⟩ := h1.uniq k1
    rfl
  · rename_i hc
    rw [if_neg hc] at h'
    obtain ⟨⟨y1, y2, y3, y4⟩, h1, rfl⟩ := h
    obtain ⟨⟨z1, z2, z3, z4⟩, k1, rfl⟩ := h'
    obtain ⟨rfl, rfl, rfl, rfl⟩ := h1.uniq k1
    rfl
/-- What Shift by -k makes of a decimal. -/
def SR (a : DSt) (k : Nat) (y : DSt) : Prop := Run srS (k, a) y
theorem SR.uniq {a : DSt} {k : Nat} {y y' : DSt} (h : SR a k y) (h' : SR a k y') : y = y' := Run.uniq srS.uniq h h'
/-- What Shift by k makes of a decimal. -/
def SL (a : DSt) (k : Nat) (y : DSt) : Prop := LS a.1 a.2.1 a.2.2.1 a.2.2.2 k y.1 y.2.1 y.2.2.1 y.2.2.2
theorem SL.uniq {a : DSt} {k : Nat} {y y' : DSt} (h : SL a k y) (h' : SL a k y') : y = y' := by
  obtain ⟨y1, y2, y3, y4⟩ := y
  obtain ⟨z1, z2, z3, z4⟩ := y'
  obtain ⟨rfl, rfl, rfl, rfl⟩ := LS.uniq h h'
  rfl

set_option maxHeartbeats 1000000 in
theorem Shift_right (g : Nat) (D : Nat → Nat) (n : Nat) (dp : Int) (ng tr : Bool) (k : Nat) (w : World) (h : DC 139 g D n dp ng tr w) (hn : DI D n) (h0 : 0 < n) (hk0 : 1 ≤ k) (hk1 : k ≤ 33554432) (hdp0 : -17179869184 ≤ dp) (hdp1 : dp ≤ 17179869184) :
    Calls Tryz.prog 101 #[.pointer (some ⟨g, 0, none⟩), .int .i64 (-(k : Int))] w fun e w' =>
      e = .returned (.tuple #[]) ∧ ∃ (D' : Nat → Nat) (n' : Nat) (dp' : Int) (tr' : Bool), DC 139 g D' n' dp' ng tr' w' ∧ DI D' n' ∧ 0 < n' ∧ Upd (OneB g) w w' ∧ dp' ≤ dp ∧ dp - 900 * k ≤ dp' ∧ 10 * dp' + D' 0 < 10 * dp + D 0 ∧ SR (D, n, dp, tr) k (D', n', dp', tr') := by
  have hc0 := h.cnd
  have hz : ((n : Int) == 0) = false := by simp; omega
  have hk2 : decide ((k : Int) < 0) = false := by simp
  have hk3 : decide (0 < k) = true := by simp; omega
  go_enter Tryz.func101, Tryz.ntmps101
  go_wp2_with fail
  go_loopg [1] k (fun m v wr => 1 ≤ m ∧ m ≤ k ∧ v = .int .i64 (-(m : Int)) ∧ ∃ (D' : Nat → Nat) (n' : Nat) (dp' : Int) (tr' : Bool), DC 139 g D' n' dp' ng tr' wr ∧ DI D' n' ∧ 0 < n' ∧ Upd (OneB g) w wr ∧ dp' ≤ dp ∧ dp - 900 * (k - m) ≤ dp' ∧ 10 * dp' + D' 0 ≤ 10 * dp + D 0 ∧ (∀ y, SR (D', n', dp', tr') m y → SR (D, n, dp, tr) k y))
  case atStart => exact ⟨hk0, Nat.le_refl _, rfl, D, n, dp, tr, h, hn, h0, Upd.refl _ _, by omega, by omega, by omega, fun _ h => h⟩
  case round =>
    obtain ⟨hm0, hm, rfl, D', n', dp', tr', hD', hn', h0', hU, hd1, hd2, hd3, hSR⟩ := hrel
    have HSR := Lib.hid hSR; clear hSR
    by_cases hbig : 60 < gk
    · have HR := Lib.hid (rightShift_any g D' n' dp' ng tr' 60 _ hD' hn' h0' (by omega) (by omega) (by omega) (by omega))
      go_wp2_with (go_at_call 110; refine HR.out.mono ?_; rintro e w' ⟨rfl, D2, n2, dp2, tr2, h1, h2, h3, h4, h5, h6, h7, h8⟩)
      go_roundg (gk - 60)
      case measure => omega
      case rel => exact ⟨by omega, by omega, by congr 1; omega, D2, n2, dp2, tr2, h1, h2, h3, hU.trans h4, by omega, by omega, by omega, fun y h => HSR.out y (.step (by unfold srS; rw [if_pos hbig]; exact ⟨(D2, n2, dp2, tr2), h8, rfl⟩) h)⟩
    · have HR := Lib.hid (rightShift_any g D' n' dp' ng tr' gk _ hD' hn' h0' (by omega) (by omega) (by omega) (by omega))
      go_wp2_with (go_at_call 110; refine HR.out.mono ?_; rintro e w' ⟨rfl, D2, n2, dp2, tr2, h1, h2, h3, h4, h5, h6, h7, h8⟩)
      go_end0
      exact ⟨rfl, D2, n2, dp2, tr2, h1, h2, h3, hU.trans h4, by omega, by omega, by omega, HSR.out _ (.done (by unfold srS; rw [if_neg hbig]; exact ⟨(D2, n2, dp2, tr2), h8, rfl⟩))⟩
end Go.Proofs.YtkocponnjfkchaaGreatDoor
