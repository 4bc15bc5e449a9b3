/- strconv's decimal: trim, prefixIsLessThan, shouldRoundUp. -/
import Derived.Test.YtkocponnjfkchaaGreatDoorProg
import Derived.Test.YtkocponnjfkchaaGreatDoorDec
namespace Go.Proofs.YtkocponnjfkchaaGreatDoor
open Go.RowKit

set_option maxHeartbeats 400000 in
theorem trim_any (g : Nat) (D : Nat → Nat) (n : Nat) (dp : Int) (ng tr : Bool) (w : World) (h : DC 139 g D n dp ng tr w) (hn : DI D n) (h0 : 0 < n) :
    Calls Tryz.prog 116 #[.pointer (some ⟨g, 0, none⟩)] w fun e w' =>
      e = .returned (.tuple #[]) ∧ ∃ n' : Nat, 0 < n' ∧ n' ≤ n ∧ DC 139 g D n' dp ng tr w' ∧ Upd (OneB g) w w' ∧ n' = trimN D n := by
  go_enter Tryz.func116, Tryz.ntmps116
  go_wp2_with fail
  go_loopg [] n (fun m wr => 0 < m ∧ m ≤ n ∧ DC 139 g D m dp ng tr wr ∧ Upd (OneB g) w wr ∧ trimN D m = trimN D n)
  case atStart => exact ⟨h0, Nat.le_refl _, h, Upd.refl _ _, rfl⟩
  case round =>
    obtain ⟨hm, hmn, hr, hu, htn⟩ := hrel
    have HTN := Lib.hid htn; clear htn
    have hc := hr.cnd
    have hfz := hr.fz 800
    have hle := hn.le
    have hw1 : IntKind.i64.wrap ((gk : Int) - 1) = (gk : Int) - 1 := IntWalk.i64_in _ (by omega)
    have hw2 : ((gk : Int) - 1).toNat = gk - 1 := by omega
    have hw3 : (0 : Int) < (gk : Int) := by omega
    have hcd := hr.c (gk - 1) (by omega)
    by_cases hz : D (gk - 1) = 48
    · have hgt : 1 < gk := by
        by_cases e : gk = 1
        · subst e; exact absurd hz (hn.top (by omega))
        · omega
      rw [hz] at hcd
      go_wp2_with fail
      go_quiet (fail)
      go_wp2_with fail
      go_roundg (gk - 1)
      case measure => omega
      case rel => exact ⟨by omega, by omega, by rw [show ((gk - 1 : Nat) : Int) = (gk : Int) - 1 by omega]; first | exact (hr.drewN _).setNd _ | exact hr.setNd _, by first | exact (hu.drewN _).setOne _ _ | exact hu.setOne _ _, (trimN_step hm hz).trans HTN.out⟩
    · have hzf : ((D (gk - 1) : Int) == 48) = false := by simp; omega
      go_wp2_with fail
      go_quiet (fail)
      have hcz : ((gk : Int) == 0) = false := by simp; omega
      go_wp2_with fail
      go_end0
      exact ⟨rfl, gk, hm, hmn, by first | exact hr.drewN _ | exact hr, by first | exact hu.drewN _ | exact hu, (trimN_stop hm hz).symm.trans HTN.out⟩

set_option maxHeartbeats 400000 in
theorem prefixIsLessThan_any (g c : Nat) (D : Nat → Nat) (n : Nat) (t : ByteArray) (w : World) (hn : n ≤ 800) (hD : ∀ i, i < n → 48 ≤ D i ∧ D i ≤ 57) (hc : ∀ i, i < n → w.cell? ⟨g, i, none⟩ = some (.int .u8 (D i : Int)))
    (_ht : t.size ≤ 100) (hT : ∀ i, i < t.size → 48 ≤ bAt t i ∧ bAt t i ≤ 57) (hl : bAt t (t.size - 1) ≠ 48) :
    Calls Tryz.prog 115 #[.slice (some ⟨g, 0, none⟩) n c, .string t] w fun e w' =>
      ∃ b, e = .returned (.bool b) ∧ (∃ k, w' = w.drewN k) ∧ (b = true → pv D n * 10 ^ t.size < pv (bAt t) t.size * 10 ^ n) ∧ (b = false → pv (bAt t) t.size * 10 ^ n ≤ pv D n * 10 ^ t.size) := by
  have HD := Lib.hid hD; have HT := Lib.hid hT; have Hl := Lib.hid hl; clear hD hT hl
  go_enter Tryz.func115, Tryz.ntmps115
  go_wp2_with fail
  go_loopg [5] t.size (fun m v wr => ∃ k : Nat, m = t.size - k ∧ v = .int .i64 (k : Int) ∧ k ≤ t.size ∧ k ≤ n ∧ (∀ q, q < k → D q = bAt t q) ∧ ∃ d, wr = w.drewN d)
  case atStart => exact ⟨0, rfl, rfl, Nat.zero_le _, Nat.zero_le _, fun q h => by omega, 0, rfl⟩
  case round =>
    obtain ⟨k, hm, rfl, hk, hkn, heq, d, rfl⟩ := hrel
    have Hm := Lib.hid hm; clear hm
    have He := Lib.hid heq; clear heq
    have hB := get_bAt t
    by_cases h1 : k < t.size
    · by_cases h2 : k < n
      · have hcd := hc k h2
        have hDk := Lib.hid (HD.out k h2)
        have hTk := Lib.hid (HT.out k h1)
        by_cases h3 : D k = bAt t k
        · have h3f : ((D k : Int) != (bAt t k : Int)) = false := by simp; omega
          go_wp2_with fail
          go_quiet (fail)
          go_wp2_with fail
          go_roundg (t.size - (k + 1))
          case measure => have := Hm.out; omega
          case rel => exact ⟨k + 1, rfl, rfl, by omega, by omega, fun q hq => by
            by_cases e : q = k
            · subst e; exact h3
            · exact He.out q (by omega), _, rfl⟩
        · have h3f : ((D k : Int) != (bAt t k : Int)) = true := by simp; omega
          go_wp2_with fail
          go_quiet (fail)
          go_wp2_with fail
          go_quiet (fail)
          go_wp2_with fail
          go_ret
          refine ⟨decide (D k < bAt t k), rfl, ⟨_, by rw [World.drewN_drewN, World.drewN_drewN]⟩, fun h => pv_less h2 h1 He.out HD.out HT.out (of_decide_eq_true h), fun h => Nat.le_of_lt (pv_less h1 h2 (fun q hq => (He.out q hq).symm) HT.out HD.out (by have := of_decide_eq_false h; omega))⟩
      · have h2' : k = n := by omega
        subst h2'
        go_wp2_with fail
        go_ret
        exact ⟨true, rfl, ⟨_, rfl⟩, fun _ => pv_short h1 He.out HT.out Hl.out, (fun h => by cases h)⟩
    · obtain rfl : k = t.size := by omega
      go_wp2_with fail
      go_ret
      exact ⟨false, rfl, ⟨_, rfl⟩, (fun h => by cases h), fun _ => pv_alike hkn He.out HD.out⟩

theorem prefixIsLessThan_is (g c : Nat) (D : Nat → Nat) (n : Nat) (t : ByteArray) (w : World) (hn : n ≤ 800) (hD : ∀ i, i < n → 48 ≤ D i ∧ D i ≤ 57) (hc : ∀ i, i < n → w.cell? ⟨g, i, none⟩ = some (.int .u8 (D i : Int)))
    (ht : t.size ≤ 100) (hT : ∀ i, i < t.size → 48 ≤ bAt t i ∧ bAt t i ≤ 57) (hl : bAt t (t.size - 1) ≠ 48) :
    Calls Tryz.prog 115 #[.slice (some ⟨g, 0, none⟩) n c, .string t] w fun e w' =>
      e = .returned (.bool (decide (pv D n * 10 ^ t.size < pv (bAt t) t.size * 10 ^ n))) ∧ ∃ k, w' = w.drewN k :=
  (prefixIsLessThan_any g c D n t w hn hD hc ht hT hl).mono fun e w' ⟨b, h1, h2, h3, h4⟩ => by
    refine ⟨?_, h2⟩
    rw [h1]
    cases b
    · have := h4 rfl
      rw [decide_eq_false (by omega)]
    · rw [decide_eq_true (h3 rfl)]

set_option maxHeartbeats 1000000 in
theorem shouldRoundUp_ex (D : Nat → Nat) (n : Nat) (tr : Bool) (k : Int) (hn : n ≤ 800) (hk0 : -9007199254740992 ≤ k) (hk1 : k ≤ 9007199254740992) : ∃ b : Bool, ∀ (g : Nat) (dp : Int) (ng : Bool) (w : World), DC 139 g D n dp ng tr w →
    Calls Tryz.prog 111 #[.pointer (some ⟨g, 0, none⟩), .int .i64 k] w fun e w' => e = .returned (.bool b) ∧ w' = w := by
  by_cases h0 : k < 0
  · refine ⟨false, ?_⟩
    intro g dp ng w h
    have hc0 := h.cnd
    have hc3 := h.ctr
    go_enter Tryz.func111, Tryz.ntmps111
    go_wp2_with fail
    go_ret
    exact ⟨rfl, rfl⟩
  by_cases h1 : (n : Int) ≤ k
  · refine ⟨false, ?_⟩
    intro g dp ng w h
    have hc0 := h.cnd
    have hc3 := h.ctr
    go_enter Tryz.func111, Tryz.ntmps111
    go_wp2_with fail
    go_ret
    exact ⟨rfl, rfl⟩
  obtain ⟨m, rfl⟩ : ∃ m : Nat, k = m := ⟨k.toNat, by omega⟩
  have hw1 : IntKind.i64.wrap ((m : Int) - 1) = (m : Int) - 1 := IntWalk.i64_in _ (by omega)
  have hw2 : ((m : Int) - 1).toNat = m - 1 := by omega
  by_cases h2 : (D m : Int) = 53
  rotate_left
  · have h2' : ((D m : Int) == 53) = false := by simpa using h2
    refine ⟨decide (53 ≤ (D m : Int)), ?_⟩
    intro g dp ng w h
    have hc0 := h.cnd
    have hc3 := h.ctr
    have hc := h.c m (by omega)
    go_enter Tryz.func111, Tryz.ntmps111
    go_wp2_with fail
    go_ret
    exact ⟨rfl, rfl⟩
  by_cases h3 : (m : Int) + 1 = n
  rotate_left
  · have h3' : ((m : Int) + 1 == n) = false := by simpa using h3
    refine ⟨true, ?_⟩
    intro g dp ng w h
    have hc0 := h.cnd
    have hc3 := h.ctr
    have hc := h.c m (by omega)
    go_enter Tryz.func111, Tryz.ntmps111
    go_wp2_with fail
    go_ret
    exact ⟨rfl, rfl⟩
  cases tr
  rotate_left
  · refine ⟨true, ?_⟩
    intro g dp ng w h
    have hc0 := h.cnd
    have hc3 := h.ctr
    have hc := h.c m (by omega)
    go_enter Tryz.func111, Tryz.ntmps111
    go_wp2_with fail
    go_ret
    exact ⟨rfl, rfl⟩
  by_cases h4 : 0 < m
  · have h4' : (0 : Int) < m := by omega
    refine ⟨(((D (m - 1) : Int) - 48) % 256 % 2 != 0), ?_⟩
    intro g dp ng w h
    have hc0 := h.cnd
    have hc3 := h.ctr
    have hc := h.c m (by omega)
    have hc' := h.c (m - 1) (by omega)
    go_enter Tryz.func111, Tryz.ntmps111
    go_wp2_with fail
    go_ret
    exact ⟨rfl, rfl⟩
  · obtain rfl : m = 0 := by omega
    refine ⟨false, ?_⟩
    intro g dp ng w h
    have hc0 := h.cnd
    have hc3 := h.ctr
    have hc := h.c 0 (by omega)
    go_enter Tryz.func111, Tryz.ntmps111
    go_wp2_with fail
    go_ret
    exact ⟨rfl, rfl⟩
/-- What shouldRoundUp says. -/
noncomputable def sru (D : Nat → Nat) (n : Nat) (tr : Bool) (k : Int) : Bool := Classical.epsilon fun b : Bool => ∀ (g : Nat) (dp : Int) (ng : Bool) (w : World), DC 139 g D n dp ng tr w →
    Calls Tryz.prog 111 #[.pointer (some ⟨g, 0, none⟩), .int .i64 k] w fun e w' => e = .returned (.bool b) ∧ w' = w
theorem shouldRoundUp_any (g : Nat) (D : Nat → Nat) (n : Nat) (dp : Int) (ng tr : Bool) (k : Int) (w : World) (h : DC 139 g D n dp ng tr w) (hn : n ≤ 800) (hk0 : -9007199254740992 ≤ k) (hk1 : k ≤ 9007199254740992) :
    Calls Tryz.prog 111 #[.pointer (some ⟨g, 0, none⟩), .int .i64 k] w fun e w' => e = .returned (.bool (sru D n tr k)) ∧ w' = w :=
  Classical.epsilon_spec (shouldRoundUp_ex D n tr k hn hk0 hk1) g dp ng w h

/-- RoundedInteger's two loops. -/
def ri1 (D : Nat → Nat) (n : Nat) (dp : Int) : Nat × Int → (Nat × Int) ⊕ (Nat × Int) := fun a =>
  if (a.1 : Int) < dp ∧ a.1 < n then .inl (a.1 + 1, IntKind.u64.wrap (IntKind.u64.wrap (a.2 * 10) + ((D a.1 : Int) - 48) % 256)) else .inr a
def ri2 (dp : Int) : Nat × Int → (Nat × Int) ⊕ Int := fun a => if (a.1 : Int) < dp then .inl (a.1 + 1, IntKind.u64.wrap (a.2 * 10)) else .inr a.2
theorem ri1_in {D : Nat → Nat} {n : Nat} {dp : Int} {k : Nat} {y : Int} (h1 : (k : Int) < dp) (h2 : k < n) : Of (ri1 D n dp) (k, y) (.inl (k + 1, IntKind.u64.wrap (IntKind.u64.wrap (y * 10) + ((D k : Int) - 48) % 256))) := by simp only [Of, ri1]; rw [if_pos ⟨h1, h2⟩]
theorem ri1_end {D : Nat → Nat} {n : Nat} {dp : Int} {k : Nat} {y : Int} (h : ¬ ((k : Int) < dp ∧ k < n)) : Of (ri1 D n dp) (k, y) (.inr (k, y)) := by simp only [Of, ri1]; rw [if_neg h]
theorem ri2_in {dp : Int} {k : Nat} {y : Int} (h1 : (k : Int) < dp) : Of (ri2 dp) (k, y) (.inl (k + 1, IntKind.u64.wrap (y * 10))) := by simp only [Of, ri2]; rw [if_pos h1]
theorem ri2_end {dp : Int} {k : Nat} {y : Int} (h : ¬ (k : Int) < dp) : Of (ri2 dp) (k, y) (.inr y) := by simp only [Of, ri2]; rw [if_neg h]
/-- What RoundedInteger says. -/
def RI (D : Nat → Nat) (n : Nat) (dp : Int) (tr : Bool) (x : Int) : Prop :=
  if 20 < dp then x = 18446744073709551615 else ∃ k y z, Run (Of (ri1 D n dp)) (0, 0) (k, y) ∧ Run (Of (ri2 dp)) (k, y) z ∧ x = if sru D n tr dp = true then IntKind.u64.wrap (z + 1) else z
theorem RI.uniq {D : Nat → Nat} {n : Nat} {dp : Int} {tr : Bool} {x x' : Int} (h : RI D n dp tr x) (h' : RI D n dp tr x') : x = x' := by
  unfold RI at h h'
  split at h
  · rename_i hc
    rw [if_pos hc] at h'
    rw [h, h']
  · rename_i hc
    rw [if_neg hc] at h'
    obtain ⟨k, y, z, h1, h2, rfl⟩ := h
    obtain ⟨k', y', z', k1, k2, rfl⟩ := h'
    have e1 := h1.uniq (Of.uniq _) k1
    simp only [Prod.mk.injEq] at e1
    obtain ⟨rfl, rfl⟩ := e1
    rw [h2.uniq (Of.uniq _) k2]

set_option maxHeartbeats 1000000 in
theorem RoundedInteger_any (g : Nat) (D : Nat → Nat) (n : Nat) (dp : Int) (ng tr : Bool) (w : World) (h : DC 139 g D n dp ng tr w) (hn : n ≤ 800) (hk0 : -9007199254740992 ≤ dp) :
    Calls Tryz.prog 102 #[.pointer (some ⟨g, 0, none⟩)] w fun e w' =>
      ∃ x : Int, 0 ≤ x ∧ x ≤ 18446744073709551615 ∧ e = .returned (.int .u64 x) ∧ w' = w ∧ RI D n dp tr x := by
  have hc0 := h.cnd
  have hc1 := h.cdp
  by_cases hd : 20 < dp
  · go_enter Tryz.func102, Tryz.ntmps102
    go_wp2_with fail
    go_ret
    exact ⟨18446744073709551615, by omega, by omega, rfl, rfl, by unfold RI; rw [if_pos hd]⟩
  · go_enter Tryz.func102, Tryz.ntmps102
    go_wp2_with fail
    go_loopg [3, 4] 800 (fun m v x wr => ∃ (k : Nat) (y : Int), m = 800 - k ∧ v = .int .i64 (k : Int) ∧ x = .int .u64 y ∧ 0 ≤ y ∧ y ≤ 18446744073709551615 ∧ k ≤ 800 ∧ (∀ z, Run (Of (ri1 D n dp)) (k, y) z → Run (Of (ri1 D n dp)) (0, 0) z) ∧ w = wr)
    case atStart => exact ⟨0, 0, rfl, rfl, rfl, by omega, by omega, by omega, fun _ h => h, rfl⟩
    case round =>
      obtain ⟨k, y, hm, rfl, rfl, hy0, hy1, hk, hR1, rfl⟩ := hrel
      have HR1 := Lib.hid hR1; clear hR1
      have Hm := Lib.hid hm; clear hm
      by_cases hin : (k : Int) < dp ∧ k < n
      · obtain ⟨h1, h2⟩ := hin
        have hcd := h.c k (by omega)
        have h2' : (k : Int) < n := by omega
        go_wp2_with fail
        go_roundg (800 - (k + 1))
        case measure => have := Hm.out; omega
        case rel => exact ⟨k + 1, _, rfl, by go_num, rfl, (u64_rng _).1, (u64_rng _).2, by omega, fun z hz => HR1.out z (.step (ri1_in h1 h2) hz), rfl⟩
      · have HE1 := Lib.hid (HR1.out _ (.done (ri1_end hin)))
        have hin' : ¬ (k : Int) < dp ∨ ((k : Int) < dp ∧ ¬ k < n) := by omega
        clear hin
        rcases hin' with h1 | ⟨h1, h2⟩
        all_goals
          go_wp2_with fail
          go_loopg [3, 4] (dp.toNat + 1 - k) (fun m v x wr => ∃ (k : Nat) (y : Int), m = dp.toNat + 1 - k ∧ v = .int .i64 (k : Int) ∧ x = .int .u64 y ∧ 0 ≤ y ∧ y ≤ 18446744073709551615 ∧ k ≤ 801 ∧ (∀ z, Run (Of (ri2 dp)) (k, y) z → RI D n dp tr (if sru D n tr dp = true then IntKind.u64.wrap (z + 1) else z)) ∧ w = wr)
          case atStart => exact ⟨k, y, rfl, rfl, rfl, hy0, hy1, by omega, fun z hz => by unfold RI; rw [if_neg (by omega)]; exact ⟨k, y, z, HE1.out, hz, rfl⟩, rfl⟩
          case round =>
            obtain ⟨k, y, hm, rfl, rfl, hy0, hy1, hk, hR2, rfl⟩ := hrel
            have HR2 := Lib.hid hR2; clear hR2
            have Hm := Lib.hid hm; clear hm
            by_cases h3 : (k : Int) < dp
            · go_wp2_with fail
              go_roundg (dp.toNat + 1 - (k + 1))
              case measure => have := Hm.out; omega
              case rel => exact ⟨k + 1, _, rfl, by go_num, rfl, (u64_rng _).1, (u64_rng _).2, by omega, fun z hz => HR2.out z (.step (ri2_in h3) hz), rfl⟩
            · have HE2 := Lib.hid (HR2.out _ (.done (ri2_end h3)))
              have hs := shouldRoundUp_any g D n dp ng tr dp _ h hn hk0 (by omega)
              have HS := Lib.hid hs
              clear hs
              cases hb : sru D n tr dp
              · rw [hb] at HS HE2
                go_wp2_with (go_at_call 111; refine HS.out.mono ?_; rintro e w' ⟨rfl, rfl⟩)
                go_ret
                exact ⟨y, hy0, hy1, rfl, rfl, HE2.out⟩
              · rw [hb] at HS HE2
                go_wp2_with (go_at_call 111; refine HS.out.mono ?_; rintro e w' ⟨rfl, rfl⟩)
                go_ret
                exact ⟨_, (u64_rng _).1, (u64_rng _).2, rfl, rfl, HE2.out⟩
end Go.Proofs.YtkocponnjfkchaaGreatDoor
