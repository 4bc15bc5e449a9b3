/- strconv's decimal: floatBits returns. -/
import Derived.Test.YtggdcpmampjncaaGreatDoorDec3
import Derived.Test.YtggdcpmampjncaaGreatDoorTabs
import Derived.Test.YtggdcpmampjncaaGreatDoorScope
namespace Go.Proofs.YtggdcpmampjncaaGreatDoor
open Go.RowKit

set_option maxHeartbeats 4000000 in
set_option maxRecDepth 4000 in
theorem floatBits_any (lo g : Nat) (D : Nat → Nat) (n : Nat) (dp : Int) (ng tr : Bool) (w : World) (h : DC 158 g D n dp ng tr w) (hn : DI D n) (hdp0 : -1073741824 ≤ dp) (hdp1 : dp ≤ 1073741824)
    (hT : Tabs lo w) (hg : lo ≤ g) :
    Calls Tryz.prog 109 #[.pointer (some ⟨g, 0, none⟩), .pointer (some ⟨5, 0, none⟩)] w fun e w' =>
      ∃ (x : Int) (b : Bool), e = .returned (.tuple #[.int .u64 x, .bool b]) ∧ 0 ≤ x ∧ x ≤ 18446744073709551615 ∧ Upd (OneB g) w w' := by
  have hc0 := h.cnd
  have hc1 := h.cdp
  have hc2 := h.cng
  have f0 := hT.fi0
  have f1 := hT.fi1
  have f2 := hT.fi2
  go_enter Tryz.func109, Tryz.ntmps109
  go_wp2_with fail
  apply wp_scope_two
  case h0 => exact rfl
  case h1 => exact rfl
  have HU : Hid (Upd (OneB g) w w) := Lib.hid (Upd.refl _ _)
  by_cases hz : n = 0
  · subst hz
    go_wp2_with fail
    refine wp_goto (.inl ⟨rfl, ?_⟩)
    unfold lab0
    go_wp2_with fail
    go_quiet (fail)
    go_wp2_with fail
    · go_quiet (fail)
      go_wp2_with fail
      rw [jumps_ret]
      go_ret2
      exact ⟨_, _, rfl, (bits_rng _ _ _).1, (bits_rng _ _ _).2, by (try simp only [World.drewN_drewN]); first | exact HU.out.drewN _ | exact HU.out⟩
    · rw [jumps_ret]
      go_ret2
      exact ⟨_, _, rfl, (bits_rng _ _ _).1, (bits_rng _ _ _).2, by (try simp only [World.drewN_drewN]); first | exact HU.out.drewN _ | exact HU.out⟩
  have hz' : ((n : Int) == 0) = false := by simp; omega
  by_cases h310 : 310 < dp
  · go_wp2_with fail
    refine wp_goto (.inr ⟨rfl, ?_⟩)
    unfold lab1
    go_wp2_with fail
    go_quiet (fail)
    go_wp2_with fail
    refine wp_label ?_
    go_wp2_with fail
    go_quiet (fail)
    go_wp2_with fail
    · go_quiet (fail)
      go_wp2_with fail
      rw [jumps_ret]
      go_ret2
      exact ⟨_, _, rfl, (bits_rng _ _ _).1, (bits_rng _ _ _).2, by (try simp only [World.drewN_drewN]); first | exact HU.out.drewN _ | exact HU.out⟩
    · rw [jumps_ret]
      go_ret2
      exact ⟨_, _, rfl, (bits_rng _ _ _).1, (bits_rng _ _ _).2, by (try simp only [World.drewN_drewN]); first | exact HU.out.drewN _ | exact HU.out⟩
  by_cases h330 : dp < -330
  · go_wp2_with fail
    refine wp_goto (.inl ⟨rfl, ?_⟩)
    unfold lab0
    go_wp2_with fail
    go_quiet (fail)
    go_wp2_with fail
    · go_quiet (fail)
      go_wp2_with fail
      rw [jumps_ret]
      go_ret2
      exact ⟨_, _, rfl, (bits_rng _ _ _).1, (bits_rng _ _ _).2, by (try simp only [World.drewN_drewN]); first | exact HU.out.drewN _ | exact HU.out⟩
    · rw [jumps_ret]
      go_ret2
      exact ⟨_, _, rfl, (bits_rng _ _ _).1, (bits_rng _ _ _).2, by (try simp only [World.drewN_drewN]); first | exact HU.out.drewN _ | exact HU.out⟩
  go_wp2_with fail
  clear HU
  go_loopg [6] (10 * dp + D 0).toNat (fun m v6 wr => ∃ (D' : Nat → Nat) (n' : Nat) (dp' : Int) (tr' : Bool) (E : Int), m = (10 * dp' + D' 0).toNat ∧ v6 = .int .i64 E ∧ DC 158 g D' n' dp' ng tr' wr ∧ DI D' n' ∧ 0 < n' ∧ Upd (OneB g) w wr ∧ -24330 ≤ dp' ∧ dp' ≤ 310 ∧ 0 ≤ E ∧ E + 27 * m ≤ 200000)
  case atStart => exact ⟨D, n, dp, tr, 0, rfl, rfl, h, hn, by omega, Upd.refl _ _, by omega, by omega, by omega, by have := h.le 0 (by omega); omega⟩
  case round =>
    obtain ⟨D', n', dp', tr', E, hm, rfl, hD', hn', hn0, hU, hd1, hd2, hE1, hE2⟩ := hrel
    clear hc0 hc1 hc2 f0 f1 f2 h hn
    have Hm := Lib.hid hm; clear hm
    have hc1 := hD'.cdp
    have hT' := hT.upd hU (fun b hb => by have : b = g := hb; omega)
    obtain ⟨Bp, op, cp, hp1, hp2, hp3⟩ := hT'.pw
    by_cases hpos : 0 < dp'
    · obtain ⟨d, rfl⟩ : ∃ d : Nat, dp' = d := ⟨dp'.toNat, by omega⟩
      have hD0 := (hn'.dig 0 hn0)
      by_cases h9 : d < 9
      · obtain ⟨x, hx1, hx2, hx3⟩ := hp3 d h9
        have HR := Lib.hid (fun a => Shift_right g D' n' d ng tr' x _ (hD'.drewN a) hn' hn0 hx2 (by omega) (by omega) (by omega))
        go_wp2_with fail
        go_quiet (fail)
        go_wp2_with fail
        go_quiet (fail)
        go_wp2_with (go_at_call 128; refine (HR.out _).mono ?_; rintro e w' ⟨rfl, D2, n2, dp2, tr2, h1, h2, h3, h4, h5, h6, h7⟩)
        go_roundg (10 * dp2 + D2 0).toNat
        case measure => have := Hm.out; have := h2.dig 0 h3; omega
        case rel => exact ⟨D2, n2, dp2, tr2, E + x, rfl, by go_num, h1, h2, h3, by first | exact (hU.drewN _).trans h4 | exact ((hU.drewN _).drewN _).trans h4, by omega, by omega, by omega, by have := Hm.out; omega⟩
      · have HR := Lib.hid (fun a => Shift_right g D' n' d ng tr' 27 _ (hD'.drewN a) hn' hn0 (by omega) (by omega) (by omega) (by omega))
        simp only [show (-((27 : Nat) : Int)) = (-27 : Int) from rfl] at HR
        go_wp2_with fail
        go_quiet (fail)
        go_wp2_with (go_at_call 128; go_loud (refine (HR.out _).mono ?_); rintro e w' ⟨rfl, D2, n2, dp2, tr2, h1, h2, h3, h4, h5, h6, h7⟩)
        go_roundg (10 * dp2 + D2 0).toNat
        case measure => have := Hm.out; have := h2.dig 0 h3; omega
        case rel => exact ⟨D2, n2, dp2, tr2, E + 27, rfl, by go_num, h1, h2, h3, (hU.drewN _).trans h4, by omega, by omega, by omega, by have := Hm.out; omega⟩
    · have hD0 := hn'.dig 0 hn0
      clear Hm hp1 hp2 hp3 hT'
      go_upto_block 2 with (fail)
      clear hc1
      go_cut [6] (fun v6 wx => ∃ (D' : Nat → Nat) (n' : Nat) (dp' : Int) (tr' : Bool) (E : Int), v6 = .int .i64 E ∧ DC 158 g D' n' dp' ng tr' wx ∧ DI D' n' ∧ 0 < n' ∧ Upd (OneB g) w wx ∧ -24330 ≤ dp' ∧ dp' ≤ 310 ∧ E ≤ 200000 ∧ -20000000 ≤ E)
      case first =>
        go_wp2_with fail
        go_loopg [6] (243100 - (10 * dp' + D' 0)).toNat (fun m v6 wr => ∃ (D' : Nat → Nat) (n' : Nat) (dp' : Int) (tr' : Bool) (E : Int), m = (243100 - (10 * dp' + D' 0)).toNat ∧ v6 = .int .i64 E ∧ DC 158 g D' n' dp' ng tr' wr ∧ DI D' n' ∧ 0 < n' ∧ Upd (OneB g) w wr ∧ -24330 ≤ dp' ∧ dp' ≤ 310 ∧ E ≤ 200000 ∧ 27 * (m : Int) ≤ E + 20000000)
        case atStart => exact ⟨D', n', dp', tr', E, rfl, rfl, hD', hn', hn0, hU, hd1, hd2, by omega, by omega⟩
        case round =>
          clear hE1 hE2 hD' hn' hn0 hU hd1 hd2 hD0
          obtain ⟨D', n', dp', tr', E, hm, rfl, hD', hn', hn0, hU, hd1, hd2, hE1, hE2⟩ := hrel
          have Hm := Lib.hid hm; clear hm
          have hc1 := hD'.cdp
          have hcz := hD'.c 0 (by omega)
          have hT' := hT.upd hU (fun b hb => by have : b = g := hb; omega)
          obtain ⟨Bp, op, cp, hp1, hp2, hp3⟩ := hT'.pw
          obtain ⟨BL, oL, cL, hL, hBL⟩ := hT'.lc
          have hgB : g ≠ BL := by omega
          have hgG : g ≠ 10 := by have := hT'.g; omega
          have hD0 := (hn'.dig 0 hn0)
          have hE0 : -20000000 ≤ E := by omega
          by_cases hgo : dp' < 0 ∨ (dp' = 0 ∧ D' 0 < 53)
          · obtain ⟨d, rfl⟩ : ∃ d : Nat, dp' = -(d : Int) := ⟨(-dp').toNat, by omega⟩
            by_cases h9 : d < 9
            · obtain ⟨x, hx1, hx2, hx3⟩ := hp3 d h9
              have HR := Lib.hid (fun a => Shift_left g D' n' (-(d : Int)) ng tr' x _ (hD'.drewN a) hn' hn0 hx2 (by omega) (by omega) (by omega) BL oL cL (hL.upd (S := NoB) ((Upd.refl NoB _).drewN a) (fun h => h) (fun h => h)) hgB hgG)
              rcases hgo with hneg | ⟨hz0, hlt⟩
              · go_wp2_with fail
                go_quiet (fail)
                go_wp2_with fail
                go_quiet (fail)
                go_wp2_with (go_at_call 128; refine (HR.out _).mono ?_; rintro e w' ⟨rfl, D2, n2, dp2, tr2, h1, h2, h3, h4, h5, h6, h7⟩)
                go_roundg (243100 - (10 * dp2 + D2 0)).toNat
                case measure => have := Hm.out; have := h2.dig 0 h3; omega
                case rel => exact ⟨D2, n2, dp2, tr2, E - x, rfl, by go_num, h1, h2, h3, by first | exact (hU.drewN _).trans h4 | exact ((hU.drewN _).drewN _).trans h4, by omega, by omega, by omega, by have := Hm.out; omega⟩
              · obtain rfl : d = 0 := by omega
                rw [Nat.add_zero] at hx1
                have hlt' : (D' 0 : Int) < 53 := by omega
                go_wp2_with fail
                go_quiet (fail)
                go_wp2_with fail
                go_quiet (fail)
                go_wp2_with (go_at_call 128; refine (HR.out _).mono ?_; rintro e w' ⟨rfl, D2, n2, dp2, tr2, h1, h2, h3, h4, h5, h6, h7⟩)
                go_roundg (243100 - (10 * dp2 + D2 0)).toNat
                case measure => have := Hm.out; have := h2.dig 0 h3; omega
                case rel => exact ⟨D2, n2, dp2, tr2, E - x, rfl, by go_num, h1, h2, h3, by first | exact (hU.drewN _).trans h4 | exact ((hU.drewN _).drewN _).trans h4, by omega, by omega, by omega, by have := Hm.out; omega⟩
            · have HR := Lib.hid (fun a => Shift_left g D' n' (-(d : Int)) ng tr' 27 _ (hD'.drewN a) hn' hn0 (by omega) (by omega) (by omega) (by omega) BL oL cL (hL.upd (S := NoB) ((Upd.refl NoB _).drewN a) (fun h => h) (fun h => h)) hgB hgG)
              simp only [show ((27 : Nat) : Int) = (27 : Int) from rfl] at HR
              have hneg : -(d : Int) < 0 := by omega
              go_wp2_with fail
              go_quiet (fail)
              go_wp2_with (go_at_call 128; refine (HR.out _).mono ?_; rintro e w' ⟨rfl, D2, n2, dp2, tr2, h1, h2, h3, h4, h5, h6, h7⟩)
              go_roundg (243100 - (10 * dp2 + D2 0)).toNat
              case measure => have := Hm.out; have := h2.dig 0 h3; omega
              case rel => exact ⟨D2, n2, dp2, tr2, E - 27, rfl, by go_num, h1, h2, h3, by first | exact (hU.drewN _).trans h4 | exact ((hU.drewN _).drewN _).trans h4, by omega, by omega, by omega, by have := Hm.out; omega⟩
          · by_cases hp : 0 < dp'
            · have hpz : (dp' == 0) = false := by simp; omega
              go_wp2_with fail
              go_meet
              exact ⟨D', n', dp', tr', E, rfl, hD', hn', hn0, hU, hd1, hd2, hE1, hE0⟩
            · obtain rfl : dp' = 0 := by omega
              have hlt' : ¬ (D' 0 : Int) < 53 := by omega
              go_wp2_with fail
              go_meet
              exact ⟨D', n', 0, tr', E, rfl, hD', hn', hn0, hU, hd1, hd2, hE1, hE0⟩
      case rest =>
      clear hE1 hE2 hD' hn' hn0 hU hd1 hd2 hD0
      obtain ⟨D', n', dp', tr', E, rfl, hD', hn', hn0, hU, hd1, hd2, hE1, hE0⟩ := hcut
      have hg2 : ∀ b, OneB g b → lo ≤ b := fun b hb => by have : b = g := hb; omega
      have hT1 := hT.upd hU hg2
      have f2 := hT1.fi2
      go_upto_if 111 with (fail)
      clear f2
      go_cut [6] (fun v6 wx => ∃ (D' : Nat → Nat) (n' : Nat) (dp' : Int) (tr' : Bool) (E : Int), v6 = .int .i64 E ∧ DC 158 g D' n' dp' ng tr' wx ∧ DI D' n' ∧ 0 < n' ∧ Upd (OneB g) w wx ∧ -34359738368 ≤ dp' ∧ dp' ≤ 310 ∧ E ≤ 200000 ∧ -20000000 ≤ E)
      case first =>
        have f2 := hT1.fi2
        by_cases hden : E - 1 < -1022
        · obtain ⟨kk, rfl⟩ : ∃ kk : Nat, E = -1021 - (kk : Int) := ⟨(-1021 - E).toNat, by omega⟩
          have HR := Lib.hid (Shift_right g D' n' dp' ng tr' kk _ hD' hn' hn0 (by omega) (by omega) (by omega) (by omega))
          have hk : -(-1022 - (-1021 - (kk : Int) - 1)) = -(kk : Int) := by omega
          go_wp2_with fail
          refine HR.out.mono ?_
          rintro e w' ⟨rfl, D2, n2, dp2, tr2, h1, h2, h3, h4, h5, h6, h7⟩
          clear hk
          go_wp2_with fail
          go_meet
          exact ⟨D2, n2, dp2, tr2, _, rfl, h1, h2, h3, hU.trans h4, by omega, by omega, by omega, by omega⟩
        · go_wp2_with fail
          go_meet
          exact ⟨D', n', dp', tr', _, rfl, hD', hn', hn0, hU, by omega, by omega, by omega, by omega⟩
      case rest =>
      clear hE1 hE0 hD' hn' hn0 hU hd1 hd2 hT1
      obtain ⟨D', n', dp', tr', E, rfl, hD', hn', hn0, hU, hd1, hd2, hE1, hE0⟩ := hcut
      have hT1 := hT.upd hU hg2
      have f0 := hT1.fi0
      have f1 := hT1.fi1
      have f2 := hT1.fi2
      have hc2 := hD'.cng
      obtain ⟨BL, oL, cL, hL, hBL⟩ := hT1.lc
      have hgB : g ≠ BL := by omega
      have hgG : g ≠ 10 := by have := hT1.g; omega
      have hE0' : 0 ≤ E + 100000000 := by omega
      by_cases hov : 2047 ≤ E + 1023
      · have HU : Hid (Upd (OneB g) w _) := Lib.hid hU
        go_wp2_with fail
        go_quiet (fail)
        go_wp2_with fail
        refine wp_goto (.inr ⟨rfl, ?_⟩)
        unfold lab1
        go_wp2_with fail
        go_quiet (fail)
        go_wp2_with fail
        refine wp_label ?_
        go_wp2_with fail
        go_quiet (fail)
        go_wp2_with fail
        · go_quiet (fail)
          go_wp2_with fail
          rw [jumps_ret]
          go_ret2
          exact ⟨_, _, rfl, (bits_rng _ _ _).1, (bits_rng _ _ _).2, by (try simp only [World.drewN_drewN]); first | exact HU.out.drewN _ | exact HU.out⟩
        · rw [jumps_ret]
          go_ret2
          exact ⟨_, _, rfl, (bits_rng _ _ _).1, (bits_rng _ _ _).2, by (try simp only [World.drewN_drewN]); first | exact HU.out.drewN _ | exact HU.out⟩
      have HR := Lib.hid (fun a => Shift_left g D' n' dp' ng tr' 53 _ (hD'.drewN a) hn' hn0 (by omega) (by omega) (by omega) (by omega) BL oL cL (hL.upd (S := NoB) ((Upd.refl NoB _).drewN a) (fun h => h) (fun h => h)) hgB hgG)
      simp only [show ((53 : Nat) : Int) = (53 : Int) from rfl] at HR
      go_wp2_with fail
      go_quiet (fail)
      go_wp2_with (go_at_call 128; go_loud (refine (HR.out _).mono ?_); rintro e w' ⟨rfl, D2, n2, dp2, tr2, h1, h2, h3, h4, h5, h6, h7⟩)
      have hU2 := (hU.drewN nq).trans h4
      clear HR hU h4 f0 f1 f2 hc2 hT1 hL
      have hT1 := hT.upd hU2 hg2
      have f0 := hT1.fi0
      have f1 := hT1.fi1
      have f2 := hT1.fi2
      have hc2 := h1.cng
      have RI := Lib.hid (RoundedInteger_any g D2 n2 dp2 ng tr2 w' h1 h2.le (by omega))
      go_wp2_with (go_at_call 129; refine RI.out.mono ?_; rintro e w3 ⟨x, hx0, hx1, rfl, rfl⟩)
      · have HU : Hid (Upd (OneB g) w _) := Lib.hid hU2
        by_cases hov2 : 2047 ≤ E + 1 + 1023
        · go_quiet (fail)
          go_wp2_with fail
          refine wp_goto (.inr ⟨rfl, ?_⟩)
          unfold lab1
          go_wp2_with fail
          go_quiet (fail)
          go_wp2_with fail
          refine wp_label ?_
          go_wp2_with fail
          go_quiet (fail)
          go_wp2_with fail
          · go_quiet (fail)
            go_wp2_with fail
            rw [jumps_ret]
            go_ret2
            exact ⟨_, _, rfl, (bits_rng _ _ _).1, (bits_rng _ _ _).2, by (try simp only [World.drewN_drewN]); first | exact HU.out.drewN _ | exact HU.out⟩
          · rw [jumps_ret]
            go_ret2
            exact ⟨_, _, rfl, (bits_rng _ _ _).1, (bits_rng _ _ _).2, by (try simp only [World.drewN_drewN]); first | exact HU.out.drewN _ | exact HU.out⟩
        · go_quiet (fail)
          go_wp2_with fail
          all_goals
            refine wp_goto (.inl ⟨rfl, ?_⟩)
            unfold lab0
            go_wp2_with fail
            go_quiet (fail)
            go_wp2_with fail
            · go_quiet (fail)
              go_wp2_with fail
              rw [jumps_ret]
              go_ret2
              exact ⟨_, _, rfl, (bits_rng _ _ _).1, (bits_rng _ _ _).2, by (try simp only [World.drewN_drewN]); first | exact HU.out.drewN _ | exact HU.out⟩
            · rw [jumps_ret]
              go_ret2
              exact ⟨_, _, rfl, (bits_rng _ _ _).1, (bits_rng _ _ _).2, by (try simp only [World.drewN_drewN]); first | exact HU.out.drewN _ | exact HU.out⟩
      all_goals
        have HU : Hid (Upd (OneB g) w _) := Lib.hid hU2
        refine wp_goto (.inl ⟨rfl, ?_⟩)
        unfold lab0
        go_wp2_with fail
        go_quiet (fail)
        go_wp2_with fail
        · go_quiet (fail)
          go_wp2_with fail
          rw [jumps_ret]
          go_ret2
          exact ⟨_, _, rfl, (bits_rng _ _ _).1, (bits_rng _ _ _).2, by (try simp only [World.drewN_drewN]); first | exact HU.out.drewN _ | exact HU.out⟩
        · rw [jumps_ret]
          go_ret2
          exact ⟨_, _, rfl, (bits_rng _ _ _).1, (bits_rng _ _ _).2, by (try simp only [World.drewN_drewN]); first | exact HU.out.drewN _ | exact HU.out⟩
end Go.Proofs.YtggdcpmampjncaaGreatDoor
