/- strconv's decimal: floatBits returns. -/
import Derived.Test.YtkocponnjfkchaaGreatDoorDec3
import Derived.Test.YtkocponnjfkchaaGreatDoorTabs
import Derived.Test.YtkocponnjfkchaaGreatDoorScope
namespace Go.Proofs.YtkocponnjfkchaaGreatDoor
open Go.RowKit

/-- The bits that floatBits puts together: of the mantissa, the exponent less its bias, the sign. -/
def fbO (m z : Int) (ng : Bool) : Int := if ng = true then bits .or .u64 (bits .or .u64 (bits .and .u64 m 4503599627370495) (IntKind.u64.wrap (IntKind.u64.wrap (bits .and .i64 z 2047) * 4503599627370496))) 9223372036854775808 else bits .or .u64 (bits .and .u64 m 4503599627370495) (IntKind.u64.wrap (IntKind.u64.wrap (bits .and .i64 z 2047) * 4503599627370496))
/-- By how much a decimal at dp is shifted. -/
def pwX (dp : Int) : Nat := if dp < 9 then pwT dp.toNat else 27
theorem pwX_lt {d : Nat} (h : d < 9) : pwX (d : Int) = pwT d := by unfold pwX; rw [if_pos (by omega), Int.toNat_natCast]
theorem pwX_ge {d : Nat} (h : ¬ d < 9) : pwX (d : Int) = 27 := by unfold pwX; rw [if_neg (by omega)]
/-- floatBits's loops. -/
def fbA (a : DSt × Int) (x : (DSt × Int) ⊕ (DSt × Int)) : Prop := if 0 < a.1.2.2.1 then ∃ y, SR a.1 (pwX a.1.2.2.1) y ∧ x = .inl (y, a.2 + (pwX a.1.2.2.1 : Int)) else x = .inr a
def fbB (a : DSt × Int) (x : (DSt × Int) ⊕ (DSt × Int)) : Prop := if a.1.2.2.1 < 0 ∨ (a.1.2.2.1 = 0 ∧ a.1.1 0 < 53) then ∃ y, SL a.1 (pwX (-a.1.2.2.1)) y ∧ x = .inl (y, a.2 - (pwX (-a.1.2.2.1) : Int)) else x = .inr a
theorem fbA.uniq : ∀ a x y, fbA a x → fbA a y → x = y := by
  intro a x y h h'
  unfold fbA at h h'
  split at h
  · rename_i hc
    rw [if_pos hc] at h'
    obtain ⟨u, h1, rfl⟩ := h
    obtain ⟨v, k1, rfl⟩ := h'
    rw [h1.uniq k1]
  · rename_i hc
    rw [if_neg hc] at h'
    rw [h, h']
theorem fbB.uniq : ∀ a x y, fbB a x → fbB a y → x = y := by
  intro a x y h h'
  unfold fbB at h h'
  split at h
  · rename_i hc
    rw [if_pos hc] at h'
    obtain ⟨u, h1, rfl⟩ := h
    obtain ⟨v, k1, rfl⟩ := h'
    rw [h1.uniq k1]
  · rename_i hc
    rw [if_neg hc] at h'
    rw [h, h']
theorem fbA_in {a : DSt} {E : Int} {x : Nat} {y : DSt} (h : 0 < a.2.2.1) (hx : x = pwX a.2.2.1) (hy : SR a x y) : fbA (a, E) (.inl (y, E + (x : Int))) := by
  subst hx
  unfold fbA
  rw [if_pos h]
  exact ⟨y, hy, rfl⟩
theorem fbA_end {a : DSt} {E : Int} (h : ¬ 0 < a.2.2.1) : fbA (a, E) (.inr (a, E)) := by
  unfold fbA
  rw [if_neg h]
theorem fbB_in {a : DSt} {E : Int} {x : Nat} {y : DSt} (h : a.2.2.1 < 0 ∨ (a.2.2.1 = 0 ∧ a.1 0 < 53)) (hx : x = pwX (-a.2.2.1)) (hy : SL a x y) : fbB (a, E) (.inl (y, E - (x : Int))) := by
  subst hx
  unfold fbB
  rw [if_pos h]
  exact ⟨y, hy, rfl⟩
theorem fbB_end {a : DSt} {E : Int} (h : ¬ (a.2.2.1 < 0 ∨ (a.2.2.1 = 0 ∧ a.1 0 < 53))) : fbB (a, E) (.inr (a, E)) := by
  unfold fbB
  rw [if_neg h]
/-- Small exponents are moved up. -/
def FBc (a b : DSt × Int) : Prop := if a.2 - 1 < -1022 then SR a.1 (-1021 - a.2).toNat b.1 ∧ b.2 = -1022 else b = (a.1, a.2 - 1)
theorem FBc.uniq {a b c : DSt × Int} (h : FBc a b) (h' : FBc a c) : b = c := by
  unfold FBc at h h'
  split at h
  · rename_i hc
    rw [if_pos hc] at h'
    exact Prod.ext (h.1.uniq h'.1) (h.2.trans h'.2.symm)
  · rename_i hc
    rw [if_neg hc] at h'
    rw [h, h']
/-- The end, with a look at whether the mantissa has its highest bit. -/
def fbD (m E : Int) (ng : Bool) : Int := if (bits .and .u64 m 4503599627370496 == 0) = true then fbO m 0 ng else fbO m (E + 1023) ng
def FBe (m E : Int) (ng : Bool) (x : Int) (b : Bool) : Prop :=
  if m = 9007199254740992 then (if 2047 ≤ E + 1 + 1023 then x = fbO 0 2047 ng ∧ b = true else x = fbD 4503599627370496 (E + 1) ng ∧ b = false) else x = fbD m E ng ∧ b = false
theorem FBe.uniq {m E : Int} {ng : Bool} {x x' : Int} {b b' : Bool} (h : FBe m E ng x b) (h' : FBe m E ng x' b') : x = x' ∧ b = b' := by
  unfold FBe at h h'
  split at h
  · rename_i hc
    rw [if_pos hc] at h'
    split at h
    · rename_i hd
      rw [if_pos hd] at h'
      exact ⟨h.1.trans h'.1.symm, h.2.trans h'.2.symm⟩
    · rename_i hd
      rw [if_neg hd] at h'
      exact ⟨h.1.trans h'.1.symm, h.2.trans h'.2.symm⟩
  · rename_i hc
    rw [if_neg hc] at h'
    exact ⟨h.1.trans h'.1.symm, h.2.trans h'.2.symm⟩
/-- What stands behind the shifts. -/
def FBr (a : DSt × Int) (ng : Bool) (x : Int) (b : Bool) : Prop :=
  if 2047 ≤ a.2 + 1023 then x = fbO 0 2047 ng ∧ b = true else ∃ (y : DSt) (m : Int), SL a.1 53 y ∧ RI y.1 y.2.1 y.2.2.1 y.2.2.2 m ∧ FBe m a.2 ng x b
theorem FBr.uniq {a : DSt × Int} {ng : Bool} {x x' : Int} {b b' : Bool} (h : FBr a ng x b) (h' : FBr a ng x' b') : x = x' ∧ b = b' := by
  unfold FBr at h h'
  split at h
  · rename_i hc
    rw [if_pos hc] at h'
    exact ⟨h.1.trans h'.1.symm, h.2.trans h'.2.symm⟩
  · rename_i hc
    rw [if_neg hc] at h'
    obtain ⟨y, m, h1, h2, h3⟩ := h
    obtain ⟨y', m', k1, k2, k3⟩ := h'
    obtain rfl := h1.uniq k1
    obtain rfl := h2.uniq k2
    exact h3.uniq k3
/-- What floatBits makes of a decimal. -/
def FB (a : DSt) (ng : Bool) (x : Int) (b : Bool) : Prop :=
  if a.2.1 = 0 then x = fbO 0 0 ng ∧ b = false else if 310 < a.2.2.1 then x = fbO 0 2047 ng ∧ b = true else if a.2.2.1 < -330 then x = fbO 0 0 ng ∧ b = false else
    ∃ u v z, Run fbA (a, 0) u ∧ Run fbB u v ∧ FBc v z ∧ FBr z ng x b
theorem FB.uniq {a : DSt} {ng : Bool} {x x' : Int} {b b' : Bool} (h : FB a ng x b) (h' : FB a ng x' b') : x = x' ∧ b = b' := by
  unfold FB at h h'
  split at h
  · rename_i hc
    rw [if_pos hc] at h'
    exact ⟨h.1.trans h'.1.symm, h.2.trans h'.2.symm⟩
  rename_i hc
  rw [if_neg hc] at h'
  split at h
  · rename_i hc
    rw [if_pos hc] at h'
    exact ⟨h.1.trans h'.1.symm, h.2.trans h'.2.symm⟩
  rename_i hc
  rw [if_neg hc] at h'
  split at h
  · rename_i hc
    rw [if_pos hc] at h'
    exact ⟨h.1.trans h'.1.symm, h.2.trans h'.2.symm⟩
  rename_i hc
  rw [if_neg hc] at h'
  obtain ⟨u, v, z, h1, h2, h3, h4⟩ := h
  obtain ⟨u', v', z', k1, k2, k3, k4⟩ := h'
  obtain rfl := h1.uniq fbA.uniq k1
  obtain rfl := h2.uniq fbB.uniq k2
  obtain rfl := h3.uniq k3
  exact h4.uniq k4

set_option maxHeartbeats 8000000 in
set_option maxRecDepth 4000 in
theorem floatBits_any (lo g : Nat) (D : Nat → Nat) (n : Nat) (dp : Int) (ng tr : Bool) (w : World) (h : DC 139 g D n dp ng tr w) (hn : DI D n) (hdp0 : -1073741824 ≤ dp) (hdp1 : dp ≤ 1073741824)
    (hT : Tabs lo w) (hg : lo ≤ g) :
    Calls Tryz.prog 84 #[.pointer (some ⟨g, 0, none⟩), .pointer (some ⟨10, 0, none⟩)] w fun e w' =>
      ∃ (x : Int) (b : Bool), e = .returned (.tuple #[.int .u64 x, .bool b]) ∧ 0 ≤ x ∧ x ≤ 18446744073709551615 ∧ Upd (OneB g) w w' ∧ FB (D, n, dp, tr) ng x b := by
  have hc0 := h.cnd
  have hc1 := h.cdp
  have hc2 := h.cng
  have f0 := hT.fi0
  have f1 := hT.fi1
  have f2 := hT.fi2
  go_enter Tryz.func84, Tryz.ntmps84
  go_wp2_with fail
  apply wp_scope_two
  case h0 => exact rfl
  case h1 => exact rfl
  have HU : Hid (Upd (OneB g) w w) := Lib.hid (Upd.refl _ _)
  by_cases hz : n = 0
  · subst hz
    have HL : Hid (∀ x b, x = fbO 0 0 ng ∧ b = false → FB (D, 0, dp, tr) ng x b) := Lib.hid fun x b h => by unfold FB; rw [if_pos rfl]; exact h
    go_wp2_with fail
    refine wp_goto (.inl ⟨rfl, ?_⟩)
    unfold lab0
    go_wp2_with fail
    go_quiet (fail)
    go_wp2_with fail
    · go_quiet (fail)
      go_wp2_with fail
      rw [jumps_ret]
      go_ret2
      exact ⟨_, _, rfl, (bits_rng _ _ _).1, (bits_rng _ _ _).2, by (try simp only [World.drewN_drewN]); first | exact HU.out.drewN _ | exact HU.out, HL.out _ _ ⟨by first | rfl | (unfold fbO; simp; done) | (unfold fbO; simp [*]; done), rfl⟩⟩
    · rw [jumps_ret]
      go_ret2
      exact ⟨_, _, rfl, (bits_rng _ _ _).1, (bits_rng _ _ _).2, by (try simp only [World.drewN_drewN]); first | exact HU.out.drewN _ | exact HU.out, HL.out _ _ ⟨by first | rfl | (unfold fbO; simp; done) | (unfold fbO; simp [*]; done), rfl⟩⟩
  have hz' : ((n : Int) == 0) = false := by simp; omega
  by_cases h310 : 310 < dp
  · have HL : Hid (∀ x b, x = fbO 0 2047 ng ∧ b = true → FB (D, n, dp, tr) ng x b) := Lib.hid fun x b h => by unfold FB; rw [if_neg hz, if_pos h310]; exact h
    go_wp2_with fail
    refine wp_goto (.inr ⟨rfl, ?_⟩)
    unfold lab1
    go_wp2_with fail
    go_quiet (fail)
    go_wp2_with fail
    refine wp_label ?_
    go_wp2_with fail
    go_quiet (fail)
    go_wp2_with fail
    · go_quiet (fail)
      go_wp2_with fail
      rw [jumps_ret]
      go_ret2
      exact ⟨_, _, rfl, (bits_rng _ _ _).1, (bits_rng _ _ _).2, by (try simp only [World.drewN_drewN]); first | exact HU.out.drewN _ | exact HU.out, HL.out _ _ ⟨by first | rfl | (unfold fbO; simp; done) | (unfold fbO; simp [*]; done), rfl⟩⟩
    · rw [jumps_ret]
      go_ret2
      exact ⟨_, _, rfl, (bits_rng _ _ _).1, (bits_rng _ _ _).2, by (try simp only [World.drewN_drewN]); first | exact HU.out.drewN _ | exact HU.out, HL.out _ _ ⟨by first | rfl | (unfold fbO; simp; done) | (unfold fbO; simp [*]; done), rfl⟩⟩
  by_cases h330 : dp < -330
  · have HL : Hid (∀ x b, x = fbO 0 0 ng ∧ b = false → FB (D, n, dp, tr) ng x b) := Lib.hid fun x b h => by unfold FB; rw [if_neg hz, if_neg h310, if_pos h330]; exact h
    go_wp2_with fail
    refine wp_goto (.inl ⟨rfl, ?_⟩)
    unfold lab0
    go_wp2_with fail
    go_quiet (fail)
    go_wp2_with fail
    · go_quiet (fail)
      go_wp2_with fail
      rw [jumps_ret]
      go_ret2
      exact ⟨_, _, rfl, (bits_rng _ _ _).1, (bits_rng _ _ _).2, by (try simp only [World.drewN_drewN]); first | exact HU.out.drewN _ | exact HU.out, HL.out _ _ ⟨by first | rfl | (unfold fbO; simp; done) | (unfold fbO; simp [*]; done), rfl⟩⟩
    · rw [jumps_ret]
      go_ret2
      exact ⟨_, _, rfl, (bits_rng _ _ _).1, (bits_rng _ _ _).2, by (try simp only [World.drewN_drewN]); first | exact HU.out.drewN _ | exact HU.out, HL.out _ _ ⟨by first | rfl | (unfold fbO; simp; done) | (unfold fbO; simp [*]; done), rfl⟩⟩
  have HF0 : Hid (∀ u v z x b, Run fbA ((D, n, dp, tr), 0) u → Run fbB u v → FBc v z → FBr z ng x b → FB (D, n, dp, tr) ng x b) := Lib.hid fun u v z x b k1 k2 k3 k4 => by unfold FB; rw [if_neg hz, if_neg h310, if_neg h330]; exact ⟨u, v, z, k1, k2, k3, k4⟩
  go_wp2_with fail
  clear HU
  go_loopg [6] (10 * dp + D 0).toNat (fun m v6 wr => ∃ (D' : Nat → Nat) (n' : Nat) (dp' : Int) (tr' : Bool) (E : Int), m = (10 * dp' + D' 0).toNat ∧ v6 = .int .i64 E ∧ DC 139 g D' n' dp' ng tr' wr ∧ DI D' n' ∧ 0 < n' ∧ Upd (OneB g) w wr ∧ -24330 ≤ dp' ∧ dp' ≤ 310 ∧ 0 ≤ E ∧ E + 27 * m ≤ 200000 ∧ (∀ y, Run fbA ((D', n', dp', tr'), E) y → Run fbA ((D, n, dp, tr), 0) y))
  case atStart => exact ⟨D, n, dp, tr, 0, rfl, rfl, h, hn, by omega, Upd.refl _ _, by omega, by omega, by omega, by have := h.le 0 (by omega); omega, fun _ h => h⟩
  case round =>
    obtain ⟨D', n', dp', tr', E, hm, rfl, hD', hn', hn0, hU, hd1, hd2, hE1, hE2, hRA⟩ := hrel
    have HRA := Lib.hid hRA; clear hRA
    clear hc0 hc1 hc2 f0 f1 f2 h hn
    have Hm := Lib.hid hm; clear hm
    have hc1 := hD'.cdp
    have hT' := hT.upd hU (fun b hb => by have : b = g := hb; omega)
    obtain ⟨Bp, op, cp, hp1, hp2, hp3⟩ := hT'.pw
    by_cases hpos : 0 < dp'
    · obtain ⟨d, rfl⟩ : ∃ d : Nat, dp' = d := ⟨dp'.toNat, by omega⟩
      have hD0 := (hn'.dig 0 hn0)
      by_cases h9 : d < 9
      · obtain ⟨x, hx1, hx2, hx3, hx4⟩ := hp3 d h9
        have HX4 := Lib.hid hx4; clear hx4
        have HR := Lib.hid (fun a => Shift_right g D' n' d ng tr' x _ (hD'.drewN a) hn' hn0 hx2 (by omega) (by omega) (by omega))
        go_wp2_with fail
        go_quiet (fail)
        go_wp2_with fail
        go_quiet (fail)
        go_wp2_with (go_at_call 101; refine (HR.out _).mono ?_; rintro e w' ⟨rfl, D2, n2, dp2, tr2, h1, h2, h3, h4, h5, h6, h7, h8⟩)
        go_roundg (10 * dp2 + D2 0).toNat
        case measure => have := Hm.out; have := h2.dig 0 h3; omega
        case rel => exact ⟨D2, n2, dp2, tr2, E + x, rfl, by go_num, h1, h2, h3, by first | exact (hU.drewN _).trans h4 | exact ((hU.drewN _).drewN _).trans h4, by omega, by omega, by omega, by have := Hm.out; omega, fun y hy => HRA.out y (.step (fbA_in hpos (by rw [HX4.out]; exact (pwX_lt h9).symm) h8) hy)⟩
      · have HR := Lib.hid (fun a => Shift_right g D' n' d ng tr' 27 _ (hD'.drewN a) hn' hn0 (by omega) (by omega) (by omega) (by omega))
        simp only [show (-((27 : Nat) : Int)) = (-27 : Int) from rfl] at HR
        go_wp2_with fail
        go_quiet (fail)
        go_wp2_with (go_at_call 101; go_loud (refine (HR.out _).mono ?_); rintro e w' ⟨rfl, D2, n2, dp2, tr2, h1, h2, h3, h4, h5, h6, h7, h8⟩)
        go_roundg (10 * dp2 + D2 0).toNat
        case measure => have := Hm.out; have := h2.dig 0 h3; omega
        case rel => exact ⟨D2, n2, dp2, tr2, E + 27, rfl, by go_num, h1, h2, h3, (hU.drewN _).trans h4, by omega, by omega, by omega, by have := Hm.out; omega, fun y hy => HRA.out y (.step (fbA_in hpos (pwX_ge h9).symm h8) hy)⟩
    · have hD0 := hn'.dig 0 hn0
      have HFA := Lib.hid (HRA.out _ (.done (fbA_end hpos)))
      clear HRA
      clear Hm hp1 hp2 hp3 hT'
      go_upto_block 2 with (fail)
      clear hc1
      go_cut [6] (fun v6 wx => ∃ (D' : Nat → Nat) (n' : Nat) (dp' : Int) (tr' : Bool) (E : Int), v6 = .int .i64 E ∧ DC 139 g D' n' dp' ng tr' wx ∧ DI D' n' ∧ 0 < n' ∧ Upd (OneB g) w wx ∧ -24330 ≤ dp' ∧ dp' ≤ 310 ∧ E ≤ 200000 ∧ -20000000 ≤ E ∧ (∀ z x b, FBc ((D', n', dp', tr'), E) z → FBr z ng x b → FB (D, n, dp, tr) ng x b))
      case first =>
        go_wp2_with fail
        go_loopg [6] (243100 - (10 * dp' + D' 0)).toNat (fun m v6 wr => ∃ (D' : Nat → Nat) (n' : Nat) (dp' : Int) (tr' : Bool) (E : Int), m = (243100 - (10 * dp' + D' 0)).toNat ∧ v6 = .int .i64 E ∧ DC 139 g D' n' dp' ng tr' wr ∧ DI D' n' ∧ 0 < n' ∧ Upd (OneB g) w wr ∧ -24330 ≤ dp' ∧ dp' ≤ 310 ∧ E ≤ 200000 ∧ 27 * (m : Int) ≤ E + 20000000 ∧ (∀ v z x b, Run fbB ((D', n', dp', tr'), E) v → FBc v z → FBr z ng x b → FB (D, n, dp, tr) ng x b))
        case atStart => exact ⟨D', n', dp', tr', E, rfl, rfl, hD', hn', hn0, hU, hd1, hd2, by omega, by omega, fun v z x b k2 k3 k4 => HF0.out _ v z x b HFA.out k2 k3 k4⟩
        case round =>
          clear hE1 hE2 hD' hn' hn0 hU hd1 hd2 hD0
          obtain ⟨D', n', dp', tr', E, hm, rfl, hD', hn', hn0, hU, hd1, hd2, hE1, hE2, hRB⟩ := hrel
          have HRB := Lib.hid hRB; clear hRB HFA HF0
          have Hm := Lib.hid hm; clear hm
          have hc1 := hD'.cdp
          have hcz := hD'.c 0 (by omega)
          have hT' := hT.upd hU (fun b hb => by have : b = g := hb; omega)
          obtain ⟨Bp, op, cp, hp1, hp2, hp3⟩ := hT'.pw
          obtain ⟨BL, oL, cL, hL, hBL⟩ := hT'.lc
          have hgB : g ≠ BL := by omega
          have hgG : g ≠ 16 := by have := hT'.g; omega
          have hD0 := (hn'.dig 0 hn0)
          have hE0 : -20000000 ≤ E := by omega
          by_cases hgo : dp' < 0 ∨ (dp' = 0 ∧ D' 0 < 53)
          · obtain ⟨d, rfl⟩ : ∃ d : Nat, dp' = -(d : Int) := ⟨(-dp').toNat, by omega⟩
            by_cases h9 : d < 9
            · obtain ⟨x, hx1, hx2, hx3, hx4⟩ := hp3 d h9
              have HX4 := Lib.hid hx4; clear hx4
              have HR := Lib.hid (fun a => Shift_left g D' n' (-(d : Int)) ng tr' x _ (hD'.drewN a) hn' hn0 hx2 (by omega) (by omega) (by omega) BL oL cL (hL.upd (S := NoB) ((Upd.refl NoB _).drewN a) (fun h => h) (fun h => h)) hgB hgG)
              rcases hgo with hneg | ⟨hz0, hlt⟩
              · go_wp2_with fail
                go_quiet (fail)
                go_wp2_with fail
                go_quiet (fail)
                go_wp2_with (go_at_call 101; refine (HR.out _).mono ?_; rintro e w' ⟨rfl, D2, n2, dp2, tr2, h1, h2, h3, h4, h5, h6, h7, h8⟩)
                go_roundg (243100 - (10 * dp2 + D2 0)).toNat
                case measure => have := Hm.out; have := h2.dig 0 h3; omega
                case rel => exact ⟨D2, n2, dp2, tr2, E - x, rfl, by go_num, h1, h2, h3, by first | exact (hU.drewN _).trans h4 | exact ((hU.drewN _).drewN _).trans h4, by omega, by omega, by omega, by have := Hm.out; omega, fun v z x b k2 k3 k4 => HRB.out v z x b (.step (fbB_in (y := (D2, n2, dp2, tr2)) (.inl hneg) (by rw [HX4.out]; show pwT d = pwX (-(-(d : Int))); rw [show -(-(d : Int)) = (d : Int) by omega]; exact (pwX_lt h9).symm) h8) k2) k3 k4⟩
              · obtain rfl : d = 0 := by omega
                rw [Nat.add_zero] at hx1
                have hlt' : (D' 0 : Int) < 53 := by omega
                go_wp2_with fail
                go_quiet (fail)
                go_wp2_with fail
                go_quiet (fail)
                go_wp2_with (go_at_call 101; refine (HR.out _).mono ?_; rintro e w' ⟨rfl, D2, n2, dp2, tr2, h1, h2, h3, h4, h5, h6, h7, h8⟩)
                go_roundg (243100 - (10 * dp2 + D2 0)).toNat
                case measure => have := Hm.out; have := h2.dig 0 h3; omega
                case rel => exact ⟨D2, n2, dp2, tr2, E - x, rfl, by go_num, h1, h2, h3, by first | exact (hU.drewN _).trans h4 | exact ((hU.drewN _).drewN _).trans h4, by omega, by omega, by omega, by have := Hm.out; omega, fun v z x b k2 k3 k4 => HRB.out v z x b (.step (fbB_in (y := (D2, n2, dp2, tr2)) (.inr ⟨rfl, hlt⟩) HX4.out h8) k2) k3 k4⟩
            · have HR := Lib.hid (fun a => Shift_left g D' n' (-(d : Int)) ng tr' 27 _ (hD'.drewN a) hn' hn0 (by omega) (by omega) (by omega) (by omega) BL oL cL (hL.upd (S := NoB) ((Upd.refl NoB _).drewN a) (fun h => h) (fun h => h)) hgB hgG)
              simp only [show ((27 : Nat) : Int) = (27 : Int) from rfl] at HR
              have hneg : -(d : Int) < 0 := by omega
              go_wp2_with fail
              go_quiet (fail)
              go_wp2_with (go_at_call 101; refine (HR.out _).mono ?_; rintro e w' ⟨rfl, D2, n2, dp2, tr2, h1, h2, h3, h4, h5, h6, h7, h8⟩)
              go_roundg (243100 - (10 * dp2 + D2 0)).toNat
              case measure => have := Hm.out; have := h2.dig 0 h3; omega
              case rel => exact ⟨D2, n2, dp2, tr2, E - 27, rfl, by go_num, h1, h2, h3, by first | exact (hU.drewN _).trans h4 | exact ((hU.drewN _).drewN _).trans h4, by omega, by omega, by omega, by have := Hm.out; omega, fun v z x b k2 k3 k4 => HRB.out v z x b (.step (fbB_in (y := (D2, n2, dp2, tr2)) (.inl hneg) (by show 27 = pwX (-(-(d : Int))); rw [show -(-(d : Int)) = (d : Int) by omega]; exact (pwX_ge h9).symm) h8) k2) k3 k4⟩
          · by_cases hp : 0 < dp'
            · have hpz : (dp' == 0) = false := by simp; omega
              go_wp2_with fail
              go_meet
              exact ⟨D', n', dp', tr', E, rfl, hD', hn', hn0, hU, hd1, hd2, hE1, hE0, fun z x b k3 k4 => HRB.out _ z x b (.done (fbB_end hgo)) k3 k4⟩
            · obtain rfl : dp' = 0 := by omega
              have hlt' : ¬ (D' 0 : Int) < 53 := by omega
              go_wp2_with fail
              go_meet
              exact ⟨D', n', 0, tr', E, rfl, hD', hn', hn0, hU, hd1, hd2, hE1, hE0, fun z x b k3 k4 => HRB.out _ z x b (.done (fbB_end (by show ¬ ((0 : Int) < 0 ∨ ((0 : Int) = 0 ∧ D' 0 < 53)); omega))) k3 k4⟩
      case rest =>
      clear hE1 hE2 hD' hn' hn0 hU hd1 hd2 hD0
      obtain ⟨D', n', dp', tr', E, rfl, hD', hn', hn0, hU, hd1, hd2, hE1, hE0, hFC⟩ := hcut
      have HFC := Lib.hid hFC; clear hFC HFA HF0
      have hg2 : ∀ b, OneB g b → lo ≤ b := fun b hb => by have : b = g := hb; omega
      have hT1 := hT.upd hU hg2
      have f2 := hT1.fi2
      go_upto_if 111 with (fail)
      clear f2
      go_cut [6] (fun v6 wx => ∃ (D' : Nat → Nat) (n' : Nat) (dp' : Int) (tr' : Bool) (E : Int), v6 = .int .i64 E ∧ DC 139 g D' n' dp' ng tr' wx ∧ DI D' n' ∧ 0 < n' ∧ Upd (OneB g) w wx ∧ -34359738368 ≤ dp' ∧ dp' ≤ 310 ∧ E ≤ 200000 ∧ -20000000 ≤ E ∧ (∀ x b, FBr ((D', n', dp', tr'), E) ng x b → FB (D, n, dp, tr) ng x b))
      case first =>
        have f2 := hT1.fi2
        by_cases hden : E - 1 < -1022
        · obtain ⟨kk, rfl⟩ : ∃ kk : Nat, E = -1021 - (kk : Int) := ⟨(-1021 - E).toNat, by omega⟩
          have HR := Lib.hid (Shift_right g D' n' dp' ng tr' kk _ hD' hn' hn0 (by omega) (by omega) (by omega) (by omega))
          have hk : -(-1022 - (-1021 - (kk : Int) - 1)) = -(kk : Int) := by omega
          go_wp2_with fail
          refine HR.out.mono ?_
          rintro e w' ⟨rfl, D2, n2, dp2, tr2, h1, h2, h3, h4, h5, h6, h7, h8⟩
          clear hk
          go_wp2_with fail
          go_meet
          exact ⟨D2, n2, dp2, tr2, _, rfl, h1, h2, h3, hU.trans h4, by omega, by omega, by omega, by omega, fun x b k4 => HFC.out _ x b (by unfold FBc; rw [if_pos hden]; exact ⟨by show SR _ ((-1021 - (-1021 - (kk : Int))).toNat) (D2, n2, dp2, tr2); rw [show (-1021 - (-1021 - (kk : Int))).toNat = kk by omega]; exact h8, by show _ = (-1022 : Int); omega⟩) k4⟩
        · go_wp2_with fail
          go_meet
          exact ⟨D', n', dp', tr', _, rfl, hD', hn', hn0, hU, by omega, by omega, by omega, by omega, fun x b k4 => HFC.out _ x b (by unfold FBc; rw [if_neg (by show ¬ (E - 1 < -1022); omega)]) k4⟩
      case rest =>
      clear hE1 hE0 hD' hn' hn0 hU hd1 hd2 hT1
      obtain ⟨D', n', dp', tr', E, rfl, hD', hn', hn0, hU, hd1, hd2, hE1, hE0, hFR⟩ := hcut
      have HFR := Lib.hid hFR; clear hFR HFC
      have hT1 := hT.upd hU hg2
      have f0 := hT1.fi0
      have f1 := hT1.fi1
      have f2 := hT1.fi2
      have hc2 := hD'.cng
      obtain ⟨BL, oL, cL, hL, hBL⟩ := hT1.lc
      have hgB : g ≠ BL := by omega
      have hgG : g ≠ 16 := by have := hT1.g; omega
      have hE0' : 0 ≤ E + 100000000 := by omega
      by_cases hov : 2047 ≤ E + 1023
      · have HU : Hid (Upd (OneB g) w _) := Lib.hid hU
        have HL : Hid (∀ x b, x = fbO 0 2047 ng ∧ b = true → FB (D, n, dp, tr) ng x b) := Lib.hid fun x b h => HFR.out x b (by unfold FBr; rw [if_pos hov]; exact h)
        go_wp2_with fail
        go_quiet (fail)
        go_wp2_with fail
        refine wp_goto (.inr ⟨rfl, ?_⟩)
        unfold lab1
        go_wp2_with fail
        go_quiet (fail)
        go_wp2_with fail
        refine wp_label ?_
        go_wp2_with fail
        go_quiet (fail)
        go_wp2_with fail
        · go_quiet (fail)
          go_wp2_with fail
          rw [jumps_ret]
          go_ret2
          exact ⟨_, _, rfl, (bits_rng _ _ _).1, (bits_rng _ _ _).2, by (try simp only [World.drewN_drewN]); first | exact HU.out.drewN _ | exact HU.out, HL.out _ _ ⟨by first | rfl | (unfold fbO; simp; done) | (unfold fbO; simp [*]; done), rfl⟩⟩
        · rw [jumps_ret]
          go_ret2
          exact ⟨_, _, rfl, (bits_rng _ _ _).1, (bits_rng _ _ _).2, by (try simp only [World.drewN_drewN]); first | exact HU.out.drewN _ | exact HU.out, HL.out _ _ ⟨by first | rfl | (unfold fbO; simp; done) | (unfold fbO; simp [*]; done), rfl⟩⟩
      have HR := Lib.hid (fun a => Shift_left g D' n' dp' ng tr' 53 _ (hD'.drewN a) hn' hn0 (by omega) (by omega) (by omega) (by omega) BL oL cL (hL.upd (S := NoB) ((Upd.refl NoB _).drewN a) (fun h => h) (fun h => h)) hgB hgG)
      simp only [show ((53 : Nat) : Int) = (53 : Int) from rfl] at HR
      go_wp2_with fail
      go_quiet (fail)
      go_wp2_with (go_at_call 101; go_loud (refine (HR.out _).mono ?_); rintro e w' ⟨rfl, D2, n2, dp2, tr2, h1, h2, h3, h4, h5, h6, h7, h8⟩)
      have hU2 := (hU.drewN nq).trans h4
      clear HR hU h4 f0 f1 f2 hc2 hT1 hL
      have hT1 := hT.upd hU2 hg2
      have f0 := hT1.fi0
      have f1 := hT1.fi1
      have f2 := hT1.fi2
      have hc2 := h1.cng
      have HRI := Lib.hid (RoundedInteger_any g D2 n2 dp2 ng tr2 w' h1 h2.le (by omega))
      have HU : Hid (Upd (OneB g) w w') := Lib.hid hU2
      go_wp2_with fail
      refine HRI.out.mono ?_
      rintro e w3 ⟨x, hx0, hx1, rfl, rfl, hRI⟩
      have HFe : Hid (∀ x' b, FBe x E ng x' b → FB (D, n, dp, tr) ng x' b) := Lib.hid fun x' b h => HFR.out x' b (by unfold FBr; rw [if_neg (by show ¬ (2047 ≤ E + 1023); omega)]; exact ⟨(D2, n2, dp2, tr2), x, h8, hRI, h⟩)
      clear HFR hRI h8 HRI
      by_cases hm9 : x = 9007199254740992
      · subst hm9
        by_cases hov2 : 2047 ≤ E + 1 + 1023
        · have HL : Hid (∀ x b, x = fbO 0 2047 ng ∧ b = true → FB (D, n, dp, tr) ng x b) := Lib.hid fun x b h => HFe.out x b (by unfold FBe; rw [if_pos rfl, if_pos hov2]; exact h)
          clear HFe
          go_wp2_with fail
          go_quiet (fail)
          go_wp2_with fail
          refine wp_goto (.inr ⟨rfl, ?_⟩)
          unfold lab1
          go_wp2_with fail
          go_quiet (fail)
          go_wp2_with fail
          refine wp_label ?_
          go_wp2_with fail
          go_quiet (fail)
          go_wp2_with fail
          · go_quiet (fail)
            go_wp2_with fail
            rw [jumps_ret]
            go_ret2
            exact ⟨_, _, rfl, (bits_rng _ _ _).1, (bits_rng _ _ _).2, by (try simp only [World.drewN_drewN]); first | exact HU.out.drewN _ | exact HU.out, HL.out _ _ ⟨by first | rfl | (unfold fbO; simp; done) | (unfold fbO; simp [*]; done), rfl⟩⟩
          · rw [jumps_ret]
            go_ret2
            exact ⟨_, _, rfl, (bits_rng _ _ _).1, (bits_rng _ _ _).2, by (try simp only [World.drewN_drewN]); first | exact HU.out.drewN _ | exact HU.out, HL.out _ _ ⟨by first | rfl | (unfold fbO; simp; done) | (unfold fbO; simp [*]; done), rfl⟩⟩
        · have hd : (bits .and .u64 4503599627370496 4503599627370496 == 0) = false := by decide
          have HL : Hid (∀ x b, x = fbO 4503599627370496 (E + 1 + 1023) ng ∧ b = false → FB (D, n, dp, tr) ng x b) := Lib.hid fun x b h => HFe.out x b (by unfold FBe; rw [if_pos rfl, if_neg (by omega)]; unfold fbD; rw [hd]; exact h)
          clear HFe
          go_wp2_with fail
          go_quiet (fail)
          go_wp2_with fail
          refine wp_goto (.inl ⟨rfl, ?_⟩)
          unfold lab0
          go_wp2_with fail
          go_quiet (fail)
          go_wp2_with fail
          · go_quiet (fail)
            go_wp2_with fail
            rw [jumps_ret]
            go_ret2
            exact ⟨_, _, rfl, (bits_rng _ _ _).1, (bits_rng _ _ _).2, by (try simp only [World.drewN_drewN]); first | exact HU.out.drewN _ | exact HU.out, HL.out _ _ ⟨by first | rfl | (unfold fbO; simp; done) | (unfold fbO; simp [*]; done), rfl⟩⟩
          · rw [jumps_ret]
            go_ret2
            exact ⟨_, _, rfl, (bits_rng _ _ _).1, (bits_rng _ _ _).2, by (try simp only [World.drewN_drewN]); first | exact HU.out.drewN _ | exact HU.out, HL.out _ _ ⟨by first | rfl | (unfold fbO; simp; done) | (unfold fbO; simp [*]; done), rfl⟩⟩
      · have hm9' : (x == 9007199254740992) = false := by simpa using hm9
        cases hd : (bits .and .u64 x 4503599627370496 == 0)
        · have HL : Hid (∀ x' b, x' = fbO x (E + 1023) ng ∧ b = false → FB (D, n, dp, tr) ng x' b) := Lib.hid fun x' b h => HFe.out x' b (by unfold FBe; rw [if_neg hm9]; unfold fbD; rw [hd]; exact h)
          clear HFe
          go_wp2_with fail
          refine wp_goto (.inl ⟨rfl, ?_⟩)
          unfold lab0
          go_wp2_with fail
          go_quiet (fail)
          go_wp2_with fail
          · go_quiet (fail)
            go_wp2_with fail
            rw [jumps_ret]
            go_ret2
            exact ⟨_, _, rfl, (bits_rng _ _ _).1, (bits_rng _ _ _).2, by (try simp only [World.drewN_drewN]); first | exact HU.out.drewN _ | exact HU.out, HL.out _ _ ⟨by first | rfl | (unfold fbO; simp; done) | (unfold fbO; simp [*]; done), rfl⟩⟩
          · rw [jumps_ret]
            go_ret2
            exact ⟨_, _, rfl, (bits_rng _ _ _).1, (bits_rng _ _ _).2, by (try simp only [World.drewN_drewN]); first | exact HU.out.drewN _ | exact HU.out, HL.out _ _ ⟨by first | rfl | (unfold fbO; simp; done) | (unfold fbO; simp [*]; done), rfl⟩⟩
        · have HL : Hid (∀ x' b, x' = fbO x 0 ng ∧ b = false → FB (D, n, dp, tr) ng x' b) := Lib.hid fun x' b h => HFe.out x' b (by unfold FBe; rw [if_neg hm9]; unfold fbD; rw [hd]; exact h)
          clear HFe
          go_wp2_with fail
          refine wp_goto (.inl ⟨rfl, ?_⟩)
          unfold lab0
          go_wp2_with fail
          go_quiet (fail)
          go_wp2_with fail
          · go_quiet (fail)
            go_wp2_with fail
            rw [jumps_ret]
            go_ret2
            exact ⟨_, _, rfl, (bits_rng _ _ _).1, (bits_rng _ _ _).2, by (try simp only [World.drewN_drewN]); first | exact HU.out.drewN _ | exact HU.out, HL.out _ _ ⟨by first | rfl | (unfold fbO; simp; done) | (unfold fbO; simp [*]; done), rfl⟩⟩
          · rw [jumps_ret]
            go_ret2
            exact ⟨_, _, rfl, (bits_rng _ _ _).1, (bits_rng _ _ _).2, by (try simp only [World.drewN_drewN]); first | exact HU.out.drewN _ | exact HU.out, HL.out _ _ ⟨by first | rfl | (unfold fbO; simp; done) | (unfold fbO; simp [*]; done), rfl⟩⟩
end Go.Proofs.YtkocponnjfkchaaGreatDoor
