/- strconv.ParseFloat: the fast road, its scaling. -/
import Derived.Test.YtkocponnjfkchaaGreatDoorPf2
namespace Go.Proofs.YtkocponnjfkchaaGreatDoor
open Go.RowKit

theorem three_cells {w : World} {g T : Nat} {a b c : Value} (h : w.heap[g]? = some (.cells #[a, b, c] T (0, 0))) :
    (w.cell? ⟨g, 0, none⟩ = some a ∧ w.cell? ⟨g, 1, none⟩ = some b ∧ w.cell? ⟨g, 2, none⟩ = some c) ∧ w.frozen? ⟨g, 0, none⟩ = false ∧ w.frozen? ⟨g, 1, none⟩ = false ∧ w.frozen? ⟨g, 2, none⟩ = false :=
  ⟨⟨by rw [cell_of_row w g 0 _ _ _ h]; rfl, by rw [cell_of_row w g 1 _ _ _ h]; rfl, by rw [cell_of_row w g 2 _ _ _ h]; rfl⟩, frozen_of_row w g 0 _ _ h, frozen_of_row w g 1 _ _ h, frozen_of_row w g 2 _ _ h⟩

set_option maxHeartbeats 400000 in
theorem prescale_any (lo g : Nat) (a b c : Value) (e p lp : Int) (w : World) (hT : Tabs lo w) (hg : lo ≤ g) (h : w.heap[g]? = some (.cells #[a, b, c] 150 (0, 0))) (hp0 : -348 ≤ p) (hp1 : p ≤ 347) (he0 : -1000000 ≤ e) (he1 : e ≤ 1000000) (hl0 : -1000000 ≤ lp) (hl1 : lp ≤ 1000000) :
    Calls Tryz.prog 95 #[.pointer (some ⟨g, 0, none⟩), .int .i64 e, .int .i64 p, .int .i64 lp] w fun r w' =>
      r = .returned (.tuple #[]) ∧ ∃ x y : Nat, w'.heap[g]? = some (.cells #[.int .u64 (x : Int), .int .u64 (y : Int), .int .i64 (-(e + lp + 3))] 150 (0, 0)) ∧ x < 18446744073709551616 ∧ y < 18446744073709551616 ∧ Upd (OneB g) w w' ∧ (x, y) = p10T (p + 348).toNat := by
  obtain ⟨k, hk⟩ : ∃ k : Nat, p = (k : Int) - 348 := ⟨(p + 348).toNat, by omega⟩
  subst hk
  obtain ⟨x, y, hx, hy, hx1, hy1, hxy⟩ := hT.p10 k (by omega)
  have HXY : Hid ((x, y) = p10T ((k : Int) - 348 + 348).toNat) := Lib.hid (by rw [show ((k : Int) - 348 + 348).toNat = k by omega, hxy])
  clear hxy
  have hGlo := hT.g.2.2.2.1
  obtain ⟨⟨c0, c1, c2⟩, f0, f1, f2⟩ := three_cells h
  have hne : (⟨14, k * 2 + 1, none⟩ : Addr).block ≠ g := by show 14 ≠ g; omega
  go_enter Tryz.func95, Tryz.ntmps95
  go_wp2_with fail
  go_end0
  have s0 : (w.setCell ⟨g, 0, none⟩ (.int .u64 (x : Int))).heap[g]? = some (.cells #[.int .u64 (x : Int), b, c] 150 (0, 0)) := by rw [heap_setCell_same w g 0 _ _ _ h]; rfl
  have s1 : ((w.setCell ⟨g, 0, none⟩ (.int .u64 (x : Int))).setCell ⟨g, 1, none⟩ (.int .u64 (y : Int))).heap[g]? = some (.cells #[.int .u64 (x : Int), .int .u64 (y : Int), c] 150 (0, 0)) := by rw [heap_setCell_same _ g 1 _ _ _ s0]; rfl
  have s2 : (((w.setCell ⟨g, 0, none⟩ (.int .u64 (x : Int))).setCell ⟨g, 1, none⟩ (.int .u64 (y : Int))).setCell ⟨g, 2, none⟩ (.int .i64 (-(e + lp + 3)))).heap[g]? = some (.cells #[.int .u64 (x : Int), .int .u64 (y : Int), .int .i64 (-(e + lp + 3))] 150 (0, 0)) := by rw [heap_setCell_same _ g 2 _ _ _ s1]; rfl
  exact ⟨rfl, x, y, s2, hx1, hy1, (((Upd.refl _ _).setOne 0 _).setOne 1 _).setOne 2 _, by first | exact HXY.out | simpa using HXY.out⟩

theorem and63 (x : Int) : ∃ k : Nat, bits .and .i64 x 63 = (k : Int) ∧ k ≤ 63 := by
  have h : (BitVec.ofInt 64 x &&& BitVec.ofInt 64 63).toNat ≤ 63 := by
    rw [BitVec.toNat_and]
    exact Nat.le_trans Nat.and_le_right (by decide)
  refine ⟨(BitVec.ofInt 64 x &&& BitVec.ofInt 64 63).toNat, ?_, h⟩
  change IntKind.i64.wrap ((BitVec.ofInt 64 x &&& BitVec.ofInt 64 63).toNat : Int) = _
  generalize (BitVec.ofInt 64 x &&& BitVec.ofInt 64 63).toNat = z at *
  exact IntWalk.i64_in _ (by omega)

/-- What uscale makes of the products' halves. -/
def uscV (A B C k : Nat) : Int :=
  if (IntKind.u64.wrap ((A : Int) / 2 ^ k * 2 ^ k) != (A : Int)) = true then bits .or .u64 ((A : Int) / 2 ^ k) 1
  else if B < C then (if 1 < IntKind.u64.wrap ((B : Int) - (C : Int)) then bits .or .u64 (IntKind.u64.wrap ((A : Int) - 1) / 2 ^ k) 1 else bits .or .u64 (IntKind.u64.wrap ((A : Int) - 1) / 2 ^ k) 0)
  else if (1 : Int) < (B : Int) - (C : Int) then bits .or .u64 ((A : Int) / 2 ^ k) 1 else bits .or .u64 ((A : Int) / 2 ^ k) 0
theorem uscV_rng (A B C k : Nat) : 0 ≤ uscV A B C k ∧ uscV A B C k ≤ 18446744073709551615 := by
  unfold uscV
  split
  · exact bits_rng _ _ _
  · split
    · split <;> exact bits_rng _ _ _
    · split <;> exact bits_rng _ _ _
set_option maxHeartbeats 2000000 in
set_option maxRecDepth 4000 in
theorem uscale_any (g : Nat) (d x y : Nat) (s : Int) (A B C E k : Nat) (w : World) (h : w.heap[g]? = some (.cells #[.int .u64 (x : Int), .int .u64 (y : Int), .int .i64 s] 150 (0, 0))) (hd : d < 18446744073709551616) (hx : x < 18446744073709551616) (hy : y < 18446744073709551616)
    (eA : d * x / 18446744073709551616 = A) (eB : d * x % 18446744073709551616 = B) (eC : d * y / 18446744073709551616 = C) (eE : d * y % 18446744073709551616 = E) (hk : bits .and .i64 s 63 = (k : Int)) (hk63 : k ≤ 63) :
    Calls Tryz.prog 96 #[.int .u64 (d : Int), .pointer (some ⟨g, 0, none⟩)] w fun r w' => r = .returned (.int .u64 (uscV A B C k)) ∧ ∃ n, w' = w.drewN n := by
  obtain ⟨⟨c0, c1, c2⟩, _⟩ := three_cells h
  have hm1 := Tryz.bits_Mul64 d x hd hx
  have hm2 := Tryz.bits_Mul64 d y hd hy
  rw [eA, eB] at hm1
  rw [eC, eE] at hm2
  have HM1 := Lib.hid hm1
  have HM2 := Lib.hid hm2
  have hA : A < 18446744073709551616 := by rw [← eA, Nat.div_lt_iff_lt_mul (by decide)]; exact Nat.mul_lt_mul'' hd hx
  have hB : B < 18446744073709551616 := by rw [← eB]; exact Nat.mod_lt _ (by decide)
  have hC : C < 18446744073709551616 := by rw [← eC, Nat.div_lt_iff_lt_mul (by decide)]; exact Nat.mul_lt_mul'' hd hy
  have hE : E < 18446744073709551616 := by rw [← eE]; exact Nat.mod_lt _ (by decide)
  clear hm1 hm2 eA eB eC eE hd hx hy
  cases h1 : (IntKind.u64.wrap ((A : Int) / 2 ^ k * 2 ^ k) != (A : Int))
  rotate_left
  · have HV : Hid (uscV A B C k = bits .or .u64 ((A : Int) / 2 ^ k) 1) := Lib.hid (by unfold uscV; rw [if_pos h1])
    go_enter Tryz.func96, Tryz.ntmps96
    go_wp2_with fail
    refine (HM1.out _).mono ?_
    rintro e w' ⟨rfl, rfl⟩
    clear HM1
    go_wp2_with fail
    go_ret
    exact ⟨by rw [HV.out]; rfl, 0, rfl⟩
  by_cases h2 : B < C
  · by_cases h3 : 1 < IntKind.u64.wrap ((B : Int) - (C : Int))
    · have HV : Hid (uscV A B C k = bits .or .u64 (IntKind.u64.wrap ((A : Int) - 1) / 2 ^ k) 1) := Lib.hid (by unfold uscV; rw [h1, if_neg (by decide), if_pos h2, if_pos h3])
      go_enter Tryz.func96, Tryz.ntmps96
      go_wp2_with fail
      refine (HM1.out _).mono ?_
      rintro e w' ⟨rfl, rfl⟩
      clear HM1
      go_wp2_with fail
      refine (HM2.out _).mono ?_
      rintro e w2 ⟨rfl, rfl⟩
      clear HM2
      go_wp2_with (go_at_call 85; refine (bool2u_any _ _).mono ?_; rintro e w3 ⟨rfl, rfl⟩)
      go_quiet ((go_at_call 85; exact Calls.quiet_of_same (bool2u_any _ _)))
      go_wp2_with fail
      all_goals first | (exfalso; have hh := h; simp at hh; omega) | (go_ret; exact ⟨by rw [HV.out]; rfl, _, rfl⟩)
    · have HV : Hid (uscV A B C k = bits .or .u64 (IntKind.u64.wrap ((A : Int) - 1) / 2 ^ k) 0) := Lib.hid (by unfold uscV; rw [h1, if_neg (by decide), if_pos h2, if_neg h3])
      go_enter Tryz.func96, Tryz.ntmps96
      go_wp2_with fail
      refine (HM1.out _).mono ?_
      rintro e w' ⟨rfl, rfl⟩
      clear HM1
      go_wp2_with fail
      refine (HM2.out _).mono ?_
      rintro e w2 ⟨rfl, rfl⟩
      clear HM2
      go_wp2_with (go_at_call 85; refine (bool2u_any _ _).mono ?_; rintro e w3 ⟨rfl, rfl⟩)
      go_quiet ((go_at_call 85; exact Calls.quiet_of_same (bool2u_any _ _)))
      go_wp2_with fail
      all_goals first | (exfalso; have hh := h; simp at hh; omega) | (go_ret; exact ⟨by rw [HV.out]; rfl, _, rfl⟩)
  · by_cases h3 : (1 : Int) < (B : Int) - (C : Int)
    · have HV : Hid (uscV A B C k = bits .or .u64 ((A : Int) / 2 ^ k) 1) := Lib.hid (by unfold uscV; rw [h1, if_neg (by decide), if_neg h2, if_pos h3])
      go_enter Tryz.func96, Tryz.ntmps96
      go_wp2_with fail
      refine (HM1.out _).mono ?_
      rintro e w' ⟨rfl, rfl⟩
      clear HM1
      go_wp2_with fail
      refine (HM2.out _).mono ?_
      rintro e w2 ⟨rfl, rfl⟩
      clear HM2
      go_wp2_with (go_at_call 85; refine (bool2u_any _ _).mono ?_; rintro e w3 ⟨rfl, rfl⟩)
      go_quiet ((go_at_call 85; exact Calls.quiet_of_same (bool2u_any _ _)))
      go_wp2_with fail
      all_goals first | (exfalso; have hh := h; simp at hh; omega) | (go_ret; exact ⟨by rw [HV.out]; rfl, _, rfl⟩)
    · have HV : Hid (uscV A B C k = bits .or .u64 ((A : Int) / 2 ^ k) 0) := Lib.hid (by unfold uscV; rw [h1, if_neg (by decide), if_neg h2, if_neg h3])
      go_enter Tryz.func96, Tryz.ntmps96
      go_wp2_with fail
      refine (HM1.out _).mono ?_
      rintro e w' ⟨rfl, rfl⟩
      clear HM1
      go_wp2_with fail
      refine (HM2.out _).mono ?_
      rintro e w2 ⟨rfl, rfl⟩
      clear HM2
      go_wp2_with (go_at_call 85; refine (bool2u_any _ _).mono ?_; rintro e w3 ⟨rfl, rfl⟩)
      go_quiet ((go_at_call 85; exact Calls.quiet_of_same (bool2u_any _ _)))
      go_wp2_with fail
      all_goals first | (exfalso; have hh := h; simp at hh; omega) | (go_ret; exact ⟨by rw [HV.out]; rfl, _, rfl⟩)

/-- What parseFloat64 makes of its digits: b their bits, l the power's logarithm, mn the shift. -/
def pfR (u mn sg : Int) : Nat × Bool :=
  if unminV 9007199254740992 ≤ u then packV (bits .or .u64 sg (roundV (bits .or .u64 (u / 2) (bits .and .u64 u 1)))) (-(mn - 1))
  else packV (bits .or .u64 sg (roundV (bits .or .u64 u (bits .and .u64 u 1)))) (-mn)
def pfU (z : Nat) (s p : Int) : Int :=
  uscV (z * (p10T (p + 348).toNat).1 / 18446744073709551616) (z * (p10T (p + 348).toNat).1 % 18446744073709551616) (z * (p10T (p + 348).toNat).2 / 18446744073709551616) (bits .and .i64 s 63).toNat
def pfZ (d b : Nat) : Nat := (IntKind.u64.wrap ((d : Int) * 2 ^ (64 - b))).toNat
def pfW (d b : Nat) (p sg l mn : Int) : Nat × Bool :=
  if 64 ≤ -(mn - (64 - (b : Int)) + l + 3) then ((bits .or .u64 sg 0).toNat, false)
  else pfR (pfU (pfZ d b) (-(mn - (64 - (b : Int)) + l + 3)) p) mn sg
def pfV (d : Nat) (p sg : Int) : Nat × Bool :=
  pfW d (Lib.bitLen d) p sg (p * 108853 / 32768) (min 1074 (53 - (Lib.bitLen d : Int) - p * 108853 / 32768))

set_option maxHeartbeats 1000000 in
set_option maxRecDepth 4000 in
theorem parseFloat64_any (lo : Nat) (d : Nat) (p : Int) (sg : Int) (w : World) (hT : Tabs lo w) (hlo : lo ≤ w.heap.size) (hd : d < 18446744073709551616) (hp0 : -345 ≤ p) (hp1 : p ≤ 310) :
    Calls Tryz.prog 88 #[.int .u64 (d : Int), .int .i64 p, .int .u64 sg] w fun r w' =>
      r = .returned (.tuple #[.float .f64 (pfV d p sg).1, evR (pfV d p sg).2]) ∧ Upd NoB w w' := by
  obtain ⟨V, hV⟩ : ∃ V, pfV d p sg = V := ⟨_, rfl⟩
  rw [hV]
  unfold pfV at hV
  have hbl : Lib.bitLen d ≤ 64 := Lib.bitLen_le d 64 (by omega) hd
  have HL := Lib.hid (Tryz.bits_Len64 (d : Int) w (by omega) (by omega))
  rw [Int.toNat_natCast] at HL
  generalize Lib.bitLen d = b at *
  have HP := Lib.hid (log2Pow10_any p w (by omega) (by omega))
  have HVV := Lib.hid hV
  clear hV
  go_enter Tryz.func88, Tryz.ntmps88
  go_wp2_with fail
  refine HL.out.mono ?_
  rintro e w1 ⟨rfl, rfl⟩
  clear HL
  go_wp2_with fail
  refine HP.out.mono ?_
  rintro e w1 ⟨⟨l, rfl, hl⟩, rfl⟩
  clear HP
  rw [← hl] at HVV
  have hl0 : -1200 ≤ l := by omega
  have hl1 : l ≤ 1200 := by omega
  clear hl
  have hM0 : -3000 ≤ min 1074 (53 - (b : Int) - l) := by omega
  have hM1 : min 1074 (53 - (b : Int) - l) ≤ 1074 := by omega
  have HM : Hid (min 1074 (53 - (b : Int) - l) = min 1074 (53 - (b : Int) - l)) := Lib.hid rfl
  have hW : Upd NoB w1 (w1.alloc (Obj.cells #[.int .u64 0, .int .u64 0, .int .i64 0] 150)) := (Upd.refl _ _).alloc _
  have HS := Lib.hid (prescale_any lo w1.heap.size (.int .u64 0) (.int .u64 0) (.int .i64 0) (min 1074 (53 - (b : Int) - l) - (64 - (b : Int))) p l (w1.alloc (Obj.cells #[.int .u64 0, .int .u64 0, .int .i64 0] 150)) (hT.upd hW (fun _ hb => hb.elim)) hlo (heap_alloc_new _ _) (by omega) (by omega) (by omega) (by omega) (by omega) (by omega))
  go_wp2_with fail
  refine HS.out.mono ?_
  rintro e w2 ⟨rfl, x, y, hsc, hx, hy, hU, hxy⟩
  have HXY := Lib.hid hxy; clear hxy
  clear HS
  have hU2 : Upd NoB w1 w2 := hW.then hU (fun bb hb => .inr (by have : bb = w1.heap.size := hb; omega))
  have hcs := (three_cells hsc).1.2.2
  generalize min 1074 (53 - (b : Int) - l) = mn at *
  have hfb := frombits_run
  by_cases h64 : 64 ≤ -(mn - (64 - (b : Int)) + l + 3)
  · have HV : Hid (V = ((bits .or .u64 sg 0).toNat, false)) := Lib.hid (by rw [← HVV.out]; unfold pfW; rw [if_pos h64])
    clear HVV HXY
    go_wp2_with fail
    go_ret2
    exact ⟨by rw [HV.out]; rfl, hU2⟩
  · obtain ⟨k, hk, hk63⟩ := and63 (-(mn - (64 - (b : Int)) + l + 3))
    obtain ⟨z, hz, hz1⟩ : ∃ z : Nat, IntKind.u64.wrap ((d : Int) * 2 ^ (64 - b)) = (z : Int) ∧ z < 18446744073709551616 := by
      have := u64_rng ((d : Int) * 2 ^ (64 - b))
      exact ⟨(IntKind.u64.wrap ((d : Int) * 2 ^ (64 - b))).toNat, by omega, by omega⟩
    have HS := Lib.hid (uscale_any w1.heap.size z x y _ _ _ _ _ k w2 hsc hz1 hx hy rfl rfl rfl rfl hk hk63)
    obtain ⟨u, hu⟩ : ∃ u, u = uscV (z * x / 18446744073709551616) (z * x % 18446744073709551616) (z * y / 18446744073709551616) k := ⟨_, rfl⟩
    rw [← hu] at HS
    have HV : Hid (V = pfR u mn sg) := Lib.hid (by
      rw [← HVV.out]; unfold pfW; rw [if_neg h64]
      unfold pfU pfZ
      rw [hz, hk, ← HXY.out, Int.toNat_natCast, Int.toNat_natCast, hu])
    have hu01 : 0 ≤ u ∧ u ≤ 18446744073709551615 := by rw [hu]; exact uscV_rng _ _ _ _
    obtain ⟨hu0, hu1⟩ := hu01
    clear HVV HXY hk hu
    go_wp2_with fail
    refine HS.out.mono ?_
    rintro e w3 ⟨rfl, n3, rfl⟩
    clear HS hz
    have HUn := Lib.hid (fun wx => unmin_any 9007199254740992 wx)
    obtain ⟨um, hum⟩ : ∃ um, um = unminV 9007199254740992 := ⟨_, rfl⟩
    rw [← hum] at HUn
    have HUM := Lib.hid hum
    have hm01 : 0 ≤ um ∧ um ≤ 18446744073709551615 := by rw [hum]; unfold unminV; exact u64_rng _
    obtain ⟨hm0, hm1⟩ := hm01
    clear hum
    have HB := Lib.hid (fun bb wx => Tryz.internal_strconv_bool2_int bb wx)
    by_cases hc : um ≤ u
    · have HV2 : Hid (V = packV (bits .or .u64 sg (roundV (bits .or .u64 (u / 2) (bits .and .u64 u 1)))) (-(mn - 1))) := Lib.hid (by rw [HV.out]; unfold pfR; rw [← HUM.out, if_pos hc])
      clear HV HUM
      go_wp2_with fail
      refine (HUn.out _).mono ?_
      rintro e w4 ⟨rfl, rfl⟩
      clear HUn
      go_wp2_with fail
      refine (HB.out _ _).mono ?_
      rintro e w5 ⟨rfl, rfl⟩
      clear HB
      go_wp2_with fail
      all_goals
        first
        | (exfalso; omega)
        | (refine (round_any _ _ (bits_rng _ _ _).1 (bits_rng _ _ _).2).mono ?_
           rintro e w6 ⟨rfl, rfl⟩
           go_wp2_with fail
           refine (pack64_any _ _ _ (by omega) (by omega)).mono ?_
           rintro e w7 ⟨rfl, rfl⟩
           go_wp2_with fail
           go_ret2
           exact ⟨by rw [HV2.out]; rfl, hU2.drewN _⟩)
    · have HV2 : Hid (V = packV (bits .or .u64 sg (roundV (bits .or .u64 u (bits .and .u64 u 1)))) (-mn)) := Lib.hid (by rw [HV.out]; unfold pfR; rw [← HUM.out, if_neg hc])
      clear HV HUM
      go_wp2_with fail
      refine (HUn.out _).mono ?_
      rintro e w4 ⟨rfl, rfl⟩
      clear HUn
      go_wp2_with fail
      refine (HB.out _ _).mono ?_
      rintro e w5 ⟨rfl, rfl⟩
      clear HB
      go_wp2_with fail
      all_goals
        first
        | (exfalso; omega)
        | (refine (round_any _ _ (bits_rng _ _ _).1 (bits_rng _ _ _).2).mono ?_
           rintro e w6 ⟨rfl, rfl⟩
           go_wp2_with fail
           refine (pack64_any _ _ _ (by omega) (by omega)).mono ?_
           rintro e w7 ⟨rfl, rfl⟩
           go_wp2_with fail
           go_ret2
           exact ⟨by rw [HV2.out]; rfl, hU2.drewN _⟩)
end Go.Proofs.YtkocponnjfkchaaGreatDoor
