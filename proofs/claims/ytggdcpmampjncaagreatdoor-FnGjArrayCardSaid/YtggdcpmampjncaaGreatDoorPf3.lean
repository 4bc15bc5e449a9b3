/- strconv.ParseFloat: the fast road, its scaling. -/
import Derived.Test.YtggdcpmampjncaaGreatDoorPf2
namespace Go.Proofs.YtggdcpmampjncaaGreatDoor
open Go.RowKit

theorem three_cells {w : World} {g T : Nat} {a b c : Value} (h : w.heap[g]? = some (.cells #[a, b, c] T (0, 0))) :
    (w.cell? ⟨g, 0, none⟩ = some a ∧ w.cell? ⟨g, 1, none⟩ = some b ∧ w.cell? ⟨g, 2, none⟩ = some c) ∧ w.frozen? ⟨g, 0, none⟩ = false ∧ w.frozen? ⟨g, 1, none⟩ = false ∧ w.frozen? ⟨g, 2, none⟩ = false :=
  ⟨⟨by rw [cell_of_row w g 0 _ _ _ h]; rfl, by rw [cell_of_row w g 1 _ _ _ h]; rfl, by rw [cell_of_row w g 2 _ _ _ h]; rfl⟩, frozen_of_row w g 0 _ _ h, frozen_of_row w g 1 _ _ h, frozen_of_row w g 2 _ _ h⟩

set_option maxHeartbeats 400000 in
theorem prescale_any (lo g : Nat) (a b c : Value) (e p lp : Int) (w : World) (hT : Tabs lo w) (hg : lo ≤ g) (h : w.heap[g]? = some (.cells #[a, b, c] 176 (0, 0))) (hp0 : -348 ≤ p) (hp1 : p ≤ 347) (he0 : -1000000 ≤ e) (he1 : e ≤ 1000000) (hl0 : -1000000 ≤ lp) (hl1 : lp ≤ 1000000) :
    Calls Tryz.prog 122 #[.pointer (some ⟨g, 0, none⟩), .int .i64 e, .int .i64 p, .int .i64 lp] w fun r w' =>
      r = .returned (.tuple #[]) ∧ ∃ x y : Nat, w'.heap[g]? = some (.cells #[.int .u64 (x : Int), .int .u64 (y : Int), .int .i64 (-(e + lp + 3))] 176 (0, 0)) ∧ x < 18446744073709551616 ∧ y < 18446744073709551616 ∧ Upd (OneB g) w w' := by
  obtain ⟨k, hk⟩ : ∃ k : Nat, p = (k : Int) - 348 := ⟨(p + 348).toNat, by omega⟩
  subst hk
  obtain ⟨x, y, hx, hy, hx1, hy1⟩ := hT.p10 k (by omega)
  have hGlo := hT.g.2.2.2.1
  obtain ⟨⟨c0, c1, c2⟩, f0, f1, f2⟩ := three_cells h
  have hne : (⟨9, k * 2 + 1, none⟩ : Addr).block ≠ g := by show 9 ≠ g; omega
  go_enter Tryz.func122, Tryz.ntmps122
  go_wp2_with fail
  go_end0
  have s0 : (w.setCell ⟨g, 0, none⟩ (.int .u64 (x : Int))).heap[g]? = some (.cells #[.int .u64 (x : Int), b, c] 176 (0, 0)) := by rw [heap_setCell_same w g 0 _ _ _ h]; rfl
  have s1 : ((w.setCell ⟨g, 0, none⟩ (.int .u64 (x : Int))).setCell ⟨g, 1, none⟩ (.int .u64 (y : Int))).heap[g]? = some (.cells #[.int .u64 (x : Int), .int .u64 (y : Int), c] 176 (0, 0)) := by rw [heap_setCell_same _ g 1 _ _ _ s0]; rfl
  have s2 : (((w.setCell ⟨g, 0, none⟩ (.int .u64 (x : Int))).setCell ⟨g, 1, none⟩ (.int .u64 (y : Int))).setCell ⟨g, 2, none⟩ (.int .i64 (-(e + lp + 3)))).heap[g]? = some (.cells #[.int .u64 (x : Int), .int .u64 (y : Int), .int .i64 (-(e + lp + 3))] 176 (0, 0)) := by rw [heap_setCell_same _ g 2 _ _ _ s1]; rfl
  exact ⟨rfl, x, y, s2, hx1, hy1, (((Upd.refl _ _).setOne 0 _).setOne 1 _).setOne 2 _⟩

theorem and63 (x : Int) : ∃ k : Nat, bits .and .i64 x 63 = (k : Int) ∧ k ≤ 63 := by
  have h : (BitVec.ofInt 64 x &&& BitVec.ofInt 64 63).toNat ≤ 63 := by
    rw [BitVec.toNat_and]
    exact Nat.le_trans Nat.and_le_right (by decide)
  refine ⟨(BitVec.ofInt 64 x &&& BitVec.ofInt 64 63).toNat, ?_, h⟩
  change IntKind.i64.wrap ((BitVec.ofInt 64 x &&& BitVec.ofInt 64 63).toNat : Int) = _
  generalize (BitVec.ofInt 64 x &&& BitVec.ofInt 64 63).toNat = z at *
  exact IntWalk.i64_in _ (by omega)

set_option maxHeartbeats 1000000 in
set_option maxRecDepth 4000 in
theorem uscale_any (g : Nat) (d x y : Nat) (s : Int) (w : World) (h : w.heap[g]? = some (.cells #[.int .u64 (x : Int), .int .u64 (y : Int), .int .i64 s] 176 (0, 0))) (hd : d < 18446744073709551616) (hx : x < 18446744073709551616) (hy : y < 18446744073709551616) :
    Calls Tryz.prog 123 #[.int .u64 (d : Int), .pointer (some ⟨g, 0, none⟩)] w fun r w' =>
      (∃ z : Int, r = .returned (.int .u64 z) ∧ 0 ≤ z ∧ z ≤ 18446744073709551615) ∧ ∃ n, w' = w.drewN n := by
  obtain ⟨⟨c0, c1, c2⟩, _⟩ := three_cells h
  obtain ⟨k, hk, hk63⟩ := and63 s
  have hm1 := Tryz.bits_Mul64 d x hd hx
  have hm2 := Tryz.bits_Mul64 d y hd hy
  have HM1 := Lib.hid hm1
  have HM2 := Lib.hid hm2
  clear hm1 hm2
  have hA : d * x / 18446744073709551616 < 18446744073709551616 := by
    rw [Nat.div_lt_iff_lt_mul (by decide)]; exact Nat.mul_lt_mul'' hd hx
  have hB : d * x % 18446744073709551616 < 18446744073709551616 := Nat.mod_lt _ (by decide)
  have hC : d * y / 18446744073709551616 < 18446744073709551616 := by
    rw [Nat.div_lt_iff_lt_mul (by decide)]; exact Nat.mul_lt_mul'' hd hy
  have hD : d * y % 18446744073709551616 < 18446744073709551616 := Nat.mod_lt _ (by decide)
  generalize d * x / 18446744073709551616 = A at *
  generalize d * x % 18446744073709551616 = B at *
  generalize d * y / 18446744073709551616 = C at *
  generalize d * y % 18446744073709551616 = E at *
  have hbu := bool2u_any
  go_enter Tryz.func123, Tryz.ntmps123
  go_wp2_with fail
  refine (HM1.out _).mono ?_
  rintro e w' ⟨rfl, rfl⟩
  clear HM1
  go_wp2_with fail
  · go_ret
    exact ⟨⟨_, rfl, (bits_rng _ _ _).1, (bits_rng _ _ _).2⟩, 0, rfl⟩
  · refine (HM2.out _).mono ?_
    rintro e w2 ⟨rfl, rfl⟩
    clear HM2
    go_wp2_with (go_at_call 110; refine (bool2u_any _ _).mono ?_; rintro e w3 ⟨rfl, rfl⟩)
    all_goals
      go_quiet ((go_at_call 110; exact Calls.quiet_of_same (bool2u_any _ _)))
      go_wp2_with fail
      all_goals
        go_ret
        exact ⟨⟨_, rfl, (bits_rng _ _ _).1, (bits_rng _ _ _).2⟩, _, rfl⟩

set_option maxHeartbeats 1000000 in
set_option maxRecDepth 4000 in
theorem parseFloat64_any (lo : Nat) (d : Nat) (p : Int) (sg : Int) (w : World) (hT : Tabs lo w) (hlo : lo ≤ w.heap.size) (hd : d < 18446744073709551616) (hp0 : -345 ≤ p) (hp1 : p ≤ 310) :
    Calls Tryz.prog 113 #[.int .u64 (d : Int), .int .i64 p, .int .u64 sg] w fun r w' =>
      (∃ (f : Nat) (ev : Value), r = .returned (.tuple #[.float .f64 f, ev]) ∧ (ev = .nilIface ∨ ev = .iface 123 (.int .i64 1))) ∧ Upd NoB w w' := by
  have hbl : Lib.bitLen d ≤ 64 := Lib.bitLen_le d 64 (by omega) hd
  have HL := Lib.hid (Tryz.bits_Len64 (d : Int) w (by omega) (by omega))
  rw [Int.toNat_natCast] at HL
  generalize Lib.bitLen d = b at *
  have HP := Lib.hid (log2Pow10_any p w (by omega) (by omega))
  go_enter Tryz.func113, Tryz.ntmps113
  go_wp2_with fail
  refine HL.out.mono ?_
  rintro e w1 ⟨rfl, rfl⟩
  clear HL
  go_wp2_with fail
  refine HP.out.mono ?_
  rintro e w1 ⟨⟨l, rfl, hl⟩, rfl⟩
  clear HP
  have hl0 : -1200 ≤ l := by omega
  have hl1 : l ≤ 1200 := by omega
  clear hl
  have hM0 : -3000 ≤ min 1074 (53 - (b : Int) - l) := by omega
  have hM1 : min 1074 (53 - (b : Int) - l) ≤ 1074 := by omega
  have HM : Hid (min 1074 (53 - (b : Int) - l) = min 1074 (53 - (b : Int) - l)) := Lib.hid rfl
  have hW : Upd NoB w1 (w1.alloc (Obj.cells #[.int .u64 0, .int .u64 0, .int .i64 0] 176)) := (Upd.refl _ _).alloc _
  have HS := Lib.hid (prescale_any lo w1.heap.size (.int .u64 0) (.int .u64 0) (.int .i64 0) (min 1074 (53 - (b : Int) - l) - (64 - (b : Int))) p l (w1.alloc (Obj.cells #[.int .u64 0, .int .u64 0, .int .i64 0] 176)) (hT.upd hW (fun _ hb => hb.elim)) hlo (heap_alloc_new _ _) (by omega) (by omega) (by omega) (by omega) (by omega) (by omega))
  go_wp2_with fail
  refine HS.out.mono ?_
  rintro e w2 ⟨rfl, x, y, hsc, hx, hy, hU⟩
  clear HS
  have hU2 : Upd NoB w1 w2 := hW.then hU (fun bb hb => .inr (by have : bb = w1.heap.size := hb; omega))
  have hcs := (three_cells hsc).1.2.2
  generalize min 1074 (53 - (b : Int) - l) = mn at *
  have hfb := frombits_run
  by_cases h64 : 64 ≤ -(mn - (64 - (b : Int)) + l + 3)
  · go_wp2_with fail
    go_ret2
    exact ⟨⟨_, _, rfl, .inl rfl⟩, hU2⟩
  · obtain ⟨z, hz, hz1⟩ : ∃ z : Nat, IntKind.u64.wrap ((d : Int) * 2 ^ (64 - b)) = (z : Int) ∧ z < 18446744073709551616 := by
      have := u64_rng ((d : Int) * 2 ^ (64 - b))
      exact ⟨(IntKind.u64.wrap ((d : Int) * 2 ^ (64 - b))).toNat, by omega, by omega⟩
    have HS := Lib.hid (uscale_any w1.heap.size z x y _ w2 hsc hz1 hx hy)
    go_wp2_with fail
    refine HS.out.mono ?_
    rintro e w3 ⟨⟨u, rfl, hu0, hu1⟩, n3, rfl⟩
    clear HS hz
    have HUn := Lib.hid (fun wx => unmin_any 9007199254740992 wx)
    go_wp2_with fail
    refine (HUn.out _).mono ?_
    rintro e w4 ⟨⟨um, rfl, hm0, hm1⟩, rfl⟩
    clear HUn
    have HB := Lib.hid (fun bb wx => Tryz.internal_strconv_bool2_int bb wx)
    go_wp2_with fail
    refine (HB.out _ _).mono ?_
    rintro e w5 ⟨rfl, rfl⟩
    clear HB
    go_wp2_with fail
    all_goals
      refine (round_any _ _ (bits_rng _ _ _).1 (bits_rng _ _ _).2).mono ?_
      rintro e w6 ⟨⟨rv, rfl⟩, rfl⟩
      go_wp2_with fail
      refine (pack64_any _ _ _ (by omega) (by omega)).mono ?_
      rintro e w7 ⟨⟨f, ev, rfl, hev⟩, rfl⟩
      go_wp2_with fail
      go_ret2
      exact ⟨⟨f, ev, rfl, hev⟩, hU2.drewN _⟩
end Go.Proofs.YtggdcpmampjncaaGreatDoor
