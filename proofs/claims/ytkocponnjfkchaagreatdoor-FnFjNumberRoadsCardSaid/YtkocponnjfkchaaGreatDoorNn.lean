/- strconv.ParseFloat never makes a NaN. No walk. -/
import Derived.Test.YtkocponnjfkchaaGreatDoorPf6
import Derived.Laws.Bits64b
namespace Go.Proofs.YtkocponnjfkchaaGreatDoor
open Go.RowKit

theorem nn63 {a : Nat} (h : a % 9223372036854775808 ≤ 9218868437227405312) : NN a := nan_iff a h
theorem or_i {x y : Int} (a b : Nat) (hx : x = a) (hy : y = b) (ha : a < 18446744073709551616) (hb : b < 18446744073709551616) : bits .or .u64 x y = ((a ||| b : Nat) : Int) := by subst hx hy; exact bits_or_u64_nat a b ha hb
theorem and_i {x y : Int} (a b : Nat) (hx : x = a) (hy : y = b) (ha : a < 18446744073709551616) (hb : b < 18446744073709551616) : bits .and .u64 x y = ((a &&& b : Nat) : Int) := by subst hx hy; exact bits_and_u64_nat a b ha hb
theorem andnot_i {x y : Int} (a b : Nat) (hx : x = a) (hy : y = b) (ha : a < 18446744073709551616) (hb : b < 18446744073709551616) : bits .andNot .u64 x y = ((a &&& (18446744073709551615 - b) : Nat) : Int) := by
  subst hx hy
  have hx : a &&& (18446744073709551615 - b) ≤ a := Nat.and_le_left
  have h1 : (BitVec.ofInt 64 (a : Int)).toNat = a := by
    rw [BitVec.ofInt_natCast, BitVec.toNat_ofNat]; exact Nat.mod_eq_of_lt (by omega)
  have h2 : (BitVec.ofInt 64 (b : Int)).toNat = b := by
    rw [BitVec.ofInt_natCast, BitVec.toNat_ofNat]; exact Nat.mod_eq_of_lt (by omega)
  show IntKind.u64.wrap ((BitVec.ofInt 64 (a : Int) &&& ~~~ BitVec.ofInt 64 (b : Int)).toNat : Int) = _
  rw [BitVec.toNat_and, BitVec.toNat_not, h1, h2, IntKind.wrap_u64]
  show (((a &&& (18446744073709551616 - 1 - b) : Nat) : Int)) % _ = _
  rw [show 18446744073709551616 - 1 - b = 18446744073709551615 - b by omega]
  omega
theorem and_le_i (m : Int) (K : Nat) (hK : K < 18446744073709551616) : ∃ a : Nat, bits .and .u64 m (K : Int) = (a : Int) ∧ a ≤ K := by
  have h2 : (BitVec.ofInt 64 (K : Int)).toNat = K := by
    rw [BitVec.ofInt_natCast, BitVec.toNat_ofNat]; exact Nat.mod_eq_of_lt (by omega)
  have hle : (BitVec.ofInt 64 m).toNat &&& K ≤ K := Nat.and_le_right
  refine ⟨(BitVec.ofInt 64 m).toNat &&& K, ?_, hle⟩
  show IntKind.u64.wrap ((BitVec.ofInt 64 m &&& BitVec.ofInt 64 (K : Int)).toNat : Int) = _
  rw [BitVec.toNat_and, h2, IntKind.wrap_u64]
  omega
/-- The sign's word, as a natural number. -/
def sgN (ng : Bool) : Nat := if ng = true then 9223372036854775808 else 0
theorem sgV_N (ng : Bool) : sgV ng = (sgN ng : Int) := by cases ng <;> rfl
theorem sgN_lt (ng : Bool) : sgN ng < 18446744073709551616 := by cases ng <;> decide
theorem sgN_mod (ng : Bool) : sgN ng % 9223372036854775808 = 0 := by cases ng <;> rfl
theorem orm63 (a b : Nat) : (a ||| b) % 9223372036854775808 = a % 9223372036854775808 ||| b % 9223372036854775808 := Nat.or_mod_two_pow (n := 63)
theorem andm63 (a b : Nat) : (a &&& b) % 9223372036854775808 = a % 9223372036854775808 &&& b % 9223372036854775808 := Nat.and_mod_two_pow (n := 63)
theorem join52 {t E : Nat} (ht : t < 4503599627370496) : t ||| E * 4503599627370496 = E * 4503599627370496 + t := by
  have := Nat.two_pow_add_eq_or_of_lt (i := 52) (b := t) ht E
  rw [Nat.or_comm, show E * 4503599627370496 = 2 ^ 52 * E by rw [Nat.mul_comm]]
  exact this.symm
theorem pack_nn (ng : Bool) (R : Nat) (e : Int) (hR : R ≤ 9007199254740992) (he : -1074 ≤ e) : NN (packV (bits .or .u64 (sgV ng) (R : Int)) e).1 := by
  rw [or_i (sgN ng) R (sgV_N ng) rfl (sgN_lt ng) (by omega)]
  have hXlt : sgN ng ||| R < 18446744073709551616 := Nat.or_lt_two_pow (n := 64) (sgN_lt ng) (show R < 2 ^ 64 by omega)
  have hX : (sgN ng ||| R) % 9223372036854775808 = R := by
    rw [orm63, sgN_mod, Nat.zero_or]; omega
  generalize sgN ng ||| R = X at hXlt hX
  unfold packV
  split
  · exact nn63 (by rw [Int.toNat_natCast, hX]; omega)
  · rename_i hb
    split
    · rw [and_i (y := 9223372036854775808) X 9223372036854775808 rfl rfl hXlt (by omega), or_i (y := 9218868437227405312) (X &&& 9223372036854775808) 9218868437227405312 rfl rfl (Nat.and_lt_two_pow (n := 64) _ (by omega)) (by omega), Int.toNat_natCast]
      refine nn63 ?_
      rw [orm63, andm63, show 9223372036854775808 % 9223372036854775808 = 0 by rfl, Nat.and_zero, Nat.zero_or]
      decide
    · rename_i he2
      have hR2 : R < 9007199254740992 := by
        by_cases hx : R < 9007199254740992
        · exact hx
        · exfalso
          have hRe : R = 9007199254740992 := by omega
          apply hb
          rw [and_i (y := 4503599627370496) X 4503599627370496 rfl rfl hXlt (by omega)]
          have h1 : (X &&& 4503599627370496) % 9223372036854775808 = 0 := by
            rw [andm63, hX, hRe]; decide
          have h2 : X &&& 4503599627370496 ≤ 4503599627370496 := Nat.and_le_right
          have h3 : X &&& 4503599627370496 = 0 := by omega
          rw [h3]; rfl
      obtain ⟨E, hE⟩ : ∃ E : Nat, 1075 + e = (E : Int) := ⟨(1075 + e).toNat, by omega⟩
      have hE2 : E ≤ 2046 := by omega
      have hw : IntKind.u64.wrap (IntKind.u64.wrap (1075 + e) * 4503599627370496) = ((E * 4503599627370496 : Nat) : Int) := by
        rw [hE, IntKind.wrap_u64, IntKind.wrap_u64]; omega
      have ha : X &&& (18446744073709551615 - 4503599627370496) ≤ X := Nat.and_le_left
      rw [hw, andnot_i (y := 4503599627370496) X 4503599627370496 rfl rfl hXlt (by omega), or_i (X &&& (18446744073709551615 - 4503599627370496)) (E * 4503599627370496) rfl rfl (by omega) (by omega), Int.toNat_natCast]
      have ht : (X &&& (18446744073709551615 - 4503599627370496)) % 9223372036854775808 < 4503599627370496 := by
        rw [andm63, hX]
        have h1 : R &&& (18446744073709551615 - 4503599627370496) % 9223372036854775808 ≤ R := Nat.and_le_left
        have h2 : (R &&& (18446744073709551615 - 4503599627370496) % 9223372036854775808) % 9007199254740992 = R % 9007199254740992 &&& ((18446744073709551615 - 4503599627370496) % 9223372036854775808) % 9007199254740992 := Nat.and_mod_two_pow (n := 53)
        rw [Nat.mod_eq_of_lt (by omega)] at h2
        rw [h2]
        have h3 : ((18446744073709551615 - 4503599627370496) % 9223372036854775808) % 9007199254740992 = 4503599627370495 := by decide
        rw [h3]
        have h4 : R % 9007199254740992 &&& 4503599627370495 ≤ 4503599627370495 := Nat.and_le_right
        omega
      refine nn63 ?_
      rw [orm63, Nat.mod_eq_of_lt (by omega : E * 4503599627370496 < 9223372036854775808), join52 ht]
      omega
theorem round_le (V : Nat) (h : V ≤ 36028797018963968) : ∃ R : Nat, roundV (V : Int) = (R : Int) ∧ R ≤ 9007199254740992 := by
  unfold roundV
  obtain ⟨a, ha, ha1⟩ := and_le_i ((V : Int) / 4) 1 (by omega)
  rw [show (1 : Int) = ((1 : Nat) : Int) from rfl] at *
  rw [ha, IntKind.wrap_u64, IntKind.wrap_u64]
  refine ⟨((V + 1 + a) / 4), ?_, by omega⟩
  omega
theorem pfR_nn (U : Nat) (mn : Int) (ng : Bool) (hU : U < 72057594037927936) (hm : mn ≤ 1074) : NN (pfR (U : Int) mn (sgV ng)).1 := by
  have h1 : U &&& 1 ≤ 1 := Nat.and_le_right
  unfold pfR
  rw [and_i (y := 1) U 1 rfl rfl (by omega) (by omega)]
  split
  · rw [or_i (x := (U : Int) / 2) (U / 2) (U &&& 1) (by omega) rfl (by omega) (by omega)]
    have h2 : U / 2 ||| (U &&& 1) < 36028797018963968 := Nat.or_lt_two_pow (n := 55) (by omega) (by omega)
    obtain ⟨R, hR, hR2⟩ := round_le _ (Nat.le_of_lt h2)
    rw [hR]
    exact pack_nn ng R _ hR2 (by omega)
  · rename_i hc
    have hu : U < 36028797018963968 := by
      have : unminV 9007199254740992 = 36028797018963966 := by decide
      rw [this] at hc
      omega
    rw [or_i U (U &&& 1) rfl rfl (by omega) (by omega)]
    have h2 : U ||| (U &&& 1) < 36028797018963968 := Nat.or_lt_two_pow (n := 55) (by omega) (by omega)
    obtain ⟨R, hR, hR2⟩ := round_le _ (Nat.le_of_lt h2)
    rw [hR]
    exact pack_nn ng R _ hR2 (by omega)
theorem shr_lt {Y k : Nat} (hY : Y < 18446744073709551616) (hk : 8 ≤ k) : Y / 2 ^ k < 72057594037927936 := by
  have h1 : Y / 2 ^ k ≤ Y / 2 ^ 8 := Nat.div_le_div_left (Nat.pow_le_pow_right (by decide) hk) (by decide)
  have : Y / 2 ^ 8 < 72057594037927936 := by omega
  omega
theorem usc_lt (A B C k : Nat) (hA : A < 18446744073709551616) (hk : 8 ≤ k) : ∃ U : Nat, uscV A B C k = (U : Int) ∧ U < 72057594037927936 := by
  obtain ⟨Y, hY, hY2⟩ : ∃ Y : Nat, IntKind.u64.wrap ((A : Int) - 1) = (Y : Int) ∧ Y < 18446744073709551616 := by
    rw [IntKind.wrap_u64]
    exact ⟨(((A : Int) - 1) % 18446744073709551616).toNat, by omega, by omega⟩
  have e1 : ∀ Z : Nat, (Z : Int) / 2 ^ k = ((Z / 2 ^ k : Nat) : Int) := fun Z => by rw [Int.natCast_ediv, Int.natCast_pow]; rfl
  have key : ∀ (Z b : Nat), Z < 18446744073709551616 → b ≤ 1 → ∃ U : Nat, bits .or .u64 ((Z : Int) / 2 ^ k) (b : Int) = (U : Int) ∧ U < 72057594037927936 := fun Z b hZ hb => by
    have h := shr_lt hZ hk
    rw [e1, or_i (Z / 2 ^ k) b rfl rfl (by omega) (by omega)]
    exact ⟨_, rfl, Nat.or_lt_two_pow (n := 56) h (by omega)⟩
  unfold uscV
  rw [hY]
  split
  · exact key A 1 hA (Nat.le_refl _)
  · split
    · split
      · exact key Y 1 hY2 (Nat.le_refl _)
      · exact key Y 0 hY2 (by omega)
    · split
      · exact key A 1 hA (Nat.le_refl _)
      · exact key A 0 hA (by omega)
theorem p10_all : (Go.Pinned.pow10Rows.all fun r => decide (r.1 < 18446744073709551616)) = true := by kernel_rfl
theorem p10_lt (k : Nat) : (p10T k).1 < 18446744073709551616 := by
  unfold p10T
  rw [List.getD_eq_getElem?_getD]
  cases h : Go.Pinned.pow10Rows[k]? with
  | none => show (0 : Nat) < _; decide
  | some r => exact of_decide_eq_true (List.all_eq_true.1 p10_all r (List.mem_of_getElem? h))
theorem and_63 : ∀ n : Fin 64, bits .and .i64 (n.val : Int) 63 = (n.val : Int) := by decide +kernel
theorem pf_nn (d : Nat) (p : Int) (ng : Bool) : NN (pfV d p (sgV ng)).1 := by
  unfold pfV pfW
  generalize hb : Lib.bitLen d = b
  generalize p * 108853 / 32768 = l
  generalize hm : min 1074 (53 - (b : Int) - l) = mn
  split
  · refine nn63 ?_
    rw [or_i (y := 0) (sgN ng) 0 (sgV_N ng) rfl (sgN_lt ng) (by omega), Int.toNat_natCast, Nat.or_zero, sgN_mod]
    decide
  · rename_i hs
    have h8 : 8 ≤ -(mn - (64 - (b : Int)) + l + 3) := by omega
    obtain ⟨k, hk⟩ : ∃ k : Nat, -(mn - (64 - (b : Int)) + l + 3) = (k : Int) := ⟨(-(mn - (64 - (b : Int)) + l + 3)).toNat, by omega⟩
    have hz : pfZ d b < 18446744073709551616 := by
      unfold pfZ
      rw [IntKind.wrap_u64]
      omega
    unfold pfU
    rw [hk, and_63 ⟨k, by omega⟩, Int.toNat_natCast]
    have hA : pfZ d b * (p10T (p + 348).toNat).1 / 18446744073709551616 < 18446744073709551616 := by
      have h1 := p10_lt (p + 348).toNat
      have h2 : pfZ d b * (p10T (p + 348).toNat).1 < 18446744073709551616 * 18446744073709551616 := Nat.mul_lt_mul'' hz h1
      exact Nat.div_lt_of_lt_mul h2
    obtain ⟨U, hU, hU2⟩ := usc_lt _ (pfZ d b * (p10T (p + 348).toNat).1 % 18446744073709551616) (pfZ d b * (p10T (p + 348).toNat).2 / 18446744073709551616) k hA (by omega)
    rw [hU]
    exact pfR_nn U mn ng hU2 (by omega)
theorem and_2047 : ∀ n : Fin 2048, bits .and .i64 (n.val : Int) 2047 = (n.val : Int) := by decide +kernel
theorem fbO_nn (m z : Int) (ng : Bool) (hz0 : 0 ≤ z) (hz : z ≤ 2046 ∨ (z = 2047 ∧ m = 0)) : NN (fbO m z ng).toNat := by
  obtain ⟨E, hE⟩ : ∃ E : Nat, z = (E : Int) := ⟨z.toNat, by omega⟩
  subst hE
  have hw : IntKind.u64.wrap (IntKind.u64.wrap (bits .and .i64 (E : Int) 2047) * 4503599627370496) = ((E * 4503599627370496 : Nat) : Int) := by
    rw [and_2047 ⟨E, by omega⟩, IntKind.wrap_u64, IntKind.wrap_u64]
    show ((E : Int) % 18446744073709551616 * 4503599627370496) % 18446744073709551616 = _
    omega
  obtain ⟨F, hF, hF2, hF3⟩ : ∃ F : Nat, bits .and .u64 m 4503599627370495 = (F : Int) ∧ F ≤ 4503599627370495 ∧ (m = 0 → F = 0) := by
    obtain ⟨F, h1, h2⟩ := and_le_i m 4503599627370495 (by omega)
    refine ⟨F, h1, h2, fun h => ?_⟩
    subst h
    have h3 := and_i (x := 0) (y := 4503599627370495) 0 4503599627370495 rfl rfl (by omega) (by omega)
    rw [Nat.zero_and] at h3
    have h4 : bits .and .u64 0 ((4503599627370495 : Nat) : Int) = bits .and .u64 0 4503599627370495 := rfl
    rw [h4, h3] at h1
    omega
  have hj := join52 (t := F) (E := E) (by omega)
  unfold fbO
  rw [hF, hw, or_i F (E * 4503599627370496) rfl rfl (by omega) (by omega), hj]
  have hle : E * 4503599627370496 + F ≤ 9218868437227405312 := by
    rcases hz with h | ⟨h, h'⟩
    · omega
    · have := hF3 h'; omega
  split
  · rw [or_i (y := 9223372036854775808) (E * 4503599627370496 + F) 9223372036854775808 rfl rfl (by omega) (by omega), Int.toNat_natCast]
    refine nn63 ?_
    rw [orm63, show 9223372036854775808 % 9223372036854775808 = 0 by rfl, Nat.or_zero]
    omega
  · rw [Int.toNat_natCast]
    exact nn63 (by omega)
theorem fbD_nn (m E : Int) (ng : Bool) (h0 : -1022 ≤ E) (h1 : E + 1023 ≤ 2046) : NN (fbD m E ng).toNat := by
  unfold fbD
  split
  · exact fbO_nn _ _ _ (by omega) (.inl (by omega))
  · exact fbO_nn _ _ _ (by omega) (.inl h1)
theorem FBe.nn {m E : Int} {ng : Bool} {x : Int} {b : Bool} (h : FBe m E ng x b) (h0 : -1022 ≤ E) (h1 : E + 1023 ≤ 2046) : NN x.toNat := by
  unfold FBe at h
  split at h
  · split at h
    · rw [h.1]; exact fbO_nn _ _ _ (by omega) (.inr ⟨rfl, rfl⟩)
    · rw [h.1]; exact fbD_nn _ _ _ (by omega) (by omega)
  · rw [h.1]; exact fbD_nn _ _ _ h0 h1
theorem FB.nn {a : DSt} {ng : Bool} {x : Int} {b : Bool} (h : FB a ng x b) : NN x.toNat := by
  unfold FB at h
  split at h
  · rw [h.1]; exact fbO_nn _ _ _ (by omega) (.inl (by omega))
  split at h
  · rw [h.1]; exact fbO_nn _ _ _ (by omega) (.inr ⟨rfl, rfl⟩)
  split at h
  · rw [h.1]; exact fbO_nn _ _ _ (by omega) (.inl (by omega))
  obtain ⟨u, v, z, _, _, hc, hr⟩ := h
  have h0 : -1022 ≤ z.2 := by
    unfold FBc at hc
    split at hc
    · rw [hc.2]; decide
    · rw [hc]; show -1022 ≤ v.2 - 1; omega
  unfold FBr at hr
  split at hr
  · rw [hr.1]; exact fbO_nn _ _ _ (by omega) (.inr ⟨rfl, rfl⟩)
  · obtain ⟨y, m, _, _, he⟩ := hr
    exact he.nn h0 (by omega)
theorem nn_zero : NN 0 := nn63 (by decide)
theorem AFd.nn {s : ByteArray} {i : Nat} {r : SEr} {o : Nat × Int × Nat} (h : AFd s i r o) : NN o.1 := by
  cases r with
  | none => obtain ⟨h1, _⟩ := h; rw [h1]; exact nn_zero
  | some a =>
    obtain ⟨a, ng⟩ := a
    obtain ⟨x, b, h1, h2⟩ := h
    rw [h2]
    exact h1.nn
theorem AF.nn {s : ByteArray} {o : Nat × Int × Nat} (h : AF s o) : NN o.1 := by
  obtain ⟨r, _, h⟩ := h
  cases r with
  | none => obtain ⟨h1, _⟩ := h; rw [h1]; exact nn_zero
  | some a =>
    obtain ⟨m, x, ng, tr, i⟩ := a
    simp only [AF1] at h
    split at h
    · rw [h, or_i (y := 0) (sgN ng) 0 (sgV_N ng) rfl (sgN_lt ng) (by omega)]
      refine nn63 ?_
      show ((sgN ng ||| 0 : Nat) : Int).toNat % _ ≤ _
      rw [Int.toNat_natCast, Nat.or_zero, sgN_mod]
      decide
    split at h
    · rw [h, or_i (y := 9218868437227405312) (sgN ng) 9218868437227405312 (sgV_N ng) rfl (sgN_lt ng) (by omega)]
      refine nn63 ?_
      show ((sgN ng ||| 9218868437227405312 : Nat) : Int).toNat % _ ≤ _
      rw [Int.toNat_natCast, orm63, sgN_mod, Nat.zero_or]
      decide
    unfold AF2 at h
    split at h
    · split at h
      · rw [h]; exact pf_nn _ _ _
      · obtain ⟨r, _, h⟩ := h
        exact h.nn
    · split at h
      · rename_i f hf
        rw [h]; exact exV_nn hf
      · rw [h]; exact pf_nn _ _ _
/-- ParseFloat's number is no NaN. -/
theorem IF.nn {s : ByteArray} {o : Nat × Nat} (h : IF s o) : NN o.1 := by
  obtain ⟨a, h1, h2⟩ := h
  rw [h2]
  split
  · exact h1.nn
  · exact nn_zero
end Go.Proofs.YtkocponnjfkchaaGreatDoor
