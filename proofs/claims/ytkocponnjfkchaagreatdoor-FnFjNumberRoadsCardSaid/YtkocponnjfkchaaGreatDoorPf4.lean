/- strconv.ParseFloat: exact small numbers. -/
import Derived.Test.YtkocponnjfkchaaGreatDoorPf3
namespace Go.Proofs.YtkocponnjfkchaaGreatDoor
open Go.RowKit

/-- A word that is no NaN; a word of a finite number that is not nought. -/
def NN (a : Nat) : Prop := (Ieee.double.read a).isNaN = false
def FZ (a : Nat) : Prop := ∃ s n j, Ieee.double.read a = .number s n j ∧ n ≠ 0

theorem nan_iff (a : Nat) (h : a % Ieee.double.signWeight ≤ Ieee.double.infRung) : (Ieee.double.read a).isNaN = false := by
  unfold Ieee.Format.read
  dsimp only
  split
  · rfl
  · split
    · rfl
    · rw [if_pos (by omega)]; rfl
theorem iff_nan (a : Nat) (h : (Ieee.double.read a).isNaN = false) : a % Ieee.double.signWeight ≤ Ieee.double.infRung := by
  unfold Ieee.Format.read at h
  dsimp only at h
  split at h
  · rename_i h1
    have : Ieee.double.binade ≤ Ieee.double.infRung := by decide
    omega
  · split at h
    · omega
    · split at h
      · omega
      · exact Bool.noConfusion h
theorem neg_nn {a : Nat} (h : NN a) : NN (Op.negFloat .f64 a) := by
  refine nan_iff _ ?_
  have h1 := iff_nan _ h
  have e : Op.negFloat .f64 a % Ieee.double.signWeight = a % Ieee.double.signWeight := by
    show (a ^^^ 2 ^ 63) % 2 ^ 63 = a % 2 ^ 63
    rw [Nat.xor_mod_two_pow, Nat.mod_self, Nat.xor_zero]
  rw [e]
  exact h1
theorem read_word (s : Bool) (r : Nat) (h : r ≤ Ieee.double.infRung) : (Ieee.double.read (Ieee.double.word s r)).isNaN = false := by
  have hi : Ieee.double.infRung < Ieee.double.signWeight := Ieee.Format.infRung_lt _
  have h1 : Ieee.double.word s r % Ieee.double.signWeight = r := by
    unfold Ieee.Format.word
    split
    · rw [Nat.add_mod_left, Nat.mod_eq_of_lt (by omega)]
    · exact Nat.mod_eq_of_lt (by omega)
  exact nan_iff _ (by rw [h1]; exact h)
theorem nearest_nn (s : Bool) (m : Nat) (p : Int) : NN (Ieee.double.nearest s m p) := by
  unfold Ieee.Format.nearest
  split
  · exact read_word _ _ (Nat.zero_le _)
  · exact read_word _ _ (Nat.min_le_right _ _)
theorem write_nn {d : Ieee.Datum} (h : d.isNaN = false) : NN (Ieee.double.write d) := by
  cases d with
  | number s m p => exact nearest_nn _ _ _
  | infinity s => exact read_word _ _ (Nat.le_refl _)
  | nan s t => exact Bool.noConfusion h
theorem mul_nn {a t : Nat} (ha : NN a) (ht : FZ t) : ∃ r, FloatKind.f64.format.mul a t = some r ∧ NN r := by
  obtain ⟨s, n, j, hr, hn⟩ := ht
  unfold NN at ha
  show ∃ r, ((Ieee.double.read a).product (Ieee.double.read t)).map Ieee.double.write = some r ∧ NN r
  rw [hr]
  cases hd : Ieee.double.read a with
  | number s' m p => exact ⟨_, rfl, write_nn rfl⟩
  | infinity s' => exact ⟨_, by simp only [Ieee.Datum.product]; rw [if_neg hn]; rfl, write_nn rfl⟩
  | nan s' t => rw [hd] at ha; exact Bool.noConfusion ha
theorem div_nn {a t : Nat} (ha : NN a) (ht : FZ t) : ∃ r, FloatKind.f64.format.div a t = some r ∧ NN r := by
  obtain ⟨s, n, j, hr, hn⟩ := ht
  unfold NN at ha
  show ∃ r, ((Ieee.double.read a).quotient (Ieee.double.fractionBits + 2) (Ieee.double.read t)).map Ieee.double.write = some r ∧ NN r
  rw [hr]
  cases hd : Ieee.double.read a with
  | number s' m p => exact ⟨_, by simp only [Ieee.Datum.quotient]; rw [if_neg hn]; rfl, write_nn rfl⟩
  | infinity s' => exact ⟨_, rfl, write_nn rfl⟩
  | nan s' t => rw [hd] at ha; exact Bool.noConfusion ha
theorem f10_all : (List.range 23).all (fun k => match Ieee.double.read (f10T k) with | .number _ n _ => n != 0 | _ => false) = true := by decide +kernel
theorem f10_fz {k : Nat} (h : k < 23) : FZ (f10T k) := by
  have := List.all_eq_true.1 f10_all k (by simpa using h)
  unfold FZ
  revert this
  cases Ieee.double.read (f10T k) with
  | number s n j => exact fun h => ⟨s, n, j, rfl, by simpa using h⟩
  | infinity s => exact fun h => Bool.noConfusion h
  | nan s t => exact fun h => Bool.noConfusion h

theorem fmul_run {P : Program} (t : TypeId) {a b r : Nat} (h : FloatKind.f64.format.mul a b = some r) (w : World) : (binOp .mul t (.float .f64 a) (.float .f64 b)).run P w = .ok (.float .f64 r) w := by
  have h' : (Op.floatArith .mul .f64 a b).run P w = .ok (.float .f64 r) w := by simp [Op.floatArith, h]
  simpa [binOp] using h'
theorem fquo_run {P : Program} (t : TypeId) {a b r : Nat} (h : FloatKind.f64.format.div a b = some r) (w : World) : (binOp .quo t (.float .f64 a) (.float .f64 b)).run P w = .ok (.float .f64 r) w := by
  have h' : (Op.floatArith .quo .f64 a b).run P w = .ok (.float .f64 r) w := by simp [Op.floatArith, h]
  simpa [binOp] using h'
theorem fneg_run {P : Program} (a : Nat) (w : World) : (Op.unary .neg (.float .f64 a)).run P w = .ok (.float .f64 (Op.negFloat .f64 a)) w := rfl

/-- A number and a Boolean are returned: the number of V, or none. -/
def RetFB (V : Option Nat) (r : Ending) : Prop := ∃ (f : Nat) (b : Bool), r = .returned (.tuple #[.float .f64 f, .bool b]) ∧ V = if b = true then some f else none
theorem RetFB.no {V : Option Nat} (h : V = none) (f : Nat) : RetFB V (.returned (.tuple #[.float .f64 f, .bool false])) := ⟨f, false, rfl, h⟩
theorem RetFB.yes {V : Option Nat} {f : Nat} (h : V = some f) : RetFB V (.returned (.tuple #[.float .f64 f, .bool true])) := ⟨f, true, rfl, h⟩
/-- The exact road's number. -/
def exF (m : Int) (ng : Bool) : Nat := if ng = true then Op.negFloat .f64 (floatOfInt .f64 m) else floatOfInt .f64 m
theorem exF_nn (m : Int) (ng : Bool) : NN (exF m ng) := by
  unfold exF
  split
  · exact neg_nn (nearest_nn _ _ _)
  · exact nearest_nn _ _ _
def fmulV (a b : Nat) : Nat := (FloatKind.f64.format.mul a b).getD 0
def fquoV (a b : Nat) : Nat := (FloatKind.f64.format.div a b).getD 0
/-- Whether the first product is too great. -/
def exBig (r : Nat) : Bool := (FloatKind.f64.format.order r 4831355200913801216 == some .gt) || (FloatKind.f64.format.order r 14054727237768577024 == some .lt)
theorem big1 {r : Nat} (h : FloatKind.f64.format.order r 4831355200913801216 = some .gt) : exBig r = true := by unfold exBig; rw [h]; rfl
theorem big2 {r : Nat} (h : FloatKind.f64.format.order r 14054727237768577024 = some .lt) : exBig r = true := by unfold exBig; rw [h, Bool.or_eq_true]; right; rfl
theorem big0 {r : Nat} (h1 : ¬ FloatKind.f64.format.order r 4831355200913801216 = some .gt) (h2 : ¬ FloatKind.f64.format.order r 14054727237768577024 = some .lt) : ¬ exBig r = true := by
  unfold exBig
  rw [Bool.or_eq_true, not_or]
  exact ⟨by simpa using h1, by simpa using h2⟩
theorem exF_f (m : Int) : exF m false = floatOfInt .f64 m := by unfold exF; rw [if_neg (by decide)]
theorem exF_t (m : Int) : exF m true = Op.negFloat .f64 (floatOfInt .f64 m) := by unfold exF; rw [if_pos rfl]
/-- The exact road with its number given. -/
def exW (F : Nat) (x : Int) : Option Nat :=
  if x = 0 then some F
  else if 0 < x then
    if x ≤ 37 then
      if 22 < x then (if exBig (fmulV F (f10T (x - 22).toNat)) = true then none else some (fmulV (fmulV F (f10T (x - 22).toNat)) (f10T 22)))
      else if exBig F = true then none else some (fmulV F (f10T x.toNat))
    else none
  else if -22 ≤ x then some (fquoV F (f10T (-x).toNat))
  else none
def exV (m x : Int) (ng : Bool) : Option Nat := if m / 4503599627370496 = 0 then exW (exF m ng) x else none
theorem mul_is {a b r : Nat} (h : FloatKind.f64.format.mul a b = some r) : fmulV a b = r := by unfold fmulV; rw [h]; rfl
theorem quo_is {a b r : Nat} (h : FloatKind.f64.format.div a b = some r) : fquoV a b = r := by unfold fquoV; rw [h]; rfl
theorem exV_nn {m x : Int} {ng : Bool} {f : Nat} (h : exV m x ng = some f) : NN f := by
  have key : ∀ {a : Nat} {k : Nat}, NN a → k < 23 → NN (fmulV a (f10T k)) := fun ha hk => by
    obtain ⟨r, h1, h2⟩ := mul_nn ha (f10_fz hk)
    rw [mul_is h1]; exact h2
  have hF := exF_nn m ng
  unfold exV exW at h
  split at h
  · split at h
    · exact Option.some.inj h ▸ hF
    · split at h
      · split at h
        · split at h
          · split at h
            · exact absurd h (by simp)
            · exact Option.some.inj h ▸ key (key hF (by omega)) (by omega)
          · split at h
            · exact absurd h (by simp)
            · exact Option.some.inj h ▸ key hF (by omega)
        · exact absurd h (by simp)
      · split at h
        · obtain ⟨r, h1, h2⟩ := div_nn hF (f10_fz (show (-x).toNat < 23 by omega))
          rw [quo_is h1] at h
          exact Option.some.inj h ▸ h2
        · exact absurd h (by simp)
  · exact absurd h (by simp)

set_option maxHeartbeats 2000000 in
set_option maxRecDepth 20000 in
theorem atof64exact_any (lo : Nat) (m : Int) (x : Int) (ng : Bool) (w : World) (hT : Tabs lo w) (_hm0 : 0 ≤ m) (_hm1 : m ≤ 18446744073709551615) (hx0 : -100000 ≤ x) (hx1 : x ≤ 100000) :
    Calls Tryz.prog 87 #[.int .u64 m, .int .i64 x, .bool ng] w fun r w' =>
      RetFB (exV m x ng) r ∧ w' = w := by
  have f0 := hT.fi0
  obtain ⟨B, o, c, h1, h2, h3⟩ := hT.f10
  by_cases hz : m / 4503599627370496 = 0
  · have hz' : (m / 4503599627370496 != 0) = false := by simp [hz]
    have hneg := fun a => fneg_run (P := Tryz.prog) a w
    obtain ⟨F, hF⟩ : ∃ F, exF m ng = F := ⟨_, rfl⟩
    have HV : Hid (exV m x ng = exW F x) := Lib.hid (by unfold exV; rw [if_pos hz, hF])
    generalize exV m x ng = V at *
    have hFn : NN F := by rw [← hF]; exact exF_nn _ _
    go_enter Tryz.func87, Tryz.ntmps87
    go_upto_if 15 with (fail)
    go_cut [6] (fun v6 wx => v6 = .float .f64 F ∧ w = wx)
    case first =>
      cases ng
      · have HF : Hid (floatOfInt .f64 m = F) := Lib.hid (by rw [← hF, exF_f])
        clear hF
        as_aux_lemma =>
          go_wp2_with fail
          go_meet
          exact ⟨by rw [HF.out], rfl⟩
      · have HF : Hid (Op.negFloat .f64 (floatOfInt .f64 m) = F) := Lib.hid (by rw [← hF, exF_t])
        clear hF
        as_aux_lemma =>
          go_wp2_with fail
          go_meet
          exact ⟨by rw [HF.out], rfl⟩
    case rest =>
    obtain ⟨rfl, rfl⟩ := hcut
    clear hneg hF
    by_cases hx : x = 0
    · subst hx
      have HV2 : Hid (V = some F) := Lib.hid (by rw [HV.out]; unfold exW; rw [if_pos rfl])
      clear HV
      as_aux_lemma =>
        go_wp2_with fail
        go_ret2
        exact ⟨RetFB.yes HV2.out, rfl⟩
    have hxz : (x == 0) = false := by simpa using hx
    by_cases hpos : 0 < x
    · by_cases h37 : x ≤ 37
      · by_cases h22 : 22 < x
        · obtain ⟨k, rfl⟩ : ∃ k : Nat, x = (k : Int) + 22 := ⟨(x - 22).toNat, by omega⟩
          obtain ⟨t1, ht1, hc1⟩ := h3 k (by omega)
          obtain ⟨r1, hm1, hn1⟩ := mul_nn hFn (hc1 ▸ f10_fz (by omega) : FZ t1)
          have hr1 := fun t wx => fmul_run (P := Tryz.prog) t hm1 wx
          obtain ⟨t2, ht2, hc2⟩ := h3 22 (by omega)
          obtain ⟨r2, hm2, hn2⟩ := mul_nn hn1 (hc2 ▸ f10_fz (by omega) : FZ t2)
          have hr2 := fun t wx => fmul_run (P := Tryz.prog) t hm2 wx
          have HV2 : Hid (V = if exBig r1 = true then none else some r2) := Lib.hid (by
            rw [hc1] at hm1
            rw [hc2] at hm2
            rw [HV.out]; unfold exW
            rw [if_neg hx, if_pos hpos, if_pos h37, if_pos h22, show ((k : Int) + 22 - 22).toNat = k by omega, mul_is hm1, mul_is hm2])
          clear HV hm1 hm2 hc1 hc2
          go_upto_if 30 with (fail)
          go_cut [1, 6] (fun v1 v6 wx => v1 = .int .i64 22 ∧ v6 = .float .f64 r1 ∧ w = wx)
          case first =>
            as_aux_lemma =>
              go_wp2_with fail
              go_meet
              exact ⟨rfl, rfl, rfl⟩
          case rest =>
          obtain ⟨rfl, rfl, rfl⟩ := hcut
          clear hr1 hpos h37 h22 hx hxz hz hz' hx0 hx1 ht1
          by_cases b1 : FloatKind.f64.format.order r1 4831355200913801216 = some .gt
          · have HV3 : Hid (V = none) := Lib.hid (by rw [HV2.out, if_pos (big1 b1)])
            clear HV2
            as_aux_lemma =>
              go_wp2_with fail
              go_ret2
              exact ⟨RetFB.no HV3.out _, rfl⟩
          by_cases b2 : FloatKind.f64.format.order r1 14054727237768577024 = some .lt
          · have HV3 : Hid (V = none) := Lib.hid (by rw [HV2.out, if_pos (big2 b2)])
            clear HV2
            as_aux_lemma =>
              go_wp2_with fail
              go_ret2
              exact ⟨RetFB.no HV3.out _, rfl⟩
          · have HV3 : Hid (V = some r2) := Lib.hid (by rw [HV2.out, if_neg (big0 b1 b2)])
            have b1' : (FloatKind.f64.format.order r1 4831355200913801216 == some .gt) = false := by simpa using b1
            have b2' : (FloatKind.f64.format.order r1 14054727237768577024 == some .lt) = false := by simpa using b2
            clear b1 b2
            clear HV2
            as_aux_lemma =>
              go_wp2_with fail
              go_ret2
              exact ⟨RetFB.yes HV3.out, rfl⟩
        · obtain ⟨k, rfl⟩ : ∃ k : Nat, x = (k : Int) := ⟨x.toNat, by omega⟩
          obtain ⟨t1, ht1, hc1⟩ := h3 k (by omega)
          obtain ⟨r1, hm1, hn1⟩ := mul_nn hFn (hc1 ▸ f10_fz (by omega) : FZ t1)
          have hr1 := fun t wx => fmul_run (P := Tryz.prog) t hm1 wx
          have HV2 : Hid (V = if exBig F = true then none else some r1) := Lib.hid (by
            rw [hc1] at hm1
            rw [HV.out]; unfold exW
            rw [if_neg hx, if_pos hpos, if_pos h37, if_neg h22, Int.toNat_natCast, mul_is hm1])
          clear HV hm1 hc1
          by_cases b1 : FloatKind.f64.format.order F 4831355200913801216 = some .gt
          · have HV3 : Hid (V = none) := Lib.hid (by rw [HV2.out, if_pos (big1 b1)])
            clear HV2
            as_aux_lemma =>
              go_wp2_with fail
              go_ret2
              exact ⟨RetFB.no HV3.out _, rfl⟩
          by_cases b2 : FloatKind.f64.format.order F 14054727237768577024 = some .lt
          · have HV3 : Hid (V = none) := Lib.hid (by rw [HV2.out, if_pos (big2 b2)])
            clear HV2
            as_aux_lemma =>
              go_wp2_with fail
              go_ret2
              exact ⟨RetFB.no HV3.out _, rfl⟩
          · have HV3 : Hid (V = some r1) := Lib.hid (by rw [HV2.out, if_neg (big0 b1 b2)])
            have b1' : (FloatKind.f64.format.order F 4831355200913801216 == some .gt) = false := by simpa using b1
            have b2' : (FloatKind.f64.format.order F 14054727237768577024 == some .lt) = false := by simpa using b2
            clear b1 b2
            clear HV2
            as_aux_lemma =>
              go_wp2_with fail
              go_ret2
              exact ⟨RetFB.yes HV3.out, rfl⟩
      · have HV2 : Hid (V = none) := Lib.hid (by rw [HV.out]; unfold exW; rw [if_neg hx, if_pos hpos, if_neg h37])
        clear HV
        as_aux_lemma =>
          go_wp2_with fail
          go_ret2
          exact ⟨RetFB.no HV2.out _, rfl⟩
    · by_cases h22 : -22 ≤ x
      · obtain ⟨k, rfl⟩ : ∃ k : Nat, x = -(k : Int) := ⟨(-x).toNat, by omega⟩
        obtain ⟨t1, ht1, hc1⟩ := h3 k (by omega)
        obtain ⟨r1, hm1, hn1⟩ := div_nn hFn (hc1 ▸ f10_fz (by omega) : FZ t1)
        have hr1 := fun t wx => fquo_run (P := Tryz.prog) t hm1 wx
        have HV2 : Hid (V = some r1) := Lib.hid (by
          rw [hc1] at hm1
          rw [HV.out]; unfold exW
          rw [if_neg hx, if_neg hpos, if_pos h22, Int.neg_neg, Int.toNat_natCast, quo_is hm1])
        clear HV hm1 hc1
        as_aux_lemma =>
          go_wp2_with fail
          go_ret2
          exact ⟨RetFB.yes HV2.out, rfl⟩
      · have HV2 : Hid (V = none) := Lib.hid (by rw [HV.out]; unfold exW; rw [if_neg hx, if_neg hpos, if_neg h22])
        clear HV
        as_aux_lemma =>
          go_wp2_with fail
          go_ret2
          exact ⟨RetFB.no HV2.out _, rfl⟩
  · have hz' : (m / 4503599627370496 != 0) = true := by simpa using hz
    have HV2 : Hid (exV m x ng = none) := Lib.hid (by unfold exV; rw [if_neg hz])
    generalize exV m x ng = V at *
    as_aux_lemma =>
      go_enter Tryz.func87, Tryz.ntmps87
      go_wp2_with fail
      go_ret2
      exact ⟨RetFB.no HV2.out _, rfl⟩
end Go.Proofs.YtkocponnjfkchaaGreatDoor
