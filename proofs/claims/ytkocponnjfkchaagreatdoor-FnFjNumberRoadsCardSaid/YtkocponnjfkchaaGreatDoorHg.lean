/- math.Pow10 and math.IsInf; the powers that fastfloat reads. -/
import Derived.Test.YtkocponnjfkchaaGreatDoorNn
import Derived.Test.YtkocponnjfkchaaGreatDoorHe
import Derived.Laws.StandIn
namespace Go.Proofs.YtkocponnjfkchaaGreatDoor
open Go.RowKit

/-- The tables of powers of ten. -/
def tP10 : List Nat := [4607182418800017408, 4621819117588971520, 4636737291354636288, 4652007308841189376, 4666723172467343360, 4681608360884174848, 4696837146684686336, 4711630319722168320, 4726483295884279808, 4741671816366391296, 4756540486875873280, 4771362005757984768, 4786511204640096256, 4801453603149578240, 4816244402031689728, 4831355200913801216, 4846369599423283200, 4861130398305394688, 4876203697187506176, 4891288408196988160, 4906019910204099648, 4921056587992461136, 4936209963552724370, 4950912855330343670, 4965913770331839924, 4981134201117475473, 4995809153217856309, 5010775143622804482, 5026061058026967681, 5040708725286295329, 5055640609639927018, 5070927765361438756]
def tPP : List Nat := [4607182418800017408, 5085611494797045271, 5564284217833028085, 6043257259031049059, 6521906365687930162, 7000496887210966211, 7479368607221621995, 7958223736346011545, 8436737289693151036, 8915514139102383430]
def tPN : List Nat := [4607182418800017408, 4128101167230658355, 3649340653511681853, 3170840353250979498, 2691949749288605597, 2213095475689254516, 1734519108376626298, 1255832114822727210, 776877706278891331, 298220099847875929, 2024]
def tFF : List Nat := [4607182418800017408, 4621819117588971520, 4636737291354636288, 4652007308841189376, 4666723172467343360, 4681608360884174848, 4696837146684686336, 4711630319722168320, 4726483295884279808, 4741671816366391296, 4756540486875873280, 4771362005757984768, 4786511204640096256, 4801453603149578240, 4816244402031689728, 4831355200913801216, 4846369599423283200]
/-- The tables lie in their variables, below lo. -/
structure PT (lo : Nat) (w : World) : Prop where
  ff : ∀ k, k < 17 → w.cell? ⟨0, k, none⟩ = some (.float .f64 (tFF.getD k 0))
  p10 : ∀ k, k < 32 → w.cell? ⟨3, k, none⟩ = some (.float .f64 (tP10.getD k 0))
  pp : ∀ k, k < 10 → w.cell? ⟨2, k, none⟩ = some (.float .f64 (tPP.getD k 0))
  pn : ∀ k, k < 11 → w.cell? ⟨4, k, none⟩ = some (.float .f64 (tPN.getD k 0))
  g : 0 < lo ∧ 3 < lo ∧ 2 < lo ∧ 4 < lo
theorem PT.upd {lo : Nat} {w w1 : World} {S : Nat → Prop} (h : PT lo w) (u : Upd S w w1) (hS : ∀ b, S b → lo ≤ b) : PT lo w1 := by
  have hn : ∀ b, b < lo → ¬ S b := fun b hb hs => by have := hS b hs; omega
  obtain ⟨g1, g2, g3, g4⟩ := h.g
  exact ⟨fun k hk => u.cell (h.ff k hk) (hn _ g1), fun k hk => u.cell (h.p10 k hk) (hn _ g2), fun k hk => u.cell (h.pp k hk) (hn _ g3), fun k hk => u.cell (h.pn k hk) (hn _ g4), h.g⟩
def fzB (a : Nat) : Bool := match Ieee.double.read a with | .number _ n _ => n != 0 | _ => false
theorem fzB_fz {a : Nat} (h : fzB a = true) : FZ a := by
  unfold fzB at h
  unfold FZ
  revert h
  cases Ieee.double.read a with
  | number s n j => exact fun h => ⟨s, n, j, rfl, by simpa using h⟩
  | infinity s => exact fun h => Bool.noConfusion h
  | nan s t => exact fun h => Bool.noConfusion h
theorem FZ.nn {a : Nat} (h : FZ a) : NN a := by
  obtain ⟨s, n, j, h1, _⟩ := h
  unfold NN
  rw [h1]
  rfl
theorem tP10_fz {k : Nat} (h : k < 32) : FZ (tP10.getD k 0) := fzB_fz (List.all_eq_true.1 (show ((List.range 32).all fun k => fzB (tP10.getD k 0)) = true by decide +kernel) k (by simpa using h))
theorem tPP_fz {k : Nat} (h : k < 10) : FZ (tPP.getD k 0) := fzB_fz (List.all_eq_true.1 (show ((List.range 10).all fun k => fzB (tPP.getD k 0)) = true by decide +kernel) k (by simpa using h))
theorem tPN_fz {k : Nat} (h : k < 11) : FZ (tPN.getD k 0) := fzB_fz (List.all_eq_true.1 (show ((List.range 11).all fun k => fzB (tPN.getD k 0)) = true by decide +kernel) k (by simpa using h))
theorem tFF_fz {k : Nat} (h : k < 17) : FZ (tFF.getD k 0) := fzB_fz (List.all_eq_true.1 (show ((List.range 17).all fun k => fzB (tFF.getD k 0)) = true by decide +kernel) k (by simpa using h))
/-- Pow10 of n, of -n. -/
def powP (n : Nat) : Nat := fmulV (tPP.getD (n / 32) 0) (tP10.getD (n % 32) 0)
def powN (n : Nat) : Nat := fquoV (tPN.getD (n / 32) 0) (tP10.getD (n % 32) 0)
theorem powP_fz {n : Nat} (h : n ≤ 300) : FZ (powP n) := fzB_fz (List.all_eq_true.1 (show ((List.range 301).all fun k => fzB (powP k)) = true by decide +kernel) n (by simp; omega))
theorem powN_fz {n : Nat} (h : n ≤ 300) : FZ (powN n) := fzB_fz (List.all_eq_true.1 (show ((List.range 301).all fun k => fzB (powN k)) = true by decide +kernel) n (by simp; omega))
set_option maxHeartbeats 4000000 in
theorem Pow10_pos (lo : Nat) (n : Nat) (w : World) (hn : n ≤ 300) (hT : PT lo w) :
    Calls Tryz.prog 46 #[.int .i64 (n : Int)] w fun e w' => e = .returned (.float .f64 (powP n)) ∧ Upd NoB w w' := by
  have c1 := hT.pp (n / 32) (by omega)
  have c2 := hT.p10 (n % 32) (by omega)
  obtain ⟨r, hr, _⟩ := mul_nn (FZ.nn (tPP_fz (show n / 32 < 10 by omega))) (tP10_fz (show n % 32 < 32 by omega))
  have hm : ∀ t w, (binOp .mul t (.float .f64 (tPP.getD (n / 32) 0)) (.float .f64 (tP10.getD (n % 32) 0))).run Tryz.prog w = .ok (.float .f64 r) w := fun t w => fmul_run t hr w
  have HR : Hid (powP n = r) := Lib.hid (mul_is hr)
  have q1 : (n : Int) / 32 = ((n / 32 : Nat) : Int) := by omega
  have q2 : (n : Int) % 32 = ((n % 32 : Nat) : Int) := by omega
  have q3 : Int.tdiv (n : Int) 32 = ((n / 32 : Nat) : Int) := by rw [Int.tdiv_eq_ediv_of_nonneg (by omega)]; omega
  have q4 : Int.tmod (n : Int) 32 = ((n % 32 : Nat) : Int) := by rw [Int.tmod_eq_emod_of_nonneg (by omega)]; omega
  have w1 : IntKind.u64.wrap (n : Int) = (n : Int) := by rw [IntKind.wrap_u64]; omega
  have w2 : IntKind.u64.wrap ((n / 32 : Nat) : Int) = ((n / 32 : Nat) : Int) := by rw [IntKind.wrap_u64]; omega
  have b1 : ((n / 32 : Nat) : Int) < 10 := by omega
  have b2 : ((n % 32 : Nat) : Int) < 32 := by omega
  have h0 : (0 : Int) ≤ (n : Int) := by omega
  have h3 : (n : Int) ≤ 308 := by omega
  generalize tPP.getD (n / 32) 0 = A at *
  generalize tP10.getD (n % 32) 0 = B at *
  generalize n / 32 = q at *
  generalize n % 32 = m at *
  clear hT hr hn
  go_enter Tryz.func46, Tryz.ntmps46
  go_wp2_with fail
  go_region_held3 (fun w' => w'.cell? ⟨2, q, none⟩ = some (.float .f64 A) ∧ w'.cell? ⟨3, m, none⟩ = some (.float .f64 B)) (first | (go_keep; done)) (fail)
  all_goals
    go_wp2_with fail
    go_ret
    exact ⟨by rw [HR.out]; rfl, (Upd.refl NoB w).drew⟩
set_option maxHeartbeats 4000000 in
theorem Pow10_neg (lo : Nat) (n : Nat) (w : World) (hn0 : 0 < n) (hn : n ≤ 300) (hT : PT lo w) :
    Calls Tryz.prog 46 #[.int .i64 (-(n : Int))] w fun e w' => e = .returned (.float .f64 (powN n)) ∧ Upd NoB w w' := by
  have c1 := hT.pn (n / 32) (by omega)
  have c2 := hT.p10 (n % 32) (by omega)
  obtain ⟨r, hr, _⟩ := div_nn (FZ.nn (tPN_fz (show n / 32 < 11 by omega))) (tP10_fz (show n % 32 < 32 by omega))
  have hm : ∀ t w, (binOp .quo t (.float .f64 (tPN.getD (n / 32) 0)) (.float .f64 (tP10.getD (n % 32) 0))).run Tryz.prog w = .ok (.float .f64 r) w := fun t w => fquo_run t hr w
  have HR : Hid (powN n = r) := Lib.hid (quo_is hr)
  have q1 : (n : Int) / 32 = ((n / 32 : Nat) : Int) := by omega
  have q2 : (n : Int) % 32 = ((n % 32 : Nat) : Int) := by omega
  have q3 : Int.tdiv (n : Int) 32 = ((n / 32 : Nat) : Int) := by rw [Int.tdiv_eq_ediv_of_nonneg (by omega)]; omega
  have q4 : Int.tmod (n : Int) 32 = ((n % 32 : Nat) : Int) := by rw [Int.tmod_eq_emod_of_nonneg (by omega)]; omega
  have w1 : IntKind.u64.wrap (n : Int) = (n : Int) := by rw [IntKind.wrap_u64]; omega
  have w2 : IntKind.u64.wrap ((n / 32 : Nat) : Int) = ((n / 32 : Nat) : Int) := by rw [IntKind.wrap_u64]; omega
  have b1 : ((n / 32 : Nat) : Int) < 11 := by omega
  have b2 : ((n % 32 : Nat) : Int) < 32 := by omega
  have h0 : ¬ (0 : Int) ≤ -(n : Int) := by omega
  have h0' : -(n : Int) < 0 := by omega
  have h3 : (-323 : Int) ≤ -(n : Int) := by omega
  have w3 : IntKind.i64.wrap (- -(n : Int)) = (n : Int) := by rw [Int.neg_neg]; exact IntWalk.i64_in _ (by omega)
  have w4 : IntKind.i64.wrap (n : Int) = (n : Int) := IntWalk.i64_in _ (by omega)
  generalize tPN.getD (n / 32) 0 = A at *
  generalize tP10.getD (n % 32) 0 = B at *
  generalize n / 32 = q at *
  generalize n % 32 = m at *
  clear hT hr hn
  go_enter Tryz.func46, Tryz.ntmps46
  go_wp2_with fail
  go_region_held3 (fun w' => w'.cell? ⟨4, q, none⟩ = some (.float .f64 A) ∧ w'.cell? ⟨3, m, none⟩ = some (.float .f64 B)) (first | (go_keep; done)) (fail)
  all_goals
    go_wp2_with fail
    go_ret
    exact ⟨by rw [HR.out]; rfl, (Upd.refl NoB w).drew⟩

theorem bits_run (f : Nat) (wx : World) : (callFunc 69 #[.float .f64 f]).run Tryz.prog wx = .ok (.value (.int .u64 (f : Int))) wx := by
  rw [run_callFunc_standIn Tryz.func69 (by kernel_rfl) (by kernel_rfl) (by kernel_rfl) (e := Extern.MathFloatBits.float64bits) (by kernel_rfl)]
  rfl
theorem from_run (n : Int) (wx : World) : (callFunc 60 #[.int .u64 n]).run Tryz.prog wx = .ok (.value (.float .f64 n.toNat)) wx := by
  rw [run_callFunc_standIn Tryz.func60 (by kernel_rfl) (by kernel_rfl) (by kernel_rfl) (e := Extern.MathFloatBits.float64frombits) (by kernel_rfl)]
  rfl
/-- Whether a number is infinite. -/
def infV (f : Nat) : Bool := FloatKind.f64.format.order (bits .andNot .u64 (f : Int) 9223372036854775808).toNat 9218868437227405311 == some .gt
set_option maxHeartbeats 2000000 in
theorem IsInf_any (f : Nat) (w : World) :
    Calls Tryz.prog 41 #[.float .f64 f, .int .i64 0] w fun e w' => e = .returned (.bool (infV f)) ∧ w' = w := by
  have h1 := bits_run
  have h2 := from_run
  have HA : Hid (Calls Tryz.prog 58 #[.float .f64 f] w fun e w' => e = .returned (.float .f64 (bits .andNot .u64 (f : Int) 9223372036854775808).toNat) ∧ w' = w) := Lib.hid (by
    go_enter Tryz.func58, Tryz.ntmps58
    go_wp2_with fail
    go_ret
    exact ⟨rfl, rfl⟩)
  have HI : Hid (infV f = (FloatKind.f64.format.order (bits .andNot .u64 (f : Int) 9223372036854775808).toNat 9218868437227405311 == some .gt)) := Lib.hid rfl
  generalize (bits .andNot .u64 (f : Int) 9223372036854775808).toNat = A at *
  clear h1 h2
  go_enter Tryz.func41, Tryz.ntmps41
  go_wp2_with fail
  refine HA.out.mono ?_
  rintro e w1 ⟨rfl, rfl⟩
  go_wp2_with fail
  go_ret
  exact ⟨by rw [HI.out]; rfl, rfl⟩
end Go.Proofs.YtkocponnjfkchaaGreatDoor
