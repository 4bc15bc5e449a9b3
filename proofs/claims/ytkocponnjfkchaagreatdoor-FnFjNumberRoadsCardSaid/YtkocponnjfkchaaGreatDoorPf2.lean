/- strconv.ParseFloat: the fast road. -/
import Derived.Test.YtkocponnjfkchaaGreatDoorPf1
import Derived.Test.YtkocponnjfkchaaGreatDoorShelf
import Derived.Laws.StandIn
namespace Go.Proofs.YtkocponnjfkchaaGreatDoor
open Go.RowKit

set_option maxHeartbeats 400000 in
theorem bool2u_any (b : Bool) (w : World) :
    Calls Tryz.prog 85 #[.bool b] w fun e w' => e = .returned (.int .u64 (if b then 1 else 0)) ∧ w' = w := by
  cases b
  · go_enter Tryz.func85, Tryz.ntmps85
    go_wp2
    go_ret
    exact ⟨rfl, rfl⟩
  · go_enter Tryz.func85, Tryz.ntmps85
    go_wp2
    go_ret
    exact ⟨rfl, rfl⟩

set_option maxHeartbeats 400000 in
theorem log2Pow10_any (p : Int) (w : World) (h0 : -400 ≤ p) (h1 : p ≤ 400) :
    Calls Tryz.prog 94 #[.int .i64 p] w fun e w' => (∃ l : Int, e = .returned (.int .i64 l) ∧ l = p * 108853 / 32768) ∧ w' = w := by
  go_enter Tryz.func94, Tryz.ntmps94
  go_wp2
  go_ret
  exact ⟨⟨_, rfl, rfl⟩, rfl⟩

/-- What unmin, round and pack64 make of their numbers. -/
def unminV (x : Int) : Int := IntKind.u64.wrap (IntKind.u64.wrap (x * 4) - 2)
def roundV (x : Int) : Int := IntKind.u64.wrap (IntKind.u64.wrap (x + 1) + bits .and .u64 (x / 4) 1) / 4
def packV (x e : Int) : Nat × Bool :=
  if (bits .and .u64 x 4503599627370496 == 0) = true then (x.toNat, false)
  else if 972 ≤ e then ((bits .or .u64 (bits .and .u64 x 9223372036854775808) 9218868437227405312).toNat, true)
  else ((bits .or .u64 (bits .andNot .u64 x 4503599627370496) (IntKind.u64.wrap (IntKind.u64.wrap (1075 + e) * 4503599627370496))).toNat, false)
/-- The range error, or none. -/
def evR (b : Bool) : Value := if b = true then .iface 105 (.int .i64 1) else .nilIface

set_option maxHeartbeats 400000 in
theorem unmin_any (x : Int) (w : World) : Calls Tryz.prog 98 #[.int .u64 x] w fun e w' => e = .returned (.int .u64 (unminV x)) ∧ w' = w := by
  go_enter Tryz.func98, Tryz.ntmps98
  go_wp2
  go_ret
  exact ⟨rfl, rfl⟩

set_option maxHeartbeats 400000 in
theorem round_any (x : Int) (w : World) (_h0 : 0 ≤ x) (_h1 : x ≤ 18446744073709551615) : Calls Tryz.prog 100 #[.int .u64 x] w fun e w' => e = .returned (.int .u64 (roundV x)) ∧ w' = w := by
  go_enter Tryz.func100, Tryz.ntmps100
  go_wp2
  go_ret
  exact ⟨rfl, rfl⟩

theorem frombits_run (n : Int) (wx : World) : (callFunc 86 #[.int .u64 n]).run Tryz.prog wx = .ok (.value (.float .f64 n.toNat)) wx := by
  rw [run_callFunc_standIn Tryz.func86 (by kernel_rfl) (by kernel_rfl) (by kernel_rfl) (e := Extern.MathFloatBits.float64frombits) (by kernel_rfl)]
  rfl

set_option maxHeartbeats 400000 in
set_option maxRecDepth 20000 in
theorem pack64_any (x e : Int) (w : World) (he0 : -100000 ≤ e) (he1 : e ≤ 100000) : Calls Tryz.prog 103 #[.int .u64 x, .int .i64 e] w fun r w' =>
    r = .returned (.tuple #[.float .f64 (packV x e).1, evR (packV x e).2]) ∧ w' = w := by
  have hfb := frombits_run
  cases hc : (bits .and .u64 x 4503599627370496 == 0)
  · by_cases h972 : 972 ≤ e
    · have HV : Hid (packV x e = ((bits .or .u64 (bits .and .u64 x 9223372036854775808) 9218868437227405312).toNat, true)) := Lib.hid (by unfold packV; rw [hc, if_neg (by decide), if_pos h972])
      go_enter Tryz.func103, Tryz.ntmps103
      go_wp2
      go_ret2
      exact ⟨by rw [HV.out]; rfl, rfl⟩
    · have HV : Hid (packV x e = ((bits .or .u64 (bits .andNot .u64 x 4503599627370496) (IntKind.u64.wrap (IntKind.u64.wrap (1075 + e) * 4503599627370496))).toNat, false)) := Lib.hid (by unfold packV; rw [hc, if_neg (by decide), if_neg h972])
      go_enter Tryz.func103, Tryz.ntmps103
      go_wp2
      go_ret2
      exact ⟨by rw [HV.out]; rfl, rfl⟩
  · have HV : Hid (packV x e = (x.toNat, false)) := Lib.hid (by unfold packV; rw [hc, if_pos rfl])
    go_enter Tryz.func103, Tryz.ntmps103
    go_wp2
    go_ret2
    exact ⟨by rw [HV.out]; rfl, rfl⟩
end Go.Proofs.YtkocponnjfkchaaGreatDoor
