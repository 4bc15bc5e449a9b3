/- strconv.ParseFloat: the fast road. -/
import Derived.Test.YtggdcpmampjncaaGreatDoorPf1
import Derived.Test.YtggdcpmampjncaaGreatDoorShelf
import Derived.Laws.StandIn
namespace Go.Proofs.YtggdcpmampjncaaGreatDoor
open Go.RowKit

set_option maxHeartbeats 400000 in
theorem bool2u_any (b : Bool) (w : World) :
    Calls Tryz.prog 110 #[.bool b] w fun e w' => e = .returned (.int .u64 (if b then 1 else 0)) ∧ w' = w := by
  cases b
  · go_enter Tryz.func110, Tryz.ntmps110
    go_wp2
    go_ret
    exact ⟨rfl, rfl⟩
  · go_enter Tryz.func110, Tryz.ntmps110
    go_wp2
    go_ret
    exact ⟨rfl, rfl⟩

set_option maxHeartbeats 400000 in
theorem log2Pow10_any (p : Int) (w : World) (h0 : -400 ≤ p) (h1 : p ≤ 400) :
    Calls Tryz.prog 121 #[.int .i64 p] w fun e w' => (∃ l : Int, e = .returned (.int .i64 l) ∧ l = p * 108853 / 32768) ∧ w' = w := by
  go_enter Tryz.func121, Tryz.ntmps121
  go_wp2
  go_ret
  exact ⟨⟨_, rfl, rfl⟩, rfl⟩

set_option maxHeartbeats 400000 in
theorem unmin_any (x : Int) (w : World) : Calls Tryz.prog 125 #[.int .u64 x] w fun e w' => (∃ y, e = .returned (.int .u64 y) ∧ 0 ≤ y ∧ y ≤ 18446744073709551615) ∧ w' = w := by
  go_enter Tryz.func125, Tryz.ntmps125
  go_wp2
  go_ret
  exact ⟨⟨_, rfl, (u64_rng _).1, (u64_rng _).2⟩, rfl⟩

set_option maxHeartbeats 400000 in
theorem round_any (x : Int) (w : World) (_h0 : 0 ≤ x) (_h1 : x ≤ 18446744073709551615) : Calls Tryz.prog 127 #[.int .u64 x] w fun e w' => (∃ y, e = .returned (.int .u64 y)) ∧ w' = w := by
  go_enter Tryz.func127, Tryz.ntmps127
  go_wp2
  go_ret
  exact ⟨⟨_, rfl⟩, rfl⟩

theorem frombits_run (n : Int) (wx : World) : (callFunc 111 #[.int .u64 n]).run Tryz.prog wx = .ok (.value (.float .f64 n.toNat)) wx := by
  rw [run_callFunc_standIn Tryz.func111 (by kernel_rfl) (by kernel_rfl) (by kernel_rfl) (e := Extern.MathFloatBits.float64frombits) (by kernel_rfl)]
  rfl

set_option maxHeartbeats 400000 in
set_option maxRecDepth 20000 in
theorem pack64_any (x e : Int) (w : World) (he0 : -100000 ≤ e) (he1 : e ≤ 100000) : Calls Tryz.prog 130 #[.int .u64 x, .int .i64 e] w fun r w' =>
    (∃ (f : Nat) (ev : Value), r = .returned (.tuple #[.float .f64 f, ev]) ∧ (ev = .nilIface ∨ ev = .iface 123 (.int .i64 1))) ∧ w' = w := by
  have hfb := frombits_run
  by_cases h972 : 972 ≤ e
  · go_enter Tryz.func130, Tryz.ntmps130
    go_wp2
    · go_ret2
      exact ⟨⟨_, _, rfl, .inl rfl⟩, rfl⟩
    · go_ret2
      exact ⟨⟨_, _, rfl, .inr rfl⟩, rfl⟩
  · go_enter Tryz.func130, Tryz.ntmps130
    go_wp2
    · go_ret2
      exact ⟨⟨_, _, rfl, .inl rfl⟩, rfl⟩
    · go_ret2
      exact ⟨⟨_, _, rfl, .inl rfl⟩, rfl⟩
end Go.Proofs.YtggdcpmampjncaaGreatDoor
