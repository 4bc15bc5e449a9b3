/- strconv.ParseFloat: exact small numbers. -/
import Derived.Test.YtggdcpmampjncaaGreatDoorPf3
namespace Go.Proofs.YtggdcpmampjncaaGreatDoor
open Go.RowKit

theorem farith_run {P : Program} (op : BinOp) (h : op = .mul ∨ op = .quo) (a b : Nat) (w : World) : ∃ r n, (Op.floatArith op .f64 a b).run P w = .ok (.float .f64 r) (w.drewN n) := by
  rcases h with rfl | rfl
  · cases hm : FloatKind.f64.format.mul a b with
    | some r => exact ⟨r, 0, by simp [Op.floatArith, hm]; rfl⟩
    | none =>
      by_cases hf : (Question.nanBits .f64 a b).forced = true
      · exact ⟨0, 0, by simp [Op.floatArith, hm, hf, Result.andThen]; rfl⟩
      · exact ⟨(Question.nanBits .f64 a b).cut (w.tape w.drawn (Question.nanBits .f64 a b)), 1, by simp [Op.floatArith, hm, hf, Result.andThen]; rfl⟩
  · cases hm : FloatKind.f64.format.div a b with
    | some r => exact ⟨r, 0, by simp [Op.floatArith, hm]; rfl⟩
    | none =>
      by_cases hf : (Question.nanBits .f64 a b).forced = true
      · exact ⟨0, 0, by simp [Op.floatArith, hm, hf, Result.andThen]; rfl⟩
      · exact ⟨(Question.nanBits .f64 a b).cut (w.tape w.drawn (Question.nanBits .f64 a b)), 1, by simp [Op.floatArith, hm, hf, Result.andThen]; rfl⟩
theorem fbin_run {P : Program} (op : BinOp) (h : op = .mul ∨ op = .quo) (t : TypeId) (a b : Nat) (w : World) : ∃ r n, (binOp op t (.float .f64 a) (.float .f64 b)).run P w = .ok (.float .f64 r) (w.drewN n) := by
  obtain ⟨r, n, hr⟩ := farith_run (P := P) op h a b w
  refine ⟨r, n, ?_⟩
  rcases h with rfl | rfl <;> simpa [binOp] using hr
theorem fneg_run {P : Program} (a : Nat) (w : World) : (Op.unary .neg (.float .f64 a)).run P w = .ok (.float .f64 (Op.negFloat .f64 a)) w := rfl

/-- A number and a Boolean are returned. -/
def RetFB (r : Ending) : Prop := ∃ (f : Nat) (b : Bool), r = .returned (.tuple #[.float .f64 f, .bool b])

set_option maxHeartbeats 2000000 in
set_option maxRecDepth 20000 in
theorem atof64exact_any (lo : Nat) (m : Int) (x : Int) (ng : Bool) (w : World) (hT : Tabs lo w) (_hm0 : 0 ≤ m) (_hm1 : m ≤ 18446744073709551615) (hx0 : -100000 ≤ x) (hx1 : x ≤ 100000) :
    Calls Tryz.prog 112 #[.int .u64 m, .int .i64 x, .bool ng] w fun r w' =>
      RetFB r ∧ ∃ n, w' = w.drewN n := by
  have f0 := hT.fi0
  obtain ⟨B, o, c, h1, h2, h3⟩ := hT.f10
  by_cases hz : m / 4503599627370496 = 0
  · have hz' : (m / 4503599627370496 != 0) = false := by simp [hz]
    have hneg := fun a => fneg_run (P := Tryz.prog) a w
    go_enter Tryz.func112, Tryz.ntmps112
    go_upto_if 15 with (fail)
    go_cut [6] (fun v6 wx => ∃ F : Nat, v6 = .float .f64 F ∧ w = wx)
    case first =>
      cases ng
      · go_wp2_with fail
        go_meet
        exact ⟨_, rfl, rfl⟩
      · go_wp2_with fail
        go_meet
        exact ⟨_, rfl, rfl⟩
    case rest =>
    obtain ⟨F, rfl, rfl⟩ := hcut
    clear hneg
    by_cases hx : x = 0
    · subst hx
      go_wp2_with fail
      go_ret2
      exact ⟨⟨_, _, rfl⟩, 0, rfl⟩
    have hxz : (x == 0) = false := by simpa using hx
    by_cases hpos : 0 < x
    · by_cases h37 : x ≤ 37
      · by_cases h22 : 22 < x
        · obtain ⟨k, rfl⟩ : ∃ k : Nat, x = (k : Int) + 22 := ⟨(x - 22).toNat, by omega⟩
          obtain ⟨t1, ht1⟩ := h3 k (by omega)
          obtain ⟨r1, n1, hr1⟩ := fbin_run (P := Tryz.prog) .mul (.inl rfl) 36 F t1 w
          go_upto_if 30 with (fail)
          go_cut [1, 6] (fun v1 v6 wx => ∃ q : Nat, v1 = .int .i64 (q : Int) ∧ q < 23 ∧ v6 = .float .f64 r1 ∧ wx = w.drewN n1)
          case first =>
            go_wp2_with fail
            go_meet
            exact ⟨22, rfl, by omega, rfl, rfl⟩
          case rest =>
          obtain ⟨q, rfl, hq, rfl, rfl⟩ := hcut
          clear hr1
          obtain ⟨t2, ht2⟩ := h3 q hq
          have g1 : (w.drewN n1).cell? ⟨8, 0, none⟩ = some (.slice (some ⟨B, o, none⟩) 23 c) := h1
          have g2 : (w.drewN n1).cell? ⟨B, o + q, none⟩ = some (.float .f64 t2) := ht2
          obtain ⟨r2, n2, hr2⟩ := fbin_run (P := Tryz.prog) .mul (.inl rfl) 36 r1 t2 (w.drewN n1)
          have hW : ∃ n, w.drewN n1 = w.drewN n := ⟨n1, rfl⟩
          have hW2 : ∃ n, (w.drewN n1).drewN n2 = w.drewN n := ⟨_, World.drewN_drewN ..⟩
          have HW := Lib.hid hW
          have HW2 := Lib.hid hW2
          clear hW hW2 ht1 ht2 h1 h3 hT f0
          generalize (w.drewN n1).drewN n2 = wd2 at *
          generalize w.drewN n1 = wd at *
          clear hpos h37 h22 hx hxz hz hz' hx0 hx1
          go_upto_region 12 with (fail)
          go_wp2_with fail
          · go_ret2
            exact ⟨⟨_, _, rfl⟩, HW.out⟩
          · go_ret2
            exact ⟨⟨_, _, rfl⟩, HW.out⟩
          · go_ret2
            exact ⟨⟨_, _, rfl⟩, HW2.out⟩
        · obtain ⟨k, rfl⟩ : ∃ k : Nat, x = (k : Int) := ⟨x.toNat, by omega⟩
          obtain ⟨t1, ht1⟩ := h3 k (by omega)
          obtain ⟨r1, n1, hr1⟩ := fbin_run (P := Tryz.prog) .mul (.inl rfl) 36 F t1 w
          go_wp2_with fail
          all_goals
            go_ret2
            first | exact ⟨⟨_, _, rfl⟩, 0, rfl⟩ | exact ⟨⟨_, _, rfl⟩, _, rfl⟩
      · go_wp2_with fail
        go_ret2
        exact ⟨⟨_, _, rfl⟩, 0, rfl⟩
    · by_cases h22 : -22 ≤ x
      · obtain ⟨k, rfl⟩ : ∃ k : Nat, x = -(k : Int) := ⟨(-x).toNat, by omega⟩
        obtain ⟨t1, ht1⟩ := h3 k (by omega)
        obtain ⟨r1, n1, hr1⟩ := fbin_run (P := Tryz.prog) .quo (.inr rfl) 36 F t1 w
        go_wp2_with fail
        all_goals
          go_ret2
          first | exact ⟨⟨_, _, rfl⟩, 0, rfl⟩ | exact ⟨⟨_, _, rfl⟩, _, rfl⟩
      · go_wp2_with fail
        go_ret2
        exact ⟨⟨_, _, rfl⟩, 0, rfl⟩
  · have hz' : (m / 4503599627370496 != 0) = true := by simpa using hz
    go_enter Tryz.func112, Tryz.ntmps112
    go_wp2_with fail
    go_ret2
    exact ⟨⟨_, _, rfl⟩, 0, rfl⟩
end Go.Proofs.YtggdcpmampjncaaGreatDoor
