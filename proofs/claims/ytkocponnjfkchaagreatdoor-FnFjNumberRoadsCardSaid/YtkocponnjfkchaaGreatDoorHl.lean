/- FnFjNumberRoads returns true. -/
import Derived.Test.YtkocponnjfkchaaGreatDoorHk
import Derived.Test.YtkocponnjfkchaaGreatDoorHn
namespace Go.Proofs.YtkocponnjfkchaaGreatDoor
open Go.RowKit

/-- What is returned: true, with nothing changed that was there. -/
def TrueRet (w : World) (e : Ending) (w' : World) : Prop := e = .returned (.bool true) ∧ Upd NoB w w'
theorem order_self {f : Nat} (h : NN f) : FloatKind.f64.format.order f f = some .eq := by
  show (Ieee.double.read f).order (Ieee.double.read f) = some .eq
  unfold NN at h
  cases hd : Ieee.double.read f with
  | number s n j => simp [Ieee.Datum.order]
  | infinity s => cases s <;> rfl
  | nan s t => rw [hd] at h; exact Bool.noConfusion h
theorem FPr.nn {s : ByteArray} {a b c f : Nat} {ok : Bool} (hab : a ≤ b) (h : FPr s a b c f ok) : NN f := by
  unfold FPr at h
  split at h
  · exact h.nn
  · rename_i hc
    have h2 := f2V_nn s a b c (fun hb => by omega)
    have hg : ∀ X, NN X → NN (sgF s X) := fun X hX => by
      unfold sgF
      split
      · exact neg_nn hX
      · exact hX
    rw [h.2]
    refine hg _ ?_
    split
    · rename_i hcs
      have hp : FZ (pwV s c) := by
        unfold pwV
        split
        · exact powN_fz (by omega)
        · exact powP_fz (by omega)
      obtain ⟨r, hr, hn⟩ := mul_nn h2 hp
      rw [mul_is hr]
      exact hn
    · exact h2
/-- The text "1". -/
def oneT : ByteArray := ⟨#[49]⟩
theorem one_parts : NumD oneT 0 1 1 := by
  refine ⟨.inl ⟨rfl, by decide⟩, ⟨by omega, by decide, fun k h1 h2 => ?_, fun h => ?_⟩, by omega, .inl ⟨rfl, by decide⟩, .inl ⟨rfl, by decide, by decide⟩⟩
  · obtain rfl : k = 0 := by omega
    decide
  · exact absurd h (by decide)
theorem one_ok {f : Nat} {ok : Bool} (h : FPr oneT 0 1 1 f ok) : ok = true := by
  unfold FPr at h
  have hs : oneT.size = 1 := rfl
  rw [if_neg (by omega)] at h
  exact h.1
/-- What ParseInt64 makes of a number's text. -/
def PIR (s : ByteArray) (a b : Nat) (x : Int) (ok : Bool) : Prop := x = (PI64V s a b).1 ∧ ok = (PI64V s a b).2
/-- What ParseUint64 makes of a number's text. -/
def PUR (s : ByteArray) (a b : Nat) (x : Int) (ok : Bool) : Prop := x = (if mnS s = true then (0, false) else PU64V s a b).1 ∧ ok = (if mnS s = true then (0, false) else PU64V s a b).2
set_option maxHeartbeats 8000000 in
set_option maxRecDepth 8000 in
theorem roads_any (lo : Nat) (s : ByteArray) (w : World) (hmx : s.size ≤ 9223372036854775807) (hT : TabsF lo w) (hlo : lo ≤ w.heap.size) :
    Calls Tryz.prog 3 #[.string s] w (TrueRet w) := by
  have HT := Lib.hid hT; clear hT
  by_cases hbig : (2147483647 : Int) < (s.size : Int)
  · go_enter Tryz.func3, Tryz.ntmps3
    go_wp2_with fail
    go_ret
    exact ⟨rfl, Upd.refl _ _⟩
  by_cases h800 : (800 : Int) < (s.size : Int)
  · go_enter Tryz.func3, Tryz.ntmps3
    go_wp2_with fail
    go_ret
    exact ⟨rfl, Upd.refl _ _⟩
  have hs : s.size ≤ 800 := by omega
  have HNum := Lib.hid (IsNumber_any s w (by omega))
  go_enter Tryz.func3, Tryz.ntmps3
  go_wp2_with fail
  refine HNum.out.mono ?_
  rintro e w0 ⟨bn, rfl, hb, hu0⟩
  have HU0 := Lib.hid hu0; clear hu0
  cases bn
  · clear hb
    go_wp2_with fail
    go_ret
    exact ⟨rfl, HU0.out⟩
  obtain ⟨a, b, c, hN⟩ := (hb rfl).parts
  clear hb
  obtain ⟨_, _, _, hz⟩ := hN.bounds
  have hbytes := hN.bytes
  have HI : Hid (FIOk lo s (PIR s a b)) := Lib.hid (fun w h hl => (PI64_any lo s a b c w (by omega) hN h.1 hl).mono fun e w' ⟨⟨ev, h1, h2⟩, h3⟩ => ⟨⟨_, _, ev, ⟨rfl, rfl⟩, h1, h2⟩, h3⟩)
  have HUx : Hid (FUOk lo s (PUR s a b)) := Lib.hid (by
    intro w h hl
    rcases hN.minus with ⟨m1, m2, m3⟩ | ⟨m1, m2, m3⟩
    · refine (PU64_minus s w hz m2).mono fun e w' ⟨⟨ev, h1, h2⟩, h3⟩ => ⟨⟨0, false, ev, ?_, h1, h2⟩, h3⟩
      unfold PUR
      rw [if_pos m1]
      exact ⟨rfl, rfl⟩
    · refine (PU64_any lo s a b c w (by omega) hN m3 h.1 hl).mono fun e w' ⟨⟨ev, h1, h2⟩, h3⟩ => ⟨⟨_, _, ev, ?_, h1, h2⟩, h3⟩
      unfold PUR
      rw [if_neg (by rw [m1]; decide)]
      exact ⟨rfl, rfl⟩)
  have HFl : Hid (FFOk lo s (FPr s a b c)) := Lib.hid (fun w h hl => (ffParse_any lo s a b c w (by omega) hN h hl).mono fun e w' h => h)
  have HF1 : Hid (FFOk lo oneT (FPr oneT 0 1 1)) := Lib.hid (fun w h hl => (ffParse_any lo oneT 0 1 1 w (by decide) one_parts h hl).mono fun e w' h => h)
  have HBy := Lib.hid hbytes; clear hbytes
  have hab := Nat.le_of_lt hN.ab
  clear hN
  go_wp2_with fail
  refine (FjNumberInt64_any lo s _ w0 HI.out (HT.out.upd HU0.out (fun _ h => h.elim)) (Nat.le_trans hlo HU0.out.size)).mono ?_
  rintro e v1 ⟨⟨x1, k1, hx1, rfl⟩, hu1⟩
  have Hx1 := Lib.hid hx1; clear hx1
  have HUv1 := Lib.hid (HU0.out.trans hu1); clear hu1
  go_wp2_with fail
  refine (FjInt64_any lo s _ v1 (by omega) hz HBy.out HI.out (HT.out.upd HUv1.out (fun _ h => h.elim)) (Nat.le_trans hlo HUv1.out.size)).mono ?_
  rintro e v2 ⟨⟨x2, k2, hx2, rfl⟩, hu2⟩
  have HUv2 := Lib.hid (HUv1.out.trans hu2); clear hu2
  obtain ⟨rfl, rfl⟩ : x2 = x1 ∧ k2 = k1 := ⟨hx2.1.trans Hx1.out.1.symm, hx2.2.trans Hx1.out.2.symm⟩
  clear Hx1 hx2
  have q1 : (x2 != x2) = false := by simp
  cases k2
  all_goals
    go_wp2_with fail
    refine (FjNumberUint64_any lo s _ v2 HUx.out (HT.out.upd HUv2.out (fun _ h => h.elim)) (Nat.le_trans hlo HUv2.out.size)).mono ?_
    rintro e v3 ⟨⟨x3, k3, hx3, rfl⟩, hu3⟩
    have Hx3 := Lib.hid hx3; clear hx3
    have HUv3 := Lib.hid (HUv2.out.trans hu3); clear hu3
    go_wp2_with fail
    refine (FjUint64_any lo s _ v3 (by omega) hz HBy.out HUx.out (HT.out.upd HUv3.out (fun _ h => h.elim)) (Nat.le_trans hlo HUv3.out.size)).mono ?_
    rintro e v4 ⟨⟨x4, k4, hx4, rfl⟩, hu4⟩
    have HUv4 := Lib.hid (HUv3.out.trans hu4); clear hu4
    obtain ⟨rfl, rfl⟩ : x4 = x3 ∧ k4 = k3 := ⟨hx4.1.trans Hx3.out.1.symm, hx4.2.trans Hx3.out.2.symm⟩
    clear Hx3 hx4
    have q2 : (x4 != x4) = false := by simp
    cases k4
    all_goals
      go_wp2_with fail
      refine (FjNumberFloat_any lo s _ v4 HFl.out (HT.out.upd HUv4.out (fun _ h => h.elim)) (Nat.le_trans hlo HUv4.out.size)).mono ?_
      rintro e v5 ⟨⟨x5, k5, hx5, rfl⟩, hu5⟩
      have Hx5 := Lib.hid hx5; clear hx5
      have HUv5 := Lib.hid (HUv4.out.trans hu5); clear hu5
      go_wp2_with fail
      refine (FjFloat_any lo s _ v5 (by omega) hz HBy.out HFl.out (HT.out.upd HUv5.out (fun _ h => h.elim)) (Nat.le_trans hlo HUv5.out.size)).mono ?_
      rintro e v6 ⟨⟨x6, k6, hx6, rfl⟩, hu6⟩
      have HUv6 := Lib.hid (HUv5.out.trans hu6); clear hu6
      obtain ⟨rfl, rfl⟩ := hx6.uniq Hx5.out
      have q3 := order_self (hx6.nn hab)
      have q4 : (FloatKind.f64.format.order x6 x6 == some .eq) = true := by rw [q3]; rfl
      clear Hx5 hx6
      go_wp2_with fail
      refine (FjNumberFloat_any lo oneT _ v6 HF1.out (HT.out.upd HUv6.out (fun _ h => h.elim)) (Nat.le_trans hlo HUv6.out.size)).mono ?_
      rintro e v7 ⟨⟨x7, k7, hx7, rfl⟩, hu7⟩
      have Hx7 := Lib.hid hx7; clear hx7
      have HUv7 := Lib.hid (HUv6.out.trans hu7); clear hu7
      obtain rfl := one_ok Hx7.out
      clear Hx7
      cases k6
      all_goals
        go_wp2_with fail
        go_ret
        exact ⟨rfl, HUv7.out⟩
end Go.Proofs.YtkocponnjfkchaaGreatDoor
