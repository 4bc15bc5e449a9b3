/- strconv.ParseFloat: the small functions, for texts of digits, signs, points and 'e'. -/
import Derived.Test.YtkocponnjfkchaaGreatDoorDec1
import Derived.Test.YtkocponnjfkchaaGreatDoorTabs
import Derived.Test.YtkocponnjfkchaaGreatDoorScope
namespace Go.Proofs.YtkocponnjfkchaaGreatDoor
open Go.RowKit

/-- Bytes of which numbers of RFC 8259 are made. -/
def nB (c : Nat) : Prop := (48 ≤ c ∧ c ≤ 57) ∨ c = 43 ∨ c = 45 ∨ c = 46 ∨ c = 69 ∨ c = 101
def NumB (s : ByteArray) : Prop := ∀ i, i < s.size → nB (bAt s i)

theorem bAt_extract {s : ByteArray} {a b i : Nat} (h : i < min b s.size - a) : bAt (s.extract a b) i = bAt s (a + i) := by
  have h1 : i < (s.extract a b).size := by simp only [ByteArray.size_extract]; exact h
  have h2 : a + i < s.size := by omega
  rw [bAt_eq h1, bAt_eq h2, ByteArray.getElem_extract]

set_option maxHeartbeats 400000 in
theorem common_any (s : ByteArray) (w : World) (hs : s.size ≤ 1048576) (h : ∀ i, i < s.size → nB (bAt s i)) (p : ByteArray) (hp : p.size ≤ 100) (hp0 : 0 < p.size) (hc : bAt p 0 = 105 ∨ bAt p 0 = 110) :
    Calls Tryz.prog 90 #[.string s, .string p] w fun e w' => e = .returned (.int .i64 0) ∧ w = w' := by
  have hB := get_bAt s
  have hBp := get_bAt p
  by_cases hz : s.size = 0
  · have hmin : min (p.size : Int) (s.size : Int) = 0 := by omega
    go_enter Tryz.func90, Tryz.ntmps90
    go_wp2_with fail
    go_loopg [6] 0 (fun m v6 wr => m = 0 ∧ v6 = .int .i64 0 ∧ w = wr)
    case atStart => exact ⟨rfl, rfl, rfl⟩
    case round =>
      obtain ⟨_, rfl, rfl⟩ := hrel
      go_wp2_with fail
      go_ret
      exact ⟨rfl, rfl⟩
  · have h0 := h 0 (by omega)
    have hb := bAt_le s 0
    have hs0 : 0 < s.size := by omega
    unfold nB at h0
    have HE : Hid ((bAt s 0 = 69 ∧ ((101 : Int) != (bAt p 0 : Int)) = true) ∨ (((bAt s 0 : Int) != (bAt p 0 : Int)) = true ∧ (65 ≤ (bAt s 0 : Int) → ¬ (bAt s 0 : Int) ≤ 90))) := Lib.hid (by
      by_cases hE : bAt s 0 = 69
      · exact .inl ⟨hE, by simp; omega⟩
      · exact .inr ⟨by simp; omega, by omega⟩)
    clear h0 hc h
    go_enter Tryz.func90, Tryz.ntmps90
    go_wp2_with fail
    all_goals
      go_loopg [6] 0 (fun m v6 wr => m = 0 ∧ v6 = .int .i64 0 ∧ w = wr)
      case atStart => exact ⟨rfl, rfl, rfl⟩
      case round =>
        obtain ⟨_, rfl, rfl⟩ := hrel
        rcases HE.out with ⟨hE, e2⟩ | ⟨e2, e3⟩
        · have e1 : ((bAt s 0 : Int)) = 69 := by omega
          go_wp2_with fail
          go_ret
          exact ⟨rfl, rfl⟩
        · by_cases h65 : 65 ≤ (bAt s 0 : Int)
          · have h90 := e3 h65
            clear e3
            go_wp2_with fail
            go_ret
            exact ⟨rfl, rfl⟩
          · clear e3
            go_wp2_with fail
            go_ret
            exact ⟨rfl, rfl⟩

set_option maxHeartbeats 1000000 in
theorem special_any (s : ByteArray) (w : World) (hs : s.size ≤ 1048576) (h : NumB s) :
    Calls Tryz.prog 76 #[.string s] w fun e w' => e = .returned (.tuple #[.float .f64 0, .int .i64 0, .bool false]) ∧ w = w' := by
  have hB := get_bAt s
  by_cases hz : s.size = 0
  · have hz' : ((s.size : Int) == 0) = true := by rw [hz]; rfl
    go_enter Tryz.func76, Tryz.ntmps76
    go_wp2_with fail
    go_ret3
    exact ⟨rfl, rfl⟩
  · have hz' : ((s.size : Int) == 0) = false := by simp only [beq_eq_false_iff_ne, ne_eq]; omega
    have h0 := h 0 (by omega)
    have hb := bAt_le s 0
    have hs0 : 0 < s.size := by omega
    have hsl : ∀ wx, (Instr.slice 9 (.string s) (some (.int .i64 1)) none none).run Tryz.prog wx = .ok (.string (s.extract 1 s.size)) wx := fun wx => by
      exact run_slice_string_l (P := Tryz.prog) wx 9 s Tryz.underlying9 .i64 (1 : Int) (by omega) (by omega)
    have hx : (s.extract 1 s.size).size = s.size - 1 := by simp only [ByteArray.size_extract]; omega
    have hq : ∀ i, i < (s.extract 1 s.size).size → nB (bAt (s.extract 1 s.size) i) := fun i hi => by
      rw [bAt_extract (by omega)]; exact h _ (by omega)
    have HC := Lib.hid (fun wx => common_any (s.extract 1 s.size) wx (by omega) hq ⟨#[105, 110, 102, 105, 110, 105, 116, 121]⟩ (Nat.le_of_ble_eq_true rfl) (Nat.le_of_ble_eq_true rfl) (.inl rfl))
    clear hx hq h
    unfold nB at h0
    go_enter Tryz.func76, Tryz.ntmps76
    go_wp2_with (go_at_call 90; refine (HC.out _).mono ?_; rintro e w' ⟨rfl, rfl⟩)
    all_goals
      go_ret3
      exact ⟨rfl, rfl⟩
end Go.Proofs.YtkocponnjfkchaaGreatDoor
