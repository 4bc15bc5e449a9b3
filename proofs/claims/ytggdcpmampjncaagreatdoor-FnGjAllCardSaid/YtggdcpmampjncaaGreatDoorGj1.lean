/- The package's scanners of literals and numbers. -/
import Derived.Test.YtggdcpmampjncaaGreatDoorPf6
import Derived.Test.YtggdcpmampjncaaGreatDoorChar
namespace Go.Proofs.YtggdcpmampjncaaGreatDoor
open Go.RowKit

theorem extract_all (u : ByteArray) : u.extract 0 u.size = u := by
  apply ByteArray.ext
  apply Array.ext'
  rw [ByteArray.data_extract, Array.toList_extract, List.extract_eq_take_drop, List.drop_zero, Nat.sub_zero]
  exact List.take_of_length_le (by show u.data.toList.length ≤ u.data.size; simp)
theorem slice_to (u : ByteArray) (i : Nat) (hi : i ≤ u.size) (wx : World) : (Instr.slice 9 (.string u) none (some (.int .i64 (i : Int))) none).run Tryz.prog wx = .ok (.string (u.extract 0 i)) wx := by
  have h := run_slice_string_to_if (P := Tryz.prog) (w := wx) 9 u .i64 (i : Int) Tryz.underlying9
  rw [if_pos (by omega), Int.toNat_natCast] at h
  exact h

set_option maxHeartbeats 1000000 in
theorem tolit_any (u : ByteArray) (e : Nat) (w : World) (hs : u.size ≤ 1099511627776) (h1 : 1 ≤ e) (h2 : e ≤ u.size) (h3 : ∀ k, 1 ≤ k → k < e → 97 ≤ bAt u k ∧ bAt u k ≤ 122) (h4 : e < u.size → ¬ (97 ≤ bAt u e ∧ bAt u e ≤ 122)) :
    Calls Tryz.prog 51 #[.string u] w fun r w' => r = .returned (.string (u.extract 0 e)) ∧ w = w' := by
  have hB := get_bAt u
  have H3 := Lib.hid h3; clear h3
  have H4 := Lib.hid h4; clear h4
  go_enter Tryz.func51, Tryz.ntmps51
  go_wp2_with fail
  go_loopg [3] (u.size - 1) (fun m v3 wr => ∃ k : Nat, m = u.size - k ∧ v3 = .int .i64 (k : Int) ∧ 1 ≤ k ∧ k ≤ e ∧ w = wr)
  case atStart => exact ⟨1, rfl, rfl, by omega, h1, rfl⟩
  case round =>
    obtain ⟨k, hm, rfl, hk1, hke, rfl⟩ := hrel
    have Hm := Lib.hid hm; clear hm
    have hb := bAt_le u k
    by_cases hlt : k < u.size
    rotate_left
    · obtain rfl : k = e := by omega
      have he : u.extract 0 k = u := by rw [show k = u.size by omega]; exact extract_all u
      have HE := Lib.hid he; clear he
      go_wp2_with fail
      go_ret
      exact ⟨by rw [HE.out]; rfl, rfl⟩
    have hsl := slice_to u k (by omega)
    by_cases hd : k = e
    · subst hd
      have hn := H4.out hlt
      by_cases c1 : (bAt u k : Int) < 97
      · go_wp2_with fail
        go_ret
        exact ⟨rfl, rfl⟩
      · have c2 : 122 < (bAt u k : Int) := by omega
        go_wp2_with fail
        go_ret
        exact ⟨rfl, rfl⟩
    · have hy := H3.out k hk1 (by omega)
      have c1 : ¬ (bAt u k : Int) < 97 := by omega
      have c2 : ¬ 122 < (bAt u k : Int) := by omega
      go_wp2_with fail
      go_roundg (u.size - (k + 1))
      case measure => have := Hm.out; omega
      case rel => exact ⟨k + 1, rfl, by go_num, by omega, by omega, rfl⟩

/-- A text's number. -/
def NumR (u : ByteArray) (f : Nat) : Prop := ∃ k, IF u (f, k)
theorem NumR.uniq {u : ByteArray} {f f' : Nat} (h : NumR u f) (h' : NumR u f') : f = f' := by
  obtain ⟨k, h⟩ := h
  obtain ⟨k', h'⟩ := h'
  have := h.uniq h'
  simp only [Prod.mk.injEq] at this
  exact this.1
/-- What tonum returns: the text and its number. -/
def TnRet (u : ByteArray) (e : Nat) (r : Ending) : Prop := ∃ f : Nat, r = .returned (.tuple #[.string (u.extract 0 e), .float .f64 f]) ∧ NumR (u.extract 0 e) f

set_option maxHeartbeats 1000000 in
theorem tonum_any (lo : Nat) (u : ByteArray) (e : Nat) (w : World) (hs : u.size ≤ 1048576) (hT : Tabs lo w) (hlo : lo ≤ w.heap.size) (h1 : 1 ≤ e) (h2 : e ≤ u.size) (h3 : ∀ k, k < e → nmB (bAt u k)) (h4 : e < u.size → bAt u e ≤ 32 ∨ bAt u e = 44 ∨ bAt u e = 93 ∨ bAt u e = 125) :
    Calls Tryz.prog 50 #[.string u] w fun r w' => TnRet u e r ∧ Upd NoB w w' := by
  have hB := get_bAt u
  have hnum : NumB (u.extract 0 e) := by
    intro i hi
    have hz : (u.extract 0 e).size = e := by rw [ByteArray.size_extract]; omega
    rw [bAt_extract (by omega), Nat.zero_add]
    exact h3 i (by omega)
  have HPF := Lib.hid (fun wx (hT' : Tabs lo wx) (hl : lo ≤ wx.heap.size) => ParseFloat_is lo (u.extract 0 e) wx (by rw [ByteArray.size_extract]; omega) hnum hT' hl)
  have H3 := Lib.hid h3; clear h3 hnum
  have H4 := Lib.hid h4; clear h4
  have HTs := Lib.hid hT; clear hT
  go_enter Tryz.func50, Tryz.ntmps50
  go_wp2_with fail
  go_loopg [4] (u.size - 1) (fun m v4 wr => ∃ k : Nat, m = u.size - k ∧ v4 = .int .i64 (k : Int) ∧ 1 ≤ k ∧ k ≤ e ∧ w = wr)
  case atStart => exact ⟨1, rfl, rfl, by omega, h1, rfl⟩
  case round =>
    obtain ⟨k, hm, rfl, hk1, hke, rfl⟩ := hrel
    have Hm := Lib.hid hm; clear hm
    have hb := bAt_le u k
    by_cases hlt : k < u.size
    rotate_left
    · obtain rfl : k = e := by omega
      have he : u.extract 0 k = u := by rw [show k = u.size by omega]; exact extract_all u
      rw [he] at HPF
      have HE := Lib.hid he; clear he
      go_wp2_with fail
      refine (HPF.out w HTs.out hlo).mono ?_
      rintro r w' ⟨⟨f, k9, ev, rfl, -, hI⟩, hu⟩
      have HI := Lib.hid hI; clear hI
      go_wp2_with fail
      go_ret2
      exact ⟨⟨f, by rw [HE.out]; rfl, k9, by rw [HE.out]; exact HI.out⟩, hu⟩
    have hsl := slice_to u k (by omega)
    by_cases hd : k = e
    · subst hd
      have hn := H4.out hlt
      by_cases c45 : (bAt u k : Int) ≤ 45
      · by_cases c32 : (bAt u k : Int) ≤ 32
        · go_wp2_with fail
          refine (HPF.out w HTs.out hlo).mono ?_
          rintro r w' ⟨⟨f, k9, ev, rfl, -, hI⟩, hu⟩
          have HI := Lib.hid hI; clear hI
          go_wp2_with fail
          go_ret2
          exact ⟨⟨f, rfl, k9, HI.out⟩, hu⟩
        · have e44 : ((bAt u k : Int) == 44) = true := by simp; omega
          go_wp2_with fail
          refine (HPF.out w HTs.out hlo).mono ?_
          rintro r w' ⟨⟨f, k9, ev, rfl, -, hI⟩, hu⟩
          have HI := Lib.hid hI; clear hI
          go_wp2_with fail
          go_ret2
          exact ⟨⟨f, rfl, k9, HI.out⟩, hu⟩
      · by_cases c93 : bAt u k = 93
        · have e93 : ((bAt u k : Int) == 93) = true := by rw [c93]; rfl
          go_wp2_with fail
          refine (HPF.out w HTs.out hlo).mono ?_
          rintro r w' ⟨⟨f, k9, ev, rfl, -, hI⟩, hu⟩
          have HI := Lib.hid hI; clear hI
          go_wp2_with fail
          go_ret2
          exact ⟨⟨f, rfl, k9, HI.out⟩, hu⟩
        · have e93 : ((bAt u k : Int) == 93) = false := by simp; omega
          have e125 : ((bAt u k : Int) == 125) = true := by simp; omega
          go_wp2_with fail
          refine (HPF.out w HTs.out hlo).mono ?_
          rintro r w' ⟨⟨f, k9, ev, rfl, -, hI⟩, hu⟩
          have HI := Lib.hid hI; clear hI
          go_wp2_with fail
          go_ret2
          exact ⟨⟨f, rfl, k9, HI.out⟩, hu⟩
    · have hy := H3.out k (by omega)
      unfold nmB at hy
      by_cases c45 : (bAt u k : Int) ≤ 45
      · have c32 : ¬ (bAt u k : Int) ≤ 32 := by omega
        have e44 : ((bAt u k : Int) == 44) = false := by simp; omega
        clear hy
        go_wp2_with fail
        go_roundg (u.size - (k + 1))
        case measure => have := Hm.out; omega
        case rel => exact ⟨k + 1, rfl, by go_num, by omega, by omega, rfl⟩
      · have e93 : ((bAt u k : Int) == 93) = false := by simp; omega
        have e125 : ((bAt u k : Int) == 125) = false := by simp; omega
        clear hy
        go_wp2_with fail
        go_roundg (u.size - (k + 1))
        case measure => have := Hm.out; omega
        case rel => exact ⟨k + 1, rfl, by go_num, by omega, by omega, rfl⟩
end Go.Proofs.YtggdcpmampjncaaGreatDoor
