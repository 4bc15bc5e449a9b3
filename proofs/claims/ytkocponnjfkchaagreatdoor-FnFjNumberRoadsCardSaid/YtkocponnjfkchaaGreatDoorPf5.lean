/- strconv.ParseFloat: readFloat returns, for texts of the bytes of numbers. -/
import Derived.Test.YtkocponnjfkchaaGreatDoorPf1
import Derived.Test.YtkocponnjfkchaaGreatDoorDec6
import Derived.Test.YtkocponnjfkchaaGreatDoorScope
import Derived.Test.YtkocponnjfkchaaGreatDoorFr
namespace Go.Proofs.YtkocponnjfkchaaGreatDoor
open Go.RowKit

theorem low_all : (List.range 256).all (fun c => !(decide ((48 ≤ c ∧ c ≤ 57) ∨ c = 43 ∨ c = 45 ∨ c = 46 ∨ c = 69 ∨ c = 101)) || !(bits .or .u8 (c : Int) 32 == 120)) = true := by decide +kernel
theorem low_x {c : Nat} (h : nB c) : (bits .or .u8 (c : Int) 32 == 120) = false := by
  have hc : c < 256 := by unfold nB at h; omega
  have := List.all_eq_true.1 low_all c (by simpa using hc)
  unfold nB at h
  simpa [h] using this

set_option maxHeartbeats 400000 in
theorem lower_is (c : Int) (w : World) (_h0 : 0 ≤ c) (_h1 : c ≤ 255) :
    Calls Tryz.prog 66 #[.int .u8 c] w fun e w' => e = .returned (.int .u8 (bits .or .u8 c 32)) ∧ w = w' := by
  go_enter Tryz.func66, Tryz.ntmps66
  go_wp2
  go_ret
  exact ⟨rfl, rfl⟩

/-- readFloat's loop over the digits: a step. -/
def rfS (s : ByteArray) : Nat × Int × Int × Nat × Nat × Bool × Bool × Bool → (Nat × Int × Int × Nat × Nat × Bool × Bool × Bool) ⊕ (Nat × Int × Int × Nat × Nat × Bool × Bool × Bool)
  | (k, M, dp, nd, nm, tr, b13, b14) =>
    if k < s.size then
      if bAt s k = 46 then (if b13 = true then .inr (k, M, dp, nd, nm, tr, b13, b14) else .inl (k + 1, M, (nd : Int), nd, nm, tr, true, b14))
      else if 48 ≤ bAt s k ∧ bAt s k ≤ 57 then
        (if bAt s k = 48 ∧ nd = 0 then .inl (k + 1, M, dp - 1, 0, nm, tr, b13, true)
        else if nm < 19 then .inl (k + 1, IntKind.u64.wrap (IntKind.u64.wrap (M * 10) + ((bAt s k : Int) - 48)), dp, nd + 1, nm + 1, tr, b13, true)
        else if bAt s k = 48 then .inl (k + 1, M, dp, nd + 1, nm, tr, b13, true) else .inl (k + 1, M, dp, nd + 1, nm, true, b13, true))
      else .inr (k, M, dp, nd, nm, tr, b13, b14)
    else .inr (k, M, dp, nd, nm, tr, b13, b14)
section
variable {s : ByteArray} {k : Nat} {M dp : Int} {nd nm : Nat} {tr b13 b14 : Bool}
theorem rfS_pt (h : k < s.size) (c : bAt s k = 46) : Of (rfS s) (k, M, dp, nd, nm, tr, false, b14) (.inl (k + 1, M, (nd : Int), nd, nm, tr, true, b14)) := by simp only [Of, rfS]; rw [if_pos h, if_pos c]; rfl
theorem rfS_pt2 (h : k < s.size) (c : bAt s k = 46) : Of (rfS s) (k, M, dp, nd, nm, tr, true, b14) (.inr (k, M, dp, nd, nm, tr, true, b14)) := by simp only [Of, rfS]; rw [if_pos h, if_pos c]; rfl
theorem rfS_z (h : k < s.size) (c : bAt s k = 48) : Of (rfS s) (k, M, dp, 0, nm, tr, b13, b14) (.inl (k + 1, M, dp - 1, 0, nm, tr, b13, true)) := by simp only [Of, rfS]; rw [if_pos h, if_neg (by omega), if_pos (by omega), if_pos (by simp [c])]
theorem rfS_d (h : k < s.size) (c1 : 48 ≤ bAt s k) (c2 : bAt s k ≤ 57) (c0 : ¬ (bAt s k = 48 ∧ nd = 0)) (hn : nm < 19) : Of (rfS s) (k, M, dp, nd, nm, tr, b13, b14) (.inl (k + 1, IntKind.u64.wrap (IntKind.u64.wrap (M * 10) + ((bAt s k : Int) - 48)), dp, nd + 1, nm + 1, tr, b13, true)) := by simp only [Of, rfS]; rw [if_pos h, if_neg (by omega), if_pos ⟨c1, c2⟩, if_neg c0, if_pos hn]
theorem rfS_x (h : k < s.size) (c : bAt s k = 48) (c0 : ¬ (bAt s k = 48 ∧ nd = 0)) (hn : ¬ nm < 19) : Of (rfS s) (k, M, dp, nd, nm, tr, b13, b14) (.inl (k + 1, M, dp, nd + 1, nm, tr, b13, true)) := by simp only [Of, rfS]; rw [if_pos h, if_neg (by omega), if_pos (by omega), if_neg c0, if_neg hn, if_pos c]
theorem rfS_t (h : k < s.size) (c1 : 48 ≤ bAt s k) (c2 : bAt s k ≤ 57) (c : ¬ bAt s k = 48) (hn : ¬ nm < 19) : Of (rfS s) (k, M, dp, nd, nm, tr, b13, b14) (.inl (k + 1, M, dp, nd + 1, nm, true, b13, true)) := by simp only [Of, rfS]; rw [if_pos h, if_neg (by omega), if_pos ⟨c1, c2⟩, if_neg (by omega), if_neg hn, if_neg c]
theorem rfS_o (h : k < s.size) (c2 : ¬ bAt s k = 46) (c3 : ¬ (48 ≤ bAt s k ∧ bAt s k ≤ 57)) : Of (rfS s) (k, M, dp, nd, nm, tr, b13, b14) (.inr (k, M, dp, nd, nm, tr, b13, b14)) := by simp only [Of, rfS]; rw [if_pos h, if_neg c2, if_neg c3]
theorem rfS_e (h : ¬ k < s.size) : Of (rfS s) (k, M, dp, nd, nm, tr, b13, b14) (.inr (k, M, dp, nd, nm, tr, b13, b14)) := by simp only [Of, rfS]; rw [if_neg h]
end
/-- What readFloat makes of a text: mantissa, exponent, sign, truncation, place; none where it fails. -/
abbrev RFr := Option (Int × Int × Bool × Bool × Nat)
def RF4 (M dp : Int) (nm : Nat) (tr ng : Bool) (j : Nat) (r : RFr) : Prop := r = some (M, (if (M == 0) = true then 0 else dp - (nm : Int)), ng, tr, j)
def RF3 (s : ByteArray) (M dp : Int) (nm : Nat) (tr ng : Bool) (k : Nat) (b : Bool) (r : RFr) : Prop :=
  if b = true then
    if k + 1 < s.size ∧ (sgX s k).1 < s.size ∧ 48 ≤ bAt s (sgX s k).1 ∧ bAt s (sgX s k).1 ≤ 57 then ∃ j e : Nat, Run (Of (exS s)) ((sgX s k).1, 0) (j, e) ∧ RF4 M (dp + (e : Int) * (sgX s k).2) nm tr ng j r else r = none
  else RF4 M dp nm tr ng k r
def RF2 (s : ByteArray) (ng : Bool) : Nat × Int × Int × Nat × Nat × Bool × Bool × Bool → RFr → Prop
  | (k, M, dp, nd, nm, tr, b13, b14), r => if b14 = true then RF3 s M (if b13 = true then dp else (nd : Int)) nm tr ng k (lowE s k) r else r = none
def RF (s : ByteArray) (r : RFr) : Prop :=
  if s.size = 0 then r = none else ∃ o, Run (Of (rfS s)) ((sg0 s).1, 0, 0, 0, 0, false, false, false) o ∧ RF2 s (sg0 s).2 o r
theorem RF.uniq {s : ByteArray} {r r' : RFr} (h : RF s r) (h' : RF s r') : r = r' := by
  unfold RF at h h'
  split at h
  · rename_i hc
    rw [if_pos hc] at h'
    rw [h, h']
  rename_i hc
  rw [if_neg hc] at h'
  obtain ⟨o, h1, h2⟩ := h
  obtain ⟨o', k1, k2⟩ := h'
  obtain rfl := h1.uniq (Of.uniq _) k1
  obtain ⟨k, M, dp, nd, nm, tr, b13, b14⟩ := o
  simp only [RF2] at h2 k2
  split at h2
  rotate_left
  · rename_i hc
    rw [if_neg hc] at k2
    rw [h2, k2]
  rename_i hc
  rw [if_pos hc] at k2
  unfold RF3 at h2 k2
  split at h2
  rotate_left
  · rename_i hc
    rw [if_neg hc] at k2
    unfold RF4 at h2 k2
    rw [h2, k2]
  rename_i hc
  rw [if_pos hc] at k2
  split at h2
  rotate_left
  · rename_i hc
    rw [if_neg hc] at k2
    rw [h2, k2]
  rename_i hc
  rw [if_pos hc] at k2
  obtain ⟨j, e, h3, h4⟩ := h2
  obtain ⟨j', e', k3, k4⟩ := k2
  have e1 := h3.uniq (Of.uniq _) k3
  simp only [Prod.mk.injEq] at e1
  obtain ⟨rfl, rfl⟩ := e1
  unfold RF4 at h4 k4
  rw [h4, k4]

/-- What readFloat returns: the numbers in their ranges, no hexadecimal text. -/
def RetRF (s : ByteArray) (r : Ending) : Prop := ∃ (m x : Int) (ng tr ok : Bool) (i : Nat), r = .returned (.tuple #[.int .u64 m, .int .i64 x, .bool ng, .bool tr, .bool false, .int .i64 (i : Int), .bool ok]) ∧
  0 ≤ m ∧ m ≤ 18446744073709551615 ∧ -4000000 ≤ x ∧ x ≤ 4000000 ∧ i ≤ s.size ∧ RF s (if ok = true then some (m, x, ng, tr, i) else none)

/-- The frame of readFloat. -/
theorem lit253 (g : Nat → Value) : ((List.range 253).map g).toArray = #[g 0, g 1, g 2, g 3, g 4, g 5, g 6, g 7, g 8, g 9, g 10, g 11, g 12, g 13, g 14, g 15, g 16, g 17, g 18, g 19, g 20, g 21, g 22, g 23, g 24, g 25, g 26, g 27, g 28, g 29, g 30, g 31, g 32, g 33, g 34, g 35, g 36, g 37, g 38, g 39, g 40, g 41, g 42, g 43, g 44, g 45, g 46, g 47, g 48, g 49, g 50, g 51, g 52, g 53, g 54, g 55, g 56, g 57, g 58, g 59, g 60, g 61, g 62, g 63, g 64, g 65, g 66, g 67, g 68, g 69, g 70, g 71, g 72, g 73, g 74, g 75, g 76, g 77, g 78, g 79, g 80, g 81, g 82, g 83, g 84, g 85, g 86, g 87, g 88, g 89, g 90, g 91, g 92, g 93, g 94, g 95, g 96, g 97, g 98, g 99, g 100, g 101, g 102, g 103, g 104, g 105, g 106, g 107, g 108, g 109, g 110, g 111, g 112, g 113, g 114, g 115, g 116, g 117, g 118, g 119, g 120, g 121, g 122, g 123, g 124, g 125, g 126, g 127, g 128, g 129, g 130, g 131, g 132, g 133, g 134, g 135, g 136, g 137, g 138, g 139, g 140, g 141, g 142, g 143, g 144, g 145, g 146, g 147, g 148, g 149, g 150, g 151, g 152, g 153, g 154, g 155, g 156, g 157, g 158, g 159, g 160, g 161, g 162, g 163, g 164, g 165, g 166, g 167, g 168, g 169, g 170, g 171, g 172, g 173, g 174, g 175, g 176, g 177, g 178, g 179, g 180, g 181, g 182, g 183, g 184, g 185, g 186, g 187, g 188, g 189, g 190, g 191, g 192, g 193, g 194, g 195, g 196, g 197, g 198, g 199, g 200, g 201, g 202, g 203, g 204, g 205, g 206, g 207, g 208, g 209, g 210, g 211, g 212, g 213, g 214, g 215, g 216, g 217, g 218, g 219, g 220, g 221, g 222, g 223, g 224, g 225, g 226, g 227, g 228, g 229, g 230, g 231, g 232, g 233, g 234, g 235, g 236, g 237, g 238, g 239, g 240, g 241, g 242, g 243, g 244, g 245, g 246, g 247, g 248, g 249, g 250, g 251, g 252] := by kernel_rfl

/-- The frame's named slots as the digit loop has them. -/
structure RFst (s : ByteArray) (ng : Bool) (M dp : Int) (k nd nm : Nat) (tr b13 b14 : Bool) (g : Nat → Value) : Prop where
  e0 : g 0 = .string s
  e2 : g 2 = .int .u64 M
  e3 : g 3 = .int .i64 0
  e4 : g 4 = .bool ng
  e5 : g 5 = .bool tr
  e6 : g 6 = .bool false
  e7 : g 7 = .int .i64 (k : Int)
  e8 : g 8 = .bool false
  e9 : g 9 = .bool false
  e10 : g 10 = .int .u64 10
  e11 : g 11 = .int .i64 19
  e12 : g 12 = .int .u8 101
  e13 : g 13 = .bool b13
  e14 : g 14 = .bool b14
  e15 : g 15 = .int .i64 (nd : Int)
  e16 : g 16 = .int .i64 (nm : Int)
  e17 : g 17 = .int .i64 dp
/-- The state's bounds. -/
def RFok (s : ByteArray) (M dp : Int) (k nd nm : Nat) : Prop := 0 ≤ M ∧ M ≤ 18446744073709551615 ∧ k ≤ s.size ∧ nd ≤ k ∧ nm ≤ 19 ∧ -(k : Int) ≤ dp ∧ dp ≤ k

set_option maxHeartbeats 4000000 in
set_option maxRecDepth 4000 in
theorem readFloat_any (s : ByteArray) (w : World) (hs : s.size ≤ 1048576) (h : NumB s) :
    Calls Tryz.prog 77 #[.string s] w fun r w' => RetRF s r ∧ w = w' := by
  have hB := get_bAt s
  go_enter Tryz.func77, Tryz.ntmps77
  go_wp2_with fail
  refine wp_scope_down (fun _ _ _ => False) ?_ (fun _ _ _ h => h.elim)
  by_cases hz : s.size = 0
  · as_aux_lemma =>
      go_wp2_with fail
      rw [jumps_ret]
      refine bodyPost_ret (results_tmp7 rfl _ _ _) rfl ?_
      exact ⟨⟨_, _, _, _, false, 0, rfl, by omega, by omega, by omega, by omega, by omega, by unfold RF; rw [if_pos hz]; rfl⟩, rfl⟩
  have HRF : Hid (∀ o r, Run (Of (rfS s)) ((sg0 s).1, 0, 0, 0, 0, false, false, false) o → RF2 s (sg0 s).2 o r → RF s r) := Lib.hid fun o r k1 k2 => by unfold RF; rw [if_neg hz]; exact ⟨o, k1, k2⟩
  have hb0 := bAt_le s 0
  go_upto_block 0 with (fail)
  refine wp_cut (FR 253 (fun g wx => ∃ (k : Nat) (ng : Bool), (g 0 = .string s ∧ g 2 = .int .u64 0 ∧ g 3 = .int .i64 0 ∧ g 4 = .bool ng ∧ g 5 = .bool false ∧ g 6 = .bool false ∧ g 7 = .int .i64 (k : Int) ∧ g 8 = .bool false ∧ g 9 = .bool false) ∧ k ≤ 1 ∧ (k, ng) = sg0 s ∧ w = wx)) ?rest ?first
  case first =>
    intro J K' hJ hK
    by_cases c43 : bAt s 0 = 43
    · have e43 : (bAt s 0 : Int) = 43 := by omega
      have HG : Hid ((1, false) = sg0 s) := Lib.hid (by unfold sg0; rw [if_pos c43])
      clear c43
      as_aux_lemma =>
        go_wp2_with fail
        refine Met.intro ?_
        go_step
        refine FR.intro (by rfl) ?_
        exact ⟨1, false, ⟨rfl, rfl, rfl, rfl, rfl, rfl, rfl, rfl, rfl⟩, by omega, HG.out, rfl⟩
    have e43 : ((bAt s 0 : Int) == 43) = false := by simp; omega
    by_cases c45 : bAt s 0 = 45
    · have e45 : (bAt s 0 : Int) = 45 := by omega
      have HG : Hid ((1, true) = sg0 s) := Lib.hid (by unfold sg0; rw [if_neg c43, if_pos c45])
      clear c43 c45
      as_aux_lemma =>
        go_wp2_with fail
        refine Met.intro ?_
        go_step
        refine FR.intro (by rfl) ?_
        exact ⟨1, true, ⟨rfl, rfl, rfl, rfl, rfl, rfl, rfl, rfl, rfl⟩, by omega, HG.out, rfl⟩
    · have e45 : ((bAt s 0 : Int) == 45) = false := by simp; omega
      have HG : Hid ((0, false) = sg0 s) := Lib.hid (by unfold sg0; rw [if_neg c43, if_neg c45])
      clear c43 c45
      as_aux_lemma =>
        go_wp2_with fail
        refine Met.intro ?_
        go_step
        refine FR.intro (by rfl) ?_
        exact ⟨0, false, ⟨rfl, rfl, rfl, rfl, rfl, rfl, rfl, rfl, rfl⟩, by omega, HG.out, rfl⟩
  case rest =>
  refine FR.rest ?_
  intro g wc hcut
  rw [lit253]
  obtain ⟨k0, ng, ⟨e0, e2, e3, e4, e5, e6, e7, e8, e9⟩, hk0, hsg0, rfl⟩ := hcut
  have HR1 : Hid (∀ o r, Run (Of (rfS s)) (k0, 0, 0, 0, 0, false, false, false) o → RF2 s ng o r → RF s r) := Lib.hid fun o r k1 k2 => HRF.out o r (by rw [← hsg0]; exact k1) (by rw [← hsg0]; exact k2)
  clear hsg0 HRF
  simp only [e0, e2, e3, e4, e5, e6, e7, e8, e9]
  clear e0 e2 e3 e4 e5 e6 e7 e8 e9
  go_upto_region 12 with (fail)
  have hb1 := bAt_le s k0
  have hb2 := bAt_le s (k0 + 1)
  refine wp_cut (FR 253 (fun g wx => (g 0 = .string s ∧ g 2 = .int .u64 0 ∧ g 3 = .int .i64 0 ∧ g 4 = .bool ng ∧ g 5 = .bool false ∧ g 6 = .bool false ∧ g 7 = .int .i64 (k0 : Int) ∧ g 8 = .bool false ∧ g 9 = .bool false ∧ g 10 = .int .u64 10 ∧ g 11 = .int .i64 19 ∧ g 12 = .int .u8 101 ∧ g 54 = .bool false) ∧ w = wx)) ?rest ?first
  case first =>
    intro J K' hJ hK
    by_cases h2 : (k0 : Int) + 2 < s.size
    · have hx := low_x (h (k0 + 1) (by omega))
      by_cases h48 : (bAt s k0 : Int) = 48
      · as_aux_lemma =>
          go_wp2_with (go_at_call 66; refine (lower_is _ _ (by omega) (by omega)).mono ?_; rintro e w' ⟨rfl, rfl⟩)
          refine Met.intro ?_
          go_step
          refine FR.intro (by rfl) ?_
          exact ⟨⟨rfl, rfl, rfl, rfl, rfl, rfl, rfl, rfl, rfl, rfl, rfl, rfl, rfl⟩, rfl⟩
      · have h48' : ((bAt s k0 : Int) == 48) = false := by simpa using h48
        as_aux_lemma =>
          go_wp2_with fail
          refine Met.intro ?_
          go_step
          refine FR.intro (by rfl) ?_
          exact ⟨⟨rfl, rfl, rfl, rfl, rfl, rfl, rfl, rfl, rfl, rfl, rfl, rfl, rfl⟩, rfl⟩
    · as_aux_lemma =>
        go_wp2_with fail
        refine Met.intro ?_
        go_step
        refine FR.intro (by rfl) ?_
        exact ⟨⟨rfl, rfl, rfl, rfl, rfl, rfl, rfl, rfl, rfl, rfl, rfl, rfl, rfl⟩, rfl⟩
  case rest =>
  refine FR.rest ?_
  intro g wc hcut
  rw [lit253]
  obtain ⟨⟨e0, e2, e3, e4, e5, e6, e7, e8, e9, e10, e11, e12, e54⟩, rfl⟩ := hcut
  simp only [e0, e2, e3, e4, e5, e6, e7, e8, e9, e10, e11, e12, e54]
  clear e0 e2 e3 e4 e5 e6 e7 e8 e9 e10 e11 e12 e54
  go_wp2_with fail
  refine wp_label ?_
  go_upto_block 1 with (fail)
  refine wp_cut (FR 253 (fun g wx => ∃ (M dp : Int) (k nd nm : Nat) (tr b13 b14 : Bool), RFst s ng M dp k nd nm tr b13 b14 g ∧ RFok s M dp k nd nm ∧ (∀ r, RF2 s ng (k, M, dp, nd, nm, tr, b13, b14) r → RF s r) ∧ w = wx)) ?rest ?first
  case first =>
    intro J K' hJ hK
    go_wp2_with fail
    refine wp_loop_ghost_k (fun mm => FR 253 (fun g wx => ∃ (M dp : Int) (k nd nm : Nat) (tr b13 b14 : Bool), mm = s.size - k ∧ RFst s ng M dp k nd nm tr b13 b14 g ∧ RFok s M dp k nd nm ∧ (∀ o r, Run (Of (rfS s)) (k, M, dp, nd, nm, tr, b13, b14) o → RF2 s ng o r → RF s r) ∧ w = wx)) (s.size - k0) ?atStart ?round
    case atStart =>
      refine FR.intro (by rfl) ?_
      exact ⟨0, 0, k0, 0, 0, false, false, false, rfl, ⟨rfl, rfl, rfl, rfl, rfl, rfl, rfl, rfl, rfl, rfl, rfl, rfl, rfl, rfl, rfl, rfl, rfl⟩, by unfold RFok; omega, HR1.out, rfl⟩
    case round =>
      intro gk
      refine FR.rest ?_
      rintro g wr ⟨M, dp, k, nd, nm, tr, b13, b14, hm, ⟨e0, e2, e3, e4, e5, e6, e7, e8, e9, e10, e11, e12, e13, e14, e15, e16, e17⟩, hok, hRS, rfl⟩
      have HRS := Lib.hid hRS; clear hRS
      rw [lit253]
      simp only [e0, e2, e3, e4, e5, e6, e7, e8, e9, e10, e11, e12, e13, e14, e15, e16, e17]
      clear e0 e2 e3 e4 e5 e6 e7 e8 e9 e10 e11 e12 e13 e14 e15 e16 e17
      intro J2 K2 hJ2 hK2
      obtain ⟨hM0, hM1, hk, hnd, hnm, hd0, hd1⟩ := hok
      have Hm := Lib.hid hm; clear hm
      have hb := bAt_le s k
      by_cases hlt : k < s.size
      · have hn := h k hlt
        unfold nB at hn
        have e95 : ((bAt s k : Int) == 95) = false := by simp; omega
        by_cases c46 : bAt s k = 46
        · have e1 : ((bAt s k : Int) == 46) = true := by rw [c46]; rfl
          cases b13
          · have : True := trivial
            as_aux_lemma =>
              go_wp2_with fail
              refine Handed.intro (s.size - (k + 1)) ?_ ?_
              · have := Hm.out; omega
              go_step
              refine FR.intro (by rfl) ?_
              exact ⟨M, nd, k + 1, nd, nm, tr, true, b14, rfl, ⟨rfl, rfl, rfl, rfl, rfl, rfl, rfl, rfl, rfl, rfl, rfl, rfl, rfl, rfl, rfl, rfl, rfl⟩, by unfold RFok; omega, fun o r hr => HRS.out o r (.step (rfS_pt hlt c46) hr), rfl⟩
          · have : True := trivial
            as_aux_lemma =>
              go_wp2_with fail
              refine Met.intro ?_
              go_step
              refine FR.intro (by rfl) ?_
              exact ⟨M, dp, k, nd, nm, tr, true, b14, ⟨rfl, rfl, rfl, rfl, rfl, rfl, rfl, rfl, rfl, rfl, rfl, rfl, rfl, rfl, rfl, rfl, rfl⟩, by unfold RFok; omega, fun r hr => HRS.out _ r (.done (rfS_pt2 hlt c46)) hr, rfl⟩
        have e46 : ((bAt s k : Int) == 46) = false := by simp; omega
        by_cases cd : 48 ≤ (bAt s k : Int) ∧ (bAt s k : Int) ≤ 57
        · obtain ⟨cd1, cd2⟩ := cd
          by_cases c0 : bAt s k = 48 ∧ nd = 0
          · obtain ⟨c48, rfl⟩ := c0
            have e1 : ((bAt s k : Int) == 48) = true := by rw [c48]; rfl
            as_aux_lemma =>
              go_wp2_with fail
              refine Handed.intro (s.size - (k + 1)) ?_ ?_
              · have := Hm.out; omega
              go_step
              refine FR.intro (by rfl) ?_
              exact ⟨M, dp - 1, k + 1, 0, nm, tr, b13, true, rfl, ⟨rfl, rfl, rfl, rfl, rfl, rfl, rfl, rfl, rfl, rfl, rfl, rfl, rfl, rfl, rfl, rfl, by simp only [slotOf] <;> go_num⟩, by unfold RFok; omega, fun o r hr => HRS.out o r (.step (rfS_z hlt c48) hr), rfl⟩
          · have HC0 : Hid (¬ (bAt s k = 48 ∧ nd = 0)) := Lib.hid c0
            have c00 : ((bAt s k : Int) == 48) = false ∨ (((bAt s k : Int) == 48) = true ∧ ((nd : Int) == 0) = false) := by
              simp only [beq_eq_false_iff_ne, beq_iff_eq, ne_eq]; omega
            by_cases hn19 : nm < 19
            · rcases c00 with e1 | ⟨e1, e2⟩
              · have : True := trivial
                as_aux_lemma =>
                  go_wp2_with fail
                  refine Handed.intro (s.size - (k + 1)) ?_ ?_
                  · have := Hm.out; omega
                  go_step
                  refine FR.intro (by rfl) ?_
                  exact ⟨IntKind.u64.wrap (IntKind.u64.wrap (M * 10) + ((bAt s k : Int) - 48)), dp, k + 1, nd + 1, nm + 1, tr, b13, true, rfl, ⟨rfl, rfl, rfl, rfl, rfl, rfl, rfl, rfl, rfl, rfl, rfl, rfl, rfl, rfl, rfl, rfl, rfl⟩, ⟨(u64_rng _).1, (u64_rng _).2, by omega, by omega, by omega, by omega, by omega⟩, fun o r hr => HRS.out o r (.step (rfS_d hlt (by omega) (by omega) HC0.out hn19) hr), rfl⟩
              · have : True := trivial
                as_aux_lemma =>
                  go_wp2_with fail
                  refine Handed.intro (s.size - (k + 1)) ?_ ?_
                  · have := Hm.out; omega
                  go_step
                  refine FR.intro (by rfl) ?_
                  exact ⟨IntKind.u64.wrap (IntKind.u64.wrap (M * 10) + ((bAt s k : Int) - 48)), dp, k + 1, nd + 1, nm + 1, tr, b13, true, rfl, ⟨rfl, rfl, rfl, rfl, rfl, rfl, rfl, rfl, rfl, rfl, rfl, rfl, rfl, rfl, rfl, rfl, rfl⟩, ⟨(u64_rng _).1, (u64_rng _).2, by omega, by omega, by omega, by omega, by omega⟩, fun o r hr => HRS.out o r (.step (rfS_d hlt (by omega) (by omega) HC0.out hn19) hr), rfl⟩
            · rcases c00 with e1 | ⟨e1, e2⟩
              · have e3 : ((bAt s k : Int) != 48) = true := by simpa using e1
                have HC48 : Hid (¬ bAt s k = 48) := Lib.hid (by have : ¬ ((bAt s k : Int) = 48) := by simpa using e1
                                                                omega)
                as_aux_lemma =>
                  go_wp2_with fail
                  refine Handed.intro (s.size - (k + 1)) ?_ ?_
                  · have := Hm.out; omega
                  go_step
                  refine FR.intro (by rfl) ?_
                  exact ⟨M, dp, k + 1, nd + 1, nm, true, b13, true, rfl, ⟨rfl, rfl, rfl, rfl, rfl, rfl, rfl, rfl, rfl, rfl, rfl, rfl, rfl, rfl, rfl, rfl, rfl⟩, by unfold RFok; omega, fun o r hr => HRS.out o r (.step (rfS_t hlt (by omega) (by omega) HC48.out (by omega)) hr), rfl⟩
              · have e3 : ((bAt s k : Int) != 48) = false := by simpa using e1
                have HC48 : Hid (bAt s k = 48) := Lib.hid (by have : ((bAt s k : Int) = 48) := by simpa using e1
                                                              omega)
                as_aux_lemma =>
                  go_wp2_with fail
                  refine Handed.intro (s.size - (k + 1)) ?_ ?_
                  · have := Hm.out; omega
                  go_step
                  refine FR.intro (by rfl) ?_
                  exact ⟨M, dp, k + 1, nd + 1, nm, tr, b13, true, rfl, ⟨rfl, rfl, rfl, rfl, rfl, rfl, rfl, rfl, rfl, rfl, rfl, rfl, rfl, rfl, rfl, rfl, rfl⟩, by unfold RFok; omega, fun o r hr => HRS.out o r (.step (rfS_x hlt HC48.out HC0.out (by omega)) hr), rfl⟩
        · have cd' : (bAt s k : Int) < 48 ∨ (48 ≤ (bAt s k : Int) ∧ 57 < (bAt s k : Int)) := by omega
          rcases cd' with e1 | ⟨e1, e2⟩
          · have : True := trivial
            as_aux_lemma =>
              go_wp2_with fail
              refine Met.intro ?_
              go_step
              refine FR.intro (by rfl) ?_
              exact ⟨M, dp, k, nd, nm, tr, b13, b14, ⟨rfl, rfl, rfl, rfl, rfl, rfl, rfl, rfl, rfl, rfl, rfl, rfl, rfl, rfl, rfl, rfl, rfl⟩, by unfold RFok; omega, fun r hr => HRS.out _ r (.done (rfS_o hlt c46 (by omega))) hr, rfl⟩
          · have : True := trivial
            as_aux_lemma =>
              go_wp2_with fail
              refine Met.intro ?_
              go_step
              refine FR.intro (by rfl) ?_
              exact ⟨M, dp, k, nd, nm, tr, b13, b14, ⟨rfl, rfl, rfl, rfl, rfl, rfl, rfl, rfl, rfl, rfl, rfl, rfl, rfl, rfl, rfl, rfl, rfl⟩, by unfold RFok; omega, fun r hr => HRS.out _ r (.done (rfS_o hlt c46 (by omega))) hr, rfl⟩
      · have : True := trivial
        as_aux_lemma =>
          go_wp2_with fail
          refine Met.intro ?_
          go_step
          refine FR.intro (by rfl) ?_
          exact ⟨M, dp, k, nd, nm, tr, b13, b14, ⟨rfl, rfl, rfl, rfl, rfl, rfl, rfl, rfl, rfl, rfl, rfl, rfl, rfl, rfl, rfl, rfl, rfl⟩, by unfold RFok; omega, fun r hr => HRS.out _ r (.done (rfS_e hlt)) hr, rfl⟩
  case rest =>
  refine FR.rest ?_
  rintro g wc ⟨M, dp, k, nd, nm, tr, b13, b14, ⟨e0, e2, e3, e4, e5, e6, e7, e8, e9, e10, e11, e12, e13, e14, e15, e16, e17⟩, hok, hR2, rfl⟩
  have HR2 := Lib.hid hR2; clear hR2 HR1
  rw [lit253]
  simp only [e0, e2, e3, e4, e5, e6, e7, e8, e9, e10, e11, e12, e13, e14, e15, e16, e17]
  clear e0 e2 e3 e4 e5 e6 e7 e8 e9 e10 e11 e12 e13 e14 e15 e16 e17
  obtain ⟨hM0, hM1, hk, hnd, hnm, hd0, hd1⟩ := hok
  have hb := bAt_le s k
  clear hb0 hb1 hb2 hk0
  cases b14
  · have : True := trivial
    as_aux_lemma =>
      go_wp2_with fail
      rw [jumps_ret]
      refine bodyPost_ret (results_tmp7 rfl _ _ _) rfl ?_
      exact ⟨⟨_, _, _, _, false, k, rfl, by omega, by omega, by omega, by omega, by omega, HR2.out none (by simp [RF2])⟩, rfl⟩
  go_upto_if 142 with (fail)
  refine wp_cut (FR 253 (fun g wx => ∃ (dp' : Int), (g 0 = .string s ∧ g 2 = .int .u64 M ∧ g 3 = .int .i64 0 ∧ g 4 = .bool ng ∧ g 5 = .bool tr ∧ g 6 = .bool false ∧ g 7 = .int .i64 (k : Int) ∧ g 8 = .bool false ∧ g 9 = .bool false ∧ g 10 = .int .u64 10 ∧ g 12 = .int .u8 101 ∧ g 16 = .int .i64 (nm : Int) ∧ g 17 = .int .i64 dp') ∧ -(k : Int) ≤ dp' ∧ dp' ≤ k ∧ (∀ r, RF3 s M dp' nm tr ng k (lowE s k) r → RF s r) ∧ w = wx)) ?rest ?first
  case first =>
    intro J K' hJ hK
    cases b13
    · have : True := trivial
      as_aux_lemma =>
        go_wp2_with fail
        refine Met.intro ?_
        go_step
        refine FR.intro (by rfl) ?_
        exact ⟨nd, ⟨rfl, rfl, rfl, rfl, rfl, rfl, rfl, rfl, rfl, rfl, rfl, rfl, rfl⟩, by omega, by omega, fun r hr => HR2.out r (by simpa [RF2] using hr), rfl⟩
    · have : True := trivial
      as_aux_lemma =>
        go_wp2_with fail
        refine Met.intro ?_
        go_step
        refine FR.intro (by rfl) ?_
        exact ⟨dp, ⟨rfl, rfl, rfl, rfl, rfl, rfl, rfl, rfl, rfl, rfl, rfl, rfl, rfl⟩, by omega, by omega, fun r hr => HR2.out r (by simpa [RF2] using hr), rfl⟩
  case rest =>
  refine FR.rest ?_
  rintro g wc ⟨dp', ⟨e0, e2, e3, e4, e5, e6, e7, e8, e9, e10, e12, e16, e17⟩, hp0, hp1, hR3, rfl⟩
  have HR3 := Lib.hid hR3; clear hR3 HR2
  rw [lit253]
  simp only [e0, e2, e3, e4, e5, e6, e7, e8, e9, e10, e12, e16, e17]
  clear e0 e2 e3 e4 e5 e6 e7 e8 e9 e10 e12 e16 e17
  clear hd0 hd1
  go_upto_region 57 with (fail)
  refine wp_cut (FR 253 (fun g wx => ∃ bx : Bool, (g 0 = .string s ∧ g 2 = .int .u64 M ∧ g 3 = .int .i64 0 ∧ g 4 = .bool ng ∧ g 5 = .bool tr ∧ g 6 = .bool false ∧ g 7 = .int .i64 (k : Int) ∧ g 8 = .bool false ∧ g 9 = .bool false ∧ g 10 = .int .u64 10 ∧ g 16 = .int .i64 (nm : Int) ∧ g 17 = .int .i64 dp' ∧ g 161 = .bool bx) ∧ (bx = true → k < s.size) ∧ bx = lowE s k ∧ w = wx)) ?rest ?first
  case first =>
    intro J K' hJ hK
    by_cases hlt : k < s.size
    · have : True := trivial
      as_aux_lemma =>
        go_wp2_with (go_at_call 66; refine (lower_is _ _ (by omega) (by omega)).mono ?_; rintro e w' ⟨rfl, rfl⟩)
        refine Met.intro ?_
        go_step
        refine FR.intro (by rfl) ?_
        exact ⟨_, ⟨rfl, rfl, rfl, rfl, rfl, rfl, rfl, rfl, rfl, rfl, rfl, rfl, rfl⟩, fun _ => hlt, by unfold lowE; rw [decide_eq_true hlt, Bool.true_and], rfl⟩
    · have : True := trivial
      as_aux_lemma =>
        go_wp2_with fail
        refine Met.intro ?_
        go_step
        refine FR.intro (by rfl) ?_
        exact ⟨false, ⟨rfl, rfl, rfl, rfl, rfl, rfl, rfl, rfl, rfl, rfl, rfl, rfl, rfl⟩, (fun h => by cases h), by unfold lowE; rw [decide_eq_false hlt, Bool.false_and], rfl⟩
  case rest =>
  refine FR.rest ?_
  rintro g wc ⟨bx, ⟨e0, e2, e3, e4, e5, e6, e7, e8, e9, e10, e16, e17, e161⟩, hbx, hlow, rfl⟩
  have HR4 : Hid (∀ r, RF3 s M dp' nm tr ng k bx r → RF s r) := Lib.hid fun r hr => HR3.out r (by rw [← hlow]; exact hr)
  clear HR3 hlow
  rw [lit253]
  simp only [e0, e2, e3, e4, e5, e6, e7, e8, e9, e10, e16, e17, e161]
  clear e0 e2 e3 e4 e5 e6 e7 e8 e9 e10 e16 e17 e161
  go_upto_if 161 with (fail)
  refine wp_cut (FR 253 (fun g wx => ∃ (x : Int) (k' : Nat), (g 0 = .string s ∧ g 2 = .int .u64 M ∧ g 3 = .int .i64 0 ∧ g 4 = .bool ng ∧ g 5 = .bool tr ∧ g 6 = .bool false ∧ g 7 = .int .i64 (k' : Int) ∧ g 8 = .bool false ∧ g 9 = .bool false ∧ g 16 = .int .i64 (nm : Int) ∧ g 17 = .int .i64 x) ∧ -2000000 ≤ x ∧ x ≤ 2000000 ∧ k' ≤ s.size ∧ (∀ r, RF4 M x nm tr ng k' r → RF s r) ∧ w = wx)) ?rest ?first
  case first =>
    intro J K' hJ hK
    cases bx
    · have : True := trivial
      as_aux_lemma =>
        go_wp2_with fail
        refine Met.intro ?_
        go_step
        refine FR.intro (by rfl) ?_
        exact ⟨dp', k, ⟨rfl, rfl, rfl, rfl, rfl, rfl, rfl, rfl, rfl, rfl, rfl⟩, by omega, by omega, hk, fun r hr => HR4.out r (by unfold RF3; exact hr), rfl⟩
    have hlt := hbx rfl
    clear hbx
    by_cases hlt1 : k + 1 < s.size
    rotate_left
    · have : True := trivial
      as_aux_lemma =>
        go_wp2_with fail
        rw [jumps_ret]
        refine bodyPost_ret (results_tmp7 rfl _ _ _) rfl ?_
        exact ⟨⟨_, _, _, _, false, k + 1, rfl, by omega, by omega, by omega, by omega, by omega, HR4.out none (by unfold RF3; rw [if_pos rfl, if_neg (by omega)])⟩, rfl⟩
    have hb1 := bAt_le s (k + 1)
    have hn1 := h (k + 1) hlt1
    unfold nB at hn1
    go_upto_block 4 with (fail)
    refine wp_cut (FR 253 (fun g wx => ∃ (sg : Int) (k' : Nat), (g 0 = .string s ∧ g 2 = .int .u64 M ∧ g 3 = .int .i64 0 ∧ g 4 = .bool ng ∧ g 5 = .bool tr ∧ g 6 = .bool false ∧ g 7 = .int .i64 (k' : Int) ∧ g 8 = .bool false ∧ g 9 = .bool false ∧ g 16 = .int .i64 (nm : Int) ∧ g 17 = .int .i64 dp' ∧ g 19 = .int .i64 sg) ∧ (sg = 1 ∨ sg = -1) ∧ k' ≤ s.size ∧ (k', sg) = sgX s k ∧ w = wx)) ?restB ?firstB
    case firstB =>
      intro J3 K3 hJ3 hK3
      by_cases c43 : bAt s (k + 1) = 43
      · have e1 : ((bAt s (k + 1) : Int) == 43) = true := by rw [c43]; rfl
        have HG : Hid ((k + 2, (1 : Int)) = sgX s k) := Lib.hid (by unfold sgX; rw [if_pos c43])
        as_aux_lemma =>
          go_wp2_with fail
          refine Met.intro ?_
          go_step
          refine FR.intro (by rfl) ?_
          exact ⟨1, k + 2, ⟨rfl, rfl, rfl, rfl, rfl, rfl, rfl, rfl, rfl, rfl, rfl, rfl⟩, .inl rfl, by omega, HG.out, rfl⟩
      have e43 : ((bAt s (k + 1) : Int) == 43) = false := by simp; omega
      by_cases c45 : bAt s (k + 1) = 45
      · have e1 : ((bAt s (k + 1) : Int) == 45) = true := by rw [c45]; rfl
        have HG : Hid ((k + 2, (-1 : Int)) = sgX s k) := Lib.hid (by unfold sgX; rw [if_neg c43, if_pos c45])
        as_aux_lemma =>
          go_wp2_with fail
          refine Met.intro ?_
          go_step
          refine FR.intro (by rfl) ?_
          exact ⟨-1, k + 2, ⟨rfl, rfl, rfl, rfl, rfl, rfl, rfl, rfl, rfl, rfl, rfl, rfl⟩, .inr rfl, by omega, HG.out, rfl⟩
      have e45 : ((bAt s (k + 1) : Int) == 45) = false := by simp; omega
      have HG : Hid ((k + 1, (1 : Int)) = sgX s k) := Lib.hid (by unfold sgX; rw [if_neg c43, if_neg c45])
      clear c43 c45
      as_aux_lemma =>
        go_wp2_with fail
        refine Met.intro ?_
        go_step
        refine FR.intro (by rfl) ?_
        exact ⟨1, k + 1, ⟨rfl, rfl, rfl, rfl, rfl, rfl, rfl, rfl, rfl, rfl, rfl, rfl⟩, .inl rfl, by omega, HG.out, rfl⟩
    case restB =>
    refine FR.rest ?_
    rintro g wc ⟨sg, k1, ⟨e0, e2, e3, e4, e5, e6, e7, e8, e9, e16, e17, e19⟩, hsg, hk1, hsx, rfl⟩
    have HSX := Lib.hid hsx; clear hsx
    have HBad : Hid (¬ (k1 < s.size ∧ 48 ≤ bAt s k1 ∧ bAt s k1 ≤ 57) → RF s none) := Lib.hid fun hb => HR4.out none (by unfold RF3; rw [if_pos rfl, if_neg (by rw [← HSX.out]; exact fun h => hb h.2)])
    rw [lit253]
    simp only [e0, e2, e3, e4, e5, e6, e7, e8, e9, e16, e17, e19]
    clear e0 e2 e3 e4 e5 e6 e7 e8 e9 e16 e17 e19
    have hb2 := bAt_le s k1
    by_cases hl1 : k1 < s.size
    rotate_left
    · have : True := trivial
      as_aux_lemma =>
        go_wp2_with fail
        rw [jumps_ret]
        refine bodyPost_ret (results_tmp7 rfl _ _ _) rfl ?_
        exact ⟨⟨_, _, _, _, false, k1, rfl, by omega, by omega, by omega, by omega, by omega, HBad.out (by omega)⟩, rfl⟩
    by_cases hc1 : 48 ≤ (bAt s k1 : Int)
    rotate_left
    · have : True := trivial
      as_aux_lemma =>
        go_wp2_with fail
        rw [jumps_ret]
        refine bodyPost_ret (results_tmp7 rfl _ _ _) rfl ?_
        exact ⟨⟨_, _, _, _, false, k1, rfl, by omega, by omega, by omega, by omega, by omega, HBad.out (by omega)⟩, rfl⟩
    by_cases hc2 : (bAt s k1 : Int) ≤ 57
    rotate_left
    · have : True := trivial
      as_aux_lemma =>
        go_wp2_with fail
        rw [jumps_ret]
        refine bodyPost_ret (results_tmp7 rfl _ _ _) rfl ?_
        exact ⟨⟨_, _, _, _, false, k1, rfl, by omega, by omega, by omega, by omega, by omega, HBad.out (by omega)⟩, rfl⟩
    go_upto_block 5 with (fail)
    refine wp_cut (FR 253 (fun g wx => ∃ (e : Nat) (k' : Nat), (g 0 = .string s ∧ g 2 = .int .u64 M ∧ g 3 = .int .i64 0 ∧ g 4 = .bool ng ∧ g 5 = .bool tr ∧ g 6 = .bool false ∧ g 7 = .int .i64 (k' : Int) ∧ g 8 = .bool false ∧ g 9 = .bool false ∧ g 16 = .int .i64 (nm : Int) ∧ g 17 = .int .i64 dp' ∧ g 19 = .int .i64 sg ∧ g 20 = .int .i64 (e : Int)) ∧ e ≤ 100009 ∧ k' ≤ s.size ∧ Run (Of (exS s)) (k1, 0) (k', e) ∧ w = wx)) ?restC ?firstC
    case firstC =>
      intro J3 K3 hJ3 hK3
      go_wp2_with fail
      refine wp_loop_ghost_k (fun mm => FR 253 (fun g wx => ∃ (e : Nat) (k' : Nat), mm = s.size - k' ∧ (g 0 = .string s ∧ g 2 = .int .u64 M ∧ g 3 = .int .i64 0 ∧ g 4 = .bool ng ∧ g 5 = .bool tr ∧ g 6 = .bool false ∧ g 7 = .int .i64 (k' : Int) ∧ g 8 = .bool false ∧ g 9 = .bool false ∧ g 16 = .int .i64 (nm : Int) ∧ g 17 = .int .i64 dp' ∧ g 19 = .int .i64 sg ∧ g 20 = .int .i64 (e : Int)) ∧ e ≤ 100009 ∧ k' ≤ s.size ∧ (∀ y, Run (Of (exS s)) (k', e) y → Run (Of (exS s)) (k1, 0) y) ∧ w = wx)) (s.size - k1) ?atStart ?round
      case atStart =>
        refine FR.intro (by rfl) ?_
        exact ⟨0, k1, rfl, ⟨rfl, rfl, rfl, rfl, rfl, rfl, rfl, rfl, rfl, rfl, rfl, rfl, rfl⟩, by omega, hk1, fun _ h => h, rfl⟩
      case round =>
        intro gk
        refine FR.rest ?_
        rintro g wc ⟨e, k2, hm, ⟨e0, e2, e3, e4, e5, e6, e7, e8, e9, e16, e17, e19, e20⟩, he1, hk2, hRX, rfl⟩
        have HRX := Lib.hid hRX; clear hRX
        rw [lit253]
        simp only [e0, e2, e3, e4, e5, e6, e7, e8, e9, e16, e17, e19, e20]
        clear e0 e2 e3 e4 e5 e6 e7 e8 e9 e16 e17 e19 e20
        intro J4 K4 hJ4 hK4
        have Hm := Lib.hid hm; clear hm
        have hb3 := bAt_le s k2
        by_cases hl2 : k2 < s.size
        rotate_left
        · have : True := trivial
          as_aux_lemma =>
            go_wp2_with fail
            refine Met.intro ?_
            go_step
            refine FR.intro (by rfl) ?_
            exact ⟨e, k2, ⟨rfl, rfl, rfl, rfl, rfl, rfl, rfl, rfl, rfl, rfl, rfl, rfl, rfl⟩, he1, hk2, HRX.out _ (.done (exS_e hl2)), rfl⟩
        have hn2 := h k2 hl2
        unfold nB at hn2
        have e95 : ((bAt s k2 : Int) == 95) = false := by simp; omega
        by_cases hd1 : 48 ≤ (bAt s k2 : Int)
        rotate_left
        · have : True := trivial
          as_aux_lemma =>
            go_wp2_with fail
            refine Met.intro ?_
            go_step
            refine FR.intro (by rfl) ?_
            exact ⟨e, k2, ⟨rfl, rfl, rfl, rfl, rfl, rfl, rfl, rfl, rfl, rfl, rfl, rfl, rfl⟩, he1, hk2, HRX.out _ (.done (exS_o hl2 (by omega) (by omega))), rfl⟩
        by_cases hd2 : (bAt s k2 : Int) ≤ 57
        rotate_left
        · have : True := trivial
          as_aux_lemma =>
            go_wp2_with fail
            refine Met.intro ?_
            go_step
            refine FR.intro (by rfl) ?_
            exact ⟨e, k2, ⟨rfl, rfl, rfl, rfl, rfl, rfl, rfl, rfl, rfl, rfl, rfl, rfl, rfl⟩, he1, hk2, HRX.out _ (.done (exS_o hl2 (by omega) (by omega))), rfl⟩
        by_cases he4 : (e : Int) < 10000
        · have : True := trivial
          as_aux_lemma =>
            go_wp2_with fail
            refine Handed.intro (s.size - (k2 + 1)) ?_ ?_
            · have := Hm.out; omega
            go_step
            refine FR.intro (by rfl) ?_
            exact ⟨e * 10 + (bAt s k2 - 48), k2 + 1, rfl, ⟨rfl, rfl, rfl, rfl, rfl, rfl, rfl, rfl, rfl, rfl, rfl, rfl, by simp only [slotOf]; congr 1; omega⟩, by omega, by omega, fun y hy => HRX.out y (.step (exS_d hl2 (by omega) (by omega)) hy), rfl⟩
        · have : True := trivial
          as_aux_lemma =>
            go_wp2_with fail
            refine Handed.intro (s.size - (k2 + 1)) ?_ ?_
            · have := Hm.out; omega
            go_step
            refine FR.intro (by rfl) ?_
            exact ⟨e, k2 + 1, rfl, ⟨rfl, rfl, rfl, rfl, rfl, rfl, rfl, rfl, rfl, rfl, rfl, rfl, rfl⟩, by omega, by omega, fun y hy => HRX.out y (.step (exS_x hl2 (by omega) (by omega)) hy), rfl⟩
    case restC =>
    refine FR.rest ?_
    rintro g wc ⟨e, k2, ⟨e0, e2, e3, e4, e5, e6, e7, e8, e9, e16, e17, e19, e20⟩, he1, hk2, hRX, rfl⟩
    have HX : Hid (∀ r, RF4 M (dp' + (e : Int) * sg) nm tr ng k2 r → RF s r) := Lib.hid fun r hr => HR4.out r (by
      have h1 : (sgX s k).1 = k1 := by rw [← HSX.out]
      have h2 : (sgX s k).2 = sg := by rw [← HSX.out]
      unfold RF3
      rw [if_pos rfl, h1, h2, if_pos (by omega)]
      exact ⟨k2, e, hRX, hr⟩)
    clear hRX
    rw [lit253]
    simp only [e0, e2, e3, e4, e5, e6, e7, e8, e9, e16, e17, e19, e20]
    clear e0 e2 e3 e4 e5 e6 e7 e8 e9 e16 e17 e19 e20
    rcases hsg with rfl | rfl
    · have : True := trivial
      as_aux_lemma =>
        go_wp2_with fail
        refine Met.intro ?_
        go_step
        refine FR.intro (by rfl) ?_
        exact ⟨_, k2, ⟨rfl, rfl, rfl, rfl, rfl, rfl, rfl, rfl, rfl, rfl, rfl⟩, by omega, by omega, hk2, fun r hr => HX.out r (by first | exact hr | (rw [show dp' + (e : Int) * 1 = dp' + (e : Int) by omega]; exact hr) | (rw [show dp' + (e : Int) * (-1) = dp' + -(e : Int) by omega]; exact hr) | (rw [show dp' + (e : Int) * (-1) = dp' - (e : Int) by omega]; exact hr)), rfl⟩
    · have : True := trivial
      as_aux_lemma =>
        go_wp2_with fail
        refine Met.intro ?_
        go_step
        refine FR.intro (by rfl) ?_
        exact ⟨_, k2, ⟨rfl, rfl, rfl, rfl, rfl, rfl, rfl, rfl, rfl, rfl, rfl⟩, by omega, by omega, hk2, fun r hr => HX.out r (by first | exact hr | (rw [show dp' + (e : Int) * 1 = dp' + (e : Int) by omega]; exact hr) | (rw [show dp' + (e : Int) * (-1) = dp' + -(e : Int) by omega]; exact hr) | (rw [show dp' + (e : Int) * (-1) = dp' - (e : Int) by omega]; exact hr)), rfl⟩
  case rest =>
  refine FR.rest ?_
  rintro g wc ⟨x, k', ⟨e0, e2, e3, e4, e5, e6, e7, e8, e9, e16, e17⟩, hx0, hx1, hk', hR5, rfl⟩
  have HR5 := Lib.hid hR5; clear hR5 HR4
  rw [lit253]
  simp only [e0, e2, e3, e4, e5, e6, e7, e8, e9, e16, e17]
  clear e0 e2 e3 e4 e5 e6 e7 e8 e9 e16 e17
  clear hp0 hp1 hbx
  by_cases hM : (M == 0) = true
  · have : True := trivial
    as_aux_lemma =>
      go_wp2_with fail
      rw [jumps_ret]
      refine bodyPost_ret (results_tmp7 rfl _ _ _) rfl ?_
      exact ⟨⟨M, 0, ng, tr, true, k', rfl, by omega, by omega, by omega, by omega, by omega, HR5.out _ (by unfold RF4; rw [if_pos hM, if_pos rfl])⟩, rfl⟩
  · have hMf : (M == 0) = false := by simpa using hM
    as_aux_lemma =>
      go_wp2_with fail
      rw [jumps_ret]
      refine bodyPost_ret (results_tmp7 rfl _ _ _) rfl ?_
      exact ⟨⟨M, x - (nm : Int), ng, tr, true, k', rfl, by omega, by omega, by omega, by omega, by omega, HR5.out _ (by unfold RF4; rw [if_neg hM, if_pos rfl])⟩, rfl⟩
end Go.Proofs.YtkocponnjfkchaaGreatDoor
