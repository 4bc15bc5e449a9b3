/- strconv's decimal: set returns. -/
import Derived.Test.YtkocponnjfkchaaGreatDoorDec1
import Derived.Test.YtkocponnjfkchaaGreatDoorScope
import Derived.Test.YtkocponnjfkchaaGreatDoorFr
import Derived.Deep.RegionHeld3
namespace Go.Proofs.YtkocponnjfkchaaGreatDoor
open Go.RowKit

set_option maxHeartbeats 400000 in
theorem lower_any (c : Int) (w : World) (_h0 : 0 ≤ c) (_h1 : c ≤ 255) :
    Calls Tryz.prog 66 #[.int .u8 c] w fun e w' => e = .returned (.int .u8 (bits .or .u8 c 32)) ∧ w = w' := by
  go_enter Tryz.func66, Tryz.ntmps66
  go_wp2
  go_ret
  exact ⟨rfl, rfl⟩

/-- The state of a decimal that is being read. -/
def DS (T g : Nat) (w0 : World) (ng : Bool) (k : Nat) (R : (Nat → Nat) → Nat → Int → Bool → Prop) (w : World) : Prop :=
  ∃ (D : Nat → Nat) (n : Nat) (dp : Int) (tr : Bool), DC T g D n dp ng tr w ∧ DI D n ∧ n ≤ k ∧ -(k : Int) ≤ dp ∧ dp ≤ 800 ∧ Upd (OneB g) w0 w ∧ R D n dp tr

/-- set's loop over the digits: a step, none where a second point ends it. -/
def seS (s : ByteArray) : Nat × Bool × Bool × (Nat → Nat) × Nat × Int × Bool → (Nat × Bool × Bool × (Nat → Nat) × Nat × Int × Bool) ⊕ Option (Nat × Bool × Bool × (Nat → Nat) × Nat × Int × Bool)
  | (k, b6, b7, D, n, dp, tr) =>
    if k < s.size then
      if bAt s k = 95 then .inl (k + 1, b6, b7, D, n, dp, tr)
      else if bAt s k = 46 then (if b6 = true then .inr none else .inl (k + 1, true, b7, D, n, (n : Int), tr))
      else if 48 ≤ bAt s k ∧ bAt s k ≤ 57 then
        (if bAt s k = 48 ∧ n = 0 then .inl (k + 1, b6, true, D, 0, dp - 1, tr)
        else if n < 800 then .inl (k + 1, b6, true, put D n (bAt s k), n + 1, dp, tr)
        else if bAt s k = 48 then .inl (k + 1, b6, true, D, n, dp, tr) else .inl (k + 1, b6, true, D, n, dp, true))
      else .inr (some (k, b6, b7, D, n, dp, tr))
    else .inr (some (k, b6, b7, D, n, dp, tr))
/-- The loop over an exponent's digits. -/
def exS (s : ByteArray) : Nat × Nat → (Nat × Nat) ⊕ (Nat × Nat) := fun a =>
  if a.1 < s.size then
    if 48 ≤ bAt s a.1 ∧ bAt s a.1 ≤ 57 then (if a.2 < 10000 then .inl (a.1 + 1, a.2 * 10 + (bAt s a.1 - 48)) else .inl (a.1 + 1, a.2))
    else if bAt s a.1 = 95 then .inl (a.1 + 1, a.2) else .inr a
  else .inr a
section
variable {s : ByteArray} {k : Nat} {b6 b7 : Bool} {D : Nat → Nat} {n : Nat} {dp : Int} {tr : Bool}
theorem seS_us (h : k < s.size) (c : bAt s k = 95) : Of (seS s) (k, b6, b7, D, n, dp, tr) (.inl (k + 1, b6, b7, D, n, dp, tr)) := by simp only [Of, seS]; rw [if_pos h, if_pos c]
theorem seS_pt (h : k < s.size) (c : bAt s k = 46) : Of (seS s) (k, false, b7, D, n, dp, tr) (.inl (k + 1, true, b7, D, n, (n : Int), tr)) := by simp only [Of, seS]; rw [if_pos h, if_neg (by omega), if_pos c]; rfl
theorem seS_pt2 (h : k < s.size) (c : bAt s k = 46) : Of (seS s) (k, true, b7, D, n, dp, tr) (.inr none) := by simp only [Of, seS]; rw [if_pos h, if_neg (by omega), if_pos c]; rfl
theorem seS_z (h : k < s.size) (c : bAt s k = 48) : Of (seS s) (k, b6, b7, D, 0, dp, tr) (.inl (k + 1, b6, true, D, 0, dp - 1, tr)) := by simp only [Of, seS]; rw [if_pos h, if_neg (by omega), if_neg (by omega), if_pos (by omega), if_pos (by simp [c])]
theorem seS_d (h : k < s.size) (c1 : 48 ≤ bAt s k) (c2 : bAt s k ≤ 57) (c0 : ¬ (bAt s k = 48 ∧ n = 0)) (hn : n < 800) : Of (seS s) (k, b6, b7, D, n, dp, tr) (.inl (k + 1, b6, true, put D n (bAt s k), n + 1, dp, tr)) := by simp only [Of, seS]; rw [if_pos h, if_neg (by omega), if_neg (by omega), if_pos ⟨c1, c2⟩, if_neg c0, if_pos hn]
theorem seS_x (h : k < s.size) (c : bAt s k = 48) (hn : ¬ n < 800) : Of (seS s) (k, b6, b7, D, n, dp, tr) (.inl (k + 1, b6, true, D, n, dp, tr)) := by simp only [Of, seS]; rw [if_pos h, if_neg (by omega), if_neg (by omega), if_pos (by omega), if_neg (by omega), if_neg hn, if_pos c]
theorem seS_t (h : k < s.size) (c1 : 48 ≤ bAt s k) (c2 : bAt s k ≤ 57) (c : ¬ bAt s k = 48) (hn : ¬ n < 800) : Of (seS s) (k, b6, b7, D, n, dp, tr) (.inl (k + 1, b6, true, D, n, dp, true)) := by simp only [Of, seS]; rw [if_pos h, if_neg (by omega), if_neg (by omega), if_pos ⟨c1, c2⟩, if_neg (by omega), if_neg hn, if_neg c]
theorem seS_o (h : k < s.size) (c1 : ¬ bAt s k = 95) (c2 : ¬ bAt s k = 46) (c3 : ¬ (48 ≤ bAt s k ∧ bAt s k ≤ 57)) : Of (seS s) (k, b6, b7, D, n, dp, tr) (.inr (some (k, b6, b7, D, n, dp, tr))) := by simp only [Of, seS]; rw [if_pos h, if_neg c1, if_neg c2, if_neg c3]
theorem seS_e (h : ¬ k < s.size) : Of (seS s) (k, b6, b7, D, n, dp, tr) (.inr (some (k, b6, b7, D, n, dp, tr))) := by simp only [Of, seS]; rw [if_neg h]
theorem exS_d {j e : Nat} (h : j < s.size) (c : 48 ≤ bAt s j ∧ bAt s j ≤ 57) (he : e < 10000) : Of (exS s) (j, e) (.inl (j + 1, e * 10 + (bAt s j - 48))) := by simp only [Of, exS]; rw [if_pos h, if_pos c, if_pos he]
theorem exS_x {j e : Nat} (h : j < s.size) (c : 48 ≤ bAt s j ∧ bAt s j ≤ 57) (he : ¬ e < 10000) : Of (exS s) (j, e) (.inl (j + 1, e)) := by simp only [Of, exS]; rw [if_pos h, if_pos c, if_neg he]
theorem exS_u {j e : Nat} (h : j < s.size) (c : bAt s j = 95) : Of (exS s) (j, e) (.inl (j + 1, e)) := by simp only [Of, exS]; rw [if_pos h, if_neg (by omega), if_pos c]
theorem exS_o {j e : Nat} (h : j < s.size) (c : ¬ (48 ≤ bAt s j ∧ bAt s j ≤ 57)) (c2 : ¬ bAt s j = 95) : Of (exS s) (j, e) (.inr (j, e)) := by simp only [Of, exS]; rw [if_pos h, if_neg c, if_neg c2]
theorem exS_e {j e : Nat} (h : ¬ j < s.size) : Of (exS s) (j, e) (.inr (j, e)) := by simp only [Of, exS]; rw [if_neg h]
end
/-- A decimal's state as set leaves it. -/
abbrev SEr := Option (((Nat → Nat) × Nat × Int × Bool) × Bool)
/-- The sign at the beginning; the sign of an exponent. -/
def sg0 (s : ByteArray) : Nat × Bool := if bAt s 0 = 43 then (1, false) else if bAt s 0 = 45 then (1, true) else (0, false)
def sgX (s : ByteArray) (k : Nat) : Nat × Int := if bAt s (k + 1) = 43 then (k + 2, 1) else if bAt s (k + 1) = 45 then (k + 2, -1) else (k + 1, 1)
/-- Whether an exponent begins at k. -/
def lowE (s : ByteArray) (k : Nat) : Bool := decide (k < s.size) && (bits .or .u8 (bAt s k : Int) 32 == 101)
def SE4 (s : ByteArray) (a : (Nat → Nat) × Nat × Int × Bool) (ng : Bool) (j : Nat) (r : SEr) : Prop := r = if j = s.size then some (a, ng) else none
def SE3 (s : ByteArray) (a : (Nat → Nat) × Nat × Int × Bool) (ng : Bool) (k : Nat) (b : Bool) (r : SEr) : Prop :=
  if b = true then
    if k + 1 < s.size ∧ (sgX s k).1 < s.size ∧ 48 ≤ bAt s (sgX s k).1 ∧ bAt s (sgX s k).1 ≤ 57 then ∃ j e : Nat, Run (Of (exS s)) ((sgX s k).1, 0) (j, e) ∧ SE4 s (a.1, a.2.1, a.2.2.1 + (e : Int) * (sgX s k).2, a.2.2.2) ng j r else r = none
  else SE4 s a ng k r
def SE2 (s : ByteArray) (ng : Bool) : Option (Nat × Bool × Bool × (Nat → Nat) × Nat × Int × Bool) → SEr → Prop
  | none, r => r = none
  | some (k, b6, b7, D, n, dp, tr), r => if b7 = true then SE3 s (D, n, (if b6 = true then dp else (n : Int)), tr) ng k (lowE s k) r else r = none
/-- What set makes of a text. -/
def SE (s : ByteArray) (D : Nat → Nat) (r : SEr) : Prop :=
  if s.size = 0 then r = none else ∃ o, Run (Of (seS s)) ((sg0 s).1, false, false, D, 0, 0, false) o ∧ SE2 s (sg0 s).2 o r
theorem SE.uniq {s : ByteArray} {D : Nat → Nat} {r r' : SEr} (h : SE s D r) (h' : SE s D r') : r = r' := by
  unfold SE at h h'
  split at h
  · rename_i hc
    rw [if_pos hc] at h'
    rw [h, h']
  rename_i hc
  rw [if_neg hc] at h'
  obtain ⟨o, h1, h2⟩ := h
  obtain ⟨o', k1, k2⟩ := h'
  obtain rfl := h1.uniq (Of.uniq _) k1
  rcases o with _ | ⟨k, b6, b7, D, n, dp, tr⟩
  · simp only [SE2] at h2 k2
    rw [h2, k2]
  simp only [SE2] at h2 k2
  split at h2
  rotate_left
  · rename_i hc
    rw [if_neg hc] at k2
    rw [h2, k2]
  rename_i hc
  rw [if_pos hc] at k2
  unfold SE3 at h2 k2
  split at h2
  rotate_left
  · rename_i hc
    rw [if_neg hc] at k2
    unfold SE4 at h2 k2
    rw [h2, k2]
  rename_i hc
  rw [if_pos hc] at k2
  split at h2
  rotate_left
  · rename_i hc
    rw [if_neg hc] at k2
    rw [h2, k2]
  rename_i hc
  rw [if_pos hc] at k2
  obtain ⟨j, e, h3, h4⟩ := h2
  obtain ⟨j', e', k3, k4⟩ := k2
  have e1 := h3.uniq (Of.uniq _) k3
  simp only [Prod.mk.injEq] at e1
  obtain ⟨rfl, rfl⟩ := e1
  unfold SE4 at h4 k4
  rw [h4, k4]

/-- The frame of set. -/
theorem lit224 (g : Nat → Value) : ((List.range 224).map g).toArray = #[g 0, g 1, g 2, g 3, g 4, g 5, g 6, g 7, g 8, g 9, g 10, g 11, g 12, g 13, g 14, g 15, g 16, g 17, g 18, g 19, g 20, g 21, g 22, g 23, g 24, g 25, g 26, g 27, g 28, g 29, g 30, g 31, g 32, g 33, g 34, g 35, g 36, g 37, g 38, g 39, g 40, g 41, g 42, g 43, g 44, g 45, g 46, g 47, g 48, g 49, g 50, g 51, g 52, g 53, g 54, g 55, g 56, g 57, g 58, g 59, g 60, g 61, g 62, g 63, g 64, g 65, g 66, g 67, g 68, g 69, g 70, g 71, g 72, g 73, g 74, g 75, g 76, g 77, g 78, g 79, g 80, g 81, g 82, g 83, g 84, g 85, g 86, g 87, g 88, g 89, g 90, g 91, g 92, g 93, g 94, g 95, g 96, g 97, g 98, g 99, g 100, g 101, g 102, g 103, g 104, g 105, g 106, g 107, g 108, g 109, g 110, g 111, g 112, g 113, g 114, g 115, g 116, g 117, g 118, g 119, g 120, g 121, g 122, g 123, g 124, g 125, g 126, g 127, g 128, g 129, g 130, g 131, g 132, g 133, g 134, g 135, g 136, g 137, g 138, g 139, g 140, g 141, g 142, g 143, g 144, g 145, g 146, g 147, g 148, g 149, g 150, g 151, g 152, g 153, g 154, g 155, g 156, g 157, g 158, g 159, g 160, g 161, g 162, g 163, g 164, g 165, g 166, g 167, g 168, g 169, g 170, g 171, g 172, g 173, g 174, g 175, g 176, g 177, g 178, g 179, g 180, g 181, g 182, g 183, g 184, g 185, g 186, g 187, g 188, g 189, g 190, g 191, g 192, g 193, g 194, g 195, g 196, g 197, g 198, g 199, g 200, g 201, g 202, g 203, g 204, g 205, g 206, g 207, g 208, g 209, g 210, g 211, g 212, g 213, g 214, g 215, g 216, g 217, g 218, g 219, g 220, g 221, g 222, g 223] := by kernel_rfl

/-- What set returns. -/
def SetR (T g : Nat) (R : SEr → Prop) (w : World) (e : Ending) (w' : World) : Prop := ∃ (b : Bool) (D' : Nat → Nat) (n' : Nat) (dp' : Int) (ng' tr' : Bool), e = .returned (.bool b) ∧ DC T g D' n' dp' ng' tr' w' ∧ DI D' n' ∧ -1073741824 ≤ dp' ∧ dp' ≤ 1073741824 ∧ Upd (OneB g) w w' ∧ R (if b = true then some ((D', n', dp', tr'), ng') else none)

set_option maxHeartbeats 4000000 in
set_option maxRecDepth 4000 in
theorem set_any (g : Nat) (D : Nat → Nat) (ng tr : Bool) (s : ByteArray) (w : World) (hs : s.size ≤ 1048576) (h : DC 139 g D 0 0 ng tr w) :
    Calls Tryz.prog 83 #[.pointer (some ⟨g, 0, none⟩), .string s] w fun e w' => SetR 139 g (SE s D) w e w' := by
  have hcg := h.cng
  have hct := h.ctr
  have hfg := h.fz 802
  have hft := h.fz 803
  have hB := get_bAt s
  have hD0 : DI D 0 := ⟨by omega, fun i hi => by omega, fun h => by omega⟩
  have h1 := (h.setNg false).setTr false
  have hU1 : Upd (OneB g) w _ := ((Upd.refl (OneB g) w).setOne 802 (.bool false)).setOne 803 (.bool false)
  go_enter Tryz.func83, Tryz.ntmps83
  go_upto_region 4 with (fail)
  generalize (w.setCell ⟨g, 802, none⟩ (.bool false)).setCell ⟨g, 803, none⟩ (.bool false) = w1 at *
  by_cases hz : s.size = 0
  · have : True := trivial
    as_aux_lemma =>
      go_wp2_with fail
      go_ret
      exact ⟨false, D, 0, 0, false, false, rfl, h1, hD0, by omega, by omega, hU1, by unfold SE; rw [if_pos hz]; rfl⟩
  have HSE : Hid (∀ o r, Run (Of (seS s)) ((sg0 s).1, false, false, D, 0, 0, false) o → SE2 s (sg0 s).2 o r → SE s D r) := Lib.hid fun o r k1 k2 => by unfold SE; rw [if_neg hz]; exact ⟨o, k1, k2⟩
  have hfg1 := h1.fz 802
  have hcg1 := h1.cng
  go_upto_block 0 with (fail)
  refine wp_cut (FR 224 (fun g' wx => ∃ (k : Nat) (ng' : Bool), (g' 0 = .pointer (some ⟨g, 0, none⟩) ∧ g' 1 = .string s ∧ g' 4 = .bool false ∧ g' 5 = .int .i64 (k : Int)) ∧ k ≤ 1 ∧ DC 139 g D 0 0 ng' false wx ∧ Upd (OneB g) w wx ∧ (k, ng') = sg0 s)) ?rest ?first
  case first =>
    intro J K' hJ hK
    by_cases c43 : bAt s 0 = 43
    · have e43 : (bAt s 0 : Int) = 43 := by omega
      have HG : Hid ((1, false) = sg0 s) := Lib.hid (by unfold sg0; rw [if_pos c43])
      clear c43
      as_aux_lemma =>
        go_wp2_with fail
        refine Met.intro ?_
        go_step
        refine FR.intro (by rfl) ?_
        exact ⟨1, false, ⟨rfl, rfl, rfl, rfl⟩, by omega, h1, hU1, HG.out⟩
    have e43 : ((bAt s 0 : Int) == 43) = false := by simp; omega
    by_cases c45 : bAt s 0 = 45
    · have e45 : (bAt s 0 : Int) = 45 := by omega
      have HG : Hid ((1, true) = sg0 s) := Lib.hid (by unfold sg0; rw [if_neg c43, if_pos c45])
      clear c43 c45
      as_aux_lemma =>
        go_wp2_with fail
        refine Met.intro ?_
        go_step
        refine FR.intro (by rfl) ?_
        exact ⟨1, true, ⟨rfl, rfl, rfl, rfl⟩, by omega, h1.setNg true, hU1.setOne 802 _, HG.out⟩
    · have e45 : ((bAt s 0 : Int) == 45) = false := by simp; omega
      have HG : Hid ((0, false) = sg0 s) := Lib.hid (by unfold sg0; rw [if_neg c43, if_neg c45])
      clear c43 c45
      as_aux_lemma =>
        go_wp2_with fail
        refine Met.intro ?_
        go_step
        refine FR.intro (by rfl) ?_
        exact ⟨0, false, ⟨rfl, rfl, rfl, rfl⟩, by omega, h1, hU1, HG.out⟩
  case rest =>
  clear h1 hU1 hfg1 hcg1 hcg hct hfg hft
  refine FR.rest ?_
  rintro g' wc ⟨k0, ng', ⟨e0, e1, e4, e5⟩, hk0, h2, hU2, hsg⟩
  have HSE1 : Hid (∀ o r, Run (Of (seS s)) (k0, false, false, D, 0, 0, false) o → SE2 s ng' o r → SE s D r) := Lib.hid fun o r k1 k2 => HSE.out o r (by rw [← hsg]; exact k1) (by rw [← hsg]; exact k2)
  clear hsg HSE
  rw [lit224]
  simp only [e0, e1, e4, e5]
  clear e0 e1 e4 e5
  go_upto_block 1 with (fail)
  refine wp_cut (FR 224 (fun g' wx => ∃ (k : Nat) (b6 b7 : Bool), (g' 0 = .pointer (some ⟨g, 0, none⟩) ∧ g' 1 = .string s ∧ g' 4 = .bool false ∧ g' 5 = .int .i64 (k : Int) ∧ g' 6 = .bool b6 ∧ g' 7 = .bool b7) ∧ k ≤ s.size ∧ DS 139 g w ng' k (fun D' n dp tr => ∀ r, SE2 s ng' (some (k, b6, b7, D', n, dp, tr)) r → SE s D r) wx)) ?rest ?first
  case first =>
    intro J K' hJ hK
    go_wp2_with fail
    refine wp_loop_ghost_k (fun mm => FR 224 (fun g' wx => ∃ (k : Nat) (b6 b7 : Bool), mm = s.size - k ∧ (g' 0 = .pointer (some ⟨g, 0, none⟩) ∧ g' 1 = .string s ∧ g' 4 = .bool false ∧ g' 5 = .int .i64 (k : Int) ∧ g' 6 = .bool b6 ∧ g' 7 = .bool b7) ∧ k ≤ s.size ∧ DS 139 g w ng' k (fun D' n dp tr => ∀ o r, Run (Of (seS s)) (k, b6, b7, D', n, dp, tr) o → SE2 s ng' o r → SE s D r) wx)) (s.size - k0) ?atStart ?round
    case atStart =>
      refine FR.intro (by rfl) ?_
      exact ⟨k0, false, false, rfl, ⟨rfl, rfl, rfl, rfl, rfl, rfl⟩, by omega, D, 0, 0, false, h2, hD0, by omega, by omega, by omega, hU2, HSE1.out⟩
    case round =>
      clear h2 hU2
      intro gk
      refine FR.rest ?_
      rintro g' wr ⟨k, b6, b7, hm, ⟨e0, e1, e4, e5, e6, e7⟩, hk, D', n, dp, tr', hD, hn, hnk, hd1, hd2, hU, hRS⟩
      have HRS := Lib.hid hRS; clear hRS
      rw [lit224]
      simp only [e0, e1, e4, e5, e6, e7]
      clear e0 e1 e4 e5 e6 e7
      intro J2 K2 hJ2 hK2
      have Hm := Lib.hid hm; clear hm
      have hc0 := hD.cnd
      have hc1 := hD.cdp
      have hfz0 := hD.fz 800
      have hfz1 := hD.fz 801
      have hle := hn.le
      have hb := bAt_le s k
      by_cases hlt : k < s.size
      · by_cases c95 : bAt s k = 95
        · have e1 : ((bAt s k : Int) == 95) = true := by rw [c95]; rfl
          as_aux_lemma =>
            go_wp2_with fail
            refine Handed.intro (s.size - (k + 1)) ?_ ?_
            · have := Hm.out; omega
            go_step
            refine FR.intro (by rfl) ?_
            exact ⟨k + 1, b6, b7, rfl, ⟨rfl, rfl, rfl, rfl, rfl, rfl⟩, by omega, D', n, dp, tr', hD, hn, by omega, by omega, by omega, hU, fun o r hr => HRS.out o r (.step (seS_us hlt c95) hr)⟩
        have e95 : ((bAt s k : Int) == 95) = false := by simp; omega
        by_cases c46 : bAt s k = 46
        · have e1 : ((bAt s k : Int) == 46) = true := by rw [c46]; rfl
          cases b6
          · have : True := trivial
            as_aux_lemma =>
              go_wp2_with fail
              refine Handed.intro (s.size - (k + 1)) ?_ ?_
              · have := Hm.out; omega
              go_step
              refine FR.intro (by rfl) ?_
              exact ⟨k + 1, true, b7, rfl, ⟨rfl, rfl, rfl, rfl, rfl, rfl⟩, by omega, D', n, n, tr', hD.setDp _, hn, by omega, by omega, by omega, hU.setOne _ _, fun o r hr => HRS.out o r (.step (seS_pt hlt c46) hr)⟩
          · have : True := trivial
            as_aux_lemma =>
              go_wp2_with fail
              go_ret
              exact ⟨false, D', n, dp, ng', tr', rfl, hD, hn, by omega, by omega, hU, HRS.out none none (.done (seS_pt2 hlt c46)) rfl⟩
        have e46 : ((bAt s k : Int) == 46) = false := by simp; omega
        by_cases cd : 48 ≤ bAt s k ∧ bAt s k ≤ 57
        · obtain ⟨cd1, cd2⟩ := cd
          by_cases c0 : bAt s k = 48 ∧ n = 0
          · obtain ⟨c48, rfl⟩ := c0
            have e1 : ((bAt s k : Int) == 48) = true := by rw [c48]; rfl
            as_aux_lemma =>
              go_wp2_with fail
              refine Handed.intro (s.size - (k + 1)) ?_ ?_
              · have := Hm.out; omega
              go_step
              refine FR.intro (by rfl) ?_
              exact ⟨k + 1, b6, true, rfl, ⟨rfl, rfl, rfl, rfl, rfl, rfl⟩, by omega, D', 0, dp - 1, tr', hD.setDp _, hn, by omega, by omega, by omega, hU.setOne _ _, fun o r hr => HRS.out o r (.step (seS_z hlt c48) hr)⟩
          · by_cases hn8 : n < 800
            · have hci := hD.c n hn8
              have hfi := hD.fz n
              have hne := (hD.setD hn8 hb).cnd
              have hnz := (hD.setD hn8 hb).fz 800
              have c00 : ((bAt s k : Int) == 48) = false ∨ (((bAt s k : Int) == 48) = true ∧ ((n : Int) == 0) = false) := by
                simp only [beq_eq_false_iff_ne, beq_iff_eq, ne_eq]; omega
              have HDI : Hid (DI (fun x => if n = x then bAt s k else D' x) (n + 1)) := Lib.hid ⟨by omega, fun x hx => by
                show 48 ≤ (if n = x then bAt s k else D' x) ∧ (if n = x then bAt s k else D' x) ≤ 57
                split
                · omega
                · exact hn.dig x (by omega), fun _ => by
                show (if n = 0 then bAt s k else D' 0) ≠ 48
                split
                · omega
                · exact hn.top (by omega)⟩
              rcases c00 with e1 | ⟨e1, e2⟩
              · have : True := trivial
                as_aux_lemma =>
                  go_wp2_with fail
                  go_region_held3 (fun w' => w'.cell? ⟨g, 800, none⟩ = some (.int .i64 (n : Int))) (first | exact hne | go_keep) (fail)
                  go_wp2_with fail
                  refine Handed.intro (s.size - (k + 1)) ?_ ?_
                  · have := Hm.out; omega
                  go_step
                  refine FR.intro (by rfl) ?_
                  exact ⟨k + 1, b6, true, rfl, ⟨rfl, rfl, rfl, rfl, rfl, rfl⟩, by omega, _, n + 1, dp, tr', by rw [show ((n + 1 : Nat) : Int) = (n : Int) + 1 by omega]; exact ((hD.setD hn8 hb).setNd _).drew, HDI.out, by omega, by omega, by omega, ((hU.setOne _ _).setOne _ _).drew, fun o r hr => HRS.out o r (.step (seS_d hlt cd1 cd2 c0 hn8) hr)⟩
              · have : True := trivial
                as_aux_lemma =>
                  go_wp2_with fail
                  go_region_held3 (fun w' => w'.cell? ⟨g, 800, none⟩ = some (.int .i64 (n : Int))) (first | exact hne | go_keep) (fail)
                  go_wp2_with fail
                  refine Handed.intro (s.size - (k + 1)) ?_ ?_
                  · have := Hm.out; omega
                  go_step
                  refine FR.intro (by rfl) ?_
                  exact ⟨k + 1, b6, true, rfl, ⟨rfl, rfl, rfl, rfl, rfl, rfl⟩, by omega, _, n + 1, dp, tr', by rw [show ((n + 1 : Nat) : Int) = (n : Int) + 1 by omega]; exact ((hD.setD hn8 hb).setNd _).drew, HDI.out, by omega, by omega, by omega, ((hU.setOne _ _).setOne _ _).drew, fun o r hr => HRS.out o r (.step (seS_d hlt cd1 cd2 c0 hn8) hr)⟩
            · have e2 : ((n : Int) == 0) = false := by simp; omega
              have hct := hD.ctr
              have hft := hD.fz 803
              by_cases c48 : bAt s k = 48
              · have e1 : ((bAt s k : Int) == 48) = true := by rw [c48]; rfl
                have e3 : ((bAt s k : Int) != 48) = false := by rw [c48]; rfl
                as_aux_lemma =>
                  go_wp2_with fail
                  refine Handed.intro (s.size - (k + 1)) ?_ ?_
                  · have := Hm.out; omega
                  go_step
                  refine FR.intro (by rfl) ?_
                  exact ⟨k + 1, b6, true, rfl, ⟨rfl, rfl, rfl, rfl, rfl, rfl⟩, by omega, D', n, dp, tr', hD, hn, by omega, by omega, by omega, hU, fun o r hr => HRS.out o r (.step (seS_x hlt c48 hn8) hr)⟩
              · have e1 : ((bAt s k : Int) == 48) = false := by simp; omega
                have e3 : ((bAt s k : Int) != 48) = true := by simp; omega
                as_aux_lemma =>
                  go_wp2_with fail
                  refine Handed.intro (s.size - (k + 1)) ?_ ?_
                  · have := Hm.out; omega
                  go_step
                  refine FR.intro (by rfl) ?_
                  exact ⟨k + 1, b6, true, rfl, ⟨rfl, rfl, rfl, rfl, rfl, rfl⟩, by omega, D', n, dp, true, hD.setTr true, hn, by omega, by omega, by omega, hU.setOne _ _, fun o r hr => HRS.out o r (.step (seS_t hlt cd1 cd2 c48 hn8) hr)⟩
        · have cd' : (bAt s k : Int) < 48 ∨ (48 ≤ (bAt s k : Int) ∧ 57 < (bAt s k : Int)) := by omega
          rcases cd' with e1 | ⟨e1, e2⟩
          · have : True := trivial
            as_aux_lemma =>
              go_wp2_with fail
              refine Met.intro ?_
              go_step
              refine FR.intro (by rfl) ?_
              exact ⟨k, b6, b7, ⟨rfl, rfl, rfl, rfl, rfl, rfl⟩, hk, D', n, dp, tr', hD, hn, hnk, hd1, hd2, hU, fun r hr => HRS.out _ r (.done (seS_o hlt c95 c46 cd)) hr⟩
          · have : True := trivial
            as_aux_lemma =>
              go_wp2_with fail
              refine Met.intro ?_
              go_step
              refine FR.intro (by rfl) ?_
              exact ⟨k, b6, b7, ⟨rfl, rfl, rfl, rfl, rfl, rfl⟩, hk, D', n, dp, tr', hD, hn, hnk, hd1, hd2, hU, fun r hr => HRS.out _ r (.done (seS_o hlt c95 c46 cd)) hr⟩
      · have : True := trivial
        as_aux_lemma =>
          go_wp2_with fail
          refine Met.intro ?_
          go_step
          refine FR.intro (by rfl) ?_
          exact ⟨k, b6, b7, ⟨rfl, rfl, rfl, rfl, rfl, rfl⟩, hk, D', n, dp, tr', hD, hn, hnk, hd1, hd2, hU, fun r hr => HRS.out _ r (.done (seS_e hlt)) hr⟩
  case rest =>
  clear h2 hU2
  refine FR.rest ?_
  rintro g' wc ⟨k, b6, b7, ⟨e0, e1, e4, e5, e6, e7⟩, hk, D', n, dp, tr', hD, hn, hnk, hd1, hd2, hU, hR2⟩
  have HR2 := Lib.hid hR2; clear hR2 HSE1
  rw [lit224]
  simp only [e0, e1, e4, e5, e6, e7]
  clear e0 e1 e4 e5 e6 e7
  have hle := hn.le
  cases b7
  · have : True := trivial
    as_aux_lemma =>
      go_wp2_with fail
      go_ret
      exact ⟨false, D', n, dp, ng', tr', rfl, hD, hn, by omega, by omega, hU, HR2.out none (by simp [SE2])⟩
  have hc0 := hD.cnd
  have hc1 := hD.cdp
  have hfz1 := hD.fz 801
  go_upto_if 120 with (fail)
  refine wp_cut (FR 224 (fun g' wx => ∃ dp : Int, (g' 0 = .pointer (some ⟨g, 0, none⟩) ∧ g' 1 = .string s ∧ g' 4 = .bool false ∧ g' 5 = .int .i64 (k : Int)) ∧ -1048576 ≤ dp ∧ dp ≤ 800 ∧ DC 139 g D' n dp ng' tr' wx ∧ Upd (OneB g) w wx ∧ (∀ r, SE3 s (D', n, dp, tr') ng' k (lowE s k) r → SE s D r))) ?rest ?first
  case first =>
    intro J K' hJ hK
    cases b6
    · have : True := trivial
      as_aux_lemma =>
        go_wp2_with fail
        refine Met.intro ?_
        go_step
        refine FR.intro (by rfl) ?_
        exact ⟨n, ⟨rfl, rfl, rfl, rfl⟩, by omega, by omega, hD.setDp _, hU.setOne _ _, fun r hr => HR2.out r (by simpa [SE2] using hr)⟩
    · have : True := trivial
      as_aux_lemma =>
        go_wp2_with fail
        refine Met.intro ?_
        go_step
        refine FR.intro (by rfl) ?_
        exact ⟨dp, ⟨rfl, rfl, rfl, rfl⟩, by omega, by omega, hD, hU, fun r hr => HR2.out r (by simpa [SE2] using hr)⟩
  case rest =>
  clear hD hU hfz1 hc0 hc1 hd1 hd2
  refine FR.rest ?_
  rintro g' wc ⟨dp, ⟨e0, e1, e4, e5⟩, hd1, hd2, hD, hU, hR3⟩
  have HR3 := Lib.hid hR3; clear hR3 HR2
  rw [lit224]
  simp only [e0, e1, e4, e5]
  clear e0 e1 e4 e5
  have hfz1 := hD.fz 801
  have hc1 := hD.cdp
  go_upto_region 32 with (fail)
  have hb := bAt_le s k
  refine wp_cut (FR 224 (fun g' wx => ∃ b : Bool, (g' 0 = .pointer (some ⟨g, 0, none⟩) ∧ g' 1 = .string s ∧ g' 4 = .bool false ∧ g' 5 = .int .i64 (k : Int) ∧ g' 138 = .bool b) ∧ (b = true → k < s.size) ∧ b = lowE s k ∧ wc = wx)) ?rest ?first
  case first =>
    intro J K' hJ hK
    by_cases hlt : k < s.size
    · have : True := trivial
      as_aux_lemma =>
        go_wp2_with (go_at_call 66; refine (lower_any _ _ (by omega) (by omega)).mono ?_; rintro e w' ⟨rfl, rfl⟩)
        refine Met.intro ?_
        go_step
        refine FR.intro (by rfl) ?_
        exact ⟨_, ⟨rfl, rfl, rfl, rfl, rfl⟩, fun _ => hlt, by unfold lowE; rw [decide_eq_true hlt, Bool.true_and], rfl⟩
    · have : True := trivial
      as_aux_lemma =>
        go_wp2_with fail
        refine Met.intro ?_
        go_step
        refine FR.intro (by rfl) ?_
        exact ⟨false, ⟨rfl, rfl, rfl, rfl, rfl⟩, (fun h => by cases h), by unfold lowE; rw [decide_eq_false hlt, Bool.false_and], rfl⟩
  case rest =>
  refine FR.rest ?_
  rintro g' wd ⟨b, ⟨e0, e1, e4, e5, e138⟩, hbk, hlow, rfl⟩
  have HR4 : Hid (∀ r, SE3 s (D', n, dp, tr') ng' k b r → SE s D r) := Lib.hid fun r hr => HR3.out r (by rw [← hlow]; exact hr)
  clear HR3 hlow
  rw [lit224]
  simp only [e0, e1, e4, e5, e138]
  clear e0 e1 e4 e5 e138
  go_upto_if 138 with (fail)
  refine wp_cut (FR 224 (fun g' wx => ∃ (j : Nat) (dp : Int), (g' 0 = .pointer (some ⟨g, 0, none⟩) ∧ g' 1 = .string s ∧ g' 4 = .bool false ∧ g' 5 = .int .i64 (j : Int)) ∧ j ≤ s.size ∧ -1073000000 ≤ dp ∧ dp ≤ 1073000000 ∧ DC 139 g D' n dp ng' tr' wx ∧ Upd (OneB g) w wx ∧ (∀ r, SE4 s (D', n, dp, tr') ng' j r → SE s D r))) ?rest ?first
  case first =>
    intro J K' hJ hK
    cases b
    · have : True := trivial
      as_aux_lemma =>
        go_wp2_with fail
        refine Met.intro ?_
        go_step
        refine FR.intro (by rfl) ?_
        exact ⟨k, dp, ⟨rfl, rfl, rfl, rfl⟩, hk, by omega, by omega, hD, hU, fun r hr => HR4.out r (by unfold SE3; exact hr)⟩
    have hlt := hbk rfl
    clear hbk
    by_cases hlt1 : k + 1 < s.size
    rotate_left
    · have : True := trivial
      as_aux_lemma =>
        go_wp2_with fail
        go_ret
        exact ⟨false, D', n, dp, ng', tr', rfl, hD, hn, by omega, by omega, hU, HR4.out none (by unfold SE3; rw [if_pos rfl, if_neg (by omega)])⟩
    have hb1 := bAt_le s (k + 1)
    go_upto_block 4 with (fail)
    refine wp_cut (FR 224 (fun g' wx => ∃ (i : Nat) (es : Int), (g' 0 = .pointer (some ⟨g, 0, none⟩) ∧ g' 1 = .string s ∧ g' 4 = .bool false ∧ g' 5 = .int .i64 (i : Int) ∧ g' 8 = .int .i64 es) ∧ i ≤ s.size ∧ (es = 1 ∨ es = -1) ∧ (i, es) = sgX s k ∧ wc = wx)) ?restB ?firstB
    case firstB =>
      intro J3 K3 hJ3 hK3
      by_cases c43 : bAt s (k + 1) = 43
      · have e43 : (bAt s (k + 1) : Int) = 43 := by omega
        have HG : Hid ((k + 2, (1 : Int)) = sgX s k) := Lib.hid (by unfold sgX; rw [if_pos c43])
        clear c43
        as_aux_lemma =>
          go_wp2_with fail
          refine Met.intro ?_
          go_step
          refine FR.intro (by rfl) ?_
          exact ⟨k + 2, 1, ⟨rfl, rfl, rfl, rfl, rfl⟩, by omega, .inl rfl, HG.out, rfl⟩
      have e43 : ((bAt s (k + 1) : Int) == 43) = false := by simp; omega
      by_cases c45 : bAt s (k + 1) = 45
      · have e45 : (bAt s (k + 1) : Int) = 45 := by omega
        have HG : Hid ((k + 2, (-1 : Int)) = sgX s k) := Lib.hid (by unfold sgX; rw [if_neg c43, if_pos c45])
        clear c43 c45
        as_aux_lemma =>
          go_wp2_with fail
          refine Met.intro ?_
          go_step
          refine FR.intro (by rfl) ?_
          exact ⟨k + 2, -1, ⟨rfl, rfl, rfl, rfl, rfl⟩, by omega, .inr rfl, HG.out, rfl⟩
      · have e45 : ((bAt s (k + 1) : Int) == 45) = false := by simp; omega
        have HG : Hid ((k + 1, (1 : Int)) = sgX s k) := Lib.hid (by unfold sgX; rw [if_neg c43, if_neg c45])
        clear c43 c45
        as_aux_lemma =>
          go_wp2_with fail
          refine Met.intro ?_
          go_step
          refine FR.intro (by rfl) ?_
          exact ⟨k + 1, 1, ⟨rfl, rfl, rfl, rfl, rfl⟩, by omega, .inl rfl, HG.out, rfl⟩
    case restB =>
    refine FR.rest ?_
    rintro g' we ⟨i, es, ⟨e0, e1, e4, e5, e8⟩, hi, hes, hsx, rfl⟩
    have HSX := Lib.hid hsx; clear hsx
    have HBad : Hid (¬ (i < s.size ∧ 48 ≤ bAt s i ∧ bAt s i ≤ 57) → SE s D none) := Lib.hid fun hb => HR4.out none (by unfold SE3; rw [if_pos rfl, if_neg (by rw [← HSX.out]; exact fun h => hb h.2)])
    rw [lit224]
    simp only [e0, e1, e4, e5, e8]
    clear e0 e1 e4 e5 e8
    by_cases hil : i < s.size
    rotate_left
    · have : True := trivial
      as_aux_lemma =>
        go_wp2_with fail
        go_ret
        exact ⟨false, D', n, dp, ng', tr', rfl, hD, hn, by omega, by omega, hU, HBad.out (by omega)⟩
    have hbi := bAt_le s i
    by_cases hd48 : (bAt s i : Int) < 48
    · have : True := trivial
      as_aux_lemma =>
        go_wp2_with fail
        go_ret
        exact ⟨false, D', n, dp, ng', tr', rfl, hD, hn, by omega, by omega, hU, HBad.out (by omega)⟩
    by_cases hd57 : 57 < (bAt s i : Int)
    · have : True := trivial
      as_aux_lemma =>
        go_wp2_with fail
        go_ret
        exact ⟨false, D', n, dp, ng', tr', rfl, hD, hn, by omega, by omega, hU, HBad.out (by omega)⟩
    go_upto_block 5 with (fail)
    refine wp_cut (FR 224 (fun g' wx => ∃ (j e : Nat), (g' 0 = .pointer (some ⟨g, 0, none⟩) ∧ g' 1 = .string s ∧ g' 4 = .bool false ∧ g' 5 = .int .i64 (j : Int) ∧ g' 8 = .int .i64 es ∧ g' 9 = .int .i64 (e : Int)) ∧ j ≤ s.size ∧ e ≤ 100009 ∧ Run (Of (exS s)) (i, 0) (j, e) ∧ wc = wx)) ?restC ?firstC
    case firstC =>
      intro J3 K3 hJ3 hK3
      go_wp2_with fail
      refine wp_loop_ghost_k (fun mm => FR 224 (fun g' wx => ∃ (j e : Nat), mm = s.size - j ∧ (g' 0 = .pointer (some ⟨g, 0, none⟩) ∧ g' 1 = .string s ∧ g' 4 = .bool false ∧ g' 5 = .int .i64 (j : Int) ∧ g' 8 = .int .i64 es ∧ g' 9 = .int .i64 (e : Int)) ∧ j ≤ s.size ∧ e ≤ 100009 ∧ (∀ y, Run (Of (exS s)) (j, e) y → Run (Of (exS s)) (i, 0) y) ∧ wc = wx)) (s.size - i) ?atStart ?round
      case atStart =>
        refine FR.intro (by rfl) ?_
        exact ⟨i, 0, rfl, ⟨rfl, rfl, rfl, rfl, rfl, rfl⟩, hi, by omega, fun _ h => h, rfl⟩
      case round =>
        intro gk
        refine FR.rest ?_
        rintro g' we ⟨j, e, hm, ⟨e0, e1, e4, e5, e8, e9⟩, hj, he, hRX, rfl⟩
        have HRX := Lib.hid hRX; clear hRX
        rw [lit224]
        simp only [e0, e1, e4, e5, e8, e9]
        clear e0 e1 e4 e5 e8 e9
        intro J4 K4 hJ4 hK4
        have Hm := Lib.hid hm; clear hm
        have hbj := bAt_le s j
        by_cases hjl : j < s.size
        rotate_left
        · have : True := trivial
          as_aux_lemma =>
            go_wp2_with fail
            refine Met.intro ?_
            go_step
            refine FR.intro (by rfl) ?_
            exact ⟨j, e, ⟨rfl, rfl, rfl, rfl, rfl, rfl⟩, hj, he, HRX.out _ (.done (exS_e hjl)), rfl⟩
        by_cases hdig : 48 ≤ (bAt s j : Int) ∧ (bAt s j : Int) ≤ 57
        · obtain ⟨g1, g2⟩ := hdig
          have e95 : ((bAt s j : Int) == 95) = false := by simp; omega
          by_cases he1 : (e : Int) < 10000
          · have : True := trivial
            as_aux_lemma =>
              go_wp2_with fail
              refine Handed.intro (s.size - (j + 1)) ?_ ?_
              · have := Hm.out; omega
              go_step
              refine FR.intro (by rfl) ?_
              exact ⟨j + 1, e * 10 + (bAt s j - 48), rfl, ⟨rfl, rfl, rfl, rfl, rfl, by simp only [slotOf]; congr 1; omega⟩, by omega, by omega, fun y hy => HRX.out y (.step (exS_d hjl (by omega) (by omega)) hy), rfl⟩
          · have : True := trivial
            as_aux_lemma =>
              go_wp2_with fail
              refine Handed.intro (s.size - (j + 1)) ?_ ?_
              · have := Hm.out; omega
              go_step
              refine FR.intro (by rfl) ?_
              exact ⟨j + 1, e, rfl, ⟨rfl, rfl, rfl, rfl, rfl, rfl⟩, by omega, by omega,fun y hy => HRX.out y (.step (exS_x hjl (by omega) (by omega)) hy), rfl⟩
        · by_cases c95 : bAt s j = 95
          · have e95 : ((bAt s j : Int) == 95) = true := by rw [c95]; rfl
            have g1 : (48 : Int) ≤ (bAt s j : Int) := by omega
            have g2 : ¬ (bAt s j : Int) ≤ 57 := by omega
            as_aux_lemma =>
              go_wp2_with fail
              refine Handed.intro (s.size - (j + 1)) ?_ ?_
              · have := Hm.out; omega
              go_step
              refine FR.intro (by rfl) ?_
              exact ⟨j + 1, e, rfl, ⟨rfl, rfl, rfl, rfl, rfl, rfl⟩, by omega, by omega,fun y hy => HRX.out y (.step (exS_u hjl c95) hy), rfl⟩
          · have e95 : ((bAt s j : Int) == 95) = false := by simp; omega
            by_cases g1 : (48 : Int) ≤ (bAt s j : Int)
            · have g2 : ¬ (bAt s j : Int) ≤ 57 := by omega
              as_aux_lemma =>
                go_wp2_with fail
                refine Met.intro ?_
                go_step
                refine FR.intro (by rfl) ?_
                exact ⟨j, e, ⟨rfl, rfl, rfl, rfl, rfl, rfl⟩, hj, he, HRX.out _ (.done (exS_o hjl (by omega) c95)), rfl⟩
            · have : True := trivial
              as_aux_lemma =>
                go_wp2_with fail
                refine Met.intro ?_
                go_step
                refine FR.intro (by rfl) ?_
                exact ⟨j, e, ⟨rfl, rfl, rfl, rfl, rfl, rfl⟩, hj, he, HRX.out _ (.done (exS_o hjl (by omega) c95)), rfl⟩
    case restC =>
    refine FR.rest ?_
    rintro g' we ⟨j, e, ⟨e0, e1, e4, e5, e8, e9⟩, hj, he, hRX, rfl⟩
    have HX : Hid (∀ r, SE4 s (D', n, dp + (e : Int) * es, tr') ng' j r → SE s D r) := Lib.hid fun r hr => HR4.out r (by
      have h1 : (sgX s k).1 = i := by rw [← HSX.out]
      have h2 : (sgX s k).2 = es := by rw [← HSX.out]
      unfold SE3
      rw [if_pos rfl, h1, h2, if_pos (by omega)]
      exact ⟨j, e, hRX, hr⟩)
    clear hRX
    rw [lit224]
    simp only [e0, e1, e4, e5, e8, e9]
    clear e0 e1 e4 e5 e8 e9
    rcases hes with rfl | rfl
    · have : True := trivial
      as_aux_lemma =>
        go_wp2_with fail
        refine Met.intro ?_
        go_step
        refine FR.intro (by rfl) ?_
        exact ⟨j, _, ⟨rfl, rfl, rfl, rfl⟩, hj, by omega, by omega, hD.setDp _, hU.setOne _ _, fun r hr => HX.out r (by first | exact hr | (rw [show dp + (e : Int) * 1 = dp + (e : Int) by omega]; exact hr) | (rw [show dp + (e : Int) * (-1) = dp + -(e : Int) by omega]; exact hr) | (rw [show dp + (e : Int) * (-1) = dp - (e : Int) by omega]; exact hr))⟩
    · have : True := trivial
      as_aux_lemma =>
        go_wp2_with fail
        refine Met.intro ?_
        go_step
        refine FR.intro (by rfl) ?_
        exact ⟨j, _, ⟨rfl, rfl, rfl, rfl⟩, hj, by omega, by omega, hD.setDp _, hU.setOne _ _, fun r hr => HX.out r (by first | exact hr | (rw [show dp + (e : Int) * 1 = dp + (e : Int) by omega]; exact hr) | (rw [show dp + (e : Int) * (-1) = dp + -(e : Int) by omega]; exact hr) | (rw [show dp + (e : Int) * (-1) = dp - (e : Int) by omega]; exact hr))⟩
  case rest =>
  clear hD hU hd1 hd2 hfz1 hc1
  refine FR.rest ?_
  rintro g' we ⟨j, dp, ⟨e0, e1, e4, e5⟩, hj, hd1, hd2, hD, hU, hR5⟩
  have HR5 := Lib.hid hR5; clear hR5 HR4
  rw [lit224]
  simp only [e0, e1, e4, e5]
  clear e0 e1 e4 e5
  by_cases hje : j = s.size
  · have he' : ((j : Int) != (s.size : Int)) = false := by simp; omega
    as_aux_lemma =>
      go_wp2_with fail
      go_ret
      exact ⟨true, D', n, _, ng', tr', rfl, hD, hn, by omega, by omega, hU, HR5.out _ (by unfold SE4; rw [if_pos hje, if_pos rfl])⟩
  · have he' : ((j : Int) != (s.size : Int)) = true := by simp; omega
    as_aux_lemma =>
      go_wp2_with fail
      go_ret
      exact ⟨false, D', n, _, ng', tr', rfl, hD, hn, by omega, by omega, hU, HR5.out _ (by unfold SE4; rw [if_neg hje]; rfl)⟩
end Go.Proofs.YtkocponnjfkchaaGreatDoor
