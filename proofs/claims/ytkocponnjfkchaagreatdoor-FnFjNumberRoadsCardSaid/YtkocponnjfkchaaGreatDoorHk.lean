/- fastfloat.Parse of a number's text, as a function of it. -/
import Derived.Test.YtkocponnjfkchaaGreatDoorHi
import Derived.Test.YtkocponnjfkchaaGreatDoorNn
namespace Go.Proofs.YtkocponnjfkchaaGreatDoor
open Go.RowKit

theorem lit326 (g : Nat → Value) : ((List.range 326).map g).toArray = #[g 0, g 1, g 2, g 3, g 4, g 5, g 6, g 7, g 8, g 9, g 10, g 11, g 12, g 13, g 14, g 15, g 16, g 17, g 18, g 19, g 20, g 21, g 22, g 23, g 24, g 25, g 26, g 27, g 28, g 29, g 30, g 31, g 32, g 33, g 34, g 35, g 36, g 37, g 38, g 39, g 40, g 41, g 42, g 43, g 44, g 45, g 46, g 47, g 48, g 49, g 50, g 51, g 52, g 53, g 54, g 55, g 56, g 57, g 58, g 59, g 60, g 61, g 62, g 63, g 64, g 65, g 66, g 67, g 68, g 69, g 70, g 71, g 72, g 73, g 74, g 75, g 76, g 77, g 78, g 79, g 80, g 81, g 82, g 83, g 84, g 85, g 86, g 87, g 88, g 89, g 90, g 91, g 92, g 93, g 94, g 95, g 96, g 97, g 98, g 99, g 100, g 101, g 102, g 103, g 104, g 105, g 106, g 107, g 108, g 109, g 110, g 111, g 112, g 113, g 114, g 115, g 116, g 117, g 118, g 119, g 120, g 121, g 122, g 123, g 124, g 125, g 126, g 127, g 128, g 129, g 130, g 131, g 132, g 133, g 134, g 135, g 136, g 137, g 138, g 139, g 140, g 141, g 142, g 143, g 144, g 145, g 146, g 147, g 148, g 149, g 150, g 151, g 152, g 153, g 154, g 155, g 156, g 157, g 158, g 159, g 160, g 161, g 162, g 163, g 164, g 165, g 166, g 167, g 168, g 169, g 170, g 171, g 172, g 173, g 174, g 175, g 176, g 177, g 178, g 179, g 180, g 181, g 182, g 183, g 184, g 185, g 186, g 187, g 188, g 189, g 190, g 191, g 192, g 193, g 194, g 195, g 196, g 197, g 198, g 199, g 200, g 201, g 202, g 203, g 204, g 205, g 206, g 207, g 208, g 209, g 210, g 211, g 212, g 213, g 214, g 215, g 216, g 217, g 218, g 219, g 220, g 221, g 222, g 223, g 224, g 225, g 226, g 227, g 228, g 229, g 230, g 231, g 232, g 233, g 234, g 235, g 236, g 237, g 238, g 239, g 240, g 241, g 242, g 243, g 244, g 245, g 246, g 247, g 248, g 249, g 250, g 251, g 252, g 253, g 254, g 255, g 256, g 257, g 258, g 259, g 260, g 261, g 262, g 263, g 264, g 265, g 266, g 267, g 268, g 269, g 270, g 271, g 272, g 273, g 274, g 275, g 276, g 277, g 278, g 279, g 280, g 281, g 282, g 283, g 284, g 285, g 286, g 287, g 288, g 289, g 290, g 291, g 292, g 293, g 294, g 295, g 296, g 297, g 298, g 299, g 300, g 301, g 302, g 303, g 304, g 305, g 306, g 307, g 308, g 309, g 310, g 311, g 312, g 313, g 314, g 315, g 316, g 317, g 318, g 319, g 320, g 321, g 322, g 323, g 324, g 325] := by kernel_rfl
/-- The slow road's number: strconv.ParseFloat's, or an error. -/
def fbk (s : ByteArray) (f : Nat) (ok : Bool) : Prop := ∃ g k, IF s (g, k) ∧ ((k ≠ 0 ∧ infV g = false ∧ f = 0 ∧ ok = false) ∨ ((k = 0 ∨ infV g = true) ∧ f = g ∧ ok = true))
theorem fbk.uniq {s : ByteArray} {f f' : Nat} {ok ok' : Bool} (h : fbk s f ok) (h' : fbk s f' ok') : f = f' ∧ ok = ok' := by
  obtain ⟨g, k, h1, h2⟩ := h
  obtain ⟨g', k', k1, k2⟩ := h'
  have e := h1.uniq k1
  injection e with e1 e2
  subst e1 e2
  rcases h2 with ⟨a1, a2, a3, a4⟩ | ⟨a1, a2, a3⟩ <;> rcases k2 with ⟨b1, b2, b3, b4⟩ | ⟨b1, b2, b3⟩
  · exact ⟨a3.trans b3.symm, a4.trans b4.symm⟩
  · rcases b1 with b1 | b1
    · exact absurd b1 a1
    · rw [a2] at b1; cases b1
  · rcases a1 with a1 | a1
    · exact absurd a1 b1
    · rw [b2] at a1; cases a1
  · exact ⟨a2.trans b2.symm, a3.trans b3.symm⟩
theorem fbk.nn {s : ByteArray} {f : Nat} {ok : Bool} (h : fbk s f ok) : NN f := by
  obtain ⟨g, k, h1, h2⟩ := h
  rcases h2 with ⟨_, _, rfl, _⟩ | ⟨_, rfl, _⟩
  · exact nn_zero
  · exact h1.nn
def sgF (s : ByteArray) (X : Nat) : Nat := if mnS s = true then Op.negFloat .f64 X else X
theorem sgF_pos {s : ByteArray} {X : Nat} (h : mnS s = false) : sgF s X = X := if_neg (by rw [h]; exact Bool.false_ne_true)
theorem sgF_neg {s : ByteArray} {X : Nat} (h : mnS s = true) : sgF s X = Op.negFloat .f64 X := if_pos h
def f1V (s : ByteArray) (a b : Nat) : Nat := floatOfInt .f64 (dv 0 s a (b - a) : Int)
def f2V (s : ByteArray) (a b c : Nat) : Nat := if b < c then fquoV (floatOfInt .f64 (dv (dv 0 s a (b - a)) s (b + 1) (c - (b + 1)) : Int)) (tFF.getD (c - (b + 1)) 0) else f1V s a b
def xV (s : ByteArray) (c : Nat) : Nat := dv 0 s (exD s c) (s.size - exD s c)
def pwV (s : ByteArray) (c : Nat) : Nat := if bAt s (c + 1) = 45 ∧ 0 < xV s c then powN (xV s c) else powP (xV s c)
/-- What Parse makes of a number with these parts. -/
def FPr (s : ByteArray) (a b c : Nat) (f : Nat) (ok : Bool) : Prop :=
  if 19 ≤ b ∨ (b < c ∧ 17 ≤ c - a) ∨ (c < s.size ∧ 300 < xV s c) then fbk s f ok
  else ok = true ∧ f = sgF s (if c < s.size then fmulV (f2V s a b c) (pwV s c) else f2V s a b c)
theorem FPr.uniq {s : ByteArray} {a b c f f' : Nat} {ok ok' : Bool} (h : FPr s a b c f ok) (h' : FPr s a b c f' ok') : f = f' ∧ ok = ok' := by
  unfold FPr at h h'
  split at h
  · rename_i hc; rw [if_pos hc] at h'; exact h.uniq h'
  · rename_i hc; rw [if_neg hc] at h'; exact ⟨h.2.trans h'.2.symm, h.1.trans h'.1.symm⟩
theorem f2V_nn (s : ByteArray) (a b c : Nat) (h : b < c → c - (b + 1) < 17) : NN (f2V s a b c) := by
  unfold f2V f1V
  split
  · rename_i hc
    obtain ⟨r, hr, hn⟩ := div_nn (show NN (floatOfInt .f64 (dv (dv 0 s a (b - a)) s (b + 1) (c - (b + 1)) : Int)) from nearest_nn _ _ _) (tFF_fz (h hc))
    rw [quo_is hr]
    exact hn
  · exact nearest_nn _ _ _
/-- What Parse returns. -/
def FfRet (s : ByteArray) (a b c : Nat) (w : World) (e : Ending) (w' : World) : Prop := (∃ f ok ev, FPr s a b c f ok ∧ e = .returned (.tuple #[.float .f64 f, ev]) ∧ ErrIf ok ev) ∧ Upd NoB w w'
set_option maxHeartbeats 8000000 in
set_option maxRecDepth 8000 in
theorem ffParse_any (lo : Nat) (s : ByteArray) (a b c : Nat) (w : World) (hs : s.size ≤ 100000) (hN : NumD s a b c) (hT : TabsF lo w) (hlo : lo ≤ w.heap.size) :
    Calls Tryz.prog 28 #[.string s] w (FfRet s a b c w) := by
  have hB := get_bAt s
  obtain ⟨ha1, hbc, hcz, hz⟩ := hN.bounds
  have hip := hN.ip
  have hab := hN.ab
  have hmn := hN.minus
  have HN := Lib.hid hN; clear hN
  have hnb : NumB s := fun i hi => by
    have := HN.out.bytes i hi
    unfold nB
    omega
  have HPF := Lib.hid (fun wx hT hl => ParseFloat_is lo s wx (by omega) hnb hT hl)
  have HT := Lib.hid hT
  have HErr := Lib.hid (fun m wx => err_new m wx)
  have e0 : ((s.size : Int) == 0) = false := beq_eq_false_iff_ne.2 (by omega)
  have hz' : (0 : Int) < (s.size : Int) := by omega
  have hda := hip.2.2.1 a (Nat.le_refl _) hab
  have e46a : ((bAt s a : Int) == 46) = false := beq_eq_false_iff_ne.2 (by omega)
  have haz : (a : Int) < (s.size : Int) := by omega
  have hq0 : ((bAt s 0 : Int) == 45) = mnS s := by
    rcases hmn with ⟨h1, h2, _⟩ | ⟨h1, h2, _⟩
    · rw [h1, h2]; rfl
    · rw [h1]; exact beq_eq_false_iff_ne.2 (by omega)
  clear hT hda hnb
  go_enter Tryz.func28, Tryz.ntmps28
  go_upto_if 27 with (fail)
  refine wp_cut (FR 326 (fun g wx => (g 0 = .string s ∧ g 4 = .int .u64 (a : Int) ∧ g 5 = .bool (mnS s)) ∧ wx = w)) ?restS ?firstS
  case firstS =>
    as_aux_lemma =>
    intro J K hJ hK
    rcases hmn with ⟨h1, h2, h3⟩ | ⟨h1, h2, h3⟩
    · have hsz1 : ¬ (s.size : Int) ≤ 1 := by omega
      have hsz2 : (1 : Int) < (s.size : Int) := by omega
      rw [h1, h3] at hJ
      rw [h1] at hq0 ⊢
      clear h1 h2 h3 hip hbc hcz hab ha1 e46a haz
      go_wp2_with fail
      refine Met.intro ?_
      go_step
      refine FR.intro (by rfl) ?_
      exact ⟨⟨rfl, rfl, rfl⟩, rfl⟩
    · rw [h1, h3] at hJ
      rw [h1] at hq0 ⊢
      clear h1 h2 h3 hip hbc hcz hab ha1 e46a haz
      go_wp2_with fail
      refine Met.intro ?_
      go_step
      refine FR.intro (by rfl) ?_
      exact ⟨⟨rfl, rfl, rfl⟩, rfl⟩
  case restS =>
  as_aux_lemma =>
  clear hq0
  refine FR.rest ?_
  rintro g w ⟨⟨e0', e4, e5⟩, rfl⟩
  rw [lit326]
  simp only [e0', e4, e5]
  clear e0' e4 e5
  have ha0 : (0 : Int) ≤ (a : Int) := by omega
  have ha2 : (a : Int) ≤ 1 := by omega
  go_upto_block 0 with (fail)
  clear e46a haz
  refine wp_cut (FR 326 (fun g wx => (g 0 = .string s ∧ g 4 = .int .u64 (b : Int) ∧ g 5 = .bool (mnS s) ∧ g 6 = .int .u64 (dv 0 s a (b - a) : Int) ∧ g 7 = .int .u64 (a : Int)) ∧ b ≤ 18 ∧ wx = w)) ?rest0 ?first0
  case first0 =>
    as_aux_lemma =>
    intro J0 K0 hJ0 hK0
    go_wp2_with fail
    refine wp_loop_ghost_k (fun mm => FR 326 (fun g wx => ∃ k D : Nat, mm = b - k ∧ (g 0 = .string s ∧ g 4 = .int .u64 (k : Int) ∧ g 5 = .bool (mnS s) ∧ g 6 = .int .u64 (D : Int) ∧ g 7 = .int .u64 (a : Int)) ∧ D = dv 0 s a (k - a) ∧ a ≤ k ∧ k ≤ b ∧ k ≤ 18 ∧ wx = w)) (b - a) ?atStart ?round
    case atStart =>
      as_aux_lemma =>
      refine FR.intro (by rfl) ?_
      exact ⟨a, 0, rfl, ⟨rfl, rfl, rfl, rfl, rfl⟩, by rw [Nat.sub_self]; rfl, Nat.le_refl _, Nat.le_of_lt hab, by omega, rfl⟩
    case round =>
      as_aux_lemma =>
      intro gk
      refine FR.rest ?_
      rintro g wx ⟨k, D, hm, ⟨e0', e4, e5, e6, e7⟩, hD, hk1, hk2, hk3, rfl⟩
      rw [lit326]
      simp only [e0', e4, e5, e6, e7]
      clear e0' e4 e5 e6 e7
      intro J2 K2 hJ2 hK2
      have Hm := Lib.hid hm; clear hm
      have HD := Lib.hid hD
      have hbk := bAt_le s k
      by_cases hlt : k < b
      · obtain ⟨g1', g2'⟩ := hip.2.2.1 k hk1 hlt
        have g1 : (48 : Int) ≤ (bAt s k : Int) := by omega
        have g2 : (bAt s k : Int) ≤ 57 := by omega
        have hkz : (k : Int) < (s.size : Int) := by omega
        have HNx : Hid (((dv 0 s a (k + 1 - a) : Nat) : Int) = (D : Int) * 10 + ((bAt s k : Int) - 48)) := Lib.hid (by rw [hD]; exact dv_next (d0 := 0) hk1 g1')
        have hd := dv_lt (d0 := 0) (n := 0) (s := s) (a := a) (by decide) (k - a) (fun q hq => (hip.2.2.1 (a + q) (by omega) (by omega)).2)
        rw [Nat.zero_add, ← hD] at hd
        clear hD
        have hd2 : (D : Int) < 1000000000000000000 := by
          have : 10 ^ (k - a) ≤ 10 ^ 18 := Nat.pow_le_pow_right (by decide) (by omega)
          omega
        have hd3 : (0 : Int) ≤ (D : Int) := by omega
        clear hd
        by_cases h18 : k < 18
        · have hk18 : ¬ (18 : Int) < (k : Int) + 1 := by omega
          clear hip hmn hbc hcz hab
          as_aux_lemma =>
            go_wp2_with fail
            refine Handed.intro (b - (k + 1)) ?_ ?_
            · have := Hm.out; omega
            go_step
            refine FR.intro (by rfl) ?_
            exact ⟨k + 1, _, rfl, ⟨rfl, by simp only [slotOf]; congr 1, rfl, by simp only [slotOf]; congr 1; exact (HNx.out).symm, rfl⟩, rfl, by omega, hlt, by omega, rfl⟩
        have hk18 : (18 : Int) < (k : Int) + 1 := by omega
        have HV : Hid (∀ f ok, fbk s f ok → FPr s a b c f ok) := Lib.hid (fun f ok h => by unfold FPr; rw [if_pos (.inl (by omega))]; exact h)
        clear h18 hk3 hip hmn hbc hcz hab
        go_wp2_with fail
        refine (HPF.out _ HT.out.1 hlo).mono ?_
        rintro e w2 ⟨⟨f, k9, ev, rfl, hev, hI⟩, hu2⟩
        have HU2 := Lib.hid hu2; clear hu2
        rcases hev with ⟨h9, rfl⟩ | ⟨h9, t9, y9, rfl⟩
        · have HR : Hid (fbk s f true) := Lib.hid ⟨f, k9, hI, .inr ⟨.inl h9, rfl, rfl⟩⟩
          clear hI h9
          go_wp2_with fail
          refine bodyPost_ret (v := .tuple #[.float .f64 f, .nilIface]) (by simp [results, Tryz.results28, go_sem]) rfl ?_
          exact ⟨⟨f, true, _, HV.out _ _ HR.out, rfl, .inl ⟨rfl, rfl⟩⟩, HU2.out⟩
        · have HInf := Lib.hid (IsInf_any f w2)
          cases hinf : infV f
          · have HR : Hid (fbk s 0 false) := Lib.hid ⟨f, k9, hI, .inl ⟨h9, hinf, rfl, rfl⟩⟩
            rw [hinf] at HInf
            clear hI h9 hinf
            go_wp2_with fail
            refine HInf.out.mono ?_
            rintro e w3 ⟨rfl, rfl⟩
            go_wp2_with fail
            refine bodyPost_ret (v := .tuple #[.float .f64 0, .iface t9 y9]) (by simp [results, Tryz.results28, go_sem]) rfl ?_
            exact ⟨⟨0, false, _, HV.out _ _ HR.out, rfl, .inr ⟨rfl, _, _, rfl⟩⟩, HU2.out⟩
          · have HR : Hid (fbk s f true) := Lib.hid ⟨f, k9, hI, .inr ⟨.inr hinf, rfl, rfl⟩⟩
            rw [hinf] at HInf
            clear hI h9 hinf
            go_wp2_with fail
            refine HInf.out.mono ?_
            rintro e w3 ⟨rfl, rfl⟩
            go_wp2_with fail
            refine bodyPost_ret (v := .tuple #[.float .f64 f, .nilIface]) (by simp [results, Tryz.results28, go_sem]) rfl ?_
            exact ⟨⟨f, true, _, HV.out _ _ HR.out, rfl, .inl ⟨rfl, rfl⟩⟩, HU2.out⟩
      obtain rfl : k = b := by omega
      clear hlt
      have HDe := Lib.hid hD; clear hD
      by_cases hsz : k < s.size
      · have hkz : (k : Int) < (s.size : Int) := by omega
        have hnd := hip.2.2.2 hsz
        by_cases h48 : 48 ≤ bAt s k
        · have g1 : (48 : Int) ≤ (bAt s k : Int) := by omega
          have g2 : ¬ (bAt s k : Int) ≤ 57 := by omega
          clear hnd h48 hsz hip hmn hbc hcz hab hk1 hk2
          as_aux_lemma =>
            go_wp2_with fail
            refine Met.intro ?_
            go_step
            refine FR.intro (by rfl) ?_
            exact ⟨⟨rfl, rfl, rfl, by simp only [slotOf]; rw [HDe.out], rfl⟩, hk3, rfl⟩
        · have g1 : ¬ (48 : Int) ≤ (bAt s k : Int) := by omega
          clear hnd h48 hsz hip hmn hbc hcz hab hk1 hk2
          as_aux_lemma =>
            go_wp2_with fail
            refine Met.intro ?_
            go_step
            refine FR.intro (by rfl) ?_
            exact ⟨⟨rfl, rfl, rfl, by simp only [slotOf]; rw [HDe.out], rfl⟩, hk3, rfl⟩
      · have hkz : ¬ (k : Int) < (s.size : Int) := by omega
        clear hsz hip hmn hbc hcz hab hk1 hk2
        as_aux_lemma =>
          go_wp2_with fail
          refine Met.intro ?_
          go_step
          refine FR.intro (by rfl) ?_
          exact ⟨⟨rfl, rfl, rfl, by simp only [slotOf]; rw [HDe.out], rfl⟩, hk3, rfl⟩
  case rest0 =>
  as_aux_lemma =>
  refine FR.rest ?_
  rintro g w ⟨⟨e0', e4, e5, e6, e7⟩, hb18, rfl⟩
  rw [lit326]
  simp only [e0', e4, e5, e6, e7]
  clear e0' e4 e5 e6 e7
  have hja : ¬ (b : Int) ≤ (a : Int) := by omega
  have hneg : ∀ f w, (Op.unary .neg (.float .f64 f)).run Tryz.prog w = .ok (.float .f64 (Op.negFloat .f64 f)) w := fun f w => fneg_run f w
  have hd1 := dv_lt (d0 := 0) (n := 0) (s := s) (a := a) (by decide) (b - a) (fun q hq => (hip.2.2.1 (a + q) (by omega) (by omega)).2)
  rw [Nat.zero_add] at hd1
  obtain ⟨D1, hD1⟩ : ∃ D1, D1 = dv 0 s a (b - a) := ⟨_, rfl⟩
  rw [← hD1] at hd1 ⊢
  have HD1 := Lib.hid hD1; clear hD1
  have HDB := Lib.hid hd1; clear hd1
  by_cases hbs : b < s.size
  rotate_left
  · have hkz : (s.size : Int) ≤ (b : Int) := by omega
    have HV : Hid (FPr s a b c (sgF s (floatOfInt .f64 (D1 : Int))) true) := Lib.hid (by
      unfold FPr
      rw [if_neg (by omega), if_neg (by omega)]
      unfold f2V f1V
      rw [if_neg (by omega), HD1.out]
      exact ⟨rfl, rfl⟩)
    clear hip hmn hbc hcz hab hbs
    cases hmm : mnS s
    · have HS : Hid (sgF s (floatOfInt .f64 (D1 : Int)) = floatOfInt .f64 (D1 : Int)) := Lib.hid (sgF_pos hmm)
      go_wp2_with fail
      refine bodyPost_ret (v := .tuple #[.float .f64 (floatOfInt .f64 (D1 : Int)), .nilIface]) (by simp [results, Tryz.results28, go_sem]) rfl ?_
      exact ⟨⟨_, true, _, by rw [← HS.out]; exact HV.out, rfl, .inl ⟨rfl, rfl⟩⟩, Upd.refl _ _⟩
    · have HS : Hid (sgF s (floatOfInt .f64 (D1 : Int)) = Op.negFloat .f64 (floatOfInt .f64 (D1 : Int))) := Lib.hid (sgF_neg hmm)
      go_wp2_with fail
      refine bodyPost_ret (v := .tuple #[.float .f64 (Op.negFloat .f64 (floatOfInt .f64 (D1 : Int))), .nilIface]) (by simp [results, Tryz.results28, go_sem]) rfl ?_
      exact ⟨⟨_, true, _, by rw [← HS.out]; exact HV.out, rfl, .inl ⟨rfl, rfl⟩⟩, Upd.refl _ _⟩
  have hkz : ¬ (s.size : Int) ≤ (b : Int) := by omega
  have hbz : (b : Int) < (s.size : Int) := by omega
  have hb46 : ((bAt s b : Int) == 46) = decide (b < c) := by
    by_cases hfr : b < c
    · rw [decide_eq_true hfr, (HN.out.frac hfr).1]; rfl
    · have := HN.out.exp (show c < s.size by omega)
      have hbc' : b = c := by omega
      rw [decide_eq_false hfr]
      refine beq_eq_false_iff_ne.2 ?_
      rw [hbc']
      omega
  go_upto_if 148 with (fail)
  clear hb46 hkz hbz hja
  refine wp_cut (FR 326 (fun g wx => (g 0 = .string s ∧ g 4 = .int .u64 (c : Int) ∧ g 5 = .bool (mnS s) ∧ g 11 = .float .f64 (f2V s a b c)) ∧ c < s.size ∧ ¬ (b < c ∧ 17 ≤ c - a) ∧ wx = w)) ?rest1 ?first1
  case first1 =>
    as_aux_lemma =>
    intro J K hJ hK
    by_cases hfr : b < c
    rotate_left
    · rw [decide_eq_false hfr]
      have HF : Hid (f2V s a b c = floatOfInt .f64 (D1 : Int)) := Lib.hid (by unfold f2V f1V; rw [if_neg hfr, HD1.out])
      have hcb : c = b := by omega
      have HC : Hid (c = b ∧ c < s.size ∧ ¬ (b < c ∧ 17 ≤ c - a)) := Lib.hid ⟨hcb, by omega, fun h => hfr h.1⟩
      clear hip hmn hbc hcz hab hfr hcb hbs
      go_wp2_with fail
      refine Met.intro ?_
      go_step
      refine FR.intro (by rfl) ?_
      exact ⟨⟨rfl, by simp only [slotOf]; rw [HC.out.1], rfl, by simp only [slotOf]; rw [HF.out]⟩, HC.out.2.1, HC.out.2.2, rfl⟩
    rw [decide_eq_true hfr]
    obtain ⟨h46, hb1, hdig⟩ := HN.out.frac hfr
    have hk1z : ¬ (s.size : Int) ≤ (b : Int) + 1 := by omega
    go_upto_block 2 with (fail)
    clear hk1z
    refine wp_cut (FR 326 (fun g wx => (g 0 = .string s ∧ g 4 = .int .u64 (c : Int) ∧ g 5 = .bool (mnS s) ∧ g 6 = .int .u64 (dv D1 s (b + 1) (c - (b + 1)) : Int) ∧ g 12 = .int .u64 ((b : Int) + 1)) ∧ c - a ≤ 16 ∧ wx = w)) ?restB ?firstB
    case firstB =>
      as_aux_lemma =>
      intro J0 K0 hJ0 hK0
      go_wp2_with fail
      refine wp_loop_ghost_k (fun mm => FR 326 (fun g wx => ∃ k D : Nat, mm = c - k ∧ (g 0 = .string s ∧ g 4 = .int .u64 (k : Int) ∧ g 5 = .bool (mnS s) ∧ g 6 = .int .u64 (D : Int) ∧ g 7 = .int .u64 (a : Int) ∧ g 12 = .int .u64 ((b : Int) + 1)) ∧ D = dv D1 s (b + 1) (k - (b + 1)) ∧ b + 1 ≤ k ∧ k ≤ c ∧ (k = b + 1 ∨ k - a ≤ 16) ∧ wx = w)) (c - (b + 1)) ?atStartB ?roundB
      case atStartB =>
        as_aux_lemma =>
        refine FR.intro (by rfl) ?_
        exact ⟨b + 1, D1, rfl, ⟨rfl, rfl, rfl, rfl, rfl, rfl⟩, by rw [Nat.sub_self]; rfl, Nat.le_refl _, Nat.le_of_lt hb1, .inl rfl, rfl⟩
      case roundB =>
        as_aux_lemma =>
        intro gk
        refine FR.rest ?_
        rintro g wx ⟨k, D, hm, ⟨e0', e4, e5, e6, e7, e12⟩, hD, hk1, hk2, hk3, rfl⟩
        rw [lit326]
        simp only [e0', e4, e5, e6, e7, e12]
        clear e0' e4 e5 e6 e7 e12
        intro J2 K2 hJ2 hK2
        have Hm := Lib.hid hm; clear hm
        have hbk := bAt_le s k
        by_cases hlt : k < c
        · obtain ⟨g1', g2'⟩ := hdig.2.2.1 k hk1 hlt
          have g1 : (48 : Int) ≤ (bAt s k : Int) := by omega
          have g2 : (bAt s k : Int) ≤ 57 := by omega
          have hkz : (k : Int) < (s.size : Int) := by omega
          have HNx : Hid (((dv D1 s (b + 1) (k + 1 - (b + 1)) : Nat) : Int) = (D : Int) * 10 + ((bAt s k : Int) - 48)) := Lib.hid (by rw [hD]; exact dv_next (d0 := D1) hk1 g1')
          have hd := dv_lt (d0 := D1) (n := b - a) (s := s) (a := b + 1) HDB.out (k - (b + 1)) (fun q hq => (hdig.2.2.1 (b + 1 + q) (by omega) (by omega)).2)
          rw [← hD] at hd
          clear hD
          have hd2 : (D : Int) < 1000000000000000000 := by
            have : 10 ^ (b - a + (k - (b + 1))) ≤ 10 ^ 18 := Nat.pow_le_pow_right (by decide) (by omega)
            omega
          have hd3 : (0 : Int) ≤ (D : Int) := by omega
          have hak : (a : Int) ≤ (k : Int) + 1 := by omega
          have hks : (k : Int) ≤ 100000 := by omega
          clear hd
          by_cases h17 : 17 ≤ k + 1 - a
          rotate_left
          · have hk17 : ¬ (17 : Int) ≤ (k : Int) + 1 - (a : Int) := by omega
            have HK : Hid (k + 1 = b + 1 ∨ k + 1 - a ≤ 16) := Lib.hid (.inr (by omega))
            clear hip hmn hbc hcz hab hdig h46 h17 hk3
            as_aux_lemma =>
              go_wp2_with fail
              refine Handed.intro (c - (k + 1)) ?_ ?_
              · have := Hm.out; omega
              go_step
              refine FR.intro (by rfl) ?_
              exact ⟨k + 1, _, rfl, ⟨rfl, by simp only [slotOf]; congr 1, rfl, by simp only [slotOf]; congr 1; exact (HNx.out).symm, rfl, rfl⟩, rfl, by omega, hlt, HK.out, rfl⟩
          have hk17 : (17 : Int) ≤ (k : Int) + 1 - (a : Int) := by omega
          have HV : Hid (∀ f ok, fbk s f ok → FPr s a b c f ok) := Lib.hid (fun f ok h => by unfold FPr; rw [if_pos (.inr (.inl ⟨hfr, by omega⟩))]; exact h)
          clear h17 hk3 hip hmn hbc hcz hab hdig h46
          go_wp2_with fail
          refine (HPF.out _ HT.out.1 hlo).mono ?_
          rintro e w2 ⟨⟨f, k9, ev, rfl, hev, hI⟩, hu2⟩
          have HU2 := Lib.hid hu2; clear hu2
          rcases hev with ⟨h9, rfl⟩ | ⟨h9, t9, y9, rfl⟩
          · have HR : Hid (fbk s f true) := Lib.hid ⟨f, k9, hI, .inr ⟨.inl h9, rfl, rfl⟩⟩
            clear hI h9
            go_wp2_with fail
            refine bodyPost_ret (v := .tuple #[.float .f64 f, .nilIface]) (by simp [results, Tryz.results28, go_sem]) rfl ?_
            exact ⟨⟨f, true, _, HV.out _ _ HR.out, rfl, .inl ⟨rfl, rfl⟩⟩, HU2.out⟩
          · have HInf := Lib.hid (IsInf_any f w2)
            cases hinf : infV f
            · have HR : Hid (fbk s 0 false) := Lib.hid ⟨f, k9, hI, .inl ⟨h9, hinf, rfl, rfl⟩⟩
              rw [hinf] at HInf
              clear hI h9 hinf
              go_wp2_with fail
              refine HInf.out.mono ?_
              rintro e w3 ⟨rfl, rfl⟩
              go_wp2_with fail
              refine (HErr.out _ _).mono ?_
              rintro e w4 ⟨rfl, hu4⟩
              have HU4 := Lib.hid (HU2.out.trans hu4); clear hu4
              go_wp2_with fail
              refine bodyPost_ret (v := .tuple #[.float .f64 0, .iface 76 (.pointer (some ⟨w3.heap.size, 0, none⟩))]) (by simp [results, Tryz.results28, go_sem]) rfl ?_
              exact ⟨⟨0, false, _, HV.out _ _ HR.out, rfl, .inr ⟨rfl, _, _, rfl⟩⟩, HU4.out⟩
            · have HR : Hid (fbk s f true) := Lib.hid ⟨f, k9, hI, .inr ⟨.inr hinf, rfl, rfl⟩⟩
              rw [hinf] at HInf
              clear hI h9 hinf
              go_wp2_with fail
              refine HInf.out.mono ?_
              rintro e w3 ⟨rfl, rfl⟩
              go_wp2_with fail
              refine bodyPost_ret (v := .tuple #[.float .f64 f, .nilIface]) (by simp [results, Tryz.results28, go_sem]) rfl ?_
              exact ⟨⟨f, true, _, HV.out _ _ HR.out, rfl, .inl ⟨rfl, rfl⟩⟩, HU2.out⟩
        obtain rfl : k = c := by omega
        clear hlt
        have HDe := Lib.hid hD; clear hD
        have H16 : Hid (k - a ≤ 16) := Lib.hid (by omega)
        by_cases hsz : k < s.size
        · have hkz : (k : Int) < (s.size : Int) := by omega
          have hnd := hdig.2.2.2 hsz
          by_cases h48 : 48 ≤ bAt s k
          · have g1 : (48 : Int) ≤ (bAt s k : Int) := by omega
            have g2 : ¬ (bAt s k : Int) ≤ 57 := by omega
            clear hnd h48 hsz hip hmn hbc hcz hab hk1 hk2 hk3 hdig h46 hb1 hfr
            as_aux_lemma =>
              go_wp2_with fail
              refine Met.intro ?_
              go_step
              refine FR.intro (by rfl) ?_
              exact ⟨⟨rfl, rfl, rfl, by simp only [slotOf]; rw [HDe.out], rfl⟩, H16.out, rfl⟩
          · have g1 : ¬ (48 : Int) ≤ (bAt s k : Int) := by omega
            clear hnd h48 hsz hip hmn hbc hcz hab hk1 hk2 hk3 hdig h46 hb1 hfr
            as_aux_lemma =>
              go_wp2_with fail
              refine Met.intro ?_
              go_step
              refine FR.intro (by rfl) ?_
              exact ⟨⟨rfl, rfl, rfl, by simp only [slotOf]; rw [HDe.out], rfl⟩, H16.out, rfl⟩
        · have hkz : ¬ (k : Int) < (s.size : Int) := by omega
          clear hsz hip hmn hbc hcz hab hk1 hk2 hk3 hdig h46 hb1 hfr
          as_aux_lemma =>
            go_wp2_with fail
            refine Met.intro ?_
            go_step
            refine FR.intro (by rfl) ?_
            exact ⟨⟨rfl, rfl, rfl, by simp only [slotOf]; rw [HDe.out], rfl⟩, H16.out, rfl⟩
    case restB =>
    as_aux_lemma =>
    refine FR.rest ?_
    rintro g w ⟨⟨e0', e4, e5, e6, e12⟩, h16, rfl⟩
    rw [lit326]
    simp only [e0', e4, e5, e6, e12]
    clear e0' e4 e5 e6 e12
    obtain ⟨D2, hD2⟩ : ∃ D2, D2 = dv D1 s (b + 1) (c - (b + 1)) := ⟨_, rfl⟩
    rw [← hD2]
    have hcb : ¬ (c : Int) < (b : Int) + 1 := by omega
    obtain ⟨e, he⟩ : ∃ e, e = c - (b + 1) := ⟨_, rfl⟩
    have hce : (c : Int) - ((b : Int) + 1) = (e : Int) := by omega
    have he17 : (e : Int) < 17 := by omega
    have hcell := HT.out.2.ff e (by omega)
    obtain ⟨r, hr, _⟩ := div_nn (show NN (floatOfInt .f64 (D2 : Int)) from nearest_nn _ _ _) (tFF_fz (show e < 17 by omega))
    have hquo : ∀ t w, (binOp .quo t (.float .f64 (floatOfInt .f64 (D2 : Int))) (.float .f64 (tFF.getD e 0))).run Tryz.prog w = .ok (.float .f64 r) w := fun t w => fquo_run t hr w
    have HF : Hid (f2V s a b c = r) := Lib.hid (by
      unfold f2V
      rw [if_pos hfr, ← HD1.out, ← hD2, ← he]
      exact quo_is hr)
    have h17 : ¬ (b < c ∧ 17 ≤ c - a) := fun h => by omega
    have H17 := Lib.hid h17
    generalize tFF.getD e 0 = B at hcell hquo
    have hcs0 : (c : Int) ≤ 100000 := by omega
    have hbc1 : (b : Int) + 1 ≤ (c : Int) := by omega
    clear hr hD2 he h17
    by_cases hcs : c < s.size
    · have hkz : ¬ (s.size : Int) ≤ (c : Int) := by omega
      clear hip hmn hbc hab hdig h46 hb1 hfr h16
      go_wp2_with fail
      refine Met.intro ?_
      go_step
      refine FR.intro (by rfl) ?_
      exact ⟨⟨rfl, rfl, rfl, by simp only [slotOf]; rw [HF.out]⟩, hcs, H17.out, rfl⟩
    · have hkz : (s.size : Int) ≤ (c : Int) := by omega
      have HV : Hid (FPr s a b c (sgF s r) true) := Lib.hid (by
        unfold FPr
        have h17 := H17.out
        rw [if_neg (by omega), if_neg hcs, HF.out]
        exact ⟨rfl, rfl⟩)
      clear hip hmn hbc hab hdig h46 hb1 hfr h16 hcs
      cases hmm : mnS s
      · have HS : Hid (sgF s r = r) := Lib.hid (sgF_pos hmm)
        go_wp2_with fail
        refine bodyPost_ret (v := .tuple #[.float .f64 r, .nilIface]) (by simp [results, Tryz.results28, go_sem]) rfl ?_
        exact ⟨⟨_, true, _, by rw [← HS.out]; exact HV.out, rfl, .inl ⟨rfl, rfl⟩⟩, Upd.refl _ _⟩
      · have HS : Hid (sgF s r = Op.negFloat .f64 r) := Lib.hid (sgF_neg hmm)
        go_wp2_with fail
        refine bodyPost_ret (v := .tuple #[.float .f64 (Op.negFloat .f64 r), .nilIface]) (by simp [results, Tryz.results28, go_sem]) rfl ?_
        exact ⟨⟨_, true, _, by rw [← HS.out]; exact HV.out, rfl, .inl ⟨rfl, rfl⟩⟩, Upd.refl _ _⟩
  case rest1 =>
  as_aux_lemma =>
  refine FR.rest ?_
  rintro g w ⟨⟨e0', e4, e5, e11⟩, hcs, h17, rfl⟩
  rw [lit326]
  simp only [e0', e4, e5, e11]
  clear e0' e4 e5 e11 hneg
  have H17 := Lib.hid h17; clear h17
  obtain ⟨hee, hx1, hx2, hx3⟩ := HN.out.exp hcs
  have hnn : NN (f2V s a b c) := f2V_nn s a b c (by intro h; have := H17.out; omega)
  obtain ⟨X2, hX2⟩ : ∃ X2, X2 = f2V s a b c := ⟨_, rfl⟩
  rw [← hX2] at hnn ⊢
  have HX2 := Lib.hid hX2; clear hX2
  have HNN := Lib.hid hnn; clear hnn
  have hcz2 : (c : Int) < (s.size : Int) := by omega
  have hc0 : (c : Int) ≤ 100000 := by omega
  clear hip hmn hbc hab hbs
  go_upto_region 59 with (fail)
  refine wp_cut (FR 326 (fun g wx => (g 0 = .string s ∧ g 4 = .int .u64 (c : Int) ∧ g 5 = .bool (mnS s) ∧ g 11 = .float .f64 X2 ∧ g 231 = .bool true) ∧ wx = w)) ?rest2 ?first2
  case first2 =>
    as_aux_lemma =>
    intro J K hJ hK
    rcases hee with h | h
    · have hbv : (bAt s c : Int) = 101 := by omega
      clear h hx1 hx2 hx3
      go_wp2_with fail
      refine Met.intro ?_
      go_step
      refine FR.intro (by rfl) ?_
      exact ⟨⟨rfl, rfl, rfl, rfl, rfl⟩, rfl⟩
    · have hbv : (bAt s c : Int) = 69 := by omega
      clear h hx1 hx2 hx3
      go_wp2_with fail
      refine Met.intro ?_
      go_step
      refine FR.intro (by rfl) ?_
      exact ⟨⟨rfl, rfl, rfl, rfl, rfl⟩, rfl⟩
  case rest2 =>
  as_aux_lemma =>
  refine FR.rest ?_
  rintro g w ⟨⟨e0', e4, e5, e11, e231⟩, rfl⟩
  rw [lit326]
  simp only [e0', e4, e5, e11, e231]
  clear e0' e4 e5 e11 e231 hee
  have hc1z : ¬ (s.size : Int) ≤ (c : Int) + 1 := by omega
  have hc1z' : (c : Int) + 1 < (s.size : Int) := by omega
  have hbc1 := bAt_le s (c + 1)
  go_upto_region 64 with (fail)
  refine wp_cut (FR 326 (fun g wx => (g 0 = .string s ∧ g 4 = .int .u64 ((c : Int) + 1) ∧ g 5 = .bool (mnS s) ∧ g 11 = .float .f64 X2 ∧ g 15 = .bool false ∧ g 249 = .bool (decide (bAt s (c + 1) = 43 ∨ bAt s (c + 1) = 45))) ∧ wx = w)) ?rest3 ?first3
  case first3 =>
    as_aux_lemma =>
    intro J K hJ hK
    by_cases h43 : bAt s (c + 1) = 43
    · have hbv : (bAt s (c + 1) : Int) = 43 := by omega
      rw [decide_eq_true (.inl h43)] at hJ
      clear h43 hx1 hx2 hx3
      go_wp2_with fail
      refine Met.intro ?_
      go_step
      refine FR.intro (by rfl) ?_
      exact ⟨⟨rfl, rfl, rfl, rfl, rfl, rfl⟩, rfl⟩
    have e43 : ((bAt s (c + 1) : Int) == 43) = false := beq_eq_false_iff_ne.2 (by omega)
    by_cases h45 : bAt s (c + 1) = 45
    · have e45 : ((bAt s (c + 1) : Int) == 45) = true := by rw [h45]; rfl
      rw [decide_eq_true (.inr h45)] at hJ
      clear h43 h45 hx1 hx2 hx3
      go_wp2_with fail
      refine Met.intro ?_
      go_step
      refine FR.intro (by rfl) ?_
      exact ⟨⟨rfl, rfl, rfl, rfl, rfl, rfl⟩, rfl⟩
    · have e45 : ((bAt s (c + 1) : Int) == 45) = false := beq_eq_false_iff_ne.2 (by omega)
      rw [decide_eq_false (by omega)] at hJ
      clear h43 h45 hx1 hx2 hx3
      go_wp2_with fail
      refine Met.intro ?_
      go_step
      refine FR.intro (by rfl) ?_
      exact ⟨⟨rfl, rfl, rfl, rfl, rfl, rfl⟩, rfl⟩
  case rest3 =>
  as_aux_lemma =>
  refine FR.rest ?_
  rintro g w ⟨⟨e0', e4, e5, e11, e15, e249⟩, rfl⟩
  rw [lit326]
  simp only [e0', e4, e5, e11, e15, e249]
  clear e0' e4 e5 e11 e15 e249 hc1z
  go_upto_if 249 with (fail)
  obtain ⟨m45, hm45⟩ : ∃ m45, m45 = decide (bAt s (c + 1) = 45) := ⟨_, rfl⟩
  refine wp_cut (FR 326 (fun g wx => (g 0 = .string s ∧ g 4 = .int .u64 (exD s c : Int) ∧ g 5 = .bool (mnS s) ∧ g 11 = .float .f64 X2 ∧ g 15 = .bool m45) ∧ wx = w)) ?rest4 ?first4
  case first4 =>
    as_aux_lemma =>
    intro J K hJ hK
    by_cases hsg : bAt s (c + 1) = 43 ∨ bAt s (c + 1) = 45
    · rw [decide_eq_true hsg]
      have hxd : exD s c = c + 2 := by unfold exD; rw [if_pos hsg]
      have hc2z : ¬ (s.size : Int) ≤ (c : Int) + 1 + 1 := by omega
      have hmm : ((bAt s (c + 1) : Int) == 45) = m45 := by
        rw [hm45]
        by_cases h : bAt s (c + 1) = 45
        · rw [h]; rfl
        · rw [decide_eq_false h]; exact beq_eq_false_iff_ne.2 (by omega)
      have HXD : Hid (((exD s c : Nat) : Int) = (c : Int) + 1 + 1) := Lib.hid (by rw [hxd]; rfl)
      clear hsg hxd hx1 hx2 hx3 hm45
      go_wp2_with fail
      refine Met.intro ?_
      go_step
      refine FR.intro (by rfl) ?_
      exact ⟨⟨rfl, by simp only [slotOf]; rw [HXD.out], rfl, rfl, rfl⟩, rfl⟩
    · rw [decide_eq_false hsg]
      have hxd : exD s c = c + 1 := by unfold exD; rw [if_neg hsg]
      have hmf : m45 = false := by rw [hm45]; exact decide_eq_false (fun h => hsg (.inr h))
      have HXD : Hid (((exD s c : Nat) : Int) = (c : Int) + 1) := Lib.hid (by rw [hxd]; rfl)
      have HMF := Lib.hid hmf
      clear hsg hxd hx1 hx2 hx3 hm45 hmf
      go_wp2_with fail
      refine Met.intro ?_
      go_step
      refine FR.intro (by rfl) ?_
      exact ⟨⟨rfl, by simp only [slotOf]; rw [HXD.out], rfl, rfl, by simp only [slotOf]; rw [HMF.out]⟩, rfl⟩
  case rest4 =>
  as_aux_lemma =>
  refine FR.rest ?_
  rintro g w ⟨⟨e0', e4, e5, e11, e15⟩, rfl⟩
  rw [lit326]
  simp only [e0', e4, e5, e11, e15]
  clear e0' e4 e5 e11 e15 hc1z' hbc1
  have HM45 := Lib.hid hm45; clear hm45
  obtain ⟨d, hd⟩ : ∃ d, d = exD s c := ⟨_, rfl⟩
  rw [← hd] at hx1 hx2 hx3 ⊢
  have HDd := Lib.hid hd; clear hd
  go_upto_block 4 with (fail)
  refine wp_cut (FR 326 (fun g wx => ∃ X : Nat, (g 0 = .string s ∧ g 4 = .int .u64 (s.size : Int) ∧ g 5 = .bool (mnS s) ∧ g 11 = .float .f64 X2 ∧ g 15 = .bool m45 ∧ g 16 = .int .i16 (X : Int) ∧ g 17 = .int .u64 (d : Int)) ∧ X = xV s c ∧ X ≤ 300 ∧ wx = w)) ?rest5 ?first5
  case first5 =>
    as_aux_lemma =>
    intro J0 K0 hJ0 hK0
    go_wp2_with fail
    refine wp_loop_ghost_k (fun mm => FR 326 (fun g wx => ∃ k X : Nat, mm = s.size - k ∧ (g 0 = .string s ∧ g 4 = .int .u64 (k : Int) ∧ g 5 = .bool (mnS s) ∧ g 11 = .float .f64 X2 ∧ g 15 = .bool m45 ∧ g 16 = .int .i16 (X : Int) ∧ g 17 = .int .u64 (d : Int)) ∧ X = dv 0 s d (k - d) ∧ d ≤ k ∧ k ≤ s.size ∧ X ≤ 300 ∧ wx = w)) (s.size - d) ?atStartX ?roundX
    case atStartX =>
      as_aux_lemma =>
      refine FR.intro (by rfl) ?_
      exact ⟨d, 0, rfl, ⟨rfl, rfl, rfl, rfl, rfl, rfl, rfl⟩, by rw [Nat.sub_self]; rfl, Nat.le_refl _, Nat.le_of_lt hx1, by omega, rfl⟩
    case roundX =>
      as_aux_lemma =>
      intro gk
      refine FR.rest ?_
      rintro g wx ⟨k, X, hm, ⟨e0', e4, e5, e11, e15, e16, e17⟩, hX, hk1, hk2, hX3, rfl⟩
      rw [lit326]
      simp only [e0', e4, e5, e11, e15, e16, e17]
      clear e0' e4 e5 e11 e15 e16 e17
      intro J2 K2 hJ2 hK2
      have Hm := Lib.hid hm; clear hm
      have hbk := bAt_le s k
      by_cases hlt : k < s.size
      · obtain ⟨g1', g2'⟩ := hx2.2.2.1 k hk1 hlt
        have g1 : (48 : Int) ≤ (bAt s k : Int) := by omega
        have g2 : (bAt s k : Int) ≤ 57 := by omega
        have hkz : (k : Int) < (s.size : Int) := by omega
        have hnx : (((dv 0 s d (k + 1 - d) : Nat) : Int) = (X : Int) * 10 + ((bAt s k : Int) - 48)) := by rw [hX]; exact dv_next (d0 := 0) hk1 g1'
        have HNx := Lib.hid hnx
        have hX0 : (0 : Int) ≤ (X : Int) := by omega
        have hX9 : (X : Int) ≤ 300 := by omega
        have hks : (k : Int) ≤ 100000 := by omega
        clear hX
        by_cases h300 : 300 < dv 0 s d (k + 1 - d)
        rotate_left
        · have hk300 : ¬ (300 : Int) < (X : Int) * 10 + ((bAt s k : Int) - 48) := by omega
          have H300 : Hid (dv 0 s d (k + 1 - d) ≤ 300) := Lib.hid (by omega)
          clear h300 hnx hx1 hx2 hx3
          as_aux_lemma =>
            go_wp2_with fail
            refine Handed.intro (s.size - (k + 1)) ?_ ?_
            · have := Hm.out; omega
            go_step
            refine FR.intro (by rfl) ?_
            exact ⟨k + 1, _, rfl, ⟨rfl, by simp only [slotOf]; congr 1, rfl, rfl, rfl, by simp only [slotOf]; congr 1; exact (HNx.out).symm, rfl⟩, rfl, by omega, hlt, H300.out, rfl⟩
        have hk300 : (300 : Int) < (X : Int) * 10 + ((bAt s k : Int) - 48) := by omega
        have HV : Hid (∀ f ok, fbk s f ok → FPr s a b c f ok) := Lib.hid (fun f ok h => by
          have h1 := dv_mono (d0 := 0) (s := s) (a := d) (s.size - (k + 1)) (k + 1 - d)
          rw [show k + 1 - d + (s.size - (k + 1)) = s.size - d by omega] at h1
          have h2 : 300 < xV s c := by unfold xV; rw [← HDd.out]; omega
          unfold FPr; rw [if_pos (.inr (.inr ⟨hcs, h2⟩))]; exact h)
        clear h300 hnx hx1 hx2 hx3
        go_wp2_with fail
        refine (HPF.out _ HT.out.1 hlo).mono ?_
        rintro e w2 ⟨⟨f, k9, ev, rfl, hev, hI⟩, hu2⟩
        have HU2 := Lib.hid hu2; clear hu2
        rcases hev with ⟨h9, rfl⟩ | ⟨h9, t9, y9, rfl⟩
        · have HR : Hid (fbk s f true) := Lib.hid ⟨f, k9, hI, .inr ⟨.inl h9, rfl, rfl⟩⟩
          clear hI h9
          go_wp2_with fail
          refine bodyPost_ret (v := .tuple #[.float .f64 f, .nilIface]) (by simp [results, Tryz.results28, go_sem]) rfl ?_
          exact ⟨⟨f, true, _, HV.out _ _ HR.out, rfl, .inl ⟨rfl, rfl⟩⟩, HU2.out⟩
        · have HInf := Lib.hid (IsInf_any f w2)
          cases hinf : infV f
          · have HR : Hid (fbk s 0 false) := Lib.hid ⟨f, k9, hI, .inl ⟨h9, hinf, rfl, rfl⟩⟩
            rw [hinf] at HInf
            clear hI h9 hinf
            go_wp2_with fail
            refine HInf.out.mono ?_
            rintro e w3 ⟨rfl, rfl⟩
            go_wp2_with fail
            refine (HErr.out _ _).mono ?_
            rintro e w4 ⟨rfl, hu4⟩
            have HU4 := Lib.hid (HU2.out.trans hu4); clear hu4
            go_wp2_with fail
            refine bodyPost_ret (v := .tuple #[.float .f64 0, .iface 76 (.pointer (some ⟨w3.heap.size, 0, none⟩))]) (by simp [results, Tryz.results28, go_sem]) rfl ?_
            exact ⟨⟨0, false, _, HV.out _ _ HR.out, rfl, .inr ⟨rfl, _, _, rfl⟩⟩, HU4.out⟩
          · have HR : Hid (fbk s f true) := Lib.hid ⟨f, k9, hI, .inr ⟨.inr hinf, rfl, rfl⟩⟩
            rw [hinf] at HInf
            clear hI h9 hinf
            go_wp2_with fail
            refine HInf.out.mono ?_
            rintro e w3 ⟨rfl, rfl⟩
            go_wp2_with fail
            refine bodyPost_ret (v := .tuple #[.float .f64 f, .nilIface]) (by simp [results, Tryz.results28, go_sem]) rfl ?_
            exact ⟨⟨f, true, _, HV.out _ _ HR.out, rfl, .inl ⟨rfl, rfl⟩⟩, HU2.out⟩
      obtain rfl : k = s.size := by omega
      have hkz : ¬ (s.size : Int) < (s.size : Int) := by omega
      have HXe : Hid (X = xV s c) := Lib.hid (by unfold xV; rw [← HDd.out]; exact hX)
      clear hX hlt hx1 hx2 hx3 hk1 hk2
      as_aux_lemma =>
        go_wp2_with fail
        refine Met.intro ?_
        go_step
        refine FR.intro (by rfl) ?_
        exact ⟨X, ⟨rfl, rfl, rfl, rfl, rfl, rfl, rfl⟩, HXe.out, hX3, rfl⟩
  case rest5 =>
  as_aux_lemma =>
  refine FR.rest ?_
  rintro g w ⟨X, ⟨e0', e4, e5, e11, e15, e16, e17⟩, hX, hX3, rfl⟩
  rw [lit326]
  simp only [e0', e4, e5, e11, e15, e16, e17]
  clear e0' e4 e5 e11 e15 e16 e17
  have HXe := Lib.hid hX; clear hX
  have hsd : ¬ (s.size : Int) ≤ (d : Int) := by omega
  have hX0 : (0 : Int) ≤ (X : Int) := by omega
  have hX9 : (X : Int) ≤ 300 := by omega
  have hneg : ∀ f w, (Op.unary .neg (.float .f64 f)).run Tryz.prog w = .ok (.float .f64 (Op.negFloat .f64 f)) w := fun f w => fneg_run f w
  have HV : Hid (∀ P, P = pwV s c → FPr s a b c (sgF s (fmulV X2 P)) true) := Lib.hid (fun P hP => by
    unfold FPr
    have h17 := H17.out
    have hx := HXe.out
    rw [if_neg (by omega), if_pos hcs, hP, HX2.out]
    exact ⟨rfl, rfl⟩)
  have hss : (s.size : Int) ≤ (s.size : Int) := Int.le_refl _
  clear hx1 hx2 hx3
  cases m45
  · have HPw := Lib.hid (fun wx hT => Pow10_pos lo X wx hX3 hT)
    obtain ⟨r, hr, _⟩ := mul_nn HNN.out (powP_fz hX3)
    have hmul : ∀ t w, (binOp .mul t (.float .f64 X2) (.float .f64 (powP X))).run Tryz.prog w = .ok (.float .f64 r) w := fun t w => fmul_run t hr w
    have HP : Hid (FPr s a b c (sgF s r) true) := Lib.hid (by
      have h := HV.out (powP X) (by
        unfold pwV
        have h45 : ¬ bAt s (c + 1) = 45 := of_decide_eq_false HM45.out.symm
        rw [if_neg (fun h => h45 h.1), HXe.out])
      rw [mul_is hr] at h
      exact h)
    clear hr HV
    go_wp2_with fail
    refine (HPw.out _ HT.out.2).mono ?_
    rintro e w2 ⟨rfl, hu2⟩
    have HU2 := Lib.hid hu2; clear hu2
    cases hmm : mnS s
    · have HS : Hid (sgF s r = r) := Lib.hid (sgF_pos hmm)
      go_wp2_with fail
      refine bodyPost_ret (v := .tuple #[.float .f64 r, .nilIface]) (by simp [results, Tryz.results28, go_sem]) rfl ?_
      exact ⟨⟨_, true, _, by rw [← HS.out]; exact HP.out, rfl, .inl ⟨rfl, rfl⟩⟩, HU2.out⟩
    · have HS : Hid (sgF s r = Op.negFloat .f64 r) := Lib.hid (sgF_neg hmm)
      go_wp2_with fail
      refine bodyPost_ret (v := .tuple #[.float .f64 (Op.negFloat .f64 r), .nilIface]) (by simp [results, Tryz.results28, go_sem]) rfl ?_
      exact ⟨⟨_, true, _, by rw [← HS.out]; exact HP.out, rfl, .inl ⟨rfl, rfl⟩⟩, HU2.out⟩
  · by_cases hx0 : 0 < X
    · have HPw := Lib.hid (fun wx hT => Pow10_neg lo X wx hx0 hX3 hT)
      obtain ⟨r, hr, _⟩ := mul_nn HNN.out (powN_fz hX3)
      have hmul : ∀ t w, (binOp .mul t (.float .f64 X2) (.float .f64 (powN X))).run Tryz.prog w = .ok (.float .f64 r) w := fun t w => fmul_run t hr w
      have HP : Hid (FPr s a b c (sgF s r) true) := Lib.hid (by
        have h := HV.out (powN X) (by
          unfold pwV
          have h45 : bAt s (c + 1) = 45 := of_decide_eq_true HM45.out.symm
          rw [if_pos ⟨h45, by rw [← HXe.out]; exact hx0⟩, HXe.out])
        rw [mul_is hr] at h
        exact h)
      clear hr HV
      go_wp2_with fail
      refine (HPw.out _ HT.out.2).mono ?_
      rintro e w2 ⟨rfl, hu2⟩
      have HU2 := Lib.hid hu2; clear hu2
      cases hmm : mnS s
      · have HS : Hid (sgF s r = r) := Lib.hid (sgF_pos hmm)
        go_wp2_with fail
        refine bodyPost_ret (v := .tuple #[.float .f64 r, .nilIface]) (by simp [results, Tryz.results28, go_sem]) rfl ?_
        exact ⟨⟨_, true, _, by rw [← HS.out]; exact HP.out, rfl, .inl ⟨rfl, rfl⟩⟩, HU2.out⟩
      · have HS : Hid (sgF s r = Op.negFloat .f64 r) := Lib.hid (sgF_neg hmm)
        go_wp2_with fail
        refine bodyPost_ret (v := .tuple #[.float .f64 (Op.negFloat .f64 r), .nilIface]) (by simp [results, Tryz.results28, go_sem]) rfl ?_
        exact ⟨⟨_, true, _, by rw [← HS.out]; exact HP.out, rfl, .inl ⟨rfl, rfl⟩⟩, HU2.out⟩
    · obtain rfl : X = 0 := by omega
      have HPw := Lib.hid (fun wx hT => by
        have h := Pow10_pos lo 0 wx (by omega) hT
        simp only [show ((0 : Nat) : Int) = 0 from rfl] at h
        exact h)
      obtain ⟨r, hr, _⟩ := mul_nn HNN.out (powP_fz (show 0 ≤ 300 by omega))
      have hmul : ∀ t w, (binOp .mul t (.float .f64 X2) (.float .f64 (powP 0))).run Tryz.prog w = .ok (.float .f64 r) w := fun t w => fmul_run t hr w
      have HP : Hid (FPr s a b c (sgF s r) true) := Lib.hid (by
        have h := HV.out (powP 0) (by
          unfold pwV
          rw [if_neg (by rw [← HXe.out]; omega), ← HXe.out])
        rw [mul_is hr] at h
        exact h)
      clear hr HV hX0 hX9 hx0
      go_wp2_with fail
      refine (HPw.out _ HT.out.2).mono ?_
      rintro e w2 ⟨rfl, hu2⟩
      have HU2 := Lib.hid hu2; clear hu2
      cases hmm : mnS s
      · have HS : Hid (sgF s r = r) := Lib.hid (sgF_pos hmm)
        go_wp2_with fail
        refine bodyPost_ret (v := .tuple #[.float .f64 r, .nilIface]) (by simp [results, Tryz.results28, go_sem]) rfl ?_
        exact ⟨⟨_, true, _, by rw [← HS.out]; exact HP.out, rfl, .inl ⟨rfl, rfl⟩⟩, HU2.out⟩
      · have HS : Hid (sgF s r = Op.negFloat .f64 r) := Lib.hid (sgF_neg hmm)
        go_wp2_with fail
        refine bodyPost_ret (v := .tuple #[.float .f64 (Op.negFloat .f64 r), .nilIface]) (by simp [results, Tryz.results28, go_sem]) rfl ?_
        exact ⟨⟨_, true, _, by rw [← HS.out]; exact HP.out, rfl, .inl ⟨rfl, rfl⟩⟩, HU2.out⟩
end Go.Proofs.YtkocponnjfkchaaGreatDoor
