/- The package's ForEach: its scanner of arrays and objects, at a place of the text. -/
import Derived.Test.YtggdcpmampjncaaGreatDoorEab
import Derived.Test.YtggdcpmampjncaaGreatDoorSc
namespace Go.Proofs.YtggdcpmampjncaaGreatDoor
open Go.RowKit

theorem lit230 (g : Nat → Value) : ((List.range 230).map g).toArray = #[g 0, g 1, g 2, g 3, g 4, g 5, g 6, g 7, g 8, g 9, g 10, g 11, g 12, g 13, g 14, g 15, g 16, g 17, g 18, g 19, g 20, g 21, g 22, g 23, g 24, g 25, g 26, g 27, g 28, g 29, g 30, g 31, g 32, g 33, g 34, g 35, g 36, g 37, g 38, g 39, g 40, g 41, g 42, g 43, g 44, g 45, g 46, g 47, g 48, g 49, g 50, g 51, g 52, g 53, g 54, g 55, g 56, g 57, g 58, g 59, g 60, g 61, g 62, g 63, g 64, g 65, g 66, g 67, g 68, g 69, g 70, g 71, g 72, g 73, g 74, g 75, g 76, g 77, g 78, g 79, g 80, g 81, g 82, g 83, g 84, g 85, g 86, g 87, g 88, g 89, g 90, g 91, g 92, g 93, g 94, g 95, g 96, g 97, g 98, g 99, g 100, g 101, g 102, g 103, g 104, g 105, g 106, g 107, g 108, g 109, g 110, g 111, g 112, g 113, g 114, g 115, g 116, g 117, g 118, g 119, g 120, g 121, g 122, g 123, g 124, g 125, g 126, g 127, g 128, g 129, g 130, g 131, g 132, g 133, g 134, g 135, g 136, g 137, g 138, g 139, g 140, g 141, g 142, g 143, g 144, g 145, g 146, g 147, g 148, g 149, g 150, g 151, g 152, g 153, g 154, g 155, g 156, g 157, g 158, g 159, g 160, g 161, g 162, g 163, g 164, g 165, g 166, g 167, g 168, g 169, g 170, g 171, g 172, g 173, g 174, g 175, g 176, g 177, g 178, g 179, g 180, g 181, g 182, g 183, g 184, g 185, g 186, g 187, g 188, g 189, g 190, g 191, g 192, g 193, g 194, g 195, g 196, g 197, g 198, g 199, g 200, g 201, g 202, g 203, g 204, g 205, g 206, g 207, g 208, g 209, g 210, g 211, g 212, g 213, g 214, g 215, g 216, g 217, g 218, g 219, g 220, g 221, g 222, g 223, g 224, g 225, g 226, g 227, g 228, g 229] := by kernel_rfl
/-- The table's entry of a byte. -/
def vch (c : Nat) : Nat := if c = 34 then 2 else if c = 123 ∨ c = 91 ∨ c = 40 then 3 else if c = 125 ∨ c = 93 ∨ c = 41 then 1 else 0
def VT (w : World) : Prop := ∀ c, c < 256 → w.cell? ⟨0, c, none⟩ = some (.int .u8 (vch c : Int))
theorem vch_z {c : Nat} (h : ¬ isB c) : vch c = 0 := by
  unfold isB at h
  unfold vch
  rw [if_neg (by omega), if_neg (by omega), if_neg (by omega)]
theorem vch_nz {c : Nat} (h : isB c) : vch c = 1 ∨ vch c = 2 ∨ vch c = 3 := by
  unfold isB at h
  unfold vch
  split
  · omega
  · split
    · omega
    · rw [if_pos (by omega)]; omega
theorem SQ.next {s : ByteArray} {i d e : Nat} (h : SQ s i d e) (c : ¬ isB (bAt s i)) : SQ s (i + 1) d e := by
  rcases h.inv with ⟨_, _, r⟩ | ⟨_, hc, _⟩ | ⟨_, hc, _⟩ | ⟨_, hc, _⟩ | ⟨m, hp, _⟩
  · exact r
  · exact absurd (by unfold isB; omega) c
  · exact absurd (by unfold isB; omega) c
  · exact absurd (by unfold isB; omega) c
  · have := hp.2.1
    exact absurd (by unfold isB; omega) c
theorem SQ.adv {s : ByteArray} {d e : Nat} : ∀ (n : Nat) {i : Nat}, SQ s i d e → (∀ k, k < n → ¬ isB (bAt s (i + k))) → SQ s (i + n) d e
  | 0, _, h, _ => h
  | n + 1, i, h, hc => by
    have h1 := SQ.adv n h fun k hk => hc k (by omega)
    exact h1.next (hc n (by omega))
/-- The next eight bytes. -/
structure J8 (u js : ByteArray) (p : Nat) : Prop where
  sz : js.size = 8
  at' : ∀ k, k < 8 → bAt js k = bAt u (p + k)
theorem ext8 {u : ByteArray} {i k : Nat} (h : i + 8 ≤ u.size) (hk : k < 8) : bAt (u.extract i (i + 8)) k = bAt u (i + k) := bAt_extract (by omega)
theorem J8.of {u : ByteArray} {p : Nat} (h : p + 8 ≤ u.size) : J8 u (u.extract p (p + 8)) p := ⟨by rw [ByteArray.size_extract]; omega, fun _ hk => ext8 h hk⟩
theorem q_last {u : ByteArray} {q t M : Nat} (h3 : ∀ x, q + 1 ≤ x → x < M → bAt u x = 34 → bsl u (q + 1) (x - (q + 1)) % 2 = 1) (h1 : q + 1 ≤ t) (h2 : t ≤ M) (h34 : bAt u t = 34) (p92 : ¬ bAt u (t - 1) = 92) : t = M := by
  by_cases hx : t = M
  · exact hx
  · exfalso
    have h := h3 t h1 (by omega) h34
    by_cases hqi : t = q + 1
    · subst hqi; simp [bsl] at h
    · rw [show t - (q + 1) = (t - 1 - (q + 1)) + 1 by omega, bsl_step, show q + 1 + (t - 1 - (q + 1)) = t - 1 by omega, if_neg p92] at h
      omega
theorem tst_z {c : Nat} (h : ¬ isB c) : ((vch c : Int) != 0) = false := by rw [vch_z h]; rfl
theorem tst_n {c : Nat} (h : isB c) : ((vch c : Int) != 0) = true := by
  rcases vch_nz h with e | e | e <;> rw [e] <;> rfl

set_option maxHeartbeats 4000000 in
set_option maxRecDepth 8000 in
theorem psq_any (u : ByteArray) (s e : Nat) (w : World) (hs : u.size ≤ 1048576) (hq : SQ u (s + 1) 1 e) (hv : VT w) :
    Calls Tryz.prog 75 #[.string u, .int .i64 (s : Int)] w fun r w' => r = .returned (.tuple #[.int .i64 (e : Int), .string (u.extract s e)]) ∧ Upd NoB w w' := by
  have hB := get_bAt u
  have HV := Lib.hid hv; clear hv
  have hle := hq.lt
  have HQ := Lib.hid hq; clear hq
  go_enter Tryz.func75, Tryz.ntmps75
  go_upto_block 0 with (fail)
  refine wp_cut (fun _ _ => False) (fun _ _ h => h.elim) ?_
  intro J0 K0 hJ0 hK0
  go_wp2_with fail
  refine wp_loop_ghost_k (fun mm => FR 230 (fun g wx => ∃ i d : Nat, mm = u.size - i ∧ (g 0 = .string u ∧ g 1 = .int .i64 (i : Int) ∧ g 6 = .int .i64 (s : Int) ∧ g 7 = .int .i64 (d : Int)) ∧ SQ u i d e ∧ d ≤ i ∧ 1 ≤ d ∧ w = wx)) (u.size - (s + 1)) ?atStart ?round
  case atStart =>
    refine FR.intro (by rfl) ?_
    exact ⟨s + 1, 1, rfl, ⟨rfl, by simp only [slotOf]; congr 1, rfl, rfl⟩, HQ.out, by omega, by omega, rfl⟩
  case round =>
    intro gk
    refine FR.rest ?_
    rintro g wc ⟨i, d, hm, ⟨e0, e1, e6, e7⟩, hsq, hdi, hd1, rfl⟩
    rw [lit230]
    simp only [e0, e1, e6, e7]
    clear e0 e1 e6 e7
    intro J2 K2 hJ2 hK2
    have Hm := Lib.hid hm; clear hm
    have hlt := hsq.lt
    have hiz : i < u.size := by omega
    have HSQ := Lib.hid hsq; clear hsq
    go_wp2_with fail
    refine wp_scope_m (fun l m => fun a w' => l = 0 ∧ m = 0 ∧ FR 230 (fun g wx => ∃ q : Nat, (g 0 = .string u ∧ g 1 = .int .i64 (q : Int) ∧ g 6 = .int .i64 (s : Int) ∧ g 7 = .int .i64 (d : Int) ∧ g 8 = .int .u8 (vch (bAt u q) : Int)) ∧ i ≤ q ∧ q < u.size ∧ isB (bAt u q) ∧ SQ u q d e ∧ w = wx) a w') ?pass0 ?first0
    case first0 =>
      intro hp
      have HP0 := Lib.hid hp; clear hp
      go_upto_block 2 with (fail)
      refine wp_cut (FR 230 (fun g wx => ∃ p : Nat, (g 0 = .string u ∧ g 1 = .int .i64 (p : Int) ∧ g 6 = .int .i64 (s : Int) ∧ g 7 = .int .i64 (d : Int)) ∧ i ≤ p ∧ SQ u p d e ∧ w = wx)) ?rest2 ?first2
      case first2 =>
        intro J3 K3 hJ3 hK3
        go_wp2_with fail
        refine wp_loop_ghost_k (fun mm => FR 230 (fun g wx => ∃ p : Nat, mm = u.size - p ∧ (g 0 = .string u ∧ g 1 = .int .i64 (p : Int) ∧ g 6 = .int .i64 (s : Int) ∧ g 7 = .int .i64 (d : Int)) ∧ i ≤ p ∧ SQ u p d e ∧ w = wx)) (u.size - i) ?atStart2 ?round2
        case atStart2 =>
          refine FR.intro (by rfl) ?_
          exact ⟨i, rfl, ⟨rfl, rfl, rfl, rfl⟩, by omega, HSQ.out, rfl⟩
        case round2 =>
          intro gk2
          refine FR.rest ?_
          rintro g wc ⟨p, hm2, ⟨e0, e1, e6, e7⟩, hip, hsq2, rfl⟩
          rw [lit230]
          simp only [e0, e1, e6, e7]
          clear e0 e1 e6 e7
          intro J4 K4 hJ4 hK4
          have Hm2 := Lib.hid hm2; clear hm2
          have hlt2 := hsq2.lt
          have HSQ2 := Lib.hid hsq2; clear hsq2
          by_cases c8 : (p : Int) < (u.size : Int) - 8
          rotate_left
          · have : True := trivial
            as_aux_lemma =>
              go_wp2_with fail
              refine Met.intro ?_
              go_step
              refine FR.intro (by rfl) ?_
              exact ⟨p, ⟨rfl, rfl, rfl, rfl⟩, hip, HSQ2.out, rfl⟩
          have hsl := slice_mid u p (p + 8) (by omega) (by omega)
          rw [show ((p + 8 : Nat) : Int) = (p : Int) + 8 by omega] at hsl
          have hj8 := J8.of (u := u) (p := p) (by omega)
          generalize u.extract p (p + 8) = js at *
          have HJ8 := Lib.hid hj8
          have hjz := hj8.sz
          have hBj := get_bAt js
          clear hj8
          have t0 := HV.out (bAt js 0) (by have := bAt_le js 0; omega)
          have r0 : (bAt js 0 : Int) < 256 := by have := bAt_le js 0; omega
          have JE0 := Lib.hid (HJ8.out.at' 0 (by decide))
          go_upto_if 36 with (fail)
          by_cases b0 : isB (bAt js 0)
          · have HBK : Hid (isB (bAt u (p + 0))) := Lib.hid (by rw [← JE0.out]; exact b0)
            have HSK : Hid (SQ u (p + 0) d e) := Lib.hid (HSQ2.out.adv 0 fun k hk => by
              have := HJ8.out.at' k (by omega)
              rw [← this]
              rcases k with _
              all_goals first | omega | exact (B0.out) | exact (B1.out) | exact (B2.out) | exact (B3.out) | exact (B4.out) | exact (B5.out) | exact (B6.out))
            have n0 := tst_n b0
            have hpk := HSK.out.lt
            clear b0 t0
            as_aux_lemma =>
              go_wp2_with fail
              refine wp_goto ⟨0, rfl, rfl, ?_⟩
              refine FR.intro (by rfl) ?_
              exact ⟨p + 0, ⟨rfl, by simp only [slotOf] <;> go_num, rfl, rfl, by rw [← JE0.out]; rfl⟩, by omega, by omega, HBK.out, HSK.out, rfl⟩
          have z0 := tst_z b0
          have B0 := Lib.hid b0
          clear b0 t0 r0
          have t1 := HV.out (bAt js 1) (by have := bAt_le js 1; omega)
          have r1 : (bAt js 1 : Int) < 256 := by have := bAt_le js 1; omega
          have JE1 := Lib.hid (HJ8.out.at' 1 (by decide))
          go_upto_if 44 with (fail)
          by_cases b1 : isB (bAt js 1)
          · have HBK : Hid (isB (bAt u (p + 1))) := Lib.hid (by rw [← JE1.out]; exact b1)
            have HSK : Hid (SQ u (p + 1) d e) := Lib.hid (HSQ2.out.adv 1 fun k hk => by
              have := HJ8.out.at' k (by omega)
              rw [← this]
              rcases k with _ | _
              all_goals first | omega | exact (B0.out) | exact (B1.out) | exact (B2.out) | exact (B3.out) | exact (B4.out) | exact (B5.out) | exact (B6.out))
            have n1 := tst_n b1
            have hpk := HSK.out.lt
            clear b1 t1
            as_aux_lemma =>
              go_wp2_with fail
              refine wp_goto ⟨0, rfl, rfl, ?_⟩
              refine FR.intro (by rfl) ?_
              exact ⟨p + 1, ⟨rfl, by simp only [slotOf] <;> go_num, rfl, rfl, by rw [← JE1.out]; rfl⟩, by omega, by omega, HBK.out, HSK.out, rfl⟩
          have z1 := tst_z b1
          have B1 := Lib.hid b1
          clear b1 t1 r1
          have t2 := HV.out (bAt js 2) (by have := bAt_le js 2; omega)
          have r2 : (bAt js 2 : Int) < 256 := by have := bAt_le js 2; omega
          have JE2 := Lib.hid (HJ8.out.at' 2 (by decide))
          go_upto_if 52 with (fail)
          by_cases b2 : isB (bAt js 2)
          · have HBK : Hid (isB (bAt u (p + 2))) := Lib.hid (by rw [← JE2.out]; exact b2)
            have HSK : Hid (SQ u (p + 2) d e) := Lib.hid (HSQ2.out.adv 2 fun k hk => by
              have := HJ8.out.at' k (by omega)
              rw [← this]
              rcases k with _ | _ | _
              all_goals first | omega | exact (B0.out) | exact (B1.out) | exact (B2.out) | exact (B3.out) | exact (B4.out) | exact (B5.out) | exact (B6.out))
            have n2 := tst_n b2
            have hpk := HSK.out.lt
            clear b2 t2
            as_aux_lemma =>
              go_wp2_with fail
              refine wp_goto ⟨0, rfl, rfl, ?_⟩
              refine FR.intro (by rfl) ?_
              exact ⟨p + 2, ⟨rfl, by simp only [slotOf] <;> go_num, rfl, rfl, by rw [← JE2.out]; rfl⟩, by omega, by omega, HBK.out, HSK.out, rfl⟩
          have z2 := tst_z b2
          have B2 := Lib.hid b2
          clear b2 t2 r2
          have t3 := HV.out (bAt js 3) (by have := bAt_le js 3; omega)
          have r3 : (bAt js 3 : Int) < 256 := by have := bAt_le js 3; omega
          have JE3 := Lib.hid (HJ8.out.at' 3 (by decide))
          go_upto_if 60 with (fail)
          by_cases b3 : isB (bAt js 3)
          · have HBK : Hid (isB (bAt u (p + 3))) := Lib.hid (by rw [← JE3.out]; exact b3)
            have HSK : Hid (SQ u (p + 3) d e) := Lib.hid (HSQ2.out.adv 3 fun k hk => by
              have := HJ8.out.at' k (by omega)
              rw [← this]
              rcases k with _ | _ | _ | _
              all_goals first | omega | exact (B0.out) | exact (B1.out) | exact (B2.out) | exact (B3.out) | exact (B4.out) | exact (B5.out) | exact (B6.out))
            have n3 := tst_n b3
            have hpk := HSK.out.lt
            clear b3 t3
            as_aux_lemma =>
              go_wp2_with fail
              refine wp_goto ⟨0, rfl, rfl, ?_⟩
              refine FR.intro (by rfl) ?_
              exact ⟨p + 3, ⟨rfl, by simp only [slotOf] <;> go_num, rfl, rfl, by rw [← JE3.out]; rfl⟩, by omega, by omega, HBK.out, HSK.out, rfl⟩
          have z3 := tst_z b3
          have B3 := Lib.hid b3
          clear b3 t3 r3
          have t4 := HV.out (bAt js 4) (by have := bAt_le js 4; omega)
          have r4 : (bAt js 4 : Int) < 256 := by have := bAt_le js 4; omega
          have JE4 := Lib.hid (HJ8.out.at' 4 (by decide))
          go_upto_if 68 with (fail)
          by_cases b4 : isB (bAt js 4)
          · have HBK : Hid (isB (bAt u (p + 4))) := Lib.hid (by rw [← JE4.out]; exact b4)
            have HSK : Hid (SQ u (p + 4) d e) := Lib.hid (HSQ2.out.adv 4 fun k hk => by
              have := HJ8.out.at' k (by omega)
              rw [← this]
              rcases k with _ | _ | _ | _ | _
              all_goals first | omega | exact (B0.out) | exact (B1.out) | exact (B2.out) | exact (B3.out) | exact (B4.out) | exact (B5.out) | exact (B6.out))
            have n4 := tst_n b4
            have hpk := HSK.out.lt
            clear b4 t4
            as_aux_lemma =>
              go_wp2_with fail
              refine wp_goto ⟨0, rfl, rfl, ?_⟩
              refine FR.intro (by rfl) ?_
              exact ⟨p + 4, ⟨rfl, by simp only [slotOf] <;> go_num, rfl, rfl, by rw [← JE4.out]; rfl⟩, by omega, by omega, HBK.out, HSK.out, rfl⟩
          have z4 := tst_z b4
          have B4 := Lib.hid b4
          clear b4 t4 r4
          have t5 := HV.out (bAt js 5) (by have := bAt_le js 5; omega)
          have r5 : (bAt js 5 : Int) < 256 := by have := bAt_le js 5; omega
          have JE5 := Lib.hid (HJ8.out.at' 5 (by decide))
          go_upto_if 76 with (fail)
          by_cases b5 : isB (bAt js 5)
          · have HBK : Hid (isB (bAt u (p + 5))) := Lib.hid (by rw [← JE5.out]; exact b5)
            have HSK : Hid (SQ u (p + 5) d e) := Lib.hid (HSQ2.out.adv 5 fun k hk => by
              have := HJ8.out.at' k (by omega)
              rw [← this]
              rcases k with _ | _ | _ | _ | _ | _
              all_goals first | omega | exact (B0.out) | exact (B1.out) | exact (B2.out) | exact (B3.out) | exact (B4.out) | exact (B5.out) | exact (B6.out))
            have n5 := tst_n b5
            have hpk := HSK.out.lt
            clear b5 t5
            as_aux_lemma =>
              go_wp2_with fail
              refine wp_goto ⟨0, rfl, rfl, ?_⟩
              refine FR.intro (by rfl) ?_
              exact ⟨p + 5, ⟨rfl, by simp only [slotOf] <;> go_num, rfl, rfl, by rw [← JE5.out]; rfl⟩, by omega, by omega, HBK.out, HSK.out, rfl⟩
          have z5 := tst_z b5
          have B5 := Lib.hid b5
          clear b5 t5 r5
          have t6 := HV.out (bAt js 6) (by have := bAt_le js 6; omega)
          have r6 : (bAt js 6 : Int) < 256 := by have := bAt_le js 6; omega
          have JE6 := Lib.hid (HJ8.out.at' 6 (by decide))
          go_upto_if 84 with (fail)
          by_cases b6 : isB (bAt js 6)
          · have HBK : Hid (isB (bAt u (p + 6))) := Lib.hid (by rw [← JE6.out]; exact b6)
            have HSK : Hid (SQ u (p + 6) d e) := Lib.hid (HSQ2.out.adv 6 fun k hk => by
              have := HJ8.out.at' k (by omega)
              rw [← this]
              rcases k with _ | _ | _ | _ | _ | _ | _
              all_goals first | omega | exact (B0.out) | exact (B1.out) | exact (B2.out) | exact (B3.out) | exact (B4.out) | exact (B5.out) | exact (B6.out))
            have n6 := tst_n b6
            have hpk := HSK.out.lt
            clear b6 t6
            as_aux_lemma =>
              go_wp2_with fail
              refine wp_goto ⟨0, rfl, rfl, ?_⟩
              refine FR.intro (by rfl) ?_
              exact ⟨p + 6, ⟨rfl, by simp only [slotOf] <;> go_num, rfl, rfl, by rw [← JE6.out]; rfl⟩, by omega, by omega, HBK.out, HSK.out, rfl⟩
          have z6 := tst_z b6
          have B6 := Lib.hid b6
          clear b6 t6 r6
          have t7 := HV.out (bAt js 7) (by have := bAt_le js 7; omega)
          have r7 : (bAt js 7 : Int) < 256 := by have := bAt_le js 7; omega
          have JE7 := Lib.hid (HJ8.out.at' 7 (by decide))
          go_upto_if 92 with (fail)
          by_cases b7 : isB (bAt js 7)
          · have HBK : Hid (isB (bAt u (p + 7))) := Lib.hid (by rw [← JE7.out]; exact b7)
            have HSK : Hid (SQ u (p + 7) d e) := Lib.hid (HSQ2.out.adv 7 fun k hk => by
              have := HJ8.out.at' k (by omega)
              rw [← this]
              rcases k with _ | _ | _ | _ | _ | _ | _ | _
              all_goals first | omega | exact (B0.out) | exact (B1.out) | exact (B2.out) | exact (B3.out) | exact (B4.out) | exact (B5.out) | exact (B6.out))
            have n7 := tst_n b7
            have hpk := HSK.out.lt
            clear b7 t7
            as_aux_lemma =>
              go_wp2_with fail
              refine wp_goto ⟨0, rfl, rfl, ?_⟩
              refine FR.intro (by rfl) ?_
              exact ⟨p + 7, ⟨rfl, by simp only [slotOf] <;> go_num, rfl, rfl, by rw [← JE7.out]; rfl⟩, by omega, by omega, HBK.out, HSK.out, rfl⟩
          have z7 := tst_z b7
          have B7 := Lib.hid b7
          clear b7 t7 r7
          have HSK : Hid (SQ u (p + 8) d e) := Lib.hid (HSQ2.out.adv 8 fun k hk => by
            have := HJ8.out.at' k (by omega)
            rw [← this]
            rcases k with _ | _ | _ | _ | _ | _ | _ | _ | k
            all_goals first | omega | exact (B0.out) | exact (B1.out) | exact (B2.out) | exact (B3.out) | exact (B4.out) | exact (B5.out) | exact (B6.out) | exact (B7.out))
          as_aux_lemma =>
            go_wp2_with fail
            refine Handed.intro (u.size - (p + 8)) ?_ ?_
            · have := Hm2.out; omega
            go_step
            refine FR.intro (by rfl) ?_
            exact ⟨p + 8, rfl, ⟨rfl, by simp only [slotOf] <;> go_num, rfl, rfl⟩, by omega, HSK.out, rfl⟩
      case rest2 =>
        refine FR.rest ?_
        rintro g wc ⟨p, ⟨e0, e1, e6, e7⟩, hip, hsq2, rfl⟩
        rw [lit230]
        simp only [e0, e1, e6, e7]
        clear e0 e1 e6 e7
        have hlt2 := hsq2.lt
        have HSQ2 := Lib.hid hsq2; clear hsq2
        have hpz : p < u.size := by omega
        have hb := bAt_le u p
        have r0 : (bAt u p : Int) < 256 := by omega
        have t0 := HV.out (bAt u p) (by omega)
        go_upto_if 103 with (fail)
        clear t0 r0 hb
        by_cases b0 : isB (bAt u p)
        rotate_left
        · have z0 : ((vch (bAt u p) : Int) == 0) = true := by rw [vch_z b0]; rfl
          have HSK : Hid (SQ u (p + 1) d e) := Lib.hid (HSQ2.out.next b0)
          clear b0
          as_aux_lemma =>
            go_wp2_with fail
            refine hK2 _ _ ?_
            refine Handed.intro (u.size - (p + 1)) ?_ ?_
            · have := Hm.out; omega
            go_step
            refine FR.intro (by rfl) ?_
            exact ⟨p + 1, d, rfl, ⟨rfl, by simp only [slotOf] <;> go_num, rfl, rfl⟩, HSK.out, by omega, hd1, rfl⟩
        · have z0 : ((vch (bAt u p) : Int) == 0) = false := by
            rcases vch_nz b0 with e | e | e <;> rw [e] <;> rfl
          have HBK := Lib.hid b0
          clear b0
          as_aux_lemma =>
            go_wp2_with fail
            refine wp_label ?_
            refine ‹∀ (a : Act) (w : World), Code.wp Tryz.prog _ (jumps _ _) a w → (_ : Act → World → Prop) a w› _ _ ?_
            refine HP0.out 0 0 _ _ _ ⟨rfl, rfl, ?_⟩ rfl
            refine FR.intro (by rfl) ?_
            exact ⟨p, ⟨rfl, rfl, rfl, rfl, rfl⟩, hip, hpz, HBK.out, HSQ2.out, rfl⟩
    case pass0 =>
      rintro m l a w' ⟨rfl, rfl, hFR⟩ -
      refine ⟨_, rfl, ?_⟩
      obtain ⟨g, rfl, q, ⟨e0, e1, e6, e7, e8⟩, hiq, hqz, hbq, hsq2, rfl⟩ := hFR
      rw [lit230]
      simp only [e0, e1, e6, e7, e8]
      clear e0 e1 e6 e7 e8
      have HBQ := Lib.hid hbq; clear hbq
      have hdq : d ≤ q := by omega
      rcases hsq2.inv with ⟨_, hn, _⟩ | ⟨_, hc, r⟩ | ⟨_, hc, rfl, rfl⟩ | ⟨_, hc, d', rfl, hd', r⟩ | ⟨m, hp, r⟩
      · exact absurd HBQ.out hn
      · have hv : vch (bAt u q) = 3 := by
          unfold vch
          rw [if_neg (by omega), if_pos (by omega)]
        rw [hv]
        have HR := Lib.hid r
        have hdn : (((d : Int) + 1) == 0) = false := by simp; omega
        clear r hc hv hsq2
        as_aux_lemma =>
          go_wp2_with fail
          refine hK2 _ _ ?_
          refine Handed.intro (u.size - (q + 1)) ?_ ?_
          · have := Hm.out; omega
          go_step
          refine FR.intro (by rfl) ?_
          exact ⟨q + 1, d + 1, rfl, ⟨rfl, by simp only [slotOf] <;> go_num, rfl, by simp only [slotOf] <;> go_num⟩, HR.out, by omega, by omega, rfl⟩
      · have hv : vch (bAt u q) = 1 := by
          unfold vch
          rw [if_neg (by omega), if_neg (by omega), if_pos (by omega)]
        rw [hv]
        have hsl := slice_mid u s (q + 1) (by omega) (by omega)
        rw [show ((q + 1 : Nat) : Int) = (q : Int) + 1 by omega] at hsl
        clear hc hv hsq2
        as_aux_lemma =>
          go_wp2_with fail
          go_quiet (fail)
          go_wp2_with fail
          try rw [jumps_ret]
          go_ret2
          exact ⟨rfl, (Upd.refl _ _).drewN _⟩
      · have hv : vch (bAt u q) = 1 := by
          unfold vch
          rw [if_neg (by omega), if_neg (by omega), if_pos (by omega)]
        rw [hv]
        have HR := Lib.hid r
        have hdn : ((d' : Int) == 0) = false := by simp; omega
        have hdd : ((d' + 1 : Nat) : Int) = (d' : Int) + 1 := by omega
        rw [hdd]
        have hwr : IntKind.i64.wrap ((d' : Int) + 1 + -1) = (d' : Int) := by rw [show (d' : Int) + 1 + -1 = (d' : Int) by omega]; exact IntWalk.i64_in _ (by omega)
        clear r hc hv hsq2 hdd
        as_aux_lemma =>
          go_wp2_with fail
          refine hK2 _ _ ?_
          refine Handed.intro (u.size - (q + 1)) ?_ ?_
          · have := Hm.out; omega
          go_step
          refine FR.intro (by rfl) ?_
          exact ⟨q + 1, d', rfl, ⟨rfl, by simp only [slotOf] <;> go_num, rfl, by simp only [slotOf] <;> go_num⟩, HR.out, by omega, by omega, rfl⟩
      · have HR := Lib.hid r
        have hl := hp.2.2.1.lt
        have hquo := hp.2.2.1.quotes
        have h34 := hp.2.1
        obtain ⟨M, hM⟩ : ∃ M, M = m - 1 := ⟨_, rfl⟩
        rw [← hM] at hquo
        have hm1 : m = M + 1 := by omega
        subst hm1
        have HQ1 := Lib.hid hquo.1
        have HQ2 := Lib.hid hquo.2.1
        have HQ3 := Lib.hid hquo.2.2
        have H34 := Lib.hid h34
        have hv : vch (bAt u q) = 2 := by unfold vch; rw [if_pos h34]
        rw [hv]
        clear hv h34 hquo hp r hM hsq2 HBQ
        have hMz : M < u.size := by omega
        have hqM : q + 1 ≤ M := by omega
        clear hl hqz
        go_wp2_with fail
        refine wp_scope_m (fun l mm => fun a w' => ∃ r, ((l = 2 ∧ r = 2) ∨ (l = 1 ∧ r = 1) ∨ (l = 3 ∧ r = 0)) ∧ FR 230 (fun g wx => ∃ p : Nat, mm = 3 * (u.size - p) + r ∧ (g 0 = .string u ∧ g 1 = .int .i64 (p : Int) ∧ g 6 = .int .i64 (s : Int) ∧ g 7 = .int .i64 (d : Int) ∧ g 10 = .int .i64 ((q : Int) + 1)) ∧ q + 1 ≤ p ∧ p ≤ M ∧ (l = 1 → bAt u p = 34) ∧ w = wx) a w') ?passS ?firstS
        case firstS =>
          intro hp
          have HPS := Lib.hid hp; clear hp
          go_wp2_with fail
          refine wp_label ?_
          refine ‹∀ (a : Act) (w : World), Code.wp Tryz.prog _ (jumps _ _) a w → (_ : Act → World → Prop) a w› _ _ ?_
          refine HPS.out 2 (3 * (u.size - (q + 1)) + 2) _ _ _ ⟨2, .inl ⟨rfl, rfl⟩, ?_⟩ rfl
          refine FR.intro (by rfl) ?_
          exact ⟨q + 1, rfl, ⟨rfl, by simp only [slotOf] <;> go_num, rfl, rfl, rfl⟩, by omega, hqM, fun h => by omega, rfl⟩
        case passS =>
          rintro mm l a w' ⟨r, hlr, hFR⟩ hp
          have HPS := Lib.hid hp; clear hp
          obtain ⟨g, rfl, p, hmm, ⟨e0, e1, e6, e7, e10⟩, hp1, hp2, h1q, rfl⟩ := hFR
          rw [lit230]
          simp only [e0, e1, e6, e7, e10]
          clear e0 e1 e6 e7 e10
          have Hmm := Lib.hid hmm; clear hmm
          rcases hlr with ⟨rfl, rfl⟩ | ⟨rfl, rfl⟩ | ⟨rfl, rfl⟩
          · refine ⟨_, rfl, ?_⟩
            clear h1q
            go_upto_block 4 with (fail)
            refine wp_cut (FR 230 (fun g wx => ∃ t : Nat, (g 0 = .string u ∧ g 1 = .int .i64 (t : Int) ∧ g 6 = .int .i64 (s : Int) ∧ g 7 = .int .i64 (d : Int) ∧ g 10 = .int .i64 ((q : Int) + 1)) ∧ p ≤ t ∧ t ≤ M ∧ w = wx)) ?rest4 ?first4
            case first4 =>
              intro J3 K3 hJ3 hK3
              go_wp2_with fail
              refine wp_loop_ghost_k (fun mm => FR 230 (fun g wx => ∃ t : Nat, mm = u.size - t ∧ (g 0 = .string u ∧ g 1 = .int .i64 (t : Int) ∧ g 6 = .int .i64 (s : Int) ∧ g 7 = .int .i64 (d : Int) ∧ g 10 = .int .i64 ((q : Int) + 1)) ∧ p ≤ t ∧ t ≤ M ∧ w = wx)) (u.size - p) ?atStart4 ?round4
              case atStart4 =>
                refine FR.intro (by rfl) ?_
                exact ⟨p, rfl, ⟨rfl, rfl, rfl, rfl, rfl⟩, by omega, hp2, rfl⟩
              case round4 =>
                intro gk4
                refine FR.rest ?_
                rintro g wc ⟨t, hm4, ⟨e0, e1, e6, e7, e10⟩, hpt, htM, rfl⟩
                rw [lit230]
                simp only [e0, e1, e6, e7, e10]
                clear e0 e1 e6 e7 e10
                intro J4 K4 hJ4 hK4
                have Hm4 := Lib.hid hm4; clear hm4
                by_cases c8 : (t : Int) < (u.size : Int) - 8
                rotate_left
                · have : True := trivial
                  as_aux_lemma =>
                    go_wp2_with fail
                    refine Met.intro ?_
                    go_step
                    refine FR.intro (by rfl) ?_
                    exact ⟨t, ⟨rfl, rfl, rfl, rfl, rfl⟩, hpt, htM, rfl⟩
                have hsl := slice_mid u t (t + 8) (by omega) (by omega)
                rw [show ((t + 8 : Nat) : Int) = (t : Int) + 8 by omega] at hsl
                have hj8 := J8.of (u := u) (p := t) (by omega)
                generalize u.extract t (t + 8) = js at *
                have HJ8 := Lib.hid hj8
                have hjz := hj8.sz
                have hBj := get_bAt js
                clear hj8
                have JE0 := Lib.hid (HJ8.out.at' 0 (by decide))
                go_upto_if 123 with (fail)
                have HM0 : Hid (t + 0 ≤ M) := Lib.hid (by
                  have h0 := HQ1.out
                  omega
                  skip
                  skip)
                by_cases b0 : bAt js 0 = 34
                · have HBK : Hid (bAt u (t + 0) = 34) := Lib.hid (by rw [← JE0.out]; exact b0)
                  have n0 : ((bAt js 0 : Int) == 34) = true := by rw [b0]; rfl
                  clear b0
                  as_aux_lemma =>
                    go_wp2_with fail
                    refine wp_goto ⟨3 * (u.size - (t + 0)) + 1, by have h1 := Hmm.out; have h2 := HM0.out; omega, 1, .inr (.inl ⟨rfl, rfl⟩), ?_⟩
                    refine FR.intro (by rfl) ?_
                    exact ⟨t + 0, rfl, ⟨rfl, by simp only [slotOf] <;> go_num, rfl, rfl, rfl⟩, by omega, HM0.out, fun _ => HBK.out, rfl⟩
                have z0 : ((bAt js 0 : Int) == 34) = false := by simp; omega
                have N0 : Hid (¬ bAt u (t + 0) = 34) := Lib.hid (by rw [← JE0.out]; exact b0)
                clear b0
                have JE1 := Lib.hid (HJ8.out.at' 1 (by decide))
                go_upto_if 128 with (fail)
                have HM1 : Hid (t + 1 ≤ M) := Lib.hid (by
                  have h0 := HQ1.out
                  have h1 : t + 0 ≠ M := by rintro h; rw [← h] at h0; exact N0.out h0
                  have h2 := HM0.out
                  omega)
                by_cases b1 : bAt js 1 = 34
                · have HBK : Hid (bAt u (t + 1) = 34) := Lib.hid (by rw [← JE1.out]; exact b1)
                  have n1 : ((bAt js 1 : Int) == 34) = true := by rw [b1]; rfl
                  clear b1
                  as_aux_lemma =>
                    go_wp2_with fail
                    refine wp_goto ⟨3 * (u.size - (t + 1)) + 1, by have h1 := Hmm.out; have h2 := HM1.out; omega, 1, .inr (.inl ⟨rfl, rfl⟩), ?_⟩
                    refine FR.intro (by rfl) ?_
                    exact ⟨t + 1, rfl, ⟨rfl, by simp only [slotOf] <;> go_num, rfl, rfl, rfl⟩, by omega, HM1.out, fun _ => HBK.out, rfl⟩
                have z1 : ((bAt js 1 : Int) == 34) = false := by simp; omega
                have N1 : Hid (¬ bAt u (t + 1) = 34) := Lib.hid (by rw [← JE1.out]; exact b1)
                clear b1
                have JE2 := Lib.hid (HJ8.out.at' 2 (by decide))
                go_upto_if 133 with (fail)
                have HM2 : Hid (t + 2 ≤ M) := Lib.hid (by
                  have h0 := HQ1.out
                  have h1 : t + 1 ≠ M := by rintro h; rw [← h] at h0; exact N1.out h0
                  have h2 := HM1.out
                  omega)
                by_cases b2 : bAt js 2 = 34
                · have HBK : Hid (bAt u (t + 2) = 34) := Lib.hid (by rw [← JE2.out]; exact b2)
                  have n2 : ((bAt js 2 : Int) == 34) = true := by rw [b2]; rfl
                  clear b2
                  as_aux_lemma =>
                    go_wp2_with fail
                    refine wp_goto ⟨3 * (u.size - (t + 2)) + 1, by have h1 := Hmm.out; have h2 := HM2.out; omega, 1, .inr (.inl ⟨rfl, rfl⟩), ?_⟩
                    refine FR.intro (by rfl) ?_
                    exact ⟨t + 2, rfl, ⟨rfl, by simp only [slotOf] <;> go_num, rfl, rfl, rfl⟩, by omega, HM2.out, fun _ => HBK.out, rfl⟩
                have z2 : ((bAt js 2 : Int) == 34) = false := by simp; omega
                have N2 : Hid (¬ bAt u (t + 2) = 34) := Lib.hid (by rw [← JE2.out]; exact b2)
                clear b2
                have JE3 := Lib.hid (HJ8.out.at' 3 (by decide))
                go_upto_if 138 with (fail)
                have HM3 : Hid (t + 3 ≤ M) := Lib.hid (by
                  have h0 := HQ1.out
                  have h1 : t + 2 ≠ M := by rintro h; rw [← h] at h0; exact N2.out h0
                  have h2 := HM2.out
                  omega)
                by_cases b3 : bAt js 3 = 34
                · have HBK : Hid (bAt u (t + 3) = 34) := Lib.hid (by rw [← JE3.out]; exact b3)
                  have n3 : ((bAt js 3 : Int) == 34) = true := by rw [b3]; rfl
                  clear b3
                  as_aux_lemma =>
                    go_wp2_with fail
                    refine wp_goto ⟨3 * (u.size - (t + 3)) + 1, by have h1 := Hmm.out; have h2 := HM3.out; omega, 1, .inr (.inl ⟨rfl, rfl⟩), ?_⟩
                    refine FR.intro (by rfl) ?_
                    exact ⟨t + 3, rfl, ⟨rfl, by simp only [slotOf] <;> go_num, rfl, rfl, rfl⟩, by omega, HM3.out, fun _ => HBK.out, rfl⟩
                have z3 : ((bAt js 3 : Int) == 34) = false := by simp; omega
                have N3 : Hid (¬ bAt u (t + 3) = 34) := Lib.hid (by rw [← JE3.out]; exact b3)
                clear b3
                have JE4 := Lib.hid (HJ8.out.at' 4 (by decide))
                go_upto_if 143 with (fail)
                have HM4 : Hid (t + 4 ≤ M) := Lib.hid (by
                  have h0 := HQ1.out
                  have h1 : t + 3 ≠ M := by rintro h; rw [← h] at h0; exact N3.out h0
                  have h2 := HM3.out
                  omega)
                by_cases b4 : bAt js 4 = 34
                · have HBK : Hid (bAt u (t + 4) = 34) := Lib.hid (by rw [← JE4.out]; exact b4)
                  have n4 : ((bAt js 4 : Int) == 34) = true := by rw [b4]; rfl
                  clear b4
                  as_aux_lemma =>
                    go_wp2_with fail
                    refine wp_goto ⟨3 * (u.size - (t + 4)) + 1, by have h1 := Hmm.out; have h2 := HM4.out; omega, 1, .inr (.inl ⟨rfl, rfl⟩), ?_⟩
                    refine FR.intro (by rfl) ?_
                    exact ⟨t + 4, rfl, ⟨rfl, by simp only [slotOf] <;> go_num, rfl, rfl, rfl⟩, by omega, HM4.out, fun _ => HBK.out, rfl⟩
                have z4 : ((bAt js 4 : Int) == 34) = false := by simp; omega
                have N4 : Hid (¬ bAt u (t + 4) = 34) := Lib.hid (by rw [← JE4.out]; exact b4)
                clear b4
                have JE5 := Lib.hid (HJ8.out.at' 5 (by decide))
                go_upto_if 148 with (fail)
                have HM5 : Hid (t + 5 ≤ M) := Lib.hid (by
                  have h0 := HQ1.out
                  have h1 : t + 4 ≠ M := by rintro h; rw [← h] at h0; exact N4.out h0
                  have h2 := HM4.out
                  omega)
                by_cases b5 : bAt js 5 = 34
                · have HBK : Hid (bAt u (t + 5) = 34) := Lib.hid (by rw [← JE5.out]; exact b5)
                  have n5 : ((bAt js 5 : Int) == 34) = true := by rw [b5]; rfl
                  clear b5
                  as_aux_lemma =>
                    go_wp2_with fail
                    refine wp_goto ⟨3 * (u.size - (t + 5)) + 1, by have h1 := Hmm.out; have h2 := HM5.out; omega, 1, .inr (.inl ⟨rfl, rfl⟩), ?_⟩
                    refine FR.intro (by rfl) ?_
                    exact ⟨t + 5, rfl, ⟨rfl, by simp only [slotOf] <;> go_num, rfl, rfl, rfl⟩, by omega, HM5.out, fun _ => HBK.out, rfl⟩
                have z5 : ((bAt js 5 : Int) == 34) = false := by simp; omega
                have N5 : Hid (¬ bAt u (t + 5) = 34) := Lib.hid (by rw [← JE5.out]; exact b5)
                clear b5
                have JE6 := Lib.hid (HJ8.out.at' 6 (by decide))
                go_upto_if 153 with (fail)
                have HM6 : Hid (t + 6 ≤ M) := Lib.hid (by
                  have h0 := HQ1.out
                  have h1 : t + 5 ≠ M := by rintro h; rw [← h] at h0; exact N5.out h0
                  have h2 := HM5.out
                  omega)
                by_cases b6 : bAt js 6 = 34
                · have HBK : Hid (bAt u (t + 6) = 34) := Lib.hid (by rw [← JE6.out]; exact b6)
                  have n6 : ((bAt js 6 : Int) == 34) = true := by rw [b6]; rfl
                  clear b6
                  as_aux_lemma =>
                    go_wp2_with fail
                    refine wp_goto ⟨3 * (u.size - (t + 6)) + 1, by have h1 := Hmm.out; have h2 := HM6.out; omega, 1, .inr (.inl ⟨rfl, rfl⟩), ?_⟩
                    refine FR.intro (by rfl) ?_
                    exact ⟨t + 6, rfl, ⟨rfl, by simp only [slotOf] <;> go_num, rfl, rfl, rfl⟩, by omega, HM6.out, fun _ => HBK.out, rfl⟩
                have z6 : ((bAt js 6 : Int) == 34) = false := by simp; omega
                have N6 : Hid (¬ bAt u (t + 6) = 34) := Lib.hid (by rw [← JE6.out]; exact b6)
                clear b6
                have JE7 := Lib.hid (HJ8.out.at' 7 (by decide))
                go_upto_if 158 with (fail)
                have HM7 : Hid (t + 7 ≤ M) := Lib.hid (by
                  have h0 := HQ1.out
                  have h1 : t + 6 ≠ M := by rintro h; rw [← h] at h0; exact N6.out h0
                  have h2 := HM6.out
                  omega)
                by_cases b7 : bAt js 7 = 34
                · have HBK : Hid (bAt u (t + 7) = 34) := Lib.hid (by rw [← JE7.out]; exact b7)
                  have n7 : ((bAt js 7 : Int) == 34) = true := by rw [b7]; rfl
                  clear b7
                  as_aux_lemma =>
                    go_wp2_with fail
                    refine wp_goto ⟨3 * (u.size - (t + 7)) + 1, by have h1 := Hmm.out; have h2 := HM7.out; omega, 1, .inr (.inl ⟨rfl, rfl⟩), ?_⟩
                    refine FR.intro (by rfl) ?_
                    exact ⟨t + 7, rfl, ⟨rfl, by simp only [slotOf] <;> go_num, rfl, rfl, rfl⟩, by omega, HM7.out, fun _ => HBK.out, rfl⟩
                have z7 : ((bAt js 7 : Int) == 34) = false := by simp; omega
                have N7 : Hid (¬ bAt u (t + 7) = 34) := Lib.hid (by rw [← JE7.out]; exact b7)
                clear b7
                have hM8 : t + 8 ≤ M := by
                  have h0 := HQ1.out
                  have h1 : t + 7 ≠ M := by rintro h; rw [← h] at h0; exact N7.out h0
                  have h2 := HM7.out
                  omega
                as_aux_lemma =>
                  go_wp2_with fail
                  refine Handed.intro (u.size - (t + 8)) ?_ ?_
                  · have := Hm4.out; omega
                  go_step
                  refine FR.intro (by rfl) ?_
                  exact ⟨t + 8, rfl, ⟨rfl, by simp only [slotOf] <;> go_num, rfl, rfl, rfl⟩, by omega, hM8, rfl⟩
            case rest4 =>
            refine FR.rest ?_
            rintro g wc ⟨t, ⟨e0, e1, e6, e7, e10⟩, hpt, htM, rfl⟩
            rw [lit230]
            simp only [e0, e1, e6, e7, e10]
            clear e0 e1 e6 e7 e10
            as_aux_lemma =>
              go_wp2_with fail
              refine wp_goto ⟨3 * (u.size - t), by have h1 := Hmm.out; omega, 0, .inr (.inr ⟨rfl, rfl⟩), ?_⟩
              refine FR.intro (by rfl) ?_
              exact ⟨t, rfl, ⟨rfl, rfl, rfl, rfl, rfl⟩, by omega, htM, fun h => by omega, rfl⟩
          · refine ⟨_, rfl, ?_⟩
            have P34 := Lib.hid (h1q rfl); clear h1q
            have hbq1 := bAt_le u (p - 1)
            have hq1' : ((p - 1 : Nat) : Int) = (p : Int) - 1 := by omega
            have hpz : p - 1 < u.size := by omega
            by_cases p92 : bAt u (p - 1) = 92
            rotate_left
            · have e92 : ((bAt u (p - 1) : Int) != 92) = true := by simp; omega
              have hpM : p = M := q_last HQ3.out hp1 hp2 P34.out p92
              have HRp : Hid (SQ u (p + 1) d e) := Lib.hid (by rw [hpM]; exact HR.out)
              clear p92 hpM
              as_aux_lemma =>
                go_wp2_with fail
                refine hK2 _ _ ?_
                refine Handed.intro (u.size - (p + 1)) ?_ ?_
                · have := Hm.out; omega
                go_step
                refine FR.intro (by rfl) ?_
                exact ⟨p + 1, d, rfl, ⟨rfl, by simp only [slotOf] <;> go_num, rfl, rfl⟩, HRp.out, by omega, hd1, rfl⟩
            · have e92 : ((bAt u (p - 1) : Int) != 92) = false := by rw [p92]; rfl
              clear p92
              as_aux_lemma =>
                go_wp2_with fail
                refine wp_label ?_
                refine ‹∀ (a : Act) (w : World), Code.wp Tryz.prog _ (jumps _ _) a w → (_ : Act → World → Prop) a w› _ _ ?_
                refine HPS.out 3 (3 * (u.size - p)) _ _ _ (by have := Hmm.out; omega) ⟨0, .inr (.inr ⟨rfl, rfl⟩), ?_⟩ rfl
                refine FR.intro (by rfl) ?_
                exact ⟨p, rfl, ⟨rfl, rfl, rfl, rfl, rfl⟩, hp1, hp2, fun h => by omega, rfl⟩
          · refine ⟨_, rfl, ?_⟩
            clear h1q
            go_wp2_with fail
            refine wp_loop_ghost_k (fun mm => FR 230 (fun g wx => ∃ t : Nat, mm = u.size - t ∧ (g 0 = .string u ∧ g 1 = .int .i64 (t : Int) ∧ g 6 = .int .i64 (s : Int) ∧ g 7 = .int .i64 (d : Int) ∧ g 10 = .int .i64 ((q : Int) + 1)) ∧ p ≤ t ∧ t ≤ M ∧ w = wx)) (u.size - p) ?atStart6 ?round6
            case atStart6 =>
              refine FR.intro (by rfl) ?_
              exact ⟨p, rfl, ⟨rfl, rfl, rfl, rfl, rfl⟩, by omega, hp2, rfl⟩
            case round6 =>
              intro gk6
              refine FR.rest ?_
              rintro g wc ⟨t, hm6, ⟨e0, e1, e6, e7, e10⟩, hpt, htM, rfl⟩
              rw [lit230]
              simp only [e0, e1, e6, e7, e10]
              clear e0 e1 e6 e7 e10
              intro J4 K4 hJ4 hK4
              have Hm6 := Lib.hid hm6; clear hm6
              have hbt := bAt_le u t
              have htz : t < u.size := by omega
              by_cases c34 : bAt u t = 34
              rotate_left
              · have e34 : ((bAt u t : Int) != 34) = true := by simp; omega
                have hne : t + 1 ≤ M := by
                  have : t ≠ M := by rintro rfl; exact c34 HQ1.out
                  omega
                clear c34
                by_cases c92 : 92 < (bAt u t : Int)
                · have : True := trivial
                  as_aux_lemma =>
                    go_wp2_with fail
                    refine Handed.intro (u.size - (t + 1)) ?_ ?_
                    · have := Hm6.out; omega
                    go_step
                    refine FR.intro (by rfl) ?_
                    exact ⟨t + 1, rfl, ⟨rfl, by simp only [slotOf] <;> go_num, rfl, rfl, rfl⟩, by omega, hne, rfl⟩
                · have : True := trivial
                  as_aux_lemma =>
                    go_wp2_with fail
                    refine Handed.intro (u.size - (t + 1)) ?_ ?_
                    · have := Hm6.out; omega
                    go_step
                    refine FR.intro (by rfl) ?_
                    exact ⟨t + 1, rfl, ⟨rfl, by simp only [slotOf] <;> go_num, rfl, rfl, rfl⟩, by omega, hne, rfl⟩
              have e34 : ((bAt u t : Int) != 34) = false := by rw [c34]; rfl
              have c92 : ¬ 92 < (bAt u t : Int) := by omega
              have P34 := Lib.hid c34; clear c34
              have hbq1 := bAt_le u (t - 1)
              have hq1' : ((t - 1 : Nat) : Int) = (t : Int) - 1 := by omega
              have hpz : t - 1 < u.size := by omega
              by_cases p92 : bAt u (t - 1) = 92
              rotate_left
              · have e92 : ((bAt u (t - 1) : Int) == 92) = false := by simp; omega
                have hpM : t = M := q_last HQ3.out (by omega) htM P34.out p92
                have HRp : Hid (SQ u (t + 1) d e) := Lib.hid (by rw [hpM]; exact HR.out)
                clear p92 hpM
                as_aux_lemma =>
                  go_wp2_with fail
                  refine ‹∀ (a : Act) (w : World), Code.wp Tryz.prog _ (jumps _ _) a w → (_ : Act → World → Prop) a w› _ _ ?_
                  go_wp2_with fail
                  refine hK2 _ _ ?_
                  refine Handed.intro (u.size - (t + 1)) ?_ ?_
                  · have := Hm.out; omega
                  go_step
                  refine FR.intro (by rfl) ?_
                  exact ⟨t + 1, d, rfl, ⟨rfl, by simp only [slotOf] <;> go_num, rfl, rfl⟩, HRp.out, by omega, hd1, rfl⟩
              have e92 : ((bAt u (t - 1) : Int) == 92) = true := by rw [p92]; rfl
              have hqt : q + 1 < t := by
                by_cases hx : t = q + 1
                · exfalso
                  rw [hx, Nat.add_sub_cancel, H34.out] at p92
                  omega
                · omega
              have P92 := Lib.hid p92; clear p92
              have HN := Lib.hid (show bsl u (q + 1) (t - (q + 1)) = bsl u (q + 1) (t - 1 - (q + 1)) + 1 by
                rw [show t - (q + 1) = (t - 1 - (q + 1)) + 1 by omega, bsl_step, show q + 1 + (t - 1 - (q + 1)) = t - 1 by omega, if_pos P92.out])
              go_upto_block 8 with (fail)
              refine wp_cut (FR 230 (fun g wx => ∃ n : Nat, (g 0 = .string u ∧ g 1 = .int .i64 (t : Int) ∧ g 6 = .int .i64 (s : Int) ∧ g 7 = .int .i64 (d : Int) ∧ g 10 = .int .i64 ((q : Int) + 1) ∧ g 12 = .int .i64 (n : Int)) ∧ n = bsl u (q + 1) (t - 1 - (q + 1)) ∧ w = wx)) ?restN ?firstN
              case firstN =>
                intro J5 K5 hJ5 hK5
                go_wp2_with fail
                refine wp_loop_ghost_k (fun mm => FR 230 (fun g wx => ∃ n : Nat, mm = t - 1 - (q + 1) - n ∧ (g 0 = .string u ∧ g 1 = .int .i64 (t : Int) ∧ g 6 = .int .i64 (s : Int) ∧ g 7 = .int .i64 (d : Int) ∧ g 10 = .int .i64 ((q : Int) + 1) ∧ g 12 = .int .i64 (n : Int) ∧ g 13 = .int .i64 ((t : Int) - 2 - (n : Int))) ∧ n ≤ t - 1 - (q + 1) ∧ bsl u (q + 1) (t - 1 - (q + 1)) = n + bsl u (q + 1) (t - 1 - (q + 1) - n) ∧ w = wx)) (t - 1 - (q + 1)) ?atStart7 ?round7
                case atStart7 =>
                  refine FR.intro (by rfl) ?_
                  exact ⟨0, rfl, ⟨rfl, rfl, rfl, rfl, rfl, rfl, by simp only [slotOf]; congr 1; omega⟩, by omega, by simp, rfl⟩
                case round7 =>
                  intro gk3
                  refine FR.rest ?_
                  rintro g wc ⟨n, hm3, ⟨e0, e1, e6, e7, e10, e12, e13⟩, hn1, hn2, rfl⟩
                  rw [lit230]
                  simp only [e0, e1, e6, e7, e10, e12, e13]
                  clear e0 e1 e6 e7 e10 e12 e13
                  intro J6 K6 hJ6 hK6
                  have Hm3 := Lib.hid hm3; clear hm3
                  have HN2 := Lib.hid hn2; clear hn2
                  by_cases hn : n < t - 1 - (q + 1)
                  · obtain ⟨j, hj⟩ : ∃ j : Nat, (t : Int) - 2 - (n : Int) = (j : Int) := ⟨t - 2 - n, by omega⟩
                    have hj' : j = q + 1 + (t - 1 - (q + 1) - n - 1) := by omega
                    have hjz : j < u.size := by omega
                    have hji : (q : Int) < (j : Int) := by omega
                    have hbj := bAt_le u j
                    have hst := bsl_step u (q + 1) (t - 1 - (q + 1) - n - 1)
                    rw [← hj', show t - 1 - (q + 1) - n - 1 + 1 = t - 1 - (q + 1) - n by omega] at hst
                    have HJ := Lib.hid hj'; clear hj'
                    have HJ2 := Lib.hid hj
                    rw [hj]
                    clear hj
                    by_cases b92 : bAt u j = 92
                    · have eb : ((bAt u j : Int) != 92) = false := by rw [b92]; rfl
                      rw [if_pos b92] at hst
                      have HST := Lib.hid hst; clear hst b92
                      as_aux_lemma =>
                        go_wp2_with fail
                        refine Handed.intro (t - 1 - (q + 1) - (n + 1)) ?_ ?_
                        · have := Hm3.out; omega
                        go_step
                        refine FR.intro (by rfl) ?_
                        exact ⟨n + 1, rfl, ⟨rfl, rfl, rfl, rfl, rfl, rfl, by simp only [slotOf]; congr 1; have := HJ2.out; omega⟩, by omega, by rw [HN2.out, HST.out, show t - 1 - (q + 1) - (n + 1) = t - 1 - (q + 1) - n - 1 by omega]; omega, rfl⟩
                    · have eb : ((bAt u j : Int) != 92) = true := by simp; omega
                      rw [if_neg b92] at hst
                      have HST := Lib.hid hst; clear hst b92
                      as_aux_lemma =>
                        go_wp2_with fail
                        refine Met.intro ?_
                        go_step
                        refine FR.intro (by rfl) ?_
                        exact ⟨n, ⟨rfl, rfl, rfl, rfl, rfl, rfl⟩, by have h1 := HN2.out; have h2 := HST.out; omega, rfl⟩
                  · have hx : n = t - 1 - (q + 1) := by omega
                    have hf : ¬ ((q : Int) < (t : Int) - 2 - (n : Int)) := by omega
                    have HX := Lib.hid hx; clear hx
                    as_aux_lemma =>
                      go_wp2_with fail
                      refine Met.intro ?_
                      go_step
                      refine FR.intro (by rfl) ?_
                      exact ⟨n, ⟨rfl, rfl, rfl, rfl, rfl, rfl⟩, by have h1 := HN2.out; rw [← HX.out, Nat.sub_self] at h1; rw [← HX.out]; simpa [bsl] using h1.symm, rfl⟩
              case restN =>
              refine FR.rest ?_
              rintro g wc ⟨n, ⟨e0, e1, e6, e7, e10, e12⟩, hnn, rfl⟩
              rw [lit230]
              simp only [e0, e1, e6, e7, e10, e12]
              clear e0 e1 e6 e7 e10 e12
              have HNN := Lib.hid hnn; clear hnn
              by_cases hx : t = M
              · have hodd : (n : Int).tmod 2 = 1 := by
                  have h1 := HQ2.out
                  rw [← hx, HN.out, ← HNN.out] at h1
                  rw [Int.tmod_eq_emod_of_nonneg (by omega)]
                  omega
                have HRp : Hid (SQ u (t + 1) d e) := Lib.hid (by rw [hx]; exact HR.out)
                clear hx
                as_aux_lemma =>
                  go_wp2_with fail
                  refine ‹∀ (a : Act) (w : World), Code.wp Tryz.prog _ (jumps _ _) a w → (_ : Act → World → Prop) a w› _ _ ?_
                  go_wp2_with fail
                  refine hK2 _ _ ?_
                  refine Handed.intro (u.size - (t + 1)) ?_ ?_
                  · have := Hm.out; omega
                  go_step
                  refine FR.intro (by rfl) ?_
                  exact ⟨t + 1, d, rfl, ⟨rfl, by simp only [slotOf] <;> go_num, rfl, rfl⟩, HRp.out, by omega, hd1, rfl⟩
              · have hev : (n : Int).tmod 2 = 0 := by
                  have h1 := HQ3.out t (by omega) (by omega) P34.out
                  rw [HN.out, ← HNN.out] at h1
                  rw [Int.tmod_eq_emod_of_nonneg (by omega)]
                  omega
                have hne : t + 1 ≤ M := by omega
                clear hx
                as_aux_lemma =>
                  go_wp2_with fail
                  refine wp_goto ⟨3 * (u.size - (t + 1)) + 2, by have h1 := Hmm.out; omega, 2, .inl ⟨rfl, rfl⟩, ?_⟩
                  refine FR.intro (by rfl) ?_
                  exact ⟨t + 1, rfl, ⟨rfl, by simp only [slotOf] <;> go_num, rfl, rfl, rfl⟩, by omega, hne, fun h => by omega, rfl⟩
end Go.Proofs.YtggdcpmampjncaaGreatDoor
