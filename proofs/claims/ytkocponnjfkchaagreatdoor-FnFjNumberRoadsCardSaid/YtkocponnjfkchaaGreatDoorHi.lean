/- fastfloat.ParseInt64 and ParseUint64 of a number's text, as functions of it. -/
import Derived.Test.YtkocponnjfkchaaGreatDoorHq
import Derived.Test.YtkocponnjfkchaaGreatDoorShelf
namespace Go.Proofs.YtkocponnjfkchaaGreatDoor
open Go.RowKit

theorem lit77 (g : Nat → Value) : ((List.range 77).map g).toArray = #[g 0, g 1, g 2, g 3, g 4, g 5, g 6, g 7, g 8, g 9, g 10, g 11, g 12, g 13, g 14, g 15, g 16, g 17, g 18, g 19, g 20, g 21, g 22, g 23, g 24, g 25, g 26, g 27, g 28, g 29, g 30, g 31, g 32, g 33, g 34, g 35, g 36, g 37, g 38, g 39, g 40, g 41, g 42, g 43, g 44, g 45, g 46, g 47, g 48, g 49, g 50, g 51, g 52, g 53, g 54, g 55, g 56, g 57, g 58, g 59, g 60, g 61, g 62, g 63, g 64, g 65, g 66, g 67, g 68, g 69, g 70, g 71, g 72, g 73, g 74, g 75, g 76] := by kernel_rfl
theorem lit61 (g : Nat → Value) : ((List.range 61).map g).toArray = #[g 0, g 1, g 2, g 3, g 4, g 5, g 6, g 7, g 8, g 9, g 10, g 11, g 12, g 13, g 14, g 15, g 16, g 17, g 18, g 19, g 20, g 21, g 22, g 23, g 24, g 25, g 26, g 27, g 28, g 29, g 30, g 31, g 32, g 33, g 34, g 35, g 36, g 37, g 38, g 39, g 40, g 41, g 42, g 43, g 44, g 45, g 46, g 47, g 48, g 49, g 50, g 51, g 52, g 53, g 54, g 55, g 56, g 57, g 58, g 59, g 60] := by kernel_rfl
theorem dv_next {d0 : Nat} {s : ByteArray} {a k : Nat} (h : a ≤ k) (hb : 48 ≤ bAt s k) : ((dv d0 s a (k + 1 - a) : Nat) : Int) = (dv d0 s a (k - a) : Int) * 10 + ((bAt s k : Int) - 48) := by
  rw [show k + 1 - a = (k - a) + 1 by omega]
  show ((dv d0 s a (k - a) * 10 + (bAt s (a + (k - a)) - 48) : Nat) : Int) = _
  rw [show a + (k - a) = k by omega]
  omega
theorem bytes_upd (w : World) (s : ByteArray) : Upd NoB w (Lib.bytesWorld w 5 s) := ⟨rfl, rfl, rfl, by rw [Lib.bytesWorld_size]; omega, fun k hk _ => Lib.bytesWorld_at_old w _ s k hk⟩
/-- What strconv makes of a text: a number, or an error. -/
def piV (s : ByteArray) : Int × Bool := match Lib.parseIntB 64 s.data.toList with | .ok v => (v, true) | _ => (0, false)
def puV (s : ByteArray) : Int × Bool := match Lib.parseUintB 64 s.data.toList with | .ok v => ((v : Nat), true) | _ => (0, false)
theorem pi_any (lo : Nat) (s : ByteArray) (w : World) (hs : s.size ≤ 1048576) (hT : Tabs lo w) :
    Calls Tryz.prog 31 #[.string s, .int .i64 10, .int .i64 64] w fun e w' => (∃ v ev, e = .returned (.tuple #[.int .i64 v, ev]) ∧ ErrIf (piV s).2 ev ∧ ((piV s).2 = true → v = (piV s).1)) ∧ Upd NoB w w' := by
  obtain ⟨eR, r1, r2⟩ := hT.eR
  obtain ⟨eS, s1, s2⟩ := hT.eS
  unfold piV
  cases h : Lib.parseIntB 64 s.data.toList
  · rename_i v
    refine (Tryz.strconv_ParseInt_10_at64_ok s (by omega) v h w).mono ?_
    rintro e w' ⟨rfl, hw⟩
    refine ⟨⟨v, _, rfl, .inl ⟨rfl, rfl⟩, fun _ => rfl⟩, ?_⟩
    rcases hw with rfl | ⟨t, rfl⟩
    · exact Upd.refl _ _
    · exact bytes_upd w t
  · refine (Tryz.strconv_ParseInt_10_at64_syntax s (by omega) h eS w s1 s2).mono ?_
    rintro e w' ⟨N, rfl, _, _, hw⟩
    exact ⟨⟨_, _, rfl, .inr ⟨rfl, _, _, rfl⟩, fun h => by cases h⟩, Upd.of_below hw⟩
  · refine (Tryz.strconv_ParseInt_10_at64_range s (by omega) h eR w r1 r2).mono ?_
    rintro e w' ⟨N, rfl, _, _, hw⟩
    exact ⟨⟨_, _, rfl, .inr ⟨rfl, _, _, rfl⟩, fun h => by cases h⟩, Upd.of_below hw⟩
theorem pu_any (lo : Nat) (s : ByteArray) (w : World) (hs : s.size ≤ 1048576) (hT : Tabs lo w) :
    Calls Tryz.prog 39 #[.string s, .int .i64 10, .int .i64 64] w fun e w' => (∃ v ev, e = .returned (.tuple #[.int .u64 v, ev]) ∧ ErrIf (puV s).2 ev ∧ ((puV s).2 = true → v = (puV s).1)) ∧ Upd NoB w w' := by
  obtain ⟨eR, r1, r2⟩ := hT.eR
  obtain ⟨eS, s1, s2⟩ := hT.eS
  unfold puV
  cases h : Lib.parseUintB 64 s.data.toList
  · rename_i v
    refine (Tryz.strconv_ParseUint_10_at64_ok s (by omega) v h w).mono ?_
    rintro e w' ⟨rfl, hw⟩
    refine ⟨⟨v, _, rfl, .inl ⟨rfl, rfl⟩, fun _ => rfl⟩, ?_⟩
    rcases hw with rfl | rfl
    · exact Upd.refl _ _
    · exact bytes_upd w s
  · refine (Tryz.strconv_ParseUint_10_at64_syntax s (by omega) h eS w s1 s2).mono ?_
    rintro e w' ⟨N, rfl, _, _, hw⟩
    exact ⟨⟨_, _, rfl, .inr ⟨rfl, _, _, rfl⟩, fun h => by cases h⟩, Upd.of_below hw⟩
  · refine (Tryz.strconv_ParseUint_10_at64_range s (by omega) h eR w r1 r2).mono ?_
    rintro e w' ⟨N, rfl, _, _, hw⟩
    exact ⟨⟨_, _, rfl, .inr ⟨rfl, _, _, rfl⟩, fun h => by cases h⟩, Upd.of_below hw⟩

/-- What ParseInt64 or ParseUint64 makes of digits from a to b. -/
def PU64V (s : ByteArray) (a b : Nat) : Int × Bool := if 19 ≤ b then (if (puV s).2 = true then puV s else (0, false)) else if b < s.size then (0, false) else ((dv 0 s a (b - a) : Int), true)
set_option maxHeartbeats 8000000 in
set_option maxRecDepth 100000 in
theorem PU64_any (lo : Nat) (s : ByteArray) (a b c : Nat) (w : World) (hs : s.size ≤ 1048576) (hN : NumD s a b c) (h0 : a = 0) (hT : Tabs lo w) (hlo : lo ≤ w.heap.size) :
    Calls Tryz.prog 27 #[.string s] w fun e w' => (∃ ev, e = .returned (.tuple #[.int .u64 (PU64V s a b).1, ev]) ∧ ErrIf (PU64V s a b).2 ev) ∧ Upd NoB w w' := by
  have hB := get_bAt s
  obtain ⟨ha1, hbc, hcz, hz⟩ := hN.bounds
  have hip := hN.ip
  have hab := hN.ab
  have hmn := hN.minus
  have HP := Lib.hid (fun wx hT => pu_any lo s wx hs hT)
  have HT := Lib.hid hT
  obtain ⟨V, hV⟩ : ∃ V, PU64V s a b = V := ⟨_, rfl⟩
  rw [hV]
  unfold PU64V at hV
  have HV := Lib.hid hV
  have e0 : ((s.size : Int) == 0) = false := beq_eq_false_iff_ne.2 (by omega)
  have hz' : (0 : Int) < (s.size : Int) := by omega
  have hb0 := bAt_le s 0
  have HErr := Lib.hid (fun m wx => err_new m wx)
  clear hV hT hN
  go_enter Tryz.func27, Tryz.ntmps27
  go_wp2_with fail
  have H0 := Lib.hid h0; clear h0
  refine wp_loop_ghost_k (fun mm => FR 61 (fun g wx => ∃ k D : Nat, mm = b - k ∧ (g 0 = .string s ∧ g 4 = .int .u64 (k : Int) ∧ g 5 = .int .u64 (D : Int) ∧ g 6 = .int .u64 (a : Int)) ∧ D = dv 0 s a (k - a) ∧ a ≤ k ∧ k ≤ b ∧ k ≤ 18 ∧ wx = w)) (b - a) ?atStart ?round
  case atStart =>
    refine FR.intro (by rfl) ?_
    exact ⟨a, 0, rfl, ⟨rfl, by rw [H0.out]; rfl, rfl, by rw [H0.out]; rfl⟩, by rw [Nat.sub_self]; rfl, Nat.le_refl _, Nat.le_of_lt hab, by omega, rfl⟩
  case round =>
    intro gk
    refine FR.rest ?_
    rintro g wx ⟨k, D, hm, ⟨e0, e4, e5, e6⟩, hD, hk1, hk2, hk3, rfl⟩
    rw [lit61]
    simp only [e0, e4, e5, e6]
    clear e0 e4 e5 e6
    intro J2 K2 hJ2 hK2
    have Hm := Lib.hid hm; clear hm
    have HD := Lib.hid hD
    have hbk := bAt_le s k
    by_cases hlt : k < b
    · obtain ⟨g1', g2'⟩ := hip.2.2.1 k hk1 hlt
      have g1 : (48 : Int) ≤ (bAt s k : Int) := by omega
      have g2 : (bAt s k : Int) ≤ 57 := by omega
      have hkz : (k : Int) < (s.size : Int) := by omega
      have HNx : Hid (((dv 0 s a (k + 1 - a) : Nat) : Int) = (D : Int) * 10 + ((bAt s k : Int) - 48)) := Lib.hid (by rw [hD]; exact dv_next (d0 := 0) hk1 g1')
      have hd := dv_lt (d0 := 0) (n := 0) (s := s) (a := a) (by decide) (k - a) (fun q hq => (hip.2.2.1 (a + q) (by omega) (by omega)).2)
      rw [Nat.zero_add, ← hD] at hd
      clear hD
      by_cases h18 : k < 18
      · have hd2 : (D : Int) < 100000000000000000 := by
          have : 10 ^ (k - a) ≤ 10 ^ 17 := Nat.pow_le_pow_right (by decide) (by omega)
          omega
        have hk18 : ¬ (18 : Int) < (k : Int) + 1 := by omega
        have hd3 : (0 : Int) ≤ (D : Int) := by omega
        clear hd
        clear hip hmn hbc hcz hab
        as_aux_lemma =>
          go_wp2_with fail
          refine Handed.intro (b - (k + 1)) ?_ ?_
          · have := Hm.out; omega
          go_step
          refine FR.intro (by rfl) ?_
          exact ⟨k + 1, _, rfl, ⟨rfl, by simp only [slotOf]; congr 1, by simp only [slotOf]; congr 1; exact (HNx.out).symm, rfl⟩, rfl, by omega, hlt, by omega, rfl⟩
      have hd2 : (D : Int) < 1000000000000000000 := by
        have : 10 ^ (k - a) ≤ 10 ^ 18 := Nat.pow_le_pow_right (by decide) (by omega)
        omega
      have hd3 : (0 : Int) ≤ (D : Int) := by omega
      have hk18 : (18 : Int) < (k : Int) + 1 := by omega
      have hv := HV.out
      rw [if_pos (by omega)] at hv
      have HV2 := Lib.hid hv; clear hv HV
      clear hd h18 hk3 hip hmn hbc hcz hab
      go_wp2_with fail
      refine (HP.out _ HT.out).mono ?_
      rintro e w2 ⟨⟨v, ev, rfl, hev, hvv⟩, hu2⟩
      rcases hev with ⟨h1, rfl⟩ | ⟨h1, t, y, rfl⟩
      · have hVe : V = (v, true) := by
          rw [← HV2.out, if_pos h1]
          exact Prod.ext (hvv h1).symm h1
        have HR : Hid ((∃ ev', Ending.returned (.tuple #[.int .u64 v, .nilIface]) = .returned (.tuple #[.int .u64 V.1, ev']) ∧ ErrIf V.2 ev') ∧ Upd NoB wx w2) := Lib.hid ⟨⟨_, by rw [hVe], .inl ⟨by rw [hVe], rfl⟩⟩, hu2⟩
        clear hVe hvv h1
        go_wp2_with fail
        refine bodyPost_ret (v := .tuple #[.int .u64 v, .nilIface]) (by simp [results, Tryz.results27, go_sem]) rfl ?_
        exact HR.out
      · have hVe : V = (0, false) := by
          rw [← HV2.out, if_neg (by rw [h1]; decide)]
        have HR : Hid ((∃ ev', Ending.returned (.tuple #[.int .u64 0, .iface t y]) = .returned (.tuple #[.int .u64 V.1, ev']) ∧ ErrIf V.2 ev') ∧ Upd NoB wx w2) := Lib.hid ⟨⟨_, by rw [hVe], .inr ⟨by rw [hVe], _, _, rfl⟩⟩, hu2⟩
        clear hVe hvv h1
        go_wp2_with fail
        refine bodyPost_ret (v := .tuple #[.int .u64 0, .iface t y]) (by simp [results, Tryz.results27, go_sem]) rfl ?_
        exact HR.out
    obtain rfl : k = b := by omega
    have hv := HV.out
    rw [if_neg (by omega)] at hv
    have hja : ¬ (k : Int) ≤ (a : Int) := by omega
    have HDb : Hid ((D : Int) ≤ 1000000000000000000) := Lib.hid (by
      have hd := dv_lt (d0 := 0) (n := 0) (s := s) (a := a) (by decide) (k - a) (fun q hq => (hip.2.2.1 (a + q) (by omega) (by omega)).2)
      rw [Nat.zero_add, ← hD] at hd
      have : 10 ^ (k - a) ≤ 10 ^ 18 := Nat.pow_le_pow_right (by decide) (by omega)
      omega)
    clear hD
    by_cases hsz : k < s.size
    · have hkz : (k : Int) < (s.size : Int) := by omega
      have hnd := hip.2.2.2 hsz
      rw [if_pos hsz] at hv
      have HVe := Lib.hid hv; clear hv HV hlt
      clear hip hmn hbc hcz hab hk1 hk2
      have HE1 := Lib.hid (fun (wy : World) => HErr.out)
      by_cases h48 : 48 ≤ bAt s k
      · have g1 : (48 : Int) ≤ (bAt s k : Int) := by omega
        have g2 : ¬ (bAt s k : Int) ≤ 57 := by omega
        clear hnd h48 hsz hk3
        go_wp2_with fail
        refine (HErr.out _ _).mono ?_
        rintro e w2 ⟨rfl, hu2⟩
        have HR : Hid ((∃ ev', Ending.returned (.tuple #[.int .u64 0, .iface 76 (.pointer (some ⟨wx.heap.size, 0, none⟩))]) = .returned (.tuple #[.int .u64 V.1, ev']) ∧ ErrIf V.2 ev') ∧ Upd NoB wx w2) := Lib.hid ⟨⟨_, by rw [← HVe.out], .inr ⟨by rw [← HVe.out], _, _, rfl⟩⟩, hu2⟩
        clear hu2
        go_wp2_with fail
        refine bodyPost_ret (v := .tuple #[.int .u64 0, .iface 76 (.pointer (some ⟨wx.heap.size, 0, none⟩))]) (by simp [results, Tryz.results27, go_sem]) rfl ?_
        exact HR.out
      · have g1 : ¬ (48 : Int) ≤ (bAt s k : Int) := by omega
        clear hnd h48 hsz hk3
        go_wp2_with fail
        refine (HErr.out _ _).mono ?_
        rintro e w2 ⟨rfl, hu2⟩
        have HR : Hid ((∃ ev', Ending.returned (.tuple #[.int .u64 0, .iface 76 (.pointer (some ⟨wx.heap.size, 0, none⟩))]) = .returned (.tuple #[.int .u64 V.1, ev']) ∧ ErrIf V.2 ev') ∧ Upd NoB wx w2) := Lib.hid ⟨⟨_, by rw [← HVe.out], .inr ⟨by rw [← HVe.out], _, _, rfl⟩⟩, hu2⟩
        clear hu2
        go_wp2_with fail
        refine bodyPost_ret (v := .tuple #[.int .u64 0, .iface 76 (.pointer (some ⟨wx.heap.size, 0, none⟩))]) (by simp [results, Tryz.results27, go_sem]) rfl ?_
        exact HR.out
    · have hkz : ¬ (k : Int) < (s.size : Int) := by omega
      rw [if_neg hsz] at hv
      have HVe := Lib.hid hv; clear hv HV hlt
      clear hip hbc hcz hab hk1 hk2 hsz hk3
      go_wp2_with fail
      refine bodyPost_ret (v := .tuple #[.int .u64 (D : Int), .nilIface]) (by simp [results, Tryz.results27, go_sem]) rfl ?_
      exact ⟨⟨_, by rw [← HVe.out, HD.out], .inl ⟨by rw [← HVe.out], rfl⟩⟩, Upd.refl _ _⟩

/-- What ParseInt64 or ParseUint64 makes of digits from a to b. -/
def PI64V (s : ByteArray) (a b : Nat) : Int × Bool := if 19 ≤ b then (if (piV s).2 = true then piV s else (0, false)) else if b < s.size then (0, false) else ((if mnS s = true then -(dv 0 s a (b - a) : Int) else (dv 0 s a (b - a) : Int)), true)
set_option maxHeartbeats 8000000 in
set_option maxRecDepth 100000 in
theorem PI64_any (lo : Nat) (s : ByteArray) (a b c : Nat) (w : World) (hs : s.size ≤ 1048576) (hN : NumD s a b c) (hT : Tabs lo w) (hlo : lo ≤ w.heap.size) :
    Calls Tryz.prog 22 #[.string s] w fun e w' => (∃ ev, e = .returned (.tuple #[.int .i64 (PI64V s a b).1, ev]) ∧ ErrIf (PI64V s a b).2 ev) ∧ Upd NoB w w' := by
  have hB := get_bAt s
  obtain ⟨ha1, hbc, hcz, hz⟩ := hN.bounds
  have hip := hN.ip
  have hab := hN.ab
  have hmn := hN.minus
  have HP := Lib.hid (fun wx hT => pi_any lo s wx hs hT)
  have HT := Lib.hid hT
  obtain ⟨V, hV⟩ : ∃ V, PI64V s a b = V := ⟨_, rfl⟩
  rw [hV]
  unfold PI64V at hV
  have HV := Lib.hid hV
  have e0 : ((s.size : Int) == 0) = false := beq_eq_false_iff_ne.2 (by omega)
  have hz' : (0 : Int) < (s.size : Int) := by omega
  have hb0 := bAt_le s 0
  have HErr := Lib.hid (fun m wx => err_new m wx)
  clear hV hT hN
  have hq0 : ((bAt s 0 : Int) == 45) = mnS s := by
    rcases hmn with ⟨h1, h2, _⟩ | ⟨h1, h2, _⟩
    · rw [h1, h2]; rfl
    · rw [h1]; exact beq_eq_false_iff_ne.2 (by omega)
  go_enter Tryz.func22, Tryz.ntmps22
  go_upto_if 17 with (fail)
  refine wp_cut (FR 77 (fun g wx => (g 0 = .string s ∧ g 4 = .int .u64 (a : Int) ∧ g 5 = .bool (mnS s)) ∧ wx = w)) ?restS ?firstS
  case firstS =>
    intro J K hJ hK
    rcases hmn with ⟨h1, h2, h3⟩ | ⟨h1, h2, h3⟩
    · have hsz1 : ¬ (s.size : Int) ≤ 1 := by omega
      have hsz2 : (1 : Int) < (s.size : Int) := by omega
      rw [h1, h3] at hJ
      rw [h1] at hq0 ⊢
      clear h1 h2 h3 hip hbc hcz hab ha1
      go_wp2_with fail
      refine Met.intro ?_
      go_step
      refine FR.intro (by rfl) ?_
      exact ⟨⟨rfl, rfl, rfl⟩, rfl⟩
    · rw [h1, h3] at hJ
      rw [h1] at hq0 ⊢
      clear h1 h2 h3 hip hbc hcz hab ha1
      go_wp2_with fail
      refine Met.intro ?_
      go_step
      refine FR.intro (by rfl) ?_
      exact ⟨⟨rfl, rfl, rfl⟩, rfl⟩
  case restS =>
  clear hq0
  refine FR.rest ?_
  rintro g w ⟨⟨e0', e4, e5⟩, rfl⟩
  rw [lit77]
  simp only [e0', e4, e5]
  clear e0' e4 e5
  go_wp2_with fail
  refine wp_loop_ghost_k (fun mm => FR 77 (fun g wx => ∃ k D : Nat, mm = b - k ∧ (g 0 = .string s ∧ g 4 = .int .u64 (k : Int) ∧ g 5 = .bool (mnS s) ∧ g 6 = .int .i64 (D : Int) ∧ g 7 = .int .u64 (a : Int)) ∧ D = dv 0 s a (k - a) ∧ a ≤ k ∧ k ≤ b ∧ k ≤ 18 ∧ wx = w)) (b - a) ?atStart ?round
  case atStart =>
    refine FR.intro (by rfl) ?_
    exact ⟨a, 0, rfl, ⟨rfl, rfl, rfl, rfl, rfl⟩, by rw [Nat.sub_self]; rfl, Nat.le_refl _, Nat.le_of_lt hab, by omega, rfl⟩
  case round =>
    intro gk
    refine FR.rest ?_
    rintro g wx ⟨k, D, hm, ⟨e0, e4, e5, e6, e7⟩, hD, hk1, hk2, hk3, rfl⟩
    rw [lit77]
    simp only [e0, e4, e5, e6, e7]
    clear e0 e4 e5 e6 e7
    intro J2 K2 hJ2 hK2
    have Hm := Lib.hid hm; clear hm
    have HD := Lib.hid hD
    have hbk := bAt_le s k
    by_cases hlt : k < b
    · obtain ⟨g1', g2'⟩ := hip.2.2.1 k hk1 hlt
      have g1 : (48 : Int) ≤ (bAt s k : Int) := by omega
      have g2 : (bAt s k : Int) ≤ 57 := by omega
      have hkz : (k : Int) < (s.size : Int) := by omega
      have HNx : Hid (((dv 0 s a (k + 1 - a) : Nat) : Int) = (D : Int) * 10 + ((bAt s k : Int) - 48)) := Lib.hid (by rw [hD]; exact dv_next (d0 := 0) hk1 g1')
      have hd := dv_lt (d0 := 0) (n := 0) (s := s) (a := a) (by decide) (k - a) (fun q hq => (hip.2.2.1 (a + q) (by omega) (by omega)).2)
      rw [Nat.zero_add, ← hD] at hd
      clear hD
      by_cases h18 : k < 18
      · have hd2 : (D : Int) < 100000000000000000 := by
          have : 10 ^ (k - a) ≤ 10 ^ 17 := Nat.pow_le_pow_right (by decide) (by omega)
          omega
        have hk18 : ¬ (18 : Int) < (k : Int) + 1 := by omega
        have hd3 : (0 : Int) ≤ (D : Int) := by omega
        clear hd
        clear hip hmn hbc hcz hab
        as_aux_lemma =>
          go_wp2_with fail
          refine Handed.intro (b - (k + 1)) ?_ ?_
          · have := Hm.out; omega
          go_step
          refine FR.intro (by rfl) ?_
          exact ⟨k + 1, _, rfl, ⟨rfl, by simp only [slotOf]; congr 1, rfl, by simp only [slotOf]; congr 1; exact (HNx.out).symm, rfl⟩, rfl, by omega, hlt, by omega, rfl⟩
      have hd2 : (D : Int) < 1000000000000000000 := by
        have : 10 ^ (k - a) ≤ 10 ^ 18 := Nat.pow_le_pow_right (by decide) (by omega)
        omega
      have hd3 : (0 : Int) ≤ (D : Int) := by omega
      have hk18 : (18 : Int) < (k : Int) + 1 := by omega
      have hv := HV.out
      rw [if_pos (by omega)] at hv
      have HV2 := Lib.hid hv; clear hv HV
      clear hd h18 hk3 hip hmn hbc hcz hab
      go_wp2_with fail
      refine (HP.out _ HT.out).mono ?_
      rintro e w2 ⟨⟨v, ev, rfl, hev, hvv⟩, hu2⟩
      rcases hev with ⟨h1, rfl⟩ | ⟨h1, t, y, rfl⟩
      · have hVe : V = (v, true) := by
          rw [← HV2.out, if_pos h1]
          exact Prod.ext (hvv h1).symm h1
        have HR : Hid ((∃ ev', Ending.returned (.tuple #[.int .i64 v, .nilIface]) = .returned (.tuple #[.int .i64 V.1, ev']) ∧ ErrIf V.2 ev') ∧ Upd NoB wx w2) := Lib.hid ⟨⟨_, by rw [hVe], .inl ⟨by rw [hVe], rfl⟩⟩, hu2⟩
        clear hVe hvv h1
        go_wp2_with fail
        refine bodyPost_ret (v := .tuple #[.int .i64 v, .nilIface]) (by simp [results, Tryz.results22, go_sem]) rfl ?_
        exact HR.out
      · have hVe : V = (0, false) := by
          rw [← HV2.out, if_neg (by rw [h1]; decide)]
        have HR : Hid ((∃ ev', Ending.returned (.tuple #[.int .i64 0, .iface t y]) = .returned (.tuple #[.int .i64 V.1, ev']) ∧ ErrIf V.2 ev') ∧ Upd NoB wx w2) := Lib.hid ⟨⟨_, by rw [hVe], .inr ⟨by rw [hVe], _, _, rfl⟩⟩, hu2⟩
        clear hVe hvv h1
        go_wp2_with fail
        refine bodyPost_ret (v := .tuple #[.int .i64 0, .iface t y]) (by simp [results, Tryz.results22, go_sem]) rfl ?_
        exact HR.out
    obtain rfl : k = b := by omega
    have hv := HV.out
    rw [if_neg (by omega)] at hv
    have hja : ¬ (k : Int) ≤ (a : Int) := by omega
    have HDb : Hid ((D : Int) ≤ 1000000000000000000) := Lib.hid (by
      have hd := dv_lt (d0 := 0) (n := 0) (s := s) (a := a) (by decide) (k - a) (fun q hq => (hip.2.2.1 (a + q) (by omega) (by omega)).2)
      rw [Nat.zero_add, ← hD] at hd
      have : 10 ^ (k - a) ≤ 10 ^ 18 := Nat.pow_le_pow_right (by decide) (by omega)
      omega)
    clear hD
    by_cases hsz : k < s.size
    · have hkz : (k : Int) < (s.size : Int) := by omega
      have hnd := hip.2.2.2 hsz
      rw [if_pos hsz] at hv
      have HVe := Lib.hid hv; clear hv HV hlt
      clear hip hmn hbc hcz hab hk1 hk2
      have HE1 := Lib.hid (fun (wy : World) => HErr.out)
      by_cases h48 : 48 ≤ bAt s k
      · have g1 : (48 : Int) ≤ (bAt s k : Int) := by omega
        have g2 : ¬ (bAt s k : Int) ≤ 57 := by omega
        clear hnd h48 hsz hk3
        go_wp2_with fail
        refine (HErr.out _ _).mono ?_
        rintro e w2 ⟨rfl, hu2⟩
        have HR : Hid ((∃ ev', Ending.returned (.tuple #[.int .i64 0, .iface 76 (.pointer (some ⟨wx.heap.size, 0, none⟩))]) = .returned (.tuple #[.int .i64 V.1, ev']) ∧ ErrIf V.2 ev') ∧ Upd NoB wx w2) := Lib.hid ⟨⟨_, by rw [← HVe.out], .inr ⟨by rw [← HVe.out], _, _, rfl⟩⟩, hu2⟩
        clear hu2
        go_wp2_with fail
        refine bodyPost_ret (v := .tuple #[.int .i64 0, .iface 76 (.pointer (some ⟨wx.heap.size, 0, none⟩))]) (by simp [results, Tryz.results22, go_sem]) rfl ?_
        exact HR.out
      · have g1 : ¬ (48 : Int) ≤ (bAt s k : Int) := by omega
        clear hnd h48 hsz hk3
        go_wp2_with fail
        refine (HErr.out _ _).mono ?_
        rintro e w2 ⟨rfl, hu2⟩
        have HR : Hid ((∃ ev', Ending.returned (.tuple #[.int .i64 0, .iface 76 (.pointer (some ⟨wx.heap.size, 0, none⟩))]) = .returned (.tuple #[.int .i64 V.1, ev']) ∧ ErrIf V.2 ev') ∧ Upd NoB wx w2) := Lib.hid ⟨⟨_, by rw [← HVe.out], .inr ⟨by rw [← HVe.out], _, _, rfl⟩⟩, hu2⟩
        clear hu2
        go_wp2_with fail
        refine bodyPost_ret (v := .tuple #[.int .i64 0, .iface 76 (.pointer (some ⟨wx.heap.size, 0, none⟩))]) (by simp [results, Tryz.results22, go_sem]) rfl ?_
        exact HR.out
    · have hkz : ¬ (k : Int) < (s.size : Int) := by omega
      rw [if_neg hsz] at hv
      have HVe := Lib.hid hv; clear hv HV hlt
      clear hip hbc hcz hab hk1 hk2 hsz hk3
      cases hmm : mnS s
      · have HMm := Lib.hid hmm
        go_wp2_with fail
        refine bodyPost_ret (v := .tuple #[.int .i64 (D : Int), .nilIface]) (by simp [results, Tryz.results22, go_sem]) rfl ?_
        exact ⟨⟨_, by rw [← HVe.out, HD.out, HMm.out]; rfl, .inl ⟨by rw [← HVe.out], rfl⟩⟩, Upd.refl _ _⟩
      · have HMm := Lib.hid hmm
        have hDb : (D : Int) ≤ 1000000000000000000 := HDb.out
        have hDb0 : (0 : Int) ≤ (D : Int) := by omega
        go_wp2_with fail
        refine bodyPost_ret (v := .tuple #[.int .i64 (-(D : Int)), .nilIface]) (by simp [results, Tryz.results22, go_sem]) rfl ?_
        exact ⟨⟨_, by rw [← HVe.out, HD.out, HMm.out]; rfl, .inl ⟨by rw [← HVe.out], rfl⟩⟩, Upd.refl _ _⟩

set_option maxHeartbeats 4000000 in
theorem PU64_minus (s : ByteArray) (w : World) (hz : 0 < s.size) (h45 : bAt s 0 = 45) :
    Calls Tryz.prog 27 #[.string s] w fun e w' => (∃ ev, e = .returned (.tuple #[.int .u64 0, ev]) ∧ ErrIf false ev) ∧ Upd NoB w w' := by
  have hB := get_bAt s
  have e0 : ((s.size : Int) == 0) = false := beq_eq_false_iff_ne.2 (by omega)
  have hz' : (0 : Int) < (s.size : Int) := by omega
  have hbv : (bAt s 0 : Int) = 45 := by omega
  have HErr := Lib.hid (fun m wx => err_new m wx)
  clear h45 hz
  go_enter Tryz.func27, Tryz.ntmps27
  go_wp2_with fail
  refine wp_loop_rounds 1 ?_
  rw [rounds_succ]
  go_wp2_with fail
  all_goals
    refine (HErr.out _ _).mono ?_
    rintro e w2 ⟨rfl, hu2⟩
    go_wp2_with fail
    refine bodyPost_ret (v := .tuple #[.int .u64 0, .iface 76 (.pointer (some ⟨w.heap.size, 0, none⟩))]) (by simp [results, Tryz.results27, go_sem]) rfl ?_
    exact ⟨⟨_, rfl, .inr ⟨rfl, _, _, rfl⟩⟩, hu2⟩
end Go.Proofs.YtkocponnjfkchaaGreatDoor
