/- The reference's small functions on characters. -/
import Derived.Test.YtggdcpmampjncaaGreatDoorRead2
import Derived.Test.YtggdcpmampjncaaGreatDoorChar
namespace Go.Proofs.YtggdcpmampjncaaGreatDoor
open Go.RowKit

set_option maxHeartbeats 400000 in
theorem high_any (n : Int) (w : World) (h0 : -9007199254740992 ≤ n) (h1 : n ≤ 9007199254740992) :
    Calls Tryz.prog 35 #[.int .i64 n] w fun e w' => e = .returned (.bool (decide (55296 ≤ n ∧ n ≤ 56319))) ∧ w = w' := by
  go_enter Tryz.func35, Tryz.ntmps35
  go_wp2
  all_goals
    go_ret
    refine ⟨?_, rfl⟩
    first | (simp_all; done) | (simp_all; omega)
set_option maxHeartbeats 400000 in
theorem low_any (n : Int) (w : World) (h0 : -9007199254740992 ≤ n) (h1 : n ≤ 9007199254740992) :
    Calls Tryz.prog 36 #[.int .i64 n] w fun e w' => e = .returned (.bool (decide (56320 ≤ n ∧ n ≤ 57343))) ∧ w = w' := by
  go_enter Tryz.func36, Tryz.ntmps36
  go_wp2
  all_goals
    go_ret
    refine ⟨?_, rfl⟩
    first | (simp_all; done) | (simp_all; omega)

theorem uP_rng {s : ByteArray} {k : Nat} : ∀ q, q ≤ 4 → (∀ r, r < q → isHx (bAt s (k + 2 + r)) = true) → 0 ≤ uP s k q ∧ uP s k q ≤ 65535
  | 0, _, _ => by simp [uP]
  | 1, _, h => by have := hxV_rng (h 0 (by omega)); simp only [uP]; omega
  | 2, _, h => by have := hxV_rng (h 0 (by omega)); have := hxV_rng (h 1 (by omega)); simp only [uP]; omega
  | 3, _, h => by have := hxV_rng (h 0 (by omega)); have := hxV_rng (h 1 (by omega)); have := hxV_rng (h 2 (by omega)); simp only [uP]; omega
  | 4, _, h => by have := hxV_rng (h 0 (by omega)); have := hxV_rng (h 1 (by omega)); have := hxV_rng (h 2 (by omega)); have := hxV_rng (h 3 (by omega)); simp only [uP]; omega
  | n + 5, h, _ => by omega

/-- What unit returns. -/
def UnitRet (s : ByteArray) (k : Nat) (e : Ending) : Prop := (isU s k ∧ e = .returned (.tuple #[.int .i64 (uV s k), .bool true])) ∨ (¬ isU s k ∧ e = .returned (.tuple #[.int .i64 0, .bool false]))

set_option maxHeartbeats 1000000 in
theorem unit_any (s : ByteArray) (k : Nat) (w : World) (hs : s.size ≤ 1099511627776) (hk : k ≤ s.size + 12) :
    Calls Tryz.prog 34 #[.string s, .int .i64 (k : Int)] w fun e w' => UnitRet s k e ∧ w = w' := by
  have hB := get_bAt s
  have hb0 := bAt_le s k
  have hb1 := bAt_le s (k + 1)
  by_cases h6 : (s.size : Int) - (k : Int) < 6
  · go_enter Tryz.func34, Tryz.ntmps34
    go_wp2
    go_ret2
    exact ⟨.inr ⟨fun h => by have := h.1; omega, rfl⟩, rfl⟩
  by_cases c92 : bAt s k = 92
  rotate_left
  · have e1 : ((bAt s k : Int) != 92) = true := by simp; omega
    go_enter Tryz.func34, Tryz.ntmps34
    go_wp2
    go_ret2
    exact ⟨.inr ⟨fun h => c92 h.2.1, rfl⟩, rfl⟩
  by_cases c117 : bAt s (k + 1) = 117
  rotate_left
  · have e1 : ((bAt s k : Int) != 92) = false := by rw [c92]; rfl
    have e2 : ((bAt s (k + 1) : Int) != 117) = true := by simp; omega
    have HC := Lib.hid c92
    clear c92
    go_enter Tryz.func34, Tryz.ntmps34
    go_wp2
    go_ret2
    exact ⟨.inr ⟨fun h => c117 h.2.2.1, rfl⟩, rfl⟩
  have e1 : ((bAt s k : Int) != 92) = false := by rw [c92]; rfl
  have e2 : ((bAt s (k + 1) : Int) != 117) = false := by rw [c117]; rfl
  have HC := Lib.hid c92
  have HC2 := Lib.hid c117
  clear c92 c117
  go_enter Tryz.func34, Tryz.ntmps34
  go_wp2_with fail
  go_loopg [6, 7] 4 (fun m v6 v7 wr => ∃ q : Nat, m = 4 - q ∧ q ≤ 4 ∧ v6 = .int .i64 (uP s k q) ∧ v7 = .int .i64 ((k + 2 + q : Nat) : Int) ∧ (∀ r, r < q → isHx (bAt s (k + 2 + r)) = true) ∧ w = wr)
  case atStart => exact ⟨0, rfl, by omega, rfl, rfl, fun r h => by omega, rfl⟩
  case round =>
    obtain ⟨q, hm, hq, rfl, rfl, hall, rfl⟩ := hrel
    have Hm := Lib.hid hm; clear hm
    have hr := uP_rng q hq hall
    have HA := Lib.hid hall; clear hall
    have hb2 := bAt_le s (k + 2 + q)
    by_cases hlq : q < 4
    · by_cases hx : isHx (bAt s (k + 2 + q)) = true
      · have hv := hxV_rng hx
        have HX := Lib.hid hx
        go_wp2_with (go_at_call 58; refine (hexDigit_any _ _ (by omega) (by omega)).mono ?_; rintro e w' ⟨rfl, rfl⟩)
        go_roundg (4 - (q + 1))
        case measure => have := Hm.out; omega
        case rel => exact ⟨q + 1, rfl, by omega, by simp only [uP], by go_num, (fun r hr => by
          by_cases e : r = q
          · subst e; exact HX.out
          · exact HA.out r (by omega)), rfl⟩
      · have hxf : isHx (bAt s (k + 2 + q)) = false := by simpa using hx
        clear hx
        go_wp2_with (go_at_call 58; refine (hexDigit_any _ _ (by omega) (by omega)).mono ?_; rintro e w' ⟨rfl, rfl⟩)
        go_ret2
        exact ⟨.inr ⟨(fun h => by have := h.2.2.2 q hlq; rw [hxf] at this; cases this), rfl⟩, rfl⟩
    · obtain rfl : q = 4 := by omega
      go_wp2_with fail
      go_ret2
      exact ⟨.inl ⟨⟨by omega, HC.out, HC2.out, HA.out⟩, rfl⟩, rfl⟩

/-- What Character returns: some numbers, one to four bytes. -/
def ChRet (e : Ending) : Prop := ∃ (c n : Int) (b : Bool), e = .returned (.tuple #[.int .i64 c, .int .i64 n, .bool b]) ∧ 1 ≤ n ∧ n ≤ 4

set_option maxHeartbeats 2000000 in
set_option maxRecDepth 4000 in
theorem Character_any (s : ByteArray) (k : Nat) (w : World) (hs : s.size ≤ 1099511627776) (hk : k < s.size) :
    Calls Tryz.prog 33 #[.string s, .int .i64 (k : Int)] w fun e w' => ChRet e ∧ w = w' := by
  have hB := get_bAt s
  have hb0 := bAt_le s k
  go_enter Tryz.func33, Tryz.ntmps33
  go_upto_block 0 with (fail)
  go_cut [7, 8, 9] (fun v7 v8 v9 wx => ∃ (c l : Int) (m : Nat), v7 = .int .i64 c ∧ v8 = .int .i64 (m : Int) ∧ v9 = .int .i64 l ∧ 0 ≤ c ∧ c ≤ 31 ∧ 1 ≤ m ∧ m ≤ 3 ∧ w = wx)
  case first =>
    go_wp2_with fail
    all_goals first | (go_ret3; exact ⟨⟨_, _, _, rfl, by omega, by omega⟩, rfl⟩) | (go_meet; exact ⟨_, _, 1, rfl, rfl, rfl, by omega, by omega, by omega, by omega, rfl⟩) | (go_meet; exact ⟨_, _, 2, rfl, rfl, rfl, by omega, by omega, by omega, by omega, rfl⟩) | (go_meet; exact ⟨_, _, 3, rfl, rfl, rfl, by omega, by omega, by omega, by omega, rfl⟩)
  case rest =>
  obtain ⟨c, l, m, rfl, rfl, rfl, hc0, hc1, hm0, hm1, rfl⟩ := hcut
  by_cases hle : (s.size : Int) - (k : Int) ≤ (m : Int)
  · go_wp2_with fail
    go_ret3
    exact ⟨⟨_, _, _, rfl, by omega, by omega⟩, rfl⟩
  go_upto_block 1 with (fail)
  go_cut [7, 10] (fun v7 v10 wx => ∃ c : Int, v7 = .int .i64 c ∧ -9007199254740992 ≤ c ∧ c ≤ 9007199254740992 ∧ w = wx)
  case first =>
    go_wp2_with fail
    go_loopg [7, 10, 11] 3 (fun mm v7 v10 v11 wr => ∃ (c : Int) (q : Nat), mm = 4 - q ∧ 1 ≤ q ∧ q ≤ m + 1 ∧ v7 = .int .i64 c ∧ v10 = .int .i64 (q : Int) ∧ 0 ≤ c ∧ (q = 1 → c ≤ 31) ∧ (q = 2 → c ≤ 2047) ∧ (q = 3 → c ≤ 131071) ∧ (q = 4 → c ≤ 8388607) ∧ w = wr)
    case atStart => exact ⟨c, 1, rfl, by omega, by omega, rfl, rfl, hc0, fun _ => hc1, (fun h => by omega), (fun h => by omega), (fun h => by omega), rfl⟩
    case round =>
      obtain ⟨d, q, hm, hq1, hqm, rfl, rfl, hd0, hd1, hd2, hd3, hd4, rfl⟩ := hrel
      have Hm := Lib.hid hm; clear hm
      have hd : d ≤ 8388607 := by omega
      have HD := Lib.hid (And.intro hd1 (And.intro hd2 hd3))
      clear hd1 hd2 hd3 hd4
      have hb := bAt_le s (k + q)
      by_cases hlq : (q : Int) ≤ (m : Int)
      · by_cases h128 : (bAt s (k + q) : Int) < 128
        · go_wp2_with fail
          go_ret3
          exact ⟨⟨_, _, _, rfl, by omega, by omega⟩, rfl⟩
        by_cases h191 : 191 < (bAt s (k + q) : Int)
        · go_wp2_with fail
          go_ret3
          exact ⟨⟨_, _, _, rfl, by omega, by omega⟩, rfl⟩
        go_wp2_with fail
        go_roundg (4 - (q + 1))
        case measure => have := Hm.out; omega
        case rel =>
          obtain ⟨hd1, hd2, hd3⟩ := HD.out
          exact ⟨_, q + 1, rfl, by omega, by omega, rfl, by go_num, by omega, (fun h => by omega), (fun h => by have := hd1 (by omega); omega), (fun h => by have := hd2 (by omega); omega), (fun h => by have := hd3 (by omega); omega), rfl⟩
      · go_wp2_with fail
        go_meet
        exact ⟨d, rfl, by omega, by omega, rfl⟩
  case rest =>
  clear hc0 hc1
  obtain ⟨c, rfl, hc0, hc1, rfl⟩ := hcut
  by_cases hcl : c < l
  · go_wp2_with fail
    go_ret3
    exact ⟨⟨_, _, _, rfl, by omega, by omega⟩, rfl⟩
  by_cases hcm : 1114111 < c
  · go_wp2_with fail
    go_ret3
    exact ⟨⟨_, _, _, rfl, by omega, by omega⟩, rfl⟩
  by_cases hch : 55296 ≤ c ∧ c ≤ 56319
  · have hhd : decide (55296 ≤ c ∧ c ≤ 56319) = true := by simpa using hch
    have HH := Lib.hid (high_any c w hc0 hc1)
    rw [hhd] at HH
    clear hhd
    go_wp2_with fail
    refine HH.out.mono ?_
    rintro e w' ⟨rfl, rfl⟩
    go_wp2_with fail
    go_ret3
    exact ⟨⟨_, _, _, rfl, by omega, by omega⟩, rfl⟩
  have hhd : decide (55296 ≤ c ∧ c ≤ 56319) = false := by simpa using hch
  have HH := Lib.hid (high_any c w hc0 hc1)
  rw [hhd] at HH
  have HL := Lib.hid (low_any c w hc0 hc1)
  clear hhd hch
  generalize decide (56320 ≤ c ∧ c ≤ 57343) = bl at *
  go_wp2_with fail
  refine HH.out.mono ?_
  rintro e w' ⟨rfl, rfl⟩
  go_wp2_with fail
  refine HL.out.mono ?_
  rintro e w' ⟨rfl, rfl⟩
  cases bl
  · go_wp2_with fail
    go_ret3
    exact ⟨⟨_, _, _, rfl, by omega, by omega⟩, rfl⟩
  · go_wp2_with fail
    go_ret3
    exact ⟨⟨_, _, _, rfl, by omega, by omega⟩, rfl⟩

/-- What UTF8 returns: a Boolean. -/
def BoolRet (e : Ending) : Prop := ∃ b : Bool, e = .returned (.bool b)
set_option maxHeartbeats 1000000 in
theorem UTF8_any (s : ByteArray) (w : World) (hs : s.size ≤ 1099511627776) :
    Calls Tryz.prog 15 #[.string s] w fun e w' => BoolRet e ∧ w = w' := by
  go_enter Tryz.func15, Tryz.ntmps15
  go_wp2_with fail
  go_loopg [3] s.size (fun m v3 wr => ∃ k : Nat, m = s.size - k ∧ v3 = .int .i64 (k : Int) ∧ k ≤ s.size + 4 ∧ w = wr)
  case atStart => exact ⟨0, rfl, rfl, by omega, rfl⟩
  case round =>
    obtain ⟨k, hm, rfl, hk, rfl⟩ := hrel
    have Hm := Lib.hid hm; clear hm
    by_cases hlt : k < s.size
    · have HC := Lib.hid (Character_any s k w hs hlt)
      go_wp2_with fail
      refine HC.out.mono ?_
      rintro e w' ⟨⟨c, n, b, rfl, hn0, hn1⟩, rfl⟩
      obtain ⟨n, rfl⟩ : ∃ q : Nat, n = (q : Int) := ⟨n.toNat, by omega⟩
      cases b
      · go_wp2_with fail
        go_ret
        exact ⟨⟨_, rfl⟩, rfl⟩
      · go_wp2_with fail
        go_roundg (s.size - (k + n))
        case measure => have := Hm.out; omega
        case rel => exact ⟨k + n, rfl, by go_num, by omega, rfl⟩
    · go_wp2_with fail
      go_ret
      exact ⟨⟨_, rfl⟩, rfl⟩

/-- What Paired returns: yes only where half pairs stand beside their other half. -/
def PairRet (s : ByteArray) (e : Ending) : Prop := ∃ b : Bool, e = .returned (.bool b) ∧ (b = true → PR s 0)
theorem uV_Int {s : ByteArray} {k : Nat} (h : isU s k) : -9007199254740992 ≤ uV s k ∧ uV s k ≤ 9007199254740992 := by have := uV_rng h; omega
set_option maxHeartbeats 1000000 in
theorem Paired_any (s : ByteArray) (w : World) (hs : s.size ≤ 1099511627776) :
    Calls Tryz.prog 16 #[.string s] w fun e w' => PairRet s e ∧ w = w' := by
  have hB := get_bAt s
  go_enter Tryz.func16, Tryz.ntmps16
  go_wp2_with fail
  go_loopg [3] s.size (fun m v3 wr => ∃ k : Nat, m = s.size - k ∧ v3 = .int .i64 (k : Int) ∧ k ≤ s.size + 12 ∧ (PR s k → PR s 0) ∧ w = wr)
  case atStart => exact ⟨0, rfl, rfl, by omega, (fun h => h), rfl⟩
  case round =>
    obtain ⟨k, hm, rfl, hk, hp, rfl⟩ := hrel
    have Hm := Lib.hid hm; clear hm
    have Hp := Lib.hid hp; clear hp
    have hb := bAt_le s k
    by_cases hlt : k < s.size
    rotate_left
    · go_wp2_with fail
      go_ret
      exact ⟨⟨_, rfl, fun _ => Hp.out (.done (by omega))⟩, rfl⟩
    by_cases c92 : bAt s k = 92
    rotate_left
    · have e1 : ((bAt s k : Int) != 92) = true := by simp; omega
      go_wp2_with fail
      go_roundg (s.size - (k + 1))
      case measure => have := Hm.out; omega
      case rel => exact ⟨k + 1, rfl, by go_num, by omega, (fun h => Hp.out (.plain hlt c92 h)), rfl⟩
    have e1 : ((bAt s k : Int) != 92) = false := by rw [c92]; rfl
    have HC := Lib.hid c92
    clear c92
    have HU := Lib.hid (unit_any s k w hs (by omega))
    go_wp2_with fail
    refine HU.out.mono ?_
    rintro e w' ⟨⟨hu, rfl⟩ | ⟨hu, rfl⟩, rfl⟩
    rotate_left
    · have Hu := Lib.hid hu; clear hu
      go_wp2_with fail
      go_roundg (s.size - (k + 2))
      case measure => have := Hm.out; omega
      case rel => exact ⟨k + 2, rfl, by go_num, by omega, (fun h => Hp.out (.short hlt HC.out Hu.out h)), rfl⟩
    have hv := uV_Int hu
    have HH := Lib.hid (high_any (uV s k) w hv.1 hv.2)
    have HL := Lib.hid (low_any (uV s k) w hv.1 hv.2)
    have hks := hu.1
    have Hu := Lib.hid hu; clear hu
    have HV : ∃ n, uV s k = n := ⟨_, rfl⟩
    obtain ⟨n, hn⟩ := HV
    rw [hn] at HH HL hv ⊢
    have Hn := Lib.hid hn; clear hn
    clear HU
    by_cases hhi : 55296 ≤ n ∧ n ≤ 56319
    · rw [show decide (55296 ≤ n ∧ n ≤ 56319) = true by simpa using hhi] at HH
      have HI := Lib.hid hhi; clear hhi
      have HU2 := Lib.hid (unit_any s (k + 6) w hs (by omega))
      rw [show ((k + 6 : Nat) : Int) = (k : Int) + 6 by omega] at HU2
      go_wp2_with fail
      refine HH.out.mono ?_
      rintro e w' ⟨rfl, rfl⟩
      go_wp2_with fail
      refine HU2.out.mono ?_
      rintro e w' ⟨⟨hu2, rfl⟩ | ⟨hu2, rfl⟩, rfl⟩
      rotate_left
      · clear hu2
        go_wp2_with fail
        go_ret
        exact ⟨⟨_, rfl, (fun h => by cases h)⟩, rfl⟩
      have hv2 := uV_Int hu2
      have HL2 := Lib.hid (low_any (uV s (k + 6)) w hv2.1 hv2.2)
      have hks2 := hu2.1
      have Hu2 := Lib.hid hu2; clear hu2
      have HV : ∃ n, uV s (k + 6) = n := ⟨_, rfl⟩
      obtain ⟨n2, hn2⟩ := HV
      rw [hn2] at HL2 hv2 ⊢
      have Hn2 := Lib.hid hn2; clear hn2
      clear HU2
      by_cases hlo : 56320 ≤ n2 ∧ n2 ≤ 57343
      · rw [show decide (56320 ≤ n2 ∧ n2 ≤ 57343) = true by simpa using hlo] at HL2
        have HLO := Lib.hid hlo; clear hlo
        go_wp2_with fail
        refine HL2.out.mono ?_
        rintro e w' ⟨rfl, rfl⟩
        go_wp2_with fail
        go_roundg (s.size - (k + 12))
        case measure => have := Hm.out; omega
        case rel => exact ⟨k + 12, rfl, by go_num, by omega, (fun h => Hp.out (.pair Hu.out (by rw [Hn.out]; exact HI.out) Hu2.out (by rw [Hn2.out]; exact HLO.out) h)), rfl⟩
      · rw [show decide (56320 ≤ n2 ∧ n2 ≤ 57343) = false by simpa using hlo] at HL2
        clear hlo
        go_wp2_with fail
        refine HL2.out.mono ?_
        rintro e w' ⟨rfl, rfl⟩
        go_wp2_with fail
        go_ret
        exact ⟨⟨_, rfl, (fun h => by cases h)⟩, rfl⟩
    · rw [show decide (55296 ≤ n ∧ n ≤ 56319) = false by simpa using hhi] at HH
      have HI := Lib.hid hhi; clear hhi
      by_cases hlo : 56320 ≤ n ∧ n ≤ 57343
      · rw [show decide (56320 ≤ n ∧ n ≤ 57343) = true by simpa using hlo] at HL
        clear hlo
        go_wp2_with fail
        refine HH.out.mono ?_
        rintro e w' ⟨rfl, rfl⟩
        go_wp2_with fail
        refine HL.out.mono ?_
        rintro e w' ⟨rfl, rfl⟩
        go_wp2_with fail
        go_ret
        exact ⟨⟨_, rfl, (fun h => by cases h)⟩, rfl⟩
      · rw [show decide (56320 ≤ n ∧ n ≤ 57343) = false by simpa using hlo] at HL
        have HLO := Lib.hid hlo; clear hlo
        go_wp2_with fail
        refine HH.out.mono ?_
        rintro e w' ⟨rfl, rfl⟩
        go_wp2_with fail
        refine HL.out.mono ?_
        rintro e w' ⟨rfl, rfl⟩
        go_wp2_with fail
        go_roundg (s.size - (k + 6))
        case measure => have := Hm.out; omega
        case rel => exact ⟨k + 6, rfl, by go_num, by omega, (fun h => Hp.out (.uni Hu.out (by rw [Hn.out]; exact HI.out) (by rw [Hn.out]; exact HLO.out) h)), rfl⟩
end Go.Proofs.YtggdcpmampjncaaGreatDoor
