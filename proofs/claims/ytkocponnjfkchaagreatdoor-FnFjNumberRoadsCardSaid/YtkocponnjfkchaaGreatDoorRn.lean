/- The reference's reader: numbers. -/
import Derived.Test.YtkocponnjfkchaaGreatDoorProg
import Derived.Test.YtkocponnjfkchaaGreatDoorBase
import Derived.Test.YtkocponnjfkchaaGreatDoorGram
namespace Go.Proofs.YtkocponnjfkchaaGreatDoor
open Go.RowKit

set_option maxHeartbeats 400000 in
theorem here_any (g : Nat) (s : ByteArray) (i : Nat) (w : World) (_hs : s.size ≤ maxLen) (hr : RS 32 g s i w) :
    Calls Tryz.prog 29 #[.pointer (some ⟨g, 0, none⟩)] w fun e w' => e = .returned (.int .u8 (bAt s i : Int)) ∧ ∃ n, w' = w.drewN n := by
  unfold maxLen at _hs
  have hc0 := hr.c0
  have hc1 := hr.c1
  by_cases hi : i < s.size
  · have HB := Lib.hid (bAt_eq hi)
    go_enter Tryz.func29, Tryz.ntmps29
    go_wp2
    go_quiet (fail)
    go_wp2
    go_quiet (fail)
    go_wp2
    go_ret
    exact ⟨by rw [HB.out]; rfl, _, World.drewN_drewN ..⟩
  · have HB := Lib.hid (show bAt s i = 0 by simp [bAt, hi])
    go_enter Tryz.func29, Tryz.ntmps29
    go_wp2
    go_quiet (fail)
    go_wp2
    go_ret
    exact ⟨by rw [HB.out]; rfl, _, rfl⟩

set_option maxHeartbeats 400000 in
theorem take_any (g : Nat) (s : ByteArray) (i : Nat) (c : Int) (w : World) (hs : s.size ≤ maxLen) (hr : RS 32 g s i w) (_h0 : 0 ≤ c) (_h1 : c ≤ 255) :
    Calls Tryz.prog 17 #[.pointer (some ⟨g, 0, none⟩), .int .u8 c] w fun e w' =>
      ∃ b j, e = .returned (.bool b) ∧ RS 32 g s j w' ∧ Upd (OneB g) w w' ∧ (b = true → i < s.size ∧ (bAt s i : Int) = c ∧ j = i + 1) ∧ (b = false → j = i ∧ (i < s.size → (bAt s i : Int) ≠ c)) := by
  unfold maxLen at hs
  have hc0 := hr.c0
  have hc1 := hr.c1
  have hfz := hr.fz
  by_cases hi : i < s.size
  · have HB := Lib.hid (bAt_eq hi)
    by_cases hc : ((s[i].toNat : Int) == c) = true
    · go_enter Tryz.func17, Tryz.ntmps17
      go_wp2
      go_quiet (fail)
      go_wp2
      go_ret
      exact ⟨true, i + 1, rfl, (hr.drewN _).set (i + 1), ((Upd.refl _ _).drewN _).setOne _ _, fun _ => ⟨hi, by rw [HB.out]; simpa using hc, rfl⟩, (fun h => by cases h)⟩
    · have hcf : ((s[i].toNat : Int) == c) = false := by simpa using hc
      go_enter Tryz.func17, Tryz.ntmps17
      go_wp2
      go_quiet (fail)
      go_wp2
      go_ret
      exact ⟨false, i, rfl, hr.drewN _, (Upd.refl _ _).drewN _, (fun h => by cases h), fun _ => ⟨rfl, fun _ => by rw [HB.out]; simpa using hc⟩⟩
  · go_enter Tryz.func17, Tryz.ntmps17
    go_wp2
    go_quiet (fail)
    go_wp2
    go_ret
    exact ⟨false, i, rfl, hr.drewN _, (Upd.refl _ _).drewN _, (fun h => by cases h), fun _ => ⟨rfl, fun h => absurd h hi⟩⟩

theorem ret_pair {k : IntKind} {a b : Int} {p q : Bool} (h : a = b) (h' : p = q) : Ending.returned (.tuple #[.int k a, .bool p]) = .returned (.tuple #[.int k b, .bool q]) := by rw [h, h']
theorem ret_b {p q : Bool} (h : p = q) : Ending.returned (.bool p) = .returned (.bool q) := by rw [h]
set_option maxHeartbeats 400000 in
theorem digits_any (g : Nat) (s : ByteArray) (i : Nat) (w : World) (hs : s.size ≤ maxLen) (hr : RS 32 g s i w) (hi : i ≤ s.size) :
    Calls Tryz.prog 18 #[.pointer (some ⟨g, 0, none⟩)] w fun e w' =>
      ∃ j, e = .returned (.bool (decide (i < j))) ∧ RS 32 g s j w' ∧ Upd (OneB g) w w' ∧ Digs s i j := by
  have hs' := hs
  unfold maxLen at hs
  have hc0 := hr.c0
  have hc1 := hr.c1
  go_enter Tryz.func18, Tryz.ntmps18
  go_wp2_with (go_at_call 29; refine (here_any g s i _ hs' hr).mono ?_; rintro e w' ⟨rfl, n, rfl⟩)
  go_loopg [4] (s.size - i) (fun k c wr => ∃ j, k = s.size - j ∧ c = .int .u8 (bAt s j : Int) ∧ i ≤ j ∧ j ≤ s.size ∧ RS 32 g s j wr ∧ Upd (OneB g) w wr ∧ (∀ k, i ≤ k → k < j → 48 ≤ bAt s k ∧ bAt s k ≤ 57))
  case atStart => exact ⟨i, rfl, rfl, Nat.le_refl _, hi, hr.drewN _, (Upd.refl _ _).drewN _, fun k h1 h2 => by omega⟩
  case round =>
    obtain ⟨j, hk, rfl, hij, hj, hrj, hu, hb⟩ := hrel
    have Hk := Lib.hid hk; clear hk
    have Hb := Lib.hid hb; clear hb
    have hc0 := hrj.c0
    have hc1 := hrj.c1
    have hfz := hrj.fz
    by_cases h1 : 48 ≤ (bAt s j : Int)
    · by_cases h2 : (bAt s j : Int) ≤ 57
      · have hlt : j < s.size := by
          by_cases h : j < s.size
          · exact h
          · simp [bAt, h] at h1
        go_wp2_with (go_at_call 29; refine (here_any g s (j + 1) _ hs' (hrj.set _)).mono ?_; rintro e w' ⟨rfl, n, rfl⟩)
        go_roundg (s.size - (j + 1))
        case measure => have := Hk.out; omega
        case rel => exact ⟨j + 1, rfl, rfl, by omega, by omega, by first | exact (hrj.set (j + 1)).drewN _ | exact (hrj.drewN _).set (j + 1), by first | exact (hu.setOne _ _).drewN _ | exact (hu.drewN _).setOne _ _, fun k h3 h4 => by
          by_cases e : k = j
          · subst e; omega
          · exact Hb.out k h3 (by omega)⟩
      · go_wp2_with fail
        go_ret
        exact ⟨j, rfl, hrj, hu, hij, hj, Hb.out, fun _ => by omega⟩
    · go_wp2_with fail
      go_ret
      exact ⟨j, rfl, hrj, hu, hij, hj, Hb.out, fun _ => by omega⟩

theorem PNum.exp {s : ByteArray} {i b c m : Nat} (h : PNum s i m) (h1 : ∃ a, Sgn s i a ∧ IntP s a b) (h2 : FracP s b c) : ExpP s c m := by
  obtain ⟨a', b', c', k1, k2, k3, k4⟩ := h
  obtain ⟨a, g1, g2⟩ := h1
  obtain rfl := k1.uniq g1
  obtain rfl := k2.uniq g2
  obtain rfl := k3.uniq h2
  exact k4

/-- What number returns. -/
def NumRet (g : Nat) (s : ByteArray) (i : Nat) (w : World) (e : Ending) (w' : World) : Prop :=
  ∃ b j, e = .returned (.bool b) ∧ RS 32 g s j w' ∧ Upd (OneB g) w w' ∧ i ≤ j ∧ j ≤ s.size ∧ (b = true → PNum s i j) ∧ (b = false → ∀ m, ¬ PNum s i m)

set_option maxHeartbeats 1000000 in
theorem number_any (g : Nat) (s : ByteArray) (i : Nat) (w : World) (hs : s.size ≤ 1099511627776) (hr : RS 32 g s i w) (hi : i ≤ s.size) :
    Calls Tryz.prog 11 #[.pointer (some ⟨g, 0, none⟩)] w fun e w' => NumRet g s i w e w' := by
  have hs' : s.size ≤ maxLen := by unfold maxLen; omega
  go_enter Tryz.func11, Tryz.ntmps11
  go_wp2_with fail
  refine (take_any g s i 45 w hs' hr (by omega) (by omega)).mono ?_
  rintro e w1 ⟨b1, a, rfl, hr1, hu1, ht1, hf1⟩
  have Hs : Hid (Sgn s i a ∧ i ≤ a ∧ a ≤ s.size) := by
    cases b1
    · obtain ⟨rfl, hne⟩ := hf1 rfl; exact ⟨.inl ⟨rfl, by
        by_cases h : a < s.size
        · have := hne h; omega
        · simp [bAt, h]⟩, by omega, by omega⟩
    · obtain ⟨h1, h2, rfl⟩ := ht1 rfl; exact ⟨.inr ⟨h1, by omega, rfl⟩, by omega, by omega⟩
  clear ht1 hf1 hr
  go_upto_region 2 with (fail)
  go_cut [12] (fun s12 wx => ∃ r b, s12 = .bool r ∧ RS 32 g s b wx ∧ Upd (OneB g) w wx ∧ i ≤ b ∧ b ≤ s.size ∧ (r = false → ∃ a, Sgn s i a ∧ IntP s a b) ∧ (r = true → ∀ m, ¬ PNum s i m))
  case first =>
    go_wp2_with fail
    refine (take_any g s a 48 w1 hs' hr1 (by omega) (by omega)).mono ?_
    rintro e w2 ⟨b2, a2, rfl, hr2, hu2, ht2, hf2⟩
    cases b2
    · obtain ⟨rfl, hne⟩ := hf2 rfl
      have Hne : Hid (bAt s a2 ≠ 48) := Lib.hid (by
        by_cases h : a2 < s.size
        · have := hne h; omega
        · simp [bAt, h])
      clear ht2 hf2 hne
      go_wp2_with fail
      refine (digits_any g s a2 w2 hs' hr2 Hs.out.2.2).mono ?_
      rintro e w3 ⟨b3, rfl, hr3, hu3, hd3⟩
      by_cases hlt : a2 < b3
      · have Hl := Lib.hid hlt
        rw [show decide (a2 < b3) = true by simpa using hlt]
        go_wp2_with fail
        go_meet
        exact ⟨false, b3, rfl, hr3, (hu1.trans hu2).trans hu3, by have := Hs.out; omega, hd3.2.1, (fun _ => ⟨a2, Hs.out.1, .inr ⟨Hne.out, hlt, hd3⟩⟩), (fun h => by cases h)⟩
      · rw [show decide (a2 < b3) = false by simpa using hlt]
        go_wp2_with fail
        go_meet
        exact ⟨true, b3, rfl, hr3, (hu1.trans hu2).trans hu3, by have := Hs.out; have := hd3.1; omega, hd3.2.1, (fun h => by cases h), fun _ m hm => by
          obtain ⟨a', b', c', h1, h2, _⟩ := hm
          obtain rfl := h1.uniq Hs.out.1
          have := Hne.out
          rcases h2 with ⟨_, h, _⟩ | ⟨_, h3, h4⟩
          · omega
          · have := h4.uniq hd3; omega⟩
    · obtain ⟨h1, h2, rfl⟩ := ht2 rfl
      clear ht2 hf2
      go_wp2_with fail
      go_meet
      exact ⟨false, a + 1, rfl, hr2, hu1.trans hu2, by have := Hs.out; omega, by omega, (fun _ => ⟨a, Hs.out.1, .inl ⟨h1, by omega, rfl⟩⟩), (fun h => by cases h)⟩
  case rest =>
  obtain ⟨r, b, rfl, hrb, hub, hib, hbs, hint, hnint⟩ := hcut
  clear hr1 hu1 Hs
  cases r
  · have Hi := Lib.hid (hint rfl)
    clear hint hnint
    go_upto_region 4 with (fail)
    go_cut [19] (fun s19 wx => ∃ r c, s19 = .bool r ∧ RS 32 g s c wx ∧ Upd (OneB g) w wx ∧ i ≤ c ∧ c ≤ s.size ∧ (r = false → FracP s b c) ∧ (r = true → ∀ m, ¬ FracP s b m))
    case first =>
      go_wp2_with fail
      refine (take_any g s b 46 _ hs' hrb (by omega) (by omega)).mono ?_
      rintro e w2 ⟨b2, a2, rfl, hr2, hu2, ht2, hf2⟩
      cases b2
      · obtain ⟨rfl, hne⟩ := hf2 rfl
        have Hne : Hid (bAt s a2 ≠ 46) := Lib.hid (by
          by_cases h : a2 < s.size
          · have := hne h; omega
          · simp [bAt, h])
        clear ht2 hf2 hne
        go_wp2_with fail
        go_meet
        exact ⟨false, a2, rfl, hr2, hub.trans hu2, hib, hbs, (fun _ => .inl ⟨rfl, Hne.out⟩), (fun h => by cases h)⟩
      · obtain ⟨h1, h2, rfl⟩ := ht2 rfl
        clear ht2 hf2
        go_wp2_with fail
        refine (digits_any g s (b + 1) w2 hs' hr2 (by omega)).mono ?_
        rintro e w3 ⟨b3, rfl, hr3, hu3, hd3⟩
        by_cases hlt : b + 1 < b3
        · rw [show decide (b + 1 < b3) = true by simpa using hlt]
          go_wp2_with fail
          go_meet
          exact ⟨false, b3, rfl, hr3, (hub.trans hu2).trans hu3, by omega, hd3.2.1, (fun _ => .inr ⟨h1, by omega, hlt, hd3⟩), (fun h => by cases h)⟩
        · rw [show decide (b + 1 < b3) = false by simpa using hlt]
          go_wp2_with fail
          go_meet
          exact ⟨true, b3, rfl, hr3, (hub.trans hu2).trans hu3, by have := hd3.1; omega, hd3.2.1, (fun h => by cases h), fun _ m hm => by
            rcases hm with ⟨_, h3⟩ | ⟨_, _, h3, h4⟩
            · omega
            · have := h4.uniq hd3; omega⟩
    case rest =>
    obtain ⟨r, c, rfl, hrc, huc, hic, hcs, hfr, hnfr⟩ := hcut
    cases r
    · have Hf := Lib.hid (hfr rfl)
      clear hfr hnfr hrb hub
      go_upto_region 6 with (fail)
      go_cut [25] (fun s25 wx => ∃ r d, s25 = .bool r ∧ RS 32 g s d wx ∧ Upd (OneB g) w wx ∧ d ≤ s.size ∧ (r = false → d = c ∧ bAt s c ≠ 101 ∧ bAt s c ≠ 69) ∧ (r = true → c < s.size ∧ (bAt s c = 101 ∨ bAt s c = 69) ∧ d = c + 1))
      case first =>
        go_wp2_with fail
        refine (take_any g s c 101 _ hs' hrc (by omega) (by omega)).mono ?_
        rintro e w2 ⟨b2, a2, rfl, hr2, hu2, ht2, hf2⟩
        cases b2
        · obtain ⟨rfl, hne⟩ := hf2 rfl
          have Hne : Hid (bAt s a2 ≠ 101) := Lib.hid (by
            by_cases h : a2 < s.size
            · have := hne h; omega
            · simp [bAt, h])
          clear ht2 hf2 hne
          go_wp2_with fail
          refine (take_any g s a2 69 _ hs' hr2 (by omega) (by omega)).mono ?_
          rintro e w3 ⟨b3, a3, rfl, hr3, hu3, ht3, hf3⟩
          go_wp2_with fail
          go_meet
          exact ⟨b3, a3, rfl, hr3, (huc.trans hu2).trans hu3, by cases b3 <;> simp_all <;> omega, fun h => ⟨(hf3 h).1, Hne.out, by
            by_cases h' : a2 < s.size
            · have := (hf3 h).2 h'; omega
            · simp [bAt, h']⟩, fun h => ⟨(ht3 h).1, .inr (by have := (ht3 h).2.1; omega), (ht3 h).2.2⟩⟩
        · obtain ⟨h1, h2, rfl⟩ := ht2 rfl
          clear ht2 hf2
          go_wp2_with fail
          go_meet
          exact ⟨true, c + 1, rfl, hr2, huc.trans hu2, by omega, (fun h => by cases h), fun _ => ⟨h1, .inl (by omega), rfl⟩⟩
      case rest =>
      obtain ⟨r, d, rfl, hrd, hud, hds, hd0, hd1⟩ := hcut
      clear hrc huc
      cases r
      · obtain ⟨rfl, hd2⟩ := hd0 rfl
        have Hd2 := Lib.hid hd2
        clear hd0 hd1 hd2
        go_wp2_with fail
        go_ret
        exact ⟨true, d, rfl, hrd, hud, hic, hds, fun _ => by obtain ⟨a, h1, h2⟩ := Hi.out; exact ⟨a, b, d, h1, h2, Hf.out, .inl ⟨rfl, Hd2.out⟩⟩, (fun h => by cases h)⟩
      · obtain ⟨h1, h2, rfl⟩ := hd1 rfl
        clear hd0 hd1
        have H2 := Lib.hid h2
        clear h2
        go_wp2_with fail
        refine (take_any g s (c + 1) 43 _ hs' hrd (by omega) (by omega)).mono ?_
        rintro e w2 ⟨b2, a2, rfl, hr2, hu2, ht2, hf2⟩
        cases b2
        · obtain ⟨rfl, hne⟩ := hf2 rfl
          have hne2 : bAt s (c + 1) ≠ 43 := by
            by_cases h : c + 1 < s.size
            · have := hne h; omega
            · simp [bAt, h]
          have Hne := Lib.hid hne2
          clear ht2 hf2 hne hne2
          go_wp2_with fail
          refine (take_any g s (c + 1) 45 _ hs' hr2 (by omega) (by omega)).mono ?_
          rintro e w3 ⟨b3, a3, rfl, hr3, hu3, ht3, hf3⟩
          have Hd : Hid (((a3 = c + 1 ∧ bAt s (c + 1) ≠ 43 ∧ bAt s (c + 1) ≠ 45) ∨ (c + 1 < s.size ∧ (bAt s (c + 1) = 43 ∨ bAt s (c + 1) = 45) ∧ a3 = c + 2)) ∧ a3 ≤ s.size) := by
            cases b3
            · obtain ⟨rfl, hne⟩ := hf3 rfl; exact ⟨.inl ⟨rfl, Hne.out, by
                by_cases h : c + 1 < s.size
                · have := hne h; omega
                · simp [bAt, h]⟩, by omega⟩
            · obtain ⟨g1, g2, rfl⟩ := ht3 rfl; exact ⟨.inr ⟨g1, .inr (by omega), rfl⟩, by omega⟩
          clear ht3 hf3
          go_wp2_with fail
          refine (digits_any g s a3 w3 hs' hr3 Hd.out.2).mono ?_
          rintro e w4 ⟨b4, rfl, hr4, hu4, hd4⟩
          go_wp2_with fail
          go_ret
          exact ⟨_, b4, rfl, hr4, ((hud.trans hu2).trans hu3).trans hu4, by have := hd4.1; have := Hd.out; omega, hd4.2.1, fun h => by obtain ⟨a, g1, g2⟩ := Hi.out; exact ⟨a, b, c, g1, g2, Hf.out, .inr ⟨h1, H2.out, a3, Hd.out.1, by simpa using h, hd4⟩⟩, fun h m hm => by
            have hm := PNum.exp hm Hi.out Hf.out
            rcases hm with ⟨_, h5, h6⟩ | ⟨_, _, d', h5, h6, h7⟩
            · have := H2.out; omega
            · obtain rfl : d' = a3 := by
                have h8 := Hd.out.1; have h9 := Hne.out; rcases h5 with ⟨h5, h10⟩ | ⟨h5, h10, h11⟩ <;> rcases h8 with ⟨h8, h12⟩ | ⟨h8, h12, h13⟩ <;> omega
              have := h7.uniq hd4; simp at h; omega⟩
        · obtain ⟨g1, g2, rfl⟩ := ht2 rfl
          clear ht2 hf2
          go_wp2_with fail
          refine (digits_any g s (c + 1 + 1) w2 hs' hr2 (by omega)).mono ?_
          rintro e w4 ⟨b4, rfl, hr4, hu4, hd4⟩
          go_wp2_with fail
          go_ret
          exact ⟨_, b4, rfl, hr4, (hud.trans hu2).trans hu4, by have := hd4.1; omega, hd4.2.1, fun h => by obtain ⟨a, k1, k2⟩ := Hi.out; exact ⟨a, b, c, k1, k2, Hf.out, .inr ⟨h1, H2.out, c + 2, .inr ⟨g1, .inl (by omega), rfl⟩, by simpa using h, hd4⟩⟩, fun h m hm => by
            have hm := PNum.exp hm Hi.out Hf.out
            rcases hm with ⟨_, h5, h6⟩ | ⟨_, _, d', h5, h6, h7⟩
            · have := H2.out; omega
            · obtain rfl : d' = c + 1 + 1 := by
                rcases h5 with ⟨h5, h10⟩ | ⟨h5, h10, h11⟩ <;> omega
              have := h7.uniq hd4; simp at h; omega⟩
    · go_wp2_with fail
      go_ret
      exact ⟨false, c, rfl, hrc, huc, hic, hcs, (fun h => by cases h), fun _ m hm => by
        obtain ⟨a', b', c', h1, h2, h3, _⟩ := hm
        obtain ⟨a, g1, g2⟩ := Hi.out
        obtain rfl := h1.uniq g1
        obtain rfl := h2.uniq g2
        exact hnfr trivial _ h3⟩
  · go_wp2_with fail
    go_ret
    exact ⟨false, b, rfl, hrb, hub, hib, hbs, (fun h => by cases h), fun _ => hnint trivial⟩
end Go.Proofs.YtkocponnjfkchaaGreatDoor
