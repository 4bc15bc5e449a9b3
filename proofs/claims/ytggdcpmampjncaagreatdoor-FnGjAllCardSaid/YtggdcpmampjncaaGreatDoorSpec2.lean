/- The reference's characters: appendUTF8, short, Unquote. -/
import Derived.Test.YtggdcpmampjncaaGreatDoorSpec1
import Derived.Test.YtggdcpmampjncaaGreatDoorBytes
import Derived.Test.YtggdcpmampjncaaGreatDoorChar
namespace Go.Proofs.YtggdcpmampjncaaGreatDoor
open Go.RowKit

theorem b8_nat {n : Int} (h0 : 0 ≤ n) (h1 : n ≤ 255) : ((b8 n).toNat : Int) = n := by
  unfold b8
  rw [UInt8.toNat_ofNat', Nat.mod_eq_of_lt (by omega)]
  omega
theorem cells_lit (w : World) (cs : List Value) (t : TypeId) (a : Addr) (h : a = ⟨w.heap.size, 0, none⟩) : ∀ j u, cs[j]? = some u → (w.alloc (.cells cs.toArray t)).cell? (a.add j) = some u := by
  subst h
  intro j u hj
  have hadd : (⟨w.heap.size, 0, none⟩ : Addr).add j = ⟨w.heap.size, j, none⟩ := by unfold Addr.add; split <;> simp_all
  rw [hadd, cell_of_row _ _ j cs.toArray t (0, 0) (heap_alloc_new w _)]
  simpa using hj

/-- What appendUTF8 returns. -/
def AppRet (B : Nat) (w : World) (v : Value) (l : List UInt8) (e : Ending) (w' : World) : Prop := ∃ v', e = .returned v' ∧ RowB B w' v' l ∧ Upd (fun b => v.ownBlock = some b) w w'
set_option maxHeartbeats 1000000 in
theorem appendUTF8_any (B : Nat) (v : Value) (l : List UInt8) (c : Int) (w : World) (h : RowB B w v l) (hB : B ≤ w.heap.size) (hl : l.length ≤ 1000000000) (h0 : 0 ≤ c) (h1 : c ≤ 1114111) (hhi : ¬ isHi c) (hlo : ¬ isLo c) :
    Calls Tryz.prog 48 #[v, .int .i64 c] w (AppRet B w v (l ++ enc c)) := by
  have H := Lib.hid h
  obtain ⟨va, vc, rfl⟩ := h.len
  clear h
  have HH := Lib.hid (high_any c w (by omega) (by omega))
  have HL := Lib.hid (low_any c w (by omega) (by omega))
  rw [show decide (55296 ≤ c ∧ c ≤ 56319) = false by simpa [isHi] using hhi] at HH
  rw [show decide (56320 ≤ c ∧ c ≤ 57343) = false by simpa [isLo] using hlo] at HL
  clear hhi hlo
  have d1 : c.tdiv 64 = c / 64 := Int.tdiv_eq_ediv_of_nonneg h0
  have d2 : c.tdiv 4096 = c / 4096 := Int.tdiv_eq_ediv_of_nonneg h0
  have d3 : c.tdiv 262144 = c / 262144 := Int.tdiv_eq_ediv_of_nonneg h0
  have m1 : c.tmod 64 = c % 64 := Int.tmod_eq_emod_of_nonneg h0
  have m2 : (c / 64).tmod 64 = c / 64 % 64 := Int.tmod_eq_emod_of_nonneg (by omega)
  have m3 : (c / 4096).tmod 64 = c / 4096 % 64 := Int.tmod_eq_emod_of_nonneg (by omega)
  by_cases c1 : c < 128
  · have he : enc c = [b8 c] := by unfold enc; rw [if_pos c1]
    have hv : bcells [b8 (c)] = [Value.int .u8 (c)] := by
      simp only [bcells, List.map_cons, List.map_nil]
      rw [b8_nat (n := c) (by omega) (by omega)]
    rw [he]
    have HV := Lib.hid hv; clear hv he
    go_enter Tryz.func48, Tryz.ntmps48
    go_wp2_with (first | (refine HH.out.mono ?_; rintro e w' ⟨rfl, rfl⟩) | (refine HL.out.mono ?_; rintro e w' ⟨rfl, rfl⟩) | (at_builtin; refine wpList_app_bytes rfl _ _ rfl B _ l rfl ?hown [b8 (c)] 1 rfl ⟨w.heap.size, 0, none⟩ _ rfl ?hnews ?hb ?hB ?_))
    case hown => exact H.out.upd ((Upd.refl NoB w).alloc _) (fun b _ _ h => h)
    case hnews =>
      rw [HV.out]
      first | exact cells_lit w [Value.int .u8 (c)] _ _ rfl | exact fun _ _ h => h
    case hb => omega
    case hB => first | omega | (simp; omega)
    intro v' w' hrow hupd _
    go_wp2_with fail
    go_ret
    exact ⟨v', rfl, hrow, ((Upd.refl _ w).alloc _).trans hupd⟩
  by_cases c2 : c < 2048
  · have he : enc c = [b8 (192 + c / 64), b8 (128 + c % 64)] := by unfold enc; rw [if_neg c1, if_pos c2]
    have hv : bcells [b8 (192 + c / 64), b8 (128 + c % 64)] = [Value.int .u8 (192 + c / 64), Value.int .u8 (128 + c % 64)] := by
      simp only [bcells, List.map_cons, List.map_nil]
      rw [b8_nat (n := 192 + c / 64) (by omega) (by omega), b8_nat (n := 128 + c % 64) (by omega) (by omega)]
    rw [he]
    have HV := Lib.hid hv; clear hv he
    go_enter Tryz.func48, Tryz.ntmps48
    go_wp2_with (first | (refine HH.out.mono ?_; rintro e w' ⟨rfl, rfl⟩) | (refine HL.out.mono ?_; rintro e w' ⟨rfl, rfl⟩) | (at_builtin; refine wpList_app_bytes rfl _ _ rfl B _ l rfl ?hown [b8 (192 + c / 64), b8 (128 + c % 64)] 2 rfl ⟨w.heap.size, 0, none⟩ _ rfl ?hnews ?hb ?hB ?_))
    case hown => exact H.out.upd ((Upd.refl NoB w).alloc _) (fun b _ _ h => h)
    case hnews =>
      rw [HV.out]
      first | exact cells_lit w [Value.int .u8 (192 + c / 64), Value.int .u8 (128 + c % 64)] _ _ rfl | exact fun _ _ h => h
    case hb => omega
    case hB => first | omega | (simp; omega)
    intro v' w' hrow hupd _
    go_wp2_with fail
    go_ret
    exact ⟨v', rfl, hrow, ((Upd.refl _ w).alloc _).trans hupd⟩
  by_cases c3 : c < 65536
  · have he : enc c = [b8 (224 + c / 4096), b8 (128 + c / 64 % 64), b8 (128 + c % 64)] := by unfold enc; rw [if_neg c1, if_neg c2, if_pos c3]
    have hv : bcells [b8 (224 + c / 4096), b8 (128 + c / 64 % 64), b8 (128 + c % 64)] = [Value.int .u8 (224 + c / 4096), Value.int .u8 (128 + c / 64 % 64), Value.int .u8 (128 + c % 64)] := by
      simp only [bcells, List.map_cons, List.map_nil]
      rw [b8_nat (n := 224 + c / 4096) (by omega) (by omega), b8_nat (n := 128 + c / 64 % 64) (by omega) (by omega), b8_nat (n := 128 + c % 64) (by omega) (by omega)]
    rw [he]
    have HV := Lib.hid hv; clear hv he
    go_enter Tryz.func48, Tryz.ntmps48
    go_wp2_with (first | (refine HH.out.mono ?_; rintro e w' ⟨rfl, rfl⟩) | (refine HL.out.mono ?_; rintro e w' ⟨rfl, rfl⟩) | (at_builtin; refine wpList_app_bytes rfl _ _ rfl B _ l rfl ?hown [b8 (224 + c / 4096), b8 (128 + c / 64 % 64), b8 (128 + c % 64)] 3 rfl ⟨w.heap.size, 0, none⟩ _ rfl ?hnews ?hb ?hB ?_))
    case hown => exact H.out.upd ((Upd.refl NoB w).alloc _) (fun b _ _ h => h)
    case hnews =>
      rw [HV.out]
      first | exact cells_lit w [Value.int .u8 (224 + c / 4096), Value.int .u8 (128 + c / 64 % 64), Value.int .u8 (128 + c % 64)] _ _ rfl | exact fun _ _ h => h
    case hb => omega
    case hB => first | omega | (simp; omega)
    intro v' w' hrow hupd _
    go_wp2_with fail
    go_ret
    exact ⟨v', rfl, hrow, ((Upd.refl _ w).alloc _).trans hupd⟩
  · have he : enc c = [b8 (240 + c / 262144), b8 (128 + c / 4096 % 64), b8 (128 + c / 64 % 64), b8 (128 + c % 64)] := by unfold enc; rw [if_neg c1, if_neg c2, if_neg c3]
    have hv : bcells [b8 (240 + c / 262144), b8 (128 + c / 4096 % 64), b8 (128 + c / 64 % 64), b8 (128 + c % 64)] = [Value.int .u8 (240 + c / 262144), Value.int .u8 (128 + c / 4096 % 64), Value.int .u8 (128 + c / 64 % 64), Value.int .u8 (128 + c % 64)] := by
      simp only [bcells, List.map_cons, List.map_nil]
      rw [b8_nat (n := 240 + c / 262144) (by omega) (by omega), b8_nat (n := 128 + c / 4096 % 64) (by omega) (by omega), b8_nat (n := 128 + c / 64 % 64) (by omega) (by omega), b8_nat (n := 128 + c % 64) (by omega) (by omega)]
    rw [he]
    have HV := Lib.hid hv; clear hv he
    go_enter Tryz.func48, Tryz.ntmps48
    go_wp2_with (first | (refine HH.out.mono ?_; rintro e w' ⟨rfl, rfl⟩) | (refine HL.out.mono ?_; rintro e w' ⟨rfl, rfl⟩) | (at_builtin; refine wpList_app_bytes rfl _ _ rfl B _ l rfl ?hown [b8 (240 + c / 262144), b8 (128 + c / 4096 % 64), b8 (128 + c / 64 % 64), b8 (128 + c % 64)] 4 rfl ⟨w.heap.size, 0, none⟩ _ rfl ?hnews ?hb ?hB ?_))
    case hown => exact H.out.upd ((Upd.refl NoB w).alloc _) (fun b _ _ h => h)
    case hnews =>
      rw [HV.out]
      first | exact cells_lit w [Value.int .u8 (240 + c / 262144), Value.int .u8 (128 + c / 4096 % 64), Value.int .u8 (128 + c / 64 % 64), Value.int .u8 (128 + c % 64)] _ _ rfl | exact fun _ _ h => h
    case hb => omega
    case hB => first | omega | (simp; omega)
    intro v' w' hrow hupd _
    go_wp2_with fail
    go_ret
    exact ⟨v', rfl, hrow, ((Upd.refl _ w).alloc _).trans hupd⟩

set_option maxHeartbeats 400000 in
theorem short_any (c : Nat) (w : World) (h : c ≤ 255) :
    Calls Tryz.prog 47 #[.int .u8 (c : Int)] w fun e w' => e = .returned (.int .u8 (shC c : Int)) ∧ w = w' := by
  by_cases c98 : c = 98
  · subst c98
    go_enter Tryz.func47, Tryz.ntmps47
    go_wp2
    go_ret
    exact ⟨rfl, rfl⟩
  by_cases c102 : c = 102
  · subst c102
    go_enter Tryz.func47, Tryz.ntmps47
    go_wp2
    go_ret
    exact ⟨rfl, rfl⟩
  by_cases c110 : c = 110
  · subst c110
    go_enter Tryz.func47, Tryz.ntmps47
    go_wp2
    go_ret
    exact ⟨rfl, rfl⟩
  by_cases c114 : c = 114
  · subst c114
    go_enter Tryz.func47, Tryz.ntmps47
    go_wp2
    go_ret
    exact ⟨rfl, rfl⟩
  by_cases c116 : c = 116
  · subst c116
    go_enter Tryz.func47, Tryz.ntmps47
    go_wp2
    go_ret
    exact ⟨rfl, rfl⟩
  have he : shC c = c := by unfold shC; rw [if_neg c98, if_neg c102, if_neg c110, if_neg c114, if_neg c116]
  rw [he]
  have f98 : ((c : Int) == 98) = false := by simp; omega
  have f102 : ((c : Int) == 102) = false := by simp; omega
  have f110 : ((c : Int) == 110) = false := by simp; omega
  have f114 : ((c : Int) == 114) = false := by simp; omega
  have f116 : ((c : Int) == 116) = false := by simp; omega
  clear c98 c102 c110 c114 c116 he
  go_enter Tryz.func47, Tryz.ntmps47
  go_wp2
  go_ret
  exact ⟨rfl, rfl⟩

theorem enc_len (c : Int) : (enc c).length ≤ 4 ∧ 1 ≤ (enc c).length := by
  unfold enc
  split
  · simp
  split
  · simp
  split <;> simp
theorem u8_byte {n : Nat} (h : n ≤ 255) : bcells [UInt8.ofNat n] = [Value.int .u8 (n : Int)] := by
  simp only [bcells, List.map_cons, List.map_nil]
  rw [UInt8.toNat_ofNat', Nat.mod_eq_of_lt (by omega)]
theorem shC_le {c : Nat} (h : c ≤ 255) : shC c ≤ 255 := by
  unfold shC
  (repeat' split) <;> omega
/-- What Unquote returns. -/
def StrRet (w : World) (out : List UInt8) (e : Ending) (w' : World) : Prop := e = .returned (.string ⟨out.toArray⟩) ∧ Upd NoB w w'

set_option maxHeartbeats 2000000 in
set_option maxRecDepth 4000 in
theorem Unquote_any (q : ByteArray) (out : List UInt8) (w : World) (hq : q.size ≤ 100000000) (_h34 : bAt q 0 = 34) (h : UQ q 1 q.size out) :
    Calls Tryz.prog 24 #[.string q] w (StrRet w out) := by
  have hlt := h.sb.lt
  obtain ⟨s, hs⟩ : ∃ s, s = q.extract 1 (q.size - 1) := ⟨_, rfl⟩
  have S : Sub q s 1 (q.size - 1) := ⟨by omega, by omega, hs⟩
  have hz := S.size
  have hB := get_bAt s
  have hsl : ∀ wx, (Instr.slice 9 (.string q) (some (.int .i64 1)) (some (.int .i64 ((q.size : Int) - 1))) none).run Tryz.prog wx = .ok (.string s) wx := fun wx => by
    have h := run_slice_string (P := Tryz.prog) wx 9 q .i64 .i64 1 ((q.size : Int) - 1) Tryz.underlying9 (by omega) (by omega) (by omega)
    rw [show ((q.size : Int) - 1).toNat = q.size - 1 by omega] at h
    rw [hs]
    exact h
  have HS := Lib.hid S; clear S
  have hz2 : s.size + 2 = q.size := by omega
  have HQ := Lib.hid h; clear h
  clear hs hz _h34
  go_enter Tryz.func24, Tryz.ntmps24
  go_wp2_with fail
  clear hsl
  go_loopg [3, 5] s.size (fun m v3 v5 wr => ∃ (acc rest : List UInt8) (k : Nat), m = s.size - k ∧ v5 = .int .i64 (k : Int) ∧ k ≤ s.size ∧ RowB w.heap.size wr v3 acc ∧ Upd NoB w wr ∧ UQ q (k + 1) q.size rest ∧ out = acc ++ rest ∧ acc.length ≤ 4 * k)
  case atStart => exact ⟨[], out, 0, rfl, rfl, by omega, RowB.nil _ _, Upd.refl _ _, HQ.out, rfl, by simp⟩
  case round =>
    obtain ⟨acc, rest, k, hm, rfl, hk, hrow, hU, huq, hout, hal⟩ := hrel
    have Hm := Lib.hid hm; clear hm
    have HR := Lib.hid hrow
    have HO := Lib.hid hout
    have HU := Lib.hid huq
    have hsz := hU.size
    obtain ⟨va, vc, rfl⟩ := hrow.len
    clear hrow hout huq
    by_cases hlt : k < s.size
    rotate_left
    · have Hn : Hid (acc = out) := Lib.hid (by
        obtain rfl : k = s.size := by omega
        have : rest = [] := by
          rcases HU.out.inv with ⟨_, _, _, h⟩ | ⟨_, _, _, _, r, _, h⟩ | ⟨_, _, _, r, _, h⟩ | ⟨_, _, _, r, _, h⟩ | ⟨_, _, _, _, r, _, h⟩
          · exact h
          all_goals (have := h.sb.lt; omega)
        rw [HO.out, this, List.append_nil])
      have hc := HR.out.str
      go_wp2_with fail
      go_ret
      exact ⟨by rw [Hn.out]; rfl, hU⟩
    have hb := bAt_le s k
    have he : bAt s k = bAt q (k + 1) := by have := HS.out.at (k := k + 1) (by omega) (by omega); rw [Nat.add_sub_cancel] at this; exact this
    by_cases c92 : bAt s k = 92
    rotate_left
    · have e1 : ((bAt s k : Int) != 92) = true := by simp; omega
      have hn : ∃ r, rest = UInt8.ofNat (bAt s k) :: r ∧ UQ q (k + 1 + 1) q.size r := by
        rcases HU.out.inv with ⟨_, _, h, _⟩ | ⟨_, _, _, _, r, h1, h⟩ | ⟨_, h, _⟩ | ⟨h, _⟩ | ⟨h, _⟩
        · exfalso; omega
        · exact ⟨r, by rw [he]; exact h1, h⟩
        · exfalso; omega
        · exfalso; have := h.2.1; omega
        · exfalso; have := h.2.1; omega
      obtain ⟨r, rfl, hr⟩ := hn
      have Hr := Lib.hid hr; clear hr
      clear HU he
      have HV := Lib.hid (u8_byte hb)
      go_wp2_with (at_builtin; refine wpList_app_bytes rfl _ _ rfl w.heap.size _ acc rfl ?hown [UInt8.ofNat (bAt s k)] 1 rfl ⟨wr.heap.size, 0, none⟩ _ rfl ?hnews ?hb ?hB ?_)
      case hown => exact HR.out.upd ((Upd.refl NoB wr).alloc _) (fun b _ _ h => h)
      case hnews =>
        rw [HV.out]
        first | exact cells_lit wr [Value.int .u8 (bAt s k : Int)] _ _ rfl | exact fun _ _ h => h
      case hb => omega
      case hB => first | omega | (simp; omega)
      intro v' w' hrow hupd _
      have HR2 := Lib.hid hrow; clear hrow
      have hU2 : Upd NoB w w' := (hU.alloc _).then hupd (fun b hb => .inr (HR.out.lt b hb).1)
      clear hupd
      go_wp2_with fail
      go_roundg (s.size - (k + 1))
      case measure => have := Hm.out; omega
      case rel => exact ⟨acc ++ [UInt8.ofNat (bAt s k)], r, k + 1, rfl, by go_num, by omega, HR2.out, hU2, Hr.out, by rw [HO.out, List.append_assoc]; rfl, by rw [List.length_append, List.length_singleton]; omega⟩
    have e1 : ((bAt s k : Int) != 92) = false := by rw [c92]; rfl
    have HC := Lib.hid c92; clear c92
    have HUs := Lib.hid (unit_any s k wr (by omega) (by omega))
    by_cases hus : isU s k
    rotate_left
    · -- a letter
      have hn : ∃ r, rest = UInt8.ofNat (shC (bAt s (k + 1))) :: r ∧ UQ q (k + 2 + 1) q.size r ∧ k + 1 < s.size := by
        have e2 : ∀ x, k + 1 ≤ x → x < q.size - 1 → bAt s (x - 1) = bAt q x := fun x h1 h2 => HS.out.at (by omega) h2
        rcases HU.out.inv with ⟨_, h, _⟩ | ⟨_, _, _, h, _⟩ | ⟨_, h, _, r, h1, h2⟩ | ⟨h, _, _, r, _, h2⟩ | ⟨h, _, h', _, r, _, h2⟩
        · exfalso; have := HC.out; omega
        · exfalso; exact h (by rw [← he]; exact HC.out)
        · have hl := h2.sb.lt
          refine ⟨r, ?_, by rw [show k + 2 + 1 = k + 1 + 2 by omega]; exact h2, by omega⟩
          have := e2 (k + 2) (by omega) (by omega)
          rw [show k + 2 - 1 = k + 1 by omega] at this
          rw [h1, this]
        · exfalso
          have hl := h2.sb.lt
          have := h.sh HS.out (by omega) (by omega)
          rw [Nat.add_sub_cancel] at this
          exact hus this
        · exfalso
          have hl := h2.sb.lt
          have := h.sh HS.out (by omega) (by omega)
          rw [Nat.add_sub_cancel] at this
          exact hus this
      obtain ⟨r, rfl, hr, hk1⟩ := hn
      have Hr := Lib.hid hr; clear hr
      have Hus := Lib.hid hus; clear hus
      clear HU he
      have hb1 := bAt_le s (k + 1)
      have hsc := shC_le hb1
      have HV := Lib.hid (u8_byte hsc)
      have HSh := Lib.hid (short_any (bAt s (k + 1)) wr hb1)
      generalize shC (bAt s (k + 1)) = x at *
      go_wp2_with fail
      refine HUs.out.mono ?_
      rintro e w' ⟨⟨hu, _⟩ | ⟨_, rfl⟩, rfl⟩
      · exact absurd hu Hus.out
      go_wp2_with (first | (refine HSh.out.mono ?_; rintro e w' ⟨rfl, rfl⟩) | (at_builtin; refine wpList_app_bytes rfl _ _ rfl w.heap.size _ acc rfl ?hown [UInt8.ofNat x] 1 rfl ⟨wr.heap.size, 0, none⟩ _ rfl ?hnews ?hb ?hB ?_))
      case hown => exact HR.out.upd ((Upd.refl NoB wr).alloc _) (fun b _ _ h => h)
      case hnews =>
        rw [HV.out]
        first | exact cells_lit wr [Value.int .u8 (x : Int)] _ _ rfl | exact fun _ _ h => h
      case hb => omega
      case hB => first | omega | (simp; omega)
      intro v' w' hrow hupd _
      have HR2 := Lib.hid hrow; clear hrow
      have hU2 : Upd NoB w w' := (hU.alloc _).then hupd (fun b hb => .inr (HR.out.lt b hb).1)
      clear hupd
      go_wp2_with fail
      go_roundg (s.size - (k + 2))
      case measure => have := Hm.out; omega
      case rel => exact ⟨acc ++ [UInt8.ofNat x], r, k + 2, rfl, by go_num, by omega, HR2.out, hU2, Hr.out, by rw [HO.out, List.append_assoc]; rfl, by rw [List.length_append, List.length_singleton]; omega⟩
    -- an escape of four digits
    have hk6 := hus.1
    have hv0 := uV_rng hus
    have HUs2 := Lib.hid (unit_any s (k + 6) wr (by omega) (by omega))
    rw [show ((k + 6 : Nat) : Int) = (k : Int) + 6 by omega] at HUs2
    have huq : uV q (k + 1) = uV s k := by have := uV_sh HS.out (k := k + 1) (by omega) (by omega); rw [Nat.add_sub_cancel] at this; exact this.symm
    have HH := Lib.hid (high_any (uV s k) wr (by omega) (by omega))
    have hcase : (¬ isHi (uV s k) ∧ ¬ isLo (uV s k) ∧ ∃ r, rest = enc (uV s k) ++ r ∧ UQ q (k + 6 + 1) q.size r) ∨
        (isHi (uV s k) ∧ isU s (k + 6) ∧ isLo (uV s (k + 6)) ∧ ∃ r, rest = enc (prC (uV s k) (uV s (k + 6))) ++ r ∧ UQ q (k + 12 + 1) q.size r) := by
      rcases HU.out.inv with ⟨_, h, _⟩ | ⟨_, _, _, h, _⟩ | ⟨_, _, h, _, _, h2⟩ | ⟨h, h3, h4, r, h5, h2⟩ | ⟨h, h3, h', h4, r, h5, h2⟩
      · exfalso; have := HC.out; omega
      · exfalso; exact h (by rw [← he]; exact HC.out)
      · exfalso
        have := HS.out.at (k := k + 1 + 1) (by omega) (by omega)
        rw [Nat.add_sub_cancel] at this
        have := hus.2.2.1
        omega
      · rw [huq] at h3 h4 h5
        exact .inl ⟨h3, h4, r, h5, by rw [show k + 6 + 1 = k + 1 + 6 by omega]; exact h2⟩
      · have hl := h2.sb.lt
        have g1 := h'.sh HS.out (by omega) (by omega)
        have g2 := uV_sh HS.out (k := k + 1 + 6) (by omega) (by omega)
        rw [show k + 1 + 6 - 1 = k + 6 by omega] at g1 g2
        rw [← g2] at h4 h5
        rw [huq] at h3 h5
        exact .inr ⟨h3, g1, h4, r, h5, by rw [show k + 12 + 1 = k + 1 + 12 by omega]; exact h2⟩
    have Hus := Lib.hid hus; clear hus
    clear HU he huq
    rcases hcase with ⟨hhi, hlo, r, rfl, hr⟩ | ⟨hhi, hus2, hlo, r, rfl, hr⟩
    · rw [show decide (55296 ≤ uV s k ∧ uV s k ≤ 56319) = false by simpa [isHi] using hhi] at HH
      have HA := Lib.hid (appendUTF8_any w.heap.size _ acc (uV s k) wr HR.out hsz (by omega) (by omega) (by omega) hhi hlo)
      have Hr := Lib.hid hr
      clear hr hhi hlo
      go_wp2_with fail
      refine HUs.out.mono ?_
      rintro e w' ⟨⟨_, rfl⟩ | ⟨hu, _⟩, rfl⟩
      rotate_left
      · exact absurd Hus.out hu
      go_wp2_with fail
      refine HUs2.out.mono ?_
      rintro e w' ⟨⟨_, rfl⟩ | ⟨_, rfl⟩, rfl⟩
      · go_wp2_with fail
        refine HH.out.mono ?_
        rintro e w' ⟨rfl, rfl⟩
        go_wp2_with fail
        refine HA.out.mono ?_
        rintro e w' ⟨v', rfl, hrow, hupd⟩
        have HR2 := Lib.hid hrow; clear hrow
        have hU2 : Upd NoB w w' := hU.then hupd (fun b hb => .inr (HR.out.lt b hb).1)
        clear hupd
        go_wp2_with fail
        go_roundg (s.size - (k + 6))
        case measure => have := Hm.out; omega
        case rel => exact ⟨acc ++ enc (uV s k), r, k + 6, rfl, by go_num, by have := Hr.out.sb.lt; omega, HR2.out, hU2, Hr.out, by rw [HO.out, List.append_assoc], by rw [List.length_append]; have := (enc_len (uV s k)).1; omega⟩
      · go_wp2_with fail
        refine HA.out.mono ?_
        rintro e w' ⟨v', rfl, hrow, hupd⟩
        have HR2 := Lib.hid hrow; clear hrow
        have hU2 : Upd NoB w w' := hU.then hupd (fun b hb => .inr (HR.out.lt b hb).1)
        clear hupd
        go_wp2_with fail
        go_roundg (s.size - (k + 6))
        case measure => have := Hm.out; omega
        case rel => exact ⟨acc ++ enc (uV s k), r, k + 6, rfl, by go_num, by have := Hr.out.sb.lt; omega, HR2.out, hU2, Hr.out, by rw [HO.out, List.append_assoc], by rw [List.length_append]; have := (enc_len (uV s k)).1; omega⟩
    · have hv2 := uV_rng hus2
      have HH2 := Lib.hid (low_any (uV s (k + 6)) wr (by omega) (by omega))
      rw [show decide (55296 ≤ uV s k ∧ uV s k ≤ 56319) = true by simpa [isHi] using hhi] at HH
      rw [show decide (56320 ≤ uV s (k + 6) ∧ uV s (k + 6) ≤ 57343) = true by simpa [isLo] using hlo] at HH2
      have hk12 := hus2.1
      have Hr := Lib.hid hr
      have Hus2 := Lib.hid hus2
      unfold isHi at hhi
      unfold isLo at hlo
      clear hr hus2
      have HA := Lib.hid (appendUTF8_any w.heap.size _ acc (prC (uV s k) (uV s (k + 6))) wr HR.out hsz (by omega) (by unfold prC; omega) (by unfold prC; omega) (by unfold prC isHi; omega) (by unfold prC isLo; omega))
      rw [show (prC (uV s k) (uV s (k + 6))) = 65536 + (uV s k - 55296) * 1024 + (uV s (k + 6) - 56320) from rfl] at HA HO
      go_wp2_with fail
      refine HUs.out.mono ?_
      rintro e w' ⟨⟨_, rfl⟩ | ⟨hu, _⟩, rfl⟩
      rotate_left
      · exact absurd Hus.out hu
      go_wp2_with fail
      refine HUs2.out.mono ?_
      rintro e w' ⟨⟨_, rfl⟩ | ⟨hu, _⟩, rfl⟩
      rotate_left
      · exact absurd Hus2.out hu
      go_wp2_with fail
      refine HH.out.mono ?_
      rintro e w' ⟨rfl, rfl⟩
      go_wp2_with fail
      refine HH2.out.mono ?_
      rintro e w' ⟨rfl, rfl⟩
      go_wp2_with fail
      refine HA.out.mono ?_
      rintro e w' ⟨v', rfl, hrow, hupd⟩
      have HR2 := Lib.hid hrow; clear hrow
      have hU2 : Upd NoB w w' := hU.then hupd (fun b hb => .inr (HR.out.lt b hb).1)
      clear hupd
      go_wp2_with fail
      go_roundg (s.size - (k + 12))
      case measure => have := Hm.out; omega
      case rel => exact ⟨acc ++ enc (65536 + (uV s k - 55296) * 1024 + (uV s (k + 6) - 56320)), r, k + 12, rfl, by go_num, by have := Hr.out.sb.lt; omega, HR2.out, hU2, Hr.out, by rw [HO.out, List.append_assoc], by rw [List.length_append]; have := (enc_len (65536 + (uV s k - 55296) * 1024 + (uV s (k + 6) - 56320))).1; omega⟩
end Go.Proofs.YtggdcpmampjncaaGreatDoor
