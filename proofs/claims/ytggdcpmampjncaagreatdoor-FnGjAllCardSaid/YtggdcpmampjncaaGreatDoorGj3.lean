/- strconv.ParseUint of four hexadecimal digits, runeit, utf16. runeit, utf16.IsSurrogate, utf16.DecodeRune. -/
import Derived.Test.YtggdcpmampjncaaGreatDoorGj1
import Derived.Test.YtggdcpmampjncaaGreatDoorSpec2
import Derived.Lib.ConvBytes
import Derived.Lib.QuoteBits
namespace Go.Proofs.YtggdcpmampjncaaGreatDoor
open Go.RowKit

/-- The number of the first q digits of a text. -/
def pv16 (s : ByteArray) : Nat → Int
  | 0 => 0
  | q + 1 => pv16 s q * 16 + hxV (bAt s q)
theorem pv16_rng {s : ByteArray} (h : ∀ q, q < 4 → isHx (bAt s q) = true) : ∀ q, q ≤ 4 → 0 ≤ pv16 s q ∧ pv16 s q ≤ 65535
  | 0, _ => by simp [pv16]
  | 1, _ => by have := hxV_rng (h 0 (by omega)); simp only [pv16]; omega
  | 2, _ => by have := hxV_rng (h 0 (by omega)); have := hxV_rng (h 1 (by omega)); simp only [pv16]; omega
  | 3, _ => by have := hxV_rng (h 0 (by omega)); have := hxV_rng (h 1 (by omega)); have := hxV_rng (h 2 (by omega)); simp only [pv16]; omega
  | 4, _ => by have := hxV_rng (h 0 (by omega)); have := hxV_rng (h 1 (by omega)); have := hxV_rng (h 2 (by omega)); have := hxV_rng (h 3 (by omega)); simp only [pv16]; omega
  | n + 5, h => by omega
theorem lowHex_all : (List.range 256).all (fun c => !(decide (isHx (c : Int) = true ∧ 57 < c)) || decide (97 ≤ bits .or .u8 (c : Int) 32 ∧ bits .or .u8 (c : Int) 32 ≤ 102 ∧ bits .or .u8 (c : Int) 32 = hxV (c : Int) + 87)) = true := by decide +kernel
theorem lowHex {c : Nat} (h : isHx (c : Int) = true) (h57 : 57 < c) : 97 ≤ bits .or .u8 (c : Int) 32 ∧ bits .or .u8 (c : Int) 32 ≤ 102 ∧ bits .or .u8 (c : Int) 32 = hxV (c : Int) + 87 := by
  have hc : c < 256 := by simp [isHx] at h; omega
  have := List.all_eq_true.1 lowHex_all c (by simpa using hc)
  simpa [h, h57] using this
/-- The frame of ParseUint. -/
theorem lit172 (g : Nat → Value) : ((List.range 172).map g).toArray = #[g 0, g 1, g 2, g 3, g 4, g 5, g 6, g 7, g 8, g 9, g 10, g 11, g 12, g 13, g 14, g 15, g 16, g 17, g 18, g 19, g 20, g 21, g 22, g 23, g 24, g 25, g 26, g 27, g 28, g 29, g 30, g 31, g 32, g 33, g 34, g 35, g 36, g 37, g 38, g 39, g 40, g 41, g 42, g 43, g 44, g 45, g 46, g 47, g 48, g 49, g 50, g 51, g 52, g 53, g 54, g 55, g 56, g 57, g 58, g 59, g 60, g 61, g 62, g 63, g 64, g 65, g 66, g 67, g 68, g 69, g 70, g 71, g 72, g 73, g 74, g 75, g 76, g 77, g 78, g 79, g 80, g 81, g 82, g 83, g 84, g 85, g 86, g 87, g 88, g 89, g 90, g 91, g 92, g 93, g 94, g 95, g 96, g 97, g 98, g 99, g 100, g 101, g 102, g 103, g 104, g 105, g 106, g 107, g 108, g 109, g 110, g 111, g 112, g 113, g 114, g 115, g 116, g 117, g 118, g 119, g 120, g 121, g 122, g 123, g 124, g 125, g 126, g 127, g 128, g 129, g 130, g 131, g 132, g 133, g 134, g 135, g 136, g 137, g 138, g 139, g 140, g 141, g 142, g 143, g 144, g 145, g 146, g 147, g 148, g 149, g 150, g 151, g 152, g 153, g 154, g 155, g 156, g 157, g 158, g 159, g 160, g 161, g 162, g 163, g 164, g 165, g 166, g 167, g 168, g 169, g 170, g 171] := by kernel_rfl

set_option maxHeartbeats 4000000 in
set_option maxRecDepth 4000 in
theorem pu_any (s : ByteArray) (w : World) (hz : s.size = 4) (h : ∀ q, q < 4 → isHx (bAt s q) = true) :
    Calls Tryz.prog 100 #[.string s, .int .i64 16, .int .i64 64] w fun r w' => r = .returned (.tuple #[.int .u64 (pv16 s 4), .nilIface]) ∧ Upd NoB w w' := by
  have hne : (s.toList == ([] : List UInt8)) = false := by
    cases h' : s.toList == ([] : List UInt8)
    · rfl
    · have : s.toList = [] := by simpa using h'
      have h2 : s.data.toList = [] := by rw [← Lib.toList_data]; exact this
      have : s.size = 0 := by
        have := congrArg List.length h2
        simpa using this
      omega
  have hcv := Lib.run_convert_string_bytes (P := Tryz.prog) w 9 91 5 s Tryz.underlying9 Tryz.underlying91 Tryz.underlying5
  have hcell : ∀ j : Nat, j < 4 → (Lib.bytesWorld w 5 s).cell? ⟨w.heap.size, j, none⟩ = some (.int .u8 (bAt s j : Int)) := fun j hj => by
    rw [Lib.bytesWorld_cell w _ s j (by omega), bAt_eq (by omega : j < s.size)]
    congr 3
    have : j < s.data.toList.length := by simpa using (show j < s.size by omega)
    rw [List.getD_eq_getElem?_getD, List.getElem?_eq_getElem this]
    rfl
  have hup : Upd NoB w (Lib.bytesWorld w 5 s) := ⟨rfl, rfl, rfl, by rw [Lib.bytesWorld_size]; omega, fun k hk _ => Lib.bytesWorld_at_old w _ s k hk⟩
  rw [hz] at hcv
  generalize Lib.bytesWorld w 5 s = wB at *
  generalize grownCap w 4 0 5 = cp at *
  have HB := Lib.hid hcell; clear hcell
  have H := Lib.hid h; clear h
  go_enter Tryz.func100, Tryz.ntmps100
  go_upto_block 3 with (fail)
  refine wp_cut (FR 172 (fun g wx => (g 0 = .string s ∧ g 1 = .int .i64 16 ∧ g 2 = .int .i64 64 ∧ g 6 = .int .u64 0 ∧ g 7 = .nilIface ∧ g 8 = .bool false ∧ g 10 = .int .u64 1152921504606846976 ∧ g 11 = .int .u64 18446744073709551615 ∧ g 12 = .bool false ∧ g 13 = .int .u64 (pv16 s 4) ∧ g 99 = .slice (some ⟨w.heap.size, 0, none⟩) 4 cp ∧ g 100 = .int .i64 4 ∧ g 101 = .int .i64 ((4 : Nat) : Int)) ∧ wB = wx)) ?rest ?first
  case first =>
    intro J K' hJ hK
    go_wp2_with fail
    refine wp_loop_ghost_k (fun mm => FR 172 (fun g wx => ∃ k : Nat, mm = 4 - k ∧ (g 0 = .string s ∧ g 1 = .int .i64 16 ∧ g 2 = .int .i64 64 ∧ g 6 = .int .u64 0 ∧ g 7 = .nilIface ∧ g 8 = .bool false ∧ g 10 = .int .u64 1152921504606846976 ∧ g 11 = .int .u64 18446744073709551615 ∧ g 12 = .bool false ∧ g 13 = .int .u64 (pv16 s k) ∧ g 99 = .slice (some ⟨w.heap.size, 0, none⟩) 4 cp ∧ g 100 = .int .i64 4 ∧ g 101 = .int .i64 (k : Int)) ∧ k ≤ 4 ∧ wB = wx)) 4 ?atStart ?round
    case atStart =>
      refine FR.intro (by rfl) ?_
      exact ⟨0, rfl, ⟨rfl, rfl, rfl, rfl, rfl, rfl, rfl, rfl, rfl, rfl, rfl, rfl, rfl⟩, by omega, rfl⟩
    case round =>
      intro gk
      refine FR.rest ?_
      rintro g wc ⟨k, hm, ⟨e0, e1, e2, e6, e7, e8, e10, e11, e12, e13, e99, e100, e101⟩, hk, rfl⟩
      rw [lit172]
      simp only [e0, e1, e2, e6, e7, e8, e10, e11, e12, e13, e99, e100, e101]
      clear e0 e1 e2 e6 e7 e8 e10 e11 e12 e13 e99 e100 e101
      intro J2 K2 hJ2 hK2
      have Hm := Lib.hid hm; clear hm
      have hr := pv16_rng H.out k hk
      by_cases hlt : k < 4
      rotate_left
      · obtain rfl : k = 4 := by omega
        as_aux_lemma =>
          go_wp2_with fail
          refine Met.intro ?_
          go_step
          refine FR.intro (by rfl) ?_
          exact ⟨⟨rfl, rfl, rfl, rfl, rfl, rfl, rfl, rfl, rfl, rfl, rfl, rfl, rfl⟩, rfl⟩
      have hx := H.out k hlt
      have hv := hxV_rng hx
      have hc := HB.out k hlt
      have hb := bAt_le s k
      have hr2 := pv16_rng H.out (k + 1) (by omega)
      simp only [pv16] at hr2
      have e95 : ((bAt s k : Int) == 95) = false := by simp [isHx] at hx; simp; omega
      by_cases hd : (bAt s k : Int) ≤ 57
      · have h48 : 48 ≤ (bAt s k : Int) := by simp [isHx] at hx; omega
        have hvv : hxV (bAt s k) = (bAt s k : Int) - 48 := by unfold hxV; rw [if_pos ⟨h48, hd⟩]
        have HVV := Lib.hid hvv
        rw [hvv] at hr2 hv
        clear hvv hx
        as_aux_lemma =>
          go_wp2_with fail
          refine Handed.intro (4 - (k + 1)) ?_ ?_
          · have := Hm.out; omega
          go_step
          refine FR.intro (by rfl) ?_
          exact ⟨k + 1, rfl, ⟨rfl, rfl, rfl, rfl, rfl, rfl, rfl, rfl, rfl, by simp only [slotOf, pv16]; rw [HVV.out], rfl, rfl, rfl⟩, by omega, rfl⟩
      · have hlh := lowHex hx (by omega)
        have HVV := Lib.hid hlh
        have hd2 : hxV (bAt s k) = bits .or .u8 (bAt s k : Int) 32 - 87 := by omega
        rw [hd2] at hr2 hv
        obtain ⟨x, hxx⟩ : ∃ x, bits .or .u8 (bAt s k : Int) 32 = x := ⟨_, rfl⟩
        have HXX := Lib.hid hxx
        rw [hxx] at hlh hr2 hv
        have hlow := fun wx => (lower_is (bAt s k : Int) wx (by omega) (by omega))
        rw [hxx] at hlow
        have HL := Lib.hid hlow
        have hx1 := hlh.1
        have hx2 := hlh.2.1
        clear hx hlh hd2 hxx hlow
        as_aux_lemma =>
          go_wp2_with (go_at_call 115; refine (HL.out _).mono ?_; rintro e w' ⟨rfl, rfl⟩)
          refine Handed.intro (4 - (k + 1)) ?_ ?_
          · have := Hm.out; omega
          go_step
          refine FR.intro (by rfl) ?_
          exact ⟨k + 1, rfl, ⟨rfl, rfl, rfl, rfl, rfl, rfl, rfl, rfl, rfl, by simp only [slotOf, pv16]; have h1 := HVV.out; have h2 := HXX.out; congr 1; omega, rfl, rfl, rfl⟩, by omega, rfl⟩
  case rest =>
  refine FR.rest ?_
  rintro g wc ⟨⟨e0, e1, e2, e6, e7, e8, e10, e11, e12, e13, e99, e100, e101⟩, rfl⟩
  rw [lit172]
  simp only [e0, e1, e2, e6, e7, e8, e10, e11, e12, e13, e99, e100, e101]
  clear e0 e1 e2 e6 e7 e8 e10 e11 e12 e13 e99 e100 e101
  go_wp2_with fail
  go_ret2
  exact ⟨rfl, hup⟩
end Go.Proofs.YtggdcpmampjncaaGreatDoor
namespace Go.Proofs.YtggdcpmampjncaaGreatDoor
open Go.RowKit

theorem pub_any (s : ByteArray) (w : World) (hz : s.size = 4) (h : ∀ q, q < 4 → isHx (bAt s q) = true) :
    Calls Tryz.prog 90 #[.string s, .int .i64 16, .int .i64 64] w fun r w' => r = .returned (.tuple #[.int .u64 (pv16 s 4), .nilIface]) ∧ Upd NoB w w' := by
  have HX := Lib.hid (pu_any s w hz h)
  go_enter Tryz.func90, Tryz.ntmps90
  go_wp2_with fail
  refine HX.out.mono ?_
  rintro e w' ⟨rfl, hU⟩
  go_wp2_with fail
  go_ret2
  exact ⟨rfl, hU⟩

theorem pv16_of {s v : ByteArray} {k : Nat} : ∀ q, (∀ r, r < q → bAt v r = bAt s (k + 2 + r)) → pv16 v q = uP s k q
  | 0, _ => rfl
  | q + 1, h => by
    simp only [pv16, uP]
    rw [pv16_of q (fun r hr => h r (by omega)), h q (by omega)]

set_option maxHeartbeats 400000 in
/-- runeit of a text that begins with the digits of the escape at k. -/
theorem runeit_any (s v : ByteArray) (k : Nat) (w : World) (hu : isU s k) (hz : 4 ≤ v.size) (hv : ∀ q, q < 4 → bAt v q = bAt s (k + 2 + q)) :
    Calls Tryz.prog 71 #[.string v] w fun r w' => r = .returned (.int .i32 (uV s k)) ∧ Upd NoB w w' := by
  have hr := uV_rng hu
  have hz4 : (v.extract 0 4).size = 4 := by rw [ByteArray.size_extract]; omega
  have hb : ∀ q, q < 4 → bAt (v.extract 0 4) q = bAt s (k + 2 + q) := fun q hq => by
    rw [bAt_extract (by omega), Nat.zero_add]; exact hv q hq
  have hp := pub_any (v.extract 0 4) w hz4 (fun q hq => by rw [hb q hq]; exact hu.2.2.2 q hq)
  rw [pv16_of (s := s) (k := k) 4 hb, show uP s k 4 = uV s k from rfl] at hp
  have HX := Lib.hid hp
  have hsl : ∀ wx, (Instr.slice 9 (.string v) none (some (.int .i64 4)) none).run Tryz.prog wx = .ok (.string (v.extract 0 4)) wx := fun wx => slice_to v 4 hz wx
  clear hp hb hz4 hv hu
  go_enter Tryz.func71, Tryz.ntmps71
  go_wp2_with fail
  refine HX.out.mono ?_
  rintro e w' ⟨rfl, hU⟩
  go_wp2_with fail
  go_ret
  exact ⟨rfl, hU⟩

set_option maxHeartbeats 400000 in
theorem IsSurrogate_any (n : Int) (w : World) (h0 : 0 ≤ n) (h1 : n ≤ 65535) :
    Calls Tryz.prog 72 #[.int .i32 n] w fun e w' => e = .returned (.bool (decide (55296 ≤ n ∧ n < 57344))) ∧ w = w' := by
  go_enter Tryz.func72, Tryz.ntmps72
  go_wp2
  all_goals
    go_ret
    refine ⟨?_, rfl⟩
    first | (simp_all; done) | (simp_all; omega)

theorem or_i32 {a b : Nat} (ha : a ≤ 1023) (hb : b ≤ 1023) : bits .or .i32 ((a : Int) * 1024) (b : Int) = (a : Int) * 1024 + b := by
  have e1 : (a : Int) * 1024 = ((a * 1024 : Nat) : Int) := by omega
  rw [e1]
  have ho : ∀ n : Nat, n < 4294967296 → (BitVec.ofInt 32 (n : Int)).toNat = n := fun n hn => by
    rw [BitVec.toNat_ofInt]
    omega
  show IntKind.i32.wrap ((BitVec.ofInt 32 ((a * 1024 : Nat) : Int) ||| BitVec.ofInt 32 ((b : Nat) : Int)).toNat : Int) = _
  rw [BitVec.toNat_or, ho _ (by omega), ho _ (by omega)]
  have h2 : a * 1024 ||| b = a * 1024 + b := by
    have := Nat.two_pow_add_eq_or_of_lt (i := 10) (b := b) (by omega) a
    rw [show (2 : Nat) ^ 10 = 1024 from rfl, Nat.mul_comm] at this
    exact this.symm
  rw [h2, Go.Lib.wrap_i32_small _ (by omega)]
  omega

set_option maxHeartbeats 400000 in
theorem DecodeRune_any (n m : Int) (w : World) (hn : isHi n) (hm : isLo m) :
    Calls Tryz.prog 73 #[.int .i32 n, .int .i32 m] w fun e w' => e = .returned (.int .i32 (prC n m)) ∧ w = w' := by
  unfold isHi at hn
  unfold isLo at hm
  obtain ⟨a, ha⟩ : ∃ a : Nat, n = 55296 + (a : Int) := ⟨(n - 55296).toNat, by omega⟩
  obtain ⟨b, hb⟩ : ∃ b : Nat, m = 56320 + (b : Int) := ⟨(m - 56320).toNat, by omega⟩
  have hor : bits .or .i32 ((n - 55296) * 1024) (m - 56320) = (n - 55296) * 1024 + (m - 56320) := by
    have h := or_i32 (a := a) (b := b) (by omega) (by omega)
    rw [show n - 55296 = (a : Int) by omega, show m - 56320 = (b : Int) by omega]
    exact h
  have hp : prC n m = (n - 55296) * 1024 + (m - 56320) + 65536 := by unfold prC; omega
  rw [hp]
  clear hp ha hb
  go_enter Tryz.func73, Tryz.ntmps73
  go_wp2
  go_ret
  exact ⟨rfl, rfl⟩
end Go.Proofs.YtggdcpmampjncaaGreatDoor
