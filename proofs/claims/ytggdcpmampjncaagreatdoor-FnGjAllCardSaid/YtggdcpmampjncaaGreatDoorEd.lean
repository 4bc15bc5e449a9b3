/- The package's ForEach: one value, at a place of the text. -/
import Derived.Test.YtggdcpmampjncaaGreatDoorEc
import Derived.Test.YtggdcpmampjncaaGreatDoorVp
import Derived.Deep.RegionLaw
namespace Go.Proofs.YtggdcpmampjncaaGreatDoor
open Go.RowKit

theorem lit170 (g : Nat → Value) : ((List.range 170).map g).toArray = #[g 0, g 1, g 2, g 3, g 4, g 5, g 6, g 7, g 8, g 9, g 10, g 11, g 12, g 13, g 14, g 15, g 16, g 17, g 18, g 19, g 20, g 21, g 22, g 23, g 24, g 25, g 26, g 27, g 28, g 29, g 30, g 31, g 32, g 33, g 34, g 35, g 36, g 37, g 38, g 39, g 40, g 41, g 42, g 43, g 44, g 45, g 46, g 47, g 48, g 49, g 50, g 51, g 52, g 53, g 54, g 55, g 56, g 57, g 58, g 59, g 60, g 61, g 62, g 63, g 64, g 65, g 66, g 67, g 68, g 69, g 70, g 71, g 72, g 73, g 74, g 75, g 76, g 77, g 78, g 79, g 80, g 81, g 82, g 83, g 84, g 85, g 86, g 87, g 88, g 89, g 90, g 91, g 92, g 93, g 94, g 95, g 96, g 97, g 98, g 99, g 100, g 101, g 102, g 103, g 104, g 105, g 106, g 107, g 108, g 109, g 110, g 111, g 112, g 113, g 114, g 115, g 116, g 117, g 118, g 119, g 120, g 121, g 122, g 123, g 124, g 125, g 126, g 127, g 128, g 129, g 130, g 131, g 132, g 133, g 134, g 135, g 136, g 137, g 138, g 139, g 140, g 141, g 142, g 143, g 144, g 145, g 146, g 147, g 148, g 149, g 150, g 151, g 152, g 153, g 154, g 155, g 156, g 157, g 158, g 159, g 160, g 161, g 162, g 163, g 164, g 165, g 166, g 167, g 168, g 169] := by kernel_rfl
/-- A result is the value at a place of u, in full. -/
def RsIn (u : ByteArray) (p : Pl) (n : Nd) (r : Rs) : Prop :=
  r.ty = kindOf n.kind ∧ r.raw = u.extract p.b p.e ∧ r.st = (if p.kind = 4 then bs n.text else ByteArray.empty) ∧ (p.kind = 3 → NumR r.raw r.f) ∧ (p.kind ≠ 3 → r.f = 0)
theorem RsIn.uniq {s : ByteArray} {p : Pl} {n : Nd} {r r' : Rs} (h : RsIn s p n r) (h' : RsIn s p n r') : r.ty = r'.ty ∧ r.raw = r'.raw ∧ r.st = r'.st ∧ r.f = r'.f := by
  obtain ⟨h1, h2, h3, h4, h5⟩ := h
  obtain ⟨k1, k2, k3, k4, k5⟩ := h'
  refine ⟨h1.trans k1.symm, h2.trans k2.symm, h3.trans k3.symm, ?_⟩
  by_cases hk : p.kind = 3
  · have a := h4 hk
    have b := k4 hk
    rw [h2] at a
    rw [k2] at b
    exact a.uniq b
  · rw [h5 hk, k5 hk]
/-- What parseAny returns at a value. -/
def PaRet (u : ByteArray) (p : Pl) (n : Nd) (w : World) (e : Ending) (w' : World) : Prop := ∃ r : Rs, RsIn u p n r ∧ e = .returned (.tuple #[.int .i64 (p.e : Int), .agg #[.int .i64 (r.ty : Int), .string r.raw, .string r.st, .float .f64 r.f, .int .i64 r.ix, .slice none 0 0], .bool true]) ∧ Upd NoB w w'
theorem VT.upd {w w' : World} (h : VT w) (k : Upd NoB w w') : VT w' := fun c hc => k.cell (h c hc) fun h => h

theorem PVal.word {u : ByteArray} {p : Pl} (h : PVal u p) (hk : p.kind ≤ 2) : ∀ k, p.b ≤ k → k < p.e → 97 ≤ bAt u k ∧ bAt u k ≤ 122 := by
  obtain ⟨k, b, e, ns, ks⟩ := p
  simp only [PVal] at h
  simp only [Pl.kind, Pl.b, Pl.e] at *
  rcases h with ⟨rfl, h1, rfl, rfl, rfl⟩ | ⟨rfl, h1, rfl, rfl, rfl⟩ | ⟨rfl, h1, rfl, rfl, rfl⟩ | ⟨rfl, _⟩ | ⟨rfl, _⟩ | ⟨rfl, _⟩ | ⟨rfl, _⟩
  · exact Wd_ok h1 (by decide)
  · exact Wd_ok h1 (by decide)
  · exact Wd_ok h1 (by decide)
  all_goals omega
theorem PVal.num {u : ByteArray} {p : Pl} (h : PVal u p) (hk : p.kind = 3) : ∀ k, p.b ≤ k → k < p.e → nmB (bAt u k) := by
  obtain ⟨k, b, e, ns, ks⟩ := p
  simp only [PVal] at h
  simp only [Pl.kind, Pl.b, Pl.e] at *
  rcases h with ⟨rfl, _⟩ | ⟨rfl, _⟩ | ⟨rfl, _⟩ | ⟨rfl, h1, h2, h3, _⟩ | ⟨rfl, _⟩ | ⟨rfl, _⟩ | ⟨rfl, _⟩
  all_goals first | (exfalso; omega) | skip
  exact h3.bytes.2
theorem lit_in {s : ByteArray} {p : Pl} (w : World) (hs : s.size ≤ 1048576) (h : PVal s p) (hk : p.kind ≤ 2) (he : EndB s p.e) :
    Calls Tryz.prog 76 #[.string s, .int .i64 (p.b : Int)] w fun r w' => r = .returned (.tuple #[.int .i64 (p.e : Int), .string (s.extract p.b p.e)]) ∧ Upd NoB w w' :=
  plit_any s p.b p.e w hs (PVal.lt p h) he.1 (fun k h1 h2 => h.word hk k (by omega) h2) fun hx => by have := he.2 hx; omega
theorem num_in {s : ByteArray} {p : Pl} (w : World) (hs : s.size ≤ 1048576) (h : PVal s p) (hk : p.kind = 3) (he : EndB s p.e) :
    Calls Tryz.prog 77 #[.string s, .int .i64 (p.b : Int)] w fun r w' => r = .returned (.tuple #[.int .i64 (p.e : Int), .string (s.extract p.b p.e)]) ∧ Upd NoB w w' :=
  pnum_any s p.b p.e w hs (PVal.lt p h) he.1 (fun k h1 h2 => h.num hk k (by omega) h2) he.2

set_option maxHeartbeats 4000000 in
set_option maxRecDepth 8000 in
theorem pany_any (lo : Nat) (s : ByteArray) (p : Pl) (n : Nd) (w : World) (hs : s.size ≤ 1048576) (hpv : PVal s p) (hn : TreeR s p n) (hend : EndB s p.e) (hT : Tabs lo w) (hlo : lo ≤ w.heap.size) (hvt : VT w) :
    Calls Tryz.prog 67 #[.string s, .int .i64 (p.b : Int), .bool true] w (PaRet s p n w) := by
  have hB := get_bAt s
  have HN := Lib.hid hn; clear hn
  have HT := Lib.hid hT; clear hT
  have HVT := Lib.hid hvt; clear hvt
  have hpe := hend.1
  have HEnd := Lib.hid hend; clear hend
  obtain ⟨htz, htag⟩ := hpv.tag
  have hlt := PVal.lt p hpv
  have HPV := Lib.hid hpv; clear hpv
  have HTag := Lib.hid htag; clear htag
  go_enter Tryz.func67, Tryz.ntmps67
  go_upto_block 0 with (fail)
  have hA := PsW.start w
  generalize hw1 : ((w.alloc (.cells #[.int .i64 0, .string ByteArray.empty, .string ByteArray.empty, .float .f64 0, .int .i64 0, .slice none 0 0] 57)).alloc (.cells #[.int .i64 0, .string ByteArray.empty, .string ByteArray.empty, .float .f64 0, .int .i64 0, .slice none 0 0] 57)) = w1 at hA
  first | rw [hw1] | (rw [show ((w.alloc (.cells #[.int .i64 0, .string ⟨#[]⟩, .string ⟨#[]⟩, .float .f64 0, .int .i64 0, .slice none 0 0] 57)).alloc (.cells #[.int .i64 0, .string ⟨#[]⟩, .string ⟨#[]⟩, .float .f64 0, .int .i64 0, .slice none 0 0] 57)) = w1 from hw1])
  clear hw1
  have HA := Lib.hid hA; clear hA
  refine wp_cut (fun _ _ => False) (fun _ _ h => h.elim) ?_
  intro J0 K0 hJ0 hK0
  go_wp2_with fail
  refine wp_loop_ghost_k (fun mm => FR 170 (fun g wx => mm = 0 ∧ (g 0 = .string s ∧ g 1 = .int .i64 (p.b : Int) ∧ g 2 = .bool true ∧ g 7 = .pointer (some ⟨w.heap.size, 0, none⟩) ∧ g 9 = .pointer (some ⟨w.heap.size + 1, 0, none⟩) ∧ g 10 = .string ByteArray.empty) ∧ wx = w1)) 0 ?atStart ?round
  case atStart =>
    refine FR.intro (by rfl) ?_
    exact ⟨rfl, ⟨rfl, rfl, rfl, rfl, rfl, rfl⟩, rfl⟩
  case round =>
    intro gk
    refine FR.rest ?_
    rintro g w2 ⟨hm, ⟨e0, e1, e2, e7, e9, e10⟩, rfl⟩
    rw [lit170]
    simp only [e0, e1, e2, e7, e9, e10]
    clear e0 e1 e2 e7 e9 e10 hm
    intro J2 K2 hJ2 hK2
    have hb := bAt_le s p.b
    have hkz : (p.b : Int) < (s.size : Int) := by omega
    have hfl := fl_store
    have HV1 : Hid (VT w2) := Lib.hid (HVT.out.upd HA.out.up)
    obtain ⟨⟨q0, q1, q2, q3, q4, q5⟩, f0, f1, f2, f3, f4, f5⟩ := cells6 HA.out.b1
    rcases HTag.out with ⟨hk, hb⟩ | ⟨hk, hb⟩ | ⟨hk, hb⟩ | ⟨hk, hb⟩ | ⟨hk, hb⟩ | ⟨hk, hb⟩ | ⟨hk, hb⟩
    · have hbv : (bAt s p.b : Int) = 110 := by rw [hb]; rfl
      have hu : p.b + 1 < s.size ∧ bAt s (p.b + 1) = 117 := by
        have h := HPV.out
        obtain ⟨k, b, e, ns, ks⟩ := p
        simp only [PVal] at h
        simp only [Pl.kind, Pl.b] at *
        rcases h with ⟨_, h1, _⟩ | ⟨h, _⟩ | ⟨h, _⟩ | ⟨h, _⟩ | ⟨h, _⟩ | ⟨h, _⟩ | ⟨h, _⟩
        · have := Wd_byte h1 1 (by decide)
          have hz := h1.1
          simp only [wNull, List.length_cons, List.length_nil] at hz
          exact ⟨by omega, this⟩
        all_goals omega
      have hu1 : (p.b : Int) + 1 < (s.size : Int) := by omega
      have hu2 : (bAt s (p.b + 1) : Int) = 117 := by rw [hu.2]; rfl
      clear hu
      have Hc := Lib.hid (fun wx => lit_in wx hs HPV.out (by omega) HEnd.out)
      have HI : Hid (RsIn s p n ⟨0, s.extract p.b p.e, ByteArray.empty, 0, 0⟩) := Lib.hid ⟨by rw [HN.out.kind, hk]; rfl, rfl, by rw [hk]; rfl, fun h => by omega, fun _ => rfl⟩
      clear hb hk
      go_upto_region 51 with (fail)
      go_wp2_with fail
      refine (Hc.out _).mono ?_
      rintro r w4 ⟨rfl, hu4⟩
      have ha4 := HA.out.keep hu4
      obtain ⟨⟨v0, v1, v2, v3, v4, v5⟩, f0, f1, f2, f3, f4, f5⟩ := cells6 ha4.b1
      have HA4 := Lib.hid ha4; clear ha4 hu4
      go_wp2_with fail
      have ha5 := HA4.out.set1 1 (.string (s.extract p.b p.e))
      obtain ⟨⟨y0, y1, y2, y3, y4, y5⟩, _⟩ := cells6 ha5.b1
      obtain ⟨⟨x0, x1, x2, x3, x4, x5⟩, u0, u1, u2, u3, u4, u5⟩ := cells6 ha5.b0
      have HA5 := Lib.hid ha5
      clear ha5
      go_region_held3 (fun w' => w'.cell? ⟨w.heap.size + 1, 0, none⟩ = some (.int .i64 0) ∧ w'.cell? ⟨w.heap.size + 1, 1, none⟩ = some (.string (s.extract p.b p.e)) ∧ w'.cell? ⟨w.heap.size + 1, 2, none⟩ = some (.string ByteArray.empty) ∧ w'.cell? ⟨w.heap.size + 1, 3, none⟩ = some (.float .f64 0) ∧ w'.cell? ⟨w.heap.size + 1, 4, none⟩ = some (.int .i64 0) ∧ w'.cell? ⟨w.heap.size + 1, 5, none⟩ = some (.slice none 0 0)) (first | (go_keep; done) | skip) (fail)
      go_wp2_with fail
      refine bodyPost_ret (v := .tuple #[.int .i64 (p.e : Int), .agg #[.int .i64 0, .string (s.extract p.b p.e), .string ByteArray.empty, .float .f64 0, .int .i64 0, .slice none 0 0], .bool true]) (by simp [results, Tryz.results67, go_sem, x0, x1, x2, x3, x4, x5]) rfl ?_
      refine ⟨⟨0, s.extract p.b p.e, ByteArray.empty, 0, 0⟩, HI.out, rfl, HA5.out.up.then (S' := OneB w.heap.size) ?_ (fun b hb => .inr (Nat.le_of_eq hb.symm))⟩
      exact (((((((Upd.refl _ _).setOne 0 _).setOne 1 _).setOne 2 _).setOne 3 _).setOne 4 _).setOne 5 _).drew
    · have hbv : (bAt s p.b : Int) = 102 := by rw [hb]; rfl
      have Hc := Lib.hid (fun wx => lit_in wx hs HPV.out (by omega) HEnd.out)
      have HI : Hid (RsIn s p n ⟨1, s.extract p.b p.e, ByteArray.empty, 0, 0⟩) := Lib.hid ⟨by rw [HN.out.kind, hk]; rfl, rfl, by rw [hk]; rfl, fun h => by omega, fun _ => rfl⟩
      clear hb hk
      go_upto_region 51 with (fail)
      go_wp2_with fail
      refine (Hc.out _).mono ?_
      rintro r w4 ⟨rfl, hu4⟩
      have ha4 := HA.out.keep hu4
      obtain ⟨⟨v0, v1, v2, v3, v4, v5⟩, f0, f1, f2, f3, f4, f5⟩ := cells6 ha4.b1
      have HA4 := Lib.hid ha4; clear ha4 hu4
      go_wp2_with fail
      have ha5 := (HA4.out.set1 1 (.string (s.extract p.b p.e))).set1 0 (.int .i64 1)
      obtain ⟨⟨y0, y1, y2, y3, y4, y5⟩, _⟩ := cells6 ha5.b1
      obtain ⟨⟨x0, x1, x2, x3, x4, x5⟩, u0, u1, u2, u3, u4, u5⟩ := cells6 ha5.b0
      have HA5 := Lib.hid ha5
      clear ha5
      go_region_held3 (fun w' => w'.cell? ⟨w.heap.size + 1, 0, none⟩ = some (.int .i64 1) ∧ w'.cell? ⟨w.heap.size + 1, 1, none⟩ = some (.string (s.extract p.b p.e)) ∧ w'.cell? ⟨w.heap.size + 1, 2, none⟩ = some (.string ByteArray.empty) ∧ w'.cell? ⟨w.heap.size + 1, 3, none⟩ = some (.float .f64 0) ∧ w'.cell? ⟨w.heap.size + 1, 4, none⟩ = some (.int .i64 0) ∧ w'.cell? ⟨w.heap.size + 1, 5, none⟩ = some (.slice none 0 0)) (first | (go_keep; done) | skip) (fail)
      go_wp2_with fail
      refine bodyPost_ret (v := .tuple #[.int .i64 (p.e : Int), .agg #[.int .i64 1, .string (s.extract p.b p.e), .string ByteArray.empty, .float .f64 0, .int .i64 0, .slice none 0 0], .bool true]) (by simp [results, Tryz.results67, go_sem, x0, x1, x2, x3, x4, x5]) rfl ?_
      refine ⟨⟨1, s.extract p.b p.e, ByteArray.empty, 0, 0⟩, HI.out, rfl, HA5.out.up.then (S' := OneB w.heap.size) ?_ (fun b hb => .inr (Nat.le_of_eq hb.symm))⟩
      exact (((((((Upd.refl _ _).setOne 0 _).setOne 1 _).setOne 2 _).setOne 3 _).setOne 4 _).setOne 5 _).drew
    · have hbv : (bAt s p.b : Int) = 116 := by rw [hb]; rfl
      have Hc := Lib.hid (fun wx => lit_in wx hs HPV.out (by omega) HEnd.out)
      have HI : Hid (RsIn s p n ⟨4, s.extract p.b p.e, ByteArray.empty, 0, 0⟩) := Lib.hid ⟨by rw [HN.out.kind, hk]; rfl, rfl, by rw [hk]; rfl, fun h => by omega, fun _ => rfl⟩
      clear hb hk
      go_upto_region 51 with (fail)
      go_wp2_with fail
      refine (Hc.out _).mono ?_
      rintro r w4 ⟨rfl, hu4⟩
      have ha4 := HA.out.keep hu4
      obtain ⟨⟨v0, v1, v2, v3, v4, v5⟩, f0, f1, f2, f3, f4, f5⟩ := cells6 ha4.b1
      have HA4 := Lib.hid ha4; clear ha4 hu4
      go_wp2_with fail
      have ha5 := (HA4.out.set1 1 (.string (s.extract p.b p.e))).set1 0 (.int .i64 4)
      obtain ⟨⟨y0, y1, y2, y3, y4, y5⟩, _⟩ := cells6 ha5.b1
      obtain ⟨⟨x0, x1, x2, x3, x4, x5⟩, u0, u1, u2, u3, u4, u5⟩ := cells6 ha5.b0
      have HA5 := Lib.hid ha5
      clear ha5
      go_region_held3 (fun w' => w'.cell? ⟨w.heap.size + 1, 0, none⟩ = some (.int .i64 4) ∧ w'.cell? ⟨w.heap.size + 1, 1, none⟩ = some (.string (s.extract p.b p.e)) ∧ w'.cell? ⟨w.heap.size + 1, 2, none⟩ = some (.string ByteArray.empty) ∧ w'.cell? ⟨w.heap.size + 1, 3, none⟩ = some (.float .f64 0) ∧ w'.cell? ⟨w.heap.size + 1, 4, none⟩ = some (.int .i64 0) ∧ w'.cell? ⟨w.heap.size + 1, 5, none⟩ = some (.slice none 0 0)) (first | (go_keep; done) | skip) (fail)
      go_wp2_with fail
      refine bodyPost_ret (v := .tuple #[.int .i64 (p.e : Int), .agg #[.int .i64 4, .string (s.extract p.b p.e), .string ByteArray.empty, .float .f64 0, .int .i64 0, .slice none 0 0], .bool true]) (by simp [results, Tryz.results67, go_sem, x0, x1, x2, x3, x4, x5]) rfl ?_
      refine ⟨⟨4, s.extract p.b p.e, ByteArray.empty, 0, 0⟩, HI.out, rfl, HA5.out.up.then (S' := OneB w.heap.size) ?_ (fun b hb => .inr (Nat.le_of_eq hb.symm))⟩
      exact (((((((Upd.refl _ _).setOne 0 _).setOne 1 _).setOne 2 _).setOne 3 _).setOne 4 _).setOne 5 _).drew
    · have Hc := Lib.hid (fun wx => num_in wx hs HPV.out hk HEnd.out)
      have hnb : NumB (s.extract p.b p.e) := by
        intro i hi
        have hz : (s.extract p.b p.e).size = p.e - p.b := by rw [ByteArray.size_extract]; omega
        rw [bAt_extract (by omega)]
        exact HPV.out.num hk _ (by omega) (by omega)
      have HPF := Lib.hid (fun wx hT hl => ParseFloat_is lo (s.extract p.b p.e) wx (by rw [ByteArray.size_extract]; omega) hnb hT hl)
      have HI : Hid (∀ f, NumR (s.extract p.b p.e) f → RsIn s p n ⟨2, s.extract p.b p.e, ByteArray.empty, f, 0⟩) := Lib.hid fun f hf => ⟨by rw [HN.out.kind, hk]; rfl, rfl, by rw [hk]; rfl, fun _ => hf, fun h => absurd hk h⟩
      have hd : (bAt s p.b : Int) = 45 ∨ (bAt s p.b : Int) = 48 ∨ (bAt s p.b : Int) = 49 ∨ (bAt s p.b : Int) = 50 ∨ (bAt s p.b : Int) = 51 ∨ (bAt s p.b : Int) = 52 ∨ (bAt s p.b : Int) = 53 ∨ (bAt s p.b : Int) = 54 ∨ (bAt s p.b : Int) = 55 ∨ (bAt s p.b : Int) = 56 ∨ (bAt s p.b : Int) = 57 := by omega
      have e123 : ((bAt s p.b : Int) == 123) = false := by simp; omega
      have e91 : ((bAt s p.b : Int) == 91) = false := by simp; omega
      have g32 : ¬ (bAt s p.b : Int) ≤ 32 := by omega
      clear hb hk hnb
      go_upto_block 2 with (fail)
      clear e123 e91 g32
      refine wp_cut (FR 170 (fun g wx => (g 0 = .string s ∧ g 1 = .int .i64 (p.b : Int) ∧ g 2 = .bool true ∧ g 7 = .pointer (some ⟨w.heap.size, 0, none⟩) ∧ g 9 = .pointer (some ⟨w.heap.size + 1, 0, none⟩) ∧ g 11 = .bool true) ∧ wx = w2)) ?restN ?firstN
      case firstN =>
        intro J3 K3 hJ3 hK3
        rcases hd with hbv | hbv | hbv | hbv | hbv | hbv | hbv | hbv | hbv | hbv | hbv
        all_goals
          go_wp2_with fail
          refine Met.intro ?_
          go_step
          refine FR.intro (by rfl) ?_
          exact ⟨⟨rfl, rfl, rfl, rfl, rfl, rfl⟩, rfl⟩
      case restN =>
      refine FR.rest ?_
      rintro g wd ⟨⟨e0, e1, e2, e7, e9, e11⟩, rfl⟩
      rw [lit170]
      simp only [e0, e1, e2, e7, e9, e11]
      clear e0 e1 e2 e7 e9 e11
      go_wp2_with fail
      refine (Hc.out _).mono ?_
      rintro r w4 ⟨rfl, hu4⟩
      have ha4 := HA.out.keep hu4
      obtain ⟨⟨v0, v1, v2, v3, v4, v5⟩, f0, f1, f2, f3, f4, f5⟩ := cells6 ha4.b1
      have ha4' := (ha4.set1 1 (.string (s.extract p.b p.e))).set1 0 (.int .i64 2)
      have HT4 := Lib.hid (HT.out.upd ha4'.up (fun _ hb => hb.elim))
      have HL4 := Lib.hid (show lo ≤ _ from Nat.le_trans hlo ha4'.up.size)
      have HA4 := Lib.hid ha4'; clear ha4 ha4' hu4
      go_wp2_with fail
      refine (HPF.out _ HT4.out HL4.out).mono ?_
      rintro r w6 ⟨⟨f, k9, ev, rfl, -, hI⟩, hu6⟩
      have HNR : Hid (NumR (s.extract p.b p.e) f) := Lib.hid ⟨k9, hI⟩
      have ha6 := HA4.out.keep hu6
      clear v0 v1 v2 v3 v4 v5 f0 f1 f2 f3 f4 f5 hI
      obtain ⟨⟨v0, v1, v2, v3, v4, v5⟩, f0, f1, f2, f3, f4, f5⟩ := cells6 ha6.b1
      have HA6 := Lib.hid ha6; clear ha6 hu6
      go_wp2_with fail
      have ha5 := HA6.out.set1 3 (.float .f64 f)
      obtain ⟨⟨y0, y1, y2, y3, y4, y5⟩, _⟩ := cells6 ha5.b1
      obtain ⟨⟨x0, x1, x2, x3, x4, x5⟩, u0, u1, u2, u3, u4, u5⟩ := cells6 ha5.b0
      have HA5 := Lib.hid ha5
      clear ha5
      go_region_held3 (fun w' => w'.cell? ⟨w.heap.size + 1, 0, none⟩ = some (.int .i64 2) ∧ w'.cell? ⟨w.heap.size + 1, 1, none⟩ = some (.string (s.extract p.b p.e)) ∧ w'.cell? ⟨w.heap.size + 1, 2, none⟩ = some (.string ByteArray.empty) ∧ w'.cell? ⟨w.heap.size + 1, 3, none⟩ = some (.float .f64 f) ∧ w'.cell? ⟨w.heap.size + 1, 4, none⟩ = some (.int .i64 0) ∧ w'.cell? ⟨w.heap.size + 1, 5, none⟩ = some (.slice none 0 0)) (first | (go_keep; done) | skip) (fail)
      go_wp2_with fail
      refine bodyPost_ret (v := .tuple #[.int .i64 (p.e : Int), .agg #[.int .i64 2, .string (s.extract p.b p.e), .string ByteArray.empty, .float .f64 f, .int .i64 0, .slice none 0 0], .bool true]) (by simp [results, Tryz.results67, go_sem, x0, x1, x2, x3, x4, x5]) rfl ?_
      refine ⟨⟨2, s.extract p.b p.e, ByteArray.empty, f, 0⟩, HI.out f HNR.out, rfl, HA5.out.up.then (S' := OneB w.heap.size) ?_ (fun b hb => .inr (Nat.le_of_eq hb.symm))⟩
      exact (((((((Upd.refl _ _).setOne 0 _).setOne 1 _).setOne 2 _).setOne 3 _).setOne 4 _).setOne 5 _).drew
    · have hbv : (bAt s p.b : Int) = 34 := by rw [hb]; rfl
      have hps := HPV.out.pstr hk
      have Hc := Lib.hid (fun wx => pstr_any s p.b p.e wx hs hps)
      have hq := HN.out.str hk
      have hl2 := hps.2.2.1.lt
      have S : Sub s (s.extract p.b p.e) p.b p.e := ⟨by omega, hpe, rfl⟩
      have hqr := hq.sh S (by omega) (Nat.le_refl _)
      rw [show p.b + 1 - p.b = 1 by omega] at hqr
      have hrz : (s.extract p.b p.e).size = p.e - p.b := S.size
      obtain ⟨m, hm⟩ : ∃ m, p.e - p.b = m + 1 := ⟨p.e - p.b - 1, by omega⟩
      rw [hm] at hqr hrz
      have hsl := slice_mid (s.extract p.b p.e) 1 m (by omega) (by omega)
      have HUn := Lib.hid (fun wx => unescape_any (s.extract p.b p.e) ((s.extract p.b p.e).extract 1 m) (m + 1) n.text wx (by omega) (by omega) ⟨by omega, by omega, rfl⟩ hqr)
      have HPl : Hid ((∀ q, p.b + 1 ≤ q → q < p.e - 1 → bAt s q ≠ 92) → (s.extract p.b p.e).extract 1 m = bs n.text) := Lib.hid fun hno => by
        rw [hqr.plainBytes (fun q h1 h2 => by
          have := hno (q + p.b) (by omega) (by omega)
          rw [← S.at (by omega) (by omega), Nat.add_sub_cancel] at this
          exact this), Nat.add_sub_cancel, bs_cut (by omega) (by omega)]
      have HI : Hid (RsIn s p n ⟨3, s.extract p.b p.e, bs n.text, 0, 0⟩) := Lib.hid ⟨by rw [HN.out.kind, hk]; rfl, rfl, by rw [hk]; rfl, fun h => by omega, fun _ => rfl⟩
      have hrz1 : ((s.extract p.b p.e).size : Int) - 1 = (m : Int) := by omega
      have hrz2 : ((p.e - p.b : Nat) : Int) - 1 = (m : Int) := by omega
      have HRZ := Lib.hid hrz1
      have g1 : (1 : Int) ≤ (m : Int) := by omega
      clear hb hk hps hq hl2 S hqr hrz1
      go_wp2_with fail
      refine (Hc.out _).mono ?_
      rintro r w4 ⟨⟨v, rfl, hv⟩, hu4⟩
      have HVv := Lib.hid hv; clear hv
      have ha4 := HA.out.keep hu4
      obtain ⟨⟨v0, v1, v2, v3, v4, v5⟩, f0, f1, f2, f3, f4, f5⟩ := cells6 ha4.b1
      have HA4 := Lib.hid ha4; clear ha4 hu4
      cases v
      · have HO := Lib.hid (HPl.out (HVv.out rfl))
        have HI2 : Hid (RsIn s p n ⟨3, s.extract p.b p.e, (s.extract p.b p.e).extract 1 m, 0, 0⟩) := Lib.hid (by rw [HO.out]; exact HI.out)
        clear HI
        have HI := HI2
        go_wp2_with fail
        have ha5 := ((HA4.out.set1 0 (.int .i64 3)).set1 1 (.string (s.extract p.b p.e))).set1 2 (.string ((s.extract p.b p.e).extract 1 m))
        obtain ⟨⟨y0, y1, y2, y3, y4, y5⟩, _⟩ := cells6 ha5.b1
        obtain ⟨⟨x0, x1, x2, x3, x4, x5⟩, u0, u1, u2, u3, u4, u5⟩ := cells6 ha5.b0
        have HA5 := Lib.hid ha5
        clear ha5
        go_region_held3 (fun w' => w'.cell? ⟨w.heap.size + 1, 0, none⟩ = some (.int .i64 3) ∧ w'.cell? ⟨w.heap.size + 1, 1, none⟩ = some (.string (s.extract p.b p.e)) ∧ w'.cell? ⟨w.heap.size + 1, 2, none⟩ = some (.string ((s.extract p.b p.e).extract 1 m)) ∧ w'.cell? ⟨w.heap.size + 1, 3, none⟩ = some (.float .f64 0) ∧ w'.cell? ⟨w.heap.size + 1, 4, none⟩ = some (.int .i64 0) ∧ w'.cell? ⟨w.heap.size + 1, 5, none⟩ = some (.slice none 0 0)) (first | (go_keep; done) | skip) (fail)
        go_wp2_with fail
        refine bodyPost_ret (v := .tuple #[.int .i64 (p.e : Int), .agg #[.int .i64 3, .string (s.extract p.b p.e), .string ((s.extract p.b p.e).extract 1 m), .float .f64 0, .int .i64 0, .slice none 0 0], .bool true]) (by simp [results, Tryz.results67, go_sem, x0, x1, x2, x3, x4, x5]) rfl ?_
        refine ⟨⟨3, s.extract p.b p.e, ((s.extract p.b p.e).extract 1 m), 0, 0⟩, HI.out, rfl, HA5.out.up.then (S' := OneB w.heap.size) ?_ (fun b hb => .inr (Nat.le_of_eq hb.symm))⟩
        exact (((((((Upd.refl _ _).setOne 0 _).setOne 1 _).setOne 2 _).setOne 3 _).setOne 4 _).setOne 5 _).drew
      · go_wp2_with fail
        refine (HUn.out _).mono ?_
        rintro r w6 ⟨rfl, hu6⟩
        have ha6 := ((HA4.out.set1 0 (.int .i64 3)).set1 1 (.string (s.extract p.b p.e))).keep hu6
        clear v0 v1 v2 v3 v4 v5 f0 f1 f2 f3 f4 f5
        obtain ⟨⟨v0, v1, v2, v3, v4, v5⟩, f0, f1, f2, f3, f4, f5⟩ := cells6 ha6.b1
        have HA6 := Lib.hid ha6; clear ha6 hu6
        go_wp2_with fail
        have ha5 := HA6.out.set1 2 (.string ⟨n.text.toArray⟩)
        obtain ⟨⟨y0, y1, y2, y3, y4, y5⟩, _⟩ := cells6 ha5.b1
        obtain ⟨⟨x0, x1, x2, x3, x4, x5⟩, u0, u1, u2, u3, u4, u5⟩ := cells6 ha5.b0
        have HA5 := Lib.hid ha5
        clear ha5
        go_region_held3 (fun w' => w'.cell? ⟨w.heap.size + 1, 0, none⟩ = some (.int .i64 3) ∧ w'.cell? ⟨w.heap.size + 1, 1, none⟩ = some (.string (s.extract p.b p.e)) ∧ w'.cell? ⟨w.heap.size + 1, 2, none⟩ = some (.string ⟨n.text.toArray⟩) ∧ w'.cell? ⟨w.heap.size + 1, 3, none⟩ = some (.float .f64 0) ∧ w'.cell? ⟨w.heap.size + 1, 4, none⟩ = some (.int .i64 0) ∧ w'.cell? ⟨w.heap.size + 1, 5, none⟩ = some (.slice none 0 0)) (first | (go_keep; done) | skip) (fail)
        go_wp2_with fail
        refine bodyPost_ret (v := .tuple #[.int .i64 (p.e : Int), .agg #[.int .i64 3, .string (s.extract p.b p.e), .string ⟨n.text.toArray⟩, .float .f64 0, .int .i64 0, .slice none 0 0], .bool true]) (by simp [results, Tryz.results67, go_sem, x0, x1, x2, x3, x4, x5]) rfl ?_
        refine ⟨⟨3, s.extract p.b p.e, ⟨n.text.toArray⟩, 0, 0⟩, HI.out, rfl, HA5.out.up.then (S' := OneB w.heap.size) ?_ (fun b hb => .inr (Nat.le_of_eq hb.symm))⟩
        exact (((((((Upd.refl _ _).setOne 0 _).setOne 1 _).setOne 2 _).setOne 3 _).setOne 4 _).setOne 5 _).drew
    · have hbv : (bAt s p.b : Int) = 91 := by rw [hb]; rfl
      have Hc := Lib.hid (fun wx => psq_any s p.b p.e wx hs (SQ.whole HPV.out (.inl hk)))
      have HI : Hid (∀ i, RsIn s p n ⟨5, s.extract p.b p.e, ByteArray.empty, 0, i⟩) := Lib.hid fun i => ⟨by rw [HN.out.kind, hk]; rfl, rfl, by rw [hk]; rfl, fun h => by omega, fun _ => rfl⟩
      clear hb hk
      go_wp2_with fail
      refine (Hc.out _ HV1.out).mono ?_
      rintro r w4 ⟨rfl, hu4⟩
      have ha4 := HA.out.keep hu4
      obtain ⟨⟨v0, v1, v2, v3, v4, v5⟩, f0, f1, f2, f3, f4, f5⟩ := cells6 ha4.b1
      have HA4 := Lib.hid ha4; clear ha4 hu4
      go_wp2_with fail
      have ha5 := ((HA4.out.set1 1 (.string (s.extract p.b p.e))).set1 0 (.int .i64 5)).set1 4 (.int .i64 (min (p.e : Int) (s.size : Int) - ((p.e - p.b : Nat) : Int)))
      obtain ⟨⟨y0, y1, y2, y3, y4, y5⟩, _⟩ := cells6 ha5.b1
      obtain ⟨⟨x0, x1, x2, x3, x4, x5⟩, u0, u1, u2, u3, u4, u5⟩ := cells6 ha5.b0
      have HA5 := Lib.hid ha5
      clear ha5
      go_region_held3 (fun w' => w'.cell? ⟨w.heap.size + 1, 0, none⟩ = some (.int .i64 5) ∧ w'.cell? ⟨w.heap.size + 1, 1, none⟩ = some (.string (s.extract p.b p.e)) ∧ w'.cell? ⟨w.heap.size + 1, 2, none⟩ = some (.string ByteArray.empty) ∧ w'.cell? ⟨w.heap.size + 1, 3, none⟩ = some (.float .f64 0) ∧ w'.cell? ⟨w.heap.size + 1, 4, none⟩ = some (.int .i64 (min (p.e : Int) (s.size : Int) - ((p.e - p.b : Nat) : Int))) ∧ w'.cell? ⟨w.heap.size + 1, 5, none⟩ = some (.slice none 0 0)) (first | (go_keep; done) | skip) (fail)
      go_wp2_with fail
      refine bodyPost_ret (v := .tuple #[.int .i64 (p.e : Int), .agg #[.int .i64 5, .string (s.extract p.b p.e), .string ByteArray.empty, .float .f64 0, .int .i64 (min (p.e : Int) (s.size : Int) - ((p.e - p.b : Nat) : Int)), .slice none 0 0], .bool true]) (by simp [results, Tryz.results67, go_sem, x0, x1, x2, x3, x4, x5]) rfl ?_
      refine ⟨⟨5, s.extract p.b p.e, ByteArray.empty, 0, (min (p.e : Int) (s.size : Int) - ((p.e - p.b : Nat) : Int))⟩, HI.out _, rfl, HA5.out.up.then (S' := OneB w.heap.size) ?_ (fun b hb => .inr (Nat.le_of_eq hb.symm))⟩
      exact (((((((Upd.refl _ _).setOne 0 _).setOne 1 _).setOne 2 _).setOne 3 _).setOne 4 _).setOne 5 _).drew
    · have hbv : (bAt s p.b : Int) = 123 := by rw [hb]; rfl
      have Hc := Lib.hid (fun wx => psq_any s p.b p.e wx hs (SQ.whole HPV.out (.inr hk)))
      have HI : Hid (∀ i, RsIn s p n ⟨5, s.extract p.b p.e, ByteArray.empty, 0, i⟩) := Lib.hid fun i => ⟨by rw [HN.out.kind, hk]; rfl, rfl, by rw [hk]; rfl, fun h => by omega, fun _ => rfl⟩
      clear hb hk
      go_wp2_with fail
      refine (Hc.out _ HV1.out).mono ?_
      rintro r w4 ⟨rfl, hu4⟩
      have ha4 := HA.out.keep hu4
      obtain ⟨⟨v0, v1, v2, v3, v4, v5⟩, f0, f1, f2, f3, f4, f5⟩ := cells6 ha4.b1
      have HA4 := Lib.hid ha4; clear ha4 hu4
      go_wp2_with fail
      have ha5 := ((HA4.out.set1 1 (.string (s.extract p.b p.e))).set1 0 (.int .i64 5)).set1 4 (.int .i64 (min (p.e : Int) (s.size : Int) - ((p.e - p.b : Nat) : Int)))
      obtain ⟨⟨y0, y1, y2, y3, y4, y5⟩, _⟩ := cells6 ha5.b1
      obtain ⟨⟨x0, x1, x2, x3, x4, x5⟩, u0, u1, u2, u3, u4, u5⟩ := cells6 ha5.b0
      have HA5 := Lib.hid ha5
      clear ha5
      go_region_held3 (fun w' => w'.cell? ⟨w.heap.size + 1, 0, none⟩ = some (.int .i64 5) ∧ w'.cell? ⟨w.heap.size + 1, 1, none⟩ = some (.string (s.extract p.b p.e)) ∧ w'.cell? ⟨w.heap.size + 1, 2, none⟩ = some (.string ByteArray.empty) ∧ w'.cell? ⟨w.heap.size + 1, 3, none⟩ = some (.float .f64 0) ∧ w'.cell? ⟨w.heap.size + 1, 4, none⟩ = some (.int .i64 (min (p.e : Int) (s.size : Int) - ((p.e - p.b : Nat) : Int))) ∧ w'.cell? ⟨w.heap.size + 1, 5, none⟩ = some (.slice none 0 0)) (first | (go_keep; done) | skip) (fail)
      go_wp2_with fail
      refine bodyPost_ret (v := .tuple #[.int .i64 (p.e : Int), .agg #[.int .i64 5, .string (s.extract p.b p.e), .string ByteArray.empty, .float .f64 0, .int .i64 (min (p.e : Int) (s.size : Int) - ((p.e - p.b : Nat) : Int)), .slice none 0 0], .bool true]) (by simp [results, Tryz.results67, go_sem, x0, x1, x2, x3, x4, x5]) rfl ?_
      refine ⟨⟨5, s.extract p.b p.e, ByteArray.empty, 0, (min (p.e : Int) (s.size : Int) - ((p.e - p.b : Nat) : Int))⟩, HI.out _, rfl, HA5.out.up.then (S' := OneB w.heap.size) ?_ (fun b hb => .inr (Nat.le_of_eq hb.symm))⟩
      exact (((((((Upd.refl _ _).setOne 0 _).setOne 1 _).setOne 2 _).setOne 3 _).setOne 4 _).setOne 5 _).drew
end Go.Proofs.YtggdcpmampjncaaGreatDoor
