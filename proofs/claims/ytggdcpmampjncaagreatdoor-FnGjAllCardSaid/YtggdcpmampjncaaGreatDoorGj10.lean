/- The package's arrayOrMap on an array. -/
import Derived.Test.YtggdcpmampjncaaGreatDoorGja
namespace Go.Proofs.YtggdcpmampjncaaGreatDoor
open Go.RowKit

/-- What arrayOrMap returns on an array. -/
def AMRet (u : ByteArray) (ps : List Pl) (w : World) (e : Ending) (w' : World) : Prop :=
  ∃ v l, e = .returned (.agg #[v, .slice none 0 0, .map none, .map none, .int .u8 91]) ∧ AllAt u ps l ∧ RowR w.heap.size w' v l ∧ Upd NoB w w'

/-- The main loop's state. -/
def AMInv (P : Nat) (u : ByteArray) (ix : Int) (ps : List Pl) (i : Nat) (qs : List Pl) (w0 w : World) : Prop :=
  NE u i qs ∧ Strs u qs ∧ ∃ dn l, ps = dn ++ qs ∧ AllAt u dn l ∧ l.length ≤ i ∧ ∃ v, ∃ c0 : Int, ∃ c1 c2, ∃ c3 : Nat, ∃ c4 : Int, AMW P u ix v 91 [.int .i64 c0, .string c1, .string c2, .float .f64 c3, .int .i64 c4, .slice none 0 0] l w0 w

set_option maxHeartbeats 4000000 in
set_option maxRecDepth 8000 in
theorem arrayOrMap_any (lo : Nat) (u : ByteArray) (ps : List Pl) (w : World) (hs : u.size ≤ 1048576) (h0 : bAt u 0 = 91) (hz : 0 < u.size) (hn : NE u 1 ps) (hst : Strs u ps) (hT : Tabs lo w) (hlo : lo ≤ w.heap.size) :
    Calls Tryz.prog 46 #[.agg #[.int .i64 5, .string u, .string ByteArray.empty, .float .f64 0, .int .i64 0, .slice none 0 0], .int .u8 91, .bool false] w (AMRet u ps w) := by
  have hB := get_bAt u
  have H0 := Lib.hid h0; clear h0
  have HN := Lib.hid hn; clear hn
  have HT := Lib.hid hT; clear hT
  have HS := Lib.hid hst; clear hst
  go_enter Tryz.func46, Tryz.ntmps46
  go_wp2_with fail
  refine wp_scope_down (fun _ _ _ => False) ?_ (fun _ _ _ h => h.elim)
  go_wp2_with fail
  refine wp_loop_ghost_k (fun mm => FR 289 (fun g wx => (g 1 = .int .u8 91 ∧ g 2 = .bool false ∧ g 3 = .pointer (some ⟨w.heap.size, 0, none⟩) ∧ g 6 = .pointer (some ⟨w.heap.size + 1, 0, none⟩) ∧ g 7 = .string u ∧ g 8 = .int .i64 0 ∧ g 9 = .pointer (some ⟨w.heap.size + 1 + 1, 0, none⟩)) ∧ AMW w.heap.size u 0 (.slice none 0 0) 0 [.int .i64 0, .string ByteArray.empty, .string ByteArray.empty, .float .f64 0, .int .i64 0, .slice none 0 0] [] w wx)) 0 ?atStart ?round
  case atStart =>
    refine FR.intro (by rfl) ?_
    exact ⟨⟨rfl, rfl, rfl, rfl, rfl, rfl, rfl⟩, AMW.start w u 0⟩
  case round =>
    intro gk
    refine FR.rest ?_
    rintro g w1 ⟨⟨e1, e2, e3, e6, e7, e8, e9⟩, ha⟩
    rw [lit289]
    simp only [e1, e2, e3, e6, e7, e8, e9]
    clear e1 e2 e3 e6 e7 e8 e9
    intro J1 K1 hJ1 hK1
    obtain ⟨⟨p0, p1, p2, p3, p4, p5⟩, _⟩ := cells6 ha.b0
    obtain ⟨⟨r0, r1, r2, r3, r4⟩, t0, t1, t2, t3, t4⟩ := cells5 ha.b1
    have hz' : (0 : Int) < (u.size : Int) := by omega
    have h91 : (bAt u 0 : Int) = 91 := by rw [H0.out]; rfl
    have hsz := ha.sz
    have HA := Lib.hid (ha.setVc 91); clear ha
    obtain ⟨i0, hi0, hz0, hz1, hz2⟩ := info_parts infoRes
    have hu1 := HA.out.up
    have HG := Lib.hid hlo
    go_wp2_with (at_make; refine wpList_make_own _ rfl _ _ 53 rfl 0 57 i0 _ 6 Tryz.underlying53 hi0 hz0 hz1 .i64 .i64 _ 0 rfl rfl rfl (by rw [hz2]; decide) (by unfold maxLen; decide) (Nat.zero_le _) ?_)
    intro w2 hown hgrow
    have ha2 : AMW w.heap.size u 0 (.slice (some ⟨w1.heap.size, 0, none⟩) 0 0) 91 [.int .i64 0, .string ByteArray.empty, .string ByteArray.empty, .float .f64 0, .int .i64 0, .slice none 0 0] [] w (w2.setCell ⟨w.heap.size + 1, 0, none⟩ (.slice (some ⟨w1.heap.size, 0, none⟩) 0 0)) :=
      HA.out.app ((Upd.of_grown hgrow).mono fun b hb => by simp at hb) ⟨hown, fun b hb => by
        simp only [Value.ownBlock, Option.some.injEq] at hb
        omega⟩
    obtain ⟨⟨r0, r1, r2, r3, r4⟩, t0, t1, t2, t3, t4⟩ := cells5 ((Upd.of_grown hgrow).blk HA.out.b1 (fun hc => by simp at hc))
    clear hown hgrow p0 p1 p2 p3 p4 p5
    have HA2 := Lib.hid ha2; clear ha2
    go_wp2_with fail
    refine wp_loop_ghost_k (fun mm => FR 289 (fun g wx => ∃ i qs, mm = u.size - i ∧ (g 2 = .bool false ∧ g 3 = .pointer (some ⟨w.heap.size, 0, none⟩) ∧ g 6 = .pointer (some ⟨w.heap.size + 1, 0, none⟩) ∧ g 7 = .string u ∧ g 8 = .int .i64 (i : Int) ∧ g 9 = .pointer (some ⟨w.heap.size + 1 + 1, 0, none⟩)) ∧ AMInv w.heap.size u 0 ps i qs w wx)) (u.size - 1) ?atStart2 ?round2
    case atStart2 =>
      refine FR.intro (by rfl) ?_
      exact ⟨1, ps, rfl, ⟨rfl, rfl, rfl, rfl, rfl, rfl⟩, HN.out, HS.out, [], [], rfl, rfl, by simp, _, _, _, _, _, _, HA2.out⟩
    case round2 =>
      clear r0 r1 r2 r3 r4 t0 t1 t2 t3 t4 HA2 HA hu1 hz' h91 hi0 hz0 hz1 hz2
      intro gk
      refine FR.rest ?_
      rintro g w3 ⟨i, qs, hm, ⟨e2, e3, e6, e7, e8, e9⟩, hinv⟩
      rw [lit289]
      simp only [e2, e3, e6, e7, e8, e9]
      clear e2 e3 e6 e7 e8 e9
      intro J2 K2 hJ2 hK2
      have Hm := Lib.hid hm; clear hm
      obtain ⟨hne, hstr, dn, l, hps, hall, hll, v, c0, c1, c2, c3, c4, ha⟩ := hinv
      have HAll := Lib.hid hall; clear hall
      have HPs := Lib.hid hps; clear hps
      have HStr := Lib.hid hstr; clear hstr
      obtain ⟨c, hic, hcs, hbl, hel⟩ := hne
      have hb := bAt_le u i
      have hiz : i < u.size := by omega
      by_cases hx : i < c
      · have hb1 := hbl i (Nat.le_refl _) hx
        have HInv : Hid (AMInv w.heap.size u 0 ps (i + 1) qs w w3) := Lib.hid ⟨⟨c, by omega, hcs, fun q k1 k2 => hbl q (by omega) k2, hel⟩, HStr.out, dn, l, HPs.out, HAll.out, by omega, v, c0, c1, c2, c3, c4, ha⟩
        clear hbl hel ha
        by_cases h32 : (bAt u i : Int) ≤ 32
        · clear hb1
          as_aux_lemma =>
            go_wp2_with fail
            refine Handed.intro (u.size - (i + 1)) ?_ ?_
            · have := Hm.out; omega
            go_step
            refine FR.intro (by rfl) ?_
            exact ⟨i + 1, qs, rfl, ⟨rfl, rfl, rfl, rfl, rfl, rfl⟩, HInv.out⟩
        · have h44 : (bAt u i : Int) = 44 := by
            simp only [isBl, Bool.or_eq_true, beq_iff_eq] at hb1
            omega
          clear hb1 h32 hb
          as_aux_lemma =>
            go_wp2_with fail
            refine Handed.intro (u.size - (i + 1)) ?_ ?_
            · have := Hm.out; omega
            go_step
            refine FR.intro (by rfl) ?_
            exact ⟨i + 1, qs, rfl, ⟨rfl, rfl, rfl, rfl, rfl, rfl⟩, HInv.out⟩
      obtain rfl : i = c := by omega
      clear hbl hx hic hcs
      rcases hel with ⟨rfl, h93⟩ | ⟨e, hels⟩
      · have h93' : (bAt u i : Int) = 93 := by rw [h93]; rfl
        obtain ⟨va, vcap, rfl⟩ := ha.row.len
        obtain ⟨⟨p0, p1, p2, p3, p4, p5⟩, _⟩ := cells6 ha.b0
        obtain ⟨⟨r0, r1, r2, r3, r4⟩, _⟩ := cells5 ha.b1
        have HA := Lib.hid ha
        have HF : Hid (AllAt u ps l) := Lib.hid (by rw [HPs.out, List.append_nil]; exact HAll.out)
        clear ha h93 hb
        as_aux_lemma =>
          go_wp2_with fail
          refine wp_label ?_
          go_wp2_with fail
          rw [jumps_ret]
          refine bodyPost_ret (v := .agg #[.slice va l.length vcap, .slice none 0 0, .map none, .map none, .int .u8 91]) (by simp [results, Tryz.results46, go_sem, r0, r1, r2, r3, r4]) rfl ?_
          exact ⟨_, l, rfl, HF.out, HA.out.row.mono (by omega), HA.out.up⟩
      obtain ⟨p, rs, rfl, hpb, hpv, hne2, hend, hez⟩ := hels.head
      subst hpb
      obtain ⟨htz, htag⟩ := hpv.tag
      have hlt := PVal.lt p hpv
      have HPV := Lib.hid hpv; clear hpv
      have HNE2 := Lib.hid hne2; clear hne2
      have HEnd : Hid (EndB u p.e) := Lib.hid ⟨Nat.le_of_lt hez, fun _ => by omega⟩
      have hsl : l.length + 1 ≤ 1000000000 := by omega
      clear hels hend
      obtain ⟨va, vcap, rfl⟩ := ha.row.len
      have HA := Lib.hid ha; clear ha
      have t32 : ¬ (bAt u p.b : Int) ≤ 32 := by omega
      have e93 : ((bAt u p.b : Int) == 93) = false := by simp; omega
      have e125 : ((bAt u p.b : Int) == 125) = false := by simp; omega
      have HTag := Lib.hid htag; clear htag hb
      go_upto_block 6 with (fail)
      clear t32 e93 e125
      refine wp_cut (FR 289 (fun g wx => ∃ r : Rs, (g 2 = .bool false ∧ g 3 = .pointer (some ⟨w.heap.size, 0, none⟩) ∧ g 6 = .pointer (some ⟨w.heap.size + 1, 0, none⟩) ∧ g 7 = .string u ∧ g 8 = .int .i64 (p.b : Int) ∧ g 9 = .pointer (some ⟨w.heap.size + 1 + 1, 0, none⟩)) ∧ IsAt u p r ∧ ∃ c4 : Int, AMW w.heap.size u 0 (.slice va l.length vcap) 91 [.int .i64 (r.ty : Int), .string r.raw, .string r.st, .float .f64 r.f, .int .i64 c4, .slice none 0 0] l w wx)) ?restV ?firstV
      case firstV =>
        intro J3 K3 hJ3 hK3
        have hfl : ∀ a f wx, (store a (.float .f64 f)).run Tryz.prog wx = stored Tryz.prog wx a (.float .f64 f) .plain := fun a f wx => run_store _ wx a _ .plain rfl
        obtain ⟨⟨q0, q1, q2, q3, q4, q5⟩, f0, f1, f2, f3, f4, f5⟩ := cells6 HA.out.b2
        rcases HTag.out with ⟨hk, hb⟩ | ⟨hk, hb⟩ | ⟨hk, hb⟩ | ⟨hk, hb⟩ | ⟨hk, hb⟩ | ⟨hk, hb⟩ | ⟨hk, hb⟩
        · have hbv : (bAt u p.b : Int) = 110 := by rw [hb]; rfl
          have Hc := Lib.hid (fun wx => lit_at u p wx hs HPV.out (by omega) HEnd.out)
          have HI : Hid (IsAt u p ⟨0, u.extract p.b p.e, ByteArray.empty, 0, 0⟩) := Lib.hid ⟨by rw [hk]; rfl, rfl, fun h => by omega⟩
          clear hb hk
          as_aux_lemma =>
            go_wp2_with fail
            refine (Hc.out _).mono ?_
            rintro r w4 ⟨rfl, rfl⟩
            go_wp2_with fail
            refine Met.intro ?_
            go_step
            refine FR.intro (by rfl) ?_
            exact ⟨⟨0, u.extract p.b p.e, ByteArray.empty, 0, 0⟩, ⟨rfl, rfl, rfl, rfl, rfl, rfl⟩, HI.out, c4, (((HA.out.set2 0 _).set2 1 _).set2 2 _).set2 3 _⟩
        · have hbv : (bAt u p.b : Int) = 102 := by rw [hb]; rfl
          have Hc := Lib.hid (fun wx => lit_at u p wx hs HPV.out (by omega) HEnd.out)
          have HI : Hid (IsAt u p ⟨1, u.extract p.b p.e, ByteArray.empty, 0, 0⟩) := Lib.hid ⟨by rw [hk]; rfl, rfl, fun h => by omega⟩
          clear hb hk
          as_aux_lemma =>
            go_wp2_with fail
            refine (Hc.out _).mono ?_
            rintro r w4 ⟨rfl, rfl⟩
            go_wp2_with fail
            refine Met.intro ?_
            go_step
            refine FR.intro (by rfl) ?_
            exact ⟨⟨1, u.extract p.b p.e, ByteArray.empty, 0, 0⟩, ⟨rfl, rfl, rfl, rfl, rfl, rfl⟩, HI.out, c4, (((HA.out.set2 0 _).set2 1 _).set2 2 _).set2 3 _⟩
        · have hbv : (bAt u p.b : Int) = 116 := by rw [hb]; rfl
          have Hc := Lib.hid (fun wx => lit_at u p wx hs HPV.out (by omega) HEnd.out)
          have HI : Hid (IsAt u p ⟨4, u.extract p.b p.e, ByteArray.empty, 0, 0⟩) := Lib.hid ⟨by rw [hk]; rfl, rfl, fun h => by omega⟩
          clear hb hk
          as_aux_lemma =>
            go_wp2_with fail
            refine (Hc.out _).mono ?_
            rintro r w4 ⟨rfl, rfl⟩
            go_wp2_with fail
            refine Met.intro ?_
            go_step
            refine FR.intro (by rfl) ?_
            exact ⟨⟨4, u.extract p.b p.e, ByteArray.empty, 0, 0⟩, ⟨rfl, rfl, rfl, rfl, rfl, rfl⟩, HI.out, c4, (((HA.out.set2 0 _).set2 1 _).set2 2 _).set2 3 _⟩
        · have Hc := Lib.hid (fun wx hT hl => num_at lo u p wx hs hT hl HPV.out hk HEnd.out)
          have HI := Lib.hid (fun f => show IsAt u p ⟨2, u.extract p.b p.e, ByteArray.empty, f, 0⟩ from ⟨by rw [hk]; rfl, rfl, fun h => by omega⟩)
          have e123 : ((bAt u p.b : Int) == 123) = false := by simp; omega
          have e91 : ((bAt u p.b : Int) == 91) = false := by simp; omega
          have e110 : ((bAt u p.b : Int) == 110) = false := by simp; omega
          have e116 : ((bAt u p.b : Int) == 116) = false := by simp; omega
          have e102 : ((bAt u p.b : Int) == 102) = false := by simp; omega
          have e34 : ((bAt u p.b : Int) == 34) = false := by simp; omega
          clear hk
          have HT1 : Hid (Tabs lo (w3.setCell ⟨w.heap.size + 1 + 1, 0, none⟩ (.int .i64 2))) := Lib.hid (HT.out.upd (HA.out.set2 0 (.int .i64 2)).up (fun _ hb => hb.elim))
          have HL1 : Hid (lo ≤ (w3.setCell ⟨w.heap.size + 1 + 1, 0, none⟩ (.int .i64 2)).heap.size) := Lib.hid (by have := (HA.out.set2 0 (.int .i64 2)).sz; omega)
          rcases hb with hb | hb
          · have e45 : ((bAt u p.b : Int) == 45) = true := by rw [hb]; rfl
            have g48 : ¬ (48 : Int) ≤ (bAt u p.b : Int) := by omega
            clear hb
            as_aux_lemma =>
              go_wp2_with fail
              refine (Hc.out _ HT1.out HL1.out).mono ?_
              rintro r w4 ⟨⟨f, rfl, -⟩, hu4⟩
              have ha4 := (HA.out.set2 0 (.int .i64 2)).keep hu4
              obtain ⟨⟨v0, v1, v2, v3, v4, v5⟩, f0, f1, f2, f3, f4, f5⟩ := cells6 ha4.b2
              have HA4 := Lib.hid ha4; clear ha4 hu4
              go_wp2_with fail
              refine Met.intro ?_
              go_step
              refine FR.intro (by rfl) ?_
              exact ⟨⟨2, u.extract p.b p.e, ByteArray.empty, f, 0⟩, ⟨rfl, rfl, rfl, rfl, rfl, rfl⟩, HI.out f, c4, ((HA4.out.set2 1 _).set2 3 _).set2 2 _⟩
          · have g48 : (48 : Int) ≤ (bAt u p.b : Int) := by omega
            have g57 : (bAt u p.b : Int) ≤ 57 := by omega
            clear hb
            as_aux_lemma =>
              go_wp2_with fail
              refine (Hc.out _ HT1.out HL1.out).mono ?_
              rintro r w4 ⟨⟨f, rfl, -⟩, hu4⟩
              have ha4 := (HA.out.set2 0 (.int .i64 2)).keep hu4
              obtain ⟨⟨v0, v1, v2, v3, v4, v5⟩, f0, f1, f2, f3, f4, f5⟩ := cells6 ha4.b2
              have HA4 := Lib.hid ha4; clear ha4 hu4
              go_wp2_with fail
              refine Met.intro ?_
              go_step
              refine FR.intro (by rfl) ?_
              exact ⟨⟨2, u.extract p.b p.e, ByteArray.empty, f, 0⟩, ⟨rfl, rfl, rfl, rfl, rfl, rfl⟩, HI.out f, c4, ((HA4.out.set2 1 _).set2 3 _).set2 2 _⟩
        · have hbv : (bAt u p.b : Int) = 34 := by rw [hb]; rfl
          obtain ⟨t, ht⟩ := HStr.out p (List.mem_cons_self ..) hk
          have Hc := Lib.hid (fun wx => str_at u p t wx hs HPV.out hk HEnd.out ht)
          have HI : Hid (IsAt u p ⟨3, u.extract p.b p.e, ⟨t.toArray⟩, 0, 0⟩) := Lib.hid ⟨by rw [hk]; rfl, rfl, fun _ => ⟨t, ht, rfl⟩⟩
          clear hb hk ht
          as_aux_lemma =>
            go_wp2_with fail
            refine (Hc.out _).mono ?_
            rintro r w4 ⟨rfl, hu4⟩
            have ha4 := (HA.out.set2 0 (.int .i64 3)).keep hu4
            obtain ⟨⟨v0, v1, v2, v3, v4, v5⟩, f0, f1, f2, f3, f4, f5⟩ := cells6 ha4.b2
            have HA4 := Lib.hid ha4; clear ha4 hu4
            go_wp2_with fail
            refine Met.intro ?_
            go_step
            refine FR.intro (by rfl) ?_
            exact ⟨⟨3, u.extract p.b p.e, ⟨t.toArray⟩, 0, 0⟩, ⟨rfl, rfl, rfl, rfl, rfl, rfl⟩, HI.out, c4, ((HA4.out.set2 1 _).set2 2 _).set2 3 _⟩
        · have hbv : (bAt u p.b : Int) = 91 := by rw [hb]; rfl
          have Hc := Lib.hid (fun wx => sq_at u p wx hs HPV.out (by omega) HEnd.out)
          have HI : Hid (IsAt u p ⟨5, u.extract p.b p.e, ByteArray.empty, 0, 0⟩) := Lib.hid ⟨by rw [hk]; rfl, rfl, fun h => by omega⟩
          clear hb hk
          as_aux_lemma =>
            go_wp2_with fail
            refine (Hc.out _).mono ?_
            rintro r w4 ⟨rfl, rfl⟩
            go_wp2_with fail
            refine Met.intro ?_
            go_step
            refine FR.intro (by rfl) ?_
            exact ⟨⟨5, u.extract p.b p.e, ByteArray.empty, 0, 0⟩, ⟨rfl, rfl, rfl, rfl, rfl, rfl⟩, HI.out, c4, (((HA.out.set2 0 _).set2 1 _).set2 2 _).set2 3 _⟩
        · have hbv : (bAt u p.b : Int) = 123 := by rw [hb]; rfl
          have Hc := Lib.hid (fun wx => sq_at u p wx hs HPV.out (by omega) HEnd.out)
          have HI : Hid (IsAt u p ⟨5, u.extract p.b p.e, ByteArray.empty, 0, 0⟩) := Lib.hid ⟨by rw [hk]; rfl, rfl, fun h => by omega⟩
          clear hb hk
          as_aux_lemma =>
            go_wp2_with fail
            refine (Hc.out _).mono ?_
            rintro r w4 ⟨rfl, rfl⟩
            go_wp2_with fail
            refine Met.intro ?_
            go_step
            refine FR.intro (by rfl) ?_
            exact ⟨⟨5, u.extract p.b p.e, ByteArray.empty, 0, 0⟩, ⟨rfl, rfl, rfl, rfl, rfl, rfl⟩, HI.out, c4, (((HA.out.set2 0 _).set2 1 _).set2 2 _).set2 3 _⟩
      case restV =>
      refine FR.rest ?_
      rintro g w4 ⟨r, ⟨e2, e3, e6, e7, e8, e9⟩, hat, c4, ha4⟩
      rw [lit289]
      simp only [e2, e3, e6, e7, e8, e9]
      clear e2 e3 e6 e7 e8 e9
      obtain ⟨⟨p0, p1, p2, p3, p4, p5⟩, _⟩ := cells6 ha4.b0
      obtain ⟨⟨r0, r1, r2, r3, r4⟩, t0, t1, t2, t3, t4⟩ := cells5 ha4.b1
      obtain ⟨⟨q0, q1, q2, q3, q4, q5⟩, f0, f1, f2, f3, f4, f5⟩ := cells6 ha4.b2
      have hrl : (r.raw.size : Int) = (p.e : Int) - (p.b : Int) := by rw [hat.2.1, ByteArray.size_extract]; omega
      have HAt := Lib.hid hat; clear hat
      have HA4 := Lib.hid ha4; clear ha4
      have HNews := Lib.hid (cells_lit (w4.setCell ⟨w.heap.size + 1 + 1, 4, none⟩ (.int .i64 (p.b : Int))) (Rs.cells ⟨r.ty, r.raw, r.st, r.f, (p.b : Int)⟩) 57 ⟨w4.heap.size, 0, none⟩ (by simp))
      have HOwn := Lib.hid ((HA4.out.set2 4 (.int .i64 (p.b : Int))).row.upd ((Upd.refl NoB _).alloc (.cells #[.int .i64 (r.ty : Int), .string r.raw, .string r.st, .float .f64 r.f, .int .i64 (p.b : Int), .slice none 0 0] 57)) (fun _ _ _ h => h))
      have HUp := Lib.hid ((HA4.out.set2 4 (.int .i64 (p.b : Int))).keep ((Upd.refl NoB _).alloc (.cells #[.int .i64 (r.ty : Int), .string r.raw, .string r.st, .float .f64 r.f, .int .i64 (p.b : Int), .slice none 0 0] 57)))
      have hs4 := HA4.out.sz
      go_wp2_with (at_builtin; refine wpList_app_res rfl _ _ rfl (w.heap.size + 4) (.slice va l.length vcap) l rfl ?hown ⟨r.ty, r.raw, r.st, r.f, (p.b : Int)⟩ ⟨w4.heap.size, 0, none⟩ 1 rfl ?hnews ?hb ?hB ?_)
      case hown => exact HOwn.out
      case hnews => exact HNews.out
      case hb => exact hsl
      case hB => simp only [World.size_alloc, World.size_setCell]; omega
      intro v' w5 hrow hupd hat2
      obtain ⟨va2, vcap2, rfl⟩ := hrow.len
      obtain ⟨⟨r0, r1, r2, r3, r4⟩, t0, t1, t2, t3, t4⟩ := cells5 (hupd.blk HUp.out.b1 (fun hc => by have := (HUp.out.row.lt _ hc).1; omega))
      have ha5 := HUp.out.app hupd hrow
      rw [List.length_append, List.length_singleton] at ha5
      have HA5 := Lib.hid ha5; clear ha5
      have HAll2 := Lib.hid (AllAt.snoc (r := ⟨r.ty, r.raw, r.st, r.f, (p.b : Int)⟩) HAt.out dn l HAll.out)
      clear hrow hupd hat2 p0 p1 p2 p3 p4 p5 q0 q1 q2 q3 q4 q5 f0 f1 f2 f3 f4 f5 hs4
      as_aux_lemma =>
        go_wp2_with fail
        refine Handed.intro (u.size - p.e) ?_ ?_
        · have := Hm.out; omega
        go_step
        refine FR.intro (by rfl) ?_
        exact ⟨p.e, rs, rfl, ⟨rfl, rfl, rfl, rfl, by simp only [slotOf]; congr 1; omega, rfl⟩, HNE2.out, (fun q hq => HStr.out q (List.mem_cons_of_mem _ hq)), dn ++ [p], l ++ [⟨r.ty, r.raw, r.st, r.f, (p.b : Int)⟩], by rw [HPs.out, List.append_assoc]; rfl, HAll2.out, by rw [List.length_append, List.length_singleton]; omega, _, _, _, _, _, _, HA5.out⟩
end Go.Proofs.YtggdcpmampjncaaGreatDoor
