/- The reference's reader: values, elements, members. -/
import Derived.Test.YtggdcpmampjncaaGreatDoorRead2
import Derived.Test.YtggdcpmampjncaaGreatDoorAppP
namespace Go.Proofs.YtggdcpmampjncaaGreatDoor
open Go.RowKit

/-- What value, elements, members return. -/
def ValRet (g : Nat) (s : ByteArray) (i : Nat) (w : World) (e : Ending) (w' : World) : Prop :=
  ∃ b p nv kv j, e = .returned (.tuple #[.agg #[.int .i64 (p.kind : Int), .int .i64 (p.b : Int), .int .i64 (p.e : Int), nv, kv], .bool b]) ∧ RS 50 g s j w' ∧ Upd (OneB g) w w' ∧ i ≤ j ∧ j ≤ s.size ∧
      RdP w' (fun k => w.heap.size ≤ k) p nv kv ∧ (b = true → i < j ∧ PVal s p ∧ p.b = i ∧ p.e = j) ∧ (b = false → ∀ q, PVal s q → q.b ≠ i)
def ElsRet (g : Nat) (s : ByteArray) (i : Nat) (w : World) (e : Ending) (w' : World) : Prop :=
  ∃ b ks kv j, e = .returned (.tuple #[kv, .bool b]) ∧ RS 50 g s j w' ∧ Upd (OneB g) w w' ∧ i < j ∧ j ≤ s.size ∧
      RdK w' (fun k => w.heap.size ≤ k) kv ks ∧ (b = true → ArrB s (i + 1) ks j) ∧ (b = false → ∀ ks e, ¬ ArrB s (i + 1) ks e)
def MemRet (g : Nat) (s : ByteArray) (i : Nat) (w : World) (e : Ending) (w' : World) : Prop :=
  ∃ b ns ks nv kv j, e = .returned (.tuple #[nv, kv, .bool b]) ∧ RS 50 g s j w' ∧ Upd (OneB g) w w' ∧ i < j ∧ j ≤ s.size ∧
      RdN w' (fun k => w.heap.size ≤ k) nv ns ∧ RdK w' (fun k => w.heap.size ≤ k) kv ks ∧ (b = true → ObjB s (i + 1) ks ns j) ∧ (b = false → ∀ ks ns e, ¬ ObjB s (i + 1) ks ns e)
/-- What the reader's value does at i. -/
def ValAt (g : Nat) (s : ByteArray) (i : Nat) : Prop := ∀ w, RS 50 g s i w →
  Calls Tryz.prog 19 #[.pointer (some ⟨g, 0, none⟩)] w (ValRet g s i w)
def ElsAt (g : Nat) (s : ByteArray) (i : Nat) : Prop := ∀ w, RS 50 g s i w →
  Calls Tryz.prog 41 #[.pointer (some ⟨g, 0, none⟩)] w (ElsRet g s i w)
def MemsAt (g : Nat) (s : ByteArray) (i : Nat) : Prop := ∀ w, RS 50 g s i w →
  Calls Tryz.prog 40 #[.pointer (some ⟨g, 0, none⟩)] w (MemRet g s i w)

theorem Bls.of_blanks {s : ByteArray} {a c : Nat} (h1 : a ≤ c) (h2 : c ≤ s.size) (h3 : ∀ k, a ≤ k → k < c → isBl (bAt s k) = true) : Bls s a c := ⟨h1, h2, h3⟩

set_option maxHeartbeats 1000000 in
theorem els_of (g : Nat) (s : ByteArray) (i : Nat) (hs : s.size ≤ 1099511627776) (hi : i < s.size) (hV : ∀ j, i < j → j ≤ s.size → ValAt g s j) : ElsAt g s i := by
  intro w hr
  have hs' : s.size ≤ maxLen := by unfold maxLen; omega
  have HV := Lib.hid hV; clear hV
  have hg := hr.lt
  have hc0 := hr.c0
  have hc1 := hr.c1
  have hfz := hr.fz
  go_enter Tryz.func41, Tryz.ntmps41
  go_wp2_with fail
  clear hc0 hc1 hfz
  refine (blanks_any g s (i + 1) _ hs' (hr.set (i + 1)) (by omega)).mono ?_
  rintro e w1 ⟨rfl, c, hic, hcs, hr1, hu1, hb1, hz1⟩
  have HM1 := Lib.hid (BlsM.mk' hic hcs hb1 hz1)
  have Hb1 := Lib.hid (Bls.of_blanks hic hcs hb1)
  have hU1 : Upd (OneB g) w w1 := ((Upd.refl _ w).setOne 1 _).trans hu1
  clear hb1 hu1 hz1
  go_wp2_with fail
  refine (take_any g s c 93 w1 hs' hr1 (by omega) (by omega)).mono ?_
  rintro e w2 ⟨b2, c2, rfl, hr2, hu2, ht2, hf2⟩
  cases b2
  · obtain ⟨rfl, hne2⟩ := hf2 rfl
    have Hne2 := Lib.hid (ne_of_take hne2 (by decide))
    have hU2 : Upd (OneB g) w w2 := hU1.trans hu2
    clear ht2 hf2 hu2 hr1 hU1 hne2
    go_wp2_with fail
    go_loopg [4] (s.size - c2) (fun m v wr => ∃ ks j, m = s.size - j ∧ c2 ≤ j ∧ j ≤ s.size ∧ ks.length ≤ j ∧ RS 50 g s j wr ∧ Upd (OneB g) w wr ∧ RowK w.heap.size NoB wr v ks ∧ (∀ p ps e, PEls s (p :: ps) j e → PEls s (ks ++ p :: ps) c2 e) ∧ (∀ qs e, PEls s qs c2 e → ∃ rs, PEls s rs j e))
    case atStart => exact ⟨[], c2, rfl, Nat.le_refl _, hcs, Nat.zero_le _, hr2, hU2, RowK.nil _ _ _, (fun p ps e h => h), fun qs e h => ⟨qs, h⟩⟩
    case round =>
      obtain ⟨ks, j, hm, hj, hjs, hkl, hrj, hUj, hrd, hpe, hpn⟩ := hrel
      have Hm := Lib.hid hm; clear hm
      have Hp := Lib.hid hpe; clear hpe
      have Hq := Lib.hid hpn; clear hpn
      have HR := Lib.hid hrd; clear hrd
      clear hr2 hU2 hr
      go_wp2_with fail
      refine (HV.out j (by omega) hjs wr hrj).mono ?_
      rintro e w3 ⟨b3, p, nv, kv, j3, rfl, hr3, hu3, hj3, hj3s, hrp, hv3, hnv3⟩
      obtain ⟨na, nc, ka, kc, rfl, rfl⟩ := hrp.shape
      have Hrp := Lib.hid hrp; clear hrp
      cases b3
      · have Hn := Lib.hid (arr_no HM1.out Hne2.out Hq.out (els_no_val (hnv3 rfl)))
        clear hv3 hnv3
        go_wp2_with fail
        go_ret2
        exact ⟨false, [], _, j3, rfl, hr3.upd ((Upd.refl NoB _).alloc _) (fun h => h.elim), (hUj.trans hu3).alloc _, by omega, hj3s, RdK_nil _ _, (fun h => by cases h), fun _ => Hn.out⟩
      · have Hv := Lib.hid (hv3 rfl); clear hv3 hnv3
        go_wp2_with (at_builtin; refine wpList_app_place rfl _ _ rfl w.heap.size NoB _ ks rfl ?hown p (.slice na p.names.length nc) (.slice ka p.kids.length kc) ?hp ⟨w3.heap.size + 1, 0, none⟩ rfl ?hnews ?hb ?hB ?hE ?_)
        case hown => exact HR.out.upd ((hu3.alloc _).alloc _) (fun b hb _ _ hc => by have : b = g := hc; omega)
        case hE => exact fun b hb => hb.elim
        case hp => exact RdP.mono (fun b _ hb => ⟨Nat.le_trans hUj.size hb, fun hc => by have := (HR.out.lt b hc).2; omega, fun h => h⟩) _ _ _ (RdP.upd (((Upd.refl NoB w3).alloc _).alloc _) (fun b _ hc => hc.elim) _ _ _ Hrp.out)
        case hnews =>
          have h := cells_new (w3.alloc (.cells #[.int .i64 (p.kind : Int), .int .i64 (p.b : Int), .int .i64 (p.e : Int), .slice na p.names.length nc, .slice ka p.kids.length kc] 31)) [.int .i64 (p.kind : Int), .int .i64 (p.b : Int), .int .i64 (p.e : Int), .slice na p.names.length nc, .slice ka p.kids.length kc] 31
          rw [World.size_alloc] at h
          exact h
        case hb => omega
        case hB => have h1 := hUj.size; have h2 := hu3.size; simp; omega
        intro v4 w4 hrow hupd
        have hg4 : ¬ (u4.ownBlock = some g) := fun hc => by have := (HR.out.lt g hc).1; omega
        have hr4 : RS 50 g s j3 w4 := (hr3.upd (((Upd.refl NoB w3).alloc _).alloc _) (fun h => h)).upd hupd hg4
        have hU4 : Upd (OneB g) w w4 := ((((hUj.trans hu3).alloc _).alloc _)).then hupd (fun b hb => .inr (HR.out.lt b hb).1)
        have Hrow := Lib.hid hrow
        have hv4 := Hv.out.1
        clear hrow hupd HR Hrp hg4
        go_wp2_with fail
        refine (blanks_any g s j3 _ hs' hr4 hj3s).mono ?_
        rintro e w5 ⟨rfl, c5, hic5, hcs5, hr5, hu5, hb5, hz5⟩
        have Hb5 := Lib.hid (Bls.of_blanks hic5 hcs5 hb5)
        have HM5 := Lib.hid (BlsM.mk' hic5 hcs5 hb5 hz5)
        clear hb5 hz5
        have Hrow5 := Lib.hid (Hrow.out.upd hu5 (fun b hb _ _ hc => by have : b = g := hc; omega))
        clear Hrow
        go_wp2_with fail
        refine (take_any g s c5 93 w5 hs' hr5 (by omega) (by omega)).mono ?_
        rintro e w6 ⟨b6, c6, rfl, hr6, hu6, ht6, hf6⟩
        cases b6
        · obtain ⟨rfl, hne6⟩ := hf6 rfl
          have Hne6 := Lib.hid (ne_of_take hne6 (by decide))
          clear ht6 hf6 hne6
          go_wp2_with fail
          refine (take_any g s c6 44 w6 hs' hr6 (by omega) (by omega)).mono ?_
          rintro e w7 ⟨b7, c7, rfl, hr7, hu7, ht7, hf7⟩
          cases b7
          · obtain ⟨rfl, hne7⟩ := hf7 rfl
            have Hn := Lib.hid (arr_no HM1.out Hne2.out Hq.out (els_no_sep Hv.out.2.1 Hv.out.2.2.1 (by rw [Hv.out.2.2.2]; exact HM5.out) Hne6.out (ne_of_take hne7 (by decide))))
            clear ht7 hf7 hne7
            go_wp2_with fail
            go_ret2
            exact ⟨false, [], _, c7, rfl, hr7, ((hU4.trans hu5).trans hu6).trans hu7, by omega, hcs5, RdK_nil _ _, (fun h => by cases h), fun _ => Hn.out⟩
          · obtain ⟨h71, h72, rfl⟩ := ht7 rfl
            clear ht7 hf7
            have H72 := Lib.hid h72
            clear h72
            go_wp2_with fail
            refine (blanks_any g s (c6 + 1) _ hs' hr7 (by omega)).mono ?_
            rintro e w8 ⟨rfl, c8, hic8, hcs8, hr8, hu8, hb8, hz8⟩
            have Hb8 := Lib.hid (Bls.of_blanks hic8 hcs8 hb8)
            have HM8 := Lib.hid (BlsM.mk' hic8 hcs8 hb8 hz8)
            clear hb8 hz8
            go_wp2_with fail
            go_roundg (s.size - c8)
            case measure => have := Hm.out; omega
            case rel => exact ⟨ks ++ [p], c8, rfl, by omega, hcs8, by rw [List.length_append, List.length_singleton]; omega, hr8, ((((hU4.trans hu5).trans hu6).trans hu7).trans hu8), Hrow5.out.upd ((hu6.trans hu7).trans hu8) (fun b hb _ _ hc => by have : b = g := hc; omega), (fun q qs e hq => by
              rw [List.append_assoc]
              refine Hp.out p (q :: qs) e ?_
              simp only [PEls] at hq ⊢
              exact ⟨Hv.out.2.2.1, Hv.out.2.1, by rw [Hv.out.2.2.2]; exact hj3s, c6, by rw [Hv.out.2.2.2]; exact Hb5.out, h71, .inr ⟨by have := H72.out; omega, c8, Hb8.out, hq⟩⟩), fun qs e hq => by
              obtain ⟨rs, h⟩ := Hq.out qs e hq
              exact els_step Hv.out.2.1 Hv.out.2.2.1 (by rw [Hv.out.2.2.2]; exact HM5.out) H72.out HM8.out rs e h⟩
        · obtain ⟨h61, h62, rfl⟩ := ht6 rfl
          clear ht6 hf6
          have H62 := Lib.hid h62
          clear h62
          go_wp2_with fail
          go_ret2
          exact ⟨true, ks ++ [p], _, c5 + 1, rfl, hr6, (hU4.trans hu5).trans hu6, by omega, by omega, (Hrow5.out.upd hu6 (fun b hb _ _ hc => by have : b = g := hc; omega)).read, (fun _ => ⟨c2, Hb1.out, .inr (Hp.out p [] (c5 + 1) (by
            simp only [PEls]
            exact ⟨Hv.out.2.2.1, Hv.out.2.1, by rw [Hv.out.2.2.2]; exact hj3s, c5, by rw [Hv.out.2.2.2]; exact Hb5.out, h61, .inl ⟨trivial, by have := H62.out; omega, rfl⟩⟩))⟩), (fun h => by cases h)⟩
  · obtain ⟨h21, h22, rfl⟩ := ht2 rfl
    clear ht2 hf2
    have H22 := Lib.hid h22
    clear h22
    go_wp2_with fail
    go_ret2
    exact ⟨true, [], _, c + 1, rfl, hr2, hU1.trans hu2, by omega, by omega, RdK_nil _ _, (fun _ => ⟨c, Hb1.out, .inl ⟨rfl, h21, by have := H22.out; omega, rfl⟩⟩), (fun h => by cases h)⟩

set_option maxHeartbeats 1000000 in
theorem mems_of (g : Nat) (s : ByteArray) (i : Nat) (hs : s.size ≤ 1099511627776) (hi : i < s.size) (hV : ∀ j, i < j → j ≤ s.size → ValAt g s j) : MemsAt g s i := by
  intro w hr
  have hs' : s.size ≤ maxLen := by unfold maxLen; omega
  have HV := Lib.hid hV; clear hV
  have hg := hr.lt
  have hc0 := hr.c0
  have hc1 := hr.c1
  have hfz := hr.fz
  go_enter Tryz.func40, Tryz.ntmps40
  go_wp2_with fail
  clear hc0 hc1 hfz
  refine (blanks_any g s (i + 1) _ hs' (hr.set (i + 1)) (by omega)).mono ?_
  rintro e w1 ⟨rfl, c, hic, hcs, hr1, hu1, hb1, hz1⟩
  have HM1 := Lib.hid (BlsM.mk' hic hcs hb1 hz1)
  have Hb1 := Lib.hid (Bls.of_blanks hic hcs hb1)
  have hU1 : Upd (OneB g) w w1 := ((Upd.refl _ w).setOne 1 _).trans hu1
  clear hb1 hu1 hz1
  go_wp2_with fail
  refine (take_any g s c 125 w1 hs' hr1 (by omega) (by omega)).mono ?_
  rintro e w2 ⟨b2, c2, rfl, hr2, hu2, ht2, hf2⟩
  cases b2
  · obtain ⟨rfl, hne2⟩ := hf2 rfl
    have Hne2 := Lib.hid (ne_of_take hne2 (by decide))
    have hU2 : Upd (OneB g) w w2 := hU1.trans hu2
    clear ht2 hf2 hu2 hr1 hU1 hne2
    go_wp2_with fail
    go_loopg [5, 6] (s.size - c2) (fun m vn v wr => ∃ ns ks j, m = s.size - j ∧ c2 ≤ j ∧ j ≤ s.size ∧ ks.length ≤ j ∧ ns.length = ks.length ∧ RS 50 g s j wr ∧ Upd (OneB g) w wr ∧ RowN w.heap.size wr vn ns ∧ RowK w.heap.size (fun b => vn.ownBlock = some b) wr v ks ∧ (∀ p ps n e, PMems s (p :: ps) n j e → PMems s (ks ++ p :: ps) (ns ++ n) c2 e) ∧ (∀ qs ns e, PMems s qs ns c2 e → ∃ rs ms, PMems s rs ms j e))
    case atStart => exact ⟨[], [], c2, rfl, Nat.le_refl _, hcs, Nat.zero_le _, rfl, hr2, hU2, RowN.nil _ _, RowK.nil _ _ _, (fun p ps n e h => h), fun qs ns e h => ⟨qs, ns, h⟩⟩
    case round =>
      obtain ⟨ns, ks, j, hm, hj, hjs, hkl, hnl, hrj, hUj, hrn, hrd, hpe, hpn⟩ := hrel
      have Hm := Lib.hid hm; clear hm
      have Hp := Lib.hid hpe; clear hpe
      have HQ := Lib.hid hpn; clear hpn
      have HN := Lib.hid hrn; clear hrn
      have HR := Lib.hid hrd; clear hrd
      have Hnl := Lib.hid hnl; clear hnl
      have hc0 := hrj.c0
      have hc1 := hrj.c1
      clear hr2 hU2 hr
      by_cases hq : bAt s j = 34
      · have hq1 : ((bAt s j : Int) != 34) = false := by rw [hq]; rfl
        have hjl : j < s.size := lt_of_bAt (by omega)
        have Hq := Lib.hid hq; clear hq
        go_wp2_with fail
        refine (here_any g s j _ hs' hrj).mono ?_
        rintro e w3 ⟨rfl, n3, rfl⟩
        go_wp2_with fail
        refine (quoted_any g s j _ hs (hrj.drewN _) hjl).mono ?_
        rintro e w4 ⟨b4, m4, rfl, hr4, hu4, hm4, hm4s, hx4, hnx4⟩
        clear hc0 hc1 hq1
        have hU4 : Upd (OneB g) wr w4 := ((Upd.refl _ wr).drewN _).trans hu4
        have hc0 := hr4.c0
        have hc1 := hr4.c1
        cases b4
        · have Hn := Lib.hid (obj_no HM1.out Hne2.out HQ.out (mems_no_str (hnx4 rfl)))
          clear hx4 hnx4
          go_wp2_with fail
          go_ret3
          exact ⟨false, [], [], _, _, m4, rfl, hr4, hUj.trans hU4, by omega, hm4s, RdN_nil _ _, RdK_nil _ _, (fun h => by cases h), fun _ => Hn.out⟩
        · have Hx4 := Lib.hid (hx4 rfl); clear hx4 hnx4
          have HS4 : Hid (PStr s j m4) := Lib.hid ⟨hjl, Hq.out, Hx4.out, hm4s⟩
          go_wp2_with (at_builtin; refine wpList_app_span rfl _ _ rfl w.heap.size _ ns rfl ?hown j m4 ⟨w4.heap.size, 0, none⟩ rfl ?hnews ?hb ?hB ?_)
          case hown => exact HN.out.upd (hU4.alloc _) (fun b hb hc => by have : b = g := hc; have := (HN.out.lt b hb).1; omega)
          case hnews => exact cells_new w4 [.int .i64 (j : Int), .int .i64 (m4 : Int)] 102
          case hb => have := Hnl.out; omega
          case hB => have h1 := hUj.size; have h2 := hU4.size; simp; omega
          intro v5 w5 hrow5 hupd5 hat5
          have hg5 : ¬ (u5.ownBlock = some g) := fun hc => by have := (HN.out.lt g hc).1; omega
          have hr5 : RS 50 g s m4 w5 := (hr4.upd ((Upd.refl NoB w4).alloc _) (fun h => h)).upd hupd5 hg5
          have hU5 : Upd (OneB g) w w5 := ((hUj.trans hU4).alloc _).then hupd5 (fun b hb => .inr (HN.out.lt b hb).1)
          have Hrow5 := Lib.hid hrow5
          have hm45 : w4.heap.size + 1 ≤ w5.heap.size := by have := hupd5.size; simp at this; omega
          have HR5 : Hid (RowK w.heap.size (fun b => v5.ownBlock = some b) w5 u6 ks) := Lib.hid (((HR.out.exc (E' := fun b => u5.ownBlock = some b ∨ v5.ownBlock = some b) (fun b h1 h2 h3 hc => by
            rcases hc with hc | hc
            · exact h3 hc
            · rcases hat5 b hc with e | e
              · exact h3 e
              · have h7 := hU4.size; (try simp at e); omega)).upd (hU4.alloc _) (fun b hb _ _ hc => by have : b = g := hc; omega)).upd hupd5 (fun b _ _ hb hc => hb (.inl hc))|>.exc (fun b _ _ hb hc => hb (.inr hc)))
          clear hrow5 hupd5 hat5 HN HR hg5 hU4 hUj hc0 hc1 hu4
          go_wp2_with fail
          refine (blanks_any g s m4 _ hs' hr5 hm4s).mono ?_
          rintro e w6 ⟨rfl, c6, hic6, hcs6, hr6, hu6, hb6, hz6⟩
          have Hb6 := Lib.hid (Bls.of_blanks hic6 hcs6 hb6)
          have HM6 := Lib.hid (BlsM.mk' hic6 hcs6 hb6 hz6)
          clear hb6 hz6
          go_wp2_with fail
          refine (take_any g s c6 58 w6 hs' hr6 (by omega) (by omega)).mono ?_
          rintro e w7 ⟨b7, c7, rfl, hr7, hu7, ht7, hf7⟩
          cases b7
          · obtain ⟨rfl, hne7⟩ := hf7 rfl
            have Hn := Lib.hid (obj_no HM1.out Hne2.out HQ.out (mems_no_colon HS4.out HM6.out (ne_of_take hne7 (by decide))))
            clear ht7 hf7 hne7
            go_wp2_with fail
            go_ret3
            exact ⟨false, [], [], _, _, c7, rfl, hr7, (hU5.trans hu6).trans hu7, by omega, hcs6, RdN_nil _ _, RdK_nil _ _, (fun h => by cases h), fun _ => Hn.out⟩
          obtain ⟨h71, h72, rfl⟩ := ht7 rfl
          clear ht7 hf7
          have H72 := Lib.hid h72
          clear h72
          go_wp2_with fail
          refine (blanks_any g s (c6 + 1) _ hs' hr7 (by omega)).mono ?_
          rintro e w8 ⟨rfl, c8, hic8, hcs8, hr8, hu8, hb8, hz8⟩
          have Hb8 := Lib.hid (Bls.of_blanks hic8 hcs8 hb8)
          have HM8 := Lib.hid (BlsM.mk' hic8 hcs8 hb8 hz8)
          clear hb8 hz8
          have hU8 : Upd (OneB g) w w8 := ((hU5.trans hu6).trans hu7).trans hu8
          have hU58 : Upd (OneB g) w5 w8 := (hu6.trans hu7).trans hu8
          have Hrow8 := Lib.hid (Hrow5.out.upd hU58 (fun b hb hc => by have : b = g := hc; have := (Hrow5.out.lt b hb).1; omega))
          have HR8 := Lib.hid (HR5.out.upd hU58 (fun b hb _ _ hc => by have : b = g := hc; omega))
          clear Hrow5 HR5 hu6 hu7 hu8 hU5 hU58
          go_wp2_with fail
          refine (HV.out c8 (by omega) hcs8 w8 hr8).mono ?_
          rintro e w9 ⟨b9, p, nv, kv, j9, rfl, hr9, hu9, hj9, hj9s, hrp, hv9, hnv9⟩
          obtain ⟨na, nc, ka, kc, rfl, rfl⟩ := hrp.shape
          have Hrp := Lib.hid hrp; clear hrp
          cases b9
          · have Hn := Lib.hid (obj_no HM1.out Hne2.out HQ.out (mems_no_val HS4.out HM6.out HM8.out (hnv9 rfl)))
            clear hv9 hnv9
            go_wp2_with fail
            go_ret3
            exact ⟨false, [], [], _, _, j9, rfl, hr9.upd ((Upd.refl NoB _).alloc _) (fun h => h.elim), (hU8.trans hu9).alloc _, by omega, hj9s, RdN_nil _ _, RdK_nil _ _, (fun h => by cases h), fun _ => Hn.out⟩
          have Hv := Lib.hid (hv9 rfl); clear hv9 hnv9
          go_wp2_with (at_builtin; refine wpList_app_place rfl _ _ rfl w.heap.size (fun b => v5.ownBlock = some b) _ ks rfl ?hownK p (.slice na p.names.length nc) (.slice ka p.kids.length kc) ?hpK ⟨w9.heap.size + 1, 0, none⟩ rfl ?hnewsK ?hbK ?hBK ?hEK ?_)
          case hownK => exact HR8.out.upd ((hu9.alloc _).alloc _) (fun b hb _ _ hc => by have : b = g := hc; omega)
          case hpK => exact RdP.mono (fun b _ hb => ⟨Nat.le_trans hU8.size hb, fun hc => by have := (HR8.out.lt b hc).2; omega, fun hc => by have := (Hrow8.out.lt b hc).2; omega⟩) _ _ _ (RdP.upd (((Upd.refl NoB w9).alloc _).alloc _) (fun b _ hc => hc.elim) _ _ _ Hrp.out)
          case hnewsK =>
            have h := cells_new (w9.alloc (.cells #[.int .i64 (p.kind : Int), .int .i64 (p.b : Int), .int .i64 (p.e : Int), .slice na p.names.length nc, .slice ka p.kids.length kc] 31)) [.int .i64 (p.kind : Int), .int .i64 (p.b : Int), .int .i64 (p.e : Int), .slice na p.names.length nc, .slice ka p.kids.length kc] 31
            rw [World.size_alloc] at h
            exact h
          case hbK => omega
          case hBK => have h1 := hU8.size; have h2 := hu9.size; simp; omega
          case hEK => exact fun b hb => by have h1 := (Hrow8.out.lt b hb).2; have h2 := hu9.size; simp; omega
          intro v10 w10 hrow10 hupd10
          have hg10 : ¬ (u6.ownBlock = some g) := fun hc => by have := (HR8.out.lt g hc).1; omega
          have hr10 : RS 50 g s j9 w10 := (hr9.upd (((Upd.refl NoB w9).alloc _).alloc _) (fun h => h)).upd hupd10 hg10
          have hU10 : Upd (OneB g) w w10 := ((((hU8.trans hu9).alloc _).alloc _)).then hupd10 (fun b hb => .inr (HR8.out.lt b hb).1)
          have HN10 : Hid (RowN w.heap.size w10 v5 (ns ++ [(j, m4)])) := Lib.hid ((Hrow8.out.upd ((hu9.alloc _).alloc _) (fun b hb hc => by have : b = g := hc; have := (Hrow8.out.lt b hb).1; omega)).upd hupd10 (fun b hb hc => HR8.out.out b hc hb))
          have HK10 := Lib.hid hrow10
          have hv10 := Hv.out.1
          clear hrow10 hupd10 HR8 Hrow8 Hrp hg10
          go_wp2_with fail
          refine (blanks_any g s j9 _ hs' hr10 hj9s).mono ?_
          rintro e w11 ⟨rfl, c11, hic11, hcs11, hr11, hu11, hb11, hz11⟩
          have Hb11 := Lib.hid (Bls.of_blanks hic11 hcs11 hb11)
          have HM11 := Lib.hid (BlsM.mk' hic11 hcs11 hb11 hz11)
          clear hb11 hz11
          go_wp2_with fail
          refine (take_any g s c11 125 w11 hs' hr11 (by omega) (by omega)).mono ?_
          rintro e w12 ⟨b12, c12, rfl, hr12, hu12, ht12, hf12⟩
          cases b12
          · obtain ⟨rfl, hne12⟩ := hf12 rfl
            have Hne12 := Lib.hid (ne_of_take hne12 (by decide))
            clear ht12 hf12 hne12
            go_wp2_with fail
            refine (take_any g s c12 44 w12 hs' hr12 (by omega) (by omega)).mono ?_
            rintro e w13 ⟨b13, c13, rfl, hr13, hu13, ht13, hf13⟩
            cases b13
            · obtain ⟨rfl, hne13⟩ := hf13 rfl
              have Hn := Lib.hid (obj_no HM1.out Hne2.out HQ.out (mems_no_sep HS4.out HM6.out HM8.out Hv.out.2.1 Hv.out.2.2.1 (by rw [Hv.out.2.2.2]; exact HM11.out) Hne12.out (ne_of_take hne13 (by decide))))
              clear ht13 hf13 hne13
              go_wp2_with fail
              go_ret3
              exact ⟨false, [], [], _, _, c13, rfl, hr13, ((hU10.trans hu11).trans hu12).trans hu13, by omega, hcs11, RdN_nil _ _, RdK_nil _ _, (fun h => by cases h), fun _ => Hn.out⟩
            · obtain ⟨h131, h132, rfl⟩ := ht13 rfl
              clear ht13 hf13
              have H132 := Lib.hid h132
              clear h132
              go_wp2_with fail
              refine (blanks_any g s (c12 + 1) _ hs' hr13 (by omega)).mono ?_
              rintro e w14 ⟨rfl, c14, hic14, hcs14, hr14, hu14, hb14, hz14⟩
              have Hb14 := Lib.hid (Bls.of_blanks hic14 hcs14 hb14)
              have HM14 := Lib.hid (BlsM.mk' hic14 hcs14 hb14 hz14)
              clear hb14 hz14
              go_wp2_with fail
              go_roundg (s.size - c14)
              case measure => have := Hm.out; omega
              case rel =>
                have hUU : Upd (OneB g) w10 w14 := ((hu11.trans hu12).trans hu13).trans hu14
                exact ⟨ns ++ [(j, m4)], ks ++ [p], c14, rfl, by omega, hcs14, by rw [List.length_append, List.length_singleton]; omega, by rw [List.length_append, List.length_append, Hnl.out]; rfl, hr14, hU10.trans hUU, HN10.out.upd hUU (fun b hb hc => by have : b = g := hc; have := (HN10.out.lt b hb).1; omega), HK10.out.upd hUU (fun b hb _ _ hc => by have : b = g := hc; omega), (fun q qs n e hq2 => by
                  rw [List.append_assoc, List.append_assoc]
                  refine Hp.out p (q :: qs) ((j, m4) :: n) e ?_
                  rw [PMems]
                  exact ⟨m4, n, rfl, ⟨hjl, Hq.out, Hx4.out, hm4s⟩, c6, Hb6.out, h71, by have := H72.out; omega, c8, Hb8.out, Hv.out.2.2.1, Hv.out.2.1, by rw [Hv.out.2.2.2]; exact hj9s, c12, by rw [Hv.out.2.2.2]; exact Hb11.out, h131, .inr ⟨by have := H132.out; omega, c14, Hb14.out, hq2⟩⟩), fun qs ns' e hq2 => by
                  obtain ⟨rs, ms, h⟩ := HQ.out qs ns' e hq2
                  exact mems_step HS4.out HM6.out HM8.out Hv.out.2.1 Hv.out.2.2.1 (by rw [Hv.out.2.2.2]; exact HM11.out) H132.out HM14.out rs ms e h⟩
          · obtain ⟨h121, h122, rfl⟩ := ht12 rfl
            clear ht12 hf12
            have H122 := Lib.hid h122
            clear h122
            go_wp2_with fail
            go_ret3
            exact ⟨true, ns ++ [(j, m4)], ks ++ [p], _, _, c11 + 1, rfl, hr12, (hU10.trans hu11).trans hu12, by omega, by omega, (HN10.out.upd (hu11.trans hu12) (fun b hb hc => by have : b = g := hc; have := (HN10.out.lt b hb).1; omega)).read, (HK10.out.upd (hu11.trans hu12) (fun b hb _ _ hc => by have : b = g := hc; omega)).read, (fun _ => ⟨c2, Hb1.out, .inr (Hp.out p [] [(j, m4)] (c11 + 1) (by
              rw [PMems]
              exact ⟨m4, [], rfl, ⟨hjl, Hq.out, Hx4.out, hm4s⟩, c6, Hb6.out, h71, by have := H72.out; omega, c8, Hb8.out, Hv.out.2.2.1, Hv.out.2.1, by rw [Hv.out.2.2.2]; exact hj9s, c11, by rw [Hv.out.2.2.2]; exact Hb11.out, h121, .inl ⟨rfl, rfl, by have := H122.out; omega, rfl⟩⟩))⟩), (fun h => by cases h)⟩
      · have hq1 : ((bAt s j : Int) != 34) = true := by simp; omega
        have Hn := Lib.hid (obj_no HM1.out Hne2.out HQ.out (mems_no_q (by omega)))
        go_wp2_with fail
        refine (here_any g s j _ hs' hrj).mono ?_
        rintro e w3 ⟨rfl, n3, rfl⟩
        go_wp2_with fail
        go_ret3
        exact ⟨false, [], [], _, _, j, rfl, hrj.drewN _, hUj.drewN _, by omega, hjs, RdN_nil _ _, RdK_nil _ _, (fun h => by cases h), fun _ => Hn.out⟩
  · obtain ⟨h21, h22, rfl⟩ := ht2 rfl
    clear ht2 hf2
    have H22 := Lib.hid h22
    clear h22
    go_wp2_with fail
    go_ret3
    exact ⟨true, [], [], _, _, c + 1, rfl, hr2, hU1.trans hu2, by omega, by omega, RdN_nil _ _, RdK_nil _ _, (fun _ => ⟨c, Hb1.out, .inl ⟨rfl, rfl, h21, by have := H22.out; omega, rfl⟩⟩), (fun h => by cases h)⟩

theorem Wd_bounds {s : ByteArray} {i : Nat} {l : List UInt8} (h : Wd s i l) : i + l.length ≤ s.size := h.1
theorem PNum_le {s : ByteArray} {i j : Nat} (h : PNum s i j) : i < j ∧ j ≤ s.size := by
  obtain ⟨a, b, c, h1, h2, h3, h4⟩ := h
  have e1 : i ≤ a := by rcases h1 with ⟨h, _⟩ | ⟨_, _, h⟩ <;> omega
  have e2 : a < b ∧ b ≤ s.size := by rcases h2 with ⟨_, _, h⟩ | ⟨_, h, hd⟩ <;> first | omega | exact ⟨h, hd.2.1⟩
  have e3 : b ≤ c ∧ c ≤ s.size := by rcases h3 with ⟨h, _⟩ | ⟨_, _, h, hd⟩ <;> first | omega | exact ⟨by omega, hd.2.1⟩
  rcases h4 with ⟨h, _⟩ | ⟨_, _, d, h5, h, hd⟩
  · omega
  · exact ⟨by rcases h5 with ⟨h, _⟩ | ⟨_, _, h⟩ <;> omega, hd.2.1⟩

/-- A place with no names and no kids, as the reader leaves it. -/
theorem RdP_leaf (w : World) (F : Nat → Prop) (k b e : Nat) : RdP w F (.mk k b e [] []) (.slice none 0 0) (.slice none 0 0) := RdP_mk.2 ⟨RdN_nil _ _, RdK_nil _ _⟩

/-- The two blocks of value's own: its result, its place. -/
def LocS (B : Nat) : Nat → Prop := fun b => b = B ∨ b = B + 1
theorem RS.loc {T g j B : Nat} {s : ByteArray} {w w1 : World} (h : RS T g s j w) (hg : g < B) (u : Upd (LocS B) w w1) : RS T g s j w1 := h.upd u (fun hc => by rcases hc with h | h <;> omega)
theorem RdP.loc {B : Nat} {w w1 : World} {p : Pl} {nv kv : Value} (h : RdP w (fun b => B + 2 ≤ b) p nv kv) (u : Upd (LocS B) w w1) : RdP w1 (fun b => B ≤ b) p nv kv :=
  RdP.mono (fun b _ hb => by omega) _ _ _ (RdP.upd u (fun b hb hc => by rcases hc with h | h <;> omega) _ _ _ h)
theorem Upd.loc {B g : Nat} {w w1 w2 : World} (h : Upd (OneB g) w w1) (hB : w.heap.size = B) (u : Upd (LocS B) w1 w2) : Upd (OneB g) w w2 := h.then u (fun b hb => .inr (by rcases hb with h | h <;> omega))
theorem five_cells {w : World} {B : Nat} {a b c d e : Value} (h : w.heap[B]? = some (.cells #[a, b, c, d, e] 31 (0, 0))) :
    (w.cell? ⟨B, 0, none⟩ = some a ∧ w.cell? ⟨B, 1, none⟩ = some b ∧ w.cell? ⟨B, 2, none⟩ = some c ∧ w.cell? ⟨B, 3, none⟩ = some d ∧ w.cell? ⟨B, 4, none⟩ = some e) ∧
    (w.frozen? ⟨B, 0, none⟩ = false ∧ w.frozen? ⟨B, 1, none⟩ = false ∧ w.frozen? ⟨B, 2, none⟩ = false ∧ w.frozen? ⟨B, 3, none⟩ = false ∧ w.frozen? ⟨B, 4, none⟩ = false) := by
  refine ⟨⟨?_, ?_, ?_, ?_, ?_⟩, frozen_of_row w B 0 _ _ h, frozen_of_row w B 1 _ _ h, frozen_of_row w B 2 _ _ h, frozen_of_row w B 3 _ _ h, frozen_of_row w B 4 _ _ h⟩
  · rw [cell_of_row w B 0 _ _ _ h]; rfl
  · rw [cell_of_row w B 1 _ _ _ h]; rfl
  · rw [cell_of_row w B 2 _ _ _ h]; rfl
  · rw [cell_of_row w B 3 _ _ _ h]; rfl
  · rw [cell_of_row w B 4 _ _ _ h]; rfl

theorem blk_local (w : World) (A : Obj) (cs : Array Value) (T n : Nat) (v : Value) :
    ((((w.alloc A).alloc (.cells cs T)).drewN n).setCell ⟨w.heap.size + 1, 0, none⟩ v).heap[w.heap.size + 1]? = some (.cells (cs.setIfInBounds 0 v) T (0, 0)) := by
  have h : (((w.alloc A).alloc (.cells cs T)).drewN n).heap[w.heap.size + 1]? = some (.cells cs T (0, 0)) := by
    have := heap_alloc_new (w.alloc A) (.cells cs T)
    rw [World.size_alloc] at this
    exact this
  exact heap_setCell_same _ (w.heap.size + 1) 0 cs T v h
theorem blk_local0 (w : World) (A : Obj) (cs : Array Value) (T n : Nat) :
    (((w.alloc A).alloc (.cells cs T)).drewN n).heap[w.heap.size + 1]? = some (.cells cs T (0, 0)) := by
  have := heap_alloc_new (w.alloc A) (.cells cs T)
  rw [World.size_alloc] at this
  exact this
theorem blk_local1 (w : World) (a b c d e : Value) (T n : Nat) (B : Obj) :
    (((w.alloc (.cells #[a, b, c, d, e] T)).alloc B).drewN n).heap[w.heap.size]? = some (.cells #[a, b, c, d, e] T (0, 0)) := by
  have h := heap_alloc_new w (.cells #[a, b, c, d, e] T)
  have h2 := Below.heap_alloc (w.alloc (.cells #[a, b, c, d, e] T)) B w.heap.size (by simp)
  rw [h] at h2
  exact h2

set_option maxHeartbeats 1000000 in
theorem val_obj (g : Nat) (s : ByteArray) (i : Nat) (hs : s.size ≤ 1099511627776) (hi : i < s.size) (hM : MemsAt g s i) (h123 : bAt s i = 123) : ValAt g s i := by
  intro w hr
  have hs' : s.size ≤ maxLen := by unfold maxLen; omega
  have HM := Lib.hid hM; clear hM
  have hg := hr.lt
  have hc0 := hr.c0
  have hc1 := hr.c1
  have hH := here_any g s i ((w.alloc (.cells #[.int .i64 0, .int .i64 0, .int .i64 0, .slice none 0 0, .slice none 0 0] 31)).alloc (.cells #[.int .i64 0, .int .i64 (i : Int), .int .i64 0, .slice none 0 0, .slice none 0 0] 31)) hs' (hr.upd (((Upd.refl NoB w).alloc _).alloc _) (fun h => h))
  rw [h123] at hH
  have HH := Lib.hid hH; clear hH
  have H123 := Lib.hid h123; clear h123
  go_enter Tryz.func19, Tryz.ntmps19
  go_wp2_with fail
  refine HH.out.mono ?_
  rintro e w1 ⟨rfl, n1, rfl⟩
  clear HH
  go_wp2_with fail
  refine (HM.out _ (by exact hr.upd (S := NoB) (by repeat (first | exact Upd.refl _ _ | refine Upd.drewN ?_ _ | refine Upd.alloc ?_ _ | refine Upd.setCell ?_ (.inr (by simp)) _)) (fun h => h))).mono ?_
  rintro e w2 ⟨b2, ns, ks, nv, kv, j2, rfl, hr2, hu2, hj2, hj2s, hrn2, hrk2, hx2⟩
  obtain ⟨na, nc, rfl⟩ := hrn2.len
  obtain ⟨ka, kc, rfl⟩ := hrk2.len
  have hsz : w.heap.size + 2 ≤ w2.heap.size := by have := hu2.size; simp at this; exact this
  have hB : w.heap.size ≠ g := by omega
  have hb1 := five_cells (hu2.blk (blk_local w _ _ _ n1 (.int .i64 6)) (fun hc => by have : w.heap.size + 1 = g := hc; omega))
  have hb0 := five_cells (hu2.blk (b := w.heap.size) ((Below.heap_setCell _ ⟨w.heap.size + 1, 0, none⟩ (.int .i64 6) w.heap.size (by simp)).trans (blk_local1 w _ _ _ _ _ _ n1 _)) (fun hc => by have : w.heap.size = g := hc; omega))
  obtain ⟨⟨p0, p1, p2, p3, p4⟩, q0, q1, q2, q3, q4⟩ := hb1
  obtain ⟨⟨r0, r1, r2, r3, r4⟩, t0, t1, t2, t3, t4⟩ := hb0
  have hd0 := hr2.c0
  have hd1 := hr2.c1
  have Hx2 := Lib.hid hx2; clear hx2
  have HN := Lib.hid hrn2; clear hrn2
  have HK := Lib.hid hrk2; clear hrk2
  clear hc0 hc1 hB
  go_wp2_with fail
  have U : Upd (LocS w.heap.size) w2 ((((((((w2.setCell ⟨w.heap.size + 1, 3, none⟩ (.slice na ns.length nc)).setCell ⟨w.heap.size + 1, 4, none⟩ (.slice ka ks.length kc)).setCell ⟨w.heap.size + 1, 2, none⟩ (.int .i64 (j2 : Int))).setCell ⟨w.heap.size, 0, none⟩ (.int .i64 6)).setCell ⟨w.heap.size, 1, none⟩ (.int .i64 (i : Int))).setCell ⟨w.heap.size, 2, none⟩ (.int .i64 (j2 : Int))).setCell ⟨w.heap.size, 3, none⟩ (.slice na ns.length nc)).setCell ⟨w.heap.size, 4, none⟩ (.slice ka ks.length kc)) :=
    ((((((((Upd.refl _ _).setCell (.inl (.inr rfl)) _).setCell (.inl (.inr rfl)) _).setCell (.inl (.inr rfl)) _).setCell (.inl (.inl rfl)) _).setCell (.inl (.inl rfl)) _).setCell (.inl (.inl rfl)) _).setCell (.inl (.inl rfl)) _).setCell (.inl (.inl rfl)) _
  refine bodyPost_ret (v := .tuple #[.agg #[.int .i64 6, .int .i64 (i : Int), .int .i64 (j2 : Int), .slice na ns.length nc, .slice ka ks.length kc], .bool b2]) (by simp [results, Tryz.results19, go_sem, r0, r1, r2, r3, r4]) rfl ?_
  refine ⟨b2, .mk 6 i j2 ns ks, _, _, j2, rfl, hr2.loc hg U, ?_, by omega, hj2s, RdP.loc (RdP_mk.2 ⟨?_, ?_⟩) U, (fun hb => ⟨by omega, ?_, rfl, rfl⟩), ?_⟩
  · refine Upd.loc (w := w) (w1 := w2) ?_ rfl U
    refine Upd.trans ?_ hu2
    repeat (first | exact Upd.refl _ _ | refine Upd.drewN ?_ _ | refine Upd.alloc ?_ _ | refine Upd.setCell ?_ (.inr (by simp)) _)
  · exact HN.out.mono (fun b _ h => by simpa using h)
  · exact HK.out.mono (fun b _ h => by simpa using h)
  · obtain ⟨c, h1, h2⟩ := Hx2.out.1 hb
    simp only [PVal]
    exact .inr (.inr (.inr (.inr (.inr (.inr ⟨trivial, hi, H123.out, c, h1, by simpa only [Pl.kids] using h2⟩)))))
  · exact fun hb => val_no_obj H123.out (Hx2.out.2 hb)

set_option maxHeartbeats 1000000 in
theorem val_arr (g : Nat) (s : ByteArray) (i : Nat) (hs : s.size ≤ 1099511627776) (hi : i < s.size) (hM : ElsAt g s i) (h123 : bAt s i = 91) : ValAt g s i := by
  intro w hr
  have hs' : s.size ≤ maxLen := by unfold maxLen; omega
  have HM := Lib.hid hM; clear hM
  have hg := hr.lt
  have hc0 := hr.c0
  have hc1 := hr.c1
  have hH := here_any g s i ((w.alloc (.cells #[.int .i64 0, .int .i64 0, .int .i64 0, .slice none 0 0, .slice none 0 0] 31)).alloc (.cells #[.int .i64 0, .int .i64 (i : Int), .int .i64 0, .slice none 0 0, .slice none 0 0] 31)) hs' (hr.upd (((Upd.refl NoB w).alloc _).alloc _) (fun h => h))
  rw [h123] at hH
  have HH := Lib.hid hH; clear hH
  have H123 := Lib.hid h123; clear h123
  go_enter Tryz.func19, Tryz.ntmps19
  go_wp2_with fail
  refine HH.out.mono ?_
  rintro e w1 ⟨rfl, n1, rfl⟩
  clear HH
  go_wp2_with fail
  refine (HM.out _ (by exact hr.upd (S := NoB) (by repeat (first | exact Upd.refl _ _ | refine Upd.drewN ?_ _ | refine Upd.alloc ?_ _ | refine Upd.setCell ?_ (.inr (by simp)) _)) (fun h => h))).mono ?_
  rintro e w2 ⟨b2, ks, kv, j2, rfl, hr2, hu2, hj2, hj2s, hrk2, hx2⟩
  obtain ⟨ka, kc, rfl⟩ := hrk2.len
  have hsz : w.heap.size + 2 ≤ w2.heap.size := by have := hu2.size; simp at this; exact this
  have hB : w.heap.size ≠ g := by omega
  have hb1 := five_cells (hu2.blk (blk_local w _ _ _ n1 (.int .i64 5)) (fun hc => by have : w.heap.size + 1 = g := hc; omega))
  have hb0 := five_cells (hu2.blk (b := w.heap.size) ((Below.heap_setCell _ ⟨w.heap.size + 1, 0, none⟩ (.int .i64 5) w.heap.size (by simp)).trans (blk_local1 w _ _ _ _ _ _ n1 _)) (fun hc => by have : w.heap.size = g := hc; omega))
  obtain ⟨⟨p0, p1, p2, p3, p4⟩, q0, q1, q2, q3, q4⟩ := hb1
  obtain ⟨⟨r0, r1, r2, r3, r4⟩, t0, t1, t2, t3, t4⟩ := hb0
  have hd0 := hr2.c0
  have hd1 := hr2.c1
  have Hx2 := Lib.hid hx2; clear hx2
  have HK := Lib.hid hrk2; clear hrk2
  clear hc0 hc1 hB
  go_wp2_with fail
  have U : Upd (LocS w.heap.size) w2 (((((((w2.setCell ⟨w.heap.size + 1, 4, none⟩ (.slice ka ks.length kc)).setCell ⟨w.heap.size + 1, 2, none⟩ (.int .i64 (j2 : Int))).setCell ⟨w.heap.size, 0, none⟩ (.int .i64 5)).setCell ⟨w.heap.size, 1, none⟩ (.int .i64 (i : Int))).setCell ⟨w.heap.size, 2, none⟩ (.int .i64 (j2 : Int))).setCell ⟨w.heap.size, 3, none⟩ (.slice none 0 0)).setCell ⟨w.heap.size, 4, none⟩ (.slice ka ks.length kc)) :=
    (((((((Upd.refl _ _).setCell (.inl (.inr rfl)) _).setCell (.inl (.inr rfl)) _).setCell (.inl (.inl rfl)) _).setCell (.inl (.inl rfl)) _).setCell (.inl (.inl rfl)) _).setCell (.inl (.inl rfl)) _).setCell (.inl (.inl rfl)) _
  refine bodyPost_ret (v := .tuple #[.agg #[.int .i64 5, .int .i64 (i : Int), .int .i64 (j2 : Int), Value.slice none 0 0, .slice ka ks.length kc], .bool b2]) (by simp [results, Tryz.results19, go_sem, r0, r1, r2, r3, r4]) rfl ?_
  refine ⟨b2, .mk 5 i j2 [] ks, _, _, j2, rfl, hr2.loc hg U, ?_, by omega, hj2s, RdP.loc (RdP_mk.2 ⟨?_, ?_⟩) U, (fun hb => ⟨by omega, ?_, rfl, rfl⟩), ?_⟩
  · refine Upd.loc (w := w) (w1 := w2) ?_ rfl U
    refine Upd.trans ?_ hu2
    repeat (first | exact Upd.refl _ _ | refine Upd.drewN ?_ _ | refine Upd.alloc ?_ _ | refine Upd.setCell ?_ (.inr (by simp)) _)
  · exact RdN_nil _ _
  · exact HK.out.mono (fun b _ h => by simpa using h)
  · obtain ⟨c, h1, h2⟩ := Hx2.out.1 hb
    simp only [PVal]
    exact .inr (.inr (.inr (.inr (.inr (.inl ⟨trivial, hi, H123.out, trivial, c, h1, by simpa only [Pl.kids] using h2⟩)))))
  · exact fun hb => val_no_arr H123.out (Hx2.out.2 hb)

set_option maxHeartbeats 1000000 in
theorem val_str (g : Nat) (s : ByteArray) (i : Nat) (hs : s.size ≤ 1099511627776) (hi : i < s.size) (h34 : bAt s i = 34) : ValAt g s i := by
  intro w hr
  have hs' : s.size ≤ maxLen := by unfold maxLen; omega
  have hg := hr.lt
  have hc0 := hr.c0
  have hc1 := hr.c1
  have hH := here_any g s i ((w.alloc (.cells #[.int .i64 0, .int .i64 0, .int .i64 0, .slice none 0 0, .slice none 0 0] 31)).alloc (.cells #[.int .i64 0, .int .i64 (i : Int), .int .i64 0, .slice none 0 0, .slice none 0 0] 31)) hs' (hr.upd (((Upd.refl NoB w).alloc _).alloc _) (fun h => h))
  rw [h34] at hH
  have HH := Lib.hid hH; clear hH
  have H34 := Lib.hid h34; clear h34
  go_enter Tryz.func19, Tryz.ntmps19
  go_wp2_with fail
  refine HH.out.mono ?_
  rintro e w1 ⟨rfl, n1, rfl⟩
  clear HH
  go_wp2_with fail
  refine (quoted_any g s i _ hs (by exact hr.upd (S := NoB) (by repeat (first | exact Upd.refl _ _ | refine Upd.drewN ?_ _ | refine Upd.alloc ?_ _ | refine Upd.setCell ?_ (.inr (by simp)) _)) (fun h => h)) hi).mono ?_
  rintro e w2 ⟨b2, j2, rfl, hr2, hu2, hj2, hj2s, hx2⟩
  have hsz : w.heap.size + 2 ≤ w2.heap.size := by have := hu2.size; simp at this; exact this
  have hB : w.heap.size ≠ g := by omega
  have hb1 := five_cells (hu2.blk (blk_local w _ _ _ n1 (.int .i64 4)) (fun hc => by have : w.heap.size + 1 = g := hc; omega))
  have hb0 := five_cells (hu2.blk (b := w.heap.size) ((Below.heap_setCell _ ⟨w.heap.size + 1, 0, none⟩ (.int .i64 4) w.heap.size (by simp)).trans (blk_local1 w _ _ _ _ _ _ n1 _)) (fun hc => by have : w.heap.size = g := hc; omega))
  obtain ⟨⟨p0, p1, p2, p3, p4⟩, q0, q1, q2, q3, q4⟩ := hb1
  obtain ⟨⟨r0, r1, r2, r3, r4⟩, t0, t1, t2, t3, t4⟩ := hb0
  have hd0 := hr2.c0
  have hd1 := hr2.c1
  have Hx2 := Lib.hid hx2; clear hx2
  clear hc0 hc1 hB
  go_wp2_with fail
  have U : Upd (LocS w.heap.size) w2 ((((((w2.setCell ⟨w.heap.size + 1, 2, none⟩ (.int .i64 (j2 : Int))).setCell ⟨w.heap.size, 0, none⟩ (.int .i64 4)).setCell ⟨w.heap.size, 1, none⟩ (.int .i64 (i : Int))).setCell ⟨w.heap.size, 2, none⟩ (.int .i64 (j2 : Int))).setCell ⟨w.heap.size, 3, none⟩ (.slice none 0 0)).setCell ⟨w.heap.size, 4, none⟩ (.slice none 0 0)) :=
    ((((((Upd.refl _ _).setCell (.inl (.inr rfl)) _).setCell (.inl (.inl rfl)) _).setCell (.inl (.inl rfl)) _).setCell (.inl (.inl rfl)) _).setCell (.inl (.inl rfl)) _).setCell (.inl (.inl rfl)) _
  refine bodyPost_ret (v := .tuple #[.agg #[.int .i64 4, .int .i64 (i : Int), .int .i64 (j2 : Int), .slice none 0 0, .slice none 0 0], .bool b2]) (by simp [results, Tryz.results19, go_sem, r0, r1, r2, r3, r4]) rfl ?_
  refine ⟨b2, .mk 4 i j2 [] [], _, _, j2, rfl, hr2.loc hg U, ?_, by omega, hj2s, RdP_leaf _ _ _ _ _, (fun hb => ⟨?_, ?_, rfl, rfl⟩), ?_⟩
  · refine Upd.loc (w := w) (w1 := w2) ?_ rfl U
    refine Upd.trans ?_ hu2
    repeat (first | exact Upd.refl _ _ | refine Upd.drewN ?_ _ | refine Upd.alloc ?_ _ | refine Upd.setCell ?_ (.inr (by simp)) _)
  · omega
  · simp only [PVal]
    exact .inr (.inr (.inr (.inr (.inl ⟨trivial, ⟨hi, H34.out, Hx2.out.1 hb, hj2s⟩, trivial, trivial⟩))))
  · exact fun hb => val_no_str H34.out (Hx2.out.2 hb)

set_option maxHeartbeats 1000000 in
theorem val_neg (g : Nat) (s : ByteArray) (i : Nat) (hs : s.size ≤ 1099511627776) (hi : i < s.size) (h45 : bAt s i = 45) : ValAt g s i := by
  intro w hr
  have hs' : s.size ≤ maxLen := by unfold maxLen; omega
  have hg := hr.lt
  have hc0 := hr.c0
  have hc1 := hr.c1
  have hH := here_any g s i ((w.alloc (.cells #[.int .i64 0, .int .i64 0, .int .i64 0, .slice none 0 0, .slice none 0 0] 31)).alloc (.cells #[.int .i64 0, .int .i64 (i : Int), .int .i64 0, .slice none 0 0, .slice none 0 0] 31)) hs' (hr.upd (((Upd.refl NoB w).alloc _).alloc _) (fun h => h))
  rw [h45] at hH
  have HH := Lib.hid hH; clear hH
  have Hn : Hid (bAt s i = 45 ∨ 48 ≤ bAt s i ∧ bAt s i ≤ 57) := Lib.hid (.inl h45)
  clear h45
  go_enter Tryz.func19, Tryz.ntmps19
  go_wp2_with fail
  refine HH.out.mono ?_
  rintro e w1 ⟨rfl, n1, rfl⟩
  clear HH
  go_wp2_with fail
  refine (number_any g s i _ hs (by exact hr.upd (S := NoB) (by repeat (first | exact Upd.refl _ _ | refine Upd.drewN ?_ _ | refine Upd.alloc ?_ _ | refine Upd.setCell ?_ (.inr (by simp)) _)) (fun h => h)) (by omega)).mono ?_
  rintro e w2 ⟨b2, j2, rfl, hr2, hu2, hj2, hj2s, hx2⟩
  have hsz : w.heap.size + 2 ≤ w2.heap.size := by have := hu2.size; simp at this; exact this
  have hB : w.heap.size ≠ g := by omega
  have hb1 := five_cells (hu2.blk (blk_local w _ _ _ n1 (.int .i64 3)) (fun hc => by have : w.heap.size + 1 = g := hc; omega))
  have hb0 := five_cells (hu2.blk (b := w.heap.size) ((Below.heap_setCell _ ⟨w.heap.size + 1, 0, none⟩ (.int .i64 3) w.heap.size (by simp)).trans (blk_local1 w _ _ _ _ _ _ n1 _)) (fun hc => by have : w.heap.size = g := hc; omega))
  obtain ⟨⟨p0, p1, p2, p3, p4⟩, q0, q1, q2, q3, q4⟩ := hb1
  obtain ⟨⟨r0, r1, r2, r3, r4⟩, t0, t1, t2, t3, t4⟩ := hb0
  have hd0 := hr2.c0
  have hd1 := hr2.c1
  have Hx2 := Lib.hid hx2; clear hx2
  clear hc0 hc1 hB
  go_wp2_with fail
  have U : Upd (LocS w.heap.size) w2 ((((((w2.setCell ⟨w.heap.size + 1, 2, none⟩ (.int .i64 (j2 : Int))).setCell ⟨w.heap.size, 0, none⟩ (.int .i64 3)).setCell ⟨w.heap.size, 1, none⟩ (.int .i64 (i : Int))).setCell ⟨w.heap.size, 2, none⟩ (.int .i64 (j2 : Int))).setCell ⟨w.heap.size, 3, none⟩ (.slice none 0 0)).setCell ⟨w.heap.size, 4, none⟩ (.slice none 0 0)) :=
    ((((((Upd.refl _ _).setCell (.inl (.inr rfl)) _).setCell (.inl (.inl rfl)) _).setCell (.inl (.inl rfl)) _).setCell (.inl (.inl rfl)) _).setCell (.inl (.inl rfl)) _).setCell (.inl (.inl rfl)) _
  refine bodyPost_ret (v := .tuple #[.agg #[.int .i64 3, .int .i64 (i : Int), .int .i64 (j2 : Int), .slice none 0 0, .slice none 0 0], .bool b2]) (by simp [results, Tryz.results19, go_sem, r0, r1, r2, r3, r4]) rfl ?_
  refine ⟨b2, .mk 3 i j2 [] [], _, _, j2, rfl, hr2.loc hg U, ?_, by omega, hj2s, RdP_leaf _ _ _ _ _, (fun hb => ⟨?_, ?_, rfl, rfl⟩), ?_⟩
  · refine Upd.loc (w := w) (w1 := w2) ?_ rfl U
    refine Upd.trans ?_ hu2
    repeat (first | exact Upd.refl _ _ | refine Upd.drewN ?_ _ | refine Upd.alloc ?_ _ | refine Upd.setCell ?_ (.inr (by simp)) _)
  · exact (PNum_le (Hx2.out.1 hb)).1
  · simp only [PVal]
    exact .inr (.inr (.inr (.inl ⟨trivial, hi, Hn.out, Hx2.out.1 hb, trivial, trivial⟩)))
  · exact fun hb => val_no_num Hn.out (Hx2.out.2 hb)

set_option maxHeartbeats 1000000 in
theorem val_dig (g : Nat) (s : ByteArray) (i : Nat) (hs : s.size ≤ 1099511627776) (hi : i < s.size) (hn : 48 ≤ bAt s i ∧ bAt s i ≤ 57) : ValAt g s i := by
  intro w hr
  have hs' : s.size ≤ maxLen := by unfold maxLen; omega
  have hg := hr.lt
  have hc0 := hr.c0
  have hc1 := hr.c1
  have hH := here_any g s i ((w.alloc (.cells #[.int .i64 0, .int .i64 0, .int .i64 0, .slice none 0 0, .slice none 0 0] 31)).alloc (.cells #[.int .i64 0, .int .i64 (i : Int), .int .i64 0, .slice none 0 0, .slice none 0 0] 31)) hs' (hr.upd (((Upd.refl NoB w).alloc _).alloc _) (fun h => h))
  have HH := Lib.hid hH; clear hH
  have f1 : ((bAt s i : Int) == 123) = false := by simp; omega
  have f2 : ((bAt s i : Int) == 91) = false := by simp; omega
  have f3 : ((bAt s i : Int) == 34) = false := by simp; omega
  have f4 : ((bAt s i : Int) == 45) = false := by simp; omega
  have f5 : 48 ≤ (bAt s i : Int) := by omega
  have f6 : (bAt s i : Int) ≤ 57 := by omega
  have Hn : Hid (bAt s i = 45 ∨ 48 ≤ bAt s i ∧ bAt s i ≤ 57) := Lib.hid (.inr hn)
  clear hn
  go_enter Tryz.func19, Tryz.ntmps19
  go_wp2_with fail
  refine HH.out.mono ?_
  rintro e w1 ⟨rfl, n1, rfl⟩
  clear HH
  go_wp2_with fail
  refine (number_any g s i _ hs (by exact hr.upd (S := NoB) (by repeat (first | exact Upd.refl _ _ | refine Upd.drewN ?_ _ | refine Upd.alloc ?_ _ | refine Upd.setCell ?_ (.inr (by simp)) _)) (fun h => h)) (by omega)).mono ?_
  rintro e w2 ⟨b2, j2, rfl, hr2, hu2, hj2, hj2s, hx2⟩
  have hsz : w.heap.size + 2 ≤ w2.heap.size := by have := hu2.size; simp at this; exact this
  have hB : w.heap.size ≠ g := by omega
  have hb1 := five_cells (hu2.blk (blk_local w _ _ _ n1 (.int .i64 3)) (fun hc => by have : w.heap.size + 1 = g := hc; omega))
  have hb0 := five_cells (hu2.blk (b := w.heap.size) ((Below.heap_setCell _ ⟨w.heap.size + 1, 0, none⟩ (.int .i64 3) w.heap.size (by simp)).trans (blk_local1 w _ _ _ _ _ _ n1 _)) (fun hc => by have : w.heap.size = g := hc; omega))
  obtain ⟨⟨p0, p1, p2, p3, p4⟩, q0, q1, q2, q3, q4⟩ := hb1
  obtain ⟨⟨r0, r1, r2, r3, r4⟩, t0, t1, t2, t3, t4⟩ := hb0
  have hd0 := hr2.c0
  have hd1 := hr2.c1
  have Hx2 := Lib.hid hx2; clear hx2
  clear hc0 hc1 hB
  go_wp2_with fail
  have U : Upd (LocS w.heap.size) w2 ((((((w2.setCell ⟨w.heap.size + 1, 2, none⟩ (.int .i64 (j2 : Int))).setCell ⟨w.heap.size, 0, none⟩ (.int .i64 3)).setCell ⟨w.heap.size, 1, none⟩ (.int .i64 (i : Int))).setCell ⟨w.heap.size, 2, none⟩ (.int .i64 (j2 : Int))).setCell ⟨w.heap.size, 3, none⟩ (.slice none 0 0)).setCell ⟨w.heap.size, 4, none⟩ (.slice none 0 0)) :=
    ((((((Upd.refl _ _).setCell (.inl (.inr rfl)) _).setCell (.inl (.inl rfl)) _).setCell (.inl (.inl rfl)) _).setCell (.inl (.inl rfl)) _).setCell (.inl (.inl rfl)) _).setCell (.inl (.inl rfl)) _
  refine bodyPost_ret (v := .tuple #[.agg #[.int .i64 3, .int .i64 (i : Int), .int .i64 (j2 : Int), .slice none 0 0, .slice none 0 0], .bool b2]) (by simp [results, Tryz.results19, go_sem, r0, r1, r2, r3, r4]) rfl ?_
  refine ⟨b2, .mk 3 i j2 [] [], _, _, j2, rfl, hr2.loc hg U, ?_, by omega, hj2s, RdP_leaf _ _ _ _ _, (fun hb => ⟨?_, ?_, rfl, rfl⟩), ?_⟩
  · refine Upd.loc (w := w) (w1 := w2) ?_ rfl U
    refine Upd.trans ?_ hu2
    repeat (first | exact Upd.refl _ _ | refine Upd.drewN ?_ _ | refine Upd.alloc ?_ _ | refine Upd.setCell ?_ (.inr (by simp)) _)
  · exact (PNum_le (Hx2.out.1 hb)).1
  · simp only [PVal]
    exact .inr (.inr (.inr (.inl ⟨trivial, hi, Hn.out, Hx2.out.1 hb, trivial, trivial⟩)))
  · exact fun hb => val_no_num Hn.out (Hx2.out.2 hb)

/-- Behind value's own two new blocks only the reader has turned. -/
structure UpdV (g i n1 : Nat) (w w2 : World) : Prop where
  out : Upd (OneB g) (((w.alloc (.cells #[.int .i64 0, .int .i64 0, .int .i64 0, .slice none 0 0, .slice none 0 0] 31)).alloc (.cells #[.int .i64 0, .int .i64 (i : Int), .int .i64 0, .slice none 0 0, .slice none 0 0] 31)).drewN n1) w2
theorem UpdV.blk1 {g i m : Nat} {v w2 : World} (h : UpdV g i m v w2) (_w : World) (_n1 : Nat) (hv : ¬ OneB g (v.heap.size + 1)) : w2.heap[v.heap.size + 1]? = some (.cells #[.int .i64 0, .int .i64 (i : Int), .int .i64 0, .slice none 0 0, .slice none 0 0] 31 (0, 0)) :=
  h.out.blk (blk_local0 v _ _ _ m) hv
theorem UpdV.blk0 {g i m : Nat} {v w2 : World} (h : UpdV g i m v w2) (_w : World) (_n1 : Nat) (hv : ¬ OneB g v.heap.size) : w2.heap[v.heap.size]? = some (.cells #[.int .i64 0, .int .i64 0, .int .i64 0, .slice none 0 0, .slice none 0 0] 31 (0, 0)) :=
  h.out.blk (blk_local1 v _ _ _ _ _ _ m _) hv
theorem UpdV.of_w {g i m : Nat} {w w2 : World} (h : UpdV g i m w w2) : Upd (OneB g) w w2 := ((((Upd.refl _ w).alloc _).alloc _).drewN _).trans h.out

set_option maxHeartbeats 2000000 in
theorem val_word (g : Nat) (s : ByteArray) (i : Nat) (hs : s.size ≤ 1099511627776) (hi : i ≤ s.size) (n1 : bAt s i ≠ 123) (n2 : bAt s i ≠ 91) (n3 : bAt s i ≠ 34) (n4 : bAt s i ≠ 45) (n5 : ¬ (48 ≤ bAt s i ∧ bAt s i ≤ 57)) : ValAt g s i := by
  intro w hr
  have hs' : s.size ≤ maxLen := by unfold maxLen; omega
  have hg := hr.lt
  have hc0 := hr.c0
  have hc1 := hr.c1
  have hH := here_any g s i ((w.alloc (.cells #[.int .i64 0, .int .i64 0, .int .i64 0, .slice none 0 0, .slice none 0 0] 31)).alloc (.cells #[.int .i64 0, .int .i64 (i : Int), .int .i64 0, .slice none 0 0, .slice none 0 0] 31)) hs' (hr.upd (((Upd.refl NoB w).alloc _).alloc _) (fun h => h))
  have HH := Lib.hid hH; clear hH
  have f1 : ((bAt s i : Int) == 123) = false := by simp; omega
  have f2 : ((bAt s i : Int) == 91) = false := by simp; omega
  have f3 : ((bAt s i : Int) == 34) = false := by simp; omega
  have f4 : ((bAt s i : Int) == 45) = false := by simp; omega
  have HN : Hid (¬ (48 ≤ bAt s i ∧ bAt s i ≤ 57)) := Lib.hid n5
  have HNs : Hid (bAt s i ≠ 123 ∧ bAt s i ≠ 91 ∧ bAt s i ≠ 34 ∧ bAt s i ≠ 45) := Lib.hid ⟨n1, n2, n3, n4⟩
  clear n1 n2 n3 n4 n5
  go_enter Tryz.func19, Tryz.ntmps19
  go_wp2_with fail
  refine HH.out.mono ?_
  rintro e w1 ⟨rfl, n1, rfl⟩
  clear HH
  by_cases h48 : 48 ≤ (bAt s i : Int)
  all_goals
    by_cases h57 : (bAt s i : Int) ≤ 57
    all_goals try (exfalso; exact HN.out (by omega))
  all_goals
    go_wp2_with fail
    refine (word_any g s _ i _ hs (by decide) (by exact hr.upd (S := NoB) (by repeat (first | exact Upd.refl _ _ | refine Upd.drewN ?_ _ | refine Upd.alloc ?_ _ | refine Upd.setCell ?_ (.inr (by simp)) _)) (fun h => h)) hi).mono ?_
    rintro e w2 ⟨b2, j2, rfl, hr2, hu2, ht2, hf2⟩
    have hu2' : UpdV g i n1 w w2 := ⟨hu2⟩
    clear hu2
    cases b2
    · obtain ⟨rfl, hw2⟩ := hf2 rfl
      have HW2 := Lib.hid hw2
      clear ht2 hf2 hw2
      go_wp2_with fail
      refine (word_any g s _ j2 _ hs (by decide) hr2 hi).mono ?_
      rintro e w3 ⟨b3, j3, rfl, hr3, hu3, ht3, hf3⟩
      have hu3' : UpdV g j2 n1 w w3 := ⟨hu2'.out.trans hu3⟩
      clear hu3 hr2 hu2'
      cases b3
      · obtain ⟨rfl, hw3⟩ := hf3 rfl
        have HW3 := Lib.hid hw3
        clear ht3 hf3 hw3
        go_wp2_with fail
        refine (word_any g s _ j3 _ hs (by decide) hr3 hi).mono ?_
        rintro e w4 ⟨b4, j4, rfl, hr4, hu4, ht4, hf4⟩
        have hu4' : UpdV g j3 n1 w w4 := ⟨hu3'.out.trans hu4⟩
        clear hu4 hr3 hu3'
        cases b4
        · obtain ⟨rfl, hw4⟩ := hf4 rfl
          have HW4 := Lib.hid hw4
          clear ht4 hf4 hw4
          have hb1 := five_cells (hu4'.blk1 w n1 (fun hc => by have : w.heap.size + 1 = g := hc; omega))
          have hb0 := five_cells (hu4'.blk0 w n1 (fun hc => by have : w.heap.size = g := hc; omega))
          obtain ⟨⟨p0, p1, p2, p3, p4⟩, q0, q1, q2, q3, q4⟩ := hb1
          obtain ⟨⟨r0, r1, r2, r3, r4⟩, t0, t1, t2, t3, t4⟩ := hb0
          have hd0 := hr4.c0
          have hd1 := hr4.c1
          clear hc0 hc1
          go_wp2_with fail
          have U : Upd (LocS w.heap.size) w4 ((((((w4.setCell ⟨w.heap.size + 1, 2, none⟩ (.int .i64 (j4 : Int))).setCell ⟨w.heap.size, 0, none⟩ (.int .i64 0)).setCell ⟨w.heap.size, 1, none⟩ (.int .i64 (j4 : Int))).setCell ⟨w.heap.size, 2, none⟩ (.int .i64 (j4 : Int))).setCell ⟨w.heap.size, 3, none⟩ (.slice none 0 0)).setCell ⟨w.heap.size, 4, none⟩ (.slice none 0 0)) :=
            ((((((Upd.refl _ _).setCell (.inl (.inr rfl)) _).setCell (.inl (.inl rfl)) _).setCell (.inl (.inl rfl)) _).setCell (.inl (.inl rfl)) _).setCell (.inl (.inl rfl)) _).setCell (.inl (.inl rfl)) _
          refine bodyPost_ret (v := .tuple #[.agg #[.int .i64 0, .int .i64 (j4 : Int), .int .i64 (j4 : Int), .slice none 0 0, .slice none 0 0], .bool false]) (by simp [results, Tryz.results19, go_sem, r0, r1, r2, r3, r4]) rfl ?_
          exact ⟨false, .mk 0 j4 j4 [] [], _, _, j4, rfl, hr4.loc hg U, Upd.loc (w := w) (w1 := w4) (hu4'.of_w) rfl U, Nat.le_refl _, hi, RdP_leaf _ _ _ _ _, (fun hb => by cases hb), fun _ => val_no_word HNs.out.1 HNs.out.2.1 HNs.out.2.2.1 HNs.out.2.2.2 HN.out HW2.out HW3.out HW4.out⟩
        · obtain ⟨hx4, hj⟩ := ht4 rfl
          have hj' : j4 = j3 + 4 := hj
          subst hj'
          have Hx4 := Lib.hid hx4
          clear hx4 ht4 hf4 hj
          have hb1 := five_cells (hu4'.blk1 w n1 (fun hc => by have : w.heap.size + 1 = g := hc; omega))
          have hb0 := five_cells (hu4'.blk0 w n1 (fun hc => by have : w.heap.size = g := hc; omega))
          obtain ⟨⟨p0, p1, p2, p3, p4⟩, q0, q1, q2, q3, q4⟩ := hb1
          obtain ⟨⟨r0, r1, r2, r3, r4⟩, t0, t1, t2, t3, t4⟩ := hb0
          have hd0 := hr4.c0
          have hd1 := hr4.c1
          clear hc0 hc1
          go_wp2_with fail
          have U : Upd (LocS w.heap.size) w4 (((((((w4.setCell ⟨w.heap.size + 1, 0, none⟩ (.int .i64 2)).setCell ⟨w.heap.size + 1, 2, none⟩ (.int .i64 ((j3 : Int) + 4))).setCell ⟨w.heap.size, 0, none⟩ (.int .i64 2)).setCell ⟨w.heap.size, 1, none⟩ (.int .i64 (j3 : Int))).setCell ⟨w.heap.size, 2, none⟩ (.int .i64 ((j3 : Int) + 4))).setCell ⟨w.heap.size, 3, none⟩ (.slice none 0 0)).setCell ⟨w.heap.size, 4, none⟩ (.slice none 0 0)) :=
            (((((((Upd.refl _ _).setCell (.inl (.inr rfl)) _).setCell (.inl (.inr rfl)) _).setCell (.inl (.inl rfl)) _).setCell (.inl (.inl rfl)) _).setCell (.inl (.inl rfl)) _).setCell (.inl (.inl rfl)) _).setCell (.inl (.inl rfl)) _
          refine bodyPost_ret (v := .tuple #[.agg #[.int .i64 2, .int .i64 (j3 : Int), .int .i64 ((j3 : Int) + 4), .slice none 0 0, .slice none 0 0], .bool true]) (by simp [results, Tryz.results19, go_sem, r0, r1, r2, r3, r4]) rfl ?_
          refine ⟨true, .mk 2 j3 (j3 + 4) [] [], _, _, j3 + 4, rfl, hr4.loc hg U, Upd.loc (w := w) (w1 := w4) (hu4'.of_w) rfl U, by omega, Hx4.out.1, RdP_leaf _ _ _ _ _, (fun hb => ⟨by omega, ?_, rfl, rfl⟩), (fun h => by cases h)⟩
          simp only [PVal]
          exact .inr (.inr (.inl ⟨trivial, Hx4.out, trivial, trivial, trivial⟩))
      · obtain ⟨hx3, hj⟩ := ht3 rfl
        have hj' : j3 = j2 + 5 := hj
        subst hj'
        have Hx3 := Lib.hid hx3
        clear hx3 ht3 hf3 hj
        have hb1 := five_cells (hu3'.blk1 w n1 (fun hc => by have : w.heap.size + 1 = g := hc; omega))
        have hb0 := five_cells (hu3'.blk0 w n1 (fun hc => by have : w.heap.size = g := hc; omega))
        obtain ⟨⟨p0, p1, p2, p3, p4⟩, q0, q1, q2, q3, q4⟩ := hb1
        obtain ⟨⟨r0, r1, r2, r3, r4⟩, t0, t1, t2, t3, t4⟩ := hb0
        have hd0 := hr3.c0
        have hd1 := hr3.c1
        clear hc0 hc1
        go_wp2_with fail
        have U : Upd (LocS w.heap.size) w3 (((((((w3.setCell ⟨w.heap.size + 1, 0, none⟩ (.int .i64 1)).setCell ⟨w.heap.size + 1, 2, none⟩ (.int .i64 ((j2 : Int) + 5))).setCell ⟨w.heap.size, 0, none⟩ (.int .i64 1)).setCell ⟨w.heap.size, 1, none⟩ (.int .i64 (j2 : Int))).setCell ⟨w.heap.size, 2, none⟩ (.int .i64 ((j2 : Int) + 5))).setCell ⟨w.heap.size, 3, none⟩ (.slice none 0 0)).setCell ⟨w.heap.size, 4, none⟩ (.slice none 0 0)) :=
          (((((((Upd.refl _ _).setCell (.inl (.inr rfl)) _).setCell (.inl (.inr rfl)) _).setCell (.inl (.inl rfl)) _).setCell (.inl (.inl rfl)) _).setCell (.inl (.inl rfl)) _).setCell (.inl (.inl rfl)) _).setCell (.inl (.inl rfl)) _
        refine bodyPost_ret (v := .tuple #[.agg #[.int .i64 1, .int .i64 (j2 : Int), .int .i64 ((j2 : Int) + 5), .slice none 0 0, .slice none 0 0], .bool true]) (by simp [results, Tryz.results19, go_sem, r0, r1, r2, r3, r4]) rfl ?_
        refine ⟨true, .mk 1 j2 (j2 + 5) [] [], _, _, j2 + 5, rfl, hr3.loc hg U, Upd.loc (w := w) (w1 := w3) (hu3'.of_w) rfl U, by omega, Hx3.out.1, RdP_leaf _ _ _ _ _, (fun hb => ⟨by omega, ?_, rfl, rfl⟩), (fun h => by cases h)⟩
        simp only [PVal]
        exact .inr (.inl ⟨trivial, Hx3.out, trivial, trivial, trivial⟩)
    · obtain ⟨hx2, hj⟩ := ht2 rfl
      have hj' : j2 = i + 4 := hj
      subst hj'
      have Hx2 := Lib.hid hx2
      clear hx2 ht2 hf2 hj
      have hb1 := five_cells (hu2'.blk1 w n1 (fun hc => by have : w.heap.size + 1 = g := hc; omega))
      have hb0 := five_cells (hu2'.blk0 w n1 (fun hc => by have : w.heap.size = g := hc; omega))
      obtain ⟨⟨p0, p1, p2, p3, p4⟩, q0, q1, q2, q3, q4⟩ := hb1
      obtain ⟨⟨r0, r1, r2, r3, r4⟩, t0, t1, t2, t3, t4⟩ := hb0
      have hd0 := hr2.c0
      have hd1 := hr2.c1
      clear hc0 hc1
      go_wp2_with fail
      have U : Upd (LocS w.heap.size) w2 (((((((w2.setCell ⟨w.heap.size + 1, 0, none⟩ (.int .i64 0)).setCell ⟨w.heap.size + 1, 2, none⟩ (.int .i64 ((i : Int) + 4))).setCell ⟨w.heap.size, 0, none⟩ (.int .i64 0)).setCell ⟨w.heap.size, 1, none⟩ (.int .i64 (i : Int))).setCell ⟨w.heap.size, 2, none⟩ (.int .i64 ((i : Int) + 4))).setCell ⟨w.heap.size, 3, none⟩ (.slice none 0 0)).setCell ⟨w.heap.size, 4, none⟩ (.slice none 0 0)) :=
        (((((((Upd.refl _ _).setCell (.inl (.inr rfl)) _).setCell (.inl (.inr rfl)) _).setCell (.inl (.inl rfl)) _).setCell (.inl (.inl rfl)) _).setCell (.inl (.inl rfl)) _).setCell (.inl (.inl rfl)) _).setCell (.inl (.inl rfl)) _
      refine bodyPost_ret (v := .tuple #[.agg #[.int .i64 0, .int .i64 (i : Int), .int .i64 ((i : Int) + 4), .slice none 0 0, .slice none 0 0], .bool true]) (by simp [results, Tryz.results19, go_sem, r0, r1, r2, r3, r4]) rfl ?_
      refine ⟨true, .mk 0 i (i + 4) [] [], _, _, i + 4, rfl, hr2.loc hg U, Upd.loc (w := w) (w1 := w2) (hu2'.of_w) rfl U, by omega, Hx2.out.1, RdP_leaf _ _ _ _ _, (fun hb => ⟨by omega, ?_, rfl, rfl⟩), (fun h => by cases h)⟩
      simp only [PVal]
      exact .inl ⟨trivial, Hx2.out, trivial, trivial, trivial⟩
end Go.Proofs.YtggdcpmampjncaaGreatDoor
