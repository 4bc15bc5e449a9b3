/- The package's ForEach on an object: the iterator is called with its members in their order, until it says stop. -/
import Derived.Test.YtggdcpmampjncaaGreatDoorFc
namespace Go.Proofs.YtggdcpmampjncaaGreatDoor
open Go.RowKit

theorem KeysR.get {u : ByteArray} : ∀ (ms : List (Nat × Nat)) (l : List (List UInt8)), KeysR u ms l → ∀ (j : Nat) (m : Nat × Nat), ms[j]? = some m → ∃ t, l[j]? = some t ∧ UQ u (m.1 + 1) m.2 t
  | [], l, _, j, m, h => by simp at h
  | q :: ms, l, h, j, m, hj => by
    simp only [KeysR] at h
    obtain ⟨t, r, rfl, h0, h1, h2⟩ := h
    cases j with
    | zero => simp only [List.getElem?_cons_zero, Option.some.injEq] at hj; subst hj; exact ⟨t, by simp, h1⟩
    | succ j => simp only [List.getElem?_cons_succ] at hj ⊢; exact KeysR.get ms r h2 j m hj
theorem AtM.skip {u : ByteArray} {i : Nat} {ps : List Pl} {ns : List (Nat × Nat)} (h : AtM u i ps ns) (hi : i < u.size) (hb : bAt u i ≠ 34) : AtM u (i + 1) ps ns := by
  cases ps with
  | nil =>
    simp only [AtM] at h ⊢
    exact ⟨h.1, by omega, fun k h1 h2 => h.2.2 k (by omega) h2⟩
  | cons p ps =>
    simp only [AtM] at h ⊢
    obtain ⟨m, ms, e, ⟨h1, h2⟩, h3, h4⟩ := h
    have hne : i ≠ m.1 := fun e => by have := h3.2.1; rw [← e] at this; exact hb this
    exact ⟨m, ms, e, ⟨by omega, fun k k1 k2 => h2 k (by omega) k2⟩, h3, h4⟩
theorem AtM.done {u : ByteArray} {i : Nat} {ps : List Pl} {ns : List (Nat × Nat)} (h : AtM u i ps ns) (hi : ¬ i < u.size) : ps = [] := by
  cases ps with
  | nil => rfl
  | cons p ps =>
    simp only [AtM] at h
    obtain ⟨m, ms, e, ⟨h1, h2⟩, h3, h4⟩ := h
    have := h3.1
    omega
theorem AtM.quote {u : ByteArray} {i : Nat} {ps : List Pl} {ns : List (Nat × Nat)} (h : AtM u i ps ns) (hi : i < u.size) (hb : bAt u i = 34) :
    ∃ p rs e ms, ps = p :: rs ∧ ns = (i, e) :: ms ∧ PStr u i e ∧ Sk u e p.b ∧ PVal u p ∧ EndB u p.e ∧ p.e < u.size ∧ AtM u (p.e + 1) rs ms := by
  cases ps with
  | nil =>
    simp only [AtM] at h
    have := h.2.2 i (Nat.le_refl _) hi
    omega
  | cons p ps =>
    simp only [AtM] at h
    obtain ⟨⟨b, e⟩, ms, hm, ⟨h1, h2⟩, h3, h4, h5, h6, h7, h8⟩ := h
    have : i = b := by
      by_cases g : i = b
      · exact g
      · exact absurd hb (h2 i (Nat.le_refl _) (by show i < b; have : i ≤ b := h1; omega))
    subst this
    exact ⟨p, ps, e, ms, rfl, hm, h3, h4, h5, h6, h7, h8⟩
theorem drop_head {α : Type} {l : List α} {j : Nat} {x : α} {xs : List α} (h : l.drop j = x :: xs) : l[j]? = some x ∧ l.drop (j + 1) = xs ∧ j < l.length := by
  have h0 : (l.drop j)[0]? = some x := by rw [h]; rfl
  rw [List.getElem?_drop, Nat.add_zero] at h0
  refine ⟨h0, ?_, ?_⟩
  · have h1 : (l.drop j).drop 1 = xs := by rw [h]; rfl
    rw [List.drop_drop] at h1
    exact h1
  · by_cases g : j < l.length
    · exact g
    · rw [List.getElem?_eq_none (by omega)] at h0; cases h0

set_option maxHeartbeats 8000000 in
set_option maxRecDepth 8000 in
theorem each_obj (fn : Nat) (hfn : CloOk fn) (lo : Nat) (u st : ByteArray) (f : Nat) (ix : Int) (q : Pl) (n : Nd) (Bo Bs : Nat) (stop : Int) (w : World) (hs : u.size ≤ 1048576) (hix : 0 ≤ ix ∧ ix ≤ 1048576)
    (h123 : bAt u 0 = 123) (hz : 0 < u.size) (hkl : q.kids.length ≤ 1048577) (hat : AtM u 1 q.kids q.names) (hkr : KeysR u q.names n.keys) (hn : TreesR u q.kids n.kids) (hT : Tabs lo w) (hlo : lo ≤ w.heap.size) (hbo : lo ≤ Bo) (hvt : VT w) (hvl : 0 < lo) (hcs : CloS Bo Bs stop w) :
    Calls Tryz.prog 54 #[.agg #[.int .i64 5, .string u, .string st, .float .f64 f, .int .i64 ix, .slice none 0 0], .func (.func fn) #[] #[.pointer (some ⟨Bo, 0, none⟩), .pointer (some ⟨Bs, 0, none⟩)]] w (EachRet (KM u q.names n.keys) (VI u q.kids n.kids) q.kids.length Bo Bs stop w) := by
  have hB := get_bAt u
  have HX := Lib.hid (fun wx => Exists_gen ⟨5, u, st, f, ix⟩ wx)
  have hex : (⟨5, u, st, f, ix⟩ : Rs).ex = true := by unfold Rs.ex; exact decide_eq_true (.inl (show (5 : Nat) ≠ 0 by decide))
  rw [hex] at HX
  clear hex
  have HFn := Lib.hid hfn; clear hfn
  have HAt := Lib.hid hat; clear hat
  have HKr := Lib.hid hkr; clear hkr
  have HN := Lib.hid hn; clear hn
  have HT := Lib.hid hT; clear hT
  have HVT := Lib.hid hvt; clear hvt
  have hlts := hcs.lt
  have HCS := Lib.hid hcs; clear hcs
  have hfl := fl_store
  go_enter Tryz.func54, Tryz.ntmps54
  go_wp2_with fail
  refine (HX.out _).mono ?_
  rintro e w1 ⟨rfl, hu1⟩
  have hb0 := hu1.blk (heap_alloc_new w _) (fun h => h)
  have HU1 := Lib.hid (((Upd.refl NoB w).alloc _).trans hu1)
  clear hu1
  obtain ⟨⟨p0, p1, p2, p3, p4, p5⟩, _⟩ := cells6 hb0
  go_upto_block 0 with (fail)
  have hFE := FE.start Bo [.int .i64 5, .string u, .string st, .float .f64 f, .int .i64 ix, .slice none 0 0] [.int .i64 0, .string ByteArray.empty, .string ByteArray.empty, .float .f64 0, .int .i64 0, .slice none 0 0] [.int .i64 0, .string ByteArray.empty, .string ByteArray.empty, .float .f64 0, .int .i64 0, .slice none 0 0] w w1 hb0 HU1.out hlts.1
  have hUU := (HU1.out.alloc (.cells #[.int .i64 0, .string ByteArray.empty, .string ByteArray.empty, .float .f64 0, .int .i64 0, .slice none 0 0] 57)).alloc (.cells #[.int .i64 0, .string ByteArray.empty, .string ByteArray.empty, .float .f64 0, .int .i64 0, .slice none 0 0] 57)
  dsimp only [List.toArray] at hFE
  have hs1 := HU1.out.size
  generalize hw2 : ((w1.alloc (.cells #[.int .i64 0, .string ByteArray.empty, .string ByteArray.empty, .float .f64 0, .int .i64 0, .slice none 0 0] 57)).alloc (.cells #[.int .i64 0, .string ByteArray.empty, .string ByteArray.empty, .float .f64 0, .int .i64 0, .slice none 0 0] 57)) = w2 at hFE hUU
  first | rw [hw2] | (rw [show ((w1.alloc (.cells #[.int .i64 0, .string ⟨#[]⟩, .string ⟨#[]⟩, .float .f64 0, .int .i64 0, .slice none 0 0] 57)).alloc (.cells #[.int .i64 0, .string ⟨#[]⟩, .string ⟨#[]⟩, .float .f64 0, .int .i64 0, .slice none 0 0] 57)) = w2 from hw2])
  clear hw2 hb0 p0 p1 p2 p3 p4 p5
  generalize w1.heap.size = B1 at hFE ⊢
  have hsz2 := hFE.sz
  have hlt2 := hFE.lt
  have HC0 : Hid (∀ w3, Upd (OneB B1) w2 w3 → CloW Bo Bs (B1 + 2) stop [] w3) := Lib.hid (fun w3 h3 => ((HCS.out.upd hUU).go (B1 + 2) (by omega) (by omega) (by omega)).upd h3 (fun b hb => by have : b = B1 := hb; omega))
  have HF0 := Lib.hid (hFE.setK 0 (.int .i64 3))
  have HU2 := Lib.hid hUU
  obtain ⟨⟨k0, k1, k2, k3, k4, k5⟩, kf0, kf1, kf2, kf3, kf4, kf5⟩ := cells6 hFE.b1
  clear hFE hUU
  refine wp_cut (FR 158 (fun g wx => (g 1 = .func (.func fn) #[] #[.pointer (some ⟨Bo, 0, none⟩), .pointer (some ⟨Bs, 0, none⟩)] ∧ g 2 = .pointer (some ⟨w.heap.size, 0, none⟩) ∧ g 4 = .string u ∧ g 5 = .bool true ∧ g 6 = .int .i64 1 ∧ g 7 = .pointer (some ⟨B1, 0, none⟩) ∧ g 8 = .pointer (some ⟨B1 + 1, 0, none⟩)) ∧ wx = w2.setCell ⟨B1, 0, none⟩ (.int .i64 3))) ?rest ?first
  case first =>
    intro J K hJ hK
    go_wp2_with fail
    refine wp_loop_ghost_k (fun mm => FR 158 (fun g wx => mm = 0 ∧ (g 1 = .func (.func fn) #[] #[.pointer (some ⟨Bo, 0, none⟩), .pointer (some ⟨Bs, 0, none⟩)] ∧ g 2 = .pointer (some ⟨w.heap.size, 0, none⟩) ∧ g 4 = .string u ∧ g 5 = .bool false ∧ g 6 = .int .i64 0 ∧ g 7 = .pointer (some ⟨B1, 0, none⟩) ∧ g 8 = .pointer (some ⟨B1 + 1, 0, none⟩)) ∧ wx = w2)) 0 ?atStart ?round
    case atStart =>
      refine FR.intro (by rfl) ?_
      exact ⟨rfl, ⟨rfl, rfl, rfl, rfl, rfl, rfl, rfl⟩, rfl⟩
    case round =>
      intro gk
      refine FR.rest ?_
      rintro g wx ⟨hm, ⟨e1, e2, e4, e5, e6, e7, e8⟩, rfl⟩
      rw [lit158]
      simp only [e1, e2, e4, e5, e6, e7, e8]
      clear e1 e2 e4 e5 e6 e7 e8 hm
      intro J2 K2 hJ2 hK2
      have hbv : (bAt u 0 : Int) = 123 := by rw [h123]; rfl
      have hkz : (0 : Int) < (u.size : Int) := by omega
      as_aux_lemma =>
        go_wp2_with fail
        refine Met.intro ?_
        go_step
        refine FR.intro (by rfl) ?_
        exact ⟨⟨rfl, rfl, rfl, rfl, rfl, rfl, rfl⟩, rfl⟩
  case rest =>
  refine FR.rest ?_
  rintro g w3 ⟨⟨e1, e2, e4, e5, e6, e7, e8⟩, rfl⟩
  rw [lit158]
  simp only [e1, e2, e4, e5, e6, e7, e8]
  clear e1 e2 e4 e5 e6 e7 e8 k0 k1 k2 k3 k4 k5 kf0 kf1 kf2 kf3 kf4 kf5
  have hev0 : Hid (EI (KM u q.names n.keys) (VI u q.kids n.kids) w.heap.size B1 Bo Bs stop [.int .i64 5, .string u, .string st, .float .f64 f, .int .i64 ix, .slice none 0 0] (vC 3 ByteArray.empty ByteArray.empty 0 0) [] w (w2.setCell ⟨B1, 0, none⟩ (.int .i64 3))) :=
    Lib.hid ⟨Ev.nil _ _, Going.zero _, 0, ByteArray.empty, ByteArray.empty, 0, 0, HF0.out, HC0.out _ ((Upd.refl _ _).setOne 0 _), hlts.2⟩
  clear HF0 HC0
  generalize (w2.setCell ⟨B1, 0, none⟩ (.int .i64 3)) = w3 at hev0 ⊢
  go_wp2_with fail
  refine wp_loop_ghost_k (fun mm => FR 158 (fun g wx => ∃ (l : List (Rs × Rs)) (i : Nat), mm = u.size - i ∧ (g 1 = .func (.func fn) #[] #[.pointer (some ⟨Bo, 0, none⟩), .pointer (some ⟨Bs, 0, none⟩)] ∧ g 2 = .pointer (some ⟨w.heap.size, 0, none⟩) ∧ g 4 = .string u ∧ g 5 = .bool true ∧ g 6 = .int .i64 (i : Int) ∧ g 7 = .pointer (some ⟨B1, 0, none⟩) ∧ g 8 = .pointer (some ⟨B1 + 1, 0, none⟩) ∧ g 12 = .int .i64 (l.length : Int)) ∧ l.length ≤ q.kids.length ∧ AtM u i (q.kids.drop l.length) (q.names.drop l.length) ∧ ∃ a1 a2 a4, EI (KM u q.names n.keys) (VI u q.kids n.kids) w.heap.size B1 Bo Bs stop [.int .i64 5, .string u, .string st, .float .f64 f, .int .i64 ix, .slice none 0 0] (vC 3 a1 a2 0 a4) l w wx)) (u.size - 1) ?atStart ?round
  case atStart =>
    refine FR.intro (by rfl) ?_
    exact ⟨[], 1, rfl, ⟨rfl, rfl, rfl, rfl, rfl, rfl, rfl, rfl⟩, Nat.zero_le _, HAt.out, _, _, _, hev0.out⟩
  case round =>
    clear HX hev0 HCS HU1 HU2
    intro gk
    refine FR.rest ?_
    rintro g wx ⟨l, i, hm, ⟨e1, e2, e4, e5, e6, e7, e8, e12⟩, hll, hat, a1, a2, a4, hei⟩
    rw [lit158]
    simp only [e1, e2, e4, e5, e6, e7, e8, e12]
    clear e1 e2 e4 e5 e6 e7 e8 e12
    intro J2 K2 hJ2 hK2
    have Hm := Lib.hid hm; clear hm
    by_cases hz2 : i < u.size
    rotate_left
    · have hd := hat.done hz2
      have hlen : l.length = q.kids.length := by
        have := List.drop_eq_nil_iff.1 hd
        omega
      obtain ⟨hev, hgo, c0, c1, c2, c3, c4, hfc⟩ := hei
      have hcn : l.length = cutN stop q.kids.length := by rw [← hlen]; exact hgo.all.symm
      have HCn := Lib.hid hcn; clear hcn hlen hd
      have HEv := Lib.hid hev; clear hev hgo
      have hkz : ¬ (i : Int) < (u.size : Int) := by omega
      have HF := Lib.hid hfc; clear hfc
      go_wp2_with fail
      go_end0
      exact ⟨rfl, l, _, HCn.out, HEv.out, HF.out.cw, HF.out.fe.up⟩
    have hkz : (i : Int) < (u.size : Int) := by omega
    have hbi := bAt_le u i
    by_cases h34 : bAt u i = 34
    rotate_left
    · have e34 : ((bAt u i : Int) != 34) = true := by simp; omega
      have HAt2 := Lib.hid (hat.skip hz2 h34)
      have HEI := Lib.hid hei
      clear hat hei
      as_aux_lemma =>
        go_wp2_with fail
        refine Handed.intro (u.size - (i + 1)) ?_ ?_
        · have := Hm.out; omega
        go_step
        refine FR.intro (by rfl) ?_
        exact ⟨l, i + 1, rfl, ⟨rfl, rfl, rfl, rfl, by simp only [slotOf]; congr 1, rfl, rfl, rfl⟩, hll, HAt2.out, _, _, _, HEI.out⟩
    obtain ⟨p, rs, z, ms, hps, hns, hstr, hsk, hpv, hend, hpe, hnext⟩ := hat.quote hz2 h34
    clear hat
    obtain ⟨hp1, hp2, hj⟩ := drop_head hps
    obtain ⟨hm1, hm2, _⟩ := drop_head hns
    rw [← hp2, ← hm2] at hnext
    clear hps hns hp2 hm2
    obtain ⟨m, hm, htr⟩ := TreesR.get _ _ HN.out l.length p hp1
    obtain ⟨t, ht, hq⟩ := KeysR.get _ _ HKr.out l.length (i, z) hm1
    have HPj := Lib.hid hp1; clear hp1
    have HMj := Lib.hid hm; clear hm
    have HNj := Lib.hid hm1; clear hm1
    have HTj := Lib.hid ht; clear ht
    have hbyte := hpv.byte
    have hlt := PVal.lt p hpv
    have hsk1 := hsk.1
    have HSk := Lib.hid hsk.2; clear hsk
    have HNext := Lib.hid hnext; clear hnext
    have HPA := Lib.hid (fun wx hT hl hv => pany_any lo u p m wx hs hpv htr hend hT hl hv)
    clear hpv htr hend
    have Hc := Lib.hid (fun wx => pstr_any u i z wx hs hstr)
    have hl2 := hstr.2.2.1.lt
    have hpz := hstr.2.2.2
    have S : Sub u (u.extract i z) i z := ⟨by omega, hpz, rfl⟩
    have hqr := hq.sh S (by show i ≤ i + 1; omega) (Nat.le_refl _)
    dsimp only at hqr
    rw [show i + 1 - i = 1 by omega] at hqr
    have hrz : (u.extract i z).size = z - i := S.size
    obtain ⟨x, hx⟩ : ∃ x, z - i = x + 1 := ⟨z - i - 1, by omega⟩
    rw [hx] at hqr hrz
    have hsl := slice_mid (u.extract i z) 1 x (by omega) (by omega)
    have HUn := Lib.hid (fun wx => unescape_any (u.extract i z) ((u.extract i z).extract 1 x) (x + 1) t wx (by omega) (by omega) ⟨by omega, by omega, rfl⟩ hqr)
    have HPl : Hid ((∀ q, i + 1 ≤ q → q < z - 1 → bAt u q ≠ 92) → (u.extract i z).extract 1 x = bs t) := Lib.hid fun hno => by
      rw [hqr.plainBytes (fun q h1 h2 => by
        have := hno (q + i) (by omega) (by omega)
        rw [← S.at (by omega) (by omega), Nat.add_sub_cancel] at this
        exact this), Nat.add_sub_cancel, bs_cut (by omega) (by omega)]
    have hrz1 : ((u.extract i z).size : Int) - 1 = (x : Int) := by omega
    have hrz2 : ((z - i : Nat) : Int) - 1 = (x : Int) := by omega
    have HZ := Lib.hid (show (z : Int) = i + x + 1 by omega)
    have g1 : (1 : Int) ≤ (x : Int) := by omega
    have hiz : i < z := by omega
    have hib : (i : Int) < 1048576 := by omega
    clear hstr hq hl2 S hqr
    obtain ⟨hev, hgo, c0, c1, c2, c3, c4, hfc⟩ := hei
    have HEv := Lib.hid hev; clear hev
    have HGo := Lib.hid hgo; clear hgo
    have HFC := Lib.hid hfc; clear hfc
    have hbv : (bAt u i : Int) = 34 := by omega
    clear h34
    go_wp2_with fail
    refine (Hc.out _).mono ?_
    rintro e wy ⟨⟨v, rfl, hv⟩, huy⟩
    have HVv := Lib.hid hv; clear hv
    have hfy := HFC.out.keep huy
    clear huy
    clear hbv hkz
    obtain ⟨⟨k0, k1, k2, k3, k4, k5⟩, kf0, kf1, kf2, kf3, kf4, kf5⟩ := cells6 hfy.fe.b1
    obtain ⟨⟨p0, p1, p2, p3, p4, p5⟩, _⟩ := cells6 hfy.fe.b0
    cases v
    · have HO := Lib.hid (HPl.out (HVv.out rfl))
      have HF1 : Hid (FC w.heap.size B1 Bo Bs stop [.int .i64 5, .string u, .string st, .float .f64 f, .int .i64 ix, .slice none 0 0] (vC 3 (u.extract i z) ((u.extract i z).extract 1 x) 0 ((i : Int) + ix)) (vC c0 c1 c2 c3 c4) l w (((wy.setCell ⟨B1, 2, none⟩ (.string ((u.extract i z).extract 1 x))).setCell ⟨B1, 1, none⟩ (.string (u.extract i z))).setCell ⟨B1, 4, none⟩ (.int .i64 ((i : Int) + ix)))) := Lib.hid (((hfy.setK 2 (.string ((u.extract i z).extract 1 x))).setK 1 (.string (u.extract i z))).setK 4 (.int .i64 ((i : Int) + ix)))
      clear hfy
      go_upto_block 4 with (fail)
      generalize (((wy.setCell ⟨B1, 2, none⟩ (.string ((u.extract i z).extract 1 x))).setCell ⟨B1, 1, none⟩ (.string (u.extract i z))).setCell ⟨B1, 4, none⟩ (.int .i64 ((i : Int) + ix))) = w4 at HF1 ⊢
      rw [HO.out] at HF1
      clear hsl hrz1 hrz2 k0 k1 k2 k3 k4 k5 kf0 kf1 kf2 kf3 kf4 kf5 p0 p1 p2 p3 p4 p5
      refine wp_cut (FR 158 (fun g wy => (g 1 = .func (.func fn) #[] #[.pointer (some ⟨Bo, 0, none⟩), .pointer (some ⟨Bs, 0, none⟩)] ∧ g 2 = .pointer (some ⟨w.heap.size, 0, none⟩) ∧ g 4 = .string u ∧ g 5 = .bool true ∧ g 6 = .int .i64 (p.b : Int) ∧ g 7 = .pointer (some ⟨B1, 0, none⟩) ∧ g 8 = .pointer (some ⟨B1 + 1, 0, none⟩) ∧ g 12 = .int .i64 (l.length : Int)) ∧ wy = w4)) ?restI ?firstI
      case firstI =>
        intro J3 K3 hJ3 hK3
        go_wp2_with fail
        refine wp_loop_ghost_k (fun mm => FR 158 (fun g wy => ∃ k : Nat, mm = p.b - k ∧ (g 1 = .func (.func fn) #[] #[.pointer (some ⟨Bo, 0, none⟩), .pointer (some ⟨Bs, 0, none⟩)] ∧ g 2 = .pointer (some ⟨w.heap.size, 0, none⟩) ∧ g 4 = .string u ∧ g 5 = .bool true ∧ g 6 = .int .i64 (k : Int) ∧ g 7 = .pointer (some ⟨B1, 0, none⟩) ∧ g 8 = .pointer (some ⟨B1 + 1, 0, none⟩) ∧ g 12 = .int .i64 (l.length : Int)) ∧ z ≤ k ∧ k ≤ p.b ∧ wy = w4)) (p.b - z) ?atStartI ?roundI
        case atStartI =>
          refine FR.intro (by rfl) ?_
          exact ⟨z, rfl, ⟨rfl, rfl, rfl, rfl, rfl, rfl, rfl, rfl⟩, Nat.le_refl _, hsk1, rfl⟩
        case roundI =>
          intro gk3
          refine FR.rest ?_
          rintro g wy ⟨k, hm3, ⟨e1, e2, e4, e5, e6, e7, e8, e12⟩, hk1, hk2, rfl⟩
          rw [lit158]
          simp only [e1, e2, e4, e5, e6, e7, e8, e12]
          clear e1 e2 e4 e5 e6 e7 e8 e12
          intro J4 K4 hJ4 hK4
          have Hm3 := Lib.hid hm3; clear hm3
          have hb := bAt_le u k
          have hkz : (k : Int) < (u.size : Int) := by omega
          by_cases hx : k < p.b
          · rcases HSk.out k hk1 hx with h | h | h
            · have h32 : (bAt u k : Int) ≤ 32 := by omega
              as_aux_lemma =>
                go_wp2_with fail
                refine Handed.intro (p.b - (k + 1)) ?_ ?_
                · have := Hm3.out; omega
                go_step
                refine FR.intro (by rfl) ?_
                exact ⟨k + 1, rfl, ⟨rfl, rfl, rfl, rfl, by simp only [slotOf]; congr 1, rfl, rfl, rfl⟩, by omega, by omega, rfl⟩
            · have hbv : (bAt u k : Int) = 44 := by omega
              as_aux_lemma =>
                go_wp2_with fail
                refine Handed.intro (p.b - (k + 1)) ?_ ?_
                · have := Hm3.out; omega
                go_step
                refine FR.intro (by rfl) ?_
                exact ⟨k + 1, rfl, ⟨rfl, rfl, rfl, rfl, by simp only [slotOf]; congr 1, rfl, rfl, rfl⟩, by omega, by omega, rfl⟩
            · have hbv : (bAt u k : Int) = 58 := by omega
              as_aux_lemma =>
                go_wp2_with fail
                refine Handed.intro (p.b - (k + 1)) ?_ ?_
                · have := Hm3.out; omega
                go_step
                refine FR.intro (by rfl) ?_
                exact ⟨k + 1, rfl, ⟨rfl, rfl, rfl, rfl, by simp only [slotOf]; congr 1, rfl, rfl, rfl⟩, by omega, by omega, rfl⟩
          obtain rfl : k = p.b := by omega
          have h32 : ¬ (bAt u p.b : Int) ≤ 32 := by omega
          have e44 : ((bAt u p.b : Int) == 44) = false := by simp; omega
          have e58 : ((bAt u p.b : Int) == 58) = false := by simp; omega
          as_aux_lemma =>
            go_wp2_with fail
            refine Met.intro ?_
            go_step
            refine FR.intro (by rfl) ?_
            exact ⟨⟨rfl, rfl, rfl, rfl, rfl, rfl, rfl, rfl⟩, rfl⟩
      case restI =>
      refine FR.rest ?_
      rintro g w4' ⟨⟨e1, e2, e4, e5, e6, e7, e8, e12⟩, rfl⟩
      rw [lit158]
      simp only [e1, e2, e4, e5, e6, e7, e8, e12]
      clear e1 e2 e4 e5 e6 e7 e8 e12
      have hbo4 : ¬ OneB Bo 0 := fun hc => by have : 0 = Bo := hc; omega
      have HT4 := Lib.hid (HT.out.upd HF1.out.fe.up (fun b hb => by have : b = Bo := hb; omega))
      have HV4 := Lib.hid (HVT.out.updS HF1.out.fe.up hbo4)
      have hlo4 : lo ≤ w4'.heap.size := Nat.le_trans hlo HF1.out.fe.up.size
      go_wp2_with fail
      refine (HPA.out _ HT4.out hlo4 HV4.out).mono ?_
      rintro e w5 ⟨r, hr, rfl, hu5⟩
      have HR := Lib.hid hr; clear hr
      have hf5 := HF1.out.keep hu5
      clear hu5 HPA HT4 HV4 hlo4
      obtain ⟨_, vf0, vf1, vf2, vf3, vf4, vf5⟩ := cells6 hf5.fe.b2
      have HF6 : Hid (FC w.heap.size B1 Bo Bs stop [.int .i64 5, .string u, .string st, .float .f64 f, .int .i64 ix, .slice none 0 0] (vC 3 (u.extract i z) (bs t) 0 ((i : Int) + ix)) (vC (r.ty : Int) r.raw r.st r.f r.ix) l w ((((((w5.setCell ⟨B1 + 1, 0, none⟩ (.int .i64 (r.ty : Int))).setCell ⟨B1 + 1, 1, none⟩ (.string r.raw)).setCell ⟨B1 + 1, 2, none⟩ (.string r.st)).setCell ⟨B1 + 1, 3, none⟩ (.float .f64 r.f)).setCell ⟨B1 + 1, 4, none⟩ (.int .i64 r.ix)).setCell ⟨B1 + 1, 5, none⟩ (.slice none 0 0))) :=
        Lib.hid ((((((hf5.setV 0 (.int .i64 (r.ty : Int))).setV 1 (.string r.raw)).setV 2 (.string r.st)).setV 3 (.float .f64 r.f)).setV 4 (.int .i64 r.ix)).setV 5 (.slice none 0 0))
      clear hf5
      go_upto_region 42 with (fail)
      clear vf0 vf1 vf2 vf3 vf4 vf5
      generalize ((((((w5.setCell ⟨B1 + 1, 0, none⟩ (.int .i64 (r.ty : Int))).setCell ⟨B1 + 1, 1, none⟩ (.string r.raw)).setCell ⟨B1 + 1, 2, none⟩ (.string r.st)).setCell ⟨B1 + 1, 3, none⟩ (.float .f64 r.f)).setCell ⟨B1 + 1, 4, none⟩ (.int .i64 r.ix)).setCell ⟨B1 + 1, 5, none⟩ (.slice none 0 0)) = w6 at HF6 ⊢
      obtain ⟨⟨v0, v1, v2, v3, v4, v5⟩, vf0, vf1, vf2, vf3, vf4, vf5⟩ := cells6 HF6.out.fe.b2
      obtain ⟨⟨p0, p1, p2, p3, p4, p5⟩, _⟩ := cells6 HF6.out.fe.b0
      have HF7 := Lib.hid (HF6.out.setV 4 (.int .i64 ((p.b : Int) + ix)))
      have hpb : (p.b : Int) < 1048576 := by omega
      go_upto_region 46 with (fail)
      clear p0 p1 p2 p3 p4 p5 v0 v1 v2 v3 v4 v5 vf0 vf1 vf2 vf3 vf4 vf5
      generalize (w6.setCell ⟨B1 + 1, 4, none⟩ (.int .i64 ((p.b : Int) + ix))) = w7 at HF7 ⊢
      obtain ⟨⟨k0, k1, k2, k3, k4, k5⟩, _⟩ := cells6 HF7.out.fe.b1
      obtain ⟨⟨v0, v1, v2, v3, v4, v5⟩, _⟩ := cells6 HF7.out.fe.b2
      have hlb : l.length ≤ 100000000 := by omega
      have hcl := HFn.out.2 Bo Bs (B1 + 2) stop l ⟨3, u.extract i z, bs t, 0, (i : Int) + ix⟩ ⟨r.ty, r.raw, r.st, r.f, (p.b : Int) + ix⟩ w7 HF7.out.cw hlb
      simp only [show ((3 : Nat) : Int) = 3 from rfl] at hcl
      have HCl := Lib.hid hcl; clear hcl
      have hev8 : Hid (Ev (KM u q.names n.keys) (VI u q.kids n.kids) (l ++ [(⟨3, u.extract i z, bs t, 0, (i : Int) + ix⟩, ⟨r.ty, r.raw, r.st, r.f, (p.b : Int) + ix⟩)])) := Lib.hid (HEv.out.snoc ⟨(i, z), t, HNj.out, HTj.out, rfl, rfl, rfl, rfl⟩ ⟨p, m, HPj.out, HMj.out, HR.out⟩)
      have hcf := HFn.out.1
      go_wp2_with fail
      refine HCl.out.mono ?_
      rintro e w8 ⟨rfl, hcw8, hu8⟩
      clear k0 k1 k2 k3 k4 k5 v0 v1 v2 v3 v4 v5 hcf
      have HF8 := Lib.hid (HF7.out.clo hu8 hcw8)
      clear hcw8 hu8 HCl
      by_cases he : (l.length : Int) + 1 = stop
      · rw [decide_eq_true he]
        go_wp2_with fail
        refine bodyPost_ret (v := .tuple #[]) (by simp [results, Tryz.results54, go_sem]) rfl ?_
        exact ⟨rfl, _, _, by rw [HGo.out.last hj he, List.length_append]; rfl, hev8.out, HF8.out.cw, HF8.out.fe.up⟩
      · rw [decide_eq_false he]
        go_wp2_with fail
        refine Handed.intro (u.size - (p.e + 1)) ?_ ?_
        · have := Hm.out; omega
        go_step
        refine FR.intro (by rfl) ?_
        exact ⟨_, p.e + 1, rfl, ⟨rfl, rfl, rfl, rfl, by simp only [slotOf]; congr 1, rfl, rfl, by simp only [slotOf, List.length_append, List.length_singleton]; congr 1⟩, by rw [List.length_append]; exact hj, by rw [List.length_append]; exact HNext.out, _, _, _, hev8.out, by rw [List.length_append]; exact HGo.out.next he, _, _, _, _, _, HF8.out⟩
    · go_wp2_with fail
      refine (HUn.out _).mono ?_
      rintro e w6 ⟨rfl, hu6⟩
      have hf6 := hfy.keep hu6
      clear hfy hu6 k0 k1 k2 k3 k4 k5 kf0 kf1 kf2 kf3 kf4 kf5 p0 p1 p2 p3 p4 p5
      obtain ⟨⟨k0, k1, k2, k3, k4, k5⟩, kf0, kf1, kf2, kf3, kf4, kf5⟩ := cells6 hf6.fe.b1
      obtain ⟨⟨p0, p1, p2, p3, p4, p5⟩, _⟩ := cells6 hf6.fe.b0
      have HF1 : Hid (FC w.heap.size B1 Bo Bs stop [.int .i64 5, .string u, .string st, .float .f64 f, .int .i64 ix, .slice none 0 0] (vC 3 (u.extract i z) ⟨t.toArray⟩ 0 ((i : Int) + ix)) (vC c0 c1 c2 c3 c4) l w (((w6.setCell ⟨B1, 2, none⟩ (.string ⟨t.toArray⟩)).setCell ⟨B1, 1, none⟩ (.string (u.extract i z))).setCell ⟨B1, 4, none⟩ (.int .i64 ((i : Int) + ix)))) := Lib.hid (((hf6.setK 2 (.string ⟨t.toArray⟩)).setK 1 (.string (u.extract i z))).setK 4 (.int .i64 ((i : Int) + ix)))
      clear hf6
      go_upto_block 4 with (fail)
      generalize (((w6.setCell ⟨B1, 2, none⟩ (.string ⟨t.toArray⟩)).setCell ⟨B1, 1, none⟩ (.string (u.extract i z))).setCell ⟨B1, 4, none⟩ (.int .i64 ((i : Int) + ix))) = w4 at HF1 ⊢
      have HF1 : Hid (FC w.heap.size B1 Bo Bs stop [.int .i64 5, .string u, .string st, .float .f64 f, .int .i64 ix, .slice none 0 0] (vC 3 (u.extract i z) (bs t) 0 ((i : Int) + ix)) (vC c0 c1 c2 c3 c4) l w w4) := HF1
      clear hsl hrz1 hrz2 k0 k1 k2 k3 k4 k5 kf0 kf1 kf2 kf3 kf4 kf5 p0 p1 p2 p3 p4 p5
      refine wp_cut (FR 158 (fun g wy => (g 1 = .func (.func fn) #[] #[.pointer (some ⟨Bo, 0, none⟩), .pointer (some ⟨Bs, 0, none⟩)] ∧ g 2 = .pointer (some ⟨w.heap.size, 0, none⟩) ∧ g 4 = .string u ∧ g 5 = .bool true ∧ g 6 = .int .i64 (p.b : Int) ∧ g 7 = .pointer (some ⟨B1, 0, none⟩) ∧ g 8 = .pointer (some ⟨B1 + 1, 0, none⟩) ∧ g 12 = .int .i64 (l.length : Int)) ∧ wy = w4)) ?restI ?firstI
      case firstI =>
        intro J3 K3 hJ3 hK3
        go_wp2_with fail
        refine wp_loop_ghost_k (fun mm => FR 158 (fun g wy => ∃ k : Nat, mm = p.b - k ∧ (g 1 = .func (.func fn) #[] #[.pointer (some ⟨Bo, 0, none⟩), .pointer (some ⟨Bs, 0, none⟩)] ∧ g 2 = .pointer (some ⟨w.heap.size, 0, none⟩) ∧ g 4 = .string u ∧ g 5 = .bool true ∧ g 6 = .int .i64 (k : Int) ∧ g 7 = .pointer (some ⟨B1, 0, none⟩) ∧ g 8 = .pointer (some ⟨B1 + 1, 0, none⟩) ∧ g 12 = .int .i64 (l.length : Int)) ∧ z ≤ k ∧ k ≤ p.b ∧ wy = w4)) (p.b - z) ?atStartI ?roundI
        case atStartI =>
          refine FR.intro (by rfl) ?_
          exact ⟨z, rfl, ⟨rfl, rfl, rfl, rfl, rfl, rfl, rfl, rfl⟩, Nat.le_refl _, hsk1, rfl⟩
        case roundI =>
          intro gk3
          refine FR.rest ?_
          rintro g wy ⟨k, hm3, ⟨e1, e2, e4, e5, e6, e7, e8, e12⟩, hk1, hk2, rfl⟩
          rw [lit158]
          simp only [e1, e2, e4, e5, e6, e7, e8, e12]
          clear e1 e2 e4 e5 e6 e7 e8 e12
          intro J4 K4 hJ4 hK4
          have Hm3 := Lib.hid hm3; clear hm3
          have hb := bAt_le u k
          have hkz : (k : Int) < (u.size : Int) := by omega
          by_cases hx : k < p.b
          · rcases HSk.out k hk1 hx with h | h | h
            · have h32 : (bAt u k : Int) ≤ 32 := by omega
              as_aux_lemma =>
                go_wp2_with fail
                refine Handed.intro (p.b - (k + 1)) ?_ ?_
                · have := Hm3.out; omega
                go_step
                refine FR.intro (by rfl) ?_
                exact ⟨k + 1, rfl, ⟨rfl, rfl, rfl, rfl, by simp only [slotOf]; congr 1, rfl, rfl, rfl⟩, by omega, by omega, rfl⟩
            · have hbv : (bAt u k : Int) = 44 := by omega
              as_aux_lemma =>
                go_wp2_with fail
                refine Handed.intro (p.b - (k + 1)) ?_ ?_
                · have := Hm3.out; omega
                go_step
                refine FR.intro (by rfl) ?_
                exact ⟨k + 1, rfl, ⟨rfl, rfl, rfl, rfl, by simp only [slotOf]; congr 1, rfl, rfl, rfl⟩, by omega, by omega, rfl⟩
            · have hbv : (bAt u k : Int) = 58 := by omega
              as_aux_lemma =>
                go_wp2_with fail
                refine Handed.intro (p.b - (k + 1)) ?_ ?_
                · have := Hm3.out; omega
                go_step
                refine FR.intro (by rfl) ?_
                exact ⟨k + 1, rfl, ⟨rfl, rfl, rfl, rfl, by simp only [slotOf]; congr 1, rfl, rfl, rfl⟩, by omega, by omega, rfl⟩
          obtain rfl : k = p.b := by omega
          have h32 : ¬ (bAt u p.b : Int) ≤ 32 := by omega
          have e44 : ((bAt u p.b : Int) == 44) = false := by simp; omega
          have e58 : ((bAt u p.b : Int) == 58) = false := by simp; omega
          as_aux_lemma =>
            go_wp2_with fail
            refine Met.intro ?_
            go_step
            refine FR.intro (by rfl) ?_
            exact ⟨⟨rfl, rfl, rfl, rfl, rfl, rfl, rfl, rfl⟩, rfl⟩
      case restI =>
      refine FR.rest ?_
      rintro g w4' ⟨⟨e1, e2, e4, e5, e6, e7, e8, e12⟩, rfl⟩
      rw [lit158]
      simp only [e1, e2, e4, e5, e6, e7, e8, e12]
      clear e1 e2 e4 e5 e6 e7 e8 e12
      have hbo4 : ¬ OneB Bo 0 := fun hc => by have : 0 = Bo := hc; omega
      have HT4 := Lib.hid (HT.out.upd HF1.out.fe.up (fun b hb => by have : b = Bo := hb; omega))
      have HV4 := Lib.hid (HVT.out.updS HF1.out.fe.up hbo4)
      have hlo4 : lo ≤ w4'.heap.size := Nat.le_trans hlo HF1.out.fe.up.size
      go_wp2_with fail
      refine (HPA.out _ HT4.out hlo4 HV4.out).mono ?_
      rintro e w5 ⟨r, hr, rfl, hu5⟩
      have HR := Lib.hid hr; clear hr
      have hf5 := HF1.out.keep hu5
      clear hu5 HPA HT4 HV4 hlo4
      obtain ⟨_, vf0, vf1, vf2, vf3, vf4, vf5⟩ := cells6 hf5.fe.b2
      have HF6 : Hid (FC w.heap.size B1 Bo Bs stop [.int .i64 5, .string u, .string st, .float .f64 f, .int .i64 ix, .slice none 0 0] (vC 3 (u.extract i z) (bs t) 0 ((i : Int) + ix)) (vC (r.ty : Int) r.raw r.st r.f r.ix) l w ((((((w5.setCell ⟨B1 + 1, 0, none⟩ (.int .i64 (r.ty : Int))).setCell ⟨B1 + 1, 1, none⟩ (.string r.raw)).setCell ⟨B1 + 1, 2, none⟩ (.string r.st)).setCell ⟨B1 + 1, 3, none⟩ (.float .f64 r.f)).setCell ⟨B1 + 1, 4, none⟩ (.int .i64 r.ix)).setCell ⟨B1 + 1, 5, none⟩ (.slice none 0 0))) :=
        Lib.hid ((((((hf5.setV 0 (.int .i64 (r.ty : Int))).setV 1 (.string r.raw)).setV 2 (.string r.st)).setV 3 (.float .f64 r.f)).setV 4 (.int .i64 r.ix)).setV 5 (.slice none 0 0))
      clear hf5
      go_upto_region 42 with (fail)
      clear vf0 vf1 vf2 vf3 vf4 vf5
      generalize ((((((w5.setCell ⟨B1 + 1, 0, none⟩ (.int .i64 (r.ty : Int))).setCell ⟨B1 + 1, 1, none⟩ (.string r.raw)).setCell ⟨B1 + 1, 2, none⟩ (.string r.st)).setCell ⟨B1 + 1, 3, none⟩ (.float .f64 r.f)).setCell ⟨B1 + 1, 4, none⟩ (.int .i64 r.ix)).setCell ⟨B1 + 1, 5, none⟩ (.slice none 0 0)) = w6 at HF6 ⊢
      obtain ⟨⟨v0, v1, v2, v3, v4, v5⟩, vf0, vf1, vf2, vf3, vf4, vf5⟩ := cells6 HF6.out.fe.b2
      obtain ⟨⟨p0, p1, p2, p3, p4, p5⟩, _⟩ := cells6 HF6.out.fe.b0
      have HF7 := Lib.hid (HF6.out.setV 4 (.int .i64 ((p.b : Int) + ix)))
      have hpb : (p.b : Int) < 1048576 := by omega
      go_upto_region 46 with (fail)
      clear p0 p1 p2 p3 p4 p5 v0 v1 v2 v3 v4 v5 vf0 vf1 vf2 vf3 vf4 vf5
      generalize (w6.setCell ⟨B1 + 1, 4, none⟩ (.int .i64 ((p.b : Int) + ix))) = w7 at HF7 ⊢
      obtain ⟨⟨k0, k1, k2, k3, k4, k5⟩, _⟩ := cells6 HF7.out.fe.b1
      obtain ⟨⟨v0, v1, v2, v3, v4, v5⟩, _⟩ := cells6 HF7.out.fe.b2
      have hlb : l.length ≤ 100000000 := by omega
      have hcl := HFn.out.2 Bo Bs (B1 + 2) stop l ⟨3, u.extract i z, bs t, 0, (i : Int) + ix⟩ ⟨r.ty, r.raw, r.st, r.f, (p.b : Int) + ix⟩ w7 HF7.out.cw hlb
      simp only [show ((3 : Nat) : Int) = 3 from rfl] at hcl
      have HCl := Lib.hid hcl; clear hcl
      have hev8 : Hid (Ev (KM u q.names n.keys) (VI u q.kids n.kids) (l ++ [(⟨3, u.extract i z, bs t, 0, (i : Int) + ix⟩, ⟨r.ty, r.raw, r.st, r.f, (p.b : Int) + ix⟩)])) := Lib.hid (HEv.out.snoc ⟨(i, z), t, HNj.out, HTj.out, rfl, rfl, rfl, rfl⟩ ⟨p, m, HPj.out, HMj.out, HR.out⟩)
      have hcf := HFn.out.1
      go_wp2_with fail
      refine HCl.out.mono ?_
      rintro e w8 ⟨rfl, hcw8, hu8⟩
      clear k0 k1 k2 k3 k4 k5 v0 v1 v2 v3 v4 v5 hcf
      have HF8 := Lib.hid (HF7.out.clo hu8 hcw8)
      clear hcw8 hu8 HCl
      by_cases he : (l.length : Int) + 1 = stop
      · rw [decide_eq_true he]
        go_wp2_with fail
        refine bodyPost_ret (v := .tuple #[]) (by simp [results, Tryz.results54, go_sem]) rfl ?_
        exact ⟨rfl, _, _, by rw [HGo.out.last hj he, List.length_append]; rfl, hev8.out, HF8.out.cw, HF8.out.fe.up⟩
      · rw [decide_eq_false he]
        go_wp2_with fail
        refine Handed.intro (u.size - (p.e + 1)) ?_ ?_
        · have := Hm.out; omega
        go_step
        refine FR.intro (by rfl) ?_
        exact ⟨_, p.e + 1, rfl, ⟨rfl, rfl, rfl, rfl, by simp only [slotOf]; congr 1, rfl, rfl, by simp only [slotOf, List.length_append, List.length_singleton]; congr 1⟩, by rw [List.length_append]; exact hj, by rw [List.length_append]; exact HNext.out, _, _, _, hev8.out, by rw [List.length_append]; exact HGo.out.next he, _, _, _, _, _, HF8.out⟩
end Go.Proofs.YtggdcpmampjncaaGreatDoor
