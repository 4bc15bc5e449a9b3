/- All of a JSON text's result yields what ForEach passes: FnGjAll returns true. -/
import Derived.Test.YtggdcpmampjncaaGreatDoorFgh
import Derived.Laws.OwnMore
namespace Go.Proofs.YtggdcpmampjncaaGreatDoor
open Go.RowKit

theorem lit82 (g : Nat → Value) : ((List.range 82).map g).toArray = #[g 0, g 1, g 2, g 3, g 4, g 5, g 6, g 7, g 8, g 9, g 10, g 11, g 12, g 13, g 14, g 15, g 16, g 17, g 18, g 19, g 20, g 21, g 22, g 23, g 24, g 25, g 26, g 27, g 28, g 29, g 30, g 31, g 32, g 33, g 34, g 35, g 36, g 37, g 38, g 39, g 40, g 41, g 42, g 43, g 44, g 45, g 46, g 47, g 48, g 49, g 50, g 51, g 52, g 53, g 54, g 55, g 56, g 57, g 58, g 59, g 60, g 61, g 62, g 63, g 64, g 65, g 66, g 67, g 68, g 69, g 70, g 71, g 72, g 73, g 74, g 75, g 76, g 77, g 78, g 79, g 80, g 81] := by kernel_rfl
/-- What All is to yield. -/
def kidsOf (n : Nd) : List Nd := if 5 ≤ n.kind then n.kids else [n]

theorem cutN_le (stop : Int) (N : Nat) : cutN stop N ≤ N := by unfold cutN; split <;> omega
theorem cutN_zero {stop : Int} {N : Nat} (h : cutN stop N = 0) : N = 0 := by unfold cutN at h; split at h <;> omega
theorem RdL.cap {w : World} {F : Nat → Prop} {a : Option Addr} {n c : Nat} {ks : List Nd} (h : RdL w F (.slice a n c) ks) (hk : ks.length = n) : n ≤ c := by
  obtain ⟨xs, h1, _⟩ := h
  rcases h1.2 with ⟨he, h0⟩ | ⟨g, cap, cur, he, _, _, hc, _⟩
  · omega
  · injection he with e1 e2 e3
    subst e3
    omega
theorem shK_len (a : Nat) : ∀ (ps : List Pl), (shK a ps).length = ps.length
  | [] => by simp only [shK]
  | p :: ps => by simp only [shK, List.length_cons, shK_len a ps]
theorem sh_kids (a : Nat) (p : Pl) : (p.sh a).kids = shK a p.kids := by cases p; simp only [Pl.sh, Pl.kids]
theorem TreesR.len {u : ByteArray} : ∀ (ps : List Pl) (l : List Nd), TreesR u ps l → l.length = ps.length
  | [], l, h => by simp only [TreesR] at h; rw [h]; rfl
  | p :: ps, l, h => by simp only [TreesR] at h; obtain ⟨n, r, rfl, _, h2⟩ := h; simp [TreesR.len ps r h2]
theorem kids_len {s : ByteArray} {p : Pl} {n : Nd} (h : TreeR s p n) (hk : n.kind = p.kind) : (kidsOf n).length = NX p := by
  unfold kidsOf NX
  rw [hk]
  split
  · rw [sh_kids, shK_len, TreesR.len _ _ h.kids]
  · rfl
theorem NX_zero {p : Pl} (h : NX p = 0) : 5 ≤ p.kind ∧ p.kids = [] := by
  unfold NX at h
  split at h
  · rename_i hk
    rw [sh_kids, shK_len] at h
    exact ⟨hk, List.length_eq_zero_iff.1 h⟩
  · omega
/-- What is known of a text's array or object, cut out. -/
theorem cut_at {s : ByteArray} {p : Pl} {n : Nd} (hp : PText s p) (hn : TreeR s p n) (hk : 5 ≤ p.kind) :
    (∀ q ∈ (p.sh p.b).kids, PVal (s.extract p.b s.size) q ∧ q.e ≤ (s.extract p.b s.size).size) ∧ (p.sh p.b).kids.length ≤ s.size ∧ TreesR (s.extract p.b s.size) (p.sh p.b).kids n.kids := by
  obtain ⟨a, h1, h2, h3, h4, h5⟩ := id hp
  have hlt := PVal.lt p h3
  have hk6 := PVal.kind_le h3
  have S : Sub s (s.extract p.b s.size) p.b s.size := ⟨by omega, Nat.le_refl _, rfl⟩
  have hsz : (s.extract p.b s.size).size = s.size - p.b := S.size
  have hq := PVal.sh S p h3 (Nat.le_refl _) h4
  have hqe : (p.sh p.b).e = p.e - p.b := Pl.sh_e _ _
  have hqb : (p.sh p.b).b = 0 := by rw [Pl.sh_b]; omega
  have hqk : (p.sh p.b).kind = p.kind := by cases p; simp only [Pl.sh, Pl.kind]
  have hqt : Bls (s.extract p.b s.size) (p.sh p.b).e (s.extract p.b s.size).size := by
    rw [hqe, hsz]
    exact h5.sh S (by omega) (Nat.le_refl _)
  have hqn := TreeR.sh S p n h3 hn (Nat.le_refl _) h4
  by_cases hk5 : p.kind = 5
  · obtain ⟨g1, g2⟩ := (AtE.start hq hqb (by rw [hqk]; exact hk5) hqt).all
    exact ⟨g2, by omega, hqn.kids⟩
  · obtain ⟨g1, g2⟩ := (AtM.start hq hqb (by rw [hqk]; omega) hqt).all
    exact ⟨g2, by omega, hqn.kids⟩
theorem NX_le {s : ByteArray} {p : Pl} (hs : s.size ≤ 1048576) (hp : PText s p) : NX p ≤ 1048577 := by
  unfold NX
  split
  · rename_i hk
    obtain ⟨a, h1, h2, h3, h4, h5⟩ := id hp
    have hlt := PVal.lt p h3
    have hk6 := PVal.kind_le h3
    have S : Sub s (s.extract p.b s.size) p.b s.size := ⟨by omega, Nat.le_refl _, rfl⟩
    have hsz : (s.extract p.b s.size).size = s.size - p.b := S.size
    have hq := PVal.sh S p h3 (Nat.le_refl _) h4
    have hqe : (p.sh p.b).e = p.e - p.b := Pl.sh_e _ _
    have hqb : (p.sh p.b).b = 0 := by rw [Pl.sh_b]; omega
    have hqk : (p.sh p.b).kind = p.kind := by cases p; simp only [Pl.sh, Pl.kind]
    have hqt : Bls (s.extract p.b s.size) (p.sh p.b).e (s.extract p.b s.size).size := by
      rw [hqe, hsz]
      exact h5.sh S (by omega) (Nat.le_refl _)
    by_cases hk5 : p.kind = 5
    · have := ((AtE.start hq hqb (by rw [hqk]; exact hk5) hqt).all).1
      omega
    · have := ((AtM.start hq hqb (by rw [hqk]; omega) hqt).all).1
      omega
  · omega
theorem split_at {α : Type} {l : List α} {j : Nat} {x : α} (h : l[j]? = some x) : ∃ a b, l = a ++ x :: b ∧ a.length = j := by
  obtain ⟨hlt, rfl⟩ := List.getElem?_eq_some_iff.1 h
  refine ⟨l.take j, l.drop (j + 1), ?_, by rw [List.length_take]; omega⟩
  rw [← List.drop_eq_getElem_cons hlt, List.take_append_drop]
theorem VX.isV {s : ByteArray} {p : Pl} {n : Nd} {j : Nat} {v : Rs} (hs : s.size ≤ 1048576) (hp : PText s p) (hn : TreeR s p n) (hj : j < NX p) (h : VX s p n j v) : ∃ m, (kidsOf n)[j]? = some m ∧ IsV v m := by
  unfold VX at h
  unfold NX at hj
  unfold kidsOf
  rw [hn.kind]
  by_cases hk : 5 ≤ p.kind
  · rw [if_pos hk] at h hj ⊢
    obtain ⟨q, m, h1, h2, h3⟩ := h
    obtain ⟨g1, g2, g3⟩ := cut_at hp hn hk
    obtain ⟨hq1, hq2⟩ := g1 q (List.mem_of_getElem? h1)
    obtain ⟨m', hm', ht⟩ := TreesR.get _ _ g3 j q h1
    obtain rfl : m = m' := Option.some.inj (h2.symm.trans hm')
    refine ⟨m, h2, IsAt.isV (s := s.extract p.b s.size) ⟨by rw [h3.1, ht.kind], h3.2.1, fun h4 => ⟨m.text, ht.str h4, ?_⟩⟩ hq1 hq2 (by rw [ByteArray.size_extract]; omega) ht⟩
    rw [h3.2.2.1, if_pos h4]
    rfl
  · rw [if_neg hk] at h hj ⊢
    obtain rfl : j = 0 := by omega
    obtain ⟨a, h1, h2, h3, h4, h5⟩ := id hp
    obtain ⟨r1, r2, r3, r4, r5⟩ := h
    rw [if_neg hk] at r2
    refine ⟨n, rfl, IsAt.isV (s := s) ⟨by rw [r1, hn.kind], r2, fun h4 => ⟨n.text, hn.str h4, ?_⟩⟩ h3 h4 hs hn⟩
    rw [r3, if_pos h4]
    rfl

set_option maxHeartbeats 8000000 in
set_option maxRecDepth 8000 in
theorem all_any (lo : Nat) (s : ByteArray) (stop : Int) (w : World) (hT : Tabs lo w) (hlo : lo ≤ w.heap.size) (hvt : VT w) (hvl : 0 < lo) :
    Calls Tryz.prog 5 #[.string s, .int .i64 stop] w (TrueRet w) := by
  have HT := Lib.hid hT; clear hT
  have HVT := Lib.hid hvt; clear hvt
  by_cases hbig : (2147483647 : Int) < (s.size : Int)
  · go_enter Tryz.func5, Tryz.ntmps5
    go_wp2_with fail
    go_ret
    exact ⟨rfl, Upd.refl _ _⟩
  have hs : s.size ≤ 2147483647 := by omega
  go_enter Tryz.func5, Tryz.ntmps5
  go_wp2_with fail
  refine (gjText_any s w (by omega)).mono ?_
  rintro e w1 ⟨b, n, yv, dv, rfl, hu1, hrd, hb⟩
  obtain ⟨ya, yc, da, dc, rfl, rfl⟩ := hrd.shape
  have HU1 := Lib.hid hu1; clear hu1
  have HRd := Lib.hid hrd; clear hrd
  cases b
  · clear hb
    go_wp2_with fail
    go_ret
    exact ⟨rfl, HU1.out.alloc _⟩
  obtain ⟨hs2, hpr, p, hpt, htr, hpb⟩ := hb rfl
  clear hb hpr hpb
  have HNK := Lib.hid htr.kind
  have HPt := Lib.hid hpt; clear hpt
  have HTr := Lib.hid htr; clear htr
  go_upto_region 7 with (fail)
  have hb2 := heap_alloc_new w1 (.cells #[.int .i64 (n.kind : Int), .string (bs n.text), .slice ya n.keys.length yc, .slice da n.kids.length dc] 25)
  have hu2 := (Upd.refl NoB w1).alloc (.cells #[.int .i64 (n.kind : Int), .string (bs n.text), .slice ya n.keys.length yc, .slice da n.kids.length dc] 25)
  have HRd2 := Lib.hid (RdD.upd hu2 (fun _ _ h => h) _ _ _ HRd.out)
  have HU2 := Lib.hid (HU1.out.trans hu2)
  generalize w1.alloc (.cells #[.int .i64 (n.kind : Int), .string (bs n.text), .slice ya n.keys.length yc, .slice da n.kids.length dc] 25) = w2 at *
  clear hu2
  have HB2 := Lib.hid hb2; clear hb2
  have hk0 : ∀ k : Nat, (k : Int) = 5 ↔ k = 5 := fun k => by omega
  refine wp_cut (FR 82 (fun g wx => (g 0 = .string s ∧ g 1 = .int .i64 stop ∧ g 5 = .pointer (some ⟨w1.heap.size, 0, none⟩) ∧ g 7 = .slice da n.kids.length dc ∧ g 29 = .bool (!decide (5 ≤ n.kind))) ∧ wx = w2)) ?rest7 ?first7
  case first7 =>
    intro J K hJ hK
    obtain ⟨⟨c0, c1, c2, c3⟩, _⟩ := four_cells HB2.out
    have hk6 : n.kind ≤ 6 := by
      obtain ⟨_, _, _, h, _⟩ := HPt.out
      rw [HNK.out]; exact PVal.kind_le h
    by_cases h5 : n.kind = 5
    · have e5 : ((n.kind : Int) != 5) = false := by rw [h5]; rfl
      have hd : decide (5 ≤ n.kind) = true := decide_eq_true (by omega)
      rw [hd] at hJ
      clear hd h5 hk6
      go_wp2_with fail
      refine Met.intro ?_
      go_step
      refine FR.intro (by rfl) ?_
      exact ⟨⟨rfl, rfl, rfl, rfl, rfl⟩, rfl⟩
    have e5 : ((n.kind : Int) != 5) = true := by simp; omega
    by_cases h6 : n.kind = 6
    · have e6 : ((n.kind : Int) != 6) = false := by rw [h6]; rfl
      have hd : decide (5 ≤ n.kind) = true := decide_eq_true (by omega)
      rw [hd] at hJ
      clear hd h5 h6 hk6
      go_wp2_with fail
      refine Met.intro ?_
      go_step
      refine FR.intro (by rfl) ?_
      exact ⟨⟨rfl, rfl, rfl, rfl, rfl⟩, rfl⟩
    · have e6 : ((n.kind : Int) != 6) = true := by simp; omega
      have hd : decide (5 ≤ n.kind) = false := decide_eq_false (by omega)
      rw [hd] at hJ
      clear hd h5 h6 hk6
      go_wp2_with fail
      refine Met.intro ?_
      go_step
      refine FR.intro (by rfl) ?_
      exact ⟨⟨rfl, rfl, rfl, rfl, rfl⟩, rfl⟩
  case rest7 =>
  clear hk0
  refine FR.rest ?_
  rintro g wx ⟨⟨e0, e1, e5, e7, e29⟩, rfl⟩
  rw [lit82]
  simp only [e0, e1, e5, e7, e29]
  clear e0 e1 e5 e7 e29
  go_upto_if 29 with (fail)
  refine wp_cut (FR 82 (fun g wy => ∃ qa qc, (g 0 = .string s ∧ g 1 = .int .i64 stop ∧ g 5 = .pointer (some ⟨w1.heap.size, 0, none⟩) ∧ g 7 = .slice qa (kidsOf n).length qc) ∧ RdL wy (fun _ => True) (.slice qa (kidsOf n).length qc) (kidsOf n) ∧ Upd NoB wx wy)) ?rest8 ?first8
  case first8 =>
    intro J K hJ hK
    by_cases h5 : 5 ≤ n.kind
    · rw [decide_eq_true h5]
      have hkids : kidsOf n = n.kids := by unfold kidsOf; rw [if_pos h5]
      rw [hkids] at hJ
      have HR : Hid (RdL wx (fun _ => True) (.slice da n.kids.length dc) n.kids) := Lib.hid ((RdD_mk.1 HRd2.out).2.mono (fun _ _ _ => trivial))
      clear hkids h5
      go_wp2_with fail
      refine Met.intro ?_
      go_step
      refine FR.intro (by rfl) ?_
      exact ⟨da, dc, ⟨rfl, rfl, rfl, rfl⟩, HR.out, Upd.refl _ _⟩
    · rw [decide_eq_false h5]
      have hkids : kidsOf n = [n] := by unfold kidsOf; rw [if_neg h5]
      rw [hkids] at hJ
      have HR : Hid (RdL (wx.alloc (.cells #[.int .i64 (n.kind : Int), .string (bs n.text), .slice ya n.keys.length yc, .slice da n.kids.length dc] 25)) (fun _ => True) (.slice (some ⟨wx.heap.size, 0, none⟩) 1 1) [n]) := Lib.hid (by
        refine ⟨[.int .i64 (n.kind : Int), .string (bs n.text), .slice ya n.keys.length yc, .slice da n.kids.length dc], ?_, fun _ _ => trivial, ?_⟩
        · exact World.ownsRow_lit (base := 0) (size := 4) (e := 25) wx #[.int .i64 (n.kind : Int), .string (bs n.text), .slice ya n.keys.length yc, .slice da n.kids.length dc] 1 (Nat.zero_le _) (by decide) rfl
        · simp only [RdDs]
          exact ⟨_, _, [], by simp, RdD.mono (fun _ _ _ => trivial) _ _ _ (RdD.upd ((Upd.refl NoB wx).alloc _) (fun _ _ h => h) _ _ _ HRd2.out), rfl⟩)
      obtain ⟨⟨c0, c1, c2, c3⟩, _⟩ := four_cells HB2.out
      clear hkids h5
      go_wp2_with fail
      refine Met.intro ?_
      go_step
      refine FR.intro (by rfl) ?_
      exact ⟨_, _, ⟨rfl, rfl, rfl, rfl⟩, HR.out, (Upd.refl _ _).alloc _⟩
  case rest8 =>
  refine FR.rest ?_
  rintro g w3 ⟨qa, qc, ⟨e0, e1, e5, e7⟩, hrl, hu3⟩
  rw [lit82]
  simp only [e0, e1, e5, e7]
  clear e0 e1 e5 e7
  have HRl := Lib.hid hrl; clear hrl
  have HU3 := Lib.hid (HU2.out.trans hu3); clear hu3
  go_upto_region 9 with (fail)
  obtain ⟨N0, hN0⟩ : ∃ N0, N0 = (kidsOf n).length := ⟨_, rfl⟩
  rw [← hN0] at HRl ⊢
  have HN0 := Lib.hid hN0; clear hN0
  refine wp_cut (FR 82 (fun g wx => (g 0 = .string s ∧ g 1 = .int .i64 stop ∧ g 5 = .pointer (some ⟨w1.heap.size, 0, none⟩) ∧ g 7 = .slice qa N0 qc ∧ g 39 = .bool (decide (0 < stop ∧ stop < (N0 : Int)))) ∧ wx = w3)) ?rest9 ?first9
  case first9 =>
    intro J K hJ hK
    by_cases hs0 : 0 < stop
    · by_cases hs1 : stop < (N0 : Int)
      · have hd : decide (0 < stop ∧ stop < (N0 : Int)) = true := decide_eq_true ⟨hs0, hs1⟩
        rw [hd] at hJ
        clear hd
        go_wp2_with fail
        refine Met.intro ?_
        go_step
        refine FR.intro (by rfl) ?_
        exact ⟨⟨rfl, rfl, rfl, rfl, rfl⟩, rfl⟩
      · have hd : decide (0 < stop ∧ stop < (N0 : Int)) = false := decide_eq_false (fun h => hs1 h.2)
        rw [hd] at hJ
        clear hd
        go_wp2_with fail
        refine Met.intro ?_
        go_step
        refine FR.intro (by rfl) ?_
        exact ⟨⟨rfl, rfl, rfl, rfl, rfl⟩, rfl⟩
    · have hd : decide (0 < stop ∧ stop < (N0 : Int)) = false := decide_eq_false (fun h => hs0 h.1)
      rw [hd] at hJ
      clear hd
      go_wp2_with fail
      refine Met.intro ?_
      go_step
      refine FR.intro (by rfl) ?_
      exact ⟨⟨rfl, rfl, rfl, rfl, rfl⟩, rfl⟩
  case rest9 =>
  refine FR.rest ?_
  rintro g w3' ⟨⟨e0, e1, e5, e7, e39⟩, rfl⟩
  rw [lit82]
  simp only [e0, e1, e5, e7, e39]
  clear e0 e1 e5 e7 e39
  go_upto_if 39 with (fail)
  refine wp_cut (FR 82 (fun g wx => (g 0 = .string s ∧ g 1 = .int .i64 stop ∧ g 5 = .pointer (some ⟨w1.heap.size, 0, none⟩) ∧ g 7 = .slice qa (cutN stop N0) qc) ∧ wx = w3')) ?rest10 ?first10
  case first10 =>
    intro J K hJ hK
    by_cases hs : 0 < stop ∧ stop < (N0 : Int)
    · rw [decide_eq_true hs]
      obtain ⟨m, hm⟩ : ∃ m : Nat, stop = (m : Int) := ⟨stop.toNat, by omega⟩
      have hc : cutN stop N0 = m := by unfold cutN; rw [if_pos hs]; omega
      rw [hc] at hJ
      clear hc
      obtain ⟨hs0, hs1⟩ := hs
      have hqc : N0 ≤ qc := HRl.out.cap HN0.out.symm
      subst hm
      go_wp2_with fail
      refine Met.intro ?_
      go_step
      refine FR.intro (by rfl) ?_
      exact ⟨⟨rfl, rfl, rfl, rfl⟩, rfl⟩
    · rw [decide_eq_false hs]
      have hc : cutN stop N0 = N0 := by unfold cutN; rw [if_neg hs]
      rw [hc] at hJ
      clear hc hs
      go_wp2_with fail
      refine Met.intro ?_
      go_step
      refine FR.intro (by rfl) ?_
      exact ⟨⟨rfl, rfl, rfl, rfl⟩, rfl⟩
  case rest10 =>
  refine FR.rest ?_
  rintro g w3 ⟨⟨e0, e1, e5, e7⟩, rfl⟩
  rw [lit82]
  simp only [e0, e1, e5, e7]
  clear e0 e1 e5 e7
  have HNX : Hid (N0 = NX p) := Lib.hid (by rw [HN0.out]; exact kids_len HTr.out HNK.out)
  obtain ⟨N, hN⟩ : ∃ N, N = cutN stop N0 := ⟨_, rfl⟩
  rw [← hN]
  have HN := Lib.hid hN; clear hN
  have hNle : N ≤ N0 := by rw [HN.out]; exact cutN_le _ _
  have HQc : Hid (N0 ≤ qc) := Lib.hid (HRl.out.cap HN0.out.symm)
  have HLb : Hid (N0 ≤ 1048577) := Lib.hid (by rw [HNX.out]; exact NX_le (by omega) HPt.out)
  have hs3 := HU3.out.size
  have HT3 := Lib.hid (HT.out.upd HU3.out (fun _ h => h.elim))
  have HV3 := Lib.hid (HVT.out.upd HU3.out)
  have HGA := Lib.hid (GjAll_any lo s p n stop w3 (by omega) HPt.out HTr.out HT3.out (by omega) HV3.out hvl)
  go_wp2_with fail
  refine HGA.out.mono ?_
  rintro e w4 ⟨v, l, rfl, hl, hev, hrow, hu4⟩
  rw [← HNX.out, ← HN.out] at hl
  obtain ⟨va, vc, rfl⟩ : ∃ va vc, v = .slice va N vc := by
    obtain ⟨a, c, rfl⟩ := hrow.len
    exact ⟨a, c, by rw [hl]⟩
  have hs4 := hu4.size
  have hpairs := gjPairs_any lo _ s p n stop va vc l w4 (by omega) HPt.out HTr.out (HT3.out.upd hu4 (fun _ h => h.elim)) (by omega) (HV3.out.upd hu4) hvl (by rw [hl, HN.out, HNX.out]) (by have := HLb.out; omega) hev (by rw [hl]; exact hrow)
  rw [hl] at hpairs
  have HPr := Lib.hid hpairs; clear hpairs
  have HEv := Lib.hid hev; clear hev
  have HRow := Lib.hid hrow; clear hrow
  have HL := Lib.hid hl; clear hl
  have HU4 := Lib.hid (HU3.out.trans hu4)
  have HRl4 := Lib.hid (HRl.out.upd hu4 (fun _ _ h => h))
  clear hu4 hs4 HGA
  have hne : ((N : Int) != (N : Int)) = false := by simp
  go_wp2_with fail
  refine HPr.out.mono ?_
  rintro e w5 ⟨rfl, hu5⟩
  have HU5 := Lib.hid hu5; clear hu5
  go_wp2_with fail
  refine wp_loop_ghost_k (fun mm => FR 82 (fun g wx => ∃ j : Nat, mm = N - j ∧ (g 0 = .string s ∧ g 7 = .slice qa N qc ∧ g 8 = .slice va N vc ∧ g 59 = .int .i64 (N : Int) ∧ g 60 = .int .i64 (j : Int)) ∧ j ≤ N ∧ Upd NoB w4 wx)) N ?atStart ?round
  case atStart =>
    refine FR.intro (by rfl) ?_
    exact ⟨0, rfl, ⟨rfl, rfl, rfl, rfl, rfl⟩, Nat.zero_le _, HU5.out⟩
  case round =>
    clear hne
    intro gk
    refine FR.rest ?_
    rintro g wx ⟨j, hm, ⟨e0, e7, e8, e59, e60⟩, hj, hu⟩
    rw [lit82]
    simp only [e0, e7, e8, e59, e60]
    clear e0 e7 e8 e59 e60
    intro J2 K2 hJ2 hK2
    have Hm := Lib.hid hm; clear hm
    have HU := Lib.hid hu; clear hu
    by_cases hlt : j < N
    rotate_left
    · obtain rfl : j = N := by omega
      have hnlt : ¬ (j : Int) < (j : Int) := by omega
      by_cases hz : 0 < j
      · have hz' : (0 : Int) < (j : Int) := by omega
        go_wp2_with fail
        go_ret
        exact ⟨rfl, HU4.out.trans HU.out⟩
      · have hz' : ¬ (0 : Int) < (j : Int) := by omega
        have hNX0 : NX p = 0 := by rw [← HNX.out]; exact cutN_zero (by rw [← HN.out]; omega)
        obtain ⟨hk5, hk0⟩ := NX_zero hNX0
        have HVl := Lib.hid (fun wy => GjValid_any s p wy (by omega) HPt.out hk5 hk0)
        clear hNX0 hk5 hk0
        go_wp2_with fail
        refine (HVl.out _).mono ?_
        rintro e w6 ⟨rfl, hu6⟩
        have HU6 := Lib.hid hu6; clear hu6
        go_wp2_with fail
        go_ret
        exact ⟨rfl, (HU4.out.trans HU.out).trans HU6.out⟩
    have hlt' : (j : Int) < (N : Int) := by omega
    obtain ⟨k, v, hlj⟩ : ∃ k v, l[j]? = some (k, v) := by
      have hjl : j < l.length := by rw [HL.out]; exact hlt
      exact ⟨l[j].1, l[j].2, List.getElem?_eq_getElem hjl⟩
    obtain ⟨m, hmj, hvm⟩ := VX.isV (by omega) HPt.out HTr.out (by rw [← HNX.out]; omega) (HEv.out _ _ _ hlj).2
    have hx : v.ex = true := by unfold Rs.ex; exact decide_eq_true (.inr (by have := hvm.size; omega))
    have hrowa : RowQ w3.heap.size wx (.slice va l.length vc) l := by rw [HL.out]; exact HRow.out.upd HU.out (fun _ _ _ h => h)
    obtain ⟨ga, rfl, hca, da⟩ := hrowa.at hlj
    have a5 := da 5 _ rfl
    have a6 := da 6 _ rfl
    have a7 := da 7 _ rfl
    have a8 := da 8 _ rfl
    have a9 := da 9 _ rfl
    rw [hx] at a9
    have hrl := HRl4.out.upd HU.out (fun _ _ h => h)
    obtain ⟨ns, rs, hsp, hns⟩ := split_at hmj
    have hN0 := HN0.out
    rw [hN0, hsp] at hrl
    obtain ⟨gq, qn, qk, rfl, hqc, ⟨q0, q1, q2, q3⟩, hqr⟩ := hrl.at
    obtain ⟨qna, qnc, qka, qkc, rfl, rfl⟩ := hqr.shape
    rw [hns] at q0 q1 q2 q3
    have hca' : (N : Int) ≤ (vc : Int) := by have := HL.out; omega
    have hcq' : (N : Int) ≤ (qc : Int) := by have := HQc.out; omega
    have hd0 : (0 : Int) ≤ (j : Int) := by omega
    have hdb : (j : Int) ≤ 1048577 := by have := HLb.out; omega
    have HC := Lib.hid (gjIs_any v m _ _ _ wx.drew hvm (RdD.upd (Upd.refl NoB wx).drew (fun _ _ h => h) _ _ _ hqr))
    clear da hrowa hca hlj hmj hvm hx hrl hsp hns hN0 hqc hqr
    go_wp2_with fail
    go_region_held3 (fun w' => w'.cell? ⟨ga, j * 10 + 5, none⟩ = some (.int .i64 (v.ty : Int)) ∧ w'.cell? ⟨ga, j * 10 + 5 + 1, none⟩ = some (.string v.raw) ∧ w'.cell? ⟨ga, j * 10 + 5 + 2, none⟩ = some (.string v.st) ∧ w'.cell? ⟨ga, j * 10 + 5 + 3, none⟩ = some (.float .f64 v.f) ∧ w'.cell? ⟨ga, j * 10 + 5 + 4, none⟩ = some (.bool true) ∧ w'.cell? ⟨gq, j * 4, none⟩ = some (.int .i64 (m.kind : Int)) ∧ w'.cell? ⟨gq, j * 4 + 1, none⟩ = some (.string (bs m.text)) ∧ w'.cell? ⟨gq, j * 4 + 2, none⟩ = some (.slice qna m.keys.length qnc) ∧ w'.cell? ⟨gq, j * 4 + 3, none⟩ = some (.slice qka m.kids.length qkc)) (first | (go_keep; done) | (go_split_ands; exact ⟨hu5.cell (by assumption) (fun h => h), hu5.cell (by assumption) (fun h => h), hu5.cell (by assumption) (fun h => h), hu5.cell (by assumption) (fun h => h), hu5.cell (by assumption) (fun h => h), hu5.cell (by assumption) (fun h => h), hu5.cell (by assumption) (fun h => h), hu5.cell (by assumption) (fun h => h), hu5.cell (by assumption) (fun h => h)⟩)) (first | (go_at_call 11; refine HC.out.mono ?_; rintro e w5 ⟨rfl, hu5⟩))
    all_goals
      have HU6 := Lib.hid (HU.out.drew.trans hu5)
      clear hu5
      go_wp2_with fail
      refine Handed.intro (N - (j + 1)) ?_ ?_
      · have := Hm.out; omega
      go_step
      refine FR.intro (by rfl) ?_
      exact ⟨j + 1, rfl, ⟨rfl, rfl, rfl, rfl, by simp only [slotOf]; congr 1⟩, hlt, HU6.out⟩
end Go.Proofs.YtggdcpmampjncaaGreatDoor
