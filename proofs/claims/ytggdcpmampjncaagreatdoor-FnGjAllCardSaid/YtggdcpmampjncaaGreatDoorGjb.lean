/- impl's GjResultArray. The law's gjKind and gjAt. FnGjResultArrayRaw returns true. -/
import Derived.Test.YtggdcpmampjncaaGreatDoorGj11
import Derived.Test.YtggdcpmampjncaaGreatDoorSpec4
namespace Go.Proofs.YtggdcpmampjncaaGreatDoor
open Go.RowKit

theorem lit19 (g : Nat → Value) : ((List.range 19).map g).toArray = #[g 0, g 1, g 2, g 3, g 4, g 5, g 6, g 7, g 8, g 9, g 10, g 11, g 12, g 13, g 14, g 15, g 16, g 17, g 18] := by kernel_rfl

set_option maxHeartbeats 4000000 in
theorem gjAll_any (B : Nat) (l : List Rs) (v : Value) (w : World) (hl : l.length ≤ 100000000) (hr : RowR B w v l) (hz : ∀ r ∈ l, 0 < r.raw.size) :
    Calls Tryz.prog 20 #[v] w fun e w' => ∃ v', e = .returned v' ∧ RowG w.heap.size w' v' l ∧ Upd NoB w w' := by
  have hfl := fl_store
  obtain ⟨va, vc, rfl⟩ := hr.len
  have HR := Lib.hid hr; clear hr
  have HZ := Lib.hid hz; clear hz
  go_enter Tryz.func20, Tryz.ntmps20
  go_wp2_with fail
  refine wp_loop_ghost_k (fun mm => FR 19 (fun g wx => ∃ ds rs v', mm = rs.length ∧ l = ds ++ rs ∧ (g 3 = v' ∧ g 6 = .slice va l.length vc ∧ g 7 = .int .i64 (l.length : Int) ∧ g 8 = .int .i64 (ds.length : Int)) ∧ RowG w.heap.size wx v' ds ∧ Upd NoB w wx)) l.length ?atStart ?round
  case atStart =>
    refine FR.intro (by rfl) ?_
    exact ⟨[], l, _, rfl, rfl, ⟨rfl, rfl, rfl, rfl⟩, RowG.nil _ _, Upd.refl _ _⟩
  case round =>
    intro gk
    refine FR.rest ?_
    rintro g wx ⟨ds, rs, v', hm, hds, ⟨e3, e6, e7, e8⟩, hg, hu⟩
    rw [lit19]
    simp only [e3, e6, e7, e8]
    clear e3 e6 e7 e8
    intro J2 K2 hJ2 hK2
    have Hm := Lib.hid hm; clear hm
    obtain ⟨ga, gc, rfl⟩ := hg.len
    have HG := Lib.hid hg; clear hg
    have HU := Lib.hid hu; clear hu
    cases rs with
    | nil =>
      have hdl : l.length = ds.length := by rw [hds, List.append_nil]
      have HD : Hid (l = ds) := Lib.hid (by rw [hds, List.append_nil])
      clear hds
      rw [hdl]
      go_wp2_with fail
      go_ret
      exact ⟨_, rfl, by rw [HD.out]; exact HG.out, HU.out⟩
    | cons r rs =>
      have hlt : (ds.length : Int) < (l.length : Int) := by rw [hds, List.length_append, List.length_cons]; omega
      have hdb : ds.length + 1 ≤ 1000000000 := by omega
      have hzr : 0 < r.raw.size := HZ.out r (by rw [hds]; exact List.mem_append_right _ (List.mem_cons_self ..))
      have hrx := HR.out.upd HU.out (fun _ _ _ h => h)
      rw [hds] at hrx
      obtain ⟨gb, cap, he, hcap, c0, c1, c2, c3, c4, c5⟩ := hrx.at
      rw [← hds] at he hcap
      injection he with he1 he2 he3
      subst he1 he3
      have HDS := Lib.hid hds; clear hds hrx he2
      have HC := Lib.hid (fun wy => gj_any r wy hzr)
      have hcap' : (l.length : Int) ≤ (vc : Int) := by omega
      have hd0 : (0 : Int) ≤ (ds.length : Int) := by omega
      go_wp2_with fail
      refine (HC.out _).mono ?_
      rintro e w1 ⟨rfl, hu1⟩
      have HU1 := Lib.hid (((Upd.refl NoB wx).alloc (.cells #[.int .i64 (r.ty : Int), .string r.raw, .string r.st, .float .f64 r.f, .int .i64 r.ix, .slice none 0 0] 57)).trans hu1)
      clear hu1 c0 c1 c2 c3 c4 c5
      have HNews := Lib.hid (cells_lit w1 r.gcells 38 ⟨w1.heap.size, 0, none⟩ rfl)
      have HOwn := Lib.hid ((HG.out.upd HU1.out (fun _ _ _ h => h)).upd ((Upd.refl NoB _).alloc (.cells #[.int .i64 (r.ty : Int), .string r.raw, .string r.st, .float .f64 r.f, .bool true] 38)) (fun _ _ _ h => h))
      have HS := Lib.hid (Nat.le_trans HU.out.size HU1.out.size)
      go_wp2_with (at_builtin; refine wpList_app_gj rfl _ _ rfl w.heap.size (.slice ga ds.length gc) ds rfl ?hown r ⟨w1.heap.size, 0, none⟩ 1 rfl ?hnews ?hb ?hB ?_)
      case hown => exact HOwn.out
      case hnews => exact HNews.out
      case hb => exact hdb
      case hB => have := HS.out; simp only [World.size_alloc]; omega
      intro v2 w2 hrow hupd hat
      have HR2 := Lib.hid hrow; clear hrow
      have HU2 := Lib.hid (((HU.out.trans HU1.out).alloc (.cells #[.int .i64 (r.ty : Int), .string r.raw, .string r.st, .float .f64 r.f, .bool true] 38)).then hupd (fun b hb => .inr (HG.out.lt b hb).1))
      clear hupd hat
      go_wp2_with fail
      refine Handed.intro rs.length ?_ ?_
      · have := Hm.out; rw [List.length_cons] at this; omega
      go_step
      refine FR.intro (by rfl) ?_
      exact ⟨ds ++ [r], rs, v2, rfl, by rw [HDS.out, List.append_assoc]; rfl, ⟨rfl, rfl, rfl, by simp only [slotOf, List.length_append, List.length_singleton]; congr 1⟩, HR2.out, HU2.out⟩

theorem AllAt.raw {u : ByteArray} : ∀ (ps : List Pl) (l : List Rs), AllAt u ps l → (∀ p ∈ ps, p.b < p.e ∧ p.e ≤ u.size) → ∀ r ∈ l, 0 < r.raw.size
  | [], l, h, _ => by simp only [AllAt] at h; subst h; simp
  | p :: ps, l, h, hp => by
    simp only [AllAt] at h
    obtain ⟨r, l', rfl, h1, h2⟩ := h
    intro x hx
    rcases List.mem_cons.1 hx with rfl | hx
    · rw [h1.2.1, ByteArray.size_extract]
      have := hp p (List.mem_cons_self ..)
      omega
    · exact AllAt.raw ps l' h2 (fun q hq => hp q (List.mem_cons_of_mem _ hq)) x hx

/-- What GjResultArray returns. -/
def GRet (u : ByteArray) (ps : List Pl) (w : World) (e : Ending) (w' : World) : Prop :=
  ∃ v l, e = .returned v ∧ AllAt u ps l ∧ RowG w.heap.size w' v l ∧ Upd NoB w w'
set_option maxHeartbeats 4000000 in
set_option maxRecDepth 4000 in
theorem GjResultArray_any (lo : Nat) (u : ByteArray) (ps : List Pl) (w : World) (hs : u.size ≤ 1048576) (h0 : bAt u 0 = 91) (hz : 0 < u.size) (hn : NE u 1 ps) (hst : Strs u ps) (hp : ∀ p ∈ ps, p.b < p.e ∧ p.e ≤ u.size) (hpl : ps.length ≤ 1048576) (hT : Tabs lo w) (hlo : lo ≤ w.heap.size) :
    Calls Tryz.prog 8 #[.agg #[.int .i64 5, .string u, .string ByteArray.empty, .float .f64 0, .bool true]] w (GRet u ps w) := by
  have HO := Lib.hid (fun wx => gjOf_any u wx)
  have HA := Lib.hid (fun wx (hT : Tabs lo wx) (hl : lo ≤ wx.heap.size) => Array_any lo u ps wx hs h0 hz hn hst hT hl)
  have HT := Lib.hid hT
  have HP := Lib.hid hp
  clear hT h0 hn hst hp
  go_enter Tryz.func8, Tryz.ntmps8
  go_wp2_with fail
  refine (HO.out _).mono ?_
  rintro e w1 ⟨rfl, hu1⟩
  have HU1 := Lib.hid (((Upd.refl NoB w).alloc (.cells #[.int .i64 5, .string u, .string ByteArray.empty, .float .f64 0, .bool true] 38)).trans hu1)
  clear hu1
  have HT1 := Lib.hid (HT.out.upd HU1.out (fun _ h => h.elim))
  have hs1 := HU1.out.size
  go_wp2_with fail
  refine (HA.out _ HT1.out (by omega)).mono ?_
  rintro e w2 ⟨v, l, rfl, h1, h2, h3⟩
  obtain ⟨va, vc, rfl⟩ := h2.len
  have H1 := Lib.hid h1
  have H2 := Lib.hid h2; clear h2
  have H3 := Lib.hid (HU1.out.trans h3); clear h3
  have HLL := Lib.hid (AllAt.len ps l h1)
  clear h1
  go_wp2_with fail
  refine (gjAll_any w1.heap.size l (.slice va l.length vc) w2 (by have := HLL.out; omega) H2.out (AllAt.raw ps l H1.out HP.out)).mono ?_
  rintro e w3 ⟨v3, rfl, hr3, hu3⟩
  obtain ⟨va3, vc3, rfl⟩ := hr3.len
  have HR3 := Lib.hid hr3; clear hr3
  have HU3 := Lib.hid hu3; clear hu3
  go_wp2_with fail
  go_ret
  exact ⟨.slice va3 l.length vc3, l, rfl, H1.out, ⟨HR3.out.1, fun b hb => Nat.le_trans H3.out.size (HR3.out.2 b hb)⟩, H3.out.trans HU3.out⟩
end Go.Proofs.YtggdcpmampjncaaGreatDoor
namespace Go.Proofs.YtggdcpmampjncaaGreatDoor
open Go.RowKit

set_option maxHeartbeats 1000000 in
theorem gjKind_any (k : Nat) (w : World) (hk : k ≤ 6) :
    Calls Tryz.prog 23 #[.int .i64 (k : Int)] w fun e w' => e = .returned (.int .i64 (kindOf k : Int)) ∧ w' = w := by
  obtain rfl | rfl | rfl | rfl | rfl | rfl | rfl : k = 0 ∨ k = 1 ∨ k = 2 ∨ k = 3 ∨ k = 4 ∨ k = 5 ∨ k = 6 := by omega
  all_goals
    clear hk
    go_enter Tryz.func23, Tryz.ntmps23
    go_wp2_with fail
    go_ret
    exact ⟨rfl, rfl⟩

set_option maxHeartbeats 8000000 in
set_option maxRecDepth 4000 in
theorem gjAt_any (s : ByteArray) (p : Pl) (r : Rs) (na ka : Option Addr) (nl nc kl kc : Nat) (w : World) (hs : s.size ≤ 1048576) (hk : p.kind ≤ 6) (hb : p.b ≤ p.e) (he : p.e ≤ s.size) (hq : p.kind = 4 → PStr s p.b p.e) (h : IsAt s p r) :
    Calls Tryz.prog 9 #[.agg #[.int .i64 (r.ty : Int), .string r.raw, .string r.st, .float .f64 r.f, .bool true], .string s, .agg #[.int .i64 (p.kind : Int), .int .i64 (p.b : Int), .int .i64 (p.e : Int), .slice na nl nc, .slice ka kl kc]] w fun e w' => e = .returned (.bool true) ∧ Upd NoB w w' := by
  obtain ⟨ty, raw, st, f, ix⟩ := r
  obtain ⟨h1, h2, h3⟩ := h
  dsimp only at h1 h2 h3
  subst h1 h2
  have hsl : ∀ wx, (Instr.slice 9 (.string s) (some (.int .i64 (p.b : Int))) (some (.int .i64 (p.e : Int))) none).run Tryz.prog wx = .ok (.string (s.extract p.b p.e)) wx := fun wx => by
    have h := run_slice_string (P := Tryz.prog) wx 9 s .i64 .i64 (p.b : Int) (p.e : Int) Tryz.underlying9 (by omega) (by omega) (by omega)
    rw [Int.toNat_natCast, Int.toNat_natCast] at h
    exact h
  have HK := Lib.hid (fun wx => gjKind_any p.kind wx hk)
  have g0 : (0 : Int) ≤ (p.b : Int) := by omega
  have g1 : (p.b : Int) ≤ (p.e : Int) := by omega
  have g2 : (p.e : Int) ≤ (s.size : Int) := by omega
  have HH := Lib.hid h3; clear h3
  have HQ := Lib.hid hq; clear hq
  have HBE : Hid (p.b ≤ p.e ∧ p.e ≤ s.size ∧ s.size ≤ 1048576) := Lib.hid ⟨hb, he, hs⟩
  clear hk hb he hs
  go_enter Tryz.func9, Tryz.ntmps9
  go_wp2_with fail
  have hb0 : ((w.alloc (.cells #[.int .i64 (kindOf p.kind : Int), .string (s.extract p.b p.e), .string st, .float .f64 f, .bool true] 38)).alloc (.cells #[.int .i64 (p.kind : Int), .int .i64 (p.b : Int), .int .i64 (p.e : Int), .slice na nl nc, .slice ka kl kc] 31)).heap[w.heap.size]? = some (.cells #[.int .i64 (kindOf p.kind : Int), .string (s.extract p.b p.e), .string st, .float .f64 f, .bool true] 38 (0, 0)) :=
    (Below.heap_alloc _ _ w.heap.size (by simp)).trans (heap_alloc_new w _)
  have hb1 := heap_alloc_new (w.alloc (.cells #[.int .i64 (kindOf p.kind : Int), .string (s.extract p.b p.e), .string st, .float .f64 f, .bool true] 38)) (.cells #[.int .i64 (p.kind : Int), .int .i64 (p.b : Int), .int .i64 (p.e : Int), .slice na nl nc, .slice ka kl kc] 31)
  rw [World.size_alloc] at hb1
  have HU := Lib.hid (((Upd.refl NoB w).alloc (.cells #[.int .i64 (kindOf p.kind : Int), .string (s.extract p.b p.e), .string st, .float .f64 f, .bool true] 38)).alloc (.cells #[.int .i64 (p.kind : Int), .int .i64 (p.b : Int), .int .i64 (p.e : Int), .slice na nl nc, .slice ka kl kc] 31))
  generalize ((w.alloc (.cells #[.int .i64 (kindOf p.kind : Int), .string (s.extract p.b p.e), .string st, .float .f64 f, .bool true] 38)).alloc (.cells #[.int .i64 (p.kind : Int), .int .i64 (p.b : Int), .int .i64 (p.e : Int), .slice na nl nc, .slice ka kl kc] 31)) = w1 at hb0 hb1 HU ⊢
  have HB0 := Lib.hid hb0
  have HB1 := Lib.hid hb1
  obtain ⟨⟨p0, p1, p2, p3, p4⟩, _⟩ := cells5 hb0
  obtain ⟨⟨q0, q1, q2, q3, q4⟩, _⟩ := cells5 hb1
  clear hb0 hb1
  go_region_held3 (fun w' => w'.cell? ⟨w.heap.size, 0, none⟩ = some (.int .i64 (kindOf p.kind : Int)) ∧ w'.cell? ⟨w.heap.size, 1, none⟩ = some (.string (s.extract p.b p.e)) ∧ w'.cell? ⟨w.heap.size, 4, none⟩ = some (.bool true) ∧ w'.cell? ⟨w.heap.size + 1, 0, none⟩ = some (.int .i64 (p.kind : Int)) ∧ w'.cell? ⟨w.heap.size + 1, 1, none⟩ = some (.int .i64 (p.b : Int)) ∧ w'.cell? ⟨w.heap.size + 1, 2, none⟩ = some (.int .i64 (p.e : Int))) (first | (go_keep; done)) (first | (go_at_call 23; refine (HK.out _).mono ?_; rintro e w2 ⟨rfl, rfl⟩))
  obtain ⟨⟨p0, p1, p2, p3, p4⟩, _⟩ := cells5 ((Upd.refl NoB w1).drew.blk HB0.out (fun h => h))
  obtain ⟨⟨q0, q1, q2, q3, q4⟩, _⟩ := cells5 ((Upd.refl NoB w1).drew.blk HB1.out (fun h => h))
  by_cases c4 : p.kind = 4
  · obtain ⟨t, ht, rfl⟩ := HH.out c4
    have hps := HQ.out c4
    have hl := hps.2.2.1.lt
    have Sb : Sub s (s.extract p.b p.e) p.b p.e := ⟨HBE.out.1, HBE.out.2.1, rfl⟩
    have hz := Sb.size
    have HUn := Lib.hid (fun wx => Unquote_any (s.extract p.b p.e) t wx (by have := HBE.out; omega) (by have := Sb.at (k := p.b) (by omega) (by omega); rw [Nat.sub_self] at this; rw [this]; exact hps.2.1) (by
      have := ht.sh Sb (by omega) (Nat.le_refl _)
      rw [show p.b + 1 - p.b = 1 by omega, ← hz] at this
      exact this))
    have e4 : ((p.kind : Int) != 4) = false := by rw [c4]; rfl
    clear hz hl hps ht c4 Sb
    go_wp2_with fail
    go_region_held3 (fun w' => w'.cell? ⟨w.heap.size, 1, none⟩ = some (.string (s.extract p.b p.e)) ∧ w'.cell? ⟨w.heap.size, 2, none⟩ = some (.string ⟨t.toArray⟩) ∧ w'.cell? ⟨w.heap.size + 1, 0, none⟩ = some (.int .i64 (p.kind : Int))) (first | (go_keep; done) | (go_split_ands; exact ⟨hu2.cell (by assumption) (fun h => h), hu2.cell (by assumption) (fun h => h), hu2.cell (by assumption) (fun h => h)⟩)) (first | (go_at_call 24; refine (HUn.out _).mono ?_; rintro e w2 ⟨rfl, hu2⟩))
    all_goals
      have HU3 := Lib.hid (HU.out.drew.drew.trans hu2)
      clear hu2
      go_wp2_with fail
      go_ret
      exact ⟨rfl, HU3.out⟩
  · have e4 : ((p.kind : Int) != 4) = true := by simp; omega
    clear c4
    go_wp2_with fail
    go_quiet (fail)
    go_wp2_with fail
    go_ret
    exact ⟨rfl, HU.out.drew.drewN _⟩
end Go.Proofs.YtggdcpmampjncaaGreatDoor
namespace Go.Proofs.YtggdcpmampjncaaGreatDoor
open Go.RowKit

theorem PEls.each {s : ByteArray} : ∀ (ps : List Pl) (a e : Nat), PEls s ps a e → ∀ q ∈ ps, PVal s q ∧ q.e ≤ s.size
  | [], a, e, h => by simp only [PEls] at h
  | p :: ps, a, e, h => by
    simp only [PEls] at h
    obtain ⟨h1, h2, h3, c, h4, h5, h6⟩ := h
    intro q hq
    rcases List.mem_cons.1 hq with rfl | hq
    · exact ⟨h2, h3⟩
    · rcases h6 with ⟨rfl, _⟩ | ⟨_, d, _, h8⟩
      · simp at hq
      · exact PEls.each ps d e h8 q hq
theorem PVal.kids {s : ByteArray} {p : Pl} (h : PVal s p) (hk : p.kind = 5) : (∀ q ∈ p.kids, PVal s q ∧ q.e ≤ s.size) ∧ p.kids.length ≤ s.size := by
  obtain ⟨k, b, e, ns, ks⟩ := p
  simp only [PVal] at h
  simp only [Pl.kind, Pl.kids] at *
  rcases h with ⟨rfl, _⟩ | ⟨rfl, _⟩ | ⟨rfl, _⟩ | ⟨rfl, _⟩ | ⟨rfl, _⟩ | ⟨rfl, h1, h2, rfl, c, h3, h4⟩ | ⟨rfl, _⟩
  all_goals first | (exfalso; omega) | skip
  rcases h4 with ⟨rfl, h4, h5, rfl⟩ | h4
  · exact ⟨fun q hq => by simp at hq, by simp⟩
  · have := PEls.le ks c e h4
    exact ⟨PEls.each ks c e h4, by omega⟩
theorem PVal.kind_le {s : ByteArray} {p : Pl} (h : PVal s p) : p.kind ≤ 6 := by
  have := h.tag
  omega
theorem PVal.pstr {s : ByteArray} {p : Pl} (h : PVal s p) (hk : p.kind = 4) : PStr s p.b p.e := by
  obtain ⟨k, b, e, ns, ks⟩ := p
  simp only [PVal] at h
  simp only [Pl.kind, Pl.b, Pl.e] at *
  rcases h with ⟨rfl, _⟩ | ⟨rfl, _⟩ | ⟨rfl, _⟩ | ⟨rfl, _⟩ | ⟨rfl, h1, _⟩ | ⟨rfl, _⟩ | ⟨rfl, _⟩
  all_goals first | (exfalso; omega) | skip
  exact h1
/-- An array that begins and ends the text is the whole text. -/
theorem PText.whole {s : ByteArray} {p : Pl} (h : PText s p) (h0 : bAt s 0 = 91) (h1 : bAt s (s.size - 1) = 93) : p.b = 0 ∧ p.e = s.size := by
  obtain ⟨a, h2, h3, h4, h5, h6⟩ := h
  have hlt := PVal.lt p h4
  constructor
  · by_cases hb : p.b = 0
    · exact hb
    · have := h2.2.2 0 (by omega) (by omega)
      simp only [isBl, Bool.or_eq_true, beq_iff_eq] at this
      omega
  · by_cases hb : p.e = s.size
    · exact hb
    · have := h6.2.2 (s.size - 1) (by omega) (by omega)
      simp only [isBl, Bool.or_eq_true, beq_iff_eq] at this
      omega
theorem AllAt.at {u : ByteArray} : ∀ (ds : List Pl) (q : Pl) (rs : List Pl) (l : List Rs), AllAt u (ds ++ q :: rs) l → ∃ dl r rl, l = dl ++ r :: rl ∧ dl.length = ds.length ∧ IsAt u q r ∧ AllAt u rs rl
  | [], q, rs, l, h => by
    simp only [List.nil_append, AllAt] at h
    obtain ⟨r, l', rfl, h1, h2⟩ := h
    exact ⟨[], r, l', rfl, rfl, h1, h2⟩
  | d :: ds, q, rs, l, h => by
    simp only [List.cons_append, AllAt] at h
    obtain ⟨r, l', rfl, _, h2⟩ := h
    obtain ⟨dl, r2, rl, rfl, h3, h4, h5⟩ := AllAt.at ds q rs l' h2
    exact ⟨r :: dl, r2, rl, rfl, by rw [List.length_cons, h3]; rfl, h4, h5⟩
theorem gcells_get : ∀ (ds : List Rs) (r : Rs) (rs : List Rs) (j : Nat), j < 5 → (gcells (ds ++ r :: rs))[ds.length * 5 + j]? = r.gcells[j]?
  | [], r, rs, j, hj => by
    have e : gcells ([] ++ r :: rs) = r.gcells ++ gcells rs := by simp [gcells]
    rw [e, List.getElem?_append_left (by simp [Rs.gcells]; omega)]
    simp
  | d :: ds, r, rs, j, hj => by
    have h := gcells_get ds r rs j hj
    have e : gcells (d :: ds ++ r :: rs) = d.gcells ++ gcells (ds ++ r :: rs) := by simp [gcells]
    rw [e, List.getElem?_append_right (by simp [Rs.gcells]; omega), ← h]
    congr 1
    simp [Rs.gcells]
    omega
theorem RowG.at {B : Nat} {w : World} {v : Value} {ds : List Rs} {r : Rs} {rs : List Rs} (h : RowG B w v (ds ++ r :: rs)) :
    ∃ g c, v = .slice (some ⟨g, 0, none⟩) (ds ++ r :: rs).length c ∧ (ds ++ r :: rs).length ≤ c ∧ w.cell? ⟨g, ds.length * 5, none⟩ = some (.int .i64 (r.ty : Int)) ∧ w.cell? ⟨g, ds.length * 5 + 1, none⟩ = some (.string r.raw) ∧ w.cell? ⟨g, ds.length * 5 + 2, none⟩ = some (.string r.st) ∧ w.cell? ⟨g, ds.length * 5 + 3, none⟩ = some (.float .f64 r.f) ∧ w.cell? ⟨g, ds.length * 5 + 4, none⟩ = some (.bool true) := by
  have hl : (ds ++ r :: rs).length = ds.length + (rs.length + 1) := by simp
  have h1 := h.1
  rcases h1.2 with ⟨_, h0⟩ | ⟨g, cap, cur, rfl, _, _, hc, _⟩
  · simp at h0
  · refine ⟨g, cap, rfl, hc, ?_, ?_, ?_, ?_, ?_⟩
    · rw [World.ownsRow.cellAt h1 (ds.length * 5) (by omega)]; exact gcells_get ds r rs 0 (by omega)
    · rw [World.ownsRow.cellAt h1 (ds.length * 5 + 1) (by omega)]; exact gcells_get ds r rs 1 (by omega)
    · rw [World.ownsRow.cellAt h1 (ds.length * 5 + 2) (by omega)]; exact gcells_get ds r rs 2 (by omega)
    · rw [World.ownsRow.cellAt h1 (ds.length * 5 + 3) (by omega)]; exact gcells_get ds r rs 3 (by omega)
    · rw [World.ownsRow.cellAt h1 (ds.length * 5 + 4) (by omega)]; exact gcells_get ds r rs 4 (by omega)

theorem lit69 (g : Nat → Value) : ((List.range 69).map g).toArray = #[g 0, g 1, g 2, g 3, g 4, g 5, g 6, g 7, g 8, g 9, g 10, g 11, g 12, g 13, g 14, g 15, g 16, g 17, g 18, g 19, g 20, g 21, g 22, g 23, g 24, g 25, g 26, g 27, g 28, g 29, g 30, g 31, g 32, g 33, g 34, g 35, g 36, g 37, g 38, g 39, g 40, g 41, g 42, g 43, g 44, g 45, g 46, g 47, g 48, g 49, g 50, g 51, g 52, g 53, g 54, g 55, g 56, g 57, g 58, g 59, g 60, g 61, g 62, g 63, g 64, g 65, g 66, g 67, g 68] := by kernel_rfl

/-- The law's post: true. -/
def TrueRet (w : World) (e : Ending) (w' : World) : Prop := e = .returned (.bool true) ∧ Upd NoB w w'
set_option maxHeartbeats 4000000 in
set_option maxRecDepth 4000 in
theorem raw_any (lo : Nat) (s : ByteArray) (w : World) (hT : Tabs lo w) (hlo : lo ≤ w.heap.size) :
    Calls Tryz.prog 3 #[.string s] w (TrueRet w) := by
  have hB := get_bAt s
  have HT := Lib.hid hT; clear hT
  by_cases hbig : (2147483647 : Int) < (s.size : Int)
  · go_enter Tryz.func3, Tryz.ntmps3
    go_wp2_with fail
    go_ret
    exact ⟨rfl, Upd.refl _ _⟩
  have hs : s.size ≤ 2147483647 := by omega
  go_enter Tryz.func3, Tryz.ntmps3
  go_wp2_with fail
  refine (gjText_any s w (by omega)).mono ?_
  rintro e w1 ⟨b, n, yv, dv, rfl, hu1, hrd, hb⟩
  obtain ⟨ya, yc, da, dc, rfl, rfl⟩ := hrd.shape
  have HU1 := Lib.hid hu1; clear hu1 hrd
  cases b
  · clear hb
    go_wp2_with fail
    go_ret
    exact ⟨rfl, HU1.out.alloc _⟩
  obtain ⟨hs2, hpr, p, hpt, htr, hpb⟩ := hb rfl
  clear hb
  have hkind : n.kind = p.kind := by
    obtain ⟨k, b, e, ns, ks⟩ := p
    simp only [TreeR] at htr
    exact htr.1
  have HPT := Lib.hid hpt
  have HTR := Lib.hid htr
  have hz : 0 < s.size := by
    obtain ⟨a, _, _, h4, h5, _⟩ := hpt
    have := PVal.lt p h4
    omega
  clear hpr hpb htr hpt
  have HK := Lib.hid hkind; clear hkind
  by_cases hk : n.kind = 5
  rotate_left
  · have ek : ((n.kind : Int) != 5) = true := by simp; omega
    clear hk
    go_wp2_with fail
    go_ret
    exact ⟨rfl, HU1.out.alloc _⟩
  have ek : ((n.kind : Int) != 5) = false := by rw [hk]; rfl
  have Hk := Lib.hid hk; clear hk
  have hz' : (0 : Int) < (s.size : Int) := by omega
  by_cases h0 : bAt s 0 = 91
  rotate_left
  · have e0 : ((bAt s 0 : Int) != 91) = true := by simp; omega
    clear h0
    go_wp2_with fail
    go_ret
    exact ⟨rfl, HU1.out.alloc _⟩
  have e0 : ((bAt s 0 : Int) != 91) = false := by rw [h0]; rfl
  have H0 := Lib.hid h0; clear h0
  obtain ⟨m, hm, hm1, hm2⟩ : ∃ m : Nat, (s.size : Int) = (m : Int) + 1 ∧ m < s.size ∧ m = s.size - 1 := ⟨s.size - 1, by omega, by omega, rfl⟩
  have HM := Lib.hid hm2; clear hm2
  by_cases h1 : bAt s m = 93
  rotate_left
  · have e1 : ((bAt s m : Int) != 93) = true := by simp; omega
    clear h1
    go_wp2_with fail
    go_ret
    exact ⟨rfl, HU1.out.alloc _⟩
  have e1 : ((bAt s m : Int) != 93) = false := by rw [h1]; rfl
  have H1 := Lib.hid h1; clear h1
  go_wp2_with fail
  refine (Places_any s _ (by omega)).mono ?_
  rintro e w2 ⟨b2, p2, nv, kv, rfl, hu2, hrp, ht2, hf2⟩
  cases b2
  · exact absurd HPT.out (hf2 rfl p)
  have hpp := PText.uniq (ht2 rfl) HPT.out
  subst hpp
  clear ht2 hf2 hm e0 e1 ek
  have HU2 := Lib.hid ((HU1.out.alloc (.cells #[.int .i64 (n.kind : Int), .string (bs n.text), .slice ya n.keys.length yc, .slice da n.kids.length dc] 25)).trans hu2)
  clear hu2
  obtain ⟨na, nc, ka, kc, rfl, rfl⟩ := hrp.shape
  have Hrp := Lib.hid hrp; clear hrp
  have HU3 := Lib.hid (HU2.out.alloc (.cells #[.int .i64 (p2.kind : Int), .int .i64 (p2.b : Int), .int .i64 (p2.e : Int), .slice na p2.names.length nc, .slice ka p2.kids.length kc] 31))
  have hk5 : p2.kind = 5 := by rw [← HK.out]; exact Hk.out
  have hwh := PText.whole HPT.out H0.out (by rw [← HM.out]; exact H1.out)
  have hpv : PVal s p2 := by obtain ⟨_, _, _, h, _, _⟩ := HPT.out; exact h
  have hne : NE s 1 p2.kids := by have := NE.start hpv hk5; rw [hwh.1] at this; exact this
  have hst : Strs s p2.kids := by
    have := HTR.out
    obtain ⟨k, b, e, ns, ks⟩ := p2
    simp only [TreeR] at this
    exact Strs.of_trees ks n.kids this.2.2.2
  have hkids := hpv.kids hk5
  have HG := Lib.hid (fun wx (hT : Tabs lo wx) (hl : lo ≤ wx.heap.size) => GjResultArray_any lo s p2.kids wx (by omega) H0.out hz hne hst (fun q hq => ⟨PVal.lt q (hkids.1 q hq).1, (hkids.1 q hq).2⟩) (by omega) hT hl)
  have HKids := Lib.hid hkids
  have hs3 := HU3.out.size
  clear hne hst hkids hwh hpv hk5
  go_wp2_with fail
  refine (HG.out _ (HT.out.upd HU3.out (fun _ h => h.elim)) (by omega)).mono ?_
  rintro e w4 ⟨v, l, rfl, hall, hrow, hu4⟩
  obtain ⟨va, vc, rfl⟩ := hrow.len
  have HLL := Lib.hid (AllAt.len _ _ hall)
  have HAll := Lib.hid hall; clear hall
  have HRow := Lib.hid hrow; clear hrow
  have hb4 := hu4.blk (heap_alloc_new w2 _) (fun h => h)
  obtain ⟨⟨c0, c1, c2, c3, c4⟩, _⟩ := cells5 hb4
  have HC4 := Lib.hid c4
  have HU4 := Lib.hid (HU3.out.trans hu4)
  have HRd := Lib.hid (RdP.upd (((Upd.refl NoB w2).alloc (.cells #[.int .i64 (p2.kind : Int), .int .i64 (p2.b : Int), .int .i64 (p2.e : Int), .slice na p2.names.length nc, .slice ka p2.kids.length kc] 31)).trans hu4) (fun _ _ h => h) _ _ _ Hrp.out)
  have hlen : ((l.length : Int) != (p2.kids.length : Int)) = false := by have := HLL.out; simp; omega
  clear hu4 hb4
  go_wp2_with fail
  refine wp_loop_ghost_k (fun mm => FR 69 (fun g wx => ∃ ds rs, mm = rs.length ∧ p2.kids = ds ++ rs ∧ (g 0 = .string s ∧ g 5 = .pointer (some ⟨w2.heap.size, 0, none⟩) ∧ g 7 = .slice va l.length vc ∧ g 52 = .int .i64 (l.length : Int) ∧ g 53 = .int .i64 (ds.length : Int)) ∧ Upd NoB w4 wx)) l.length ?atStart ?round
  case atStart =>
    refine FR.intro (by rfl) ?_
    exact ⟨[], p2.kids, HLL.out, rfl, ⟨rfl, rfl, rfl, rfl, rfl⟩, Upd.refl _ _⟩
  case round =>
    clear c0 c1 c2 c3 c4 hlen
    intro gk
    refine FR.rest ?_
    rintro g wx ⟨ds, rs, hm, hds, ⟨e0, e5, e7, e52, e53⟩, hu⟩
    rw [lit69]
    simp only [e0, e5, e7, e52, e53]
    clear e0 e5 e7 e52 e53
    intro J2 K2 hJ2 hK2
    have Hm := Lib.hid hm; clear hm
    have HU := Lib.hid hu; clear hu
    cases rs with
    | nil =>
      have hdl : l.length = ds.length := by rw [HLL.out, hds, List.append_nil]
      clear hds
      rw [hdl]
      go_wp2_with fail
      go_ret
      exact ⟨rfl, HU4.out.trans HU.out⟩
    | cons q rs =>
      have hlt : (ds.length : Int) < (l.length : Int) := by rw [HLL.out, hds, List.length_append, List.length_cons]; omega
      have hq := HKids.out.1 q (by rw [hds]; exact List.mem_append_right _ (List.mem_cons_self ..))
      have hall := HAll.out
      rw [hds] at hall
      obtain ⟨dl, r, rl, hl, hdl, hat, _⟩ := AllAt.at ds q rs l hall
      have hrow := HRow.out.upd HU.out (fun _ _ _ h => h)
      rw [hl] at hrow
      obtain ⟨gb, cap, he, hcap, d0, d1, d2, d3, d4⟩ := hrow.at
      rw [← hl] at he hcap
      rw [hdl] at d0 d1 d2 d3 d4
      injection he with he1 he2 he3
      subst he1 he3
      have hrk := (RdP_mk.1 (RdP.upd HU.out (fun _ _ h => h) _ _ _ HRd.out)).2
      rw [hds] at hrk
      obtain ⟨gq, qn, qk, rfl, hqc, ⟨q0, q1, q2, q3, q4⟩, hqr⟩ := hrk.at
      obtain ⟨qna, qnc, qka, qkc, rfl, rfl⟩ := hqr.shape
      have hx4 := HU.out.cell HC4.out (fun h => h)
      have hltk : (ds.length : Int) < (p2.kids.length : Int) := by rw [hds, List.length_append, List.length_cons]; omega
      have hkc : (p2.kids.length : Int) ≤ (kc : Int) := by rw [hds]; omega
      have hvc : (l.length : Int) ≤ (vc : Int) := by omega
      have HDS := Lib.hid hds
      clear hl hdl hall hrow he2 hrk hqr hds hqc hcap
      have HC := Lib.hid (fun wy => gjAt_any s q r qna qka q.names.length qnc q.kids.length qkc wy (by omega) (PVal.kind_le hq.1) (Nat.le_of_lt (PVal.lt q hq.1)) hq.2 (fun h => PVal.pstr hq.1 h) hat)
      clear hq hat
      have hd0 : (0 : Int) ≤ (ds.length : Int) := by omega
      have hdb : (ds.length : Int) ≤ 65536 := by have := HKids.out.2; omega
      go_wp2_with fail
      go_region_held3 (fun w' => w'.cell? ⟨gb, ds.length * 5, none⟩ = some (.int .i64 (r.ty : Int)) ∧ w'.cell? ⟨gb, ds.length * 5 + 1, none⟩ = some (.string r.raw) ∧ w'.cell? ⟨gb, ds.length * 5 + 2, none⟩ = some (.string r.st) ∧ w'.cell? ⟨gb, ds.length * 5 + 3, none⟩ = some (.float .f64 r.f) ∧ w'.cell? ⟨gb, ds.length * 5 + 4, none⟩ = some (.bool true) ∧ w'.cell? ⟨gq, ds.length * 5, none⟩ = some (.int .i64 (q.kind : Int)) ∧ w'.cell? ⟨gq, ds.length * 5 + 1, none⟩ = some (.int .i64 (q.b : Int)) ∧ w'.cell? ⟨gq, ds.length * 5 + 2, none⟩ = some (.int .i64 (q.e : Int)) ∧ w'.cell? ⟨gq, ds.length * 5 + 3, none⟩ = some (.slice qna q.names.length qnc) ∧ w'.cell? ⟨gq, ds.length * 5 + 4, none⟩ = some (.slice qka q.kids.length qkc) ∧ w'.cell? ⟨w2.heap.size, 4, none⟩ = some (.slice (some ⟨gq, 0, none⟩) p2.kids.length kc)) (first | (go_keep; done) | (go_split_ands; exact ⟨hu5.cell (by assumption) (fun h => h), hu5.cell (by assumption) (fun h => h), hu5.cell (by assumption) (fun h => h), hu5.cell (by assumption) (fun h => h), hu5.cell (by assumption) (fun h => h), hu5.cell (by assumption) (fun h => h), hu5.cell (by assumption) (fun h => h), hu5.cell (by assumption) (fun h => h), hu5.cell (by assumption) (fun h => h), hu5.cell (by assumption) (fun h => h), hu5.cell (by assumption) (fun h => h)⟩)) (first | (go_at_call 9; refine (HC.out _).mono ?_; rintro e w5 ⟨rfl, hu5⟩))
      all_goals
        have HU5 := Lib.hid ((HU.out.drew).trans hu5)
        clear hu5
        go_wp2_with fail
        refine Handed.intro rs.length ?_ ?_
        · have := Hm.out; rw [List.length_cons] at this; omega
        go_step
        refine FR.intro (by rfl) ?_
        exact ⟨ds ++ [q], rs, rfl, by rw [HDS.out, List.append_assoc]; rfl, ⟨rfl, rfl, rfl, rfl, by simp only [slotOf, List.length_append, List.length_singleton]; congr 1⟩, HU5.out⟩
end Go.Proofs.YtggdcpmampjncaaGreatDoor
