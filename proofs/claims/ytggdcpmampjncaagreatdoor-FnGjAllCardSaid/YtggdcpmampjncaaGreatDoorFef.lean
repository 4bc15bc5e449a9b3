/- The package's ForEach on the result of a JSON text: what it passes. GjAll and GjResultEach of a JSON text: the pairs. -/
import Derived.Test.YtggdcpmampjncaaGreatDoorFd
namespace Go.Proofs.YtggdcpmampjncaaGreatDoor
open Go.RowKit

/-- The result that is nothing. -/
def zeroR : Rs := ⟨0, ByteArray.empty, ByteArray.empty, 0, 0⟩
set_option maxHeartbeats 4000000 in
set_option maxRecDepth 4000 in
theorem each_other (fn : Nat) (hfn : CloOk fn) (r : Rs) (Bo Bs : Nat) (stop : Int) (w : World) (hx : r.ex = true) (h5 : r.ty ≠ 5) (hcs : CloS Bo Bs stop w) :
    Calls Tryz.prog 54 #[.agg #[.int .i64 (r.ty : Int), .string r.raw, .string r.st, .float .f64 r.f, .int .i64 r.ix, .slice none 0 0], .func (.func fn) #[] #[.pointer (some ⟨Bo, 0, none⟩), .pointer (some ⟨Bs, 0, none⟩)]] w (EachRet (fun _ k => k.eqv zeroR) (fun _ v => v.eqv r) 1 Bo Bs stop w) := by
  have HX := Lib.hid (fun wx => Exists_gen r wx)
  rw [hx] at HX
  have e5 : ((r.ty : Int) != 5) = true := by simp; omega
  have HFn := Lib.hid hfn; clear hfn
  have hlts := hcs.lt
  have HCS := Lib.hid hcs; clear hcs hx h5
  go_enter Tryz.func54, Tryz.ntmps54
  go_wp2_with fail
  refine (HX.out _).mono ?_
  rintro e w1 ⟨rfl, hu1⟩
  have hb0 := hu1.blk (heap_alloc_new w _) (fun h => h)
  have HU1 := Lib.hid (((Upd.refl NoB w).alloc _).trans hu1)
  clear hu1
  obtain ⟨⟨p0, p1, p2, p3, p4, p5⟩, _⟩ := cells6 hb0
  have hcf := HFn.out.1
  have hs1 := HU1.out.size
  have hcl := HFn.out.2 Bo Bs w1.heap.size stop [] zeroR r w1 ((HCS.out.upd HU1.out).go _ (by omega) (by omega) (Nat.le_refl _)) (by simp)
  simp only [zeroR, show ((0 : Nat) : Int) = 0 from rfl] at hcl
  have HCl := Lib.hid hcl; clear hcl
  go_wp2_with fail
  refine HCl.out.mono ?_
  rintro e w8 ⟨rfl, hcw8, hu8⟩
  have HC8 := Lib.hid hcw8
  have HU8 := Lib.hid (HU1.out.of_none.then hu8 (fun b hb => by rcases hb with hb | hb; exact .inl (show OneB Bo b from hb); exact .inr (by omega)))
  clear hcw8 hu8 hcf p0 p1 p2 p3 p4 p5
  go_wp2_with fail
  refine bodyPost_ret (v := .tuple #[]) (by simp [results, Tryz.results54, go_sem]) rfl ?_
  refine ⟨rfl, _, _, ?_, ?_, HC8.out, HU8.out⟩
  · unfold cutN; split
    · omega
    · rfl
  · exact (Ev.nil _ _).snoc ⟨rfl, rfl, rfl, rfl⟩ ⟨rfl, rfl, rfl, rfl⟩

theorem AtE.all {u : ByteArray} : ∀ (ps : List Pl) (i : Nat), AtE u i ps → i + ps.length ≤ u.size ∧ ∀ q ∈ ps, PVal u q ∧ q.e ≤ u.size
  | [], i, h => by simp only [AtE] at h; exact ⟨by simpa using h.1, fun q hq => by simp at hq⟩
  | p :: ps, i, h => by
    simp only [AtE] at h
    obtain ⟨h1, h2, _, h4, h5⟩ := h
    obtain ⟨g1, g2⟩ := AtE.all ps _ h5
    have := PVal.lt p h2
    have := h1.1
    refine ⟨by rw [List.length_cons]; omega, fun q hq => ?_⟩
    rcases List.mem_cons.1 hq with rfl | hq
    · exact ⟨h2, by omega⟩
    · exact g2 q hq
theorem AtM.all {u : ByteArray} : ∀ (ps : List Pl) (ns : List (Nat × Nat)) (i : Nat), AtM u i ps ns → i + ps.length ≤ u.size ∧ ∀ q ∈ ps, PVal u q ∧ q.e ≤ u.size
  | [], ns, i, h => by simp only [AtM] at h; exact ⟨by simpa using h.2.1, fun q hq => by simp at hq⟩
  | p :: ps, ns, i, h => by
    simp only [AtM] at h
    obtain ⟨m, ms, rfl, ⟨h0, _⟩, hm, h1, h2, _, h4, h5⟩ := h
    obtain ⟨g1, g2⟩ := AtM.all ps ms _ h5
    have := PVal.lt p h2
    have := h1.1
    have := hm.2.2.1.lt
    refine ⟨by rw [List.length_cons]; omega, fun q hq => ?_⟩
    rcases List.mem_cons.1 hq with rfl | hq
    · exact ⟨h2, by omega⟩
    · exact g2 q hq

/-- The keys, the values, how many. -/
def KX (s : ByteArray) (p : Pl) (n : Nd) : Nat → Rs → Prop := if p.kind = 5 then KA else if p.kind = 6 then KM (s.extract p.b s.size) (p.sh p.b).names n.keys else fun _ k => k.eqv zeroR
def VX (s : ByteArray) (p : Pl) (n : Nd) : Nat → Rs → Prop := if 5 ≤ p.kind then VI (s.extract p.b s.size) (p.sh p.b).kids n.kids else fun _ v => RsOf s p n v
def NX (p : Pl) : Nat := if 5 ≤ p.kind then (p.sh p.b).kids.length else 1
theorem KX.uniq {s : ByteArray} {p : Pl} {n : Nd} {j : Nat} {k k' : Rs} (h : KX s p n j k) (h' : KX s p n j k') : k.eqv k' := by
  unfold KX at h h'
  split at h
  · rename_i hk; rw [if_pos hk] at h'; exact h.uniq h'
  · rename_i hk
    rw [if_neg hk] at h'
    split at h
    · rename_i hk; rw [if_pos hk] at h'; exact h.uniq h'
    · rename_i hk; rw [if_neg hk] at h'
      exact ⟨h.1.trans h'.1.symm, h.2.1.trans h'.2.1.symm, h.2.2.1.trans h'.2.2.1.symm, h.2.2.2.trans h'.2.2.2.symm⟩
theorem VX.uniq {s : ByteArray} {p : Pl} {n : Nd} {j : Nat} {k k' : Rs} (h : VX s p n j k) (h' : VX s p n j k') : k.eqv k' := by
  unfold VX at h h'
  split at h
  · rename_i hk; rw [if_pos hk] at h'; exact h.uniq h'
  · rename_i hk; rw [if_neg hk] at h'; exact h.uniq h'
theorem RsOf.eqv {s : ByteArray} {p : Pl} {n : Nd} {r v : Rs} (h : RsOf s p n r) (e : v.eqv r) : RsOf s p n v := by
  obtain ⟨h1, h2, h3, h4, h5⟩ := h
  obtain ⟨e1, e2, e3, e4⟩ := e
  exact ⟨e1.trans h1, e2.trans h2, e3.trans h3, fun hk => by rw [e2, e4]; exact h4 hk, fun hk => e4.trans (h5 hk)⟩
theorem Ev.imp {K V K' V' : Nat → Rs → Prop} {l : List (Rs × Rs)} (h : Ev K V l) (hk : ∀ j k, K j k → K' j k) (hv : ∀ j k, V j k → V' j k) : Ev K' V' l :=
  fun j k v hj => ⟨hk _ _ (h j k v hj).1, hv _ _ (h j k v hj).2⟩
theorem EachRet.imp {K V K' V' : Nat → Rs → Prop} {N Bo Bs : Nat} {stop : Int} {w w' : World} {e : Ending} (h : EachRet K V N Bo Bs stop w e w') (hk : ∀ j k, K j k → K' j k) (hv : ∀ j k, V j k → V' j k) : EachRet K' V' N Bo Bs stop w e w' := by
  obtain ⟨h1, l, hi, h2, h3, h4⟩ := h
  exact ⟨h1, l, hi, h2, h3.imp hk hv, h4⟩

theorem each_any (fn : Nat) (hfn : CloOk fn) (lo : Nat) (s : ByteArray) (p : Pl) (n : Nd) (r : Rs) (Bo Bs : Nat) (stop : Int) (w : World) (hs : s.size ≤ 1048576) (hix : 0 ≤ r.ix ∧ r.ix ≤ 1048576)
    (hp : PText s p) (hn : TreeR s p n) (hr : RsOf s p n r) (hT : Tabs lo w) (hlo : lo ≤ w.heap.size) (hbo : lo ≤ Bo) (hvt : VT w) (hvl : 0 < lo) (hcs : CloS Bo Bs stop w) :
    Calls Tryz.prog 54 #[.agg #[.int .i64 (r.ty : Int), .string r.raw, .string r.st, .float .f64 r.f, .int .i64 r.ix, .slice none 0 0], .func (.func fn) #[] #[.pointer (some ⟨Bo, 0, none⟩), .pointer (some ⟨Bs, 0, none⟩)]] w (EachRet (KX s p n) (VX s p n) (NX p) Bo Bs stop w) := by
  obtain ⟨a, h1, h2, h3, h4, h5⟩ := id hp
  have hlt := PVal.lt p h3
  have hk6 := PVal.kind_le h3
  obtain ⟨r1, r2, r3, r4, r5⟩ := id hr
  by_cases hk : 5 ≤ p.kind
  · have S : Sub s (s.extract p.b s.size) p.b s.size := ⟨by omega, Nat.le_refl _, rfl⟩
    have hsz : (s.extract p.b s.size).size = s.size - p.b := S.size
    have hb0 := S.at (k := p.b) (Nat.le_refl _) (by omega)
    rw [Nat.sub_self] at hb0
    have hq := PVal.sh S p h3 (Nat.le_refl _) h4
    have hqe : (p.sh p.b).e = p.e - p.b := Pl.sh_e _ _
    have hqb : (p.sh p.b).b = 0 := by rw [Pl.sh_b]; omega
    have hqk : (p.sh p.b).kind = p.kind := by cases p; simp only [Pl.sh, Pl.kind]
    have hqt : Bls (s.extract p.b s.size) (p.sh p.b).e (s.extract p.b s.size).size := by
      rw [hqe, hsz]
      exact h5.sh S (by omega) (Nat.le_refl _)
    have hqn := TreeR.sh S p n h3 hn (Nat.le_refl _) h4
    have hty : r.ty = 5 := by
      rw [r1, hn.kind]
      obtain e | e : p.kind = 5 ∨ p.kind = 6 := by omega
      · rw [e]; rfl
      · rw [e]; rfl
    rw [if_pos hk] at r2
    have hkn := hqn.kids
    obtain ⟨ty, raw, st, f, ix⟩ := r
    dsimp only at *
    subst hty r2
    have htag := h3.tag
    have hN : NX p = (p.sh p.b).kids.length := by unfold NX; rw [if_pos hk]
    have hV : VX s p n = VI (s.extract p.b s.size) (p.sh p.b).kids n.kids := by unfold VX; rw [if_pos hk]
    rw [hN, hV]
    by_cases hk5 : p.kind = 5
    · have hK : KX s p n = KA := by unfold KX; rw [if_pos hk5]
      rw [hK]
      have hat := AtE.start hq hqb (by rw [hqk]; exact hk5) hqt
      have hkl := (hat.all).1
      exact each_arr fn hfn lo _ st f ix (p.sh p.b) n Bo Bs stop w (by omega) hix (by rw [hb0]; omega) (by omega) (by omega) hat hkn hT hlo hbo hvt hvl hcs
    · have hK : KX s p n = KM (s.extract p.b s.size) (p.sh p.b).names n.keys := by unfold KX; rw [if_neg hk5, if_pos (by omega)]
      rw [hK]
      have hkr : KeysR (s.extract p.b s.size) (p.sh p.b).names n.keys := by
        generalize p.sh p.b = q at hqn
        obtain ⟨k, b, e, ns, ks⟩ := q
        simp only [TreeR] at hqn
        exact hqn.2.2.1
      have hat := AtM.start hq hqb (by rw [hqk]; omega) hqt
      have hkl := (hat.all).1
      exact each_obj fn hfn lo _ st f ix (p.sh p.b) n Bo Bs stop w (by omega) hix (by rw [hb0]; omega) (by omega) (by omega) hat hkr hkn hT hlo hbo hvt hvl hcs
  · have hN : NX p = 1 := by unfold NX; rw [if_neg hk]
    have hV : VX s p n = fun _ v => RsOf s p n v := by unfold VX; rw [if_neg hk]
    have hK : KX s p n = fun _ k => k.eqv zeroR := by unfold KX; rw [if_neg (by omega), if_neg (by omega)]
    rw [if_neg hk] at r2
    rw [hN, hV, hK]
    refine (each_other fn hfn r Bo Bs stop w ?_ ?_ hcs).mono fun e w' h => h.imp (fun _ _ h => h) (fun _ _ h => hr.eqv h)
    · unfold Rs.ex
      refine decide_eq_true (.inr ?_)
      rw [r2, ByteArray.size_extract]
      omega
    · rw [r1, hn.kind]
      have hk' : p.kind = 0 ∨ p.kind = 1 ∨ p.kind = 2 ∨ p.kind = 3 ∨ p.kind = 4 := by omega
      rcases hk' with e | e | e | e | e <;> rw [e] <;> decide
end Go.Proofs.YtggdcpmampjncaaGreatDoor
namespace Go.Proofs.YtggdcpmampjncaaGreatDoor
open Go.RowKit

set_option maxHeartbeats 1000000 in
theorem All_any (r : Rs) (w : World) :
    Calls Tryz.prog 28 #[.agg #[.int .i64 (r.ty : Int), .string r.raw, .string r.st, .float .f64 r.f, .int .i64 r.ix, .slice none 0 0]] w
      fun e w' => e = .returned (.func (.func 53) #[] #[.pointer (some ⟨w.heap.size, 0, none⟩)]) ∧ w'.heap[w.heap.size]? = some (.cells #[.int .i64 (r.ty : Int), .string r.raw, .string r.st, .float .f64 r.f, .int .i64 r.ix, .slice none 0 0] 57 (0, 0)) ∧ Upd NoB w w' := by
  have hmf : ∀ fn first cap w, (Instr.makeFunc fn first cap).run Tryz.prog w = .ok (.func fn first cap) w := fun _ _ _ _ => rfl
  go_enter Tryz.func28, Tryz.ntmps28
  go_wp2_with fail
  go_ret
  exact ⟨rfl, heap_alloc_new w _, (Upd.refl NoB w).alloc _⟩

set_option maxHeartbeats 1000000 in
theorem All1_any (fn : Nat) (hfn : CloOk fn) (lo : Nat) (s : ByteArray) (p : Pl) (n : Nd) (r : Rs) (B Bo Bs : Nat) (stop : Int) (w : World) (hs : s.size ≤ 1048576) (hix : 0 ≤ r.ix ∧ r.ix ≤ 1048576)
    (hp : PText s p) (hn : TreeR s p n) (hr : RsOf s p n r) (hT : Tabs lo w) (hlo : lo ≤ w.heap.size) (hbo : lo ≤ Bo) (hvt : VT w) (hvl : 0 < lo) (hcs : CloS Bo Bs stop w)
    (hb : w.heap[B]? = some (.cells #[.int .i64 (r.ty : Int), .string r.raw, .string r.st, .float .f64 r.f, .int .i64 r.ix, .slice none 0 0] 57 (0, 0))) :
    Calls Tryz.prog 53 #[.func (.func fn) #[] #[.pointer (some ⟨Bo, 0, none⟩), .pointer (some ⟨Bs, 0, none⟩)], .pointer (some ⟨B, 0, none⟩)] w (EachRet (KX s p n) (VX s p n) (NX p) Bo Bs stop w) := by
  have HE := Lib.hid (each_any fn hfn lo s p n r Bo Bs stop w hs hix hp hn hr hT hlo hbo hvt hvl hcs)
  clear hfn hp hn hr hT hvt hcs hix
  obtain ⟨⟨p0, p1, p2, p3, p4, p5⟩, _⟩ := cells6 hb
  clear hb
  go_enter Tryz.func53, Tryz.ntmps53
  go_wp2_with fail
  refine HE.out.mono ?_
  rintro e w1 ⟨rfl, h⟩
  have H := Lib.hid h; clear h
  go_wp2_with fail
  go_end0
  exact ⟨rfl, H.out⟩

/-- The pairs that lie in memory behind the call. -/
def PairsRet (s : ByteArray) (p : Pl) (n : Nd) (stop : Int) (w : World) (e : Ending) (w' : World) : Prop :=
  ∃ v l, e = .returned v ∧ l.length = cutN stop (NX p) ∧ Ev (KX s p n) (VX s p n) l ∧ RowQ w.heap.size w' v l ∧ Upd NoB w w'
/-- The two variables, laid. -/
theorem CloS.start (w : World) (stop : Int) (w1 : World) (h : Upd NoB ((w.alloc (.cells #[.int .i64 stop] 3)).alloc (.cells #[.slice none 0 0] 43)) w1) : CloS (w.heap.size + 1) w.heap.size stop w1 := by
  have h1 := heap_alloc_new (w.alloc (.cells #[.int .i64 stop] 3)) (.cells #[.slice none 0 0] 43)
  rw [World.size_alloc] at h1
  exact ⟨h.blk h1 (fun h => h), h.blk ((Below.heap_alloc _ _ _ (by simp)).trans (heap_alloc_new w _)) (fun h => h), by omega⟩

set_option maxHeartbeats 4000000 in
set_option maxRecDepth 4000 in
theorem GjAll_any (lo : Nat) (s : ByteArray) (p : Pl) (n : Nd) (stop : Int) (w : World) (hs : s.size ≤ 1048576)
    (hp : PText s p) (hn : TreeR s p n) (hT : Tabs lo w) (hlo : lo ≤ w.heap.size) (hvt : VT w) (hvl : 0 < lo) :
    Calls Tryz.prog 12 #[.string s, .int .i64 stop] w (PairsRet s p n stop w) := by
  have hmf : ∀ fn first cap w, (Instr.makeFunc fn first cap).run Tryz.prog w = .ok (.func fn first cap) w := fun _ _ _ _ => rfl
  have hpb : p.b ≤ 1048576 := by
    obtain ⟨a, h1, h2, h3, h4, h5⟩ := hp
    have := PVal.lt p h3
    omega
  have HPs := Lib.hid (fun wx hT hl => Parse_is lo s p n wx hs hp hn hT hl)
  have HT := Lib.hid hT; clear hT
  have HVT := Lib.hid hvt; clear hvt
  have HE := Lib.hid (fun r B wx hix hr hT hlo hvt hcs hb => All1_any _ cloA_ok lo s p n r B (w.heap.size + 1) w.heap.size stop wx hs hix hp hn hr hT hlo (by omega) hvt hvl hcs hb)
  clear hp hn
  go_enter Tryz.func12, Tryz.ntmps12
  go_upto_region 2 with (fail)
  have hu0 := ((Upd.refl NoB w).alloc (.cells #[.int .i64 stop] 3)).alloc (.cells #[.slice none 0 0] 43)
  have HS := Lib.hid (CloS.start w stop)
  generalize ((w.alloc (.cells #[.int .i64 stop] 3)).alloc (.cells #[.slice none 0 0] 43)) = w1 at hu0 HS ⊢
  have hs1 := hu0.size
  have HU0 := Lib.hid hu0
  have HT1 := Lib.hid (HT.out.upd hu0 (fun _ h => h.elim))
  clear hu0
  go_wp2_with fail
  refine (HPs.out _ HT1.out (by omega)).mono ?_
  rintro e w2 ⟨r, htop, rfl, hu2⟩
  have HTop := Lib.hid htop; clear htop
  have HU2 := Lib.hid hu2; clear hu2
  go_wp2_with fail
  refine (All_any r w2).mono ?_
  rintro e w3 ⟨rfl, hb3, hu3⟩
  have HB3 := Lib.hid hb3; clear hb3
  have HU3 := Lib.hid (HU2.out.trans hu3)
  clear hu3
  have hs3 := HU3.out.size
  go_wp2_with fail
  refine (HE.out r _ w3 (by rw [HTop.out.2.2]; omega) HTop.out.2.1 (HT1.out.upd HU3.out (fun _ h => h.elim)) (by omega) ((HVT.out.upd HU0.out).upd HU3.out) (HS.out _ HU3.out) HB3.out).mono ?_
  rintro e w4 ⟨rfl, l, hi, hl, hev, hcw, hu4⟩
  obtain ⟨⟨v, hv, hrow⟩, hst, hlt⟩ := hcw
  obtain ⟨c0, _⟩ := one_cell hv
  obtain ⟨va, vc, rfl⟩ := hrow.len
  have HR : Hid (PairsRet s p n stop w (.returned (.slice va l.length vc)) w4) := Lib.hid ⟨_, l, rfl, hl, hev, ⟨hrow.1, fun b hb => by have := hrow.2 b hb; omega⟩, (HU0.out.trans HU3.out).then hu4 (fun b hb => by have : b = w.heap.size + 1 := hb; exact .inr (by omega))⟩
  clear hv hrow hst hlt hl hev hu4
  go_wp2_with fail
  go_ret
  exact HR.out

set_option maxHeartbeats 4000000 in
set_option maxRecDepth 4000 in
theorem GjResultEach_any (lo : Nat) (s : ByteArray) (p : Pl) (n : Nd) (r : Rs) (stop : Int) (w : World) (hs : s.size ≤ 1048576)
    (hp : PText s p) (hn : TreeR s p n) (hr : RsOf s p n r) (hT : Tabs lo w) (hlo : lo ≤ w.heap.size) (hvt : VT w) (hvl : 0 < lo) :
    Calls Tryz.prog 30 #[.agg #[.int .i64 (r.ty : Int), .string r.raw, .string r.st, .float .f64 r.f, .bool true], .int .i64 stop] w (PairsRet s p n stop w) := by
  have hmf : ∀ fn first cap w, (Instr.makeFunc fn first cap).run Tryz.prog w = .ok (.func fn first cap) w := fun _ _ _ _ => rfl
  have HO := Lib.hid (fun wx => gjOf_gen2 r wx)
  have HT := Lib.hid hT; clear hT
  have HVT := Lib.hid hvt; clear hvt
  have HE := Lib.hid (fun wx hT hlo hvt hcs => each_any _ cloB_ok lo s p n ⟨r.ty, r.raw, r.st, r.f, 0⟩ (w.heap.size + 1 + 1) (w.heap.size + 1) stop wx hs ⟨Int.le_refl _, show (0 : Int) ≤ 1048576 by decide⟩ hp hn (hr.eqv ⟨rfl, rfl, rfl, rfl⟩) hT hlo (by omega) hvt hvl hcs)
  clear hp hn hr
  go_enter Tryz.func30, Tryz.ntmps30
  go_upto_region 2 with (fail)
  have hu0 := (((Upd.refl NoB w).alloc (.cells #[.int .i64 (r.ty : Int), .string r.raw, .string r.st, .float .f64 r.f, .bool true] 38)).alloc (.cells #[.int .i64 stop] 3)).alloc (.cells #[.slice none 0 0] 43)
  have HS := Lib.hid (CloS.start (w.alloc (.cells #[.int .i64 (r.ty : Int), .string r.raw, .string r.st, .float .f64 r.f, .bool true] 38)) stop)
  rw [World.size_alloc] at HS
  have hb0 := (((Upd.refl NoB _).alloc (.cells #[.int .i64 stop] 3)).alloc (.cells #[.slice none 0 0] 43)).blk (heap_alloc_new w (.cells #[.int .i64 (r.ty : Int), .string r.raw, .string r.st, .float .f64 r.f, .bool true] 38)) (fun h => h)
  generalize (((w.alloc (.cells #[.int .i64 (r.ty : Int), .string r.raw, .string r.st, .float .f64 r.f, .bool true] 38)).alloc (.cells #[.int .i64 stop] 3)).alloc (.cells #[.slice none 0 0] 43)) = w1 at hu0 HS hb0 ⊢
  have hs1 := hu0.size
  have HU0 := Lib.hid hu0
  have HT1 := Lib.hid (HT.out.upd hu0 (fun _ h => h.elim))
  clear hu0
  obtain ⟨⟨p0, p1, p2, p3, p4⟩, _⟩ := cells5 hb0
  clear hb0
  go_wp2_with fail
  refine (HO.out _).mono ?_
  rintro e w3 ⟨rfl, hu3⟩
  have HU3 := Lib.hid hu3; clear hu3
  have hs3 := HU3.out.size
  clear p0 p1 p2 p3 p4
  go_wp2_with fail
  refine (HE.out w3 (HT1.out.upd HU3.out (fun _ h => h.elim)) (by omega) ((HVT.out.upd HU0.out).upd HU3.out) (HS.out _ HU3.out)).mono ?_
  rintro e w4 ⟨rfl, l, hi, hl, hev, hcw, hu4⟩
  obtain ⟨⟨v, hv, hrow⟩, hst, hlt⟩ := hcw
  obtain ⟨c0, _⟩ := one_cell hv
  obtain ⟨va, vc, rfl⟩ := hrow.len
  have HR : Hid (PairsRet s p n stop w (.returned (.slice va l.length vc)) w4) := Lib.hid ⟨_, l, rfl, hl, hev, ⟨hrow.1, fun b hb => by have := hrow.2 b hb; omega⟩, (HU0.out.trans HU3.out).then hu4 (fun b hb => by have : b = w.heap.size + 1 + 1 := hb; exact .inr (by omega))⟩
  clear hv hrow hst hlt hl hev hu4
  go_wp2_with fail
  go_ret
  exact HR.out
end Go.Proofs.YtggdcpmampjncaaGreatDoor
