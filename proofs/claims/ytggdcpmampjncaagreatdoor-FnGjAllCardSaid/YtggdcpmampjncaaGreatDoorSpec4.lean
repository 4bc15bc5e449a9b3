/- The reference's Read, and the law's gjText. -/
import Derived.Test.YtggdcpmampjncaaGreatDoorSpec3
namespace Go.Proofs.YtggdcpmampjncaaGreatDoor
open Go.RowKit

mutual
theorem PVal.le {s : ByteArray} : ∀ (p : Pl), PVal s p → p.e ≤ s.size
  | .mk k b e ns ks, h => by
    simp only [PVal] at h
    simp only [Pl.e]
    rcases h with ⟨rfl, h1, rfl, rfl, rfl⟩ | ⟨rfl, h1, rfl, rfl, rfl⟩ | ⟨rfl, h1, rfl, rfl, rfl⟩ | ⟨rfl, h1, h2, h3, rfl, rfl⟩ | ⟨rfl, h1, rfl, rfl⟩ | ⟨rfl, h1, h2, rfl, c, h3, h4⟩ | ⟨rfl, h1, h2, c, h3, h4⟩
    · exact h1.1
    · exact h1.1
    · exact h1.1
    · exact (PNum_le h3).2
    · exact h1.2.2.2
    · rcases h4 with ⟨rfl, h4, h5, rfl⟩ | h4
      · omega
      · exact (PEls.le ks c e h4).1
    · rcases h4 with ⟨rfl, rfl, h4, h5, rfl⟩ | h4
      · omega
      · exact (PMems.le ks ns c e h4).1
theorem PEls.le {s : ByteArray} : ∀ (ps : List Pl) (a e : Nat), PEls s ps a e → e ≤ s.size ∧ ps.length + a ≤ e
  | [], _, _, h => by simp only [PEls] at h
  | p :: ps, a, e, h => by
    simp only [PEls] at h
    obtain ⟨h1, h2, h3, c, h4, h5, h6⟩ := h
    have l1 := PVal.lt p h2
    have l2 := h4.1
    rcases h6 with ⟨rfl, h6, rfl⟩ | ⟨h6, d, h7, h8⟩
    · simp; omega
    · have := PEls.le ps d e h8
      have := h7.1
      simp; omega
theorem PMems.le {s : ByteArray} : ∀ (ps : List Pl) (ns : List (Nat × Nat)) (a e : Nat), PMems s ps ns a e → e ≤ s.size ∧ ps.length + a ≤ e ∧ ns.length = ps.length
  | [], _, _, _, h => by simp only [PMems] at h
  | p :: ps, ns, a, e, h => by
    rw [PMems] at h
    obtain ⟨m, ms, rfl, h1, c, h2, h3, h4, d, h5, h6, h7, h8, f, h9, h10, h11⟩ := h
    have l1 := h1.2.2.1.lt
    have l2 := h2.1
    have l3 := h5.1
    have l4 := PVal.lt p h7
    have l5 := h9.1
    rcases h11 with ⟨rfl, rfl, h11, rfl⟩ | ⟨h11, x, h12, h13⟩
    · simp; omega
    · have := PMems.le ps ms x e h13
      have := h12.1
      simp; omega
end

mutual
theorem tree_all (s : ByteArray) (hs : s.size ≤ 100000000) : ∀ (p : Pl) (n : Nd), PVal s p → TreeR s p n → TreeAt s p n
  | .mk k b e ns ks, .mk k' t y d, h, hn => by
    have hle := PVal.le _ h
    have hlt := PVal.lt _ h
    have hn' := hn
    simp only [TreeR, Nd.kind, Nd.text, Nd.keys, Nd.kids] at hn'
    obtain ⟨_, _, _, hks⟩ := hn'
    have hq : k = 4 → PStr s b e := by
      intro hk
      subst hk
      simp only [PVal] at h
      rcases h with ⟨h, _⟩ | ⟨h, _⟩ | ⟨h, _⟩ | ⟨h, _⟩ | ⟨_, h, _⟩ | ⟨h, _⟩ | ⟨h, _⟩
      all_goals first | exact h | (exfalso; omega)
    have hkids : KidsAt s ks d ∧ ns.length ≤ 1000000000 ∧ ks.length ≤ 1000000000 := by
      simp only [PVal] at h
      simp only [Pl.e, Pl.b] at hle hlt
      rcases h with ⟨_, _, _, rfl, rfl⟩ | ⟨_, _, _, rfl, rfl⟩ | ⟨_, _, _, rfl, rfl⟩ | ⟨_, _, _, _, rfl, rfl⟩ | ⟨_, _, rfl, rfl⟩ | ⟨_, _, _, rfl, c, g3, ⟨rfl, _⟩ | g4⟩ | ⟨_, _, _, c, g3, ⟨rfl, rfl, _⟩ | g4⟩
      all_goals first | (simp only [TreesR] at hks; simp only [KidsAt]; exact ⟨hks, by simp, by simp⟩) | skip
      · have := PEls.le ks c e g4
        exact ⟨kids_els s hs ks d c e g4 hks, by simp, by omega⟩
      · have := PMems.le ks ns c e g4
        exact ⟨kids_mems s hs ks d ns c e g4 hks, by omega, by omega⟩
    exact tree_of s _ _ hs (Nat.le_of_lt hlt) hle hq hn hkids.1 hkids.2
theorem kids_els (s : ByteArray) (hs : s.size ≤ 100000000) : ∀ (ps : List Pl) (l : List Nd) (a e : Nat), PEls s ps a e → TreesR s ps l → KidsAt s ps l
  | [], _, _, _, h, _ => by simp only [PEls] at h
  | p :: ps, l, a, e, h, ht => by
    simp only [PEls] at h
    simp only [TreesR] at ht
    obtain ⟨n, r, rfl, k1, k2⟩ := ht
    obtain ⟨h1, h2, h3, c, h4, h5, h6⟩ := h
    simp only [KidsAt]
    refine ⟨n, r, rfl, tree_all s hs p n h2 k1, ?_⟩
    rcases h6 with ⟨rfl, h6, rfl⟩ | ⟨h6, d, h7, h8⟩
    · simp only [TreesR] at k2; simp only [KidsAt]; exact k2
    · exact kids_els s hs ps r d e h8 k2
theorem kids_mems (s : ByteArray) (hs : s.size ≤ 100000000) : ∀ (ps : List Pl) (l : List Nd) (ns : List (Nat × Nat)) (a e : Nat), PMems s ps ns a e → TreesR s ps l → KidsAt s ps l
  | [], _, _, _, _, h, _ => by simp only [PMems] at h
  | p :: ps, l, ns, a, e, h, ht => by
    rw [PMems] at h
    simp only [TreesR] at ht
    obtain ⟨n, r, rfl, k1, k2⟩ := ht
    obtain ⟨m, ms, rfl, h1, c, h2, h3, h4, d, h5, h6, h7, h8, f, h9, h10, h11⟩ := h
    simp only [KidsAt]
    refine ⟨n, r, rfl, tree_all s hs p n h7 k1, ?_⟩
    rcases h11 with ⟨rfl, rfl, h11, rfl⟩ | ⟨h11, x, h12, h13⟩
    · simp only [TreesR] at k2; simp only [KidsAt]; exact k2
    · exact kids_mems s hs ps r ms x e h13 k2
end

/-- What Read returns: a Boolean and, where it is true, the tree. -/
def ReadRet (s : ByteArray) (w : World) (e : Ending) (w' : World) : Prop :=
  ∃ (b : Bool) (n : Nd) (yv dv : Value), e = .returned (.tuple #[.agg #[.int .i64 (n.kind : Int), .string (bs n.text), yv, dv], .bool b]) ∧ Upd NoB w w' ∧ RdD w' (fun k => w.heap.size ≤ k) n yv dv ∧
    (b = true → ∃ p, PText s p ∧ TreeR s p n) ∧ (b = false → ∀ q, ¬ PText s q)
theorem RdD_leaf (w : World) (F : Nat → Prop) : RdD w F (.mk 0 [] [] []) (.slice none 0 0) (.slice none 0 0) := RdD_mk.2 ⟨RdS_nil _ _, RdL_nil _ _⟩

set_option maxHeartbeats 1000000 in
theorem Read_any (s : ByteArray) (w : World) (hs : s.size ≤ 100000000) (hp : ∀ p, PText s p → ∃ n, TreeR s p n) :
    Calls Tryz.prog 17 #[.string s] w (ReadRet s w) := by
  have HP := Lib.hid (Places_any s (w.alloc (.cells #[.int .i64 0, .string ⟨#[]⟩, .slice none 0 0, .slice none 0 0] 25)) (by omega))
  go_enter Tryz.func17, Tryz.ntmps17
  go_wp2_with fail
  refine HP.out.mono ?_
  rintro e w1 ⟨b, p, nv, kv, rfl, hu1, hrd, ht, hf⟩
  obtain ⟨na, nc, ka, kc, rfl, rfl⟩ := hrd.shape
  have hb0 : w1.heap[w.heap.size]? = some (.cells #[.int .i64 0, .string ⟨#[]⟩, .slice none 0 0, .slice none 0 0] 25 (0, 0)) := hu1.blk (heap_alloc_new w _) (fun h => h)
  have hU1 : Upd NoB w w1 := ((Upd.refl NoB w).alloc _).trans hu1
  have hsz1 : w.heap.size + 1 ≤ w1.heap.size := by have := hu1.size; simp at this; omega
  have hUA : Upd NoB w1 (w1.alloc (.cells #[.int .i64 (p.kind : Int), .int .i64 (p.b : Int), .int .i64 (p.e : Int), .slice na p.names.length nc, .slice ka p.kids.length kc] 31)) := (Upd.refl NoB w1).alloc _
  have hbA := hUA.blk hb0 (fun h => h)
  have hpA : (w1.alloc (.cells #[.int .i64 (p.kind : Int), .int .i64 (p.b : Int), .int .i64 (p.e : Int), .slice na p.names.length nc, .slice ka p.kids.length kc] 31)).heap[w1.heap.size]? = some (.cells #[.int .i64 (p.kind : Int), .int .i64 (p.b : Int), .int .i64 (p.e : Int), .slice na p.names.length nc, .slice ka p.kids.length kc] 31 (0, 0)) := heap_alloc_new w1 _
  have HRD := Lib.hid (RdP.upd hUA (fun _ _ h => h.elim) _ _ _ hrd)
  have HT := Lib.hid ht
  have HF := Lib.hid hf
  clear hrd ht hf HP
  cases b
  · have HF2 := Lib.hid (HF.out rfl)
    obtain ⟨⟨p0, p1, p2, p3⟩, r0, r1, r2, r3⟩ := four_cells hbA
    have HUA := Lib.hid hUA
    clear hbA hb0 hpA hUA
    go_wp2_with fail
    have U : Upd (OneB w.heap.size) (w1.alloc (.cells #[.int .i64 (p.kind : Int), .int .i64 (p.b : Int), .int .i64 (p.e : Int), .slice na p.names.length nc, .slice ka p.kids.length kc] 31)) (((((w1.alloc (.cells #[.int .i64 (p.kind : Int), .int .i64 (p.b : Int), .int .i64 (p.e : Int), .slice na p.names.length nc, .slice ka p.kids.length kc] 31)).setCell ⟨w.heap.size, 0, none⟩ (.int .i64 0)).setCell ⟨w.heap.size, 1, none⟩ (.string ⟨#[]⟩)).setCell ⟨w.heap.size, 2, none⟩ (.slice none 0 0)).setCell ⟨w.heap.size, 3, none⟩ (.slice none 0 0)) :=
      ((((Upd.refl _ _).setOne 0 _).setOne 1 _).setOne 2 _).setOne 3 _
    refine bodyPost_ret (v := .tuple #[.agg #[.int .i64 0, .string ⟨#[]⟩, .slice none 0 0, .slice none 0 0], .bool false]) (by simp [results, Tryz.results17, go_sem, p0, p1, p2, p3]) rfl ?_
    exact ⟨false, .mk 0 [] [] [], _, _, rfl, (hU1.trans HUA.out).then U (fun b hb => .inr (Nat.le_of_eq hb.symm)), RdD_leaf _ _, (fun h => by cases h), fun _ => HF2.out⟩
  · have htx := HT.out rfl
    have HT2 := Lib.hid htx
    obtain ⟨n, hn⟩ := hp p htx
    have hpv : PVal s p := by obtain ⟨_, _, _, h, _⟩ := htx; exact h
    clear htx
    have HC := Lib.hid (tree_all s hs p n hpv hn _ _ _ _ HRD.out)
    have HN := Lib.hid hn
    clear hn hpv
    obtain ⟨⟨a0, a1, a2, a3, a4⟩, a5⟩ := five_cells hpA
    clear a5
    have HUA := Lib.hid hUA
    clear hUA hpA hb0
    go_wp2_with fail
    refine HC.out.mono ?_
    rintro e w2 ⟨yv, dv, rfl, hu2, hrd2⟩
    obtain ⟨ya, yc, da, dc, rfl, rfl⟩ := hrd2.shape
    obtain ⟨⟨p0, p1, p2, p3⟩, r0, r1, r2, r3⟩ := four_cells (hu2.blk hbA (fun h => h))
    have HR2 := Lib.hid hrd2
    clear hbA hrd2 a0 a1 a2 a3 a4
    go_wp2_with fail
    have U : Upd (OneB w.heap.size) w2 ((((w2.setCell ⟨w.heap.size, 0, none⟩ (.int .i64 (n.kind : Int))).setCell ⟨w.heap.size, 1, none⟩ (.string (bs n.text))).setCell ⟨w.heap.size, 2, none⟩ (.slice ya n.keys.length yc)).setCell ⟨w.heap.size, 3, none⟩ (.slice da n.kids.length dc)) :=
      ((((Upd.refl _ _).setOne 0 _).setOne 1 _).setOne 2 _).setOne 3 _
    refine bodyPost_ret (v := .tuple #[.agg #[.int .i64 (n.kind : Int), .string (bs n.text), .slice ya n.keys.length yc, .slice da n.kids.length dc], .bool true]) (by simp [results, Tryz.results17, go_sem, p0, p1, p2, p3]) rfl ?_
    have hszA := HUA.out.size
    exact ⟨true, n, _, _, rfl, ((hU1.trans HUA.out).trans hu2).then U (fun b hb => .inr (Nat.le_of_eq hb.symm)), RdD.mono (fun b _ hb => by omega) _ _ _ (RdD.upd U (fun b hb hc => by have : b = w.heap.size := hc; omega) _ _ _ HR2.out), (fun _ => ⟨p, HT2.out, HN.out⟩), (fun h => by cases h)⟩

/-- What gjText returns: where it says yes, the text is a JSON text of at most 2^16 bytes whose tree it gives, without half pairs. -/
def GTRet (s : ByteArray) (w : World) (e : Ending) (w' : World) : Prop :=
  ∃ (b : Bool) (n : Nd) (yv dv : Value), e = .returned (.tuple #[.agg #[.int .i64 (n.kind : Int), .string (bs n.text), yv, dv], .bool b]) ∧ Upd NoB w w' ∧ RdD w' (fun k => w.heap.size ≤ k) n yv dv ∧
    (b = true → s.size ≤ 65536 ∧ PR s 0 ∧ ∃ p, PText s p ∧ TreeR s p n ∧ PR s p.b)

set_option maxHeartbeats 1000000 in
theorem gjText_any (s : ByteArray) (w : World) (hs : s.size ≤ 1099511627776) :
    Calls Tryz.prog 6 #[.string s] w (GTRet s w) := by
  have hb0 := heap_alloc_new w (.cells #[.int .i64 0, .string ⟨#[]⟩, .slice none 0 0, .slice none 0 0] 25)
  have hUA : Upd NoB w (w.alloc (.cells #[.int .i64 0, .string ⟨#[]⟩, .slice none 0 0, .slice none 0 0] 25)) := (Upd.refl NoB w).alloc _
  have HUA := Lib.hid hUA
  have HB := Lib.hid (show (w.alloc (.cells #[.int .i64 0, .string ⟨#[]⟩, .slice none 0 0, .slice none 0 0] 25)).heap[w.heap.size]? = some (.cells #[.int .i64 0, .string ⟨#[]⟩, .slice none 0 0, .slice none 0 0] 25 (0, 0)) from hb0)
  obtain ⟨⟨p0, p1, p2, p3⟩, r0, r1, r2, r3⟩ := four_cells HB.out
  clear hb0 hUA
  have no : ∀ a : Act, True := fun _ => trivial
  by_cases hsz : 65536 < (s.size : Int)
  · go_enter Tryz.func6, Tryz.ntmps6
    go_wp2_with fail
    have U : Upd (OneB w.heap.size) (w.alloc (.cells #[.int .i64 0, .string ⟨#[]⟩, .slice none 0 0, .slice none 0 0] 25)) (((((w.alloc (.cells #[.int .i64 0, .string ⟨#[]⟩, .slice none 0 0, .slice none 0 0] 25)).setCell ⟨w.heap.size, 0, none⟩ (.int .i64 0)).setCell ⟨w.heap.size, 1, none⟩ (.string ⟨#[]⟩)).setCell ⟨w.heap.size, 2, none⟩ (.slice none 0 0)).setCell ⟨w.heap.size, 3, none⟩ (.slice none 0 0)) :=
      ((((Upd.refl _ _).setOne 0 _).setOne 1 _).setOne 2 _).setOne 3 _
    refine bodyPost_ret (v := .tuple #[.agg #[.int .i64 0, .string ⟨#[]⟩, .slice none 0 0, .slice none 0 0], .bool false]) (by simp [results, Tryz.results6, go_sem, p0, p1, p2, p3]) rfl ?_
    exact ⟨false, .mk 0 [] [] [], _, _, rfl, by first | exact HUA.out | exact HUA.out.then U (fun b hb => .inr (Nat.le_of_eq (show b = w.heap.size from hb).symm)), RdD_leaf _ _, (fun h => by cases h)⟩
  have HU8 := Lib.hid (UTF8_any s (w.alloc (.cells #[.int .i64 0, .string ⟨#[]⟩, .slice none 0 0, .slice none 0 0] 25)) hs)
  have HPa := Lib.hid (Paired_any s (w.alloc (.cells #[.int .i64 0, .string ⟨#[]⟩, .slice none 0 0, .slice none 0 0] 25)) hs)
  go_enter Tryz.func6, Tryz.ntmps6
  go_wp2_with fail
  refine HU8.out.mono ?_
  rintro e w' ⟨⟨b8, rfl⟩, rfl⟩
  cases b8
  · go_wp2_with fail
    have U : Upd (OneB w.heap.size) (w.alloc (.cells #[.int .i64 0, .string ⟨#[]⟩, .slice none 0 0, .slice none 0 0] 25)) (((((w.alloc (.cells #[.int .i64 0, .string ⟨#[]⟩, .slice none 0 0, .slice none 0 0] 25)).setCell ⟨w.heap.size, 0, none⟩ (.int .i64 0)).setCell ⟨w.heap.size, 1, none⟩ (.string ⟨#[]⟩)).setCell ⟨w.heap.size, 2, none⟩ (.slice none 0 0)).setCell ⟨w.heap.size, 3, none⟩ (.slice none 0 0)) :=
      ((((Upd.refl _ _).setOne 0 _).setOne 1 _).setOne 2 _).setOne 3 _
    refine bodyPost_ret (v := .tuple #[.agg #[.int .i64 0, .string ⟨#[]⟩, .slice none 0 0, .slice none 0 0], .bool false]) (by simp [results, Tryz.results6, go_sem, p0, p1, p2, p3]) rfl ?_
    exact ⟨false, .mk 0 [] [] [], _, _, rfl, by first | exact HUA.out | exact HUA.out.then U (fun b hb => .inr (Nat.le_of_eq (show b = w.heap.size from hb).symm)), RdD_leaf _ _, (fun h => by cases h)⟩
  go_wp2_with fail
  refine HPa.out.mono ?_
  rintro e w' ⟨⟨bp, rfl, hbp⟩, rfl⟩
  cases bp
  · clear hbp
    go_wp2_with fail
    have U : Upd (OneB w.heap.size) (w.alloc (.cells #[.int .i64 0, .string ⟨#[]⟩, .slice none 0 0, .slice none 0 0] 25)) (((((w.alloc (.cells #[.int .i64 0, .string ⟨#[]⟩, .slice none 0 0, .slice none 0 0] 25)).setCell ⟨w.heap.size, 0, none⟩ (.int .i64 0)).setCell ⟨w.heap.size, 1, none⟩ (.string ⟨#[]⟩)).setCell ⟨w.heap.size, 2, none⟩ (.slice none 0 0)).setCell ⟨w.heap.size, 3, none⟩ (.slice none 0 0)) :=
      ((((Upd.refl _ _).setOne 0 _).setOne 1 _).setOne 2 _).setOne 3 _
    refine bodyPost_ret (v := .tuple #[.agg #[.int .i64 0, .string ⟨#[]⟩, .slice none 0 0, .slice none 0 0], .bool false]) (by simp [results, Tryz.results6, go_sem, p0, p1, p2, p3]) rfl ?_
    exact ⟨false, .mk 0 [] [] [], _, _, rfl, by first | exact HUA.out | exact HUA.out.then U (fun b hb => .inr (Nat.le_of_eq (show b = w.heap.size from hb).symm)), RdD_leaf _ _, (fun h => by cases h)⟩
  have HPR := Lib.hid (hbp rfl); clear hbp
  have HR := Lib.hid (Read_any s (w.alloc (.cells #[.int .i64 0, .string ⟨#[]⟩, .slice none 0 0, .slice none 0 0] 25)) (by omega) (fun p hp => (text_tree hp HPR.out).imp fun _ h => h.1))
  go_wp2_with fail
  refine HR.out.mono ?_
  rintro e w2 ⟨b, n, yv, dv, rfl, hu2, hrd2, ht, _⟩
  obtain ⟨ya, yc, da, dc, rfl, rfl⟩ := hrd2.shape
  have HB2 := Lib.hid (hu2.blk HB.out (fun h => h))
  clear p0 p1 p2 p3 r0 r1 r2 r3 HR
  obtain ⟨⟨p0, p1, p2, p3⟩, r0, r1, r2, r3⟩ := four_cells HB2.out
  have HR2 := Lib.hid hrd2
  have HT := Lib.hid ht
  clear hrd2 ht
  go_wp2_with fail
  have U : Upd (OneB w.heap.size) w2 ((((w2.setCell ⟨w.heap.size, 0, none⟩ (.int .i64 (n.kind : Int))).setCell ⟨w.heap.size, 1, none⟩ (.string (bs n.text))).setCell ⟨w.heap.size, 2, none⟩ (.slice ya n.keys.length yc)).setCell ⟨w.heap.size, 3, none⟩ (.slice da n.kids.length dc)) :=
    ((((Upd.refl _ _).setOne 0 _).setOne 1 _).setOne 2 _).setOne 3 _
  refine bodyPost_ret (v := .tuple #[.agg #[.int .i64 (n.kind : Int), .string (bs n.text), .slice ya n.keys.length yc, .slice da n.kids.length dc], .bool b]) (by simp [results, Tryz.results6, go_sem, p0, p1, p2, p3]) rfl ?_
  exact ⟨b, n, _, _, rfl, (HUA.out.trans hu2).then U (fun b hb => .inr (Nat.le_of_eq hb.symm)), RdD.mono (fun b _ hb => by simp at hb; omega) _ _ _ (RdD.upd U (fun b hb hc => by have : b = w.heap.size := hc; simp at hb; omega) _ _ _ HR2.out), fun hb => ⟨by omega, HPR.out, by obtain ⟨p, h1, h2⟩ := HT.out hb; exact ⟨p, h1, h2, (text_tree h1 HPR.out).choose_spec.2⟩⟩⟩
end Go.Proofs.YtggdcpmampjncaaGreatDoor
