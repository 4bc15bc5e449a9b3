/- The reference's Tree: the tree of a place. -/
import Derived.Test.YtggdcpmampjncaaGreatDoorSpec2
import Derived.Test.YtggdcpmampjncaaGreatDoorAppD
import Derived.Test.YtggdcpmampjncaaGreatDoorRead4
import Derived.Deep.RegionLaw
import Derived.Deep.DrawnRows
namespace Go.Proofs.YtggdcpmampjncaaGreatDoor
open Go.RowKit

theorem Upd.fz {S : Nat → Prop} {w w1 : World} (h : Upd S w w1) {a : Addr} {v : Value} (hc : w.cell? a = some v) (hf : w.frozen? a = false) (hn : ¬ S a.block) : w1.frozen? a = false :=
  (World.frozen?_of_block (h.block a.block (World.block_lt_of_cell? w a hc) hn)).trans hf
theorem four_cells {w : World} {B T : Nat} {a b c d : Value} (h : w.heap[B]? = some (.cells #[a, b, c, d] T (0, 0))) :
    (w.cell? ⟨B, 0, none⟩ = some a ∧ w.cell? ⟨B, 1, none⟩ = some b ∧ w.cell? ⟨B, 2, none⟩ = some c ∧ w.cell? ⟨B, 3, none⟩ = some d) ∧
    (w.frozen? ⟨B, 0, none⟩ = false ∧ w.frozen? ⟨B, 1, none⟩ = false ∧ w.frozen? ⟨B, 2, none⟩ = false ∧ w.frozen? ⟨B, 3, none⟩ = false) := by
  refine ⟨⟨?_, ?_, ?_, ?_⟩, frozen_of_row w B 0 _ _ h, frozen_of_row w B 1 _ _ h, frozen_of_row w B 2 _ _ h, frozen_of_row w B 3 _ _ h⟩
  · rw [cell_of_row w B 0 _ _ _ h]; rfl
  · rw [cell_of_row w B 1 _ _ _ h]; rfl
  · rw [cell_of_row w B 2 _ _ _ h]; rfl
  · rw [cell_of_row w B 3 _ _ _ h]; rfl

/-- The three blocks of Tree's own. -/
structure TW (B : Nat) (p : Pl) (nv kv : Value) (k : Nat) (tx : List UInt8) (yv dv : Value) (w0 w : World) : Prop where
  b0 : w.heap[B]? = some (.cells #[.int .i64 (p.kind : Int), .int .i64 (p.b : Int), .int .i64 (p.e : Int), nv, kv] 31 (0, 0))
  b1 : w.heap[B + 1]? = some (.cells #[.int .i64 0, .string ByteArray.empty, .slice none 0 0, .slice none 0 0] 25 (0, 0))
  b2 : w.heap[B + 1 + 1]? = some (.cells #[.int .i64 (k : Int), .string (bs tx), yv, dv] 25 (0, 0))
  up : Upd NoB w0 w
  hB : w0.heap.size = B
  sz : B + 3 ≤ w.heap.size
theorem TW.upd {B : Nat} {p : Pl} {nv kv : Value} {k : Nat} {tx : List UInt8} {yv dv : Value} {w0 w w1 : World} {S : Nat → Prop} (h : TW B p nv kv k tx yv dv w0 w) (u : Upd S w w1) (hs : ∀ b, S b → B + 3 ≤ b) : TW B p nv kv k tx yv dv w0 w1 :=
  ⟨u.blk h.b0 (fun hc => by have := hs _ hc; omega), u.blk h.b1 (fun hc => by have := hs _ hc; omega), u.blk h.b2 (fun hc => by have := hs _ hc; omega), h.up.then u (fun b hb => .inr (by have := hs _ hb; have := h.hB; omega)), h.hB, Nat.le_trans h.sz u.size⟩
theorem TW.set2 {B : Nat} {p : Pl} {nv kv : Value} {k : Nat} {tx : List UInt8} {yv dv : Value} {w0 w : World} (h : TW B p nv kv k tx yv dv w0 w) (v : Value) : TW B p nv kv k tx v dv w0 (w.setCell ⟨B + 1 + 1, 2, none⟩ v) := by
  refine ⟨(Below.heap_setCell _ _ _ _ (by first | (simp; done) | (simp; omega))).trans h.b0, (Below.heap_setCell _ _ _ _ (by first | (simp; done) | (simp; omega))).trans h.b1, by rw [heap_setCell_same w (B + 1 + 1) 2 _ _ _ h.b2]; rfl, h.up.setCell (.inr (by have := h.hB; show _ ≤ B + 1 + 1; omega)) v, h.hB, by simpa [World.setCell] using h.sz⟩
theorem TW.set3 {B : Nat} {p : Pl} {nv kv : Value} {k : Nat} {tx : List UInt8} {yv dv : Value} {w0 w : World} (h : TW B p nv kv k tx yv dv w0 w) (v : Value) : TW B p nv kv k tx yv v w0 (w.setCell ⟨B + 1 + 1, 3, none⟩ v) := by
  refine ⟨(Below.heap_setCell _ _ _ _ (by first | (simp; done) | (simp; omega))).trans h.b0, (Below.heap_setCell _ _ _ _ (by first | (simp; done) | (simp; omega))).trans h.b1, by rw [heap_setCell_same w (B + 1 + 1) 3 _ _ _ h.b2]; rfl, h.up.setCell (.inr (by have := h.hB; show _ ≤ B + 1 + 1; omega)) v, h.hB, by simpa [World.setCell] using h.sz⟩
theorem TW.set1 {B : Nat} {p : Pl} {nv kv : Value} {k : Nat} {tx : List UInt8} {yv dv : Value} {w0 w : World} (h : TW B p nv kv k tx yv dv w0 w) (t : List UInt8) : TW B p nv kv k t yv dv w0 (w.setCell ⟨B + 1 + 1, 1, none⟩ (.string (bs t))) := by
  refine ⟨(Below.heap_setCell _ _ _ _ (by first | (simp; done) | (simp; omega))).trans h.b0, (Below.heap_setCell _ _ _ _ (by first | (simp; done) | (simp; omega))).trans h.b1, by rw [heap_setCell_same w (B + 1 + 1) 1 _ _ _ h.b2]; rfl, h.up.setCell (.inr (by have := h.hB; show _ ≤ B + 1 + 1; omega)) _, h.hB, by simpa [World.setCell] using h.sz⟩

/-- What Tree returns. -/
def TrRet (n : Nd) (w : World) (e : Ending) (w' : World) : Prop := ∃ yv dv, e = .returned (.agg #[.int .i64 (n.kind : Int), .string (bs n.text), yv, dv]) ∧ Upd NoB w w' ∧ RdD w' (fun b => w.heap.size ≤ b) n yv dv
/-- What Tree does at a place. -/
def TreeAt (s : ByteArray) (p : Pl) (n : Nd) : Prop := ∀ w F nv kv, RdP w F p nv kv →
  Calls Tryz.prog 37 #[.string s, .agg #[.int .i64 (p.kind : Int), .int .i64 (p.b : Int), .int .i64 (p.e : Int), nv, kv]] w (TrRet n w)

theorem bs_cut {s : ByteArray} {b e : Nat} (_h1 : b ≤ e) (_h2 : e ≤ s.size) : s.extract b e = bs (cut s b e) := by
  apply ByteArray.ext
  apply Array.ext'
  rw [ByteArray.data_extract, Array.toList_extract, List.extract_eq_take_drop]
  simp only [bs, cut]

theorem span_get : ∀ (ns : List (Nat × Nat)) (m : Nat × Nat) (rs : List (Nat × Nat)), (spanCells (ns ++ m :: rs))[ns.length * 2]? = some (.int .i64 (m.1 : Int)) ∧ (spanCells (ns ++ m :: rs))[ns.length * 2 + 1]? = some (.int .i64 (m.2 : Int))
  | [], m, rs => by simp [spanCells]
  | n :: ns, m, rs => by
    have h := span_get ns m rs
    have e : spanCells (n :: ns ++ m :: rs) = .int .i64 (n.1 : Int) :: .int .i64 (n.2 : Int) :: spanCells (ns ++ m :: rs) := by simp [spanCells]
    rw [e, List.length_cons, show (ns.length + 1) * 2 = ns.length * 2 + 1 + 1 by omega, List.getElem?_cons_succ, List.getElem?_cons_succ, show ns.length * 2 + 1 + 1 + 1 = (ns.length * 2 + 1) + 1 + 1 by omega, List.getElem?_cons_succ, List.getElem?_cons_succ]
    exact h
theorem kid_get {w : World} {F : Nat → Prop} : ∀ (ks : List Pl) (q : Pl) (rs : List Pl) (xs : List Value), RdPs w F (ks ++ q :: rs) xs →
    ∃ nv kv, (xs[ks.length * 5]? = some (.int .i64 (q.kind : Int)) ∧ xs[ks.length * 5 + 1]? = some (.int .i64 (q.b : Int)) ∧ xs[ks.length * 5 + 2]? = some (.int .i64 (q.e : Int)) ∧ xs[ks.length * 5 + 3]? = some nv ∧ xs[ks.length * 5 + 4]? = some kv) ∧ RdP w F q nv kv
  | [], q, rs, xs, h => by
    simp only [List.nil_append, RdPs] at h
    obtain ⟨nv, kv, r, rfl, h1, _⟩ := h
    exact ⟨nv, kv, by simp, h1⟩
  | k :: ks, q, rs, xs, h => by
    simp only [List.cons_append, RdPs] at h
    obtain ⟨nv', kv', r, rfl, _, h2⟩ := h
    obtain ⟨nv, kv, ⟨h3, h4, h5, h6, h7⟩, h8⟩ := kid_get ks q rs r h2
    have e : ∀ j, ([Value.int .i64 (k.kind : Int), .int .i64 (k.b : Int), .int .i64 (k.e : Int), nv', kv'] ++ r)[(k :: ks).length * 5 + j]? = r[ks.length * 5 + j]? := fun j => by
      rw [List.getElem?_append_right (by simp; omega), List.length_cons]
      congr 1
      simp; omega
    refine ⟨nv, kv, ⟨?_, ?_, ?_, ?_, ?_⟩, h8⟩
    · exact (e 0).trans h3
    · exact (e 1).trans h4
    · exact (e 2).trans h5
    · exact (e 3).trans h6
    · exact (e 4).trans h7
theorem RdN.at {w : World} {F : Nat → Prop} {na : Option Addr} {nc : Nat} {ns : List (Nat × Nat)} {m : Nat × Nat} {rs : List (Nat × Nat)} (h : RdN w F (.slice na (ns ++ m :: rs).length nc) (ns ++ m :: rs)) :
    ∃ g, na = some ⟨g, 0, none⟩ ∧ (ns ++ m :: rs).length ≤ nc ∧ w.cell? ⟨g, ns.length * 2, none⟩ = some (.int .i64 (m.1 : Int)) ∧ w.cell? ⟨g, ns.length * 2 + 1, none⟩ = some (.int .i64 (m.2 : Int)) := by
  obtain ⟨h1, h2⟩ := h
  rcases h1.2 with ⟨_, h0⟩ | ⟨g, cap, cur, he, _, _, hc, _⟩
  · simp at h0
  · injection he with e1 e2 e3
    subst e1
    subst e3
    have hl : (ns ++ m :: rs).length = ns.length + (rs.length + 1) := by simp
    refine ⟨g, rfl, hc, ?_, ?_⟩
    · rw [World.ownsRow.cellAt h1 (ns.length * 2) (by omega)]; exact (span_get ns m rs).1
    · rw [World.ownsRow.cellAt h1 (ns.length * 2 + 1) (by omega)]; exact (span_get ns m rs).2
theorem RdK.at {w : World} {F : Nat → Prop} {na : Option Addr} {nc : Nat} {ns : List Pl} {q : Pl} {rs : List Pl} (h : RdK w F (.slice na (ns ++ q :: rs).length nc) (ns ++ q :: rs)) :
    ∃ g nv kv, na = some ⟨g, 0, none⟩ ∧ (ns ++ q :: rs).length ≤ nc ∧ (w.cell? ⟨g, ns.length * 5, none⟩ = some (.int .i64 (q.kind : Int)) ∧ w.cell? ⟨g, ns.length * 5 + 1, none⟩ = some (.int .i64 (q.b : Int)) ∧ w.cell? ⟨g, ns.length * 5 + 2, none⟩ = some (.int .i64 (q.e : Int)) ∧
      w.cell? ⟨g, ns.length * 5 + 3, none⟩ = some nv ∧ w.cell? ⟨g, ns.length * 5 + 4, none⟩ = some kv) ∧ RdP w F q nv kv := by
  obtain ⟨xs, h1, h2, h3⟩ := h
  rcases h1.2 with ⟨_, h0⟩ | ⟨g, cap, cur, he, _, _, hc, _⟩
  · simp at h0
  · injection he with e1 e2 e3
    subst e1
    subst e3
    have hl : (ns ++ q :: rs).length = ns.length + (rs.length + 1) := by simp
    obtain ⟨nv, kv, ⟨k0, k1, k2, k3, k4⟩, k5⟩ := kid_get ns q rs xs h3
    refine ⟨g, nv, kv, rfl, hc, ⟨?_, ?_, ?_, ?_, ?_⟩, k5⟩
    · rw [World.ownsRow.cellAt h1 (ns.length * 5) (by omega)]; exact k0
    · rw [World.ownsRow.cellAt h1 (ns.length * 5 + 1) (by omega)]; exact k1
    · rw [World.ownsRow.cellAt h1 (ns.length * 5 + 2) (by omega)]; exact k2
    · rw [World.ownsRow.cellAt h1 (ns.length * 5 + 3) (by omega)]; exact k3
    · rw [World.ownsRow.cellAt h1 (ns.length * 5 + 4) (by omega)]; exact k4
def KidsAt (s : ByteArray) : List Pl → List Nd → Prop
  | [], l => l = []
  | p :: ps, l => ∃ n rest, l = n :: rest ∧ TreeAt s p n ∧ KidsAt s ps rest

set_option maxHeartbeats 2000000 in
set_option maxRecDepth 4000 in
theorem tree_of (s : ByteArray) (p : Pl) (n : Nd) (hs : s.size ≤ 100000000) (hb : p.b ≤ p.e) (hle : p.e ≤ s.size) (hq : p.kind = 4 → PStr s p.b p.e) (hn : TreeR s p n) (hK : KidsAt s p.kids n.kids) (hnl : p.names.length ≤ 1000000000 ∧ p.kids.length ≤ 1000000000) : TreeAt s p n := by
  intro w F nv kv hrd
  obtain ⟨na, nc, ka, kc, rfl, rfl⟩ := hrd.shape
  have Hrd := Lib.hid hrd; clear hrd
  have HK := Lib.hid hK; clear hK
  obtain ⟨hkind, htext, hkeys⟩ : n.kind = p.kind ∧ ((p.kind = 3 ∧ n.text = cut s p.b p.e) ∨ (p.kind = 4 ∧ UQ s (p.b + 1) p.e n.text) ∨ (p.kind ≠ 3 ∧ p.kind ≠ 4 ∧ n.text = [])) ∧ KeysR s p.names n.keys := by
    obtain ⟨k, b, e, ns, ks⟩ := p
    simp only [TreeR] at hn
    exact ⟨hn.1, hn.2.1, hn.2.2.1⟩
  have Hkind := Lib.hid hkind
  have Hkeys := Lib.hid hkeys
  clear hkind hkeys hn
  go_enter Tryz.func37, Tryz.ntmps37
  go_upto_region 2 with (fail)
  have T0 : TW w.heap.size p (.slice na p.names.length nc) (.slice ka p.kids.length kc) p.kind [] (.slice none 0 0) (.slice none 0 0) w
      (((w.alloc (.cells #[.int .i64 (p.kind : Int), .int .i64 (p.b : Int), .int .i64 (p.e : Int), .slice na p.names.length nc, .slice ka p.kids.length kc] 31)).alloc (.cells #[.int .i64 0, .string ⟨#[]⟩, .slice none 0 0, .slice none 0 0] 25)).alloc (.cells #[.int .i64 (p.kind : Int), .string ⟨#[]⟩, .slice none 0 0, .slice none 0 0] 25)) := by
    refine ⟨?_, ?_, ?_, ((((Upd.refl _ _).alloc _).alloc _).alloc _), rfl, by simp⟩
    · rw [Below.heap_alloc _ _ _ (by simp; omega), Below.heap_alloc _ _ _ (by simp), heap_alloc_new]
    · have h := heap_alloc_new (w.alloc (.cells #[.int .i64 (p.kind : Int), .int .i64 (p.b : Int), .int .i64 (p.e : Int), .slice na p.names.length nc, .slice ka p.kids.length kc] 31)) (.cells #[.int .i64 0, .string ⟨#[]⟩, .slice none 0 0, .slice none 0 0] 25)
      rw [World.size_alloc] at h
      rw [Below.heap_alloc _ _ _ (by simp), h]
      rfl
    · have h := heap_alloc_new ((w.alloc (.cells #[.int .i64 (p.kind : Int), .int .i64 (p.b : Int), .int .i64 (p.e : Int), .slice na p.names.length nc, .slice ka p.kids.length kc] 31)).alloc (.cells #[.int .i64 0, .string ⟨#[]⟩, .slice none 0 0, .slice none 0 0] 25)) (.cells #[.int .i64 (p.kind : Int), .string ⟨#[]⟩, .slice none 0 0, .slice none 0 0] 25)
      rw [World.size_alloc, World.size_alloc] at h
      rw [h]
      rfl
  generalize (((w.alloc (.cells #[.int .i64 (p.kind : Int), .int .i64 (p.b : Int), .int .i64 (p.e : Int), .slice na p.names.length nc, .slice ka p.kids.length kc] 31)).alloc (.cells #[.int .i64 0, .string ⟨#[]⟩, .slice none 0 0, .slice none 0 0] 25)).alloc (.cells #[.int .i64 (p.kind : Int), .string ⟨#[]⟩, .slice none 0 0, .slice none 0 0] 25)) = w1 at *
  obtain ⟨⟨p0, p1, p2, p3, p4⟩, p5⟩ := five_cells T0.b0
  clear p5
  obtain ⟨q4, q0, q1, q2, q3⟩ := four_cells T0.b2
  go_upto_block 0 with (fail)
  go_cut [] (fun wx => TW w.heap.size p (.slice na p.names.length nc) (.slice ka p.kids.length kc) p.kind n.text (.slice none 0 0) (.slice none 0 0) w wx)
  case first =>
    rcases htext with ⟨h3, ht⟩ | ⟨h4, ht⟩ | ⟨h3, h4, ht⟩
    · have e3 : ((p.kind : Int) == 3) = true := by rw [h3]; rfl
      have hsl : ∀ wx, (Instr.slice 9 (.string s) (some (.int .i64 (p.b : Int))) (some (.int .i64 (p.e : Int))) none).run Tryz.prog wx = .ok (.string (bs (cut s p.b p.e))) wx := fun wx => by
        have h := run_slice_string (P := Tryz.prog) wx 9 s .i64 .i64 (p.b : Int) (p.e : Int) Tryz.underlying9 (by omega) (by omega) (by omega)
        rw [Int.toNat_natCast, Int.toNat_natCast, bs_cut hb hle] at h
        exact h
      have HT := Lib.hid ht
      clear h3 ht
      go_wp2_with fail
      go_meet
      rw [HT.out]
      exact T0.set1 _
    · have e3 : ((p.kind : Int) == 3) = false := by rw [h4]; rfl
      have e4 : ((p.kind : Int) == 4) = true := by rw [h4]; rfl
      have hP := hq h4
      have S : Sub s (s.extract p.b p.e) p.b p.e := ⟨hb, hle, rfl⟩
      have hz := S.size
      have hlt := ht.sb.lt
      have hUn := Unquote_any (s.extract p.b p.e) n.text w1 (by omega) (by have := S.at (k := p.b) (by omega) (by omega); rw [Nat.sub_self] at this; rw [this]; exact hP.2.1) (by
        have := ht.sh S (by omega) (Nat.le_refl _)
        rw [show p.b + 1 - p.b = 1 by omega, ← hz] at this
        exact this)
      have HU := Lib.hid hUn
      have hsl : ∀ wx, (Instr.slice 9 (.string s) (some (.int .i64 (p.b : Int))) (some (.int .i64 (p.e : Int))) none).run Tryz.prog wx = .ok (.string (s.extract p.b p.e)) wx := fun wx => by
        have h := run_slice_string (P := Tryz.prog) wx 9 s .i64 .i64 (p.b : Int) (p.e : Int) Tryz.underlying9 (by omega) (by omega) (by omega)
        rw [Int.toNat_natCast, Int.toNat_natCast] at h
        exact h
      clear hUn hP S hz hlt ht h4
      go_wp2_with fail
      refine HU.out.mono ?_
      rintro e w2 ⟨rfl, hu2⟩
      have T2 := T0.upd hu2 (fun _ h => h.elim)
      obtain ⟨_, r0, r1, r2, r3⟩ := four_cells T2.b2
      clear q0 q1 q2 q3 q4
      go_wp2_with fail
      go_meet
      exact T2.set1 _
    · have e3 : ((p.kind : Int) == 3) = false := by simp; omega
      have e4 : ((p.kind : Int) == 4) = false := by simp; omega
      have HT := Lib.hid ht
      clear h3 h4 ht
      go_wp2_with fail
      go_meet
      rw [HT.out]
      exact T0
  case rest =>
  clear T0 p0 p1 p2 p3 p4 q0 q1 q2 q3 q4 htext hq
  have T1 := hcut; clear hcut
  go_upto_block 1 with (fail)
  go_cut [6] (fun v6 wx => ∃ yv, TW w.heap.size p (.slice na p.names.length nc) (.slice ka p.kids.length kc) p.kind n.text yv (.slice none 0 0) w wx ∧ RowS (w.heap.size + 3) wx yv n.keys)
  case first =>
    go_wp2_with fail
    go_loopg [6] p.names.length (fun m v6 wr => ∃ (dn rn : List (Nat × Nat)) (dk rk : List (List UInt8)) (yv : Value), m = rn.length ∧ v6 = .int .i64 (dn.length : Int) ∧ p.names = dn ++ rn ∧ n.keys = dk ++ rk ∧ KeysR s rn rk ∧ dk.length = dn.length ∧
      TW w.heap.size p (.slice na p.names.length nc) (.slice ka p.kids.length kc) p.kind n.text yv (.slice none 0 0) w wr ∧ RowS (w.heap.size + 3) wr yv dk)
    case atStart => exact ⟨[], p.names, [], n.keys, _, rfl, rfl, rfl, rfl, Hkeys.out, rfl, T1, RowS.nil _ _⟩
    case round =>
      clear T1
      obtain ⟨dn, rn, dk, rk, yv, hm, rfl, hpn, hnk, hkr, hdl, T1, hrow⟩ := hrel
      have Hdl := Lib.hid hdl; clear hdl
      have Hm := Lib.hid hm; clear hm
      have HPN := Lib.hid hpn
      have HNK := Lib.hid hnk; clear hnk
      have HKR := Lib.hid hkr; clear hkr
      have HRow := Lib.hid hrow
      obtain ⟨⟨p0, p1, p2, p3, p4⟩, p5⟩ := five_cells T1.b0
      clear p5
      obtain ⟨⟨c0, c1, c2, c3⟩, q0, q1, q2, q3⟩ := four_cells T1.b2
      cases rn with
      | nil =>
        have hlen : p.names.length = dn.length := by rw [hpn]; simp
        have HE : Hid (dk = n.keys) := Lib.hid (by
          have h := HKR.out
          simp only [KeysR] at h
          rw [HNK.out, h, List.append_nil])
        clear hpn
        go_wp2_with fail
        go_meet
        exact ⟨yv, T1, by have := HRow.out; rw [HE.out] at this; exact this⟩
      | cons q rn =>
        have hlen : p.names.length = dn.length + (rn.length + 1) := by rw [hpn]; simp
        have HLen := Lib.hid hlen
        obtain ⟨ya, yc, rfl⟩ : ∃ a c, yv = .slice a dk.length c := hrow.read.len
        have hlt : (dn.length : Int) < (p.names.length : Int) := by omega
        obtain ⟨hk0, t, rk', hk1, hk2, hk3, hk4⟩ : True ∧ ∃ t rest, rk = t :: rest ∧ PStr s q.1 q.2 ∧ UQ s (q.1 + 1) q.2 t ∧ KeysR s rn rest := by
          have h := HKR.out
          simp only [KeysR] at h
          exact ⟨trivial, h⟩
        have hrdp := RdP.upd T1.up (fun _ _ h => h.elim) _ _ _ Hrd.out
        obtain ⟨hrn, hrk⟩ := RdP_mk.1 hrdp
        rw [hpn] at hrn
        obtain ⟨g, rfl, hcap, cb, ce⟩ := hrn.at
        have hg : g < w.heap.size := ((RdP_mk.1 Hrd.out).1.1.lt g rfl).2
        have hq34 : bAt (s.extract q.1 q.2) 0 = 34 ∧ UQ (s.extract q.1 q.2) 1 (s.extract q.1 q.2).size t ∧ (s.extract q.1 q.2).size ≤ 100000000 ∧ q.1 ≤ q.2 ∧ q.2 ≤ s.size := by
          have hl := hk3.sb.lt
          have S : Sub s (s.extract q.1 q.2) q.1 q.2 := ⟨by omega, hl.2, rfl⟩
          have hz := S.size
          refine ⟨?_, ?_, by omega, by omega, hl.2⟩
          · have := S.at (k := q.1) (by omega) (by omega); rw [Nat.sub_self] at this; rw [this]; exact hk2.2.1
          · have := hk3.sh S (by omega) (Nat.le_refl _)
            rw [show q.1 + 1 - q.1 = 1 by omega, ← hz] at this
            exact this
        have hsl : ∀ wx, (Instr.slice 9 (.string s) (some (.int .i64 (q.1 : Int))) (some (.int .i64 (q.2 : Int))) none).run Tryz.prog wx = .ok (.string (s.extract q.1 q.2)) wx := fun wx => by
          have h := run_slice_string (P := Tryz.prog) wx 9 s .i64 .i64 (q.1 : Int) (q.2 : Int) Tryz.underlying9 (by omega) (by omega) (by omega)
          rw [Int.toNat_natCast, Int.toNat_natCast] at h
          exact h
        have HU := Lib.hid (fun wx => Unquote_any (s.extract q.1 q.2) t wx hq34.2.2.1 hq34.1 hq34.2.1)
        have HKR4 := Lib.hid hk4
        have HQ := Lib.hid hq34
        have hcap' : (p.names.length : Int) ≤ (nc : Int) := by rw [hpn]; omega
        have hdk : dk.length ≤ 1000000000 := by have := Hdl.out; omega
        have hgn : ¬ (g = w.heap.size + 1 + 1) := by omega
        have hgn' : ¬ (w.heap.size + 1 + 1 = g) := by omega
        have hBn : ¬ (w.heap.size = w.heap.size + 1 + 1) := by omega
        have hBn' : ¬ (w.heap.size + 1 + 1 = w.heap.size) := by omega
        have Hk1 := Lib.hid hk1
        clear hk1 hlen hpn hrn hrk hrdp hk0 hk2 hk3 hk4 hq34 c0 c1 c3 p0 p1 p2 p4 q0 q1 q3 hrow
        have hd0 : (0 : Int) ≤ (dn.length : Int) := by omega
        go_wp2_with fail
        go_region_law (first | (refine step_app_str (by rfl) _ _ (by rfl) (w.heap.size + 3) _ dk (by rfl) ((HRow.out.upd ((Upd.refl NoB wr).drew.trans hu2) (fun _ _ h => h)).upd ((Upd.refl NoB _).alloc _) (fun _ _ h => h)) t ⟨w2.heap.size, 0, none⟩ (by rfl) (cells_lit w2 [Value.string (bs t)] _ _ rfl) (by omega) (by have h1 := hu2.size; have h2 := T1.sz; simp; simp at h1; omega) ?_; intro g3 cap3 w3 hrow3 hupd3 hat3; have hk3 := (((Upd.refl NoB w2).alloc (.cells #[Value.string (bs t)] 9)).cell hk2 (fun h => h)); have hk4 := hupd3.cell hk3 (fun h => by have := (HRow.out.lt _ h).1; simp at this; omega); have hf3 := ((Upd.refl NoB w2).alloc (.cells #[Value.string (bs t)] 9)).fz hk2 hf2 (fun h => h); have hf4 := hupd3.fz hk3 hf3 (fun h => by have := (HRow.out.lt _ h).1; simp at this; omega)) | (go_simp; go_at_call 24; refine (HU.out _).mono ?_; rintro e w2 ⟨rfl, hu2⟩; have hk2 := hu2.cell (a := ⟨w.heap.size + 1 + 1, 2, none⟩) c2 (fun h => h); have hf2 := hu2.fz (a := ⟨w.heap.size + 1 + 1, 2, none⟩) c2 q2 (fun h => h); have hall : ∀ o, (w2.alloc o).cell? ⟨w.heap.size + 1 + 1, 2, none⟩ = some (.slice ya dk.length yc) := fun o => ((Upd.refl NoB w2).alloc o).cell hk2 (fun h => h)))
        all_goals
          have HR3 := Lib.hid hrow3
          have U3 : Upd (fun b => w.heap.size + 3 ≤ b) wr w3 := (((Upd.refl _ wr).drew.then_none hu2).alloc _).then hupd3 (fun b hb => .inl (HRow.out.lt b hb).1)
          have T3 := (T1.upd U3 (fun b h => h)).set2 (.slice (some ⟨g3, 0, none⟩) (dk.length + 1) cap3)
          clear hrow3 hupd3 hat3 hk3 hk4 hf3 hf4 hall hk2 hf2
          go_wp2_with fail
          go_roundg rn.length
          case measure => have := Hm.out; simp at this; omega
          case rel => exact ⟨dn ++ [q], rn, dk ++ [t], rk', _, rfl, by rw [List.length_append, List.length_singleton]; go_num, by rw [HPN.out, List.append_assoc]; rfl, by rw [HNK.out, Hk1.out, List.append_assoc]; rfl, HKR4.out, by rw [List.length_append, List.length_append, Hdl.out]; rfl, T3, HR3.out.upd ((Upd.refl _ _).setOne 2 _) (fun b hb hc => by have := (HR3.out.lt b hb).1; have : b = w.heap.size + 1 + 1 := hc; omega)⟩
  case rest =>
  clear T1
  obtain ⟨yv, T1, hys⟩ := hcut
  have HY := Lib.hid hys; clear hys
  go_upto_block 3 with (fail)
  go_cut [7] (fun v7 wx => ∃ dv, TW w.heap.size p (.slice na p.names.length nc) (.slice ka p.kids.length kc) p.kind n.text yv dv w wx ∧ RowS (w.heap.size + 3) wx yv n.keys ∧ RowL (w.heap.size + 3) (fun b => yv.ownBlock = some b) wx dv n.kids)
  case first =>
    go_wp2_with fail
    go_loopg [7] p.kids.length (fun m v7 wr => ∃ (dn rn : List Pl) (dk rk : List Nd) (dv : Value), m = rn.length ∧ v7 = .int .i64 (dn.length : Int) ∧ p.kids = dn ++ rn ∧ n.kids = dk ++ rk ∧ KidsAt s rn rk ∧ dk.length = dn.length ∧
      TW w.heap.size p (.slice na p.names.length nc) (.slice ka p.kids.length kc) p.kind n.text yv dv w wr ∧ RowS (w.heap.size + 3) wr yv n.keys ∧ RowL (w.heap.size + 3) (fun b => yv.ownBlock = some b) wr dv dk)
    case atStart => exact ⟨[], p.kids, [], n.kids, _, rfl, rfl, rfl, rfl, HK.out, rfl, T1, HY.out, RowL.nil _ _ _⟩
    case round =>
      clear T1
      obtain ⟨dn, rn, dk, rk, dv, hm, rfl, hpn, hnk, hkr, hdl, T1, hys, hrow⟩ := hrel
      have Hdl := Lib.hid hdl; clear hdl
      have Hm := Lib.hid hm; clear hm
      have HPN := Lib.hid hpn
      have HNK := Lib.hid hnk; clear hnk
      have HKR := Lib.hid hkr; clear hkr
      have HRow := Lib.hid hrow
      have HY := Lib.hid hys; clear hys
      obtain ⟨⟨p0, p1, p2, p3, p4⟩, p5⟩ := five_cells T1.b0
      clear p5
      obtain ⟨⟨c0, c1, c2, c3⟩, q0, q1, q2, q3⟩ := four_cells T1.b2
      cases rn with
      | nil =>
        have hlen : p.kids.length = dn.length := by rw [hpn]; simp
        have HE : Hid (dk = n.kids) := Lib.hid (by
          have h := HKR.out
          simp only [KidsAt] at h
          rw [HNK.out, h, List.append_nil])
        clear hpn
        go_wp2_with fail
        go_meet
        exact ⟨dv, T1, HY.out, by have := HRow.out; rw [HE.out] at this; exact this⟩
      | cons q rn =>
        have hlen : p.kids.length = dn.length + (rn.length + 1) := by rw [hpn]; simp
        have HLen := Lib.hid hlen
        obtain ⟨da, dc, rfl⟩ : ∃ a c, dv = .slice a dk.length c := hrow.len
        have hlt : (dn.length : Int) < (p.kids.length : Int) := by omega
        obtain ⟨m, rk', hk1, hta, hk4⟩ : ∃ n rest, rk = n :: rest ∧ TreeAt s q n ∧ KidsAt s rn rest := by
          have h := HKR.out
          simp only [KidsAt] at h
          exact h
        have hrdp := RdP.upd T1.up (fun _ _ h => h.elim) _ _ _ Hrd.out
        obtain ⟨hrn, hrk⟩ := RdP_mk.1 hrdp
        rw [hpn] at hrk
        obtain ⟨g, qnv, qkv, rfl, hcap, ⟨cb0, cb1, cb2, cb3, cb4⟩, hrq⟩ := hrk.at
        obtain ⟨qa, qc, qka, qkc, rfl, rfl⟩ := hrq.shape
        have hg : g < w.heap.size := by
          obtain ⟨xs, h1, _⟩ := (RdP_mk.1 Hrd.out).2
          exact (h1.lt g rfl).2
        have HT := Lib.hid (hta wr.drew _ _ _ (RdP.upd (Upd.refl NoB wr).drew (fun _ _ h => h.elim) _ _ _ hrq))
        have HKR4 := Lib.hid hk4
        have hcap' : (p.kids.length : Int) ≤ (kc : Int) := by rw [hpn]; omega
        have hdk : dk.length ≤ 1000000000 := by have := Hdl.out; omega
        have hgn : ¬ (g = w.heap.size + 1 + 1) := by omega
        have hgn' : ¬ (w.heap.size + 1 + 1 = g) := by omega
        have hBn : ¬ (w.heap.size = w.heap.size + 1 + 1) := by omega
        have hBn' : ¬ (w.heap.size + 1 + 1 = w.heap.size) := by omega
        have Hk1 := Lib.hid hk1
        have hsz1 := T1.sz
        clear hk1 hlen hpn hrn hrk hrdp hk4 hta hrq c0 c1 c2 p0 p1 p2 p3 q0 q1 q2 hrow
        have hd0 : (0 : Int) ≤ (dn.length : Int) := by omega
        go_wp2_with fail
        go_region_law (first | (refine step_app_node (by rfl) _ _ (by rfl) (w.heap.size + 3) (fun b => yv.ownBlock = some b) _ dk (by rfl) ((HRow.out.upd ((Upd.refl NoB wr).drew.trans hu2) (fun _ _ _ _ h => h)).upd ((Upd.refl NoB _).alloc _) (fun _ _ _ _ h => h)) m (.slice ya2 m.keys.length yc2) (.slice da2 m.kids.length dc2) (RdD.mono (fun b _ hb => ⟨Nat.le_trans hsz1 hb, fun hc => by have := (HRow.out.lt b hc).2; have hb' : wr.heap.size ≤ b := hb; omega, fun hc => by have := (HY.out.lt b hc).2; have hb' : wr.heap.size ≤ b := hb; omega⟩) _ _ _ (RdD.upd ((Upd.refl NoB w2).alloc (.cells #[.int .i64 (m.kind : Int), .string (bs m.text), .slice ya2 m.keys.length yc2, .slice da2 m.kids.length dc2] 25)) (fun _ _ h => h.elim) _ _ _ hrd2)) ⟨w2.heap.size, 0, none⟩ (by rfl) (cells_lit w2 [.int .i64 (m.kind : Int), .string (bs m.text), .slice ya2 m.keys.length yc2, .slice da2 m.kids.length dc2] _ _ rfl) (by omega) (by have h1 := hu2.size; simp; simp at h1; omega) (fun b hb => by have h0 := (HY.out.lt b hb).2; have h1 := hu2.size; simp; simp at h1; omega) ?_; intro g3 cap3 w3 hrow3 hupd3; have hk3 := (((Upd.refl NoB w2).alloc (.cells #[.int .i64 (m.kind : Int), .string (bs m.text), .slice ya2 m.keys.length yc2, .slice da2 m.kids.length dc2] 25)).cell hk2 (fun h => h)); have hk4 := hupd3.cell hk3 (fun h => by have := (HRow.out.lt _ h).1; simp at this; omega); have hf3 := ((Upd.refl NoB w2).alloc (.cells #[.int .i64 (m.kind : Int), .string (bs m.text), .slice ya2 m.keys.length yc2, .slice da2 m.kids.length dc2] 25)).fz hk2 hf2 (fun h => h); have hf4 := hupd3.fz hk3 hf3 (fun h => by have := (HRow.out.lt _ h).1; simp at this; omega)) | (go_simp; go_at_call 37; refine HT.out.mono ?_; rintro e w2 ⟨yv2, dv2, rfl, hu2, hrd2⟩; obtain ⟨ya2, yc2, da2, dc2, rfl, rfl⟩ := hrd2.shape; have hk2 := hu2.cell (a := ⟨w.heap.size + 1 + 1, 3, none⟩) c3 (fun h => h); have hf2 := hu2.fz (a := ⟨w.heap.size + 1 + 1, 3, none⟩) c3 q3 (fun h => h); have hall : ∀ o, (w2.alloc o).cell? ⟨w.heap.size + 1 + 1, 3, none⟩ = some (.slice da dk.length dc) := fun o => ((Upd.refl NoB w2).alloc o).cell hk2 (fun h => h)))
        all_goals
          have HR3 := Lib.hid hrow3
          have U3 : Upd (fun b => w.heap.size + 3 ≤ b) wr w3 := (((Upd.refl _ wr).drew.then_none hu2).alloc _).then hupd3 (fun b hb => .inl (HRow.out.lt b hb).1)
          have T3 := (T1.upd U3 (fun b h => h)).set3 (.slice (some ⟨g3, 0, none⟩) (dk.length + 1) cap3)
          have HY3 := Lib.hid ((HY.out.upd (((Upd.refl NoB wr).drew.trans hu2).alloc (.cells #[.int .i64 (m.kind : Int), .string (bs m.text), .slice ya2 m.keys.length yc2, .slice da2 m.kids.length dc2] 25)) (fun _ _ h => h)).upd hupd3 (fun b hb hc => HRow.out.out b hc hb))
          clear hrow3 hupd3 hk3 hk4 hf3 hf4 hall hk2 hf2 hrd2
          go_wp2_with fail
          go_roundg rn.length
          case measure => have := Hm.out; simp at this; omega
          case rel => exact ⟨dn ++ [q], rn, dk ++ [m], rk', _, rfl, by rw [List.length_append, List.length_singleton]; go_num, by rw [HPN.out, List.append_assoc]; rfl, by rw [HNK.out, Hk1.out, List.append_assoc]; rfl, HKR4.out, by rw [List.length_append, List.length_append, Hdl.out]; rfl, T3,
            HY3.out.upd ((Upd.refl _ _).setOne 3 _) (fun b hb hc => by have := (HY3.out.lt b hb).1; have : b = w.heap.size + 1 + 1 := hc; omega),
            HR3.out.upd ((Upd.refl _ _).setOne 3 _) (fun b hb _ _ hc => by have : b = w.heap.size + 1 + 1 := hc; omega)⟩
  case rest =>
  clear T1
  obtain ⟨dv, T1, hys, hrow⟩ := hcut
  obtain ⟨ya, yc, rfl⟩ : ∃ a c, yv = .slice a n.keys.length c := hys.read.len
  obtain ⟨da, dc, rfl⟩ : ∃ a c, dv = .slice a n.kids.length c := hrow.len
  obtain ⟨⟨c0, c1, c2, c3⟩, q0, q1, q2, q3⟩ := four_cells T1.b2
  obtain ⟨⟨p0, p1, p2, p3⟩, r0, r1, r2, r3⟩ := four_cells T1.b1
  have HYs := Lib.hid hys
  have HRow := Lib.hid hrow
  clear hys hrow
  go_wp2_with fail
  have U : Upd (OneB (w.heap.size + 1)) wc ((((wc.setCell ⟨w.heap.size + 1, 0, none⟩ (.int .i64 (p.kind : Int))).setCell ⟨w.heap.size + 1, 1, none⟩ (.string (bs n.text))).setCell ⟨w.heap.size + 1, 2, none⟩ (.slice ya n.keys.length yc)).setCell ⟨w.heap.size + 1, 3, none⟩ (.slice da n.kids.length dc)) :=
    ((((Upd.refl _ _).setOne 0 _).setOne 1 _).setOne 2 _).setOne 3 _
  refine bodyPost_ret (v := .agg #[.int .i64 (p.kind : Int), .string (bs n.text), .slice ya n.keys.length yc, .slice da n.kids.length dc]) (by simp [results, Tryz.results37, go_sem, p0, p1, p2, p3]) rfl ?_
  refine ⟨_, _, by rw [Hkind.out], T1.up.then U (fun b hb => .inr (by have : b = w.heap.size + 1 := hb; omega)), RdD_mk.2 ⟨?_, ?_⟩⟩
  · exact (HYs.out.upd U (fun b hb hc => by have := (HYs.out.lt b hb).1; have : b = w.heap.size + 1 := hc; omega)).read.mono (fun b _ hb => by omega)
  · exact (HRow.out.upd U (fun b hb _ _ hc => by have : b = w.heap.size + 1 := hc; omega)).read.mono (fun b _ hb => by omega)
end Go.Proofs.YtggdcpmampjncaaGreatDoor
