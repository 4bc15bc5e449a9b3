/- The reference's Same at one tree that lies in memory twice: it says yes. The law's gjIs at a result that is the value: it says yes. -/
import Derived.Test.YtggdcpmampjncaaGreatDoorSpec4
import Derived.Deep.RegionHeld3
import Derived.Test.YtggdcpmampjncaaGreatDoorVp
namespace Go.Proofs.YtggdcpmampjncaaGreatDoor
open Go.RowKit

theorem RdS.at {w : World} {F : Nat → Prop} {na : Option Addr} {nc : Nat} {ns : List (List UInt8)} {m : List UInt8} {rs : List (List UInt8)} (h : RdS w F (.slice na (ns ++ m :: rs).length nc) (ns ++ m :: rs)) :
    ∃ g, na = some ⟨g, 0, none⟩ ∧ (ns ++ m :: rs).length ≤ nc ∧ w.cell? ⟨g, ns.length, none⟩ = some (.string (bs m)) := by
  obtain ⟨h1, h2⟩ := h
  rcases h1.2 with ⟨_, h0⟩ | ⟨g, cap, cur, he, _, _, hc, _⟩
  · simp at h0
  · injection he with e1 e2 e3
    subst e1
    subst e3
    have hl : (ns ++ m :: rs).length = ns.length + (rs.length + 1) := by simp
    refine ⟨g, rfl, hc, ?_⟩
    rw [World.ownsRow.cellAt h1 ns.length (by omega)]
    simp
theorem kidD_get {w : World} {F : Nat → Prop} : ∀ (ks : List Nd) (q : Nd) (rs : List Nd) (xs : List Value), RdDs w F (ks ++ q :: rs) xs →
    ∃ nv kv, (xs[ks.length * 4]? = some (.int .i64 (q.kind : Int)) ∧ xs[ks.length * 4 + 1]? = some (.string (bs q.text)) ∧ xs[ks.length * 4 + 2]? = some nv ∧ xs[ks.length * 4 + 3]? = some kv) ∧ RdD w F q nv kv
  | [], q, rs, xs, h => by
    simp only [List.nil_append, RdDs] at h
    obtain ⟨nv, kv, r, rfl, h1, _⟩ := h
    exact ⟨nv, kv, by simp, h1⟩
  | k :: ks, q, rs, xs, h => by
    simp only [List.cons_append, RdDs] at h
    obtain ⟨nv', kv', r, rfl, _, h2⟩ := h
    obtain ⟨nv, kv, ⟨h3, h4, h5, h6⟩, h8⟩ := kidD_get ks q rs r h2
    have e : ∀ j, ([Value.int .i64 (k.kind : Int), .string (bs k.text), nv', kv'] ++ r)[(k :: ks).length * 4 + j]? = r[ks.length * 4 + j]? := fun j => by
      rw [List.getElem?_append_right (by simp; omega), List.length_cons]
      congr 1
      simp; omega
    refine ⟨nv, kv, ⟨?_, ?_, ?_, ?_⟩, h8⟩
    · exact (e 0).trans h3
    · exact (e 1).trans h4
    · exact (e 2).trans h5
    · exact (e 3).trans h6
theorem RdL.at {w : World} {F : Nat → Prop} {na : Option Addr} {nc : Nat} {ns : List Nd} {q : Nd} {rs : List Nd} (h : RdL w F (.slice na (ns ++ q :: rs).length nc) (ns ++ q :: rs)) :
    ∃ g nv kv, na = some ⟨g, 0, none⟩ ∧ (ns ++ q :: rs).length ≤ nc ∧ (w.cell? ⟨g, ns.length * 4, none⟩ = some (.int .i64 (q.kind : Int)) ∧ w.cell? ⟨g, ns.length * 4 + 1, none⟩ = some (.string (bs q.text)) ∧
      w.cell? ⟨g, ns.length * 4 + 2, none⟩ = some nv ∧ w.cell? ⟨g, ns.length * 4 + 3, none⟩ = some kv) ∧ RdD w F q nv kv := by
  obtain ⟨xs, h1, h2, h3⟩ := h
  rcases h1.2 with ⟨_, h0⟩ | ⟨g, cap, cur, he, _, _, hc, _⟩
  · simp at h0
  · injection he with e1 e2 e3
    subst e1
    subst e3
    have hl : (ns ++ q :: rs).length = ns.length + (rs.length + 1) := by simp
    obtain ⟨nv, kv, ⟨k0, k1, k2, k3⟩, k5⟩ := kidD_get ns q rs xs h3
    refine ⟨g, nv, kv, rfl, hc, ⟨?_, ?_, ?_, ?_⟩, k5⟩
    · rw [World.ownsRow.cellAt h1 (ns.length * 4) (by omega)]; exact k0
    · rw [World.ownsRow.cellAt h1 (ns.length * 4 + 1) (by omega)]; exact k1
    · rw [World.ownsRow.cellAt h1 (ns.length * 4 + 2) (by omega)]; exact k2
    · rw [World.ownsRow.cellAt h1 (ns.length * 4 + 3) (by omega)]; exact k3
theorem ownsRow_max {w : World} {base e size n : Nat} {v : Value} {xs : List Value} (h : w.ownsRow base e size v n xs) : n ≤ 9223372036854775807 := by
  rcases h.2 with ⟨_, h0⟩ | ⟨g, cap, cur, _, _, _, hc, hm, _⟩
  · omega
  · unfold maxLen at hm; omega
theorem RdD.max {w : World} {F : Nat → Prop} {n : Nd} {nv kv : Value} (h : RdD w F n nv kv) : n.keys.length ≤ 9223372036854775807 ∧ n.kids.length ≤ 9223372036854775807 := by
  obtain ⟨h1, xs, h2, _⟩ := RdD_mk.1 h
  exact ⟨ownsRow_max h1.1, ownsRow_max h2⟩

/-- Same at one tree, laid twice. -/
def SameAt (n : Nd) : Prop := ∀ (w : World) (F G : Nat → Prop) (nv kv nv' kv' : Value), RdD w F n nv kv → RdD w G n nv' kv' →
  Calls Tryz.prog 27 #[.agg #[.int .i64 (n.kind : Int), .string (bs n.text), nv, kv], .agg #[.int .i64 (n.kind : Int), .string (bs n.text), nv', kv']] w fun e w' => e = .returned (.bool true) ∧ Upd NoB w w'

/-- The two boxes of Same. -/
structure SW (B : Nat) (n : Nd) (nv kv nv' kv' : Value) (w0 w : World) : Prop where
  b0 : w.heap[B]? = some (.cells #[.int .i64 (n.kind : Int), .string (bs n.text), nv, kv] 25 (0, 0))
  b1 : w.heap[B + 1]? = some (.cells #[.int .i64 (n.kind : Int), .string (bs n.text), nv', kv'] 25 (0, 0))
  up : Upd NoB w0 w
theorem SW.upd {B : Nat} {n : Nd} {nv kv nv' kv' : Value} {w0 w w1 : World} (h : SW B n nv kv nv' kv' w0 w) (u : Upd NoB w w1) : SW B n nv kv nv' kv' w0 w1 :=
  ⟨u.blk h.b0 (fun h => h), u.blk h.b1 (fun h => h), h.up.trans u⟩

set_option maxHeartbeats 2000000 in
set_option maxRecDepth 4000 in
theorem same_of (n : Nd) (hK : ∀ q ∈ n.kids, SameAt q) : SameAt n := by
  intro w F G nv kv nv' kv' hr hr'
  obtain ⟨na, nc, ka, kc, rfl, rfl⟩ := hr.shape
  obtain ⟨na', nc', ka', kc', rfl, rfl⟩ := hr'.shape
  have hmx := hr.max
  have HR := Lib.hid hr; clear hr
  have HR' := Lib.hid hr'; clear hr'
  have HK := Lib.hid hK; clear hK
  go_enter Tryz.func27, Tryz.ntmps27
  go_upto_region 1 with (fail)
  have S0 : SW w.heap.size n (.slice na n.keys.length nc) (.slice ka n.kids.length kc) (.slice na' n.keys.length nc') (.slice ka' n.kids.length kc') w ((w.alloc (.cells #[.int .i64 (n.kind : Int), .string (bs n.text), .slice na n.keys.length nc, .slice ka n.kids.length kc] 25)).alloc (.cells #[.int .i64 (n.kind : Int), .string (bs n.text), .slice na' n.keys.length nc', .slice ka' n.kids.length kc'] 25)) := by
    refine ⟨?_, ?_, ((Upd.refl NoB w).alloc _).alloc _⟩
    · exact (Below.heap_alloc _ _ w.heap.size (by simp)).trans (heap_alloc_new w _)
    · have h := heap_alloc_new (w.alloc (.cells #[.int .i64 (n.kind : Int), .string (bs n.text), .slice na n.keys.length nc, .slice ka n.kids.length kc] 25)) (.cells #[.int .i64 (n.kind : Int), .string (bs n.text), .slice na' n.keys.length nc', .slice ka' n.kids.length kc'] 25)
      rw [World.size_alloc] at h
      exact h
  generalize ((w.alloc (.cells #[.int .i64 (n.kind : Int), .string (bs n.text), .slice na n.keys.length nc, .slice ka n.kids.length kc] 25)).alloc (.cells #[.int .i64 (n.kind : Int), .string (bs n.text), .slice na' n.keys.length nc', .slice ka' n.kids.length kc'] 25)) = w1 at *
  obtain ⟨⟨p0, p1, p2, p3⟩, _⟩ := four_cells S0.b0
  obtain ⟨⟨q0, q1, q2, q3⟩, _⟩ := four_cells S0.b1
  have HS := Lib.hid S0; clear S0
  go_wp2_with fail
  go_loopg [5] n.keys.length (fun m v5 wr => ∃ (dn rn : List (List UInt8)), m = rn.length ∧ v5 = .int .i64 (dn.length : Int) ∧ n.keys = dn ++ rn ∧ SW w.heap.size n (.slice na n.keys.length nc) (.slice ka n.kids.length kc) (.slice na' n.keys.length nc') (.slice ka' n.kids.length kc') w wr)
  case atStart => exact ⟨[], n.keys, rfl, rfl, rfl, HS.out⟩
  case round =>
    clear p0 p1 p2 p3 q0 q1 q2 q3
    obtain ⟨dn, rn, hm, rfl, hpn, T1⟩ := hrel
    have Hm := Lib.hid hm; clear hm
    have HPN := Lib.hid hpn
    obtain ⟨⟨p0, p1, p2, p3⟩, _⟩ := four_cells T1.b0
    obtain ⟨⟨q0, q1, q2, q3⟩, _⟩ := four_cells T1.b1
    cases rn with
    | nil =>
      have hnlt : ¬ (dn.length : Int) < (n.keys.length : Int) := by rw [hpn]; simp
      have HS1 := Lib.hid T1; clear T1
      clear hpn
      go_wp2_with fail
      go_loopg [6] n.kids.length (fun m v6 wr => ∃ (dk rk : List Nd), m = rk.length ∧ v6 = .int .i64 (dk.length : Int) ∧ n.kids = dk ++ rk ∧ SW w.heap.size n (.slice na n.keys.length nc) (.slice ka n.kids.length kc) (.slice na' n.keys.length nc') (.slice ka' n.kids.length kc') w wr)
      case atStart => exact ⟨[], n.kids, rfl, rfl, rfl, HS1.out⟩
      case round =>
        clear p0 p1 p2 p3 q0 q1 q2 q3
        obtain ⟨dk, rk, hm, rfl, hpk, T1⟩ := hrel
        have Hm := Lib.hid hm; clear hm
        have HPK := Lib.hid hpk
        obtain ⟨⟨p0, p1, p2, p3⟩, _⟩ := four_cells T1.b0
        obtain ⟨⟨q0, q1, q2, q3⟩, _⟩ := four_cells T1.b1
        cases rk with
        | nil =>
          have hnlt2 : ¬ (dk.length : Int) < (n.kids.length : Int) := by rw [hpk]; simp
          have HS2 := Lib.hid T1; clear T1
          clear hpk
          go_wp2_with fail
          go_ret
          exact ⟨rfl, HS2.out.up⟩
        | cons q rk =>
          have hlen2 : n.kids.length = dk.length + (rk.length + 1) := by rw [hpk]; simp
          have hlt : (dk.length : Int) < (n.kids.length : Int) := by omega
          have hq := HK.out q (by rw [hpk]; exact List.mem_append_right _ (List.mem_cons_self ..))
          have r1 := (RdD_mk.1 (RdD.upd T1.up (fun _ _ h => h) _ _ _ HR.out)).2
          have r2 := (RdD_mk.1 (RdD.upd T1.up (fun _ _ h => h) _ _ _ HR'.out)).2
          rw [hpk] at r1 r2
          obtain ⟨g, qn, qk, rfl, hc1, ⟨c0, c1, c2, c3⟩, hd1⟩ := r1.at
          obtain ⟨g', qn', qk', rfl, hc2, ⟨d0, d1, d2, d3⟩, hd2⟩ := r2.at
          obtain ⟨qna, qnc, qka, qkc, rfl, rfl⟩ := hd1.shape
          obtain ⟨qna', qnc', qka', qkc', rfl, rfl⟩ := hd2.shape
          have HC := Lib.hid (hq wr.drew F G _ _ _ _ (RdD.upd (Upd.refl NoB wr).drew (fun _ _ h => h) _ _ _ hd1) (RdD.upd (Upd.refl NoB wr).drew (fun _ _ h => h) _ _ _ hd2))
          have hk1 : (n.kids.length : Int) ≤ (kc : Int) := by rw [hpk]; omega
          have hk2 : (n.kids.length : Int) ≤ (kc' : Int) := by rw [hpk]; omega
          have HS2 := Lib.hid T1; clear T1
          have hd0 : (0 : Int) ≤ (dk.length : Int) := by omega
          clear hq hpk r1 r2 hd1 hd2 hc1 hc2 hlen2
          go_wp2_with fail
          go_region_held3 (fun w' => w'.cell? ⟨w.heap.size, 3, none⟩ = some (.slice (some ⟨g, 0, none⟩) n.kids.length kc) ∧ w'.cell? ⟨w.heap.size + 1, 3, none⟩ = some (.slice (some ⟨g', 0, none⟩) n.kids.length kc') ∧ w'.cell? ⟨g, dk.length * 4, none⟩ = some (.int .i64 (q.kind : Int)) ∧ w'.cell? ⟨g, dk.length * 4 + 1, none⟩ = some (.string (bs q.text)) ∧ w'.cell? ⟨g, dk.length * 4 + 2, none⟩ = some (.slice qna q.keys.length qnc) ∧ w'.cell? ⟨g, dk.length * 4 + 3, none⟩ = some (.slice qka q.kids.length qkc) ∧ w'.cell? ⟨g', dk.length * 4, none⟩ = some (.int .i64 (q.kind : Int)) ∧ w'.cell? ⟨g', dk.length * 4 + 1, none⟩ = some (.string (bs q.text)) ∧ w'.cell? ⟨g', dk.length * 4 + 2, none⟩ = some (.slice qna' q.keys.length qnc') ∧ w'.cell? ⟨g', dk.length * 4 + 3, none⟩ = some (.slice qka' q.kids.length qkc'))
            (first | (go_keep; done) | (go_split_ands; exact ⟨hu5.cell (by assumption) (fun h => h), hu5.cell (by assumption) (fun h => h), hu5.cell (by assumption) (fun h => h), hu5.cell (by assumption) (fun h => h), hu5.cell (by assumption) (fun h => h), hu5.cell (by assumption) (fun h => h), hu5.cell (by assumption) (fun h => h), hu5.cell (by assumption) (fun h => h), hu5.cell (by assumption) (fun h => h), hu5.cell (by assumption) (fun h => h)⟩)) (first | (go_at_call 27; refine HC.out.mono ?_; rintro e w5 ⟨rfl, hu5⟩))
          all_goals
            have T3 := Lib.hid (HS2.out.upd ((Upd.refl NoB wr).drew.trans hu5))
            clear hu5
            go_wp2_with fail
            go_roundg rk.length
            case measure => have := Hm.out; simp at this; omega
            case rel => exact ⟨dk ++ [q], rk, rfl, by rw [List.length_append, List.length_singleton]; go_num, by rw [HPK.out, List.append_assoc]; rfl, T3.out⟩
    | cons q rn =>
      have hlen : n.keys.length = dn.length + (rn.length + 1) := by rw [hpn]; simp
      have hlt : (dn.length : Int) < (n.keys.length : Int) := by omega
      have r1 := (RdD_mk.1 (RdD.upd T1.up (fun _ _ h => h) _ _ _ HR.out)).1
      have r2 := (RdD_mk.1 (RdD.upd T1.up (fun _ _ h => h) _ _ _ HR'.out)).1
      rw [hpn] at r1 r2
      obtain ⟨g, rfl, hc1, c0⟩ := r1.at
      obtain ⟨g', rfl, hc2, d0⟩ := r2.at
      have hk1 : (n.keys.length : Int) ≤ (nc : Int) := by rw [hpn]; omega
      have hk2 : (n.keys.length : Int) ≤ (nc' : Int) := by rw [hpn]; omega
      have HS2 := Lib.hid T1; clear T1
      have hd0 : (0 : Int) ≤ (dn.length : Int) := by omega
      clear hpn r1 r2 hc1 hc2 hlen
      go_wp2_with fail
      go_region_held3 (fun w' => w'.cell? ⟨w.heap.size, 2, none⟩ = some (.slice (some ⟨g, 0, none⟩) n.keys.length nc) ∧ w'.cell? ⟨w.heap.size + 1, 2, none⟩ = some (.slice (some ⟨g', 0, none⟩) n.keys.length nc') ∧ w'.cell? ⟨g, dn.length, none⟩ = some (.string (bs q)) ∧ w'.cell? ⟨g', dn.length, none⟩ = some (.string (bs q))) (first | (go_keep; done)) (fail)
      all_goals
        have T3 := Lib.hid (HS2.out.upd (Upd.refl NoB wr).drew)
        go_wp2_with fail
        go_roundg rn.length
        case measure => have := Hm.out; simp at this; omega
        case rel => exact ⟨dn ++ [q], rn, rfl, by rw [List.length_append, List.length_singleton]; go_num, by rw [HPN.out, List.append_assoc]; rfl, T3.out⟩

mutual
theorem same_all : ∀ (n : Nd), SameAt n
  | .mk k t ns ks => same_of (.mk k t ns ks) (same_kids ks)
theorem same_kids : ∀ (ks : List Nd), ∀ q ∈ ks, SameAt q
  | [], q, h => by simp at h
  | k :: ks, q, h => by
    rcases List.mem_cons.1 h with e | h
    · rw [e]; exact same_all k
    · exact same_kids ks q h
end
end Go.Proofs.YtggdcpmampjncaaGreatDoor
namespace Go.Proofs.YtggdcpmampjncaaGreatDoor
open Go.RowKit

set_option maxHeartbeats 8000000 in
set_option maxRecDepth 8000 in
theorem gjIs_any (r : Rs) (n : Nd) (F : Nat → Prop) (yv dv : Value) (w : World) (hv : IsV r n) (hrd : RdD w F n yv dv) :
    Calls Tryz.prog 11 #[.agg #[.int .i64 (r.ty : Int), .string r.raw, .string r.st, .float .f64 r.f, .bool true], .agg #[.int .i64 (n.kind : Int), .string (bs n.text), yv, dv]] w fun e w' => e = .returned (.bool true) ∧ Upd NoB w w' := by
  obtain ⟨ty, raw, st, f, ix⟩ := r
  have HRead := Lib.hid (fun wx => Read_any raw wx (Nat.le_trans hv.2.1 (by decide)) hv.read)
  obtain ⟨h1, h2, ⟨p, hp1, hp2⟩, h4⟩ := hv
  dsimp only at h1 h2 hp1 hp2 h4
  subst h1
  have hk6 : n.kind ≤ 6 := by
    obtain ⟨_, _, _, h, _⟩ := hp1
    rw [hp2.kind]
    exact PVal.kind_le h
  have HK := Lib.hid (fun wx => gjKind_any n.kind wx hk6)
  have HP : Hid (PText raw p ∧ TreeR raw p n) := Lib.hid ⟨hp1, hp2⟩
  have HSt := Lib.hid h4
  have HSm := Lib.hid (same_all n)
  have HRd := Lib.hid hrd
  obtain ⟨ya, yc, da, dc, rfl, rfl⟩ := hrd.shape
  clear hp1 hp2 h4 h2 hk6 hrd
  go_enter Tryz.func11, Tryz.ntmps11
  go_upto_region 1 with (fail)
  have hb0 : ((w.alloc (.cells #[.int .i64 (kindOf n.kind : Int), .string raw, .string st, .float .f64 f, .bool true] 38)).alloc (.cells #[.int .i64 (n.kind : Int), .string (bs n.text), .slice ya n.keys.length yc, .slice da n.kids.length dc] 25)).heap[w.heap.size]? = some (.cells #[.int .i64 (kindOf n.kind : Int), .string raw, .string st, .float .f64 f, .bool true] 38 (0, 0)) :=
    (Below.heap_alloc _ _ w.heap.size (by simp)).trans (heap_alloc_new w _)
  have hb1 := heap_alloc_new (w.alloc (.cells #[.int .i64 (kindOf n.kind : Int), .string raw, .string st, .float .f64 f, .bool true] 38)) (.cells #[.int .i64 (n.kind : Int), .string (bs n.text), .slice ya n.keys.length yc, .slice da n.kids.length dc] 25)
  rw [World.size_alloc] at hb1
  have HU := Lib.hid (((Upd.refl NoB w).alloc (.cells #[.int .i64 (kindOf n.kind : Int), .string raw, .string st, .float .f64 f, .bool true] 38)).alloc (.cells #[.int .i64 (n.kind : Int), .string (bs n.text), .slice ya n.keys.length yc, .slice da n.kids.length dc] 25))
  generalize ((w.alloc (.cells #[.int .i64 (kindOf n.kind : Int), .string raw, .string st, .float .f64 f, .bool true] 38)).alloc (.cells #[.int .i64 (n.kind : Int), .string (bs n.text), .slice ya n.keys.length yc, .slice da n.kids.length dc] 25)) = w1 at hb0 hb1 HU ⊢
  have HB0 := Lib.hid hb0
  have HB1 := Lib.hid hb1
  obtain ⟨⟨p0, p1, p2, p3, p4⟩, _⟩ := cells5 hb0
  clear hb0 hb1
  go_wp2_with fail
  refine (HRead.out _).mono ?_
  rintro e w2 ⟨b, m, yv', dv', rfl, hu2, hrd2, ht, hf⟩
  obtain rfl : b = true := by
    cases b
    · exact absurd HP.out.1 (hf rfl p)
    · rfl
  obtain ⟨q, hq1, hq2⟩ := ht rfl
  obtain rfl : q = p := PText.uniq hq1 HP.out.1
  obtain rfl : m = n := TreeR.uniq _ _ _ hq2 HP.out.2
  obtain ⟨ya', yc', da', dc', rfl, rfl⟩ := hrd2.shape
  have hd3 := RdD.upd ((Upd.refl NoB w2).alloc (.cells #[.int .i64 (m.kind : Int), .string (bs m.text), .slice ya' m.keys.length yc', .slice da' m.kids.length dc'] 25)) (fun _ _ h => h) _ _ _ hrd2
  have hu3 := hu2.alloc (.cells #[.int .i64 (m.kind : Int), .string (bs m.text), .slice ya' m.keys.length yc', .slice da' m.kids.length dc'] 25)
  have hb3 := heap_alloc_new w2 (.cells #[.int .i64 (m.kind : Int), .string (bs m.text), .slice ya' m.keys.length yc', .slice da' m.kids.length dc'] 25)
  have HC := Lib.hid (HSm.out _ _ F _ _ _ _ (RdD.upd (Upd.refl NoB (w2.alloc (.cells #[.int .i64 (m.kind : Int), .string (bs m.text), .slice ya' m.keys.length yc', .slice da' m.kids.length dc'] 25))).drew (fun _ _ h => h) _ _ _ hd3) (RdD.upd (HU.out.trans hu3).drew (fun _ _ h => h) _ _ _ HRd.out))
  clear hq1 hq2 ht hf hrd2 hd3 hu2 p0 p1 p2 p3 p4
  obtain ⟨⟨p0, p1, p2, p3, p4⟩, _⟩ := cells5 (hu3.blk HB0.out (fun h => h))
  obtain ⟨⟨q0, q1, q2, q3⟩, _⟩ := four_cells (hu3.blk HB1.out (fun h => h))
  obtain ⟨⟨c0, c1, c2, c3⟩, _⟩ := four_cells hb3
  have HU3 := Lib.hid (HU.out.trans hu3)
  clear hu3 hb3
  go_wp2_with fail
  go_region_held3 (fun w' => w'.cell? ⟨w.heap.size, 0, none⟩ = some (.int .i64 (kindOf m.kind : Int)) ∧ w'.cell? ⟨w.heap.size, 2, none⟩ = some (.string st) ∧ w'.cell? ⟨w.heap.size, 4, none⟩ = some (.bool true) ∧ w'.cell? ⟨w.heap.size + 1, 0, none⟩ = some (.int .i64 (m.kind : Int)) ∧ w'.cell? ⟨w.heap.size + 1, 1, none⟩ = some (.string (bs m.text)) ∧ w'.cell? ⟨w.heap.size + 1, 2, none⟩ = some (.slice ya m.keys.length yc) ∧ w'.cell? ⟨w.heap.size + 1, 3, none⟩ = some (.slice da m.kids.length dc) ∧ w'.cell? ⟨w2.heap.size, 0, none⟩ = some (.int .i64 (m.kind : Int)) ∧ w'.cell? ⟨w2.heap.size, 1, none⟩ = some (.string (bs m.text)) ∧ w'.cell? ⟨w2.heap.size, 2, none⟩ = some (.slice ya' m.keys.length yc') ∧ w'.cell? ⟨w2.heap.size, 3, none⟩ = some (.slice da' m.kids.length dc'))
    (first | (go_keep; done) | (go_split_ands; exact ⟨hu5.cell (by assumption) (fun h => h), hu5.cell (by assumption) (fun h => h), hu5.cell (by assumption) (fun h => h), hu5.cell (by assumption) (fun h => h), hu5.cell (by assumption) (fun h => h), hu5.cell (by assumption) (fun h => h), hu5.cell (by assumption) (fun h => h), hu5.cell (by assumption) (fun h => h), hu5.cell (by assumption) (fun h => h), hu5.cell (by assumption) (fun h => h), hu5.cell (by assumption) (fun h => h)⟩))
    (first | (go_at_call 23; refine (HK.out _).mono ?_; rintro e w4 ⟨rfl, rfl⟩) | (go_at_call 27; refine HC.out.mono ?_; rintro e w5 ⟨rfl, hu5⟩))
  all_goals
    have HU5 := Lib.hid (HU3.out.drew.trans hu5)
    clear hu5
    by_cases c4 : m.kind = 4
    · have e4 : ((m.kind : Int) != 4) = false := by rw [c4]; rfl
      obtain rfl := HSt.out c4
      clear c4
      go_wp2_with fail
      go_ret
      exact ⟨rfl, HU5.out⟩
    · have e4 : ((m.kind : Int) != 4) = true := by simp; omega
      clear c4
      go_wp2_with fail
      go_ret
      exact ⟨rfl, HU5.out⟩
end Go.Proofs.YtggdcpmampjncaaGreatDoor
