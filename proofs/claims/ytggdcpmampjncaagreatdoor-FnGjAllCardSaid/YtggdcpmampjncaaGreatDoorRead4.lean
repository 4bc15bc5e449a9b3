/- The reference's Places: the places of a text, and what it says when it says yes. -/
import Derived.Test.YtggdcpmampjncaaGreatDoorRead3
namespace Go.Proofs.YtggdcpmampjncaaGreatDoor
open Go.RowKit

theorem val_all (g : Nat) (s : ByteArray) (hs : s.size ≤ 1099511627776) : ∀ n i, i ≤ s.size → s.size - i ≤ n → ValAt g s i := by
  intro n
  induction n with
  | zero =>
    intro i hi hn
    have : bAt s i = 0 := by simp [bAt, show ¬ i < s.size by omega]
    exact val_word g s i hs hi (by omega) (by omega) (by omega) (by omega) (by omega)
  | succ n ih =>
    intro i hi hn
    by_cases hlt : i < s.size
    · have hV : ∀ j, i < j → j ≤ s.size → ValAt g s j := fun j h1 h2 => ih j h2 (by omega)
      by_cases h1 : bAt s i = 123
      · exact val_obj g s i hs hlt (mems_of g s i hs hlt hV) h1
      by_cases h2 : bAt s i = 91
      · exact val_arr g s i hs hlt (els_of g s i hs hlt hV) h2
      by_cases h3 : bAt s i = 34
      · exact val_str g s i hs hlt h3
      by_cases h4 : bAt s i = 45
      · exact val_neg g s i hs hlt h4
      by_cases h5 : 48 ≤ bAt s i ∧ bAt s i ≤ 57
      · exact val_dig g s i hs hlt h5
      exact val_word g s i hs hi h1 h2 h3 h4 h5
    · have : bAt s i = 0 := by simp [bAt, hlt]
      exact val_word g s i hs hi (by omega) (by omega) (by omega) (by omega) (by omega)
theorem val_any (g : Nat) (s : ByteArray) (i : Nat) (hs : s.size ≤ 1099511627776) (hi : i ≤ s.size) : ValAt g s i := val_all g s hs _ i hi (Nat.le_refl _)

/-- A value of the type Place. -/
def plV (p : Pl) (nv kv : Value) : Value := .agg #[.int .i64 (p.kind : Int), .int .i64 (p.b : Int), .int .i64 (p.e : Int), nv, kv]

/-- What Places returns. -/
def PlaRet (s : ByteArray) (w : World) (e : Ending) (w' : World) : Prop :=
  ∃ b p nv kv, e = .returned (.tuple #[.agg #[.int .i64 (p.kind : Int), .int .i64 (p.b : Int), .int .i64 (p.e : Int), nv, kv], .bool b]) ∧ Upd NoB w w' ∧ RdP w' (fun k => w.heap.size ≤ k) p nv kv ∧ (b = true → PText s p) ∧ (b = false → ∀ q, ¬ PText s q)
theorem text_no_val {s : ByteArray} {c : Nat} (hm : BlsM s 0 c) (h : ∀ q, PVal s q → q.b ≠ c) : ∀ q, ¬ PText s q := by
  rintro q ⟨a, h1, h2, h3, _⟩
  have e : a = c := h1.uniq hm.1 (by rw [← h2]; exact h3.notBl) hm.2
  exact h q h3 (h2.trans e)
theorem text_no_end {s : ByteArray} {c d : Nat} (hm : BlsM s 0 c) {p : Pl} (hp : PVal s p) (hb : p.b = c) (hd : BlsM s p.e d) (hne : d ≠ s.size) : ∀ q, ¬ PText s q := by
  rintro q ⟨a, h1, h2, h3, _, h5⟩
  have e : a = c := h1.uniq hm.1 (by rw [← h2]; exact h3.notBl) hm.2
  obtain rfl := PVal.uniq p q hp h3 (hb.trans (h2.trans e).symm)
  exact hne (hd.1.uniq h5 hd.2 (by simp [bAt, isBl]))

set_option maxHeartbeats 1000000 in
theorem Places_any (s : ByteArray) (w : World) (hs : s.size ≤ 1099511627776) :
    Calls Tryz.prog 7 #[.string s] w (PlaRet s w) := by
  have hs' : s.size ≤ maxLen := by unfold maxLen; omega
  go_enter Tryz.func7, Tryz.ntmps7
  go_wp2_with fail
  have hr0 : RS 50 (w.heap.size + 1) s 0 ((w.alloc (.cells #[.int .i64 0, .int .i64 0, .int .i64 0, .slice none 0 0, .slice none 0 0] 31)).alloc (.cells #[.string s, .int .i64 0] 50)) := ⟨by
    have := heap_alloc_new (w.alloc (.cells #[.int .i64 0, .int .i64 0, .int .i64 0, .slice none 0 0, .slice none 0 0] 31)) (.cells #[.string s, .int .i64 0] 50)
    rw [World.size_alloc] at this
    exact this⟩
  have hb0 : ((w.alloc (.cells #[.int .i64 0, .int .i64 0, .int .i64 0, .slice none 0 0, .slice none 0 0] 31)).alloc (.cells #[.string s, .int .i64 0] 50)).heap[w.heap.size]? = some (.cells #[.int .i64 0, .int .i64 0, .int .i64 0, .slice none 0 0, .slice none 0 0] 31 (0, 0)) :=
    (Below.heap_alloc _ _ w.heap.size (by simp)).trans (heap_alloc_new w _)
  have hU0 : Upd NoB w ((w.alloc (.cells #[.int .i64 0, .int .i64 0, .int .i64 0, .slice none 0 0, .slice none 0 0] 31)).alloc (.cells #[.string s, .int .i64 0] 50)) := ((Upd.refl _ _).alloc _).alloc _
  refine (blanks_any (w.heap.size + 1) s 0 _ hs' hr0 (Nat.zero_le _)).mono ?_
  rintro e w1 ⟨rfl, c, hic, hcs, hr1, hu1, hb1, hz1'⟩
  have HM1 := Lib.hid (BlsM.mk' hic hcs hb1 hz1')
  have Hb1 := Lib.hid (Bls.of_blanks hic hcs hb1)
  have hz1 : w1.heap[w.heap.size]? = some (.cells #[.int .i64 0, .int .i64 0, .int .i64 0, .slice none 0 0, .slice none 0 0] 31 (0, 0)) := hu1.blk hb0 (fun hc => by have : w.heap.size = w.heap.size + 1 := hc; omega)
  have hU1 : Upd NoB w w1 := hU0.then hu1 (fun b hb => .inr (by have : b = w.heap.size + 1 := hb; omega))
  clear hb1 hu1 hr0 hb0 hU0 hz1'
  go_wp2_with fail
  refine (val_any (w.heap.size + 1) s c hs hcs w1 hr1).mono ?_
  rintro e w2 ⟨b2, p, nv, kv, j2, rfl, hr2, hu2, hj2, hj2s, hrp, hv2, hnv2⟩
  have hz2 : w2.heap[w.heap.size]? = some (.cells #[.int .i64 0, .int .i64 0, .int .i64 0, .slice none 0 0, .slice none 0 0] 31 (0, 0)) := hu2.blk hz1 (fun hc => by have : w.heap.size = w.heap.size + 1 := hc; omega)
  have hU2 : Upd NoB w w2 := hU1.then hu2 (fun b hb => .inr (by have : b = w.heap.size + 1 := hb; omega))
  obtain ⟨na, nc, ka, kc, rfl, rfl⟩ := hrp.shape
  have Hrp := Lib.hid hrp; clear hrp
  have hs2 : w.heap.size + 2 ≤ w2.heap.size := by have := (Array.getElem?_eq_some_iff.1 hr2.blk).1; omega
  have hs12 : w.heap.size + 2 ≤ w1.heap.size := by have := (Array.getElem?_eq_some_iff.1 hr1.blk).1; omega
  have hz3 : (w2.alloc (Obj.cells #[.int .i64 (p.kind : Int), .int .i64 (p.b : Int), .int .i64 (p.e : Int), .slice na p.names.length nc, .slice ka p.kids.length kc] 31)).heap[w.heap.size]? = some (.cells #[.int .i64 0, .int .i64 0, .int .i64 0, .slice none 0 0, .slice none 0 0] 31 (0, 0)) := (Below.heap_alloc _ _ w.heap.size (by omega)).trans hz2
  have hU3 : Upd NoB w (w2.alloc (Obj.cells #[.int .i64 (p.kind : Int), .int .i64 (p.b : Int), .int .i64 (p.e : Int), .slice na p.names.length nc, .slice ka p.kids.length kc] 31)) := hU2.alloc _
  have hr3 : RS 50 (w.heap.size + 1) s j2 (w2.alloc (Obj.cells #[.int .i64 (p.kind : Int), .int .i64 (p.b : Int), .int .i64 (p.e : Int), .slice na p.names.length nc, .slice ka p.kids.length kc] 31)) := hr2.upd ((Upd.refl NoB _).alloc _) (fun h => h)
  have hp3 : (w2.alloc (Obj.cells #[.int .i64 (p.kind : Int), .int .i64 (p.b : Int), .int .i64 (p.e : Int), .slice na p.names.length nc, .slice ka p.kids.length kc] 31)).heap[w2.heap.size]? = some (.cells #[.int .i64 (p.kind : Int), .int .i64 (p.b : Int), .int .i64 (p.e : Int), .slice na p.names.length nc, .slice ka p.kids.length kc] 31 (0, 0)) := heap_alloc_new _ _
  have hs3 : (w2.alloc (Obj.cells #[.int .i64 (p.kind : Int), .int .i64 (p.b : Int), .int .i64 (p.e : Int), .slice na p.names.length nc, .slice ka p.kids.length kc] 31)).heap.size = w2.heap.size + 1 := World.size_alloc _ _
  have Hrp3 := Lib.hid (RdP.mono (F' := fun b => w.heap.size + 2 ≤ b) (fun b _ hb => by omega) _ _ _ (RdP.upd ((Upd.refl NoB w2).alloc (Obj.cells #[.int .i64 (p.kind : Int), .int .i64 (p.b : Int), .int .i64 (p.e : Int), .slice na p.names.length nc, .slice ka p.kids.length kc] 31)) (fun b _ hc => hc.elim) _ _ _ Hrp.out))
  obtain ⟨⟨r0, r1, r2, r3, r4⟩, t0, t1, t2, t3, t4⟩ := five_cells hz3
  have HZ := Lib.hid hs3; clear hs3
  have HZ3 := Lib.hid hz3; clear hz3
  have HP3 := Lib.hid hp3; clear hp3
  have HZ2 := Lib.hid hz2; clear hz2 hz1
  cases b2
  · have Hn := Lib.hid (text_no_val HM1.out (hnv2 rfl))
    clear hv2 hnv2
    go_wp2_with fail
    have U : Upd (OneB w.heap.size) (w2.alloc (Obj.cells #[.int .i64 (p.kind : Int), .int .i64 (p.b : Int), .int .i64 (p.e : Int), .slice na p.names.length nc, .slice ka p.kids.length kc] 31)) ((((((w2.alloc (Obj.cells #[.int .i64 (p.kind : Int), .int .i64 (p.b : Int), .int .i64 (p.e : Int), .slice na p.names.length nc, .slice ka p.kids.length kc] 31)).setCell ⟨w.heap.size, 0, none⟩ (.int .i64 0)).setCell ⟨w.heap.size, 1, none⟩ (.int .i64 0)).setCell ⟨w.heap.size, 2, none⟩ (.int .i64 0)).setCell ⟨w.heap.size, 3, none⟩ (.slice none 0 0)).setCell ⟨w.heap.size, 4, none⟩ (.slice none 0 0)) := (((((Upd.refl _ _).setOne 0 _).setOne 1 _).setOne 2 _).setOne 3 _).setOne 4 _
    refine bodyPost_ret (v := .tuple #[.agg #[.int .i64 0, .int .i64 0, .int .i64 0, .slice none 0 0, .slice none 0 0], .bool false]) (by simp [results, Tryz.results7, go_sem, r0, r1, r2, r3, r4]) rfl ?_
    exact ⟨false, .mk 0 0 0 [] [], _, _, rfl, hU3.then U (fun b hb => .inr (Nat.le_of_eq hb.symm)), RdP_leaf _ _ _ _ _, (fun h => by cases h), fun _ => Hn.out⟩
  · have Hv := Lib.hid (hv2 rfl); clear hv2 hnv2
    go_wp2_with fail
    refine (blanks_any (w.heap.size + 1) s j2 _ hs' hr3 hj2s).mono ?_
    rintro e w4 ⟨rfl, c4, hic4, hcs4, hr4, hu4, hb4, hz4'⟩
    have HM4 := Lib.hid (BlsM.mk' hic4 hcs4 hb4 hz4')
    have Hb4 := Lib.hid (Bls.of_blanks hic4 hcs4 hb4)
    have hz4 := five_cells (hu4.blk HZ3.out (fun hc => by have : w.heap.size = w.heap.size + 1 := hc; omega))
    have hp4 := five_cells (hu4.blk HP3.out (fun hc => by have : w2.heap.size = w.heap.size + 1 := hc; omega))
    have hU4 : Upd NoB w w4 := hU3.then hu4 (fun b hb => .inr (by have : b = w.heap.size + 1 := hb; omega))
    have Hrp4 := Lib.hid (RdP.upd hu4 (fun b hb hc => by have : b = w.heap.size + 1 := hc; omega) _ _ _ Hrp3.out)
    have hd0 := hr4.c0
    have hd1 := hr4.c1
    clear hb4 hz4' hu4 r0 r1 r2 r3 r4 t0 t1 t2 t3 t4
    obtain ⟨⟨r0, r1, r2, r3, r4⟩, t0, t1, t2, t3, t4⟩ := hz4
    obtain ⟨⟨p0, p1, p2, p3, p4⟩, _⟩ := hp4
    by_cases hend : ((c4 : Int) != (s.size : Int)) = true
    · have Hn := Lib.hid (text_no_end HM1.out Hv.out.2.1 Hv.out.2.2.1 (by rw [Hv.out.2.2.2]; exact HM4.out) (by simp at hend; omega))
      go_wp2_with fail
      have U : Upd (OneB w.heap.size) w4 (((((w4.setCell ⟨w.heap.size, 0, none⟩ (.int .i64 0)).setCell ⟨w.heap.size, 1, none⟩ (.int .i64 0)).setCell ⟨w.heap.size, 2, none⟩ (.int .i64 0)).setCell ⟨w.heap.size, 3, none⟩ (.slice none 0 0)).setCell ⟨w.heap.size, 4, none⟩ (.slice none 0 0)) := (((((Upd.refl _ _).setOne 0 _).setOne 1 _).setOne 2 _).setOne 3 _).setOne 4 _
      refine bodyPost_ret (v := .tuple #[.agg #[.int .i64 0, .int .i64 0, .int .i64 0, .slice none 0 0, .slice none 0 0], .bool false]) (by simp [results, Tryz.results7, go_sem, r0, r1, r2, r3, r4]) rfl ?_
      exact ⟨false, .mk 0 0 0 [] [], _, _, rfl, hU4.then U (fun b hb => .inr (Nat.le_of_eq hb.symm)), RdP_leaf _ _ _ _ _, (fun h => by cases h), fun _ => Hn.out⟩
    · have hend' : ((c4 : Int) != (s.size : Int)) = false := by simpa using hend
      have He : Hid (c4 = s.size) := Lib.hid (by simp at hend'; omega)
      clear hend
      go_wp2_with fail
      have U : Upd (OneB w.heap.size) w4 (((((w4.setCell ⟨w.heap.size, 0, none⟩ (.int .i64 (p.kind : Int))).setCell ⟨w.heap.size, 1, none⟩ (.int .i64 (p.b : Int))).setCell ⟨w.heap.size, 2, none⟩ (.int .i64 (p.e : Int))).setCell ⟨w.heap.size, 3, none⟩ (.slice na p.names.length nc)).setCell ⟨w.heap.size, 4, none⟩ (.slice ka p.kids.length kc)) := (((((Upd.refl _ _).setOne 0 _).setOne 1 _).setOne 2 _).setOne 3 _).setOne 4 _
      refine bodyPost_ret (v := .tuple #[.agg #[.int .i64 (p.kind : Int), .int .i64 (p.b : Int), .int .i64 (p.e : Int), .slice na p.names.length nc, .slice ka p.kids.length kc], .bool true]) (by simp [results, Tryz.results7, go_sem, r0, r1, r2, r3, r4]) rfl ?_
      exact ⟨true, p, _, _, rfl, hU4.then U (fun b hb => .inr (Nat.le_of_eq hb.symm)), RdP.mono (fun b _ hb => by omega) _ _ _ (RdP.upd U (fun b hb hc => by have : b = w.heap.size := hc; omega) _ _ _ Hrp4.out), (fun _ => ⟨c, Hb1.out, Hv.out.2.2.1, Hv.out.2.1, by rw [Hv.out.2.2.2]; exact hj2s, by rw [Hv.out.2.2.2]; have := Hb4.out; rw [He.out] at this; exact this⟩), (fun h => by cases h)⟩
end Go.Proofs.YtggdcpmampjncaaGreatDoor
