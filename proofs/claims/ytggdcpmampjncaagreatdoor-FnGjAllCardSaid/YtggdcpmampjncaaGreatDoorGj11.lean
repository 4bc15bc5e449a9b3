/- The package's Array, and its answers as answers of impl. -/
import Derived.Test.YtggdcpmampjncaaGreatDoorGj10
import Derived.Deep.RegionHeld3
namespace Go.Proofs.YtggdcpmampjncaaGreatDoor
open Go.RowKit

theorem fl_store (a : Addr) (f : Nat) (w : World) : (store a (.float .f64 f)).run Tryz.prog w = stored Tryz.prog w a (.float .f64 f) .plain := run_store _ w a _ .plain rfl

set_option maxHeartbeats 1000000 in
theorem Exists_any (r : Rs) (w : World) (hz : 0 < r.raw.size) :
    Calls Tryz.prog 49 #[.agg #[.int .i64 (r.ty : Int), .string r.raw, .string r.st, .float .f64 r.f, .int .i64 r.ix, .slice none 0 0]] w fun e w' => e = .returned (.bool true) ∧ Upd NoB w w' := by
  have hz' : ((r.raw.size : Int) != 0) = true := bne_iff_ne.2 (by omega)
  by_cases h : r.ty = 0
  · have e0 : ((r.ty : Int) != 0) = false := by simp; omega
    go_enter Tryz.func49, Tryz.ntmps49
    go_wp2_with fail
    go_ret
    exact ⟨rfl, (Upd.refl NoB w).alloc _⟩
  · have e0 : ((r.ty : Int) != 0) = true := by simp; omega
    go_enter Tryz.func49, Tryz.ntmps49
    go_wp2_with fail
    go_ret
    exact ⟨rfl, (Upd.refl NoB w).alloc _⟩

set_option maxHeartbeats 1000000 in
theorem IsArray_any (u : ByteArray) (w : World) (h0 : bAt u 0 = 91) (hz : 0 < u.size) :
    Calls Tryz.prog 45 #[.agg #[.int .i64 5, .string u, .string ByteArray.empty, .float .f64 0, .int .i64 0, .slice none 0 0]] w fun e w' => e = .returned (.bool true) ∧ Upd NoB w w' := by
  have hB := get_bAt u
  have hz' : (0 : Int) < (u.size : Int) := by omega
  have h91 : (bAt u 0 : Int) = 91 := by rw [h0]; rfl
  clear h0
  go_enter Tryz.func45, Tryz.ntmps45
  go_wp2_with fail
  go_ret
  exact ⟨rfl, (Upd.refl NoB w).alloc _⟩

/-- What Array returns. -/
def ARet (u : ByteArray) (ps : List Pl) (w : World) (e : Ending) (w' : World) : Prop :=
  ∃ v l, e = .returned v ∧ AllAt u ps l ∧ RowR w.heap.size w' v l ∧ Upd NoB w w'
set_option maxHeartbeats 1000000 in
theorem Array_any (lo : Nat) (u : ByteArray) (ps : List Pl) (w : World) (hs : u.size ≤ 1048576) (h0 : bAt u 0 = 91) (hz : 0 < u.size) (hn : NE u 1 ps) (hst : Strs u ps) (hT : Tabs lo w) (hlo : lo ≤ w.heap.size) :
    Calls Tryz.prog 22 #[.agg #[.int .i64 5, .string u, .string ByteArray.empty, .float .f64 0, .int .i64 0, .slice none 0 0]] w (ARet u ps w) := by
  have HI := Lib.hid (fun wx => IsArray_any u wx h0 hz)
  have HA := Lib.hid (fun wx (hT : Tabs lo wx) (hl : lo ≤ wx.heap.size) => arrayOrMap_any lo u ps wx hs h0 hz hn hst hT hl)
  have HT := Lib.hid hT
  clear hT h0 hn hst
  go_enter Tryz.func22, Tryz.ntmps22
  go_wp2_with fail
  refine (HI.out _).mono ?_
  rintro e w1 ⟨rfl, hu1⟩
  have hb0 := cells6 (hu1.blk (heap_alloc_new w _) (fun h => h.elim))
  have hU1 := ((Upd.refl NoB w).alloc _).trans hu1
  clear hu1
  obtain ⟨⟨p0, p1, p2, p3, p4, p5⟩, _⟩ := hb0
  have HT1 := Lib.hid (HT.out.upd hU1 (fun _ h => h.elim))
  have hs1 := hU1.size
  go_wp2_with fail
  refine (HA.out _ HT1.out (by omega)).mono ?_
  rintro e w2 ⟨v, l, rfl, h1, h2, h3⟩
  obtain ⟨va, vc, rfl⟩ := h2.len
  have H1 := Lib.hid h1; clear h1
  have H2 := Lib.hid (h2.mono hs1); clear h2
  have H3 := Lib.hid (hU1.trans h3); clear h3 hU1
  go_wp2_with fail
  go_ret
  exact ⟨_, l, rfl, H1.out, H2.out.upd ((Upd.refl NoB _).alloc _) (fun _ _ _ h => h), H3.out.alloc _⟩

set_option maxHeartbeats 1000000 in
theorem gjOf_any (u : ByteArray) (w : World) :
    Calls Tryz.prog 21 #[.agg #[.int .i64 5, .string u, .string ByteArray.empty, .float .f64 0, .bool true]] w fun e w' => e = .returned (.agg #[.int .i64 5, .string u, .string ByteArray.empty, .float .f64 0, .int .i64 0, .slice none 0 0]) ∧ Upd NoB w w' := by
  have hfl := fl_store
  go_enter Tryz.func21, Tryz.ntmps21
  go_wp2_with fail
  have hb := cells6 (heap_alloc_new (w.alloc (.cells #[.int .i64 5, .string u, .string ByteArray.empty, .float .f64 0, .bool true] 38)) (.cells #[.int .i64 5, .string u, .string ByteArray.empty, .float .f64 0, .int .i64 0, .slice none 0 0] 57))
  rw [World.size_alloc] at hb
  obtain ⟨⟨r0, r1, r2, r3, r4, r5⟩, _⟩ := hb
  refine bodyPost_ret (v := .agg #[.int .i64 5, .string u, .string ByteArray.empty, .float .f64 0, .int .i64 0, .slice none 0 0]) (by simp [results, Tryz.results21, go_sem, r0, r1, r2, r3, r4, r5]) rfl ?_
  exact ⟨rfl, ((Upd.refl NoB w).alloc _).alloc _⟩

set_option maxHeartbeats 4000000 in
theorem gj_any (r : Rs) (w : World) (hz : 0 < r.raw.size) :
    Calls Tryz.prog 25 #[.agg #[.int .i64 (r.ty : Int), .string r.raw, .string r.st, .float .f64 r.f, .int .i64 r.ix, .slice none 0 0]] w fun e w' => e = .returned (.agg #[.int .i64 (r.ty : Int), .string r.raw, .string r.st, .float .f64 r.f, .bool true]) ∧ Upd NoB w w' := by
  have hfl := fl_store
  have HX := Lib.hid (fun wx => Exists_any r wx hz)
  go_enter Tryz.func25, Tryz.ntmps25
  go_wp2_with fail
  have hb0 : ((w.alloc (.cells #[.int .i64 (r.ty : Int), .string r.raw, .string r.st, .float .f64 r.f, .int .i64 r.ix, .slice none 0 0] 57)).alloc (.cells #[.int .i64 0, .string ⟨#[]⟩, .string ⟨#[]⟩, .float .f64 0, .bool false] 38)).heap[w.heap.size]? = some (.cells #[.int .i64 (r.ty : Int), .string r.raw, .string r.st, .float .f64 r.f, .int .i64 r.ix, .slice none 0 0] 57 (0, 0)) :=
    (Below.heap_alloc _ _ w.heap.size (by simp)).trans (heap_alloc_new w _)
  have hb1 := heap_alloc_new (w.alloc (.cells #[.int .i64 (r.ty : Int), .string r.raw, .string r.st, .float .f64 r.f, .int .i64 r.ix, .slice none 0 0] 57)) (.cells #[.int .i64 0, .string ⟨#[]⟩, .string ⟨#[]⟩, .float .f64 0, .bool false] 38)
  rw [World.size_alloc] at hb1
  have HU := Lib.hid (((Upd.refl NoB w).alloc (.cells #[.int .i64 (r.ty : Int), .string r.raw, .string r.st, .float .f64 r.f, .int .i64 r.ix, .slice none 0 0] 57)).alloc (.cells #[.int .i64 0, .string ⟨#[]⟩, .string ⟨#[]⟩, .float .f64 0, .bool false] 38))
  generalize ((w.alloc (.cells #[.int .i64 (r.ty : Int), .string r.raw, .string r.st, .float .f64 r.f, .int .i64 r.ix, .slice none 0 0] 57)).alloc (.cells #[.int .i64 0, .string ⟨#[]⟩, .string ⟨#[]⟩, .float .f64 0, .bool false] 38)) = w1 at hb0 hb1 HU ⊢
  obtain ⟨⟨p0, p1, p2, p3, p4, p5⟩, _⟩ := cells6 hb0
  have HB := Lib.hid hb1
  obtain ⟨⟨c0, c1, c2, c3, c4⟩, q0, q1, q2, q3, q4⟩ := cells5 hb1
  clear hb0 hb1
  go_region_held3 (fun w' => w'.cell? ⟨w.heap.size, 0, none⟩ = some (.int .i64 (r.ty : Int)) ∧ w'.cell? ⟨w.heap.size, 1, none⟩ = some (.string r.raw) ∧ w'.cell? ⟨w.heap.size, 2, none⟩ = some (.string r.st) ∧ w'.cell? ⟨w.heap.size, 3, none⟩ = some (.float .f64 r.f) ∧ w'.cell? ⟨w.heap.size, 4, none⟩ = some (.int .i64 r.ix) ∧ w'.cell? ⟨w.heap.size, 5, none⟩ = some (.slice none 0 0)) (first | (go_keep; done) | (go_split_ands; exact ⟨hu2.cell (by assumption) (fun h => h), hu2.cell (by assumption) (fun h => h), hu2.cell (by assumption) (fun h => h), hu2.cell (by assumption) (fun h => h), hu2.cell (by assumption) (fun h => h), hu2.cell (by assumption) (fun h => h)⟩)) (first | (go_at_call 49; refine (HX.out _).mono ?_; rintro e w2 ⟨rfl, hu2⟩; obtain ⟨⟨d0, d1, d2, d3, d4⟩, g0, g1, g2, g3, g4⟩ := cells5 (((Upd.refl NoB w1).drew.trans hu2).blk HB.out (fun h => h))))
  have HU3 := Lib.hid ((HU.out.drew).trans hu2)
  clear hu2
  go_wp2_with fail
  refine bodyPost_ret (v := .agg #[.int .i64 (r.ty : Int), .string r.raw, .string r.st, .float .f64 r.f, .bool true]) (by simp [results, Tryz.results25, go_sem, d0, d1, d2, d3, d4]) rfl ?_
  refine ⟨rfl, ?_⟩
  have U : Upd (OneB (w.heap.size + 1)) w2 (((((w2.setCell ⟨w.heap.size + 1, 0, none⟩ (.int .i64 (r.ty : Int))).setCell ⟨w.heap.size + 1, 1, none⟩ (.string r.raw)).setCell ⟨w.heap.size + 1, 2, none⟩ (.string r.st)).setCell ⟨w.heap.size + 1, 3, none⟩ (.float .f64 r.f)).setCell ⟨w.heap.size + 1, 4, none⟩ (.bool true)) := (((((Upd.refl _ _).setOne 0 _).setOne 1 _).setOne 2 _).setOne 3 _).setOne 4 _
  exact HU3.out.then U (fun b hb => .inr (by have : b = w.heap.size + 1 := hb; omega))

theorem infoGj : (Tryz.prog.info? 38).map (fun i => (i.zero, i.size, i.bytes)) = some (some (.agg #[.int .i64 0, .string ByteArray.empty, .string ByteArray.empty, .float .f64 0, .bool false]), 5, 56) := by kernel_rfl
/-- The cells of an answer of impl. -/
def Rs.gcells (r : Rs) : List Value := [.int .i64 (r.ty : Int), .string r.raw, .string r.st, .float .f64 r.f, .bool true]
def gcells (l : List Rs) : List Value := l.flatMap Rs.gcells
theorem gcells_snoc (l : List Rs) (r : Rs) : gcells (l ++ [r]) = gcells l ++ r.gcells := by simp [gcells]
/-- A row of impl's answers of the call's own. -/
def RowG (B : Nat) (w : World) (v : Value) (l : List Rs) : Prop := w.ownsRow 0 38 5 v l.length (gcells l) ∧ ∀ b, v.ownBlock = some b → B ≤ b
theorem RowG.nil (B : Nat) (w : World) : RowG B w (.slice none 0 0) [] := ⟨World.ownsRow_nil _ _ _ _, fun b hb => by simp [Value.ownBlock] at hb⟩
theorem RowG.upd {B : Nat} {w w' : World} {S : Nat → Prop} {v : Value} {l : List Rs} (h : RowG B w v l) (u : Upd S w w') (hs : ∀ b, B ≤ b → b < w.heap.size → ¬ S b) : RowG B w' v l :=
  ⟨u.own h.1 fun b hb => hs b (h.2 b hb) (h.1.lt b hb).2, h.2⟩
theorem RowG.lt {B : Nat} {w : World} {v : Value} {l : List Rs} (h : RowG B w v l) : ∀ b, v.ownBlock = some b → B ≤ b ∧ b < w.heap.size := fun b hb => ⟨h.2 b hb, (h.1.lt b hb).2⟩
theorem RowG.len {B : Nat} {w : World} {v : Value} {l : List Rs} (h : RowG B w v l) : ∃ a c, v = .slice a l.length c := by
  rcases h.1.2 with ⟨rfl, h0⟩ | ⟨g, cap, cur, rfl, _⟩
  · exact ⟨none, 0, by rw [h0]⟩
  · exact ⟨_, cap, rfl⟩
theorem wpList_app_gj {w : World} {ops : Array Oper} {rest : List Oper} {o : Oper} {a : Act} {Q : Exit → Act → World → Prop} (hgd : o.guard = none) (sl x : Operand)
    (ho : o.op = .call { callee := .builtin .append, args := #[sl, x], argTypes := #[34, 34] })
    (B : Nat) (v : Value) (l : List Rs) (hs : a.eval sl = v) (hown : RowG B w v l) (r : Rs)
    (ad : Addr) (c : Nat) (hx : a.eval x = .slice (some ad) 1 c) (hnews : ∀ j u, r.gcells[j]? = some u → w.cell? (ad.add j) = some u)
    (hb : l.length + 1 ≤ 1000000000) (hB : B ≤ w.heap.size)
    (h : ∀ v' w', RowG B w' v' (l ++ [r]) → Upd (fun b => v.ownBlock = some b) w w' → (v'.ownBlock = v.ownBlock ∨ v'.ownBlock = some w.heap.size) → wpList Tryz.prog ops Q rest (a.put o.dst v') w') : wpList Tryz.prog ops Q (o :: rest) a w := by
  obtain ⟨i0, hi0, hz0, hz1, hz2⟩ := info_parts infoGj
  refine wpList_append_own_at w hgd sl x 34 ho 0 38 i0 _ 5 56 Tryz.underlying34 hi0 hz0 hz1 hz2 rfl (by decide) v l.length (gcells l) hs hown.1 ad 1 c r.gcells hx rfl hnews
    (by intro u hu; simp only [Rs.gcells, List.mem_cons, List.not_mem_nil, or_false] at hu; rcases hu with rfl | rfl | rfl | rfl | rfl <;> rfl)
    (by unfold maxLen; omega) (by omega) (Nat.zero_le _) ?_
  intro v' w' ho' hg' _ hat
  refine h v' w' ⟨?_, fun b hb => ?_⟩ ((Upd.of_grown hg').mono fun b hb => hb) hat
  · rw [List.length_append, gcells_snoc]; exact ho'
  · rcases hat with e | e
    · exact hown.2 b (by rw [← e]; exact hb)
    · rw [e] at hb; injection hb with hb; omega
theorem rcells_get : ∀ (ds : List Rs) (r : Rs) (rs : List Rs) (j : Nat), j < 6 → (rcells (ds ++ r :: rs))[ds.length * 6 + j]? = r.cells[j]?
  | [], r, rs, j, hj => by
    have e : rcells ([] ++ r :: rs) = r.cells ++ rcells rs := by simp [rcells]
    rw [e, List.getElem?_append_left (by simp [Rs.cells]; omega)]
    simp
  | d :: ds, r, rs, j, hj => by
    have h := rcells_get ds r rs j hj
    have e : rcells (d :: ds ++ r :: rs) = d.cells ++ rcells (ds ++ r :: rs) := by simp [rcells]
    rw [e, List.getElem?_append_right (by simp [Rs.cells]; omega), ← h]
    congr 1
    simp [Rs.cells]
    omega
theorem RowR.at {B : Nat} {w : World} {v : Value} {ds : List Rs} {r : Rs} {rs : List Rs} (h : RowR B w v (ds ++ r :: rs)) :
    ∃ g c, v = .slice (some ⟨g, 0, none⟩) (ds ++ r :: rs).length c ∧ (ds ++ r :: rs).length ≤ c ∧ w.cell? ⟨g, ds.length * 6, none⟩ = some (.int .i64 (r.ty : Int)) ∧ w.cell? ⟨g, ds.length * 6 + 1, none⟩ = some (.string r.raw) ∧ w.cell? ⟨g, ds.length * 6 + 2, none⟩ = some (.string r.st) ∧ w.cell? ⟨g, ds.length * 6 + 3, none⟩ = some (.float .f64 r.f) ∧ w.cell? ⟨g, ds.length * 6 + 4, none⟩ = some (.int .i64 r.ix) ∧ w.cell? ⟨g, ds.length * 6 + 5, none⟩ = some (.slice none 0 0) := by
  have hl : (ds ++ r :: rs).length = ds.length + (rs.length + 1) := by simp
  have h1 := h.1
  rcases h1.2 with ⟨_, h0⟩ | ⟨g, cap, cur, rfl, _, _, hc, _⟩
  · simp at h0
  · refine ⟨g, cap, rfl, hc, ?_, ?_, ?_, ?_, ?_, ?_⟩
    · rw [World.ownsRow.cellAt h1 (ds.length * 6) (by omega)]; exact rcells_get ds r rs 0 (by omega)
    · rw [World.ownsRow.cellAt h1 (ds.length * 6 + 1) (by omega)]; exact rcells_get ds r rs 1 (by omega)
    · rw [World.ownsRow.cellAt h1 (ds.length * 6 + 2) (by omega)]; exact rcells_get ds r rs 2 (by omega)
    · rw [World.ownsRow.cellAt h1 (ds.length * 6 + 3) (by omega)]; exact rcells_get ds r rs 3 (by omega)
    · rw [World.ownsRow.cellAt h1 (ds.length * 6 + 4) (by omega)]; exact rcells_get ds r rs 4 (by omega)
    · rw [World.ownsRow.cellAt h1 (ds.length * 6 + 5) (by omega)]; exact rcells_get ds r rs 5 (by omega)
end Go.Proofs.YtggdcpmampjncaaGreatDoor
