/- The closures that gather what ForEach passes: each appends a pair and says whether to go on. -/
import Derived.Test.YtggdcpmampjncaaGreatDoorFa
import Derived.Deep.RegionLaw
namespace Go.Proofs.YtggdcpmampjncaaGreatDoor
open Go.RowKit

theorem infoPair : (Tryz.prog.info? 47).map (fun i => (i.zero, i.size, i.bytes)) = some (some (.agg #[.int .i64 0, .string ByteArray.empty, .string ByteArray.empty, .float .f64 0, .bool false, .int .i64 0, .string ByteArray.empty, .string ByteArray.empty, .float .f64 0, .bool false]), 10, 112) := by kernel_rfl
/-- The cells of a pair. -/
def pairC (a b : Rs) : List Value := [.int .i64 (a.ty : Int), .string a.raw, .string a.st, .float .f64 a.f, .bool a.ex, .int .i64 (b.ty : Int), .string b.raw, .string b.st, .float .f64 b.f, .bool b.ex]
/-- A row of pairs of the call's own, in no block below hi. -/
def RowQ (hi : Nat) (w : World) (v : Value) (l : List (Rs × Rs)) : Prop := w.ownsRow 0 47 10 v l.length (l.flatMap fun p => pairC p.1 p.2) ∧ ∀ b, v.ownBlock = some b → hi ≤ b
theorem RowQ.nil (hi : Nat) (w : World) : RowQ hi w (.slice none 0 0) [] := ⟨World.ownsRow_nil w 0 _ 10, fun b hb => by simp [Value.ownBlock] at hb⟩
theorem RowQ.upd {hi : Nat} {w w' : World} {S : Nat → Prop} {v : Value} {l : List (Rs × Rs)} (h : RowQ hi w v l) (u : Upd S w w') (hs : ∀ b, hi ≤ b → b < w.heap.size → ¬ S b) : RowQ hi w' v l := ⟨u.own h.1 fun b hb => hs b (h.2 b hb) (h.1.lt b hb).2, h.2⟩
theorem RowQ.lt {hi : Nat} {w : World} {v : Value} {l : List (Rs × Rs)} (h : RowQ hi w v l) : ∀ b, v.ownBlock = some b → hi ≤ b ∧ b < w.heap.size := fun b hb => ⟨h.2 b hb, (h.1.lt b hb).2⟩
theorem RowQ.len {hi : Nat} {w : World} {v : Value} {l : List (Rs × Rs)} (h : RowQ hi w v l) : ∃ a c, v = .slice a l.length c := by
  rcases h.1.2 with ⟨rfl, h0⟩ | ⟨g, cap, cur, rfl, _⟩
  · exact ⟨none, 0, by rw [h0]⟩
  · exact ⟨_, cap, rfl⟩
theorem RowQ.start {hi : Nat} {w : World} {v : Value} (h : RowQ hi w v []) (hv : v = .slice none 0 0) (hi' : Nat) : RowQ hi' w v [] := by subst hv; exact RowQ.nil _ _
theorem pair_one (a b : Rs) : ∀ u ∈ pairC a b, u.oneCell' = true := by
  intro u hu
  simp only [pairC, List.mem_cons, List.not_mem_nil, or_false] at hu
  rcases hu with rfl | rfl | rfl | rfl | rfl | rfl | rfl | rfl | rfl | rfl <;> rfl
/-- append(v, pair), at a step of a region that draws its order. -/
theorem step_app_pair {ops : Array Oper} {o : Oper} {a : Act} {w : World} {K : Act → World → Prop} {Q : Exit → Act → World → Prop} {E' : Prop} (hgd : o.guard = none) (sl x : Operand)
    (ho : o.op = .call { callee := .builtin .append, args := #[sl, x], argTypes := #[43, 43] })
    (hi : Nat) (v : Value) (l : List (Rs × Rs)) (hs : a.eval sl = v) (hown : RowQ hi w v l) (k r : Rs)
    (ad : Addr) (hx : a.eval x = .slice (some ad) 1 1) (hnews : ∀ j u, (pairC k r)[j]? = some u → w.cell? (ad.add j) = some u)
    (hb : l.length + 1 ≤ 1000000000) (hB : hi ≤ w.heap.size)
    (h : ∀ g cap w', RowQ hi w' (.slice (some ⟨g, 0, none⟩) (l.length + 1) cap) (l ++ [(k, r)]) → Upd (fun b => v.ownBlock = some b) w w' → K (a.put o.dst (.slice (some ⟨g, 0, none⟩) (l.length + 1) cap)) w') :
    if Region.wanted o (yielded ops a.tmps) = true then Oper.wp Tryz.prog o a w K Q else E' := by
  obtain ⟨i0, hi0, hz0, hz1, hz2⟩ := info_parts infoPair
  refine step_append_lies w hgd sl x 43 ho 0 47 i0 _ 10 112 Tryz.underlying43 hi0 hz0 hz1 hz2 rfl (by decide) v l.length _ hs hown.1 ad 1 1 (pairC k r) hx rfl hnews (pair_one k r)
    (by omega) (by unfold maxLen; omega) (by omega) (Nat.zero_le _) w.heap.size rfl ?_
  intro g cap w' ho' hg' hat _
  refine h g cap w' ⟨?_, fun b hb => ?_⟩ ((Upd.of_grown hg').mono fun b hb => hb)
  · rw [List.length_append, List.flatMap_append]
    simpa using ho'
  · have hb' : g = b := by simpa [Value.ownBlock] using hb
    subst hb'
    rcases hat with e | e
    · exact hown.2 g e
    · omega

/-- The closures' variables: what is gathered, when to stop. -/
structure CloW (Bo Bs hi : Nat) (stop : Int) (l : List (Rs × Rs)) (w : World) : Prop where
  v : ∃ v, w.heap[Bo]? = some (.cells #[v] 43 (0, 0)) ∧ RowQ hi w v l
  s : w.heap[Bs]? = some (.cells #[.int .i64 stop] 3 (0, 0))
  lt : Bo < hi ∧ Bs < hi ∧ Bo ≠ Bs ∧ hi ≤ w.heap.size
theorem CloW.upd {Bo Bs hi : Nat} {stop : Int} {l : List (Rs × Rs)} {w w' : World} {S : Nat → Prop} (h : CloW Bo Bs hi stop l w) (u : Upd S w w') (hs : ∀ b, S b → b < hi ∧ b ≠ Bo ∧ b ≠ Bs) : CloW Bo Bs hi stop l w' := by
  obtain ⟨⟨v, h1, h2⟩, h3, h4⟩ := h
  exact ⟨⟨v, u.blk h1 (fun hc => (hs _ hc).2.1 rfl), h2.upd u (fun b hb _ hc => by have := (hs _ hc).1; omega)⟩, u.blk h3 (fun hc => (hs _ hc).2.2 rfl), h4.1, h4.2.1, h4.2.2.1, Nat.le_trans h4.2.2.2 u.size⟩
theorem one_cell {w : World} {B T : Nat} {a : Value} (h : w.heap[B]? = some (.cells #[a] T (0, 0))) : w.cell? ⟨B, 0, none⟩ = some a ∧ w.frozen? ⟨B, 0, none⟩ = false :=
  ⟨by rw [cell_of_row w B 0 _ _ _ h]; rfl, frozen_of_row w B 0 _ _ h⟩
theorem enter_fn {P : Program} {k : Nat} {fn : Func} (hf : P.funcs[k]? = some fn) (h1 : (fn.name == "runtime.NumGoroutine") = false) (h2 : fn.body.isNone = false) (args : Array Value) (w : World) : (callFunc k args).run P w = .ok (.enter k args) w := by
  have h1' : ¬ fn.name = "runtime.NumGoroutine" := fun e => by rw [e] at h1; simp at h1
  have h2' : ¬ fn.body = none := fun e => by rw [e] at h2; cases h2
  simp [callFunc, hf, h1', h2', program, Sem.run]
/-- What the closures do. -/
def CloOk (fn : Nat) : Prop := (∀ (args : Array Value) (w : World), (callFunc fn args).run Tryz.prog w = .ok (.enter fn args) w) ∧ ∀ (Bo Bs hi : Nat) (stop : Int) (l : List (Rs × Rs)) (k v : Rs) (w : World), CloW Bo Bs hi stop l w → l.length ≤ 100000000 →
  Calls Tryz.prog fn #[.agg #[.int .i64 (k.ty : Int), .string k.raw, .string k.st, .float .f64 k.f, .int .i64 k.ix, .slice none 0 0], .agg #[.int .i64 (v.ty : Int), .string v.raw, .string v.st, .float .f64 v.f, .int .i64 v.ix, .slice none 0 0], .pointer (some ⟨Bo, 0, none⟩), .pointer (some ⟨Bs, 0, none⟩)] w
    fun e w' => e = .returned (.bool (!decide ((l.length : Int) + 1 = stop))) ∧ CloW Bo Bs hi stop (l ++ [(k, v)]) w' ∧ Upd (fun b => b = Bo ∨ hi ≤ b) w w'

set_option maxHeartbeats 4000000 in
set_option maxRecDepth 4000 in
theorem cloA_ok : CloOk 29 := by
  refine ⟨enter_fn Tryz.func29 (by kernel_rfl) (by kernel_rfl), ?_⟩
  intro Bo Bs hi stop l k v w h hl
  have HX := Lib.hid (fun r wx => gj_gen r wx)
  obtain ⟨⟨ov, ho, hrow⟩, hst, hlt1, hlt2, hne, hle⟩ := h
  obtain ⟨oa, oc, rfl⟩ := hrow.len
  have HRow := Lib.hid hrow; clear hrow
  have HO := Lib.hid ho
  have HS := Lib.hid hst
  clear ho hst
  go_enter Tryz.func29, Tryz.ntmps29
  go_upto_region 1 with (fail)
  have hb0 : ((w.alloc (.cells #[.int .i64 (k.ty : Int), .string k.raw, .string k.st, .float .f64 k.f, .int .i64 k.ix, .slice none 0 0] 57)).alloc (.cells #[.int .i64 (v.ty : Int), .string v.raw, .string v.st, .float .f64 v.f, .int .i64 v.ix, .slice none 0 0] 57)).heap[w.heap.size]? = some (.cells #[.int .i64 (k.ty : Int), .string k.raw, .string k.st, .float .f64 k.f, .int .i64 k.ix, .slice none 0 0] 57 (0, 0)) :=
    (Below.heap_alloc _ _ w.heap.size (by simp)).trans (heap_alloc_new w _)
  have hb1 := heap_alloc_new (w.alloc (.cells #[.int .i64 (k.ty : Int), .string k.raw, .string k.st, .float .f64 k.f, .int .i64 k.ix, .slice none 0 0] 57)) (.cells #[.int .i64 (v.ty : Int), .string v.raw, .string v.st, .float .f64 v.f, .int .i64 v.ix, .slice none 0 0] 57)
  rw [World.size_alloc] at hb1
  have HU := Lib.hid (((Upd.refl NoB w).alloc (.cells #[.int .i64 (k.ty : Int), .string k.raw, .string k.st, .float .f64 k.f, .int .i64 k.ix, .slice none 0 0] 57)).alloc (.cells #[.int .i64 (v.ty : Int), .string v.raw, .string v.st, .float .f64 v.f, .int .i64 v.ix, .slice none 0 0] 57))
  generalize ((w.alloc (.cells #[.int .i64 (k.ty : Int), .string k.raw, .string k.st, .float .f64 k.f, .int .i64 k.ix, .slice none 0 0] 57)).alloc (.cells #[.int .i64 (v.ty : Int), .string v.raw, .string v.st, .float .f64 v.f, .int .i64 v.ix, .slice none 0 0] 57)) = w1 at hb0 hb1 HU ⊢
  obtain ⟨⟨p0, p1, p2, p3, p4, p5⟩, _⟩ := cells6 hb0
  obtain ⟨⟨r0, r1, r2, r3, r4, r5⟩, _⟩ := cells6 hb1
  have HB1 := Lib.hid hb1
  clear hb0 hb1
  have ho1 := HU.out.blk HO.out (fun h => h.elim)
  have HO1 := Lib.hid ho1
  obtain ⟨o0, f0⟩ := one_cell ho1
  clear ho1
  have hsz1 := HU.out.size
  go_region_law (first
    | (refine step_app_pair (by rfl) _ _ (by rfl) hi _ l (by rfl) (((HRow.out.upd HU.out (fun _ _ _ h => h)).upd (((Upd.refl NoB w1).drew.trans hu2).trans hu3) (fun _ _ _ h => h)).upd ((Upd.refl NoB _).alloc _) (fun _ _ _ h => h)) k v ⟨w3.heap.size, 0, none⟩ (by rfl) (cells_lit w3 (pairC k v) _ _ rfl) (by omega) (by have h1 := hu2.size; have h2 := hu3.size; simp at h1 h2 ⊢; omega) ?_; intro g4 cap4 w4 hrow4 hupd4; have hk3 := (((Upd.refl NoB w3).alloc (.cells (pairC k v).toArray 47)).blk hO3 (fun h => h)); have hk4 := hupd4.blk hk3 (fun h => by have := (HRow.out.lt _ h).1; omega); obtain ⟨o4, f4⟩ := one_cell hk4)
    | (go_simp; go_at_call_of 25 (k.raw); refine (HX.out k _).mono ?_; rintro e w2 ⟨rfl, hu2⟩; have hO2 := ((Upd.refl NoB w1).drew.trans hu2).blk HO1.out (fun h => h); obtain ⟨o2, f2⟩ := one_cell hO2; obtain ⟨⟨s0, s1, s2, s3, s4, s5⟩, _⟩ := cells6 (((Upd.refl NoB w1).drew.trans hu2).blk HB1.out (fun h => h)))
    | (go_simp; go_at_call_of 25 (v.raw); refine (HX.out v _).mono ?_; rintro e w3 ⟨rfl, hu3⟩; have hO3 := hu3.blk hO2 (fun h => h); obtain ⟨o3, f3⟩ := one_cell hO3; have hall : ∀ o, (w3.alloc o).cell? ⟨Bo, 0, none⟩ = some (.slice oa l.length oc) := fun o => ((Upd.refl NoB w3).alloc o).cell o3 (fun h => h)))
  all_goals
    have HR4 := Lib.hid hrow4
    have U4 : Upd (fun b => hi ≤ b) w w4 := (((((HU.out.of_none (S := fun b => hi ≤ b)).drew.then_none hu2).then_none hu3).alloc _).then hupd4 (fun b hb => .inl (HRow.out.lt b hb).1))
    have HU5 : Hid (Upd (fun b => b = Bo ∨ hi ≤ b) w (w4.setCell ⟨Bo, 0, none⟩ (.slice (some ⟨g4, 0, none⟩) (l.length + 1) cap4))) := Lib.hid ((U4.mono (fun b hb => .inr hb)).setCell (.inl (.inl rfl)) _)
    have HC5 : Hid (CloW Bo Bs hi stop (l ++ [(k, v)]) (w4.setCell ⟨Bo, 0, none⟩ (.slice (some ⟨g4, 0, none⟩) (l.length + 1) cap4))) := Lib.hid ⟨⟨_, one_setCell hk4, HR4.out.upd ((Upd.refl (OneB Bo) w4).setOne 0 _) (fun b hb _ hc => by have : b = Bo := hc; omega)⟩, (Below.heap_setCell _ _ _ _ (fun e => hne e.symm)).trans (U4.blk HS.out (fun hc => by omega)), hlt1, hlt2, hne, by have := U4.size; simp [World.setCell]; omega⟩
    obtain ⟨c5, _⟩ := one_cell (one_setCell (u := .slice (some ⟨g4, 0, none⟩) (l.length + 1) cap4) hk4)
    obtain ⟨d5, _⟩ := one_cell HC5.out.s
    clear hrow4 hupd4 hk3 hk4 o4 f4 hall
    by_cases he : (l.length : Int) + 1 = stop
    · have he' : (((l.length : Int) + 1) != stop) = false := by simp [he]
      go_wp2_with fail
      go_ret
      refine ⟨?_, HC5.out, HU5.out⟩
      simp [he]
    · have he' : (((l.length : Int) + 1) != stop) = true := by simp [he]
      go_wp2_with fail
      go_ret
      refine ⟨?_, HC5.out, HU5.out⟩
      simp [he]
set_option maxHeartbeats 4000000 in
set_option maxRecDepth 4000 in
theorem cloB_ok : CloOk 55 := by
  refine ⟨enter_fn Tryz.func55 (by kernel_rfl) (by kernel_rfl), ?_⟩
  intro Bo Bs hi stop l k v w h hl
  have HX := Lib.hid (fun r wx => gj_gen r wx)
  obtain ⟨⟨ov, ho, hrow⟩, hst, hlt1, hlt2, hne, hle⟩ := h
  obtain ⟨oa, oc, rfl⟩ := hrow.len
  have HRow := Lib.hid hrow; clear hrow
  have HO := Lib.hid ho
  have HS := Lib.hid hst
  clear ho hst
  go_enter Tryz.func55, Tryz.ntmps55
  go_upto_region 1 with (fail)
  have hb0 : ((w.alloc (.cells #[.int .i64 (k.ty : Int), .string k.raw, .string k.st, .float .f64 k.f, .int .i64 k.ix, .slice none 0 0] 57)).alloc (.cells #[.int .i64 (v.ty : Int), .string v.raw, .string v.st, .float .f64 v.f, .int .i64 v.ix, .slice none 0 0] 57)).heap[w.heap.size]? = some (.cells #[.int .i64 (k.ty : Int), .string k.raw, .string k.st, .float .f64 k.f, .int .i64 k.ix, .slice none 0 0] 57 (0, 0)) :=
    (Below.heap_alloc _ _ w.heap.size (by simp)).trans (heap_alloc_new w _)
  have hb1 := heap_alloc_new (w.alloc (.cells #[.int .i64 (k.ty : Int), .string k.raw, .string k.st, .float .f64 k.f, .int .i64 k.ix, .slice none 0 0] 57)) (.cells #[.int .i64 (v.ty : Int), .string v.raw, .string v.st, .float .f64 v.f, .int .i64 v.ix, .slice none 0 0] 57)
  rw [World.size_alloc] at hb1
  have HU := Lib.hid (((Upd.refl NoB w).alloc (.cells #[.int .i64 (k.ty : Int), .string k.raw, .string k.st, .float .f64 k.f, .int .i64 k.ix, .slice none 0 0] 57)).alloc (.cells #[.int .i64 (v.ty : Int), .string v.raw, .string v.st, .float .f64 v.f, .int .i64 v.ix, .slice none 0 0] 57))
  generalize ((w.alloc (.cells #[.int .i64 (k.ty : Int), .string k.raw, .string k.st, .float .f64 k.f, .int .i64 k.ix, .slice none 0 0] 57)).alloc (.cells #[.int .i64 (v.ty : Int), .string v.raw, .string v.st, .float .f64 v.f, .int .i64 v.ix, .slice none 0 0] 57)) = w1 at hb0 hb1 HU ⊢
  obtain ⟨⟨p0, p1, p2, p3, p4, p5⟩, _⟩ := cells6 hb0
  obtain ⟨⟨r0, r1, r2, r3, r4, r5⟩, _⟩ := cells6 hb1
  have HB1 := Lib.hid hb1
  clear hb0 hb1
  have ho1 := HU.out.blk HO.out (fun h => h.elim)
  have HO1 := Lib.hid ho1
  obtain ⟨o0, f0⟩ := one_cell ho1
  clear ho1
  have hsz1 := HU.out.size
  go_region_law (first
    | (refine step_app_pair (by rfl) _ _ (by rfl) hi _ l (by rfl) (((HRow.out.upd HU.out (fun _ _ _ h => h)).upd (((Upd.refl NoB w1).drew.trans hu2).trans hu3) (fun _ _ _ h => h)).upd ((Upd.refl NoB _).alloc _) (fun _ _ _ h => h)) k v ⟨w3.heap.size, 0, none⟩ (by rfl) (cells_lit w3 (pairC k v) _ _ rfl) (by omega) (by have h1 := hu2.size; have h2 := hu3.size; simp at h1 h2 ⊢; omega) ?_; intro g4 cap4 w4 hrow4 hupd4; have hk3 := (((Upd.refl NoB w3).alloc (.cells (pairC k v).toArray 47)).blk hO3 (fun h => h)); have hk4 := hupd4.blk hk3 (fun h => by have := (HRow.out.lt _ h).1; omega); obtain ⟨o4, f4⟩ := one_cell hk4)
    | (go_simp; go_at_call_of 25 (k.raw); refine (HX.out k _).mono ?_; rintro e w2 ⟨rfl, hu2⟩; have hO2 := ((Upd.refl NoB w1).drew.trans hu2).blk HO1.out (fun h => h); obtain ⟨o2, f2⟩ := one_cell hO2; obtain ⟨⟨s0, s1, s2, s3, s4, s5⟩, _⟩ := cells6 (((Upd.refl NoB w1).drew.trans hu2).blk HB1.out (fun h => h)))
    | (go_simp; go_at_call_of 25 (v.raw); refine (HX.out v _).mono ?_; rintro e w3 ⟨rfl, hu3⟩; have hO3 := hu3.blk hO2 (fun h => h); obtain ⟨o3, f3⟩ := one_cell hO3; have hall : ∀ o, (w3.alloc o).cell? ⟨Bo, 0, none⟩ = some (.slice oa l.length oc) := fun o => ((Upd.refl NoB w3).alloc o).cell o3 (fun h => h)))
  all_goals
    have HR4 := Lib.hid hrow4
    have U4 : Upd (fun b => hi ≤ b) w w4 := (((((HU.out.of_none (S := fun b => hi ≤ b)).drew.then_none hu2).then_none hu3).alloc _).then hupd4 (fun b hb => .inl (HRow.out.lt b hb).1))
    have HU5 : Hid (Upd (fun b => b = Bo ∨ hi ≤ b) w (w4.setCell ⟨Bo, 0, none⟩ (.slice (some ⟨g4, 0, none⟩) (l.length + 1) cap4))) := Lib.hid ((U4.mono (fun b hb => .inr hb)).setCell (.inl (.inl rfl)) _)
    have HC5 : Hid (CloW Bo Bs hi stop (l ++ [(k, v)]) (w4.setCell ⟨Bo, 0, none⟩ (.slice (some ⟨g4, 0, none⟩) (l.length + 1) cap4))) := Lib.hid ⟨⟨_, one_setCell hk4, HR4.out.upd ((Upd.refl (OneB Bo) w4).setOne 0 _) (fun b hb _ hc => by have : b = Bo := hc; omega)⟩, (Below.heap_setCell _ _ _ _ (fun e => hne e.symm)).trans (U4.blk HS.out (fun hc => by omega)), hlt1, hlt2, hne, by have := U4.size; simp [World.setCell]; omega⟩
    obtain ⟨c5, _⟩ := one_cell (one_setCell (u := .slice (some ⟨g4, 0, none⟩) (l.length + 1) cap4) hk4)
    obtain ⟨d5, _⟩ := one_cell HC5.out.s
    clear hrow4 hupd4 hk3 hk4 o4 f4 hall
    by_cases he : (l.length : Int) + 1 = stop
    · have he' : (((l.length : Int) + 1) != stop) = false := by simp [he]
      go_wp2_with fail
      go_ret
      refine ⟨?_, HC5.out, HU5.out⟩
      simp [he]
    · have he' : (((l.length : Int) + 1) != stop) = true := by simp [he]
      go_wp2_with fail
      go_ret
      refine ⟨?_, HC5.out, HU5.out⟩
      simp [he]
end Go.Proofs.YtggdcpmampjncaaGreatDoor
