/- The package's ForEach on an array: the iterator is called with its elements in their order, until it says stop. -/
import Derived.Test.YtggdcpmampjncaaGreatDoorFb
namespace Go.Proofs.YtggdcpmampjncaaGreatDoor
open Go.RowKit

theorem lit158 (g : Nat → Value) : ((List.range 158).map g).toArray = #[g 0, g 1, g 2, g 3, g 4, g 5, g 6, g 7, g 8, g 9, g 10, g 11, g 12, g 13, g 14, g 15, g 16, g 17, g 18, g 19, g 20, g 21, g 22, g 23, g 24, g 25, g 26, g 27, g 28, g 29, g 30, g 31, g 32, g 33, g 34, g 35, g 36, g 37, g 38, g 39, g 40, g 41, g 42, g 43, g 44, g 45, g 46, g 47, g 48, g 49, g 50, g 51, g 52, g 53, g 54, g 55, g 56, g 57, g 58, g 59, g 60, g 61, g 62, g 63, g 64, g 65, g 66, g 67, g 68, g 69, g 70, g 71, g 72, g 73, g 74, g 75, g 76, g 77, g 78, g 79, g 80, g 81, g 82, g 83, g 84, g 85, g 86, g 87, g 88, g 89, g 90, g 91, g 92, g 93, g 94, g 95, g 96, g 97, g 98, g 99, g 100, g 101, g 102, g 103, g 104, g 105, g 106, g 107, g 108, g 109, g 110, g 111, g 112, g 113, g 114, g 115, g 116, g 117, g 118, g 119, g 120, g 121, g 122, g 123, g 124, g 125, g 126, g 127, g 128, g 129, g 130, g 131, g 132, g 133, g 134, g 135, g 136, g 137, g 138, g 139, g 140, g 141, g 142, g 143, g 144, g 145, g 146, g 147, g 148, g 149, g 150, g 151, g 152, g 153, g 154, g 155, g 156, g 157] := by kernel_rfl
/-- ForEach's blocks: the result, the key, the value. -/
structure FE (B B1 Bo : Nat) (tc kc vc : List Value) (w0 w : World) : Prop where
  b0 : w.heap[B]? = some (.cells tc.toArray 57 (0, 0))
  b1 : w.heap[B1]? = some (.cells kc.toArray 57 (0, 0))
  b2 : w.heap[B1 + 1]? = some (.cells vc.toArray 57 (0, 0))
  up : Upd (OneB Bo) w0 w
  lt : Bo < B ∧ w0.heap.size = B ∧ B < B1
  sz : B1 + 2 ≤ w.heap.size
section
variable {B B1 Bo : Nat} {tc kc vc : List Value} {w0 w w1 : World}
theorem FE.keep (h : FE B B1 Bo tc kc vc w0 w) (k : Upd NoB w w1) : FE B B1 Bo tc kc vc w0 w1 :=
  ⟨k.blk h.b0 fun hc => hc.elim, k.blk h.b1 fun hc => hc.elim, k.blk h.b2 fun hc => hc.elim, h.up.then_none k, h.lt, Nat.le_trans h.sz k.size⟩
theorem FE.clo (h : FE B B1 Bo tc kc vc w0 w) (k : Upd (fun b => b = Bo ∨ B1 + 2 ≤ b) w w1) : FE B B1 Bo tc kc vc w0 w1 := by
  obtain ⟨h1, h2, h3⟩ := h.lt
  exact ⟨k.blk h.b0 fun hc => by omega, k.blk h.b1 fun hc => by omega, k.blk h.b2 fun hc => by omega, h.up.then k (fun b hb => by rcases hb with hb | hb; exact .inl hb; exact .inr (by omega)), h.lt, Nat.le_trans h.sz k.size⟩
theorem FE.setK (h : FE B B1 Bo tc kc vc w0 w) (j : Nat) (x : Value) : FE B B1 Bo tc (kc.set j x) vc w0 (w.setCell ⟨B1, j, none⟩ x) := by
  obtain ⟨h1, h2, h3⟩ := h.lt
  have k : Upd (OneB B1) w (w.setCell ⟨B1, j, none⟩ x) := (Upd.refl _ _).setOne j x
  refine ⟨k.blk h.b0 fun hc => by have : B = B1 := hc; omega, ?_, k.blk h.b2 fun hc => by have : B1 + 1 = B1 := hc; omega, h.up.then k (fun b hb => .inr (by have : b = B1 := hb; omega)), h.lt, Nat.le_trans h.sz k.size⟩
  rw [heap_setCell_same w B1 j _ _ _ h.b1]
  simp
theorem FE.setV (h : FE B B1 Bo tc kc vc w0 w) (j : Nat) (x : Value) : FE B B1 Bo tc kc (vc.set j x) w0 (w.setCell ⟨B1 + 1, j, none⟩ x) := by
  obtain ⟨h1, h2, h3⟩ := h.lt
  have k : Upd (OneB (B1 + 1)) w (w.setCell ⟨B1 + 1, j, none⟩ x) := (Upd.refl _ _).setOne j x
  refine ⟨k.blk h.b0 fun hc => by have : B = B1 + 1 := hc; omega, k.blk h.b1 fun hc => by have : B1 = B1 + 1 := hc; omega, ?_, h.up.then k (fun b hb => .inr (by have : b = B1 + 1 := hb; omega)), h.lt, Nat.le_trans h.sz k.size⟩
  rw [heap_setCell_same w (B1 + 1) j _ _ _ h.b2]
  simp
end
/-- ForEach's blocks and the closures' variables. -/
structure FC (B B1 Bo Bs : Nat) (stop : Int) (tc kc vc : List Value) (l : List (Rs × Rs)) (w0 w : World) : Prop where
  fe : FE B B1 Bo tc kc vc w0 w
  cw : CloW Bo Bs (B1 + 2) stop l w
  bs : Bs < B
section
variable {B B1 Bo Bs : Nat} {stop : Int} {tc kc vc : List Value} {l : List (Rs × Rs)} {w0 w w1 : World}
theorem FC.keep (h : FC B B1 Bo Bs stop tc kc vc l w0 w) (k : Upd NoB w w1) : FC B B1 Bo Bs stop tc kc vc l w0 w1 := ⟨h.fe.keep k, h.cw.upd k (fun _ hb => hb.elim), h.bs⟩
theorem FC.setK (h : FC B B1 Bo Bs stop tc kc vc l w0 w) (j : Nat) (x : Value) : FC B B1 Bo Bs stop tc (kc.set j x) vc l w0 (w.setCell ⟨B1, j, none⟩ x) :=
  ⟨h.fe.setK j x, h.cw.upd ((Upd.refl (OneB B1) w).setOne j x) (fun b hb => by have : b = B1 := hb; have := h.fe.lt; have := h.bs; omega), h.bs⟩
theorem FC.setV (h : FC B B1 Bo Bs stop tc kc vc l w0 w) (j : Nat) (x : Value) : FC B B1 Bo Bs stop tc kc (vc.set j x) l w0 (w.setCell ⟨B1 + 1, j, none⟩ x) :=
  ⟨h.fe.setV j x, h.cw.upd ((Upd.refl (OneB (B1 + 1)) w).setOne j x) (fun b hb => by have : b = B1 + 1 := hb; have := h.fe.lt; have := h.bs; omega), h.bs⟩
theorem FC.clo {l' : List (Rs × Rs)} (h : FC B B1 Bo Bs stop tc kc vc l w0 w) (k : Upd (fun b => b = Bo ∨ B1 + 2 ≤ b) w w1) (c : CloW Bo Bs (B1 + 2) stop l' w1) : FC B B1 Bo Bs stop tc kc vc l' w0 w1 := ⟨h.fe.clo k, c, h.bs⟩
end
/-- The cells of a result whose indexes are none. -/
def vC (c0 : Int) (c1 c2 : ByteArray) (c3 : Nat) (c4 : Int) : List Value := [.int .i64 c0, .string c1, .string c2, .float .f64 c3, .int .i64 c4, .slice none 0 0]
theorem VT.updS {S : Nat → Prop} {w w' : World} (h : VT w) (k : Upd S w w') (hs : ¬ S 0) : VT w' := fun c hc => k.cell (h c hc) hs
theorem TreesR.get {u : ByteArray} : ∀ (ps : List Pl) (l : List Nd), TreesR u ps l → ∀ (j : Nat) (p : Pl), ps[j]? = some p → ∃ m, l[j]? = some m ∧ TreeR u p m
  | [], l, _, j, p, h => by simp at h
  | q :: ps, l, h, j, p, hj => by
    simp only [TreesR] at h
    obtain ⟨n, r, rfl, h1, h2⟩ := h
    cases j with
    | zero => simp only [List.getElem?_cons_zero, Option.some.injEq] at hj; subst hj; exact ⟨n, by simp, h1⟩
    | succ j => simp only [List.getElem?_cons_succ] at hj ⊢; exact TreesR.get ps r h2 j p hj
/-- Where the gathering begins. -/
structure CloS (Bo Bs : Nat) (stop : Int) (w : World) : Prop where
  v : w.heap[Bo]? = some (.cells #[.slice none 0 0] 43 (0, 0))
  s : w.heap[Bs]? = some (.cells #[.int .i64 stop] 3 (0, 0))
  ne : Bo ≠ Bs
theorem CloS.lt {Bo Bs : Nat} {stop : Int} {w : World} (h : CloS Bo Bs stop w) : Bo < w.heap.size ∧ Bs < w.heap.size := ⟨(Array.getElem?_eq_some_iff.1 h.v).1, (Array.getElem?_eq_some_iff.1 h.s).1⟩
theorem CloS.upd {Bo Bs : Nat} {stop : Int} {w w' : World} (h : CloS Bo Bs stop w) (u : Upd NoB w w') : CloS Bo Bs stop w' := ⟨u.blk h.v (fun h => h), u.blk h.s (fun h => h), h.ne⟩
theorem CloS.go {Bo Bs : Nat} {stop : Int} {w : World} (h : CloS Bo Bs stop w) (hi : Nat) (h1 : Bo < hi) (h2 : Bs < hi) (h3 : hi ≤ w.heap.size) : CloW Bo Bs hi stop [] w :=
  ⟨⟨_, h.v, RowQ.nil _ _⟩, h.s, h1, h2, h.ne, h3⟩
/-- What ForEach leaves. -/
def EachRet (K V : Nat → Rs → Prop) (N : Nat) (Bo Bs : Nat) (stop : Int) (w : World) (e : Ending) (w' : World) : Prop :=
  e = .returned (.tuple #[]) ∧ ∃ l hi, l.length = cutN stop N ∧ Ev K V l ∧ CloW Bo Bs hi stop l w' ∧ Upd (OneB Bo) w w'
/-- The key's cells in an array. -/
def kA (j : Nat) : List Value := [.int .i64 2, .string ByteArray.empty, .string ByteArray.empty, .float .f64 (keyF j), .int .i64 0, .slice none 0 0]
/-- What holds at each round. -/
def EI (K V : Nat → Rs → Prop) (B B1 Bo Bs : Nat) (stop : Int) (tc kc : List Value) (l : List (Rs × Rs)) (w0 wx : World) : Prop :=
  Ev K V l ∧ Going stop l.length ∧ ∃ c0 c1 c2 c3 c4, FC B B1 Bo Bs stop tc kc (vC c0 c1 c2 c3 c4) l w0 wx
theorem FE.start (Bo : Nat) (tc kc vc : List Value) (w0 w1 : World) (hb : w1.heap[w0.heap.size]? = some (.cells tc.toArray 57 (0, 0))) (u : Upd NoB w0 w1) (ho : Bo < w0.heap.size) :
    FE w0.heap.size w1.heap.size Bo tc kc vc w0 ((w1.alloc (.cells kc.toArray 57)).alloc (.cells vc.toArray 57)) := by
  have hlt := (Array.getElem?_eq_some_iff.1 hb).1
  have hn := heap_alloc_new (w1.alloc (.cells kc.toArray 57)) (.cells vc.toArray 57)
  rw [World.size_alloc] at hn
  exact ⟨(((Upd.refl NoB w1).alloc _).alloc _).blk hb (fun h => h), (Below.heap_alloc _ _ _ (by simp)).trans (heap_alloc_new w1 _), hn, ((u.alloc _).alloc _).of_none, ⟨ho, rfl, hlt⟩, by simp⟩

set_option maxHeartbeats 8000000 in
set_option maxRecDepth 8000 in
theorem each_arr (fn : Nat) (hfn : CloOk fn) (lo : Nat) (u st : ByteArray) (f : Nat) (ix : Int) (q : Pl) (n : Nd) (Bo Bs : Nat) (stop : Int) (w : World) (hs : u.size ≤ 1048576) (hix : 0 ≤ ix ∧ ix ≤ 1048576)
    (h91 : bAt u 0 = 91) (hz : 0 < u.size) (hkl : q.kids.length ≤ 1048577) (hat : AtE u 1 q.kids) (hn : TreesR u q.kids n.kids) (hT : Tabs lo w) (hlo : lo ≤ w.heap.size) (hbo : lo ≤ Bo) (hvt : VT w) (hvl : 0 < lo) (hcs : CloS Bo Bs stop w) :
    Calls Tryz.prog 54 #[.agg #[.int .i64 5, .string u, .string st, .float .f64 f, .int .i64 ix, .slice none 0 0], .func (.func fn) #[] #[.pointer (some ⟨Bo, 0, none⟩), .pointer (some ⟨Bs, 0, none⟩)]] w (EachRet KA (VI u q.kids n.kids) q.kids.length Bo Bs stop w) := by
  have hB := get_bAt u
  have HX := Lib.hid (fun wx => Exists_gen ⟨5, u, st, f, ix⟩ wx)
  have hex : (⟨5, u, st, f, ix⟩ : Rs).ex = true := by unfold Rs.ex; exact decide_eq_true (.inl (show (5 : Nat) ≠ 0 by decide))
  rw [hex] at HX
  clear hex
  have HFn := Lib.hid hfn; clear hfn
  have HAt := Lib.hid hat; clear hat
  have HN := Lib.hid hn; clear hn
  have HT := Lib.hid hT; clear hT
  have HVT := Lib.hid hvt; clear hvt
  have hlts := hcs.lt
  have HCS := Lib.hid hcs; clear hcs
  have hfl := fl_store
  go_enter Tryz.func54, Tryz.ntmps54
  go_wp2_with fail
  refine (HX.out _).mono ?_
  rintro e w1 ⟨rfl, hu1⟩
  have hb0 := hu1.blk (heap_alloc_new w _) (fun h => h)
  have HU1 := Lib.hid (((Upd.refl NoB w).alloc _).trans hu1)
  clear hu1
  obtain ⟨⟨p0, p1, p2, p3, p4, p5⟩, _⟩ := cells6 hb0
  go_upto_block 0 with (fail)
  have hFE := FE.start Bo [.int .i64 5, .string u, .string st, .float .f64 f, .int .i64 ix, .slice none 0 0] [.int .i64 0, .string ByteArray.empty, .string ByteArray.empty, .float .f64 0, .int .i64 0, .slice none 0 0] [.int .i64 0, .string ByteArray.empty, .string ByteArray.empty, .float .f64 0, .int .i64 0, .slice none 0 0] w w1 hb0 HU1.out hlts.1
  have hUU := (HU1.out.alloc (.cells #[.int .i64 0, .string ByteArray.empty, .string ByteArray.empty, .float .f64 0, .int .i64 0, .slice none 0 0] 57)).alloc (.cells #[.int .i64 0, .string ByteArray.empty, .string ByteArray.empty, .float .f64 0, .int .i64 0, .slice none 0 0] 57)
  dsimp only [List.toArray] at hFE
  have hs1 := HU1.out.size
  generalize hw2 : ((w1.alloc (.cells #[.int .i64 0, .string ByteArray.empty, .string ByteArray.empty, .float .f64 0, .int .i64 0, .slice none 0 0] 57)).alloc (.cells #[.int .i64 0, .string ByteArray.empty, .string ByteArray.empty, .float .f64 0, .int .i64 0, .slice none 0 0] 57)) = w2 at hFE hUU
  first | rw [hw2] | (rw [show ((w1.alloc (.cells #[.int .i64 0, .string ⟨#[]⟩, .string ⟨#[]⟩, .float .f64 0, .int .i64 0, .slice none 0 0] 57)).alloc (.cells #[.int .i64 0, .string ⟨#[]⟩, .string ⟨#[]⟩, .float .f64 0, .int .i64 0, .slice none 0 0] 57)) = w2 from hw2])
  clear hw2 hb0 p0 p1 p2 p3 p4 p5
  generalize w1.heap.size = B1 at hFE ⊢
  have hsz2 := hFE.sz
  have hlt2 := hFE.lt
  have HC0 : Hid (∀ w3, Upd (OneB B1) w2 w3 → CloW Bo Bs (B1 + 2) stop [] w3) := Lib.hid (fun w3 h3 => ((HCS.out.upd hUU).go (B1 + 2) (by omega) (by omega) (by omega)).upd h3 (fun b hb => by have : b = B1 := hb; omega))
  have HF0 := Lib.hid ((hFE.setK 0 (.int .i64 2)).setK 3 (.float .f64 13830554455654793216))
  have HU2 := Lib.hid hUU
  obtain ⟨⟨k0, k1, k2, k3, k4, k5⟩, kf0, kf1, kf2, kf3, kf4, kf5⟩ := cells6 hFE.b1
  clear hFE hUU
  refine wp_cut (FR 158 (fun g wx => (g 1 = .func (.func fn) #[] #[.pointer (some ⟨Bo, 0, none⟩), .pointer (some ⟨Bs, 0, none⟩)] ∧ g 2 = .pointer (some ⟨w.heap.size, 0, none⟩) ∧ g 4 = .string u ∧ g 5 = .bool false ∧ g 6 = .int .i64 1 ∧ g 7 = .pointer (some ⟨B1, 0, none⟩) ∧ g 8 = .pointer (some ⟨B1 + 1, 0, none⟩)) ∧ wx = (w2.setCell ⟨B1, 0, none⟩ (.int .i64 2)).setCell ⟨B1, 3, none⟩ (.float .f64 13830554455654793216))) ?rest ?first
  case first =>
    intro J K hJ hK
    go_wp2_with fail
    refine wp_loop_ghost_k (fun mm => FR 158 (fun g wx => mm = 0 ∧ (g 1 = .func (.func fn) #[] #[.pointer (some ⟨Bo, 0, none⟩), .pointer (some ⟨Bs, 0, none⟩)] ∧ g 2 = .pointer (some ⟨w.heap.size, 0, none⟩) ∧ g 4 = .string u ∧ g 5 = .bool false ∧ g 6 = .int .i64 0 ∧ g 7 = .pointer (some ⟨B1, 0, none⟩) ∧ g 8 = .pointer (some ⟨B1 + 1, 0, none⟩)) ∧ wx = w2)) 0 ?atStart ?round
    case atStart =>
      refine FR.intro (by rfl) ?_
      exact ⟨rfl, ⟨rfl, rfl, rfl, rfl, rfl, rfl, rfl⟩, rfl⟩
    case round =>
      intro gk
      refine FR.rest ?_
      rintro g wx ⟨hm, ⟨e1, e2, e4, e5, e6, e7, e8⟩, rfl⟩
      rw [lit158]
      simp only [e1, e2, e4, e5, e6, e7, e8]
      clear e1 e2 e4 e5 e6 e7 e8 hm
      intro J2 K2 hJ2 hK2
      have hbv : (bAt u 0 : Int) = 91 := by rw [h91]; rfl
      have hkz : (0 : Int) < (u.size : Int) := by omega
      as_aux_lemma =>
        go_wp2_with fail
        refine Met.intro ?_
        go_step
        refine FR.intro (by rfl) ?_
        exact ⟨⟨rfl, rfl, rfl, rfl, rfl, rfl, rfl⟩, rfl⟩
  case rest =>
  refine FR.rest ?_
  rintro g w3 ⟨⟨e1, e2, e4, e5, e6, e7, e8⟩, rfl⟩
  rw [lit158]
  simp only [e1, e2, e4, e5, e6, e7, e8]
  clear e1 e2 e4 e5 e6 e7 e8 k0 k1 k2 k3 k4 k5 kf0 kf1 kf2 kf3 kf4 kf5
  have hev0 : Hid (EI KA (VI u q.kids n.kids) w.heap.size B1 Bo Bs stop [.int .i64 5, .string u, .string st, .float .f64 f, .int .i64 ix, .slice none 0 0] (kA 0) [] w ((w2.setCell ⟨B1, 0, none⟩ (.int .i64 2)).setCell ⟨B1, 3, none⟩ (.float .f64 13830554455654793216))) :=
    Lib.hid ⟨Ev.nil _ _, Going.zero _, 0, ByteArray.empty, ByteArray.empty, 0, 0, HF0.out, HC0.out _ (((Upd.refl _ _).setOne 0 _).setOne 3 _), hlts.2⟩
  clear HF0 HC0
  generalize ((w2.setCell ⟨B1, 0, none⟩ (.int .i64 2)).setCell ⟨B1, 3, none⟩ (.float .f64 13830554455654793216)) = w3 at hev0 ⊢
  go_wp2_with fail
  refine wp_loop_ghost_k (fun mm => FR 158 (fun g wx => ∃ (l : List (Rs × Rs)) (i : Nat), mm = q.kids.length - l.length ∧ (g 1 = .func (.func fn) #[] #[.pointer (some ⟨Bo, 0, none⟩), .pointer (some ⟨Bs, 0, none⟩)] ∧ g 2 = .pointer (some ⟨w.heap.size, 0, none⟩) ∧ g 4 = .string u ∧ g 5 = .bool false ∧ g 6 = .int .i64 (i : Int) ∧ g 7 = .pointer (some ⟨B1, 0, none⟩) ∧ g 8 = .pointer (some ⟨B1 + 1, 0, none⟩) ∧ g 12 = .int .i64 (l.length : Int)) ∧ l.length ≤ q.kids.length ∧ AtE u i (q.kids.drop l.length) ∧ EI KA (VI u q.kids n.kids) w.heap.size B1 Bo Bs stop [.int .i64 5, .string u, .string st, .float .f64 f, .int .i64 ix, .slice none 0 0] (kA l.length) l w wx)) q.kids.length ?atStart ?round
  case atStart =>
    refine FR.intro (by rfl) ?_
    exact ⟨[], 1, rfl, ⟨rfl, rfl, rfl, rfl, rfl, rfl, rfl, rfl⟩, Nat.zero_le _, HAt.out, hev0.out⟩
  case round =>
    clear HX hev0 HCS HU1 HU2
    intro gk
    refine FR.rest ?_
    rintro g wx ⟨l, i, hm, ⟨e1, e2, e4, e5, e6, e7, e8, e12⟩, hll, hat, hei⟩
    rw [lit158]
    simp only [e1, e2, e4, e5, e6, e7, e8, e12]
    clear e1 e2 e4 e5 e6 e7 e8 e12
    intro J2 K2 hJ2 hK2
    have Hm := Lib.hid hm; clear hm
    by_cases hj : l.length < q.kids.length
    rotate_left
    · have hll2 : l.length = q.kids.length := by omega
      rw [List.drop_eq_nil_of_le (by omega)] at hat
      simp only [AtE] at hat
      obtain ⟨htl, htl2⟩ := hat
      have HTl := Lib.hid htl2; clear htl2
      obtain ⟨hev, hgo, c0, c1, c2, c3, c4, hfc⟩ := hei
      have hcn : l.length = cutN stop q.kids.length := by rw [← hll2]; exact hgo.all.symm
      have HCn := Lib.hid hcn; clear hcn hll2
      have HEv := Lib.hid hev; clear hev hgo
      by_cases hz2 : i < u.size
      rotate_left
      · have hkz : ¬ (i : Int) < (u.size : Int) := by omega
        have HF := Lib.hid hfc; clear hfc
        go_wp2_with fail
        go_end0
        exact ⟨rfl, l, _, HCn.out, HEv.out, HF.out.cw, HF.out.fe.up⟩
      obtain ⟨⟨k0, k1, k2, k3, k4, k5⟩, kf0, kf1, kf2, kf3, kf4, kf5⟩ := cells6 hfc.fe.b1
      have hfc1 := hfc.setK 3 (.float .f64 (keyF (l.length + 1)))
      have HF1 : Hid (FC w.heap.size B1 Bo Bs stop [.int .i64 5, .string u, .string st, .float .f64 f, .int .i64 ix, .slice none 0 0] (kA (l.length + 1)) (vC c0 c1 c2 c3 c4) l w (wx.setCell ⟨B1, 3, none⟩ (.float .f64 (keyF (l.length + 1))))) := Lib.hid hfc1
      clear hfc hfc1
      have hadd : ∀ t w, (binOp .add t (.float .f64 (keyF l.length)) (.float .f64 4607182418800017408)).run Tryz.prog w = .ok (.float .f64 (keyF (l.length + 1))) w := fun t w => fadd_run t (keyF_add l.length) w
      have hkz : (i : Int) < (u.size : Int) := by omega
      go_upto_block 4 with (fail)
      clear k0 k1 k2 k3 k4 k5 kf0 kf1 kf2 kf3 kf4 kf5 hadd hkz
      generalize (wx.setCell ⟨B1, 3, none⟩ (.float .f64 (keyF (l.length + 1)))) = w4 at HF1 ⊢
      refine wp_cut (FR 158 (fun g wy => ∃ k : Nat, (g 1 = .func (.func fn) #[] #[.pointer (some ⟨Bo, 0, none⟩), .pointer (some ⟨Bs, 0, none⟩)] ∧ g 2 = .pointer (some ⟨w.heap.size, 0, none⟩) ∧ g 4 = .string u ∧ g 5 = .bool false ∧ g 6 = .int .i64 (k : Int) ∧ g 7 = .pointer (some ⟨B1, 0, none⟩) ∧ g 8 = .pointer (some ⟨B1 + 1, 0, none⟩) ∧ g 12 = .int .i64 (l.length : Int)) ∧ i ≤ k ∧ k ≤ u.size ∧ wy = w4)) ?restT ?firstT
      case firstT =>
        intro J3 K3 hJ3 hK3
        go_wp2_with fail
        refine wp_loop_ghost_k (fun mm => FR 158 (fun g wy => ∃ k : Nat, mm = u.size - k ∧ (g 1 = .func (.func fn) #[] #[.pointer (some ⟨Bo, 0, none⟩), .pointer (some ⟨Bs, 0, none⟩)] ∧ g 2 = .pointer (some ⟨w.heap.size, 0, none⟩) ∧ g 4 = .string u ∧ g 5 = .bool false ∧ g 6 = .int .i64 (k : Int) ∧ g 7 = .pointer (some ⟨B1, 0, none⟩) ∧ g 8 = .pointer (some ⟨B1 + 1, 0, none⟩) ∧ g 12 = .int .i64 (l.length : Int)) ∧ i ≤ k ∧ k ≤ u.size ∧ wy = w4)) (u.size - i) ?atStartT ?roundT
        case atStartT =>
          refine FR.intro (by rfl) ?_
          exact ⟨i, rfl, ⟨rfl, rfl, rfl, rfl, rfl, rfl, rfl, rfl⟩, Nat.le_refl _, htl, rfl⟩
        case roundT =>
          intro gk3
          refine FR.rest ?_
          rintro g wy ⟨k, hm3, ⟨e1, e2, e4, e5, e6, e7, e8, e12⟩, hk1, hk2, rfl⟩
          rw [lit158]
          simp only [e1, e2, e4, e5, e6, e7, e8, e12]
          clear e1 e2 e4 e5 e6 e7 e8 e12
          intro J4 K4 hJ4 hK4
          have Hm3 := Lib.hid hm3; clear hm3
          have hb := bAt_le u k
          by_cases hx : k < u.size
          rotate_left
          · have hkz : ¬ (k : Int) < (u.size : Int) := by omega
            as_aux_lemma =>
              go_wp2_with fail
              refine Met.intro ?_
              go_step
              refine FR.intro (by rfl) ?_
              exact ⟨k, ⟨rfl, rfl, rfl, rfl, rfl, rfl, rfl, rfl⟩, by omega, by omega, rfl⟩
          have hkz : (k : Int) < (u.size : Int) := by omega
          by_cases h32' : bAt u k ≤ 32
          · have h32 : (bAt u k : Int) ≤ 32 := by omega
            as_aux_lemma =>
              go_wp2_with fail
              refine Handed.intro (u.size - (k + 1)) ?_ ?_
              · have := Hm3.out; omega
              go_step
              refine FR.intro (by rfl) ?_
              exact ⟨k + 1, rfl, ⟨rfl, rfl, rfl, rfl, by simp only [slotOf]; congr 1, rfl, rfl, rfl⟩, by omega, by omega, rfl⟩
          · have h93 := HTl.out k hk1 hx
            have h32 : ¬ (bAt u k : Int) ≤ 32 := by omega
            have e44 : ((bAt u k : Int) == 44) = false := by simp; omega
            have e58 : ((bAt u k : Int) == 58) = false := by simp; omega
            clear h93
            as_aux_lemma =>
              go_wp2_with fail
              refine Met.intro ?_
              go_step
              refine FR.intro (by rfl) ?_
              exact ⟨k, ⟨rfl, rfl, rfl, rfl, rfl, rfl, rfl, rfl⟩, by omega, by omega, rfl⟩
      case restT =>
      refine FR.rest ?_
      rintro g w4' ⟨k, ⟨e1, e2, e4, e5, e6, e7, e8, e12⟩, hk1, hk2, rfl⟩
      rw [lit158]
      simp only [e1, e2, e4, e5, e6, e7, e8, e12]
      clear e1 e2 e4 e5 e6 e7 e8 e12
      have HPN := Lib.hid (fun wx => pany_none u k wx hs hk2 (fun x h1 h2 => HTl.out x (by omega) h2))
      go_wp2_with fail
      refine (HPN.out _).mono ?_
      rintro e w5 ⟨rfl, hu5⟩
      have hf5 := HF1.out.keep hu5
      clear hu5
      obtain ⟨_, vf0, vf1, vf2, vf3, vf4, vf5⟩ := cells6 hf5.fe.b2
      have HF6 : Hid (FC w.heap.size B1 Bo Bs stop [.int .i64 5, .string u, .string st, .float .f64 f, .int .i64 ix, .slice none 0 0] (kA (l.length + 1)) (vC 0 ByteArray.empty ByteArray.empty 0 0) l w ((((((w5.setCell ⟨B1 + 1, 0, none⟩ (.int .i64 0)).setCell ⟨B1 + 1, 1, none⟩ (.string ByteArray.empty)).setCell ⟨B1 + 1, 2, none⟩ (.string ByteArray.empty)).setCell ⟨B1 + 1, 3, none⟩ (.float .f64 0)).setCell ⟨B1 + 1, 4, none⟩ (.int .i64 0)).setCell ⟨B1 + 1, 5, none⟩ (.slice none 0 0))) :=
        Lib.hid ((((((hf5.setV 0 (.int .i64 0)).setV 1 (.string ByteArray.empty)).setV 2 (.string ByteArray.empty)).setV 3 (.float .f64 0)).setV 4 (.int .i64 0)).setV 5 (.slice none 0 0))
      clear hf5
      go_wp2_with fail
      refine bodyPost_ret (v := .tuple #[]) (by simp [results, Tryz.results54, go_sem]) rfl ?_
      exact ⟨rfl, l, _, HCn.out, HEv.out, HF6.out.cw, HF6.out.fe.up⟩
    rw [List.drop_eq_getElem_cons hj] at hat
    obtain ⟨m, hm, htr⟩ := TreesR.get _ _ HN.out l.length q.kids[l.length] (List.getElem?_eq_getElem hj)
    generalize hp : q.kids[l.length] = p at hat htr
    have HPj : Hid (q.kids[l.length]? = some p) := Lib.hid (by rw [List.getElem?_eq_getElem hj, hp])
    clear hp
    have HMj := Lib.hid hm; clear hm
    simp only [AtE] at hat
    obtain ⟨hsk, hpv, hend, hpe, hnext⟩ := hat
    have hbyte := hpv.byte
    have hlt := PVal.lt p hpv
    have hsk1 := hsk.1
    have HSk := Lib.hid hsk.2; clear hsk
    have HNext := Lib.hid hnext; clear hnext
    have HPA := Lib.hid (fun wx hT hl hv => pany_any lo u p m wx hs hpv htr hend hT hl hv)
    clear hpv htr hend
    obtain ⟨hev, hgo, c0, c1, c2, c3, c4, hfc⟩ := hei
    have HEv := Lib.hid hev; clear hev
    have HGo := Lib.hid hgo; clear hgo
    obtain ⟨⟨k0, k1, k2, k3, k4, k5⟩, kf0, kf1, kf2, kf3, kf4, kf5⟩ := cells6 hfc.fe.b1
    have hfc1 := hfc.setK 3 (.float .f64 (keyF (l.length + 1)))
    have HF1 : Hid (FC w.heap.size B1 Bo Bs stop [.int .i64 5, .string u, .string st, .float .f64 f, .int .i64 ix, .slice none 0 0] (kA (l.length + 1)) (vC c0 c1 c2 c3 c4) l w (wx.setCell ⟨B1, 3, none⟩ (.float .f64 (keyF (l.length + 1))))) := Lib.hid hfc1
    clear hfc hfc1
    have hadd : ∀ t w, (binOp .add t (.float .f64 (keyF l.length)) (.float .f64 4607182418800017408)).run Tryz.prog w = .ok (.float .f64 (keyF (l.length + 1))) w := fun t w => fadd_run t (keyF_add l.length) w
    have hkz : (i : Int) < (u.size : Int) := by omega
    go_upto_block 4 with (fail)
    clear k0 k1 k2 k3 k4 k5 kf0 kf1 kf2 kf3 kf4 kf5 hadd hkz
    generalize (wx.setCell ⟨B1, 3, none⟩ (.float .f64 (keyF (l.length + 1)))) = w4 at HF1 ⊢
    refine wp_cut (FR 158 (fun g wy => (g 1 = .func (.func fn) #[] #[.pointer (some ⟨Bo, 0, none⟩), .pointer (some ⟨Bs, 0, none⟩)] ∧ g 2 = .pointer (some ⟨w.heap.size, 0, none⟩) ∧ g 4 = .string u ∧ g 5 = .bool false ∧ g 6 = .int .i64 (p.b : Int) ∧ g 7 = .pointer (some ⟨B1, 0, none⟩) ∧ g 8 = .pointer (some ⟨B1 + 1, 0, none⟩) ∧ g 12 = .int .i64 (l.length : Int)) ∧ wy = w4)) ?restI ?firstI
    case firstI =>
      intro J3 K3 hJ3 hK3
      go_wp2_with fail
      refine wp_loop_ghost_k (fun mm => FR 158 (fun g wy => ∃ k : Nat, mm = p.b - k ∧ (g 1 = .func (.func fn) #[] #[.pointer (some ⟨Bo, 0, none⟩), .pointer (some ⟨Bs, 0, none⟩)] ∧ g 2 = .pointer (some ⟨w.heap.size, 0, none⟩) ∧ g 4 = .string u ∧ g 5 = .bool false ∧ g 6 = .int .i64 (k : Int) ∧ g 7 = .pointer (some ⟨B1, 0, none⟩) ∧ g 8 = .pointer (some ⟨B1 + 1, 0, none⟩) ∧ g 12 = .int .i64 (l.length : Int)) ∧ i ≤ k ∧ k ≤ p.b ∧ wy = w4)) (p.b - i) ?atStartI ?roundI
      case atStartI =>
        refine FR.intro (by rfl) ?_
        exact ⟨i, rfl, ⟨rfl, rfl, rfl, rfl, rfl, rfl, rfl, rfl⟩, Nat.le_refl _, hsk1, rfl⟩
      case roundI =>
        intro gk3
        refine FR.rest ?_
        rintro g wy ⟨k, hm3, ⟨e1, e2, e4, e5, e6, e7, e8, e12⟩, hk1, hk2, rfl⟩
        rw [lit158]
        simp only [e1, e2, e4, e5, e6, e7, e8, e12]
        clear e1 e2 e4 e5 e6 e7 e8 e12
        intro J4 K4 hJ4 hK4
        have Hm3 := Lib.hid hm3; clear hm3
        have hb := bAt_le u k
        have hkz : (k : Int) < (u.size : Int) := by omega
        by_cases hx : k < p.b
        · rcases HSk.out k hk1 hx with h | h | h
          · have h32 : (bAt u k : Int) ≤ 32 := by omega
            as_aux_lemma =>
              go_wp2_with fail
              refine Handed.intro (p.b - (k + 1)) ?_ ?_
              · have := Hm3.out; omega
              go_step
              refine FR.intro (by rfl) ?_
              exact ⟨k + 1, rfl, ⟨rfl, rfl, rfl, rfl, by simp only [slotOf]; congr 1, rfl, rfl, rfl⟩, by omega, by omega, rfl⟩
          · have hbv : (bAt u k : Int) = 44 := by omega
            as_aux_lemma =>
              go_wp2_with fail
              refine Handed.intro (p.b - (k + 1)) ?_ ?_
              · have := Hm3.out; omega
              go_step
              refine FR.intro (by rfl) ?_
              exact ⟨k + 1, rfl, ⟨rfl, rfl, rfl, rfl, by simp only [slotOf]; congr 1, rfl, rfl, rfl⟩, by omega, by omega, rfl⟩
          · have hbv : (bAt u k : Int) = 58 := by omega
            as_aux_lemma =>
              go_wp2_with fail
              refine Handed.intro (p.b - (k + 1)) ?_ ?_
              · have := Hm3.out; omega
              go_step
              refine FR.intro (by rfl) ?_
              exact ⟨k + 1, rfl, ⟨rfl, rfl, rfl, rfl, by simp only [slotOf]; congr 1, rfl, rfl, rfl⟩, by omega, by omega, rfl⟩
        obtain rfl : k = p.b := by omega
        have h32 : ¬ (bAt u p.b : Int) ≤ 32 := by omega
        have e44 : ((bAt u p.b : Int) == 44) = false := by simp; omega
        have e58 : ((bAt u p.b : Int) == 58) = false := by simp; omega
        as_aux_lemma =>
          go_wp2_with fail
          refine Met.intro ?_
          go_step
          refine FR.intro (by rfl) ?_
          exact ⟨⟨rfl, rfl, rfl, rfl, rfl, rfl, rfl, rfl⟩, rfl⟩
    case restI =>
    refine FR.rest ?_
    rintro g w4' ⟨⟨e1, e2, e4, e5, e6, e7, e8, e12⟩, rfl⟩
    rw [lit158]
    simp only [e1, e2, e4, e5, e6, e7, e8, e12]
    clear e1 e2 e4 e5 e6 e7 e8 e12
    have hbo4 : ¬ OneB Bo 0 := fun hc => by have : 0 = Bo := hc; omega
    have HT4 := Lib.hid (HT.out.upd HF1.out.fe.up (fun b hb => by have : b = Bo := hb; omega))
    have HV4 := Lib.hid (HVT.out.updS HF1.out.fe.up hbo4)
    have hlo4 : lo ≤ w4'.heap.size := Nat.le_trans hlo HF1.out.fe.up.size
    go_wp2_with fail
    refine (HPA.out _ HT4.out hlo4 HV4.out).mono ?_
    rintro e w5 ⟨r, hr, rfl, hu5⟩
    have HR := Lib.hid hr; clear hr
    have hf5 := HF1.out.keep hu5
    clear hu5 HPA HT4 HV4 hlo4
    obtain ⟨_, vf0, vf1, vf2, vf3, vf4, vf5⟩ := cells6 hf5.fe.b2
    have HF6 : Hid (FC w.heap.size B1 Bo Bs stop [.int .i64 5, .string u, .string st, .float .f64 f, .int .i64 ix, .slice none 0 0] (kA (l.length + 1)) (vC (r.ty : Int) r.raw r.st r.f r.ix) l w ((((((w5.setCell ⟨B1 + 1, 0, none⟩ (.int .i64 (r.ty : Int))).setCell ⟨B1 + 1, 1, none⟩ (.string r.raw)).setCell ⟨B1 + 1, 2, none⟩ (.string r.st)).setCell ⟨B1 + 1, 3, none⟩ (.float .f64 r.f)).setCell ⟨B1 + 1, 4, none⟩ (.int .i64 r.ix)).setCell ⟨B1 + 1, 5, none⟩ (.slice none 0 0))) :=
      Lib.hid ((((((hf5.setV 0 (.int .i64 (r.ty : Int))).setV 1 (.string r.raw)).setV 2 (.string r.st)).setV 3 (.float .f64 r.f)).setV 4 (.int .i64 r.ix)).setV 5 (.slice none 0 0))
    clear hf5
    go_upto_region 42 with (fail)
    clear vf0 vf1 vf2 vf3 vf4 vf5
    generalize ((((((w5.setCell ⟨B1 + 1, 0, none⟩ (.int .i64 (r.ty : Int))).setCell ⟨B1 + 1, 1, none⟩ (.string r.raw)).setCell ⟨B1 + 1, 2, none⟩ (.string r.st)).setCell ⟨B1 + 1, 3, none⟩ (.float .f64 r.f)).setCell ⟨B1 + 1, 4, none⟩ (.int .i64 r.ix)).setCell ⟨B1 + 1, 5, none⟩ (.slice none 0 0)) = w6 at HF6 ⊢
    obtain ⟨⟨v0, v1, v2, v3, v4, v5⟩, vf0, vf1, vf2, vf3, vf4, vf5⟩ := cells6 HF6.out.fe.b2
    obtain ⟨⟨p0, p1, p2, p3, p4, p5⟩, _⟩ := cells6 HF6.out.fe.b0
    have HF7 := Lib.hid (HF6.out.setV 4 (.int .i64 ((p.b : Int) + ix)))
    have hpb : (p.b : Int) < 1048576 := by omega
    go_upto_region 46 with (fail)
    clear p0 p1 p2 p3 p4 p5 v0 v1 v2 v3 v4 v5 vf0 vf1 vf2 vf3 vf4 vf5
    generalize (w6.setCell ⟨B1 + 1, 4, none⟩ (.int .i64 ((p.b : Int) + ix))) = w7 at HF7 ⊢
    obtain ⟨⟨k0, k1, k2, k3, k4, k5⟩, _⟩ := cells6 HF7.out.fe.b1
    obtain ⟨⟨v0, v1, v2, v3, v4, v5⟩, _⟩ := cells6 HF7.out.fe.b2
    have hlb : l.length ≤ 100000000 := by omega
    have hcl := HFn.out.2 Bo Bs (B1 + 2) stop l ⟨2, ByteArray.empty, ByteArray.empty, keyF (l.length + 1), 0⟩ ⟨r.ty, r.raw, r.st, r.f, (p.b : Int) + ix⟩ w7 HF7.out.cw hlb
    simp only [show ((2 : Nat) : Int) = 2 from rfl] at hcl
    have HCl := Lib.hid hcl; clear hcl
    have hev8 : Hid (Ev KA (VI u q.kids n.kids) (l ++ [(⟨2, ByteArray.empty, ByteArray.empty, keyF (l.length + 1), 0⟩, ⟨r.ty, r.raw, r.st, r.f, (p.b : Int) + ix⟩)])) := Lib.hid (HEv.out.snoc ⟨rfl, rfl, rfl, rfl⟩ ⟨p, m, HPj.out, HMj.out, HR.out⟩)
    have hcf := HFn.out.1
    go_wp2_with fail
    refine HCl.out.mono ?_
    rintro e w8 ⟨rfl, hcw8, hu8⟩
    clear k0 k1 k2 k3 k4 k5 v0 v1 v2 v3 v4 v5 hcf
    have HF8 := Lib.hid (HF7.out.clo hu8 hcw8)
    clear hcw8 hu8 HCl
    by_cases he : (l.length : Int) + 1 = stop
    · rw [decide_eq_true he]
      go_wp2_with fail
      refine bodyPost_ret (v := .tuple #[]) (by simp [results, Tryz.results54, go_sem]) rfl ?_
      exact ⟨rfl, _, _, by rw [HGo.out.last hj he, List.length_append]; rfl, hev8.out, HF8.out.cw, HF8.out.fe.up⟩
    · rw [decide_eq_false he]
      go_wp2_with fail
      refine Handed.intro (q.kids.length - (l.length + 1)) ?_ ?_
      · have := Hm.out; omega
      go_step
      refine FR.intro (by rfl) ?_
      exact ⟨_, p.e + 1, by rw [List.length_append]; rfl, ⟨rfl, rfl, rfl, rfl, by simp only [slotOf]; congr 1, rfl, rfl, by simp only [slotOf, List.length_append, List.length_singleton]; congr 1⟩, by rw [List.length_append]; exact hj, by rw [List.length_append]; exact HNext.out, hev8.out, by rw [List.length_append]; exact HGo.out.next he, _, _, _, _, _, by rw [List.length_append]; exact HF8.out⟩
end Go.Proofs.YtggdcpmampjncaaGreatDoor
