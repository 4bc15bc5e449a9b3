/- What the row's listed variables read as gives the tables that ParseFloat reads. -/
import Derived.Test.YtkocponnjfkchaaGreatDoorTabs
import Derived.Test.YtkocponnjfkchaaGreatDoorProg
import Derived.Test.YtkocponnjfkchaaGreatDoorRows
import Derived.Lib.LaidU8
import Derived.OpenShut
import Derived.LaidLaws
namespace Go.Proofs.YtkocponnjfkchaaGreatDoor
open Go.RowKit

section
variable {P : Program} {w : World} {fuel : Nat} {t : TypeId} {cs : List Value} {p : List MemPlace}
theorem trod_float {k : FloatKind} {d : DataW Unit} (ht : P.underlying t = some (.float k)) (h : DataW.trod (fun _ => ()) P w 0 (fun _ => true) false fuel t cs = some (d, p)) : ∃ b, cs = [.float k b] ∧ d = .lit (.float k b) := by
  cases fuel with
  | zero => simp [DataW.trod] at h
  | succ n =>
    unfold DataW.trod at h
    rw [ht] at h
    split at h <;> simp_all
theorem trod_err {ms : Array (String × TypeId)} {d : DataW Unit} (ht : P.underlying t = some (.interface ms)) (h : DataW.trod (fun _ => ()) P w 0 (fun _ => true) false fuel t cs = some (d, p)) : cs = [.nilIface] ∨ ∃ u v, cs = [.iface u v] := by
  cases fuel with
  | zero => simp [DataW.trod] at h
  | succ n =>
    unfold DataW.trod at h
    rw [ht] at h
    split at h <;> simp_all
/-- A struct of fields of one cell each. -/
theorem struct_flat {fs : Array Field} {ds : List (DataW Unit)} (ht : P.underlying t = some (.struct fs)) (hf : ∀ (i : Nat) (f : Field), fs[i]? = some f → f.offset = i ∧ P.cellsOf f.type = 1) (hct : P.cellsOf t = fs.size)
    (h : DataW.trod (fun _ => ()) P w 0 (fun _ => true) false fuel t cs = some (.agg ds, p)) :
    ds.length = fs.size ∧ cs.length = fs.size ∧ ∀ (i : Nat) (f : Field), fs[i]? = some f → ∃ c d n q, cs[i]? = some c ∧ ds[i]? = some d ∧ DataW.trod (fun _ => ()) P w 0 (fun _ => true) false n f.type [c] = some (d, q) := by
  obtain ⟨xs, n, rfl, hx, hl, hxl, hall⟩ := DataW.trod_struct ht h
  simp only [Prod.mk.injEq, DataW.agg.injEq] at hx
  obtain ⟨rfl, rfl⟩ := hx
  refine ⟨by rw [List.length_map, hxl], by rw [hl, hct], fun i f hi => ?_⟩
  have hlt : i < fs.size := (Array.getElem?_eq_some_iff.1 hi).1
  have h1 := hall i f hi
  obtain ⟨e1, e2⟩ := hf i f hi
  rw [e1, e2, List.getElem?_eq_getElem (by omega : i < xs.length)] at h1
  have h2 : (cs.drop i).take 1 = [cs[i]'(by omega)] := by
    rw [List.drop_eq_getElem_cons (by omega : i < cs.length)]
    rfl
  rw [h2] at h1
  exact ⟨_, _, n, _, List.getElem?_eq_getElem (by omega), by rw [List.getElem?_map, List.getElem?_eq_getElem (by omega : i < xs.length)]; rfl, h1⟩
theorem cells_get {a : Addr} {n : Nat} {l : List Value} (h : w.cells? 0 a n = some l) : l.length = n ∧ ∀ i, i < n → w.cell? (a.add i) = l[i]? := by
  simp only [World.cells?, Nat.zero_le, if_true] at h
  refine ⟨by have := Lib.mapM_length h; rw [List.length_range] at this; exact this, fun i hi => ?_⟩
  obtain ⟨b, h1, h2⟩ := Lib.mapM_at h i i (by rw [List.getElem?_range hi])
  rw [h1, h2]
/-- A slice that is not empty: its row, element by element. -/
theorem slice_open {e : TypeId} {ds sp : List (DataW Unit)} {sz : Nat} (ht : P.underlying t = some (.slice e)) (hsz : P.cellsOf e = sz) (hs : 0 < sz) (hn : 0 < ds.length)
    (h : DataW.trod (fun _ => ()) P w 0 (fun _ => true) false fuel t cs = some (.slice ds sp, p)) :
    ∃ B o c, cs = [.slice (some ⟨B, o, none⟩) ds.length c] ∧ B < w.heap.size ∧ ∀ k, k < ds.length → ∃ l d n q, l.length = sz ∧ (∀ i, i < sz → w.cell? ⟨B, o + k * sz + i, none⟩ = l[i]?) ∧ ds[k]? = some d ∧ DataW.trod (fun _ => ()) P w 0 (fun _ => true) false n e l = some (d, q) := by
  rcases DataW.trod_slice ht h with ⟨_, hx⟩ | ⟨⟨B, o, s⟩, len, cap, elems, rest, n, rfl, rfl, hx, hb, hlc, hc, hel, hE, _⟩
  · cases hx
  simp only [Prod.mk.injEq, DataW.slice.injEq] at hx
  obtain ⟨⟨rfl, rfl⟩, rfl⟩ := hx
  rw [List.length_map] at hn ⊢
  have step : ∀ k, k < elems.length → ∃ l x, w.cells? 0 ((⟨B, o, s⟩ : Addr).add (k * sz)) sz = some l ∧ elems[k]? = some x ∧ DataW.trod (fun _ => ()) P w 0 (fun _ => true) false n e l = some x := by
    intro k hk
    have h1 := hE k (by omega)
    rw [hsz, List.getElem?_eq_getElem hk, Option.bind_eq_some_iff] at h1
    obtain ⟨l, h2, h3⟩ := h1
    exact ⟨l, _, h2, List.getElem?_eq_getElem hk, h3⟩
  obtain ⟨l0, x0, h0, _, _⟩ := step 0 hn
  have hg := (cells_get h0).2 0 hs
  rw [Nat.zero_mul] at hg
  have ha : ((⟨B, o, s⟩ : Addr).add 0).add 0 = ⟨B, o, s⟩ := rfl
  rw [ha, List.getElem?_eq_getElem (by rw [(cells_get h0).1]; exact hs)] at hg
  have hsn : s = none := by
    unfold World.cell? at hg
    split at hg
    · cases s with
      | none => rfl
      | some x => simp at hg
    · cases hg
  subst hsn
  refine ⟨B, o, cap, by rw [hel], World.block_lt_of_cell? w _ hg, fun k hk => ?_⟩
  obtain ⟨l, x, h1, h2, h3⟩ := step k hk
  refine ⟨l, x.1, n, x.2, (cells_get h1).1, fun i hi => ?_, by rw [List.getElem?_map, h2]; rfl, h3⟩
  have := (cells_get h1).2 i hi
  rw [← this]
  congr 1
  unfold Addr.add
  split <;> split <;> simp_all <;> omega
end
section
variable {P : Program} {w : World} {n : Nat} {t : TypeId} {c : Value} {q : List MemPlace}
theorem int_cell {k k' : IntKind} {z : Int} (ht : P.underlying t = some (.int k)) (h : DataW.trod (fun _ => ()) P w 0 (fun _ => true) false n t [c] = some (.lit (.int k' z), q)) : c = .int k' z ∧ (Lit.int k' z).wf = true := by
  obtain ⟨m, e1, e2, e3⟩ := DataW.trod_int ht h
  simp only [Prod.mk.injEq, DataW.lit.injEq, Lit.int.injEq] at e2
  obtain ⟨⟨rfl, rfl⟩, _⟩ := e2
  exact ⟨by simpa using e1, e3⟩
theorem str_cell {b : List UInt8} (ht : P.underlying t = some .string) (h : DataW.trod (fun _ => ()) P w 0 (fun _ => true) false n t [c] = some (.lit (.string b), q)) : c = .string ⟨b.toArray⟩ := by
  obtain ⟨s, e1, e2, _⟩ := DataW.trod_string ht h
  simp only [Prod.mk.injEq, DataW.lit.injEq, Lit.string.injEq] at e2
  obtain ⟨rfl, _⟩ := e2
  obtain ⟨⟨a⟩⟩ := s
  simpa using e1
theorem flt_cell {k k' : FloatKind} {z : Nat} (ht : P.underlying t = some (.float k)) (h : DataW.trod (fun _ => ()) P w 0 (fun _ => true) false n t [c] = some (.lit (.float k' z), q)) : c = .float k' z := by
  obtain ⟨b, e1, e2⟩ := trod_float ht h
  simp only [DataW.lit.injEq, Lit.float.injEq] at e2
  obtain ⟨rfl, rfl⟩ := e2
  simpa using e1
theorem var_open {nm : String} {d : DataW Unit} {g : Nat} (hr : Lib.VarReads P w nm d) (hg : P.globalNamed nm = some g) (ht : (P.globals[g]?).map (·.type) = some t) :
    ∃ cs fuel p, (∀ i : Nat, w.cell? ⟨g, i, none⟩ = cs[i]?) ∧ DataW.trod (fun _ => ()) P w 0 (fun _ => true) false fuel t cs = some (d, p) := by
  obtain ⟨g', t', cs, fuel, p, h1, h2, h3, h4⟩ := hr
  obtain rfl := Option.some.inj (hg.symm.trans h1)
  obtain rfl := Option.some.inj (ht.symm.trans h2)
  exact ⟨cs.toList, fuel, p, fun i => by rw [World.var?_cell h1 h3 i, Array.getElem?_toList], h4⟩
end

theorem gLC : Tryz.prog.globalNamed "internal/strconv.leftcheats" = some 16 := by kernel_rfl
theorem tLC : (Tryz.prog.globals[16]?).map (·.type) = some 181 := by kernel_rfl
theorem gFI : Tryz.prog.globalNamed "internal/strconv.float64info" = some 10 := by kernel_rfl
theorem tFI : (Tryz.prog.globals[10]?).map (·.type) = some 129 := by kernel_rfl
theorem gPW : Tryz.prog.globalNamed "internal/strconv.powtab" = some 12 := by kernel_rfl
theorem tPW : (Tryz.prog.globals[12]?).map (·.type) = some 160 := by kernel_rfl
theorem gPT : Tryz.prog.globalNamed "internal/strconv.pow10Tab" = some 14 := by kernel_rfl
theorem tPT : (Tryz.prog.globals[14]?).map (·.type) = some 170 := by kernel_rfl
theorem gFP : Tryz.prog.globalNamed "internal/strconv.float64pow10" = some 13 := by kernel_rfl
theorem tFP : (Tryz.prog.globals[13]?).map (·.type) = some 162 := by kernel_rfl
theorem gOP : Tryz.prog.globalNamed "internal/strconv.optimize" = some 9 := by kernel_rfl
theorem tOP : (Tryz.prog.globals[9]?).map (·.type) = some 4 := by kernel_rfl
theorem gER : Tryz.prog.globalNamed "strconv.ErrRange" = some 6 := by kernel_rfl
theorem tER : (Tryz.prog.globals[6]?).map (·.type) = some 41 := by kernel_rfl
theorem gES : Tryz.prog.globalNamed "strconv.ErrSyntax" = some 5 := by kernel_rfl
theorem tES : (Tryz.prog.globals[5]?).map (·.type) = some 41 := by kernel_rfl
theorem cInt : Tryz.prog.cellsOf 3 = 1 := by kernel_rfl
theorem cUint : Tryz.prog.cellsOf 79 = 1 := by kernel_rfl
theorem cU64 : Tryz.prog.cellsOf 25 = 1 := by kernel_rfl
theorem cStr : Tryz.prog.cellsOf 9 = 1 := by kernel_rfl
theorem cFlt : Tryz.prog.cellsOf 28 = 1 := by kernel_rfl
theorem cFI : Tryz.prog.cellsOf 129 = 3 := by kernel_rfl
theorem cLC : Tryz.prog.cellsOf 180 = 2 := by kernel_rfl
theorem cPM : Tryz.prog.cellsOf 169 = 2 := by kernel_rfl

theorem fi_of {w : World} (hr : Lib.VarReads Tryz.prog w "internal/strconv.float64info" (.agg [.lit (.int .u64 52), .lit (.int .u64 11), .lit (.int .i64 (-1023))])) :
    w.cell? ⟨10, 0, none⟩ = some (.int .u64 52) ∧ w.cell? ⟨10, 1, none⟩ = some (.int .u64 11) ∧ w.cell? ⟨10, 2, none⟩ = some (.int .i64 (-1023)) := by
  obtain ⟨cs, fuel, p, hc, h⟩ := var_open hr gFI tFI
  obtain ⟨h1, h2, h3⟩ := struct_flat Tryz.underlying129 (by
    intro i f hi
    rcases i with _ | _ | _ | i
    · simp at hi; subst hi; exact ⟨rfl, cUint⟩
    · simp at hi; subst hi; exact ⟨rfl, cUint⟩
    · simp at hi; subst hi; exact ⟨rfl, cInt⟩
    · simp at hi) cFI h
  refine ⟨?_, ?_, ?_⟩
  · obtain ⟨c, d, n, q, e1, e2, e3⟩ := h3 0 _ rfl
    simp at e2; subst e2
    rw [hc, e1, (int_cell Tryz.underlying79 e3).1]
  · obtain ⟨c, d, n, q, e1, e2, e3⟩ := h3 1 _ rfl
    simp at e2; subst e2
    rw [hc, e1, (int_cell Tryz.underlying79 e3).1]
  · obtain ⟨c, d, n, q, e1, e2, e3⟩ := h3 2 _ rfl
    simp at e2; subst e2
    rw [hc, e1, (int_cell Tryz.underlying3 e3).1]
theorem pw_of {w : World} {zs : List Int} (hz : ∀ k, k < 9 → ∃ x : Nat, zs[k]? = some (x : Int) ∧ 1 ≤ x ∧ x ≤ 27 ∧ x = pwT k) (hl : zs.length = 9) (hr : Lib.VarReads Tryz.prog w "internal/strconv.powtab" (.slice (zs.map fun z => .lit (.int .i64 z)) [])) :
    ∃ B o c, w.cell? ⟨12, 0, none⟩ = some (.slice (some ⟨B, o, none⟩) 9 c) ∧ B < w.heap.size ∧ ∀ k, k < 9 → ∃ x : Nat, w.cell? ⟨B, o + k, none⟩ = some (.int .i64 (x : Int)) ∧ 1 ≤ x ∧ x ≤ 27 ∧ x = pwT k := by
  obtain ⟨cs, fuel, p, hc, h⟩ := var_open hr gPW tPW
  obtain ⟨B, o, c, rfl, hB, hk⟩ := slice_open Tryz.underlying160 cInt (by decide) (by rw [List.length_map, hl]; decide) h
  rw [List.length_map, hl] at hk hc
  refine ⟨B, o, c, by rw [hc]; rfl, hB, fun k h9 => ?_⟩
  obtain ⟨l, d, n, q, h1, h2, h3, h4⟩ := hk k h9
  obtain ⟨x, hx, hx1, hx2⟩ := hz k h9
  rw [List.getElem?_map, hx] at h3
  simp at h3; subst h3
  have h5 := h2 0 (by decide)
  match l, h1 with
  | [y], _ =>
    rw [(int_cell Tryz.underlying3 h4).1] at h5
    rw [Nat.mul_one, Nat.add_zero] at h5
    exact ⟨x, by rw [h5]; rfl, hx1, hx2⟩
theorem f10_len : f10L.length = 23 := rfl
theorem fp_of {w : World} (hr : Lib.VarReads Tryz.prog w "internal/strconv.float64pow10" (.slice (f10L.map fun z => .lit (.float .f64 z)) [])) :
    ∃ B o c, w.cell? ⟨13, 0, none⟩ = some (.slice (some ⟨B, o, none⟩) 23 c) ∧ B < w.heap.size ∧ ∀ k, k < 23 → ∃ x : Nat, w.cell? ⟨B, o + k, none⟩ = some (.float .f64 x) ∧ x = f10T k := by
  obtain ⟨cs, fuel, p, hc, h⟩ := var_open hr gFP tFP
  obtain ⟨B, o, c, rfl, hB, hk⟩ := slice_open Tryz.underlying162 cFlt (by decide) (by rw [List.length_map, f10_len]; decide) h
  rw [List.length_map, f10_len] at hk hc
  refine ⟨B, o, c, by rw [hc]; rfl, hB, fun k h9 => ?_⟩
  obtain ⟨l, d, n, q, h1, h2, h3, h4⟩ := hk k h9
  have hq : f10L[k]? = some (f10T k) := by
    rw [f10T, List.getD, List.getElem?_eq_getElem (by rw [f10_len]; exact h9)]; rfl
  rw [List.getElem?_map, hq] at h3
  simp at h3; subst h3
  have h5 := h2 0 (by decide)
  match l, h1 with
  | [y], _ =>
    rw [flt_cell Tryz.underlying28 h4] at h5
    rw [Nat.mul_one, Nat.add_zero] at h5
    exact ⟨_, by rw [h5]; rfl, rfl⟩
theorem cheat_len : Go.Pinned.cheatRows.length = 61 := by kernel_rfl
theorem lc_of {w : World} (hr : Lib.VarReads Tryz.prog w "internal/strconv.leftcheats" Go.Pinned.leftcheats) : ∃ B o c, LC 16 B o c w ∧ B < w.heap.size := by
  obtain ⟨cs, fuel, p, hc, h⟩ := var_open hr gLC tLC
  unfold Go.Pinned.leftcheats at h
  obtain ⟨B, o, c, rfl, hB, hk⟩ := slice_open Tryz.underlying181 cLC (by decide) (by rw [List.length_map, cheat_len]; decide) h
  rw [List.length_map, cheat_len] at hk hc
  have hrow : ∀ k, k < 61 → w.cell? ⟨B, o + k * 2, none⟩ = some (.int .i64 (cheatD k : Int)) ∧ w.cell? ⟨B, o + k * 2 + 1, none⟩ = some (.string (cheatS k)) := by
    intro k h9
    obtain ⟨l, d, n, q, h1, h2, h3, h4⟩ := hk k h9
    have hx : Go.Pinned.cheatRows[k]? = some (Go.Pinned.cheatRows[k]'(by rw [cheat_len]; exact h9)) := List.getElem?_eq_getElem _
    have e1 : cheatD k = (Go.Pinned.cheatRows[k]'(by rw [cheat_len]; exact h9)).1 := by unfold cheatD; rw [List.getD, hx]; rfl
    have e2 : cheatL k = (Go.Pinned.cheatRows[k]'(by rw [cheat_len]; exact h9)).2 := by unfold cheatL; rw [List.getD, hx]; rfl
    rw [List.getElem?_map, hx, Option.map_some, Option.some.injEq, ← e1, ← e2] at h3
    subst h3
    obtain ⟨_, _, g3⟩ := struct_flat Tryz.underlying180 (by
      intro i f hi
      rcases i with _ | _ | i
      · simp at hi; subst hi; exact ⟨rfl, cInt⟩
      · simp at hi; subst hi; exact ⟨rfl, cStr⟩
      · simp at hi) cLC h4
    constructor
    · obtain ⟨c, d, n, q, f1, f2, f3⟩ := g3 0 _ rfl
      simp at f2; subst f2
      have := h2 0 (by decide)
      rw [Nat.add_zero] at this
      rw [this, f1, (int_cell Tryz.underlying3 f3).1]
    · obtain ⟨c, d, n, q, f1, f2, f3⟩ := g3 1 _ rfl
      simp at f2; subst f2
      rw [h2 1 (by decide), f1, str_cell Tryz.underlying9 f3]
      rfl
  exact ⟨B, o, c, ⟨by rw [hc]; rfl, fun k h => (hrow k h).1, fun k h => (hrow k h).2⟩, hB⟩
theorem pow_len : Go.Pinned.pow10Rows.length = 696 := by kernel_rfl
theorem pt_of {w : World} (hr : Lib.VarReads Tryz.prog w "internal/strconv.pow10Tab" Go.Pinned.pow10Tab) : ∀ k, k < 696 → ∃ x y : Nat, w.cell? ⟨14, k * 2, none⟩ = some (.int .u64 (x : Int)) ∧ w.cell? ⟨14, k * 2 + 1, none⟩ = some (.int .u64 (y : Int)) ∧ x < 18446744073709551616 ∧ y < 18446744073709551616 ∧ p10T k = (x, y) := by
  obtain ⟨cs, fuel, p, hc, h⟩ := var_open hr gPT tPT
  unfold Go.Pinned.pow10Tab at h
  obtain ⟨xs, m, rfl, hx, hl, hxl, hall⟩ := DataW.trod_array Tryz.underlying170 h
  simp only [Prod.mk.injEq, DataW.agg.injEq] at hx
  obtain ⟨hx, _⟩ := hx
  intro k hk
  have h1 := hall k hk
  rw [cPM, List.getElem?_eq_getElem (by omega)] at h1
  have h2 : (xs.map (·.1))[k]? = some (xs[k]'(by omega)).1 := by rw [List.getElem?_map, List.getElem?_eq_getElem (by omega)]; rfl
  rw [← hx, List.getElem?_map, List.getElem?_eq_getElem (by rw [pow_len]; exact hk), Option.map_some, Option.some.injEq] at h2
  obtain ⟨_, g2, g3⟩ := struct_flat (ds := [.lit (.int .u64 (((Go.Pinned.pow10Rows[k]'(by rw [pow_len]; exact hk)).1 : Nat) : Int)), .lit (.int .u64 (((Go.Pinned.pow10Rows[k]'(by rw [pow_len]; exact hk)).2 : Nat) : Int))]) (p := (xs[k]'(by omega)).2) Tryz.underlying169 (by
    intro i f hi
    rcases i with _ | _ | i
    · simp at hi; subst hi; exact ⟨rfl, cU64⟩
    · simp at hi; subst hi; exact ⟨rfl, cU64⟩
    · simp at hi) cPM (by rw [h1, h2])
  refine ⟨(Go.Pinned.pow10Rows[k]'(by rw [pow_len]; exact hk)).1, (Go.Pinned.pow10Rows[k]'(by rw [pow_len]; exact hk)).2, ?_, ?_, ?_, ?_, by rw [p10T, List.getD, List.getElem?_eq_getElem (by rw [pow_len]; exact hk)]; rfl⟩
  · obtain ⟨c, d, n, q, f1, f2, f3⟩ := g3 0 _ rfl
    simp at f2; subst f2
    rw [hc, ← (int_cell Tryz.underlying25 f3).1, ← f1]
    simp
  · obtain ⟨c, d, n, q, f1, f2, f3⟩ := g3 1 _ rfl
    simp at f2; subst f2
    rw [hc, ← (int_cell Tryz.underlying25 f3).1, ← f1]
    simp
  · obtain ⟨c, d, n, q, f1, f2, f3⟩ := g3 0 _ rfl
    simp at f2; subst f2
    have := (int_cell Tryz.underlying25 f3).2
    simp [Lit.wf, IntKind.min, IntKind.max, IntKind.signed, IntKind.bits] at this
    omega
  · obtain ⟨c, d, n, q, f1, f2, f3⟩ := g3 1 _ rfl
    simp at f2; subst f2
    have := (int_cell Tryz.underlying25 f3).2
    simp [Lit.wf, IntKind.min, IntKind.max, IntKind.signed, IntKind.bits] at this
    omega
theorem op_of {w : World} (hr : Lib.VarReads Tryz.prog w "internal/strconv.optimize" (.lit (.bool true))) : w.cell? ⟨9, 0, none⟩ = some (.bool true) := by
  obtain ⟨cs, fuel, p, hc, h⟩ := var_open hr gOP tOP
  obtain ⟨b, rfl, e⟩ := DataW.trod_bool Tryz.underlying4 h
  simp at e
  rw [hc, ← e.1]; rfl
theorem er_of {w : World} {d : DataW Unit} (hr : Lib.VarReads Tryz.prog w "strconv.ErrRange" d) : ∃ ev, w.cell? ⟨6, 0, none⟩ = some ev ∧ (ev = .nilIface ∨ ∃ te pe, ev = .iface te pe) := by
  obtain ⟨cs, fuel, p, hc, h⟩ := var_open hr gER tER
  rcases trod_err Tryz.underlying41 h with rfl | ⟨u, v, rfl⟩
  · exact ⟨_, hc 0, .inl rfl⟩
  · exact ⟨_, hc 0, .inr ⟨u, v, rfl⟩⟩
theorem es_of {w : World} {d : DataW Unit} (hr : Lib.VarReads Tryz.prog w "strconv.ErrSyntax" d) : ∃ ev, w.cell? ⟨5, 0, none⟩ = some ev ∧ (ev = .nilIface ∨ ∃ te pe, ev = .iface te pe) := by
  obtain ⟨cs, fuel, p, hc, h⟩ := var_open hr gES tES
  rcases trod_err Tryz.underlying41 h with rfl | ⟨u, v, rfl⟩
  · exact ⟨_, hc 0, .inl rfl⟩
  · exact ⟨_, hc 0, .inr ⟨u, v, rfl⟩⟩
end Go.Proofs.YtkocponnjfkchaaGreatDoor
