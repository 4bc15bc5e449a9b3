/- The package's unescape: the characters of a string's inside. -/
import Derived.Test.YtggdcpmampjncaaGreatDoorGj3
import Derived.Test.YtggdcpmampjncaaGreatDoorShelf
import Derived.Test.YtggdcpmampjncaaGreatDoorSc
namespace Go.Proofs.YtggdcpmampjncaaGreatDoor
open Go.RowKit

/-- Cells written one behind the other. -/
def putL (cs : Array Value) : Nat → List Value → Array Value
  | _, [] => cs
  | o, v :: vs => putL (cs.setIfInBounds o v) (o + 1) vs
theorem putL_size : ∀ (vs : List Value) (cs : Array Value) (o : Nat), (putL cs o vs).size = cs.size
  | [], _, _ => rfl
  | v :: vs, cs, o => by simp only [putL]; rw [putL_size vs]; simp
theorem putL_out : ∀ (vs : List Value) (cs : Array Value) (o j : Nat), j < o ∨ o + vs.length ≤ j → (putL cs o vs)[j]? = cs[j]?
  | [], _, _, _, _ => rfl
  | v :: vs, cs, o, j, h => by
    simp only [putL]
    rw [putL_out vs _ _ j (by simp at h; omega), Array.getElem?_setIfInBounds, if_neg (by simp at h; omega)]
theorem putL_in : ∀ (vs : List Value) (cs : Array Value) (o j : Nat), o + vs.length ≤ cs.size → j < vs.length → (putL cs o vs)[o + j]? = vs[j]?
  | [], _, _, _, _, h => by simp at h
  | v :: vs, cs, o, 0, hz, _ => by
    simp only [putL, Nat.add_zero]
    rw [putL_out vs _ _ o (by omega), Array.getElem?_setIfInBounds, if_pos rfl, if_pos (by simp at hz; omega)]
    rfl
  | v :: vs, cs, o, j + 1, hz, h => by
    simp only [putL]
    rw [show o + (j + 1) = o + 1 + j by omega, putL_in vs _ _ j (by simp at hz ⊢; omega) (by simp at h; omega)]
    rfl
theorem setCells_heap (g T : Nat) (fr : Nat × Nat) : ∀ (vs : List Value) (o : Nat) (w : World) (cs : Array Value), w.heap[g]? = some (.cells cs T fr) → (w.setCells g o vs).heap[g]? = some (.cells (putL cs o vs) T fr)
  | [], _, _, _, h => h
  | v :: vs, o, w, cs, h => by
    simp only [World.setCells, putL]
    refine setCells_heap g T fr vs (o + 1) _ _ ?_
    have hlt : g < w.heap.size := (Array.getElem?_eq_some_iff.1 h).1
    simp [World.setCell, Array.getElem?_modify, h]
theorem setCells_upd (g : Nat) : ∀ (vs : List Value) (o : Nat) (w : World), Upd (OneB g) w (w.setCells g o vs)
  | [], _, w => Upd.refl _ w
  | v :: vs, o, w => by
    simp only [World.setCells]
    exact ((Upd.refl (OneB g) w).setOne o v).trans (setCells_upd g vs (o + 1) _)
theorem RowB.tail {B L g cap : Nat} {w : World} {acc z new : List UInt8} (h : RowB B w (.slice (some ⟨g, 0, none⟩) (acc ++ z).length cap) (acc ++ z)) (hL : acc.length = L) (hn : new.length ≤ z.length) :
    RowB B (w.setCells g L (bcells new)) (.slice (some ⟨g, 0, none⟩) (L + new.length) cap) (acc ++ new) := by
  obtain ⟨⟨h0, h1⟩, h2⟩ := h
  rcases h1 with ⟨h1, _⟩ | ⟨g', cap', cur, he, hb, hg, hc1, hc2, hz, ht⟩
  · cases h1
  injection he with e1 e2 e3
  injection e1 with e1
  injection e1 with e1
  subst e1 e3
  have hlen : (acc ++ z).length = L + z.length := by rw [List.length_append, hL]
  refine ⟨⟨by simp [bcells, hL], .inr ⟨g, cap, putL cur L (bcells new), by rw [List.length_append, hL], hb, setCells_heap g _ _ _ _ _ _ hg, by rw [List.length_append, hL]; omega, hc2, by rw [putL_size]; exact hz, ?_⟩⟩, h2⟩
  have hbl : (bcells new).length = new.length := by simp [bcells]
  rw [List.length_append, hL, Nat.mul_one]
  apply List.ext_getElem?
  intro j
  rw [List.getElem?_take, bcells_append]
  by_cases hj : j < L + new.length
  · rw [if_pos hj, Array.getElem?_toList]
    by_cases hjl : j < L
    · rw [putL_out _ _ _ _ (.inl hjl), List.getElem?_append_left (by simp [bcells]; omega)]
      have := congrArg (fun l => l[j]?) ht
      simp only [List.getElem?_take] at this
      rw [if_pos (by rw [hlen]; omega), Array.getElem?_toList, bcells_append, List.getElem?_append_left (by simp [bcells]; omega)] at this
      exact this
    · obtain ⟨d, rfl⟩ : ∃ d, j = L + d := ⟨j - L, by omega⟩
      rw [putL_in _ _ _ _ (by rw [hbl]; omega) (by rw [hbl]; omega), List.getElem?_append_right (by simp [bcells]; omega)]
      congr 1
      simp [bcells]; omega
  · rw [if_neg hj, List.getElem?_eq_none (by rw [List.length_append, hbl]; simp [bcells]; omega)]
theorem RowB.room {B g cap : Nat} {w : World} {acc z : List UInt8} (h : RowB B w (.slice (some ⟨g, 0, none⟩) (acc ++ z).length cap) (acc ++ z)) :
    (acc ++ z).length ≤ cap ∧ ∀ j, j < z.length → (w.cell? ⟨g, acc.length + j, none⟩).isSome = true ∧ w.frozen? ⟨g, acc.length + j, none⟩ = false := by
  obtain ⟨⟨h0, h1⟩, h2⟩ := h
  rcases h1 with ⟨h1, _⟩ | ⟨g', cap', cur, he, hb, hg, hc1, hc2, hz, ht⟩
  · cases h1
  injection he with e1 e2 e3
  injection e1 with e1
  injection e1 with e1
  subst e1 e3
  refine ⟨hc1, fun j hj => ⟨?_, frozen_of_row w g _ _ _ hg⟩⟩
  rw [cell_of_row w g _ _ _ _ hg, Array.getElem?_eq_getElem (by rw [List.length_append] at hc1; omega)]
  rfl
theorem runeCells_enc {c : Int} (h0 : 0 ≤ c) (h1 : c ≤ 1114111) (hhi : ¬ isHi c) (hlo : ¬ isLo c) : Lib.runeCells c = bcells (enc c) := by
  unfold isHi at hhi
  unfold isLo at hlo
  unfold Lib.runeCells
  by_cases c1 : c < 128
  · rw [Lib.encodeRuneZ_one h0 (by omega)]
    unfold enc; rw [if_pos c1]
    simp only [bcells, List.map_cons, List.map_nil, b8_nat h0 (by omega)]
  by_cases c2 : c < 2048
  · rw [Lib.encodeRuneZ_two (by omega) (by omega)]
    unfold enc; rw [if_neg c1, if_pos c2]
    simp only [bcells, List.map_cons, List.map_nil]
    rw [b8_nat (n := 192 + c / 64) (by omega) (by omega), b8_nat (n := 128 + c % 64) (by omega) (by omega)]
  by_cases c3 : c < 65536
  · rw [Lib.encodeRuneZ_three (by omega)]
    unfold enc; rw [if_neg c1, if_neg c2, if_pos c3]
    simp only [bcells, List.map_cons, List.map_nil]
    rw [b8_nat (n := 224 + c / 4096) (by omega) (by omega), b8_nat (n := 128 + c / 64 % 64) (by omega) (by omega), b8_nat (n := 128 + c % 64) (by omega) (by omega)]
  · rw [Lib.encodeRuneZ_four (by omega) (by omega)]
    unfold enc; rw [if_neg c1, if_neg c2, if_neg c3]
    simp only [bcells, List.map_cons, List.map_nil]
    rw [b8_nat (n := 240 + c / 262144) (by omega) (by omega), b8_nat (n := 128 + c / 4096 % 64) (by omega) (by omega), b8_nat (n := 128 + c / 64 % 64) (by omega) (by omega), b8_nat (n := 128 + c % 64) (by omega) (by omega)]

theorem RowB.form {B : Nat} {w : World} {v : Value} {l : List UInt8} (h : RowB B w v l) (hl : 0 < l.length) : ∃ g cap, v = .slice (some ⟨g, 0, none⟩) l.length cap := by
  rcases h.1.2 with ⟨rfl, h0⟩ | ⟨g, cap, cur, rfl, _⟩
  · omega
  · exact ⟨g, cap, rfl⟩
/-- The frame of unescape. -/
theorem lit153 (g : Nat → Value) : ((List.range 153).map g).toArray = #[g 0, g 1, g 2, g 3, g 4, g 5, g 6, g 7, g 8, g 9, g 10, g 11, g 12, g 13, g 14, g 15, g 16, g 17, g 18, g 19, g 20, g 21, g 22, g 23, g 24, g 25, g 26, g 27, g 28, g 29, g 30, g 31, g 32, g 33, g 34, g 35, g 36, g 37, g 38, g 39, g 40, g 41, g 42, g 43, g 44, g 45, g 46, g 47, g 48, g 49, g 50, g 51, g 52, g 53, g 54, g 55, g 56, g 57, g 58, g 59, g 60, g 61, g 62, g 63, g 64, g 65, g 66, g 67, g 68, g 69, g 70, g 71, g 72, g 73, g 74, g 75, g 76, g 77, g 78, g 79, g 80, g 81, g 82, g 83, g 84, g 85, g 86, g 87, g 88, g 89, g 90, g 91, g 92, g 93, g 94, g 95, g 96, g 97, g 98, g 99, g 100, g 101, g 102, g 103, g 104, g 105, g 106, g 107, g 108, g 109, g 110, g 111, g 112, g 113, g 114, g 115, g 116, g 117, g 118, g 119, g 120, g 121, g 122, g 123, g 124, g 125, g 126, g 127, g 128, g 129, g 130, g 131, g 132, g 133, g 134, g 135, g 136, g 137, g 138, g 139, g 140, g 141, g 142, g 143, g 144, g 145, g 146, g 147, g 148, g 149, g 150, g 151, g 152] := by kernel_rfl

set_option maxHeartbeats 4000000 in
set_option maxRecDepth 4000 in
theorem unescape_any (u v : ByteArray) (e : Nat) (out : List UInt8) (w : World) (hs : u.size ≤ 1048576) (h1 : 2 ≤ e) (S : Sub u v 1 (e - 1)) (h : UQ u 1 e out) :
    Calls Tryz.prog 65 #[.string v] w (StrRet w out) := by
  have hz := S.size
  have hbs := S.bs
  have hle := h.sb.lt
  have HZ : Hid (v.size + 2 = e) := Lib.hid (by omega)
  have hvs : v.size ≤ 1048576 := by omega
  have hB := get_bAt v
  have HS := Lib.hid S
  have HQ := Lib.hid h
  clear S h hz hbs
  obtain ⟨i0, hi0, hz0, hz1, hz2⟩ := info_parts infoByte
  obtain ⟨w1, hmk, hown, hgr⟩ := run_make_own (P := Tryz.prog) w 0 91 5 i0 _ 1 Tryz.underlying91 hi0 hz0 hz1 .i64 .i64 v.size (by rw [hz2]; omega) (by unfold maxLen; omega) (Nat.zero_le _)
  have R0 : RowB w.heap.size w1 (.slice (some ⟨w.heap.size, 0, none⟩) 0 v.size) [] := ⟨hown, fun b hb => by simp [Value.ownBlock] at hb; omega⟩
  have U0 : Upd NoB w w1 := (Upd.of_grown hgr).mono (fun b hb => by cases hb)
  clear hown hgr hi0 hz0 hz1 hz2
  have HR0 := Lib.hid R0
  have HU0 := Lib.hid U0
  clear R0 U0
  go_enter Tryz.func65, Tryz.ntmps65
  go_wp2_with fail
  clear hmk
  refine wp_loop_ghost_k (fun mm => FR 153 (fun g wx => ∃ (acc rest : List UInt8) (k : Nat), mm = v.size - k ∧ (g 0 = .string v ∧ g 4 = .int .i64 (k : Int)) ∧ k ≤ v.size ∧ RowB w.heap.size wx (g 3) acc ∧ Upd NoB w wx ∧ UQ u (k + 1) e rest ∧ out = acc ++ rest ∧ acc.length ≤ 4 * k ∧ acc.length ≤ 4 * k)) v.size ?atStart ?round
  case atStart =>
    refine FR.intro (by rfl) ?_
    exact ⟨[], out, 0, rfl, ⟨rfl, rfl⟩, by omega, HR0.out, HU0.out, HQ.out, rfl, by simp, by simp⟩
  case round =>
    intro gk
    refine FR.rest ?_
    rintro g wc ⟨acc, rest, k, hm, ⟨e0, e4⟩, hk, hrow, hU, huq, hout, hal, _⟩
    obtain ⟨va, vc, e3⟩ := hrow.len
    rw [e3] at hrow
    rw [lit153]
    simp only [e0, e3, e4]
    clear e0 e3 e4
    intro J2 K2 hJ2 hK2
    have Hm := Lib.hid hm; clear hm
    have HR := Lib.hid hrow
    have HO := Lib.hid hout
    have HU := Lib.hid huq
    have hsz := hU.size
    clear hrow hout huq
    by_cases hlt : k < v.size
    rotate_left
    · have Hn : Hid (acc = out) := Lib.hid (by
        have hke : k + 1 + 1 = e := by have := HZ.out; omega
        have : rest = [] := by
          rcases HU.out.inv with ⟨_, _, _, h⟩ | ⟨_, _, _, _, r, _, h⟩ | ⟨_, _, _, r, _, h⟩ | ⟨_, _, _, r, _, h⟩ | ⟨_, _, _, _, r, _, h⟩
          · exact h
          all_goals (have := h.sb.lt; omega)
        rw [HO.out, this, List.append_nil])
      have hc := HR.out.str
      as_aux_lemma =>
        go_wp2_with fail
        go_ret
        exact ⟨by rw [Hn.out]; rfl, hU⟩
    have hb := bAt_le v k
    have HE : Hid (∀ x, x < v.size → bAt v x = bAt u (x + 1)) := Lib.hid (fun x hx => by have := HS.out.at (k := x + 1) (by omega) (by have := HZ.out; omega); rw [Nat.add_sub_cancel] at this; exact this)
    have hek := HE.out k hlt
    rcases HU.out.inv with ⟨_, _, he, _⟩ | ⟨_, c1, c2, c3, r, hr1, hr2⟩ | ⟨_, c1, x, r, hr1, hr2⟩ | ⟨hus, hhi, hlo, r, hr1, hr2⟩ | ⟨hus, hhi, hus2, hlo, r, hr1, hr2⟩
    · exfalso; have := HZ.out; omega
    · -- a byte as it stands
      rw [← hek] at c1 c2 c3 hr1
      have Hr := Lib.hid hr2; clear hr2 hek
      subst hr1
      have e92 : ((bAt v k : Int) == 92) = false := by simp; omega
      have c32 : ¬ (bAt v k : Int) < 32 := by omega
      have HV := Lib.hid (u8_byte hb)
      clear c1 c2 c3 HU
      as_aux_lemma =>
        go_wp2_with (at_builtin; refine wpList_app_bytes rfl _ _ rfl w.heap.size _ acc rfl ?hown [UInt8.ofNat (bAt v k)] 1 rfl ⟨wc.heap.size, 0, none⟩ _ rfl ?hnews ?hb ?hB ?_)
        case hown => exact HR.out.upd ((Upd.refl NoB wc).alloc _) (fun b _ _ h => h)
        case hnews =>
          rw [HV.out]
          first | exact cells_lit wc [Value.int .u8 (bAt v k : Int)] _ _ rfl | exact fun _ _ h => h
        case hb => omega
        case hB => first | omega | (simp; omega)
        intro v' w' hrow hupd _
        have HR2 := Lib.hid hrow; clear hrow
        have hU2 : Upd NoB w w' := (hU.alloc _).then hupd (fun b hb => .inr (HR.out.lt b hb).1)
        clear hupd
        go_wp2_with fail
        refine Handed.intro (v.size - (k + 1)) ?_ ?_
        · have := Hm.out; omega
        go_step
        refine FR.intro (by rfl) ?_
        exact ⟨acc ++ [UInt8.ofNat (bAt v k)], r, k + 1, rfl, ⟨rfl, rfl⟩, by omega, HR2.out, hU2, Hr.out, by rw [HO.out, List.append_assoc]; rfl, by rw [List.length_append, List.length_singleton]; omega, by rw [List.length_append, List.length_singleton]; omega⟩
    · -- a letter behind a backslash
      have hk1 : k + 1 < v.size := by have := hr2.sb.lt; have := HZ.out; omega
      have hek1 := HE.out (k + 1) hk1
      rw [← hek] at c1
      rw [← hek1] at x hr1
      have Hr := Lib.hid hr2; clear hr2 hek hek1
      subst hr1
      have e92 : ((bAt v k : Int) == 92) = true := by rw [c1]; rfl
      have c32 : ¬ (bAt v k : Int) < 32 := by omega
      have hb1 := bAt_le v (k + 1)
      clear c1 HU
      rcases x with hx | hx | hx | hx | hx | hx | hx | hx
      · rw [hx, show shC 34 = 34 from rfl] at HO
        have hxi : (bAt v (k + 1) : Int) = 34 := by rw [hx]; rfl
        have HV := Lib.hid (show bcells [(34 : UInt8)] = [Value.int .u8 34] from rfl)
        clear hx
        as_aux_lemma =>
          go_wp2_with (at_builtin; refine wpList_app_bytes rfl _ _ rfl w.heap.size _ acc rfl ?hown [(34 : UInt8)] 1 rfl ⟨wc.heap.size, 0, none⟩ _ rfl ?hnews ?hb ?hB ?_)
          case hown => exact HR.out.upd ((Upd.refl NoB wc).alloc _) (fun b _ _ h => h)
          case hnews =>
            rw [HV.out]
            first | exact cells_lit wc [Value.int .u8 34] _ _ rfl | exact fun _ _ h => h
          case hb => omega
          case hB => first | omega | (simp; omega)
          intro v' w' hrow hupd _
          have HR2 := Lib.hid hrow; clear hrow
          have hU2 : Upd NoB w w' := (hU.alloc _).then hupd (fun b hb => .inr (HR.out.lt b hb).1)
          clear hupd
          go_wp2_with fail
          refine Handed.intro (v.size - (k + 2)) ?_ ?_
          · have := Hm.out; omega
          go_step
          refine FR.intro (by rfl) ?_
          exact ⟨acc ++ [(34 : UInt8)], r, k + 2, rfl, ⟨rfl, rfl⟩, by omega, HR2.out, hU2, Hr.out, by rw [HO.out, List.append_assoc]; rfl, by rw [List.length_append, List.length_singleton]; omega, by rw [List.length_append, List.length_singleton]; omega⟩
      · rw [hx, show shC 92 = 92 from rfl] at HO
        have hxi : (bAt v (k + 1) : Int) = 92 := by rw [hx]; rfl
        have HV := Lib.hid (show bcells [(92 : UInt8)] = [Value.int .u8 92] from rfl)
        clear hx
        as_aux_lemma =>
          go_wp2_with (at_builtin; refine wpList_app_bytes rfl _ _ rfl w.heap.size _ acc rfl ?hown [(92 : UInt8)] 1 rfl ⟨wc.heap.size, 0, none⟩ _ rfl ?hnews ?hb ?hB ?_)
          case hown => exact HR.out.upd ((Upd.refl NoB wc).alloc _) (fun b _ _ h => h)
          case hnews =>
            rw [HV.out]
            first | exact cells_lit wc [Value.int .u8 92] _ _ rfl | exact fun _ _ h => h
          case hb => omega
          case hB => first | omega | (simp; omega)
          intro v' w' hrow hupd _
          have HR2 := Lib.hid hrow; clear hrow
          have hU2 : Upd NoB w w' := (hU.alloc _).then hupd (fun b hb => .inr (HR.out.lt b hb).1)
          clear hupd
          go_wp2_with fail
          refine Handed.intro (v.size - (k + 2)) ?_ ?_
          · have := Hm.out; omega
          go_step
          refine FR.intro (by rfl) ?_
          exact ⟨acc ++ [(92 : UInt8)], r, k + 2, rfl, ⟨rfl, rfl⟩, by omega, HR2.out, hU2, Hr.out, by rw [HO.out, List.append_assoc]; rfl, by rw [List.length_append, List.length_singleton]; omega, by rw [List.length_append, List.length_singleton]; omega⟩
      · rw [hx, show shC 47 = 47 from rfl] at HO
        have hxi : (bAt v (k + 1) : Int) = 47 := by rw [hx]; rfl
        have HV := Lib.hid (show bcells [(47 : UInt8)] = [Value.int .u8 47] from rfl)
        clear hx
        as_aux_lemma =>
          go_wp2_with (at_builtin; refine wpList_app_bytes rfl _ _ rfl w.heap.size _ acc rfl ?hown [(47 : UInt8)] 1 rfl ⟨wc.heap.size, 0, none⟩ _ rfl ?hnews ?hb ?hB ?_)
          case hown => exact HR.out.upd ((Upd.refl NoB wc).alloc _) (fun b _ _ h => h)
          case hnews =>
            rw [HV.out]
            first | exact cells_lit wc [Value.int .u8 47] _ _ rfl | exact fun _ _ h => h
          case hb => omega
          case hB => first | omega | (simp; omega)
          intro v' w' hrow hupd _
          have HR2 := Lib.hid hrow; clear hrow
          have hU2 : Upd NoB w w' := (hU.alloc _).then hupd (fun b hb => .inr (HR.out.lt b hb).1)
          clear hupd
          go_wp2_with fail
          refine Handed.intro (v.size - (k + 2)) ?_ ?_
          · have := Hm.out; omega
          go_step
          refine FR.intro (by rfl) ?_
          exact ⟨acc ++ [(47 : UInt8)], r, k + 2, rfl, ⟨rfl, rfl⟩, by omega, HR2.out, hU2, Hr.out, by rw [HO.out, List.append_assoc]; rfl, by rw [List.length_append, List.length_singleton]; omega, by rw [List.length_append, List.length_singleton]; omega⟩
      · rw [hx, show shC 98 = 8 from rfl] at HO
        have hxi : (bAt v (k + 1) : Int) = 98 := by rw [hx]; rfl
        have HV := Lib.hid (show bcells [(8 : UInt8)] = [Value.int .u8 8] from rfl)
        clear hx
        as_aux_lemma =>
          go_wp2_with (at_builtin; refine wpList_app_bytes rfl _ _ rfl w.heap.size _ acc rfl ?hown [(8 : UInt8)] 1 rfl ⟨wc.heap.size, 0, none⟩ _ rfl ?hnews ?hb ?hB ?_)
          case hown => exact HR.out.upd ((Upd.refl NoB wc).alloc _) (fun b _ _ h => h)
          case hnews =>
            rw [HV.out]
            first | exact cells_lit wc [Value.int .u8 8] _ _ rfl | exact fun _ _ h => h
          case hb => omega
          case hB => first | omega | (simp; omega)
          intro v' w' hrow hupd _
          have HR2 := Lib.hid hrow; clear hrow
          have hU2 : Upd NoB w w' := (hU.alloc _).then hupd (fun b hb => .inr (HR.out.lt b hb).1)
          clear hupd
          go_wp2_with fail
          refine Handed.intro (v.size - (k + 2)) ?_ ?_
          · have := Hm.out; omega
          go_step
          refine FR.intro (by rfl) ?_
          exact ⟨acc ++ [(8 : UInt8)], r, k + 2, rfl, ⟨rfl, rfl⟩, by omega, HR2.out, hU2, Hr.out, by rw [HO.out, List.append_assoc]; rfl, by rw [List.length_append, List.length_singleton]; omega, by rw [List.length_append, List.length_singleton]; omega⟩
      · rw [hx, show shC 102 = 12 from rfl] at HO
        have hxi : (bAt v (k + 1) : Int) = 102 := by rw [hx]; rfl
        have HV := Lib.hid (show bcells [(12 : UInt8)] = [Value.int .u8 12] from rfl)
        clear hx
        as_aux_lemma =>
          go_wp2_with (at_builtin; refine wpList_app_bytes rfl _ _ rfl w.heap.size _ acc rfl ?hown [(12 : UInt8)] 1 rfl ⟨wc.heap.size, 0, none⟩ _ rfl ?hnews ?hb ?hB ?_)
          case hown => exact HR.out.upd ((Upd.refl NoB wc).alloc _) (fun b _ _ h => h)
          case hnews =>
            rw [HV.out]
            first | exact cells_lit wc [Value.int .u8 12] _ _ rfl | exact fun _ _ h => h
          case hb => omega
          case hB => first | omega | (simp; omega)
          intro v' w' hrow hupd _
          have HR2 := Lib.hid hrow; clear hrow
          have hU2 : Upd NoB w w' := (hU.alloc _).then hupd (fun b hb => .inr (HR.out.lt b hb).1)
          clear hupd
          go_wp2_with fail
          refine Handed.intro (v.size - (k + 2)) ?_ ?_
          · have := Hm.out; omega
          go_step
          refine FR.intro (by rfl) ?_
          exact ⟨acc ++ [(12 : UInt8)], r, k + 2, rfl, ⟨rfl, rfl⟩, by omega, HR2.out, hU2, Hr.out, by rw [HO.out, List.append_assoc]; rfl, by rw [List.length_append, List.length_singleton]; omega, by rw [List.length_append, List.length_singleton]; omega⟩
      · rw [hx, show shC 110 = 10 from rfl] at HO
        have hxi : (bAt v (k + 1) : Int) = 110 := by rw [hx]; rfl
        have HV := Lib.hid (show bcells [(10 : UInt8)] = [Value.int .u8 10] from rfl)
        clear hx
        as_aux_lemma =>
          go_wp2_with (at_builtin; refine wpList_app_bytes rfl _ _ rfl w.heap.size _ acc rfl ?hown [(10 : UInt8)] 1 rfl ⟨wc.heap.size, 0, none⟩ _ rfl ?hnews ?hb ?hB ?_)
          case hown => exact HR.out.upd ((Upd.refl NoB wc).alloc _) (fun b _ _ h => h)
          case hnews =>
            rw [HV.out]
            first | exact cells_lit wc [Value.int .u8 10] _ _ rfl | exact fun _ _ h => h
          case hb => omega
          case hB => first | omega | (simp; omega)
          intro v' w' hrow hupd _
          have HR2 := Lib.hid hrow; clear hrow
          have hU2 : Upd NoB w w' := (hU.alloc _).then hupd (fun b hb => .inr (HR.out.lt b hb).1)
          clear hupd
          go_wp2_with fail
          refine Handed.intro (v.size - (k + 2)) ?_ ?_
          · have := Hm.out; omega
          go_step
          refine FR.intro (by rfl) ?_
          exact ⟨acc ++ [(10 : UInt8)], r, k + 2, rfl, ⟨rfl, rfl⟩, by omega, HR2.out, hU2, Hr.out, by rw [HO.out, List.append_assoc]; rfl, by rw [List.length_append, List.length_singleton]; omega, by rw [List.length_append, List.length_singleton]; omega⟩
      · rw [hx, show shC 114 = 13 from rfl] at HO
        have hxi : (bAt v (k + 1) : Int) = 114 := by rw [hx]; rfl
        have HV := Lib.hid (show bcells [(13 : UInt8)] = [Value.int .u8 13] from rfl)
        clear hx
        as_aux_lemma =>
          go_wp2_with (at_builtin; refine wpList_app_bytes rfl _ _ rfl w.heap.size _ acc rfl ?hown [(13 : UInt8)] 1 rfl ⟨wc.heap.size, 0, none⟩ _ rfl ?hnews ?hb ?hB ?_)
          case hown => exact HR.out.upd ((Upd.refl NoB wc).alloc _) (fun b _ _ h => h)
          case hnews =>
            rw [HV.out]
            first | exact cells_lit wc [Value.int .u8 13] _ _ rfl | exact fun _ _ h => h
          case hb => omega
          case hB => first | omega | (simp; omega)
          intro v' w' hrow hupd _
          have HR2 := Lib.hid hrow; clear hrow
          have hU2 : Upd NoB w w' := (hU.alloc _).then hupd (fun b hb => .inr (HR.out.lt b hb).1)
          clear hupd
          go_wp2_with fail
          refine Handed.intro (v.size - (k + 2)) ?_ ?_
          · have := Hm.out; omega
          go_step
          refine FR.intro (by rfl) ?_
          exact ⟨acc ++ [(13 : UInt8)], r, k + 2, rfl, ⟨rfl, rfl⟩, by omega, HR2.out, hU2, Hr.out, by rw [HO.out, List.append_assoc]; rfl, by rw [List.length_append, List.length_singleton]; omega, by rw [List.length_append, List.length_singleton]; omega⟩
      · rw [hx, show shC 116 = 9 from rfl] at HO
        have hxi : (bAt v (k + 1) : Int) = 116 := by rw [hx]; rfl
        have HV := Lib.hid (show bcells [(9 : UInt8)] = [Value.int .u8 9] from rfl)
        clear hx
        as_aux_lemma =>
          go_wp2_with (at_builtin; refine wpList_app_bytes rfl _ _ rfl w.heap.size _ acc rfl ?hown [(9 : UInt8)] 1 rfl ⟨wc.heap.size, 0, none⟩ _ rfl ?hnews ?hb ?hB ?_)
          case hown => exact HR.out.upd ((Upd.refl NoB wc).alloc _) (fun b _ _ h => h)
          case hnews =>
            rw [HV.out]
            first | exact cells_lit wc [Value.int .u8 9] _ _ rfl | exact fun _ _ h => h
          case hb => omega
          case hB => first | omega | (simp; omega)
          intro v' w' hrow hupd _
          have HR2 := Lib.hid hrow; clear hrow
          have hU2 : Upd NoB w w' := (hU.alloc _).then hupd (fun b hb => .inr (HR.out.lt b hb).1)
          clear hupd
          go_wp2_with fail
          refine Handed.intro (v.size - (k + 2)) ?_ ?_
          · have := Hm.out; omega
          go_step
          refine FR.intro (by rfl) ?_
          exact ⟨acc ++ [(9 : UInt8)], r, k + 2, rfl, ⟨rfl, rfl⟩, by omega, HR2.out, hU2, Hr.out, by rw [HO.out, List.append_assoc]; rfl, by rw [List.length_append, List.length_singleton]; omega, by rw [List.length_append, List.length_singleton]; omega⟩
    · -- one escape
      have hl := hr2.sb.lt
      have HZ' := HZ.out
      have huv : isU v k := by have := hus.sh HS.out (by omega) (by omega); rw [Nat.add_sub_cancel] at this; exact this
      have hVV : uV v k = uV u (k + 1) := by have := uV_sh HS.out (k := k + 1) (by omega) (by omega); rw [Nat.add_sub_cancel] at this; exact this
      rw [← hVV] at hhi hlo hr1
      have Hr := Lib.hid hr2; clear hr2 hek hus hVV HZ'
      subst hr1
      have hur := uV_rng huv
      have c92 := huv.2.1
      have c117 := huv.2.2.1
      have e92 : ((bAt v k : Int) == 92) = true := by rw [c92]; rfl
      have c32 : ¬ (bAt v k : Int) < 32 := by omega
      have hxi : (bAt v (k + 1) : Int) = 117 := by rw [c117]; rfl
      have hk6 := huv.1
      have Huv := Lib.hid huv
      have HRI := Lib.hid (fun wx (x : ByteArray) (hx : 4 ≤ x.size) (hv : ∀ q, q < 4 → bAt x q = bAt v (k + 2 + q)) => runeit_any v x k wx huv hx hv)
      have HIS := Lib.hid (fun wx => IsSurrogate_any (uV v k) wx hur.1 hur.2)
      rw [show decide (55296 ≤ uV v k ∧ uV v k < 57344) = false by unfold isHi at hhi; unfold isLo at hlo; simp; omega] at HIS
      have HENC := Lib.hid (runeCells_enc hur.1 (by omega) hhi hlo)
      clear c92 c117 hhi hlo HU huv
      go_wp2_with fail
      refine (HRI.out wc (v.extract (k + 1 + 1) v.size) (by rw [ByteArray.size_extract]; omega) (fun q hq => by rw [bAt_extract (by omega)])).mono ?_
      rintro r1 w2 ⟨rfl, hu2⟩
      go_wp2_with fail
      refine (HIS.out _).mono ?_
      rintro r1 w2' ⟨rfl, rfl⟩
      have HU2 := Lib.hid hu2
      have HR2 := Lib.hid (HR.out.upd hu2 (fun _ _ _ h => h))
      clear HRI HIS
      go_wp2_with (at_builtin; refine wpList_app_bytes rfl _ _ rfl w.heap.size _ acc rfl ?hown [0, 0, 0, 0, 0, 0, 0, 0] 8 rfl ⟨w2.heap.size, 0, none⟩ _ rfl ?hnews ?hb ?hB ?_)
      case hown => exact HR2.out.upd ((Upd.refl NoB w2).alloc _) (fun b _ _ h => h)
      case hnews =>
        rw [show bcells [0, 0, 0, 0, 0, 0, 0, 0] = [Value.int .u8 0, Value.int .u8 0, Value.int .u8 0, Value.int .u8 0, Value.int .u8 0, Value.int .u8 0, Value.int .u8 0, Value.int .u8 0] from rfl]
        first | exact cells_lit w2 [Value.int .u8 0, Value.int .u8 0, Value.int .u8 0, Value.int .u8 0, Value.int .u8 0, Value.int .u8 0, Value.int .u8 0, Value.int .u8 0] _ _ rfl | exact fun _ _ h => h
      case hb => omega
      case hB => have := HU2.out.size; first | omega | (simp; omega)
      intro v3 w3 hrow hupd _
      obtain ⟨g3, cap3, rfl⟩ := hrow.form (by simp)
      have HR3 := Lib.hid hrow; clear hrow
      have HU3 : Hid (Upd NoB w w3) := Lib.hid (((hU.trans HU2.out).alloc _).then hupd (fun b hb => .inr (HR2.out.lt b hb).1))
      have hroom := HR3.out.room
      have hcap := hroom.1
      have HRoom := Lib.hid hroom.2
      have hlen8 : (acc ++ [0, 0, 0, 0, 0, 0, 0, 0]).length = acc.length + 8 := by simp
      rw [hlen8] at hcap
      have HEn : Hid (Calls Tryz.prog 74 #[.slice (some ⟨g3, acc.length, none⟩) 8 (cap3 - acc.length), .int .i32 (uV v k)] w3 fun e w' => e = .returned (.int .i64 ((enc (uV v k)).length : Int)) ∧ w' = w3.setCells g3 acc.length (bcells (enc (uV v k)))) := by
        have hl : (bcells (enc (uV v k))).length = (enc (uV v k)).length := by simp [bcells]
        have hel := (enc_len (uV v k)).1
        have h := Tryz.utf8_EncodeRune g3 acc.length 8 (cap3 - acc.length) (uV v k) (by omega) (by omega) w3 (by rw [HENC.out, hl]; omega) (fun j hj => by rw [HENC.out, hl] at hj; exact (HRoom.out j (by simp; omega)).1) (fun j hj => by rw [HENC.out, hl] at hj; exact (HRoom.out j (by simp; omega)).2)
        rw [HENC.out, hl] at h
        exact Lib.hid h
      have HR4 := Lib.hid (HR3.out.tail (new := enc (uV v k)) rfl (by have := (enc_len (uV v k)).1; simp; omega))
      have HU4 := Lib.hid (setCells_upd g3 (bcells (enc (uV v k))) acc.length w3)
      have hn4 := (enc_len (uV v k)).1
      have hg3 := (HR3.out.lt g3 rfl).1
      clear hroom hupd
      obtain ⟨n4, hn4e⟩ : ∃ n, (enc (uV v k)).length = n := ⟨_, rfl⟩
      have HN4 := Lib.hid hn4e
      rw [hn4e] at HEn HR4 hn4
      clear hn4e
      go_wp2_with fail
      refine HEn.out.mono ?_
      rintro r1 w4 ⟨rfl, rfl⟩
      generalize w3.setCells g3 acc.length (bcells (enc (uV v k))) = w4 at *
      go_wp2_with fail
      refine Handed.intro (v.size - (k + 6)) ?_ ?_
      · have := Hm.out; omega
      go_step
      refine FR.intro (by rfl) ?_
      refine ⟨acc ++ enc (uV v k), r, k + 6, rfl, ⟨rfl, ?_⟩, by omega, ?_, HU3.out.then HU4.out (fun b hb => .inr (by have : b = g3 := hb; omega)), Hr.out, by rw [HO.out, List.append_assoc], by rw [List.length_append, HN4.out]; omega, by rw [List.length_append, HN4.out]; omega⟩
      · simp only [slotOf] <;> first | rfl | (congr 1; omega)
      · exact HR4.out
    · -- two escapes
      have hl := hr2.sb.lt
      have HZ' := HZ.out
      have huv : isU v k := by have := hus.sh HS.out (by omega) (by omega); rw [Nat.add_sub_cancel] at this; exact this
      have hVV : uV v k = uV u (k + 1) := by have := uV_sh HS.out (k := k + 1) (by omega) (by omega); rw [Nat.add_sub_cancel] at this; exact this
      have huv2 : isU v (k + 6) := by have := hus2.sh HS.out (by omega) (by omega); rw [show k + 1 + 6 - 1 = k + 6 by omega] at this; exact this
      have hVV2 : uV v (k + 6) = uV u (k + 1 + 6) := by have := uV_sh HS.out (k := k + 1 + 6) (by omega) (by omega); rw [show k + 1 + 6 - 1 = k + 6 by omega] at this; exact this
      rw [← hVV2] at hlo hr1
      rw [← hVV] at hhi hr1
      have Hr := Lib.hid hr2; clear hr2 hek hus hus2 hVV hVV2 HZ'
      subst hr1
      have hur := uV_rng huv
      have hur2 := uV_rng huv2
      have c92 := huv.2.1
      have c117 := huv.2.2.1
      have e92 : ((bAt v k : Int) == 92) = true := by rw [c92]; rfl
      have c32 : ¬ (bAt v k : Int) < 32 := by omega
      have hxi : (bAt v (k + 1) : Int) = 117 := by rw [c117]; rfl
      have hx6 : (bAt v (k + 1 + 5) : Int) = 92 := by rw [show k + 1 + 5 = k + 6 by omega, huv2.2.1]; rfl
      have hx7 : (bAt v (k + 1 + 5 + 1) : Int) = 117 := by rw [show k + 1 + 5 + 1 = k + 6 + 1 by omega, huv2.2.2.1]; rfl
      have hk12 := huv2.1
      have hlen6 : 6 ≤ ((v.extract (k + 1 + 5) v.size).size : Int) := by rw [ByteArray.size_extract]; omega
      have HRI := Lib.hid (fun wx (x : ByteArray) (hx : 4 ≤ x.size) (hv : ∀ q, q < 4 → bAt x q = bAt v (k + 2 + q)) => runeit_any v x k wx huv hx hv)
      have HRI2 := Lib.hid (fun wx (x : ByteArray) (hx : 4 ≤ x.size) (hv : ∀ q, q < 4 → bAt x q = bAt v (k + 6 + 2 + q)) => runeit_any v x (k + 6) wx huv2 hx hv)
      have HDR := Lib.hid (fun wx => DecodeRune_any (uV v k) (uV v (k + 6)) wx hhi hlo)
      have HIS := Lib.hid (fun wx => IsSurrogate_any (uV v k) wx hur.1 hur.2)
      rw [show decide (55296 ≤ uV v k ∧ uV v k < 57344) = true by unfold isHi at hhi; simp; omega] at HIS
      have hpr : 65536 ≤ prC (uV v k) (uV v (k + 6)) ∧ prC (uV v k) (uV v (k + 6)) ≤ 1114111 := by unfold isHi at hhi; unfold isLo at hlo; unfold prC; omega
      have HENC := Lib.hid (runeCells_enc (c := prC (uV v k) (uV v (k + 6))) (by omega) hpr.2 (by unfold isHi; omega) (by unfold isLo; omega))
      clear c92 c117 hhi hlo HU huv huv2
      go_wp2_with fail
      refine (HRI.out wc (v.extract (k + 1 + 1) v.size) (by rw [ByteArray.size_extract]; omega) (fun q hq => by rw [bAt_extract (by omega)])).mono ?_
      rintro r1 w2 ⟨rfl, hu2⟩
      go_wp2_with fail
      refine (HIS.out _).mono ?_
      rintro r1 w2' ⟨rfl, rfl⟩
      have HU2a := Lib.hid hu2
      clear HRI HIS
      go_wp2_with fail
      refine (HRI2.out w2 (v.extract (k + 1 + 5 + 2) v.size) (by rw [ByteArray.size_extract]; omega) (fun q hq => by rw [bAt_extract (by omega)])).mono ?_
      rintro r1 w2b ⟨rfl, hu2b⟩
      have HU2 : Hid (Upd NoB wc w2b) := Lib.hid (HU2a.out.trans hu2b)
      have HR2 := Lib.hid (HR.out.upd HU2.out (fun _ _ _ h => h))
      clear HRI2 hu2 hu2b HU2a
      go_wp2_with fail
      refine (HDR.out _).mono ?_
      rintro r1 w2' ⟨rfl, rfl⟩
      clear HDR hx6 hx7 hlen6
      go_wp2_with (at_builtin; refine wpList_app_bytes rfl _ _ rfl w.heap.size _ acc rfl ?hown [0, 0, 0, 0, 0, 0, 0, 0] 8 rfl ⟨w2b.heap.size, 0, none⟩ _ rfl ?hnews ?hb ?hB ?_)
      case hown => exact HR2.out.upd ((Upd.refl NoB w2b).alloc _) (fun b _ _ h => h)
      case hnews =>
        rw [show bcells [0, 0, 0, 0, 0, 0, 0, 0] = [Value.int .u8 0, Value.int .u8 0, Value.int .u8 0, Value.int .u8 0, Value.int .u8 0, Value.int .u8 0, Value.int .u8 0, Value.int .u8 0] from rfl]
        first | exact cells_lit w2b [Value.int .u8 0, Value.int .u8 0, Value.int .u8 0, Value.int .u8 0, Value.int .u8 0, Value.int .u8 0, Value.int .u8 0, Value.int .u8 0] _ _ rfl | exact fun _ _ h => h
      case hb => omega
      case hB => have := HU2.out.size; first | omega | (simp; omega)
      intro v3 w3 hrow hupd _
      obtain ⟨g3, cap3, rfl⟩ := hrow.form (by simp)
      have HR3 := Lib.hid hrow; clear hrow
      have HU3 : Hid (Upd NoB w w3) := Lib.hid (((hU.trans HU2.out).alloc _).then hupd (fun b hb => .inr (HR2.out.lt b hb).1))
      have hroom := HR3.out.room
      have hcap := hroom.1
      have HRoom := Lib.hid hroom.2
      have hlen8 : (acc ++ [0, 0, 0, 0, 0, 0, 0, 0]).length = acc.length + 8 := by simp
      rw [hlen8] at hcap
      have HEn : Hid (Calls Tryz.prog 74 #[.slice (some ⟨g3, acc.length, none⟩) 8 (cap3 - acc.length), .int .i32 (prC (uV v k) (uV v (k + 6)))] w3 fun e w' => e = .returned (.int .i64 ((enc (prC (uV v k) (uV v (k + 6)))).length : Int)) ∧ w' = w3.setCells g3 acc.length (bcells (enc (prC (uV v k) (uV v (k + 6)))))) := by
        have hl : (bcells (enc (prC (uV v k) (uV v (k + 6))))).length = (enc (prC (uV v k) (uV v (k + 6)))).length := by simp [bcells]
        have hel := (enc_len (prC (uV v k) (uV v (k + 6)))).1
        have h := Tryz.utf8_EncodeRune g3 acc.length 8 (cap3 - acc.length) (prC (uV v k) (uV v (k + 6))) (by omega) (by omega) w3 (by rw [HENC.out, hl]; omega) (fun j hj => by rw [HENC.out, hl] at hj; exact (HRoom.out j (by simp; omega)).1) (fun j hj => by rw [HENC.out, hl] at hj; exact (HRoom.out j (by simp; omega)).2)
        rw [HENC.out, hl] at h
        exact Lib.hid h
      have HR4 := Lib.hid (HR3.out.tail (new := enc (prC (uV v k) (uV v (k + 6)))) rfl (by have := (enc_len (prC (uV v k) (uV v (k + 6)))).1; simp; omega))
      have HU4 := Lib.hid (setCells_upd g3 (bcells (enc (prC (uV v k) (uV v (k + 6))))) acc.length w3)
      have hn4 := (enc_len (prC (uV v k) (uV v (k + 6)))).1
      have hg3 := (HR3.out.lt g3 rfl).1
      clear hroom hupd
      obtain ⟨n4, hn4e⟩ : ∃ n, (enc (prC (uV v k) (uV v (k + 6)))).length = n := ⟨_, rfl⟩
      have HN4 := Lib.hid hn4e
      rw [hn4e] at HEn HR4 hn4
      clear hn4e
      go_wp2_with fail
      refine HEn.out.mono ?_
      rintro r1 w4 ⟨rfl, rfl⟩
      generalize w3.setCells g3 acc.length (bcells (enc (prC (uV v k) (uV v (k + 6))))) = w4 at *
      go_wp2_with fail
      refine Handed.intro (v.size - (k + 12)) ?_ ?_
      · have := Hm.out; omega
      go_step
      refine FR.intro (by rfl) ?_
      refine ⟨acc ++ enc (prC (uV v k) (uV v (k + 6))), r, k + 12, rfl, ⟨rfl, ?_⟩, by omega, ?_, HU3.out.then HU4.out (fun b hb => .inr (by have : b = g3 := hb; omega)), Hr.out, by rw [HO.out, List.append_assoc], by rw [List.length_append, HN4.out]; omega, by rw [List.length_append, HN4.out]; omega⟩
      · simp only [slotOf] <;> first | rfl | (congr 1; omega)
      · exact HR4.out
end Go.Proofs.YtggdcpmampjncaaGreatDoor
