/- A number that is read by Parse and one that is made of its text give the same by each method, an error too: FnFjNumberRoads answers true for every text, where the listed variables of strconv, math and fastfloat hold what the program's text lays in them (the card ties that). -/
import Derived.Test.YtkocponnjfkchaaGreatDoorHl
import Derived.Test.YtkocponnjfkchaaGreatDoorLaid
import Derived.Test.YtkocponnjfkchaaGreatDoorRows
import Derived.Test.YtkocponnjfkchaaGreatDoorCards
import Derived.Test.YtkocponnjfkchaaGreatDoorTie
import Derived.WalkKit
import Derived.ProofKit
import Derived.OpenShut
import Derived.LaidMore
import Derived.Lay
import Derived.SevenTiedAt
import Derived.Stop.Joined
import Derived.ShutString
import Derived.ChangeMaps5
namespace Go.Proofs.YtkocponnjfkchaaGreatDoor
open Go.ChangeMaps (open_string shut_string)
open Go.ChangeShapes Go.WideShapes Go.ChangeAt Go.WideMaps Go.WideElems Go.RowKit

theorem tabsN_of {w : World} (h : laidMet Tryz.prog Rows.fnFjNumberRoadsRow.laid w) : Tabs w.heap.size w := by
  have hlc := lc_of (Lib.laidMet.reads h (.tail _ (.tail _ (.tail _ (.tail _ (.tail _ (.tail _ (.tail _ (.tail _ (.tail _ (.tail _ (.tail _ (.tail _ (.tail _ (.tail _ (.tail _ (.head _)))))))))))))))))
  have hpt := pt_of (Lib.laidMet.reads h (.tail _ (.tail _ (.tail _ (.tail _ (.tail _ (.tail _ (.tail _ (.tail _ (.tail _ (.tail _ (.tail _ (.tail _ (.tail _ (.tail _ (.tail _ (.tail _ (.head _))))))))))))))))))
  have hfi := fi_of (Lib.laidMet.reads h (.tail _ (.tail _ (.tail _ (.head _)))))
  have hop := op_of (Lib.laidMet.reads h (.tail _ (.tail _ (.tail _ (.tail _ (.head _))))))
  have hpw := pw_of (zs := [1, 3, 6, 9, 13, 16, 19, 23, 26]) (by
    intro k hk
    obtain rfl | rfl | rfl | rfl | rfl | rfl | rfl | rfl | rfl : k = 0 ∨ k = 1 ∨ k = 2 ∨ k = 3 ∨ k = 4 ∨ k = 5 ∨ k = 6 ∨ k = 7 ∨ k = 8 := by omega
    · exact ⟨1, rfl, by decide, by decide, rfl⟩
    · exact ⟨3, rfl, by decide, by decide, rfl⟩
    · exact ⟨6, rfl, by decide, by decide, rfl⟩
    · exact ⟨9, rfl, by decide, by decide, rfl⟩
    · exact ⟨13, rfl, by decide, by decide, rfl⟩
    · exact ⟨16, rfl, by decide, by decide, rfl⟩
    · exact ⟨19, rfl, by decide, by decide, rfl⟩
    · exact ⟨23, rfl, by decide, by decide, rfl⟩
    · exact ⟨26, rfl, by decide, by decide, rfl⟩) rfl (Lib.laidMet.reads h (.tail _ (.tail _ (.tail _ (.tail _ (.tail _ (.head _)))))))
  have hfp := fp_of (Lib.laidMet.reads h (.tail _ (.tail _ (.tail _ (.tail _ (.tail _ (.tail _ (.head _))))))))
  have her := er_of (Lib.laidMet.reads h (.tail _ (.tail _ (.tail _ (.tail _ (.tail _ (.tail _ (.tail _ (.tail _ (.tail _ (.tail _ (.tail _ (.tail _ (.head _))))))))))))))
  have hes := es_of (Lib.laidMet.reads h (.tail _ (.tail _ (.tail _ (.tail _ (.tail _ (.tail _ (.tail _ (.tail _ (.tail _ (.tail _ (.tail _ (.tail _ (.tail _ (.head _)))))))))))))))
  have lt : ∀ {g i : Nat} {v : Value}, w.cell? ⟨g, i, none⟩ = some v → g < w.heap.size := fun h => World.block_lt_of_cell? w _ h
  obtain ⟨B1, o1, c1, h1, hB1⟩ := hlc
  obtain ⟨B2, o2, c2, h2, hB2⟩ := hpw
  obtain ⟨B3, o3, c3, h3, hB3⟩ := hfp
  obtain ⟨x0, y0, h4, _⟩ := hpt 0 (by decide)
  obtain ⟨e1, h5, h5'⟩ := her
  obtain ⟨e2, h6, h6'⟩ := hes
  exact ⟨⟨B1, o1, c1, h1, hB1⟩, ⟨lt h1.var, lt hfi.1, lt h2, lt h4, lt h3, lt hop, lt h5, lt h6⟩, hfi.1, hfi.2.1, hfi.2.2, ⟨B2, o2, c2, h2, hB2⟩, hpt, ⟨B3, o3, c3, h3, hB3⟩, hop, ⟨e1, h5, h5'⟩, ⟨e2, h6, h6'⟩⟩

theorem cF64 : Tryz.prog.cellsOf 28 = 1 := by kernel_rfl
/-- An array of floats that is laid as a list of them. -/
theorem ftab_of {nm : String} {g n : Nat} {t : TypeId} (l : List Nat) (hn : l.length = n) {w : World} (hr : Lib.VarReads Tryz.prog w nm (.agg (l.map fun z => .lit (.float .f64 z)))) (hg : Tryz.prog.globalNamed nm = some g) (ht : (Tryz.prog.globals[g]?).map (·.type) = some t) (hu : Tryz.prog.underlying t = some (.array n 28)) (hz : Tryz.prog.cellsOf t = n) :
    ∀ k, k < n → w.cell? ⟨g, k, none⟩ = some (.float .f64 (l.getD k 0)) := by
  obtain ⟨cs, fuel, p, hc, h⟩ := var_open hr hg ht
  obtain ⟨xs, m, rfl, hx, hl, hxl, hall⟩ := DataW.trod_array hu h
  simp only [Prod.mk.injEq, DataW.agg.injEq] at hx
  obtain ⟨hx, _⟩ := hx
  intro k hk
  have h1 := hall k hk
  rw [cF64, List.getElem?_eq_getElem (by omega)] at h1
  have h2 : (xs.map (·.1))[k]? = some (xs[k]'(by omega)).1 := by rw [List.getElem?_map, List.getElem?_eq_getElem (by omega)]; rfl
  have h3 : l[k]? = some (l.getD k 0) := by rw [List.getD, List.getElem?_eq_getElem (by omega)]; rfl
  rw [← hx, List.getElem?_map, h3, Option.map_some, Option.some.injEq] at h2
  rw [Nat.mul_one] at h1
  rw [hc]
  have hlen : cs.length = n := hl.trans hz
  have hd : (cs.drop k).take 1 = [cs[k]'(by omega)] := by
    rw [List.drop_eq_getElem_cons (by omega : k < cs.length)]
    rfl
  rw [hd] at h1
  have hv : cs[k]'(by omega) = .float .f64 (l.getD k 0) := flt_cell (q := (xs[k]'(by omega)).2) Tryz.underlying28 (h1.trans (by rw [h2]))
  rw [List.getElem?_eq_getElem (by omega), hv]
theorem laP10 : (Rows.laid_math_pow10tab : DataW Unit) = .agg (tP10.map fun z => .lit (.float .f64 z)) := by kernel_rfl
theorem laPP : (Rows.laid_math_pow10postab32 : DataW Unit) = .agg (tPP.map fun z => .lit (.float .f64 z)) := by kernel_rfl
theorem laPN : (Rows.laid_math_pow10negtab32 : DataW Unit) = .agg (tPN.map fun z => .lit (.float .f64 z)) := by kernel_rfl
theorem laFF : (Rows.laid_pub_tetrapla_pub_fastjson_fastfloat_float64pow10 : DataW Unit) = .agg (tFF.map fun z => .lit (.float .f64 z)) := by kernel_rfl
theorem ptN_of {w : World} (h : laidMet Tryz.prog Rows.fnFjNumberRoadsRow.laid w) : PT w.heap.size w := by
  have rP10 := Lib.laidMet.reads h (.tail _ (.tail _ (.tail _ (.tail _ (.tail _ (.tail _ (.tail _ (.tail _ (.tail _ (.head _))))))))))
  rw [laP10] at rP10
  have hP10 := ftab_of tP10 (by kernel_rfl) rP10 (g := 3) (t := 103) (by kernel_rfl) (by kernel_rfl) Tryz.underlying103 (by kernel_rfl)
  have rPP := Lib.laidMet.reads h (.tail _ (.tail _ (.tail _ (.tail _ (.tail _ (.tail _ (.tail _ (.tail _ (.tail _ (.tail _ (.head _)))))))))))
  rw [laPP] at rPP
  have hPP := ftab_of tPP (by kernel_rfl) rPP (g := 2) (t := 102) (by kernel_rfl) (by kernel_rfl) Tryz.underlying102 (by kernel_rfl)
  have rPN := Lib.laidMet.reads h (.tail _ (.tail _ (.tail _ (.tail _ (.tail _ (.tail _ (.tail _ (.tail _ (.tail _ (.tail _ (.tail _ (.head _))))))))))))
  rw [laPN] at rPN
  have hPN := ftab_of tPN (by kernel_rfl) rPN (g := 4) (t := 104) (by kernel_rfl) (by kernel_rfl) Tryz.underlying104 (by kernel_rfl)
  have rFF := Lib.laidMet.reads h (.tail _ (.tail _ (.tail _ (.tail _ (.tail _ (.tail _ (.tail _ (.tail _ (.tail _ (.tail _ (.tail _ (.tail _ (.tail _ (.tail _ (.head _)))))))))))))))
  rw [laFF] at rFF
  have hFF := ftab_of tFF (by kernel_rfl) rFF (g := 0) (t := 89) (by kernel_rfl) (by kernel_rfl) Tryz.underlying89 (by kernel_rfl)
  have lt : ∀ {g i : Nat} {v : Value}, w.cell? ⟨g, i, none⟩ = some v → g < w.heap.size := fun h => World.block_lt_of_cell? w _ h
  exact ⟨hFF, hP10, hPP, hPN, ⟨lt (hFF 0 (by decide)), lt (hP10 0 (by decide)), lt (hPP 0 (by decide)), lt (hPN 0 (by decide))⟩⟩

theorem ownN : ownKnob Tryz.prog.godebug = none := by kernel_rfl
set_option maxRecDepth 100000 in
theorem liftedN (os : Os) (started : os.Started) (H : Type) (enc : TypeId × Value → H) :
    ReturnsInHanded {} Tryz.checked os 3 .any (fun w args => (Rows.fnFjNumberRoadsSpec.pre enc Tryz.prog Tryz.f3 [] false w args ∧ laidMetH Tryz.prog Rows.fnFjNumberRoadsRow.laid w) ∧ sizedMet enc Tryz.prog Tryz.f3 (OpenSpec.ofChange Rows.fnFjNumberRoadsSpec) false w args)
      (Rows.fnFjNumberRoadsSpec.post enc Tryz.prog Tryz.f3 false true false false) := by
  refine returnsInHanded_of_change_and (C := Tryz.checked) (X := fun w _ => laidMetH Tryz.prog Rows.fnFjNumberRoadsRow.laid w) (fun _ _ _ hh h => h.of_heap hh) ownN started (by kernel_rfl) Tryz.func3
    (ChangeSpec.witness_shaped (enc := enc) (C := Tryz.checked) (os := os) (X := fun w _ => laidMetH Tryz.prog Rows.fnFjNumberRoadsRow.laid w) false (World.laidAll Tryz.prog os Rows.fnFjNumberRoadsRow.laid) #[.string ⟨#[]⟩] 8 (World.laidAll_os _ _ _)
      (World.shaped_of_ZipB (by kernel_rfl) (by kernel_rfl)) (by kernel_rfl) (by kernel_rfl) (by kernel_rfl)
      (by rw [MakeChecks.laidMetH_plain _ _ _ (by kernel_rfl)]; exact laidMet_laidAll _ (by kernel_rfl) (by kernel_rfl))) ?_
  intro W base args ds gs before hval0 hW _ _ hL _
  have hval : ∀ (j : Nat) t v, Tryz.f3.params[j]? = some t → args[j]? = some v → Value.okWide Tryz.prog W .any base t v := hval0
  have hW' := hW
  obtain ⟨p, q, hA0, hV, rfl, _, _⟩ := hW
  have hA : DataW.TrodAll enc Tryz.prog W 0 (fun _ => true) true Tryz.f3.params.toList args.toList ds p := hA0
  rw [Tryz.params3] at hA hval
  obtain ⟨v0, d0, rfl, rfl, h0⟩ := trodAll_one hA
  obtain ⟨rfl, rfl⟩ := trodVars_none hV
  obtain ⟨s, rfl, rfl, rfl, hsz⟩ := open_string Tryz.underlying9 (hval 0 9 v0 rfl rfl) h0
  simp only [List.append_nil] at hW'
  rw [MakeChecks.laidMetH_plain _ _ _ (by kernel_rfl)] at hL
  refine (roads_any W.heap.size s W (by unfold maxLen at hsz; omega) ⟨tabsN_of hL, ptN_of hL⟩ (Nat.le_refl _)).mono fun e W' ⟨he, hb⟩ => ?_
  subst he
  exact ⟨_, rfl, _, _, _, [], [], [], hW', trodAll_mk1 (shut_bool Tryz.underlying4 _), trodAll_mk1 (shut_string Tryz.underlying9 hsz), rfl, hb.below.frame _, fun h => by cases h⟩

theorem roads_holds : Rows.FnFjNumberRoadsSaid :=
  OpenClaim.holds_of_wide 3 Tryz.f3 rfl rfl rfl rfl rfl rfl rfl ⟨rfl, rfl, rfl, rfl, rfl⟩ rfl rfl rfl rfl rfl (by kernel_rfl) Tryz.func3 (by kernel_rfl)
    (of_decide_eq_true (by kernel_rfl)) (by unfold Func.isWrapper; first | (rw [if_pos (by decide +kernel)]; kernel_rfl) | (rw [if_neg (by decide +kernel)]; exact ⟨rfl, rfl⟩))
    (fun os started H enc _ => liftedN os started H enc)
theorem fnFjNumberRoads_card : Rows.FnFjNumberRoadsCardSaid :=
  Claim7.holds_tied_plain_at .later [] [.data, .data, .widerDeep, .widerDeep, .data, .data, .data, .data, .data, .data, .data, .data, .sentinel, .sentinel, .data, .pinned, .pinned] true (true, "f67d6a5007337f93c4b8809b971fb4321deef9522b02e0f349cde68fcf3dca2e") true
    roads_holds (fun _ h => by cases h) (by kernel_rfl) (fun _ h => by cases h) fnFjNumberRoads_row_tie rfl ⟨rfl, rfl⟩ (by kernel_rfl) rfl
    (fun f fn hf hfn => by
      obtain rfl : f = 3 := Option.some.inj ((show Tryz.prog.funcNamed "pub-tetrapla/laws.FnFjNumberRoads" = some 3 by kernel_rfl).symm.trans hf) |>.symm
      obtain rfl : fn = Tryz.f3 := (Option.some.inj (Tryz.func3.symm.trans hfn)).symm
      exact ⟨by kernel_rfl, fun j t ht => by
        rw [Tryz.params3] at ht
        have hm : t ∈ [9] := by simpa using Array.mem_of_getElem? ht
        have hall : ([9].all fun u => !Tryz.prog.wantsStandIn u) = true := by kernel_rfl
        exact (show Tryz.prog.wantsStandIn t = false by simpa using List.all_eq_true.1 hall t hm)⟩)
    (by kernel_rfl)
#print axioms fnFjNumberRoads_card
end Go.Proofs.YtkocponnjfkchaaGreatDoor
