/- All of what Parse gives for a JSON text yields what ForEach passes, names and values, until as many were taken: FnGjAll answers true for every text and every stop, where the listed variables of strconv and gjson hold what the program's text lays in them (the card ties that). -/
import Derived.Test.YtggdcpmampjncaaGreatDoorFi
import Derived.Test.YtggdcpmampjncaaGreatDoorLaid
import Derived.Test.YtggdcpmampjncaaGreatDoorRows
import Derived.Test.YtggdcpmampjncaaGreatDoorCards
import Derived.Test.YtggdcpmampjncaaGreatDoorTie
import Derived.WalkKit
import Derived.ProofKit
import Derived.OpenShut
import Derived.LaidMore
import Derived.Lay
import Derived.SevenTiedAt
import Derived.Stop.Joined
import Derived.ShutString
import Derived.ChangeMaps5
namespace Go.Proofs.YtggdcpmampjncaaGreatDoor
open Go.ChangeMaps (open_string shut_string)
open Go.ChangeShapes Go.WideShapes Go.ChangeAt Go.WideMaps Go.WideElems Go.RowKit

theorem gVC : Tryz.prog.globalNamed "pub-tetrapla/pub/gjson.vchars" = some 0 := by kernel_rfl
theorem tVC : (Tryz.prog.globals[0]?).map (·.type) = some 132 := by kernel_rfl
theorem cU8 : Tryz.prog.cellsOf 5 = 1 := by kernel_rfl
theorem vch_laid : (Rows.laid_pub_tetrapla_pub_gjson_vchars : DataW Unit) = .agg ((List.range 256).map fun c => .lit (.int .u8 (vch c : Int))) := by kernel_rfl
theorem vt_of {w : World} (hr : Lib.VarReads Tryz.prog w "pub-tetrapla/pub/gjson.vchars" Rows.laid_pub_tetrapla_pub_gjson_vchars) : VT w := by
  rw [vch_laid] at hr
  obtain ⟨cs, fuel, p, hc, h⟩ := var_open hr gVC tVC
  obtain ⟨xs, m, rfl, hx, hl, hxl, hall⟩ := DataW.trod_array Tryz.underlying132 h
  simp only [Prod.mk.injEq, DataW.agg.injEq] at hx
  obtain ⟨hx, _⟩ := hx
  intro k hk
  have h1 := hall k hk
  rw [cU8, List.getElem?_eq_getElem (by omega)] at h1
  have h2 : (xs.map (·.1))[k]? = some (xs[k]'(by omega)).1 := by rw [List.getElem?_map, List.getElem?_eq_getElem (by omega)]; rfl
  rw [← hx, List.getElem?_map, List.getElem?_range hk, Option.map_some, Option.some.injEq] at h2
  rw [Nat.mul_one] at h1
  rw [hc]
  have hlen : cs.length = 256 := by rw [hl]; kernel_rfl
  have hd : (cs.drop k).take 1 = [cs[k]'(by omega)] := by
    rw [List.drop_eq_getElem_cons (by omega : k < cs.length)]
    rfl
  rw [hd] at h1
  have hv : cs[k]'(by omega) = .int .u8 (vch k : Int) := (int_cell (q := (xs[k]'(by omega)).2) Tryz.underlying5 (h1.trans (by rw [h2]))).1
  rw [List.getElem?_eq_getElem (by omega), hv]

theorem tabsL_of {w : World} (h : laidMet Tryz.prog Rows.fnGjAllRow.laid w) : Tabs w.heap.size w := by
  have hlc := lc_of (Lib.laidMet.reads h (.tail _ (.tail _ (.tail _ (.tail _ (.tail _ (.tail _ (.tail _ (.tail _ (.tail _ (.tail _ (.tail _ (.tail _ (.head _))))))))))))))
  have hpt := pt_of (Lib.laidMet.reads h (.tail _ (.tail _ (.tail _ (.tail _ (.tail _ (.tail _ (.tail _ (.tail _ (.tail _ (.tail _ (.tail _ (.tail _ (.tail _ (.head _)))))))))))))))
  have hfi := fi_of (Lib.laidMet.reads h (.tail _ (.tail _ (.tail _ (.head _)))))
  have hop := op_of (Lib.laidMet.reads h (.tail _ (.tail _ (.tail _ (.tail _ (.head _))))))
  have hpw := pw_of (zs := [1, 3, 6, 9, 13, 16, 19, 23, 26]) (by
    intro k hk
    obtain rfl | rfl | rfl | rfl | rfl | rfl | rfl | rfl | rfl : k = 0 ∨ k = 1 ∨ k = 2 ∨ k = 3 ∨ k = 4 ∨ k = 5 ∨ k = 6 ∨ k = 7 ∨ k = 8 := by omega
    · exact ⟨1, rfl, by decide, by decide, rfl⟩
    · exact ⟨3, rfl, by decide, by decide, rfl⟩
    · exact ⟨6, rfl, by decide, by decide, rfl⟩
    · exact ⟨9, rfl, by decide, by decide, rfl⟩
    · exact ⟨13, rfl, by decide, by decide, rfl⟩
    · exact ⟨16, rfl, by decide, by decide, rfl⟩
    · exact ⟨19, rfl, by decide, by decide, rfl⟩
    · exact ⟨23, rfl, by decide, by decide, rfl⟩
    · exact ⟨26, rfl, by decide, by decide, rfl⟩) rfl (Lib.laidMet.reads h (.tail _ (.tail _ (.tail _ (.tail _ (.tail _ (.head _)))))))
  have hfp := fp_of (Lib.laidMet.reads h (.tail _ (.tail _ (.tail _ (.tail _ (.tail _ (.tail _ (.head _))))))))
  have her := er_of (Lib.laidMet.reads h (.tail _ (.tail _ (.tail _ (.tail _ (.tail _ (.tail _ (.tail _ (.tail _ (.tail _ (.head _)))))))))))
  have hes := es_of (Lib.laidMet.reads h (.tail _ (.tail _ (.tail _ (.tail _ (.tail _ (.tail _ (.tail _ (.tail _ (.tail _ (.tail _ (.head _))))))))))))
  have lt : ∀ {g i : Nat} {v : Value}, w.cell? ⟨g, i, none⟩ = some v → g < w.heap.size := fun h => World.block_lt_of_cell? w _ h
  obtain ⟨B1, o1, c1, h1, hB1⟩ := hlc
  obtain ⟨B2, o2, c2, h2, hB2⟩ := hpw
  obtain ⟨B3, o3, c3, h3, hB3⟩ := hfp
  obtain ⟨x0, y0, h4, _⟩ := hpt 0 (by decide)
  obtain ⟨e1, h5, h5'⟩ := her
  obtain ⟨e2, h6, h6'⟩ := hes
  exact ⟨⟨B1, o1, c1, h1, hB1⟩, ⟨lt h1.var, lt hfi.1, lt h2, lt h4, lt h3, lt hop, lt h5, lt h6⟩, hfi.1, hfi.2.1, hfi.2.2, ⟨B2, o2, c2, h2, hB2⟩, hpt, ⟨B3, o3, c3, h3, hB3⟩, hop, ⟨e1, h5, h5'⟩, ⟨e2, h6, h6'⟩⟩

theorem vtL_of {w : World} (h : laidMet Tryz.prog Rows.fnGjAllRow.laid w) : VT w := vt_of (Lib.laidMet.reads h (.tail _ (.tail _ (.tail _ (.tail _ (.tail _ (.tail _ (.tail _ (.tail _ (.tail _ (.tail _ (.tail _ (.head _)))))))))))))

theorem ownL : ownKnob Tryz.prog.godebug = none := by kernel_rfl
set_option maxRecDepth 100000 in
theorem liftedL (os : Os) (started : os.Started) (H : Type) (enc : TypeId × Value → H) :
    ReturnsInHanded {} Tryz.checked os 5 .any (fun w args => (Rows.fnGjAllSpec.pre enc Tryz.prog Tryz.f5 [] false w args ∧ laidMetH Tryz.prog Rows.fnGjAllRow.laid w) ∧ sizedMet enc Tryz.prog Tryz.f5 (OpenSpec.ofChange Rows.fnGjAllSpec) false w args)
      (Rows.fnGjAllSpec.post enc Tryz.prog Tryz.f5 false true false false) := by
  refine returnsInHanded_of_change_and (C := Tryz.checked) (X := fun w _ => laidMetH Tryz.prog Rows.fnGjAllRow.laid w) (fun _ _ _ hh h => h.of_heap hh) ownL started (by kernel_rfl) Tryz.func5
    (ChangeSpec.witness_shaped (enc := enc) (C := Tryz.checked) (os := os) (X := fun w _ => laidMetH Tryz.prog Rows.fnGjAllRow.laid w) false (World.laidAll Tryz.prog os Rows.fnGjAllRow.laid) #[.string ⟨#[]⟩, .int .i64 0] 8 (World.laidAll_os _ _ _)
      (World.shaped_of_ZipB (by kernel_rfl) (by kernel_rfl)) (by kernel_rfl) (by kernel_rfl) (by kernel_rfl)
      (by rw [MakeChecks.laidMetH_plain _ _ _ (by kernel_rfl)]; exact laidMet_laidAll _ (by kernel_rfl) (by kernel_rfl))) ?_
  intro W base args ds gs before hval0 hW _ _ hL _
  have hval : ∀ (j : Nat) t v, Tryz.f5.params[j]? = some t → args[j]? = some v → Value.okWide Tryz.prog W .any base t v := hval0
  have hW' := hW
  obtain ⟨p, q, hA0, hV, rfl, _, _⟩ := hW
  have hA : DataW.TrodAll enc Tryz.prog W 0 (fun _ => true) true Tryz.f5.params.toList args.toList ds p := hA0
  rw [Tryz.params5] at hA hval
  obtain ⟨v0, v1, d0, d1, p0, p1, rfl, rfl, rfl, h0, h1⟩ := trodAll_two hA
  obtain ⟨rfl, rfl⟩ := trodVars_none hV
  obtain ⟨s, rfl, rfl, rfl, hsz⟩ := open_string Tryz.underlying9 (hval 0 9 v0 rfl rfl) h0
  obtain ⟨z, rfl, rfl, rfl, hzw⟩ := open_int Tryz.underlying3 (hval 1 3 v1 rfl rfl) h1
  simp only [List.append_nil] at hW'
  rw [MakeChecks.laidMetH_plain _ _ _ (by kernel_rfl)] at hL
  refine (all_any W.heap.size s z W (tabsL_of hL) (Nat.le_refl _) (vtL_of hL) (World.block_lt_of_cell? W _ (vtL_of hL 0 (by decide)))).mono fun e W' ⟨he, hb⟩ => ?_
  subst he
  exact ⟨_, rfl, _, _, _, [], [], [], hW', trodAll_mk1 (shut_bool Tryz.underlying4 _), trodAll_mk2 (shut_string Tryz.underlying9 hsz) (shut_int Tryz.underlying3 hzw), rfl, hb.below.frame _, fun h => by cases h⟩

theorem all_holds : Rows.FnGjAllSaid :=
  OpenClaim.holds_of_wide 5 Tryz.f5 rfl rfl rfl rfl rfl rfl rfl ⟨rfl, rfl, rfl, rfl, rfl⟩ rfl rfl rfl rfl rfl (by kernel_rfl) Tryz.func5 (by kernel_rfl)
    (of_decide_eq_true (by kernel_rfl)) (by unfold Func.isWrapper; first | (rw [if_pos (by decide +kernel)]; kernel_rfl) | (rw [if_neg (by decide +kernel)]; exact ⟨rfl, rfl⟩))
    (fun os started H enc _ => liftedL os started H enc)
theorem fnGjAll_card : Rows.FnGjAllCardSaid :=
  Claim7.holds_tied_plain_at .later [] [.data, .data, .widerDeep, .widerDeep, .data, .data, .data, .data, .data, .sentinel, .sentinel, .data, .pinned, .pinned] true (true, "23632f1885307b3c85ade599c71ea599f06f786dcde91dedfe892f677d538f6a") true
    all_holds (fun _ h => by cases h) (by kernel_rfl) (fun _ h => by cases h) fnGjAll_row_tie rfl ⟨rfl, rfl⟩ (by kernel_rfl) rfl
    (fun f fn hf hfn => by
      obtain rfl : f = 5 := Option.some.inj ((show Tryz.prog.funcNamed "pub-tetrapla/laws.FnGjAll" = some 5 by kernel_rfl).symm.trans hf) |>.symm
      obtain rfl : fn = Tryz.f5 := (Option.some.inj (Tryz.func5.symm.trans hfn)).symm
      exact ⟨by kernel_rfl, fun j t ht => by
        rw [Tryz.params5] at ht
        have hm : t ∈ [9, 3] := by simpa using Array.mem_of_getElem? ht
        have hall : ([9, 3].all fun u => !Tryz.prog.wantsStandIn u) = true := by kernel_rfl
        exact (show Tryz.prog.wantsStandIn t = false by simpa using List.all_eq_true.1 hall t hm)⟩)
    (by kernel_rfl)
#print axioms fnGjAll_card
end Go.Proofs.YtggdcpmampjncaaGreatDoor
