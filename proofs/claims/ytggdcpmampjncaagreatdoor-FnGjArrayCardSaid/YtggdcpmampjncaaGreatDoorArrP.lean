/- Array of what Parse gives for a JSON text is the elements of an array in their order, an empty list for null, else a list with the value alone: FnGjArray answers true for every text, where the listed variables of strconv hold what the program's text lays in them (the card ties that). -/
import Derived.Test.YtggdcpmampjncaaGreatDoorArr
import Derived.Test.YtggdcpmampjncaaGreatDoorLaid
import Derived.Test.YtggdcpmampjncaaGreatDoorRows
import Derived.Test.YtggdcpmampjncaaGreatDoorCards
import Derived.Test.YtggdcpmampjncaaGreatDoorTie
import Derived.WalkKit
import Derived.ProofKit
import Derived.OpenShut
import Derived.LaidMore
import Derived.Lay
import Derived.SevenTiedAt
import Derived.Stop.Joined
import Derived.ShutString
import Derived.ChangeMaps5
namespace Go.Proofs.YtggdcpmampjncaaGreatDoor
open Go.ChangeMaps (open_string shut_string)
open Go.ChangeShapes Go.WideShapes Go.ChangeAt Go.WideMaps Go.WideElems Go.RowKit

theorem tabsA_of {w : World} (h : laidMet Tryz.prog Rows.fnGjArrayRow.laid w) : Tabs w.heap.size w := by
  have hlc := lc_of (Lib.laidMet.reads h (.tail _ (.tail _ (.tail _ (.tail _ (.tail _ (.tail _ (.tail _ (.tail _ (.tail _ (.tail _ (.tail _ (.head _)))))))))))))
  have hpt := pt_of (Lib.laidMet.reads h (.tail _ (.tail _ (.tail _ (.tail _ (.tail _ (.tail _ (.tail _ (.tail _ (.tail _ (.tail _ (.tail _ (.tail _ (.head _))))))))))))))
  have hfi := fi_of (Lib.laidMet.reads h (.tail _ (.tail _ (.tail _ (.head _)))))
  have hop := op_of (Lib.laidMet.reads h (.tail _ (.tail _ (.tail _ (.tail _ (.head _))))))
  have hpw := pw_of (zs := [1, 3, 6, 9, 13, 16, 19, 23, 26]) (by
    intro k hk
    obtain rfl | rfl | rfl | rfl | rfl | rfl | rfl | rfl | rfl : k = 0 ∨ k = 1 ∨ k = 2 ∨ k = 3 ∨ k = 4 ∨ k = 5 ∨ k = 6 ∨ k = 7 ∨ k = 8 := by omega
    · exact ⟨1, rfl, by decide, by decide⟩
    · exact ⟨3, rfl, by decide, by decide⟩
    · exact ⟨6, rfl, by decide, by decide⟩
    · exact ⟨9, rfl, by decide, by decide⟩
    · exact ⟨13, rfl, by decide, by decide⟩
    · exact ⟨16, rfl, by decide, by decide⟩
    · exact ⟨19, rfl, by decide, by decide⟩
    · exact ⟨23, rfl, by decide, by decide⟩
    · exact ⟨26, rfl, by decide, by decide⟩) rfl (Lib.laidMet.reads h (.tail _ (.tail _ (.tail _ (.tail _ (.tail _ (.head _)))))))
  have hfp := fp_of (zs := [4607182418800017408, 4621819117588971520, 4636737291354636288, 4652007308841189376, 4666723172467343360, 4681608360884174848, 4696837146684686336, 4711630319722168320, 4726483295884279808, 4741671816366391296, 4756540486875873280, 4771362005757984768, 4786511204640096256, 4801453603149578240, 4816244402031689728, 4831355200913801216, 4846369599423283200, 4861130398305394688, 4876203697187506176, 4891288408196988160, 4906019910204099648, 4921056587992461136, 4936209963552724370]) rfl (Lib.laidMet.reads h (.tail _ (.tail _ (.tail _ (.tail _ (.tail _ (.tail _ (.head _))))))))
  have her := er_of (Lib.laidMet.reads h (.tail _ (.tail _ (.tail _ (.tail _ (.tail _ (.tail _ (.tail _ (.tail _ (.tail _ (.head _)))))))))))
  have hes := es_of (Lib.laidMet.reads h (.tail _ (.tail _ (.tail _ (.tail _ (.tail _ (.tail _ (.tail _ (.tail _ (.tail _ (.tail _ (.head _))))))))))))
  have lt : ∀ {g i : Nat} {v : Value}, w.cell? ⟨g, i, none⟩ = some v → g < w.heap.size := fun h => World.block_lt_of_cell? w _ h
  obtain ⟨B1, o1, c1, h1, hB1⟩ := hlc
  obtain ⟨B2, o2, c2, h2, hB2⟩ := hpw
  obtain ⟨B3, o3, c3, h3, hB3⟩ := hfp
  obtain ⟨x0, y0, h4, _⟩ := hpt 0 (by decide)
  obtain ⟨e1, h5, h5'⟩ := her
  obtain ⟨e2, h6, h6'⟩ := hes
  exact ⟨⟨B1, o1, c1, h1, hB1⟩, ⟨lt h1.var, lt hfi.1, lt h2, lt h4, lt h3, lt hop, lt h5, lt h6⟩, hfi.1, hfi.2.1, hfi.2.2, ⟨B2, o2, c2, h2, hB2⟩, hpt, ⟨B3, o3, c3, h3, hB3⟩, hop, ⟨e1, h5, h5'⟩, ⟨e2, h6, h6'⟩⟩

theorem ownA : ownKnob Tryz.prog.godebug = none := by kernel_rfl
set_option maxRecDepth 100000 in
theorem liftedA (os : Os) (started : os.Started) (H : Type) (enc : TypeId × Value → H) :
    ReturnsInHanded {} Tryz.checked os 4 .any (fun w args => (Rows.fnGjArraySpec.pre enc Tryz.prog Tryz.f4 [] false w args ∧ laidMetH Tryz.prog Rows.fnGjArrayRow.laid w) ∧ sizedMet enc Tryz.prog Tryz.f4 (OpenSpec.ofChange Rows.fnGjArraySpec) false w args)
      (Rows.fnGjArraySpec.post enc Tryz.prog Tryz.f4 false true false false) := by
  refine returnsInHanded_of_change_and (C := Tryz.checked) (X := fun w _ => laidMetH Tryz.prog Rows.fnGjArrayRow.laid w) (fun _ _ _ hh h => h.of_heap hh) ownA started (by kernel_rfl) Tryz.func4
    (ChangeSpec.witness_shaped (enc := enc) (C := Tryz.checked) (os := os) (X := fun w _ => laidMetH Tryz.prog Rows.fnGjArrayRow.laid w) false (World.laidAll Tryz.prog os Rows.fnGjArrayRow.laid) #[.string ⟨#[]⟩] 8 (World.laidAll_os _ _ _)
      (World.shaped_of_ZipB (by kernel_rfl) (by kernel_rfl)) (by kernel_rfl) (by kernel_rfl) (by kernel_rfl)
      (by rw [MakeChecks.laidMetH_plain _ _ _ (by kernel_rfl)]; exact laidMet_laidAll _ (by kernel_rfl) (by kernel_rfl))) ?_
  intro W base args ds gs before hval0 hW _ _ hL _
  have hval : ∀ (j : Nat) t v, Tryz.f4.params[j]? = some t → args[j]? = some v → Value.okWide Tryz.prog W .any base t v := hval0
  have hW' := hW
  obtain ⟨p, q, hA0, hV, rfl, _, _⟩ := hW
  have hA : DataW.TrodAll enc Tryz.prog W 0 (fun _ => true) true Tryz.f4.params.toList args.toList ds p := hA0
  rw [Tryz.params4] at hA hval
  obtain ⟨v0, d0, rfl, rfl, h0⟩ := trodAll_one hA
  obtain ⟨rfl, rfl⟩ := trodVars_none hV
  obtain ⟨s, rfl, rfl, rfl, hsz⟩ := open_string Tryz.underlying9 (hval 0 9 v0 rfl rfl) h0
  simp only [List.append_nil] at hW'
  rw [MakeChecks.laidMetH_plain _ _ _ (by kernel_rfl)] at hL
  refine (array_any W.heap.size s W (tabsA_of hL) (Nat.le_refl _)).mono fun e W' ⟨he, hb⟩ => ?_
  subst he
  exact ⟨_, rfl, _, _, _, [], [], [], hW', trodAll_mk1 (shut_bool Tryz.underlying4 _), trodAll_mk1 (shut_string Tryz.underlying9 hsz), rfl, hb.below.frame _, fun h => by cases h⟩

theorem array_holds : Rows.FnGjArraySaid :=
  OpenClaim.holds_of_wide 4 Tryz.f4 rfl rfl rfl rfl rfl rfl rfl ⟨rfl, rfl, rfl, rfl, rfl⟩ rfl rfl rfl rfl rfl (by kernel_rfl) Tryz.func4 (by kernel_rfl)
    (of_decide_eq_true (by kernel_rfl)) (by unfold Func.isWrapper; first | (rw [if_pos (by decide +kernel)]; kernel_rfl) | (rw [if_neg (by decide +kernel)]; exact ⟨rfl, rfl⟩))
    (fun os started H enc _ => liftedA os started H enc)
theorem fnGjArray_card : Rows.FnGjArrayCardSaid :=
  Claim7.holds_tied_plain_at .later [] [.data, .data, .widerDeep, .widerDeep, .data, .data, .data, .data, .data, .sentinel, .sentinel, .pinned, .pinned] true (true, "23632f1885307b3c85ade599c71ea599f06f786dcde91dedfe892f677d538f6a") true
    array_holds (fun _ h => by cases h) (by kernel_rfl) (fun _ h => by cases h) fnGjArray_row_tie rfl ⟨rfl, rfl⟩ (by kernel_rfl) rfl
    (fun f fn hf hfn => by
      obtain rfl : f = 4 := Option.some.inj ((show Tryz.prog.funcNamed "pub-tetrapla/laws.FnGjArray" = some 4 by kernel_rfl).symm.trans hf) |>.symm
      obtain rfl : fn = Tryz.f4 := (Option.some.inj (Tryz.func4.symm.trans hfn)).symm
      exact ⟨by kernel_rfl, fun j t ht => by
        rw [Tryz.params4] at ht
        have hm : t ∈ [9] := by simpa using Array.mem_of_getElem? ht
        have hall : ([9].all fun u => !Tryz.prog.wantsStandIn u) = true := by kernel_rfl
        exact (show Tryz.prog.wantsStandIn t = false by simpa using List.all_eq_true.1 hall t hm)⟩)
    (by kernel_rfl)
#print axioms fnGjArray_card
end Go.Proofs.YtggdcpmampjncaaGreatDoor
