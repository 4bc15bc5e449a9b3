/- strconv.ParseFloat returns, for texts of the bytes of numbers. -/
import Derived.Test.YtkocponnjfkchaaGreatDoorPf4
import Derived.Test.YtkocponnjfkchaaGreatDoorPf5
import Derived.Test.YtkocponnjfkchaaGreatDoorDec5
import Derived.Test.YtkocponnjfkchaaGreatDoorDec6
namespace Go.Proofs.YtkocponnjfkchaaGreatDoor
open Go.RowKit

theorem rep_get (n : Nat) (v : Value) (t : List Value) (j : Nat) : (List.replicate n v ++ t)[n + j]? = t[j]? := by
  rw [List.getElem?_append_right (by rw [List.length_replicate]; omega), List.length_replicate, Nat.add_sub_cancel_left]
theorem rep_get0 (n : Nat) (v : Value) (t : List Value) (j : Nat) (h : j < n) : (List.replicate n v ++ t)[j]? = some v := by
  rw [List.getElem?_append_left (by rw [List.length_replicate]; exact h), List.getElem?_replicate, if_pos h]
theorem rep_size (n : Nat) (v : Value) (t : List Value) : (List.replicate n v ++ t).toArray.size = n + t.length := by
  rw [List.size_toArray, List.length_append, List.length_replicate]
/-- The last cells of a decimal. -/
def decEnd : List Value := [Value.int .i64 0, Value.int .i64 0, Value.bool false, Value.bool false]
theorem dec_zero : Tryz.zeroCells139 = (List.replicate 800 (Value.int .u8 0) ++ decEnd).toArray := by kernel_rfl
theorem dec_new (w : World) : DC 139 w.heap.size (fun _ => 0) 0 0 false false (w.alloc (.cells Tryz.zeroCells139 139)) := by
  refine ⟨⟨_, heap_alloc_new w _, ?_, ?_, ?_, ?_, ?_, ?_⟩, fun i _ => by show (0 : Nat) ≤ 255; omega⟩
  · rw [dec_zero]; exact rep_size 800 _ _
  · intro i hi
    rw [dec_zero, List.getElem?_toArray]; exact rep_get0 800 _ _ i hi
  · rw [dec_zero, List.getElem?_toArray]; exact rep_get 800 _ _ 0
  · rw [dec_zero, List.getElem?_toArray]; exact rep_get 800 _ _ 1
  · rw [dec_zero, List.getElem?_toArray]; exact rep_get 800 _ _ 2
  · rw [dec_zero, List.getElem?_toArray]; exact rep_get 800 _ _ 3

/-- The frame of atof64. -/
theorem lit143 (g : Nat → Value) : ((List.range 143).map g).toArray = #[g 0, g 1, g 2, g 3, g 4, g 5, g 6, g 7, g 8, g 9, g 10, g 11, g 12, g 13, g 14, g 15, g 16, g 17, g 18, g 19, g 20, g 21, g 22, g 23, g 24, g 25, g 26, g 27, g 28, g 29, g 30, g 31, g 32, g 33, g 34, g 35, g 36, g 37, g 38, g 39, g 40, g 41, g 42, g 43, g 44, g 45, g 46, g 47, g 48, g 49, g 50, g 51, g 52, g 53, g 54, g 55, g 56, g 57, g 58, g 59, g 60, g 61, g 62, g 63, g 64, g 65, g 66, g 67, g 68, g 69, g 70, g 71, g 72, g 73, g 74, g 75, g 76, g 77, g 78, g 79, g 80, g 81, g 82, g 83, g 84, g 85, g 86, g 87, g 88, g 89, g 90, g 91, g 92, g 93, g 94, g 95, g 96, g 97, g 98, g 99, g 100, g 101, g 102, g 103, g 104, g 105, g 106, g 107, g 108, g 109, g 110, g 111, g 112, g 113, g 114, g 115, g 116, g 117, g 118, g 119, g 120, g 121, g 122, g 123, g 124, g 125, g 126, g 127, g 128, g 129, g 130, g 131, g 132, g 133, g 134, g 135, g 136, g 137, g 138, g 139, g 140, g 141, g 142] := by kernel_rfl

/-- An error of the inner package, or none. -/
def evI : Nat → Value
  | 0 => .nilIface
  | 1 => .iface 105 (.int .i64 1)
  | _ => .iface 105 (.int .i64 2)
theorem evR_I (b : Bool) : evR b = evI b.toNat := by cases b <;> rfl
/-- The sign's word. -/
def sgV (ng : Bool) : Int := if ng = true then 9223372036854775808 else 0
/-- What atof64 makes of a text: the number, the place, the error's kind. -/
def AF3 (x : Nat × Bool) (i : Nat) (o : Nat × Int × Nat) : Prop := o = (x.1, (i : Int), x.2.toNat)
def AFd (_s : ByteArray) (i : Nat) : SEr → Nat × Int × Nat → Prop
  | none, o => o.1 = 0 ∧ o.2.2 = 2
  | some (a, ng), o => ∃ (x : Int) (b : Bool), FB a ng x b ∧ AF3 (x.toNat, b) i o
def AF2 (s : ByteArray) (d : Nat) (x : Int) (ng tr : Bool) (i : Nat) (o : Nat × Int × Nat) : Prop :=
  if tr = true then
    if FloatKind.f64.format.order (pfV d x (sgV ng)).1 (pfV (IntKind.u64.wrap ((d : Int) + 1)).toNat x (sgV ng)).1 = some .eq then AF3 (pfV d x (sgV ng)) i o
    else ∃ r, SE (s.extract 0 i) (fun _ => 0) r ∧ AFd s i r o
  else match exV (d : Int) x ng with
    | some f => AF3 (f, false) i o
    | none => AF3 (pfV d x (sgV ng)) i o
def AF1 (s : ByteArray) : RFr → Nat × Int × Nat → Prop
  | none, o => o.1 = 0 ∧ o.2.2 = 2
  | some (m, x, ng, tr, i), o =>
    if (m == 0) = true ∨ x < -345 then AF3 ((bits .or .u64 (sgV ng) 0).toNat, false) i o
    else if 310 < x then AF3 ((bits .or .u64 (sgV ng) 9218868437227405312).toNat, true) i o
    else AF2 s m.toNat x ng tr i o
def AF (s : ByteArray) (o : Nat × Int × Nat) : Prop := ∃ r, RF s r ∧ AF1 s r o
/-- What atof64 returns. -/
def RetAF (s : ByteArray) (r : Ending) : Prop := ∃ (f : Nat) (n : Int) (k : Nat), r = .returned (.tuple #[.float .f64 f, .int .i64 n, evI k]) ∧ AF s (f, n, k)

theorem results_tmp3 {fn : Func} {t1 t2 t3 : Tmp} (h : fn.results = #[.tmp t1, .tmp t2, .tmp t3]) (tmps : Array Value) (P : Program) (w : World) :
    (results fn tmps).run P w = .ok (.tuple #[tmps.getD t1 undef, tmps.getD t2 undef, tmps.getD t3 undef]) w := by
  simp [results, h]

set_option maxHeartbeats 4000000 in
set_option maxRecDepth 20000 in
theorem atof64_any (lo : Nat) (s : ByteArray) (w : World) (hs : s.size ≤ 1048576) (h : NumB s) (hT : Tabs lo w) (hlo : lo ≤ w.heap.size) :
    Calls Tryz.prog 74 #[.string s] w fun r w' => RetAF s r ∧ Upd NoB w w' := by
  have hopt := hT.opt
  have hfb := frombits_run
  go_enter Tryz.func74, Tryz.ntmps74
  go_wp2_with fail
  refine (special_any s _ hs h).mono ?_
  rintro e w' ⟨rfl, rfl⟩
  go_wp2_with fail
  refine (readFloat_any s _ hs h).mono ?_
  rintro e w' ⟨⟨m, x, ng, tr, ok, i, rfl, hm0, hm1, hx0, hx1, hi, hRF⟩, rfl⟩
  have HRF := Lib.hid hRF; clear hRF
  cases ok
  · as_aux_lemma =>
      go_wp2_with fail
      refine bodyPost_ret (results_tmp3 rfl _ _ _) rfl ?_
      exact ⟨⟨0, _, 2, rfl, none, HRF.out, rfl, rfl⟩, Upd.refl _ _⟩
  have HAF : Hid (∀ o, AF1 s (some (m, x, ng, tr, i)) o → AF s o) := Lib.hid fun o ho => ⟨_, HRF.out, ho⟩
  clear HRF
  have HB := Lib.hid (bool2u_any ng w)
  go_upto_region 11 with (fail)
  refine wp_cut (FR 143 (fun g wx => (g 0 = .string s ∧ g 2 = .float .f64 0 ∧ g 3 = .int .i64 (i : Int) ∧ g 4 = .nilIface ∧ g 8 = .int .u64 m ∧ g 9 = .int .i64 x ∧ g 10 = .bool ng ∧ g 11 = .bool tr ∧ g 16 = .int .u64 (sgV ng)) ∧ w = wx)) ?rest ?first
  case first =>
    intro J K' hJ hK
    cases ng
    all_goals
      as_aux_lemma =>
        go_wp2_with fail
        refine HB.out.mono ?_
        rintro e w' ⟨rfl, rfl⟩
        go_wp2_with fail
        refine Met.intro ?_
        go_step
        refine FR.intro (by rfl) ?_
        exact ⟨⟨rfl, rfl, rfl, rfl, rfl, rfl, rfl, rfl, by unfold sgV; rfl⟩, rfl⟩
  case rest =>
  clear HB
  refine FR.rest ?_
  rintro g wc ⟨⟨e0, e2, e3, e4, e8, e9, e10, e11, e16⟩, rfl⟩
  rw [lit143]
  simp only [e0, e2, e3, e4, e8, e9, e10, e11, e16]
  clear e0 e2 e3 e4 e8 e9 e10 e11 e16
  obtain ⟨sg, hsg⟩ : ∃ sg, sgV ng = sg := ⟨_, rfl⟩
  rw [hsg]
  have HSG := Lib.hid hsg; clear hsg
  by_cases hM : (m == 0) = true
  · have : True := trivial
    as_aux_lemma =>
      go_wp2_with fail
      refine bodyPost_ret (results_tmp3 rfl _ _ _) rfl ?_
      exact ⟨⟨(bits .or .u64 sg 0).toNat, i, 0, rfl, HAF.out _ (by unfold AF1; dsimp only; rw [if_pos (.inl hM), HSG.out]; rfl)⟩, Upd.refl _ _⟩
  have hMf : (m == 0) = false := by simpa using hM
  clear hM
  by_cases hx3 : 310 < x
  · have : True := trivial
    as_aux_lemma =>
      go_wp2_with fail
      refine bodyPost_ret (results_tmp3 rfl _ _ _) rfl ?_
      exact ⟨⟨(bits .or .u64 sg 9218868437227405312).toNat, i, 1, rfl, HAF.out _ (by unfold AF1; dsimp only; rw [if_neg (by rw [hMf]; rintro (h | h); exact Bool.noConfusion h; omega), if_pos hx3, HSG.out]; rfl)⟩, Upd.refl _ _⟩
  by_cases hx4 : x < -345
  · have : True := trivial
    as_aux_lemma =>
      go_wp2_with fail
      refine bodyPost_ret (results_tmp3 rfl _ _ _) rfl ?_
      exact ⟨⟨(bits .or .u64 sg 0).toNat, i, 0, rfl, HAF.out _ (by unfold AF1; dsimp only; rw [if_pos (.inr hx4), HSG.out]; rfl)⟩, Upd.refl _ _⟩
  obtain ⟨d, rfl⟩ : ∃ d : Nat, m = (d : Int) := ⟨m.toNat, by omega⟩
  have HA2 : Hid (∀ o, AF2 s d x ng tr i o → AF s o) := Lib.hid fun o ho => HAF.out o (by
    unfold AF1; dsimp only
    rw [if_neg (by rw [hMf]; rintro (h | h); exact Bool.noConfusion h; omega), if_neg (by omega), Int.toNat_natCast]
    exact ho)
  clear HAF
  have HP1 := Lib.hid (fun wx (hT' : Tabs lo wx) (hlo' : lo ≤ wx.heap.size) => parseFloat64_any lo d x sg wx hT' hlo' (by omega) (by omega) (by omega))
  cases tr
  · have HX := Lib.hid (atof64exact_any lo (d : Int) x ng w hT (by omega) (by omega) (by omega) (by omega))
    as_aux_lemma =>
      go_wp2_with fail
      refine HX.out.mono ?_
      rintro e w' ⟨⟨f, b, rfl, hEV⟩, rfl⟩
      have HEV := Lib.hid hEV; clear hEV
      cases b
      · go_wp2_with fail
        refine (HP1.out _ hT hlo).mono ?_
        rintro e w2 ⟨rfl, hU2⟩
        go_wp2_with fail
        refine bodyPost_ret (results_tmp3 rfl _ _ _) rfl ?_
        exact ⟨⟨(pfV d x sg).1, i, (pfV d x sg).2.toNat, by rw [← evR_I]; rfl, HA2.out _ (by unfold AF2; rw [if_neg (by decide), HEV.out, HSG.out]; rfl)⟩, hU2⟩
      · go_wp2_with fail
        refine bodyPost_ret (results_tmp3 rfl _ _ _) rfl ?_
        exact ⟨⟨f, i, 0, rfl, HA2.out _ (by unfold AF2; rw [if_neg (by decide), HEV.out]; rfl)⟩, Upd.refl _ _⟩
  go_wp2_with fail
  refine (HP1.out _ hT hlo).mono ?_
  rintro e w1 ⟨rfl, hU1⟩
  obtain ⟨f1, hf1⟩ : ∃ f1, (pfV d x sg).1 = f1 := ⟨_, rfl⟩
  obtain ⟨b1, hb1⟩ : ∃ b1, (pfV d x sg).2 = b1 := ⟨_, rfl⟩
  rw [hf1, hb1]
  have HF1 := Lib.hid (⟨hf1, hb1⟩ : (pfV d x sg).1 = f1 ∧ (pfV d x sg).2 = b1); clear hf1 hb1
  have hT1 := hT.upd hU1 (fun _ hb => hb.elim)
  have hlo1 : lo ≤ w1.heap.size := Nat.le_trans hlo hU1.size
  clear HP1
  have HW : ∃ d' : Nat, IntKind.u64.wrap ((d : Int) + 1) = (d' : Int) ∧ d' < 18446744073709551616 := ⟨(IntKind.u64.wrap ((d : Int) + 1)).toNat, by have := u64_rng ((d : Int) + 1); omega, by have := u64_rng ((d : Int) + 1); omega⟩
  obtain ⟨d', hd', hd1⟩ := HW
  have HP2 := Lib.hid (parseFloat64_any lo d' x sg w1 hT1 hlo1 hd1 (by omega) (by omega))
  go_wp2_with fail
  refine HP2.out.mono ?_
  rintro e w2 ⟨rfl, hU2⟩
  obtain ⟨f2, hf2⟩ : ∃ f2, (pfV d' x sg).1 = f2 := ⟨_, rfl⟩
  obtain ⟨b2, hb2⟩ : ∃ b2, (pfV d' x sg).2 = b2 := ⟨_, rfl⟩
  rw [hf2, hb2]
  have HA3 : Hid (∀ o, (if FloatKind.f64.format.order f1 f2 = some .eq then AF3 (f1, b1) i o else ∃ r, SE (s.extract 0 i) (fun _ => 0) r ∧ AFd s i r o) → AF s o) := Lib.hid fun o ho => HA2.out o (by
    have e1 : pfV d x sg = (f1, b1) := Prod.ext HF1.out.1 HF1.out.2
    unfold AF2
    rw [if_pos rfl, HSG.out, e1, hd', Int.toNat_natCast, hf2]
    exact ho)
  clear HF1 hf2 hb2 HA2
  have hT2 := hT1.upd hU2 (fun _ hb => hb.elim)
  have hlo2 : lo ≤ w2.heap.size := Nat.le_trans hlo1 hU2.size
  have hU := hU1.then_none hU2
  clear HP2 hU1 hU2 hT1 hlo1 hT hlo hd1
  clear hd'
  have hsl : ∀ wx, (Instr.slice 9 (.string s) none (some (.int .i64 (i : Int))) none).run Tryz.prog wx = .ok (.string (s.extract 0 i)) wx := fun wx => by
    have h := run_slice_string_to_if (P := Tryz.prog) (w := wx) 9 s .i64 (i : Int) Tryz.underlying9
    rw [if_pos (by omega), Int.toNat_natCast] at h
    exact h
  have HD := Lib.hid (dec_new w2)
  have HU3 := Lib.hid ((Upd.refl NoB w2).alloc (Obj.cells Tryz.zeroCells139 139))
  by_cases hq : FloatKind.f64.format.order f1 f2 = some .eq
  · have HQ : Hid (AF s (f1, (i : Int), b1.toNat)) := Lib.hid (HA3.out _ (by rw [if_pos hq]; rfl))
    clear HA3
    as_aux_lemma =>
      go_wp2_with fail
      refine bodyPost_ret (results_tmp3 rfl _ _ _) rfl ?_
      exact ⟨⟨f1, i, b1.toNat, by rw [← evR_I]; rfl, HQ.out⟩, hU⟩
  have HA4 : Hid (∀ o, (∃ r, SE (s.extract 0 i) (fun _ => 0) r ∧ AFd s i r o) → AF s o) := Lib.hid fun o ho => HA3.out o (by rw [if_neg hq]; exact ho)
  have hq' : (FloatKind.f64.format.order f1 f2 == some .eq) = false := by simpa using hq
  clear HA3 hq
  go_wp2_with fail
  refine (set_any _ _ _ _ (s.extract 0 i) _ (by rw [ByteArray.size_extract]; omega) HD.out).mono ?_
  rintro e w4 ⟨b4, D4, n4, dp4, ng4, tr4, rfl, hD4, hDI4, hp0, hp1, hU4, hSE⟩
  have HSE := Lib.hid hSE; clear hSE
  have hU5 : Upd NoB w w4 := (hU.then_none HU3.out).then hU4 (fun b hb => .inr (by have : b = w2.heap.size := hb; have := hU.size; omega))
  have hT4 := (hT2.upd HU3.out (fun _ hb => hb.elim)).upd hU4 (fun b hb => by have : b = w2.heap.size := hb; omega)
  have hz2 := hU.size
  clear HD HU3 hU hT2 hsl
  cases b4
  · go_wp2_with fail
    refine bodyPost_ret (results_tmp3 rfl _ _ _) rfl ?_
    exact ⟨⟨0, _, 2, rfl, HA4.out _ ⟨_, HSE.out, rfl, rfl⟩⟩, hU5⟩
  have HF := Lib.hid (floatBits_any lo _ _ _ _ _ _ _ hD4 hDI4 hp0 hp1 hT4 hlo2)
  go_wp2_with fail
  refine HF.out.mono ?_
  rintro e w6 ⟨x6, b6, rfl, _, _, hU6, hFB⟩
  have HFB := Lib.hid hFB; clear hFB
  have hU7 : Upd NoB w w6 := hU5.then hU6 (fun b hb => .inr (by have : b = w2.heap.size := hb; have := hz2; omega))
  cases b6
  · go_wp2_with fail
    refine bodyPost_ret (results_tmp3 rfl _ _ _) rfl ?_
    exact ⟨⟨x6.toNat, i, 0, rfl, HA4.out _ ⟨_, HSE.out, x6, false, HFB.out, rfl⟩⟩, hU7⟩
  · go_wp2_with fail
    refine bodyPost_ret (results_tmp3 rfl _ _ _) rfl ?_
    exact ⟨⟨x6.toNat, i, 1, rfl, HA4.out _ ⟨_, HSE.out, x6, true, HFB.out, rfl⟩⟩, hU7⟩

/-- atof64's number and error's kind are one at most; where it fails, the place is free. -/
theorem AF.one {s : ByteArray} {o o' : Nat × Int × Nat} (h : AF s o) (h' : AF s o') : o = o' ∨ (o.1 = 0 ∧ o.2.2 = 2 ∧ o'.1 = 0 ∧ o'.2.2 = 2) := by
  obtain ⟨r, h1, h2⟩ := h
  obtain ⟨r', k1, k2⟩ := h'
  obtain rfl := h1.uniq k1
  rcases r with _ | ⟨m, x, ng, tr, i⟩
  · exact .inr ⟨h2.1, h2.2, k2.1, k2.2⟩
  have e3 : ∀ {a : Nat × Bool}, AF3 a i o → AF3 a i o' → o = o' := fun a b => a.trans b.symm
  unfold AF1 at h2 k2
  dsimp only at h2 k2
  split at h2
  · rename_i hc
    rw [if_pos hc] at k2
    exact .inl (e3 h2 k2)
  rename_i hc
  rw [if_neg hc] at k2
  split at h2
  · rename_i hc
    rw [if_pos hc] at k2
    exact .inl (e3 h2 k2)
  rename_i hc
  rw [if_neg hc] at k2
  unfold AF2 at h2 k2
  split at h2
  · rename_i ht
    rw [if_pos ht] at k2
    split at h2
    · rename_i hc
      rw [if_pos hc] at k2
      exact .inl (e3 h2 k2)
    rename_i hc
    rw [if_neg hc] at k2
    obtain ⟨r, h3, h4⟩ := h2
    obtain ⟨r', k3, k4⟩ := k2
    obtain rfl := h3.uniq k3
    rcases r with _ | ⟨a, ng'⟩
    · exact .inr ⟨h4.1, h4.2, k4.1, k4.2⟩
    obtain ⟨y, b, h5, h6⟩ := h4
    obtain ⟨y', b', k5, k6⟩ := k4
    obtain ⟨rfl, rfl⟩ := h5.uniq k5
    exact .inl (e3 h6 k6)
  · rename_i ht
    rw [if_neg ht] at k2
    split at h2
    · rename_i f hf
      rw [hf] at k2
      exact .inl (e3 h2 k2)
    · rename_i hf
      rw [hf] at k2
      exact .inl (e3 h2 k2)

/-- What parseFloatPrefix returns is as of atof64. -/
theorem pfp_any (lo : Nat) (s : ByteArray) (w : World) (hs : s.size ≤ 1048576) (h : NumB s) (hT : Tabs lo w) (hlo : lo ≤ w.heap.size) :
    Calls Tryz.prog 68 #[.string s, .int .i64 64] w fun r w' => RetAF s r ∧ Upd NoB w w' := by
  have HX := Lib.hid (atof64_any lo s w hs h hT hlo)
  go_enter Tryz.func68, Tryz.ntmps68
  go_wp2_with fail
  refine HX.out.mono ?_
  rintro e w' ⟨⟨f, n, k, rfl, hev⟩, hU⟩
  have HEV := Lib.hid hev; clear hev
  go_wp2_with fail
  refine bodyPost_ret (results_tmp3 rfl _ _ _) rfl ?_
  exact ⟨⟨f, n, k, rfl, HEV.out⟩, hU⟩

theorem results_tmp2 {fn : Func} {t1 t2 : Tmp} (h : fn.results = #[.tmp t1, .tmp t2]) (tmps : Array Value) (P : Program) (w : World) :
    (results fn tmps).run P w = .ok (.tuple #[tmps.getD t1 undef, tmps.getD t2 undef]) w := by
  simp [results, h]
/-- What the inner ParseFloat makes of a text: one number, one kind of error. -/
def IF (s : ByteArray) (o : Nat × Nat) : Prop := ∃ a, AF s a ∧ o = if a.2.1 = (s.size : Int) then (a.1, a.2.2) else (0, 2)
theorem IF.uniq {s : ByteArray} {o o' : Nat × Nat} (h : IF s o) (h' : IF s o') : o = o' := by
  obtain ⟨a, h1, h2⟩ := h
  obtain ⟨a', k1, k2⟩ := h'
  rw [h2, k2]
  rcases h1.one k1 with rfl | ⟨g1, g2, g3, g4⟩
  · rfl
  · rw [g1, g2, g3, g4]
    split <;> split <;> rfl
def RetIF (s : ByteArray) (r : Ending) : Prop := ∃ (f k : Nat), r = .returned (.tuple #[.float .f64 f, evI k]) ∧ IF s (f, k)
theorem ipf_any (lo : Nat) (s : ByteArray) (w : World) (hs : s.size ≤ 1048576) (h : NumB s) (hT : Tabs lo w) (hlo : lo ≤ w.heap.size) :
    Calls Tryz.prog 57 #[.string s, .int .i64 64] w fun r w' => RetIF s r ∧ Upd NoB w w' := by
  have HX := Lib.hid (pfp_any lo s w hs h hT hlo)
  go_enter Tryz.func57, Tryz.ntmps57
  go_wp2_with fail
  refine HX.out.mono ?_
  rintro e w' ⟨⟨f, n, k, rfl, hev⟩, hU⟩
  by_cases hn : (n != (s.size : Int)) = true
  · have HI : Hid (IF s (0, 2)) := Lib.hid ⟨_, hev, by rw [if_neg (by simpa using hn)]⟩
    clear hev
    go_wp2_with fail
    refine bodyPost_ret (results_tmp2 rfl _ _ _) rfl ?_
    exact ⟨⟨0, 2, rfl, HI.out⟩, hU⟩
  · have hn' : (n != (s.size : Int)) = false := by simpa using hn
    have HI : Hid (IF s (f, k)) := Lib.hid ⟨_, hev, by rw [if_pos (by simpa using hn)]⟩
    clear hev
    go_wp2_with fail
    refine bodyPost_ret (results_tmp2 rfl _ _ _) rfl ?_
    exact ⟨⟨f, k, rfl, HI.out⟩, hU⟩

/-- An error that is nil where the kind is nought, and not nil elsewhere. -/
def EvO (k : Nat) (ev : Value) : Prop := (k = 0 ∧ ev = .nilIface) ∨ (k ≠ 0 ∧ ∃ t v, ev = .iface t v)
def RetPF (s : ByteArray) (r : Ending) : Prop := ∃ (f k : Nat) (ev : Value), r = .returned (.tuple #[.float .f64 f, ev]) ∧ EvO k ev ∧ IF s (f, k)
/-- A number and an error are returned. -/
def RetFE (E : Value → Prop) (r : Ending) : Prop := ∃ (f : Nat) (ev : Value), r = .returned (.tuple #[.float .f64 f, ev]) ∧ E ev
theorem RetPF.fe {s : ByteArray} {r : Ending} (h : RetPF s r) : RetFE (fun _ => True) r := by
  obtain ⟨f, k, ev, h1, h2⟩ := h
  exact ⟨f, ev, h1, trivial⟩

set_option maxRecDepth 4000 in
/-- strconv.ParseFloat of a text of the bytes of numbers. -/
theorem ParseFloat_is (lo : Nat) (s : ByteArray) (w : World) (hs : s.size ≤ 1048576) (h : NumB s) (hT : Tabs lo w) (hlo : lo ≤ w.heap.size) :
    Calls Tryz.prog 40 #[.string s, .int .i64 64] w fun r w' => RetPF s r ∧ Upd NoB w w' := by
  have HX := Lib.hid (ipf_any lo s w hs h hT hlo)
  go_enter Tryz.func40, Tryz.ntmps40
  go_wp2_with fail
  refine HX.out.mono ?_
  rintro e w1 ⟨⟨f, k, rfl, hI⟩, hU⟩
  have HI := Lib.hid hI; clear hI
  have hT1 := hT.upd hU (fun _ hb => hb.elim)
  obtain ⟨eR, hR1, hR2⟩ := hT1.eR
  obtain ⟨eS, hS1, hS2⟩ := hT1.eS
  rcases k with _ | _ | k
  · rw [show evI 0 = .nilIface from rfl]
    go_wp2_with fail
    refine bodyPost_ret (results_tmp2 rfl _ _ _) rfl ?_
    exact ⟨⟨f, 0, _, rfl, .inl ⟨rfl, rfl⟩, HI.out⟩, hU⟩
  · rw [show evI (0 + 1) = .iface 105 (.int .i64 1) from rfl]
    go_wp2_with fail
    refine (Tryz.strconv_toError_range _ s 0 64 eR w1 (by omega) hR1 hR2).mono ?_
    rintro e w2 ⟨N, rfl, _, _, hb⟩
    go_wp2_with fail
    refine bodyPost_ret (results_tmp2 rfl _ _ _) rfl ?_
    exact ⟨⟨f, 1, _, rfl, .inr ⟨by omega, _, _, rfl⟩, HI.out⟩, hU.then_none (Upd.of_below hb)⟩
  · rw [show evI (k + 1 + 1) = .iface 105 (.int .i64 2) from rfl]
    go_wp2_with fail
    refine (Tryz.strconv_toError_syntax _ s 0 64 eS w1 (by omega) hS1 hS2).mono ?_
    rintro e w2 ⟨N, rfl, _, _, hb⟩
    go_wp2_with fail
    refine bodyPost_ret (results_tmp2 rfl _ _ _) rfl ?_
    exact ⟨⟨f, k + 2, _, rfl, .inr ⟨by omega, _, _, rfl⟩, HI.out⟩, hU.then_none (Upd.of_below hb)⟩
/-- Some number and some error. -/
theorem ParseFloat_any (lo : Nat) (s : ByteArray) (w : World) (hs : s.size ≤ 1048576) (h : NumB s) (hT : Tabs lo w) (hlo : lo ≤ w.heap.size) :
    Calls Tryz.prog 40 #[.string s, .int .i64 64] w fun r w' => RetFE (fun _ => True) r ∧ Upd NoB w w' :=
  (ParseFloat_is lo s w hs h hT hlo).mono fun _ _ h => ⟨h.1.fe, h.2⟩
end Go.Proofs.YtkocponnjfkchaaGreatDoor
