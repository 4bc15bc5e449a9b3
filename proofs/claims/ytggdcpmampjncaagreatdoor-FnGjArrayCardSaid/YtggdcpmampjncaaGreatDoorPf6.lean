/- strconv.ParseFloat returns, for texts of the bytes of numbers. -/
import Derived.Test.YtggdcpmampjncaaGreatDoorPf4
import Derived.Test.YtggdcpmampjncaaGreatDoorPf5
import Derived.Test.YtggdcpmampjncaaGreatDoorDec5
import Derived.Test.YtggdcpmampjncaaGreatDoorDec6
namespace Go.Proofs.YtggdcpmampjncaaGreatDoor
open Go.RowKit

theorem rep_get (n : Nat) (v : Value) (t : List Value) (j : Nat) : (List.replicate n v ++ t)[n + j]? = t[j]? := by
  rw [List.getElem?_append_right (by rw [List.length_replicate]; omega), List.length_replicate, Nat.add_sub_cancel_left]
theorem rep_get0 (n : Nat) (v : Value) (t : List Value) (j : Nat) (h : j < n) : (List.replicate n v ++ t)[j]? = some v := by
  rw [List.getElem?_append_left (by rw [List.length_replicate]; exact h), List.getElem?_replicate, if_pos h]
theorem rep_size (n : Nat) (v : Value) (t : List Value) : (List.replicate n v ++ t).toArray.size = n + t.length := by
  rw [List.size_toArray, List.length_append, List.length_replicate]
/-- The last cells of a decimal. -/
def decEnd : List Value := [Value.int .i64 0, Value.int .i64 0, Value.bool false, Value.bool false]
theorem dec_zero : Tryz.zeroCells158 = (List.replicate 800 (Value.int .u8 0) ++ decEnd).toArray := by kernel_rfl
theorem dec_new (w : World) : DC 158 w.heap.size (fun _ => 0) 0 0 false false (w.alloc (.cells Tryz.zeroCells158 158)) := by
  refine ⟨⟨_, heap_alloc_new w _, ?_, ?_, ?_, ?_, ?_, ?_⟩, fun i _ => by show (0 : Nat) ≤ 255; omega⟩
  · rw [dec_zero]; exact rep_size 800 _ _
  · intro i hi
    rw [dec_zero, List.getElem?_toArray]; exact rep_get0 800 _ _ i hi
  · rw [dec_zero, List.getElem?_toArray]; exact rep_get 800 _ _ 0
  · rw [dec_zero, List.getElem?_toArray]; exact rep_get 800 _ _ 1
  · rw [dec_zero, List.getElem?_toArray]; exact rep_get 800 _ _ 2
  · rw [dec_zero, List.getElem?_toArray]; exact rep_get 800 _ _ 3

/-- The frame of atof64. -/
theorem lit143 (g : Nat → Value) : ((List.range 143).map g).toArray = #[g 0, g 1, g 2, g 3, g 4, g 5, g 6, g 7, g 8, g 9, g 10, g 11, g 12, g 13, g 14, g 15, g 16, g 17, g 18, g 19, g 20, g 21, g 22, g 23, g 24, g 25, g 26, g 27, g 28, g 29, g 30, g 31, g 32, g 33, g 34, g 35, g 36, g 37, g 38, g 39, g 40, g 41, g 42, g 43, g 44, g 45, g 46, g 47, g 48, g 49, g 50, g 51, g 52, g 53, g 54, g 55, g 56, g 57, g 58, g 59, g 60, g 61, g 62, g 63, g 64, g 65, g 66, g 67, g 68, g 69, g 70, g 71, g 72, g 73, g 74, g 75, g 76, g 77, g 78, g 79, g 80, g 81, g 82, g 83, g 84, g 85, g 86, g 87, g 88, g 89, g 90, g 91, g 92, g 93, g 94, g 95, g 96, g 97, g 98, g 99, g 100, g 101, g 102, g 103, g 104, g 105, g 106, g 107, g 108, g 109, g 110, g 111, g 112, g 113, g 114, g 115, g 116, g 117, g 118, g 119, g 120, g 121, g 122, g 123, g 124, g 125, g 126, g 127, g 128, g 129, g 130, g 131, g 132, g 133, g 134, g 135, g 136, g 137, g 138, g 139, g 140, g 141, g 142] := by kernel_rfl

/-- An error of the inner package, or none. -/
def EvI (ev : Value) : Prop := ev = .nilIface ∨ ev = .iface 123 (.int .i64 1) ∨ ev = .iface 123 (.int .i64 2)
/-- What atof64 returns. -/
def RetAF (r : Ending) : Prop := ∃ (f : Nat) (n : Int) (ev : Value), r = .returned (.tuple #[.float .f64 f, .int .i64 n, ev]) ∧ EvI ev

theorem results_tmp3 {fn : Func} {t1 t2 t3 : Tmp} (h : fn.results = #[.tmp t1, .tmp t2, .tmp t3]) (tmps : Array Value) (P : Program) (w : World) :
    (results fn tmps).run P w = .ok (.tuple #[tmps.getD t1 undef, tmps.getD t2 undef, tmps.getD t3 undef]) w := by
  simp [results, h]

set_option maxHeartbeats 4000000 in
set_option maxRecDepth 20000 in
theorem atof64_any (lo : Nat) (s : ByteArray) (w : World) (hs : s.size ≤ 1048576) (h : NumB s) (hT : Tabs lo w) (hlo : lo ≤ w.heap.size) :
    Calls Tryz.prog 96 #[.string s] w fun r w' => RetAF r ∧ Upd NoB w w' := by
  have hopt := hT.opt
  have hfb := frombits_run
  go_enter Tryz.func96, Tryz.ntmps96
  go_wp2_with fail
  refine (special_any s _ hs h).mono ?_
  rintro e w' ⟨rfl, rfl⟩
  go_wp2_with fail
  refine (readFloat_any s _ hs h).mono ?_
  rintro e w' ⟨⟨m, x, ng, tr, ok, i, rfl, hm0, hm1, hx0, hx1, hi⟩, rfl⟩
  cases ok
  · as_aux_lemma =>
      go_wp2_with fail
      refine bodyPost_ret (results_tmp3 rfl _ _ _) rfl ?_
      exact ⟨⟨_, _, _, rfl, .inr (.inr rfl)⟩, Upd.refl _ _⟩
  have HB := Lib.hid (bool2u_any ng w)
  have hb : (if ng then (1 : Int) else 0) = 0 ∨ (if ng then (1 : Int) else 0) = 1 := by cases ng <;> simp
  generalize (if ng then (1 : Int) else 0) = sb at *
  go_upto_region 11 with (fail)
  refine wp_cut (FR 143 (fun g wx => ∃ sg : Int, (g 0 = .string s ∧ g 2 = .float .f64 0 ∧ g 3 = .int .i64 (i : Int) ∧ g 4 = .nilIface ∧ g 8 = .int .u64 m ∧ g 9 = .int .i64 x ∧ g 10 = .bool ng ∧ g 11 = .bool tr ∧ g 16 = .int .u64 sg) ∧ w = wx)) ?rest ?first
  case first =>
    intro J K' hJ hK
    as_aux_lemma =>
      go_wp2_with fail
      refine HB.out.mono ?_
      rintro e w' ⟨rfl, rfl⟩
      go_wp2_with fail
      refine Met.intro ?_
      go_step
      refine FR.intro (by rfl) ?_
      exact ⟨_, ⟨rfl, rfl, rfl, rfl, rfl, rfl, rfl, rfl, rfl⟩, rfl⟩
  case rest =>
  clear HB
  refine FR.rest ?_
  rintro g wc ⟨sg, ⟨e0, e2, e3, e4, e8, e9, e10, e11, e16⟩, rfl⟩
  rw [lit143]
  simp only [e0, e2, e3, e4, e8, e9, e10, e11, e16]
  clear e0 e2 e3 e4 e8 e9 e10 e11 e16
  by_cases hM : (m == 0) = true
  · have : True := trivial
    as_aux_lemma =>
      go_wp2_with fail
      refine bodyPost_ret (results_tmp3 rfl _ _ _) rfl ?_
      exact ⟨⟨_, _, _, rfl, .inl rfl⟩, Upd.refl _ _⟩
  have hMf : (m == 0) = false := by simpa using hM
  clear hM
  by_cases hx3 : 310 < x
  · have : True := trivial
    as_aux_lemma =>
      go_wp2_with fail
      refine bodyPost_ret (results_tmp3 rfl _ _ _) rfl ?_
      exact ⟨⟨_, _, _, rfl, .inr (.inl rfl)⟩, Upd.refl _ _⟩
  by_cases hx4 : x < -345
  · have : True := trivial
    as_aux_lemma =>
      go_wp2_with fail
      refine bodyPost_ret (results_tmp3 rfl _ _ _) rfl ?_
      exact ⟨⟨_, _, _, rfl, .inl rfl⟩, Upd.refl _ _⟩
  obtain ⟨d, rfl⟩ : ∃ d : Nat, m = (d : Int) := ⟨m.toNat, by omega⟩
  have HP1 := Lib.hid (fun wx (hT' : Tabs lo wx) (hlo' : lo ≤ wx.heap.size) => parseFloat64_any lo d x sg wx hT' hlo' (by omega) (by omega) (by omega))
  cases tr
  · have HX := Lib.hid (atof64exact_any lo (d : Int) x ng w hT (by omega) (by omega) (by omega) (by omega))
    as_aux_lemma =>
      go_wp2_with fail
      refine HX.out.mono ?_
      rintro e w' ⟨⟨f, b, rfl⟩, n, rfl⟩
      have hU : Upd NoB w (w.drewN n) := (Upd.refl _ _).drewN n
      cases b
      · go_wp2_with fail
        refine (HP1.out _ (hT.drewN n) hlo).mono ?_
        rintro e w' ⟨⟨f2, ev, rfl, hev⟩, hU2⟩
        go_wp2_with fail
        refine bodyPost_ret (results_tmp3 rfl _ _ _) rfl ?_
        exact ⟨⟨_, _, _, rfl, hev.elim .inl fun h => .inr (.inl h)⟩, hU.then_none hU2⟩
      · go_wp2_with fail
        refine bodyPost_ret (results_tmp3 rfl _ _ _) rfl ?_
        exact ⟨⟨_, _, _, rfl, .inl rfl⟩, hU⟩
  go_wp2_with fail
  refine (HP1.out _ hT hlo).mono ?_
  rintro e w1 ⟨⟨f1, ev1, rfl, hev1⟩, hU1⟩
  have hT1 := hT.upd hU1 (fun _ hb => hb.elim)
  have hlo1 : lo ≤ w1.heap.size := Nat.le_trans hlo hU1.size
  clear HP1
  have HW : ∃ d' : Nat, IntKind.u64.wrap ((d : Int) + 1) = (d' : Int) ∧ d' < 18446744073709551616 := ⟨(IntKind.u64.wrap ((d : Int) + 1)).toNat, by have := u64_rng ((d : Int) + 1); omega, by have := u64_rng ((d : Int) + 1); omega⟩
  obtain ⟨d', hd', hd1⟩ := HW
  have HP2 := Lib.hid (parseFloat64_any lo d' x sg w1 hT1 hlo1 hd1 (by omega) (by omega))
  go_wp2_with fail
  refine HP2.out.mono ?_
  rintro e w2 ⟨⟨f2, ev2, rfl, hev2⟩, hU2⟩
  have hT2 := hT1.upd hU2 (fun _ hb => hb.elim)
  have hlo2 : lo ≤ w2.heap.size := Nat.le_trans hlo1 hU2.size
  have hU := hU1.then_none hU2
  clear HP2 hU1 hU2 hT1 hlo1 hT hlo hd' hd1
  have hsl : ∀ wx, (Instr.slice 9 (.string s) none (some (.int .i64 (i : Int))) none).run Tryz.prog wx = .ok (.string (s.extract 0 i)) wx := fun wx => by
    have h := run_slice_string_to_if (P := Tryz.prog) (w := wx) 9 s .i64 (i : Int) Tryz.underlying9
    rw [if_pos (by omega), Int.toNat_natCast] at h
    exact h
  have HD := Lib.hid (dec_new w2)
  have HU3 := Lib.hid ((Upd.refl NoB w2).alloc (Obj.cells Tryz.zeroCells158 158))
  go_wp2_with fail
  · refine bodyPost_ret (results_tmp3 rfl _ _ _) rfl ?_
    exact ⟨⟨_, _, _, rfl, hev1.elim .inl fun h => .inr (.inl h)⟩, hU⟩
  refine (set_any _ _ _ _ (s.extract 0 i) _ (by rw [ByteArray.size_extract]; omega) HD.out).mono ?_
  rintro e w4 ⟨b4, D4, n4, dp4, ng4, tr4, rfl, hD4, hDI4, hp0, hp1, hU4⟩
  have hU5 : Upd NoB w w4 := (hU.then_none HU3.out).then hU4 (fun b hb => .inr (by have : b = w2.heap.size := hb; have := hU.size; omega))
  have hT4 := (hT2.upd HU3.out (fun _ hb => hb.elim)).upd hU4 (fun b hb => by have : b = w2.heap.size := hb; omega)
  have hz2 := hU.size
  clear HD HU3 hU hT2 hsl
  cases b4
  · go_wp2_with fail
    refine bodyPost_ret (results_tmp3 rfl _ _ _) rfl ?_
    exact ⟨⟨_, _, _, rfl, .inr (.inr rfl)⟩, hU5⟩
  have HF := Lib.hid (floatBits_any lo _ _ _ _ _ _ _ hD4 hDI4 hp0 hp1 hT4 hlo2)
  go_wp2_with fail
  refine HF.out.mono ?_
  rintro e w6 ⟨x6, b6, rfl, _, _, hU6⟩
  have hU7 : Upd NoB w w6 := hU5.then hU6 (fun b hb => .inr (by have : b = w2.heap.size := hb; have := hz2; omega))
  cases b6
  · go_wp2_with fail
    refine bodyPost_ret (results_tmp3 rfl _ _ _) rfl ?_
    exact ⟨⟨_, _, _, rfl, .inl rfl⟩, hU7⟩
  · go_wp2_with fail
    refine bodyPost_ret (results_tmp3 rfl _ _ _) rfl ?_
    exact ⟨⟨_, _, _, rfl, .inr (.inl rfl)⟩, hU7⟩

/-- What parseFloatPrefix returns is as of atof64. -/
theorem pfp_any (lo : Nat) (s : ByteArray) (w : World) (hs : s.size ≤ 1048576) (h : NumB s) (hT : Tabs lo w) (hlo : lo ≤ w.heap.size) :
    Calls Tryz.prog 85 #[.string s, .int .i64 64] w fun r w' => RetAF r ∧ Upd NoB w w' := by
  have HX := Lib.hid (atof64_any lo s w hs h hT hlo)
  go_enter Tryz.func85, Tryz.ntmps85
  go_wp2_with fail
  refine HX.out.mono ?_
  rintro e w' ⟨⟨f, n, ev, rfl, hev⟩, hU⟩
  go_wp2_with fail
  refine bodyPost_ret (results_tmp3 rfl _ _ _) rfl ?_
  exact ⟨⟨_, _, _, rfl, hev⟩, hU⟩

theorem results_tmp2 {fn : Func} {t1 t2 : Tmp} (h : fn.results = #[.tmp t1, .tmp t2]) (tmps : Array Value) (P : Program) (w : World) :
    (results fn tmps).run P w = .ok (.tuple #[tmps.getD t1 undef, tmps.getD t2 undef]) w := by
  simp [results, h]
/-- A number and an error are returned. -/
def RetFE (E : Value → Prop) (r : Ending) : Prop := ∃ (f : Nat) (ev : Value), r = .returned (.tuple #[.float .f64 f, ev]) ∧ E ev
theorem ipf_any (lo : Nat) (s : ByteArray) (w : World) (hs : s.size ≤ 1048576) (h : NumB s) (hT : Tabs lo w) (hlo : lo ≤ w.heap.size) :
    Calls Tryz.prog 69 #[.string s, .int .i64 64] w fun r w' => RetFE EvI r ∧ Upd NoB w w' := by
  have HX := Lib.hid (pfp_any lo s w hs h hT hlo)
  go_enter Tryz.func69, Tryz.ntmps69
  go_wp2_with fail
  refine HX.out.mono ?_
  rintro e w' ⟨⟨f, n, ev, rfl, hev⟩, hU⟩
  by_cases hn : (n != (s.size : Int)) = true
  · go_wp2_with fail
    refine bodyPost_ret (results_tmp2 rfl _ _ _) rfl ?_
    exact ⟨⟨_, _, rfl, .inr (.inr rfl)⟩, hU⟩
  · have hn' : (n != (s.size : Int)) = false := by simpa using hn
    go_wp2_with fail
    refine bodyPost_ret (results_tmp2 rfl _ _ _) rfl ?_
    exact ⟨⟨_, _, rfl, hev⟩, hU⟩

/-- strconv.ParseFloat of a text of the bytes of numbers: some number and some error. -/
theorem ParseFloat_any (lo : Nat) (s : ByteArray) (w : World) (hs : s.size ≤ 1048576) (h : NumB s) (hT : Tabs lo w) (hlo : lo ≤ w.heap.size) :
    Calls Tryz.prog 64 #[.string s, .int .i64 64] w fun r w' => RetFE (fun _ => True) r ∧ Upd NoB w w' := by
  have HX := Lib.hid (ipf_any lo s w hs h hT hlo)
  go_enter Tryz.func64, Tryz.ntmps64
  go_wp2_with fail
  refine HX.out.mono ?_
  rintro e w1 ⟨⟨f, ev, rfl, hev⟩, hU⟩
  have hT1 := hT.upd hU (fun _ hb => hb.elim)
  obtain ⟨eR, hR1, hR2⟩ := hT1.eR
  obtain ⟨eS, hS1, hS2⟩ := hT1.eS
  rcases hev with rfl | rfl | rfl
  · go_wp2_with fail
    refine bodyPost_ret (results_tmp2 rfl _ _ _) rfl ?_
    exact ⟨⟨_, _, rfl, trivial⟩, hU⟩
  · go_wp2_with fail
    refine (Tryz.strconv_toError_range _ s 0 64 eR w1 (by omega) hR1 hR2).mono ?_
    rintro e w2 ⟨N, rfl, _, _, hb⟩
    go_wp2_with fail
    refine bodyPost_ret (results_tmp2 rfl _ _ _) rfl ?_
    exact ⟨⟨_, _, rfl, trivial⟩, hU.then_none (Upd.of_below hb)⟩
  · go_wp2_with fail
    refine (Tryz.strconv_toError_syntax _ s 0 64 eS w1 (by omega) hS1 hS2).mono ?_
    rintro e w2 ⟨N, rfl, _, _, hb⟩
    go_wp2_with fail
    refine bodyPost_ret (results_tmp2 rfl _ _ _) rfl ?_
    exact ⟨⟨_, _, rfl, trivial⟩, hU.then_none (Upd.of_below hb)⟩
end Go.Proofs.YtggdcpmampjncaaGreatDoor
