/- The table of the left shift: what its rows say. No program. The library's tables that ParseFloat reads, in memory. No program. -/
import Derived.Test.YtkocponnjfkchaaGreatDoorDec
import GoSem.PinnedTables
import Derived.KernelRfl
namespace Go.Proofs.YtkocponnjfkchaaGreatDoor

/-- The value of a row of digits. -/
def lv (l : List UInt8) : Nat := l.foldl (fun a b => a * 10 + (b.toNat - 48)) 0
def cheatD (k : Nat) : Nat := (Go.Pinned.cheatRows.getD k (0, [])).1
def cheatL (k : Nat) : List UInt8 := (Go.Pinned.cheatRows.getD k (0, [])).2
def cheatS (k : Nat) : ByteArray := ⟨(cheatL k).toArray⟩
theorem bAt_list (l : List UInt8) (i : Nat) : bAt ⟨l.toArray⟩ i = (l.getD i 0).toNat := by
  unfold bAt
  split
  · rename_i h
    have h' : i < l.length := by simpa [ByteArray.size] using h
    have : (⟨l.toArray⟩ : ByteArray)[i]'h = l[i] := by
      show (l.toArray)[i]'(by simpa using h') = l[i]
      simp
    rw [this]; simp [List.getD, h']
  · rename_i h
    have h' : ¬ i < l.length := by simpa [ByteArray.size] using h
    simp [List.getD, h']
theorem pv_take (l : List UInt8) : ∀ j, j ≤ l.length → pv (bAt ⟨l.toArray⟩) j = lv (l.take j)
  | 0, _ => by simp [pv, lv]
  | j + 1, h => by
    have h1 : j < l.length := h
    simp only [pv]
    have e : l.take (j + 1) = l.take j ++ [l[j]] := (List.take_append_getElem h1).symm
    rw [pv_take l j (by omega), bAt_list, e]
    simp only [lv, List.foldl_append, List.foldl_cons, List.foldl_nil]
    simp [List.getD, h1]
theorem pv_list (l : List UInt8) : pv (bAt ⟨l.toArray⟩) l.length = lv l := by rw [pv_take l l.length (Nat.le_refl _), List.take_length]

def cheatOk (k : Nat) : Bool :=
  let l := cheatL k
  decide (1 ≤ l.length) && decide (l.length ≤ k) && decide (l.length ≤ 60) && (cheatD k == k - l.length + 1) && (lv l == 5 ^ k) && decide (10 ^ (l.length - 1) ≤ 5 ^ k) && decide (5 ^ k < 10 ^ l.length) && l.all (fun b => decide (48 ≤ b.toNat) && decide (b.toNat ≤ 57)) && ((l.getD (l.length - 1) 0).toNat != 48)
theorem cheats_all : ((List.range 60).all fun k => cheatOk (k + 1)) = true := by kernel_rfl
structure Cheat (k : Nat) : Prop where
  m1 : 1 ≤ (cheatS k).size
  mlk : (cheatS k).size ≤ k
  m60 : (cheatS k).size ≤ 60
  d : cheatD k = k - (cheatS k).size + 1
  v : pv (bAt (cheatS k)) (cheatS k).size = 5 ^ k
  lo : 10 ^ ((cheatS k).size - 1) ≤ 5 ^ k
  hi : 5 ^ k < 10 ^ (cheatS k).size
  dig : ∀ i, i < (cheatS k).size → 48 ≤ bAt (cheatS k) i ∧ bAt (cheatS k) i ≤ 57
  last : bAt (cheatS k) ((cheatS k).size - 1) ≠ 48
theorem cheat (k : Nat) (h0 : 1 ≤ k) (h1 : k ≤ 60) : Cheat k := by
  have h := List.all_eq_true.1 cheats_all (k - 1) (by simp; omega)
  rw [show k - 1 + 1 = k by omega] at h
  simp only [cheatOk, Bool.and_eq_true, decide_eq_true_eq, beq_iff_eq, bne_iff_ne, ne_eq] at h
  obtain ⟨⟨⟨⟨⟨⟨⟨⟨a1, a2⟩, a3⟩, a4⟩, a5⟩, a6⟩, a7⟩, a8⟩, a9⟩ := h
  have hs : (cheatS k).size = (cheatL k).length := by simp [cheatS, ByteArray.size]
  refine ⟨by omega, by omega, by omega, by rw [hs]; exact a4, ?_, by rw [hs]; exact a6, by rw [hs]; exact a7, ?_, ?_⟩
  · rw [hs]; unfold cheatS; rw [pv_list]; exact a5
  · intro i hi
    rw [hs] at hi
    unfold cheatS; rw [bAt_list]
    have := List.all_eq_true.1 a8 ((cheatL k)[i]) (List.getElem_mem hi)
    simp only [Bool.and_eq_true, decide_eq_true_eq] at this
    simpa [List.getD, hi] using this
  · rw [hs]; unfold cheatS; rw [bAt_list]; exact a9

/-- The table in memory: the variable's cell and the rows. -/
structure LC (G B o c : Nat) (w : World) : Prop where
  var : w.cell? ⟨G, 0, none⟩ = some (.slice (some ⟨B, o, none⟩) 61 c)
  d : ∀ k, k < 61 → w.cell? ⟨B, o + k * 2, none⟩ = some (.int .i64 (cheatD k : Int))
  s : ∀ k, k < 61 → w.cell? ⟨B, o + k * 2 + 1, none⟩ = some (.string (cheatS k))
theorem LC.upd {G B o c : Nat} {w w1 : World} {S : Nat → Prop} (h : LC G B o c w) (u : Upd S w w1) (hG : ¬ S G) (hB : ¬ S B) : LC G B o c w1 :=
  ⟨u.cell h.var hG, fun k hk => u.cell (h.d k hk) hB, fun k hk => u.cell (h.s k hk) hB⟩
end Go.Proofs.YtkocponnjfkchaaGreatDoor
namespace Go.Proofs.YtkocponnjfkchaaGreatDoor
open Go.RowKit

/-- The package-level data of strconv's ParseFloat, all in blocks below lo. -/
def pwT (k : Nat) : Nat := [1, 3, 6, 9, 13, 16, 19, 23, 26].getD k 0
def f10L : List Nat := [4607182418800017408, 4621819117588971520, 4636737291354636288, 4652007308841189376, 4666723172467343360, 4681608360884174848, 4696837146684686336, 4711630319722168320, 4726483295884279808, 4741671816366391296, 4756540486875873280, 4771362005757984768, 4786511204640096256, 4801453603149578240, 4816244402031689728, 4831355200913801216, 4846369599423283200, 4861130398305394688, 4876203697187506176, 4891288408196988160, 4906019910204099648, 4921056587992461136, 4936209963552724370]
def f10T (k : Nat) : Nat := f10L.getD k 0
def p10T (k : Nat) : Nat × Nat := Go.Pinned.pow10Rows.getD k (0, 0)
structure Tabs (lo : Nat) (w : World) : Prop where
  lc : ∃ B o c, LC 16 B o c w ∧ B < lo
  g : 16 < lo ∧ 10 < lo ∧ 12 < lo ∧ 14 < lo ∧ 13 < lo ∧ 9 < lo ∧ 6 < lo ∧ 5 < lo
  fi0 : w.cell? ⟨10, 0, none⟩ = some (.int .u64 52)
  fi1 : w.cell? ⟨10, 1, none⟩ = some (.int .u64 11)
  fi2 : w.cell? ⟨10, 2, none⟩ = some (.int .i64 (-1023))
  pw : ∃ B o c, w.cell? ⟨12, 0, none⟩ = some (.slice (some ⟨B, o, none⟩) 9 c) ∧ B < lo ∧ ∀ k, k < 9 → ∃ x : Nat, w.cell? ⟨B, o + k, none⟩ = some (.int .i64 (x : Int)) ∧ 1 ≤ x ∧ x ≤ 27 ∧ x = pwT k
  p10 : ∀ k, k < 696 → ∃ x y : Nat, w.cell? ⟨14, k * 2, none⟩ = some (.int .u64 (x : Int)) ∧ w.cell? ⟨14, k * 2 + 1, none⟩ = some (.int .u64 (y : Int)) ∧ x < 18446744073709551616 ∧ y < 18446744073709551616 ∧ p10T k = (x, y)
  f10 : ∃ B o c, w.cell? ⟨13, 0, none⟩ = some (.slice (some ⟨B, o, none⟩) 23 c) ∧ B < lo ∧ ∀ k, k < 23 → ∃ x : Nat, w.cell? ⟨B, o + k, none⟩ = some (.float .f64 x) ∧ x = f10T k
  opt : w.cell? ⟨9, 0, none⟩ = some (.bool true)
  eR : ∃ ev, w.cell? ⟨6, 0, none⟩ = some ev ∧ (ev = .nilIface ∨ ∃ te pe, ev = .iface te pe)
  eS : ∃ ev, w.cell? ⟨5, 0, none⟩ = some ev ∧ (ev = .nilIface ∨ ∃ te pe, ev = .iface te pe)

theorem Tabs.upd {lo : Nat} {w w1 : World} {S : Nat → Prop} (h : Tabs lo w) (u : Upd S w w1) (hS : ∀ b, S b → lo ≤ b) : Tabs lo w1 := by
  have hn : ∀ b, b < lo → ¬ S b := fun b hb hs => by have := hS b hs; omega
  obtain ⟨g1, g2, g3, g4, g5, g6, g7, g8⟩ := h.g
  refine ⟨?_, h.g, u.cell h.fi0 (hn _ g2), u.cell h.fi1 (hn _ g2), u.cell h.fi2 (hn _ g2), ?_, ?_, ?_, u.cell h.opt (hn _ g6), ?_, ?_⟩
  · obtain ⟨B, o, c, h1, h2⟩ := h.lc
    exact ⟨B, o, c, h1.upd u (hn _ g1) (hn _ h2), h2⟩
  · obtain ⟨B, o, c, h1, h2, h3⟩ := h.pw
    refine ⟨B, o, c, u.cell h1 (hn _ g3), h2, fun k hk => ?_⟩
    obtain ⟨x, h4, h5⟩ := h3 k hk
    exact ⟨x, u.cell h4 (hn _ h2), h5⟩
  · intro k hk
    obtain ⟨x, y, h1, h2, h3⟩ := h.p10 k hk
    exact ⟨x, y, u.cell h1 (hn _ g4), u.cell h2 (hn _ g4), h3⟩
  · obtain ⟨B, o, c, h1, h2, h3⟩ := h.f10
    refine ⟨B, o, c, u.cell h1 (hn _ g5), h2, fun k hk => ?_⟩
    obtain ⟨x, h4, h5⟩ := h3 k hk
    exact ⟨x, u.cell h4 (hn _ h2), h5⟩
  · obtain ⟨ev, h1, h2⟩ := h.eR; exact ⟨ev, u.cell h1 (hn _ g7), h2⟩
  · obtain ⟨ev, h1, h2⟩ := h.eS; exact ⟨ev, u.cell h1 (hn _ g8), h2⟩
theorem Tabs.drewN {lo : Nat} {w : World} (h : Tabs lo w) (n : Nat) : Tabs lo (w.drewN n) := h.upd (S := NoB) ((Upd.refl NoB w).drewN n) fun _ hb => hb.elim
end Go.Proofs.YtkocponnjfkchaaGreatDoor
