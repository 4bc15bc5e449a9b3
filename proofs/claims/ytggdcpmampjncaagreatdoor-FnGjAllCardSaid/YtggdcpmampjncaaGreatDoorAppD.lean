/- Trees of JSON texts: how they lie in memory. No program. Rows of nodes and of strings that a function owns and appends to, at a step of a region that draws its order and in plain regions. -/
import Derived.Test.YtggdcpmampjncaaGreatDoorBase
import Derived.Test.YtggdcpmampjncaaGreatDoorChar
import Derived.Test.YtggdcpmampjncaaGreatDoorProg
import Derived.Deep.AppendLies
namespace Go.Proofs.YtggdcpmampjncaaGreatDoor
open Go.RowKit

/-! ### Trees in memory -/
/-- The string of bytes. -/
def bs (l : List UInt8) : ByteArray := ⟨l.toArray⟩
/-- A slice of strings. -/
def RdS (w : World) (F : Nat → Prop) (v : Value) (ns : List (List UInt8)) : Prop := w.ownsRow 0 9 1 v ns.length (ns.map fun t => Value.string (bs t)) ∧ ∀ b, v.ownBlock = some b → F b
mutual
/-- The slices of a node: its names and its kids, read to the bottom. -/
def RdD (w : World) (F : Nat → Prop) : Nd → Value → Value → Prop
  | .mk _ _ ns ks, nv, kv => RdS w F nv ns ∧ ∃ xs, w.ownsRow 0 25 4 kv ks.length xs ∧ (∀ b, kv.ownBlock = some b → F b) ∧ RdDs w F ks xs
/-- The cells of a row of nodes. -/
def RdDs (w : World) (F : Nat → Prop) : List Nd → List Value → Prop
  | [], xs => xs = []
  | p :: ps, xs => ∃ nv kv rest, xs = [.int .i64 (p.kind : Int), .string (bs p.text), nv, kv] ++ rest ∧ RdD w F p nv kv ∧ RdDs w F ps rest
end
/-- A slice of nodes. -/
def RdL (w : World) (F : Nat → Prop) (v : Value) (ks : List Nd) : Prop := ∃ xs, w.ownsRow 0 25 4 v ks.length xs ∧ (∀ b, v.ownBlock = some b → F b) ∧ RdDs w F ks xs
theorem RdD_mk {w : World} {F : Nat → Prop} {p : Nd} {nv kv : Value} : RdD w F p nv kv ↔ RdS w F nv p.keys ∧ RdL w F kv p.kids := by
  cases p; simp only [RdD, RdL, Nd.keys, Nd.kids]

theorem RdS.upd {w w' : World} {F S : Nat → Prop} {v : Value} {ns : List (List UInt8)} (h : RdS w F v ns) (u : Upd S w w') (hs : ∀ b, F b → ¬ S b) : RdS w' F v ns :=
  ⟨u.own h.1 fun b hb => hs b (h.2 b hb), h.2⟩
theorem RdS.mono {w : World} {F F' : Nat → Prop} {v : Value} {ns : List (List UInt8)} (h : RdS w F v ns) (hs : ∀ b, b < w.heap.size → F b → F' b) : RdS w F' v ns :=
  ⟨h.1, fun b hb => hs b (h.1.lt b hb).2 (h.2 b hb)⟩
mutual
theorem RdD.upd {w w' : World} {F S : Nat → Prop} (u : Upd S w w') (hs : ∀ b, F b → ¬ S b) : ∀ (p : Nd) (nv kv : Value), RdD w F p nv kv → RdD w' F p nv kv
  | .mk _ _ ns ks, nv, kv, h => by
    obtain ⟨h1, xs, h2, h3, h4⟩ := (by simpa only [RdD] using h : RdS w F nv ns ∧ ∃ xs, w.ownsRow 0 25 4 kv ks.length xs ∧ (∀ b, kv.ownBlock = some b → F b) ∧ RdDs w F ks xs)
    simp only [RdD]
    exact ⟨h1.upd u hs, xs, u.own h2 fun b hb => hs b (h3 b hb), h3, RdDs.upd u hs ks xs h4⟩
theorem RdDs.upd {w w' : World} {F S : Nat → Prop} (u : Upd S w w') (hs : ∀ b, F b → ¬ S b) : ∀ (ps : List Nd) (xs : List Value), RdDs w F ps xs → RdDs w' F ps xs
  | [], xs, h => by simpa only [RdDs] using h
  | p :: ps, xs, h => by
    simp only [RdDs] at h ⊢
    obtain ⟨nv, kv, rest, e, h1, h2⟩ := h
    exact ⟨nv, kv, rest, e, RdD.upd u hs p nv kv h1, RdDs.upd u hs ps rest h2⟩
end
mutual
theorem RdD.mono {w : World} {F F' : Nat → Prop} (hs : ∀ b, b < w.heap.size → F b → F' b) : ∀ (p : Nd) (nv kv : Value), RdD w F p nv kv → RdD w F' p nv kv
  | .mk _ _ ns ks, nv, kv, h => by
    obtain ⟨h1, xs, h2, h3, h4⟩ := (by simpa only [RdD] using h : RdS w F nv ns ∧ ∃ xs, w.ownsRow 0 25 4 kv ks.length xs ∧ (∀ b, kv.ownBlock = some b → F b) ∧ RdDs w F ks xs)
    simp only [RdD]
    exact ⟨h1.mono hs, xs, h2, fun b hb => hs b (h2.lt b hb).2 (h3 b hb), RdDs.mono hs ks xs h4⟩
theorem RdDs.mono {w : World} {F F' : Nat → Prop} (hs : ∀ b, b < w.heap.size → F b → F' b) : ∀ (ps : List Nd) (xs : List Value), RdDs w F ps xs → RdDs w F' ps xs
  | [], xs, h => by simpa only [RdDs] using h
  | p :: ps, xs, h => by
    simp only [RdDs] at h ⊢
    obtain ⟨nv, kv, rest, e, h1, h2⟩ := h
    exact ⟨nv, kv, rest, e, RdD.mono hs p nv kv h1, RdDs.mono hs ps rest h2⟩
end
theorem RdL.upd {w w' : World} {F S : Nat → Prop} {v : Value} {ks : List Nd} (h : RdL w F v ks) (u : Upd S w w') (hs : ∀ b, F b → ¬ S b) : RdL w' F v ks := by
  obtain ⟨xs, h2, h3, h4⟩ := h
  exact ⟨xs, u.own h2 fun b hb => hs b (h3 b hb), h3, RdDs.upd u hs ks xs h4⟩
theorem RdL.mono {w : World} {F F' : Nat → Prop} {v : Value} {ks : List Nd} (h : RdL w F v ks) (hs : ∀ b, b < w.heap.size → F b → F' b) : RdL w F' v ks := by
  obtain ⟨xs, h2, h3, h4⟩ := h
  exact ⟨xs, h2, fun b hb => hs b (h2.lt b hb).2 (h3 b hb), RdDs.mono hs ks xs h4⟩
theorem RdDs.snoc {w : World} {F : Nat → Prop} {p : Nd} {nv kv : Value} (hp : RdD w F p nv kv) : ∀ (ps : List Nd) (xs : List Value), RdDs w F ps xs →
    RdDs w F (ps ++ [p]) (xs ++ [.int .i64 (p.kind : Int), .string (bs p.text), nv, kv])
  | [], xs, h => by
    simp only [RdDs] at h
    subst h
    simp only [RdDs, List.nil_append]
    exact ⟨nv, kv, [], by simp, hp, rfl⟩
  | q :: ps, xs, h => by
    simp only [RdDs, List.cons_append] at h ⊢
    obtain ⟨nv', kv', rest, rfl, h1, h2⟩ := h
    exact ⟨nv', kv', _, by simp, h1, RdDs.snoc hp ps rest h2⟩
theorem RdS_nil (w : World) (F : Nat → Prop) : RdS w F (.slice none 0 0) [] := ⟨World.ownsRow_nil w 0 _ 1, fun b hb => by simp [Value.ownBlock] at hb⟩
theorem RdL_nil (w : World) (F : Nat → Prop) : RdL w F (.slice none 0 0) [] := ⟨[], World.ownsRow_nil w 0 _ 4, fun b hb => by simp [Value.ownBlock] at hb, by simp only [RdDs]⟩
theorem RdL.len {w : World} {F : Nat → Prop} {v : Value} {ks : List Nd} (h : RdL w F v ks) : ∃ a c, v = .slice a ks.length c := by
  obtain ⟨xs, h2, _, _⟩ := h
  rcases h2.2 with ⟨rfl, h0⟩ | ⟨g, cap, cur, rfl, _⟩
  · exact ⟨none, 0, by rw [h0]⟩
  · exact ⟨_, cap, rfl⟩

theorem RdS.len {w : World} {F : Nat → Prop} {v : Value} {ns : List (List UInt8)} (h : RdS w F v ns) : ∃ a c, v = .slice a ns.length c := by
  rcases h.1.2 with ⟨rfl, h0⟩ | ⟨g, cap, cur, rfl, _⟩
  · exact ⟨none, 0, by rw [h0]⟩
  · exact ⟨_, cap, rfl⟩
theorem RdD.shape {w : World} {F : Nat → Prop} {p : Nd} {nv kv : Value} (h : RdD w F p nv kv) : ∃ na nc ka kc, nv = .slice na p.keys.length nc ∧ kv = .slice ka p.kids.length kc := by
  obtain ⟨h1, h2⟩ := RdD_mk.1 h
  obtain ⟨na, nc, e1⟩ := h1.len
  obtain ⟨ka, kc, e2⟩ := h2.len
  exact ⟨na, nc, ka, kc, e1, e2⟩

/-- Four cells of a node. -/
theorem four_one {p : Nd} {nv kv : Value} {w : World} {F : Nat → Prop} (h : RdD w F p nv kv) : ∀ u ∈ [Value.int .i64 (p.kind : Int), .string (bs p.text), nv, kv], u.oneCell' = true := by
  obtain ⟨⟨hn, _⟩, xs, hk, _⟩ := RdD_mk.1 h
  have h1 : nv.oneCell' = true := by rcases hn.2 with ⟨rfl, _⟩ | ⟨g, cap, cur, rfl, _⟩ <;> rfl
  have h2 : kv.oneCell' = true := by rcases hk.2 with ⟨rfl, _⟩ | ⟨g, cap, cur, rfl, _⟩ <;> rfl
  intro u hu
  simp only [List.mem_cons, List.not_mem_nil, or_false] at hu
  rcases hu with rfl | rfl | rfl | rfl <;> first | rfl | assumption
end Go.Proofs.YtggdcpmampjncaaGreatDoor
namespace Go.Proofs.YtggdcpmampjncaaGreatDoor
open Go.RowKit

theorem infoNode : (Tryz.prog.info? 25).map (fun i => (i.zero, i.size, i.bytes)) = some (some (.agg #[.int .i64 0, .string ByteArray.empty, .slice none 0 0, .slice none 0 0]), 4, 72) := by kernel_rfl
theorem infoStr : (Tryz.prog.info? 9).map (fun i => (i.zero, i.size, i.bytes)) = some (some (.string ByteArray.empty), 1, 16) := by kernel_rfl

/-- A row of places of the call's own, made from block B on, in no block of E; what its places lead to lies in other blocks, none in E. -/
def RowL (B : Nat) (E : Nat → Prop) (w : World) (v : Value) (ks : List Nd) : Prop := ∃ xs, w.ownsRow 0 25 4 v ks.length xs ∧ (∀ b, v.ownBlock = some b → B ≤ b ∧ ¬ E b) ∧ RdDs w (fun b => B ≤ b ∧ v.ownBlock ≠ some b ∧ ¬ E b) ks xs
theorem RowL.nil (B : Nat) (E : Nat → Prop) (w : World) : RowL B E w (.slice none 0 0) [] := ⟨[], World.ownsRow_nil w 0 _ 4, fun b hb => by simp [Value.ownBlock] at hb, by simp only [RdDs]⟩
theorem RowL.read {B : Nat} {E : Nat → Prop} {w : World} {v : Value} {ks : List Nd} (h : RowL B E w v ks) : RdL w (fun b => B ≤ b) v ks := by
  obtain ⟨xs, h1, h2, h3⟩ := h
  exact ⟨xs, h1, fun b hb => (h2 b hb).1, RdDs.mono (fun b _ hb => hb.1) ks xs h3⟩
theorem RowL.upd {B : Nat} {E : Nat → Prop} {w w' : World} {S : Nat → Prop} {v : Value} {ks : List Nd} (h : RowL B E w v ks) (u : Upd S w w') (hs : ∀ b, B ≤ b → b < w.heap.size → ¬ E b → ¬ S b) : RowL B E w' v ks := by
  obtain ⟨xs, h1, h2, h3⟩ := h
  have h3' := RdDs.mono (F' := fun b => (B ≤ b ∧ v.ownBlock ≠ some b ∧ ¬ E b) ∧ b < w.heap.size) (fun b hb hf => ⟨hf, hb⟩) ks xs h3
  have h4 := RdDs.upd u (fun b hb => hs b hb.1.1 hb.2 hb.1.2.2) ks xs h3'
  exact ⟨xs, u.own h1 fun b hb => hs b (h2 b hb).1 (h1.lt b hb).2 (h2 b hb).2, h2, RdDs.mono (fun b _ hb => hb.1) ks xs h4⟩
theorem RowL.exc {B : Nat} {E E' : Nat → Prop} {w : World} {v : Value} {ks : List Nd} (h : RowL B E w v ks) (he : ∀ b, B ≤ b → b < w.heap.size → ¬ E b → ¬ E' b) : RowL B E' w v ks := by
  obtain ⟨xs, h1, h2, h3⟩ := h
  exact ⟨xs, h1, fun b hb => ⟨(h2 b hb).1, he b (h2 b hb).1 (h1.lt b hb).2 (h2 b hb).2⟩, RdDs.mono (fun b hb hf => ⟨hf.1, hf.2.1, he b hf.1 hb hf.2.2⟩) ks xs h3⟩
theorem RowL.lt {B : Nat} {E : Nat → Prop} {w : World} {v : Value} {ks : List Nd} (h : RowL B E w v ks) : ∀ b, v.ownBlock = some b → B ≤ b ∧ b < w.heap.size := by
  obtain ⟨xs, h1, h2, _⟩ := h
  exact fun b hb => ⟨(h2 b hb).1, (h1.lt b hb).2⟩
theorem RowL.out {B : Nat} {E : Nat → Prop} {w : World} {v : Value} {ks : List Nd} (h : RowL B E w v ks) : ∀ b, v.ownBlock = some b → ¬ E b := by
  obtain ⟨xs, h1, h2, _⟩ := h
  exact fun b hb => (h2 b hb).2
theorem RowL.len {B : Nat} {E : Nat → Prop} {w : World} {v : Value} {ks : List Nd} (h : RowL B E w v ks) : ∃ a c, v = .slice a ks.length c := h.read.len

/-- append(v, n), at a step of a region that draws its order. -/
theorem step_app_node {ops : Array Oper} {o : Oper} {a : Act} {w : World} {K : Act → World → Prop} {Q : Exit → Act → World → Prop} {E' : Prop} (hgd : o.guard = none) (sl x : Operand)
    (ho : o.op = .call { callee := .builtin .append, args := #[sl, x], argTypes := #[23, 23] })
    (B : Nat) (E : Nat → Prop) (v : Value) (ks : List Nd) (hs : a.eval sl = v) (hown : RowL B E w v ks) (p : Nd) (nv kv : Value) (hp : RdD w (fun b => B ≤ b ∧ v.ownBlock ≠ some b ∧ ¬ E b) p nv kv)
    (ad : Addr) (hx : a.eval x = .slice (some ad) 1 1) (hnews : ∀ j u, [Value.int .i64 (p.kind : Int), .string (bs p.text), nv, kv][j]? = some u → w.cell? (ad.add j) = some u)
    (hb : ks.length + 1 ≤ 1954687338268) (hB : B ≤ w.heap.size) (hE : ∀ b, E b → b < w.heap.size)
    (h : ∀ g cap w', RowL B E w' (.slice (some ⟨g, 0, none⟩) (ks.length + 1) cap) (ks ++ [p]) → Upd (fun b => v.ownBlock = some b) w w' → K (a.put o.dst (.slice (some ⟨g, 0, none⟩) (ks.length + 1) cap)) w') :
    if Region.wanted o (yielded ops a.tmps) = true then Oper.wp Tryz.prog o a w K Q else E' := by
  obtain ⟨i0, hi0, hz0, hz1, hz2⟩ := info_parts infoNode
  obtain ⟨xs, h1, h2, h3⟩ := hown
  refine step_append_lies w hgd sl x 23 ho 0 25 i0 _ 4 72 Tryz.underlying23 hi0 hz0 hz1 hz2 rfl (by decide) v ks.length xs hs h1 ad 1 1 [Value.int .i64 (p.kind : Int), .string (bs p.text), nv, kv] hx rfl hnews (four_one hp)
    (by omega) (by unfold maxLen; omega) (by omega) (Nat.zero_le _) w.heap.size rfl ?_
  intro g cap w' ho' hg' hat _
  have hne : ∀ b, b < w.heap.size → v.ownBlock ≠ some b → (Value.slice (some ⟨g, 0, none⟩) (ks.length + 1) cap).ownBlock ≠ some b := fun b hb hn hc => by
    have hc' : g = b := by simpa [Value.ownBlock] using hc
    rcases hat with e | e
    · exact hn (by rw [e, hc'])
    · omega
  have u : Upd (fun b => v.ownBlock = some b) w w' := (Upd.of_grown hg').mono fun b hb => hb
  refine h g cap w' ⟨_, by rw [List.length_append]; exact ho', fun b hb => ?_, ?_⟩ u
  · have hb' : g = b := by simpa [Value.ownBlock] using hb
    subst hb'
    rcases hat with e | e
    · exact h2 g e
    · exact ⟨by omega, fun hc => by have := hE g hc; omega⟩
  · have g1 := RdDs.mono (F' := fun b => (B ≤ b ∧ (Value.slice (some ⟨g, 0, none⟩) (ks.length + 1) cap).ownBlock ≠ some b ∧ ¬ E b) ∧ v.ownBlock ≠ some b) (fun b hb hf => ⟨⟨hf.1, hne b hb hf.2.1, hf.2.2⟩, hf.2.1⟩) ks xs h3
    have g2 := RdD.mono (F' := fun b => (B ≤ b ∧ (Value.slice (some ⟨g, 0, none⟩) (ks.length + 1) cap).ownBlock ≠ some b ∧ ¬ E b) ∧ v.ownBlock ≠ some b) (fun b hb hf => ⟨⟨hf.1, hne b hb hf.2.1, hf.2.2⟩, hf.2.1⟩) p nv kv hp
    exact RdDs.mono (fun b _ hb => hb.1) _ _ (RdDs.snoc (RdD.upd u (fun b hb => hb.2) p nv kv g2) ks xs (RdDs.upd u (fun b hb => hb.2) ks xs g1))

/-- A row of spans of the call's own. -/
def RowS (B : Nat) (w : World) (v : Value) (ns : List (List UInt8)) : Prop := w.ownsRow 0 9 1 v ns.length (ns.map fun t => Value.string (bs t)) ∧ ∀ b, v.ownBlock = some b → B ≤ b
theorem RowS.nil (B : Nat) (w : World) : RowS B w (.slice none 0 0) [] := ⟨World.ownsRow_nil w 0 _ 1, fun b hb => by simp [Value.ownBlock] at hb⟩
theorem RowS.read {B : Nat} {w : World} {v : Value} {ns : List (List UInt8)} (h : RowS B w v ns) : RdS w (fun b => B ≤ b) v ns := h
theorem RowS.upd {B : Nat} {w w' : World} {S : Nat → Prop} {v : Value} {ns : List (List UInt8)} (h : RowS B w v ns) (u : Upd S w w') (hs : ∀ b, v.ownBlock = some b → ¬ S b) : RowS B w' v ns := ⟨u.own h.1 hs, h.2⟩
theorem RowS.lt {B : Nat} {w : World} {v : Value} {ns : List (List UInt8)} (h : RowS B w v ns) : ∀ b, v.ownBlock = some b → B ≤ b ∧ b < w.heap.size := fun b hb => ⟨h.2 b hb, (h.1.lt b hb).2⟩
/-- append(v, t) of a string, at a step of a region that draws its order. -/
theorem step_app_str {ops : Array Oper} {o : Oper} {a : Act} {w : World} {K : Act → World → Prop} {Q : Exit → Act → World → Prop} {E' : Prop} (hgd : o.guard = none) (sl x : Operand)
    (ho : o.op = .call { callee := .builtin .append, args := #[sl, x], argTypes := #[22, 22] })
    (B : Nat) (v : Value) (ns : List (List UInt8)) (hs : a.eval sl = v) (hown : RowS B w v ns) (t : List UInt8)
    (ad : Addr) (hx : a.eval x = .slice (some ad) 1 1) (hnews : ∀ j u, [Value.string (bs t)][j]? = some u → w.cell? (ad.add j) = some u)
    (hb : ns.length + 1 ≤ 1954687338268) (hB : B ≤ w.heap.size)
    (h : ∀ g cap w', RowS B w' (.slice (some ⟨g, 0, none⟩) (ns.length + 1) cap) (ns ++ [t]) → Upd (fun b => v.ownBlock = some b) w w' → (v.ownBlock = some g ∨ g = w.heap.size) → K (a.put o.dst (.slice (some ⟨g, 0, none⟩) (ns.length + 1) cap)) w') :
    if Region.wanted o (yielded ops a.tmps) = true then Oper.wp Tryz.prog o a w K Q else E' := by
  obtain ⟨i0, hi0, hz0, hz1, hz2⟩ := info_parts infoStr
  refine step_append_lies w hgd sl x 22 ho 0 9 i0 _ 1 16 Tryz.underlying22 hi0 hz0 hz1 hz2 rfl (by decide) v ns.length _ hs hown.1 ad 1 1 [Value.string (bs t)] hx rfl hnews (by intro u hu; simp only [List.mem_cons, List.not_mem_nil, or_false] at hu; rw [hu]; rfl)
    (by omega) (by unfold maxLen; omega) (by omega) (Nat.zero_le _) w.heap.size rfl ?_
  intro g cap w' ho' hg' hat _
  refine h g cap w' ⟨?_, fun b hb => ?_⟩ ((Upd.of_grown hg').mono fun b hb => hb) hat
  · rw [List.length_append, List.map_append]; exact ho'
  · have hb' : g = b := by simpa [Value.ownBlock] using hb
    subst hb'
    rcases hat with e | e
    · exact hown.2 g e
    · omega

end Go.Proofs.YtggdcpmampjncaaGreatDoor
