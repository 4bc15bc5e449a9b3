/- Places of a JSON text as plain data, how they lie in memory, and what a JSON text is. No program. Rows of places and of spans that a function owns and appends to. -/
import Derived.Test.YtggdcpmampjncaaGreatDoorBase
import Derived.Test.YtggdcpmampjncaaGreatDoorGram
import Derived.Test.YtggdcpmampjncaaGreatDoorProg
namespace Go.Proofs.YtggdcpmampjncaaGreatDoor
open Go.RowKit

/-! ### Places in memory -/
/-- The cells of spans. -/
def spanCells (ns : List (Nat × Nat)) : List Value := ns.flatMap fun n => [.int .i64 (n.1 : Int), .int .i64 (n.2 : Int)]
/-- A slice of spans. -/
def RdN (w : World) (F : Nat → Prop) (v : Value) (ns : List (Nat × Nat)) : Prop := w.ownsRow 0 102 2 v ns.length (spanCells ns) ∧ ∀ b, v.ownBlock = some b → F b
mutual
/-- The slices of a place: its names and its kids, read to the bottom. -/
def RdP (w : World) (F : Nat → Prop) : Pl → Value → Value → Prop
  | .mk _ _ _ ns ks, nv, kv => RdN w F nv ns ∧ ∃ xs, w.ownsRow 0 31 5 kv ks.length xs ∧ (∀ b, kv.ownBlock = some b → F b) ∧ RdPs w F ks xs
/-- The cells of a row of places. -/
def RdPs (w : World) (F : Nat → Prop) : List Pl → List Value → Prop
  | [], xs => xs = []
  | p :: ps, xs => ∃ nv kv rest, xs = [.int .i64 (p.kind : Int), .int .i64 (p.b : Int), .int .i64 (p.e : Int), nv, kv] ++ rest ∧ RdP w F p nv kv ∧ RdPs w F ps rest
end
/-- A slice of places. -/
def RdK (w : World) (F : Nat → Prop) (v : Value) (ks : List Pl) : Prop := ∃ xs, w.ownsRow 0 31 5 v ks.length xs ∧ (∀ b, v.ownBlock = some b → F b) ∧ RdPs w F ks xs
theorem RdP_mk {w : World} {F : Nat → Prop} {p : Pl} {nv kv : Value} : RdP w F p nv kv ↔ RdN w F nv p.names ∧ RdK w F kv p.kids := by
  cases p; simp only [RdP, RdK, Pl.names, Pl.kids]

theorem RdN.upd {w w' : World} {F S : Nat → Prop} {v : Value} {ns : List (Nat × Nat)} (h : RdN w F v ns) (u : Upd S w w') (hs : ∀ b, F b → ¬ S b) : RdN w' F v ns :=
  ⟨u.own h.1 fun b hb => hs b (h.2 b hb), h.2⟩
theorem RdN.mono {w : World} {F F' : Nat → Prop} {v : Value} {ns : List (Nat × Nat)} (h : RdN w F v ns) (hs : ∀ b, b < w.heap.size → F b → F' b) : RdN w F' v ns :=
  ⟨h.1, fun b hb => hs b (h.1.lt b hb).2 (h.2 b hb)⟩
mutual
theorem RdP.upd {w w' : World} {F S : Nat → Prop} (u : Upd S w w') (hs : ∀ b, F b → ¬ S b) : ∀ (p : Pl) (nv kv : Value), RdP w F p nv kv → RdP w' F p nv kv
  | .mk _ _ _ ns ks, nv, kv, h => by
    obtain ⟨h1, xs, h2, h3, h4⟩ := (by simpa only [RdP] using h : RdN w F nv ns ∧ ∃ xs, w.ownsRow 0 31 5 kv ks.length xs ∧ (∀ b, kv.ownBlock = some b → F b) ∧ RdPs w F ks xs)
    simp only [RdP]
    exact ⟨h1.upd u hs, xs, u.own h2 fun b hb => hs b (h3 b hb), h3, RdPs.upd u hs ks xs h4⟩
theorem RdPs.upd {w w' : World} {F S : Nat → Prop} (u : Upd S w w') (hs : ∀ b, F b → ¬ S b) : ∀ (ps : List Pl) (xs : List Value), RdPs w F ps xs → RdPs w' F ps xs
  | [], xs, h => by simpa only [RdPs] using h
  | p :: ps, xs, h => by
    simp only [RdPs] at h ⊢
    obtain ⟨nv, kv, rest, e, h1, h2⟩ := h
    exact ⟨nv, kv, rest, e, RdP.upd u hs p nv kv h1, RdPs.upd u hs ps rest h2⟩
end
mutual
theorem RdP.mono {w : World} {F F' : Nat → Prop} (hs : ∀ b, b < w.heap.size → F b → F' b) : ∀ (p : Pl) (nv kv : Value), RdP w F p nv kv → RdP w F' p nv kv
  | .mk _ _ _ ns ks, nv, kv, h => by
    obtain ⟨h1, xs, h2, h3, h4⟩ := (by simpa only [RdP] using h : RdN w F nv ns ∧ ∃ xs, w.ownsRow 0 31 5 kv ks.length xs ∧ (∀ b, kv.ownBlock = some b → F b) ∧ RdPs w F ks xs)
    simp only [RdP]
    exact ⟨h1.mono hs, xs, h2, fun b hb => hs b (h2.lt b hb).2 (h3 b hb), RdPs.mono hs ks xs h4⟩
theorem RdPs.mono {w : World} {F F' : Nat → Prop} (hs : ∀ b, b < w.heap.size → F b → F' b) : ∀ (ps : List Pl) (xs : List Value), RdPs w F ps xs → RdPs w F' ps xs
  | [], xs, h => by simpa only [RdPs] using h
  | p :: ps, xs, h => by
    simp only [RdPs] at h ⊢
    obtain ⟨nv, kv, rest, e, h1, h2⟩ := h
    exact ⟨nv, kv, rest, e, RdP.mono hs p nv kv h1, RdPs.mono hs ps rest h2⟩
end
theorem RdK.upd {w w' : World} {F S : Nat → Prop} {v : Value} {ks : List Pl} (h : RdK w F v ks) (u : Upd S w w') (hs : ∀ b, F b → ¬ S b) : RdK w' F v ks := by
  obtain ⟨xs, h2, h3, h4⟩ := h
  exact ⟨xs, u.own h2 fun b hb => hs b (h3 b hb), h3, RdPs.upd u hs ks xs h4⟩
theorem RdK.mono {w : World} {F F' : Nat → Prop} {v : Value} {ks : List Pl} (h : RdK w F v ks) (hs : ∀ b, b < w.heap.size → F b → F' b) : RdK w F' v ks := by
  obtain ⟨xs, h2, h3, h4⟩ := h
  exact ⟨xs, h2, fun b hb => hs b (h2.lt b hb).2 (h3 b hb), RdPs.mono hs ks xs h4⟩
theorem RdPs.snoc {w : World} {F : Nat → Prop} {p : Pl} {nv kv : Value} (hp : RdP w F p nv kv) : ∀ (ps : List Pl) (xs : List Value), RdPs w F ps xs →
    RdPs w F (ps ++ [p]) (xs ++ [.int .i64 (p.kind : Int), .int .i64 (p.b : Int), .int .i64 (p.e : Int), nv, kv])
  | [], xs, h => by
    simp only [RdPs] at h
    subst h
    simp only [RdPs, List.nil_append]
    exact ⟨nv, kv, [], by simp, hp, rfl⟩
  | q :: ps, xs, h => by
    simp only [RdPs, List.cons_append] at h ⊢
    obtain ⟨nv', kv', rest, rfl, h1, h2⟩ := h
    exact ⟨nv', kv', _, by simp, h1, RdPs.snoc hp ps rest h2⟩
theorem RdN_nil (w : World) (F : Nat → Prop) : RdN w F (.slice none 0 0) [] := ⟨World.ownsRow_nil w 0 _ 2, fun b hb => by simp [Value.ownBlock] at hb⟩
theorem RdK_nil (w : World) (F : Nat → Prop) : RdK w F (.slice none 0 0) [] := ⟨[], World.ownsRow_nil w 0 _ 5, fun b hb => by simp [Value.ownBlock] at hb, by simp only [RdPs]⟩
theorem RdK.len {w : World} {F : Nat → Prop} {v : Value} {ks : List Pl} (h : RdK w F v ks) : ∃ a c, v = .slice a ks.length c := by
  obtain ⟨xs, h2, _, _⟩ := h
  rcases h2.2 with ⟨rfl, h0⟩ | ⟨g, cap, cur, rfl, _⟩
  · exact ⟨none, 0, by rw [h0]⟩
  · exact ⟨_, cap, rfl⟩

theorem RdN.len {w : World} {F : Nat → Prop} {v : Value} {ns : List (Nat × Nat)} (h : RdN w F v ns) : ∃ a c, v = .slice a ns.length c := by
  rcases h.1.2 with ⟨rfl, h0⟩ | ⟨g, cap, cur, rfl, _⟩
  · exact ⟨none, 0, by rw [h0]⟩
  · exact ⟨_, cap, rfl⟩
theorem RdP.shape {w : World} {F : Nat → Prop} {p : Pl} {nv kv : Value} (h : RdP w F p nv kv) : ∃ na nc ka kc, nv = .slice na p.names.length nc ∧ kv = .slice ka p.kids.length kc := by
  obtain ⟨h1, h2⟩ := RdP_mk.1 h
  obtain ⟨na, nc, e1⟩ := h1.len
  obtain ⟨ka, kc, e2⟩ := h2.len
  exact ⟨na, nc, ka, kc, e1, e2⟩

/-- Five cells of a place, appended to a row of places: what the law on append asks of the new cells. -/
theorem five_one {p : Pl} {nv kv : Value} {w : World} {F : Nat → Prop} (h : RdP w F p nv kv) : ∀ u ∈ [Value.int .i64 (p.kind : Int), .int .i64 (p.b : Int), .int .i64 (p.e : Int), nv, kv], u.oneCell' = true := by
  obtain ⟨⟨hn, _⟩, xs, hk, _⟩ := RdP_mk.1 h
  have h1 : nv.oneCell' = true := by rcases hn.2 with ⟨rfl, _⟩ | ⟨g, cap, cur, rfl, _⟩ <;> rfl
  have h2 : kv.oneCell' = true := by rcases hk.2 with ⟨rfl, _⟩ | ⟨g, cap, cur, rfl, _⟩ <;> rfl
  intro u hu
  simp only [List.mem_cons, List.not_mem_nil, or_false] at hu
  rcases hu with rfl | rfl | rfl | rfl | rfl <;> first | rfl | assumption
/-- The cells of a new block. -/
theorem cells_new (w : World) (cs : List Value) (t : TypeId) : ∀ j u, cs[j]? = some u → (w.alloc (.cells cs.toArray t)).cell? ((⟨w.heap.size, 0, none⟩ : Addr).add j) = some u := by
  intro j u hj
  have hadd : (⟨w.heap.size, 0, none⟩ : Addr).add j = ⟨w.heap.size, j, none⟩ := by unfold Addr.add; split <;> simp_all
  rw [hadd, cell_of_row _ _ j cs.toArray t (0, 0) (heap_alloc_new w _)]
  simpa using hj

end Go.Proofs.YtggdcpmampjncaaGreatDoor
namespace Go.Proofs.YtggdcpmampjncaaGreatDoor
open Go.RowKit

theorem infoPlace : (Tryz.prog.info? 31).map (fun i => (i.zero, i.size, i.bytes)) = some (some (.agg #[.int .i64 0, .int .i64 0, .int .i64 0, .slice none 0 0, .slice none 0 0]), 5, 72) := by kernel_rfl
theorem infoSpan : (Tryz.prog.info? 102).map (fun i => (i.zero, i.size, i.bytes)) = some (some (.agg #[.int .i64 0, .int .i64 0]), 2, 16) := by kernel_rfl

/-- A row of places of the call's own, made from block B on, in no block of E; what its places lead to lies in other blocks, none in E. -/
def RowK (B : Nat) (E : Nat → Prop) (w : World) (v : Value) (ks : List Pl) : Prop := ∃ xs, w.ownsRow 0 31 5 v ks.length xs ∧ (∀ b, v.ownBlock = some b → B ≤ b ∧ ¬ E b) ∧ RdPs w (fun b => B ≤ b ∧ v.ownBlock ≠ some b ∧ ¬ E b) ks xs
theorem RowK.nil (B : Nat) (E : Nat → Prop) (w : World) : RowK B E w (.slice none 0 0) [] := ⟨[], World.ownsRow_nil w 0 _ 5, fun b hb => by simp [Value.ownBlock] at hb, by simp only [RdPs]⟩
theorem RowK.read {B : Nat} {E : Nat → Prop} {w : World} {v : Value} {ks : List Pl} (h : RowK B E w v ks) : RdK w (fun b => B ≤ b) v ks := by
  obtain ⟨xs, h1, h2, h3⟩ := h
  exact ⟨xs, h1, fun b hb => (h2 b hb).1, RdPs.mono (fun b _ hb => hb.1) ks xs h3⟩
theorem RowK.upd {B : Nat} {E : Nat → Prop} {w w' : World} {S : Nat → Prop} {v : Value} {ks : List Pl} (h : RowK B E w v ks) (u : Upd S w w') (hs : ∀ b, B ≤ b → b < w.heap.size → ¬ E b → ¬ S b) : RowK B E w' v ks := by
  obtain ⟨xs, h1, h2, h3⟩ := h
  have h3' := RdPs.mono (F' := fun b => (B ≤ b ∧ v.ownBlock ≠ some b ∧ ¬ E b) ∧ b < w.heap.size) (fun b hb hf => ⟨hf, hb⟩) ks xs h3
  have h4 := RdPs.upd u (fun b hb => hs b hb.1.1 hb.2 hb.1.2.2) ks xs h3'
  exact ⟨xs, u.own h1 fun b hb => hs b (h2 b hb).1 (h1.lt b hb).2 (h2 b hb).2, h2, RdPs.mono (fun b _ hb => hb.1) ks xs h4⟩
theorem RowK.exc {B : Nat} {E E' : Nat → Prop} {w : World} {v : Value} {ks : List Pl} (h : RowK B E w v ks) (he : ∀ b, B ≤ b → b < w.heap.size → ¬ E b → ¬ E' b) : RowK B E' w v ks := by
  obtain ⟨xs, h1, h2, h3⟩ := h
  exact ⟨xs, h1, fun b hb => ⟨(h2 b hb).1, he b (h2 b hb).1 (h1.lt b hb).2 (h2 b hb).2⟩, RdPs.mono (fun b hb hf => ⟨hf.1, hf.2.1, he b hf.1 hb hf.2.2⟩) ks xs h3⟩
theorem RowK.lt {B : Nat} {E : Nat → Prop} {w : World} {v : Value} {ks : List Pl} (h : RowK B E w v ks) : ∀ b, v.ownBlock = some b → B ≤ b ∧ b < w.heap.size := by
  obtain ⟨xs, h1, h2, _⟩ := h
  exact fun b hb => ⟨(h2 b hb).1, (h1.lt b hb).2⟩
theorem RowK.out {B : Nat} {E : Nat → Prop} {w : World} {v : Value} {ks : List Pl} (h : RowK B E w v ks) : ∀ b, v.ownBlock = some b → ¬ E b := by
  obtain ⟨xs, h1, h2, _⟩ := h
  exact fun b hb => (h2 b hb).2
theorem RowK.len {B : Nat} {E : Nat → Prop} {w : World} {v : Value} {ks : List Pl} (h : RowK B E w v ks) : ∃ a c, v = .slice a ks.length c := h.read.len

/-- append(v, p): behind the walk's box of the five cells. -/
theorem wpList_app_place {w : World} {ops : Array Oper} {rest : List Oper} {o : Oper} {a : Act} {Q : Exit → Act → World → Prop} (hgd : o.guard = none) (sl x : Operand)
    (ho : o.op = .call { callee := .builtin .append, args := #[sl, x], argTypes := #[29, 29] })
    (B : Nat) (E : Nat → Prop) (v : Value) (ks : List Pl) (hs : a.eval sl = v) (hown : RowK B E w v ks) (p : Pl) (nv kv : Value) (hp : RdP w (fun b => B ≤ b ∧ v.ownBlock ≠ some b ∧ ¬ E b) p nv kv)
    (ad : Addr) (hx : a.eval x = .slice (some ad) 1 1) (hnews : ∀ j u, [Value.int .i64 (p.kind : Int), .int .i64 (p.b : Int), .int .i64 (p.e : Int), nv, kv][j]? = some u → w.cell? (ad.add j) = some u)
    (hb : ks.length + 1 ≤ 1954687338268) (hB : B ≤ w.heap.size) (hE : ∀ b, E b → b < w.heap.size)
    (h : ∀ v' w', RowK B E w' v' (ks ++ [p]) → Upd (fun b => v.ownBlock = some b) w w' → wpList Tryz.prog ops Q rest (a.put o.dst v') w') : wpList Tryz.prog ops Q (o :: rest) a w := by
  obtain ⟨i0, hi0, hz0, hz1, hz2⟩ := info_parts infoPlace
  obtain ⟨xs, h1, h2, h3⟩ := hown
  refine wpList_append_own_at w hgd sl x 29 ho 0 31 i0 _ 5 72 Tryz.underlying29 hi0 hz0 hz1 hz2 rfl (by decide) v ks.length xs hs h1 ad 1 1 _ hx rfl hnews (five_one hp)
    (by unfold maxLen; omega) (by omega) (Nat.zero_le _) ?_
  intro v' w' ho' hg' _ hat
  have hne : ∀ b, b < w.heap.size → v.ownBlock ≠ some b → v'.ownBlock ≠ some b := fun b hb hn hc => by
    rcases hat with e | e
    · exact hn (by rw [← e]; exact hc)
    · rw [e] at hc; injection hc with hc; omega
  have u : Upd (fun b => v.ownBlock = some b) w w' := (Upd.of_grown hg').mono fun b hb => hb
  refine h v' w' ⟨_, by rw [List.length_append]; exact ho', fun b hb => ?_, ?_⟩ u
  · rcases hat with e | e
    · exact h2 b (by rw [← e]; exact hb)
    · rw [e] at hb; injection hb with hb; exact ⟨by omega, fun hc => by have := hE b hc; omega⟩
  · have g1 := RdPs.mono (F' := fun b => (B ≤ b ∧ v'.ownBlock ≠ some b ∧ ¬ E b) ∧ v.ownBlock ≠ some b) (fun b hb hf => ⟨⟨hf.1, hne b hb hf.2.1, hf.2.2⟩, hf.2.1⟩) ks xs h3
    have g2 := RdP.mono (F' := fun b => (B ≤ b ∧ v'.ownBlock ≠ some b ∧ ¬ E b) ∧ v.ownBlock ≠ some b) (fun b hb hf => ⟨⟨hf.1, hne b hb hf.2.1, hf.2.2⟩, hf.2.1⟩) p nv kv hp
    exact RdPs.mono (fun b _ hb => hb.1) _ _ (RdPs.snoc (RdP.upd u (fun b hb => hb.2) p nv kv g2) ks xs (RdPs.upd u (fun b hb => hb.2) ks xs g1))

/-- A row of spans of the call's own. -/
def RowN (B : Nat) (w : World) (v : Value) (ns : List (Nat × Nat)) : Prop := w.ownsRow 0 102 2 v ns.length (spanCells ns) ∧ ∀ b, v.ownBlock = some b → B ≤ b
theorem RowN.nil (B : Nat) (w : World) : RowN B w (.slice none 0 0) [] := ⟨World.ownsRow_nil w 0 _ 2, fun b hb => by simp [Value.ownBlock] at hb⟩
theorem RowN.read {B : Nat} {w : World} {v : Value} {ns : List (Nat × Nat)} (h : RowN B w v ns) : RdN w (fun b => B ≤ b) v ns := h
theorem RowN.upd {B : Nat} {w w' : World} {S : Nat → Prop} {v : Value} {ns : List (Nat × Nat)} (h : RowN B w v ns) (u : Upd S w w') (hs : ∀ b, v.ownBlock = some b → ¬ S b) : RowN B w' v ns := ⟨u.own h.1 hs, h.2⟩
theorem RowN.lt {B : Nat} {w : World} {v : Value} {ns : List (Nat × Nat)} (h : RowN B w v ns) : ∀ b, v.ownBlock = some b → B ≤ b ∧ b < w.heap.size := fun b hb => ⟨h.2 b hb, (h.1.lt b hb).2⟩
theorem wpList_app_span {w : World} {ops : Array Oper} {rest : List Oper} {o : Oper} {a : Act} {Q : Exit → Act → World → Prop} (hgd : o.guard = none) (sl x : Operand)
    (ho : o.op = .call { callee := .builtin .append, args := #[sl, x], argTypes := #[28, 28] })
    (B : Nat) (v : Value) (ns : List (Nat × Nat)) (hs : a.eval sl = v) (hown : RowN B w v ns) (b e : Nat)
    (ad : Addr) (hx : a.eval x = .slice (some ad) 1 1) (hnews : ∀ j u, [Value.int .i64 (b : Int), .int .i64 (e : Int)][j]? = some u → w.cell? (ad.add j) = some u)
    (hb : ns.length + 1 ≤ 1954687338268) (hB : B ≤ w.heap.size)
    (h : ∀ v' w', RowN B w' v' (ns ++ [(b, e)]) → Upd (fun b => v.ownBlock = some b) w w' → (∀ b, v'.ownBlock = some b → v.ownBlock = some b ∨ b = w.heap.size) → wpList Tryz.prog ops Q rest (a.put o.dst v') w') : wpList Tryz.prog ops Q (o :: rest) a w := by
  obtain ⟨i0, hi0, hz0, hz1, hz2⟩ := info_parts infoSpan
  refine wpList_append_own_at w hgd sl x 28 ho 0 102 i0 _ 2 16 Tryz.underlying28 hi0 hz0 hz1 hz2 rfl (by decide) v ns.length (spanCells ns) hs hown.1 ad 1 1 _ hx rfl hnews
    (by intro u hu; simp only [List.mem_cons, List.not_mem_nil, or_false] at hu; rcases hu with rfl | rfl <;> rfl)
    (by unfold maxLen; omega) (by omega) (Nat.zero_le _) ?_
  intro v' w' ho' hg' _ hat
  refine h v' w' ⟨?_, fun b' hb' => ?_⟩ ((Upd.of_grown hg').mono fun b hb => hb) ?_
  · rw [List.length_append, show spanCells (ns ++ [(b, e)]) = spanCells ns ++ [Value.int .i64 (b : Int), .int .i64 (e : Int)] by simp [spanCells]]
    exact ho'
  · rcases hat with e' | e'
    · exact hown.2 b' (by rw [← e']; exact hb')
    · rw [e'] at hb'; injection hb' with hb'; omega
  · intro b' hb'
    rcases hat with e' | e'
    · exact .inl (by rw [← e']; exact hb')
    · rw [e'] at hb'; injection hb' with hb'; exact .inr hb'.symm

end Go.Proofs.YtggdcpmampjncaaGreatDoor
