/- Rows of bytes that a function owns and appends to; rows of strings likewise. -/
import Derived.Test.YtggdcpmampjncaaGreatDoorProg
import Derived.Test.YtggdcpmampjncaaGreatDoorBase
import Derived.Laws.IdiomStrings
import Derived.Lib.BufferRead
namespace Go.Proofs.YtggdcpmampjncaaGreatDoor
open Go.RowKit

theorem infoByte : (Tryz.prog.info? 5).map (fun i => (i.zero, i.size, i.bytes)) = some (some (.int .u8 0), 1, 1) := by kernel_rfl
theorem infoStr : (Tryz.prog.info? 9).map (fun i => (i.zero, i.size, i.bytes)) = some (some (.string ByteArray.empty), 1, 16) := by kernel_rfl

/-- The cells of bytes. -/
def bcells (l : List UInt8) : List Value := l.map fun b => Value.int .u8 (b.toNat : Int)
theorem bcells_append (a b : List UInt8) : bcells (a ++ b) = bcells a ++ bcells b := List.map_append
/-- A row of bytes of the call's own, made from block B on. -/
def RowB (B : Nat) (w : World) (v : Value) (l : List UInt8) : Prop := w.ownsRow 0 5 1 v l.length (bcells l) ∧ ∀ b, v.ownBlock = some b → B ≤ b
theorem RowB.nil (B : Nat) (w : World) : RowB B w (.slice none 0 0) [] := ⟨World.ownsRow_nil w 0 _ 1, fun b hb => by simp [Value.ownBlock] at hb⟩
theorem RowB.upd {B : Nat} {w w' : World} {S : Nat → Prop} {v : Value} {l : List UInt8} (h : RowB B w v l) (u : Upd S w w') (hs : ∀ b, B ≤ b → b < w.heap.size → ¬ S b) : RowB B w' v l :=
  ⟨u.own h.1 fun b hb => hs b (h.2 b hb) (h.1.lt b hb).2, h.2⟩
theorem RowB.lt {B : Nat} {w : World} {v : Value} {l : List UInt8} (h : RowB B w v l) : ∀ b, v.ownBlock = some b → B ≤ b ∧ b < w.heap.size := fun b hb => ⟨h.2 b hb, (h.1.lt b hb).2⟩
theorem RowB.len {B : Nat} {w : World} {v : Value} {l : List UInt8} (h : RowB B w v l) : ∃ a c, v = .slice a l.length c := by
  rcases h.1.2 with ⟨rfl, h0⟩ | ⟨g, cap, cur, rfl, _⟩
  · exact ⟨none, 0, by rw [h0]⟩
  · exact ⟨_, cap, rfl⟩
theorem RowB.mono {B B' : Nat} {w : World} {v : Value} {l : List UInt8} (h : RowB B w v l) (hb : B' ≤ B) : RowB B' w v l := ⟨h.1, fun b k => Nat.le_trans hb (h.2 b k)⟩

/-- append(v, bytes): behind the walk's box of the new cells. -/
theorem wpList_app_bytes {w : World} {ops : Array Oper} {rest : List Oper} {o : Oper} {a : Act} {Q : Exit → Act → World → Prop} (hgd : o.guard = none) (sl x : Operand)
    (ho : o.op = .call { callee := .builtin .append, args := #[sl, x], argTypes := #[91, 91] })
    (B : Nat) (v : Value) (l : List UInt8) (hs : a.eval sl = v) (hown : RowB B w v l) (news : List UInt8) (m : Nat) (hm : news.length = m)
    (ad : Addr) (c : Nat) (hx : a.eval x = .slice (some ad) m c) (hnews : ∀ j u, (bcells news)[j]? = some u → w.cell? (ad.add j) = some u)
    (hb : l.length + m ≤ 1099511627776) (hB : B ≤ w.heap.size)
    (h : ∀ v' w', RowB B w' v' (l ++ news) → Upd (fun b => v.ownBlock = some b) w w' → (v'.ownBlock = v.ownBlock ∨ v'.ownBlock = some w.heap.size) → wpList Tryz.prog ops Q rest (a.put o.dst v') w') : wpList Tryz.prog ops Q (o :: rest) a w := by
  obtain ⟨i0, hi0, hz0, hz1, hz2⟩ := info_parts infoByte
  refine wpList_append_own_at w hgd sl x 91 ho 0 5 i0 _ 1 1 Tryz.underlying91 hi0 hz0 hz1 hz2 rfl (by decide) v l.length (bcells l) hs hown.1 ad m c (bcells news) hx (by rw [bcells, List.length_map, hm]; omega) hnews
    (by intro u hu; simp only [bcells, List.mem_map] at hu; obtain ⟨b, _, rfl⟩ := hu; rfl)
    (by unfold maxLen; omega) (by omega) (Nat.zero_le _) ?_
  intro v' w' ho' hg' _ hat
  refine h v' w' ⟨?_, fun b hb => ?_⟩ ((Upd.of_grown hg').mono fun b hb => hb) hat
  · rw [List.length_append, hm, bcells_append]; exact ho'
  · rcases hat with e | e
    · exact hown.2 b (by rw [← e]; exact hb)
    · rw [e] at hb; injection hb with hb; omega
/-- string(v). -/
theorem RowB.str {B : Nat} {w : World} {v : Value} {l : List UInt8} (h : RowB B w v l) : (convert 91 9 v).run Tryz.prog w = .ok (.string ⟨l.toArray⟩) w := by
  rcases h.1.2 with ⟨rfl, h0⟩ | ⟨g, cap, cur, rfl, h0⟩
  · have e : l = [] := List.length_eq_zero_iff.1 h0
    subst e
    exact Go.Lib.run_convert_nil_bytes w 91 9 5 0 Tryz.underlying91 Tryz.underlying5 Tryz.underlying9
  · have hc := h.1.cells (g := g) rfl
    exact run_convert_bytes_back w 91 9 5 ⟨g, 0, none⟩ cap l Tryz.underlying91 Tryz.underlying5 Tryz.underlying9 (fun j hj => hc j _ (by simp [bcells, hj]))
end Go.Proofs.YtggdcpmampjncaaGreatDoor
