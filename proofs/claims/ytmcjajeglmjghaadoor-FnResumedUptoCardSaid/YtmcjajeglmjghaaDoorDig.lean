/- Words for memory: a digest's block, and 'only this block, and what is new, has turned'. -/
import Derived.Test.YtmcjajeglmjghaaDoorRead
import Derived.Maps.AppendAt
import Derived.Deep.AppendLies
import Derived.Laws.CopyOwn
import Derived.Laws.Rows
namespace Go.Proofs.YtmcjajeglmjghaaDoor
open Go.RowKit

/-! ### only block D, and what is new, has turned -/
abbrev Only (D : Nat) (w w' : World) : Prop := w.grownBy w' (some D)
theorem Only.refl (D : Nat) (w : World) : Only D w w := ⟨rfl, rfl, rfl, Nat.le_refl _, fun _ _ _ => rfl⟩
theorem Only.of_below {D : Nat} {w w' : World} (h : Below w.heap.size w w') : Only D w w' := ⟨h.os, h.tape, h.output, h.size, fun i hi _ => h.block i hi⟩
theorem Only.trans {D : Nat} {a b c : World} (h : Only D a b) (k : Only D b c) : Only D a c := World.grownBy.trans h k
theorem Only.setCell {D : Nat} {a w : World} (h : Only D a w) (o : Nat) (u : Value) : Only D a (w.setCell ⟨D, o, none⟩ u) :=
  ⟨h.os, h.tape, h.output, by simpa [World.setCell] using h.size, fun i hi hne => (Below.heap_setCell w _ u i (by rintro rfl; exact hne rfl)).trans (h.block i hi hne)⟩
theorem Only.drewN {D : Nat} {a w : World} (h : Only D a w) (n : Nat) : Only D a (w.drewN n) := ⟨h.os, h.tape, h.output, h.size, h.block⟩
theorem Only.drew {D : Nat} {a w : World} (h : Only D a w) : Only D a w.drew := ⟨h.os, h.tape, h.output, h.size, h.block⟩
theorem Only.alloc {D : Nat} {a w : World} (h : Only D a w) (o : Obj) : Only D a (w.alloc o) := h.trans (World.grownBy_alloc w o _)
theorem Only.setRow {D : Nat} {a w : World} (h : Only D a w) (cs : Array Value) : Only D a (w.setRow D cs) :=
  ⟨h.os, h.tape, h.output, by simpa using h.size, fun i hi hne => (setRow_other w D i cs (by rintro rfl; exact hne rfl)).trans (h.block i hi hne)⟩
theorem Only.below {D : Nat} {w w' : World} (h : Only D w w') (hD : D ≤ w.heap.size) : Below D w w' := ⟨h.os, h.tape, h.output, h.size, fun k hk => h.block k (by omega) (by intro e; injection e with e; omega)⟩
theorem Only.new {D : Nat} {w w' : World} (h : Only D w w') (hD : w.heap.size ≤ D) : Below w.heap.size w w' := ⟨h.os, h.tape, h.output, h.size, fun k hk => h.block k hk (by intro e; injection e with e; omega)⟩

/-! ### a slice's bytes -/
/-- A slice's bytes: where there is one, they lie in a block below B. -/
def Mem (w : World) (B : Nat) (A : Option Addr) (l : List UInt8) : Prop := 0 < l.length → ∃ g o, A = some ⟨g, o, none⟩ ∧ g < B ∧ Bytes w g o l
theorem Mem.below {w w' : World} {B B' : Nat} {A : Option Addr} {l : List UInt8} (h : Mem w B A l) (hb : Below B' w w') (hB : B ≤ B') : Mem w' B A l := fun hl => by
  obtain ⟨g, o, e, hg, hc⟩ := h hl
  exact ⟨g, o, e, hg, hc.below hb (by omega)⟩
theorem Mem.more {w : World} {B B' : Nat} {A : Option Addr} {l : List UInt8} (h : Mem w B A l) (hB : B ≤ B') : Mem w B' A l := fun hl => by
  obtain ⟨g, o, e, hg, hc⟩ := h hl
  exact ⟨g, o, e, by omega, hc⟩
theorem Mem.nil (w : World) (B : Nat) (A : Option Addr) : Mem w B A [] := fun h => absurd h (by simp)

/-! ### a digest -/
def byteV (c : UInt8) : Value := .int .u8 (c.toNat : Int)
def digCells (s : St) (t : B64) (m : List UInt8) (n : Nat) : List Value :=
  [.int .u64 (U s.v1), .int .u64 (U s.v2), .int .u64 (U s.v3), .int .u64 (U s.v4), .int .u64 (U t)] ++ (m.map byteV ++ [.int .i64 (n : Int)])
/-- Block D is a digest: the four numbers, the total, 32 bytes, how many of them are used. -/
def Dig (w : World) (D : Nat) (s : St) (t : B64) (m : List UInt8) (n : Nat) : Prop :=
  m.length = 32 ∧ w.heap[D]? = some (.cells (digCells s t m n).toArray 77 (0, 0))

section
variable {w w' : World} {D : Nat} {s : St} {t : B64} {m : List UInt8} {n : Nat}
theorem Dig.lt (h : Dig w D s t m n) : D < w.heap.size := by
  rcases Nat.lt_or_ge D w.heap.size with hlt | hge
  · exact hlt
  · have := h.2; rw [Array.getElem?_eq_none hge] at this; cases this
theorem Dig.frozen (h : Dig w D s t m n) (i : Nat) : w.frozen? ⟨D, i, none⟩ = false := by
  have := h.2
  simp [World.frozen?, this]
theorem Dig.cell (h : Dig w D s t m n) (i : Nat) : w.cell? ⟨D, i, none⟩ = (digCells s t m n)[i]? := by
  rw [cell_of_row w D i _ _ _ h.2]; simp
theorem Dig.c0 (h : Dig w D s t m n) : w.cell? ⟨D, 0, none⟩ = some (.int .u64 (U s.v1)) := h.cell 0
theorem Dig.c1 (h : Dig w D s t m n) : w.cell? ⟨D, 1, none⟩ = some (.int .u64 (U s.v2)) := h.cell 1
theorem Dig.c2 (h : Dig w D s t m n) : w.cell? ⟨D, 2, none⟩ = some (.int .u64 (U s.v3)) := h.cell 2
theorem Dig.c3 (h : Dig w D s t m n) : w.cell? ⟨D, 3, none⟩ = some (.int .u64 (U s.v4)) := h.cell 3
theorem Dig.c4 (h : Dig w D s t m n) : w.cell? ⟨D, 4, none⟩ = some (.int .u64 (U t)) := h.cell 4
theorem Dig.cn (h : Dig w D s t m n) : w.cell? ⟨D, 37, none⟩ = some (.int .i64 (n : Int)) := by
  rw [h.cell]
  unfold digCells
  rw [List.getElem?_append_right (by simp), List.getElem?_append_right (by simp [h.1])]
  simp [h.1]
theorem Dig.bytes (h : Dig w D s t m n) : Bytes w D 5 m := fun j hj => by
  rw [h.cell]
  unfold digCells
  rw [List.getElem?_append_right (by simp)]
  have e : 5 + j - [Value.int .u64 (U s.v1), .int .u64 (U s.v2), .int .u64 (U s.v3), .int .u64 (U s.v4), .int .u64 (U t)].length = j := by simp
  rw [e, List.getElem?_append_left (by simpa using hj), List.getElem?_map, List.getElem?_eq_getElem hj]
  rfl
theorem Dig.keep (h : Dig w D s t m n) (hk : w'.heap[D]? = w.heap[D]?) : Dig w' D s t m n := ⟨h.1, hk.trans h.2⟩
theorem Dig.below (h : Dig w D s t m n) {B : Nat} (hb : Below B w w') (hB : D < B) : Dig w' D s t m n := h.keep (hb.block D hB)
theorem Dig.only (h : Dig w D s t m n) {E : Nat} (ho : Only E w w') (hE : D ≠ E) : Dig w' D s t m n := h.keep (ho.block D h.lt (by intro e; injection e with e; exact hE e))
theorem Dig.drewN (h : Dig w D s t m n) (k : Nat) : Dig (w.drewN k) D s t m n := h
theorem Dig.drew (h : Dig w D s t m n) : Dig w.drew D s t m n := h
theorem Dig.alloc (h : Dig w D s t m n) (o : Obj) : Dig (w.alloc o) D s t m n := h.keep (Below.heap_alloc w o D h.lt)
theorem Dig.set (h : Dig w D s t m n) (i : Nat) (u : Value) : (w.setCell ⟨D, i, none⟩ u).heap[D]? = some (.cells ((digCells s t m n).set i u).toArray 77 (0, 0)) := by
  have := h.2
  simp [World.setCell, Array.getElem?_modify, this]
theorem Dig.set0 (h : Dig w D s t m n) (x : B64) : Dig (w.setCell ⟨D, 0, none⟩ (.int .u64 (U x))) D { s with v1 := x } t m n := ⟨h.1, h.set _ _⟩
theorem Dig.set1 (h : Dig w D s t m n) (x : B64) : Dig (w.setCell ⟨D, 1, none⟩ (.int .u64 (U x))) D { s with v2 := x } t m n := ⟨h.1, h.set _ _⟩
theorem Dig.set2 (h : Dig w D s t m n) (x : B64) : Dig (w.setCell ⟨D, 2, none⟩ (.int .u64 (U x))) D { s with v3 := x } t m n := ⟨h.1, h.set _ _⟩
theorem Dig.set3 (h : Dig w D s t m n) (x : B64) : Dig (w.setCell ⟨D, 3, none⟩ (.int .u64 (U x))) D { s with v4 := x } t m n := ⟨h.1, h.set _ _⟩
theorem Dig.set4 (h : Dig w D s t m n) (x : B64) : Dig (w.setCell ⟨D, 4, none⟩ (.int .u64 (U x))) D s x m n := ⟨h.1, h.set _ _⟩
theorem Dig.setn (h : Dig w D s t m n) (k : Nat) : Dig (w.setCell ⟨D, 37, none⟩ (.int .i64 (k : Int))) D s t m k := by
  refine ⟨h.1, (h.set _ _).trans ?_⟩
  have e : (digCells s t m n).set 37 (.int .i64 (k : Int)) = digCells s t m k := by
    unfold digCells
    rw [List.set_append_right _ _ (by simp), List.set_append_right _ _ (by simp [h.1])]
    simp [h.1]
  rw [e]
/-- The bytes b laid over the memory from place k on. -/
def over (m : List UInt8) (k : Nat) (b : List UInt8) : List UInt8 := m.take k ++ (b ++ m.drop (k + b.length))
theorem over_length {m b : List UInt8} {k : Nat} (h : k + b.length ≤ m.length) : (over m k b).length = m.length := by simp [over]; omega
theorem splice_over (k : Nat) (b : List UInt8) (h : m.length = 32) (hk : k + b.length ≤ 32) :
    splice (digCells s t m n) (5 + k) (b.map byteV) = digCells s t (over m k b) n := by
  unfold splice digCells over
  rw [List.take_append, List.drop_append]
  simp only [List.length_cons, List.length_nil, List.length_map]
  rw [List.take_of_length_le (by simp), List.drop_eq_nil_of_le (by simp; omega)]
  rw [show 5 + k - (0 + 1 + 1 + 1 + 1 + 1) = k from by omega, show 5 + k + b.length - (0 + 1 + 1 + 1 + 1 + 1) = k + b.length from by omega]
  rw [List.take_append_of_le_length (by simp [h]; omega), List.drop_append_of_le_length (by simp [h]; omega)]
  simp
theorem Dig.over (h : Dig w D s t m n) (k : Nat) (b : List UInt8) (hk : k + b.length ≤ 32) (hw : w'.heap[D]? = some (.cells (splice (digCells s t m n) (5 + k) (b.map byteV)).toArray 77 (0, 0))) :
    Dig w' D s t (over m k b) n := by
  rw [splice_over k b h.1 hk] at hw
  exact ⟨by rw [over_length (by rw [h.1]; exact hk)]; exact h.1, hw⟩
end
end Go.Proofs.YtmcjajeglmjghaaDoor
