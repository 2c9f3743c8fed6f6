/- Words for pieces: a slice of slices of bytes that came in, read as a list of pieces. -/
import Derived.Test.YtmcjajeglmjghaaDoorFrame
import Derived.Deep.Slices
namespace Go.Proofs.YtmcjajeglmjghaaDoor
open Go.ChangeShapes Go.WideShapes Go.ChangeAt Go.RowKit Go.Deep

/-- A piece: where it lies, its capacity, its bytes. -/
structure Piece where
  A : Option Addr
  c : Nat
  l : List UInt8
def Piece.val (p : Piece) : Value := .slice p.A p.l.length p.c
/-- All bytes, one piece behind the other. -/
def allB (ps : List Piece) : List UInt8 := ps.flatMap Piece.l
theorem allB_nil : allB [] = [] := rfl
theorem allB_cons (p : Piece) (ps : List Piece) : allB (p :: ps) = p.l ++ allB ps := rfl
theorem allB_app (ps qs : List Piece) : allB (ps ++ qs) = allB ps ++ allB qs := by simp [allB]
theorem allB_snoc (ps : List Piece) (k : Nat) (hk : k < ps.length) : allB (ps.take (k + 1)) = allB (ps.take k) ++ ps[k].l := by
  rw [List.take_succ_eq_append_getElem hk, allB_app]; simp [allB]
/-- A piece is there, in a block below B. -/
def Piece.There (w : World) (B : Nat) (p : Piece) : Prop := p.l.length ≤ p.c ∧ p.l.length ≤ 140737488355328 ∧ Mem w B p.A p.l
theorem Piece.There.below {w w' : World} {B B' : Nat} {p : Piece} (h : p.There w B) (hb : Below B' w w') (hB : B ≤ B') : p.There w' B := ⟨h.1, h.2.1, h.2.2.below hb hB⟩
theorem Piece.There.more {w : World} {B B' : Nat} {p : Piece} (h : p.There w B) (hB : B ≤ B') : p.There w B' := ⟨h.1, h.2.1, h.2.2.more hB⟩
/-- The pieces lie in a row. -/
def Row (w : World) (B : Nat) (A : Option Addr) (ps : List Piece) : Prop :=
  0 < ps.length → ∃ g o, A = some ⟨g, o, none⟩ ∧ g < B ∧ ∀ (j : Nat) (hj : j < ps.length), w.cell? ⟨g, o + j, none⟩ = some ps[j].val
def Rws (w : World) (B : Nat) (A : Option Addr) (ps : List Piece) : Prop := Row w B A ps ∧ ∀ p ∈ ps, p.There w B
theorem Row.below {w w' : World} {B B' : Nat} {A : Option Addr} {ps : List Piece} (h : Row w B A ps) (hb : Below B' w w') (hB : B ≤ B') : Row w' B A ps := fun hl => by
  obtain ⟨g, o, e, hg, hc⟩ := h hl
  exact ⟨g, o, e, hg, fun j hj => (hb.cell (p := ⟨g, o + j, none⟩) (by show g < B'; omega)).trans (hc j hj)⟩
theorem Rws.below {w w' : World} {B B' : Nat} {A : Option Addr} {ps : List Piece} (h : Rws w B A ps) (hb : Below B' w w') (hB : B ≤ B') : Rws w' B A ps := ⟨h.1.below hb hB, fun p hp => (h.2 p hp).below hb hB⟩
theorem Row.more {w : World} {B B' : Nat} {A : Option Addr} {ps : List Piece} (h : Row w B A ps) (hB : B ≤ B') : Row w B' A ps := fun hl => by
  obtain ⟨g, o, e, hg, hc⟩ := h hl
  exact ⟨g, o, e, by omega, hc⟩
theorem Rws.more {w : World} {B B' : Nat} {A : Option Addr} {ps : List Piece} (h : Rws w B A ps) (hB : B ≤ B') : Rws w B' A ps := ⟨h.1.more hB, fun p hp => (h.2 p hp).more hB⟩
theorem Row.take {w : World} {B : Nat} {A : Option Addr} {ps : List Piece} (h : Row w B A ps) (k : Nat) : Row w B A (ps.take k) := fun hl => by
  obtain ⟨g, o, e, hg, hc⟩ := h (by simp at hl; omega)
  exact ⟨g, o, e, hg, fun j hj => by rw [List.getElem_take]; exact hc j (by simp at hj; omega)⟩
theorem Rws.take {w : World} {B : Nat} {A : Option Addr} {ps : List Piece} (h : Rws w B A ps) (k : Nat) : Rws w B A (ps.take k) := ⟨h.1.take k, fun p hp => h.2 p (List.mem_of_mem_take hp)⟩

theorem cells22 : Tryd.prog.cellsOf 22 = 1 := by kernel_rfl
theorem bytes22 : Tryd.prog.bytesOf 22 = 24 := by kernel_rfl
theorem bulk_lits {H : Type} (k : IntKind) (zs : List Int) : Rows.uptoBulkAll (lits (H := H) k zs) = zs.length := by
  unfold lits
  induction zs with
  | nil => simp [Rows.uptoBulkAll]
  | cons z zs ih => simp only [List.map_cons, Rows.uptoBulkAll, ih, List.length_cons, Rows.uptoBulk]; omega
theorem one_le {H : Type} (d : DataW H) : 1 ≤ Rows.uptoBulk d := by
  cases d with
  | lit l => cases l <;> simp [Rows.uptoBulk]
  | nil => simp [Rows.uptoBulk]
  | ptr d => simp [Rows.uptoBulk]
  | slice elems spare => simp [Rows.uptoBulk]
  | agg parts => simp [Rows.uptoBulk]
  | iface t d => simp [Rows.uptoBulk]
  | map entries => simp [Rows.uptoBulk]
  | held h => simp [Rows.uptoBulk]
theorem part_le {H : Type} {d : DataW H} {l : List (DataW H)} (h : d ∈ l) : Rows.uptoBulk d ≤ Rows.uptoBulkAll l := by
  induction l with
  | nil => cases h
  | cons x r ih =>
    simp only [Rows.uptoBulkAll]
    cases List.mem_cons.1 h with
    | inl e => subst e; omega
    | inr e => have := ih e; omega

/-- A slice of bytes, from its cells. -/
theorem open_piece {H : Type} {enc : TypeId × Value → H} {W : World} {fuel : Nat} {cs : List Value} {x : DataW H × List MemPlace} (hf : DataW.trod enc Tryd.prog W 0 (fun _ => true) true fuel 22 cs = some x) :
    ∃ p : Piece, cs = [p.val] ∧ p.l.length ≤ p.c ∧ Mem W W.heap.size p.A p.l ∧ p.l.length + 1 ≤ Rows.uptoBulk x.1 ∧ (p.c = 0 ∨ p.c ∈ DataW.weights Tryd.prog 22 x.1) := by
  have hcs : ∃ a len cap, cs = [.slice a len cap] := by
    rcases open_ints Tryd.underlying22 Tryd.underlying5 (by kernel_rfl) hf with ⟨h, _⟩ | ⟨x, len', cap', zs, h, _⟩
    · exact ⟨_, _, _, h⟩
    · exact ⟨_, _, _, h⟩
  obtain ⟨a, len, cap, rfl⟩ := hcs
  obtain ⟨d, pl⟩ := x
  obtain ⟨l, rfl, hl, hm, hd⟩ := open_bytes (d := d) (p := pl) ⟨fuel, hf⟩
  refine ⟨⟨a, cap, l⟩, rfl, hl, hm, ?_, ?_⟩
  · rcases open_ints Tryd.underlying22 Tryd.underlying5 (by kernel_rfl) hf with ⟨h, hx⟩ | ⟨x, len', cap', zs, h, _, hl', _, hz, hx, _, _⟩
    · simp only [Prod.mk.injEq] at hx
      have h2 := hx.1
      subst h2
      simp only [List.cons.injEq, Value.slice.injEq, and_true] at h
      simp [Rows.uptoBulk, h.2.1]
    · simp only [Prod.mk.injEq] at hx
      have h2 := hx.1
      subst h2
      simp only [List.cons.injEq, Value.slice.injEq, and_true] at h
      have hz' : zs.length = cap' := by simpa using hz
      simp only [Rows.uptoBulk, bulk_lits, List.length_take, List.length_drop]
      show l.length + 1 ≤ _
      omega
  · rcases hd with ⟨_, rfl⟩ | ⟨elems, spare, rfl, h1, h2⟩
    · exact .inl rfl
    · right
      simp only [DataW.weights, Tryd.underlying22, bytes5]
      simp [h1]

/-- A slice of slices of bytes that came in reads as a list of pieces. -/
theorem open_rows {H : Type} {enc : TypeId × Value → H} {W : World} {a : Option Addr} {len cap : Nat} {d : DataW H} {p : List MemPlace} (h : DataW.Trod enc Tryd.prog W 0 (fun _ => true) true 36 (.slice a len cap) d p) :
    ∃ ps : List Piece, ps.length = len ∧ len ≤ cap ∧ (Row W W.heap.size a ps ∧ ∀ p ∈ ps, p.l.length ≤ p.c ∧ Mem W W.heap.size p.A p.l) ∧
      ((allB ps).length + ps.length ≤ Rows.uptoBulk d ∧ (cap * 24 = 0 ∨ cap * 24 ∈ DataW.weights Tryd.prog 36 d) ∧ ∀ p ∈ ps, p.c = 0 ∨ p.c ∈ DataW.weights Tryd.prog 36 d) := by
  obtain ⟨fuel, hf⟩ := h
  rcases open_slice Tryd.underlying36 hf with ⟨hcs, hx⟩ | ⟨x, len', cap', m, n, D, Pl, hcs, _, hl, hm, hmm, hx, hi⟩
  · simp [Value.cells] at hcs
    obtain ⟨rfl, rfl, rfl⟩ := hcs
    exact ⟨[], rfl, Nat.le_refl _, ⟨fun h => absurd h (by simp), fun p hp => by cases hp⟩, by simp [allB], .inl rfl, fun p hp => by cases hp⟩
  · simp [Value.cells] at hcs
    obtain ⟨rfl, rfl, rfl⟩ := hcs
    simp only [Prod.mk.injEq] at hx
    have hm' : m = cap := by simpa using hmm
    subst hm'
    have hall : ∀ i, ∃ p : Piece, i < len → (W.cell? (x.add i) = some p.val ∧ p.l.length ≤ p.c ∧ Mem W W.heap.size p.A p.l ∧ p.l.length + 1 ≤ Rows.uptoBulk (D i) ∧ (p.c = 0 ∨ p.c ∈ DataW.weights Tryd.prog 22 (D i))) := by
      intro i
      by_cases hlt : i < len
      · obtain ⟨cs', hc', ht'⟩ := hi i (by omega)
        obtain ⟨p, rfl, h1, h2, h3, h4⟩ := open_piece ht'
        obtain ⟨_, hlen, hcell⟩ := World.cells?_some hc'
        rw [cells22] at hcell
        have := hcell 0 (by omega)
        rw [Nat.mul_one] at this
        exact ⟨p, fun _ => ⟨by simpa [Addr.add] using this, h1, h2, h3, h4⟩⟩
      · exact ⟨⟨none, 0, []⟩, fun h => absurd h hlt⟩
    let f : Nat → Piece := fun i => Classical.choose (hall i)
    have hfs : ∀ i, i < len → (W.cell? (x.add i) = some (f i).val ∧ (f i).l.length ≤ (f i).c ∧ Mem W W.heap.size (f i).A (f i).l ∧ (f i).l.length + 1 ≤ Rows.uptoBulk (D i) ∧ ((f i).c = 0 ∨ (f i).c ∈ DataW.weights Tryd.prog 22 (D i))) := fun i hlt => Classical.choose_spec (hall i) hlt
    clear_value f
    have hsum : ∀ k, k ≤ len → (allB ((List.range k).map f)).length + k ≤ Rows.uptoBulkAll ((List.range k).map D) := by
      intro k
      induction k with
      | zero => intro _; simp [allB]
      | succ k ih =>
        intro hk
        have h1 := ih (by omega)
        have h2 := (hfs k (by omega)).2.2.2.1
        rw [List.range_succ, List.map_append, List.map_append, allB_app, List.length_append]
        have happ : ∀ (a b : List (DataW H)), Rows.uptoBulkAll (a ++ b) = Rows.uptoBulkAll a + Rows.uptoBulkAll b := by
          intro a b
          induction a with
          | nil => simp [Rows.uptoBulkAll]
          | cons y a iha => simp only [List.cons_append, Rows.uptoBulkAll, iha]; omega
        rw [happ]
        have e1 : allB (List.map f [k]) = (f k).l := by simp [allB]
        have e2 : Rows.uptoBulkAll (List.map D [k]) = Rows.uptoBulk (D k) := by simp [Rows.uptoBulkAll]
        rw [e1, e2]
        omega
    have hwa : ∀ (xs : List (DataW H)) (y : DataW H) (c : Nat), y ∈ xs → c ∈ DataW.weights Tryd.prog 22 y → c ∈ DataW.weightsAll Tryd.prog 22 xs := by
      intro xs y c hy hc
      induction xs with
      | nil => cases hy
      | cons z xs ih =>
        simp only [DataW.weightsAll, List.mem_append]
        cases List.mem_cons.1 hy with
        | inl e => subst e; exact .inl hc
        | inr e => exact .inr (ih e)
    obtain ⟨hd, _⟩ := hx
    subst hd
    refine ⟨(List.range len).map f, by simp, hl, ⟨fun hpos => ?_, fun p hp => ?_⟩, ?_, ?_, fun p hp => ?_⟩
    · obtain ⟨b, off, spot⟩ := x
      have hpos' : 0 < len := by simpa using hpos
      have hspot : spot = none := by simpa [Addr.add] using World.cell?_spot (hfs 0 hpos').1
      subst hspot
      have hrow : ∀ (j : Nat) (hj : j < ((List.range len).map f).length), W.cell? ⟨b, off + j, none⟩ = some ((List.range len).map f)[j].val := by
        intro j hj
        have hj' : j < len := by simpa using hj
        have := (hfs j hj').1
        rw [add_at] at this
        rw [this]
        simp
      refine ⟨b, off, rfl, ?_, hrow⟩
      have h0 := (hfs 0 hpos').1
      rcases Nat.lt_or_ge b W.heap.size with hlt | hge
      · exact hlt
      · simp [World.cell?, Addr.add, Array.getElem?_eq_none hge] at h0
    · obtain ⟨i, hi', rfl⟩ := List.mem_map.1 hp
      have := hfs i (by simpa using hi')
      exact ⟨this.2.1, this.2.2.1⟩
    · have := hsum len (Nat.le_refl _)
      simp only [Rows.uptoBulk, List.length_map, List.length_range]
      omega
    · right
      simp only [DataW.weights, Tryd.underlying36, bytes22]
      have : len + (m - len) = m := by omega
      simp [this]
    · obtain ⟨i, hi', rfl⟩ := List.mem_map.1 hp
      have hlt : i < len := by simpa using hi'
      rcases (hfs i hlt).2.2.2.2 with h0 | h0
      · exact .inl h0
      · right
        simp only [DataW.weights, Tryd.underlying36]
        have := hwa ((List.range len).map D) (D i) _ (List.mem_map.2 ⟨i, hi', rfl⟩) h0
        simp [this]

theorem weights_le {H : Type} {ts : List TypeId} {ds : List (DataW H)} (hsz : (DataW.weightsEach Tryd.prog ts ds).all (· ≤ reachBytes) = true) (j : Nat) {d : DataW H} {t : TypeId} (ht : ts[j]? = some t) (hd : ds[j]? = some d) {n : Nat} (h : n ∈ DataW.weights Tryd.prog t d) : n ≤ 140737488351232 := by
  have h2 := of_decide_eq_true (List.all_eq_true.1 hsz _ (DataW.weights_mem_each ht hd n h))
  simp only [reachBytes] at h2
  omega
/-- The form's own reach, of an argument that is a slice of slices of bytes. -/
theorem reach_rows {H : Type} {ts : List TypeId} {ds : List (DataW H)} (hsz : (DataW.weightsEach Tryd.prog ts ds).all (· ≤ reachBytes) = true) (j : Nat) {d : DataW H} {cap : Nat} {ps : List Piece} (ht : ts[j]? = some 36) (hd : ds[j]? = some d)
    (h : (allB ps).length + ps.length ≤ Rows.uptoBulk d ∧ (cap * 24 = 0 ∨ cap * 24 ∈ DataW.weights Tryd.prog 36 d) ∧ ∀ p ∈ ps, p.c = 0 ∨ p.c ∈ DataW.weights Tryd.prog 36 d) :
    cap * 24 ≤ 140737488351232 ∧ ∀ p ∈ ps, p.c ≤ 140737488351232 := by
  refine ⟨?_, fun p hp => ?_⟩
  · rcases h.2.1 with h0 | h0
    · omega
    · exact weights_le hsz j ht hd h0
  · rcases h.2.2 p hp with h0 | h0
    · omega
    · exact weights_le hsz j ht hd h0
theorem Rws.of {w : World} {A : Option Addr} {ps : List Piece} {R : Prop} (h : Row w w.heap.size A ps ∧ ∀ p ∈ ps, p.l.length ≤ p.c ∧ Mem w w.heap.size p.A p.l) (hc : R ∧ ∀ p ∈ ps, p.c ≤ 140737488351232) : Rws w w.heap.size A ps :=
  ⟨h.1, fun p hp => ⟨(h.2 p hp).1, by have h1 := (h.2 p hp).1; have h2 := hc.2 p hp; omega, (h.2 p hp).2⟩⟩
theorem length_le {H : Type} (l : List (DataW H)) : l.length ≤ Rows.uptoBulkAll l := by
  induction l with
  | nil => simp [Rows.uptoBulkAll]
  | cons x r ih => have := one_le x; simp only [Rows.uptoBulkAll, List.length_cons]; omega
theorem bulk_bytes {H : Type} {ds : List (DataW H)} (j : Nat) {d : DataW H} {cap len : Nat} {l : List UInt8} (hj : ds[j]? = some d) (hbk : Rows.uptoBulkAll ds ≤ 1048576) (hl : len ≤ cap)
    (hd : (d = .nil ∧ cap = 0) ∨ ∃ elems spare, d = .slice elems spare ∧ elems.length + spare.length = cap ∧ elems.length = len) (e : l.length = len) : l.length ≤ 1048576 := by
  rcases hd with ⟨_, rfl⟩ | ⟨elems, spare, rfl, _, h2⟩
  · omega
  · have h1 := part_le (List.mem_of_getElem? hj)
    have h3 := length_le elems
    simp only [Rows.uptoBulk] at h1
    omega
theorem bulk_rows {H : Type} {ds : List (DataW H)} (j : Nat) {d : DataW H} {cap : Nat} {ps : List Piece} (hj : ds[j]? = some d) (hbk : Rows.uptoBulkAll ds ≤ 1048576)
    (h : (allB ps).length + ps.length ≤ Rows.uptoBulk d ∧ (cap * 24 = 0 ∨ cap * 24 ∈ DataW.weights Tryd.prog 36 d) ∧ ∀ p ∈ ps, p.c = 0 ∨ p.c ∈ DataW.weights Tryd.prog 36 d) : (allB ps).length + ps.length ≤ 1048576 := by
  have h1 := part_le (List.mem_of_getElem? hj)
  have h2 := h.1
  omega
end Go.Proofs.YtmcjajeglmjghaaDoor
