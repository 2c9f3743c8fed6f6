/- A slice of bytes with room for 76: what is appended goes into the same block, and the rest stays 0. appendUint64 onto such a slice. -/
import Derived.Test.YtmcjajeglmjghaaDoorPutA
import Derived.Lib.AppendStr
namespace Go.Proofs.YtmcjajeglmjghaaDoor
open Go.RowKit

/-- 76 bytes: the given ones, and 0 behind them. -/
def pad (l : List UInt8) : List UInt8 := l ++ List.replicate (76 - l.length) 0
theorem pad_length {l : List UInt8} (h : l.length ≤ 76) : (pad l).length = 76 := by simp [pad]; omega
theorem pad_app (l b : List UInt8) : (pad l).take l.length ++ b ++ (pad l).drop (l.length + b.length) = pad (l ++ b) := by
  unfold pad
  rw [List.take_left, List.append_assoc, List.append_assoc]
  congr 2
  rw [← List.drop_drop, List.drop_left, List.drop_replicate, List.length_append, Nat.sub_sub]
/-- Block g has room for 76 bytes, of which the first are l. -/
def Room (w : World) (g : Nat) (l : List UInt8) : Prop := l.length ≤ 76 ∧ w.heap[g]? = some (.cells ((pad l).map byteV).toArray 5 (0, 0))
theorem Room.lt {w : World} {g : Nat} {l : List UInt8} (h : Room w g l) : g < w.heap.size := row_lt h.2
theorem Room.keep {w w' : World} {g : Nat} {l : List UInt8} (h : Room w g l) (hk : w'.heap[g]? = w.heap[g]?) : Room w' g l := ⟨h.1, hk.trans h.2⟩
theorem Room.only {w w' : World} {g : Nat} {l : List UInt8} (h : Room w g l) {E : Nat} (ho : Only E w w') (hE : g ≠ E) : Room w' g l := h.keep (ho.block g h.lt (by intro e; injection e with e; exact hE e))
theorem Room.bytes {w : World} {g : Nat} {l : List UInt8} (h : Room w g l) : Bytes w g 0 (pad l) := fun j hj => by
  rw [cell_of_row _ _ _ _ _ _ h.2, Nat.zero_add]
  simp [hj, byteV]
theorem map_cut (l b : List UInt8) (n m : Nat) : ((l.map byteV).take n ++ b.map byteV ++ (l.map byteV).drop m) = (l.take n ++ b ++ l.drop m).map byteV := by simp
theorem Room.after {w : World} {g : Nat} {l b : List UInt8} (h : Room w g l) (hb : l.length + b.length ≤ 76) :
    Room (w.setRow g ((((pad l).map byteV).toArray).toList.take l.length ++ b.map byteV ++ (((pad l).map byteV).toArray).toList.drop (l.length + b.length)).toArray) g (l ++ b) := by
  refine ⟨by simpa using hb, ?_⟩
  rw [setRow_heap w g _ _ 5 _ h.2, List.toList_toArray, map_cut, pad_app]
/-- append(v, b...) where there is room. -/
theorem run_append_pad (w : World) (g ty : Nat) (l : List UInt8) (h : Room w g l) (B : Nat) (A : Option Addr) (b : List UInt8) (c : Nat) (hm : Mem w B A b) (hb : l.length + b.length ≤ 76) :
    ∃ w', (Builtin.append_ #[22, 22] ty #[.slice (some ⟨g, 0, none⟩) l.length 76, .slice A b.length c]).run Tryd.prog w = .ok (.slice (some ⟨g, 0, none⟩) (l.length + b.length) 76) w' ∧ Room w' g (l ++ b) ∧ Only g w w' := by
  obtain ⟨i0, hi0, hz0, hz1, hz2⟩ := info_parts info5
  have hl76 := h.1
  have hcase : (A = none ∧ b = []) ∨ ∃ ad, A = some ad ∧ ∀ j u, (b.map byteV)[j]? = some u → w.cell? (ad.add j) = some u := by
    by_cases hb0 : 0 < b.length
    · obtain ⟨g', o, rfl, _, hby⟩ := hm hb0
      refine .inr ⟨_, rfl, fun j u hu => ?_⟩
      rw [List.getElem?_map] at hu
      obtain ⟨x, hx, rfl⟩ := Option.map_eq_some_iff.1 hu
      obtain ⟨hj, rfl⟩ := List.getElem?_eq_some_iff.1 hx
      rw [add_at]
      exact hby j hj
    · have e : b = [] := List.eq_nil_of_length_eq_zero (by omega)
      subst e
      cases A with
      | none => exact .inl ⟨rfl, rfl⟩
      | some ad => exact .inr ⟨ad, rfl, fun j u hu => by simp at hu⟩
  rcases hcase with ⟨rfl, rfl⟩ | ⟨ad, rfl, hcells⟩
  · refine ⟨w, ?_, by simpa using h, Only.refl _ _⟩
    simp [Builtin.append_, run_underlying Tryd.underlying22, sizeOf, typeInfo, hi0, Builtin.lenOf, Builtin.firstCells, hl76, storeCells]
  · have hr := run_append_room (P := Tryd.prog) w 22 ty 5 i0 Tryd.underlying22 hi0 g l.length 76 _ h.2 ad b.length c (b.map byteV) (by rw [hz1]; simp) hcells byteV_one hb (by rw [hz1]; simp [pad_length h.1]; omega)
    rw [hz1] at hr
    simp only [Nat.mul_one, List.length_map] at hr
    exact ⟨_, hr, h.after hb, (Only.refl g w).setRow _⟩
/-- append(v, s...), s a string, where there is room. -/
theorem run_append_pad_string (w : World) (g ty : Nat) (l : List UInt8) (h : Room w g l) (s : ByteArray) (b : List UInt8) (hs : s.data.toList = b) (hb : l.length + b.length ≤ 76) :
    ∃ w', (Builtin.append_ #[22, 9] ty #[.slice (some ⟨g, 0, none⟩) l.length 76, .string s]).run Tryd.prog w = .ok (.slice (some ⟨g, 0, none⟩) (l.length + b.length) 76) w' ∧ Room w' g (l ++ b) ∧ Only g w w' := by
  obtain ⟨i0, hi0, hz0, hz1, hz2⟩ := info_parts info5
  have hsz : s.size = b.length := by rw [← hs, Array.length_toList]; rfl
  have hr := Lib.run_append_room_string (P := Tryd.prog) w 22 9 ty 5 i0 Tryd.underlying22 Tryd.underlying9 hi0 hz1 g l.length 76 _ h.2 s (by omega) (by simp [pad_length h.1]; omega)
  have hc : Lib.strCells s = b.map byteV := by unfold Lib.strCells; rw [hs]; rfl
  rw [hsz, hc] at hr
  exact ⟨_, hr, h.after hb, (Only.refl g w).setRow _⟩
end Go.Proofs.YtmcjajeglmjghaaDoor
