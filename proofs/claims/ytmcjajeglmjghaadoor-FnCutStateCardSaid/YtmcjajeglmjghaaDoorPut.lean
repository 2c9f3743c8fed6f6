/- The writer of numbers in little-endian form (after the kit's worked proof of it, turned to this program), and appendUint64. -/
import Derived.Test.YtmcjajeglmjghaaDoorFMath
import Derived.Laws.OwnMore
namespace Go.Proofs.YtmcjajeglmjghaaDoor
open Go.RowKit

theorem leB8 (x : B64) : leB x 8 = [lowB x, lowB (x >>> 8), lowB (x >>> 16), lowB (x >>> 24), lowB (x >>> 32), lowB (x >>> 40), lowB (x >>> 48), lowB (x >>> 56)] := by
  show [lowB (x >>> 0), lowB (x >>> 8), lowB (x >>> 16), lowB (x >>> 24), lowB (x >>> 32), lowB (x >>> 40), lowB (x >>> 48), lowB (x >>> 56)] = _
  rw [BitVec.ushiftRight_zero]
theorem put_row (W : World) (X : Nat) (T : TypeId) (z b0 b1 b2 b3 b4 b5 b6 b7 : Value) (h : W.heap[X]? = some (.cells #[z, z, z, z, z, z, z, z] T (0, 0))) :
    ((((((((W.setCell ⟨X, 0, none⟩ b0).setCell ⟨X, 1, none⟩ b1).setCell ⟨X, 2, none⟩ b2).setCell ⟨X, 3, none⟩ b3).setCell ⟨X, 4, none⟩ b4).setCell ⟨X, 5, none⟩ b5).setCell ⟨X, 6, none⟩ b6).setCell ⟨X, 7, none⟩ b7).heap[X]? = some (.cells #[b0, b1, b2, b3, b4, b5, b6, b7] T (0, 0)) := by
  have h0 := heap_setCell_same _ X 0 _ T b0 h
  rw [show (#[z, z, z, z, z, z, z, z] : Array Value).setIfInBounds 0 b0 = #[b0, z, z, z, z, z, z, z] from rfl] at h0
  have h1 := heap_setCell_same _ X 1 _ T b1 h0
  rw [show (#[b0, z, z, z, z, z, z, z] : Array Value).setIfInBounds 1 b1 = #[b0, b1, z, z, z, z, z, z] from rfl] at h1
  have h2 := heap_setCell_same _ X 2 _ T b2 h1
  rw [show (#[b0, b1, z, z, z, z, z, z] : Array Value).setIfInBounds 2 b2 = #[b0, b1, b2, z, z, z, z, z] from rfl] at h2
  have h3 := heap_setCell_same _ X 3 _ T b3 h2
  rw [show (#[b0, b1, b2, z, z, z, z, z] : Array Value).setIfInBounds 3 b3 = #[b0, b1, b2, b3, z, z, z, z] from rfl] at h3
  have h4 := heap_setCell_same _ X 4 _ T b4 h3
  rw [show (#[b0, b1, b2, b3, z, z, z, z] : Array Value).setIfInBounds 4 b4 = #[b0, b1, b2, b3, b4, z, z, z] from rfl] at h4
  have h5 := heap_setCell_same _ X 5 _ T b5 h4
  rw [show (#[b0, b1, b2, b3, b4, z, z, z] : Array Value).setIfInBounds 5 b5 = #[b0, b1, b2, b3, b4, b5, z, z] from rfl] at h5
  have h6 := heap_setCell_same _ X 6 _ T b6 h5
  rw [show (#[b0, b1, b2, b3, b4, b5, z, z] : Array Value).setIfInBounds 6 b6 = #[b0, b1, b2, b3, b4, b5, b6, z] from rfl] at h6
  have h7 := heap_setCell_same _ X 7 _ T b7 h6
  rw [show (#[b0, b1, b2, b3, b4, b5, b6, z] : Array Value).setIfInBounds 7 b7 = #[b0, b1, b2, b3, b4, b5, b6, b7] from rfl] at h7
  exact h7
section
attribute [local go_sem] u_low u_shr56 u_shr48 u_shr40 u_shr32 u_shr24 u_shr16 u_shr8 u_id
set_option maxHeartbeats 8000000 in
set_option maxRecDepth 100000 in
theorem put64 (X : Nat) (T : TypeId) (z : Value) (x : B64) (w : World) (hX : w.heap[X]? = some (.cells #[z, z, z, z, z, z, z, z] T (0, 0))) :
    Calls Tryd.prog 76 #[.agg #[], .slice (some ⟨X, 0, none⟩) 8 8, .int .u64 (U x)] w fun e w' => e = .returned (.tuple #[]) ∧ w'.heap[X]? = some (.cells ((leB x 8).map byteV).toArray T (0, 0)) ∧ Only X w w' := by
  have hX1 : (w.alloc (.cells #[] 86)).heap[X]? = some (.cells #[z, z, z, z, z, z, z, z] T (0, 0)) := (Below.heap_alloc w _ X (by
    rcases Nat.lt_or_ge X w.heap.size with hlt | hge
    · exact hlt
    · rw [Array.getElem?_eq_none hge] at hX; cases hX)).trans hX
  have d0 : (w.alloc (.cells #[] 86)).cell? ⟨X, 0, none⟩ = some z := by rw [cell_of_row _ X 0 _ _ _ hX1]; rfl
  have d1 : (w.alloc (.cells #[] 86)).cell? ⟨X, 1, none⟩ = some z := by rw [cell_of_row _ X 1 _ _ _ hX1]; rfl
  have d2 : (w.alloc (.cells #[] 86)).cell? ⟨X, 2, none⟩ = some z := by rw [cell_of_row _ X 2 _ _ _ hX1]; rfl
  have d3 : (w.alloc (.cells #[] 86)).cell? ⟨X, 3, none⟩ = some z := by rw [cell_of_row _ X 3 _ _ _ hX1]; rfl
  have d4 : (w.alloc (.cells #[] 86)).cell? ⟨X, 4, none⟩ = some z := by rw [cell_of_row _ X 4 _ _ _ hX1]; rfl
  have d5 : (w.alloc (.cells #[] 86)).cell? ⟨X, 5, none⟩ = some z := by rw [cell_of_row _ X 5 _ _ _ hX1]; rfl
  have d6 : (w.alloc (.cells #[] 86)).cell? ⟨X, 6, none⟩ = some z := by rw [cell_of_row _ X 6 _ _ _ hX1]; rfl
  have d7 : (w.alloc (.cells #[] 86)).cell? ⟨X, 7, none⟩ = some z := by rw [cell_of_row _ X 7 _ _ _ hX1]; rfl
  have f0 := frozen_of_row _ X 0 _ T hX1
  have f1 := frozen_of_row _ X 1 _ T hX1
  have f2 := frozen_of_row _ X 2 _ T hX1
  have f3 := frozen_of_row _ X 3 _ T hX1
  have f4 := frozen_of_row _ X 4 _ T hX1
  have f5 := frozen_of_row _ X 5 _ T hX1
  have f6 := frozen_of_row _ X 6 _ T hX1
  have f7 := frozen_of_row _ X 7 _ T hX1
  have HX := Lib.hid hX1
  clear hX hX1
  go_enter Tryd.func76, Tryd.ntmps76
  go_wp2
  go_end0
  refine ⟨rfl, ?_, ?_⟩
  · have e : ((leB x 8).map byteV).toArray = #[Value.int .u8 ((lowB x).toNat : Int), Value.int .u8 ((lowB (x >>> 8)).toNat : Int), Value.int .u8 ((lowB (x >>> 16)).toNat : Int), Value.int .u8 ((lowB (x >>> 24)).toNat : Int), Value.int .u8 ((lowB (x >>> 32)).toNat : Int), Value.int .u8 ((lowB (x >>> 40)).toNat : Int), Value.int .u8 ((lowB (x >>> 48)).toNat : Int), Value.int .u8 ((lowB (x >>> 56)).toNat : Int)] := by rw [leB8]; rfl
    rw [e]
    exact put_row _ X T z _ _ _ _ _ _ _ _ HX.out
  · exact (((((((((Only.refl X w).alloc _).setCell _ _).setCell _ _).setCell _ _).setCell _ _).setCell _ _).setCell _ _).setCell _ _).setCell _ _
end
end Go.Proofs.YtmcjajeglmjghaaDoor
