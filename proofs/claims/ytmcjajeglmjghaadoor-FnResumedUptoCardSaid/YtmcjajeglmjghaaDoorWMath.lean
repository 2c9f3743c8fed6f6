/- What Write computes, in plain words. -/
import Derived.Test.YtmcjajeglmjghaaDoorDig
namespace Go.Proofs.YtmcjajeglmjghaaDoor
/-! ### what Write computes, in plain words -/
theorem total_app (l b : List UInt8) : BitVec.ofNat 64 l.length + BitVec.ofNat 64 b.length = BitVec.ofNat 64 (l ++ b).length := by
  rw [List.length_append, BitVec.ofNat_add]
theorem small_ok (l b m : List UInt8) (hm : m.take (l.length % 32) = rest l) (hs : l.length % 32 + b.length < 32) :
    blocks (l ++ b) = blocks l ∧ (l ++ b).length % 32 = l.length % 32 + b.length ∧ (over m (l.length % 32) b).take (l.length % 32 + b.length) = rest (l ++ b) := by
  have e : (rest l ++ b).length / 32 = 0 := by simp [rest_length]; omega
  refine ⟨?_, ?_, ?_⟩
  · rw [blocks_app, e]; rfl
  · simp; omega
  · rw [rest_app, e, Nat.zero_mul, List.drop_zero]
    unfold over
    rw [hm, ← List.append_assoc, List.take_append_of_le_length (by simp [rest_length]), List.take_of_length_le (by simp [rest_length])]
theorem fill_ok (l b : List UInt8) (h0 : 0 < l.length % 32) (hs : 32 ≤ l.length % 32 + b.length) :
    (l ++ b.take (32 - l.length % 32)).length % 32 = 0 ∧ (l ++ b.take (32 - l.length % 32)) ++ b.drop (32 - l.length % 32) = l ++ b ∧
    blocks (l ++ b.take (32 - l.length % 32)) = step (blocks l) (rest l ++ b.take (32 - l.length % 32)) := by
  refine ⟨?_, by simp, ?_⟩
  · simp; omega
  · rw [blocks_app]
    have e : (rest l ++ b.take (32 - l.length % 32)).length / 32 = 1 := by simp [rest_length]; omega
    rw [e]; rfl
theorem end_ok (l b m : List UInt8) (h : l.length % 32 = 0) :
    blocks (l ++ b) = blocksN (b.length / 32) (blocks l) b ∧ (l ++ b).length % 32 = (b.drop (whole b)).length ∧ (over m 0 (b.drop (whole b))).take (b.drop (whole b)).length = rest (l ++ b) := by
  have er : rest l = [] := List.eq_nil_of_length_eq_zero (by rw [rest_length]; exact h)
  refine ⟨?_, ?_, ?_⟩
  · rw [blocks_app, er]; rfl
  · have := rest_length b; unfold rest at this; rw [this]; simp; omega
  · rw [rest_app, er]
    unfold over
    simp [whole]
end Go.Proofs.YtmcjajeglmjghaaDoor
