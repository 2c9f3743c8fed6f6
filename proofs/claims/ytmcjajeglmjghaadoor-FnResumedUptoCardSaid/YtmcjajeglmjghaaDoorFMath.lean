/- The plain law of FnForged: eight bytes behind some others with which the sum is a given one. -/
import Derived.Test.YtmcjajeglmjghaaDoorApp
namespace Go.Proofs.YtmcjajeglmjghaaDoor

theorem eights_app (n : Nat) : ∀ (h : B64) (l r : List UInt8), 8 * n ≤ l.length → eights n h (l ++ r) = eights n h l := by
  induction n with
  | zero => intros; rfl
  | succ n ih =>
    intro h l r hl
    simp only [eights]
    rw [List.take_append_of_le_length (by omega), List.drop_append_of_le_length (by omega), ih _ _ _ (by simp; omega)]
/-- A number's first k bytes, the lowest one first. -/
def leB (x : B64) (k : Nat) : List UInt8 := (List.range k).map fun i => lowB (x >>> (8 * i))
theorem leB_length (x : B64) (k : Nat) : (leB x k).length = k := by simp [leB]
theorem leB_succ (x : B64) (k : Nat) : leB x (k + 1) = leB x k ++ [lowB (x >>> (8 * k))] := by simp [leB, List.range_succ]
theorem lowB_toNat (x : B64) : (lowB x).toNat = x.toNat % 256 := by
  unfold lowB; rw [UInt8.toNat_ofNat']
theorem leNat_leB (x : B64) (k : Nat) : Lib.leNat (leB x k) = x.toNat % 256 ^ k := by
  induction k with
  | zero => simp [leB, Lib.leNat, Nat.mod_one]
  | succ k ih =>
    have hsn : ∀ (l : List UInt8) (c : UInt8), Lib.leNat (l ++ [c]) = Lib.leNat l + c.toNat * 256 ^ l.length := leNat_snoc
    have e1 : (2 : Nat) ^ (8 * k) = 256 ^ k := by rw [Nat.pow_mul]
    have e2 : (256 : Nat) ^ (k + 1) = 256 ^ k * 256 := rfl
    rw [leB_succ, hsn, ih, leB_length, lowB_toNat, BitVec.toNat_ushiftRight, Nat.shiftRight_eq_div_pow, e1, e2, Nat.mod_mul, Nat.mul_comm (256 ^ k)]
theorem lane_leB (x : B64) : lane (leB x 8) = x := by
  unfold lane
  rw [leNat_leB]
  apply BitVec.eq_of_toNat_eq
  have := x.isLt
  rw [BitVec.toNat_ofNat]
  omega
def accF (l : List UInt8) : B64 := eights ((rest l).length / 8) (startF (blocks l) l.length + BitVec.ofNat 64 (l.length + 8)) (rest l)
theorem forged_sum (l : List UInt8) (s : B64) (h8 : l.length % 8 = 0) (h24 : l.length % 32 ≠ 24) : xxh (l ++ leB (forgedX (accF l) s) 8) = s := by
  obtain ⟨f, hf⟩ : ∃ f, leB (forgedX (accF l) s) 8 = f := ⟨_, rfl⟩
  have hfl : f.length = 8 := by rw [← hf, leB_length]
  have hlf : lane f = forgedX (accF l) s := by rw [← hf, lane_leB]
  rw [hf]
  have e1 : (l ++ f).length / 32 = l.length / 32 := by simp; omega
  have e2 : blocks (l ++ f) = blocks l := by
    unfold blocks; rw [e1, blocksN_app _ _ _ _ (by omega)]
  have e3 : rest (l ++ f) = rest l ++ f := by
    unfold rest whole; rw [e1, List.drop_append_of_le_length (by omega)]
  have e4 : startF (blocks l) (l ++ f).length = startF (blocks l) l.length := by
    unfold startF
    have hl : (l ++ f).length = l.length + 8 := by rw [List.length_append, hfl]
    by_cases h32 : 32 ≤ l.length
    · rw [if_pos h32, if_pos (by omega)]
    · rw [if_neg h32, if_neg (by omega)]
  have e5 : (l ++ f).length = l.length + 8 := by rw [List.length_append, hfl]
  unfold xxh sumOf
  rw [e2, e3, e4, e5]
  have hr8 : (rest l).length % 8 = 0 := by rw [rest_length]; omega
  unfold tailF
  have e6 : (rest l ++ f).length / 8 = (rest l).length / 8 + 1 := by rw [List.length_append, hfl]; omega
  rw [e6, eights_succ, eights_app _ _ _ _ (by omega)]
  have e7 : (rest l ++ f).drop (8 * ((rest l).length / 8)) = f := by
    rw [List.drop_append_of_le_length (by omega), List.drop_eq_nil_of_le (by omega), List.nil_append]
  have e8 : (rest l ++ f).drop (((rest l).length / 8 + 1) * 8) = [] := List.drop_eq_nil_of_le (by rw [List.length_append, hfl]; omega)
  rw [e7, e8, List.take_of_length_le (by omega), hlf]
  show endF (tail4 (eightF (accF l) (forgedX (accF l) s)) []) = s
  have e9 : ∀ h : B64, tail4 h [] = h := fun h => by simp [tail4, singles]
  rw [e9]
  exact forged_ok (accF l) s

/-- spec.inverse's steps. -/
def invI (x : B64) : Nat → B64
  | 0 => x
  | k + 1 => invI x k * (2 - x * invI x k)
theorem invI1 : invI P1 6 = I1 := by decide
theorem invI2 : invI P2 6 = I2 := by decide
theorem invI3 : invI P3 6 = I3 := by decide
end Go.Proofs.YtmcjajeglmjghaaDoor
