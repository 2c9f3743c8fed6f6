/- The plain law behind FnLane: two rows of bytes that differ in one lane behind the whole stripes have one sum only if they are the same. No program in sight. -/
import Derived.Test.YtmcjajeglmjghaaDoorFMath
namespace Go.Proofs.YtmcjajeglmjghaaDoor

theorem leNat_inj : ∀ (a b : List UInt8), a.length = b.length → Lib.leNat a = Lib.leNat b → a = b
  | [], [], _, _ => rfl
  | [], _ :: _, h, _ => by simp at h
  | _ :: _, [], h, _ => by simp at h
  | x :: a, y :: b, h, e => by
    simp only [Lib.leNat] at e
    have hx := x.toNat_lt
    have hy := y.toNat_lt
    have e1 : x.toNat = y.toNat := by omega
    have e2 : Lib.leNat a = Lib.leNat b := by omega
    rw [UInt8.toNat.inj e1, leNat_inj a b (by simpa using h) e2]
theorem lane_inj {a b : List UInt8} (hl : a.length = b.length) (h8 : a.length ≤ 8) (h : lane a = lane b) : a = b := by
  have ha : Lib.leNat a < 18446744073709551616 := Nat.lt_of_lt_of_le (leNat_lt a) (by
    have := Nat.pow_le_pow_right (n := 256) (by omega) h8
    simpa using this)
  have hb : Lib.leNat b < 18446744073709551616 := Nat.lt_of_lt_of_le (leNat_lt b) (by
    have := Nat.pow_le_pow_right (n := 256) (by omega) (hl ▸ h8)
    simpa using this)
  have e := congrArg BitVec.toNat h
  unfold lane at e
  rw [BitVec.toNat_ofNat, BitVec.toNat_ofNat, Nat.mod_eq_of_lt (by simpa using ha), Nat.mod_eq_of_lt (by simpa using hb)] at e
  exact leNat_inj a b hl e
theorem eights_add (m n : Nat) : ∀ (h : B64) (l : List UInt8), eights (m + n) h l = eights n (eights m h l) (l.drop (8 * m)) := by
  induction m with
  | zero => intro h l; simp [eights]
  | succ m ih =>
    intro h l
    rw [Nat.add_right_comm]
    simp only [eights]
    rw [ih, List.drop_drop, show 8 + 8 * m = 8 * (m + 1) from by omega]
theorem byteW_inj {a b : UInt8} (h : byteW a = byteW b) : a = b := by
  have ha := a.toNat_lt
  have hb := b.toNat_lt
  have e := congrArg BitVec.toNat h
  unfold byteW at e
  rw [BitVec.toNat_ofNat, BitVec.toNat_ofNat, Nat.mod_eq_of_lt (by omega), Nat.mod_eq_of_lt (by omega)] at e
  exact UInt8.toNat.inj e
theorem singles_one (h : B64) (p s : List UInt8) (a b : UInt8) (e : singles h (p ++ a :: s) = singles h (p ++ b :: s)) : a = b := by
  rw [singles_app, singles_app, singles_cons, singles_cons] at e
  exact byteW_inj (singleF_inj' _ (singles_inj _ e))

/-- A lane of the tail: r long, from f to t. -/
def LaneT (n f t : Nat) : Prop :=
  (∃ k, f = 8 * k ∧ t = f + 8 ∧ t ≤ n) ∨ (∃ k, f = 8 * k ∧ t = f + 4 ∧ t ≤ n ∧ n < f + 8) ∨
    (∃ k, t = f + 1 ∧ t ≤ n ∧ n < 8 * k + 8 ∧ 8 * k ≤ f ∧ (8 * k + 4 ≤ n → 8 * k + 4 ≤ f))

theorem tail_eight (h : B64) (p m1 m2 s : List UInt8) (k : Nat) (hp : p.length = 8 * k) (h1 : m1.length = 8) (h2 : m2.length = 8) (e : tailF h (p ++ (m1 ++ s)) = tailF h (p ++ (m2 ++ s))) : m1 = m2 := by
  have key : ∀ m : List UInt8, m.length = 8 → tailF h (p ++ (m ++ s)) = tail4 (eights (s.length / 8) (eightF (eights k h p) (lane m)) s) (s.drop (s.length / 8 * 8)) := by
    intro m hm
    unfold tailF
    have el : (p ++ (m ++ s)).length / 8 = k + 1 + s.length / 8 := by simp; omega
    rw [el, Nat.add_assoc k 1, eights_add, eights_app _ _ _ _ (by omega)]
    have ed : (p ++ (m ++ s)).drop (8 * k) = m ++ s := by rw [← hp]; simp
    rw [ed, Nat.add_comm 1, eights, List.take_append_of_le_length (by omega), List.take_of_length_le (by omega)]
    have e8 : (m ++ s).drop 8 = s := by rw [← hm]; simp
    rw [e8]
    have ed2 : (p ++ (m ++ s)).drop ((k + (s.length / 8 + 1)) * 8) = s.drop (s.length / 8 * 8) := by
      rw [show (k + (s.length / 8 + 1)) * 8 = p.length + (m.length + s.length / 8 * 8) from by omega, ← List.drop_drop]
      simp
    rw [ed2]
  rw [key m1 h1, key m2 h2] at e
  exact lane_inj (by omega) (by omega) (eightF_inj' _ (eights_inj _ _ (tail4_inj _ e)))
theorem tail_four (h : B64) (p m1 m2 s : List UInt8) (k : Nat) (hp : p.length = 8 * k) (h1 : m1.length = 4) (h2 : m2.length = 4) (hs : s.length < 4) (e : tailF h (p ++ (m1 ++ s)) = tailF h (p ++ (m2 ++ s))) : m1 = m2 := by
  have key : ∀ m : List UInt8, m.length = 4 → tailF h (p ++ (m ++ s)) = singles (halfF (eights k h p) (lane m)) s := by
    intro m hm
    rw [← tail_half h (p ++ (m ++ s)) k (by simp; omega) (by simp; omega) (by simp; omega), eights_app _ _ _ _ (by omega)]
    have ed : (p ++ (m ++ s)).drop (8 * k) = m ++ s := by rw [← hp]; simp
    rw [ed, List.take_append_of_le_length (by omega), List.take_of_length_le (by omega), ← List.drop_drop, ed]
    have e8 : (m ++ s).drop 4 = s := by rw [← hm]; simp
    rw [e8]
  rw [key m1 h1, key m2 h2] at e
  exact lane_inj (by omega) (by omega) (halfF_inj' _ (singles_inj _ e))
theorem tail_one (h : B64) (p s : List UInt8) (a b : UInt8) (k : Nat) (hp : 8 * k ≤ p.length) (hn : p.length + 1 + s.length < 8 * k + 8) (h4 : 8 * k + 4 ≤ p.length + 1 + s.length → 8 * k + 4 ≤ p.length) (e : tailF h (p ++ a :: s) = tailF h (p ++ b :: s)) : a = b := by
  by_cases hc : 8 * k + 4 ≤ p.length + 1 + s.length
  · have h4' := h4 hc
    have key : ∀ c : UInt8, tailF h (p ++ c :: s) = singles (halfF (eights k h p) (lane ((p.drop (8 * k)).take 4))) (p.drop (8 * k + 4) ++ c :: s) := by
      intro c
      rw [← tail_half h (p ++ c :: s) k (by simp; omega) (by simp; omega) (by simp; omega), eights_app _ _ _ _ (by omega)]
      rw [List.drop_append_of_le_length (by omega), List.take_append_of_le_length (by simp; omega), List.drop_append_of_le_length (by omega)]
    rw [key a, key b] at e
    exact singles_one _ _ _ _ _ e
  · have key : ∀ c : UInt8, tailF h (p ++ c :: s) = singles (eights k h p) (p.drop (8 * k) ++ c :: s) := by
      intro c
      rw [← tail_none h (p ++ c :: s) k (by simp; omega) (by simp; omega) (by simp; omega), eights_app _ _ _ _ (by omega), List.drop_append_of_le_length (by omega)]
    rw [key a, key b] at e
    exact singles_one _ _ _ _ _ e

/-- A lane behind the whole stripes of n bytes: from f to t. -/
def LaneAt (n f t : Nat) : Prop := n / 32 * 32 ≤ f ∧ LaneT (n % 32) (f - n / 32 * 32) (t - n / 32 * 32) ∧ f ≤ t
theorem LaneAt.le {n f t : Nat} (h : LaneAt n f t) : f ≤ t ∧ t ≤ n ∧ t ≤ f + 8 := by
  obtain ⟨h1, h2, h3⟩ := h
  rcases h2 with ⟨k, a, b, c⟩ | ⟨k, a, b, c, d⟩ | ⟨k, a, b, c, d, e⟩ <;> omega
theorem tail_lane (h : B64) (r1 r2 : List UInt8) (f t : Nat) (hl : r1.length = r2.length) (hL : LaneT r1.length f t) (ht : r1.take f = r2.take f) (hd : r1.drop t = r2.drop t) (e : tailF h r1 = tailF h r2) : r1 = r2 := by
  have cut : ∀ (r : List UInt8), f ≤ t → r = r.take f ++ ((r.drop f).take (t - f) ++ r.drop t) := by
    intro r hft
    have e1 : r.drop t = (r.drop f).drop (t - f) := by rw [List.drop_drop]; congr 1; omega
    rw [e1, List.take_append_drop, List.take_append_drop]
  have hft : f ≤ t := by rcases hL with ⟨k, a, b, c⟩ | ⟨k, a, b, c, d⟩ | ⟨k, a, b, c, d, e⟩ <;> omega
  have c1 := cut r1 hft
  have c2 := cut r2 hft
  rw [← ht, ← hd] at c2
  have hm : (r1.drop f).take (t - f) = (r2.drop f).take (t - f) := by
    rcases hL with ⟨k, a, b, c⟩ | ⟨k, a, b, c, d⟩ | ⟨k, a, b, c, d, e4⟩
    · rw [c1, c2] at e
      exact tail_eight h _ _ _ _ k (by simp; omega) (by simp; omega) (by simp; omega) e
    · rw [c1, c2] at e
      exact tail_four h _ _ _ _ k (by simp; omega) (by simp; omega) (by simp; omega) (by simp; omega) e
    · have one : ∀ r : List UInt8, r.length = r1.length → ∃ x, (r.drop f).take (t - f) = [x] := by
        intro r hr
        have hlen : ((r.drop f).take (t - f)).length = 1 := by simp; omega
        exact List.length_eq_one_iff.1 hlen
      obtain ⟨x, hx⟩ := one r1 rfl
      obtain ⟨y, hy⟩ := one r2 hl.symm
      rw [hx] at c1
      rw [hy] at c2
      rw [hx, hy]
      rw [c1, c2] at e
      rw [tail_one h _ _ x y k (by simp; omega) (by simp; omega) (by simp; omega) e]
  rw [hm] at c1
  exact c1.trans c2.symm
theorem lane_law (l1 l2 : List UInt8) (f t : Nat) (hl : l1.length = l2.length) (hL : LaneAt l1.length f t) (ht : l1.take f = l2.take f) (hd : l1.drop t = l2.drop t) (e : xxh l1 = xxh l2) : l1 = l2 := by
  obtain ⟨hw, hT, hft⟩ := hL
  have hW : whole l1 ≤ f := hw
  have htw : l1.take (whole l1) = l2.take (whole l1) := by
    have := congrArg (List.take (whole l1)) ht
    rwa [List.take_take, List.take_take, Nat.min_eq_left hW] at this
  have hwe : whole l2 = whole l1 := by unfold whole; rw [hl]
  have hb : blocks l1 = blocks l2 := by
    have k : ∀ l : List UInt8, blocks l = blocksN (l.length / 32) .init (l.take (whole l)) := by
      intro l
      unfold blocks
      conv => lhs; rw [← List.take_append_drop (whole l) l]
      rw [List.take_append_drop]
      conv => lhs; rw [← List.take_append_drop (whole l) l]
      rw [List.length_append, List.length_take, List.length_drop, blocksN_app]
      · congr 1; have := whole_le l; omega
      · simp [whole]; omega
    rw [k l1, k l2, hwe, htw, hl]
  unfold xxh sumOf at e
  rw [hb, hl] at e
  have e2 := endF_inj e
  have hr : rest l1 = rest l2 := by
    refine tail_lane _ (rest l1) (rest l2) (f - whole l1) (t - whole l1) (by rw [rest_length, rest_length, hl]) (by rw [rest_length]; exact hT) ?_ ?_ e2
    · have := congrArg (List.drop (whole l1)) ht
      rw [List.drop_take, List.drop_take] at this
      unfold rest
      rw [hwe]
      exact this
    · unfold rest
      rw [hwe, List.drop_drop, List.drop_drop, show whole l1 + (t - whole l1) = t from by omega]
      exact hd
  rw [← take_rest l1, ← take_rest l2, hr, hwe, htw]

/-- The bytes from f on, k of them, each xor another. -/
def xorL (l : List UInt8) (f : Nat) (c : Nat → UInt8) : Nat → List UInt8
  | 0 => l
  | k + 1 => (xorL l f c k).set (f + k) ((xorL l f c k)[f + k]?.getD 0 ^^^ c k)
/-- Is one of the first k not 0? -/
def chg (c : Nat → UInt8) : Nat → Bool
  | 0 => false
  | k + 1 => chg c k || c k != 0
theorem xorL_length (l : List UInt8) (f : Nat) (c : Nat → UInt8) (k : Nat) : (xorL l f c k).length = l.length := by
  induction k with
  | zero => rfl
  | succ k ih => simp [xorL, ih]
theorem xorL_take (l : List UInt8) (f : Nat) (c : Nat → UInt8) (k : Nat) : (xorL l f c k).take f = l.take f := by
  induction k with
  | zero => rfl
  | succ k ih => rw [xorL, List.take_set_of_le (by omega), ih]
theorem xorL_drop (l : List UInt8) (f : Nat) (c : Nat → UInt8) (k : Nat) : (xorL l f c k).drop (f + k) = l.drop (f + k) := by
  induction k with
  | zero => rfl
  | succ k ih =>
    rw [xorL, List.drop_set_of_lt (by omega), ← Nat.add_assoc, ← List.drop_drop, ih, List.drop_drop]
theorem xorL_same (l : List UInt8) (f : Nat) (c : Nat → UInt8) (k : Nat) (hk : f + k ≤ l.length) : xorL l f c k = l ↔ chg c k = false := by
  induction k with
  | zero => simp [xorL, chg]
  | succ k ih =>
    have ih := ih (by omega)
    have hlen := xorL_length l f c k
    constructor
    · intro h
      have h1 : xorL l f c k = l := by
        have h2 := congrArg (List.take (f + k)) h
        rw [xorL, List.take_set_of_le (by omega)] at h2
        rw [← List.take_append_drop (f + k) (xorL l f c k), h2, xorL_drop, List.take_append_drop]
      have h3 := congrArg (fun z => z[f + k]?.getD 0) h
      simp only [xorL, h1] at h3
      rw [List.getElem?_set_self (by omega)] at h3
      simp only [Option.getD_some] at h3
      have h4 : c k = 0 := by
        have h5 := congrArg (fun z => l[f + k]?.getD 0 ^^^ z) h3
        simpa [← UInt8.xor_assoc] using h5
      simp [chg, ih.1 h1, h4]
    · intro h
      simp only [chg, Bool.or_eq_false_iff] at h
      have h1 := ih.2 h.1
      have h2 : c k = 0 := by simpa using h.2
      rw [xorL, h1, h2, UInt8.xor_zero]
      apply List.ext_getElem (by simp)
      intro i hi1 hi2
      rw [List.getElem_set]
      split
      · subst_vars
        rw [List.getElem?_eq_getElem hi2]
        rfl
      · rfl
/-- The law: the sum is another one just if a byte of the lane is. -/
theorem lane_changed (l : List UInt8) (f t : Nat) (c : Nat → UInt8) (hL : LaneAt l.length f t) : (xxh (xorL l f c (t - f)) ≠ xxh l) ↔ chg c (t - f) = true := by
  obtain ⟨h1, h2, h3⟩ := hL.le
  have hs := xorL_same l f c (t - f) (by omega)
  constructor
  · intro hne
    cases hc : chg c (t - f) with
    | true => rfl
    | false => rw [hs.2 hc] at hne; exact absurd rfl hne
  · intro hc he
    have he2 := lane_law _ _ f t (xorL_length l f c (t - f)) (by rw [xorL_length]; exact hL) (xorL_take l f c (t - f)) (by
      have := xorL_drop l f c (t - f)
      rwa [show f + (t - f) = t from by omega] at this) he
    rw [hs.1 he2] at hc
    exact Bool.noConfusion hc
end Go.Proofs.YtmcjajeglmjghaaDoor
