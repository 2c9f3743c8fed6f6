/- The plain mathematics of XXH64 on lists of bytes: no program in sight. -/
import Derived.Lib.Endian
namespace Go.Proofs.YtmcjajeglmjghaaDoor

abbrev B64 := BitVec 64
def P1 : B64 := 11400714785074694791#64
def P2 : B64 := 14029467366897019727#64
def P3 : B64 := 1609587929392839161#64
def P4 : B64 := 9650029242287828579#64
def P5 : B64 := 2870177450012600261#64

def rol (x : B64) (n : Nat) : B64 := x.rotateLeft n
def rnd (acc lane : B64) : B64 := rol (acc + lane * P2) 31 * P1
def mrg (acc x : B64) : B64 := (acc ^^^ rnd 0 x) * P1 + P4
def eightF (acc lane : B64) : B64 := rol (acc ^^^ rnd 0 lane) 27 * P1 + P4
def halfF (acc lane : B64) : B64 := rol (acc ^^^ lane * P1) 23 * P2 + P3
def singleF (acc c : B64) : B64 := rol (acc ^^^ c * P5) 11 * P1
def mix1 (acc : B64) : B64 := (acc ^^^ acc >>> 33) * P2
def mix2 (acc : B64) : B64 := (acc ^^^ acc >>> 29) * P3
def mix3 (acc : B64) : B64 := acc ^^^ acc >>> 32
def endF (acc : B64) : B64 := mix3 (mix2 (mix1 acc))

def lane (l : List UInt8) : B64 := BitVec.ofNat 64 (Lib.leNat l)

structure St where
  v1 : B64
  v2 : B64
  v3 : B64
  v4 : B64

def St.init : St := ⟨P1 + P2, P2, 0, -P1⟩
def ln (l : List UInt8) (k : Nat) : B64 := lane ((l.drop k).take 8)
def step (s : St) (l : List UInt8) : St := ⟨rnd s.v1 (ln l 0), rnd s.v2 (ln l 8), rnd s.v3 (ln l 16), rnd s.v4 (ln l 24)⟩

def blocksN : Nat → St → List UInt8 → St
  | 0, s, _ => s
  | n + 1, s, l => blocksN n (step s l) (l.drop 32)

def conv (s : St) : B64 := mrg (mrg (mrg (mrg (rol s.v1 1 + rol s.v2 7 + rol s.v3 12 + rol s.v4 18) s.v1) s.v2) s.v3) s.v4

def eights : Nat → B64 → List UInt8 → B64
  | 0, h, _ => h
  | n + 1, h, l => eights n (eightF h (lane (l.take 8))) (l.drop 8)
def byteW (c : UInt8) : B64 := BitVec.ofNat 64 c.toNat
def singles (h : B64) (l : List UInt8) : B64 := l.foldl (fun a c => singleF a (byteW c)) h
def tail4 (h : B64) (l : List UInt8) : B64 := if 4 ≤ l.length then singles (halfF h (lane (l.take 4))) (l.drop 4) else singles h l
def tailF (h : B64) (l : List UInt8) : B64 := tail4 (eights (l.length / 8) h l) (l.drop (l.length / 8 * 8))

def startF (s : St) (total : Nat) : B64 := if 32 ≤ total then conv s else P5
def sumOf (s : St) (total : Nat) (rest : List UInt8) : B64 := endF (tailF (startF s total + BitVec.ofNat 64 total) rest)
def whole (l : List UInt8) : Nat := l.length / 32 * 32
def blocks (l : List UInt8) : St := blocksN (l.length / 32) .init l
def rest (l : List UInt8) : List UInt8 := l.drop (whole l)
def xxh (l : List UInt8) : B64 := sumOf (blocks l) l.length (rest l)

/-! ### blocks -/
theorem step_take (s : St) (l r : List UInt8) (h : 32 ≤ l.length) : step s (l ++ r) = step s l := by
  have e : ∀ k, k + 8 ≤ 32 → ln (l ++ r) k = ln l k := by
    intro k hk
    unfold ln
    rw [List.drop_append_of_le_length (by omega), List.take_append_of_le_length (by simp; omega)]
  simp [step, e]

theorem blocksN_add (m n : Nat) : ∀ (s : St) (l : List UInt8), blocksN (m + n) s l = blocksN n (blocksN m s l) (l.drop (32 * m)) := by
  induction m with
  | zero => intro s l; simp [blocksN]
  | succ m ih =>
    intro s l
    rw [Nat.add_right_comm]
    simp only [blocksN]
    rw [ih, List.drop_drop, show 32 + 32 * m = 32 * (m + 1) from by omega]

theorem blocksN_succ (m : Nat) (s : St) (l : List UInt8) : blocksN (m + 1) s l = step (blocksN m s l) (l.drop (32 * m)) := by
  rw [blocksN_add]; rfl

theorem blocksN_app (n : Nat) : ∀ (s : St) (l r : List UInt8), 32 * n ≤ l.length → blocksN n s (l ++ r) = blocksN n s l := by
  induction n with
  | zero => intros; rfl
  | succ n ih =>
    intro s l r h
    simp only [blocksN]
    rw [step_take _ _ _ (by omega), List.drop_append_of_le_length (by omega), ih _ _ _ (by simp; omega)]

theorem whole_le (l : List UInt8) : whole l ≤ l.length := by unfold whole; omega
theorem rest_length (l : List UInt8) : (rest l).length = l.length % 32 := by
  simp [rest, whole]; omega
theorem rest_lt (l : List UInt8) : (rest l).length < 32 := by rw [rest_length]; omega
theorem take_rest (l : List UInt8) : l.take (whole l) ++ rest l = l := List.take_append_drop _ _

/-- What a digest holds behind more bytes: all stripes of what was left and of the new bytes. -/
theorem blocks_app (l b : List UInt8) : blocks (l ++ b) = blocksN ((rest l ++ b).length / 32) (blocks l) (rest l ++ b) := by
  unfold blocks
  have e : (l ++ b).length / 32 = l.length / 32 + (rest l ++ b).length / 32 := by
    simp [rest_length]; omega
  rw [e, blocksN_add, blocksN_app _ _ _ _ (by omega)]
  congr 1
  rw [List.drop_append_of_le_length (by omega)]
  simp [rest, whole, Nat.mul_comm]

theorem rest_app (l b : List UInt8) : rest (l ++ b) = (rest l ++ b).drop ((rest l ++ b).length / 32 * 32) := by
  have e : whole (l ++ b) = whole l + (rest l ++ b).length / 32 * 32 := by
    simp [rest_length, whole]; omega
  conv => lhs; unfold rest
  rw [e, ← List.drop_drop, List.drop_append_of_le_length (whole_le l)]
  rfl

theorem blocks_short (l : List UInt8) (h : l.length < 32) : blocks l = .init := by
  unfold blocks; rw [Nat.div_eq_of_lt h]; rfl
theorem rest_short (l : List UInt8) (h : l.length < 32) : rest l = l := by
  unfold rest whole; rw [Nat.div_eq_of_lt h]; simp

/-! ### the tail -/
theorem eights_succ (n : Nat) : ∀ (h : B64) (l : List UInt8), eights (n + 1) h l = eightF (eights n h l) (lane ((l.drop (8 * n)).take 8)) := by
  induction n with
  | zero => intro h l; simp [eights]
  | succ n ih =>
    intro h l
    rw [eights, ih, eights, List.drop_drop]
    congr 4
    omega
theorem singles_snoc (h : B64) (l : List UInt8) (c : UInt8) : singles h (l ++ [c]) = singleF (singles h l) (byteW c) := by
  simp [singles]
theorem singles_cons (h : B64) (l : List UInt8) (c : UInt8) : singles h (c :: l) = singles (singleF h (byteW c)) l := rfl
theorem singles_app (h : B64) (l r : List UInt8) : singles h (l ++ r) = singles (singles h l) r := by simp [singles]


theorem tail_half (h : B64) (r : List UInt8) (k : Nat) (h1 : 8 * k ≤ r.length) (h2 : r.length < 8 * k + 8) (h3 : 8 * k + 4 ≤ r.length) :
    singles (halfF (eights k h r) (lane ((r.drop (8 * k)).take 4))) (r.drop (8 * k + 4)) = tailF h r := by
  have e : r.length / 8 = k := by omega
  unfold tailF tail4
  rw [e, if_pos (by simp; omega), Nat.mul_comm k 8, List.drop_drop]
theorem tail_none (h : B64) (r : List UInt8) (k : Nat) (h1 : 8 * k ≤ r.length) (h2 : r.length < 8 * k + 8) (h3 : r.length < 8 * k + 4) :
    singles (eights k h r) (r.drop (8 * k)) = tailF h r := by
  have e : r.length / 8 = k := by omega
  unfold tailF tail4
  rw [e, if_neg (by simp; omega), Nat.mul_comm k 8]

/-! ### each step can be undone -/
theorem rol_rol (x : B64) (a b : Nat) (h : a + b = 64) (ha : 0 < a) (hb : 0 < b) : rol (rol x a) b = x := by
  unfold rol
  ext i hi
  simp only [BitVec.getElem_rotateLeft]
  have e1 : a % 64 = a := Nat.mod_eq_of_lt (by omega)
  have e2 : b % 64 = b := Nat.mod_eq_of_lt (by omega)
  by_cases hc : i < b % 64
  · rw [dif_pos hc, dif_neg (by omega)]
    congr 1; omega
  · rw [dif_neg hc, dif_pos (by omega)]
    congr 1; omega
theorem rol_inj (n : Nat) (hn : 0 < n) (hn' : n < 64) {x y : B64} (h : rol x n = rol y n) : x = y := by
  have e := congrArg (fun z => rol z (64 - n)) h
  rwa [rol_rol _ _ _ (by omega) hn (by omega), rol_rol _ _ _ (by omega) hn (by omega)] at e

def I1 : B64 := 614540362697595703#64
def I2 : B64 := 839798700976720815#64
def I3 : B64 := 16855272203555305545#64
def I5 : B64 := 14236653164957433613#64
theorem P1I1 : P1 * I1 = 1 := by decide
theorem P2I2 : P2 * I2 = 1 := by decide
theorem P3I3 : P3 * I3 = 1 := by decide
theorem P5I5 : P5 * I5 = 1 := by decide

theorem mul_inj {p q : B64} (hp : p * q = 1) {x y : B64} (h : x * p = y * p) : x = y := by
  have e := congrArg (· * q) h
  simpa [BitVec.mul_assoc, hp] using e
theorem xor_inj {a x y : B64} (h : a ^^^ x = a ^^^ y) : x = y := by
  have e := congrArg (a ^^^ ·) h
  simpa [← BitVec.xor_assoc] using e
theorem xor_inj' {a x y : B64} (h : x ^^^ a = y ^^^ a) : x = y := by
  rw [BitVec.xor_comm x, BitVec.xor_comm y] at h; exact xor_inj h
theorem add_inj {a x y : B64} (h : x + a = y + a) : x = y := by
  have e := congrArg (· - a) h
  simpa using e

def unmix (x : B64) (n : Nat) : Nat → B64
  | 0 => x
  | k + 1 => x ^^^ unmix x n k >>> n
theorem mix_gone (x : B64) (a b : Nat) (h : 64 ≤ a + b) : x >>> a >>> b = 0#64 := by
  rw [← BitVec.shiftRight_add]
  apply BitVec.eq_of_toNat_eq
  simp [Nat.shiftRight_eq_div_pow]
  exact Nat.lt_of_lt_of_le x.isLt (Nat.pow_le_pow_right (by omega) h)
theorem xor4 (a b c : B64) : a ^^^ b ^^^ (b ^^^ c) = a ^^^ c := by
  rw [BitVec.xor_assoc, ← BitVec.xor_assoc b b c]; simp
theorem unmix33 (x : B64) : unmix x 33 1 ^^^ unmix x 33 1 >>> 33 = x := by
  simp only [unmix, BitVec.ushiftRight_xor_distrib]
  rw [xor4, mix_gone _ _ _ (by omega)]; simp
theorem xorCancel (a b : B64) : a ^^^ b ^^^ b = a := by rw [BitVec.xor_assoc]; simp
theorem unmix32 (x : B64) : unmix x 32 2 ^^^ unmix x 32 2 >>> 32 = x := by
  have e : unmix x 32 2 = x ^^^ x >>> 32 := by
    simp only [unmix, BitVec.ushiftRight_xor_distrib]
    rw [mix_gone x 32 32 (by omega), BitVec.xor_zero]
  rw [e, BitVec.ushiftRight_xor_distrib, mix_gone x 32 32 (by omega), BitVec.xor_zero, xorCancel]
theorem unmix29 (x : B64) : unmix x 29 2 ^^^ unmix x 29 2 >>> 29 = x := by
  have e : unmix x 29 2 = x ^^^ (x >>> 29 ^^^ x >>> 29 >>> 29) := by
    simp only [unmix, BitVec.ushiftRight_xor_distrib]
  rw [e, BitVec.ushiftRight_xor_distrib, BitVec.ushiftRight_xor_distrib, ← BitVec.shiftRight_add x 29 29, mix_gone x (29 + 29) 29 (by omega), BitVec.xor_zero, xorCancel]
theorem mix_inj (n k : Nat) (hu : ∀ x : B64, unmix (x ^^^ x >>> n) n k = x) {x y : B64} (h : x ^^^ x >>> n = y ^^^ y >>> n) : x = y := by
  rw [← hu x, h, hu y]
theorem mixed33 (x : B64) : unmix (x ^^^ x >>> 33) 33 1 = x := by
  simp only [unmix, BitVec.ushiftRight_xor_distrib]
  rw [xor4, mix_gone _ _ _ (by omega)]; simp
theorem mixed32 (x : B64) : unmix (x ^^^ x >>> 32) 32 2 = x := by
  simp only [unmix, BitVec.ushiftRight_xor_distrib]
  rw [mix_gone x 32 32 (by omega), BitVec.zero_ushiftRight, BitVec.xor_zero, BitVec.xor_zero, BitVec.xor_zero, xorCancel]
theorem mixed29 (x : B64) : unmix (x ^^^ x >>> 29) 29 2 = x := by
  simp only [unmix, BitVec.ushiftRight_xor_distrib]
  rw [← BitVec.shiftRight_add x 29 29, mix_gone x (29 + 29) 29 (by omega), BitVec.xor_zero]
  rw [xorCancel, xorCancel]
theorem endF_inj {x y : B64} (h : endF x = endF y) : x = y := by
  have h3 := mix_inj 32 2 mixed32 h
  have h2 := mix_inj 29 2 mixed29 (mul_inj P3I3 h3)
  exact mix_inj 33 1 mixed33 (mul_inj P2I2 h2)
theorem eightF_inj (l : B64) {x y : B64} (h : eightF x l = eightF y l) : x = y :=
  xor_inj' (rol_inj 27 (by omega) (by omega) (mul_inj P1I1 (add_inj h)))
theorem rnd_inj (a : B64) {x y : B64} (h : rnd a x = rnd a y) : x = y := by
  have h1 := rol_inj 31 (by omega) (by omega) (mul_inj P1I1 h)
  rw [BitVec.add_comm a, BitVec.add_comm a] at h1
  exact mul_inj P2I2 (add_inj h1)
theorem eightF_inj' (a : B64) {x y : B64} (h : eightF a x = eightF a y) : x = y :=
  rnd_inj 0 (xor_inj (rol_inj 27 (by omega) (by omega) (mul_inj P1I1 (add_inj h))))
theorem halfF_inj (l : B64) {x y : B64} (h : halfF x l = halfF y l) : x = y :=
  xor_inj' (rol_inj 23 (by omega) (by omega) (mul_inj P2I2 (add_inj h)))
theorem halfF_inj' (a : B64) {x y : B64} (h : halfF a x = halfF a y) : x = y :=
  mul_inj P1I1 (xor_inj (rol_inj 23 (by omega) (by omega) (mul_inj P2I2 (add_inj h))))
theorem singleF_inj (l : B64) {x y : B64} (h : singleF x l = singleF y l) : x = y :=
  xor_inj' (rol_inj 11 (by omega) (by omega) (mul_inj P1I1 h))
theorem singleF_inj' (a : B64) {x y : B64} (h : singleF a x = singleF a y) : x = y :=
  mul_inj P5I5 (xor_inj (rol_inj 11 (by omega) (by omega) (mul_inj P1I1 h)))
theorem singles_inj (l : List UInt8) : ∀ {x y : B64}, singles x l = singles y l → x = y := by
  induction l with
  | nil => intro x y h; exact h
  | cons c l ih => intro x y h; exact singleF_inj _ (ih h)
theorem eights_inj (n : Nat) : ∀ (l : List UInt8) {x y : B64}, eights n x l = eights n y l → x = y := by
  induction n with
  | zero => intro l x y h; exact h
  | succ n ih => intro l x y h; exact eightF_inj _ (ih _ h)
theorem tail4_inj (l : List UInt8) {x y : B64} (h : tail4 x l = tail4 y l) : x = y := by
  unfold tail4 at h
  split at h
  · exact halfF_inj _ (singles_inj _ h)
  · exact singles_inj _ h

/-! ### Forged -/
def forgedX (acc sum : B64) : B64 :=
  let x := unmix sum 32 2 * I3
  let x := unmix x 29 2 * I2
  let x := unmix x 33 1
  let x := rol ((x - P4) * I1) 37 ^^^ acc
  rol (x * I1) 33 * I2
theorem mul_back {p q : B64} (hp : p * q = 1) (x : B64) : x * q * p = x := by
  rw [BitVec.mul_assoc, BitVec.mul_comm q, hp]; simp
theorem forged_ok (acc sum : B64) : endF (eightF acc (forgedX acc sum)) = sum := by
  unfold endF mix3 mix2 mix1 eightF forgedX rnd
  simp only []
  rw [show ∀ z : B64, 0 + z = z from BitVec.zero_add, mul_back P2I2, rol_rol _ 33 31 (by omega) (by omega) (by omega), mul_back P1I1]
  rw [BitVec.xor_comm _ acc, ← BitVec.xor_assoc, BitVec.xor_self, BitVec.zero_xor]
  rw [rol_rol _ 37 27 (by omega) (by omega) (by omega), mul_back P1I1]
  rw [BitVec.sub_add_cancel, unmix33, mul_back P2I2, unmix29, mul_back P3I3, unmix32]
end Go.Proofs.YtmcjajeglmjghaaDoor
