/- The contracts of the small functions that only compute: the turns, the rounds, the steps of the tail, the mix at the end. -/
import Derived.Test.YtmcjajeglmjghaaDoorProg
import Derived.Test.YtmcjajeglmjghaaDoorMath
import Derived.WalkKit
import Derived.Outline
import Derived.WalkLawsBesides
import Derived.Laws.BitsAllLaws
import Derived.Deep.QuietTactic
import Derived.BigQuiet
namespace Go.Proofs.YtmcjajeglmjghaaDoor
open Go.RowKit

/-! ### uint64 in the walk -/
/-- A word as the number that the walk shows. A plain definition: the walk's simp does not look behind it. -/
def U (x : B64) : Int := x.toNat
theorem U_nonneg (x : B64) : 0 ≤ U x := by unfold U; omega
theorem U_lt (x : B64) : U x < 18446744073709551616 := by unfold U; have := x.isLt; omega
theorem U_ofNat (n : Nat) (h : n < 18446744073709551616) : U (BitVec.ofNat 64 n) = n := by
  unfold U; rw [BitVec.toNat_ofNat, Nat.mod_eq_of_lt h]
theorem U_inj {x y : B64} : U x = U y ↔ x = y := by
  unfold U; constructor
  · intro h; exact BitVec.eq_of_toNat_eq (by omega)
  · intro h; rw [h]
theorem wrapU (n : Int) : IntKind.u64.wrap n = n % 18446744073709551616 := by simp [IntKind.wrap, IntKind.bits, IntKind.signed]
theorem u_id (x : B64) : IntKind.u64.wrap (U x) = U x := by
  rw [wrapU]; have := U_nonneg x; have := U_lt x; omega
theorem u_add (x y : B64) : IntKind.u64.wrap (U x + U y) = U (x + y) := by
  unfold U; rw [wrapU, BitVec.toNat_add]; omega
theorem u_mul (x y : B64) : IntKind.u64.wrap (U x * U y) = U (x * y) := by
  unfold U; rw [wrapU, BitVec.toNat_mul, ← Int.natCast_mul]; generalize x.toNat * y.toNat = z; omega
theorem u_xor (x y : B64) : bits BinOp.xor IntKind.u64 (U x) (U y) = U (x ^^^ y) := by
  unfold U; rw [u64_xor_nat _ _ x.isLt y.isLt, BitVec.toNat_xor]
theorem u_or (x y : B64) : bits BinOp.or IntKind.u64 (U x) (U y) = U (x ||| y) := by
  unfold U; rw [u64_or_nat _ _ x.isLt y.isLt, BitVec.toNat_or]
theorem u_sub (x y : B64) : IntKind.u64.wrap (U x - U y) = U (x - y) := by
  unfold U; rw [wrapU, BitVec.toNat_sub]; omega
theorem u_neg (x : B64) : IntKind.u64.wrap (- U x) = U (-x) := by
  unfold U; rw [wrapU, BitVec.toNat_neg]; omega
theorem u_mulP1 (x : B64) : IntKind.u64.wrap (U x * 11400714785074694791) = U (x * P1) := u_mul x P1
theorem u_mulP2 (x : B64) : IntKind.u64.wrap (U x * 14029467366897019727) = U (x * P2) := u_mul x P2
theorem u_mulP3 (x : B64) : IntKind.u64.wrap (U x * 1609587929392839161) = U (x * P3) := u_mul x P3
theorem u_mulP5 (x : B64) : IntKind.u64.wrap (U x * 2870177450012600261) = U (x * P5) := u_mul x P5
theorem u_addP2 (x : B64) : IntKind.u64.wrap (U x + 14029467366897019727) = U (x + P2) := u_add x P2
theorem u_addP3 (x : B64) : IntKind.u64.wrap (U x + 1609587929392839161) = U (x + P3) := u_add x P3
theorem u_addP4 (x : B64) : IntKind.u64.wrap (U x + 9650029242287828579) = U (x + P4) := u_add x P4
theorem u_addP5 (x : B64) : IntKind.u64.wrap (U x + 2870177450012600261) = U (x + P5) := u_add x P5
theorem u_shr (x : B64) (n : Nat) : U x / (2 : Int) ^ n = U (x >>> n) := by
  unfold U; rw [BitVec.toNat_ushiftRight, Nat.shiftRight_eq_div_pow]; simp
theorem u_shl (x : B64) (n : Nat) : IntKind.u64.wrap (U x * (2 : Int) ^ n) = U (x <<< n) := by
  unfold U
  rw [wrapU, BitVec.toNat_shiftLeft, Nat.shiftLeft_eq]
  have e : ((x.toNat : Int) * 2 ^ n) = ((x.toNat * 2 ^ n : Nat) : Int) := by simp
  rw [e]; generalize x.toNat * 2 ^ n = z; omega
theorem u_shr33 (x : B64) : U x / (8589934592 : Int) = U (x >>> 33) := u_shr x 33
theorem u_shr29 (x : B64) : U x / (536870912 : Int) = U (x >>> 29) := u_shr x 29
theorem u_shr32 (x : B64) : U x / (4294967296 : Int) = U (x >>> 32) := u_shr x 32
theorem u_rol (x : B64) (n : Nat) (h : n < 64) : bits BinOp.or IntKind.u64 (IntKind.u64.wrap (U x * (2 : Int) ^ n)) (U x / (2 : Int) ^ (64 - n)) = U (rol x n) := by
  rw [u_shl, u_shr, u_or]
  unfold rol
  rw [BitVec.rotateLeft_def, Nat.mod_eq_of_lt h]
theorem u_rol' (x : B64) (n : Nat) (h : n < 64) (a b : Int) (ha : (2 : Int) ^ n = a) (hb : (2 : Int) ^ (64 - n) = b) :
    bits BinOp.or IntKind.u64 (IntKind.u64.wrap (U x * a)) (U x / b) = U (rol x n) := by
  rw [← ha, ← hb]; exact u_rol x n h

theorem ret_int {k : IntKind} {a b : Int} (h : a = b) : Ending.returned (.int k a) = .returned (.int k b) := by rw [h]

theorem and63_1 : bits BinOp.and IntKind.u64 1 63 = 1 := by decide
section
attribute [local go_sem] and63_1
theorem rotl1 (x : B64) (w : World) : Calls Tryd.prog 74 #[.int .u64 (U x), .int .i64 1] w fun e w' => e = .returned (.int .u64 (U (rol x 1))) ∧ w = w' := by
  go_enter Tryd.func74, Tryd.ntmps74
  go_wp2
  go_ret
  exact ⟨ret_int (u_rol' x 1 (by decide) 2 9223372036854775808 (by decide) (by decide)), rfl⟩
end
theorem and63_7 : bits BinOp.and IntKind.u64 7 63 = 7 := by decide
section
attribute [local go_sem] and63_7
theorem rotl7 (x : B64) (w : World) : Calls Tryd.prog 74 #[.int .u64 (U x), .int .i64 7] w fun e w' => e = .returned (.int .u64 (U (rol x 7))) ∧ w = w' := by
  go_enter Tryd.func74, Tryd.ntmps74
  go_wp2
  go_ret
  exact ⟨ret_int (u_rol' x 7 (by decide) 128 144115188075855872 (by decide) (by decide)), rfl⟩
end
theorem and63_11 : bits BinOp.and IntKind.u64 11 63 = 11 := by decide
section
attribute [local go_sem] and63_11
theorem rotl11 (x : B64) (w : World) : Calls Tryd.prog 74 #[.int .u64 (U x), .int .i64 11] w fun e w' => e = .returned (.int .u64 (U (rol x 11))) ∧ w = w' := by
  go_enter Tryd.func74, Tryd.ntmps74
  go_wp2
  go_ret
  exact ⟨ret_int (u_rol' x 11 (by decide) 2048 9007199254740992 (by decide) (by decide)), rfl⟩
end
theorem and63_12 : bits BinOp.and IntKind.u64 12 63 = 12 := by decide
section
attribute [local go_sem] and63_12
theorem rotl12 (x : B64) (w : World) : Calls Tryd.prog 74 #[.int .u64 (U x), .int .i64 12] w fun e w' => e = .returned (.int .u64 (U (rol x 12))) ∧ w = w' := by
  go_enter Tryd.func74, Tryd.ntmps74
  go_wp2
  go_ret
  exact ⟨ret_int (u_rol' x 12 (by decide) 4096 4503599627370496 (by decide) (by decide)), rfl⟩
end
theorem and63_18 : bits BinOp.and IntKind.u64 18 63 = 18 := by decide
section
attribute [local go_sem] and63_18
theorem rotl18 (x : B64) (w : World) : Calls Tryd.prog 74 #[.int .u64 (U x), .int .i64 18] w fun e w' => e = .returned (.int .u64 (U (rol x 18))) ∧ w = w' := by
  go_enter Tryd.func74, Tryd.ntmps74
  go_wp2
  go_ret
  exact ⟨ret_int (u_rol' x 18 (by decide) 262144 70368744177664 (by decide) (by decide)), rfl⟩
end
theorem and63_23 : bits BinOp.and IntKind.u64 23 63 = 23 := by decide
section
attribute [local go_sem] and63_23
theorem rotl23 (x : B64) (w : World) : Calls Tryd.prog 74 #[.int .u64 (U x), .int .i64 23] w fun e w' => e = .returned (.int .u64 (U (rol x 23))) ∧ w = w' := by
  go_enter Tryd.func74, Tryd.ntmps74
  go_wp2
  go_ret
  exact ⟨ret_int (u_rol' x 23 (by decide) 8388608 2199023255552 (by decide) (by decide)), rfl⟩
end
theorem and63_27 : bits BinOp.and IntKind.u64 27 63 = 27 := by decide
section
attribute [local go_sem] and63_27
theorem rotl27 (x : B64) (w : World) : Calls Tryd.prog 74 #[.int .u64 (U x), .int .i64 27] w fun e w' => e = .returned (.int .u64 (U (rol x 27))) ∧ w = w' := by
  go_enter Tryd.func74, Tryd.ntmps74
  go_wp2
  go_ret
  exact ⟨ret_int (u_rol' x 27 (by decide) 134217728 137438953472 (by decide) (by decide)), rfl⟩
end
theorem and63_31 : bits BinOp.and IntKind.u64 31 63 = 31 := by decide
section
attribute [local go_sem] and63_31
theorem rotl31 (x : B64) (w : World) : Calls Tryd.prog 74 #[.int .u64 (U x), .int .i64 31] w fun e w' => e = .returned (.int .u64 (U (rol x 31))) ∧ w = w' := by
  go_enter Tryd.func74, Tryd.ntmps74
  go_wp2
  go_ret
  exact ⟨ret_int (u_rol' x 31 (by decide) 2147483648 8589934592 (by decide) (by decide)), rfl⟩
end
theorem turned1 (x : B64) (w : World) : Calls Tryd.prog 46 #[.int .u64 (U x), .int .i64 1] w fun e w' => e = .returned (.int .u64 (U (rol x 1))) ∧ ∃ m, w' = w.drewN m := by
  go_enter Tryd.func46, Tryd.ntmps46
  go_wp2
  go_quiet (fail)
  go_wp2
  go_ret
  exact ⟨ret_int (u_rol' x 1 (by decide) 2 9223372036854775808 (by decide) (by decide)), _, rfl⟩
theorem turned7 (x : B64) (w : World) : Calls Tryd.prog 46 #[.int .u64 (U x), .int .i64 7] w fun e w' => e = .returned (.int .u64 (U (rol x 7))) ∧ ∃ m, w' = w.drewN m := by
  go_enter Tryd.func46, Tryd.ntmps46
  go_wp2
  go_quiet (fail)
  go_wp2
  go_ret
  exact ⟨ret_int (u_rol' x 7 (by decide) 128 144115188075855872 (by decide) (by decide)), _, rfl⟩
theorem turned11 (x : B64) (w : World) : Calls Tryd.prog 46 #[.int .u64 (U x), .int .i64 11] w fun e w' => e = .returned (.int .u64 (U (rol x 11))) ∧ ∃ m, w' = w.drewN m := by
  go_enter Tryd.func46, Tryd.ntmps46
  go_wp2
  go_quiet (fail)
  go_wp2
  go_ret
  exact ⟨ret_int (u_rol' x 11 (by decide) 2048 9007199254740992 (by decide) (by decide)), _, rfl⟩
theorem turned12 (x : B64) (w : World) : Calls Tryd.prog 46 #[.int .u64 (U x), .int .i64 12] w fun e w' => e = .returned (.int .u64 (U (rol x 12))) ∧ ∃ m, w' = w.drewN m := by
  go_enter Tryd.func46, Tryd.ntmps46
  go_wp2
  go_quiet (fail)
  go_wp2
  go_ret
  exact ⟨ret_int (u_rol' x 12 (by decide) 4096 4503599627370496 (by decide) (by decide)), _, rfl⟩
theorem turned18 (x : B64) (w : World) : Calls Tryd.prog 46 #[.int .u64 (U x), .int .i64 18] w fun e w' => e = .returned (.int .u64 (U (rol x 18))) ∧ ∃ m, w' = w.drewN m := by
  go_enter Tryd.func46, Tryd.ntmps46
  go_wp2
  go_quiet (fail)
  go_wp2
  go_ret
  exact ⟨ret_int (u_rol' x 18 (by decide) 262144 70368744177664 (by decide) (by decide)), _, rfl⟩
theorem turned23 (x : B64) (w : World) : Calls Tryd.prog 46 #[.int .u64 (U x), .int .i64 23] w fun e w' => e = .returned (.int .u64 (U (rol x 23))) ∧ ∃ m, w' = w.drewN m := by
  go_enter Tryd.func46, Tryd.ntmps46
  go_wp2
  go_quiet (fail)
  go_wp2
  go_ret
  exact ⟨ret_int (u_rol' x 23 (by decide) 8388608 2199023255552 (by decide) (by decide)), _, rfl⟩
theorem turned27 (x : B64) (w : World) : Calls Tryd.prog 46 #[.int .u64 (U x), .int .i64 27] w fun e w' => e = .returned (.int .u64 (U (rol x 27))) ∧ ∃ m, w' = w.drewN m := by
  go_enter Tryd.func46, Tryd.ntmps46
  go_wp2
  go_quiet (fail)
  go_wp2
  go_ret
  exact ⟨ret_int (u_rol' x 27 (by decide) 134217728 137438953472 (by decide) (by decide)), _, rfl⟩
theorem turned31 (x : B64) (w : World) : Calls Tryd.prog 46 #[.int .u64 (U x), .int .i64 31] w fun e w' => e = .returned (.int .u64 (U (rol x 31))) ∧ ∃ m, w' = w.drewN m := by
  go_enter Tryd.func46, Tryd.ntmps46
  go_wp2
  go_quiet (fail)
  go_wp2
  go_ret
  exact ⟨ret_int (u_rol' x 31 (by decide) 2147483648 8589934592 (by decide) (by decide)), _, rfl⟩
theorem turned33 (x : B64) (w : World) : Calls Tryd.prog 46 #[.int .u64 (U x), .int .i64 33] w fun e w' => e = .returned (.int .u64 (U (rol x 33))) ∧ ∃ m, w' = w.drewN m := by
  go_enter Tryd.func46, Tryd.ntmps46
  go_wp2
  go_quiet (fail)
  go_wp2
  go_ret
  exact ⟨ret_int (u_rol' x 33 (by decide) 8589934592 2147483648 (by decide) (by decide)), _, rfl⟩
theorem turned37 (x : B64) (w : World) : Calls Tryd.prog 46 #[.int .u64 (U x), .int .i64 37] w fun e w' => e = .returned (.int .u64 (U (rol x 37))) ∧ ∃ m, w' = w.drewN m := by
  go_enter Tryd.func46, Tryd.ntmps46
  go_wp2
  go_quiet (fail)
  go_wp2
  go_ret
  exact ⟨ret_int (u_rol' x 37 (by decide) 137438953472 134217728 (by decide) (by decide)), _, rfl⟩

section
attribute [local go_sem] u_add u_mulP1 u_mulP2 u_mulP3 u_mulP5 u_addP3 u_addP4 u_xor u_shr33 u_shr29 u_shr32 u_id
theorem rol1_any (x : B64) (w : World) : Calls Tryd.prog 58 #[.int .u64 (U x)] w fun e w' => e = .returned (.int .u64 (U (rol x 1))) ∧ w = w' := by
  go_enter Tryd.func58, Tryd.ntmps58
  go_wp2_with (go_at_call 74; refine (rotl1 _ _).mono ?_; rintro e w' ⟨rfl, rfl⟩)
  go_ret
  exact ⟨rfl, rfl⟩
theorem rol7_any (x : B64) (w : World) : Calls Tryd.prog 59 #[.int .u64 (U x)] w fun e w' => e = .returned (.int .u64 (U (rol x 7))) ∧ w = w' := by
  go_enter Tryd.func59, Tryd.ntmps59
  go_wp2_with (go_at_call 74; refine (rotl7 _ _).mono ?_; rintro e w' ⟨rfl, rfl⟩)
  go_ret
  exact ⟨rfl, rfl⟩
theorem rol12_any (x : B64) (w : World) : Calls Tryd.prog 60 #[.int .u64 (U x)] w fun e w' => e = .returned (.int .u64 (U (rol x 12))) ∧ w = w' := by
  go_enter Tryd.func60, Tryd.ntmps60
  go_wp2_with (go_at_call 74; refine (rotl12 _ _).mono ?_; rintro e w' ⟨rfl, rfl⟩)
  go_ret
  exact ⟨rfl, rfl⟩
theorem rol18_any (x : B64) (w : World) : Calls Tryd.prog 61 #[.int .u64 (U x)] w fun e w' => e = .returned (.int .u64 (U (rol x 18))) ∧ w = w' := by
  go_enter Tryd.func61, Tryd.ntmps61
  go_wp2_with (go_at_call 74; refine (rotl18 _ _).mono ?_; rintro e w' ⟨rfl, rfl⟩)
  go_ret
  exact ⟨rfl, rfl⟩
theorem rol27_any (x : B64) (w : World) : Calls Tryd.prog 63 #[.int .u64 (U x)] w fun e w' => e = .returned (.int .u64 (U (rol x 27))) ∧ w = w' := by
  go_enter Tryd.func63, Tryd.ntmps63
  go_wp2_with (go_at_call 74; refine (rotl27 _ _).mono ?_; rintro e w' ⟨rfl, rfl⟩)
  go_ret
  exact ⟨rfl, rfl⟩
theorem rol23_any (x : B64) (w : World) : Calls Tryd.prog 65 #[.int .u64 (U x)] w fun e w' => e = .returned (.int .u64 (U (rol x 23))) ∧ w = w' := by
  go_enter Tryd.func65, Tryd.ntmps65
  go_wp2_with (go_at_call 74; refine (rotl23 _ _).mono ?_; rintro e w' ⟨rfl, rfl⟩)
  go_ret
  exact ⟨rfl, rfl⟩
theorem rol11_any (x : B64) (w : World) : Calls Tryd.prog 66 #[.int .u64 (U x)] w fun e w' => e = .returned (.int .u64 (U (rol x 11))) ∧ w = w' := by
  go_enter Tryd.func66, Tryd.ntmps66
  go_wp2_with (go_at_call 74; refine (rotl11 _ _).mono ?_; rintro e w' ⟨rfl, rfl⟩)
  go_ret
  exact ⟨rfl, rfl⟩
theorem rol31_any (x : B64) (w : World) : Calls Tryd.prog 72 #[.int .u64 (U x)] w fun e w' => e = .returned (.int .u64 (U (rol x 31))) ∧ w = w' := by
  go_enter Tryd.func72, Tryd.ntmps72
  go_wp2_with (go_at_call 74; refine (rotl31 _ _).mono ?_; rintro e w' ⟨rfl, rfl⟩)
  go_ret
  exact ⟨rfl, rfl⟩
theorem round_any (x y : B64) (w : World) : Calls Tryd.prog 55 #[.int .u64 (U x), .int .u64 (U y)] w fun e w' => e = .returned (.int .u64 (U (rnd x y))) ∧ w = w' := by
  go_enter Tryd.func55, Tryd.ntmps55
  go_wp2_with (go_at_call 72; refine (rol31_any _ _).mono ?_; rintro e w' ⟨rfl, rfl⟩)
  go_ret
  exact ⟨rfl, rfl⟩
theorem zero_add64 (x : B64) : 0 + x = x := BitVec.zero_add x
theorem rnd0 (y : B64) : rol (y * P2) 31 * P1 = rnd 0 y := by unfold rnd; rw [zero_add64]
theorem round0_any (y : B64) (w : World) : Calls Tryd.prog 55 #[.int .u64 0, .int .u64 (U y)] w fun e w' => e = .returned (.int .u64 (U (rnd 0 y))) ∧ w = w' := by
  rw [← rnd0]
  go_enter Tryd.func55, Tryd.ntmps55
  go_wp2_with (go_at_call 72; refine (rol31_any _ _).mono ?_; rintro e w' ⟨rfl, rfl⟩)
  go_ret
  exact ⟨rfl, rfl⟩
theorem mergeRound_any (x y : B64) (w : World) : Calls Tryd.prog 62 #[.int .u64 (U x), .int .u64 (U y)] w fun e w' => e = .returned (.int .u64 (U (mrg x y))) ∧ w = w' := by
  go_enter Tryd.func62, Tryd.ntmps62
  go_wp2_with (go_at_call 55; refine (round0_any _ _).mono ?_; rintro e w' ⟨rfl, rfl⟩)
  go_ret
  exact ⟨rfl, rfl⟩

/-! the reference -/
theorem sround_any (x y : B64) (w : World) : Calls Tryd.prog 67 #[.int .u64 (U x), .int .u64 (U y)] w fun e w' => e = .returned (.int .u64 (U (rnd x y))) ∧ ∃ m, w' = w.drewN m := by
  go_enter Tryd.func67, Tryd.ntmps67
  go_wp2_with (go_at_call 46; refine (turned31 _ _).mono ?_; rintro e w' ⟨rfl, m, rfl⟩)
  go_ret
  exact ⟨rfl, _, rfl⟩
theorem sround0_any (y : B64) (w : World) : Calls Tryd.prog 67 #[.int .u64 0, .int .u64 (U y)] w fun e w' => e = .returned (.int .u64 (U (rnd 0 y))) ∧ ∃ m, w' = w.drewN m := by
  rw [← rnd0]
  go_enter Tryd.func67, Tryd.ntmps67
  go_wp2_with (go_at_call 46; refine (turned31 _ _).mono ?_; rintro e w' ⟨rfl, m, rfl⟩)
  go_ret
  exact ⟨rfl, _, rfl⟩
theorem merged_any (x y : B64) (w : World) : Calls Tryd.prog 68 #[.int .u64 (U x), .int .u64 (U y)] w fun e w' => e = .returned (.int .u64 (U (mrg x y))) ∧ ∃ m, w' = w.drewN m := by
  go_enter Tryd.func68, Tryd.ntmps68
  go_wp2_with (go_at_call 67; refine (sround0_any _ _).mono ?_; rintro e w' ⟨rfl, m, rfl⟩)
  go_ret
  exact ⟨rfl, _, rfl⟩
theorem eight_any (x y : B64) (w : World) : Calls Tryd.prog 42 #[.int .u64 (U x), .int .u64 (U y)] w fun e w' => e = .returned (.int .u64 (U (eightF x y))) ∧ ∃ m, w' = w.drewN m := by
  go_enter Tryd.func42, Tryd.ntmps42
  go_wp2_with (first | (go_at_call 67; refine (sround0_any _ _).mono ?_; rintro e w' ⟨rfl, m, rfl⟩) | (go_at_call 46; refine (turned27 _ _).mono ?_; rintro e w' ⟨rfl, m, rfl⟩))
  go_ret
  exact ⟨rfl, _, rfl⟩
theorem half_any (x y : B64) (w : World) : Calls Tryd.prog 47 #[.int .u64 (U x), .int .u64 (U y)] w fun e w' => e = .returned (.int .u64 (U (halfF x y))) ∧ ∃ m, w' = w.drewN m := by
  go_enter Tryd.func47, Tryd.ntmps47
  go_wp2_with (go_at_call 46; refine (turned23 _ _).mono ?_; rintro e w' ⟨rfl, m, rfl⟩)
  go_ret
  exact ⟨rfl, _, rfl⟩
theorem single_any (x y : B64) (w : World) : Calls Tryd.prog 48 #[.int .u64 (U x), .int .u64 (U y)] w fun e w' => e = .returned (.int .u64 (U (singleF x y))) ∧ ∃ m, w' = w.drewN m := by
  go_enter Tryd.func48, Tryd.ntmps48
  go_wp2_with (go_at_call 46; refine (turned11 _ _).mono ?_; rintro e w' ⟨rfl, m, rfl⟩)
  go_ret
  exact ⟨rfl, _, rfl⟩
theorem end_any (x : B64) (w : World) : Calls Tryd.prog 49 #[.int .u64 (U x)] w fun e w' => e = .returned (.int .u64 (U (endF x))) ∧ w = w' := by
  go_enter Tryd.func49, Tryd.ntmps49
  go_wp2
  go_ret
  exact ⟨rfl, rfl⟩
end
end Go.Proofs.YtmcjajeglmjghaaDoor
