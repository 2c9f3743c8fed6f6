/- spec.unmixed, spec.inverse, spec.Forged; the walk of laws.FnForged. -/
import Derived.Test.YtmcjajeglmjghaaDoorFMath
import Derived.Test.YtmcjajeglmjghaaDoorWH
namespace Go.Proofs.YtmcjajeglmjghaaDoor
open Go.RowKit

theorem u_2sub (x : B64) : IntKind.u64.wrap (2 - U x) = U (2 - x) := by
  rw [show (2 : Int) = U 2 from rfl, u_sub]
theorem u_subP4 (x : B64) : IntKind.u64.wrap (U x - 9650029242287828579) = U (x - P4) := u_sub x P4
theorem u_addLen8 (x : B64) (n : Nat) : IntKind.u64.wrap (U x + ((n : Int) + 8)) = U (x + BitVec.ofNat 64 (n + 8)) := by
  have := u_addLen x (n + 8)
  rwa [Int.natCast_add] at this
section
attribute [local go_sem] u_xor u_id u_mul u_2sub u_shr32 u_shr29 u_shr33
theorem unmixed32 (x : B64) (w : World) : Calls Tryd.prog 44 #[.int .u64 (U x), .int .i64 32] w fun e w' => e = .returned (.int .u64 (U (unmix x 32 2))) ∧ w = w' := by
  go_enter Tryd.func44, Tryd.ntmps44
  go_wp2
  go_loop [5, 9] (fun y i => ∃ (k : Nat) (z : Int) (v : B64), unmix x 32 k = v ∧ z = k ∧ k ≤ 2 ∧ i = .int .i64 z ∧ y = .int .u64 (U v)) (fun _ i => 2 - (intOf i).toNat)
  case atStart => exact ⟨0, 0, x, rfl, rfl, by omega, rfl, rfl⟩
  case round =>
    obtain ⟨k, z, v, hv, hz, hk, rfl, rfl⟩ := hrel
    have Hv := Lib.hid hv; clear hv
    have hs : k = 0 ∨ k = 1 ∨ k = 2 := by omega
    rcases hs with rfl | rfl | rfl
    · obtain rfl : z = 0 := by simpa using hz
      clear hz
      go_wp2
      exact ⟨⟨1, 1, _, by rw [unmix, Hv.out], rfl, by omega, rfl, rfl⟩, by simp [intOf]⟩
    · obtain rfl : z = 1 := by simpa using hz
      clear hz
      go_wp2
      exact ⟨⟨2, 2, _, by rw [unmix, Hv.out], rfl, by omega, rfl, rfl⟩, by simp [intOf]⟩
    · obtain rfl : z = 2 := by simpa using hz
      clear hz
      go_wp2
      go_ret
      exact ⟨ret_int (congrArg U Hv.out.symm), rfl⟩
theorem unmixed29 (x : B64) (w : World) : Calls Tryd.prog 44 #[.int .u64 (U x), .int .i64 29] w fun e w' => e = .returned (.int .u64 (U (unmix x 29 2))) ∧ w = w' := by
  go_enter Tryd.func44, Tryd.ntmps44
  go_wp2
  go_loop [5, 9] (fun y i => ∃ (k : Nat) (z : Int) (v : B64), unmix x 29 k = v ∧ z = k ∧ k ≤ 2 ∧ i = .int .i64 z ∧ y = .int .u64 (U v)) (fun _ i => 2 - (intOf i).toNat)
  case atStart => exact ⟨0, 0, x, rfl, rfl, by omega, rfl, rfl⟩
  case round =>
    obtain ⟨k, z, v, hv, hz, hk, rfl, rfl⟩ := hrel
    have Hv := Lib.hid hv; clear hv
    have hs : k = 0 ∨ k = 1 ∨ k = 2 := by omega
    rcases hs with rfl | rfl | rfl
    · obtain rfl : z = 0 := by simpa using hz
      clear hz
      go_wp2
      exact ⟨⟨1, 1, _, by rw [unmix, Hv.out], rfl, by omega, rfl, rfl⟩, by simp [intOf]⟩
    · obtain rfl : z = 1 := by simpa using hz
      clear hz
      go_wp2
      exact ⟨⟨2, 2, _, by rw [unmix, Hv.out], rfl, by omega, rfl, rfl⟩, by simp [intOf]⟩
    · obtain rfl : z = 2 := by simpa using hz
      clear hz
      go_wp2
      go_ret
      exact ⟨ret_int (congrArg U Hv.out.symm), rfl⟩
theorem unmixed33 (x : B64) (w : World) : Calls Tryd.prog 44 #[.int .u64 (U x), .int .i64 33] w fun e w' => e = .returned (.int .u64 (U (unmix x 33 1))) ∧ w = w' := by
  go_enter Tryd.func44, Tryd.ntmps44
  go_wp2
  go_loop [5, 9] (fun y i => ∃ (k : Nat) (z : Int) (v : B64), unmix x 33 k = v ∧ z = k ∧ k ≤ 1 ∧ i = .int .i64 z ∧ y = .int .u64 (U v)) (fun _ i => 1 - (intOf i).toNat)
  case atStart => exact ⟨0, 0, x, rfl, rfl, by omega, rfl, rfl⟩
  case round =>
    obtain ⟨k, z, v, hv, hz, hk, rfl, rfl⟩ := hrel
    have Hv := Lib.hid hv; clear hv
    have hs : k = 0 ∨ k = 1 := by omega
    rcases hs with rfl | rfl
    · obtain rfl : z = 0 := by simpa using hz
      clear hz
      go_wp2
      exact ⟨⟨1, 1, _, by rw [unmix, Hv.out], rfl, by omega, rfl, rfl⟩, by simp [intOf]⟩
    · obtain rfl : z = 1 := by simpa using hz
      clear hz
      go_wp2
      go_ret
      exact ⟨ret_int (congrArg U Hv.out.symm), rfl⟩
theorem inverse_any (x : B64) (w : World) : Calls Tryd.prog 45 #[.int .u64 (U x)] w fun e w' => e = .returned (.int .u64 (U (invI x 6))) ∧ w = w' := by
  go_enter Tryd.func45, Tryd.ntmps45
  go_wp2
  go_loop [3, 5] (fun y i => ∃ (k : Nat) (v : B64), invI x k = v ∧ k ≤ 6 ∧ i = .int .i64 k ∧ y = .int .u64 (U v)) (fun _ i => 6 - (intOf i).toNat)
  case atStart => exact ⟨0, x, rfl, by omega, rfl, rfl⟩
  case round =>
    obtain ⟨k, v, hv, hk, rfl, rfl⟩ := hrel
    have Hv := Lib.hid hv; clear hv
    by_cases hlt : k < 6
    · have hlt' : (k : Int) < 6 := by omega
      go_wp2
      exact ⟨⟨k + 1, _, by rw [invI, Hv.out]; rfl, by omega, by go_num, rfl⟩, by simp [intOf]; omega⟩
    · have hge : (6 : Int) ≤ (k : Int) := by omega
      have hk6 : k = 6 := by omega
      have hv6 : invI x 6 = v := by rw [← hk6]; exact Hv.out
      have Hv6 := Lib.hid hv6; clear hv6 hk6
      go_wp2
      go_ret
      exact ⟨ret_int (congrArg U Hv6.out.symm), rfl⟩
end
theorem inverse1 (w : World) : Calls Tryd.prog 45 #[.int .u64 11400714785074694791] w fun e w' => e = .returned (.int .u64 (U I1)) ∧ w = w' := by
  have h := inverse_any P1 w
  rw [invI1] at h
  exact h
theorem inverse2 (w : World) : Calls Tryd.prog 45 #[.int .u64 14029467366897019727] w fun e w' => e = .returned (.int .u64 (U I2)) ∧ w = w' := by
  have h := inverse_any P2 w
  rw [invI2] at h
  exact h
theorem inverse3 (w : World) : Calls Tryd.prog 45 #[.int .u64 1609587929392839161] w fun e w' => e = .returned (.int .u64 (U I3)) ∧ w = w' := by
  have h := inverse_any P3 w
  rw [invI3] at h
  exact h
end Go.Proofs.YtmcjajeglmjghaaDoor
