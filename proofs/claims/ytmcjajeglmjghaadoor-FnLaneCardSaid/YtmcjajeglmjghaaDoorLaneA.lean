/- spec.Lane: a lane behind the whole stripes. -/
import Derived.Test.YtmcjajeglmjghaaDoorLMath
import Derived.Laws.OwnMore
namespace Go.Proofs.YtmcjajeglmjghaaDoor
open Go.RowKit

/-- What spec.Lane gives: a lane of n bytes. -/
def SomeLane (n : Nat) (w : World) (e : Ending) (w' : World) : Prop := ∃ f t : Nat, LaneAt n f t ∧ e = .returned (.tuple #[.int .i64 (f : Int), .int .i64 (t : Int), .bool true]) ∧ w = w'
theorem SomeLane.of {n : Nat} {w : World} (f t : Nat) (x y : Int) (hx : x = f) (hy : y = t) (h : LaneAt n f t) : SomeLane n w (.returned (.tuple #[.int .i64 x, .int .i64 y, .bool true])) w := by
  subst hx hy
  exact ⟨f, t, h, rfl, rfl⟩
set_option maxHeartbeats 2000000 in
theorem someLane_any (n a : Nat) (x : Int) (hx : x = a) (w : World) (hn : n ≤ 140737488355328) (h1 : n / 32 * 32 ≤ a) (h2 : a < n) : Calls Tryd.prog 24 #[.int .i64 n, .int .i64 x] w (SomeLane n w) := by
  subst hx
  have d1 : decide ((a : Int) < (n : Int) / 32 * 32) = false := by simp; omega
  have d2 : decide ((n : Int) ≤ (a : Int)) = false := by simp; omega
  have d3 : (n : Int) / 32 * 32 ≤ (a : Int) := by omega
  have d4 : (a : Int) < (n : Int) := by omega
  go_enter Tryd.func24, Tryd.ntmps24
  go_wp2
  go_loop [7] (fun i => ∃ k m : Nat, n / 32 * 32 + 8 * k = m ∧ m ≤ a ∧ i = .int .i64 (m : Int)) (fun i => n - (intOf i).toNat)
  case atStart => exact ⟨0, n / 32 * 32, by omega, by omega, congrArg (Value.int .i64) (by omega)⟩
  case round =>
    obtain ⟨k, m, hm, hma, rfl⟩ := hrel
    by_cases h8 : m + 8 ≤ n
    · have h8' : (m : Int) + 8 ≤ (n : Int) := by omega
      by_cases ha : a < m + 8
      · have ha' : (a : Int) < (m : Int) + 8 := by omega
        go_wp2
        go_ret3
        exact SomeLane.of m (m + 8) _ _ rfl (by omega) ⟨by omega, .inl ⟨k, by omega, by omega, by omega⟩, by omega⟩
      · have ha' : (m : Int) + 8 ≤ (a : Int) := by omega
        have da : decide ((a : Int) < (m : Int) + 8) = false := by simp; omega
        go_wp2
        exact ⟨⟨k + 1, m + 8, by omega, by omega, congrArg (Value.int .i64) (by omega)⟩, by simp [intOf]; omega⟩
    · have d8 : decide ((m : Int) + 8 ≤ (n : Int)) = false := by simp; omega
      have h8' : (n : Int) < (m : Int) + 8 := by omega
      by_cases h4 : m + 4 ≤ n
      · have h4' : (m : Int) + 4 ≤ (n : Int) := by omega
        by_cases ha : a < m + 4
        · have ha' : (a : Int) < (m : Int) + 4 := by omega
          go_wp2
          go_ret3
          exact SomeLane.of m (m + 4) _ _ rfl (by omega) ⟨by omega, .inr (.inl ⟨k, by omega, by omega, by omega, by omega⟩), by omega⟩
        · have ha' : (m : Int) + 4 ≤ (a : Int) := by omega
          have da : decide ((a : Int) < (m : Int) + 4) = false := by simp; omega
          go_wp2
          go_ret3
          exact SomeLane.of a (a + 1) _ _ rfl (by omega) ⟨by omega, .inr (.inr ⟨k, by omega, by omega, by omega, by omega, by omega⟩), by omega⟩
      · have d4 : decide ((m : Int) + 4 ≤ (n : Int)) = false := by simp; omega
        have h4' : (n : Int) < (m : Int) + 4 := by omega
        go_wp2
        go_ret3
        exact SomeLane.of a (a + 1) _ _ rfl (by omega) ⟨by omega, .inr (.inr ⟨k, by omega, by omega, by omega, by omega, by omega⟩), by omega⟩

theorem byte_xor (a b : UInt8) : bits BinOp.xor IntKind.u8 (a.toNat : Int) (b.toNat : Int) = ((a ^^^ b).toNat : Int) := by
  rw [u8_xor_nat _ _ a.toNat_lt b.toNat_lt, UInt8.toNat_xor]
/-- A byte of the call's own is stored. -/
theorem OwnB.set {w : World} {base g c : Nat} {l : List UInt8} {n : Nat} (h : OwnB w base (.slice (some ⟨g, 0, none⟩) n c) l) (hn : n = l.length) (j : Nat) (x : UInt8) (hg : base ≤ g) :
    OwnB (w.setCell ⟨g, j, none⟩ (.int .u8 (x.toNat : Int))) base (.slice (some ⟨g, 0, none⟩) n c) (l.set j x) ∧ Below base w (w.setCell ⟨g, j, none⟩ (.int .u8 (x.toNat : Int))) := by
  subst hn
  obtain ⟨h1, h2⟩ := World.ownsRow.stored h j (byteV x)
  refine ⟨?_, (Below.refl _ w).setCell hg _⟩
  unfold OwnB
  rw [List.length_set, List.map_set]
  exact h1
end Go.Proofs.YtmcjajeglmjghaaDoor
