/- UnmarshalBinary: what is no state is refused. -/
import Derived.Test.YtmcjajeglmjghaaDoorTold
namespace Go.Proofs.YtmcjajeglmjghaaDoor
open Go.RowKit

theorem Mem.take {w : World} {B : Nat} {A : Option Addr} {l : List UInt8} (h : Mem w B A l) (k : Nat) : Mem w B A (l.take k) := fun hl => by
  obtain ⟨g, o, e, hg, hc⟩ := h (by simp at hl; omega)
  exact ⟨g, o, e, hg, hc.take k⟩
/-- Refused: an error, and nothing but new blocks. -/
def Refused (w : World) (e : Ending) (w' : World) : Prop := ∃ T p, e = .returned (.iface T p) ∧ Below w.heap.size w w'
theorem errNew (s : ByteArray) (w : World) : Calls Tryd.prog 70 #[.string s] w (Refused w) := by
  go_enter Tryd.func70, Tryd.ntmps70
  go_wp2
  go_ret
  exact ⟨_, _, rfl, (Below.refl _ w).alloc (Nat.le_refl _) _⟩
set_option maxHeartbeats 2000000 in
theorem unmarshal_no (P : Value) (A : Option Addr) (c : Nat) (b : List UInt8) (w : World) (hl : b.length ≤ c) (hn : b.length ≠ 76) (hm : Mem w w.heap.size A b) :
    Calls Tryd.prog 54 #[P, .slice A b.length c] w (Refused w) := by
  by_cases h4 : b.length < 4
  · have h4' : (b.length : Int) < 4 := by omega
    clear hm
    go_enter Tryd.func54, Tryd.ntmps54
    go_wp2_with fail
    refine (errNew _ _).mono ?_
    rintro e w1 ⟨T, p, rfl, b1⟩
    go_wp2_with fail
    go_ret
    exact ⟨_, _, rfl, b1⟩
  · have h4' : (4 : Int) ≤ (b.length : Int) := by omega
    have d4 : decide ((b.length : Int) < 4) = false := by simp; omega
    have s1 := fun W : World => run_sliceTo22 A b.length c 4 4 rfl (by omega) W
    have hs := run_string (hm.take 4) c
    have e4 : (b.take 4).length = 4 := by rw [List.length_take]; omega
    rw [e4] at hs
    obtain ⟨X, hX⟩ : ∃ X, strB (b.take 4) = X := ⟨_, rfl⟩
    rw [hX] at hs
    clear hX e4 hm
    by_cases hM : X.toList = [120, 120, 104, 6]
    · have hne : ((b.length : Int) == 76) = false := by
        have : ¬ ((b.length : Int) = 76) := by omega
        simpa using this
      have hne' : ((b.length : Int) != 76) = true := by rw [bne, hne]; rfl
      go_enter Tryd.func54, Tryd.ntmps54
      go_wp2_with fail
      refine (errNew _ _).mono ?_
      rintro e w1 ⟨T, p, rfl, b1⟩
      go_wp2_with fail
      go_ret
      exact ⟨_, _, rfl, b1⟩
    · have e1 : (X.toList == [120, 120, 104, 6]) = false := by simpa using hM
      go_enter Tryd.func54, Tryd.ntmps54
      go_wp2_with fail
      refine (errNew _ _).mono ?_
      rintro e w1 ⟨T, p, rfl, b1⟩
      go_wp2_with fail
      go_ret
      exact ⟨_, _, rfl, b1⟩
end Go.Proofs.YtmcjajeglmjghaaDoor
