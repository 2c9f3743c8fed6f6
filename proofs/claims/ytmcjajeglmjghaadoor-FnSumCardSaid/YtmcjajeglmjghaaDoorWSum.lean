/- The walk of laws.FnSum. -/
import Derived.Test.YtmcjajeglmjghaaDoorFrame
namespace Go.Proofs.YtmcjajeglmjghaaDoor
open Go.RowKit

theorem fnSum_walk (A : Option Addr) (c : Nat) (l : List UInt8) (w : World) (hl : l.length ≤ c) (hc : c ≤ 140737488351232) (hm : Mem w w.heap.size A l) (hp : w.cell? ⟨0, 0, none⟩ = some (.int .u64 (U P1))) :
    Calls Tryd.prog 6 #[.slice A l.length c] w fun e w' => e = .returned (.bool true) ∧ Below w.heap.size w w' := by
  have h22 := Lib.hid (isum64_any A c l w hl (by omega) hm hp)
  clear hp
  go_enter Tryd.func6, Tryd.ntmps6
  go_wp2_with (go_at_call 22; refine h22.out.mono ?_; rintro e w1 ⟨rfl, hb1⟩)
  refine (ssum_any A c l _ hl (by omega) ((hm.below hb1 (Nat.le_refl _)).more hb1.size)).mono ?_
  rintro e w2 ⟨rfl, hb2⟩
  go_wp2
  go_ret
  exact ⟨rfl, hb1.trans (hb2.mono hb1.size)⟩
end Go.Proofs.YtmcjajeglmjghaaDoor
