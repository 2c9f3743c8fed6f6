/- consumeUint64: the number of the first 8 bytes, and what lies behind them. -/
import Derived.Test.YtmcjajeglmjghaaDoorFMath
namespace Go.Proofs.YtmcjajeglmjghaaDoor
open Go.RowKit

theorem run_from22 (g o n c lo : Nat) (a : Int) (ha : a = lo) (h : lo ≤ n) (hc : lo < c) (W : World) :
    (Instr.slice 22 (.slice (some ⟨g, o, none⟩) n c) (some (.int .i64 a)) none none).run Tryd.prog W = .ok (.slice (some ⟨g, o + lo, none⟩) (n - lo) (c - lo)) W := by
  rw [run_sliceFrom (some ⟨g, o, none⟩) n c lo a ha h W]
  unfold cutA
  rw [if_neg (by omega), Option.map_some, add_at]
section
attribute [local go_sem] u_id
set_option maxHeartbeats 2000000 in
theorem consume_any (g o n c o' n' c' : Nat) (x : B64) (w : World) (hn : n = n' + 8) (hc : c = c' + 8) (ho : o' = o + 8) (h0 : 0 < c') (hb : Bytes w g o (leB x 8)) :
    Calls Tryd.prog 71 #[.slice (some ⟨g, o, none⟩) n c] w fun e w' => e = .returned (.tuple #[.slice (some ⟨g, o', none⟩) n' c', .int .u64 (U x)]) ∧ Below w.heap.size w w' := by
  have h56 := u64_any g o n c (leB x 8) w (by omega) (leB_length _ _) hb
  rw [lane_leB] at h56
  have H56 := Lib.hid h56; clear h56
  have q := fun W : World => run_from22 g o n c 8 8 rfl (by omega) (by omega) W
  rw [show n - 8 = n' from by omega, show c - 8 = c' from by omega, ← ho] at q
  clear hn hc ho hb
  go_enter Tryd.func71, Tryd.ntmps71
  go_wp2_with fail
  refine H56.out.mono ?_
  rintro e w1 ⟨rfl, b1⟩
  go_wp2_with fail
  go_ret2
  exact ⟨rfl, b1⟩
end
end Go.Proofs.YtmcjajeglmjghaaDoor
