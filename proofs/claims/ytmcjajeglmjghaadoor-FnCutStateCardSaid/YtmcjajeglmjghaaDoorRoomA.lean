/- appendUint64 onto a slice with room. -/
import Derived.Test.YtmcjajeglmjghaaDoorRoom
namespace Go.Proofs.YtmcjajeglmjghaaDoor
open Go.RowKit
section
attribute [local go_sem] u_id
set_option maxHeartbeats 2000000 in
theorem padU64 (g n : Nat) (l : List UInt8) (x : B64) (w : World) (hv : Room w g l) (hn : n = l.length) (hl : n + 8 ≤ 76) :
    Calls Tryd.prog 69 #[.slice (some ⟨g, 0, none⟩) n 76, .int .u64 (U x)] w fun e w' => e = .returned (.slice (some ⟨g, 0, none⟩) (n + 8) 76) ∧ Room w' g (l ++ leB x 8) ∧ Only g w w' := by
  have hnew := heap_alloc_new w (.cells #[.int .u8 0, .int .u8 0, .int .u8 0, .int .u8 0, .int .u8 0, .int .u8 0, .int .u8 0, .int .u8 0] 87)
  have Hnew := Lib.hid hnew; clear hnew
  have hlt := hv.lt
  have hva : Room (w.alloc (.cells #[.int .u8 0, .int .u8 0, .int .u8 0, .int .u8 0, .int .u8 0, .int .u8 0, .int .u8 0, .int .u8 0] 87)) g l := hv.keep (Below.heap_alloc w _ g hlt)
  have Hva := Lib.hid hva; clear hva hv
  have hba : Only g w (w.alloc (.cells #[.int .u8 0, .int .u8 0, .int .u8 0, .int .u8 0, .int .u8 0, .int .u8 0, .int .u8 0, .int .u8 0] 87)) := (Only.refl _ w).alloc _
  have Hba := Lib.hid hba; clear hba
  have Hn := Lib.hid hn; clear hn
  go_enter Tryd.func69, Tryd.ntmps69
  go_upto_region 2 with fail
  go_cut [] (fun wx => wx.heap[w.heap.size]? = some (.cells ((leB x 8).map byteV).toArray 87 (0, 0)) ∧ Room wx g l ∧ Only g w wx)
  case first =>
    go_region_with (go_at_call 76; refine (put64 w.heap.size 87 (.int .u8 0) x _ (by exact Hnew.out)).mono ?_; rintro e w1 ⟨rfl, h1, o1⟩; have H1 := Lib.hid h1; clear h1; have O1 := Lib.hid o1; clear o1)
    all_goals (go_wp2_with fail; go_meet; refine ⟨H1.out, Room.only (by exact Hva.out) O1.out (by omega), ?_⟩)
    all_goals exact ⟨O1.out.os.trans Hba.out.os, O1.out.tape.trans Hba.out.tape, O1.out.output.trans Hba.out.output, Nat.le_trans Hba.out.size O1.out.size, fun i hi hne => (O1.out.block i (Nat.lt_of_lt_of_le hi Hba.out.size) (by intro e; injection e with e; omega)).trans (Hba.out.block i hi hne)⟩
  case rest =>
  obtain ⟨hx, hvx, hbx⟩ := hcut
  have hX := row_lt hx
  have e8 : (leB x 8).length = 8 := leB_length _ _
  have hm := mem_row _ w.heap.size (leB x 8) 87 _ hX hx
  obtain ⟨w', hrun, hv', b'⟩ := run_append_pad _ g 22 l hvx _ _ (leB x 8) 8 hm (by rw [e8, ← Hn.out]; exact hl)
  rw [e8, ← Hn.out] at hrun
  have Hrun := Lib.hid hrun; clear hrun
  have Hv' := Lib.hid hv'; clear hv'
  have B' := Lib.hid (hbx.trans b'); clear hbx b'
  clear hx hvx hm e8 Hnew Hva Hba
  go_wp2_with (at_builtin; refine wpList_append_run rfl (.tmp 10) (.tmp 11) 22 22 rfl _ _ rfl rfl _ w' Hrun.out ?_)
  go_ret
  exact ⟨rfl, Hv'.out, B'.out⟩
end
end Go.Proofs.YtmcjajeglmjghaaDoor
