/- appendUint64. -/
import Derived.Test.YtmcjajeglmjghaaDoorPut
namespace Go.Proofs.YtmcjajeglmjghaaDoor
open Go.RowKit

/-- The bytes of a block that is known whole. -/
theorem mem_row (w : World) (X : Nat) (l : List UInt8) (T : TypeId) (B : Nat) (hB : X < B) (h : w.heap[X]? = some (.cells (l.map byteV).toArray T (0, 0))) : Mem w B (some ⟨X, 0, none⟩) l := fun _ => by
  refine ⟨X, 0, rfl, hB, fun j hj => ?_⟩
  rw [cell_of_row _ _ _ _ _ _ h, Nat.zero_add]
  simp [hj, byteV]
theorem row_lt {w : World} {X : Nat} {o : Obj} (h : w.heap[X]? = some o) : X < w.heap.size := by
  rcases Nat.lt_or_ge X w.heap.size with hlt | hge
  · exact hlt
  · rw [Array.getElem?_eq_none hge] at h; cases h
section
attribute [local go_sem] u_id
set_option maxHeartbeats 2000000 in
theorem appendU64 (base : Nat) (v : Value) (l : List UInt8) (x : B64) (w : World) (hv : OwnB w base v l) (hl : l.length + 8 ≤ 140737488355328) (hbase : base ≤ w.heap.size) :
    Calls Tryd.prog 69 #[v, .int .u64 (U x)] w fun e w' => ∃ v', e = .returned v' ∧ OwnB w' base v' (l ++ leB x 8) ∧ Below base w w' := by
  have hnew := heap_alloc_new w (.cells #[.int .u8 0, .int .u8 0, .int .u8 0, .int .u8 0, .int .u8 0, .int .u8 0, .int .u8 0, .int .u8 0] 87)
  have Hnew := Lib.hid hnew; clear hnew
  have hva := hv.alloc (.cells #[.int .u8 0, .int .u8 0, .int .u8 0, .int .u8 0, .int .u8 0, .int .u8 0, .int .u8 0, .int .u8 0] 87)
  have Hva := Lib.hid hva; clear hva
  have hne : ∀ k, v.ownBlock = some k → k < w.heap.size := fun k hk => (hv.block k hk).2
  have Hne := Lib.hid hne; clear hne hv
  have hba : Below base w (w.alloc (.cells #[.int .u8 0, .int .u8 0, .int .u8 0, .int .u8 0, .int .u8 0, .int .u8 0, .int .u8 0, .int .u8 0] 87)) := (Below.refl _ w).alloc hbase _
  have Hba := Lib.hid hba; clear hba
  go_enter Tryd.func69, Tryd.ntmps69
  go_upto_region 2 with fail
  go_cut [] (fun wx => wx.heap[w.heap.size]? = some (.cells ((leB x 8).map byteV).toArray 87 (0, 0)) ∧ OwnB wx base v l ∧ Below base w wx)
  case first =>
    go_region_with (go_at_call 76; refine (put64 w.heap.size 87 (.int .u8 0) x _ (by exact Hnew.out)).mono ?_; rintro e w1 ⟨rfl, h1, o1⟩; have H1 := Lib.hid h1; clear h1; have O1 := Lib.hid o1; clear o1)
    all_goals (go_wp2_with fail; go_meet; refine ⟨H1.out, World.ownsRow.kept (by exact Hva.out) O1.out ?_, ?_⟩)
    · cases hk : v.ownBlock with
      | none => exact .inl rfl
      | some k => exact .inr (by intro e; injection e with e; have := Hne.out k hk; omega)
    · exact Hba.out.drew.trans ((O1.out.below (by simp)).mono hbase)
  case rest =>
  obtain ⟨hx, hvx, hbx⟩ := hcut
  have hX := row_lt hx
  have e8 : (leB x 8).length = 8 := leB_length _ _
  have hm := mem_row _ w.heap.size (leB x 8) 87 _ hX hx
  obtain ⟨v', w', hrun, hv', b', _, _⟩ := run_append_bytes _ base 22 v l hvx _ _ (leB x 8) 8 hm (by rw [e8]; exact hl) (Nat.le_trans hbase hbx.size)
  rw [e8] at hrun
  have Hrun := Lib.hid hrun; clear hrun
  have Hv' := Lib.hid hv'; clear hv'
  have B' := Lib.hid (hbx.trans b'); clear hbx b'
  clear hx hvx hm e8 Hnew Hva Hba Hne
  go_wp2_with (at_builtin; refine wpList_append_run rfl (.tmp 10) (.tmp 11) 22 22 rfl _ _ rfl rfl v' w' Hrun.out ?_)
  go_ret
  exact ⟨v', rfl, Hv'.out, B'.out⟩
end
end Go.Proofs.YtmcjajeglmjghaaDoor
