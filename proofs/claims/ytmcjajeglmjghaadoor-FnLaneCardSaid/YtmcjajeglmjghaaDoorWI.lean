/- The walks of laws.FnKept and laws.FnSplit. -/
import Derived.Test.YtmcjajeglmjghaaDoorApp
import Derived.Test.YtmcjajeglmjghaaDoorWG
import Derived.WalkSpells
import Derived.Deep.RegionWith
namespace Go.Proofs.YtmcjajeglmjghaaDoor
open Go.RowKit

/-- Pieces that have just been laid in a row. -/
theorem rws_new (w : World) (B : Nat) (qs : List Piece) (hB : w.heap.size < B) (hq : ∀ q ∈ qs, q.There w w.heap.size) : Rws (w.alloc (.cells (qs.map Piece.val).toArray 22)) B (some ⟨w.heap.size, 0, none⟩) qs := by
  refine ⟨fun _ => ⟨w.heap.size, 0, rfl, hB, fun j hj => ?_⟩, fun q h => ((hq q h).below ((Below.refl _ w).alloc (Nat.le_refl _) _) (Nat.le_refl _)).more (Nat.le_of_lt hB)⟩
  rw [cell_of_row _ _ _ _ _ _ (heap_alloc_new w (.cells (qs.map Piece.val).toArray 22)), Nat.zero_add]
  simp [hj]
theorem allB_one (A : Option Addr) (c : Nat) (b : List UInt8) : allB [⟨A, c, b⟩] = b := by simp [allB]

set_option maxHeartbeats 4000000 in
theorem fnKept_walk (A : Option Addr) (c : Nat) (b : List UInt8) (w : World) (hl : b.length ≤ c) (hc : c ≤ 140737488351232) (hm : Mem w w.heap.size A b) (hp : w.cell? ⟨0, 0, none⟩ = some (.int .u64 (U P1))) :
    Calls Tryd.prog 20 #[.slice A b.length c] w fun e w' => e = .returned (.bool true) ∧ Below w.heap.size w w' := by
  have hpos : 0 < w.heap.size := cell_pos hp
  have hbl : b.length ≤ 140737488351232 := by omega
  have h22 := Lib.hid (isum64_any A c b w hl (by omega) hm hp)
  have hs0 := run_string hm c
  have Hm := Lib.hid hm; clear hm
  have Hp := Lib.hid hp; clear hp
  go_enter Tryd.func20, Tryd.ntmps20
  go_wp2_with fail
  refine h22.out.mono ?_
  rintro e w1 ⟨rfl, b1⟩
  clear hs0
  have hm1 := (Hm.out.below b1 (Nat.le_refl _)).more b1.size
  have hr1 := rws_new w1 (w1.heap.size + 1) [⟨A, c, b⟩] (by omega) (by intro q hq; simp at hq; subst hq; exact ⟨hl, by simp only; omega, hm1⟩)
  have ba1 : Below w1.heap.size w1 (w1.alloc (.cells #[.slice A b.length c] 22)) := (Below.refl _ w1).alloc (Nat.le_refl _) _
  have b01 := b1.trans (ba1.mono b1.size)
  have h28 : Calls Tryd.prog 28 #[.slice (some ⟨w1.heap.size, 0, none⟩) 1 1] (w1.alloc (.cells #[.slice A b.length c] 22)) fun e w' => e = .returned (.int .u64 (U (xxh b))) ∧ Below (w1.heap.size + 1) (w1.alloc (.cells #[.slice A b.length c] 22)) w' := by
    have h := whole_any (some ⟨w1.heap.size, 0, none⟩) 1 [⟨A, c, b⟩] (w1.alloc (.cells #[.slice A b.length c] 22)) (by simp) (by rw [allB_one]; omega) (by simpa [Piece.val] using hr1) (prime_below Hp.out b01 hpos)
    rw [allB_one] at h
    simpa using h
  have H28 := Lib.hid h28; clear h28 hr1 hm1
  have B01 := Lib.hid b01; clear b01 ba1 b1 h22
  go_wp2_with fail
  refine H28.out.mono ?_
  rintro e w2 ⟨rfl, b2⟩
  have b02 := B01.out.trans (b2.mono (by have := B01.out.size; simpa using this))
  have hm2 := (Hm.out.below b02 (Nat.le_refl _)).more b02.size
  have hr2 := rws_new w2 (w2.heap.size + 1) [⟨A, c, b⟩] (by omega) (by intro q hq; simp at hq; subst hq; exact ⟨hl, by simp only; omega, hm2⟩)
  have ba2 : Below w2.heap.size w2 (w2.alloc (.cells #[.slice A b.length c] 22)) := (Below.refl _ w2).alloc (Nat.le_refl _) _
  have b03 := b02.trans (ba2.mono b02.size)
  have h32 : Calls Tryd.prog 32 #[.slice (some ⟨w2.heap.size, 0, none⟩) 1 1, .slice A b.length c] (w2.alloc (.cells #[.slice A b.length c] 22)) fun e w' => ∃ v', e = .returned v' ∧ OwnB w' (w2.heap.size + 1) v' (b ++ beB (xxh b)) ∧ Below (w2.heap.size + 1) (w2.alloc (.cells #[.slice A b.length c] 22)) w' := by
    have h := appended_any (some ⟨w2.heap.size, 0, none⟩) 1 [⟨A, c, b⟩] A c b (w2.alloc (.cells #[.slice A b.length c] 22)) (by simp) (by rw [allB_one]; omega) (by simpa [Piece.val] using hr2) ((Hm.out.below b03 (Nat.le_refl _)).more b03.size) (by omega) (prime_below Hp.out b03 hpos)
    rw [allB_one] at h
    simpa using h
  have H32 := Lib.hid h32; clear h32 hr2 hm2
  have B03 := Lib.hid b03; clear b03 ba2 b02 b2 H28
  go_wp2_with fail
  refine H32.out.mono ?_
  rintro e w3 ⟨v, rfl, hv, b3⟩
  have b04 := B03.out.trans (b3.mono (by have := B03.out.size; simpa using this))
  obtain ⟨A1, c1, rfl, hl1, hm1⟩ := hv.form
  have hlen : (b ++ beB (xxh b)).length = b.length + 8 := by rw [List.length_append]; rfl
  rw [hlen] at hl1 ⊢
  have hm4 := (Hm.out.below b04 (Nat.le_refl _)).more b04.size
  have hs4 := run_string hm4 c
  have h26 := Lib.hid (ssum_any A c b w3 hl (by omega) hm4)
  clear hv hm1 hm4 hlen H32
  go_wp2_with fail
  refine h26.out.mono ?_
  rintro e w4 ⟨rfl, b4⟩
  go_wp2_with fail
  go_ret
  exact ⟨rfl, b04.trans (b4.mono b04.size)⟩
end Go.Proofs.YtmcjajeglmjghaaDoor
