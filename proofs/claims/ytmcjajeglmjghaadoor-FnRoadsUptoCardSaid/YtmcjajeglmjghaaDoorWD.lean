/- The walk of laws.FnRoads. -/
import Derived.Test.YtmcjajeglmjghaaDoorWC
namespace Go.Proofs.YtmcjajeglmjghaaDoor
open Go.RowKit

set_option maxHeartbeats 2000000 in
theorem fnRoads_walk (A : Option Addr) (c : Nat) (ps : List Piece) (w : World) (hl : ps.length ≤ c) (hc : c * 24 ≤ 140737488351232 ∧ ∀ p ∈ ps, p.c ≤ 140737488351232)
    (hm : Row w w.heap.size A ps ∧ ∀ p ∈ ps, p.l.length ≤ p.c ∧ Mem w w.heap.size p.A p.l) (hu : (allB ps).length + ps.length ≤ 1048576) (hp : w.cell? ⟨0, 0, none⟩ = some (.int .u64 (U P1))) :
    Calls Tryd.prog 19 #[.slice A ps.length c] w fun e w' => e = .returned (.bool true) ∧ Below w.heap.size w w' := by
  have hr := Rws.of hm hc
  have hpl : ps.length * 24 ≤ 140737488351232 := by omega
  have hpos : 0 < w.heap.size := cell_pos hp
  have h30 := Lib.hid (pieces_any A c ps w hpl hr hp)
  have Hr := Lib.hid hr
  have Hp := Lib.hid hp
  clear hm hp hc hr hl
  go_enter Tryd.func19, Tryd.ntmps19
  go_wp2_with fail
  refine h30.out.mono ?_
  rintro e w1 ⟨v, u, ys, rfl, hys, hv, _, b1⟩
  obtain ⟨B, d, rfl, hlu, hcu⟩ := hv.form
  have hyl := hys.1
  have hye := hys.2 (by omega)
  subst hye
  rw [hyl] at hlu ⊢
  obtain ⟨g2, rfl, hg2, hcells2⟩ := hcu (by simp)
  have hcell := hcells2 ps.length (by simp)
  rw [List.getElem_map, List.getElem_range] at hcell
  unfold sumV at hcell
  rw [List.take_length] at hcell
  clear hcu hcells2 hv hys hyl
  go_wp2_with fail
  refine (joined_any A c ps _ (by omega) (by omega) ((Hr.out.below b1 (Nat.le_refl _)).more b1.size)).mono ?_
  rintro e w2 ⟨v2, rfl, hv2, b2⟩
  have b12 := b1.trans (b2.mono b1.size)
  go_wp2_with fail
  refine (isum_own v2 _ _ _ hv2 (by omega) (prime_below Hp.out b12 hpos)).mono ?_
  rintro e w3 ⟨rfl, b3⟩
  have b13 := b12.trans (b3.mono b12.size)
  have hcell3 : w3.cell? ⟨g2, ps.length, none⟩ = some (.int .u64 (U (xxh (allB ps)))) := by
    rw [b3.cell (p := ⟨g2, ps.length, none⟩) (Nat.lt_of_lt_of_le hg2 b2.size), b2.cell (p := ⟨g2, ps.length, none⟩) hg2]; exact hcell
  clear hcell
  have h28 := Lib.hid (whole_any A c ps w3 (by omega) (by omega) ((Hr.out.below b13 (Nat.le_refl _)).more b13.size) (prime_below Hp.out b13 hpos))
  clear b1 b2 b3 b12 hv2
  have hlen1 : (0 : Int) < (ps.length : Int) + 1 := by omega
  go_wp2_with fail
  refine h28.out.mono ?_
  rintro e w4 ⟨rfl, b4⟩
  go_wp2_with fail
  go_ret
  exact ⟨rfl, b13.trans (b4.mono b13.size)⟩
end Go.Proofs.YtmcjajeglmjghaaDoor
