/- The walk of laws.FnTold. -/
import Derived.Test.YtmcjajeglmjghaaDoorTold
namespace Go.Proofs.YtmcjajeglmjghaaDoor
open Go.RowKit

set_option maxHeartbeats 2000000 in
theorem fnTold_walk (A : Option Addr) (c : Nat) (l : List UInt8) (B : Option Addr) (d : Nat) (b : List UInt8) (w : World) (hl : l.length ≤ c) (_hc : c ≤ 140737488351232) (hm : Mem w w.heap.size A l) (hu : l.length ≤ 1048576) (hl2 : b.length ≤ d) (_hd : d ≤ 140737488351232) (hm2 : Mem w w.heap.size B b) (hu2 : b.length ≤ 1048576) (hp : w.cell? ⟨0, 0, none⟩ = some (.int .u64 (U P1))) :
    Calls Tryd.prog 14 #[.slice A l.length c, .slice B b.length d] w fun e w' => e = .returned (.bool true) ∧ Below w.heap.size w w' := by
  have h33 := Lib.hid (told_any A B c d l b w hl (by omega) hm hl2 (by omega) hm2 hp)
  have Hm := Lib.hid hm; clear hm
  have Hm2 := Lib.hid hm2; clear hm2 hp
  go_enter Tryd.func14, Tryd.ntmps14
  go_wp2_with fail
  refine h33.out.mono ?_
  rintro e w1 ⟨rfl, b1⟩
  obtain ⟨X, hX⟩ : ∃ X, xxh (l ++ b) = X := ⟨_, rfl⟩
  rw [hX]
  obtain ⟨v2, w2, hrun2, hv2, b2, _, _⟩ := run_append_bytes w1 w1.heap.size 22 (.slice none 0 0) [] (OwnB.nil _ _) _ A l c ((Hm.out.below b1 (Nat.le_refl _)).more b1.size) (by simp; omega) (Nat.le_refl _)
  rw [List.nil_append] at hv2
  obtain ⟨v3, w3, hrun3, hv3, b3, _, _⟩ := run_append_bytes w2 w1.heap.size 22 v2 l hv2 _ B b d ((Hm2.out.below b1 (Nat.le_refl _)).below b2 b1.size) (by omega) b2.size
  have b03 := b1.trans ((b2.trans b3).mono b1.size)
  have h26 := ssum_own v3 (l ++ b) _ w3 hv3 (by simp; omega)
  rw [hX] at h26
  have H26 := Lib.hid h26
  have Hrun2 := Lib.hid hrun2
  have Hrun3 := Lib.hid hrun3
  have B03 := Lib.hid b03
  clear hrun2 hrun3 hv2 hv3 b2 b3 b03 h26 hX b1
  have tok1 : True := trivial
  go_wp2_with (first | (at_builtin; have _t := tok1; refine wpList_append_run rfl (.const (.slice none 0 0)) (.tmp 8) 22 22 rfl _ _ rfl rfl v2 w2 Hrun2.out ?_; clear tok1) | (at_builtin; refine wpList_append_run rfl (.tmp 9) (.tmp 10) 22 22 rfl _ _ rfl rfl v3 w3 Hrun3.out ?_))
  refine H26.out.mono ?_
  rintro e w4 ⟨rfl, b4⟩
  go_wp2_with fail
  go_ret
  exact ⟨rfl, B03.out.trans (b4.mono B03.out.size)⟩
end Go.Proofs.YtmcjajeglmjghaaDoor
