/- impl.Told, impl.State; the walk of laws.FnTold. -/
import Derived.Test.YtmcjajeglmjghaaDoorMar
import Derived.Test.YtmcjajeglmjghaaDoorWG
namespace Go.Proofs.YtmcjajeglmjghaaDoor
open Go.RowKit

/-- The state of a digest to which l has been written. -/
def stL (l : List UInt8) : List UInt8 := stB (blocks l) (BitVec.ofNat 64 l.length) (rest l)
theorem marshal_holds (D : Nat) (l : List UInt8) (w : World) (h : Holds w D l) :
    Calls Tryd.prog 53 #[.pointer (some ⟨D, 0, none⟩)] w fun e w' => e = .returned (.tuple #[.slice (some ⟨w.heap.size, 0, none⟩) 76 76, .nilIface]) ∧ Room w' w.heap.size (stL l) ∧ Holds w' D l ∧ Below w.heap.size w w' := by
  have h0 := h
  obtain ⟨m, hd, hr⟩ := h
  refine (marshal_any D _ _ m _ w hd (by omega)).mono ?_
  rintro e w' ⟨he, hroom, hb⟩
  rw [hr] at hroom
  exact ⟨he, hroom, h0.below hb h0.lt, hb⟩
set_option maxHeartbeats 1000000 in
/-- impl.Told -/
theorem told_any (A B : Option Addr) (c d : Nat) (l b : List UInt8) (w : World) (hl : l.length ≤ c) (hc : l.length ≤ 140737488355328) (hm : Mem w w.heap.size A l) (hl2 : b.length ≤ d) (hd : b.length ≤ 140737488355328) (hm2 : Mem w w.heap.size B b) (hp : w.cell? ⟨0, 0, none⟩ = some (.int .u64 (U P1))) :
    Calls Tryd.prog 33 #[.slice A l.length c, .slice B b.length d] w fun e w' => e = .returned (.int .u64 (U (xxh (l ++ b)))) ∧ Below w.heap.size w w' := by
  have Hp := Lib.hid hp; clear hp
  have Hm := Lib.hid hm; clear hm
  have Hm2 := Lib.hid hm2; clear hm2
  go_enter Tryd.func33, Tryd.ntmps33
  go_wp2_with fail
  refine (new_holds _ Hp.out).mono ?_
  rintro e w1 ⟨rfl, h1, b1⟩
  go_wp2_with fail
  refine (write_holds _ [] A c l _ h1 (Hm.out.below b1 (Nat.le_refl _)) hl hc).mono ?_
  rintro e w2 ⟨rfl, h2, o2⟩
  have b2 := b1.trans (o2.below (Nat.le_of_lt h1.lt))
  go_wp2_with fail
  refine (marshal_holds _ _ _ h2).mono ?_
  rintro e w3 ⟨rfl, _, h3, b3⟩
  have b03 := b2.trans (b3.mono b2.size)
  go_wp2_with fail
  refine (write_holds _ _ B d b _ h3 (Hm2.out.below b03 (Nat.le_refl _)) hl2 hd).mono ?_
  rintro e w4 ⟨rfl, h4, o4⟩
  have b4 := b03.trans (o4.below (Nat.le_of_lt h3.lt))
  rw [List.nil_append] at h4
  have H4 := Lib.hid h4; clear h4
  go_wp2_with fail
  refine (sum_holds _ _ _ H4.out (by simp; omega)).mono ?_
  rintro e w5 ⟨rfl, b5⟩
  go_wp2_with fail
  go_ret
  exact ⟨rfl, b4.trans (b5.mono (by exact b4.size))⟩
/-- impl.State -/
theorem state_any (A : Option Addr) (c : Nat) (l : List UInt8) (w : World) (hl : l.length ≤ c) (hc : l.length ≤ 140737488355328) (hm : Mem w w.heap.size A l) (hp : w.cell? ⟨0, 0, none⟩ = some (.int .u64 (U P1))) :
    Calls Tryd.prog 34 #[.slice A l.length c] w fun e w' => ∃ g, e = .returned (.tuple #[.slice (some ⟨g, 0, none⟩) 76 76, .bool true]) ∧ w.heap.size ≤ g ∧ Room w' g (stL l) ∧ Below w.heap.size w w' := by
  have Hp := Lib.hid hp; clear hp
  have Hm := Lib.hid hm; clear hm
  go_enter Tryd.func34, Tryd.ntmps34
  go_wp2_with fail
  refine (new_holds _ Hp.out).mono ?_
  rintro e w1 ⟨rfl, h1, b1⟩
  go_wp2_with fail
  refine (write_holds _ [] A c l _ h1 (Hm.out.below b1 (Nat.le_refl _)) hl hc).mono ?_
  rintro e w2 ⟨rfl, h2, o2⟩
  have b2 := b1.trans (o2.below (Nat.le_of_lt h1.lt))
  go_wp2_with fail
  refine (marshal_holds _ _ _ h2).mono ?_
  rintro e w3 ⟨rfl, hroom, h3, b3⟩
  have b03 := b2.trans (b3.mono b2.size)
  rw [List.nil_append] at hroom
  have Hroom := Lib.hid hroom; clear hroom
  go_wp2_with fail
  go_quiet (fail)
  go_wp2_with fail
  go_ret2
  exact ⟨_, rfl, b2.size, Hroom.out, b03.trans ⟨rfl, rfl, rfl, Nat.le_refl _, fun _ _ => rfl⟩⟩
end Go.Proofs.YtmcjajeglmjghaaDoor
