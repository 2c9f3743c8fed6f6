/- The walks of laws.FnSizes and laws.FnAgain, and of what they call. -/
import Derived.Test.YtmcjajeglmjghaaDoorDSum
namespace Go.Proofs.YtmcjajeglmjghaaDoor
open Go.RowKit

theorem prime_below {w w' : World} {B : Nat} (hp : w.cell? ⟨0, 0, none⟩ = some (.int .u64 (U P1))) (hb : Below B w w') (hB : 0 < B) : w'.cell? ⟨0, 0, none⟩ = some (.int .u64 (U P1)) :=
  (hb.cell (p := ⟨0, 0, none⟩) hB).trans hp
theorem size_any (a : Option Addr) (w : World) : Calls Tryd.prog 38 #[.pointer a] w fun e w' => e = .returned (.int .i64 8) ∧ w = w' := by
  go_enter Tryd.func38, Tryd.ntmps38
  go_wp2
  go_ret
  exact ⟨rfl, rfl⟩
theorem blockSize_any (a : Option Addr) (w : World) : Calls Tryd.prog 39 #[.pointer a] w fun e w' => e = .returned (.int .i64 32) ∧ w = w' := by
  go_enter Tryd.func39, Tryd.ntmps39
  go_wp2
  go_ret
  exact ⟨rfl, rfl⟩
theorem sizes_any (A : Option Addr) (c : Nat) (l : List UInt8) (w : World) (hl : l.length ≤ c) (hc : l.length ≤ 140737488355328) (hm : Mem w w.heap.size A l) (hp : w.cell? ⟨0, 0, none⟩ = some (.int .u64 (U P1))) :
    Calls Tryd.prog 21 #[.slice A l.length c] w fun e w' => e = .returned (.tuple #[.int .i64 8, .int .i64 32]) ∧ Below w.heap.size w w' := by
  have Hp := Lib.hid hp; clear hp
  have Hm := Lib.hid hm; clear hm
  go_enter Tryd.func21, Tryd.ntmps21
  go_wp2_with fail
  refine (new_holds _ Hp.out).mono ?_
  rintro e w1 ⟨rfl, h1, b1⟩
  go_wp2_with fail
  refine (write_holds _ [] A c l _ h1 (Hm.out.below b1 (Nat.le_refl _)) hl hc).mono ?_
  rintro e w2 ⟨rfl, h2, o2⟩
  go_wp2_with (first | (go_at_call 38; refine (size_any _ _).mono ?_; rintro e w' ⟨rfl, rfl⟩) | (go_at_call 39; refine (blockSize_any _ _).mono ?_; rintro e w' ⟨rfl, rfl⟩))
  go_ret2
  exact ⟨rfl, b1.trans (o2.below (Nat.le_of_lt h1.lt))⟩
theorem fnSizes_walk (A : Option Addr) (c : Nat) (l : List UInt8) (w : World) (hl : l.length ≤ c) (hc : c ≤ 140737488351232) (hm : Mem w w.heap.size A l) (hp : w.cell? ⟨0, 0, none⟩ = some (.int .u64 (U P1))) :
    Calls Tryd.prog 3 #[.slice A l.length c] w fun e w' => e = .returned (.bool true) ∧ Below w.heap.size w w' := by
  have h21 := Lib.hid (sizes_any A c l w hl (by omega) hm hp)
  clear hp hm
  go_enter Tryd.func3, Tryd.ntmps3
  go_wp2_with (go_at_call 21; refine h21.out.mono ?_; rintro e w1 ⟨rfl, hb1⟩)
  go_ret
  exact ⟨rfl, hb1⟩
theorem again_any (A B : Option Addr) (c d : Nat) (l b : List UInt8) (w : World) (hl : l.length ≤ c) (hc : l.length ≤ 140737488355328) (hm : Mem w w.heap.size A l) (hl2 : b.length ≤ d) (hd : b.length ≤ 140737488355328) (hm2 : Mem w w.heap.size B b) (hp : w.cell? ⟨0, 0, none⟩ = some (.int .u64 (U P1))) :
    Calls Tryd.prog 27 #[.slice A l.length c, .slice B b.length d] w fun e w' => e = .returned (.int .u64 (U (xxh b))) ∧ Below w.heap.size w w' := by
  have hpos : 0 < w.heap.size := cell_pos hp
  have Hp := Lib.hid hp; clear hp
  have Hm := Lib.hid hm; clear hm
  have Hm2 := Lib.hid hm2; clear hm2
  go_enter Tryd.func27, Tryd.ntmps27
  go_wp2_with fail
  refine (new_holds _ Hp.out).mono ?_
  rintro e w1 ⟨rfl, h1, b1⟩
  go_wp2_with fail
  refine (write_holds _ [] A c l _ h1 (Hm.out.below b1 (Nat.le_refl _)) hl hc).mono ?_
  rintro e w2 ⟨rfl, h2, o2⟩
  have b2 := b1.trans (o2.below (Nat.le_of_lt h1.lt))
  go_wp2_with fail
  refine (reset_holds _ _ _ h2 hpos (prime_below Hp.out b2 hpos)).mono ?_
  rintro e w3 ⟨rfl, h3, o3⟩
  have b3 := b2.trans (o3.below (Nat.le_of_lt h2.lt))
  go_wp2_with fail
  refine (write_holds _ [] B d b _ h3 (Hm2.out.below b3 (Nat.le_refl _)) hl2 hd).mono ?_
  rintro e w4 ⟨rfl, h4, o4⟩
  have b4 := b3.trans (o4.below (Nat.le_of_lt h3.lt))
  go_wp2_with fail
  refine (sum_holds _ _ _ h4 (by simp; omega)).mono ?_
  rintro e w5 ⟨rfl, b5⟩
  go_wp2_with fail
  go_ret
  exact ⟨rfl, b4.trans (b5.mono (by exact b4.size))⟩
theorem fnAgain_walk (A : Option Addr) (c : Nat) (l : List UInt8) (B : Option Addr) (d : Nat) (b : List UInt8) (w : World) (hl : l.length ≤ c) (hc : c ≤ 140737488351232) (hm : Mem w w.heap.size A l) (hl2 : b.length ≤ d) (hd : d ≤ 140737488351232) (hm2 : Mem w w.heap.size B b) (hp : w.cell? ⟨0, 0, none⟩ = some (.int .u64 (U P1))) :
    Calls Tryd.prog 7 #[.slice A l.length c, .slice B b.length d] w fun e w' => e = .returned (.bool true) ∧ Below w.heap.size w w' := by
  have h27 := Lib.hid (again_any A B c d l b w hl (by omega) hm hl2 (by omega) hm2 hp)
  clear hp hm
  go_enter Tryd.func7, Tryd.ntmps7
  go_wp2_with (go_at_call 27; refine h27.out.mono ?_; rintro e w1 ⟨rfl, hb1⟩)
  refine (ssum_any B d b _ hl2 (by omega) ((hm2.below hb1 (Nat.le_refl _)).more hb1.size)).mono ?_
  rintro e w2 ⟨rfl, hb2⟩
  go_wp2
  go_ret
  exact ⟨rfl, hb1.trans (hb2.mono hb1.size)⟩
end Go.Proofs.YtmcjajeglmjghaaDoor
