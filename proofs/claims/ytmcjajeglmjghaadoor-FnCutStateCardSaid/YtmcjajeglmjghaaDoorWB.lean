/- The walk of laws.FnWhole. -/
import Derived.Test.YtmcjajeglmjghaaDoorJoin
namespace Go.Proofs.YtmcjajeglmjghaaDoor
open Go.RowKit

/-- spec.Sum of a slice of the call's own -/
theorem ssum_own (v : Value) (l : List UInt8) (base : Nat) (w : World) (h : OwnB w base v l) (hl : l.length ≤ 140737488355328) :
    Calls Tryd.prog 26 #[v] w fun e w' => e = .returned (.int .u64 (U (xxh l))) ∧ Below w.heap.size w w' := by
  obtain ⟨A, c, rfl, h1, h2⟩ := h.form
  exact ssum_any A c l w h1 hl h2
theorem isum_own (v : Value) (l : List UInt8) (base : Nat) (w : World) (h : OwnB w base v l) (hl : l.length ≤ 140737488355328) (hp : w.cell? ⟨0, 0, none⟩ = some (.int .u64 (U P1))) :
    Calls Tryd.prog 22 #[v] w fun e w' => e = .returned (.int .u64 (U (xxh l))) ∧ Below w.heap.size w w' := by
  obtain ⟨A, c, rfl, h1, h2⟩ := h.form
  exact isum64_any A c l w h1 hl h2 hp

theorem fnWhole_walk (A : Option Addr) (c : Nat) (ps : List Piece) (w : World) (_hl : ps.length ≤ c) (hc : c * 24 ≤ 140737488351232 ∧ ∀ p ∈ ps, p.c ≤ 140737488351232)
    (hm : Row w w.heap.size A ps ∧ ∀ p ∈ ps, p.l.length ≤ p.c ∧ Mem w w.heap.size p.A p.l) (hu : (allB ps).length + ps.length ≤ 1048576) (hp : w.cell? ⟨0, 0, none⟩ = some (.int .u64 (U P1))) :
    Calls Tryd.prog 9 #[.slice A ps.length c] w fun e w' => e = .returned (.bool true) ∧ Below w.heap.size w w' := by
  have hr := Rws.of hm hc
  have h28 := Lib.hid (whole_any A c ps w (by omega) (by omega) hr hp)
  have Hr := Lib.hid hr
  clear hm hp hc hr
  go_enter Tryd.func9, Tryd.ntmps9
  go_wp2_with fail
  refine h28.out.mono ?_
  rintro e w1 ⟨rfl, b1⟩
  go_wp2_with fail
  refine (joined_any A c ps _ (by omega) (by omega) ((Hr.out.below b1 (Nat.le_refl _)).more b1.size)).mono ?_
  rintro e w2 ⟨v, rfl, hv, b2⟩
  go_wp2_with fail
  refine (ssum_own v _ _ _ hv (by omega)).mono ?_
  rintro e w3 ⟨rfl, b3⟩
  go_wp2_with fail
  go_ret
  exact ⟨rfl, b1.trans ((b2.mono b1.size).trans (b3.mono (Nat.le_trans b1.size b2.size)))⟩
end Go.Proofs.YtmcjajeglmjghaaDoor
