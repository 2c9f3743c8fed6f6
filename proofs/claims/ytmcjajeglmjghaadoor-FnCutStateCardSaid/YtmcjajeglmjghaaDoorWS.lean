/- The walk of laws.FnCutState. -/
import Derived.Test.YtmcjajeglmjghaaDoorRes
namespace Go.Proofs.YtmcjajeglmjghaaDoor
open Go.RowKit

set_option maxHeartbeats 2000000 in
theorem fnCutState_walk (A : Option Addr) (c : Nat) (l : List UInt8) (n x : Int) (w : World) (hl : l.length ≤ c) (hc : c ≤ 140737488351232) (hm : Mem w w.heap.size A l) (_wf1 : (Lit.int .i64 n).wf = true) (wf2 : (Lit.int .u8 x).wf = true) (hp : w.cell? ⟨0, 0, none⟩ = some (.int .u64 (U P1))) :
    Calls Tryd.prog 17 #[.slice A l.length c, .int .i64 n, .int .u8 x] w fun e w' => e = .returned (.bool true) ∧ Below w.heap.size w w' := by
  have hpos : 0 < w.heap.size := cell_pos hp
  have h34 := Lib.hid (state_any A c l w hl (by omega) hm hp)
  have Hp := Lib.hid hp; clear hp hm
  go_enter Tryd.func17, Tryd.ntmps17
  go_wp2_with fail
  refine h34.out.mono ?_
  rintro e w1 ⟨g, rfl, hg, hroom, b1⟩
  have Hroom := Lib.hid hroom; clear hroom
  go_wp2_with fail
  refine (place_any n 76 w1 (by omega) (by omega)).mono ?_
  rintro e w1' ⟨i, hi, rfl, rfl⟩
  have hi' : i ≤ 75 := by omega
  clear hi
  have s1 := fun W : World => run_sliceTo22 (some ⟨g, 0, none⟩) 76 76 i (i : Int) rfl (by omega) W
  have hgl := Hroom.out.lt
  obtain ⟨Q, hQ⟩ : ∃ Q, pad (stL l) = Q := ⟨_, rfl⟩
  have hQl : Q.length = 76 := by rw [← hQ]; exact pad_length Hroom.out.1
  have hby := Hroom.out.bytes
  rw [hQ] at hby
  have hmq : Mem w1 w1.heap.size (some ⟨g, 0, none⟩) Q := fun _ => ⟨g, 0, rfl, hgl, hby⟩
  have hti : (Q.take i).length = i := by rw [List.length_take]; omega
  have hmi : Mem w1 w1.heap.size (some ⟨g, 0, none⟩) (Q.take i) := fun _ => ⟨g, 0, rfl, hgl, hby.take i⟩
  have h35 := resumed_no none 0 [] (some ⟨g, 0, none⟩) 76 (Q.take i) (.slice none 0 0) w1 (Nat.le_refl _) (by simp) (Mem.nil _ _ _) (by omega) (by omega) hmi (prime_below Hp.out b1 hpos)
  rw [hti] at h35
  have H35 : Hid (Calls Tryd.prog 35 #[.slice none 0 0, .slice (some ⟨g, 0, none⟩) i 76, .slice none 0 0] w1 fun e w' => e = .returned (.tuple #[.int .u64 0, .bool false]) ∧ Below w1.heap.size w1 w') := Lib.hid h35
  have Hmq := Lib.hid hmq
  have HQl := Lib.hid hQl
  clear h35 hmi hti hmq hby hQ hQl
  go_wp2_with fail
  refine H35.out.mono ?_
  rintro e w2 ⟨rfl, b2⟩
  clear H35 s1
  have b02 := b1.trans (b2.mono b1.size)
  have hQl := HQl.out
  obtain ⟨y, rfl⟩ : ∃ y : UInt8, x = y.toNat := ⟨_, byte_of wf2⟩
  obtain ⟨v3, w3, hrun3, hv3, b3, _, _⟩ := run_append_bytes w2 w2.heap.size 22 (.slice none 0 0) [] (OwnB.nil _ _) _ (some ⟨g, 0, none⟩) Q 76 (Hmq.out.below b2 (Nat.le_refl _)) (by simp; omega) (Nat.le_refl _)
  rw [List.nil_append] at hv3
  rw [hQl] at hrun3
  have hv3' := hv3.alloc (.cells ([y].map byteV).toArray 5)
  have hmn := mem_new w3 [y] 5
  obtain ⟨v4, w4, hrun4, hv4, b4, _, _⟩ := run_append_bytes _ w2.heap.size 22 _ _ hv3' _ _ [y] 1 hmn (by simp; omega) (by simp; have := b3.size; omega)
  have b24 : Below w2.heap.size w2 w4 := b3.trans (((Below.refl _ w3).alloc b3.size _).trans b4)
  have b04 := b02.trans (b24.mono b02.size)
  obtain ⟨A4, c4, rfl, hl4, hm4⟩ := hv4.form
  have h77 : (Q ++ [y]).length = 77 := by rw [List.length_append, hQl]; rfl
  have h36 := resumed_no none 0 [] A4 c4 (Q ++ [y]) (.slice none 0 0) w4 (Nat.le_refl _) (by simp) (Mem.nil _ _ _) hl4 (by omega) hm4 (prime_below Hp.out b04 hpos)
  rw [h77] at h36 hrun4
  have H36 : Hid (Calls Tryd.prog 35 #[.slice none 0 0, .slice A4 77 c4, .slice none 0 0] w4 fun e w' => e = .returned (.tuple #[.int .u64 0, .bool false]) ∧ Below w4.heap.size w4 w') := Lib.hid h36
  have Hrun3 := Lib.hid hrun3
  have Hrun4 := Lib.hid hrun4
  have B04 := Lib.hid b04
  clear hrun3 hrun4 hv3 hv3' hmn hv4 b4 b24 b04 hl4 hm4 h77 h36 b3 b02 b2 b1 hQl HQl Hmq Hroom
  have tok1 : True := trivial
  go_wp2_with (first | (at_builtin; have _t := tok1; refine wpList_append_run rfl (.const (.slice none 0 0)) (.tmp 36) 22 22 rfl _ _ rfl rfl v3 w3 Hrun3.out ?_; clear tok1) | (at_builtin; refine wpList_append_run rfl (.tmp 37) (.tmp 39) 22 22 rfl _ _ rfl rfl _ w4 Hrun4.out ?_))
  refine H36.out.mono ?_
  rintro e w5 ⟨rfl, b5⟩
  go_wp2_with fail
  go_ret
  exact ⟨rfl, B04.out.trans (b5.mono B04.out.size)⟩
end Go.Proofs.YtmcjajeglmjghaaDoor
