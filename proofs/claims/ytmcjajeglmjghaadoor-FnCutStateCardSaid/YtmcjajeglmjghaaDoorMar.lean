/- MarshalBinary: the digest's state as 76 bytes. -/
import Derived.Test.YtmcjajeglmjghaaDoorRoomA
import Derived.Test.YtmcjajeglmjghaaDoorWH
namespace Go.Proofs.YtmcjajeglmjghaaDoor
open Go.RowKit

def magic : List UInt8 := [120, 120, 104, 6]
def stB (s : St) (t : B64) (r : List UInt8) : List UInt8 := magic ++ leB s.v1 8 ++ leB s.v2 8 ++ leB s.v3 8 ++ leB s.v4 8 ++ leB t 8 ++ r
theorem run_make76 (w : World) : ∃ w', (Instr.makeSlice 22 (.int .i64 0) (.int .i64 76)).run Tryd.prog w = .ok (.slice (some ⟨w.heap.size, 0, none⟩) 0 76) w' ∧ Room w' w.heap.size [] ∧ Only w.heap.size w w' := by
  obtain ⟨i0, hi0, hz0, hz1, hz2⟩ := info_parts info5
  have hr := run_make (P := Tryd.prog) w 22 5 i0 _ Tryd.underlying22 hi0 hz0 .i64 .i64 0 76 (by omega) (by omega) (by rw [hz2]; omega) (by omega)
  refine ⟨_, hr, ⟨by simp, ?_⟩, (Only.refl _ w).alloc _⟩
  rw [heap_alloc_new, hz1]
  congr 2
  apply Array.ext'
  rw [show (Value.int IntKind.u8 0).cells = #[Value.int IntKind.u8 0] from rfl, toList_madeCells_one]
  simp [pad, byteV]
theorem run_sliceArrTo (D n : Nat) (a : Int) (ha : a = n) (hn : n ≤ 32) (W : World) :
    (Instr.sliceAt 75 (.pointer (some ⟨D, 5, none⟩)) none (some (.int .i64 a)) none).run Tryd.prog W = .ok (.slice (some ⟨D, 5, none⟩) n 32) W := by
  obtain ⟨i0, hi0, hz0, hz1, hz2⟩ := info_parts info5
  subst ha
  simp only [Instr.sliceAt, Instr.sureAddr, run_underlying Tryd.underlying75, Instr.sliceBounds, Instr.sliceBound, asIntOf, sizeOf, typeInfo, Sem.run_bind, Sem.run_pure, Result.andThen_ok]
  simp [hi0, hz1, add_at]
  omega
section
attribute [local go_sem] u_id
set_option maxHeartbeats 4000000 in
theorem marshal_any (D : Nat) (s : St) (t : B64) (m : List UInt8) (n : Nat) (w : World) (hD : Dig w D s t m n) (hn : n ≤ 32) :
    Calls Tryd.prog 53 #[.pointer (some ⟨D, 0, none⟩)] w fun e w' => e = .returned (.tuple #[.slice (some ⟨w.heap.size, 0, none⟩) 76 76, .nilIface]) ∧ Room w' w.heap.size (stB s t (m.take n)) ∧ Below w.heap.size w w' := by
  obtain ⟨w0, hmk, hr0, o0⟩ := run_make76 w
  obtain ⟨w1, hap, hr1, o1⟩ := run_append_pad_string w0 w.heap.size 22 [] hr0 ⟨#[120, 120, 104, 6]⟩ magic rfl (by decide)
  have hlt := hD.lt
  have hd1 := (hD.only o0 (by omega)).only o1 (by omega)
  have c0 := hd1.c0
  have Hd1 := Lib.hid hd1
  have O1 := Lib.hid (o0.trans o1)
  have Hr1 := Lib.hid hr1
  have hap' : (Builtin.append_ #[22, 9] 22 #[.slice (some ⟨w.heap.size, 0, none⟩) 0 76, .string ⟨#[120, 120, 104, 6]⟩]).run Tryd.prog w0 = .ok (.slice (some ⟨w.heap.size, 0, none⟩) 4 76) w1 := hap
  have Hap := Lib.hid hap'
  clear hr0 o0 o1 hr1 hap hap' hD hd1
  go_enter Tryd.func53, Tryd.ntmps53
  go_wp2_with (at_builtin; refine wpList_append_run rfl (.tmp 6) (.const (.string ⟨#[120, 120, 104, 6]⟩)) 22 9 rfl _ _ rfl rfl _ w1 Hap.out ?_)
  refine (padU64 w.heap.size 4 _ s.v1 _ Hr1.out (rfl) (by omega)).mono ?_
  rintro e w2 ⟨rfl, hr, oo⟩
  have hd := Hd1.out.only oo (by omega)
  have c := hd.c1
  have Hd2 := Lib.hid hd
  have O2 := Lib.hid (O1.out.trans oo)
  have Hr2 := Lib.hid hr
  clear hr oo hd Hd1 O1 Hr1 c0
  have cc := c
  clear c
  go_wp2_with fail
  refine (padU64 w.heap.size 12 _ s.v2 _ Hr2.out (by simp [magic, leB_length]) (by omega)).mono ?_
  rintro e w3 ⟨rfl, hr, oo⟩
  have hd := Hd2.out.only oo (by omega)
  have c := hd.c2
  have Hd3 := Lib.hid hd
  have O3 := Lib.hid (O2.out.trans oo)
  have Hr3 := Lib.hid hr
  clear hr oo hd Hd2 O2 Hr2 cc
  have cc := c
  clear c
  go_wp2_with fail
  refine (padU64 w.heap.size 20 _ s.v3 _ Hr3.out (by simp [magic, leB_length]) (by omega)).mono ?_
  rintro e w4 ⟨rfl, hr, oo⟩
  have hd := Hd3.out.only oo (by omega)
  have c := hd.c3
  have Hd4 := Lib.hid hd
  have O4 := Lib.hid (O3.out.trans oo)
  have Hr4 := Lib.hid hr
  clear hr oo hd Hd3 O3 Hr3 cc
  have cc := c
  clear c
  go_wp2_with fail
  refine (padU64 w.heap.size 28 _ s.v4 _ Hr4.out (by simp [magic, leB_length]) (by omega)).mono ?_
  rintro e w5 ⟨rfl, hr, oo⟩
  have hd := Hd4.out.only oo (by omega)
  have c := hd.c4
  have Hd5 := Lib.hid hd
  have O5 := Lib.hid (O4.out.trans oo)
  have Hr5 := Lib.hid hr
  clear hr oo hd Hd4 O4 Hr4 cc
  have cc := c
  clear c
  go_wp2_with fail
  refine (padU64 w.heap.size 36 _ t _ Hr5.out (by simp [magic, leB_length]) (by omega)).mono ?_
  rintro e w6 ⟨rfl, hr, oo⟩
  have hd := Hd5.out.only oo (by omega)
  have c := hd.cn
  have Hd6 := Lib.hid hd
  have O6 := Lib.hid (O5.out.trans oo)
  have Hr6 := Lib.hid hr
  clear hr oo hd Hd5 O5 Hr5 cc
  have cc := c
  clear c
  go_upto_region 8 with fail
  have q := fun W : World => run_sliceArrTo D n (n : Int) rfl hn W
  obtain ⟨L, hL⟩ : ∃ L, magic ++ leB s.v1 8 ++ leB s.v2 8 ++ leB s.v3 8 ++ leB s.v4 8 ++ leB t 8 = L := ⟨_, rfl⟩
  have e44 : L.length = 44 := by rw [← hL]; simp [magic, leB_length]
  have hr6 := Hr6.out
  rw [List.nil_append, hL] at hr6
  have hm32 : m.length = 32 := Hd6.out.1
  have etk : (m.take n).length = n := by rw [List.length_take]; omega
  have hmem : Mem w6 w6.heap.size (some ⟨D, 5, none⟩) (m.take n) := fun _ => ⟨D, 5, rfl, Hd6.out.lt, Hd6.out.bytes.take n⟩
  obtain ⟨w7, hrun, hr7, o7⟩ := run_append_pad w6.drew w.heap.size 22 L (by exact hr6) w6.heap.size (some ⟨D, 5, none⟩) (m.take n) 32 (by exact hmem) (by rw [e44, etk]; omega)
  rw [e44, etk] at hrun
  have hst : stB s t (m.take n) = L ++ m.take n := by unfold stB; rw [hL]
  have Hst := Lib.hid hst
  have Hrun := Lib.hid hrun
  have Hr7 := Lib.hid hr7
  have hd7 := (show Dig w6.drew D s t m n from Hd6.out).only o7 (by omega)
  have Hd7 := Lib.hid hd7
  have O7 := Lib.hid ((O6.out.drew).trans o7)
  clear hst hrun hr7 hd7 hr6 hmem o7 hL e44 etk hm32
  go_cut [4] (fun v wx => v = .slice (some ⟨w.heap.size, 0, none⟩) (44 + n) 76 ∧ wx = w7)
  case first =>
    go_region_law (refine step_append_run rfl (.tmp 38) (.tmp 46) 22 22 rfl _ _ rfl rfl _ w7 Hrun.out ?_)
    all_goals (go_wp2_with fail; go_meet; exact ⟨rfl, rfl⟩)
  case rest =>
  obtain ⟨rfl, rfl⟩ := hcut
  have c7 := Hd7.out.cn
  have q2 := fun W : World => run_sliceTo22 (some ⟨w.heap.size, 0, none⟩) (44 + n) 76 76 76 rfl (by omega) W
  have hx : (44 : Int) + (n : Int) + 32 - (n : Int) = 76 := by omega
  go_wp2_with fail
  go_ret2
  exact ⟨rfl, by rw [Hst.out]; exact Hr7.out, O7.out.new (Nat.le_refl _)⟩
end
end Go.Proofs.YtmcjajeglmjghaaDoor
