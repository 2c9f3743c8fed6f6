/- UnmarshalBinary: a state of 76 bytes is taken. (Printed by genunm.py.) -/
import Derived.Test.YtmcjajeglmjghaaDoorCon
import Derived.Test.YtmcjajeglmjghaaDoorTold
namespace Go.Proofs.YtmcjajeglmjghaaDoor
open Go.RowKit

theorem Bytes.left {w : World} {g o : Nat} {a b : List UInt8} (h : Bytes w g o (a ++ b)) : Bytes w g o a := by
  have := h.take a.length
  rwa [List.take_left] at this
theorem Bytes.right {w : World} {g o : Nat} {a b : List UInt8} (h : Bytes w g o (a ++ b)) (k : Nat) (hk : k = o + a.length) : Bytes w g k b := by
  subst hk
  have := h.drop a.length
  rwa [List.drop_left] at this
theorem Bytes.only {w w' : World} {D g o : Nat} {l : List UInt8} (h : Bytes w g o l) (ho : Only D w w') (hlt : g < w.heap.size) (hne : g ≠ D) : Bytes w' g o l :=
  h.keep fun j => by
    have hb := ho.block g hlt (by intro e; injection e with e; exact hne e)
    simp [World.cell?, hb]
theorem tmod32 (x : B64) : wrap64 ((U x).tmod 32) = ((x.toNat % 32 : Nat) : Int) := by
  have e : (U x).tmod 32 = ((x.toNat % 32 : Nat) : Int) := by
    unfold U
    rw [Int.tmod_eq_emod_of_nonneg (by omega)]
    omega
  rw [e]
  unfold wrap64
  omega
section
attribute [local go_sem] u_id
set_option maxHeartbeats 4000000 in
theorem unmarshal_yes (D g : Nat) (s : St) (t : B64) (m : List UInt8) (n : Nat) (x1 x2 x3 x4 x5 : B64) (r : List UInt8) (w : World) (hD : Dig w D s t m n) (hne : g ≠ D) (hr : r.length = 32) (hb : Bytes w g 0 (stB ⟨x1, x2, x3, x4⟩ x5 r)) :
    Calls Tryd.prog 54 #[.pointer (some ⟨D, 0, none⟩), .slice (some ⟨g, 0, none⟩) 76 76] w fun e w' => e = .returned .nilIface ∧ Dig w' D ⟨x1, x2, x3, x4⟩ x5 r (x5.toNat % 32) ∧ Only D w w' := by
  have hlt : g < w.heap.size := hb.lt (by simp [stB, magic])
  unfold stB at hb
  have b6 := hb.right 44 (by simp [magic, leB_length])
  have b5 := hb.left.right 36 (by simp [magic, leB_length])
  have b4 := hb.left.left.right 28 (by simp [magic, leB_length])
  have b3 := hb.left.left.left.right 20 (by simp [magic, leB_length])
  have b2 := hb.left.left.left.left.right 12 (by simp [magic, leB_length])
  have b1 := hb.left.left.left.left.left.right 4 (by simp [magic])
  have b0 := hb.left.left.left.left.left.left
  have q0 := fun W : World => run_sliceTo22 (some ⟨g, 0, none⟩) 76 76 4 4 rfl (by omega) W
  have hs : (convert 22 9 (.slice (some ⟨g, 0, none⟩) 4 76)).run Tryd.prog w = .ok (.string ⟨#[120, 120, 104, 6]⟩) w := run_string (l := magic) (B := w.heap.size) (fun _ => ⟨g, 0, rfl, hlt, b0⟩) 76
  have q1 : ∀ W : World, (Instr.slice 22 (.slice (some ⟨g, 0, none⟩) 76 76) (some (.int .i64 4)) none none).run Tryd.prog W = .ok (.slice (some ⟨g, 4, none⟩) 72 72) W := fun W => run_from22 g 0 76 76 4 4 rfl (by omega) (by omega) W
  clear hb b0
  have B1 := Lib.hid b1; clear b1
  have B2 := Lib.hid b2; clear b2
  have B3 := Lib.hid b3; clear b3
  have B4 := Lib.hid b4; clear b4
  have B5 := Lib.hid b5; clear b5
  have B6 := Lib.hid b6; clear b6
  have Hr := Lib.hid hr; clear hr
  have HD := Lib.hid hD; clear hD
  go_enter Tryd.func54, Tryd.ntmps54
  go_wp2_with fail
  refine (consume_any g 4 72 72 12 64 64 x1 _ rfl rfl rfl (by omega) B1.out).mono ?_
  rintro e w1 ⟨rfl, k1⟩
  have d1 := HD.out.below k1 HD.out.lt
  have fz1 := d1.frozen 0
  have cz1 := d1.c0
  have D1 := Lib.hid (d1.set0 x1); clear d1
  have O1 := Lib.hid (((Only.of_below (D := D) k1)).setCell 0 (.int .u64 (U x1))); clear k1
  go_wp2_with fail
  refine (consume_any g 12 64 64 20 56 56 x2 _ rfl rfl rfl (by omega) (B2.out.only O1.out hlt hne)).mono ?_
  rintro e w2 ⟨rfl, k2⟩
  have d2 := D1.out.below k2 D1.out.lt
  clear fz1 cz1
  have fz2 := d2.frozen 1
  have cz2 := d2.c1
  have D2 := Lib.hid (d2.set1 x2); clear d2
  have O2 := Lib.hid ((O1.out.trans (Only.of_below k2)).setCell 1 (.int .u64 (U x2))); clear k2
  go_wp2_with fail
  refine (consume_any g 20 56 56 28 48 48 x3 _ rfl rfl rfl (by omega) (B3.out.only O2.out hlt hne)).mono ?_
  rintro e w3 ⟨rfl, k3⟩
  have d3 := D2.out.below k3 D2.out.lt
  clear fz2 cz2
  have fz3 := d3.frozen 2
  have cz3 := d3.c2
  have D3 := Lib.hid (d3.set2 x3); clear d3
  have O3 := Lib.hid ((O2.out.trans (Only.of_below k3)).setCell 2 (.int .u64 (U x3))); clear k3
  go_wp2_with fail
  refine (consume_any g 28 48 48 36 40 40 x4 _ rfl rfl rfl (by omega) (B4.out.only O3.out hlt hne)).mono ?_
  rintro e w4 ⟨rfl, k4⟩
  have d4 := D3.out.below k4 D3.out.lt
  clear fz3 cz3
  have fz4 := d4.frozen 3
  have cz4 := d4.c3
  have D4 := Lib.hid (d4.set3 x4); clear d4
  have O4 := Lib.hid ((O3.out.trans (Only.of_below k4)).setCell 3 (.int .u64 (U x4))); clear k4
  go_wp2_with fail
  refine (consume_any g 36 40 40 44 32 32 x5 _ rfl rfl rfl (by omega) (B5.out.only O4.out hlt hne)).mono ?_
  rintro e w5 ⟨rfl, k5⟩
  have d5 := D4.out.below k5 D4.out.lt
  clear fz4 cz4
  have fz5 := d5.frozen 4
  have cz5 := d5.c4
  have D5 := Lib.hid (d5.set4 x5); clear d5
  have O5 := Lib.hid ((O4.out.trans (Only.of_below k5)).setCell 4 (.int .u64 (U x5))); clear k5
  have hm5 : Mem _ w.heap.size (some ⟨g, 44, none⟩) r := fun _ => ⟨g, 44, rfl, hlt, B6.out.only O5.out hlt hne⟩
  have hs5 := hm5.src r.length
  rw [List.take_length] at hs5
  have hcs : (r.map byteV).length = Nat.min 32 32 := by rw [List.length_map]; exact Hr.out
  have hfit : 5 + 0 + (r.map byteV).length ≤ (digCells ⟨x1, x2, x3, x4⟩ x5 m n).length := by simp [digCells, D5.out.1, Hr.out]
  obtain ⟨w6, hrun, hg6, ho6⟩ := run_copy_only (P := Tryd.prog) _ 22 22 3 5 Tryd.underlying22 info5size (some ⟨D, 5, none⟩) (some ⟨g, 44, none⟩) 32 32 32 32 D (5 + 0) _ 77 D5.out.2 (r.map byteV) hcs (fun h => ⟨rfl, hs5 h⟩) hfit byteV_one
  rw [List.length_map, Hr.out] at hrun
  have d6 := D5.out.over 0 r (by rw [Hr.out]; omega) hg6
  have c64 := d6.c4
  have c6n := d6.cn
  have f6n := d6.frozen 37
  have D6 := Lib.hid d6; clear d6
  have O6 := Lib.hid (O5.out.trans ho6)
  clear hs5 hm5 hcs hfit hg6 ho6
  go_wp2_with fail
  go_ret
  have eo : over m 0 r = r := by
    unfold over
    rw [Hr.out, List.drop_eq_nil_of_le (by rw [D5.out.1]; omega)]
    simp
  have d7 := D6.out
  rw [eo] at d7
  exact ⟨rfl, d7.setn' _ _ (tmod32 x5), O6.out.setCell _ _⟩
end
end Go.Proofs.YtmcjajeglmjghaaDoor
