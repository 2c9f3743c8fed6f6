/- The walk of laws.FnSplit. -/
import Derived.Test.YtmcjajeglmjghaaDoorWI
import Derived.Test.YtmcjajeglmjghaaDoorWH
namespace Go.Proofs.YtmcjajeglmjghaaDoor
open Go.RowKit

theorem run_sliceMid (A : Option Addr) (n c lo k : Nat) (a b : Int) (ha : a = lo) (hb : b = (lo + k : Nat)) (h2 : lo + k ≤ c) (W : World) :
    (Instr.slice 22 (.slice A n c) (some (.int .i64 a)) (some (.int .i64 b)) none).run Tryd.prog W = .ok (.slice (cutA A c lo) k (c - lo)) W := by
  obtain ⟨i0, hi0, hz0, hz1, hz2⟩ := info_parts info5
  subst ha hb
  have e4 : ((lo : Int) + k).toNat = lo + k := by omega
  simp only [Instr.slice, run_underlying Tryd.underlying22, Instr.sliceBounds, Instr.sliceBound, asIntOf, sizeOf, typeInfo, Sem.run_bind, Sem.run_pure, Result.andThen_ok]
  simp [hi0, hz1, cutA]
  rw [if_pos (by omega), if_pos (by omega), e4, Nat.add_sub_cancel_left]
theorem Mem.take {w : World} {B : Nat} {A : Option Addr} {l : List UInt8} (h : Mem w B A l) (k : Nat) : Mem w B A (l.take k) := fun hl => by
  obtain ⟨g, o, e, hg, hb⟩ := h (by simp at hl; omega)
  exact ⟨g, o, e, hg, hb.take k⟩
/-- Bytes divided at two places. -/
def cut3 (A : Option Addr) (c : Nat) (b : List UInt8) (i j : Nat) : List Piece := [⟨A, c, b.take i⟩, ⟨cutA A c i, c - i, (b.drop i).take j⟩, ⟨cutA A c (i + j), c - (i + j), b.drop (i + j)⟩]
theorem allB_cut3 (A : Option Addr) (c : Nat) (b : List UInt8) (i j : Nat) : allB (cut3 A c b i j) = b := by
  simp only [cut3, allB, List.flatMap_cons, List.flatMap_nil, List.append_nil]
  rw [← List.drop_drop, List.take_append_drop, List.take_append_drop]
theorem cut3_there {w : World} {B : Nat} {A : Option Addr} {c : Nat} {b : List UInt8} {i j : Nat} (h : Mem w B A b) (hl : b.length ≤ c) (hb : b.length ≤ 140737488355328) (hij : i + j ≤ b.length) : ∀ q ∈ cut3 A c b i j, q.There w B := by
  intro q hq
  simp only [cut3, List.mem_cons, List.not_mem_nil, or_false] at hq
  rcases hq with rfl | rfl | rfl
  · exact ⟨by simp; omega, by simp; omega, h.take i⟩
  · exact ⟨by simp; omega, by simp; omega, (h.cut hl i).take j⟩
  · exact ⟨by simp; omega, by simp; omega, h.cut hl (i + j)⟩
theorem cut3_vals {A : Option Addr} {c : Nat} {b : List UInt8} {i j : Nat} (hij : i + j ≤ b.length) : (cut3 A c b i j).map Piece.val = [.slice A i c, .slice (cutA A c i) j (c - i), .slice (cutA A c (i + j)) (b.length - (i + j)) (c - (i + j))] := by
  simp only [cut3, List.map_cons, List.map_nil, Piece.val, List.length_take, List.length_drop]
  rw [Nat.min_eq_left (by omega), Nat.min_eq_left (by omega)]

section
attribute [local go_sem ↓] Go.wp_at_zero Go.wp_at_succ
set_option maxHeartbeats 8000000 in
theorem fnSplit_walk (A : Option Addr) (c : Nat) (b : List UInt8) (n m : Int) (w : World) (hl : b.length ≤ c) (hc : c ≤ 140737488351232) (hm : Mem w w.heap.size A b) (_wf1 : (Lit.int .i64 n).wf = true) (_wf2 : (Lit.int .i64 m).wf = true) (hp : w.cell? ⟨0, 0, none⟩ = some (.int .u64 (U P1))) :
    Calls Tryd.prog 15 #[.slice A b.length c, .int .i64 n, .int .i64 m] w fun e w' => e = .returned (.bool true) ∧ Below w.heap.size w w' := by
  have hpos : 0 < w.heap.size := cell_pos hp
  have hbl : b.length ≤ 140737488351232 := by omega
  have Hm := Lib.hid hm; clear hm
  have Hp := Lib.hid hp; clear hp
  go_enter Tryd.func15, Tryd.ntmps15
  go_wp2_with fail
  refine (place_any n ((b.length : Int) + 1) w (by omega) (by omega)).mono ?_
  rintro e w1 ⟨i, hi, rfl, rfl⟩
  have hi' : i ≤ b.length := by omega
  clear hi
  go_wp2_with fail
  refine (place_any m ((b.length : Int) - (i : Int) + 1) w (by omega) (by omega)).mono ?_
  rintro e w1 ⟨j, hj, rfl, rfl⟩
  have hij : i + j ≤ b.length := by omega
  clear hj
  have s1 := fun W : World => run_sliceTo22 A b.length c i (i : Int) rfl (by omega) W
  have s2 := fun W : World => run_sliceMid A b.length c i j (i : Int) ((i : Int) + (j : Int)) rfl (by omega) (by omega) W
  have s3 := fun W : World => run_sliceFrom A b.length c (i + j) ((i : Int) + (j : Int)) (by omega) (by omega) W
  have hwr : IntKind.i64.wrap ((i : Int) + (j : Int)) = (i : Int) + (j : Int) := IntWalk.i64_in _ (by omega)
  have ba : Below w.heap.size w (w.alloc (.cells #[.slice A i c, .slice (cutA A c i) j (c - i), .slice (cutA A c (i + j)) (b.length - (i + j)) (c - (i + j))] 22)) := (Below.refl _ w).alloc (Nat.le_refl _) _
  have hr := rws_new w (w.heap.size + 1) (cut3 A c b i j) (by omega) (cut3_there Hm.out hl (by omega) hij)
  rw [cut3_vals hij] at hr
  have h28 : ∀ W : World, W = (w.alloc (.cells #[.slice A i c, .slice (cutA A c i) j (c - i), .slice (cutA A c (i + j)) (b.length - (i + j)) (c - (i + j))] 22)).drew → Calls Tryd.prog 28 #[.slice (some ⟨w.heap.size, 0, none⟩) 3 3] W fun e w' => e = .returned (.int .u64 (U (xxh b))) ∧ Below w.heap.size w w' := by
    rintro W rfl
    have hr2 : Rws (w.alloc (.cells #[.slice A i c, .slice (cutA A c i) j (c - i), .slice (cutA A c (i + j)) (b.length - (i + j)) (c - (i + j))] 22)).drew (w.alloc (.cells #[.slice A i c, .slice (cutA A c i) j (c - i), .slice (cutA A c (i + j)) (b.length - (i + j)) (c - (i + j))] 22)).drew.heap.size (some ⟨w.heap.size, 0, none⟩) (cut3 A c b i j) := by
      have h3 : Rws (w.alloc (.cells #[.slice A i c, .slice (cutA A c i) j (c - i), .slice (cutA A c (i + j)) (b.length - (i + j)) (c - (i + j))] 22)).drew (w.heap.size + 1) (some ⟨w.heap.size, 0, none⟩) (cut3 A c b i j) := hr
      simpa using h3
    have h := whole_any (some ⟨w.heap.size, 0, none⟩) 3 (cut3 A c b i j) (w.alloc (.cells #[.slice A i c, .slice (cutA A c i) j (c - i), .slice (cutA A c (i + j)) (b.length - (i + j)) (c - (i + j))] 22)).drew (by simp [cut3]) (by rw [allB_cut3]; omega) hr2 (prime_below Hp.out ba.drew hpos)
    rw [allB_cut3] at h
    refine (show Calls Tryd.prog 28 #[.slice (some ⟨w.heap.size, 0, none⟩) 3 3] _ _ from h).mono ?_
    rintro e w' ⟨he, hb⟩
    exact ⟨he, ba.drew.trans (hb.mono (by simp))⟩
  have H28 := Lib.hid h28; clear h28 hr ba
  go_wp2_with fail
  have hnil : ∀ (W : World), W.cell? ⟨0, 0, none⟩ = some (.int .u64 (U P1)) → Calls Tryd.prog 22 #[.slice none 0 0] W fun e w' => e = .returned (.int .u64 (U (xxh []))) ∧ Below W.heap.size W w' := fun W h => isum64_any none 0 [] W (Nat.le_refl _) (by simp) (Mem.nil _ _ _) h
  have hnil2 : ∀ (W : World), Calls Tryd.prog 26 #[.slice none 0 0] W fun e w' => e = .returned (.int .u64 (U (xxh []))) ∧ Below W.heap.size W w' := fun W => ssum_any none 0 [] W (Nat.le_refl _) (by simp) (Mem.nil _ _ _)
  have Hnil := Lib.hid hnil; clear hnil
  have Hnil2 := Lib.hid hnil2; clear hnil2
  have he0 : (U (xxh b) == U (xxh b)) = true := by simp
  go_region_with (first | (go_at_call 28; refine (H28.out _ rfl).mono ?_; rintro e w2 ⟨rfl, b2⟩; have B2 := Lib.hid b2; clear b2) | (go_at_call_of 22 (Value.slice none 0 0); refine (Hnil.out _ (prime_below Hp.out B3.out hpos)).mono ?_; rintro e w4 ⟨rfl, b4⟩; have B4 := Lib.hid (B3.out.trans (b4.mono B3.out.size)); clear b4) | (go_at_call 22; refine (isum64_any A c b _ hl (by omega) ((Hm.out.below B2.out (Nat.le_refl _)).more B2.out.size) (prime_below Hp.out B2.out hpos)).mono ?_; rintro e w3 ⟨rfl, b3⟩; have B3 := Lib.hid (B2.out.trans (b3.mono B2.out.size)); clear b3) | (go_at_call 26; refine (Hnil2.out _).mono ?_; rintro e w5 ⟨rfl, b5⟩; have B5 := Lib.hid (B4.out.trans (b5.mono B4.out.size)); clear b5))
  go_wp2_with fail
  go_ret
  exact ⟨rfl, B5.out⟩
end
end Go.Proofs.YtmcjajeglmjghaaDoor
