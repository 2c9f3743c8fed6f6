/- The digest's Write: it holds what the format says of all bytes written so far. (Printed by genwrite2.py.) -/
import Derived.Test.YtmcjajeglmjghaaDoorNew
import Derived.Test.YtmcjajeglmjghaaDoorWMath
namespace Go.Proofs.YtmcjajeglmjghaaDoor
open Go.RowKit

theorem run_sliceArr (D n : Nat) (a : Int) (ha : a = n) (hn : n < 32) (W : World) :
    (Instr.sliceAt 75 (.pointer (some ⟨D, 5, none⟩)) (some (.int .i64 a)) none none).run Tryd.prog W = .ok (.slice (some ⟨D, 5 + n, none⟩) (32 - n) (32 - n)) W := by
  obtain ⟨i0, hi0, hz0, hz1, hz2⟩ := info_parts info5
  subst ha
  have e2 : ¬ 32 = n := by omega
  simp only [Instr.sliceAt, Instr.sureAddr, run_underlying Tryd.underlying75, Instr.sliceBounds, Instr.sliceBound, asIntOf, sizeOf, typeInfo, Sem.run_bind, Sem.run_pure, Result.andThen_ok]
  simp [hi0, hz1, e2, add_at]
  intro h; omega
theorem byteV_one {b : List UInt8} : ∀ v ∈ b.map byteV, v.oneCell' = true := by
  intro v hv
  obtain ⟨c, _, rfl⟩ := List.mem_map.1 hv
  rfl
theorem Mem.src {w : World} {B : Nat} {A : Option Addr} {b : List UInt8} (h : Mem w B A b) (k : Nat) (hl : 0 < ((b.take k).map byteV).length) : ∃ ad, A = some ad ∧ ∀ j v, ((b.take k).map byteV)[j]? = some v → w.cell? (ad.add j) = some v := by
  obtain ⟨g, o, rfl, _, hb⟩ := h (by simp at hl; omega)
  refine ⟨_, rfl, fun j v hv => ?_⟩
  rw [List.getElem?_map] at hv
  obtain ⟨c, hc, rfl⟩ := Option.map_eq_some_iff.1 hv
  rw [List.getElem?_take] at hc
  split at hc
  · obtain ⟨hj, rfl⟩ := List.getElem?_eq_some_iff.1 hc
    rw [add_at]
    exact hb j hj
  · cases hc
theorem Dig.setn' {w : World} {D : Nat} {s : St} {t : B64} {m : List UInt8} {n : Nat} (h : Dig w D s t m n) (j : Nat) (k : Int) (hk : k = j) : Dig (w.setCell ⟨D, 37, none⟩ (.int .i64 k)) D s t m j := by
  subst hk; exact h.setn j

section
attribute [local go_sem] u_add u_id u_addLen
attribute [local go_sem ↓] Go.wp_at_zero Go.wp_at_succ

set_option maxHeartbeats 4000000 in
set_option maxRecDepth 100000 in
theorem write_small (D : Nat) (A : Option Addr) (c : Nat) (b : List UInt8) (s : St) (t : B64) (m : List UInt8) (n : Nat) (w : World) (hD : Dig w D s t m n) (hm : Mem w D A b) (hs : n + b.length < 32) :
    Calls Tryd.prog 37 #[.pointer (some ⟨D, 0, none⟩), .slice A b.length c] w fun e w' => e = .returned (.tuple #[.int .i64 (b.length : Nat), .nilIface]) ∧ Dig w' D s (t + BitVec.ofNat 64 b.length) (over m n b) (n + b.length) ∧ Only D w w' := by
  have c4 := hD.c4
  have cn := hD.cn
  have f4 := hD.frozen 4
  have hs' : (n : Int) + (b.length : Int) < 32 := by omega
  have hd1 : Dig (w.setCell ⟨D, 4, none⟩ (.int .u64 (U (t + BitVec.ofNat 64 b.length)))) D s (t + BitVec.ofNat 64 b.length) m n := hD.set4 _
  have ho1 : Only D w (w.setCell ⟨D, 4, none⟩ (.int .u64 (U (t + BitVec.ofNat 64 b.length)))) := (Only.refl D w).setCell _ _
  have hm1 : Mem (w.setCell ⟨D, 4, none⟩ (.int .u64 (U (t + BitVec.ofNat 64 b.length)))) D A b := hm.below (ho1.below (Nat.le_of_lt hD.lt)) (Nat.le_refl _)
  have q3 := fun W : World => run_sliceArr D n (n : Int) rfl (by omega) W
  have hcs : (b.map byteV).length = Nat.min b.length (32 - n) := by rw [List.length_map]; exact (Nat.min_eq_left (by omega)).symm
  have hfit : 5 + n + (b.map byteV).length ≤ (digCells s (t + BitVec.ofNat 64 b.length) m n).length := by simp [digCells, hD.1]; omega
  have hsrc := hm1.src b.length
  rw [List.take_length] at hsrc
  have Hd1 := Lib.hid hd1; clear hd1
  have Ho1 := Lib.hid ho1; clear ho1
  have Hcs := Lib.hid hcs; clear hcs
  have Hfit := Lib.hid hfit; clear hfit
  have Hsrc := Lib.hid hsrc; clear hsrc
  clear hm hm1
  go_enter Tryd.func37, Tryd.ntmps37
  go_wp2_with fail
  go_region_law (refine step_copy_only rfl (.tmp 32) (.tmp 33) 22 22 rfl 5 Tryd.underlying22 info5size (some ⟨D, 5 + n, none⟩) A (32 - n) (32 - n) b.length c rfl rfl D (5 + n) (digCells s (t + BitVec.ofNat 64 b.length) m n) 77 Hd1.out.2 (b.map byteV) Hcs.out (fun h => ⟨rfl, Hsrc.out h⟩) Hfit.out byteV_one ?_; intro w2 hg2 ho2)
  have d2 := Hd1.out.over n b (by omega) hg2.out
  have cn2 := d2.cn
  have fn2 := d2.frozen 37
  go_wp2
  go_ret2
  exact ⟨rfl, d2.setn' _ _ (by omega), (Ho1.out.drew.trans ho2).setCell _ _⟩

set_option maxHeartbeats 8000000 in
set_option maxRecDepth 100000 in
theorem write_aligned (D : Nat) (A : Option Addr) (c : Nat) (b : List UInt8) (s : St) (t : B64) (m : List UInt8) (w : World) (hD : Dig w D s t m 0) (hm : Mem w D A b) (hl : b.length ≤ c) (hc : b.length ≤ 140737488355328) (hb32 : 32 ≤ b.length) :
    Calls Tryd.prog 37 #[.pointer (some ⟨D, 0, none⟩), .slice A b.length c] w fun e w' => e = .returned (.tuple #[.int .i64 (b.length : Nat), .nilIface]) ∧
      Dig w' D (blocksN (b.length / 32) s b) (t + BitVec.ofNat 64 b.length) (over m 0 (b.drop (whole b))) (b.drop (whole b)).length ∧ Only D w w' := by
  have c4 := hD.c4
  have cn := hD.cn
  have f4 := hD.frozen 4
  have hd1 : Dig (w.setCell ⟨D, 4, none⟩ (.int .u64 (U (t + BitVec.ofNat 64 b.length)))) D s (t + BitVec.ofNat 64 b.length) m 0 := hD.set4 _
  have ho1 : Only D w (w.setCell ⟨D, 4, none⟩ (.int .u64 (U (t + BitVec.ofNat 64 b.length)))) := (Only.refl D w).setCell _ _
  have hm1 : Mem (w.setCell ⟨D, 4, none⟩ (.int .u64 (U (t + BitVec.ofNat 64 b.length)))) D A b := hm.below (ho1.below (Nat.le_of_lt hD.lt)) (Nat.le_refl _)
  have Hd1 := Lib.hid hd1; clear hd1
  have Ho1 := Lib.hid ho1; clear ho1
  have Hm1 := Lib.hid hm1; clear hm1
  clear hm hD
  go_enter Tryd.func37, Tryd.ntmps37
  · have hd32 : decide ((32 : Int) ≤ (b.length : Int)) = true := by simp; omega
    obtain ⟨nw, hnw⟩ : ∃ nw, b.length / 32 * 32 = nw := ⟨_, rfl⟩
    have hnwl : nw ≤ b.length := by omega
    have h57 := writeBlocks_any D A (c) b s (t + BitVec.ofNat 64 b.length) m 0 (w.setCell ⟨D, 4, none⟩ (.int .u64 (U (t + BitVec.ofNat 64 b.length)))) (by omega) (by omega) Hm1.out Hd1.out
    rw [hnw] at h57
    have H57 := Lib.hid h57; clear h57
    have s5 := fun W : World => run_sliceFrom A b.length (c) nw (nw : Int) rfl hnwl W
    have Hnw := Lib.hid hnw; clear hnw
    obtain ⟨q, hq⟩ : ∃ q, b.drop nw = q := ⟨_, rfl⟩
    have hqq : b.length - nw = q.length := by rw [← hq, List.length_drop]
    have hq32 : q.length < 32 := by have := Hnw.out; omega
    rw [hqq] at s5
    clear hqq
    have Hmq := Lib.hid (fun (W : World) (h : Mem W D A b) => (show Mem W D (cutA A (c) nw) q from by rw [← hq]; exact h.cut (by omega) nw))
    have Hq := Lib.hid hq; clear hq
    obtain ⟨A2, hA2⟩ : ∃ A2, cutA A (c) nw = A2 := ⟨_, rfl⟩
    rw [hA2] at s5 Hmq
    clear hA2
    go_wp2_with fail
    refine H57.out.mono ?_
    rintro e w5 ⟨rfl, hd5, ho5⟩
    have hm5 := Hmq.out _ (Mem.below Hm1.out (ho5.below (Nat.le_of_lt (Dig.lt Hd1.out))) (Nat.le_refl _))
    have hs5 := hm5.src q.length
    rw [List.take_length] at hs5
    have hcs : (q.map byteV).length = Nat.min q.length 32 := by rw [List.length_map]; exact (Nat.min_eq_left (by omega)).symm
    have hfit : 5 + 0 + (q.map byteV).length ≤ (digCells (blocksN (b.length / 32) s b) (t + BitVec.ofNat 64 b.length) m 0).length := by simp [digCells, hd5.1]; omega
    obtain ⟨w6, hrun, hg6, ho6⟩ := run_copy_only (P := Tryd.prog) w5 22 22 3 5 Tryd.underlying22 info5size (some ⟨D, 5, none⟩) A2 32 32 q.length (c - nw) D (5 + 0) _ 77 hd5.2 (q.map byteV) hcs (fun h => ⟨rfl, hs5 h⟩) hfit byteV_one
    have d6 := Dig.over hd5 0 q (by omega) hg6
    have cn6 := d6.cn
    have fn6 := d6.frozen 37
    clear hs5 hm5 hcs hfit hg6 hd5
    go_wp2_with fail
    go_ret2
    refine ⟨rfl, ?_, ((Ho1.out.trans ho5).trans ho6).setCell _ _⟩
    have hfin := d6.setn q.length
    have ew : whole b = nw := Hnw.out
    rw [ew, Hq.out]
    exact hfin

set_option maxHeartbeats 16000000 in
set_option maxRecDepth 100000 in
theorem write_fill (D : Nat) (A : Option Addr) (c : Nat) (b : List UInt8) (s : St) (t : B64) (m : List UInt8) (n : Nat) (w : World) (hD : Dig w D s t m n) (hm : Mem w D A b) (hl : b.length ≤ c) (hc : b.length ≤ 140737488355328) (h0 : 0 < n) (hn : n < 32) (hb32 : 32 ≤ n + b.length) :
    Calls Tryd.prog 37 #[.pointer (some ⟨D, 0, none⟩), .slice A b.length c] w fun e w' => e = .returned (.tuple #[.int .i64 (b.length : Nat), .nilIface]) ∧
      Dig w' D (blocksN ((b.drop (32 - n)).length / 32) (step s (over m n (b.take (32 - n)))) (b.drop (32 - n))) (t + BitVec.ofNat 64 b.length) (over (over m n (b.take (32 - n))) 0 ((b.drop (32 - n)).drop (whole (b.drop (32 - n))))) ((b.drop (32 - n)).drop (whole (b.drop (32 - n)))).length ∧ Only D w w' := by
  have c4 := hD.c4
  have cn := hD.cn
  have f4 := hD.frozen 4
  have hs' : (32 : Int) ≤ (n : Int) + (b.length : Int) := by omega
  have h0' : (0 : Int) < (n : Int) := by omega
  have hn' : (n : Int) < 32 := by omega
  have hdn : decide ((0 : Int) < (n : Int)) = true := by simp; omega
  have hlow : (b.length : Int) ≤ 140737488355328 := by omega
  have hd1 : Dig (w.setCell ⟨D, 4, none⟩ (.int .u64 (U (t + BitVec.ofNat 64 b.length)))) D s (t + BitVec.ofNat 64 b.length) m n := hD.set4 _
  have ho1 : Only D w (w.setCell ⟨D, 4, none⟩ (.int .u64 (U (t + BitVec.ofNat 64 b.length)))) := (Only.refl D w).setCell _ _
  have hm1 : Mem (w.setCell ⟨D, 4, none⟩ (.int .u64 (U (t + BitVec.ofNat 64 b.length)))) D A b := hm.below (ho1.below (Nat.le_of_lt hD.lt)) (Nat.le_refl _)
  have q3 := fun W : World => run_sliceArr D n (n : Int) rfl (by omega) W
  have hcs : ((b.take (32 - n)).map byteV).length = Nat.min b.length (32 - n) := by rw [List.length_map, List.length_take]; exact Nat.min_comm _ _
  have hcl : (b.take (32 - n)).length = 32 - n := by rw [List.length_take]; omega
  have hfit : 5 + n + ((b.take (32 - n)).map byteV).length ≤ (digCells s (t + BitVec.ofNat 64 b.length) m n).length := by rw [List.length_map, hcl]; simp [digCells, hD.1]; omega
  have hsrc := hm1.src (32 - n)
  obtain ⟨mm, hmm⟩ : ∃ mm, over m n (b.take (32 - n)) = mm := ⟨_, rfl⟩
  obtain ⟨b', hb'⟩ : ∃ b', b.drop (32 - n) = b' := ⟨_, rfl⟩
  rw [hmm, hb']
  have s4 := fun W : World => run_sliceFrom A b.length c (32 - n) (32 - (n : Int)) (by omega) (by omega) W
  have hbl : b.length - (32 - n) = b'.length := by rw [← hb', List.length_drop]
  rw [hbl] at s4
  have Hmc := Lib.hid (fun (W : World) (h : Mem W D A b) => (show Mem W D (cutA A c (32 - n)) b' from by rw [← hb']; exact h.cut hl (32 - n)))
  have hbc : b'.length ≤ c - (32 - n) := by omega
  have hcc : b'.length ≤ 140737488355328 := by omega
  clear hbl hb'
  obtain ⟨A', hA'⟩ : ∃ A', cutA A c (32 - n) = A' := ⟨_, rfl⟩
  obtain ⟨c', hc'⟩ : ∃ c', c - (32 - n) = c' := ⟨_, rfl⟩
  rw [hA', hc'] at s4
  rw [hA'] at Hmc
  rw [hc'] at hbc
  clear hA' hc'
  have Hs4 := Lib.hid s4; clear s4
  have Hm0 := Lib.hid hm
  have Hmm := Lib.hid hmm; clear hmm
  have Hd1 := Lib.hid hd1; clear hd1
  have Ho1 := Lib.hid ho1; clear ho1
  have Hcs := Lib.hid hcs; clear hcs
  have Hcl := Lib.hid hcl; clear hcl
  have Hfit := Lib.hid hfit; clear hfit
  have Hsrc := Lib.hid hsrc; clear hsrc
  have Hm1 := Lib.hid hm1; clear hm1
  have hlt := hD.lt
  clear hm hD
  go_enter Tryd.func37, Tryd.ntmps37
  go_upto_region 7 with fail
  go_cut [] (fun wx => Dig wx D s (t + BitVec.ofNat 64 b.length) mm n ∧ Only D w wx)
  case first =>
    go_region_law (refine step_copy_only rfl (.tmp 55) (.tmp 56) 22 22 rfl 5 Tryd.underlying22 info5size (some ⟨D, 5 + n, none⟩) A (32 - n) (32 - n) b.length c rfl rfl D (5 + n) (digCells s (t + BitVec.ofNat 64 b.length) m n) 77 Hd1.out.2 ((b.take (32 - n)).map byteV) Hcs.out (fun h => ⟨rfl, Hsrc.out h⟩) Hfit.out byteV_one ?_; intro w2 hg2 ho2)
    all_goals (go_wp2_with fail; go_meet; exact ⟨by rw [← Hmm.out]; exact Hd1.out.over n _ (by rw [Hcl.out]; omega) hg2.out, Ho1.out.drew.trans ho2⟩)
  case rest =>
  obtain ⟨hdx, hox⟩ := hcut
  have Hox := Lib.hid hox; clear hox
  have hmml : mm.length = 32 := hdx.1
  clear q3 c4 cn f4
  have c0x := hdx.c0
  have f0x := hdx.frozen 0
  have Hdx := Lib.hid hdx; clear hdx
  go_upto_region 8 with fail
  go_cut [] (fun wx => Dig wx D { s with v1 := rnd s.v1 (ln mm 0) } (t + BitVec.ofNat 64 b.length) mm n ∧ Only D w wx)
  case first =>
    go_region_with (first | (go_at_call 56; refine (u64_any D 5 _ _ ((mm.drop 0).take 8) _ (by omega) (by simp; omega) (by exact ((Hdx.out.bytes.drop 0).take 8))).mono ?_; rintro e w3 ⟨rfl, hb3⟩; have d3 := Dig.below (by exact Hdx.out) hb3 (by exact Hdx.out.lt); have c3 := d3.c0; have f3 := d3.frozen 0; have D3 := Lib.hid d3; clear d3; have B3 := Lib.hid hb3; clear hb3) | (go_at_call 55; refine (round_any _ _ _).mono ?_; rintro e w' ⟨rfl, rfl⟩))
    all_goals (go_wp2_with fail; go_meet; exact ⟨D3.out.set0 _, (Hox.out.drew.trans (Only.of_below B3.out)).setCell _ _⟩)
  case rest =>
  clear c0x f0x Hdx Hox
  obtain ⟨hdx, hox⟩ := hcut
  have Hox := Lib.hid hox; clear hox
  have c1x := hdx.c1
  have f1x := hdx.frozen 1
  have Hdx := Lib.hid hdx; clear hdx
  go_upto_region 9 with fail
  go_cut [] (fun wx => Dig wx D { s with v1 := rnd s.v1 (ln mm 0), v2 := rnd s.v2 (ln mm 8) } (t + BitVec.ofNat 64 b.length) mm n ∧ Only D w wx)
  case first =>
    go_region_with (first | (go_at_call 56; refine (u64_any D 13 _ _ ((mm.drop 8).take 8) _ (by omega) (by simp; omega) (by exact ((Hdx.out.bytes.drop 8).take 8))).mono ?_; rintro e w3 ⟨rfl, hb3⟩; have d3 := Dig.below (by exact Hdx.out) hb3 (by exact Hdx.out.lt); have c3 := d3.c1; have f3 := d3.frozen 1; have D3 := Lib.hid d3; clear d3; have B3 := Lib.hid hb3; clear hb3) | (go_at_call 55; refine (round_any _ _ _).mono ?_; rintro e w' ⟨rfl, rfl⟩))
    all_goals (go_wp2_with fail; go_meet; exact ⟨D3.out.set1 _, (Hox.out.drew.trans (Only.of_below B3.out)).setCell _ _⟩)
  case rest =>
  clear c1x f1x Hdx Hox
  obtain ⟨hdx, hox⟩ := hcut
  have Hox := Lib.hid hox; clear hox
  have c2x := hdx.c2
  have f2x := hdx.frozen 2
  have Hdx := Lib.hid hdx; clear hdx
  go_upto_region 10 with fail
  go_cut [] (fun wx => Dig wx D { s with v1 := rnd s.v1 (ln mm 0), v2 := rnd s.v2 (ln mm 8), v3 := rnd s.v3 (ln mm 16) } (t + BitVec.ofNat 64 b.length) mm n ∧ Only D w wx)
  case first =>
    go_region_with (first | (go_at_call 56; refine (u64_any D 21 _ _ ((mm.drop 16).take 8) _ (by omega) (by simp; omega) (by exact ((Hdx.out.bytes.drop 16).take 8))).mono ?_; rintro e w3 ⟨rfl, hb3⟩; have d3 := Dig.below (by exact Hdx.out) hb3 (by exact Hdx.out.lt); have c3 := d3.c2; have f3 := d3.frozen 2; have D3 := Lib.hid d3; clear d3; have B3 := Lib.hid hb3; clear hb3) | (go_at_call 55; refine (round_any _ _ _).mono ?_; rintro e w' ⟨rfl, rfl⟩))
    all_goals (go_wp2_with fail; go_meet; exact ⟨D3.out.set2 _, (Hox.out.drew.trans (Only.of_below B3.out)).setCell _ _⟩)
  case rest =>
  clear c2x f2x Hdx Hox
  obtain ⟨hdx, hox⟩ := hcut
  have Hox := Lib.hid hox; clear hox
  have c3x := hdx.c3
  have f3x := hdx.frozen 3
  have Hdx := Lib.hid hdx; clear hdx
  go_upto_region 11 with fail
  go_cut [] (fun wx => Dig wx D (step s mm) (t + BitVec.ofNat 64 b.length) mm n ∧ Only D w wx)
  case first =>
    go_region_with (first | (go_at_call 56; refine (u64_any D 29 _ _ ((mm.drop 24).take 8) _ (by omega) (by simp; omega) (by exact ((Hdx.out.bytes.drop 24).take 8))).mono ?_; rintro e w3 ⟨rfl, hb3⟩; have d3 := Dig.below (by exact Hdx.out) hb3 (by exact Hdx.out.lt); have c3 := d3.c3; have f3 := d3.frozen 3; have D3 := Lib.hid d3; clear d3; have B3 := Lib.hid hb3; clear hb3) | (go_at_call 55; refine (round_any _ _ _).mono ?_; rintro e w' ⟨rfl, rfl⟩))
    all_goals (go_wp2_with fail; go_meet; exact ⟨D3.out.set3 _, (Hox.out.drew.trans (Only.of_below B3.out)).setCell _ _⟩)
  case rest =>
  clear c3x f3x Hdx Hox
  obtain ⟨hdx, hox⟩ := hcut
  have Hox := Lib.hid hox; clear hox
  have cnx := hdx.cn
  have fnx := hdx.frozen 37
  have s4 := Hs4.out
  clear Hd1 Ho1 Hm1 Hcs Hcl Hfit Hsrc
  have Hd1 := Lib.hid (show Dig (wc.setCell ⟨D, 37, none⟩ (.int .i64 0)) D (step s mm) (t + BitVec.ofNat 64 b.length) mm 0 from hdx.setn 0)
  have Ho1 := Lib.hid (show Only D w (wc.setCell ⟨D, 37, none⟩ (.int .i64 0)) from Hox.out.setCell _ _)
  have Hm1 := Lib.hid (Hmc.out _ (Hm0.out.below (Ho1.out.below (Nat.le_of_lt hlt)) (Nat.le_refl _)))
  have hbnd : (b'.length : Int) ≤ 140737488355328 := by omega
  clear hdx Hs4 Hmc Hm0 Hox
  by_cases h32 : 32 ≤ b'.length
  · have hd32 : decide ((32 : Int) ≤ (b'.length : Int)) = true := by simp; omega
    obtain ⟨nw, hnw⟩ : ∃ nw, b'.length / 32 * 32 = nw := ⟨_, rfl⟩
    have hnwl : nw ≤ b'.length := by omega
    have h57 := writeBlocks_any D A' (c') b' (step s mm) (t + BitVec.ofNat 64 b.length) mm 0 (wc.setCell ⟨D, 37, none⟩ (.int .i64 0)) (by omega) (by omega) Hm1.out Hd1.out
    rw [hnw] at h57
    have H57 := Lib.hid h57; clear h57
    have s5 := fun W : World => run_sliceFrom A' b'.length (c') nw (nw : Int) rfl hnwl W
    have Hnw := Lib.hid hnw; clear hnw
    obtain ⟨q, hq⟩ : ∃ q, b'.drop nw = q := ⟨_, rfl⟩
    have hqq : b'.length - nw = q.length := by rw [← hq, List.length_drop]
    have hq32 : q.length < 32 := by have := Hnw.out; omega
    rw [hqq] at s5
    clear hqq
    have Hmq := Lib.hid (fun (W : World) (h : Mem W D A' b') => (show Mem W D (cutA A' (c') nw) q from by rw [← hq]; exact h.cut (by omega) nw))
    have Hq := Lib.hid hq; clear hq
    obtain ⟨A2, hA2⟩ : ∃ A2, cutA A' (c') nw = A2 := ⟨_, rfl⟩
    rw [hA2] at s5 Hmq
    clear hA2
    go_wp2_with fail
    refine H57.out.mono ?_
    rintro e w5 ⟨rfl, hd5, ho5⟩
    have hm5 := Hmq.out _ (Mem.below Hm1.out (ho5.below (Nat.le_of_lt (Dig.lt Hd1.out))) (Nat.le_refl _))
    have hs5 := hm5.src q.length
    rw [List.take_length] at hs5
    have hcs : (q.map byteV).length = Nat.min q.length 32 := by rw [List.length_map]; exact (Nat.min_eq_left (by omega)).symm
    have hfit : 5 + 0 + (q.map byteV).length ≤ (digCells (blocksN (b'.length / 32) (step s mm) b') (t + BitVec.ofNat 64 b.length) mm 0).length := by simp [digCells, hd5.1]; omega
    obtain ⟨w6, hrun, hg6, ho6⟩ := run_copy_only (P := Tryd.prog) w5 22 22 3 5 Tryd.underlying22 info5size (some ⟨D, 5, none⟩) A2 32 32 q.length (c' - nw) D (5 + 0) _ 77 hd5.2 (q.map byteV) hcs (fun h => ⟨rfl, hs5 h⟩) hfit byteV_one
    have d6 := Dig.over hd5 0 q (by omega) hg6
    have cn6 := d6.cn
    have fn6 := d6.frozen 37
    clear hs5 hm5 hcs hfit hg6 hd5
    go_wp2_with fail
    go_ret2
    refine ⟨rfl, ?_, ((Ho1.out.trans ho5).trans ho6).setCell _ _⟩
    have hfin := d6.setn q.length
    have ew : whole b' = nw := Hnw.out
    rw [ew, Hq.out]
    exact hfin
  · have h32' : b'.length < 32 := by omega
    clear h32
    have hd32 : decide ((32 : Int) ≤ (b'.length : Int)) = false := by simp; omega
    have hs5 := Mem.src Hm1.out b'.length
    rw [List.take_length] at hs5
    have hcs : (b'.map byteV).length = Nat.min b'.length 32 := by rw [List.length_map]; exact (Nat.min_eq_left (by omega)).symm
    have hfit : 5 + 0 + (b'.map byteV).length ≤ (digCells (step s mm) (t + BitVec.ofNat 64 b.length) mm 0).length := by simp [digCells, Hd1.out.1]; omega
    obtain ⟨w6, hrun, hg6, ho6⟩ := run_copy_only (P := Tryd.prog) (wc.setCell ⟨D, 37, none⟩ (.int .i64 0)) 22 22 3 5 Tryd.underlying22 info5size (some ⟨D, 5, none⟩) A' 32 32 b'.length (c') D (5 + 0) _ 77 Hd1.out.2 (b'.map byteV) hcs (fun h => ⟨rfl, hs5 h⟩) hfit byteV_one
    have d6 := Dig.over Hd1.out 0 b' (by omega) hg6
    have cn6 := d6.cn
    have fn6 := d6.frozen 37
    clear hs5 hcs hfit hg6
    go_wp2_with fail
    go_ret2
    refine ⟨rfl, ?_, (Ho1.out.trans ho6).setCell _ _⟩
    have hfin := d6.setn b'.length
    have ew : whole b' = 0 := by unfold whole; omega
    have e0 : b'.length / 32 = 0 := by omega
    rw [ew, e0, List.drop_zero]
    exact hfin

end
end Go.Proofs.YtmcjajeglmjghaaDoor
