/- The digest's Sum64. (Printed by gendsum.py.) -/
import Derived.Test.YtmcjajeglmjghaaDoorWrite
namespace Go.Proofs.YtmcjajeglmjghaaDoor
open Go.RowKit

theorem run_sliceArr2 (D n k : Nat) (a b : Int) (ha : a = n) (hb : b = (n + k : Nat)) (hn : n + k ≤ 32) (h0 : 0 < k) (W : World) :
    (Instr.sliceAt 75 (.pointer (some ⟨D, 5, none⟩)) (some (.int .i64 a)) (some (.int .i64 b)) none).run Tryd.prog W = .ok (.slice (some ⟨D, 5 + n, none⟩) k (32 - n)) W := by
  obtain ⟨i0, hi0, hz0, hz1, hz2⟩ := info_parts info5
  subst ha hb
  have e2 : ¬ 32 = n := by omega
  have e4 : ((n : Int) + k).toNat = n + k := by omega
  simp only [Instr.sliceAt, Instr.sureAddr, run_underlying Tryd.underlying75, Instr.sliceBounds, Instr.sliceBound, asIntOf, sizeOf, typeInfo, Sem.run_bind, Sem.run_pure, Result.andThen_ok]
  simp [hi0, hz1, e2, add_at]
  rw [if_pos (by omega), if_pos (by omega), e4, Nat.add_sub_cancel_left]

section
attribute [local go_sem] u_add u_mulP1 u_mulP2 u_mulP3 u_addP3 u_addP4 u_addP5 u_xor u_shr33 u_shr29 u_shr32 u_id u_byteP5
set_option maxHeartbeats 16000000 in
set_option maxRecDepth 100000 in
theorem dsum_short (D : Nat) (s : St) (t : B64) (m r : List UInt8) (w : World) (hD : Dig w D s t m r.length) (hr32 : r.length < 32) (hr : m.take r.length = r) (ht : U t < 32) :
    Calls Tryd.prog 51 #[.pointer (some ⟨D, 0, none⟩)] w fun e w' => e = .returned (.int .u64 (U (endF (tailF (s.v3 + P5 + t) r)))) ∧ Below w.heap.size w w' := by
  have hmr : Mem w w.heap.size (some ⟨D, 5, none⟩) r := fun _ => ⟨D, 5, rfl, hD.lt, by have := hD.bytes.take r.length; rwa [hr] at this⟩
  have c2 := hD.c2
  have c4 := hD.c4
  have cn := hD.cn
  have hd : decide ((32 : Int) ≤ U t) = false := by simp; omega
  have Hr := Lib.hid hr; clear hr
  clear hD
  go_enter Tryd.func51, Tryd.ntmps51
  go_wp2_with fail
  go_quiet (fail)
  go_wp2_with fail
  go_loopw [3, 8] (fun h i wr => T2 (s.v3 + P5 + t) r (some ⟨D, 5, none⟩) w h i wr) (fun _ i _ => r.length - (intOf i).toNat)
  case atStart => exact ⟨0, 0, _, rfl, rfl, by omega, rfl, rfl, hmr, (Below.refl _ _).trans ⟨rfl, rfl, rfl, Nat.le_refl _, fun _ _ => rfl⟩⟩
  case round =>
    obtain ⟨k, j, hh, hj8, he, hj, rfl, rfl, hm2, hb2⟩ := hrel
    have He0 := Lib.hid he; clear he
    have Hj8 := Lib.hid hj8; clear hj8
    by_cases hlt : j + 8 ≤ r.length
    · obtain ⟨g', o', hA, hg, hby⟩ := hm2 (by omega)
      cases hA
      have hj32 : (j : Int) + 8 ≤ 32 := by omega
      have s2 := fun W : World => run_sliceArr2 D j 8 (j : Int) ((j : Int) + 8) rfl (by omega) (by omega) (by omega) W
      go_wp2_with fail
      refine (u64_in D 5 j _ _ r _ (by omega) (by omega) hby).mono ?_
      rintro e w1 ⟨rfl, hb1⟩
      have hbn := hb2.trans (hb1.mono hb2.size)
      have hmn := hm2.below hb1 hb2.size
      clear hby hb1 hb2 hm2
      go_wp2_with (first | (go_at_call 55; refine (round0_any _ _).mono ?_; rintro e w' ⟨rfl, rfl⟩) | (go_at_call 63; refine (rol27_any _ _).mono ?_; rintro e w' ⟨rfl, rfl⟩))
      go_roundw
      case rel => exact T2.next Hj8.out He0.out (by omega) hlt hmn hbn
      case measure => simp [intOf]; omega
    · have hlt' : r.length < j + 8 := by omega
      clear hlt
      by_cases h4 : j + 4 ≤ r.length
      · obtain ⟨g', o', hA, hg, hby⟩ := hm2 (by omega)
        cases hA
        have hj32 : (j : Int) + 4 ≤ 32 := by omega
        have s2 := fun W : World => run_sliceArr2 D j 4 (j : Int) ((j : Int) + 4) rfl (by omega) (by omega) (by omega) W
        go_wp2_with fail
        refine (u32_in D 5 j _ _ r _ (by omega) (by omega) hby).mono ?_
        rintro e w1 ⟨rfl, hb1⟩
        have hbn := hb2.trans (hb1.mono hb2.size)
        have hmn := hm2.below hb1 hb2.size
        clear hby hb1 hb2 hm2
        go_wp2_with (go_at_call 65; refine (rol23_any _ _).mono ?_; rintro e w' ⟨rfl, rfl⟩)
        go_loopw [3, 8] (fun h i wr => T3 (halfF hh (lane ((r.drop j).take 4))) r (j + 4) (some ⟨D, 5, none⟩) w h i wr) (fun _ i _ => r.length - (intOf i).toNat)
        case atStart => exact ⟨(j + 4), (halfF hh (lane ((r.drop j).take 4))), by simp [singles], Nat.le_refl _, by omega, by first | rfl | go_num, rfl, hmn, hbn⟩
        case round =>
          obtain ⟨j, hh, he, hpj, hj, rfl, rfl, hm3, hb3⟩ := hrel
          have He := Lib.hid he; clear he
          by_cases hlt : j < r.length
          · obtain ⟨g', o', hA, hg', hby⟩ := hm3 (by omega)
            cases hA
            obtain ⟨b0, hb0⟩ : ∃ b0, r[j] = b0 := ⟨_, rfl⟩
            have hcell := hby j hlt
            rw [hb0] at hcell
            have Hb0 := Lib.hid hb0; clear hb0
            have hb256 := b0.toNat_lt
            have hlt' : (j : Int) < (r.length : Int) := by omega
            have hj32 : (j : Int) < 32 := by omega
            go_wp2_with (go_at_call 66; refine (rol11_any _ _).mono ?_; rintro e w' ⟨rfl, rfl⟩)
            go_roundw
            case rel => exact T3.next He.out hpj hlt Hb0.out (by omega) hm3 hb3
            case measure => simp [intOf]; omega
          · have hj' : j = r.length := by omega
            have Hj := Lib.hid hj'; clear hj'
            have hge : (r.length : Int) ≤ (j : Int) := by omega
            have hfin := T3.stop He.out Hj.out
            have Hfin := Lib.hid hfin; clear hfin
            go_wp2_with fail
            go_ret
            have hall := tail_half (s.v3 + P5 + t) r k (by rw [Hj8.out]; omega) (by rw [Hj8.out]; omega) (by rw [Hj8.out]; omega)
            rw [Hj8.out, He0.out] at hall
            have hall' := hall.symm.trans Hfin.out
            exact ⟨ret_int (congrArg U (congrArg endF hall'.symm)), hb3⟩
      · have h4' : r.length < j + 4 := by omega
        clear h4
        go_wp2_with fail
        go_loopw [3, 8] (fun h i wr => T3 hh r j (some ⟨D, 5, none⟩) w h i wr) (fun _ i _ => r.length - (intOf i).toNat)
        case atStart => exact ⟨j, hh, by simp [singles], Nat.le_refl _, by omega, by first | rfl | go_num, rfl, hm2, hb2⟩
        case round =>
          obtain ⟨j, hh, he, hpj, hj, rfl, rfl, hm3, hb3⟩ := hrel
          have He := Lib.hid he; clear he
          by_cases hlt : j < r.length
          · obtain ⟨g', o', hA, hg', hby⟩ := hm3 (by omega)
            cases hA
            obtain ⟨b0, hb0⟩ : ∃ b0, r[j] = b0 := ⟨_, rfl⟩
            have hcell := hby j hlt
            rw [hb0] at hcell
            have Hb0 := Lib.hid hb0; clear hb0
            have hb256 := b0.toNat_lt
            have hlt' : (j : Int) < (r.length : Int) := by omega
            have hj32 : (j : Int) < 32 := by omega
            go_wp2_with (go_at_call 66; refine (rol11_any _ _).mono ?_; rintro e w' ⟨rfl, rfl⟩)
            go_roundw
            case rel => exact T3.next He.out hpj hlt Hb0.out (by omega) hm3 hb3
            case measure => simp [intOf]; omega
          · have hj' : j = r.length := by omega
            have Hj := Lib.hid hj'; clear hj'
            have hge : (r.length : Int) ≤ (j : Int) := by omega
            have hfin := T3.stop He.out Hj.out
            have Hfin := Lib.hid hfin; clear hfin
            go_wp2_with fail
            go_ret
            have hall := tail_none (s.v3 + P5 + t) r k (by rw [Hj8.out]; omega) (by rw [Hj8.out]; omega) (by rw [Hj8.out]; omega)
            rw [Hj8.out, He0.out] at hall
            have hall' := hall.symm.trans Hfin.out
            exact ⟨ret_int (congrArg U (congrArg endF hall'.symm)), hb3⟩
set_option maxHeartbeats 16000000 in
set_option maxRecDepth 100000 in
theorem dsum_long (D : Nat) (s : St) (t : B64) (m r : List UInt8) (w : World) (hD : Dig w D s t m r.length) (hr32 : r.length < 32) (hr : m.take r.length = r) (ht : 32 ≤ U t) :
    Calls Tryd.prog 51 #[.pointer (some ⟨D, 0, none⟩)] w fun e w' => e = .returned (.int .u64 (U (endF (tailF (conv s + t) r)))) ∧ Below w.heap.size w w' := by
  have hmr : Mem w w.heap.size (some ⟨D, 5, none⟩) r := fun _ => ⟨D, 5, rfl, hD.lt, by have := hD.bytes.take r.length; rwa [hr] at this⟩
  have c0 := hD.c0
  have c1 := hD.c1
  have c2 := hD.c2
  have c3 := hD.c3
  have c4 := hD.c4
  have cn := hD.cn
  have hd : decide ((32 : Int) ≤ U t) = true := by simp; omega
  have Hr := Lib.hid hr; clear hr
  clear hD
  go_enter Tryd.func51, Tryd.ntmps51
  go_wp2_with fail
  go_quiet (fail)
  go_wp2_with (first | (go_at_call 58; refine (rol1_any _ _).mono ?_; rintro e w' ⟨rfl, rfl⟩) | (go_at_call 59; refine (rol7_any _ _).mono ?_; rintro e w' ⟨rfl, rfl⟩) | (go_at_call 60; refine (rol12_any _ _).mono ?_; rintro e w' ⟨rfl, rfl⟩) | (go_at_call 61; refine (rol18_any _ _).mono ?_; rintro e w' ⟨rfl, rfl⟩) | (go_at_call 62; refine (mergeRound_any _ _ _).mono ?_; rintro e w' ⟨rfl, rfl⟩))
  go_quiet (fail)
  go_wp2_with fail
  go_loopw [3, 8] (fun h i wr => T2 (conv s + t) r (some ⟨D, 5, none⟩) w h i wr) (fun _ i _ => r.length - (intOf i).toNat)
  case atStart => exact ⟨0, 0, _, rfl, rfl, by omega, rfl, rfl, hmr, (Below.refl _ _).trans ⟨rfl, rfl, rfl, Nat.le_refl _, fun _ _ => rfl⟩⟩
  case round =>
    obtain ⟨k, j, hh, hj8, he, hj, rfl, rfl, hm2, hb2⟩ := hrel
    have He0 := Lib.hid he; clear he
    have Hj8 := Lib.hid hj8; clear hj8
    by_cases hlt : j + 8 ≤ r.length
    · obtain ⟨g', o', hA, hg, hby⟩ := hm2 (by omega)
      cases hA
      have hj32 : (j : Int) + 8 ≤ 32 := by omega
      have s2 := fun W : World => run_sliceArr2 D j 8 (j : Int) ((j : Int) + 8) rfl (by omega) (by omega) (by omega) W
      go_wp2_with fail
      refine (u64_in D 5 j _ _ r _ (by omega) (by omega) hby).mono ?_
      rintro e w1 ⟨rfl, hb1⟩
      have hbn := hb2.trans (hb1.mono hb2.size)
      have hmn := hm2.below hb1 hb2.size
      clear hby hb1 hb2 hm2
      go_wp2_with (first | (go_at_call 55; refine (round0_any _ _).mono ?_; rintro e w' ⟨rfl, rfl⟩) | (go_at_call 63; refine (rol27_any _ _).mono ?_; rintro e w' ⟨rfl, rfl⟩))
      go_roundw
      case rel => exact T2.next Hj8.out He0.out (by omega) hlt hmn hbn
      case measure => simp [intOf]; omega
    · have hlt' : r.length < j + 8 := by omega
      clear hlt
      by_cases h4 : j + 4 ≤ r.length
      · obtain ⟨g', o', hA, hg, hby⟩ := hm2 (by omega)
        cases hA
        have hj32 : (j : Int) + 4 ≤ 32 := by omega
        have s2 := fun W : World => run_sliceArr2 D j 4 (j : Int) ((j : Int) + 4) rfl (by omega) (by omega) (by omega) W
        go_wp2_with fail
        refine (u32_in D 5 j _ _ r _ (by omega) (by omega) hby).mono ?_
        rintro e w1 ⟨rfl, hb1⟩
        have hbn := hb2.trans (hb1.mono hb2.size)
        have hmn := hm2.below hb1 hb2.size
        clear hby hb1 hb2 hm2
        go_wp2_with (go_at_call 65; refine (rol23_any _ _).mono ?_; rintro e w' ⟨rfl, rfl⟩)
        go_loopw [3, 8] (fun h i wr => T3 (halfF hh (lane ((r.drop j).take 4))) r (j + 4) (some ⟨D, 5, none⟩) w h i wr) (fun _ i _ => r.length - (intOf i).toNat)
        case atStart => exact ⟨(j + 4), (halfF hh (lane ((r.drop j).take 4))), by simp [singles], Nat.le_refl _, by omega, by first | rfl | go_num, rfl, hmn, hbn⟩
        case round =>
          obtain ⟨j, hh, he, hpj, hj, rfl, rfl, hm3, hb3⟩ := hrel
          have He := Lib.hid he; clear he
          by_cases hlt : j < r.length
          · obtain ⟨g', o', hA, hg', hby⟩ := hm3 (by omega)
            cases hA
            obtain ⟨b0, hb0⟩ : ∃ b0, r[j] = b0 := ⟨_, rfl⟩
            have hcell := hby j hlt
            rw [hb0] at hcell
            have Hb0 := Lib.hid hb0; clear hb0
            have hb256 := b0.toNat_lt
            have hlt' : (j : Int) < (r.length : Int) := by omega
            have hj32 : (j : Int) < 32 := by omega
            go_wp2_with (go_at_call 66; refine (rol11_any _ _).mono ?_; rintro e w' ⟨rfl, rfl⟩)
            go_roundw
            case rel => exact T3.next He.out hpj hlt Hb0.out (by omega) hm3 hb3
            case measure => simp [intOf]; omega
          · have hj' : j = r.length := by omega
            have Hj := Lib.hid hj'; clear hj'
            have hge : (r.length : Int) ≤ (j : Int) := by omega
            have hfin := T3.stop He.out Hj.out
            have Hfin := Lib.hid hfin; clear hfin
            go_wp2_with fail
            go_ret
            have hall := tail_half (conv s + t) r k (by rw [Hj8.out]; omega) (by rw [Hj8.out]; omega) (by rw [Hj8.out]; omega)
            rw [Hj8.out, He0.out] at hall
            have hall' := hall.symm.trans Hfin.out
            exact ⟨ret_int (congrArg U (congrArg endF hall'.symm)), hb3⟩
      · have h4' : r.length < j + 4 := by omega
        clear h4
        go_wp2_with fail
        go_loopw [3, 8] (fun h i wr => T3 hh r j (some ⟨D, 5, none⟩) w h i wr) (fun _ i _ => r.length - (intOf i).toNat)
        case atStart => exact ⟨j, hh, by simp [singles], Nat.le_refl _, by omega, by first | rfl | go_num, rfl, hm2, hb2⟩
        case round =>
          obtain ⟨j, hh, he, hpj, hj, rfl, rfl, hm3, hb3⟩ := hrel
          have He := Lib.hid he; clear he
          by_cases hlt : j < r.length
          · obtain ⟨g', o', hA, hg', hby⟩ := hm3 (by omega)
            cases hA
            obtain ⟨b0, hb0⟩ : ∃ b0, r[j] = b0 := ⟨_, rfl⟩
            have hcell := hby j hlt
            rw [hb0] at hcell
            have Hb0 := Lib.hid hb0; clear hb0
            have hb256 := b0.toNat_lt
            have hlt' : (j : Int) < (r.length : Int) := by omega
            have hj32 : (j : Int) < 32 := by omega
            go_wp2_with (go_at_call 66; refine (rol11_any _ _).mono ?_; rintro e w' ⟨rfl, rfl⟩)
            go_roundw
            case rel => exact T3.next He.out hpj hlt Hb0.out (by omega) hm3 hb3
            case measure => simp [intOf]; omega
          · have hj' : j = r.length := by omega
            have Hj := Lib.hid hj'; clear hj'
            have hge : (r.length : Int) ≤ (j : Int) := by omega
            have hfin := T3.stop He.out Hj.out
            have Hfin := Lib.hid hfin; clear hfin
            go_wp2_with fail
            go_ret
            have hall := tail_none (conv s + t) r k (by rw [Hj8.out]; omega) (by rw [Hj8.out]; omega) (by rw [Hj8.out]; omega)
            rw [Hj8.out, He0.out] at hall
            have hall' := hall.symm.trans Hfin.out
            exact ⟨ret_int (congrArg U (congrArg endF hall'.symm)), hb3⟩
end

/-! ### what a digest holds -/
/-- Block D is a digest to which the bytes l have been written. -/
def Holds (w : World) (D : Nat) (l : List UInt8) : Prop := ∃ m, Dig w D (blocks l) (BitVec.ofNat 64 l.length) m (l.length % 32) ∧ m.take (l.length % 32) = rest l
theorem Holds.lt {w : World} {D : Nat} {l : List UInt8} (h : Holds w D l) : D < w.heap.size := by obtain ⟨m, hd, _⟩ := h; exact hd.lt
theorem Holds.below {w w' : World} {D : Nat} {l : List UInt8} (h : Holds w D l) {B : Nat} (hb : Below B w w') (hB : D < B) : Holds w' D l := by obtain ⟨m, hd, hr⟩ := h; exact ⟨m, hd.below hb hB, hr⟩
theorem Holds.only {w w' : World} {D : Nat} {l : List UInt8} (h : Holds w D l) {E : Nat} (ho : Only E w w') (hE : D ≠ E) : Holds w' D l := by obtain ⟨m, hd, hr⟩ := h; exact ⟨m, hd.only ho hE, hr⟩
theorem Holds.fresh {w : World} {D : Nat} {m : List UInt8} (h : Dig w D .init 0 m 0) : Holds w D [] := ⟨m, h, by simp [rest]⟩

/-- New: a digest to which nothing has been written. -/
theorem new_holds (w : World) (hp : w.cell? ⟨0, 0, none⟩ = some (.int .u64 (U P1))) :
    Calls Tryd.prog 36 #[] w fun e w' => e = .returned (.pointer (some ⟨w.heap.size, 0, none⟩)) ∧ Holds w' w.heap.size [] ∧ Below w.heap.size w w' :=
  (new_any w hp).mono fun _ _ ⟨he, hd, hb⟩ => ⟨he, .fresh hd, hb⟩
/-- Reset: as a new one. -/
theorem reset_holds (D : Nat) (l : List UInt8) (w : World) (h : Holds w D l) (h0 : 0 < D) (hp : w.cell? ⟨0, 0, none⟩ = some (.int .u64 (U P1))) :
    Calls Tryd.prog 50 #[.pointer (some ⟨D, 0, none⟩)] w fun e w' => e = .returned (.tuple #[]) ∧ Holds w' D [] ∧ Only D w w' := by
  obtain ⟨m, hd, _⟩ := h
  exact (reset_any D _ _ _ _ w hd h0 hp).mono fun _ _ ⟨he, hd, hb⟩ => ⟨he, .fresh hd, hb⟩
/-- Write: it holds the new bytes behind the old ones; it takes all of them, and does not fail. -/
theorem write_holds (D : Nat) (l : List UInt8) (A : Option Addr) (c : Nat) (b : List UInt8) (w : World) (h : Holds w D l) (hm : Mem w D A b) (hl : b.length ≤ c) (hc : b.length ≤ 140737488355328) :
    Calls Tryd.prog 37 #[.pointer (some ⟨D, 0, none⟩), .slice A b.length c] w fun e w' => e = .returned (.tuple #[.int .i64 (b.length : Nat), .nilIface]) ∧ Holds w' D (l ++ b) ∧ Only D w w' := by
  obtain ⟨m, hd, hr⟩ := h
  have hn : l.length % 32 < 32 := Nat.mod_lt _ (by omega)
  by_cases hs : l.length % 32 + b.length < 32
  · refine (write_small D A c b _ _ _ _ w hd hm hs).mono ?_
    rintro e w' ⟨he, hd', ho⟩
    obtain ⟨e1, e2, e3⟩ := small_ok l b m hr hs
    rw [total_app] at hd'
    exact ⟨he, ⟨_, by rw [e1, e2]; exact hd', by rw [e2]; exact e3⟩, ho⟩
  · by_cases h0 : l.length % 32 = 0
    · rw [h0] at hd
      refine (write_aligned D A c b _ _ _ w hd hm hl hc (by omega)).mono ?_
      rintro e w' ⟨he, hd', ho⟩
      obtain ⟨e1, e2, e3⟩ := end_ok l b m h0
      rw [total_app] at hd'
      exact ⟨he, ⟨_, by rw [e1, e2]; exact hd', by rw [e2]; exact e3⟩, ho⟩
    · refine (write_fill D A c b _ _ _ _ w hd hm hl hc (by omega) hn (by omega)).mono ?_
      rintro e w' ⟨he, hd', ho⟩
      obtain ⟨f1, f2, f3⟩ := fill_ok l b (by omega) (by omega)
      have hov : over m (l.length % 32) (b.take (32 - l.length % 32)) = rest l ++ b.take (32 - l.length % 32) := by
        unfold over
        rw [hr, List.drop_eq_nil_of_le (by rw [hd.1, List.length_take]; omega), List.append_nil]
      rw [hov, ← f3] at hd'
      obtain ⟨e1, e2, e3⟩ := end_ok (l ++ b.take (32 - l.length % 32)) (b.drop (32 - l.length % 32)) (rest l ++ b.take (32 - l.length % 32)) f1
      rw [f2] at e1 e2 e3
      rw [total_app, ← e1] at hd'
      exact ⟨he, ⟨_, by rw [e2]; exact hd', by rw [e2]; exact e3⟩, ho⟩
/-- Sum64: the sum of the format of all bytes written. -/
theorem sum_holds (D : Nat) (l : List UInt8) (w : World) (h : Holds w D l) (hl : l.length < 18446744073709551616) :
    Calls Tryd.prog 51 #[.pointer (some ⟨D, 0, none⟩)] w fun e w' => e = .returned (.int .u64 (U (xxh l))) ∧ Below w.heap.size w w' := by
  obtain ⟨m, hd, hr⟩ := h
  have hlen := rest_length l
  rw [← hlen] at hd hr
  have hU := U_ofNat l.length hl
  by_cases h32 : 32 ≤ l.length
  · have hx : endF (tailF (conv (blocks l) + BitVec.ofNat 64 l.length) (rest l)) = xxh l := by
      unfold xxh sumOf startF; rw [if_pos h32]
    rw [← hx]
    exact dsum_long D _ _ m (rest l) w hd (rest_lt l) hr (by rw [hU]; omega)
  · have hx : endF (tailF ((blocks l).v3 + P5 + BitVec.ofNat 64 l.length) (rest l)) = xxh l := by
      unfold xxh sumOf startF; rw [if_neg h32, blocks_short l (by omega)]
      have e0 : St.init.v3 + P5 = P5 := BitVec.zero_add P5
      rw [e0]
    rw [← hx]
    exact dsum_short D _ _ m (rest l) w hd (rest_lt l) hr (by rw [hU]; omega)
end Go.Proofs.YtmcjajeglmjghaaDoor
