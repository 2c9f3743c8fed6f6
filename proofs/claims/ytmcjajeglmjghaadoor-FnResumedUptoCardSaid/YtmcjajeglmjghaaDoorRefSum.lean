/- The reference's sum: spec.Sum of some bytes is the sum of the format. (Printed by genrefsum.py.) -/
import Derived.Test.YtmcjajeglmjghaaDoorRef
namespace Go.Proofs.YtmcjajeglmjghaaDoor
open Go.RowKit

theorem stripes_any (A : Option Addr) (c : Nat) (l : List UInt8) (w : World) (hl : l.length ≤ c) (hc : l.length ≤ 140737488355328) (hm : Mem w w.heap.size A l) :
    Calls Tryd.prog 41 #[.slice A l.length c] w fun e w' => e = .returned (.tuple #[.int .u64 (U (startF (blocks l) l.length)), .int .i64 (whole l : Nat)]) ∧ Below w.heap.size w w' := by
  unfold startF
  by_cases h32 : 32 ≤ l.length
  · rw [if_pos h32]
    exact stripes_long A c l w hl hc hm h32
  · have e0 : whole l = 0 := by unfold whole; omega
    rw [if_neg h32, e0]
    refine (stripes_short A c l w (by omega)).mono ?_
    rintro e w' ⟨rfl, rfl⟩
    exact ⟨rfl, Below.refl _ _⟩

/-- The address of a slice that is cut at k: at the very end of the capacity the model keeps the old one. -/
def cutA (A : Option Addr) (c k : Nat) : Option Addr := if c = k then A else A.map (·.add k)
theorem add_at (g o k : Nat) : (⟨g, o, none⟩ : Addr).add k = ⟨g, o + k, none⟩ := by unfold Addr.add; split <;> simp_all
theorem Mem.cut {w : World} {B : Nat} {A : Option Addr} {l : List UInt8} (h : Mem w B A l) {c : Nat} (hc : l.length ≤ c) (k : Nat) : Mem w B (cutA A c k) (l.drop k) := fun hl => by
  obtain ⟨g, o, rfl, hg, hb⟩ := h (by simp at hl; omega)
  unfold cutA
  rw [if_neg (by simp at hl; omega)]
  exact ⟨g, o + k, by rw [Option.map_some, add_at], hg, hb.drop k⟩
theorem run_sliceFrom (A : Option Addr) (n c lo : Nat) (a : Int) (ha : a = lo) (h1 : lo ≤ n) (W : World) :
    (Instr.slice 22 (.slice A n c) (some (.int .i64 a)) none none).run Tryd.prog W = .ok (.slice (cutA A c lo) (n - lo) (c - lo)) W := by
  obtain ⟨i0, hi0, hz0, hz1, hz2⟩ := info_parts info5
  subst ha
  simp only [Instr.slice, run_underlying Tryd.underlying22, Instr.sliceBounds, Instr.sliceBound, asIntOf, sizeOf, typeInfo, Sem.run_bind, Sem.run_pure, Result.andThen_ok]
  simp [hi0, hz1, cutA, h1]

/-- k lanes of 8 bytes have been taken. -/
def R1 (h0 : B64) (l : List UInt8) (w0 : World) (b h : Value) (wr : World) : Prop :=
  ∃ (k : Nat) (r : List UInt8) (A : Option Addr) (c : Nat) (hh : B64), l.drop (8 * k) = r ∧ eights k h0 l = hh ∧ 8 * k ≤ l.length ∧ r.length ≤ c ∧ r.length ≤ 140737488355328 ∧ b = .slice A r.length c ∧ h = .int .u64 (U hh) ∧ Mem wr w0.heap.size A r ∧ Below w0.heap.size w0 wr
theorem R1.next {h0 : B64} {l : List UInt8} {w0 w1 : World} {k : Nat} {r : List UInt8} {A : Option Addr} {c : Nat} {hh : B64} (hr : l.drop (8 * k) = r) (he : eights k h0 l = hh) (hk : 8 * k ≤ l.length) (hc : r.length ≤ c) (hcc : r.length ≤ 140737488355328) (h8 : 8 ≤ r.length)
    (hm : Mem w1 w0.heap.size A r) (hb : Below w0.heap.size w0 w1) : R1 h0 l w0 (.slice (cutA A c 8) (r.length - 8) (c - 8)) (.int .u64 (U (eightF hh (lane (r.take 8))))) w1 := by
  refine ⟨k + 1, r.drop 8, cutA A c 8, c - 8, _, ?_, ?_, ?_, ?_, by simp; omega, by simp, rfl, hm.cut hc 8, hb⟩
  · rw [← hr, List.drop_drop]; rfl
  · rw [eights_succ, he, hr]
  · have := congrArg List.length hr; simp at this; omega
  · simp; omega
/-- j single bytes have been taken. -/
def R2 (h1 : B64) (q : List UInt8) (A : Option Addr) (w0 : World) (h n : Value) (wr : World) : Prop :=
  ∃ (j : Nat) (hh : B64), singles h1 (q.take j) = hh ∧ j ≤ q.length ∧ n = .int .i64 j ∧ h = .int .u64 (U hh) ∧ Mem wr w0.heap.size A q ∧ Below w0.heap.size w0 wr
theorem R2.next {h1 : B64} {q : List UInt8} {A : Option Addr} {w0 w1 : World} {j : Nat} {hh : B64} {n : Int} {c : UInt8} (he : singles h1 (q.take j) = hh) (hj : j < q.length) (hc : q[j] = c) (hn : n = (j + 1 : Nat)) (hm : Mem w1 w0.heap.size A q) (hb : Below w0.heap.size w0 w1) :
    R2 h1 q A w0 (.int .u64 (U (singleF hh (byteW c)))) (.int .i64 n) w1 := by
  subst hn
  exact ⟨j + 1, _, by rw [List.take_succ_eq_append_getElem hj, singles_snoc, he, hc], by omega, rfl, rfl, hm, hb⟩
theorem u_byteId (c : UInt8) : Value.int .u64 (c.toNat : Int) = .int .u64 (U (byteW c)) := by
  unfold byteW; rw [U_ofNat _ (by have := c.toNat_lt; omega)]

section
attribute [local go_sem] u_add u_id u_addLen
set_option maxHeartbeats 8000000 in
set_option maxRecDepth 100000 in
theorem ssum_any (A : Option Addr) (c : Nat) (l : List UInt8) (w : World) (hl : l.length ≤ c) (hc : l.length ≤ 140737488355328) (hm : Mem w w.heap.size A l) :
    Calls Tryd.prog 26 #[.slice A l.length c] w fun e w' => e = .returned (.int .u64 (U (xxh l))) ∧ Below w.heap.size w w' := by
  have h41 := Lib.hid (stripes_any A c l w hl hc hm)
  have hwl := whole_le l
  have s1 := fun W => run_sliceFrom A l.length c (whole l) (whole l : Nat) rfl hwl W
  obtain ⟨h0, hh0⟩ : ∃ h0, startF (blocks l) l.length = h0 := ⟨_, rfl⟩
  have Hh0 := Lib.hid hh0
  rw [hh0] at h41
  clear hh0
  have hlen : (l.length : Int) ≤ 140737488355328 := by omega
  go_enter Tryd.func26, Tryd.ntmps26
  go_wp2_with (go_at_call 41; refine h41.out.mono ?_; rintro e w1 ⟨rfl, hb1⟩)
  have hm1 := (hm.below hb1 (Nat.le_refl _)).cut hl (whole l)
  obtain ⟨q0, hq0⟩ : ∃ q0, l.drop (whole l) = q0 := ⟨_, rfl⟩
  rw [hq0] at hm1
  have hql : l.length - whole l = q0.length := by rw [← hq0, List.length_drop]
  have hx : endF (tailF (h0 + BitVec.ofNat 64 l.length) q0) = xxh l := by
    unfold xxh sumOf rest; rw [Hh0.out, hq0]
  have Hx := Lib.hid hx; clear hx
  clear hq0 s1 hm h41
  rw [hql]
  have hqc : q0.length ≤ c - whole l := by omega
  have hqcc : q0.length ≤ 140737488355328 := by omega
  clear hql
  generalize cutA A c (whole l) = A1 at *
  generalize c - whole l = c1 at *
  go_loopw [0, 3] (fun b h wr => R1 (h0 + BitVec.ofNat 64 l.length) q0 w b h wr) (fun b _ _ => sliceLen b)
  case atStart => exact ⟨0, q0, A1, c1, _, rfl, rfl, by omega, hqc, hqcc, rfl, rfl, hm1, hb1⟩
  case round =>
    obtain ⟨k, r, A', c', hh, hr, he, hk, hrc, hcc, rfl, rfl, hmr, hb⟩ := hrel
    have Hr := Lib.hid hr; clear hr
    have He := Lib.hid he; clear he
    clear hb1 hm1
    by_cases h8 : 8 ≤ r.length
    · obtain ⟨g, o, rfl, hg, hby⟩ := hmr (by omega)
      have s2 := fun W => run_sliceFrom (some ⟨g, o, none⟩) r.length c' 8 8 rfl h8 W
      go_wp2_with (first | (go_at_call 43; refine (lane_at g o 0 8 _ r _ (by omega) (by omega) (by exact hby)).mono ?_; rintro e w' ⟨rfl, rfl⟩) | (go_at_call 42; refine (eight_any _ _ _).mono ?_; rintro e w' ⟨rfl, m, rfl⟩))
      exact ⟨R1.next Hr.out He.out hk hrc hcc h8 (hmr.below (B' := w.heap.size) ⟨rfl, rfl, rfl, Nat.le_refl _, fun _ _ => rfl⟩ (Nat.le_refl _)) (hb.trans ⟨rfl, rfl, rfl, Nat.le_refl _, fun _ _ => rfl⟩), by simp [sliceLen]; omega⟩
    · have h8' : r.length < 8 := by omega
      clear h8
      have hd8 : decide ((8 : Int) ≤ (r.length : Int)) = false := by simp; omega
      have hkl := congrArg List.length Hr.out
      have hk8 : 8 * k + r.length = q0.length := by simp at hkl; omega
      have Hk8 := Lib.hid hk8; clear hk8 hkl
      by_cases h4 : 4 ≤ r.length
      · obtain ⟨g, o, rfl, hg, hby⟩ := hmr (by omega)
        have s3 := fun W => run_sliceFrom (some ⟨g, o, none⟩) r.length c' 4 4 rfl h4 W
        have hd4 : decide ((4 : Int) ≤ (r.length : Int)) = true := by simp; omega
        have hmq := hmr.cut hrc 4
        obtain ⟨q, hq⟩ : ∃ q, r.drop 4 = q := ⟨_, rfl⟩
        rw [hq] at hmq
        have hqq : r.length - 4 = q.length := by rw [← hq, List.length_drop]
        have Hq := Lib.hid hq; clear hq
        rw [hqq] at s3
        have hq9 : q.length < 4 := by omega
        generalize cutA (some ⟨g, o, none⟩) c' 4 = A2 at *
        clear hqq
        go_wp2_with (first | (go_at_call 43; refine (lane_at g o 0 4 _ r _ (by omega) (by omega) (by exact hby)).mono ?_; rintro e w' ⟨rfl, rfl⟩) | (go_at_call 47; refine (half_any _ _ _).mono ?_; rintro e w' ⟨rfl, m0, rfl⟩))
        go_loopw [3, 42] (fun h n wr => R2 (halfF hh (lane (r.take 4))) q A2 w h n wr) (fun _ n _ => q.length - (intOf n).toNat)
        case atStart => exact ⟨0, (halfF hh (lane (r.take 4))), rfl, by omega, rfl, rfl, hmq.below (B' := w.heap.size) ⟨rfl, rfl, rfl, Nat.le_refl _, fun _ _ => rfl⟩ (Nat.le_refl _), hb.trans ⟨rfl, rfl, rfl, Nat.le_refl _, fun _ _ => rfl⟩⟩
        case round =>
          obtain ⟨j, hh2, he2, hj, rfl, rfl, hm2, hb2⟩ := hrel
          have He2 := Lib.hid he2; clear he2
          by_cases hlt : j < q.length
          · obtain ⟨g2, o2, hA2, hg2, hby2⟩ := hm2 (by omega)
            cases hA2
            obtain ⟨b0, hb0⟩ : ∃ b0, q[j] = b0 := ⟨_, rfl⟩
            have hcell := hby2 j hlt
            rw [hb0] at hcell
            have Hb0 := Lib.hid hb0; clear hb0
            have hb256 := b0.toNat_lt
            have hlt' : (j : Int) < (q.length : Int) := by omega
            go_wp2_with fail
            rw [u_byteId b0]
            refine (single_any _ _ _).mono ?_
            rintro e w' ⟨rfl, m, rfl⟩
            go_wp2_with fail
            exact ⟨R2.next He2.out hlt Hb0.out (by omega) (hm2.below (B' := w.heap.size) ⟨rfl, rfl, rfl, Nat.le_refl _, fun _ _ => rfl⟩ (Nat.le_refl _)) (hb2.trans ⟨rfl, rfl, rfl, Nat.le_refl _, fun _ _ => rfl⟩), by simp [intOf]; omega⟩
          · have hge : (q.length : Int) ≤ (j : Int) := by omega
            have hd9 : decide ((j : Int) < (q.length : Int)) = false := by simp; omega
            have htk : q.take j = q := List.take_of_length_le (by omega)
            have hfin : singles (halfF hh (lane (r.take 4))) q = hh2 := by rw [← He2.out, htk]
            have Hfin := Lib.hid hfin; clear hfin htk
            go_wp2_with (go_at_call 49; refine (end_any _ _).mono ?_; rintro e w' ⟨rfl, rfl⟩)
            go_ret
            have hall := tail_half (h0 + BitVec.ofNat 64 l.length) q0 k hk (by have := Hk8.out; omega) (by have := Hk8.out; omega)
            rw [← List.drop_drop, Hr.out, Hq.out, He.out] at hall
            exact ⟨ret_int (congrArg U ((congrArg endF (Hfin.out.symm.trans hall)).trans Hx.out)), hb2⟩
      · have h4' : r.length < 4 := by omega
        clear h4
        have hd4 : decide ((4 : Int) ≤ (r.length : Int)) = false := by simp; omega
        go_wp2_with fail
        go_loopw [3, 42] (fun h n wr => R2 hh r A' w h n wr) (fun _ n _ => r.length - (intOf n).toNat)
        case atStart => exact ⟨0, hh, rfl, by omega, rfl, rfl, hmr, hb⟩
        case round =>
          obtain ⟨j, hh2, he2, hj, rfl, rfl, hm2, hb2⟩ := hrel
          have He2 := Lib.hid he2; clear he2
          by_cases hlt : j < r.length
          · obtain ⟨g2, o2, hA2, hg2, hby2⟩ := hm2 (by omega)
            cases hA2
            obtain ⟨b0, hb0⟩ : ∃ b0, r[j] = b0 := ⟨_, rfl⟩
            have hcell := hby2 j hlt
            rw [hb0] at hcell
            have Hb0 := Lib.hid hb0; clear hb0
            have hb256 := b0.toNat_lt
            have hlt' : (j : Int) < (r.length : Int) := by omega
            go_wp2_with fail
            rw [u_byteId b0]
            refine (single_any _ _ _).mono ?_
            rintro e w' ⟨rfl, m, rfl⟩
            go_wp2_with fail
            exact ⟨R2.next He2.out hlt Hb0.out (by omega) (hm2.below (B' := w.heap.size) ⟨rfl, rfl, rfl, Nat.le_refl _, fun _ _ => rfl⟩ (Nat.le_refl _)) (hb2.trans ⟨rfl, rfl, rfl, Nat.le_refl _, fun _ _ => rfl⟩), by simp [intOf]; omega⟩
          · have hge : (r.length : Int) ≤ (j : Int) := by omega
            have hd9 : decide ((j : Int) < (r.length : Int)) = false := by simp; omega
            have htk : r.take j = r := List.take_of_length_le (by omega)
            have hfin : singles hh r = hh2 := by rw [← He2.out, htk]
            have Hfin := Lib.hid hfin; clear hfin htk
            go_wp2_with (go_at_call 49; refine (end_any _ _).mono ?_; rintro e w' ⟨rfl, rfl⟩)
            go_ret
            have hall := tail_none (h0 + BitVec.ofNat 64 l.length) q0 k hk (by have := Hk8.out; omega) (by have := Hk8.out; omega)
            rw [Hr.out, He.out] at hall
            exact ⟨ret_int (congrArg U ((congrArg endF (Hfin.out.symm.trans hall)).trans Hx.out)), hb2⟩
end
end Go.Proofs.YtmcjajeglmjghaaDoor
