/- xxhash.Sum64: of all bytes, the sum of the format. (Printed by gensum.py.) -/
import Derived.Test.YtmcjajeglmjghaaDoorBlocks
namespace Go.Proofs.YtmcjajeglmjghaaDoor
open Go.RowKit

theorem u_addLen (x : B64) (n : Nat) : IntKind.u64.wrap (U x + (n : Int)) = U (x + BitVec.ofNat 64 n) := by
  unfold U; rw [wrapU, BitVec.toNat_add, BitVec.toNat_ofNat]; omega
theorem u_byteP5 (c : UInt8) : IntKind.u64.wrap ((c.toNat : Int) * 2870177450012600261) = U (byteW c * P5) := by
  rw [← u_mulP5]; unfold byteW; rw [U_ofNat _ (by have := c.toNat_lt; omega)]
theorem u_lenP5 (n : Nat) : IntKind.u64.wrap (2870177450012600261 + (n : Int)) = U (P5 + BitVec.ofNat 64 n) := u_addLen P5 n

theorem u64_in (g o j n c : Nat) (r : List UInt8) (w : World) (hn : 8 ≤ n) (hi : j + 8 ≤ r.length) (hc : Bytes w g o r) :
    Calls Tryd.prog 56 #[.slice (some ⟨g, o + j, none⟩) n c] w fun e w' => e = .returned (.int .u64 (U (lane ((r.drop j).take 8)))) ∧ Below w.heap.size w w' :=
  u64_at g o j n c r w hn hi hc
theorem u32_in (g o j n c : Nat) (r : List UInt8) (w : World) (hn : 4 ≤ n) (hi : j + 4 ≤ r.length) (hc : Bytes w g o r) :
    Calls Tryd.prog 64 #[.slice (some ⟨g, o + j, none⟩) n c] w fun e w' => e = .returned (.int .u32 (U (lane ((r.drop j).take 4)))) ∧ Below w.heap.size w w' :=
  u32_any g (o + j) n c _ w hn (by simp; omega) ((hc.drop j).take 4)

/-- k lanes of 8 bytes have been taken. -/
def T2 (h0 : B64) (r : List UInt8) (A : Option Addr) (w0 : World) (h i : Value) (wr : World) : Prop :=
  ∃ (k j : Nat) (hh : B64), 8 * k = j ∧ eights k h0 r = hh ∧ j ≤ r.length ∧ i = .int .i64 j ∧ h = .int .u64 (U hh) ∧ Mem wr w0.heap.size A r ∧ Below w0.heap.size w0 wr
/-- The single bytes from p up to j have been taken. -/
def T3 (h1 : B64) (r : List UInt8) (p : Nat) (A : Option Addr) (w0 : World) (h i : Value) (wr : World) : Prop :=
  ∃ (j : Nat) (hh : B64), singles h1 ((r.take j).drop p) = hh ∧ p ≤ j ∧ j ≤ r.length ∧ i = .int .i64 j ∧ h = .int .u64 (U hh) ∧ Mem wr w0.heap.size A r ∧ Below w0.heap.size w0 wr
theorem T2.next {h0 : B64} {r : List UInt8} {A : Option Addr} {w0 w1 : World} {k j : Nat} {hh : B64} {i : Int} (hj : 8 * k = j) (he : eights k h0 r = hh) (hi : i = (j + 8 : Nat)) (hl : j + 8 ≤ r.length) (hm : Mem w1 w0.heap.size A r) (hb : Below w0.heap.size w0 w1) :
    T2 h0 r A w0 (.int .u64 (U (eightF hh (lane ((r.drop j).take 8))))) (.int .i64 i) w1 := by
  subst hi
  exact ⟨k + 1, j + 8, _, by omega, by rw [eights_succ, he, hj], hl, rfl, rfl, hm, hb⟩
theorem take_drop_snoc (r : List UInt8) (p j : Nat) (hp : p ≤ j) (hj : j < r.length) : (r.take (j + 1)).drop p = (r.take j).drop p ++ [r[j]] := by
  rw [List.take_succ_eq_append_getElem hj, List.drop_append_of_le_length (by simp; omega)]
theorem T3.next {h1 : B64} {r : List UInt8} {p : Nat} {A : Option Addr} {w0 w1 : World} {j : Nat} {hh : B64} {i : Int} {c : UInt8} (he : singles h1 ((r.take j).drop p) = hh) (hp : p ≤ j) (hj : j < r.length) (hc : r[j] = c) (hi : i = (j + 1 : Nat)) (hm : Mem w1 w0.heap.size A r) (hb : Below w0.heap.size w0 w1) :
    T3 h1 r p A w0 (.int .u64 (U (singleF hh (byteW c)))) (.int .i64 i) w1 := by
  subst hi
  exact ⟨j + 1, _, by rw [take_drop_snoc r p j hp hj, singles_snoc, he, hc], by omega, by omega, rfl, rfl, hm, hb⟩
theorem T3.stop {h1 : B64} {r : List UInt8} {p j : Nat} {hh : B64} (he : singles h1 ((r.take j).drop p) = hh) (hj : j = r.length) : singles h1 (r.drop p) = hh := by
  subst hj; rw [List.take_length] at he; exact he

section
attribute [local go_sem] u_add u_addP2 u_neg u_mulP1 u_mulP2 u_mulP3 u_addP3 u_addP4 u_xor u_shr33 u_shr29 u_shr32 u_id u_addLen u_byteP5 u_lenP5

set_option maxHeartbeats 8000000 in
theorem sum64_short (A : Option Addr) (c : Nat) (l : List UInt8) (w : World) (hl : l.length ≤ c) (hc : l.length ≤ 140737488355328) (hm : Mem w w.heap.size A l) (h32 : l.length < 32) :
    Calls Tryd.prog 40 #[.slice A l.length c] w fun e w' => e = .returned (.int .u64 (U (xxh l))) ∧ Below w.heap.size w w' := by
  have hl64 : l.length ≤ 9223372036854775807 := by omega
  have hd : decide ((32 : Int) ≤ (l.length : Int)) = false := by simp; omega
  have hx : endF (tailF (P5 + BitVec.ofNat 64 l.length) l) = xxh l := by
    unfold xxh sumOf startF
    rw [if_neg (by omega), rest_short l h32]
  rw [← hx]
  clear hx
  go_enter Tryd.func40, Tryd.ntmps40
  go_wp2_with fail
  go_loopw [4, 9] (fun h i wr => T2 (P5 + BitVec.ofNat 64 l.length) l A w h i wr) (fun _ i _ => l.length - (intOf i).toNat)
  case atStart => exact ⟨0, 0, _, rfl, rfl, by omega, rfl, rfl, hm, Below.refl _ _⟩
  case round =>
    obtain ⟨k, j, hh, hj8, he, hj, rfl, rfl, hm2, hb2⟩ := hrel
    have He0 := Lib.hid he; clear he
    have Hj8 := Lib.hid hj8; clear hj8
    by_cases hlt : j + 8 ≤ l.length
    · obtain ⟨g, o, hA, hg, hby⟩ := hm2 (by omega)
      subst hA
      have hgl := hby.lt (by omega)
      go_wp2_with fail
      refine (u64_in g o j _ _ l _ (by omega) (by omega) hby).mono ?_
      rintro e w1 ⟨rfl, hb1⟩
      have hbn := hb2.trans (hb1.mono hb2.size)
      have hmn := hm2.below hb1 hb2.size
      clear hby hb1 hb2 hm2
      go_wp2_with (first | (go_at_call 55; refine (round0_any _ _).mono ?_; rintro e w' ⟨rfl, rfl⟩) | (go_at_call 63; refine (rol27_any _ _).mono ?_; rintro e w' ⟨rfl, rfl⟩))
      go_roundw
      case rel => exact T2.next Hj8.out He0.out (by omega) hlt hmn hbn
      case measure => simp [intOf]; omega
    · have hlt' : l.length < j + 8 := by omega
      clear hlt
      by_cases h4 : j + 4 ≤ l.length
      · obtain ⟨g, o, hA, hg, hby⟩ := hm2 (by omega)
        subst hA
        have hgl := hby.lt (by omega)
        have hq : ((j : Int) + 8 ≤ (l.length : Int)) = False := by simp; omega
        have Hq := Lib.hid hq; clear hq
        go_wp2_with fail
        refine (u32_in g o j _ _ l _ (by omega) (by omega) hby).mono ?_
        rintro e w1 ⟨rfl, hb1⟩
        have hbn := hb2.trans (hb1.mono hb2.size)
        have hmn := hm2.below hb1 hb2.size
        clear hby hb1 hb2 hm2
        go_wp2_with (go_at_call 65; refine (rol23_any _ _).mono ?_; rintro e w' ⟨rfl, rfl⟩)
        go_loopw [4, 9] (fun h i wr => T3 (halfF hh (lane ((l.drop j).take 4))) l (j + 4) (some ⟨g, o, none⟩) w h i wr) (fun _ i _ => l.length - (intOf i).toNat)
        case atStart => exact ⟨(j + 4), (halfF hh (lane ((l.drop j).take 4))), by simp [singles], Nat.le_refl _, by omega, by first | rfl | go_num, rfl, hmn, hbn⟩
        case round =>
          obtain ⟨j, hh, he, hpj, hj, rfl, rfl, hm3, hb3⟩ := hrel
          have He := Lib.hid he; clear he
          by_cases hlt : j < l.length
          · obtain ⟨g', o', hA, hg', hby⟩ := hm3 (by omega)
            cases hA
            obtain ⟨b0, hb0⟩ : ∃ b0, l[j] = b0 := ⟨_, rfl⟩
            have hcell := hby j hlt
            rw [hb0] at hcell
            have Hb0 := Lib.hid hb0; clear hb0
            have hb256 := b0.toNat_lt
            have hlt' : (j : Int) < (l.length : Int) := by omega
            go_wp2_with (go_at_call 66; refine (rol11_any _ _).mono ?_; rintro e w' ⟨rfl, rfl⟩)
            go_roundw
            case rel => exact T3.next He.out hpj hlt Hb0.out (by omega) hm3 hb3
            case measure => simp [intOf]; omega
          · have hj' : j = l.length := by omega
            have Hj := Lib.hid hj'; clear hj'
            have hge : (l.length : Int) ≤ (j : Int) := by omega
            have hfin := T3.stop He.out Hj.out
            have Hfin := Lib.hid hfin; clear hfin
            go_wp2_with fail
            go_ret
            have hall := tail_half (P5 + BitVec.ofNat 64 l.length) l k (by rw [Hj8.out]; omega) (by rw [Hj8.out]; omega) (by rw [Hj8.out]; omega)
            rw [Hj8.out, He0.out] at hall
            have hall' := hall.symm.trans Hfin.out
            exact ⟨by rw [hall']; rfl, hb3⟩
      · have h4' : l.length < j + 4 := by omega
        clear h4
        go_wp2_with fail
        go_loopw [4, 9] (fun h i wr => T3 hh l j A w h i wr) (fun _ i _ => l.length - (intOf i).toNat)
        case atStart => exact ⟨j, hh, by simp [singles], Nat.le_refl _, by omega, by first | rfl | go_num, rfl, hm2, hb2⟩
        case round =>
          obtain ⟨j, hh, he, hpj, hj, rfl, rfl, hm3, hb3⟩ := hrel
          have He := Lib.hid he; clear he
          by_cases hlt : j < l.length
          · obtain ⟨g', o', hA, hg', hby⟩ := hm3 (by omega)
            cases hA
            obtain ⟨b0, hb0⟩ : ∃ b0, l[j] = b0 := ⟨_, rfl⟩
            have hcell := hby j hlt
            rw [hb0] at hcell
            have Hb0 := Lib.hid hb0; clear hb0
            have hb256 := b0.toNat_lt
            have hlt' : (j : Int) < (l.length : Int) := by omega
            go_wp2_with (go_at_call 66; refine (rol11_any _ _).mono ?_; rintro e w' ⟨rfl, rfl⟩)
            go_roundw
            case rel => exact T3.next He.out hpj hlt Hb0.out (by omega) hm3 hb3
            case measure => simp [intOf]; omega
          · have hj' : j = l.length := by omega
            have Hj := Lib.hid hj'; clear hj'
            have hge : (l.length : Int) ≤ (j : Int) := by omega
            have hfin := T3.stop He.out Hj.out
            have Hfin := Lib.hid hfin; clear hfin
            go_wp2_with fail
            go_ret
            have hall := tail_none (P5 + BitVec.ofNat 64 l.length) l k (by rw [Hj8.out]; omega) (by rw [Hj8.out]; omega) (by rw [Hj8.out]; omega)
            rw [Hj8.out, He0.out] at hall
            have hall' := hall.symm.trans Hfin.out
            exact ⟨by rw [hall']; rfl, hb3⟩

set_option maxHeartbeats 16000000 in
set_option maxRecDepth 100000 in
theorem sum64_long (A : Option Addr) (c : Nat) (l : List UInt8) (w : World) (hl : l.length ≤ c) (hc : l.length ≤ 140737488355328) (hm : Mem w w.heap.size A l) (h32 : 32 ≤ l.length) (hp : w.cell? ⟨0, 0, none⟩ = some (.int .u64 (U P1))) :
    Calls Tryd.prog 40 #[.slice A l.length c] w fun e w' => e = .returned (.int .u64 (U (xxh l))) ∧ Below w.heap.size w w' := by
  have hl64 : l.length ≤ 9223372036854775807 := by omega
  have hd : decide ((32 : Int) ≤ (l.length : Int)) = true := by simp; omega
  have hP2 : Value.int .u64 14029467366897019727 = .int .u64 (U P2) := by rw [show U P2 = 14029467366897019727 from rfl]
  have HP2 := Lib.hid hP2; clear hP2
  go_enter Tryd.func40, Tryd.ntmps40
  go_wp2_with fail
  go_loopw [0, 5, 6, 7, 8] (fun b v1 v2 v3 v4 wr => WB l St.init w.heap.size w b v1 v2 v3 v4 wr) (fun b _ _ _ _ _ => sliceLen b)
  case atStart => exact ⟨0, l, A, c, St.init, rfl, by omega, rfl, rfl, hl, hm, rfl, HP2.out, rfl, rfl, Below.refl _ _⟩
  case round =>
    obtain ⟨k, r, A', c', t, hr, hk, ht, rfl, hrc, hmr, rfl, rfl, rfl, rfl, hb⟩ := hrel
    have hrl : r.length ≤ 140737488355328 := by have := congrArg List.length hr; simp at this; omega
    have Hr := Lib.hid hr; clear hr
    have Ht := Lib.hid ht; clear ht
    clear hl hm hp
    by_cases h32 : 32 ≤ r.length
    · obtain ⟨g, o, rfl, hg, hby⟩ := hmr (by omega)
      clear hmr
      have hgl := hby.lt (by omega)
      go_wp2_with fail
      refine (u64_at0 g o _ _ r _ (by omega) (by omega) hby).mono ?_
      rintro e w1 ⟨rfl, hb1⟩
      have hby1 := hby.below hb1 hgl
      go_wp2_with (go_at_call 55; refine (round_any _ _ _).mono ?_; rintro e w' ⟨rfl, rfl⟩)
      refine (u64_at g o 8 _ _ r _ (by omega) (by omega) hby1).mono ?_
      rintro e w2 ⟨rfl, hb2⟩
      have hby2 := hby1.below hb2 (hby1.lt (by omega))
      go_wp2_with (go_at_call 55; refine (round_any _ _ _).mono ?_; rintro e w' ⟨rfl, rfl⟩)
      refine (u64_at g o 16 _ _ r _ (by omega) (by omega) hby2).mono ?_
      rintro e w3 ⟨rfl, hb3⟩
      have hby3 := hby2.below hb3 (hby2.lt (by omega))
      go_wp2_with (go_at_call 55; refine (round_any _ _ _).mono ?_; rintro e w' ⟨rfl, rfl⟩)
      refine (u64_at g o 24 _ _ r _ (by omega) (by omega) hby3).mono ?_
      rintro e w4 ⟨rfl, hb4⟩
      have hby4 := hby3.below hb4 (hby3.lt (by omega))
      have hbb : Below w.heap.size w w4 := hb.trans ((hb1.mono hb.size).trans ((hb2.mono (Nat.le_trans hb.size hb1.size)).trans ((hb3.mono (Nat.le_trans hb.size (Nat.le_trans hb1.size hb2.size))).trans (hb4.mono (Nat.le_trans hb.size (Nat.le_trans hb1.size (Nat.le_trans hb2.size hb3.size)))))))
      clear hb1 hb2 hb3 hb4 hb hby hby1 hby2 hby3
      by_cases h33 : r.length = 32
      · go_wp2_with (go_at_call 55; refine (round_any _ _ _).mono ?_; rintro e w' ⟨rfl, rfl⟩)
        exact ⟨WB.next Hr.out hk Ht.out (by omega) (by omega) (by omega) (fun h => absurd h (by simp; omega)) hbb, by simp [sliceLen]; omega⟩
      · go_wp2_with (go_at_call 55; refine (round_any _ _ _).mono ?_; rintro e w' ⟨rfl, rfl⟩)
        exact ⟨WB.next Hr.out hk Ht.out (by omega) (by omega) (by omega) (Mem.next hg hby4 32) hbb, by simp [sliceLen]; omega⟩
    · have h32' : r.length < 32 := by omega
      clear h32
      obtain ⟨hkk, _⟩ := WB.stop Hr.out hk h32'
      have hx : endF (tailF (conv t + BitVec.ofNat 64 l.length) r) = xxh l := by
        unfold xxh sumOf startF blocks
        rw [if_pos (by omega), ← hkk, Ht.out]
        have hw : rest l = r := by
          unfold rest whole; rw [← Hr.out, ← hkk, Nat.mul_comm]
        rw [hw]
      have Hx := Lib.hid hx
      clear hx hkk
      go_wp2_with (first | (go_at_call 58; refine (rol1_any _ _).mono ?_; rintro e w' ⟨rfl, rfl⟩) | (go_at_call 59; refine (rol7_any _ _).mono ?_; rintro e w' ⟨rfl, rfl⟩) | (go_at_call 60; refine (rol12_any _ _).mono ?_; rintro e w' ⟨rfl, rfl⟩) | (go_at_call 61; refine (rol18_any _ _).mono ?_; rintro e w' ⟨rfl, rfl⟩) | (go_at_call 62; refine (mergeRound_any _ _ _).mono ?_; rintro e w' ⟨rfl, rfl⟩))
      go_loopw [4, 9] (fun h i wr => T2 (conv t + BitVec.ofNat 64 l.length) r A' w h i wr) (fun _ i _ => r.length - (intOf i).toNat)
      case atStart => exact ⟨0, 0, _, rfl, rfl, by omega, rfl, rfl, hmr, hb⟩
      case round =>
        obtain ⟨k, j, hh, hj8, he, hj, rfl, rfl, hm2, hb2⟩ := hrel
        have He0 := Lib.hid he; clear he
        have Hj8 := Lib.hid hj8; clear hj8
        by_cases hlt : j + 8 ≤ r.length
        · obtain ⟨g, o, hA, hg, hby⟩ := hm2 (by omega)
          subst hA
          have hgl := hby.lt (by omega)
          go_wp2_with fail
          refine (u64_in g o j _ _ r _ (by omega) (by omega) hby).mono ?_
          rintro e w1 ⟨rfl, hb1⟩
          have hbn := hb2.trans (hb1.mono hb2.size)
          have hmn := hm2.below hb1 hb2.size
          clear hby hb1 hb2 hm2
          go_wp2_with (first | (go_at_call 55; refine (round0_any _ _).mono ?_; rintro e w' ⟨rfl, rfl⟩) | (go_at_call 63; refine (rol27_any _ _).mono ?_; rintro e w' ⟨rfl, rfl⟩))
          go_roundw
          case rel => exact T2.next Hj8.out He0.out (by omega) hlt hmn hbn
          case measure => simp [intOf]; omega
        · have hlt' : r.length < j + 8 := by omega
          clear hlt
          by_cases h4 : j + 4 ≤ r.length
          · obtain ⟨g, o, hA, hg, hby⟩ := hm2 (by omega)
            subst hA
            have hgl := hby.lt (by omega)
            have hq : ((j : Int) + 8 ≤ (r.length : Int)) = False := by simp; omega
            have Hq := Lib.hid hq; clear hq
            go_wp2_with fail
            refine (u32_in g o j _ _ r _ (by omega) (by omega) hby).mono ?_
            rintro e w1 ⟨rfl, hb1⟩
            have hbn := hb2.trans (hb1.mono hb2.size)
            have hmn := hm2.below hb1 hb2.size
            clear hby hb1 hb2 hm2
            go_wp2_with (go_at_call 65; refine (rol23_any _ _).mono ?_; rintro e w' ⟨rfl, rfl⟩)
            go_loopw [4, 9] (fun h i wr => T3 (halfF hh (lane ((r.drop j).take 4))) r (j + 4) (some ⟨g, o, none⟩) w h i wr) (fun _ i _ => r.length - (intOf i).toNat)
            case atStart => exact ⟨(j + 4), (halfF hh (lane ((r.drop j).take 4))), by simp [singles], Nat.le_refl _, by omega, by first | rfl | go_num, rfl, hmn, hbn⟩
            case round =>
              obtain ⟨j, hh, he, hpj, hj, rfl, rfl, hm3, hb3⟩ := hrel
              have He := Lib.hid he; clear he
              by_cases hlt : j < r.length
              · obtain ⟨g', o', hA, hg', hby⟩ := hm3 (by omega)
                cases hA
                obtain ⟨b0, hb0⟩ : ∃ b0, r[j] = b0 := ⟨_, rfl⟩
                have hcell := hby j hlt
                rw [hb0] at hcell
                have Hb0 := Lib.hid hb0; clear hb0
                have hb256 := b0.toNat_lt
                have hlt' : (j : Int) < (r.length : Int) := by omega
                go_wp2_with (go_at_call 66; refine (rol11_any _ _).mono ?_; rintro e w' ⟨rfl, rfl⟩)
                go_roundw
                case rel => exact T3.next He.out hpj hlt Hb0.out (by omega) hm3 hb3
                case measure => simp [intOf]; omega
              · have hj' : j = r.length := by omega
                have Hj := Lib.hid hj'; clear hj'
                have hge : (r.length : Int) ≤ (j : Int) := by omega
                have hfin := T3.stop He.out Hj.out
                have Hfin := Lib.hid hfin; clear hfin
                go_wp2_with fail
                go_ret
                have hall := tail_half (conv t + BitVec.ofNat 64 l.length) r k (by rw [Hj8.out]; omega) (by rw [Hj8.out]; omega) (by rw [Hj8.out]; omega)
                rw [Hj8.out, He0.out] at hall
                have hall' := hall.symm.trans Hfin.out
                exact ⟨ret_int (congrArg U ((congrArg endF hall'.symm).trans Hx.out)), hb3⟩
          · have h4' : r.length < j + 4 := by omega
            clear h4
            go_wp2_with fail
            go_loopw [4, 9] (fun h i wr => T3 hh r j A' w h i wr) (fun _ i _ => r.length - (intOf i).toNat)
            case atStart => exact ⟨j, hh, by simp [singles], Nat.le_refl _, by omega, by first | rfl | go_num, rfl, hm2, hb2⟩
            case round =>
              obtain ⟨j, hh, he, hpj, hj, rfl, rfl, hm3, hb3⟩ := hrel
              have He := Lib.hid he; clear he
              by_cases hlt : j < r.length
              · obtain ⟨g', o', hA, hg', hby⟩ := hm3 (by omega)
                cases hA
                obtain ⟨b0, hb0⟩ : ∃ b0, r[j] = b0 := ⟨_, rfl⟩
                have hcell := hby j hlt
                rw [hb0] at hcell
                have Hb0 := Lib.hid hb0; clear hb0
                have hb256 := b0.toNat_lt
                have hlt' : (j : Int) < (r.length : Int) := by omega
                go_wp2_with (go_at_call 66; refine (rol11_any _ _).mono ?_; rintro e w' ⟨rfl, rfl⟩)
                go_roundw
                case rel => exact T3.next He.out hpj hlt Hb0.out (by omega) hm3 hb3
                case measure => simp [intOf]; omega
              · have hj' : j = r.length := by omega
                have Hj := Lib.hid hj'; clear hj'
                have hge : (r.length : Int) ≤ (j : Int) := by omega
                have hfin := T3.stop He.out Hj.out
                have Hfin := Lib.hid hfin; clear hfin
                go_wp2_with fail
                go_ret
                have hall := tail_none (conv t + BitVec.ofNat 64 l.length) r k (by rw [Hj8.out]; omega) (by rw [Hj8.out]; omega) (by rw [Hj8.out]; omega)
                rw [Hj8.out, He0.out] at hall
                have hall' := hall.symm.trans Hfin.out
                exact ⟨ret_int (congrArg U ((congrArg endF hall'.symm).trans Hx.out)), hb3⟩
end

theorem sum64_any (A : Option Addr) (c : Nat) (l : List UInt8) (w : World) (hl : l.length ≤ c) (hc : l.length ≤ 140737488355328) (hm : Mem w w.heap.size A l) (hp : w.cell? ⟨0, 0, none⟩ = some (.int .u64 (U P1))) :
    Calls Tryd.prog 40 #[.slice A l.length c] w fun e w' => e = .returned (.int .u64 (U (xxh l))) ∧ Below w.heap.size w w' := by
  by_cases h32 : 32 ≤ l.length
  · exact sum64_long A c l w hl hc hm h32 hp
  · exact sum64_short A c l w hl hc hm (by omega)
/-- impl.Sum64 -/
theorem isum64_any (A : Option Addr) (c : Nat) (l : List UInt8) (w : World) (hl : l.length ≤ c) (hc : l.length ≤ 140737488355328) (hm : Mem w w.heap.size A l) (hp : w.cell? ⟨0, 0, none⟩ = some (.int .u64 (U P1))) :
    Calls Tryd.prog 22 #[.slice A l.length c] w fun e w' => e = .returned (.int .u64 (U (xxh l))) ∧ Below w.heap.size w w' := by
  have h40 := Lib.hid (sum64_any A c l w hl hc hm hp)
  clear hm hp
  go_enter Tryd.func22, Tryd.ntmps22
  go_wp2_with (go_at_call 40; refine h40.out.mono ?_; rintro e w' ⟨rfl, hb⟩)
  go_ret
  exact ⟨rfl, hb⟩
end Go.Proofs.YtmcjajeglmjghaaDoor
