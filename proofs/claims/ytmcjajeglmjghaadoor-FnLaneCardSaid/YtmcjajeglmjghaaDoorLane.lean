/- The walk of laws.FnLane. (Printed by genlane.py.) -/
import Derived.Test.YtmcjajeglmjghaaDoorLaneA
import Derived.Test.YtmcjajeglmjghaaDoorForged
namespace Go.Proofs.YtmcjajeglmjghaaDoor
open Go.RowKit

/-- The k-th byte of a number. -/
def byteOf (X : B64) (k : Nat) : UInt8 := lowB (X >>> (8 * k))
/-- k bytes of the lane have been changed. -/
def LR (l : List UInt8) (f t : Nat) (X : B64) (v : Value) (base : Nat) (w0 : World) (ch i : Value) (wr : World) : Prop :=
  ∃ (k m : Nat) (d : Bool) (cur : List UInt8), f + k = m ∧ m ≤ t ∧ i = .int .i64 (m : Int) ∧ chg (byteOf X) k = d ∧ ch = .bool d ∧ xorL l f (byteOf X) k = cur ∧ OwnB wr base v cur ∧ Below base w0 wr
theorem LR.next {l : List UInt8} {f t : Nat} {X : B64} {base g c n : Nat} {w0 wr : World} {k m : Nat} {d : Bool} {cur : List UInt8} {b cc : UInt8} (hk : f + k = m) (hm : m < t) (hd : chg (byteOf X) k = d) (hcur : xorL l f (byteOf X) k = cur) (hn : n = l.length)
    (hv : OwnB wr base (.slice (some ⟨g, 0, none⟩) n c) cur) (hg : base ≤ g) (hb : Below base w0 wr) (hbyte : cur[m]? = some b) (hcc : byteOf X k = cc) (d' : Bool) (hd' : d' = (d || cc != 0)) :
    LR l f t X (.slice (some ⟨g, 0, none⟩) n c) base w0 (.bool d') (.int .i64 ((m : Int) + 1)) (wr.setCell ⟨g, m, none⟩ (.int .u8 ((b ^^^ cc).toNat : Int))) := by
  have hlen : cur.length = l.length := by rw [← hcur, xorL_length]
  obtain ⟨h1, h2⟩ := hv.set (by omega) m (b ^^^ cc) hg
  refine ⟨k + 1, m + 1, d', _, by omega, by omega, by go_num, ?_, rfl, ?_, h1, hb.trans h2⟩
  · rw [chg, hd, hcc, hd']
  · rw [xorL, hcur, hk, hcc, hbyte]; rfl
theorem not_zero {cc : UInt8} (h : cc ≠ 0) : ((cc.toNat : Int) == 0) = false := by
  have : ¬ cc.toNat = 0 := fun h0 => h (UInt8.toNat.inj h0)
  simpa using this
section
attribute [local go_sem] u_id u_shr u_low byte_xor
set_option maxHeartbeats 8000000 in
set_option maxRecDepth 100000 in
theorem lane_end (A : Option Addr) (c : Nat) (b : List UInt8) (r : Int) (X : B64) (w : World) (hl : b.length ≤ c) (hc : c ≤ 140737488351232) (hm : Mem w w.heap.size A b) (hp : w.cell? ⟨0, 0, none⟩ = some (.int .u64 (U P1))) :
    Calls Tryd.prog 5 #[.slice A b.length c, .int .i64 r, .int .u64 (U X)] w fun e w' => e = .returned (.bool true) ∧ Below w.heap.size w w' := by
  have hpos : 0 < w.heap.size := cell_pos hp
  have Hp := Lib.hid hp; clear hp
  have hbl : b.length ≤ 140737488351232 := by omega
  obtain ⟨v1, w1, hrun1, hv1, b1, _, _⟩ := run_append_bytes w w.heap.size 22 (.slice none 0 0) [] (OwnB.nil _ _) _ A b c hm (by simp; omega) (Nat.le_refl _)
  rw [List.nil_append] at hv1
  obtain ⟨A1, c1, hv1e, hl1, hm1⟩ := hv1.form
  have Hrun1 := Lib.hid hrun1; clear hrun1
  have Hb1 := Lib.hid b1; clear b1
  have Hv1 := Lib.hid hv1; clear hv1
  subst hv1e
  clear hm hm1 hl
  go_enter Tryd.func5, Tryd.ntmps5
  by_cases h32 : b.length % 32 = 0
  · have e32 : ((b.length : Int) % 32 == 0) = true := by
      have : ((b.length : Int) % 32 = 0) := by omega
      simpa using this
    have hv1' := Hv1.out.alloc (.cells ([(7 : UInt8)].map byteV).toArray 5)
    have hmn := mem_new w1 [(7 : UInt8)] 5
    obtain ⟨v2, w2, hrun2, hv2, b2, _, _⟩ := run_append_bytes _ w.heap.size 22 _ _ hv1' _ _ [(7 : UInt8)] 1 hmn (by simp; omega) (by simp; have := Hb1.out.size; omega)
    have b02 : Below w.heap.size w w2 := Hb1.out.trans (((Below.refl _ w1).alloc Hb1.out.size _).trans b2)
    have Hrun2 := Lib.hid hrun2; clear hrun2
    have B2 := Lib.hid b02; clear b02 b2
    clear hv1' hmn
    have tok1 : True := trivial
    go_wp2_with (first | (at_builtin; have _t := tok1; refine wpList_append_run rfl (.const (.slice none 0 0)) (.tmp 14) 22 22 rfl _ _ rfl rfl _ w1 Hrun1.out ?_; clear tok1) | (at_builtin; refine wpList_append_run rfl (.tmp 20) (.tmp 21) 22 22 rfl _ _ rfl rfl v2 w2 Hrun2.out ?_; obtain ⟨l, hll⟩ : ∃ l, b ++ [(7 : UInt8)] = l := ⟨_, rfl⟩; rw [hll] at hv2; have hl0 : l.length = b.length + 1 := (by rw [← hll]; simp); clear hll; have hlm : l.length % 32 ≠ 0 := (by omega); have hlb : l.length ≤ 140737488355328 := (by omega); clear hl0; obtain ⟨g, c2, rfl, hg, _⟩ := World.ownsRow.form hv2 (by omega); have Hv2 := Lib.hid hv2; clear hv2))
    refine (place_any r ((l.length : Int) % 32) _ (by omega) (by omega)).mono ?_
    rintro e w3 ⟨p, hp, rfl, rfl⟩
    go_wp2_with fail
    refine (someLane_any l.length (l.length - 1 - p) _ (by omega) _ hlb (by omega) (by omega)).mono ?_
    rintro e w3 ⟨f, t, hlane, rfl, rfl⟩
    obtain ⟨hft, htl, hf8⟩ := hlane.le
    have Hlane := Lib.hid hlane; clear hlane hp
    go_wp2_with fail
    have h22 := isum_own _ l _ _ Hv2.out hlb (prime_below Hp.out B2.out hpos)
    obtain ⟨X0, hX0⟩ : ∃ X0, xxh l = X0 := ⟨_, rfl⟩
    rw [hX0] at h22
    have HX0 := Lib.hid hX0; clear hX0
    refine h22.mono ?_
    clear h22
    rintro e w3 ⟨rfl, b3⟩
    have Hv3 := Lib.hid (Hv2.out.kept b3)
    have B3 := Lib.hid (B2.out.trans (b3.mono B2.out.size)); clear b3
    go_wp2_with fail
    go_loopw [11, 12] (fun ch i wr => LR l f t X (.slice (some ⟨g, 0, none⟩) l.length c2) w.heap.size w ch i wr) (fun _ i _ => t - (intOf i).toNat)
    case atStart => exact ⟨0, f, false, l, by omega, hft, rfl, rfl, rfl, rfl, Hv3.out, B3.out⟩
    case round =>
      obtain ⟨k, m, d, cur, hk, hmt, rfl, hd, rfl, hcur, hv, hb⟩ := hrel
      have Hd := Lib.hid hd; clear hd
      have Hcur := Lib.hid hcur; clear hcur
      have hlen : cur.length = l.length := by rw [← Hcur.out, xorL_length]
      by_cases hlt : m < t
      · have hlt' : (m : Int) < (t : Int) := by omega
        have hml : (m : Int) < (l.length : Int) := by omega
        have hsub : (m : Int) - (f : Int) = (k : Int) := by omega
        have hk8 : k < 8 := by omega
        obtain ⟨x, hx⟩ : ∃ x, cur[m]? = some x := ⟨cur[m]'(by omega), List.getElem?_eq_getElem (by omega)⟩
        have hcell : wr.cell? ⟨g, m, none⟩ = some (.int .u8 (x.toNat : Int)) := by
          have hv' := hv
          rw [← hlen] at hv'
          have := World.ownsRow.cellAt hv' m (by omega)
          rw [this, List.getElem?_map, hx]; rfl
        have hfr : wr.frozen? ⟨g, m, none⟩ = false := by
          have hv' := hv
          rw [← hlen] at hv'
          exact World.ownsRow.frozenAt hv' m
        obtain ⟨cc, hcc⟩ : ∃ cc, lowB (X >>> (8 * k)) = cc := ⟨_, rfl⟩
        have hnext := fun d' => LR.next (w0 := w) hk hlt Hd.out Hcur.out rfl hv hg hb hx hcc d'
        have Hnext := Lib.hid hnext; clear hnext hx hv hb hk hlen
        cases d with
        | true =>
          go_wp2_with fail
          exact ⟨Hnext.out _ (by simp), by simp [intOf]; omega⟩
        | false =>
          by_cases hc0 : cc = 0
          · have hz : ((cc.toNat : Int) == 0) = true := by rw [hc0]; rfl
            have e0 : bits BinOp.xor IntKind.u8 (x.toNat : Int) 0 = ((x ^^^ cc).toNat : Int) := by rw [hc0]; exact byte_xor x 0
            have E0 := Lib.hid e0; clear e0
            go_wp2_with fail
            rw [E0.out]
            exact ⟨Hnext.out _ (by rw [hc0]; rfl), by simp [intOf]; omega⟩
          · have hz := not_zero hc0
            have hc0' : (cc != 0) = true := by simpa using hc0
            go_wp2_with fail
            exact ⟨Hnext.out _ (by rw [hc0', bne, hz]; rfl), by simp [intOf]; omega⟩
      · have hge : (t : Int) ≤ (m : Int) := by omega
        have hdec : decide ((m : Int) < (t : Int)) = false := by simp; omega
        have hkt : k = t - f := by omega
        have hlaw := lane_changed l f t (byteOf X) Hlane.out
        rw [← hkt, Hcur.out, Hd.out] at hlaw
        have Hv := Lib.hid hv; clear hv
        have Hb := Lib.hid hb; clear hb
        go_wp2_with fail
        have hl2 : cur.length ≤ 140737488355328 := by omega
        obtain ⟨X1, hX1⟩ : ∃ X1, xxh cur = X1 := ⟨_, rfl⟩
        rw [HX0.out, hX1] at hlaw
        have s22 : ∀ W : World, Below w.heap.size w W → OwnB W w.heap.size (.slice (some ⟨g, 0, none⟩) l.length c2) cur → Calls Tryd.prog 22 #[.slice (some ⟨g, 0, none⟩) l.length c2] W fun e w' => e = .returned (.int .u64 (U X1)) ∧ Below W.heap.size W w' := by
          intro W h1 h2
          rw [← hX1]
          exact isum_own _ cur _ _ h2 hl2 (prime_below Hp.out h1 hpos)
        have s26 : ∀ W : World, OwnB W w.heap.size (.slice (some ⟨g, 0, none⟩) l.length c2) cur → Calls Tryd.prog 26 #[.slice (some ⟨g, 0, none⟩) l.length c2] W fun e w' => e = .returned (.int .u64 (U X1)) ∧ Below W.heap.size W w' := by
          intro W h2
          rw [← hX1]
          exact ssum_own _ cur _ _ h2 hl2
        have S22 := Lib.hid s22; clear s22
        have S26 := Lib.hid s26; clear s26 hX1
        cases d with
        | true =>
          have hU : (U X1 == U X0) = false := beq_eq_false_iff_ne.2 fun h => hlaw.2 rfl (U_inj.1 h)
          have hU2 : (U X1 != U X0) = true := by rw [bne, hU]; rfl
          have hU3 : ¬ U X1 = U X0 := by simpa using hU
          clear hlaw
          refine (S22.out _ Hb.out Hv.out).mono ?_
          rintro e w4 ⟨rfl, b4⟩
          have Hv4 := Lib.hid (Hv.out.kept b4)
          have B4 := Lib.hid (Hb.out.trans (b4.mono Hb.out.size)); clear b4
          go_wp2_with fail
          refine (S22.out _ B4.out Hv4.out).mono ?_
          rintro e w5 ⟨rfl, b5⟩
          have Hv5 := Lib.hid (Hv4.out.kept b5)
          have B5 := Lib.hid (B4.out.trans (b5.mono B4.out.size)); clear b5
          go_wp2_with fail
          refine (S26.out _ Hv5.out).mono ?_
          rintro e w6 ⟨rfl, b6⟩
          have B6 := Lib.hid (B5.out.trans (b6.mono B5.out.size)); clear b6
          go_wp2_with fail
          go_ret
          exact ⟨rfl, B6.out⟩
        | false =>
          obtain rfl : X1 = X0 := Decidable.byContradiction fun h => Bool.noConfusion (hlaw.1 h)
          clear hlaw
          refine (S22.out _ Hb.out Hv.out).mono ?_
          rintro e w4 ⟨rfl, b4⟩
          have Hv4 := Lib.hid (Hv.out.kept b4)
          have B4 := Lib.hid (Hb.out.trans (b4.mono Hb.out.size)); clear b4
          go_wp2_with fail
          refine (S22.out _ B4.out Hv4.out).mono ?_
          rintro e w5 ⟨rfl, b5⟩
          have Hv5 := Lib.hid (Hv4.out.kept b5)
          have B5 := Lib.hid (B4.out.trans (b5.mono B4.out.size)); clear b5
          go_wp2_with fail
          refine (S26.out _ Hv5.out).mono ?_
          rintro e w6 ⟨rfl, b6⟩
          have B6 := Lib.hid (B5.out.trans (b6.mono B5.out.size)); clear b6
          go_wp2_with fail
          go_ret
          exact ⟨rfl, B6.out⟩
  · have e32 : ((b.length : Int) % 32 == 0) = false := by
      have : ¬ ((b.length : Int) % 32 = 0) := by omega
      simpa using this
    obtain ⟨l, w2, hll, hww⟩ : ∃ l w2, b = l ∧ w1 = w2 := ⟨_, _, rfl, rfl⟩
    subst hll hww
    obtain ⟨g, c2, hve, hg, _⟩ := World.ownsRow.form Hv1.out (by omega)
    cases hve
    have Hv2 := Lib.hid Hv1.out
    have B2 := Lib.hid Hb1.out
    go_wp2_with (at_builtin; refine wpList_append_run rfl (.const (.slice none 0 0)) (.tmp 14) 22 22 rfl _ _ rfl rfl _ w1 Hrun1.out ?_)
    have hlm : b.length % 32 ≠ 0 := h32
    have hlb : b.length ≤ 140737488355328 := by omega
    refine (place_any r ((b.length : Int) % 32) _ (by omega) (by omega)).mono ?_
    rintro e w3 ⟨p, hp, rfl, rfl⟩
    go_wp2_with fail
    refine (someLane_any b.length (b.length - 1 - p) _ (by omega) _ hlb (by omega) (by omega)).mono ?_
    rintro e w3 ⟨f, t, hlane, rfl, rfl⟩
    obtain ⟨hft, htl, hf8⟩ := hlane.le
    have Hlane := Lib.hid hlane; clear hlane hp
    go_wp2_with fail
    have h22 := isum_own _ b _ _ Hv2.out hlb (prime_below Hp.out B2.out hpos)
    obtain ⟨X0, hX0⟩ : ∃ X0, xxh b = X0 := ⟨_, rfl⟩
    rw [hX0] at h22
    have HX0 := Lib.hid hX0; clear hX0
    refine h22.mono ?_
    clear h22
    rintro e w3 ⟨rfl, b3⟩
    have Hv3 := Lib.hid (Hv2.out.kept b3)
    have B3 := Lib.hid (B2.out.trans (b3.mono B2.out.size)); clear b3
    go_wp2_with fail
    go_loopw [11, 12] (fun ch i wr => LR b f t X (.slice (some ⟨g, 0, none⟩) b.length c1) w.heap.size w ch i wr) (fun _ i _ => t - (intOf i).toNat)
    case atStart => exact ⟨0, f, false, b, by omega, hft, rfl, rfl, rfl, rfl, Hv3.out, B3.out⟩
    case round =>
      obtain ⟨k, m, d, cur, hk, hmt, rfl, hd, rfl, hcur, hv, hb⟩ := hrel
      have Hd := Lib.hid hd; clear hd
      have Hcur := Lib.hid hcur; clear hcur
      have hlen : cur.length = b.length := by rw [← Hcur.out, xorL_length]
      by_cases hlt : m < t
      · have hlt' : (m : Int) < (t : Int) := by omega
        have hml : (m : Int) < (b.length : Int) := by omega
        have hsub : (m : Int) - (f : Int) = (k : Int) := by omega
        have hk8 : k < 8 := by omega
        obtain ⟨x, hx⟩ : ∃ x, cur[m]? = some x := ⟨cur[m]'(by omega), List.getElem?_eq_getElem (by omega)⟩
        have hcell : wr.cell? ⟨g, m, none⟩ = some (.int .u8 (x.toNat : Int)) := by
          have hv' := hv
          rw [← hlen] at hv'
          have := World.ownsRow.cellAt hv' m (by omega)
          rw [this, List.getElem?_map, hx]; rfl
        have hfr : wr.frozen? ⟨g, m, none⟩ = false := by
          have hv' := hv
          rw [← hlen] at hv'
          exact World.ownsRow.frozenAt hv' m
        obtain ⟨cc, hcc⟩ : ∃ cc, lowB (X >>> (8 * k)) = cc := ⟨_, rfl⟩
        have hnext := fun d' => LR.next (w0 := w) hk hlt Hd.out Hcur.out rfl hv hg hb hx hcc d'
        have Hnext := Lib.hid hnext; clear hnext hx hv hb hk hlen
        cases d with
        | true =>
          go_wp2_with fail
          exact ⟨Hnext.out _ (by simp), by simp [intOf]; omega⟩
        | false =>
          by_cases hc0 : cc = 0
          · have hz : ((cc.toNat : Int) == 0) = true := by rw [hc0]; rfl
            have e0 : bits BinOp.xor IntKind.u8 (x.toNat : Int) 0 = ((x ^^^ cc).toNat : Int) := by rw [hc0]; exact byte_xor x 0
            have E0 := Lib.hid e0; clear e0
            go_wp2_with fail
            rw [E0.out]
            exact ⟨Hnext.out _ (by rw [hc0]; rfl), by simp [intOf]; omega⟩
          · have hz := not_zero hc0
            have hc0' : (cc != 0) = true := by simpa using hc0
            go_wp2_with fail
            exact ⟨Hnext.out _ (by rw [hc0', bne, hz]; rfl), by simp [intOf]; omega⟩
      · have hge : (t : Int) ≤ (m : Int) := by omega
        have hdec : decide ((m : Int) < (t : Int)) = false := by simp; omega
        have hkt : k = t - f := by omega
        have hlaw := lane_changed b f t (byteOf X) Hlane.out
        rw [← hkt, Hcur.out, Hd.out] at hlaw
        have Hv := Lib.hid hv; clear hv
        have Hb := Lib.hid hb; clear hb
        go_wp2_with fail
        have hl2 : cur.length ≤ 140737488355328 := by omega
        obtain ⟨X1, hX1⟩ : ∃ X1, xxh cur = X1 := ⟨_, rfl⟩
        rw [HX0.out, hX1] at hlaw
        have s22 : ∀ W : World, Below w.heap.size w W → OwnB W w.heap.size (.slice (some ⟨g, 0, none⟩) b.length c1) cur → Calls Tryd.prog 22 #[.slice (some ⟨g, 0, none⟩) b.length c1] W fun e w' => e = .returned (.int .u64 (U X1)) ∧ Below W.heap.size W w' := by
          intro W h1 h2
          rw [← hX1]
          exact isum_own _ cur _ _ h2 hl2 (prime_below Hp.out h1 hpos)
        have s26 : ∀ W : World, OwnB W w.heap.size (.slice (some ⟨g, 0, none⟩) b.length c1) cur → Calls Tryd.prog 26 #[.slice (some ⟨g, 0, none⟩) b.length c1] W fun e w' => e = .returned (.int .u64 (U X1)) ∧ Below W.heap.size W w' := by
          intro W h2
          rw [← hX1]
          exact ssum_own _ cur _ _ h2 hl2
        have S22 := Lib.hid s22; clear s22
        have S26 := Lib.hid s26; clear s26 hX1
        cases d with
        | true =>
          have hU : (U X1 == U X0) = false := beq_eq_false_iff_ne.2 fun h => hlaw.2 rfl (U_inj.1 h)
          have hU2 : (U X1 != U X0) = true := by rw [bne, hU]; rfl
          have hU3 : ¬ U X1 = U X0 := by simpa using hU
          clear hlaw
          refine (S22.out _ Hb.out Hv.out).mono ?_
          rintro e w4 ⟨rfl, b4⟩
          have Hv4 := Lib.hid (Hv.out.kept b4)
          have B4 := Lib.hid (Hb.out.trans (b4.mono Hb.out.size)); clear b4
          go_wp2_with fail
          refine (S22.out _ B4.out Hv4.out).mono ?_
          rintro e w5 ⟨rfl, b5⟩
          have Hv5 := Lib.hid (Hv4.out.kept b5)
          have B5 := Lib.hid (B4.out.trans (b5.mono B4.out.size)); clear b5
          go_wp2_with fail
          refine (S26.out _ Hv5.out).mono ?_
          rintro e w6 ⟨rfl, b6⟩
          have B6 := Lib.hid (B5.out.trans (b6.mono B5.out.size)); clear b6
          go_wp2_with fail
          go_ret
          exact ⟨rfl, B6.out⟩
        | false =>
          obtain rfl : X1 = X0 := Decidable.byContradiction fun h => Bool.noConfusion (hlaw.1 h)
          clear hlaw
          refine (S22.out _ Hb.out Hv.out).mono ?_
          rintro e w4 ⟨rfl, b4⟩
          have Hv4 := Lib.hid (Hv.out.kept b4)
          have B4 := Lib.hid (Hb.out.trans (b4.mono Hb.out.size)); clear b4
          go_wp2_with fail
          refine (S22.out _ B4.out Hv4.out).mono ?_
          rintro e w5 ⟨rfl, b5⟩
          have Hv5 := Lib.hid (Hv4.out.kept b5)
          have B5 := Lib.hid (B4.out.trans (b5.mono B4.out.size)); clear b5
          go_wp2_with fail
          refine (S26.out _ Hv5.out).mono ?_
          rintro e w6 ⟨rfl, b6⟩
          have B6 := Lib.hid (B5.out.trans (b6.mono B5.out.size)); clear b6
          go_wp2_with fail
          go_ret
          exact ⟨rfl, B6.out⟩
end
theorem fnLane_walk (A : Option Addr) (c : Nat) (b : List UInt8) (n : Int) (x : Int) (w : World) (hl : b.length ≤ c) (hc : c ≤ 140737488351232) (hm : Mem w w.heap.size A b) (_wf1 : (Lit.int .i64 n).wf = true) (wf : (Lit.int .u64 x).wf = true) (hp : w.cell? ⟨0, 0, none⟩ = some (.int .u64 (U P1))) :
    Calls Tryd.prog 5 #[.slice A b.length c, .int .i64 n, .int .u64 x] w fun e w' => e = .returned (.bool true) ∧ Below w.heap.size w w' := by
  obtain ⟨X, rfl⟩ := word_of wf
  exact lane_end A c b n X w hl hc hm hp
end Go.Proofs.YtmcjajeglmjghaaDoor
