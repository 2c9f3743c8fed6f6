/- The walk of laws.FnTurns, and of impl.Turns. -/
import Derived.Test.YtmcjajeglmjghaaDoorWB
namespace Go.Proofs.YtmcjajeglmjghaaDoor
open Go.RowKit

theorem allB_stay (ps : List Piece) (k : Nat) (hk : ps.length ≤ k) : allB (ps.take (k + 1)) = allB (ps.take k) := by
  rw [List.take_of_length_le (by omega), List.take_of_length_le hk]
/-- k turns have been taken. -/
def TR (pa pb : List Piece) (A B : Option Addr) (C D : Nat) (w0 : World) (i : Value) (wr : World) : Prop :=
  ∃ k : Nat, (k ≤ pa.length ∨ k ≤ pb.length) ∧ i = .int .i64 k ∧ Holds wr C (allB (pa.take k)) ∧ Holds wr D (allB (pb.take k)) ∧ Rws wr w0.heap.size A pa ∧ Rws wr w0.heap.size B pb ∧ Below w0.heap.size w0 wr
set_option maxHeartbeats 4000000 in
theorem turns_any (A B : Option Addr) (c d : Nat) (pa pb : List Piece) (w : World) (hla : pa.length ≤ 140737488355328) (hlb : pb.length ≤ 140737488355328) (hsa : (allB pa).length < 18446744073709551616) (hsb : (allB pb).length < 18446744073709551616)
    (hra : Rws w w.heap.size A pa) (hrb : Rws w w.heap.size B pb) (hp : w.cell? ⟨0, 0, none⟩ = some (.int .u64 (U P1))) :
    Calls Tryd.prog 31 #[.slice A pa.length c, .slice B pb.length d] w fun e w' => e = .returned (.tuple #[.int .u64 (U (xxh (allB pa))), .int .u64 (U (xxh (allB pb)))]) ∧ Below w.heap.size w w' := by
  have hpos : 0 < w.heap.size := cell_pos hp
  have Hp := Lib.hid hp; clear hp
  have Hsa := Lib.hid hsa; clear hsa
  have Hsb := Lib.hid hsb; clear hsb
  go_enter Tryd.func31, Tryd.ntmps31
  go_wp2_with fail
  refine (new_holds _ Hp.out).mono ?_
  rintro e w1 ⟨rfl, h1, b1⟩
  go_wp2_with fail
  refine (new_holds _ (prime_below Hp.out b1 hpos)).mono ?_
  rintro e w2 ⟨rfl, h2, b2⟩
  have h1' := h1.below b2 h1.lt
  have b12 := b1.trans (b2.mono b1.size)
  have hCD : w.heap.size < w1.heap.size := h1.lt
  clear h1
  go_wp2_with fail
  go_loopw [16] (fun i wr => TR pa pb A B w.heap.size w1.heap.size w i wr) (fun i _ => max pa.length pb.length - (intOf i).toNat)
  case atStart => exact ⟨0, by omega, rfl, h1', h2, hra.below b12 (Nat.le_refl _), hrb.below b12 (Nat.le_refl _), b12⟩
  case round =>
    obtain ⟨k, hk, rfl, hc1, hd1, hr1, hr2, hb⟩ := hrel
    have Hr1 := Lib.hid hr1; clear hr1
    have Hr2 := Lib.hid hr2; clear hr2
    have Hc := Lib.hid hc1; clear hc1
    have Hd := Lib.hid hd1; clear hd1
    have Hb := Lib.hid hb; clear hb
    clear hra hrb h1' h2 b1 b2 b12
    by_cases hlt1 : k < pa.length
    · have hmx : (k : Int) < max (pa.length : Int) (pb.length : Int) := by omega
      obtain ⟨g1, o1, hA1, hg1, hcells1⟩ := Hr1.out.1 (by omega)
      obtain ⟨p1, hp1⟩ : ∃ p, pa[k] = p := ⟨_, rfl⟩
      have hcell1 := hcells1 k hlt1
      have hth1 := Hr1.out.2 pa[k] (List.getElem_mem hlt1)
      rw [hp1] at hcell1 hth1
      unfold Piece.val at hcell1
      have hlt1' : (k : Int) < (pa.length : Int) := by omega
      have Hp1 := Lib.hid hp1; clear hp1
      cases hA1
      clear hcells1
      by_cases hlt2 : k < pb.length
      · have hlt2' : (k : Int) < (pb.length : Int) := by omega
        go_wp2_with fail
        refine (write_holds _ _ p1.A p1.c p1.l _ Hc.out hth1.2.2 hth1.1 hth1.2.1).mono ?_
        rintro e w3 ⟨rfl, h3, o3⟩
        have b3 := o3.below (Nat.le_of_lt Hc.out.lt)
        have hd3 := Hd.out.only o3 (by omega)
        have hr13 := Hr1.out.below b3 (Nat.le_refl _)
        have hr23 := Hr2.out.below b3 (Nat.le_refl _)
        have Hc3 := Lib.hid h3; clear h3
        have Hd3 := Lib.hid hd3; clear hd3
        have Hr13 := Lib.hid hr13; clear hr13
        clear Hr2
        have Hr2 := Lib.hid hr23; clear hr23
        have B3 := Lib.hid (Hb.out.trans b3); clear b3 o3
        obtain ⟨g2, o2, hA2, hg2, hcells2⟩ := Hr2.out.1 (by omega)
        obtain ⟨p2, hp2⟩ : ∃ p, pb[k] = p := ⟨_, rfl⟩
        have hcell2 := hcells2 k hlt2
        have hth2 := Hr2.out.2 pb[k] (List.getElem_mem hlt2)
        rw [hp2] at hcell2 hth2
        unfold Piece.val at hcell2
        have Hp2 := Lib.hid hp2; clear hp2
        cases hA2
        clear hcells2
        go_wp2_with fail
        refine (write_holds _ _ p2.A p2.c p2.l _ Hd3.out (hth2.2.2.more (Nat.le_of_lt hCD)) hth2.1 hth2.2.1).mono ?_
        rintro e w4 ⟨rfl, h4, o4⟩
        have b4 := (o4.below (Nat.le_of_lt Hd3.out.lt)).mono (Nat.le_of_lt hCD)
        have Hc4 := Lib.hid (Hc3.out.only o4 (by omega))
        have Hd4 := Lib.hid h4; clear h4
        have B4 := Lib.hid b4; clear b4 o4
        go_wp2_with fail
        exact ⟨⟨k + 1, by omega, by go_num, by rw [allB_snoc pa k hlt1, Hp1.out]; exact Hc4.out, by rw [allB_snoc pb k hlt2, Hp2.out]; exact Hd4.out, Hr13.out.below B4.out (Nat.le_refl _), Hr2.out.below B4.out (Nat.le_refl _), B3.out.trans B4.out⟩, by simp [intOf]; omega⟩
      · have hge2 : (pb.length : Int) ≤ (k : Int) := by omega
        have hd2 : decide ((k : Int) < (pb.length : Int)) = false := by simp; omega
        go_wp2_with fail
        refine (write_holds _ _ p1.A p1.c p1.l _ Hc.out hth1.2.2 hth1.1 hth1.2.1).mono ?_
        rintro e w3 ⟨rfl, h3, o3⟩
        have b3 := o3.below (Nat.le_of_lt Hc.out.lt)
        have Hd3 := Lib.hid (Hd.out.only o3 (by omega))
        have Hc3 := Lib.hid h3; clear h3
        have B3 := Lib.hid b3; clear b3 o3
        go_wp2_with fail
        exact ⟨⟨k + 1, by omega, by go_num, by rw [allB_snoc pa k hlt1, Hp1.out]; exact Hc3.out, by rw [allB_stay pb k (by omega)]; exact Hd3.out, Hr1.out.below B3.out (Nat.le_refl _), Hr2.out.below B3.out (Nat.le_refl _), Hb.out.trans B3.out⟩, by simp [intOf]; omega⟩
    · have hge1 : (pa.length : Int) ≤ (k : Int) := by omega
      have hd1 : decide ((k : Int) < (pa.length : Int)) = false := by simp; omega
      by_cases hlt2 : k < pb.length
      · have hmx : (k : Int) < max (pa.length : Int) (pb.length : Int) := by omega
        obtain ⟨g2, o2, hA2, hg2, hcells2⟩ := Hr2.out.1 (by omega)
        obtain ⟨p2, hp2⟩ : ∃ p, pb[k] = p := ⟨_, rfl⟩
        have hcell2 := hcells2 k hlt2
        have hth2 := Hr2.out.2 pb[k] (List.getElem_mem hlt2)
        rw [hp2] at hcell2 hth2
        unfold Piece.val at hcell2
        have hlt2' : (k : Int) < (pb.length : Int) := by omega
        have Hp2 := Lib.hid hp2; clear hp2
        cases hA2
        clear hcells2
        go_wp2_with fail
        refine (write_holds _ _ p2.A p2.c p2.l _ Hd.out (hth2.2.2.more (Nat.le_of_lt hCD)) hth2.1 hth2.2.1).mono ?_
        rintro e w4 ⟨rfl, h4, o4⟩
        have b4 := (o4.below (Nat.le_of_lt Hd.out.lt)).mono (Nat.le_of_lt hCD)
        have Hc4 := Lib.hid (Hc.out.only o4 (by omega))
        have Hd4 := Lib.hid h4; clear h4
        have B4 := Lib.hid b4; clear b4 o4
        go_wp2_with fail
        exact ⟨⟨k + 1, by omega, by go_num, by rw [allB_stay pa k (by omega)]; exact Hc4.out, by rw [allB_snoc pb k hlt2, Hp2.out]; exact Hd4.out, Hr1.out.below B4.out (Nat.le_refl _), Hr2.out.below B4.out (Nat.le_refl _), Hb.out.trans B4.out⟩, by simp [intOf]; omega⟩
      · have hmx : max (pa.length : Int) (pb.length : Int) ≤ (k : Int) := by omega
        have hdm : decide ((k : Int) < max (pa.length : Int) (pb.length : Int)) = false := by simp; omega
        have ha : allB (pa.take k) = allB pa := by rw [List.take_of_length_le (by omega)]
        have hb' : allB (pb.take k) = allB pb := by rw [List.take_of_length_le (by omega)]
        have hc2 := Hc.out
        have hd2 := Hd.out
        rw [ha] at hc2
        rw [hb'] at hd2
        clear ha hb' Hc Hd
        have Hc := Lib.hid hc2; clear hc2
        have Hd := Lib.hid hd2; clear hd2
        go_wp2_with fail
        refine (sum_holds _ _ _ Hc.out Hsa.out).mono ?_
        rintro e w3 ⟨rfl, b3⟩
        go_wp2_with fail
        refine (sum_holds _ _ _ (Hd.out.below b3 Hd.out.lt) Hsb.out).mono ?_
        rintro e w4 ⟨rfl, b4⟩
        go_wp2_with fail
        go_ret2
        exact ⟨rfl, Hb.out.trans ((b3.mono Hb.out.size).trans (b4.mono (Nat.le_trans Hb.out.size b3.size)))⟩

theorem fnTurns_walk (A : Option Addr) (c : Nat) (pa : List Piece) (B : Option Addr) (d : Nat) (pb : List Piece) (w : World)
    (_hl : pa.length ≤ c) (hc : c * 24 ≤ 140737488351232 ∧ ∀ p ∈ pa, p.c ≤ 140737488351232) (hm : Row w w.heap.size A pa ∧ ∀ p ∈ pa, p.l.length ≤ p.c ∧ Mem w w.heap.size p.A p.l) (hu : (allB pa).length + pa.length ≤ 1048576)
    (_hl2 : pb.length ≤ d) (hc2 : d * 24 ≤ 140737488351232 ∧ ∀ p ∈ pb, p.c ≤ 140737488351232) (hm2 : Row w w.heap.size B pb ∧ ∀ p ∈ pb, p.l.length ≤ p.c ∧ Mem w w.heap.size p.A p.l) (hu2 : (allB pb).length + pb.length ≤ 1048576)
    (hp : w.cell? ⟨0, 0, none⟩ = some (.int .u64 (U P1))) :
    Calls Tryd.prog 12 #[.slice A pa.length c, .slice B pb.length d] w fun e w' => e = .returned (.bool true) ∧ Below w.heap.size w w' := by
  have hr := Rws.of hm hc
  have hr2 := Rws.of hm2 hc2
  have h31 := Lib.hid (turns_any A B c d pa pb w (by omega) (by omega) (by omega) (by omega) hr hr2 hp)
  have Hr := Lib.hid hr
  have Hr2 := Lib.hid hr2
  clear hm hp hc hr hm2 hc2 hr2
  go_enter Tryd.func12, Tryd.ntmps12
  go_wp2_with fail
  refine h31.out.mono ?_
  rintro e w1 ⟨rfl, b1⟩
  go_wp2_with fail
  refine (joined_any A c pa _ (by omega) (by omega) ((Hr.out.below b1 (Nat.le_refl _)).more b1.size)).mono ?_
  rintro e w2 ⟨v, rfl, hv, b2⟩
  have b12 := b1.trans (b2.mono b1.size)
  go_wp2_with fail
  refine (ssum_own v _ _ _ hv (by omega)).mono ?_
  rintro e w3 ⟨rfl, b3⟩
  have b13 := b12.trans (b3.mono b12.size)
  go_wp2_with fail
  refine (joined_any B d pb _ (by omega) (by omega) ((Hr2.out.below b13 (Nat.le_refl _)).more b13.size)).mono ?_
  rintro e w4 ⟨v2, rfl, hv2, b4⟩
  have b14 := b13.trans (b4.mono b13.size)
  go_wp2_with fail
  refine (ssum_own v2 _ _ _ hv2 (by omega)).mono ?_
  rintro e w5 ⟨rfl, b5⟩
  go_wp2_with fail
  go_ret
  exact ⟨rfl, b14.trans (b5.mono b14.size)⟩
end Go.Proofs.YtmcjajeglmjghaaDoor
