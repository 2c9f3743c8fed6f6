/- The walks of laws.FnWrites, laws.FnPieces, laws.FnRoads. -/
import Derived.Test.YtmcjajeglmjghaaDoorPcs
import Derived.Test.YtmcjajeglmjghaaDoorWB
namespace Go.Proofs.YtmcjajeglmjghaaDoor
open Go.RowKit

set_option maxHeartbeats 2000000 in
theorem fnWrites_walk (A : Option Addr) (c : Nat) (ps : List Piece) (w : World) (hl : ps.length ≤ c) (hc : c * 24 ≤ 140737488351232 ∧ ∀ p ∈ ps, p.c ≤ 140737488351232)
    (hm : Row w w.heap.size A ps ∧ ∀ p ∈ ps, p.l.length ≤ p.c ∧ Mem w w.heap.size p.A p.l) (hp : w.cell? ⟨0, 0, none⟩ = some (.int .u64 (U P1))) :
    Calls Tryd.prog 11 #[.slice A ps.length c] w fun e w' => e = .returned (.bool true) ∧ Below w.heap.size w w' := by
  have hr := Rws.of hm hc
  have hpl : ps.length * 24 ≤ 140737488351232 := by omega
  have h30 := Lib.hid (pieces_any A c ps w hpl hr hp)
  have Hr := Lib.hid hr
  clear hm hp hc hr hl
  go_enter Tryd.func11, Tryd.ntmps11
  go_wp2_with fail
  refine h30.out.mono ?_
  rintro e w1 ⟨v, u, ys, rfl, _, _, hu, b1⟩
  have hrr := Hr.out.below b1 (Nat.le_refl _)
  obtain ⟨B, d, rfl, hlu, hcu⟩ := hu.form
  rw [List.length_map] at hlu ⊢
  have Hcu := Lib.hid hcu; clear hcu hu Hr h30
  have hdec : ((ps.length : Int) != (ps.length : Int)) = false := by simp
  go_wp2_with fail
  go_loop [25] (fun i => ∃ k : Nat, k ≤ ps.length ∧ i = .int .i64 k) (fun i => ps.length - (intOf i).toNat)
  case atStart => exact ⟨0, by omega, rfl⟩
  case round =>
    obtain ⟨k, hk, rfl⟩ := hrel
    by_cases hlt : k < ps.length
    · obtain ⟨g, o, hA, hg, hcells⟩ := hrr.1 (by omega)
      obtain ⟨g2, hB, _, hcells2⟩ := Hcu.out (by simp; omega)
      obtain ⟨p, hp⟩ : ∃ p, ps[k] = p := ⟨_, rfl⟩
      have hcell := hcells k hlt
      have hcell2 := hcells2 k (by simpa using hlt)
      rw [List.getElem_map] at hcell2
      rw [hp] at hcell hcell2
      unfold Piece.val at hcell
      unfold lenV at hcell2
      have hlt' : (k : Int) < (ps.length : Int) := by omega
      have hne : ((p.l.length : Int) != (p.l.length : Int)) = false := by simp
      cases hA
      cases hB
      clear hcells hcells2 hp
      go_wp2_with fail
      exact ⟨⟨k + 1, by omega, by go_num⟩, by simp [intOf]; omega⟩
    · have hd : decide ((k : Int) < (ps.length : Int)) = false := by simp; omega
      have hge : (ps.length : Int) ≤ (k : Int) := by omega
      go_wp2_with fail
      go_ret
      exact ⟨rfl, b1⟩

theorem info22 : (Tryd.prog.info? 22).map (fun i => (i.zero, i.size, i.bytes)) = some (some (.slice none 0 0), 1, 24) := by kernel_rfl
theorem run_sliceTo36 (A : Option Addr) (n c k : Nat) (a : Int) (ha : a = k) (hk : k ≤ c) (W : World) :
    (Instr.slice 36 (.slice A n c) none (some (.int .i64 a)) none).run Tryd.prog W = .ok (.slice A k c) W := by
  obtain ⟨i0, hi0, hz0, hz1, hz2⟩ := info_parts info22
  subst ha
  have e : A.map (fun x => x.add 0) = A := by cases A <;> simp [Addr.add]
  simp only [Instr.slice, run_underlying Tryd.underlying36, Instr.sliceBounds, Instr.sliceBound, asIntOf, sizeOf, typeInfo, Sem.run_bind, Sem.run_pure, Result.andThen_ok]
  simp [hi0, hk, e]
set_option maxHeartbeats 2000000 in
theorem fnPieces_walk (A : Option Addr) (c : Nat) (ps : List Piece) (w : World) (hl : ps.length ≤ c) (hc : c * 24 ≤ 140737488351232 ∧ ∀ p ∈ ps, p.c ≤ 140737488351232)
    (hm : Row w w.heap.size A ps ∧ ∀ p ∈ ps, p.l.length ≤ p.c ∧ Mem w w.heap.size p.A p.l) (hu : (allB ps).length + ps.length ≤ 1048576) (hp : w.cell? ⟨0, 0, none⟩ = some (.int .u64 (U P1))) :
    Calls Tryd.prog 10 #[.slice A ps.length c] w fun e w' => e = .returned (.bool true) ∧ Below w.heap.size w w' := by
  have hr := Rws.of hm hc
  have hpl : ps.length * 24 ≤ 140737488351232 := by omega
  have h30 := Lib.hid (pieces_any A c ps w hpl hr hp)
  have Hr := Lib.hid hr
  clear hm hp hc hr
  go_enter Tryd.func10, Tryd.ntmps10
  go_wp2_with fail
  refine h30.out.mono ?_
  rintro e w1 ⟨v, u, ys, rfl, hys, hv, _, b1⟩
  have hrr := (Hr.out.below b1 (Nat.le_refl _)).more b1.size
  obtain ⟨B, d, rfl, hlu, hcu⟩ := hv.form
  have hyl := hys.1
  have hye := hys.2 (by omega)
  subst hye
  rw [hyl] at hlu ⊢
  have Hcu := Lib.hid hcu; clear hcu hv Hr h30 hys hyl
  have Hrr := Lib.hid hrr; clear hrr
  have hdec : (((ps.length : Int) + 1) != ((ps.length : Int) + 1)) = false := by simp
  go_wp2_with fail
  go_loopw [22] (fun i wr => ∃ k : Nat, k ≤ ps.length + 1 ∧ i = .int .i64 k ∧ Below w1.heap.size w1 wr) (fun i _ => ps.length + 1 - (intOf i).toNat)
  case atStart => exact ⟨0, by omega, rfl, Below.refl _ _⟩
  case round =>
    obtain ⟨k, hk, rfl, hb⟩ := hrel
    by_cases hlt : k < ps.length + 1
    · obtain ⟨g2, hB, hg2, hcells2⟩ := Hcu.out (by simp)
      have hcell2 := hcells2 k (by simpa using hlt)
      rw [List.getElem_map, List.getElem_range, ← hb.cell (p := ⟨g2, k, none⟩) hg2] at hcell2
      unfold sumV at hcell2
      have hlt' : (k : Int) < (ps.length : Int) + 1 := by omega
      have s1 := fun W : World => run_sliceTo36 A ps.length c k (k : Int) rfl (by omega) W
      have etl : (ps.take k).length = k := by rw [List.length_take]; omega
      have htk := take_len_le ps k
      have h29 := joined_any A c (ps.take k) wr (by omega) (by omega) (((Hrr.out.take k).below hb (Nat.le_refl _)).more hb.size)
      rw [etl] at h29
      have H29 := Lib.hid h29; clear h29 etl
      cases hB
      clear hcells2
      go_wp2_with fail
      refine H29.out.mono ?_
      rintro e w2 ⟨v2, rfl, hv2, b2⟩
      go_wp2_with fail
      refine (ssum_own v2 _ _ _ hv2 (by omega)).mono ?_
      rintro e w3 ⟨rfl, b3⟩
      have hb' := hb.trans ((b2.mono hb.size).trans (b3.mono (Nat.le_trans hb.size b2.size)))
      have hne : (U (xxh (allB (ps.take k))) != U (xxh (allB (ps.take k)))) = false := by simp
      clear hv2 b2 b3 H29
      go_wp2_with fail
      exact ⟨⟨k + 1, by omega, by go_num, hb'⟩, by simp [intOf]; omega⟩
    · have hd : decide ((k : Int) < (ps.length : Int) + 1) = false := by simp; omega
      have hge : (ps.length : Int) + 1 ≤ (k : Int) := by omega
      go_wp2_with fail
      go_ret
      exact ⟨rfl, b1.trans (hb.mono b1.size)⟩
end Go.Proofs.YtmcjajeglmjghaaDoor
