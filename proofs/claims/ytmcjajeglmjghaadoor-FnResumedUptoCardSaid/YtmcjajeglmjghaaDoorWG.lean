/- laws.place; the walk of laws.FnTimes. -/
import Derived.Test.YtmcjajeglmjghaaDoorWF
namespace Go.Proofs.YtmcjajeglmjghaaDoor
open Go.RowKit

/-- A place: a number from 0 on, below k. -/
def SomePlace (k : Int) (w : World) (e : Ending) (w' : World) : Prop := ∃ r : Nat, (r : Int) < k ∧ e = .returned (.int .i64 (r : Int)) ∧ w = w'
theorem place_any (n k : Int) (w : World) (hk : 0 < k) (hk2 : k ≤ 281474976710656) :
    Calls Tryd.prog 25 #[.int .i64 n, .int .i64 k] w (SomePlace k w) := by
  have h1 : -k < n.tmod k := by
    have := Int.lt_tmod_of_pos n hk
    exact this
  have h2 : n.tmod k < k := Int.tmod_lt_of_pos n hk
  have hk0 : (k == 0) = false := by simp; omega
  have hkne : ¬ k = 0 := by omega
  obtain ⟨r, hr⟩ : ∃ r : Nat, n.tmod k % k = r := ⟨(n.tmod k % k).toNat, by have := Int.emod_nonneg (n.tmod k) hkne; omega⟩
  have h6 : (r : Int) < k := by rw [← hr]; exact Int.emod_lt_of_pos _ hk
  have h7 : (n.tmod k + k) % k = r := by rw [← hr]; simp
  have Hr := Lib.hid hr; clear hr
  have H7 := Lib.hid h7; clear h7
  go_enter Tryd.func25, Tryd.ntmps25
  go_wp2
  go_ret
  first | exact ⟨r, h6, ret_int H7.out, rfl⟩ | exact ⟨r, h6, ret_int Hr.out, rfl⟩

theorem OwnB.toR {w : World} {base : Nat} {v : Value} {l : List UInt8} (h : OwnB w base v l) : OwnR w base 5 v (l.map byteV) := by
  unfold OwnR; rw [List.length_map]; exact h
/-- k times the same bytes: at once, and in pieces. -/
def MR (p : Piece) (r : Nat) (w0 : World) (v u i : Value) (wr : World) : Prop :=
  ∃ k : Nat, k ≤ r ∧ i = .int .i64 k ∧ OwnB wr w0.heap.size v (allB (List.replicate k p)) ∧ OwnR wr w0.heap.size 22 u ((List.replicate k p).map Piece.val) ∧ Mem wr w0.heap.size p.A p.l ∧ Below w0.heap.size w0 wr
theorem allB_rep (p : Piece) (k : Nat) : (allB (List.replicate k p)).length = k * p.l.length := by
  induction k with
  | zero => simp [allB]
  | succ k ih => rw [List.replicate_succ, allB_cons, List.length_append, ih, Nat.succ_mul]; omega
theorem rep_snoc (p : Piece) (k : Nat) : List.replicate (k + 1) p = List.replicate k p ++ [p] := List.replicate_succ'
set_option maxHeartbeats 4000000 in
theorem fnTimes_walk (A : Option Addr) (c : Nat) (b : List UInt8) (n : Int) (w : World) (hl : b.length ≤ c) (_hc : c ≤ 140737488351232) (hm : Mem w w.heap.size A b) (hu : b.length ≤ 1048576) (_wf : (Lit.int .i64 n).wf = true) (hp : w.cell? ⟨0, 0, none⟩ = some (.int .u64 (U P1))) :
    Calls Tryd.prog 16 #[.slice A b.length c, .int .i64 n] w fun e w' => e = .returned (.bool true) ∧ Below w.heap.size w w' := by
  have hpos : 0 < w.heap.size := cell_pos hp
  have Hp0 := Lib.hid hp; clear hp
  go_enter Tryd.func16, Tryd.ntmps16
  go_wp2_with fail
  refine (place_any n 301 w (by omega) (by omega)).mono ?_
  rintro e w1 ⟨r, hr, rfl, rfl⟩
  go_wp2_with fail
  go_loopw [5, 6, 11] (fun v u i wr => MR ⟨A, c, b⟩ r w v u i wr) (fun _ _ i _ => r - (intOf i).toNat)
  case atStart => exact ⟨0, by omega, rfl, OwnB.nil _ _, OwnR.nil _ _ _, hm, Below.refl _ _⟩
  case round =>
    obtain ⟨k, hk, rfl, hv, hu1, hmr, hb⟩ := hrel
    have hal := allB_rep ⟨A, c, b⟩ k
    have hmul : k * b.length ≤ 301 * 1048576 := Nat.mul_le_mul (by omega) hu
    by_cases hlt : k < r
    · have hlt' : (k : Int) < (r : Int) := by omega
      obtain ⟨v1, w2, hrun1, hv1, b1, _, g1⟩ := run_append_bytes wr w.heap.size 22 u5 _ hv _ A b c hmr (by rw [hal]; simp only; omega) hb.size
      have hu2 : OwnR w2 w.heap.size 22 u6 ((List.replicate k ⟨A, c, b⟩).map Piece.val) := World.ownsRow.kept hu1 g1 (hu1.ne hv.toR (by decide))
      have hsz2 : w.heap.size ≤ w2.heap.size := Nat.le_trans hb.size b1.size
      obtain ⟨u1, w3, hrun2, hu3, b2, g2⟩ := run_append_one w2 (w2.alloc (.cells #[.slice A b.length c] 22)) w.heap.size 36 36 22 24 _ Tryd.underlying36 info22' rfl u6 _ hu2 (.slice A b.length c) rfl (.inl rfl) (by simp; omega) (by simp; omega) hsz2
      have hv3 : OwnB w3 w.heap.size v1 (allB (List.replicate k ⟨A, c, b⟩) ++ b) := World.ownsRow.kept hv1 g2 (hv1.toR.ne hu2 (by decide))
      have b12 := b1.trans b2
      have hnext : MR ⟨A, c, b⟩ r w v1 u1 (.int .i64 ((k : Int) + 1)) w3 := by
        refine ⟨k + 1, hlt, by go_num, ?_, ?_, hmr.below b12 (Nat.le_refl _), hb.trans b12⟩
        · rw [rep_snoc, allB_app]; simpa [allB] using hv3
        · rw [rep_snoc, List.map_append]; exact hu3
      have Hrun1 := Lib.hid hrun1; clear hrun1
      have Hrun2 := Lib.hid hrun2; clear hrun2
      have Hnext := Lib.hid hnext; clear hnext
      clear hv hu1 hmr hb hv1 b1 g1 hu2 hsz2 hu3 b2 g2 hv3 b12 hal hmul hm
      have tok1 : True := trivial
      go_wp2_with (first | (at_builtin; have _t := tok1; refine wpList_append_run rfl (.tmp 13) (.tmp 14) 22 22 rfl _ _ rfl rfl v1 w2 Hrun1.out ?_; clear tok1) | (at_builtin; refine wpList_append_run rfl (.tmp 16) (.tmp 18) 36 36 rfl _ _ rfl rfl u1 w3 Hrun2.out ?_))
      exact ⟨Hnext.out, by simp [intOf]; omega⟩
    · have hge : (r : Int) ≤ (k : Int) := by omega
      have hd : decide ((k : Int) < (r : Int)) = false := by simp; omega
      obtain ⟨A1, c1, rfl, hl1, hrq⟩ := hu1.rws (fun q hq => by
        have := List.eq_of_mem_replicate hq
        subst this
        exact ⟨hl, by simp only; omega, hmr.more hb.size⟩)
      have Hrq := Lib.hid hrq; clear hrq
      have Hv := Lib.hid hv; clear hv
      have Hb := Lib.hid hb; clear hb
      have hlen : (allB (List.replicate k (⟨A, c, b⟩ : Piece))).length ≤ 315621376 := by rw [hal]; exact hmul
      have hrl : (List.replicate k (⟨A, c, b⟩ : Piece)).length ≤ 301 := by rw [List.length_replicate]; omega
      clear hu1 hmr hal hmul hl1 hm
      generalize List.replicate k (⟨A, c, b⟩ : Piece) = qs at *
      go_wp2_with fail
      refine (ssum_own _ _ _ _ Hv.out (by omega)).mono ?_
      rintro e w2 ⟨rfl, b2⟩
      have b02 := Hb.out.trans (b2.mono Hb.out.size)
      go_wp2_with fail
      refine (isum_own _ _ _ _ (Hv.out.kept b2) (by omega) (prime_below Hp0.out b02 hpos)).mono ?_
      rintro e w3 ⟨rfl, b3⟩
      have b03 := b02.trans (b3.mono b02.size)
      have hr3 := ((Hrq.out.below b2 (Nat.le_refl _)).below b3 b2.size).more (Nat.le_trans b2.size b3.size)
      go_wp2_with fail
      refine (whole_any A1 c1 qs _ (by omega) (by omega) hr3 (prime_below Hp0.out b03 hpos)).mono ?_
      rintro e w4 ⟨rfl, b4⟩
      go_wp2_with fail
      go_ret
      exact ⟨rfl, b03.trans (b4.mono b03.size)⟩
end Go.Proofs.YtmcjajeglmjghaaDoor
