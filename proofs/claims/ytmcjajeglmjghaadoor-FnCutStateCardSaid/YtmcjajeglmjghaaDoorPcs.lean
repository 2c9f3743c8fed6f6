/- impl.Pieces: the sums between the pieces, how many bytes each write took, and that none failed. -/
import Derived.Test.YtmcjajeglmjghaaDoorJoin
import Derived.Laws.OwnMore
import Derived.Deep.RegionLaw
namespace Go.Proofs.YtmcjajeglmjghaaDoor
open Go.RowKit

/-- The slice v is the call's own and holds the one-cell values xs, of type e. -/
def OwnR (w : World) (base : Nat) (e : TypeId) (v : Value) (xs : List Value) : Prop := w.ownsRow base e 1 v xs.length xs
section
variable {w w' : World} {base : Nat} {e e' : TypeId} {v u : Value} {xs ys : List Value}
theorem OwnR.nil (w : World) (base : Nat) (e : TypeId) : OwnR w base e (.slice none 0 0) [] := World.ownsRow_nil w base e 1
theorem OwnR.ne (h : OwnR w base e v xs) (h' : OwnR w base e' u ys) (hne : e ≠ e') : v.ownBlock = none ∨ v.ownBlock ≠ u.ownBlock := by
  rcases h.2 with ⟨rfl, _⟩ | ⟨g, cap, cur, rfl, _, hh, _⟩
  · exact .inl rfl
  · rcases h'.2 with ⟨rfl, _⟩ | ⟨g', cap', cur', rfl, _, hh', _⟩
    · right; simp [Value.ownBlock]
    · right
      intro hg
      have : g = g' := by simpa [Value.ownBlock] using hg
      subst this
      rw [hh] at hh'
      injection hh' with h1
      injection h1 with _ h2
      exact hne h2
theorem OwnR.neDig (h : OwnR w base e v xs) {D : Nat} {l : List UInt8} (hd : Holds w D l) (hne : e ≠ 77) : v.ownBlock = none ∨ v.ownBlock ≠ some D := by
  rcases h.2 with ⟨rfl, _⟩ | ⟨g, cap, cur, rfl, _, hh, _⟩
  · exact .inl rfl
  · right
    intro hg
    have : g = D := by simpa [Value.ownBlock] using hg
    subst this
    obtain ⟨m, hd, _⟩ := hd
    have := hd.2
    rw [hh] at this
    injection this with h1
    injection h1 with _ h2
    exact hne h2
theorem OwnR.only (h : OwnR w base e v xs) {D : Nat} {l : List UInt8} (hd : Holds w D l) (hne : e ≠ 77) (ho : Only D w w') : OwnR w' base e v xs := World.ownsRow.kept h ho (h.neDig hd hne)
theorem OwnR.below (h : OwnR w base e v xs) (hb : Below w.heap.size w w') : OwnR w' base e v xs :=
  World.ownsRow.kept (row := none) h ⟨hb.os, hb.tape, hb.output, hb.size, fun i hi _ => hb.block i hi⟩ (by
    cases hv : v.ownBlock with
    | none => exact .inl rfl
    | some k => exact .inr (by simp))
theorem OwnR.form (h : OwnR w base e v xs) : ∃ A c, v = .slice A xs.length c ∧ xs.length ≤ c ∧ (0 < xs.length → ∃ g, A = some ⟨g, 0, none⟩ ∧ g < w.heap.size ∧ ∀ (j : Nat) (hj : j < xs.length), w.cell? ⟨g, j, none⟩ = some xs[j]) := by
  rcases h.2 with ⟨rfl, h0⟩ | ⟨g, cap, cur, rfl, hb, hh, hn, hm, hs, ht⟩
  · exact ⟨none, 0, by rw [h0], by omega, fun hpos => absurd hpos (by omega)⟩
  · refine ⟨_, cap, rfl, hn, fun hpos => ⟨g, rfl, ?_, fun j hj => ?_⟩⟩
    · rcases Nat.lt_or_ge g w.heap.size with hlt | hge
      · exact hlt
      · rw [Array.getElem?_eq_none hge] at hh; cases hh
    · rw [cell_of_row w g j cur e (0, 0) hh]
      have e1 : (cur.toList.take (xs.length * 1))[j]? = xs[j]? := by rw [ht]
      rw [List.getElem?_take, if_pos (by omega), List.getElem?_eq_getElem hj] at e1
      rw [← Array.getElem?_toList, e1]
end
/-- append(v, x), x laid in a block of its own first; behind a draw or none. -/
theorem run_append_one (w W : World) (base ty t e bytes : Nat) (z : Value) (ht : Tryd.prog.underlying t = some (.slice e)) (hinfo : (Tryd.prog.info? e).map (fun i => (i.zero, i.size, i.bytes)) = some (some z, 1, bytes)) (hz1 : z.cells.size = 1)
    (v : Value) (xs : List Value) (h : OwnR w base e v xs) (x : Value) (hx : x.oneCell' = true) (hW : W = w.alloc (.cells #[x] e) ∨ W = (w.alloc (.cells #[x] e)).drew) (hl : (xs.length + 1) * bytes ≤ 140737488355328) (hl2 : xs.length + 1 ≤ 140737488355328) (hbase : base ≤ w.heap.size) :
    ∃ v' w', (Builtin.append_ #[t, t] ty #[v, .slice (some ⟨w.heap.size, 0, none⟩) 1 1]).run Tryd.prog W = .ok v' w' ∧ OwnR w' base e v' (xs ++ [x]) ∧ Below base w w' ∧ w.grownBy w' v.ownBlock := by
  obtain ⟨i0, hi0, hz0, hs0, hb0⟩ := info_parts hinfo
  have hrow : ∀ k, v.ownBlock = some k → base ≤ k := fun k hk => (World.ownsRow.lt h k hk).1
  have hownW : W.ownsRow base e 1 v xs.length xs := by
    rcases hW with rfl | rfl
    · exact World.ownsRow.alloc h _
    · exact World.ownsRow.alloc h _
  have hcell : ∀ j u, [x][j]? = some u → W.cell? ((⟨w.heap.size, 0, none⟩ : Addr).add j) = some u := by
    intro j u hu
    have hj : j = 0 := by
      rcases Nat.eq_zero_or_pos j with h0 | h0
      · exact h0
      · rw [List.getElem?_eq_none (by simp; omega)] at hu; cases hu
    subst hj
    simp at hu
    subst hu
    have hc : (w.alloc (.cells #[x] e)).cell? ⟨w.heap.size, 0, none⟩ = some x := by
      rw [cell_of_row _ _ _ _ _ _ (heap_alloc_new w (.cells #[x] e))]; rfl
    rcases hW with rfl | rfl
    · exact hc
    · exact hc
  have hgW : w.grownBy W v.ownBlock := by
    rcases hW with rfl | rfl
    · exact World.grownBy_alloc w _ _
    · have := World.grownBy_alloc w (.cells #[x] e) v.ownBlock
      exact ⟨this.os, this.tape, this.output, this.size, this.block⟩
  have hsz : base ≤ W.heap.size := Nat.le_trans hbase hgW.size
  obtain ⟨v', w', hrun, h2, h3, _, _⟩ := run_append_own_at (P := Tryd.prog) W base t ty e i0 z 1 bytes ht hi0 hz0 hs0 hb0 hz1 (by omega) v xs.length xs hownW ⟨w.heap.size, 0, none⟩ 1 1 [x] (by simp) hcell (by intro u hu; simp at hu; subst hu; exact hx) (by simp only [maxLen]; omega) hl hsz
  refine ⟨v', w', hrun, ?_, (Below.refl _ _).grown (World.grownBy.trans hgW h3) hbase hrow, World.grownBy.trans hgW h3⟩
  unfold OwnR
  rw [List.length_append]
  exact h2
theorem info26 : (Tryd.prog.info? 26).map (fun i => (i.zero, i.size, i.bytes)) = some (some (.int .u64 0), 1, 8) := by kernel_rfl
theorem info3 : (Tryd.prog.info? 3).map (fun i => (i.zero, i.size, i.bytes)) = some (some (.int .i64 0), 1, 8) := by kernel_rfl

/-- Sum64 of a digest, whatever the total. -/
theorem sum_some (D : Nat) (l : List UInt8) (w : World) (h : Holds w D l) :
    Calls Tryd.prog 51 #[.pointer (some ⟨D, 0, none⟩)] w fun e w' => ∃ x : B64, e = .returned (.int .u64 (U x)) ∧ (l.length < 18446744073709551616 → x = xxh l) ∧ Below w.heap.size w w' := by
  by_cases hl : l.length < 18446744073709551616
  · exact (sum_holds D l w h hl).mono fun _ _ ⟨he, hb⟩ => ⟨_, he, fun _ => rfl, hb⟩
  · obtain ⟨m, hd, hr⟩ := h
    have hlen := rest_length l
    rw [← hlen] at hd hr
    by_cases ht : 32 ≤ U (BitVec.ofNat 64 l.length)
    · exact (dsum_long D _ _ m (rest l) w hd (rest_lt l) hr ht).mono fun _ _ ⟨he, hb⟩ => ⟨_, he, fun h => absurd h hl, hb⟩
    · exact (dsum_short D _ _ m (rest l) w hd (rest_lt l) hr (by omega)).mono fun _ _ ⟨he, hb⟩ => ⟨_, he, fun h => absurd h hl, hb⟩

def sumV (ps : List Piece) (k : Nat) : Value := .int .u64 (U (xxh (allB (ps.take k))))
def lenV (p : Piece) : Value := .int .i64 (p.l.length : Int)
def SumsOk (ps : List Piece) (k : Nat) (ys : List Value) : Prop := ys.length = k + 1 ∧ ((allB ps).length < 18446744073709551616 → ys = (List.range (k + 1)).map (sumV ps))
theorem SumsOk.next {ps : List Piece} {k : Nat} {ys : List Value} (h : SumsOk ps k ys) {x : B64} (hx : (allB (ps.take (k + 1))).length < 18446744073709551616 → x = xxh (allB (ps.take (k + 1)))) : SumsOk ps (k + 1) (ys ++ [.int .u64 (U x)]) := by
  refine ⟨by simp [h.1], fun hs => ?_⟩
  rw [List.range_succ, List.map_append, ← h.2 hs, hx (Nat.lt_of_le_of_lt (take_len_le ps _) hs)]
  rfl
def PR (ps : List Piece) (A : Option Addr) (w0 : World) (sums many fine i : Value) (wr : World) : Prop :=
  ∃ (k : Nat) (ys : List Value), k ≤ ps.length ∧ i = .int .i64 k ∧ fine = .bool true ∧ SumsOk ps k ys ∧ OwnR wr w0.heap.size 26 sums ys ∧ OwnR wr w0.heap.size 3 many ((ps.take k).map lenV) ∧ Holds wr w0.heap.size (allB (ps.take k)) ∧ Rws wr w0.heap.size A ps ∧ Below w0.heap.size w0 wr
theorem lenV_snoc (ps : List Piece) (k : Nat) (hk : k < ps.length) : (ps.take (k + 1)).map lenV = (ps.take k).map lenV ++ [lenV ps[k]] := by
  rw [List.take_succ_eq_append_getElem hk, List.map_append]; rfl
/-- What Pieces hands back. -/
def PiecesOk (ps : List Piece) (w : World) (e : Ending) (w' : World) : Prop :=
  ∃ (v u : Value) (ys : List Value), e = .returned (.tuple #[v, u, .bool true]) ∧ SumsOk ps ps.length ys ∧ OwnR w' w.heap.size 26 v ys ∧ OwnR w' w.heap.size 3 u (ps.map lenV) ∧ Below w.heap.size w w'

section
attribute [local go_sem ↓] Go.wp_at_zero Go.wp_at_succ
set_option maxHeartbeats 4000000 in
theorem pieces_any (A : Option Addr) (c : Nat) (ps : List Piece) (w : World) (hl : ps.length * 24 ≤ 140737488351232) (hr : Rws w w.heap.size A ps) (hp : w.cell? ⟨0, 0, none⟩ = some (.int .u64 (U P1))) :
    Calls Tryd.prog 30 #[.slice A ps.length c] w (PiecesOk ps w) := by
  have Hp0 := Lib.hid hp; clear hp
  go_enter Tryd.func30, Tryd.ntmps30
  go_wp2_with fail
  refine (new_holds _ Hp0.out).mono ?_
  rintro e w1 ⟨rfl, h1, b1⟩
  go_wp2_with fail
  refine (sum_some _ _ _ h1).mono ?_
  rintro e w2 ⟨x0, rfl, hx0, b2⟩
  have h2 := h1.below b2 h1.lt
  obtain ⟨v1, w3, hrun1, hv1, b3, g3⟩ := run_append_one w2 (w2.alloc (.cells #[.int .u64 (U x0)] 26)) w.heap.size 40 40 26 8 _ Tryd.underlying40 info26 rfl (.slice none 0 0) [] (OwnR.nil _ _ _) (.int .u64 (U x0)) rfl (.inl rfl) (by simp) (by simp) (Nat.le_trans b1.size b2.size)
  have Hrun1 := Lib.hid hrun1; clear hrun1
  have Hx0 := Lib.hid hx0; clear hx0
  have h3 : Holds w3 w.heap.size [] := by
    obtain ⟨m, hd, hr'⟩ := h2
    exact ⟨m, hd.keep (g3.block _ hd.lt (by simp [Value.ownBlock])), hr'⟩
  have Hh := Lib.hid h3; clear h3 h2 h1
  have bb : Below w.heap.size w w3 := b1.trans ((b2.mono b1.size).trans b3)
  clear b1 b2 b3 g3
  have Hv1 := Lib.hid hv1; clear hv1
  go_wp2_with (at_builtin; refine wpList_append_run rfl (.tmp 11) (.tmp 14) 40 40 rfl _ _ rfl rfl v1 w3 Hrun1.out ?_)
  go_loopw [2, 3, 4, 18] (fun s m f i wr => PR ps A w s m f i wr) (fun _ _ _ i _ => ps.length - (intOf i).toNat)
  case atStart =>
    refine ⟨0, [.int .u64 (U x0)], by omega, rfl, rfl, ⟨rfl, fun _ => ?_⟩, Hv1.out, OwnR.nil _ _ _, Hh.out, hr.below bb (Nat.le_refl _), bb⟩
    rw [Hx0.out (by simp)]
    rfl
  case round =>
    obtain ⟨k, ys, hk, rfl, rfl, hys, hsum, hmany, hh, hrr, hb⟩ := hrel
    clear Hrun1 Hx0 Hh Hv1 bb
    by_cases hlt : k < ps.length
    · obtain ⟨g, o, hA, hg, hcells⟩ := hrr.1 (by omega)
      obtain ⟨p, hp⟩ : ∃ p, ps[k] = p := ⟨_, rfl⟩
      have hcell := hcells k hlt
      have hth := hrr.2 ps[k] (List.getElem_mem hlt)
      rw [hp] at hcell hth
      unfold Piece.val at hcell
      have hlt' : (k : Int) < (ps.length : Int) := by omega
      have Hp := Lib.hid hp; clear hp
      have Hr := Lib.hid hrr; clear hrr
      have Hh := Lib.hid hh; clear hh
      have Hys := Lib.hid hys; clear hys
      have Hsum := Lib.hid hsum; clear hsum
      have Hmany := Lib.hid hmany; clear hmany
      have Hb := Lib.hid hb; clear hb
      cases hA
      clear hcells
      go_wp2_with fail
      refine (write_holds _ _ p.A p.c p.l _ Hh.out hth.2.2 hth.1 hth.2.1).mono ?_
      rintro e w2 ⟨rfl, h2, o2⟩
      have hsum2 := Hsum.out.only Hh.out (by decide) o2
      have hmany2 := Hmany.out.only Hh.out (by decide) o2
      have b2 := o2.below (Nat.le_of_lt Hh.out.lt)
      have hsz2 : w.heap.size ≤ w2.heap.size := Nat.le_of_lt h2.lt
      obtain ⟨u1, w3, hrun3, hu1, b3, g3⟩ := run_append_one w2 (w2.alloc (.cells #[.int .i64 (p.l.length : Int)] 3)).drew w.heap.size 41 41 3 8 _ Tryd.underlying41 info3 rfl u3 _ hmany2 (.int .i64 (p.l.length : Int)) rfl (.inr rfl) (by simp; omega) (by simp; omega) hsz2
      have hsum3 : OwnR w3 w.heap.size 26 u2 ys := World.ownsRow.kept hsum2 g3 (hsum2.ne hmany2 (by decide))
      have h3 : Holds w3 w.heap.size (allB (ps.take k) ++ p.l) := by
        obtain ⟨m, hd, hr'⟩ := h2
        refine ⟨m, hd.keep (g3.block _ hd.lt ?_), hr'⟩
        rcases hmany2.neDig ⟨m, hd, hr'⟩ (by decide) with h0 | h0
        · rw [h0]; simp
        · exact fun e => h0 e.symm
      have Hrun3 := Lib.hid hrun3; clear hrun3
      have Hu1 := Lib.hid hu1; clear hu1
      have Hsum3 := Lib.hid hsum3; clear hsum3 hsum2 hmany2
      have H3 := Lib.hid h3; clear h3 h2
      have B3 := Lib.hid (b2.trans b3); clear b2 b3 g3 o2 Hsum Hmany Hh
      go_wp2_with fail
      go_region_law (refine step_append_run rfl (.tmp 28) (.tmp 30) 41 41 rfl _ _ rfl rfl u1 w3 Hrun3.out ?_)
      go_wp2_with fail
      refine (sum_some _ _ _ H3.out).mono ?_
      rintro e w4 ⟨x, rfl, hx, b4⟩
      have h4 := H3.out.below b4 H3.out.lt
      have hsum4 := Hsum3.out.below b4
      have hu4 := Hu1.out.below b4
      have hsz4 : w.heap.size ≤ w4.heap.size := Nat.le_of_lt h4.lt
      have hyl := Hys.out.1
      have hyl' : ys.length + 1 ≤ ps.length + 1 := by omega
      clear hyl
      obtain ⟨v2, w5, hrun5, hv2, b5, g5⟩ := run_append_one w4 (w4.alloc (.cells #[.int .u64 (U x)] 26)) w.heap.size 40 40 26 8 _ Tryd.underlying40 info26 rfl u2 _ hsum4 (.int .u64 (U x)) rfl (.inl rfl) (by omega) (by omega) hsz4
      have hu5 : OwnR w5 w.heap.size 3 u1 _ := World.ownsRow.kept hu4 g5 (hu4.ne hsum4 (by decide))
      have h5 : Holds w5 w.heap.size (allB (ps.take k) ++ p.l) := by
        obtain ⟨m, hd, hr'⟩ := h4
        refine ⟨m, hd.keep (g5.block _ hd.lt ?_), hr'⟩
        rcases hsum4.neDig ⟨m, hd, hr'⟩ (by decide) with h0 | h0
        · rw [h0]; simp
        · exact fun e => h0 e.symm
      have Hrun5 := Lib.hid hrun5; clear hrun5
      have Hu5 := Lib.hid hu5; clear hu5 hu4 hsum4
      have Hv2 := Lib.hid hv2; clear hv2
      have H5 := Lib.hid h5; clear h5 h4
      have Hx := Lib.hid hx; clear hx
      have B5 := Lib.hid (B3.out.trans ((b4.mono (Nat.le_of_lt H3.out.lt)).trans b5)); clear b4 b5 g5
      go_wp2_with (at_builtin; refine wpList_append_run rfl (.tmp 37) (.tmp 40) 40 40 rfl _ _ rfl rfl v2 w5 Hrun5.out ?_)
      refine ⟨⟨k + 1, _, hlt, by go_num, rfl, Hys.out.next (x := x) (fun hs => Hx.out (by rw [← Hp.out, ← allB_snoc ps k hlt]; exact hs) |>.trans (by rw [allB_snoc ps k hlt, Hp.out])), Hv2.out, ?_, ?_, Hr.out.below B5.out (Nat.le_refl _), Hb.out.trans B5.out⟩, by simp [intOf]; omega⟩
      · rw [lenV_snoc ps k hlt, Hp.out]; exact Hu5.out
      · rw [allB_snoc ps k hlt, Hp.out]; exact H5.out
    · have hd : decide ((k : Int) < (ps.length : Int)) = false := by simp; omega
      have hge : (ps.length : Int) ≤ (k : Int) := by omega
      have hkk : k = ps.length := by omega
      have htk : ps.take k = ps := List.take_of_length_le (by omega)
      rw [htk] at hmany
      rw [hkk] at hys
      clear htk hkk
      have Hys := Lib.hid hys; clear hys
      have Hsum := Lib.hid hsum; clear hsum
      have Hmany := Lib.hid hmany; clear hmany
      have Hb := Lib.hid hb; clear hb
      clear hrr hh
      go_wp2_with fail
      go_ret3
      exact ⟨_, _, _, rfl, Hys.out, Hsum.out, Hmany.out, Hb.out⟩
end
end Go.Proofs.YtmcjajeglmjghaaDoor
