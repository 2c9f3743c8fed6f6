/- The walk of laws.FnNothing. -/
import Derived.Test.YtmcjajeglmjghaaDoorWB
import Derived.Test.YtmcjajeglmjghaaDoorPcs
namespace Go.Proofs.YtmcjajeglmjghaaDoor
open Go.RowKit

theorem info22' : (Tryd.prog.info? 22).map (fun i => (i.zero, i.size, i.bytes)) = some (some (.slice none 0 0), 1, 24) := by kernel_rfl
/-- append(v, news...), news laid in a block of their own. -/
theorem run_append_list (W : World) (base ty t e bytes : Nat) (z : Value) (ht : Tryd.prog.underlying t = some (.slice e)) (hinfo : (Tryd.prog.info? e).map (fun i => (i.zero, i.size, i.bytes)) = some (some z, 1, bytes)) (hz1 : z.cells.size = 1)
    (v : Value) (xs : List Value) (h : OwnR W base e v xs) (g m : Nat) (news : List Value) (hm : news.length = m) (hcell : ∀ j u, news[j]? = some u → W.cell? ⟨g, j, none⟩ = some u) (h1 : ∀ u ∈ news, u.oneCell' = true) (hl : (xs.length + m) * bytes ≤ 140737488355328) (hl2 : xs.length + m ≤ 140737488355328) (hbase : base ≤ W.heap.size) :
    ∃ v' w', (Builtin.append_ #[t, t] ty #[v, .slice (some ⟨g, 0, none⟩) m m]).run Tryd.prog W = .ok v' w' ∧ OwnR w' base e v' (xs ++ news) ∧ Below base W w' ∧ W.grownBy w' v.ownBlock := by
  obtain ⟨i0, hi0, hz0, hs0, hb0⟩ := info_parts hinfo
  have hrow : ∀ k, v.ownBlock = some k → base ≤ k := fun k hk => (World.ownsRow.lt h k hk).1
  obtain ⟨v', w', hrun, h2, h3, _, _⟩ := run_append_own_at (P := Tryd.prog) W base t ty e i0 z 1 bytes ht hi0 hz0 hs0 hb0 hz1 (by omega) v xs.length xs h ⟨g, 0, none⟩ m m news (by rw [hm, Nat.mul_one]) (fun j u hu => by rw [add_at, Nat.zero_add]; exact hcell j u hu) h1 (by simp only [maxLen]; omega) hl hbase
  refine ⟨v', w', hrun, ?_, (Below.refl _ _).grown h3 hbase hrow, h3⟩
  unfold OwnR
  rw [List.length_append, hm]
  exact h2
theorem val_one (p : Piece) : p.val.oneCell' = true := rfl
/-- A row of the call's own that holds pieces. -/
theorem OwnR.rws {w : World} {base : Nat} {v : Value} {qs : List Piece} (h : OwnR w base 22 v (qs.map Piece.val)) (hq : ∀ q ∈ qs, q.There w w.heap.size) : ∃ A c, v = .slice A qs.length c ∧ qs.length ≤ c ∧ Rws w w.heap.size A qs := by
  obtain ⟨A, c, rfl, h1, h2⟩ := h.form
  rw [List.length_map] at h1
  refine ⟨A, c, by rw [List.length_map], h1, fun hpos => ?_, hq⟩
  obtain ⟨g, rfl, hg, hcells⟩ := h2 (by simpa using hpos)
  refine ⟨g, 0, rfl, hg, fun j hj => ?_⟩
  have := hcells j (by simpa using hj)
  rw [List.getElem_map] at this
  rw [Nat.zero_add]
  exact this
/-- k pieces have been taken, each between two of no bytes. -/
def NR (ps : List Piece) (A : Option Addr) (w0 : World) (v i : Value) (wr : World) : Prop :=
  ∃ (k : Nat) (qs : List Piece), k ≤ ps.length ∧ qs.length = 3 * k ∧ i = .int .i64 k ∧ allB qs = allB (ps.take k) ∧ OwnR wr w0.heap.size 22 v (qs.map Piece.val) ∧ (∀ q ∈ qs, q.There wr w0.heap.size) ∧ Rws wr w0.heap.size A ps ∧ Below w0.heap.size w0 wr
theorem there_nil (w : World) (B : Nat) (A : Option Addr) : Piece.There w B ⟨A, 0, []⟩ := ⟨Nat.le_refl _, by simp, Mem.nil _ _ _⟩

set_option maxHeartbeats 4000000 in
theorem fnNothing_walk (A : Option Addr) (c : Nat) (ps : List Piece) (w : World) (_hl : ps.length ≤ c) (hc : c * 24 ≤ 140737488351232 ∧ ∀ p ∈ ps, p.c ≤ 140737488351232)
    (hm : Row w w.heap.size A ps ∧ ∀ p ∈ ps, p.l.length ≤ p.c ∧ Mem w w.heap.size p.A p.l) (hu : (allB ps).length + ps.length ≤ 1048576) (hp : w.cell? ⟨0, 0, none⟩ = some (.int .u64 (U P1))) :
    Calls Tryd.prog 8 #[.slice A ps.length c] w fun e w' => e = .returned (.bool true) ∧ Below w.heap.size w w' := by
  have hr := Rws.of hm hc
  have hpos : 0 < w.heap.size := cell_pos hp
  have Hp0 := Lib.hid hp; clear hp
  clear hm hc
  go_enter Tryd.func8, Tryd.ntmps8
  go_wp2_with fail
  go_loopw [3, 8] (fun v i wr => NR ps A w v i wr) (fun _ i _ => ps.length - (intOf i).toNat)
  case atStart => exact ⟨0, [], by omega, rfl, rfl, rfl, OwnR.nil _ _ _, (fun q hq => by cases hq), hr, Below.refl _ _⟩
  case round =>
    obtain ⟨k, qs, hk, hql, rfl, hall, hown, hth, hrr, hb⟩ := hrel
    by_cases hlt : k < ps.length
    · obtain ⟨g, o, hA, hg, hcells⟩ := hrr.1 (by omega)
      obtain ⟨p, hp⟩ : ∃ p, ps[k] = p := ⟨_, rfl⟩
      have hcell := hcells k hlt
      have hthp := hrr.2 ps[k] (List.getElem_mem hlt)
      rw [hp] at hcell hthp
      unfold Piece.val at hcell
      have hlt' : (k : Int) < (ps.length : Int) := by omega
      have hownW : OwnR ((wr.alloc (.cells #[] 5)).alloc (.cells #[.slice none 0 0, .slice p.A p.l.length p.c, .slice (some ⟨wr.heap.size, 0, none⟩) 0 0] 22)) w.heap.size 22 u3 (qs.map Piece.val) := World.ownsRow.alloc (World.ownsRow.alloc hown _) _
      have hnew : ∀ j u, [Value.slice none 0 0, .slice p.A p.l.length p.c, .slice (some ⟨wr.heap.size, 0, none⟩) 0 0][j]? = some u → ((wr.alloc (.cells #[] 5)).alloc (.cells #[.slice none 0 0, .slice p.A p.l.length p.c, .slice (some ⟨wr.heap.size, 0, none⟩) 0 0] 22)).cell? ⟨wr.heap.size + 1, j, none⟩ = some u := by
        intro j u hu
        have hh := heap_alloc_new (wr.alloc (.cells #[] 5)) (.cells #[.slice none 0 0, .slice p.A p.l.length p.c, .slice (some ⟨wr.heap.size, 0, none⟩) 0 0] 22)
        rw [show (wr.alloc (.cells #[] 5)).heap.size = wr.heap.size + 1 from by simp] at hh
        rw [cell_of_row _ _ _ _ _ _ hh]
        simpa using hu
      obtain ⟨v1, w1, hrun, hown1, b1, g1⟩ := run_append_list _ w.heap.size 36 36 22 24 _ Tryd.underlying36 info22' rfl u3 _ hownW (wr.heap.size + 1) 3 _ rfl hnew (by intro u hu; simp at hu; rcases hu with rfl | rfl | rfl <;> rfl) (by simp; omega) (by simp; omega) (by simp; have := hb.size; omega)
      have b0 : Below w.heap.size wr ((wr.alloc (.cells #[] 5)).alloc (.cells #[.slice none 0 0, .slice p.A p.l.length p.c, .slice (some ⟨wr.heap.size, 0, none⟩) 0 0] 22)) := ((Below.refl _ wr).alloc hb.size _).alloc (by simp; have := hb.size; omega) _
      have hbb : Below w.heap.size wr w1 := b0.trans b1
      have hnext : NR ps A w v1 (.int .i64 ((k : Int) + 1)) w1 := by
        refine ⟨k + 1, qs ++ [⟨none, 0, []⟩, p, ⟨some ⟨wr.heap.size, 0, none⟩, 0, []⟩], hlt, by simp; omega, by go_num, ?_, ?_, ?_, hrr.below hbb (Nat.le_refl _), hb.trans hbb⟩
        · rw [allB_app, hall, allB_snoc ps k hlt, hp]; simp [allB]
        · rw [List.map_append]; exact hown1
        · intro q hq
          rcases List.mem_append.1 hq with h | h
          · exact (hth q h).below hbb (Nat.le_refl _)
          · simp at h
            rcases h with rfl | rfl | rfl
            · exact there_nil _ _ _
            · exact hthp.below hbb (Nat.le_refl _)
            · exact there_nil _ _ _
      have Hrun := Lib.hid hrun; clear hrun
      have Hnext := Lib.hid hnext; clear hnext
      clear hownW hnew hown1 b1 g1 b0 hbb hown hth hrr hb hthp hall hp hql
      cases hA
      clear hcells
      go_wp2_with (at_builtin; refine wpList_append_run rfl (.tmp 12) (.tmp 15) 36 36 rfl _ _ rfl rfl v1 w1 Hrun.out ?_)
      exact ⟨Hnext.out, by simp [intOf]; omega⟩
    · have hd : decide ((k : Int) < (ps.length : Int)) = false := by simp; omega
      have hge : (ps.length : Int) ≤ (k : Int) := by omega
      have htk : ps.take k = ps := List.take_of_length_le (by omega)
      rw [htk] at hall
      obtain ⟨A1, c1, rfl, hl1, hrq⟩ := hown.rws (fun q hq => (hth q hq).more hb.size)
      have h28 := whole_any A1 c1 qs wr (by omega) (by rw [hall]; omega) hrq (prime_below Hp0.out hb hpos)
      rw [hall] at h28
      have H28 := Lib.hid h28; clear h28
      have Hr := Lib.hid hrr; clear hrr
      have Hb := Lib.hid hb; clear hb
      clear hown hth hrq hall htk hql
      go_wp2_with fail
      refine H28.out.mono ?_
      rintro e w1 ⟨rfl, b1⟩
      go_wp2_with fail
      have b01 := Hb.out.trans (b1.mono Hb.out.size)
      refine (joined_any A c ps _ (by omega) (by omega) ((Hr.out.below b1 Hb.out.size).more b01.size)).mono ?_
      rintro e w2 ⟨v, rfl, hv, b2⟩
      go_wp2_with fail
      refine (ssum_own v _ _ _ hv (by omega)).mono ?_
      rintro e w3 ⟨rfl, b3⟩
      go_wp2_with fail
      go_ret
      exact ⟨rfl, b01.trans ((b2.mono b01.size).trans (b3.mono (Nat.le_trans b01.size b2.size)))⟩
end Go.Proofs.YtmcjajeglmjghaaDoor
