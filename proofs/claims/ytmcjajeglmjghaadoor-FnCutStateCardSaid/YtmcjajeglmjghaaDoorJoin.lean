/- append onto a slice of bytes of the call's own; laws.joined; impl.Whole. -/
import Derived.Test.YtmcjajeglmjghaaDoorLst
import Derived.Test.YtmcjajeglmjghaaDoorWA
import Derived.Maps.AppendAt
namespace Go.Proofs.YtmcjajeglmjghaaDoor
open Go.RowKit

/-- The slice v is the call's own (it lies from block 'base' on) and holds the bytes l. -/
def OwnB (w : World) (base : Nat) (v : Value) (l : List UInt8) : Prop := w.ownsRow base 5 1 v l.length (l.map byteV)
theorem OwnB.nil (w : World) (base : Nat) : OwnB w base (.slice none 0 0) [] := World.ownsRow_nil w base 5 1
theorem OwnB.form {w : World} {base : Nat} {v : Value} {l : List UInt8} (h : OwnB w base v l) : ∃ A c, v = .slice A l.length c ∧ l.length ≤ c ∧ Mem w w.heap.size A l := by
  rcases h.2 with ⟨rfl, h0⟩ | ⟨g, cap, cur, rfl, hb, hh, hn, hm, hs, ht⟩
  · have : l = [] := List.eq_nil_of_length_eq_zero h0
    subst this
    exact ⟨none, 0, rfl, Nat.le_refl _, Mem.nil _ _ _⟩
  · refine ⟨_, cap, rfl, hn, fun hpos => ?_⟩
    have hby : Bytes w g 0 l := fun j hj => by
      rw [cell_of_row w g (0 + j) cur 5 (0, 0) hh]
      have e : (cur.toList.take (l.length * 1))[j]? = (l.map byteV)[j]? := by rw [ht]
      rw [List.getElem?_take, if_pos (by omega), List.getElem?_map, List.getElem?_eq_getElem hj] at e
      rw [Nat.zero_add, ← Array.getElem?_toList, e]
      rfl
    exact ⟨g, 0, rfl, hby.lt hpos, hby⟩
theorem OwnB.block {w : World} {base : Nat} {v : Value} {l : List UInt8} (h : OwnB w base v l) : ∀ k, v.ownBlock = some k → base ≤ k ∧ k < w.heap.size := World.ownsRow.lt h
theorem OwnB.kept {w w' : World} {base : Nat} {v : Value} {l : List UInt8} (h : OwnB w base v l) (hb : Below w.heap.size w w') : OwnB w' base v l :=
  World.ownsRow.kept (row := none) h ⟨hb.os, hb.tape, hb.output, hb.size, fun i hi _ => hb.block i hi⟩ (by
    cases hv : v.ownBlock with
    | none => exact .inl rfl
    | some k => exact .inr (by simp))
theorem run_append_nil (w : World) (base ty : Nat) (v : Value) (l : List UInt8) (h : OwnB w base v l) (c : Nat) : (Builtin.append_ #[22, 22] ty #[v, .slice none 0 c]).run Tryd.prog w = .ok v w := by
  obtain ⟨i0, hi0, hz0, hz1, hz2⟩ := info_parts info5
  rcases h.2 with ⟨rfl, h0⟩ | ⟨g, cap, cur, rfl, _, _, hnc, _⟩
  · simp [Builtin.append_, run_underlying Tryd.underlying22, sizeOf, typeInfo, hi0, Builtin.lenOf, Builtin.firstCells]
  · simp [Builtin.append_, run_underlying Tryd.underlying22, sizeOf, typeInfo, hi0, Builtin.lenOf, Builtin.firstCells, hnc, storeCells]
/-- append(v, b...): what has grown is the call's own. -/
theorem run_append_bytes (w : World) (base ty : Nat) (v : Value) (l : List UInt8) (h : OwnB w base v l) (B : Nat) (A : Option Addr) (b : List UInt8) (c : Nat) (hm : Mem w B A b) (hl : l.length + b.length ≤ 140737488355328) (hbase : base ≤ w.heap.size) :
    ∃ v' w', (Builtin.append_ #[22, 22] ty #[v, .slice A b.length c]).run Tryd.prog w = .ok v' w' ∧ OwnB w' base v' (l ++ b) ∧ Below base w w' ∧ w.heap.size ≤ w'.heap.size ∧ w.grownBy w' v.ownBlock := by
  obtain ⟨i0, hi0, hz0, hz1, hz2⟩ := info_parts info5
  have hrow : ∀ k, v.ownBlock = some k → base ≤ k := fun k hk => (h.block k hk).1
  have hcase : (A = none ∧ b = []) ∨ ∃ ad, A = some ad ∧ ∀ j u, (b.map byteV)[j]? = some u → w.cell? (ad.add j) = some u := by
    by_cases hb : 0 < b.length
    · obtain ⟨g, o, rfl, _, hby⟩ := hm hb
      refine .inr ⟨_, rfl, fun j u hu => ?_⟩
      rw [List.getElem?_map] at hu
      obtain ⟨x, hx, rfl⟩ := Option.map_eq_some_iff.1 hu
      obtain ⟨hj, rfl⟩ := List.getElem?_eq_some_iff.1 hx
      rw [add_at]
      exact hby j hj
    · have e : b = [] := List.eq_nil_of_length_eq_zero (by omega)
      subst e
      cases A with
      | none => exact .inl ⟨rfl, rfl⟩
      | some ad => exact .inr ⟨ad, rfl, fun j u hu => by simp at hu⟩
  rcases hcase with ⟨rfl, rfl⟩ | ⟨ad, rfl, hcells⟩
  · exact ⟨v, w, run_append_nil w base ty v l h c, by simpa using h, Below.refl _ _, Nat.le_refl _, ⟨rfl, rfl, rfl, Nat.le_refl _, fun _ _ _ => rfl⟩⟩
  · obtain ⟨v', w', hrun, h2, h3, _, _⟩ := run_append_own_at (P := Tryd.prog) w base 22 ty 5 i0 _ 1 1 Tryd.underlying22 hi0 hz0 hz1 hz2 rfl (by omega) v l.length (l.map byteV) h ad b.length c (b.map byteV) (by simp) hcells byteV_one (by simp only [maxLen]; omega) (by omega) hbase
    refine ⟨v', w', hrun, ?_, (Below.refl _ _).grown h3 hbase hrow, h3.size, h3⟩
    unfold OwnB
    rw [List.length_append, List.map_append]
    exact h2

/-- An append whose run is known, at a list of operations. -/
theorem wpList_append_run {P : Program} {w : World} {ops : Array Oper} {rest : List Oper} {o : Oper} {a : Act} {Q : Exit → Act → World → Prop} (hgd : o.guard = none) (s x : Operand) (t t' : TypeId)
    (ho : o.op = .call { callee := .builtin .append, args := #[s, x], argTypes := #[t, t'] }) (v u : Value) (hs : a.eval s = v) (hx : a.eval x = u) (v' : Value) (w' : World) (hrun : (Builtin.append_ #[t, t'] o.type #[v, u]).run P w = .ok v' w')
    (h : wpList P ops Q rest (a.put o.dst v') w') : wpList P ops Q (o :: rest) a w := by
  refine wpList_plain hgd fun K hK => ?_
  unfold Oper.wp execOp
  simp only [ho, resolve, invoke, builtin, Sem.run_bind, Sem.run_pure, Result.andThen_ok, List.map_toArray, List.map_cons, List.map_nil, hs, hx, hrun]
  exact hK _ _ h
theorem step_append_run {P : Program} {ops : Array Oper} {o : Oper} {a : Act} {w : World} {K : Act → World → Prop} {Q : Exit → Act → World → Prop} {E : Prop} (hgd : o.guard = none) (s x : Operand) (t t' : TypeId)
    (ho : o.op = .call { callee := .builtin .append, args := #[s, x], argTypes := #[t, t'] }) (v u : Value) (hs : a.eval s = v) (hx : a.eval x = u) (v' : Value) (w' : World) (hrun : (Builtin.append_ #[t, t'] o.type #[v, u]).run P w = .ok v' w')
    (h : K (a.put o.dst v') w') : if Region.wanted o (yielded ops a.tmps) = true then Oper.wp P o a w K Q else E := by
  have hw : Region.wanted o (yielded ops a.tmps) = true := by simp [Region.wanted, hgd]
  rw [if_pos hw]
  unfold Oper.wp execOp
  simp only [ho, resolve, invoke, builtin, Sem.run_bind, Sem.run_pure, Result.andThen_ok, List.map_toArray, List.map_cons, List.map_nil, hs, hx, hrun]
  exact h

/-- Some pieces have been joined. -/
def JR (ps : List Piece) (A : Option Addr) (w0 : World) (v i : Value) (wr : World) : Prop :=
  ∃ k : Nat, k ≤ ps.length ∧ i = .int .i64 k ∧ OwnB wr w0.heap.size v (allB (ps.take k)) ∧ Rws wr w0.heap.size A ps ∧ Below w0.heap.size w0 wr
theorem JR.next {ps : List Piece} {A : Option Addr} {w0 wr w1 : World} {v : Value} {k : Nat} {i : Int} {p : Piece} (hk : k < ps.length) (hp : ps[k] = p) (hi : i = (k + 1 : Nat)) (ho : OwnB w1 w0.heap.size v (allB (ps.take k) ++ p.l)) (hr : Rws wr w0.heap.size A ps) (hb : Below w0.heap.size w0 wr) (hb1 : Below w0.heap.size wr w1) :
    JR ps A w0 v (.int .i64 i) w1 := by
  subst hi
  exact ⟨k + 1, hk, rfl, by rw [allB_snoc ps k hk, hp]; exact ho, hr.below hb1 (Nat.le_refl _), hb.trans hb1⟩
theorem take_len_le (ps : List Piece) (k : Nat) : (allB (ps.take k)).length ≤ (allB ps).length := by
  have h := allB_app (ps.take k) (ps.drop k)
  rw [List.take_append_drop] at h
  rw [h, List.length_append]; omega
theorem snoc_len_le (ps : List Piece) (k : Nat) (hk : k < ps.length) : (allB (ps.take k)).length + ps[k].l.length ≤ (allB ps).length := by
  have h := allB_snoc ps k hk
  have h2 := take_len_le ps (k + 1)
  rw [h, List.length_append] at h2
  exact h2

set_option maxHeartbeats 1000000 in
/-- laws.joined -/
theorem joined_any (A : Option Addr) (c : Nat) (ps : List Piece) (w : World) (hl : ps.length ≤ 140737488355328) (hs : (allB ps).length ≤ 140737488355328) (hr : Rws w w.heap.size A ps) :
    Calls Tryd.prog 29 #[.slice A ps.length c] w fun e w' => ∃ v, e = .returned v ∧ OwnB w' w.heap.size v (allB ps) ∧ Below w.heap.size w w' := by
  go_enter Tryd.func29, Tryd.ntmps29
  go_wp2_with fail
  go_loopw [3, 8] (fun v i wr => JR ps A w v i wr) (fun _ i _ => ps.length - (intOf i).toNat)
  case atStart => exact ⟨0, by omega, rfl, OwnB.nil _ _, hr, Below.refl _ _⟩
  case round =>
    obtain ⟨k, hk, rfl, hown, hrr, hb⟩ := hrel
    by_cases hlt : k < ps.length
    · obtain ⟨g, o, hA, hg, hcells⟩ := hrr.1 (by omega)
      obtain ⟨p, hp⟩ : ∃ p, ps[k] = p := ⟨_, rfl⟩
      have hcell := hcells k hlt
      have hth := hrr.2 ps[k] (List.getElem_mem hlt)
      have hsn := snoc_len_le ps k hlt
      rw [hp] at hcell hth hsn
      unfold Piece.val at hcell
      obtain ⟨v1, w1, hrun, hown1, hb1, hsz1, hgr1⟩ := run_append_bytes wr w.heap.size 22 u3 _ hown _ p.A p.l p.c hth.2.2 (by omega) hb.size
      have hlt' : (k : Int) < (ps.length : Int) := by omega
      have Hp := Lib.hid hp; clear hp
      have Hr := Lib.hid hrr; clear hrr
      have Ho := Lib.hid hown1; clear hown1
      cases hA
      clear hcells hth hown
      have Hrun := Lib.hid hrun; clear hrun
      go_wp2_with (at_builtin; refine wpList_append_run rfl (.tmp 12) (.tmp 13) 22 22 rfl _ _ rfl rfl v1 w1 Hrun.out ?_)
      exact ⟨JR.next hlt Hp.out (by omega) Ho.out Hr.out hb hb1, by simp [intOf]; omega⟩
    · have hd : decide ((k : Int) < (ps.length : Int)) = false := by simp; omega
      have hge : (ps.length : Int) ≤ (k : Int) := by omega
      have htk : ps.take k = ps := List.take_of_length_le (by omega)
      rw [htk] at hown
      clear htk
      have Ho := Lib.hid hown; clear hown
      go_wp2_with fail
      go_ret
      exact ⟨_, rfl, Ho.out, hb⟩

/-- Some pieces have been written. -/
def WR (ps : List Piece) (A : Option Addr) (w0 : World) (i : Value) (wr : World) : Prop :=
  ∃ k : Nat, k ≤ ps.length ∧ i = .int .i64 k ∧ Holds wr w0.heap.size (allB (ps.take k)) ∧ Rws wr w0.heap.size A ps ∧ Below w0.heap.size w0 wr
set_option maxHeartbeats 1000000 in
/-- impl.Whole -/
theorem whole_any (A : Option Addr) (c : Nat) (ps : List Piece) (w : World) (hl : ps.length ≤ 140737488355328) (hs : (allB ps).length < 18446744073709551616) (hr : Rws w w.heap.size A ps) (hp : w.cell? ⟨0, 0, none⟩ = some (.int .u64 (U P1))) :
    Calls Tryd.prog 28 #[.slice A ps.length c] w fun e w' => e = .returned (.int .u64 (U (xxh (allB ps)))) ∧ Below w.heap.size w w' := by
  have Hp0 := Lib.hid hp; clear hp
  have Hs := Lib.hid hs; clear hs
  go_enter Tryd.func28, Tryd.ntmps28
  go_wp2_with fail
  refine (new_holds _ Hp0.out).mono ?_
  rintro e w1 ⟨rfl, h1, b1⟩
  go_wp2_with fail
  go_loopw [9] (fun i wr => WR ps A w i wr) (fun i _ => ps.length - (intOf i).toNat)
  case atStart => exact ⟨0, by omega, rfl, h1, hr.below b1 (Nat.le_refl _), b1⟩
  case round =>
    obtain ⟨k, hk, rfl, hh, hrr, hb⟩ := hrel
    by_cases hlt : k < ps.length
    · obtain ⟨g, o, hA, hg, hcells⟩ := hrr.1 (by omega)
      obtain ⟨p, hp⟩ : ∃ p, ps[k] = p := ⟨_, rfl⟩
      have hcell := hcells k hlt
      have hth := hrr.2 ps[k] (List.getElem_mem hlt)
      rw [hp] at hcell hth
      unfold Piece.val at hcell
      have hlt' : (k : Int) < (ps.length : Int) := by omega
      have Hp := Lib.hid hp; clear hp
      have Hr := Lib.hid hrr; clear hrr
      have Hh := Lib.hid hh; clear hh
      cases hA
      clear hcells
      go_wp2_with fail
      refine (write_holds _ _ p.A p.c p.l _ Hh.out hth.2.2 hth.1 hth.2.1).mono ?_
      rintro e w2 ⟨rfl, h2, o2⟩
      have b2 := o2.below (Nat.le_of_lt Hh.out.lt)
      have Hh2 := Lib.hid h2; clear h2
      go_wp2_with fail
      exact ⟨⟨k + 1, hlt, by go_num, by rw [allB_snoc ps k hlt, Hp.out]; exact Hh2.out, Hr.out.below b2 (Nat.le_refl _), hb.trans b2⟩, by simp [intOf]; omega⟩
    · have hd : decide ((k : Int) < (ps.length : Int)) = false := by simp; omega
      have hge : (ps.length : Int) ≤ (k : Int) := by omega
      have htk : ps.take k = ps := List.take_of_length_le (by omega)
      rw [htk] at hh
      clear htk
      have Hh := Lib.hid hh; clear hh
      go_wp2_with fail
      refine (sum_holds _ _ _ Hh.out Hs.out).mono ?_
      rintro e w2 ⟨rfl, b2⟩
      go_wp2_with fail
      go_ret
      exact ⟨rfl, hb.trans (b2.mono hb.size)⟩
end Go.Proofs.YtmcjajeglmjghaaDoor
