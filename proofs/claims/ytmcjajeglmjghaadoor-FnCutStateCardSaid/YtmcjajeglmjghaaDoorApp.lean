/- The digest's Sum, and impl.Appended. -/
import Derived.Test.YtmcjajeglmjghaaDoorWF
import Derived.Laws.BytesArg
namespace Go.Proofs.YtmcjajeglmjghaaDoor
open Go.RowKit

/-- A number's lowest byte. -/
def lowB (x : B64) : UInt8 := UInt8.ofNat x.toNat
theorem u_low (x : B64) : IntKind.u8.wrap (U x) = ((lowB x).toNat : Int) := by
  unfold lowB U
  rw [IntKind.wrap_u8', UInt8.toNat_ofNat']
  omega
/-- A number's eight bytes, the highest one first. -/
def beB (x : B64) : List UInt8 := [lowB (x >>> 56), lowB (x >>> 48), lowB (x >>> 40), lowB (x >>> 32), lowB (x >>> 24), lowB (x >>> 16), lowB (x >>> 8), lowB x]
theorem u_shr56 (x : B64) : U x / (72057594037927936 : Int) = U (x >>> 56) := u_shr x 56
theorem u_shr48 (x : B64) : U x / (281474976710656 : Int) = U (x >>> 48) := u_shr x 48
theorem u_shr40 (x : B64) : U x / (1099511627776 : Int) = U (x >>> 40) := u_shr x 40
theorem u_shr24 (x : B64) : U x / (16777216 : Int) = U (x >>> 24) := u_shr x 24
theorem u_shr16 (x : B64) : U x / (65536 : Int) = U (x >>> 16) := u_shr x 16
theorem u_shr8 (x : B64) : U x / (256 : Int) = U (x >>> 8) := u_shr x 8
theorem OwnB.alloc {w : World} {base : Nat} {v : Value} {l : List UInt8} (h : OwnB w base v l) (o : Obj) : OwnB (w.alloc o) base v l := World.ownsRow.alloc h o
/-- The bytes of a block that has just been laid. -/
theorem mem_new (w : World) (l : List UInt8) (t : TypeId) : Mem (w.alloc (.cells (l.map byteV).toArray t)) (w.heap.size + 1) (some ⟨w.heap.size, 0, none⟩) l := fun _ => by
  refine ⟨w.heap.size, 0, rfl, by omega, fun j hj => ?_⟩
  rw [cell_of_row _ _ _ _ _ _ (heap_alloc_new w (.cells (l.map byteV).toArray t)), Nat.zero_add]
  simp [hj, byteV]

section
attribute [local go_sem] u_low u_shr56 u_shr48 u_shr40 u_shr32 u_shr24 u_shr16 u_shr8 u_id
set_option maxHeartbeats 2000000 in
/-- Sum: the sum's eight bytes behind what was handed over. -/
theorem dsumB_any (D : Nat) (l : List UInt8) (base : Nat) (v : Value) (b : List UInt8) (w : World) (h : Holds w D l) (hl : l.length < 18446744073709551616) (hv : OwnB w base v b) (hb : b.length + 8 ≤ 140737488355328) (hbase : base ≤ w.heap.size) :
    Calls Tryd.prog 52 #[.pointer (some ⟨D, 0, none⟩), v] w fun e w' => ∃ v', e = .returned v' ∧ OwnB w' base v' (b ++ beB (xxh l)) ∧ Below base w w' := by
  have h51 := Lib.hid (sum_holds D l w h hl)
  have Hv := Lib.hid hv
  clear h hl hv
  obtain ⟨x, hx⟩ : ∃ x, xxh l = x := ⟨_, rfl⟩
  rw [hx] at h51 ⊢
  clear hx
  go_enter Tryd.func52, Tryd.ntmps52
  go_wp2_with fail
  refine h51.out.mono ?_
  rintro e w1 ⟨rfl, b1⟩
  have hv1 := (Hv.out.kept b1).alloc (.cells ((beB x).map byteV).toArray 5)
  have hm1 := mem_new w1 (beB x) 5
  have hbl : (beB x).length = 8 := rfl
  obtain ⟨v', w', hrun, hv', b2, _, _⟩ := run_append_bytes _ base 22 v b hv1 _ _ (beB x) 8 hm1 (by rw [hbl]; omega) (by simp; have := b1.size; omega)
  have b3 : Below base w w' := (b1.mono hbase).trans (((Below.refl _ w1).alloc (Nat.le_trans hbase b1.size) _).trans b2)
  have Hrun := Lib.hid hrun
  have Hv' := Lib.hid hv'
  clear hrun hv' hv1 hm1 b2 b1 h51 hbl
  go_wp2_with (at_builtin; refine wpList_append_run rfl (.tmp 8) (.tmp 32) 22 22 rfl _ _ rfl rfl v' w' Hrun.out ?_)
  go_ret
  exact ⟨v', rfl, Hv'.out, b3⟩
end
set_option maxHeartbeats 2000000 in
/-- impl.Appended -/
theorem appended_any (A : Option Addr) (c : Nat) (ps : List Piece) (B : Option Addr) (d : Nat) (b : List UInt8) (w : World) (hl : ps.length ≤ 140737488355328) (hs : (allB ps).length < 18446744073709551616) (hr : Rws w w.heap.size A ps) (hm : Mem w w.heap.size B b) (hb8 : b.length + 8 ≤ 140737488355328) (hp : w.cell? ⟨0, 0, none⟩ = some (.int .u64 (U P1))) :
    Calls Tryd.prog 32 #[.slice A ps.length c, .slice B b.length d] w fun e w' => ∃ v', e = .returned v' ∧ OwnB w' w.heap.size v' (b ++ beB (xxh (allB ps))) ∧ Below w.heap.size w w' := by
  have Hp0 := Lib.hid hp; clear hp
  have Hs := Lib.hid hs; clear hs
  have Hm := Lib.hid hm; clear hm
  go_enter Tryd.func32, Tryd.ntmps32
  go_wp2_with fail
  refine (new_holds _ Hp0.out).mono ?_
  rintro e w1 ⟨rfl, h1, b1⟩
  go_wp2_with fail
  go_loopw [11] (fun i wr => WR ps A w i wr) (fun i _ => ps.length - (intOf i).toNat)
  case atStart => exact ⟨0, by omega, rfl, h1, hr.below b1 (Nat.le_refl _), b1⟩
  case round =>
    obtain ⟨k, hk, rfl, hh, hrr, hb⟩ := hrel
    by_cases hlt : k < ps.length
    · obtain ⟨g, o, hA, hg, hcells⟩ := hrr.1 (by omega)
      obtain ⟨p, hp⟩ : ∃ p, ps[k] = p := ⟨_, rfl⟩
      have hcell := hcells k hlt
      have hth := hrr.2 ps[k] (List.getElem_mem hlt)
      rw [hp] at hcell hth
      unfold Piece.val at hcell
      have hlt' : (k : Int) < (ps.length : Int) := by omega
      have Hp := Lib.hid hp; clear hp
      have Hr := Lib.hid hrr; clear hrr
      have Hh := Lib.hid hh; clear hh
      cases hA
      clear hcells
      go_wp2_with fail
      refine (write_holds _ _ p.A p.c p.l _ Hh.out hth.2.2 hth.1 hth.2.1).mono ?_
      rintro e w2 ⟨rfl, h2, o2⟩
      have b2 := o2.below (Nat.le_of_lt Hh.out.lt)
      have Hh2 := Lib.hid h2; clear h2
      go_wp2_with fail
      exact ⟨⟨k + 1, hlt, by go_num, by rw [allB_snoc ps k hlt, Hp.out]; exact Hh2.out, Hr.out.below b2 (Nat.le_refl _), hb.trans b2⟩, by simp [intOf]; omega⟩
    · have hd : decide ((k : Int) < (ps.length : Int)) = false := by simp; omega
      have hge : (ps.length : Int) ≤ (k : Int) := by omega
      have htk : ps.take k = ps := List.take_of_length_le (by omega)
      rw [htk] at hh
      clear htk
      obtain ⟨v1, w2, hrun, hv1, b2, hsz2, g2⟩ := run_append_bytes wr w.heap.size 22 (.slice none 0 0) [] (OwnB.nil _ _) _ B b d (Hm.out.below hb (Nat.le_refl _)) (by simp; omega) hb.size
      have h2 : Holds w2 w.heap.size (allB ps) := by
        obtain ⟨m, hd', hr'⟩ := hh
        exact ⟨m, hd'.keep (g2.block _ hd'.lt (by simp [Value.ownBlock])), hr'⟩
      rw [List.nil_append] at hv1
      have H52 := Lib.hid (dsumB_any w.heap.size (allB ps) w.heap.size v1 b w2 h2 Hs.out hv1 hb8 (Nat.le_of_lt h2.lt))
      have Hrun := Lib.hid hrun; clear hrun
      have B2 := Lib.hid (hb.trans b2)
      clear hh hv1 b2 hsz2 g2 h2 hrr hb
      go_wp2_with (at_builtin; refine wpList_append_run rfl (.const (.slice none 0 0)) (.tmp 20) 22 22 rfl _ _ rfl rfl v1 w2 Hrun.out ?_)
      refine H52.out.mono ?_
      rintro e w3 ⟨v3, rfl, hv3, b3⟩
      go_wp2_with fail
      go_ret
      exact ⟨v3, rfl, hv3, B2.out.trans b3⟩

/-! ### bytes as a string -/
def strB (l : List UInt8) : ByteArray := ⟨l.toArray⟩
theorem strOfNums_bytes (l : List UInt8) : strOfNums (l.map fun c => (c.toNat : Int)) = strB l := by
  unfold strOfNums strB
  congr 2
  rw [List.map_map]
  conv => rhs; rw [← List.map_id l]
  apply List.map_congr_left
  intro c _
  simp
theorem run_string {w : World} {B : Nat} {A : Option Addr} {l : List UInt8} (h : Mem w B A l) (c : Nat) : (convert 22 9 (.slice A l.length c)).run Tryd.prog w = .ok (.string (strB l)) w := by
  by_cases hl : 0 < l.length
  · obtain ⟨g, o, rfl, _, hb⟩ := h hl
    rw [run_convert_bytes_arg w 22 5 Tryd.underlying22 Tryd.underlying5 g o l.length c (l.map fun c => (c.toNat : Int)) (by simp) (fun i hi => by
      rw [hb i hi]; simp [hi]) 9 Tryd.underlying9, strOfNums_bytes]
  · have e : l = [] := List.eq_nil_of_length_eq_zero (by omega)
    subst e
    cases A with
    | none => exact run_convert_bytes_nil w 22 5 Tryd.underlying22 Tryd.underlying5 0 c 9 Tryd.underlying9
    | some ad =>
      show (convert 22 9 (.slice (some ad) 0 c)).run Tryd.prog w = _
      rw [run_convert_bytes_string w 22 9 5 _ 0 c Tryd.underlying22 Tryd.underlying5 Tryd.underlying9, run_bytesToString w ad 0 c [] (by simp [loadCells, loadCellsFrom])]
      rfl
end Go.Proofs.YtmcjajeglmjghaaDoor
