/- The reference: spec.lane, spec.stripes, spec.Sum. -/
import Derived.Test.YtmcjajeglmjghaaDoorSum
import Derived.Deep.RegionHeld3
import Derived.Deep.DrawnRows
import Derived.Deep.RegionWith
namespace Go.Proofs.YtmcjajeglmjghaaDoor
open Go.RowKit

theorem leNat_snoc : ∀ (l : List UInt8) (c : UInt8), Lib.leNat (l ++ [c]) = Lib.leNat l + c.toNat * 256 ^ l.length
  | [], c => by simp [Lib.leNat]
  | b :: r, c => by
    simp only [List.cons_append, Lib.leNat, leNat_snoc r c, List.length_cons, Nat.pow_succ]
    rw [Nat.mul_add, Nat.add_assoc, Nat.mul_comm (256 ^ r.length) 256, ← Nat.mul_assoc, ← Nat.mul_assoc, Nat.mul_comm c.toNat 256]

theorem lane_next (l : List UInt8) (k : Nat) (y : B64) (b0 : UInt8) (h8 : l.length ≤ 8) (hk : k < l.length) (hy : lane (l.take k) = y) (hb : l[k] = b0) :
    IntKind.u64.wrap (U y + IntKind.u64.wrap ((b0.toNat : Int) * 2 ^ (8 * k))) = U (lane (l.take (k + 1))) := by
  have e1 : (l.take (k + 1)) = l.take k ++ [b0] := by rw [List.take_succ_eq_append_getElem hk, hb]
  have e2 := leNat_snoc (l.take k) b0
  rw [← e1, List.length_take, Nat.min_eq_left (by omega)] at e2
  have e3 := leNat_lt (l.take (k + 1))
  rw [List.length_take, Nat.min_eq_left (by omega)] at e3
  have e4 : 256 ^ (k + 1) ≤ 256 ^ 8 := Nat.pow_le_pow_right (by omega) (by omega)
  rw [← hy, U_lane _ (by simp; omega), U_lane _ (by simp; omega), e2]
  have e5 : ((b0.toNat : Int) * 2 ^ (8 * k)) = ((b0.toNat * 256 ^ k : Nat) : Int) := by
    have e6 : (256 : Nat) ^ k = 2 ^ (8 * k) := by rw [Nat.pow_mul]
    rw [e6]; simp
  rw [e5, wrapU, wrapU]
  generalize Lib.leNat (l.take k) = a at *
  generalize b0.toNat * 256 ^ k = b at *
  omega

section
attribute [local go_sem] u_add u_id
set_option maxHeartbeats 1000000 in
theorem lane_any (g o c : Nat) (l : List UInt8) (w : World) (h8 : l.length ≤ 8) (hby : Bytes w g o l) :
    Calls Tryd.prog 43 #[.slice (some ⟨g, o, none⟩) l.length c] w fun e w' => e = .returned (.int .u64 (U (lane l))) ∧ w = w' := by
  go_enter Tryd.func43, Tryd.ntmps43
  go_wp2
  go_loop [3, 8] (fun x i => ∃ (k : Nat) (y : B64), lane (l.take k) = y ∧ k ≤ l.length ∧ i = .int .i64 k ∧ x = .int .u64 (U y)) (fun _ i => l.length - (intOf i).toNat)
  case atStart => exact ⟨0, lane (l.take 0), rfl, by omega, rfl, rfl⟩
  case round =>
    obtain ⟨k, y, hy, hk, rfl, rfl⟩ := hrel
    have Hy := Lib.hid hy; clear hy
    by_cases hlt : k < l.length
    · obtain ⟨b0, hb0⟩ : ∃ b0, l[k] = b0 := ⟨_, rfl⟩
      have hcell := hby k hlt
      rw [hb0] at hcell
      have Hb0 := Lib.hid hb0; clear hb0
      have hb256 := b0.toNat_lt
      have hlt' : (k : Int) < (l.length : Int) := by omega
      go_wp2
      refine ⟨⟨k + 1, _, rfl, by omega, by go_num, ?_⟩, by simp [intOf]; omega⟩
      rw [lane_next l k y b0 h8 hlt Hy.out Hb0.out]
    · have hge : (l.length : Int) ≤ (k : Int) := by omega
      go_wp2
      go_ret
      refine ⟨ret_int (congrArg U ?_), rfl⟩
      rw [← Hy.out, List.take_of_length_le (by omega)]
end

/-- The four numbers of the reference, in a block of their own. -/
def Acc (w : World) (X : Nat) (t : St) : Prop := w.heap[X]? = some (.cells #[.int .u64 (U t.v1), .int .u64 (U t.v2), .int .u64 (U t.v3), .int .u64 (U t.v4)] 81 (0, 0))
section
variable {w : World} {X : Nat} {t : St}
theorem Acc.cell (h : Acc w X t) (i : Nat) : w.cell? ⟨X, i, none⟩ = (#[Value.int .u64 (U t.v1), .int .u64 (U t.v2), .int .u64 (U t.v3), .int .u64 (U t.v4)])[i]? := cell_of_row w X i _ _ _ h
theorem Acc.c0 (h : Acc w X t) : w.cell? ⟨X, 0, none⟩ = some (.int .u64 (U t.v1)) := h.cell 0
theorem Acc.c1 (h : Acc w X t) : w.cell? ⟨X, 1, none⟩ = some (.int .u64 (U t.v2)) := h.cell 1
theorem Acc.c2 (h : Acc w X t) : w.cell? ⟨X, 2, none⟩ = some (.int .u64 (U t.v3)) := h.cell 2
theorem Acc.c3 (h : Acc w X t) : w.cell? ⟨X, 3, none⟩ = some (.int .u64 (U t.v4)) := h.cell 3
theorem Acc.frozen (h : Acc w X t) (i : Nat) : w.frozen? ⟨X, i, none⟩ = false := by
  unfold Acc at h
  simp [World.frozen?, h]
theorem Acc.set (h : Acc w X t) (i : Nat) (u : Value) : (w.setCell ⟨X, i, none⟩ u).heap[X]? = some (.cells ((#[Value.int .u64 (U t.v1), .int .u64 (U t.v2), .int .u64 (U t.v3), .int .u64 (U t.v4)]).setIfInBounds i u) 81 (0, 0)) := by
  unfold Acc at h
  simp [World.setCell, Array.getElem?_modify, h]
end

theorem lane_at (g o j n c : Nat) (l : List UInt8) (w : World) (h8 : n ≤ 8) (hj : j + n ≤ l.length) (hby : Bytes w g o l) :
    Calls Tryd.prog 43 #[.slice (some ⟨g, o + j, none⟩) n c] w fun e w' => e = .returned (.int .u64 (U (lane ((l.drop j).take n)))) ∧ w = w' := by
  have e : ((l.drop j).take n).length = n := by simp; omega
  have h := lane_any g (o + j) c ((l.drop j).take n) w (by omega) ((hby.drop j).take n)
  rw [e] at h
  exact h

theorem info5 : (Tryd.prog.info? 5).map (fun i => (i.zero, i.size, i.bytes)) = some (some (.int .u8 0), 1, 1) := by kernel_rfl
theorem run_slice2 (g o n c lo k : Nat) (a b : Int) (ha : a = lo) (hb : b = (lo + k : Nat)) (h2 : lo + k ≤ c) (h3 : lo < c) (W : World) :
    (Instr.slice 22 (.slice (some ⟨g, o, none⟩) n c) (some (.int .i64 a)) (some (.int .i64 b)) none).run Tryd.prog W = .ok (.slice (some ⟨g, o + lo, none⟩) k (c - lo)) W := by
  obtain ⟨i0, hi0, hz0, hz1, hz2⟩ := info_parts info5
  subst ha hb
  have e : (⟨g, o, none⟩ : Addr).add lo = ⟨g, o + lo, none⟩ := by unfold Addr.add; split <;> simp_all
  have e3 : ¬ c = lo := by omega
  have e4 : ((lo : Int) + k).toNat = lo + k := by omega
  simp only [Instr.slice, run_underlying Tryd.underlying22, Instr.sliceBounds, Instr.sliceBound, asIntOf, sizeOf, typeInfo, Sem.run_bind, Sem.run_pure, Result.andThen_ok]
  simp [e3, e, hi0, hz1]
  rw [if_pos (by omega), if_pos (by omega), e4, Nat.add_sub_cancel_left]
/-- i of the four lanes of a stripe have been taken. -/
def part (t : St) (r : List UInt8) (i : Nat) : St :=
  ⟨if 0 < i then rnd t.v1 (ln r 0) else t.v1, if 1 < i then rnd t.v2 (ln r 8) else t.v2, if 2 < i then rnd t.v3 (ln r 16) else t.v3, if 3 < i then rnd t.v4 (ln r 24) else t.v4⟩
def ST (l : List UInt8) (A : Option Addr) (w0 : World) (n : Value) (wr : World) : Prop :=
  ∃ (k j : Nat) (t : St), 32 * k = j ∧ blocksN k .init l = t ∧ j ≤ l.length ∧ n = .int .i64 j ∧ Acc wr w0.heap.size t ∧ Mem wr w0.heap.size A l ∧ Below w0.heap.size w0 wr
def SI (l : List UInt8) (A : Option Addr) (w0 : World) (t : St) (j : Nat) (n : Value) (wr : World) : Prop :=
  ∃ (i : Nat) (z : Int), z = i ∧ i ≤ 4 ∧ n = .int .i64 z ∧ Acc wr w0.heap.size (part t (l.drop j) i) ∧ Mem wr w0.heap.size A l ∧ Below w0.heap.size w0 wr

theorem ST.next {l : List UInt8} {A : Option Addr} {w0 wr : World} {t : St} {j k : Nat} {n : Int} (hj : 32 * k = j) (ht : blocksN k .init l = t) (hl : j + 32 ≤ l.length) (hn : n = (j + 32 : Nat)) (hacc : Acc wr w0.heap.size (part t (l.drop j) 4)) (hm : Mem wr w0.heap.size A l) (hb : Below w0.heap.size w0 wr) :
    ST l A w0 (.int .i64 n) wr := by
  subst hn
  refine ⟨k + 1, j + 32, step t (l.drop j), by omega, ?_, hl, rfl, hacc, hm, hb⟩
  rw [blocksN_succ, ht, hj]
theorem turnedAny (x : B64) (n : Int) (w : World) (h : n = 1 ∨ n = 7 ∨ n = 12 ∨ n = 18) :
    Calls Tryd.prog 46 #[.int .u64 (U x), .int .i64 n] w fun e w' => e = .returned (.int .u64 (U (rol x n.toNat))) ∧ ∃ m, w' = w.drewN m := by
  rcases h with rfl | rfl | rfl | rfl
  · exact turned1 x w
  · exact turned7 x w
  · exact turned12 x w
  · exact turned18 x w
/-- The four numbers merged, as far as i. -/
def cv (t : St) : Nat → B64
  | 0 => rol t.v1 1 + rol t.v2 7 + rol t.v3 12 + rol t.v4 18
  | 1 => mrg (rol t.v1 1 + rol t.v2 7 + rol t.v3 12 + rol t.v4 18) t.v1
  | 2 => mrg (mrg (rol t.v1 1 + rol t.v2 7 + rol t.v3 12 + rol t.v4 18) t.v1) t.v2
  | 3 => mrg (mrg (mrg (rol t.v1 1 + rol t.v2 7 + rol t.v3 12 + rol t.v4 18) t.v1) t.v2) t.v3
  | _ => conv t
def SM (t : St) (w0 : World) (h n : Value) (wr : World) : Prop :=
  ∃ (i : Nat) (z : Int) (x : B64), cv t i = x ∧ z = i ∧ i ≤ 4 ∧ n = .int .i64 z ∧ h = .int .u64 (U x) ∧ Below w0.heap.size w0 wr
theorem index81 (a b c d : B64) (w : World) : (Instr.index 81 (.agg #[.int .u64 (U a), .int .u64 (U b), .int .u64 (U c), .int .u64 (U d)]) (.int .i64 0)).run Tryd.prog w = .ok (.int .u64 (U a)) w ∧
    (Instr.index 81 (.agg #[.int .u64 (U a), .int .u64 (U b), .int .u64 (U c), .int .u64 (U d)]) (.int .i64 1)).run Tryd.prog w = .ok (.int .u64 (U b)) w ∧
    (Instr.index 81 (.agg #[.int .u64 (U a), .int .u64 (U b), .int .u64 (U c), .int .u64 (U d)]) (.int .i64 2)).run Tryd.prog w = .ok (.int .u64 (U c)) w ∧
    (Instr.index 81 (.agg #[.int .u64 (U a), .int .u64 (U b), .int .u64 (U c), .int .u64 (U d)]) (.int .i64 3)).run Tryd.prog w = .ok (.int .u64 (U d)) w := ⟨by kernel_rfl, by kernel_rfl, by kernel_rfl, by kernel_rfl⟩
theorem SI.next0 {l : List UInt8} {A : Option Addr} {w0 wr : World} {t : St} {j k : Nat} (hacc : Acc wr w0.heap.size (part t (l.drop j) 0)) (hm : Mem wr w0.heap.size A l) (hb : Below w0.heap.size w0 wr) :
    SI l A w0 t j (.int .i64 1) ((wr.drewN k).setCell ⟨w0.heap.size, 0, none⟩ (.int .u64 (U (rnd (part t (l.drop j) 0).v1 (lane ((l.drop j).take 8)))))) := by
  have hB : Below w0.heap.size wr ((wr.drewN k).setCell ⟨w0.heap.size, 0, none⟩ (.int .u64 (U (rnd (part t (l.drop j) 0).v1 (lane ((l.drop j).take 8)))))) :=
    (show Below w0.heap.size wr (wr.drewN k) from ⟨rfl, rfl, rfl, Nat.le_refl _, fun _ _ => rfl⟩).setCell (Nat.le_refl _) _
  refine ⟨1, 1, rfl, by omega, rfl, ?_, hm.below hB (Nat.le_refl _), hb.trans hB⟩
  have h2 : Acc (wr.drewN k) w0.heap.size (part t (l.drop j) 0) := hacc
  refine (h2.set _ _).trans ?_
  simp [part, ln, List.drop_drop]
theorem SI.next1 {l : List UInt8} {A : Option Addr} {w0 wr : World} {t : St} {j k : Nat} (hacc : Acc wr w0.heap.size (part t (l.drop j) 1)) (hm : Mem wr w0.heap.size A l) (hb : Below w0.heap.size w0 wr) :
    SI l A w0 t j (.int .i64 2) ((wr.drewN k).setCell ⟨w0.heap.size, 1, none⟩ (.int .u64 (U (rnd (part t (l.drop j) 1).v2 (lane ((l.drop (j + 8)).take 8)))))) := by
  have hB : Below w0.heap.size wr ((wr.drewN k).setCell ⟨w0.heap.size, 1, none⟩ (.int .u64 (U (rnd (part t (l.drop j) 1).v2 (lane ((l.drop (j + 8)).take 8)))))) :=
    (show Below w0.heap.size wr (wr.drewN k) from ⟨rfl, rfl, rfl, Nat.le_refl _, fun _ _ => rfl⟩).setCell (Nat.le_refl _) _
  refine ⟨2, 2, rfl, by omega, rfl, ?_, hm.below hB (Nat.le_refl _), hb.trans hB⟩
  have h2 : Acc (wr.drewN k) w0.heap.size (part t (l.drop j) 1) := hacc
  refine (h2.set _ _).trans ?_
  simp [part, ln, List.drop_drop]
theorem SI.next2 {l : List UInt8} {A : Option Addr} {w0 wr : World} {t : St} {j k : Nat} (hacc : Acc wr w0.heap.size (part t (l.drop j) 2)) (hm : Mem wr w0.heap.size A l) (hb : Below w0.heap.size w0 wr) :
    SI l A w0 t j (.int .i64 3) ((wr.drewN k).setCell ⟨w0.heap.size, 2, none⟩ (.int .u64 (U (rnd (part t (l.drop j) 2).v3 (lane ((l.drop (j + 16)).take 8)))))) := by
  have hB : Below w0.heap.size wr ((wr.drewN k).setCell ⟨w0.heap.size, 2, none⟩ (.int .u64 (U (rnd (part t (l.drop j) 2).v3 (lane ((l.drop (j + 16)).take 8)))))) :=
    (show Below w0.heap.size wr (wr.drewN k) from ⟨rfl, rfl, rfl, Nat.le_refl _, fun _ _ => rfl⟩).setCell (Nat.le_refl _) _
  refine ⟨3, 3, rfl, by omega, rfl, ?_, hm.below hB (Nat.le_refl _), hb.trans hB⟩
  have h2 : Acc (wr.drewN k) w0.heap.size (part t (l.drop j) 2) := hacc
  refine (h2.set _ _).trans ?_
  simp [part, ln, List.drop_drop]
theorem SI.next3 {l : List UInt8} {A : Option Addr} {w0 wr : World} {t : St} {j k : Nat} (hacc : Acc wr w0.heap.size (part t (l.drop j) 3)) (hm : Mem wr w0.heap.size A l) (hb : Below w0.heap.size w0 wr) :
    SI l A w0 t j (.int .i64 4) ((wr.drewN k).setCell ⟨w0.heap.size, 3, none⟩ (.int .u64 (U (rnd (part t (l.drop j) 3).v4 (lane ((l.drop (j + 24)).take 8)))))) := by
  have hB : Below w0.heap.size wr ((wr.drewN k).setCell ⟨w0.heap.size, 3, none⟩ (.int .u64 (U (rnd (part t (l.drop j) 3).v4 (lane ((l.drop (j + 24)).take 8)))))) :=
    (show Below w0.heap.size wr (wr.drewN k) from ⟨rfl, rfl, rfl, Nat.le_refl _, fun _ _ => rfl⟩).setCell (Nat.le_refl _) _
  refine ⟨4, 4, rfl, by omega, rfl, ?_, hm.below hB (Nat.le_refl _), hb.trans hB⟩
  have h2 : Acc (wr.drewN k) w0.heap.size (part t (l.drop j) 3) := hacc
  refine (h2.set _ _).trans ?_
  simp [part, ln, List.drop_drop]

section
attribute [local go_sem] u_add u_id u_addP2 u_neg
set_option maxHeartbeats 1000000 in
theorem stripes_short (A : Option Addr) (c : Nat) (l : List UInt8) (w : World) (h32 : l.length < 32) :
    Calls Tryd.prog 41 #[.slice A l.length c] w fun e w' => e = .returned (.tuple #[.int .u64 (U P5), .int .i64 0]) ∧ w = w' := by
  have hd : decide ((l.length : Int) < 32) = true := by simp; omega
  go_enter Tryd.func41, Tryd.ntmps41
  go_wp2
  go_ret2
  exact ⟨rfl, rfl⟩
attribute [local go_sem ↓] Go.wp_at_zero Go.wp_at_succ
set_option maxHeartbeats 8000000 in
set_option maxRecDepth 100000 in
theorem stripes_long (A : Option Addr) (c : Nat) (l : List UInt8) (w : World) (hl : l.length ≤ c) (hc : l.length ≤ 140737488355328) (hm : Mem w w.heap.size A l) (h32 : 32 ≤ l.length) :
    Calls Tryd.prog 41 #[.slice A l.length c] w fun e w' => e = .returned (.tuple #[.int .u64 (U (conv (blocks l))), .int .i64 (whole l : Nat)]) ∧ Below w.heap.size w w' := by
  have hd : decide ((l.length : Int) < 32) = false := by simp; omega
  go_enter Tryd.func41, Tryd.ntmps41
  go_wp2_with fail
  go_loopw [7] (fun n wr => ST l A w n wr) (fun n _ => l.length - (intOf n).toNat)
  case atStart => 
    refine ⟨0, 0, .init, rfl, rfl, by omega, rfl, ?_, ?_, ?_⟩
    · exact heap_alloc_new w _
    · exact hm.below ((Below.refl _ _).alloc (Nat.le_refl _) _) (Nat.le_refl _)
    · exact (Below.refl _ _).alloc (Nat.le_refl _) _
  case round =>
    obtain ⟨k, j, t, hj, ht, hjl, rfl, hacc, hmr, hb⟩ := hrel
    have Hj := Lib.hid hj; clear hj
    have Ht := Lib.hid ht; clear ht
    clear hm
    by_cases hlt : j + 32 ≤ l.length
    · have hlt' : (32 : Int) ≤ (l.length : Int) - (j : Int) := by omega
      go_wp2_with fail
      obtain ⟨wo, rfl⟩ : ∃ wo : World, wo = wr := ⟨_, rfl⟩
      go_loopw [29] (fun n wr => SI l A w t j n wr) (fun n _ => 4 - (intOf n).toNat)
      case atStart => exact ⟨0, 0, rfl, by omega, rfl, hacc, hmr, hb⟩
      case round =>
        obtain ⟨i, z, hz, hi, rfl, hacc, hmr, hb⟩ := hrel
        obtain ⟨g, o, rfl, hg, hby⟩ := hmr (by omega)
        have hs : i = 0 ∨ i = 1 ∨ i = 2 ∨ i = 3 ∨ i = 4 := by omega
        rcases hs with rfl | rfl | rfl | rfl | rfl
        · obtain rfl : z = 0 := by simpa using hz
          clear hz
          have c0 := hacc.c0
          have f0 := hacc.frozen 0
          have q0 : IntKind.i64.wrap 0 = 0 := by decide
          have q1 : IntKind.i64.wrap (j : Int) = (j : Int) := IntWalk.i64_in _ (by omega)
          have q2 : IntKind.i64.wrap ((j : Int) + 8) = (j : Int) + 8 := IntWalk.i64_in _ (by omega)
          have q3 := fun W : World => run_slice2 g o l.length c j 8 (j : Int) ((j : Int) + 8) (by omega) (by omega) (by omega) (by omega) W
          go_wp2_with fail
          go_region_with (first | (go_at_call 43; refine (lane_at g o j 8 _ l _ (by omega) (by omega) (by exact hby)).mono ?_; rintro e w' ⟨rfl, rfl⟩) | (go_at_call 67; refine (sround_any _ _ _).mono ?_; rintro e w' ⟨rfl, m, rfl⟩))
          all_goals
            go_wp2_with fail
            exact ⟨SI.next0 hacc hmr hb, by simp [intOf]⟩
        · obtain rfl : z = 1 := by simpa using hz
          clear hz
          have c0 := hacc.c1
          have f0 := hacc.frozen 1
          have q0 : IntKind.i64.wrap 8 = 8 := by decide
          have q1 : IntKind.i64.wrap ((j : Int) + 8) = ((j : Int) + 8) := IntWalk.i64_in _ (by omega)
          have q2 : IntKind.i64.wrap (((j : Int) + 8) + 8) = ((j : Int) + 8) + 8 := IntWalk.i64_in _ (by omega)
          have q3 := fun W : World => run_slice2 g o l.length c (j + 8) 8 ((j : Int) + 8) (((j : Int) + 8) + 8) (by omega) (by omega) (by omega) (by omega) W
          go_wp2_with fail
          go_region_with (first | (go_at_call 43; refine (lane_at g o (j + 8) 8 _ l _ (by omega) (by omega) (by exact hby)).mono ?_; rintro e w' ⟨rfl, rfl⟩) | (go_at_call 67; refine (sround_any _ _ _).mono ?_; rintro e w' ⟨rfl, m, rfl⟩))
          all_goals
            go_wp2_with fail
            exact ⟨SI.next1 hacc hmr hb, by simp [intOf]⟩
        · obtain rfl : z = 2 := by simpa using hz
          clear hz
          have c0 := hacc.c2
          have f0 := hacc.frozen 2
          have q0 : IntKind.i64.wrap 16 = 16 := by decide
          have q1 : IntKind.i64.wrap ((j : Int) + 16) = ((j : Int) + 16) := IntWalk.i64_in _ (by omega)
          have q2 : IntKind.i64.wrap (((j : Int) + 16) + 8) = ((j : Int) + 16) + 8 := IntWalk.i64_in _ (by omega)
          have q3 := fun W : World => run_slice2 g o l.length c (j + 16) 8 ((j : Int) + 16) (((j : Int) + 16) + 8) (by omega) (by omega) (by omega) (by omega) W
          go_wp2_with fail
          go_region_with (first | (go_at_call 43; refine (lane_at g o (j + 16) 8 _ l _ (by omega) (by omega) (by exact hby)).mono ?_; rintro e w' ⟨rfl, rfl⟩) | (go_at_call 67; refine (sround_any _ _ _).mono ?_; rintro e w' ⟨rfl, m, rfl⟩))
          all_goals
            go_wp2_with fail
            exact ⟨SI.next2 hacc hmr hb, by simp [intOf]⟩
        · obtain rfl : z = 3 := by simpa using hz
          clear hz
          have c0 := hacc.c3
          have f0 := hacc.frozen 3
          have q0 : IntKind.i64.wrap 24 = 24 := by decide
          have q1 : IntKind.i64.wrap ((j : Int) + 24) = ((j : Int) + 24) := IntWalk.i64_in _ (by omega)
          have q2 : IntKind.i64.wrap (((j : Int) + 24) + 8) = ((j : Int) + 24) + 8 := IntWalk.i64_in _ (by omega)
          have q3 := fun W : World => run_slice2 g o l.length c (j + 24) 8 ((j : Int) + 24) (((j : Int) + 24) + 8) (by omega) (by omega) (by omega) (by omega) W
          go_wp2_with fail
          go_region_with (first | (go_at_call 43; refine (lane_at g o (j + 24) 8 _ l _ (by omega) (by omega) (by exact hby)).mono ?_; rintro e w' ⟨rfl, rfl⟩) | (go_at_call 67; refine (sround_any _ _ _).mono ?_; rintro e w' ⟨rfl, m, rfl⟩))
          all_goals
            go_wp2_with fail
            exact ⟨SI.next3 hacc hmr hb, by simp [intOf]⟩
        · obtain rfl : z = 4 := by simpa using hz
          clear hz
          go_wp2_with fail
          exact ⟨ST.next Hj.out Ht.out hlt (by omega) hacc hmr hb, by simp [intOf]; omega⟩
    · have hlt' : (l.length : Int) - (j : Int) < 32 := by omega
      have hd26 : decide ((32 : Int) ≤ (l.length : Int) - (j : Int)) = false := by simp; omega
      have c0 := hacc.c0
      have c1 := hacc.c1
      have c2 := hacc.c2
      have c3 := hacc.c3
      go_wp2_with fail
      go_quiet ((go_at_call 46; exact Calls.quiet_of (turnedAny _ _ _ (by decide))))
      simp only [Int.reduceToNat]
      go_wp2_with fail
      have hbq : Below w.heap.size w (wr.drewN nq) := hb.trans ⟨rfl, rfl, rfl, Nat.le_refl _, fun _ _ => rfl⟩
      have i0 := fun W => (index81 t.v1 t.v2 t.v3 t.v4 W).1
      have i1 := fun W => (index81 t.v1 t.v2 t.v3 t.v4 W).2.1
      have i2 := fun W => (index81 t.v1 t.v2 t.v3 t.v4 W).2.2.1
      have i3 := fun W => (index81 t.v1 t.v2 t.v3 t.v4 W).2.2.2
      have hend : conv (blocks l) = conv t ∧ (whole l : Nat) = j := by
        have hkk : k = l.length / 32 := by have := Hj.out; omega
        refine ⟨?_, ?_⟩
        · unfold blocks; rw [← hkk, Ht.out]
        · unfold whole; rw [← hkk, ← Hj.out, Nat.mul_comm]
      have Hend := Lib.hid hend; clear hend
      clear c0 c1 c2 c3 hb hacc hmr
      go_loopw [9, 67] (fun h n wr => SM t w h n wr) (fun _ n _ => 4 - (intOf n).toNat)
      case atStart => exact ⟨0, 0, _, rfl, rfl, by omega, rfl, rfl, hbq⟩
      case round =>
        obtain ⟨i, z, x, hx, hz, hi, rfl, rfl, hb⟩ := hrel
        have Hx := Lib.hid hx; clear hx
        have hs : i = 0 ∨ i = 1 ∨ i = 2 ∨ i = 3 ∨ i = 4 := by omega
        rcases hs with rfl | rfl | rfl | rfl | rfl
        · obtain rfl : z = 0 := by simpa using hz
          clear hz
          go_wp2_with (go_at_call 68; refine (merged_any _ _ _).mono ?_; rintro e w' ⟨rfl, m, rfl⟩)
          exact ⟨⟨1, 1, _, by rw [← Hx.out]; rfl, rfl, by omega, rfl, rfl, hb.trans ⟨rfl, rfl, rfl, Nat.le_refl _, fun _ _ => rfl⟩⟩, by simp [intOf]⟩
        · obtain rfl : z = 1 := by simpa using hz
          clear hz
          go_wp2_with (go_at_call 68; refine (merged_any _ _ _).mono ?_; rintro e w' ⟨rfl, m, rfl⟩)
          exact ⟨⟨2, 2, _, by rw [← Hx.out]; rfl, rfl, by omega, rfl, rfl, hb.trans ⟨rfl, rfl, rfl, Nat.le_refl _, fun _ _ => rfl⟩⟩, by simp [intOf]⟩
        · obtain rfl : z = 2 := by simpa using hz
          clear hz
          go_wp2_with (go_at_call 68; refine (merged_any _ _ _).mono ?_; rintro e w' ⟨rfl, m, rfl⟩)
          exact ⟨⟨3, 3, _, by rw [← Hx.out]; rfl, rfl, by omega, rfl, rfl, hb.trans ⟨rfl, rfl, rfl, Nat.le_refl _, fun _ _ => rfl⟩⟩, by simp [intOf]⟩
        · obtain rfl : z = 3 := by simpa using hz
          clear hz
          go_wp2_with (go_at_call 68; refine (merged_any _ _ _).mono ?_; rintro e w' ⟨rfl, m, rfl⟩)
          exact ⟨⟨4, 4, _, by rw [← Hx.out]; rfl, rfl, by omega, rfl, rfl, hb.trans ⟨rfl, rfl, rfl, Nat.le_refl _, fun _ _ => rfl⟩⟩, by simp [intOf]⟩
        · obtain rfl : z = 4 := by simpa using hz
          clear hz
          go_wp2_with fail
          go_ret2
          refine ⟨?_, hb⟩
          rw [Hend.out.1, Hend.out.2, ← Hx.out]
          rfl
end
end Go.Proofs.YtmcjajeglmjghaaDoor
