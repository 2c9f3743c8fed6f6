/- The contracts of the readers and the writer of numbers in little-endian form (encoding/binary), and of u64, u32. After the kit's worked proofs of these, turned to this program. -/
import Derived.Test.YtmcjajeglmjghaaDoorSmall
import Derived.Lib.Endian
import Derived.Lib.EndianBits
import Derived.Lib.Walk
import Derived.Stop.LaidErr
import Derived.Lib.Hide
namespace Go.Proofs.YtmcjajeglmjghaaDoor
open Go.RowKit

/-- The bytes l lie in block g from place o on. -/
def Bytes (w : World) (g o : Nat) (l : List UInt8) : Prop := ∀ (j : Nat) (hj : j < l.length), w.cell? ⟨g, o + j, none⟩ = some (.int .u8 (l[j].toNat : Int))

theorem Bytes.keep {w w' : World} {g o : Nat} {l : List UInt8} (h : Bytes w g o l) (hk : ∀ j, w'.cell? ⟨g, j, none⟩ = w.cell? ⟨g, j, none⟩) : Bytes w' g o l :=
  fun j hj => (hk _).trans (h j hj)
theorem Bytes.below {B : Nat} {w w' : World} {g o : Nat} {l : List UInt8} (h : Bytes w g o l) (hb : Below B w w') (hg : g < B) : Bytes w' g o l :=
  h.keep fun j => hb.cell (p := ⟨g, j, none⟩) hg
theorem Bytes.lt {w : World} {g o : Nat} {l : List UInt8} (h : Bytes w g o l) (hl : 0 < l.length) : g < w.heap.size := by
  have h0 := h 0 hl
  rcases Nat.lt_or_ge g w.heap.size with hlt | hge
  · exact hlt
  · simp [World.cell?, Array.getElem?_eq_none hge] at h0
theorem Bytes.drop {w : World} {g o : Nat} {l : List UInt8} (h : Bytes w g o l) (k : Nat) : Bytes w g (o + k) (l.drop k) := fun j hj => by
  have e := h (k + j) (by simp at hj; omega)
  rw [List.getElem_drop, Nat.add_assoc]
  exact e
theorem Bytes.take {w : World} {g o : Nat} {l : List UInt8} (h : Bytes w g o l) (k : Nat) : Bytes w g o (l.take k) := fun j hj => by
  rw [List.getElem_take]
  exact h j (by simp at hj; omega)

set_option maxHeartbeats 8000000 in
set_option maxRecDepth 100000 in
theorem le64_cells (g o n c : Nat) (b0 b1 b2 b3 b4 b5 b6 b7 : UInt8) (w : World) (hn : 8 ≤ n)
    (c0 : w.cell? ⟨g, o, none⟩ = some (.int .u8 b0.toNat)) (c1 : w.cell? ⟨g, o + 1, none⟩ = some (.int .u8 b1.toNat)) (c2 : w.cell? ⟨g, o + 2, none⟩ = some (.int .u8 b2.toNat)) (c3 : w.cell? ⟨g, o + 3, none⟩ = some (.int .u8 b3.toNat)) (c4 : w.cell? ⟨g, o + 4, none⟩ = some (.int .u8 b4.toNat)) (c5 : w.cell? ⟨g, o + 5, none⟩ = some (.int .u8 b5.toNat)) (c6 : w.cell? ⟨g, o + 6, none⟩ = some (.int .u8 b6.toNat)) (c7 : w.cell? ⟨g, o + 7, none⟩ = some (.int .u8 b7.toNat)) :
    Calls Tryd.prog 73 #[.agg #[], .slice (some ⟨g, o, none⟩) n c] w fun e w' => e = .returned (.int .u64 (Lib.leNat [b0, b1, b2, b3, b4, b5, b6, b7])) ∧ Below w.heap.size w w' := by
  have d0 := cell?_alloc_old (.cells #[] 86) c0
  have h0 : b0.toNat < 256 := b0.toNat_lt
  have d1 := cell?_alloc_old (.cells #[] 86) c1
  have h1 : b1.toNat < 256 := b1.toNat_lt
  have d2 := cell?_alloc_old (.cells #[] 86) c2
  have h2 : b2.toNat < 256 := b2.toNat_lt
  have d3 := cell?_alloc_old (.cells #[] 86) c3
  have h3 : b3.toNat < 256 := b3.toNat_lt
  have d4 := cell?_alloc_old (.cells #[] 86) c4
  have h4 : b4.toNat < 256 := b4.toNat_lt
  have d5 := cell?_alloc_old (.cells #[] 86) c5
  have h5 : b5.toNat < 256 := b5.toNat_lt
  have d6 := cell?_alloc_old (.cells #[] 86) c6
  have h6 : b6.toNat < 256 := b6.toNat_lt
  have d7 := cell?_alloc_old (.cells #[] 86) c7
  have h7 : b7.toNat < 256 := b7.toNat_lt
  have hv : ((Lib.leNat [b0, b1, b2, b3, b4, b5, b6, b7] : Nat) : Int) = (b0.toNat : Int) + (b1.toNat : Int) * 256 + (b2.toNat : Int) * 65536 + (b3.toNat : Int) * 16777216 + (b4.toNat : Int) * 4294967296 + (b5.toNat : Int) * 1099511627776 + (b6.toNat : Int) * 281474976710656 + (b7.toNat : Int) * 72057594037927936 := by
    simp only [Lib.leNat]
    push_cast
    omega
  have q0 : 0 < n := by omega
  have q1 : (1 : Int) < (n : Int) := by omega
  have q2 : (2 : Int) < (n : Int) := by omega
  have q3 : (3 : Int) < (n : Int) := by omega
  have q4 : (4 : Int) < (n : Int) := by omega
  have q5 : (5 : Int) < (n : Int) := by omega
  have q6 : (6 : Int) < (n : Int) := by omega
  have q7 : (7 : Int) < (n : Int) := by omega
  go_enter Tryd.func73, Tryd.ntmps73
  go_wp2
  go_quiet (fail)
  go_wp2
  go_ret
  refine ⟨?_, ((Below.refl _ w).alloc (Nat.le_refl _) _).trans ⟨rfl, rfl, rfl, Nat.le_refl _, fun _ _ => rfl⟩⟩
  simp (disch := omega) only [u64_or8, u64_or16, u64_or24, u64_or32, u64_or40, u64_or48, u64_or56]
  rw [hv]
  rfl
set_option maxHeartbeats 8000000 in
set_option maxRecDepth 100000 in
theorem le32_cells (g o n c : Nat) (b0 b1 b2 b3 : UInt8) (w : World) (hn : 4 ≤ n)
    (c0 : w.cell? ⟨g, o, none⟩ = some (.int .u8 b0.toNat)) (c1 : w.cell? ⟨g, o + 1, none⟩ = some (.int .u8 b1.toNat)) (c2 : w.cell? ⟨g, o + 2, none⟩ = some (.int .u8 b2.toNat)) (c3 : w.cell? ⟨g, o + 3, none⟩ = some (.int .u8 b3.toNat)) :
    Calls Tryd.prog 75 #[.agg #[], .slice (some ⟨g, o, none⟩) n c] w fun e w' => e = .returned (.int .u32 (Lib.leNat [b0, b1, b2, b3])) ∧ Below w.heap.size w w' := by
  have d0 := cell?_alloc_old (.cells #[] 86) c0
  have h0 : b0.toNat < 256 := b0.toNat_lt
  have d1 := cell?_alloc_old (.cells #[] 86) c1
  have h1 : b1.toNat < 256 := b1.toNat_lt
  have d2 := cell?_alloc_old (.cells #[] 86) c2
  have h2 : b2.toNat < 256 := b2.toNat_lt
  have d3 := cell?_alloc_old (.cells #[] 86) c3
  have h3 : b3.toNat < 256 := b3.toNat_lt
  have hv : ((Lib.leNat [b0, b1, b2, b3] : Nat) : Int) = (b0.toNat : Int) + (b1.toNat : Int) * 256 + (b2.toNat : Int) * 65536 + (b3.toNat : Int) * 16777216 := by
    simp only [Lib.leNat]
    push_cast
    omega
  have q0 : 0 < n := by omega
  have q1 : (1 : Int) < (n : Int) := by omega
  have q2 : (2 : Int) < (n : Int) := by omega
  have q3 : (3 : Int) < (n : Int) := by omega
  go_enter Tryd.func75, Tryd.ntmps75
  go_wp2
  go_quiet (fail)
  go_wp2
  go_ret
  refine ⟨?_, ((Below.refl _ w).alloc (Nat.le_refl _) _).trans ⟨rfl, rfl, rfl, Nat.le_refl _, fun _ _ => rfl⟩⟩
  simp (disch := omega) only [u32_or8, u32_or16, u32_or24]
  rw [hv]
  rfl

theorem list8 {α : Type} (l : List α) (h : l.length = 8) : ∃ a b c d e f g i, l = [a, b, c, d, e, f, g, i] := by
  match l, h with
  | [a, b, c, d, e, f, g, i], _ => exact ⟨a, b, c, d, e, f, g, i, rfl⟩
theorem list4 {α : Type} (l : List α) (h : l.length = 4) : ∃ a b c d, l = [a, b, c, d] := by
  match l, h with
  | [a, b, c, d], _ => exact ⟨a, b, c, d, rfl⟩
theorem leNat_lt : ∀ (l : List UInt8), Lib.leNat l < 256 ^ l.length
  | [] => by simp [Lib.leNat]
  | b :: r => by
    have h1 := leNat_lt r
    have h2 := b.toNat_lt
    simp only [Lib.leNat, List.length_cons, Nat.pow_succ]
    omega
theorem U_lane (l : List UInt8) (h : l.length ≤ 8) : U (lane l) = (Lib.leNat l : Int) := by
  unfold lane
  refine U_ofNat _ ?_
  have h1 := leNat_lt l
  have h2 : 256 ^ l.length ≤ 256 ^ 8 := Nat.pow_le_pow_right (by omega) h
  omega

/-- u64: the number of the first 8 bytes. -/
theorem u64_any (g o n c : Nat) (l : List UInt8) (w : World) (hn : 8 ≤ n) (hl : l.length = 8) (hc : Bytes w g o l) :
    Calls Tryd.prog 56 #[.slice (some ⟨g, o, none⟩) n c] w fun e w' => e = .returned (.int .u64 (U (lane l))) ∧ Below w.heap.size w w' := by
  rw [U_lane l (by omega)]
  obtain ⟨b0, b1, b2, b3, b4, b5, b6, b7, rfl⟩ := list8 l hl
  have h73 := Lib.hid (fun (w' : World) (e : w' = w) => le64_cells g o n c b0 b1 b2 b3 b4 b5 b6 b7 w' hn (by rw [e]; exact hc 0 (by simp)) (by rw [e]; exact hc 1 (by simp)) (by rw [e]; exact hc 2 (by simp)) (by rw [e]; exact hc 3 (by simp)) (by rw [e]; exact hc 4 (by simp)) (by rw [e]; exact hc 5 (by simp)) (by rw [e]; exact hc 6 (by simp)) (by rw [e]; exact hc 7 (by simp)))
  clear hc
  go_enter Tryd.func56, Tryd.ntmps56
  go_wp2_with (go_at_call 73; refine (h73.out _ rfl).mono ?_; rintro e w' ⟨rfl, hb⟩)
  go_ret
  exact ⟨rfl, hb⟩
/-- u32: the number of the first 4 bytes. -/
theorem u32_any (g o n c : Nat) (l : List UInt8) (w : World) (hn : 4 ≤ n) (hl : l.length = 4) (hc : Bytes w g o l) :
    Calls Tryd.prog 64 #[.slice (some ⟨g, o, none⟩) n c] w fun e w' => e = .returned (.int .u32 (U (lane l))) ∧ Below w.heap.size w w' := by
  rw [U_lane l (by omega)]
  obtain ⟨b0, b1, b2, b3, rfl⟩ := list4 l hl
  have h75 := Lib.hid (fun (w' : World) (e : w' = w) => le32_cells g o n c b0 b1 b2 b3 w' hn (by rw [e]; exact hc 0 (by simp)) (by rw [e]; exact hc 1 (by simp)) (by rw [e]; exact hc 2 (by simp)) (by rw [e]; exact hc 3 (by simp)))
  clear hc
  go_enter Tryd.func64, Tryd.ntmps64
  go_wp2_with (go_at_call 75; refine (h75.out _ rfl).mono ?_; rintro e w' ⟨rfl, hb⟩)
  go_ret
  exact ⟨rfl, hb⟩
end Go.Proofs.YtmcjajeglmjghaaDoor
