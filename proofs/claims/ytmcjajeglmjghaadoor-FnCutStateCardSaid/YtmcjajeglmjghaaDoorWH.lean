/- The walks of laws.FnAppended and laws.FnKept. -/
import Derived.Test.YtmcjajeglmjghaaDoorApp
import Derived.WalkSpells
namespace Go.Proofs.YtmcjajeglmjghaaDoor
open Go.RowKit

theorem join_byte (z : B64) : (z >>> 8) <<< 8 ||| byteW (lowB z) = z := by
  apply BitVec.eq_of_toNat_eq
  have hz := z.isLt
  have e1 : (byteW (lowB z)).toNat = z.toNat % 256 := by
    unfold byteW lowB
    rw [BitVec.toNat_ofNat, UInt8.toNat_ofNat']
    omega
  rw [BitVec.toNat_or, e1, BitVec.toNat_shiftLeft, BitVec.toNat_ushiftRight, Nat.shiftLeft_eq, Nat.shiftRight_eq_div_pow]
  have e2 : z.toNat / 2 ^ 8 * 2 ^ 8 % 2 ^ 64 = z.toNat / 2 ^ 8 * 2 ^ 8 := Nat.mod_eq_of_lt (by omega)
  rw [e2, nat_join 8 _ _ (by omega) (by omega)]
  omega
theorem beB_get (y : B64) (j : Nat) (hj : j < 8) : (beB y)[j]'(by simpa [beB] using hj) = lowB (y >>> (56 - 8 * j)) := by
  have : j = 0 ∨ j = 1 ∨ j = 2 ∨ j = 3 ∨ j = 4 ∨ j = 5 ∨ j = 6 ∨ j = 7 := by omega
  rcases this with rfl | rfl | rfl | rfl | rfl | rfl | rfl | rfl <;> simp [beB]
theorem join_next (y : B64) (j : Nat) (hj : j < 8) : (y >>> (64 - 8 * j)) <<< 8 ||| byteW (lowB (y >>> (56 - 8 * j))) = y >>> (64 - 8 * (j + 1)) := by
  have e : y >>> (64 - 8 * j) = (y >>> (56 - 8 * j)) >>> 8 := by
    rw [← BitVec.shiftRight_add]; congr 1; omega
  rw [e, join_byte]
  congr 1; omega
theorem u_shl8 (x : B64) : IntKind.u64.wrap (U x * 256) = U (x <<< 8) := u_shl x 8
theorem u_orByte (x : B64) (c : UInt8) : bits BinOp.or IntKind.u64 (U x) (c.toNat : Int) = U (x ||| byteW c) := by
  rw [← u_or]; unfold byteW; rw [U_ofNat _ (by have := c.toNat_lt; omega)]
theorem Mem.left {w : World} {B : Nat} {A : Option Addr} {l r : List UInt8} (h : Mem w B A (l ++ r)) : Mem w B A l := fun hl => by
  obtain ⟨g, o, e, hg, hb⟩ := h (by simp; omega)
  refine ⟨g, o, e, hg, fun j hj => ?_⟩
  have := hb j (by simp; omega)
  rw [List.getElem_append_left hj] at this
  exact this
theorem run_sliceTo22 (A : Option Addr) (n c k : Nat) (a : Int) (ha : a = k) (hk : k ≤ c) (W : World) :
    (Instr.slice 22 (.slice A n c) none (some (.int .i64 a)) none).run Tryd.prog W = .ok (.slice A k c) W := by
  obtain ⟨i0, hi0, hz0, hz1, hz2⟩ := info_parts info5
  subst ha
  have e : A.map (fun x => x.add 0) = A := by cases A <;> simp [Addr.add]
  simp only [Instr.slice, run_underlying Tryd.underlying22, Instr.sliceBounds, Instr.sliceBound, asIntOf, sizeOf, typeInfo, Sem.run_bind, Sem.run_pure, Result.andThen_ok]
  simp [hi0, hk, e]

section
attribute [local go_sem] u_shl8 u_orByte u_id
set_option maxHeartbeats 4000000 in
theorem fnAppended_walk (A : Option Addr) (c : Nat) (ps : List Piece) (B : Option Addr) (d : Nat) (b : List UInt8) (w : World) (_hl : ps.length ≤ c) (hc : c * 24 ≤ 140737488351232 ∧ ∀ p ∈ ps, p.c ≤ 140737488351232)
    (hm : Row w w.heap.size A ps ∧ ∀ p ∈ ps, p.l.length ≤ p.c ∧ Mem w w.heap.size p.A p.l) (hu : (allB ps).length + ps.length ≤ 1048576) (_hl2 : b.length ≤ d) (_hd : d ≤ 140737488351232) (hm2 : Mem w w.heap.size B b) (hu2 : b.length ≤ 1048576) (hp : w.cell? ⟨0, 0, none⟩ = some (.int .u64 (U P1))) :
    Calls Tryd.prog 13 #[.slice A ps.length c, .slice B b.length d] w fun e w' => e = .returned (.bool true) ∧ Below w.heap.size w w' := by
  have hr := Rws.of hm hc
  have h32 := Lib.hid (appended_any A c ps B d b w (by omega) (by omega) hr hm2 (by omega) hp)
  have Hr := Lib.hid hr
  have Hm2 := Lib.hid hm2
  clear hm hp hc hr hm2
  obtain ⟨y, hy⟩ : ∃ y, xxh (allB ps) = y := ⟨_, rfl⟩
  rw [hy] at h32
  have Hy := Lib.hid hy; clear hy
  go_enter Tryd.func13, Tryd.ntmps13
  go_wp2_with fail
  refine h32.out.mono ?_
  rintro e w1 ⟨v, rfl, hv, b1⟩
  obtain ⟨A1, c1, rfl, hl1, hm1⟩ := hv.form
  have hlen : (b ++ beB y).length = b.length + 8 := by rw [List.length_append]; rfl
  rw [hlen] at hl1 ⊢
  have hmq := hm1.cut (c := c1) (by rw [hlen]; exact hl1) b.length
  rw [List.drop_left] at hmq
  have hs1 := fun n : Nat => run_string (w := w1.drewN n) (l := b) (by exact hm1.left) c1
  have hs2 := fun n : Nat => run_string (w := w1.drewN n) (l := b) (by have h := Hm2.out.below b1 (Nat.le_refl _); exact h) d
  have s1 := fun W : World => run_sliceTo22 A1 (b.length + 8) c1 b.length (b.length : Int) rfl (by omega) W
  have s2 := fun W : World => run_sliceFrom A1 (b.length + 8) c1 b.length (b.length : Int) rfl (by omega) W
  rw [Nat.add_sub_cancel_left] at s2
  generalize cutA A1 c1 b.length = A2 at *
  have hdec : (((b.length : Int) + 8) != ((b.length : Int) + 8)) = false := by simp
  have hwr : IntKind.i64.wrap ((b.length : Int) + 8) = (b.length : Int) + 8 := IntWalk.i64_in _ (by omega)
  have Hmq := Lib.hid hmq; clear hmq
  clear hm1 hv h32 hlen
  go_wp2_with fail
  go_quiet (fail)
  go_wp2_with fail
  have bq : Below w1.heap.size w1 (w1.drewN nq) := ⟨rfl, rfl, rfl, Nat.le_refl _, fun _ _ => rfl⟩
  clear hs1 hs2 s1 s2
  go_loopw [6, 33] (fun x i wr => ∃ (j : Nat) (z : B64), y >>> (64 - 8 * j) = z ∧ j ≤ 8 ∧ i = .int .i64 j ∧ x = .int .u64 (U z) ∧ Below w1.heap.size w1 wr) (fun _ i _ => 8 - (intOf i).toNat)
  case atStart =>
    refine ⟨0, 0, ?_, by omega, rfl, rfl, bq⟩
    exact (mix_gone y 64 0 (by omega))
  case round =>
    obtain ⟨j, z, hz, hj, rfl, rfl, hb⟩ := hrel
    have Hz := Lib.hid hz; clear hz
    have hmr := Hmq.out.below hb (Nat.le_refl _)
    by_cases hlt : j < 8
    · obtain ⟨g, o, hA, hg, hby⟩ := hmr (by show 0 < 8; omega)
      have hlt8 : j < (beB y).length := hlt
      have hcell := hby j hlt8
      obtain ⟨b0, hb0⟩ : ∃ b0, (beB y)[j] = b0 := ⟨_, rfl⟩
      rw [hb0] at hcell
      have hnx : z <<< 8 ||| byteW b0 = y >>> (64 - 8 * (j + 1)) := by
        have h0 : b0 = lowB (y >>> (56 - 8 * j)) := hb0.symm.trans (beB_get y j hlt)
        rw [← Hz.out, h0]
        exact join_next y j hlt
      have Hnx := Lib.hid hnx; clear hnx
      have hb256 := b0.toNat_lt
      have hlt' : (j : Int) < 8 := by omega
      cases hA
      clear hb0 hby hmr hlt8
      go_wp2_with fail
      exact ⟨⟨j + 1, _, Hnx.out.symm, by omega, by go_num, rfl, hb⟩, by simp [intOf]; omega⟩
    · have hge : (8 : Int) ≤ (j : Int) := by omega
      have hd : decide ((j : Int) < 8) = false := by simp; omega
      have hj8 : j = 8 := by omega
      have hzz : z = y := by rw [← Hz.out, hj8]; simp
      have Hzz := Lib.hid hzz; clear hzz hj8 hmr
      have b01 := b1.trans (hb.mono b1.size)
      go_wp2_with fail
      refine (joined_any A c ps _ (by omega) (by omega) ((Hr.out.below b01 (Nat.le_refl _)).more b01.size)).mono ?_
      rintro e w2 ⟨v2, rfl, hv2, b2⟩
      go_wp2_with fail
      refine (ssum_own v2 _ _ _ hv2 (by omega)).mono ?_
      rintro e w3 ⟨rfl, b3⟩
      have hfin : z = xxh (allB ps) := Hzz.out.trans Hy.out.symm
      clear hv2
      rw [← hfin]
      clear hfin
      go_wp2_with fail
      go_ret
      exact ⟨rfl, b01.trans ((b2.mono b01.size).trans (b3.mono (Nat.le_trans b01.size b2.size)))⟩
end
end Go.Proofs.YtmcjajeglmjghaaDoor
