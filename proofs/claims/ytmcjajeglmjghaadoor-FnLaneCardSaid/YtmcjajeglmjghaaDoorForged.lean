/- spec.Forged; the walk of laws.FnForged. -/
import Derived.Test.YtmcjajeglmjghaaDoorForge
import Derived.Test.YtmcjajeglmjghaaDoorWJ
namespace Go.Proofs.YtmcjajeglmjghaaDoor
open Go.RowKit

/-- k bytes have been appended. -/
def FR (x : B64) (base : Nat) (w0 : World) (v i : Value) (wr : World) : Prop :=
  ∃ k : Nat, k ≤ 8 ∧ i = .int .i64 k ∧ OwnB wr base v (leB x k) ∧ Below base w0 wr
section
attribute [local go_sem] u_add u_id u_addLen8 u_mul u_subP4 u_xor u_shr u_low
set_option maxHeartbeats 8000000 in
set_option maxRecDepth 100000 in
theorem forged_any (A : Option Addr) (c : Nat) (l : List UInt8) (s : B64) (w : World) (hl : l.length ≤ c) (hc : l.length ≤ 140737488355320) (hm : Mem w w.heap.size A l) :
    Calls Tryd.prog 23 #[.slice A l.length c, .int .u64 (U s)] w fun e w' => ∃ v, e = .returned v ∧ OwnB w' w.heap.size v (leB (forgedX (accF l) s) 8) ∧ Below w.heap.size w w' := by
  have h41 := Lib.hid (stripes_any A c l w hl (by omega) hm)
  have hwl := whole_le l
  have s1 := fun W => run_sliceFrom A l.length c (whole l) (whole l : Nat) rfl hwl W
  obtain ⟨h0, hh0⟩ : ∃ h0, startF (blocks l) l.length = h0 := ⟨_, rfl⟩
  have Hh0 := Lib.hid hh0
  rw [hh0] at h41
  clear hh0
  have hlen : (l.length : Int) ≤ 140737488355320 := by omega
  go_enter Tryd.func23, Tryd.ntmps23
  go_wp2_with fail
  refine h41.out.mono ?_
  rintro e w1 ⟨rfl, hb1⟩
  go_wp2_with fail
  have hm1 := (hm.below hb1 (Nat.le_refl _)).cut hl (whole l)
  obtain ⟨q0, hq0⟩ : ∃ q0, l.drop (whole l) = q0 := ⟨_, rfl⟩
  rw [hq0] at hm1
  have hql : l.length - whole l = q0.length := by rw [← hq0, List.length_drop]
  have hx : eights (q0.length / 8) (h0 + BitVec.ofNat 64 (l.length + 8)) q0 = accF l := by
    unfold accF rest; rw [Hh0.out, hq0]
  have Hx := Lib.hid hx; clear hx
  clear hq0 s1 hm h41
  rw [hql]
  have hqc : q0.length ≤ c - whole l := by omega
  have hqcc : q0.length ≤ 140737488355328 := by omega
  clear hql
  generalize cutA A c (whole l) = A1 at *
  generalize c - whole l = c1 at *
  go_loopw [7, 5] (fun b h wr => R1 (h0 + BitVec.ofNat 64 (l.length + 8)) q0 w b h wr) (fun b _ _ => sliceLen b)
  case atStart => exact ⟨0, q0, A1, c1, _, rfl, rfl, by omega, hqc, hqcc, rfl, rfl, hm1, hb1⟩
  case round =>
    obtain ⟨k, r, A', c', hh, hr, he, hk, hrc, hcc, rfl, rfl, hmr, hb⟩ := hrel
    have Hr := Lib.hid hr; clear hr
    have He := Lib.hid he; clear he
    clear hb1 hm1
    by_cases h8 : 8 ≤ r.length
    · obtain ⟨g, o, rfl, hg, hby⟩ := hmr (by omega)
      have s2 := fun W => run_sliceFrom (some ⟨g, o, none⟩) r.length c' 8 8 rfl h8 W
      go_wp2_with (first | (go_at_call 43; refine (lane_at g o 0 8 _ r _ (by omega) (by omega) (by exact hby)).mono ?_; rintro e w' ⟨rfl, rfl⟩) | (go_at_call 42; refine (eight_any _ _ _).mono ?_; rintro e w' ⟨rfl, m, rfl⟩))
      exact ⟨R1.next Hr.out He.out hk hrc hcc h8 (hmr.below (B' := w.heap.size) ⟨rfl, rfl, rfl, Nat.le_refl _, fun _ _ => rfl⟩ (Nat.le_refl _)) (hb.trans ⟨rfl, rfl, rfl, Nat.le_refl _, fun _ _ => rfl⟩), by simp [sliceLen]; omega⟩
    · have h8' : r.length < 8 := by omega
      clear h8
      have hd8 : decide ((8 : Int) ≤ (r.length : Int)) = false := by simp; omega
      have hkl := congrArg List.length Hr.out
      have hkk : q0.length / 8 = k := by simp at hkl; omega
      have hacc : accF l = hh := by rw [← Hx.out, hkk]; exact He.out
      have Hacc := Lib.hid hacc; clear hacc hkk hkl
      go_wp2_with fail
      refine (unmixed32 _ _).mono ?_
      rintro e w' ⟨rfl, rfl⟩
      go_wp2_with fail
      refine (inverse3 _).mono ?_
      rintro e w' ⟨rfl, rfl⟩
      go_wp2_with fail
      refine (unmixed29 _ _).mono ?_
      rintro e w' ⟨rfl, rfl⟩
      go_wp2_with fail
      refine (inverse2 _).mono ?_
      rintro e w' ⟨rfl, rfl⟩
      go_wp2_with fail
      refine (unmixed33 _ _).mono ?_
      rintro e w' ⟨rfl, rfl⟩
      go_wp2_with fail
      refine (inverse1 _).mono ?_
      rintro e w' ⟨rfl, rfl⟩
      go_wp2_with fail
      refine (turned37 _ _).mono ?_
      rintro e w' ⟨rfl, m1, rfl⟩
      go_wp2_with fail
      refine (inverse1 _).mono ?_
      rintro e w' ⟨rfl, rfl⟩
      go_wp2_with fail
      refine (turned33 _ _).mono ?_
      rintro e w' ⟨rfl, m2, rfl⟩
      go_wp2_with fail
      refine (inverse2 _).mono ?_
      rintro e w' ⟨rfl, rfl⟩
      go_wp2_with fail
      generalize hX : (rol ((rol ((unmix (unmix (unmix s 32 2 * I3) 29 2 * I2) 33 1 - P4) * I1) 37 ^^^ hh) * I1) 33 * I2) = X at *
      have hXX : forgedX (accF l) s = X := by rw [Hacc.out, ← hX]; rfl
      have HX := Lib.hid hXX; clear hX hXX
      have hb2 : Below w.heap.size w (wr.drewN (m1 + m2)) := hb.trans ⟨rfl, rfl, rfl, Nat.le_refl _, fun _ _ => rfl⟩
      clear hb hmr
      go_loopw [9, 58] (fun v i wr => FR X w.heap.size w v i wr) (fun _ i _ => 8 - (intOf i).toNat)
      case atStart => exact ⟨0, by omega, rfl, OwnB.nil _ _, hb2⟩
      case round =>
        obtain ⟨j, hj, rfl, hown, hb⟩ := hrel
        by_cases hlt : j < 8
        · have hlt' : (j : Int) < 8 := by omega
          have hown1 := hown.alloc (.cells ([lowB (X >>> (8 * j))].map byteV).toArray 5)
          have hmn := mem_new wr [lowB (X >>> (8 * j))] 5
          have hll := leB_length X j
          obtain ⟨v1, w1, hrun, hv1, b1, _, _⟩ := run_append_bytes _ w.heap.size 22 u9 _ hown1 _ _ [lowB (X >>> (8 * j))] 1 hmn (by rw [hll]; simp; omega) (by simp; have := hb.size; omega)
          have b2 : Below w.heap.size w w1 := hb.trans (((Below.refl _ wr).alloc hb.size _).trans b1)
          have hnext : FR X w.heap.size w v1 (.int .i64 ((j : Int) + 1)) w1 := ⟨j + 1, by omega, by go_num, by rw [leB_succ]; exact hv1, b2⟩
          have Hrun := Lib.hid hrun; clear hrun
          have Hnext := Lib.hid hnext; clear hnext
          clear hown1 hmn hll hv1 b1 b2 hown
          go_wp2_with (at_builtin; refine wpList_append_run rfl (.tmp 61) (.tmp 67) 22 22 rfl _ _ rfl rfl v1 w1 Hrun.out ?_)
          exact ⟨Hnext.out, by simp [intOf]; omega⟩
        · have hge : (8 : Int) ≤ (j : Int) := by omega
          have hd : decide ((j : Int) < 8) = false := by simp; omega
          have hj8 : j = 8 := by omega
          rw [hj8] at hown
          have Ho := Lib.hid hown; clear hown hj8
          go_wp2_with fail
          go_ret
          exact ⟨_, rfl, by rw [HX.out]; exact Ho.out, hb⟩
end

section
attribute [local go_sem] u_id
set_option maxHeartbeats 4000000 in
theorem forged_end (A : Option Addr) (c : Nat) (b : List UInt8) (S : B64) (w : World) (n : Nat) (hl : b.length ≤ c) (hc : c ≤ 140737488351232) (hm : Mem w w.heap.size A b) (hn : n ≤ b.length) (h8 : n % 8 = 0) (h24 : n % 32 ≠ 24)
    (hp : w.cell? ⟨0, 0, none⟩ = some (.int .u64 (U P1))) (hcase : n = b.length / 8 * 8 ∧ b.length / 8 * 8 % 32 ≠ 24 ∨ n + 8 = b.length / 8 * 8 ∧ b.length / 8 * 8 % 32 = 24) :
    Calls Tryd.prog 4 #[.slice A b.length c, .int .u64 (U S)] w fun e w' => e = .returned (.bool true) ∧ Below w.heap.size w w' := by
  have hpos : 0 < w.heap.size := cell_pos hp
  have Hp := Lib.hid hp; clear hp
  have htl : (b.take n).length = n := by rw [List.length_take]; omega
  have s1 := fun W : World => run_sliceTo22 A b.length c n (n : Int) rfl (by omega) W
  obtain ⟨l, hbl⟩ : ∃ l, b.take n = l := ⟨_, rfl⟩
  have hmt := hm.take n
  rw [hbl] at hmt htl
  obtain ⟨v1, w1, hrun1, hv1, b1, _, g1⟩ := run_append_bytes w w.heap.size 22 (.slice none 0 0) [] (OwnB.nil _ _) _ A l c hmt (by simp; omega) (Nat.le_refl _)
  rw [List.nil_append] at hv1
  rw [htl] at hrun1
  obtain ⟨A1, c1, hv1e, hl1, hm1⟩ := hv1.form
  subst hv1e
  have h23 := forged_any A1 c1 l S w1 hl1 (by omega) hm1
  have Hrun1 := Lib.hid hrun1
  have Hv1 := Lib.hid hv1
  have H23 := Lib.hid h23
  have Hb1 := Lib.hid b1
  have hll : l.length = n := htl
  have hsum := forged_sum l S (by rw [hll]; exact h8) (by rw [hll]; exact h24)
  have Hsum := Lib.hid hsum
  have hlb : l.length ≤ 140737488351232 := by omega
  clear hrun1 hv1 h23 b1 g1 hm1 hmt hbl htl hm hsum hll
  rcases hcase with ⟨rfl, h3⟩ | ⟨h2, h3⟩
  · have e1 : ((b.length : Int) / 8 * 8 % 32 == 24) = false := by
      have : ¬ ((b.length : Int) / 8 * 8 % 32 = 24) := by omega
      simpa using this
    have e0 : ((b.length / 8 * 8 : Nat) : Int) = (b.length : Int) / 8 * 8 := by omega
    rw [e0] at s1
    clear e0 h3 h8 h24
    go_enter Tryd.func4, Tryd.ntmps4
    go_wp2_with (at_builtin; refine wpList_append_run rfl (.const (.slice none 0 0)) (.tmp 17) 22 22 rfl _ _ rfl rfl _ w1 Hrun1.out ?_)
    refine H23.out.mono ?_
    rintro e w2 ⟨v2, rfl, hv2, b2⟩
    obtain ⟨A2, c2, rfl, hl2, hm2⟩ := hv2.form
    have e8 : (leB (forgedX (accF l) S) 8).length = 8 := leB_length _ _
    have b02 : Below w.heap.size w w2 := Hb1.out.trans (b2.mono Hb1.out.size)
    obtain ⟨v3, w3, hrun3, hv3, b3, _, _⟩ := run_append_bytes w2 w.heap.size 22 (.slice A1 l.length c1) l (Hv1.out.kept b2) _ A2 _ c2 hm2 (by rw [e8]; omega) b02.size
    have b03 := b02.trans b3
    have h22 := isum_own v3 _ _ w3 hv3 (by rw [List.length_append, e8]; omega) (prime_below Hp.out b03 hpos)
    rw [Hsum.out] at h22
    have H22 := Lib.hid h22
    have Hrun3 := Lib.hid hrun3
    have B03 := Lib.hid b03
    clear h22 hrun3 b03 hv3 b3 b02 e8 hm2 hl2 hv2 b2
    go_wp2_with (at_builtin; refine wpList_append_run rfl (.tmp 19) (.tmp 22) 22 22 rfl _ _ rfl rfl _ w3 Hrun3.out ?_)
    refine H22.out.mono ?_
    rintro e w4 ⟨rfl, b4⟩
    go_wp2_with fail
    go_ret
    exact ⟨rfl, B03.out.trans (b4.mono B03.out.size)⟩
  · have e1 : ((b.length : Int) / 8 * 8 % 32 == 24) = true := by
      have : ((b.length : Int) / 8 * 8 % 32 = 24) := by omega
      simpa using this
    have e0 : (n : Int) = (b.length : Int) / 8 * 8 - 8 := by omega
    rw [e0] at s1
    clear e0 h3 h8 h24
    go_enter Tryd.func4, Tryd.ntmps4
    go_wp2_with (at_builtin; refine wpList_append_run rfl (.const (.slice none 0 0)) (.tmp 17) 22 22 rfl _ _ rfl rfl _ w1 Hrun1.out ?_)
    refine H23.out.mono ?_
    rintro e w2 ⟨v2, rfl, hv2, b2⟩
    obtain ⟨A2, c2, rfl, hl2, hm2⟩ := hv2.form
    have e8 : (leB (forgedX (accF l) S) 8).length = 8 := leB_length _ _
    have b02 : Below w.heap.size w w2 := Hb1.out.trans (b2.mono Hb1.out.size)
    obtain ⟨v3, w3, hrun3, hv3, b3, _, _⟩ := run_append_bytes w2 w.heap.size 22 (.slice A1 l.length c1) l (Hv1.out.kept b2) _ A2 _ c2 hm2 (by rw [e8]; omega) b02.size
    have b03 := b02.trans b3
    have h22 := isum_own v3 _ _ w3 hv3 (by rw [List.length_append, e8]; omega) (prime_below Hp.out b03 hpos)
    rw [Hsum.out] at h22
    have H22 := Lib.hid h22
    have Hrun3 := Lib.hid hrun3
    have B03 := Lib.hid b03
    clear h22 hrun3 b03 hv3 b3 b02 e8 hm2 hl2 hv2 b2
    go_wp2_with (at_builtin; refine wpList_append_run rfl (.tmp 19) (.tmp 22) 22 22 rfl _ _ rfl rfl _ w3 Hrun3.out ?_)
    refine H22.out.mono ?_
    rintro e w4 ⟨rfl, b4⟩
    go_wp2_with fail
    go_ret
    exact ⟨rfl, B03.out.trans (b4.mono B03.out.size)⟩
end
theorem word_of {x : Int} (h : (Lit.int .u64 x).wf = true) : ∃ S : B64, U S = x := by
  have h2 : 0 ≤ x ∧ x ≤ 18446744073709551615 := by simpa [Lit.wf, IntKind.min, IntKind.max, IntKind.signed, IntKind.bits] using h
  refine ⟨BitVec.ofNat 64 x.toNat, ?_⟩
  rw [U_ofNat _ (by omega)]
  omega
theorem fnForged_walk (A : Option Addr) (c : Nat) (b : List UInt8) (x : Int) (w : World) (hl : b.length ≤ c) (hc : c ≤ 140737488351232) (hm : Mem w w.heap.size A b) (wf : (Lit.int .u64 x).wf = true) (hp : w.cell? ⟨0, 0, none⟩ = some (.int .u64 (U P1))) :
    Calls Tryd.prog 4 #[.slice A b.length c, .int .u64 x] w fun e w' => e = .returned (.bool true) ∧ Below w.heap.size w w' := by
  obtain ⟨S, rfl⟩ := word_of wf
  by_cases h24 : b.length / 8 * 8 % 32 = 24
  · exact forged_end A c b S w (b.length / 8 * 8 - 8) hl hc hm (by omega) (by omega) (by omega) hp (.inr ⟨by omega, h24⟩)
  · exact forged_end A c b S w (b.length / 8 * 8) hl hc hm (by omega) (by omega) h24 hp (.inl ⟨rfl, h24⟩)
end Go.Proofs.YtmcjajeglmjghaaDoor
