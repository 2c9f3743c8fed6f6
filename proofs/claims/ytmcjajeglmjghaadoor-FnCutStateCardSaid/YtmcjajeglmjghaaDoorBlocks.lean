/- writeBlocks: what it takes of some bytes, and that the four numbers are those of all whole stripes. -/
import Derived.Test.YtmcjajeglmjghaaDoorDig
import Derived.LoopTactic
namespace Go.Proofs.YtmcjajeglmjghaaDoor
open Go.RowKit

theorem u64_at (g o i n c : Nat) (r : List UInt8) (w : World) (hn : 8 ≤ n) (hi : i + 8 ≤ r.length) (hc : Bytes w g o r) :
    Calls Tryd.prog 56 #[.slice (some ⟨g, o + i, none⟩) n c] w fun e w' => e = .returned (.int .u64 (U (ln r i))) ∧ Below w.heap.size w w' :=
  u64_any g (o + i) n c _ w hn (by simp; omega) ((hc.drop i).take 8)
theorem u64_at0 (g o n c : Nat) (r : List UInt8) (w : World) (hn : 8 ≤ n) (hi : 8 ≤ r.length) (hc : Bytes w g o r) :
    Calls Tryd.prog 56 #[.slice (some ⟨g, o, none⟩) n c] w fun e w' => e = .returned (.int .u64 (U (ln r 0))) ∧ Below w.heap.size w w' :=
  u64_at g o 0 n c r w hn (by omega) hc

def sliceLen : Value → Nat | .slice _ n _ => n | _ => 0
/-- What holds at each round's head: k stripes have been taken. -/
def WB (l : List UInt8) (s : St) (B : Nat) (w0 : World) (b v1 v2 v3 v4 : Value) (wr : World) : Prop :=
  ∃ (k : Nat) (r : List UInt8) (A : Option Addr) (c : Nat) (t : St), l.drop (32 * k) = r ∧ 32 * k ≤ l.length ∧ blocksN k s l = t ∧ b = .slice A r.length c ∧ r.length ≤ c ∧ Mem wr B A r ∧
    v1 = .int .u64 (U t.v1) ∧ v2 = .int .u64 (U t.v2) ∧ v3 = .int .u64 (U t.v3) ∧ v4 = .int .u64 (U t.v4) ∧ Below w0.heap.size w0 wr
theorem Mem.next {w : World} {B g o : Nat} {r : List UInt8} (hg : g < B) (h : Bytes w g o r) (k : Nat) : Mem w B (some ⟨g, o + k, none⟩) (r.drop k) := fun _ => ⟨g, o + k, rfl, hg, h.drop k⟩
theorem WB.next {l : List UInt8} {s : St} {B : Nat} {w0 w1 : World} {k : Nat} {r : List UInt8} {A' : Option Addr} {c' n' : Nat} {t : St} (hr : l.drop (32 * k) = r) (hk : 32 * k ≤ l.length) (ht : blocksN k s l = t)
    (h32 : 32 ≤ r.length) (hn : n' = r.length - 32) (hc' : n' ≤ c') (hm : Mem w1 B A' (r.drop 32)) (hb : Below w0.heap.size w0 w1) :
    WB l s B w0 (.slice A' n' c') (.int .u64 (U (rnd t.v1 (ln r 0)))) (.int .u64 (U (rnd t.v2 (ln r 8)))) (.int .u64 (U (rnd t.v3 (ln r 16)))) (.int .u64 (U (rnd t.v4 (ln r 24)))) w1 := by
  subst hn
  refine ⟨k + 1, r.drop 32, A', c', step t r, ?_, ?_, ?_, by simp, by simpa using hc', hm, rfl, rfl, rfl, rfl, hb⟩
  · rw [← hr, List.drop_drop]; rfl
  · have := congrArg List.length hr; simp at this; omega
  · rw [blocksN_succ, ht, hr]
theorem WB.stop {l r : List UInt8} {k : Nat} (hr : l.drop (32 * k) = r) (hk : 32 * k ≤ l.length) (h32 : r.length < 32) : k = l.length / 32 ∧ (l.length : Int) - r.length = (l.length / 32 * 32 : Nat) := by
  have := congrArg List.length hr
  simp at this
  omega

set_option maxHeartbeats 2000000 in
theorem writeBlocks_any (D : Nat) (A : Option Addr) (c : Nat) (l : List UInt8) (s : St) (tt : B64) (m : List UInt8) (n : Nat) (w : World) (hl : l.length ≤ c) (hc : l.length ≤ 140737488355328) (hm : Mem w D A l) (hD : Dig w D s tt m n) :
    Calls Tryd.prog 57 #[.pointer (some ⟨D, 0, none⟩), .slice A l.length c] w fun e w' => e = .returned (.int .i64 (l.length / 32 * 32 : Nat)) ∧ Dig w' D (blocksN (l.length / 32) s l) tt m n ∧ Only D w w' := by
  have hl64 : l.length ≤ 9223372036854775807 := by omega
  have c0 := hD.c0
  have c1 := hD.c1
  have c2 := hD.c2
  have c3 := hD.c3
  have hlt := hD.lt
  go_enter Tryd.func57, Tryd.ntmps57
  go_wp2
  go_quiet (fail)
  go_wp2
  go_loopw [1, 5, 6, 7, 8] (fun b v1 v2 v3 v4 wr => WB l s D w b v1 v2 v3 v4 wr) (fun b _ _ _ _ _ => sliceLen b)
  case atStart => exact ⟨0, l, A, c, s, rfl, by omega, rfl, rfl, hl, hm, rfl, rfl, rfl, rfl, (Below.refl _ _).trans ⟨rfl, rfl, rfl, Nat.le_refl _, fun _ _ => rfl⟩⟩
  case round =>
    obtain ⟨k, r, A', c', t, hr, hk, ht, rfl, hrc, hmr, rfl, rfl, rfl, rfl, hb⟩ := hrel
    have hrl : r.length ≤ 140737488355328 := by have := congrArg List.length hr; simp at this; omega
    have Hr := Lib.hid hr; clear hr
    have Ht := Lib.hid ht; clear ht
    clear c0 c1 c2 c3 hl hm
    by_cases h32 : 32 ≤ r.length
    · obtain ⟨g, o, rfl, hg, hby⟩ := hmr (by omega)
      clear hmr
      have hgl := hby.lt (by omega)
      go_wp2_with fail
      refine (u64_at0 g o _ _ r _ (by omega) (by omega) hby).mono ?_
      rintro e w1 ⟨rfl, hb1⟩
      have hby1 := hby.below hb1 hgl
      go_wp2_with (go_at_call 55; refine (round_any _ _ _).mono ?_; rintro e w' ⟨rfl, rfl⟩)
      refine (u64_at g o 8 _ _ r _ (by omega) (by omega) hby1).mono ?_
      rintro e w2 ⟨rfl, hb2⟩
      have hby2 := hby1.below hb2 (hby1.lt (by omega))
      go_wp2_with (go_at_call 55; refine (round_any _ _ _).mono ?_; rintro e w' ⟨rfl, rfl⟩)
      refine (u64_at g o 16 _ _ r _ (by omega) (by omega) hby2).mono ?_
      rintro e w3 ⟨rfl, hb3⟩
      have hby3 := hby2.below hb3 (hby2.lt (by omega))
      go_wp2_with (go_at_call 55; refine (round_any _ _ _).mono ?_; rintro e w' ⟨rfl, rfl⟩)
      refine (u64_at g o 24 _ _ r _ (by omega) (by omega) hby3).mono ?_
      rintro e w4 ⟨rfl, hb4⟩
      have hby4 := hby3.below hb4 (hby3.lt (by omega))
      have hbb : Below w.heap.size w w4 := hb.trans ((hb1.mono hb.size).trans ((hb2.mono (Nat.le_trans hb.size hb1.size)).trans ((hb3.mono (Nat.le_trans hb.size (Nat.le_trans hb1.size hb2.size))).trans (hb4.mono (Nat.le_trans hb.size (Nat.le_trans hb1.size (Nat.le_trans hb2.size hb3.size)))))))
      clear hb1 hb2 hb3 hb4 hb hby hby1 hby2 hby3
      by_cases h33 : r.length = 32
      · go_wp2_with (go_at_call 55; refine (round_any _ _ _).mono ?_; rintro e w' ⟨rfl, rfl⟩)
        exact ⟨WB.next Hr.out hk Ht.out (by omega) (by omega) (by omega) (fun h => absurd h (by simp; omega)) hbb, by simp [sliceLen]; omega⟩
      · go_wp2_with (go_at_call 55; refine (round_any _ _ _).mono ?_; rintro e w' ⟨rfl, rfl⟩)
        exact ⟨WB.next Hr.out hk Ht.out (by omega) (by omega) (by omega) (Mem.next hg hby4 32) hbb, by simp [sliceLen]; omega⟩
    · have h32' : r.length < 32 := by omega
      clear h32
      have hD' := hD.below hb hlt
      have c0 := hD'.c0
      have c1 := hD'.c1
      have c2 := hD'.c2
      have c3 := hD'.c3
      have f0 := hD'.frozen 0
      have f1 := hD'.frozen 1
      have f2 := hD'.frozen 2
      have f3 := hD'.frozen 3
      go_wp2_with fail
      go_ret
      obtain ⟨hkk, hsub⟩ := WB.stop Hr.out hk h32'
      refine ⟨ret_int hsub, ?_, ?_⟩
      · rw [← hkk, Ht.out]
        exact (((hD'.set0 t.v1).set1 t.v2).set2 t.v3).set3 t.v4
      · exact ((((Only.of_below hb).setCell _ _).setCell _ _).setCell _ _).setCell _ _
end Go.Proofs.YtmcjajeglmjghaaDoor
