/- impl.Resumed: what is no state is refused; behind a state the digest goes on as the one that told it. -/
import Derived.Test.YtmcjajeglmjghaaDoorUnm
import Derived.Test.YtmcjajeglmjghaaDoorUnmA
namespace Go.Proofs.YtmcjajeglmjghaaDoor
open Go.RowKit

theorem pad_stL (a : List UInt8) : pad (stL a) = stB (blocks a) (BitVec.ofNat 64 a.length) (rest a ++ List.replicate (32 - (rest a).length) 0) := by
  have e : 76 - (stL a).length = 32 - (rest a).length := by
    unfold stL stB
    simp [magic, leB_length]
    omega
  unfold pad
  rw [e]
  unfold stL stB
  simp only [List.append_assoc]
theorem unmarshal_holds (D g : Nat) (l a : List UInt8) (w : World) (h : Holds w D l) (hg : Room w g (stL a)) (hne : g ≠ D) :
    Calls Tryd.prog 54 #[.pointer (some ⟨D, 0, none⟩), .slice (some ⟨g, 0, none⟩) 76 76] w fun e w' => e = .returned .nilIface ∧ Holds w' D a ∧ Only D w w' := by
  obtain ⟨m, hd, _⟩ := h
  have hb := hg.bytes
  rw [pad_stL] at hb
  have hlen := rest_length a
  refine (unmarshal_yes D g _ _ m _ (blocks a).v1 (blocks a).v2 (blocks a).v3 (blocks a).v4 (BitVec.ofNat 64 a.length) _ w hd hne (by simp; omega) hb).mono ?_
  rintro e w' ⟨he, hd', ho⟩
  refine ⟨he, ⟨rest a ++ List.replicate (32 - (rest a).length) 0, ?_, ?_⟩, ho⟩
  · have e5 : (BitVec.ofNat 64 a.length).toNat % 32 = a.length % 32 := by rw [BitVec.toNat_ofNat]; omega
    rw [e5] at hd'
    exact hd'
  · rw [← hlen, List.take_left]
set_option maxHeartbeats 1000000 in
theorem resumed_no (A0 : Option Addr) (c0 : Nat) (l0 : List UInt8) (A : Option Addr) (c : Nat) (q : List UInt8) (B : Value) (w : World) (hl0 : l0.length ≤ c0) (hc0 : l0.length ≤ 140737488355328) (hm0 : Mem w w.heap.size A0 l0) (hl : q.length ≤ c) (hn : q.length ≠ 76) (hm : Mem w w.heap.size A q) (hp : w.cell? ⟨0, 0, none⟩ = some (.int .u64 (U P1))) :
    Calls Tryd.prog 35 #[.slice A0 l0.length c0, .slice A q.length c, B] w fun e w' => e = .returned (.tuple #[.int .u64 0, .bool false]) ∧ Below w.heap.size w w' := by
  have Hp := Lib.hid hp; clear hp
  have Hm0 := Lib.hid hm0; clear hm0
  have Hm := Lib.hid hm; clear hm
  have Hn := Lib.hid hn; clear hn
  go_enter Tryd.func35, Tryd.ntmps35
  go_wp2_with fail
  refine (new_holds _ Hp.out).mono ?_
  rintro e w1 ⟨rfl, h1, b1⟩
  go_wp2_with fail
  refine (write_holds _ [] A0 c0 l0 _ h1 (Hm0.out.below b1 (Nat.le_refl _)) hl0 hc0).mono ?_
  rintro e w2 ⟨rfl, h2, o2⟩
  have b2 := b1.trans (o2.below (Nat.le_of_lt h1.lt))
  go_wp2_with fail
  refine (unmarshal_no _ A c q _ hl Hn.out ((Hm.out.below b2 (Nat.le_refl _)).more b2.size)).mono ?_
  rintro e w3 ⟨T, p, rfl, b3⟩
  have b03 := b2.trans (b3.mono b2.size)
  go_wp2_with fail
  go_ret2
  exact ⟨rfl, b03⟩
set_option maxHeartbeats 1000000 in
theorem resumed_yes (A0 : Option Addr) (c0 : Nat) (l0 : List UInt8) (g : Nat) (a : List UInt8) (B : Option Addr) (d : Nat) (b : List UInt8) (w : World) (hl0 : l0.length ≤ c0) (hc0 : l0.length ≤ 140737488355328) (hm0 : Mem w w.heap.size A0 l0) (hg : Room w g (stL a)) (ha : a.length ≤ 140737488355328) (hl : b.length ≤ d) (hd : b.length ≤ 140737488355328) (hm : Mem w w.heap.size B b) (hp : w.cell? ⟨0, 0, none⟩ = some (.int .u64 (U P1))) :
    Calls Tryd.prog 35 #[.slice A0 l0.length c0, .slice (some ⟨g, 0, none⟩) 76 76, .slice B b.length d] w fun e w' => e = .returned (.tuple #[.int .u64 (U (xxh (a ++ b))), .bool true]) ∧ Below w.heap.size w w' := by
  have hlt := hg.lt
  have Hp := Lib.hid hp; clear hp
  have Hm0 := Lib.hid hm0; clear hm0
  have Hm := Lib.hid hm; clear hm
  have Hg := Lib.hid hg; clear hg
  go_enter Tryd.func35, Tryd.ntmps35
  go_wp2_with fail
  refine (new_holds _ Hp.out).mono ?_
  rintro e w1 ⟨rfl, h1, b1⟩
  go_wp2_with fail
  refine (write_holds _ [] A0 c0 l0 _ h1 (Hm0.out.below b1 (Nat.le_refl _)) hl0 hc0).mono ?_
  rintro e w2 ⟨rfl, h2, o2⟩
  have b2 := b1.trans (o2.below (Nat.le_of_lt h1.lt))
  go_wp2_with fail
  refine (unmarshal_holds _ g _ a _ h2 (Hg.out.keep (b2.block g hlt)) (by omega)).mono ?_
  rintro e w3 ⟨rfl, h3, o3⟩
  have b3 := b2.trans (o3.below (Nat.le_of_lt h2.lt))
  go_wp2_with fail
  refine (write_holds _ _ B d b _ h3 (Hm.out.below b3 (Nat.le_refl _)) hl hd).mono ?_
  rintro e w4 ⟨rfl, h4, o4⟩
  have b4 := b3.trans (o4.below (Nat.le_of_lt h3.lt))
  have H4 := Lib.hid h4; clear h4
  go_wp2_with fail
  refine (sum_holds _ _ _ H4.out (by simp; omega)).mono ?_
  rintro e w5 ⟨rfl, b5⟩
  go_wp2_with fail
  go_ret2
  exact ⟨rfl, b4.trans (b5.mono (by exact b4.size))⟩
end Go.Proofs.YtmcjajeglmjghaaDoor
