/- The walk of laws.FnResumed. -/
import Derived.Test.YtmcjajeglmjghaaDoorRes
namespace Go.Proofs.YtmcjajeglmjghaaDoor
open Go.RowKit

/-- An append under a guard that is met, whose run is known, at a list of operations. -/
theorem wpList_append_on {P : Program} {w : World} {ops : Array Oper} {rest : List Oper} {o : Oper} {a : Act} {Q : Exit → Act → World → Prop} (hw : Region.wanted o (yielded ops a.tmps) = true) (s x : Operand) (t t' : TypeId)
    (ho : o.op = .call { callee := .builtin .append, args := #[s, x], argTypes := #[t, t'] }) (v u : Value) (hs : a.eval s = v) (hx : a.eval x = u) (v' : Value) (w' : World) (hrun : (Builtin.append_ #[t, t'] o.type #[v, u]).run P w = .ok v' w')
    (h : wpList P ops Q rest (a.put o.dst v') w') : wpList P ops Q (o :: rest) a w := by
  refine wpList_step fun K hK => ?_
  rw [if_pos hw]
  unfold Oper.wp execOp
  simp only [ho, resolve, invoke, builtin, Sem.run_bind, Sem.run_pure, Result.andThen_ok, List.map_toArray, List.map_cons, List.map_nil, hs, hx, hrun]
  exact hK _ _ h

set_option maxHeartbeats 2000000 in
theorem fnResumed_walk (A : Option Addr) (c : Nat) (l : List UInt8) (C : Option Addr) (f : Nat) (o : List UInt8) (B : Option Addr) (d : Nat) (b : List UInt8) (w : World) (hl : l.length ≤ c) (_hc : c ≤ 140737488351232) (hm : Mem w w.heap.size A l) (hu : l.length ≤ 1048576) (hl1 : o.length ≤ f) (_hf : f ≤ 140737488351232) (hm1 : Mem w w.heap.size C o) (hu1 : o.length ≤ 1048576) (hl2 : b.length ≤ d) (_hd : d ≤ 140737488351232) (hm2 : Mem w w.heap.size B b) (hu2 : b.length ≤ 1048576) (hp : w.cell? ⟨0, 0, none⟩ = some (.int .u64 (U P1))) :
    Calls Tryd.prog 18 #[.slice A l.length c, .slice C o.length f, .slice B b.length d] w fun e w' => e = .returned (.bool true) ∧ Below w.heap.size w w' := by
  have hpos : 0 < w.heap.size := cell_pos hp
  have h34 := Lib.hid (state_any A c l w hl (by omega) hm hp)
  have Hm := Lib.hid hm; clear hm
  have Hm1 := Lib.hid hm1; clear hm1
  have Hm2 := Lib.hid hm2; clear hm2
  have Hp := Lib.hid hp; clear hp
  go_enter Tryd.func18, Tryd.ntmps18
  go_wp2_with fail
  refine h34.out.mono ?_
  rintro e w1 ⟨g, rfl, hg, hroom, b1⟩
  have Hroom := Lib.hid hroom; clear hroom
  go_wp2_with fail
  refine (resumed_yes C f o g l B d b _ hl1 (by omega) ((Hm1.out.below b1 (Nat.le_refl _)).more b1.size) Hroom.out (by omega) hl2 (by omega) ((Hm2.out.below b1 (Nat.le_refl _)).more b1.size) (prime_below Hp.out b1 hpos)).mono ?_
  rintro e w2 ⟨rfl, b2⟩
  have b02 := b1.trans (b2.mono b1.size)
  obtain ⟨X, hX⟩ : ∃ X, xxh (l ++ b) = X := ⟨_, rfl⟩
  rw [hX]
  obtain ⟨v2, w3, hrun2, hv2, b3, _, _⟩ := run_append_bytes w2 w2.heap.size 22 (.slice none 0 0) [] (OwnB.nil _ _) _ A l c ((Hm.out.below b02 (Nat.le_refl _)).more b02.size) (by simp; omega) (Nat.le_refl _)
  rw [List.nil_append] at hv2
  obtain ⟨v3, w4, hrun3, hv3, b4, _, _⟩ := run_append_bytes w3 w2.heap.size 22 v2 l hv2 _ B b d ((Hm2.out.below b02 (Nat.le_refl _)).below b3 b02.size) (by omega) b3.size
  have b04 := b02.trans ((b3.trans b4).mono b02.size)
  have h26 := ssum_own v3 (l ++ b) _ w4 hv3 (by simp; omega)
  rw [hX] at h26
  have H26 := Lib.hid h26
  have Hrun2 := Lib.hid hrun2
  have Hrun3 := Lib.hid hrun3
  have B04 := Lib.hid b04
  clear hrun2 hrun3 hv2 hv3 b3 b4 b04 h26 hX b1 b2 b02
  have tok1 : True := trivial
  go_wp2_with (first | (at_builtin; have _t := tok1; refine wpList_append_on rfl (.const (.slice none 0 0)) (.tmp 29) 22 22 rfl _ _ rfl rfl v2 w3 Hrun2.out ?_; clear tok1) | (at_builtin; refine wpList_append_on rfl (.tmp 30) (.tmp 31) 22 22 rfl _ _ rfl rfl v3 w4 Hrun3.out ?_))
  refine H26.out.mono ?_
  rintro e w5 ⟨rfl, b5⟩
  go_wp2_with fail
  go_ret
  exact ⟨rfl, B04.out.trans (b5.mono B04.out.size)⟩
end Go.Proofs.YtmcjajeglmjghaaDoor
