/- What all laws' rows share: what the listed variable holds, and a slice of bytes that came in, read as a list of bytes. -/
import Derived.Test.YtmcjajeglmjghaaDoorCards
import Derived.Test.YtmcjajeglmjghaaDoorTie
import Derived.Test.YtmcjajeglmjghaaDoorRefSum
import Derived.ProofKit
import Derived.OpenShut
import Derived.ChangeOld
import Derived.Deep.DeepHandedRow
import Derived.SizedLaws
import Derived.LaidLaws
namespace Go.Proofs.YtmcjajeglmjghaaDoor
open Go.ChangeShapes Go.WideShapes Go.ChangeAt Go.RowKit

theorem own : ownKnob Tryd.prog.godebug = none := by kernel_rfl
theorem laidOut : laidOutB Tryd.prog = true := by kernel_rfl
theorem gPrime : Tryd.prog.globalNamed "stirwell/pub/esbuild/inner/xxhash.prime1v" = some 0 := by kernel_rfl
theorem gPrimeType : (Tryd.prog.globals[0]?).map (·.type) = some 26 := by kernel_rfl
theorem bytes5 : Tryd.prog.bytesOf 5 = 1 := by kernel_rfl

/-- WHAT THE ROW's LIST GIVES: the variable holds the first prime. -/
theorem prime_cell {W : World} (h : laidMetH Tryd.prog [("stirwell/pub/esbuild/inner/xxhash.prime1v", Rows.laid_stirwell_pub_esbuild_inner_xxhash_prime1v)] W) :
    W.cell? ⟨0, 0, none⟩ = some (.int .u64 (U P1)) := by
  have h1 : laidMet Tryd.prog [("stirwell/pub/esbuild/inner/xxhash.prime1v", Rows.laid_stirwell_pub_esbuild_inner_xxhash_prime1v)] W := h
  obtain ⟨ps, ⟨g', t', cs, fuel, p, q, hg', ht', hvar, hd, _, _⟩, _⟩ := h1
  obtain rfl := Option.some.inj (gPrime.symm.trans hg')
  obtain rfl := Option.some.inj (gPrimeType.symm.trans ht')
  obtain ⟨n, hcs, hx, _⟩ := DataW.trod_int Tryd.underlying26 hd
  have hn : n = U P1 := by
    simp only [Prod.mk.injEq, Rows.laid_stirwell_pub_esbuild_inner_xxhash_prime1v] at hx
    have h2 := hx.1
    injection h2 with h2
    injection h2 with _ h2
    exact h2.symm
  subst hn
  have := World.var?_cell gPrime hvar 0
  rw [this]
  rw [← Array.getElem?_toList, hcs]
  rfl

theorem byte_of {z : Int} (h : (Lit.int .u8 z).wf = true) : z = ((z.toNat.toUInt8).toNat : Int) := by
  have h2 : 0 ≤ z ∧ z ≤ 255 := bounds_u8 h
  have e : (z.toNat.toUInt8).toNat = z.toNat := by
    rw [Nat.toUInt8, UInt8.toNat_ofNat']; omega
  rw [e]; omega

/-- A slice of bytes that came in reads as a list of bytes. -/
theorem open_bytes {H : Type} {enc : TypeId × Value → H} {W : World} {a : Option Addr} {len cap : Nat} {d : DataW H} {p : List MemPlace} (h : DataW.Trod enc Tryd.prog W 0 (fun _ => true) true 22 (.slice a len cap) d p) :
    ∃ l : List UInt8, l.length = len ∧ len ≤ cap ∧ Mem W W.heap.size a l ∧ ((d = .nil ∧ cap = 0) ∨ ∃ elems spare, d = .slice elems spare ∧ elems.length + spare.length = cap ∧ elems.length = len) := by
  obtain ⟨fuel, hf⟩ := h
  rcases open_ints Tryd.underlying22 Tryd.underlying5 (by kernel_rfl) hf with ⟨hcs, hx⟩ | ⟨x, len', cap', zs, hcs, _, hl, hm, hz, hx, hcell, hwz⟩
  · simp [Value.cells] at hcs
    obtain ⟨rfl, rfl, rfl⟩ := hcs
    simp only [Prod.mk.injEq] at hx
    exact ⟨[], rfl, Nat.le_refl _, Mem.nil _ _ _, .inl ⟨hx.1, rfl⟩⟩
  · simp [Value.cells] at hcs
    obtain ⟨rfl, rfl, rfl⟩ := hcs
    simp only [Prod.mk.injEq] at hx
    have hz' : zs.length = cap := by simpa using hz
    refine ⟨(zs.take len).map (fun z => z.toNat.toUInt8), by simp; omega, hl, fun hpos => ?_, .inr ⟨_, _, hx.1, by simp [lits]; omega, by simp [lits]; omega⟩⟩
    have hlen : ((zs.take len).map (fun z => z.toNat.toUInt8)).length = len := by simp; omega
    obtain ⟨b, off, spot⟩ := x
    have hspot : spot = none := by simpa [Addr.add] using World.cell?_spot (hcell 0 (by omega))
    subst hspot
    have hby : Bytes W b off ((zs.take len).map (fun z => z.toNat.toUInt8)) := fun j hj => by
      have hj' : j < zs.length := by omega
      have := hcell j hj'
      rw [add_at] at this
      rw [this, List.getElem_map, List.getElem_take]
      have e : zs.getD j 0 = zs[j] := by simp [hj']
      rw [e]
      have hw := byte_of (hwz zs[j] (List.getElem_mem hj'))
      rw [← hw]
    exact ⟨b, off, rfl, hby.lt hpos, hby⟩

/-- The form's own reach, of an argument that is a slice of bytes. -/
theorem reach_bytes {H : Type} {ts : List TypeId} {ds : List (DataW H)} (hsz : (DataW.weightsEach Tryd.prog ts ds).all (· ≤ reachBytes) = true) (j : Nat) {d : DataW H} {cap len : Nat} (ht : ts[j]? = some 22) (hd : ds[j]? = some d)
    (h : (d = .nil ∧ cap = 0) ∨ ∃ elems spare, d = .slice elems spare ∧ elems.length + spare.length = cap ∧ elems.length = len) : cap ≤ 140737488351232 := by
  rcases h with ⟨_, rfl⟩ | ⟨elems, spare, rfl, h1, _⟩
  · omega
  · have := sized_slice hsz (j := j) (t := 22) (e := 5) ht hd Tryd.underlying22
    rw [bytes5] at this
    simp only [reachBytes] at this
    omega

/-- A WORLD FOR THE WITNESS: the settled one, the variable holding what its initialiser lays. -/
noncomputable def laidWorld (os : Os) : World :=
  { World.holding Tryd.prog os ⟨#[], #[], []⟩ with heap := (World.holding Tryd.prog os ⟨#[], #[], []⟩).heap.modify 0 fun
      | .cells _ t frozen => .cells #[.int .u64 11400714785074694791] t frozen
      | o => o }
end Go.Proofs.YtmcjajeglmjghaaDoor
