/-
  A slice of strings that came in, as the walks want it.
-/
import Derived.Test.Qxb6602082aWalkJ
import Derived.ProofKit
import Derived.OpenShut
import Derived.SliceStrings
namespace Go.Proofs.Qxb6602082a
open Go.ChangeShapes Go.WideShapes Go.ChangeAt Go.RowKit

/-- What the walks are told of a slice of strings that came in. -/
def CameIn (W : World) (a : Option Addr) (len cap : Nat) (xs : List ByteArray) : Prop :=
  StrsAt W (.slice a len cap) xs ∧ (a = none → cap = 0) ∧ xs.length = len ∧ len ≤ maxLen ∧ ∀ s ∈ xs, s.size ≤ maxLen

theorem came_in {H : Type} {enc : TypeId × Value → H} {W : World} {a : Option Addr} {len cap : Nat} {d : DataW H} {p : List MemPlace}
    (h : DataW.Trod enc Try.prog W 0 (fun _ => true) true 22 (.slice a len cap) d p) : ∃ xs, CameIn W a len cap xs := by
  obtain ⟨fuel, hf⟩ := h
  rcases open_strings Try.underlying22 Try.underlying9 (by kernel_rfl) hf with ⟨hcs, _⟩ | ⟨x, l, c, ss, hcs, _, hl, hm, hz, _, hcell, hws⟩
  · simp [Value.cells] at hcs
    obtain ⟨rfl, rfl, rfl⟩ := hcs
    exact ⟨[], .inl ⟨rfl, _, _, rfl⟩, fun _ => rfl, rfl, by simp, by simp⟩
  · simp [Value.cells] at hcs
    obtain ⟨rfl, rfl, rfl⟩ := hcs
    have hzl : ss.length = cap := by simpa using hz
    have hlen : (ss.take len).length = len := by rw [List.length_take]; omega
    refine ⟨ss.take len, ?_, (fun h => by cases h), hlen, by omega, fun s hs => hws s (List.mem_of_mem_take hs)⟩
    by_cases h0 : len = 0
    · subst h0
      exact .inl ⟨by simp, _, _, rfl⟩
    · obtain ⟨b, off, spot⟩ := x
      have hp := hcell 0 (by omega)
      have hspot : spot = none := by simpa [Addr.add] using World.cell?_spot hp
      subst hspot
      have hblk : b < W.heap.size := by simpa [Addr.add] using World.block_lt_of_cell? W _ hp
      refine .inr ⟨b, off, cap, by rw [hlen], hblk, by omega, fun j s hj => ?_⟩
      have hjl : j < len := by have := (List.getElem?_eq_some_iff.1 hj).1; omega
      have := hcell j (by omega)
      rw [Go.WideShapes.add_plain, List.getD_eq_getElem?_getD] at this
      rw [List.getElem?_take_of_lt hjl] at hj
      rw [hj] at this
      exact this

end Go.Proofs.Qxb6602082a
