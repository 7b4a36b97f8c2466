/-
  THE PROOF OF 'Rows.FnTenantTurnsArgsListsEachEntryOnceSaid': the frame after the guide's template for slices (proof-skeleton.mjs), turned to a slice of int32s and a slice of strings; the walk lies in a text of its own.
-/
import Derived.Test.Qxb6001593aRows
import Derived.WalkKit
import Derived.ProofKit
import Derived.OpenShut
import Derived.ShutString
import Derived.ChangeOld
import Derived.Below
import Derived.SliceStrings
import Derived.Test.Qxb6001593aWalkM
namespace Go.Proofs.Qxb6001593a.fnTenantTurnsArgsListsEachEntryOnce
open Go.ChangeShapes Go.WideShapes Go.ChangeAt Go.RowKit
open Go.ChangeMaps (open_string shut_string)
set_option linter.unusedVariables false

theorem own : ownKnob Try.prog.godebug = none := by kernel_rfl
theorem laidOut : laidOutB Try.prog = true := by kernel_rfl

theorem came_ints {H : Type} {enc : TypeId × Value → H} {W : World} {a : Option Addr} {len cap : Nat} {d : DataW H} {p : List MemPlace}
    (h : DataW.Trod enc Try.prog W 0 (fun _ => true) true 22 (.slice a len cap) d p) :
    ∃ ks, CellsI W W.heap.size a ks ∧ (a = none → cap = 0) ∧ ks.length = len ∧ len ≤ maxLen ∧ ∀ x ∈ ks, -2147483648 ≤ x ∧ x ≤ 2147483647 := by
  obtain ⟨fuel, hf⟩ := h
  rcases open_ints Try.underlying22 Try.underlying21 (by kernel_rfl) hf with ⟨hcs, _⟩ | ⟨x, l, c, zs, hcs, _, hl, hm, hz, _, hcell, hwz⟩
  · simp [Value.cells] at hcs
    obtain ⟨rfl, rfl, rfl⟩ := hcs
    exact ⟨[], (fun j y hj => by cases hj), (fun _ => rfl), rfl, by simp, by simp⟩
  · simp [Value.cells] at hcs
    obtain ⟨rfl, rfl, rfl⟩ := hcs
    have hzl : zs.length = cap := by simpa using hz
    have hlen : (zs.take len).length = len := by rw [List.length_take]; omega
    refine ⟨zs.take len, fun j y hj => ?_, (fun h => by cases h), hlen, by omega, fun y hy => ?_⟩
    · have hjl : j < len := by have := (List.getElem?_eq_some_iff.1 hj).1; omega
      obtain ⟨b, off, spot⟩ := x
      have hp := hcell 0 (by omega)
      have hspot : spot = none := by simpa [Addr.add] using World.cell?_spot hp
      subst hspot
      have hblk : b < W.heap.size := by simpa [Addr.add] using World.block_lt_of_cell? W _ hp
      refine ⟨b, off, rfl, hblk, ?_⟩
      have := hcell j (by omega)
      rw [Go.WideShapes.add_plain, List.getD_eq_getElem?_getD] at this
      rw [List.getElem?_take_of_lt hjl] at hj
      rw [hj] at this
      exact this
    · have hb := bounds_i32 (hwz y (List.mem_of_mem_take hy))
      omega

theorem came_strs {H : Type} {enc : TypeId × Value → H} {W : World} {a : Option Addr} {len cap : Nat} {d : DataW H} {p : List MemPlace}
    (h : DataW.Trod enc Try.prog W 0 (fun _ => true) true 23 (.slice a len cap) d p) :
    ∃ xs, CellsS W W.heap.size a xs ∧ (a = none → cap = 0) ∧ xs.length = len ∧ len ≤ maxLen ∧ ∀ s ∈ xs, s.size ≤ maxLen := by
  obtain ⟨fuel, hf⟩ := h
  rcases open_strings Try.underlying23 Try.underlying9 (by kernel_rfl) hf with ⟨hcs, _⟩ | ⟨x, l, c, ss, hcs, _, hl, hm, hz, _, hcell, hws⟩
  · simp [Value.cells] at hcs
    obtain ⟨rfl, rfl, rfl⟩ := hcs
    exact ⟨[], (fun j y hj => by cases hj), (fun _ => rfl), rfl, by simp, by simp⟩
  · simp [Value.cells] at hcs
    obtain ⟨rfl, rfl, rfl⟩ := hcs
    have hzl : ss.length = cap := by simpa using hz
    have hlen : (ss.take len).length = len := by rw [List.length_take]; omega
    refine ⟨ss.take len, fun j y hj => ?_, (fun h => by cases h), hlen, by omega, fun y hy => hws y (List.mem_of_mem_take hy)⟩
    have hjl : j < len := by have := (List.getElem?_eq_some_iff.1 hj).1; omega
    obtain ⟨b, off, spot⟩ := x
    have hp := hcell 0 (by omega)
    have hspot : spot = none := by simpa [Addr.add] using World.cell?_spot hp
    subst hspot
    have hblk : b < W.heap.size := by simpa [Addr.add] using World.block_lt_of_cell? W _ hp
    refine ⟨b, off, rfl, hblk, ?_⟩
    have := hcell j (by omega)
    rw [Go.WideShapes.add_plain, List.getD_eq_getElem?_getD] at this
    rw [List.getElem?_take_of_lt hjl] at hj
    rw [hj] at this
    exact this

set_option maxRecDepth 100000 in
theorem lifted (os : Os) (started : os.Started) (H : Type) (enc : TypeId × Value → H) :
    ReturnsInHanded {} Try.checked os 3 .any (Rows.fnTenantTurnsArgsListsEachEntryOnceSpec.pre6 enc Try.prog Try.f3 Rows.fnTenantTurnsArgsListsEachEntryOnceRow.domain false) (Rows.fnTenantTurnsArgsListsEachEntryOnceSpec.post enc Try.prog Try.f3 false true false false) := by
  refine returnsInHanded_of_change (C := Try.checked) own started (by kernel_rfl) Try.func3
    (ChangeSpec.witness6 (enc := enc) (C := Try.checked) false ⟨#[], #[.slice none 0 0, .slice none 0 0], []⟩ 8 (by kernel_rfl) (by kernel_rfl) (by kernel_rfl) (by kernel_rfl)) ?_
  intro W base args ds gs before hval0 hW hcnd _
  have hval : ∀ (j : Nat) t v, Try.f3.params[j]? = some t → args[j]? = some v → Value.okWide Try.prog W .any base t v := hval0
  have hW' := hW
  obtain ⟨p, q, hA0, hV, rfl, hfz, hnd⟩ := hW
  have hA : DataW.TrodAll enc Try.prog W 0 (fun _ => true) true Try.f3.params.toList args.toList ds p := hA0
  rw [Try.params3] at hA hval
  obtain ⟨v0, vs0, d0, ds0, p0, q0, hargs, rfl, rfl, h0, r0⟩ := trodAll_cons hA
  obtain ⟨v1, vs1, d1, ds1, p1, q1, rfl, rfl, rfl, h1, r1⟩ := trodAll_cons r0
  obtain ⟨rfl, rfl, rfl⟩ := trodAll_nil r1
  obtain rfl : args = #[v0, v1] := by cases args; simp_all
  obtain ⟨rfl, rfl⟩ := trodVars_none hV
  obtain ⟨a0, len0, cap0, rfl⟩ := okWide_slice Try.underlying22 (hval 0 22 v0 rfl rfl)
  have k0 := h0
  have lt0 : ∀ x ∈ p0, x.block < W.heap.size := by obtain ⟨m, hm⟩ := k0; exact DataW.trod_lt m _ _ _ hm
  obtain ⟨ks, hk, z0, hn0, m0, hks⟩ := came_ints h0
  obtain ⟨a1, len1, cap1, rfl⟩ := okWide_slice Try.underlying23 (hval 1 23 v1 rfl rfl)
  have k1 := h1
  have lt1 : ∀ x ∈ p1, x.block < W.heap.size := by obtain ⟨m, hm⟩ := k1; exact DataW.trod_lt m _ _ _ hm
  obtain ⟨xs, hx, z1, hn1, m1, hxs⟩ := came_strs h1
  clear hA0 hval0
  refine (walk a0 len0 cap0 ks a1 len1 cap1 xs W m0 m1 hn0 hn1 hxs hks hk hx z0 z1).mono fun e W' ⟨he, bel⟩ => ?_
  subst he
  exact ⟨_, rfl, _, _, _, [], _, [], hW', trodAll_mk1 (shut_bool Try.underlying4 _), (trodAll_cons_mk (Below.trod laidOut (by kernel_rfl) (of_decide_eq_true (by kernel_rfl)) k0 bel lt0) (trodAll_cons_mk (Below.trod laidOut (by kernel_rfl) (of_decide_eq_true (by kernel_rfl)) k1 bel lt1) trodAll_mk0)), rfl, bel.frame _, fun h => by cases h⟩

theorem over : Rows.fnTenantTurnsArgsListsEachEntryOnceRow.holds Try.pinned (OpenSpec.ofChange Rows.fnTenantTurnsArgsListsEachEntryOnceSpec) :=
  OpenClaim.holds_of_wide 3 Try.f3 rfl rfl rfl rfl rfl rfl rfl ⟨rfl, rfl, rfl, rfl, rfl⟩ rfl rfl rfl rfl rfl (by kernel_rfl) Try.func3 (by kernel_rfl)
    (of_decide_eq_true (by kernel_rfl)) (by unfold Func.isWrapper; first | (rw [if_pos (by decide +kernel)]; kernel_rfl) | (rw [if_neg (by decide +kernel)]; exact ⟨rfl, rfl⟩))
    (fun os started H enc _ => lifted os started H enc)

/-- THE STATEMENT -/
theorem proved : Rows.FnTenantTurnsArgsListsEachEntryOnceSaid := over
end Go.Proofs.Qxb6001593a.fnTenantTurnsArgsListsEachEntryOnce
