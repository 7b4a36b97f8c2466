/-
  Walks: joinList and ZZJoinList by their contract, over the shelf's contract of strings.Join.
-/
import Derived.Test.Qxb6602082aRows
import Derived.Test.Qxb6602082aPlainJ
import Derived.Test.Qxb6602082aShelf
import Derived.WalkKit
import Derived.WalkSpells
import Derived.WalkLawsBesides
import Derived.Lib.QuietBelow
namespace Go.Proofs.Qxb6602082a
open Go.RowKit Go.Sort

/-- A slice of strings in memory: no element; or the elements lie, one behind the other, in a block that is there. -/
def StrsAt (w : World) (v : Value) (xs : List ByteArray) : Prop :=
  (xs = [] ∧ ∃ a c, v = .slice a 0 c) ∨
  ∃ bk o c, v = .slice (some ⟨bk, o, none⟩) xs.length c ∧ bk < w.heap.size ∧ xs.length ≤ c ∧ ∀ (j : Nat) x, xs[j]? = some x → w.cell? ⟨bk, o + j, none⟩ = some (.string x)

theorem StrsAt.below {w w' : World} {v : Value} {xs : List ByteArray} (h : StrsAt w v xs) (hb : Below w.heap.size w w') : StrsAt w' v xs := by
  rcases h with h | ⟨bk, o, c, hv, hbk, hc, hcell⟩
  · exact .inl h
  · exact .inr ⟨bk, o, c, hv, Nat.lt_of_lt_of_le hbk hb.size, hc, fun j x hj => (hb.cell (p := ⟨bk, o + j, none⟩) hbk).trans (hcell j x hj)⟩

theorem wrap_nat (m : Nat) (h : m ≤ 1048576) : IntKind.i64.wrap (m : Int) = m := by
  rw [IntKind.wrap_i64]
  omega

theorem ret_string {a b : ByteArray} (h : a = b) : Ending.returned (.string a) = .returned (.string b) := by rw [h]

set_option maxHeartbeats 400000 in
theorem joinList_many (bk o c m : Nat) (ys : List ByteArray) (z conj : ByteArray) (w : World) (hm : ys.length = m) (hm1 : 1 ≤ m) (hm2 : m ≤ 1048576)
    (hcells : ∀ (j : Nat) x, ys[j]? = some x → w.cell? ⟨bk, o + j, none⟩ = some (.string x)) (hz : w.cell? ⟨bk, o + m, none⟩ = some (.string z)) (hbk : bk < w.heap.size) (hc : m + 1 ≤ c)
    (j : ByteArray) (hj : j = ⟨(Lib.join (ys.map (·.data.toList)) [44, 32]).toArray⟩) (hlen : j.size ≤ 16777216) (hconj : conj.size ≤ 1048576) (hzs : z.size ≤ 2097152) :
    Calls Try.prog 20 #[.slice (some ⟨bk, o, none⟩) (m + 1 : Nat) c, .string conj] w fun e w' => e = .returned (.string (j ++ ⟨#[32]⟩ ++ conj ++ ⟨#[32]⟩ ++ z)) ∧ Below w.heap.size w w' := by
  have k1 := cell_regrown hz
  have cJ : ∀ d os, Calls Try.prog 23 #[.slice (some ⟨bk, o, none⟩) m c, .string ⟨#[44, 32]⟩] (grow (redrawn w d) os) fun e w'' => e = .returned (.string j) ∧ ∃ p : Regrown, w'' = grow (redrawn w p.d) p.os := by
    intro d os
    apply Calls.regrown_of
    rw [hj]
    have := Try.strings_Join bk o c ys ⟨#[44, 32]⟩ (grow (redrawn w d) os) (fun i x h => cell_regrown (hcells i x h) d os) (Nat.lt_of_lt_of_le hbk (below_regrown w d os).size) (by omega) (by omega) (by rw [hj] at hlen; simp [ByteArray.size] at hlen; simp; omega)
    rw [hm] at this
    exact this
  have e0 : (((m : Int) + 1) == 0) = false := by simp; omega
  have e1 : (((m : Int) + 1) == 1) = false := by simp; omega
  clear hj hm hcells
  have hwm : IntKind.i64.wrap (m : Int) = m := wrap_nat m hm2
  have hml : (m : Int) < (m : Int) + 1 := by omega
  have hmc : (m : Int) ≤ c := by omega
  have n1 : ¬ 9223372036854775807 < j.size + 1 := by omega
  have n2 : ¬ 9223372036854775807 < j.size + 1 + conj.size := by omega
  have n3 : ¬ 9223372036854775807 < j.size + 1 + conj.size + 1 := by omega
  have n4 : ¬ 9223372036854775807 < j.size + 1 + conj.size + 1 + z.size := by omega
  go_enter Try.func20, Try.ntmps20
  go_wp2
  refine wp_region_quiet_below (by kernel_rfl) (by kernel_rfl) ?_
  repeat (quiet_step (exact cJ _ _))
  refine wpQuiet_nil ?_
  intro _ hw'
  obtain ⟨⟨dq, osq⟩, hw''⟩ := hw'
  subst hw''
  go_wp2
  go_ret
  exact ⟨rfl, below_regrown w dq osq⟩

set_option maxHeartbeats 400000 in
theorem joinList_none (a : Option Addr) (c : Nat) (conj : ByteArray) (w : World) :
    Calls Try.prog 20 #[.slice a 0 c, .string conj] w fun e w' => e = .returned (.string ⟨#[]⟩) ∧ Below w.heap.size w w' := by
  go_enter Try.func20, Try.ntmps20
  go_wp2
  go_ret
  exact ⟨rfl, Below.refl _ _⟩

set_option maxHeartbeats 400000 in
theorem joinList_one (bk o c : Nat) (x conj : ByteArray) (w : World) (hx : w.cell? ⟨bk, o, none⟩ = some (.string x)) :
    Calls Try.prog 20 #[.slice (some ⟨bk, o, none⟩) 1 c, .string conj] w fun e w' => e = .returned (.string x) ∧ Below w.heap.size w w' := by
  go_enter Try.func20, Try.ntmps20
  go_wp2
  go_ret
  exact ⟨rfl, Below.refl _ _⟩

/-- joinList, for every list of strings that lies in memory, its lengths within bounds. -/
theorem joinList_any (v : Value) (xs : List ByteArray) (conj : ByteArray) (w : World) (h : StrsAt w v xs) (hN : xs.length ≤ 1048576) (hL : Lib.lens (xs.map (·.data.toList)) ≤ 2097152) (hconj : conj.size ≤ 1048576) :
    Calls Try.prog 20 #[v, .string conj] w fun e w' => e = .returned (.string (jl xs conj)) ∧ Below w.heap.size w w' := by
  rcases h with ⟨rfl, a, c, rfl⟩ | ⟨bk, o, c, rfl, hbk, hc, hcell⟩
  · exact (joinList_none a c conj w).mono fun e w' ⟨he, hb⟩ => ⟨he.trans (ret_string (jl_nil conj)), hb⟩
  · have hsplit : xs = [] ∨ ∃ ys z, xs = ys ++ [z] := by
      rcases List.eq_nil_or_concat xs with h | ⟨ys, z, h⟩
      · exact .inl h
      · exact .inr ⟨ys, z, by simpa using h⟩
    rcases hsplit with rfl | ⟨ys, z, rfl⟩
    · exact (joinList_none _ c conj w).mono fun e w' ⟨he, hb⟩ => ⟨he.trans (ret_string (jl_nil conj)), hb⟩
    · have hz : w.cell? ⟨bk, o + ys.length, none⟩ = some (.string z) := hcell ys.length z (by simp)
      by_cases h0 : ys = []
      · subst h0
        refine (joinList_one bk o c z conj w (by simpa using hz)).mono fun e w' ⟨he, hb⟩ => ⟨he.trans (ret_string (jl_one z conj)), hb⟩
      · have hpos : 1 ≤ ys.length := by cases ys with | nil => exact absurd rfl h0 | cons _ _ => simp
        simp only [List.map_append, List.map_cons, List.map_nil, lens_append, lens_one, List.length_append, List.length_cons, List.length_nil, Nat.zero_add] at hL hN hc
        rw [List.length_append, List.length_singleton]
        have hzs : z.data.toList.length = z.size := by rw [Array.length_toList]; rfl
        have hjl := join_length_le (ys.map (·.data.toList)) [44, 32]
        simp only [List.length_map, List.length_cons, List.length_nil, Nat.zero_add] at hjl
        refine (joinList_many bk o c ys.length ys z conj w rfl hpos (by omega) (fun j x hj => hcell j x (by rw [List.getElem?_append_left (List.getElem?_eq_some_iff.1 hj).1]; exact hj)) hz hbk (by omega) _ rfl ?_ hconj (by omega)).mono fun e w' ⟨he, hb⟩ => ⟨he.trans (ret_string (jl_many ys z conj h0)), hb⟩
        show (Lib.join (ys.map (·.data.toList)) [44, 32]).toArray.size ≤ _
        rw [List.size_toArray]
        omega

set_option maxHeartbeats 400000 in
theorem zzjoinList_any (v : Value) (xs : List ByteArray) (conj : ByteArray) (w : World) (h : StrsAt w v xs) (hN : xs.length ≤ 1048576) (hL : Lib.lens (xs.map (·.data.toList)) ≤ 2097152) (hconj : conj.size ≤ 1048576) :
    Calls Try.prog 11 #[v, .string conj] w fun e w' => e = .returned (.string (jl xs conj)) ∧ Below w.heap.size w w' := by
  go_enter Try.func11, Try.ntmps11
  go_wp2_with fail
  refine (joinList_any v xs conj _ h hN hL hconj).mono ?_
  rintro e w' ⟨rfl, hb⟩
  go_wp2
  go_ret
  exact ⟨rfl, hb⟩

end Go.Proofs.Qxb6602082a
