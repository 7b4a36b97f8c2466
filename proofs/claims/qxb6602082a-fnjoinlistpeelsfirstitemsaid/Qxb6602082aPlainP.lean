/-
  The plain laws of joinList from the front, and sums of lengths. No Go in sight.
-/
import Derived.Test.Qxb6602082aPlainJ
namespace Go.Proofs.Qxb6602082a

/-- The bytes of the first k strings. -/
def slen (xs : List ByteArray) (k : Nat) : Nat := Lib.lens ((xs.take k).map (·.data.toList))

theorem slen_zero (xs : List ByteArray) : slen xs 0 = 0 := by simp [slen, Lib.lens]

theorem slen_succ (xs : List ByteArray) (k : Nat) (x : ByteArray) (h : xs[k]? = some x) : slen xs (k + 1) = slen xs k + x.size := by
  unfold slen
  rw [List.take_add_one, h, Option.toList_some, List.map_append, lens_append]
  simp only [List.map_cons, List.map_nil, lens_one, Array.length_toList]
  rfl

theorem slen_all (xs : List ByteArray) : slen xs xs.length = Lib.lens (xs.map (·.data.toList)) := by simp [slen]

theorem slen_le (xs : List ByteArray) (k : Nat) : slen xs k ≤ Lib.lens (xs.map (·.data.toList)) := by
  unfold slen
  rw [List.map_take]
  exact Lib.lens_take_le _ _

theorem join_cons_cons (x y : List UInt8) (r : List (List UInt8)) (sep : List UInt8) : Lib.join (x :: y :: r) sep = x ++ sep ++ Lib.join (y :: r) sep := by
  rw [Lib.join_cons, Lib.join_cons]
  simp [Lib.joinTail]

theorem jlL_peel (x y z : List UInt8) (r : List (List UInt8)) (c : List UInt8) : jlL (x :: y :: z :: r) c = x ++ [44, 32] ++ jlL (y :: z :: r) c := by
  simp only [jlL]
  rw [List.dropLast_cons_of_ne_nil (by simp), List.dropLast_cons_of_ne_nil (by simp), join_cons_cons]
  simp [List.append_assoc]

theorem jl_peel (x y z : ByteArray) (r : List ByteArray) (c : ByteArray) : jl (x :: y :: z :: r) c = x ++ ⟨#[44, 32]⟩ ++ jl (y :: z :: r) c := by
  apply ByteArray.ext
  apply Array.toList_inj.1
  simp only [jl, List.map_cons]
  rw [jlL_peel]
  simp

theorem jl_two (x y c : ByteArray) : jl [x, y] c = x ++ ⟨#[32]⟩ ++ c ++ ⟨#[32]⟩ ++ y := by
  apply ByteArray.ext
  apply Array.toList_inj.1
  simp [jl, jlL, Lib.join_one]

theorem jlL_length (xs : List (List UInt8)) (c : List UInt8) : (jlL xs c).length ≤ Lib.lens xs + 2 * xs.length + c.length + 2 := by
  have hsplit : xs = [] ∨ ∃ ys z, xs = ys ++ [z] := by
    rcases List.eq_nil_or_concat xs with h | ⟨ys, z, h⟩
    · exact .inl h
    · exact .inr ⟨ys, z, by simpa using h⟩
  rcases hsplit with rfl | ⟨ys, z, rfl⟩
  · simp [jlL]
  · by_cases h : ys = []
    · subst h
      simp [jlL, Lib.lens]
      omega
    · rw [jlL_snoc ys z c h, lens_append, lens_one]
      have := join_length_le ys [44, 32]
      simp only [List.length_append, List.length_cons, List.length_nil] at this ⊢
      omega

theorem jl_size (xs : List ByteArray) (c : ByteArray) : (jl xs c).size ≤ Lib.lens (xs.map (·.data.toList)) + 2 * xs.length + c.size + 2 := by
  have h := jlL_length (xs.map (·.data.toList)) c.data.toList
  rw [List.length_map] at h
  have e1 : c.data.toList.length = c.size := by rw [Array.length_toList]; rfl
  have e2 : (jl xs c).size = (jlL (xs.map (·.data.toList)) c.data.toList).length := by
    show (jlL (xs.map (·.data.toList)) c.data.toList).toArray.size = _
    rw [List.size_toArray]
  omega

end Go.Proofs.Qxb6602082a
