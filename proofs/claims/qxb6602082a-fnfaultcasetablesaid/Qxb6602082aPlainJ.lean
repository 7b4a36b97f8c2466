/-
  The plain mathematics of joinList: no Go in sight.
-/
import Derived.Lib.Join
namespace Go.Proofs.Qxb6602082a

/-- joinList, on lists of bytes: the items but the last parted by a comma and a blank; the last behind the conjunction. -/
def jlL (xs : List (List UInt8)) (c : List UInt8) : List UInt8 :=
  match xs with
  | [] => []
  | [x] => x
  | x :: y :: r => Lib.join ((x :: y :: r).dropLast) [44, 32] ++ [32] ++ c ++ [32] ++ (x :: y :: r).getLastD []

/-- joinList, as Go's string. -/
def jl (xs : List ByteArray) (c : ByteArray) : ByteArray := ⟨(jlL (xs.map (·.data.toList)) c.data.toList).toArray⟩

theorem jl_nil (c : ByteArray) : (⟨#[]⟩ : ByteArray) = jl [] c := rfl

theorem jl_one (x c : ByteArray) : x = jl [x] c := by
  apply ByteArray.ext
  simp [jl, jlL]

theorem jlL_snoc (ys : List (List UInt8)) (z c : List UInt8) (h : ys ≠ []) : jlL (ys ++ [z]) c = Lib.join ys [44, 32] ++ [32] ++ c ++ [32] ++ z := by
  match ys, h with
  | [], h => exact absurd rfl h
  | [y], _ => simp [jlL]
  | y :: y' :: r, _ =>
    have e : (y :: y' :: (r ++ [z])) = (y :: y' :: r) ++ [z] := rfl
    show jlL (y :: y' :: (r ++ [z])) c = _
    simp only [jlL]
    rw [e, List.dropLast_concat, List.getLastD_concat]

theorem jl_many (ys : List ByteArray) (z c : ByteArray) (h : ys ≠ []) :
    (⟨(Lib.join (ys.map (·.data.toList)) [44, 32]).toArray⟩ : ByteArray) ++ ⟨#[32]⟩ ++ c ++ ⟨#[32]⟩ ++ z = jl (ys ++ [z]) c := by
  apply ByteArray.ext
  apply Array.toList_inj.1
  have h' : ys.map (·.data.toList) ≠ [] := by simpa using h
  have e := jlL_snoc (ys.map (·.data.toList)) z.data.toList c.data.toList h'
  simp only [jl, List.map_append, List.map_cons, List.map_nil]
  rw [e]
  simp

theorem joinTail_length (sep : List UInt8) (r : List (List UInt8)) : (Lib.joinTail sep r).length = Lib.lens r + r.length * sep.length := by
  induction r with
  | nil => simp [Lib.joinTail, Lib.lens]
  | cons x r ih =>
    simp only [Lib.joinTail, Lib.lens, List.map_cons, List.flatten_cons, List.length_append, List.sum_cons, List.length_cons, Nat.add_mul, Nat.one_mul] at ih ⊢
    omega

theorem join_length_le (xs : List (List UInt8)) (sep : List UInt8) : (Lib.join xs sep).length ≤ Lib.lens xs + xs.length * sep.length := by
  cases xs with
  | nil => simp [Lib.join_nil]
  | cons x r =>
    rw [Lib.join_cons, List.length_append, joinTail_length]
    simp only [Lib.lens, List.map_cons, List.sum_cons, List.length_cons, Nat.add_mul]
    omega

theorem lens_append (a b : List (List UInt8)) : Lib.lens (a ++ b) = Lib.lens a + Lib.lens b := by simp [Lib.lens]
theorem lens_one (a : List UInt8) : Lib.lens [a] = a.length := by simp [Lib.lens]

end Go.Proofs.Qxb6602082a
