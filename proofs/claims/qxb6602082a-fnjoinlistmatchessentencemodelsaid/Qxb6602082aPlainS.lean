/-
  The plain law of the sentence model: byte by byte in one pass, it is joinList. No Go in sight.
-/
import Derived.Test.Qxb6602082aPlainP
namespace Go.Proofs.Qxb6602082a

/-- What goes ahead of item k of n. -/
def sepAt (n : Nat) (c : List UInt8) (k : Nat) : List UInt8 := if k = 0 then [] else if k + 1 = n then 32 :: (c ++ [32]) else [44, 32]

/-- The model's output after k rounds. -/
def sentTo (xs : List (List UInt8)) (c : List UInt8) : Nat → List UInt8
  | 0 => []
  | k + 1 => sentTo xs c k ++ sepAt xs.length c k ++ xs.getD k []

theorem joinTail_append (sep : List UInt8) (a b : List (List UInt8)) : Lib.joinTail sep (a ++ b) = Lib.joinTail sep a ++ Lib.joinTail sep b := by simp [Lib.joinTail]

theorem join_snoc (ys : List (List UInt8)) (z sep : List UInt8) (h : ys ≠ []) : Lib.join (ys ++ [z]) sep = Lib.join ys sep ++ sep ++ z := by
  cases ys with
  | nil => exact absurd rfl h
  | cons y r =>
    rw [List.cons_append, Lib.join_cons, Lib.join_cons, joinTail_append]
    simp [Lib.joinTail]

theorem getD_snoc (ys : List (List UInt8)) (z : List UInt8) : (ys ++ [z]).getD ys.length [] = z := by simp

/-- Short of the last item it is strings.Join of the first k. -/
theorem sent_join (xs : List (List UInt8)) (c : List UInt8) : ∀ k, k + 1 ≤ xs.length → sentTo xs c k = Lib.join (xs.take k) [44, 32]
  | 0, _ => by simp [sentTo, Lib.join_nil]
  | k + 1, h => by
    have ih := sent_join xs c k (by omega)
    have hx : xs.take (k + 1) = xs.take k ++ [xs.getD k []] := by
      rw [List.take_succ_eq_append_getElem (by omega), List.getD_eq_getElem?_getD, List.getElem?_eq_getElem (by omega)]
      rfl
    rw [sentTo, ih, hx, sepAt]
    by_cases h0 : k = 0
    · subst h0
      simp [Lib.join_nil, Lib.join_one]
    · rw [if_neg h0, if_neg (by omega), join_snoc _ _ _ (by
        intro e
        have := congrArg List.length e
        rw [List.length_take, List.length_nil] at this
        omega)]

theorem sent_all (xs : List (List UInt8)) (c : List UInt8) : sentTo xs c xs.length = jlL xs c := by
  have hsplit : xs = [] ∨ ∃ ys z, xs = ys ++ [z] := by
    rcases List.eq_nil_or_concat xs with h | ⟨ys, z, h⟩
    · exact .inl h
    · exact .inr ⟨ys, z, by simpa using h⟩
  rcases hsplit with rfl | ⟨ys, z, rfl⟩
  · rfl
  · have hlen : (ys ++ [z]).length = ys.length + 1 := by simp
    by_cases h : ys = []
    · subst h
      simp [sentTo, sepAt, jlL]
    · rw [jlL_snoc ys z c h, hlen, sentTo, sent_join _ _ _ (by rw [hlen]; exact Nat.le_refl _), List.take_left, getD_snoc, hlen, sepAt, if_neg (by intro e; exact h (List.eq_nil_of_length_eq_zero e)), if_pos rfl]
      simp [List.append_assoc]

theorem lens_take_one (xs : List (List UInt8)) (k : Nat) : Lib.lens (xs.take (k + 1)) = Lib.lens (xs.take k) + (xs.getD k []).length := by
  by_cases h : k < xs.length
  · rw [List.take_succ_eq_append_getElem h, lens_append, lens_one, List.getD_eq_getElem?_getD, List.getElem?_eq_getElem h]
    rfl
  · rw [List.take_of_length_le (by omega), List.take_of_length_le (by omega), List.getD_eq_getElem?_getD, List.getElem?_eq_none (by omega)]
    rfl

theorem sepAt_length (n : Nat) (c : List UInt8) (k : Nat) : (sepAt n c k).length ≤ c.length + 2 := by
  unfold sepAt
  split
  · simp
  · split <;> simp

theorem sent_length (xs : List (List UInt8)) (c : List UInt8) : ∀ k, (sentTo xs c k).length ≤ Lib.lens (xs.take k) + k * (c.length + 2)
  | 0 => by simp [sentTo]
  | k + 1 => by
    have ih := sent_length xs c k
    have hs := sepAt_length xs.length c k
    rw [sentTo, List.length_append, List.length_append, lens_take_one, Nat.add_mul, Nat.one_mul]
    omega

/-- The bound that the walk pays its appends with. -/
theorem sent_bound (xs : List (List UInt8)) (c : List UInt8) (k : Nat) (hk : k ≤ 1048576) (hl : Lib.lens xs ≤ 2097152) (hc : c.length ≤ 1048576) : (sentTo xs c k).length ≤ 1200000000000 := by
  have h1 := sent_length xs c k
  have h2 := Lib.lens_take_le xs k
  have h3 : k * (c.length + 2) ≤ 1048576 * 1048578 := Nat.mul_le_mul hk (by omega)
  omega

end Go.Proofs.Qxb6602082a
