/-
  The plain mathematics of appendCopyText: bytes as integers, escaped; no Go in sight.
-/
import Derived.Laws.AppendOwn
namespace Go.Proofs.Qxb6601134a

/-- The four bytes that are escaped. -/
def spec (z : Int) : Bool := z == 92 || z == 9 || z == 10 || z == 13
/-- The letter behind the backslash. -/
def code (z : Int) : Int := if z = 92 then 92 else if z = 9 then 116 else if z = 10 then 110 else 114
/-- A byte as it is written. -/
def esc (z : Int) : List Int := if spec z then [92, code z] else [z]
/-- A text as it is written. -/
def enc (l : List Int) : List Int := l.flatMap esc

theorem enc_nil : enc [] = [] := rfl
theorem enc_append (a b : List Int) : enc (a ++ b) = enc a ++ enc b := by simp [enc]
theorem enc_one (z : Int) : enc [z] = esc z := by simp [enc]

theorem take_succ' (l : List Int) (k : Nat) (z : Int) (h : l[k]? = some z) : l.take (k + 1) = l.take k ++ [z] := by rw [List.take_add_one, h]; rfl

theorem enc_take_succ (l : List Int) (k : Nat) (z : Int) (h : l[k]? = some z) : enc (l.take (k + 1)) = enc (l.take k) ++ esc z := by
  rw [take_succ' l k z h, enc_append, enc_one]

/-- Up to place k all is written but what stands from 'st' on. -/
def Written (l : List Int) (st k : Nat) : Prop := enc (l.take k) = enc (l.take st) ++ (l.take k).drop st

theorem written_start (l : List Int) : Written l 0 0 := by simp [Written, enc]
theorem written_here (l : List Int) (k : Nat) : Written l k k := by
  unfold Written
  rw [List.drop_of_length_le (by rw [List.length_take]; omega), List.append_nil]

theorem written_plain (l : List Int) (st k : Nat) (z : Int) (hst : st ≤ k) (hk : l[k]? = some z) (hz : spec z = false) (h : Written l st k) : Written l st (k + 1) := by
  have hkl : k < l.length := (List.getElem?_eq_some_iff.1 hk).1
  unfold Written at h ⊢
  rw [enc_take_succ l k z hk, h, take_succ' l k z hk, List.drop_append_of_le_length (by rw [List.length_take]; omega), esc, hz]
  simp

/-- What the two appends write at a special byte. -/
theorem written_spec (l : List Int) (st k : Nat) (z : Int) (hk : l[k]? = some z) (hz : spec z = true) (h : Written l st k) : enc (l.take st) ++ (l.take k).drop st ++ [92, code z] = enc (l.take (k + 1)) := by
  unfold Written at h
  rw [enc_take_succ l k z hk, h, esc, hz]
  rfl

theorem written_end (l : List Int) (st : Nat) (h : Written l st l.length) : enc (l.take st) ++ l.drop st = enc l := by
  unfold Written at h
  rw [List.take_length] at h
  exact h.symm

theorem esc_length (z : Int) : (esc z).length = if spec z then 2 else 1 := by unfold esc; cases spec z <;> rfl

theorem enc_length_le (l : List Int) : (enc l).length ≤ 2 * l.length := by
  induction l with
  | nil => simp [enc]
  | cons z l ih =>
    have h1 : enc (z :: l) = esc z ++ enc l := by simp [enc]
    have h2 := esc_length z
    rw [h1, List.length_append, List.length_cons]
    have h3 : (esc z).length ≤ 2 := by rw [h2]; split <;> omega
    omega

theorem enc_take_le (l : List Int) (k : Nat) : (enc (l.take k)).length ≤ 2 * l.length := by
  have h1 := enc_length_le (l.take k)
  have h2 : (l.take k).length ≤ l.length := by rw [List.length_take]; omega
  omega

/-- The text from place j on, written, stands behind the text before it. -/
theorem enc_split (l : List Int) (j : Nat) (z : Int) (h : l[j]? = some z) : enc l = enc (l.take j) ++ (esc z ++ enc (l.drop (j + 1))) := by
  have hj : j < l.length := (List.getElem?_eq_some_iff.1 h).1
  have hz : l[j] = z := by
    have := List.getElem?_eq_getElem hj
    rw [this] at h
    exact Option.some.inj h
  have e : l = l.take j ++ (z :: l.drop (j + 1)) := by
    rw [← hz, ← List.drop_eq_getElem_cons hj, List.take_append_drop]
  have e2 : enc (z :: l.drop (j + 1)) = esc z ++ enc (l.drop (j + 1)) := by simp [enc]
  rw [← e2, ← enc_append, ← e]

theorem out_at (b l : List Int) (j : Nat) (z : Int) (h : l[j]? = some z) (i : Nat) (hi : i < (esc z).length) : (b ++ enc l)[b.length + (enc (l.take j)).length + i]? = (esc z)[i]? := by
  rw [enc_split l j z h, List.getElem?_append_right (by omega), show b.length + (enc (l.take j)).length + i - b.length = (enc (l.take j)).length + i by omega, List.getElem?_append_right (by omega),
    show (enc (l.take j)).length + i - (enc (l.take j)).length = i by omega, List.getElem?_append_left hi]

theorem out_plain (b l : List Int) (j : Nat) (z : Int) (h : l[j]? = some z) (hz : spec z = false) : (b ++ enc l)[b.length + (enc (l.take j)).length]? = some z := by
  have := out_at b l j z h 0 (by rw [esc_length]; split <;> omega)
  rw [Nat.add_zero] at this
  rw [this, esc, hz]
  rfl

theorem out_spec0 (b l : List Int) (j : Nat) (z : Int) (h : l[j]? = some z) (hz : spec z = true) : (b ++ enc l)[b.length + (enc (l.take j)).length]? = some 92 := by
  have := out_at b l j z h 0 (by rw [esc_length]; split <;> omega)
  rw [Nat.add_zero] at this
  rw [this, esc, hz]
  rfl

theorem out_spec1 (b l : List Int) (j : Nat) (z : Int) (h : l[j]? = some z) (hz : spec z = true) : (b ++ enc l)[b.length + (enc (l.take j)).length + 1]? = some (code z) := by
  have := out_at b l j z h 1 (by rw [esc_length, hz]; decide)
  rw [this, esc, hz]
  rfl

theorem enc_len_succ (l : List Int) (j : Nat) (z : Int) (h : l[j]? = some z) : (enc (l.take (j + 1))).length = (enc (l.take j)).length + (if spec z then 2 else 1) := by
  rw [enc_take_succ l j z h, List.length_append, esc_length]

theorem enc_len_lt (l : List Int) (j : Nat) (z : Int) (h : l[j]? = some z) : (enc (l.take j)).length + (if spec z then 2 else 1) ≤ (enc l).length := by
  rw [enc_split l j z h, List.length_append, List.length_append, esc_length]
  omega

/-- zzUnescape. -/
def unesc (d : Int) : Int × Bool := if d = 92 then (92, true) else if d = 116 then (9, true) else if d = 110 then (10, true) else if d = 114 then (13, true) else (0, false)

theorem unesc_code (z : Int) (h : spec z = true) : unesc (code z) = (z, true) := by
  unfold spec at h
  simp only [Bool.or_eq_true, beq_iff_eq] at h
  rcases h with ((rfl | rfl) | rfl) | rfl <;> decide

theorem code_range (z : Int) : 0 ≤ code z ∧ code z ≤ 255 := by
  unfold code
  split
  · omega
  · split
    · omega
    · split <;> omega

end Go.Proofs.Qxb6601134a
