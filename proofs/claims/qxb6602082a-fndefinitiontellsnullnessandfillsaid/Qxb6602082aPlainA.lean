/-
  The plain mathematics of 'definition' and 'zzNotNullLead': no Go in sight.
-/
import Derived.Laws.Strings
import Derived.Lib.Strings
namespace Go.Proofs.Qxb6602082a

/-- The words NOT NULL. -/
def NN : List UInt8 := [78, 79, 84, 32, 78, 85, 76, 76]

/-- A fill that begins with the words NOT NULL. -/
def leadL (l : List UInt8) : Bool := decide (l.take 8 = NN) && (decide (l.length = 8) || decide (l[8]? = some 32))

/-- A column's definition, as bytes. -/
def dfnL (t : List UInt8) (nn : Bool) (f : List UInt8) : List UInt8 := t ++ ((if nn then 32 :: NN else []) ++ (if f = [] then [] else 32 :: f))

theorem size_len (f : ByteArray) : f.data.toList.length = f.size := by rw [Array.length_toList]; rfl

theorem get_byte (f : ByteArray) (k : Nat) (h : k < f.size) : f.data.toList[k]? = some f[k] := by
  rw [List.getElem?_eq_getElem (by rw [size_len]; exact h)]
  rfl

theorem take_snoc (f : ByteArray) (k : Nat) (h : k < f.size) : f.data.toList.take (k + 1) = f.data.toList.take k ++ [f[k]] := by
  rw [List.take_succ_eq_append_getElem (by rw [size_len]; exact h)]
  rfl

theorem lead_short (f : ByteArray) (h : f.size < 8) : leadL f.data.toList = false := by
  have hl := size_len f
  have : f.data.toList.take 8 ≠ NN := by
    intro e
    have := congrArg List.length e
    simp [NN] at this
    omega
  simp [leadL, this]

theorem u8_eq {a b : UInt8} (h : (a.toNat : Int) = (b.toNat : Int)) : a = b := UInt8.toNat.inj (by omega)

theorem lead_differ (f : ByteArray) (k : Nat) (h : k < f.size) (h8 : k < 8) (hk : k < (⟨#[78, 79, 84, 32, 78, 85, 76, 76]⟩ : ByteArray).size)
    (hne : ((f[k].toNat : Int) != ((⟨#[78, 79, 84, 32, 78, 85, 76, 76]⟩ : ByteArray)[k].toNat : Int)) = true) : leadL f.data.toList = false := by
  have : f.data.toList.take 8 ≠ NN := by
    intro e
    have e1 : (f.data.toList.take 8)[k]? = NN[k]? := by rw [e]
    rw [List.getElem?_take_of_lt h8, get_byte f k h] at e1
    have e2 : NN[k]? = some ((⟨#[78, 79, 84, 32, 78, 85, 76, 76]⟩ : ByteArray)[k]) := get_byte ⟨#[78, 79, 84, 32, 78, 85, 76, 76]⟩ k hk
    rw [e2] at e1
    simp only [Option.some.injEq] at e1
    rw [e1] at hne
    simp at hne
  simp [leadL, this]

theorem lead_step (f : ByteArray) (k : Nat) (h : k < f.size) (hk : k < (⟨#[78, 79, 84, 32, 78, 85, 76, 76]⟩ : ByteArray).size) (ht : f.data.toList.take k = NN.take k)
    (hne : ((f[k].toNat : Int) != ((⟨#[78, 79, 84, 32, 78, 85, 76, 76]⟩ : ByteArray)[k].toNat : Int)) = false) : f.data.toList.take (k + 1) = NN.take (k + 1) := by
  have e2 : NN.take (k + 1) = NN.take k ++ [(⟨#[78, 79, 84, 32, 78, 85, 76, 76]⟩ : ByteArray)[k]] := take_snoc ⟨#[78, 79, 84, 32, 78, 85, 76, 76]⟩ k hk
  rw [take_snoc f k h, e2, ht]
  have : f[k] = (⟨#[78, 79, 84, 32, 78, 85, 76, 76]⟩ : ByteArray)[k] := u8_eq (by simpa using hne)
  rw [this]

theorem lead_yes (f : ByteArray) (h : (f.size : Int) = 8) (ht : f.data.toList.take 8 = NN.take 8) : leadL f.data.toList = true := by
  have hl := size_len f
  have e : f.data.toList.take 8 = NN := ht
  have : f.data.toList.length = 8 := by omega
  simp [leadL, e, this]

theorem lead_more (f : ByteArray) (h : 8 < f.size) (ht : f.data.toList.take 8 = NN.take 8) : leadL f.data.toList = ((f.size : Int) == 8 || (f[8].toNat : Int) == 32) := by
  have hl := size_len f
  have e : f.data.toList.take 8 = NN := ht
  have n8 : ¬ f.data.toList.length = 8 := by omega
  have n8' : ¬ (f.size : Int) = 8 := by omega
  have e1 : ((f.size : Int) == 8) = false := by simpa using n8'
  have e2 : decide (f.data.toList.length = 8) = false := by simpa using n8
  simp only [leadL, e, e1, e2, get_byte f 8 h, Bool.false_or, decide_true, Bool.true_and]
  rw [Bool.eq_iff_iff]
  simp only [decide_eq_true_eq, beq_iff_eq, Option.some.injEq]
  constructor
  · intro e; rw [e]; rfl
  · intro e; exact u8_eq (by rw [e]; rfl)

theorem lead_of_nn (r : List UInt8) : leadL (NN ++ 32 :: r) = true := by simp [leadL, NN]
theorem lead_nn : leadL NN = true := by decide

/-- THE PLAIN LAW: two columns of one type have one definition just where they agree in nullness and fill, unless a fill begins with the words NOT NULL. -/
theorem dfn_tells (t : List UInt8) (n1 n2 : Bool) (f1 f2 : List UInt8) (h1 : leadL f1 = false) (h2 : leadL f2 = false) :
    dfnL t n1 f1 = dfnL t n2 f2 ↔ n1 = n2 ∧ f1 = f2 := by
  constructor
  · intro e
    have e' := List.append_cancel_left e
    have tail : ∀ a b : List UInt8, (if a = [] then [] else 32 :: a) = (if b = [] then ([] : List UInt8) else 32 :: b) → a = b := by
      intro a b h
      by_cases ha : a = [] <;> by_cases hb : b = []
      · rw [ha, hb]
      · simp [ha, hb] at h
      · simp [ha, hb] at h
      · simpa [ha, hb] using h
    have cross : ∀ a b : List UInt8, leadL b = false → (32 :: NN) ++ (if a = [] then [] else 32 :: a) ≠ (if b = [] then ([] : List UInt8) else 32 :: b) := by
      intro a b hb h
      by_cases h0 : b = []
      · simp [h0] at h
      · rw [if_neg h0] at h
        simp only [List.cons_append, List.cons.injEq, true_and] at h
        by_cases ha : a = []
        · simp only [ha, if_true, List.append_nil] at h
          rw [← h, lead_nn] at hb
          cases hb
        · rw [if_neg ha] at h
          rw [← h, lead_of_nn] at hb
          cases hb
    cases n1 <;> cases n2
    · exact ⟨rfl, tail _ _ (by simpa using e')⟩
    · exact absurd e'.symm (by simpa using cross f2 f1 h1)
    · exact absurd e' (by simpa using cross f1 f2 h2)
    · exact ⟨rfl, tail _ _ (by simpa using List.append_cancel_left e')⟩
  · rintro ⟨rfl, rfl⟩; rfl

end Go.Proofs.Qxb6602082a
