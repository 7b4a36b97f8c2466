/-
  Walks: (relayColumn).definition, ZZDefinition, zzNotNullLead, zzBytes_FnDefinitionTellsNullnessAndFill: each by its contract.
-/
import Derived.Test.Qxb6602082aRows
import Derived.Test.Qxb6602082aPlainA
import Derived.WalkKit
import Derived.WalkSpells
import Derived.WalkLawsBesides
import Derived.BigQuiet
import Derived.Deep.QuietTactic
namespace Go.Proofs.Qxb6602082a
open Go.RowKit

/-- A column's definition, as Go's string. -/
def dfn (t : ByteArray) (nn : Bool) (f : ByteArray) : ByteArray := ⟨(dfnL t.data.toList nn f.data.toList).toArray⟩
/-- A fill that begins with the words NOT NULL. -/
def leadB (f : ByteArray) : Bool := leadL f.data.toList

theorem empty_iff (f : ByteArray) : f.toList.isEmpty = true ↔ f.data.toList = [] := by rw [ByteArray.toList_eq, List.isEmpty_iff]

theorem dfn_f0 (t f : ByteArray) (h : f.toList.isEmpty = true) : t = dfn t false f := by
  apply ByteArray.ext
  simp [dfn, dfnL, (empty_iff f).1 h]
theorem dfn_t0 (t f : ByteArray) (h : f.toList.isEmpty = true) : t ++ ⟨#[32, 78, 79, 84, 32, 78, 85, 76, 76]⟩ = dfn t true f := by
  apply ByteArray.ext
  apply Array.toList_inj.1
  simp [dfn, dfnL, (empty_iff f).1 h, NN]
theorem dfn_f1 (t f : ByteArray) (h : ¬ f.toList.isEmpty = true) : t ++ (⟨#[32]⟩ ++ f) = dfn t false f := by
  have := fun e => h ((empty_iff f).2 e)
  apply ByteArray.ext
  apply Array.toList_inj.1
  simp at this
  simp [dfn, dfnL, this]
theorem dfn_t1 (t f : ByteArray) (h : ¬ f.toList.isEmpty = true) : (t ++ ⟨#[32, 78, 79, 84, 32, 78, 85, 76, 76]⟩) ++ (⟨#[32]⟩ ++ f) = dfn t true f := by
  have := fun e => h ((empty_iff f).2 e)
  apply ByteArray.ext
  apply Array.toList_inj.1
  simp at this
  simp [dfn, dfnL, this, NN]

theorem ret_str {a b : ByteArray} (h : a = b) : Ending.returned (.string a) = .returned (.string b) := by rw [h]
theorem ret_bool {a b : Bool} (h : a = b) : Ending.returned (.bool a) = .returned (.bool b) := by rw [h]

set_option maxHeartbeats 400000 in
theorem definition_any (a t : ByteArray) (nn : Bool) (f : ByteArray) (wr : Bool) (w : World) (ht : t.size ≤ 1048576) (hf : f.size ≤ 1048576) :
    Calls Try.prog 21 #[.agg #[.string a, .string t, .bool nn, .string f, .bool wr]] w fun e w' => e = .returned (.string (dfn t nn f)) ∧ Below w.heap.size w w' := by
  cases nn <;> by_cases hE : f.toList.isEmpty = true
  · have H : Hid (t = dfn t false f) := dfn_f0 t f hE
    go_enter Try.func21, Try.ntmps21
    go_wp2
    go_ret
    exact ⟨ret_str H.out, (Below.refl _ _).alloc (Nat.le_refl _) _⟩
  · have H : Hid _ := dfn_f1 t f hE
    go_enter Try.func21, Try.ntmps21
    go_wp2
    go_ret
    exact ⟨ret_str H.out, (Below.refl _ _).alloc (Nat.le_refl _) _⟩
  · have H : Hid _ := dfn_t0 t f hE
    go_enter Try.func21, Try.ntmps21
    go_wp2
    go_ret
    exact ⟨ret_str H.out, (Below.refl _ _).alloc (Nat.le_refl _) _⟩
  · have H : Hid _ := dfn_t1 t f hE
    go_enter Try.func21, Try.ntmps21
    go_wp2
    go_ret
    exact ⟨ret_str H.out, (Below.refl _ _).alloc (Nat.le_refl _) _⟩

set_option maxHeartbeats 400000 in
theorem zzdefinition_any (a t : ByteArray) (nn : Bool) (f : ByteArray) (wr : Bool) (w : World) (ht : t.size ≤ 1048576) (hf : f.size ≤ 1048576) :
    Calls Try.prog 16 #[.string a, .string t, .bool nn, .string f, .bool wr] w fun e w' => e = .returned (.string (dfn t nn f)) ∧ Below w.heap.size w w' := by
  go_enter Try.func16, Try.ntmps16
  go_wp2_with fail
  refine (definition_any a t nn f wr _ ht hf).mono ?_
  rintro e w' ⟨rfl, hb⟩
  go_wp2
  go_ret
  exact ⟨rfl, hb⟩

set_option maxHeartbeats 400000 in
theorem bytes14_any (t a1 : ByteArray) (n1 : Bool) (f1 : ByteArray) (r1 : Bool) (a2 : ByteArray) (n2 : Bool) (f2 : ByteArray) (r2 : Bool) (w : World) (ht : t.size ≤ maxLen) (ha1 : a1.size ≤ maxLen) (hf1 : f1.size ≤ maxLen) (ha2 : a2.size ≤ maxLen) (hf2 : f2.size ≤ maxLen) :
    Calls Try.prog 14 #[.string t, .string a1, .bool n1, .string f1, .bool r1, .string a2, .bool n2, .string f2, .bool r2] w fun e w' => ∃ b : Bool, e = .returned (.bool b) ∧ (b = true → t.size + a1.size + f1.size + a2.size + f2.size ≤ 1048576) ∧ w' = w := by
  unfold maxLen at *
  go_enter Try.func14, Try.ntmps14
  go_wp2
  all_goals go_ret
  all_goals exact ⟨_, rfl, by first | (intro h; cases h; done) | (intro; omega), rfl⟩

set_option maxHeartbeats 400000 in
theorem lead_any (f : ByteArray) (w : World) (hf : f.size ≤ 1048576) :
    Calls Try.prog 15 #[.string f] w fun e w' => e = .returned (.bool (leadB f)) ∧ ∃ n, w' = w.drewN n := by
  by_cases h8 : f.size < 8
  · have H : Hid (false = leadB f) := (lead_short f h8).symm
    go_enter Try.func15, Try.ntmps15
    go_wp2
    go_ret
    exact ⟨ret_bool H.out, 0, rfl⟩
  · go_enter Try.func15, Try.ntmps15
    go_wp2
    go_loopw [3] (fun i wr => ∃ k : Nat, k ≤ 8 ∧ i = .int .i64 k ∧ Hid (f.data.toList.take k = NN.take k) ∧ ∃ n, wr = w.drewN n) (fun i _ => 8 - (intOf i).toNat)
    case atStart => exact ⟨0, Nat.zero_le _, rfl, rfl, 0, rfl⟩
    case round =>
      obtain ⟨k, hk, rfl, htk, n, rfl⟩ := hrel
      by_cases hlt : k < 8
      · have hk1 : (k : Int) < 8 := by omega
        have hk2 : (k : Int) < f.size := by omega
        go_wp2
        go_quiet (fail)
        go_wp2
        · go_ret
          exact ⟨ret_bool (lead_differ f k (by omega) hlt hlt ‹_›).symm, n + nq, World.drewN_drewN _ _ _⟩
        · go_roundw
          case rel => exact ⟨k + 1, by omega, by go_num, lead_step f k (by omega) hlt htk.out ‹_›, _, rfl⟩
          case measure => simp [intOf]; omega
      · obtain rfl : k = 8 := by omega
        clear hlt hk
        go_wp2
        · go_ret
          exact ⟨ret_bool (lead_yes f ‹_› htk.out).symm, _, rfl⟩
        · go_ret
          exact ⟨ret_bool (lead_more f (by omega) htk.out).symm, _, rfl⟩
end Go.Proofs.Qxb6602082a
