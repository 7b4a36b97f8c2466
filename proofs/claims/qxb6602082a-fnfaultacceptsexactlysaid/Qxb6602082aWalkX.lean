/-
  The walk of FnFaultAcceptsExactly.
-/
import Derived.Test.Qxb6602082aRows
import Derived.Test.Qxb6602082aWalkF
import Derived.Test.Qxb6602082aPlainT
namespace Go.Proofs.Qxb6602082a.fnFaultAcceptsExactly
open Go.RowKit

theorem ret_boolt {a : Bool} (h : a = true) : Ending.returned (.bool a) = .returned (.bool true) := by rw [h]

/-- The law's 'accept'. -/
def accB (eq rN cN gen wr hd fe : Bool) : Bool := eq && ((rN == cN) && (!(gen && wr) && !(hd && fe)))

theorem accepts (got ct : ByteArray) (eq rN cN gen wr hd fe : Bool) (hg : got = jl (faults (!eq) ct rN cN gen wr hd fe) sAnd) : (got.toList.isEmpty == accB eq rN cN gen wr hd fe) = true := by
  rw [hg, fault_want, want_empty]
  cases eq <;> cases rN <;> cases cN <;> cases gen <;> cases wr <;> cases hd <;> cases fe <;> rfl

set_option maxRecDepth 100000 in
set_option maxHeartbeats 2000000 in
theorem walk (a0 : ByteArray) (a1 : ByteArray) (a2 : Bool) (a3 : ByteArray) (a4 : Bool) (a5 : ByteArray) (a6 : ByteArray) (a7 : Bool) (a8 : Int) (a9 : Bool) (a10 : Bool) (a11 : Bool) (w0 : a0.size ≤ maxLen) (w1 : a1.size ≤ maxLen) (w3 : a3.size ≤ maxLen) (w5 : a5.size ≤ maxLen) (w6 : a6.size ≤ maxLen) (w : World) :
    Calls Try.prog 7 #[.string a0, .string a1, .bool a2, .string a3, .bool a4, .string a5, .string a6, .bool a7, .int .u32 a8, .bool a9, .bool a10, .bool a11] w fun e w' => e = .returned (.bool true) ∧ Below w.heap.size w w' := by
  go_enter Try.func7, Try.ntmps7
  go_wp2_with fail
  refine (bytes19_any a0 a1 a2 a3 a4 a5 a6 a7 a8 a9 a10 a11 w w0 w1 w3 w5 w6).mono ?_
  rintro e w' ⟨b, rfl, hb, rfl⟩
  cases b
  · go_wp2
    go_ret
    exact ⟨rfl, Below.refl _ _⟩
  · have hs := hb rfl
    clear hb w0 w1 w3 w5 w6
    by_cases c0 : 262144 < a0.size
    · as_aux_lemma =>
        go_wp2
        go_ret
        exact ⟨rfl, Below.refl _ _⟩
    by_cases c1 : 262144 < a1.size
    · as_aux_lemma =>
        go_wp2
        go_ret
        exact ⟨rfl, Below.refl _ _⟩
    by_cases c3 : 262144 < a3.size
    · as_aux_lemma =>
        go_wp2
        go_ret
        exact ⟨rfl, Below.refl _ _⟩
    by_cases c5 : 262144 < a5.size
    · as_aux_lemma =>
        go_wp2
        go_ret
        exact ⟨rfl, Below.refl _ _⟩
    by_cases c6 : 262144 < a6.size
    · as_aux_lemma =>
        go_wp2
        go_ret
        exact ⟨rfl, Below.refl _ _⟩
    go_wp2_with fail
    refine (zzfault_any a0 a1 a2 a3 a4 a5 a6 a7 a8 a9 a10 a11 _ (by omega)).mono ?_
    rintro e w1 ⟨rfl, hb⟩
    obtain ⟨got, hgot⟩ : ∃ g, g = jl (faults (!(a6.toList == a1.toList)) a5 a2 a7 a10 a4 a9 a3.toList.isEmpty) sAnd := ⟨_, rfl⟩
    rw [← hgot]
    have HG : Hid _ := hgot
    clear hgot
    go_upto_region 8 with fail
    go_cut [26] (fun s w2 => s = .bool (accB (a6.toList == a1.toList) a2 a7 a10 a4 a9 a3.toList.isEmpty) ∧ w1 = w2)
    case first =>
      obtain ⟨eq, heq⟩ : ∃ b, (a6.toList == a1.toList) = b := ⟨_, rfl⟩
      obtain ⟨fe, hfe⟩ : ∃ b, a3.toList.isEmpty = b := ⟨_, rfl⟩
      cases eq
      · as_aux_lemma =>
          go_wp2
          go_meet
          case rel => exact ⟨by simp [accB, heq], rfl⟩
      · by_cases hn : a2 = a7
        · subst hn
          cases a10 <;> cases a4 <;> cases a9 <;> cases fe
          all_goals as_aux_lemma =>
            go_wp2
            go_meet
            case rel => exact ⟨by simp [accB, heq, hfe], rfl⟩
        · have hn' : (a2 == a7) = false := by simpa using hn
          as_aux_lemma =>
            go_wp2
            go_meet
            case rel => exact ⟨by simp [accB, hn'], rfl⟩
    case rest =>
      obtain ⟨rfl, rfl⟩ := hcut
      obtain ⟨acc, hacc⟩ : ∃ b, accB (a6.toList == a1.toList) a2 a7 a10 a4 a9 a3.toList.isEmpty = b := ⟨_, rfl⟩
      have HL : Hid _ := accepts got a5 (a6.toList == a1.toList) a2 a7 a10 a4 a9 a3.toList.isEmpty HG.out
      rw [hacc] at HL
      rw [hacc]
      clear hacc HG
      as_aux_lemma =>
        go_wp2
        go_ret
        exact ⟨ret_boolt HL.out, hb⟩
end Go.Proofs.Qxb6602082a.fnFaultAcceptsExactly
