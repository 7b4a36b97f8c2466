/-
  The walk of FnFaultCaseTable.
-/
import Derived.Test.Qxb6602082aRows
import Derived.Test.Qxb6602082aWalkF
import Derived.Test.Qxb6602082aPlainT
namespace Go.Proofs.Qxb6602082a.fnFaultCaseTable
open Go.RowKit

theorem ret_boolt {a : Bool} (h : a = true) : Ending.returned (.bool a) = .returned (.bool true) := by rw [h]

theorem want_none {got ty nm g : ByteArray} (h : got = wantB false false false ty nm g) : got.toList.isEmpty = true := by
  rw [h, Go.ByteArray.toList_eq]
  rfl

set_option maxRecDepth 100000 in
set_option maxHeartbeats 2000000 in
theorem walk (a0 : ByteArray) (a1 : ByteArray) (a2 : Bool) (a3 : ByteArray) (a4 : Bool) (a5 : ByteArray) (a6 : ByteArray) (a7 : Bool) (a8 : Int) (a9 : Bool) (a10 : Bool) (a11 : Bool) (w0 : a0.size ≤ maxLen) (w1 : a1.size ≤ maxLen) (w3 : a3.size ≤ maxLen) (w5 : a5.size ≤ maxLen) (w6 : a6.size ≤ maxLen) (w : World) :
    Calls Try.prog 6 #[.string a0, .string a1, .bool a2, .string a3, .bool a4, .string a5, .string a6, .bool a7, .int .u32 a8, .bool a9, .bool a10, .bool a11] w fun e w' => e = .returned (.bool true) ∧ Below w.heap.size w w' := by
  go_enter Try.func6, Try.ntmps6
  go_wp2_with fail
  refine (bytes17_any a0 a1 a2 a3 a4 a5 a6 a7 a8 a9 a10 a11 w w0 w1 w3 w5 w6).mono ?_
  rintro e w' ⟨b, rfl, hb, rfl⟩
  cases b
  · go_wp2
    go_ret
    exact ⟨rfl, Below.refl _ _⟩
  · have hs := hb rfl
    clear hb w0 w1 w3 w5 w6
    by_cases c0 : 262144 < a0.size
    · as_aux_lemma =>
        go_wp2
        go_ret
        exact ⟨rfl, Below.refl _ _⟩
    by_cases c1 : 262144 < a1.size
    · as_aux_lemma =>
        go_wp2
        go_ret
        exact ⟨rfl, Below.refl _ _⟩
    by_cases c3 : 262144 < a3.size
    · as_aux_lemma =>
        go_wp2
        go_ret
        exact ⟨rfl, Below.refl _ _⟩
    by_cases c5 : 262144 < a5.size
    · as_aux_lemma =>
        go_wp2
        go_ret
        exact ⟨rfl, Below.refl _ _⟩
    by_cases c6 : 262144 < a6.size
    · as_aux_lemma =>
        go_wp2
        go_ret
        exact ⟨rfl, Below.refl _ _⟩
    go_wp2_with fail
    refine (zzfault_any a0 a1 a2 a3 a4 a5 a6 a7 a8 a9 a10 a11 _ (by omega)).mono ?_
    rintro e w1 ⟨rfl, hb⟩
    obtain ⟨got, hgot⟩ : ∃ g, g = jl (faults (!(a6.toList == a1.toList)) a5 a2 a7 a10 a4 a9 a3.toList.isEmpty) sAnd := ⟨_, rfl⟩
    rw [← hgot]
    have HG : Hid _ := hgot
    clear hgot
    go_upto_if 100 with fail
    go_cut [27] (fun s w2 => s = .string (sNm a2) ∧ w1 = w2)
    case first =>
      cases a2
      · as_aux_lemma =>
          go_wp2
          go_meet
          case rel => exact ⟨rfl, rfl⟩
      · as_aux_lemma =>
          go_wp2
          go_meet
          case rel => exact ⟨rfl, rfl⟩
    case rest =>
      obtain ⟨rfl, rfl⟩ := hcut
      go_upto_region 13 with fail
      go_cut [104] (fun s w2 => s = .bool (a10 && a4) ∧ w1 = w2)
      case first =>
        cases a10 <;> cases a4
        all_goals as_aux_lemma =>
          go_wp2
          go_meet
          case rel => exact ⟨rfl, rfl⟩
      case rest =>
        obtain ⟨rfl, rfl⟩ := hcut
        go_upto_if 104 with fail
        go_cut [28] (fun s w2 => s = .string (sG (a10 && a4)) ∧ w1 = w2)
        case first =>
          cases hgw : (a10 && a4)
          · as_aux_lemma =>
              go_wp2
              go_meet
              case rel => exact ⟨by rw [hgw]; rfl, rfl⟩
          · as_aux_lemma =>
              go_wp2
              go_meet
              case rel => exact ⟨by rw [hgw]; rfl, rfl⟩
        case rest =>
          obtain ⟨rfl, rfl⟩ := hcut
          obtain ⟨tf, htf⟩ : ∃ b, (!(a6.toList == a1.toList)) = b := ⟨_, rfl⟩
          have HT : Hid ((!(a6.toList == a1.toList)) = tf) := htf
          go_upto_region 17 with fail
          clear htf
          go_cut [29, 30, 31] (fun s29 s30 s31 w2 => s29 = .bool tf ∧ s30 = .bool (a2 != a7) ∧ s31 = .bool ((a10 && a4) || (a9 && a3.toList.isEmpty)) ∧ w1 = w2)
          case first =>
            obtain ⟨fe, hfe⟩ : ∃ b, a3.toList.isEmpty = b := ⟨_, rfl⟩
            cases a10 <;> cases a4 <;> cases a9 <;> cases fe
            all_goals as_aux_lemma =>
              go_wp2
              go_meet
              case rel => exact ⟨rfl, rfl, by simp [hfe], rfl⟩
          case rest =>
            obtain ⟨rfl, rfl, rfl, rfl⟩ := hcut
            obtain ⟨nf, hnf⟩ : ∃ b, b = (a2 != a7) := ⟨_, rfl⟩
            obtain ⟨gf, hgf⟩ : ∃ b, b = ((a10 && a4) || (a9 && a3.toList.isEmpty)) := ⟨_, rfl⟩
            rw [← hnf, ← hgf]
            have HL : Hid _ := fault_leaf got a5 _ a2 a7 a10 a4 a9 a3.toList.isEmpty tf nf gf HG.out HT.out hnf.symm hgf.symm
            clear hnf hgf HT HG
            obtain ⟨nm, hnm⟩ : ∃ b, b = sNm a2 := ⟨_, rfl⟩
            obtain ⟨gs, hgs⟩ : ∃ b, b = sG (a10 && a4) := ⟨_, rfl⟩
            rw [← hnm, ← hgs] at HL
            rw [← hnm, ← hgs]
            have hb1 : nm.size ≤ 16 := by rw [hnm]; cases a2 <;> decide
            have hb2 : gs.size ≤ 16 := by rw [hgs]; cases (a10 && a4) <;> decide
            clear hnm hgs
            cases tf <;> cases nf <;> cases gf
            all_goals as_aux_lemma =>
              go_wp2
              go_ret
              first
                | exact ⟨ret_boolt (beq_self_str HL.out), hb⟩
                | exact ⟨ret_boolt (want_none HL.out), hb⟩
end Go.Proofs.Qxb6602082a.fnFaultCaseTable
