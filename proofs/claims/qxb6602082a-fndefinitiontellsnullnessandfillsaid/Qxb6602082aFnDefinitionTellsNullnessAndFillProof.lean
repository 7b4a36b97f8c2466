/-
  THE PROOF OF 'Rows.FnDefinitionTellsNullnessAndFillSaid'.
  The frame after the guide's template; the walk by this seat.
-/
import Derived.Test.Qxb6602082aRows
import Derived.WalkKit
import Derived.ProofKit
import Derived.OpenShut
import Derived.ShutString
import Derived.ChangeOld
import Derived.Below
import Derived.WalkSmall
import Derived.Test.Qxb6602082aWalkA
namespace Go.Proofs.Qxb6602082a.fnDefinitionTellsNullnessAndFill
open Go.ChangeShapes Go.WideShapes Go.ChangeAt Go.RowKit
open Go.ChangeMaps (open_string shut_string)
set_option linter.unusedVariables false      -- a walk need not use every 'w<i>' (that an integer argument fits its kind)

theorem own : ownKnob Try.prog.godebug = none := by kernel_rfl

theorem laidOut : laidOutB Try.prog = true := by kernel_rfl

/-- What the law's last line reckons, as the walk writes it: the two agree in nullness. -/
theorem last_same (a0 a3 a7 : ByteArray) (a2 a6 : Bool) (e : a2 = a6) (h1 : leadB a3 = false) (h2 : leadB a7 = false) :
    true = (((dfn a0 a6 a3).toList == (dfn a0 a6 a7).toList) == (a3.toList == a7.toList)) := by
  subst e
  have law := dfn_tells a0.data.toList a2 a2 a3.data.toList a7.data.toList h1 h2
  symm
  rw [beq_iff_eq, Bool.eq_iff_iff]
  simp only [Go.ByteArray.toList_eq, beq_iff_eq]
  show (dfnL a0.data.toList a2 a3.data.toList).toArray.toList = (dfnL a0.data.toList a2 a7.data.toList).toArray.toList ↔ _
  rw [List.toList_toArray, List.toList_toArray, law]
  simp

/-- The two part in nullness. -/
theorem last_other (a0 a3 a7 : ByteArray) (a2 a6 : Bool) (e : ¬ a2 = a6) (h1 : leadB a3 = false) (h2 : leadB a7 = false) :
    true = !((dfn a0 a2 a3).toList == (dfn a0 a6 a7).toList) := by
  have law := dfn_tells a0.data.toList a2 a6 a3.data.toList a7.data.toList h1 h2
  have : ((dfn a0 a2 a3).toList == (dfn a0 a6 a7).toList) = false := by
    rw [beq_eq_false_iff_ne]
    intro h
    simp only [Go.ByteArray.toList_eq] at h
    have h' : dfnL a0.data.toList a2 a3.data.toList = dfnL a0.data.toList a6 a7.data.toList := by
      have : (dfnL a0.data.toList a2 a3.data.toList).toArray.toList = (dfnL a0.data.toList a6 a7.data.toList).toArray.toList := h
      simpa only [List.toList_toArray] using this
    exact e (law.1 h').1
  rw [this]
  rfl

/-! ### STEP 1: THE WALK -/
set_option maxHeartbeats 1000000 in
theorem walk (a0 : ByteArray) (a1 : ByteArray) (a2 : Bool) (a3 : ByteArray) (a4 : Bool) (a5 : ByteArray) (a6 : Bool) (a7 : ByteArray) (a8 : Bool) (w0 : a0.size ≤ maxLen) (w1 : a1.size ≤ maxLen) (w3 : a3.size ≤ maxLen) (w5 : a5.size ≤ maxLen) (w7 : a7.size ≤ maxLen) (w : World) :
    Calls Try.prog 5 #[.string a0, .string a1, .bool a2, .string a3, .bool a4, .string a5, .bool a6, .string a7, .bool a8] w fun e w' => e = .returned (.bool true) ∧ Below w.heap.size w w' := by
  go_enter Try.func5, Try.ntmps5
  go_wp2_with fail
  refine (bytes14_any a0 a1 a2 a3 a4 a5 a6 a7 a8 w w0 w1 w3 w5 w7).mono ?_
  rintro e w' ⟨b, rfl, hb, rfl⟩
  cases b
  · go_wp2
    go_ret
    exact ⟨rfl, Below.refl _ _⟩
  · have hs := hb rfl
    clear hb w0 w1 w3 w5 w7
    by_cases c0 : 262144 < a0.size
    · go_wp2
      go_ret
      exact ⟨rfl, Below.refl _ _⟩
    by_cases c1 : 262144 < a1.size
    · go_wp2
      go_ret
      exact ⟨rfl, Below.refl _ _⟩
    by_cases c3 : 262144 < a3.size
    · go_wp2
      go_ret
      exact ⟨rfl, Below.refl _ _⟩
    by_cases c5 : 262144 < a5.size
    · go_wp2
      go_ret
      exact ⟨rfl, Below.refl _ _⟩
    by_cases c7 : 262144 < a7.size
    · go_wp2
      go_ret
      exact ⟨rfl, Below.refl _ _⟩
    go_wp2_with fail
    refine (lead_any a3 _ (by omega)).mono ?_
    rintro e w1 ⟨rfl, n1, rfl⟩
    cases h1 : leadB a3
    · have H1 : Hid (leadB a3 = false) := h1
      clear h1
      go_wp2_with fail
      refine (lead_any a7 _ (by omega)).mono ?_
      rintro e w1 ⟨rfl, n2, rfl⟩
      cases h2 : leadB a7
      · have H2 : Hid (leadB a7 = false) := h2
        clear h2
        go_wp2_with fail
        refine (zzdefinition_any a1 a0 a2 a3 a4 _ (by omega) (by omega)).mono ?_
        rintro e w1 ⟨rfl, hb1⟩
        go_wp2_with fail
        refine (zzdefinition_any a5 a0 a6 a7 a8 _ (by omega) (by omega)).mono ?_
        rintro e w2 ⟨rfl, hb2⟩
        have hbb : Below w'.heap.size w' w2 := (below_drewN (Below.refl _ _) _).trans (hb1.trans (hb2.mono hb1.size))
        go_wp2
        · go_ret
          exact ⟨(ret_bool (last_same a0 a3 a7 a2 a6 ‹_› H1.out H2.out)).symm, hbb⟩
        · go_ret
          exact ⟨(ret_bool (last_other a0 a3 a7 a2 a6 ‹_› H1.out H2.out)).symm, hbb⟩
      · go_wp2
        go_ret
        exact ⟨rfl, below_drewN (Below.refl _ _) _⟩
    · go_wp2
      go_ret
      exact ⟨rfl, below_drewN (Below.refl _ _) _⟩

/-! ### THE ROW's STEP: WRITTEN OUT: LEAVE IT -/
set_option maxRecDepth 100000 in
theorem lifted (os : Os) (started : os.Started) (H : Type) (enc : TypeId × Value → H) :
    ReturnsInHanded {} Try.checked os 5 .any (Rows.fnDefinitionTellsNullnessAndFillSpec.pre6 enc Try.prog Try.f5 Rows.fnDefinitionTellsNullnessAndFillRow.domain false) (Rows.fnDefinitionTellsNullnessAndFillSpec.post enc Try.prog Try.f5 false true false false) := by
  refine returnsInHanded_of_change (C := Try.checked) own started (by kernel_rfl) Try.func5
    (ChangeSpec.witness6 (enc := enc) (C := Try.checked) false ⟨#[], #[.string ByteArray.empty, .string ByteArray.empty, .bool false, .string ByteArray.empty, .bool false, .string ByteArray.empty, .bool false, .string ByteArray.empty, .bool false], []⟩ 8 (by kernel_rfl) (by kernel_rfl) (by kernel_rfl) (by kernel_rfl)) ?_
  intro W base args ds gs before hval0 hW hcnd _
  have hval : ∀ (j : Nat) t v, Try.f5.params[j]? = some t → args[j]? = some v → Value.okWide Try.prog W .any base t v := hval0
  have hW' := hW
  obtain ⟨p, q, hA0, hV, rfl, hfz, hnd⟩ := hW
  have hA : DataW.TrodAll enc Try.prog W 0 (fun _ => true) true Try.f5.params.toList args.toList ds p := hA0
  rw [Try.params5] at hA hval
  obtain ⟨v0, vs0, d0, ds0, p0, q0, hargs, rfl, rfl, h0, r0⟩ := trodAll_cons hA
  obtain ⟨v1, vs1, d1, ds1, p1, q1, rfl, rfl, rfl, h1, r1⟩ := trodAll_cons r0
  obtain ⟨v2, vs2, d2, ds2, p2, q2, rfl, rfl, rfl, h2, r2⟩ := trodAll_cons r1
  obtain ⟨v3, vs3, d3, ds3, p3, q3, rfl, rfl, rfl, h3, r3⟩ := trodAll_cons r2
  obtain ⟨v4, vs4, d4, ds4, p4, q4, rfl, rfl, rfl, h4, r4⟩ := trodAll_cons r3
  obtain ⟨v5, vs5, d5, ds5, p5, q5, rfl, rfl, rfl, h5, r5⟩ := trodAll_cons r4
  obtain ⟨v6, vs6, d6, ds6, p6, q6, rfl, rfl, rfl, h6, r6⟩ := trodAll_cons r5
  obtain ⟨v7, vs7, d7, ds7, p7, q7, rfl, rfl, rfl, h7, r7⟩ := trodAll_cons r6
  obtain ⟨v8, vs8, d8, ds8, p8, q8, rfl, rfl, rfl, h8, r8⟩ := trodAll_cons r7
  obtain ⟨rfl, rfl, rfl⟩ := trodAll_nil r8
  obtain rfl : args = #[v0, v1, v2, v3, v4, v5, v6, v7, v8] := by cases args; simp_all
  obtain ⟨rfl, rfl⟩ := trodVars_none hV
  obtain ⟨a0, rfl, rfl, rfl, w0⟩ := open_string Try.underlying9 (hval 0 9 v0 rfl rfl) h0
  obtain ⟨a1, rfl, rfl, rfl, w1⟩ := open_string Try.underlying9 (hval 1 9 v1 rfl rfl) h1
  obtain ⟨a2, rfl, rfl, rfl⟩ := open_bool Try.underlying4 (hval 2 4 v2 rfl rfl) h2
  obtain ⟨a3, rfl, rfl, rfl, w3⟩ := open_string Try.underlying9 (hval 3 9 v3 rfl rfl) h3
  obtain ⟨a4, rfl, rfl, rfl⟩ := open_bool Try.underlying4 (hval 4 4 v4 rfl rfl) h4
  obtain ⟨a5, rfl, rfl, rfl, w5⟩ := open_string Try.underlying9 (hval 5 9 v5 rfl rfl) h5
  obtain ⟨a6, rfl, rfl, rfl⟩ := open_bool Try.underlying4 (hval 6 4 v6 rfl rfl) h6
  obtain ⟨a7, rfl, rfl, rfl, w7⟩ := open_string Try.underlying9 (hval 7 9 v7 rfl rfl) h7
  obtain ⟨a8, rfl, rfl, rfl⟩ := open_bool Try.underlying4 (hval 8 4 v8 rfl rfl) h8
  clear hA0 hval0
  simp only [List.append_nil] at hW'
  refine (walk a0 a1 a2 a3 a4 a5 a6 a7 a8 w0 w1 w3 w5 w7 W).mono fun e W' ⟨he, hg⟩ => ?_
  subst he
  exact ⟨_, rfl, _, _, _, [], _, [], hW', trodAll_mk1 (shut_bool Try.underlying4 _), (trodAll_cons_mk (shut_string Try.underlying9 w0) (trodAll_cons_mk (shut_string Try.underlying9 w1) (trodAll_cons_mk (shut_bool Try.underlying4 _) (trodAll_cons_mk (shut_string Try.underlying9 w3) (trodAll_cons_mk (shut_bool Try.underlying4 _) (trodAll_cons_mk (shut_string Try.underlying9 w5) (trodAll_cons_mk (shut_bool Try.underlying4 _) (trodAll_cons_mk (shut_string Try.underlying9 w7) (trodAll_cons_mk (shut_bool Try.underlying4 _) trodAll_mk0))))))))), rfl, hg.frame _, fun h => by cases h⟩

theorem over : Rows.fnDefinitionTellsNullnessAndFillRow.holds Try.pinned (OpenSpec.ofChange Rows.fnDefinitionTellsNullnessAndFillSpec) :=
  OpenClaim.holds_of_wide 5 Try.f5 rfl rfl rfl rfl rfl rfl rfl ⟨rfl, rfl, rfl, rfl, rfl⟩ rfl rfl rfl rfl rfl (by kernel_rfl) Try.func5 (by kernel_rfl)
    (of_decide_eq_true (by kernel_rfl)) (by unfold Func.isWrapper; first | (rw [if_pos (by decide +kernel)]; kernel_rfl) | (rw [if_neg (by decide +kernel)]; exact ⟨rfl, rfl⟩))
    (fun os started H enc _ => lifted os started H enc)

/-- ████ THE STATEMENT ████ -/
theorem proved : Rows.FnDefinitionTellsNullnessAndFillSaid :=
  over
end Go.Proofs.Qxb6602082a.fnDefinitionTellsNullnessAndFill
