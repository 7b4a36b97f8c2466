/-
  The walk of FnAppendCopyTextDecodesBack.
-/
import Derived.Test.Qxb6601134aRows
import Derived.Test.Qxb6601134aWalkE
import Derived.BigQuiet
import Derived.Deep.QuietTactic
namespace Go.Proofs.Qxb6601134a
open Go.RowKit

theorem hid {p : Prop} (h : p) : Hid p := h

theorem BysAt.get {w : World} {base : Nat} {a : Option Addr} {n c : Nat} {l : List Int} (h : BysAt w base a n c l) {j : Nat} {z : Int} (hj : l[j]? = some z) :
    ∃ g, a = some ⟨g, 0, none⟩ ∧ w.cell? ⟨g, j, none⟩ = some (.int .u8 z) := by
  rcases h with ⟨_, _, _, rfl⟩ | ⟨g, h1, _, _, _, _, h6⟩
  · cases hj
  · exact ⟨g, h1, h6 j z hj⟩

theorem BysAt.bysIn {w : World} {a : Option Addr} {n c : Nat} {l : List Int} (h : BysAt w w.heap.size a n c l) : BysIn w a l ∧ (a = none → c = 0) := by
  rcases h with ⟨rfl, _, rfl, rfl⟩ | ⟨g, rfl, h2, _, _, _, h6⟩
  · exact ⟨.inl rfl, fun _ => rfl⟩
  · exact ⟨.inr ⟨g, 0, rfl, h2, fun j z hj => by rw [Nat.zero_add]; exact h6 j z hj⟩, fun h => by cases h⟩

theorem BysIn.below {w w' : World} {a : Option Addr} {l : List Int} (h : BysIn w a l) (hb : Below w.heap.size w w') : BysIn w' a l := by
  rcases h with h | ⟨bk, o, h1, h2, h3⟩
  · exact .inl h
  · exact .inr ⟨bk, o, h1, Nat.lt_of_lt_of_le h2 hb.size, fun j z hj => (hb.cell (p := ⟨bk, o + j, none⟩) h2).trans (h3 j z hj)⟩

end Go.Proofs.Qxb6601134a
namespace Go.Proofs.Qxb6601134a.fnAppendCopyTextDecodesBack
open Go.RowKit

set_option maxRecDepth 100000 in
set_option maxHeartbeats 2000000 in
theorem walk (a0 : Option Addr) (c0 : Nat) (bl : List Int) (a1 : Option Addr) (c1 : Nat) (tl : List Int) (w : World) (h0 : BysIn w a0 bl) (z0 : a0 = none → c0 = 0) (m0 : bl.length ≤ maxLen) (h1 : BysIn w a1 tl) (z1 : a1 = none → c1 = 0) (m1 : tl.length ≤ maxLen) :
    Calls Try.prog 3 #[.slice a0 bl.length c0, .slice a1 tl.length c1] w fun e w' => e = .returned (.bool true) ∧ Below w.heap.size w w' := by
  go_enter Try.func3, Try.ntmps3
  go_wp2_with fail
  refine (bytes6_any a0 a1 bl.length c0 tl.length c1 w m0 m1).mono ?_
  rintro e w' ⟨b, rfl, hb, rfl⟩
  unfold maxLen at m0 m1
  cases b
  · go_wp2
    go_ret
    exact ⟨rfl, Below.refl _ _⟩
  have hle := hb rfl
  clear hb
  by_cases k0 : 524288 < bl.length
  · go_wp2
    go_ret
    exact ⟨rfl, Below.refl _ _⟩
  by_cases k1 : 524288 < tl.length
  · go_wp2
    go_ret
    exact ⟨rfl, Below.refl _ _⟩
  go_wp2_with fail
  refine (clone_any a0 bl.length c0 bl _ h0 z0 rfl (by omega)).mono ?_
  rintro e w1 ⟨ab, cb, rfl, ob, hb1⟩
  go_wp2_with fail
  refine (clone_any a1 tl.length c1 tl _ (h1.below hb1) z1 rfl (by omega)).mono ?_
  rintro e w2 ⟨at', ct, rfl, ot, hb2⟩
  have Bb2 : BysAt w2 w2.heap.size ab bl.length cb bl := (bys_of_owns ob (Nat.le_refl _)).below hb2 hb2.size
  go_wp2_with fail
  refine (clone_any ab bl.length cb bl _ Bb2.bysIn.1 Bb2.bysIn.2 rfl (by omega)).mono ?_
  rintro e w3 ⟨ab2, cb2, rfl, ob2, hb3⟩
  have Bt3 : BysAt w3 w2.heap.size at' tl.length ct tl := (bys_of_owns ot (Nat.le_refl _)).below hb3 (Nat.le_refl _)
  go_wp2_with fail
  refine (zzact_any w2.heap.size _ bl tl at' tl.length ct _ ob2 hb3.size Bt3 (by omega) (by omega)).mono ?_
  rintro e w4 ⟨ao, co, rfl, oo, hb4⟩
  have Bo := bys_of_owns oo (Nat.le_refl _)
  have Bt := Bt3.below hb4 (Nat.le_trans hb3.size hb4.size)
  have Bb := (Bb2.below hb3 (Nat.le_refl _)).below hb4 (Nat.le_trans hb3.size hb4.size)
  have hbel : Below w'.heap.size w' w4 := hb1.trans ((hb2.mono hb1.size).trans ((hb3.mono (Nat.le_trans hb1.size hb2.size)).trans (hb4.mono (Nat.le_trans hb1.size hb2.size))))
  have hel := enc_length_le tl
  obtain ⟨ol, hol⟩ : ∃ ol, ol = bl ++ enc tl := ⟨_, rfl⟩
  have hoL : ol.length = bl.length + (enc tl).length := by rw [hol, List.length_append]
  rw [← hol] at Bo ⊢
  have HOL : Hid (ol = bl ++ enc tl) := hol
  have HO := hid hoL
  have hl1 : bl.length ≤ ol.length := by omega
  have hl2 : ol.length ≤ 4194304 := by omega
  clear hol hoL oo ob2 ob ot Bt3 Bb2 hb1 hb2 hb3 hb4 h0 h1 z0 z1 hel
  have HB1 := hid Bb
  have HB2 := hid Bt
  have HB3 := hid Bo
  clear Bb Bt Bo
  have hdec : decide (ol.length < bl.length) = false := by simp; omega
  go_wp2
  go_loopw [6] (fun i wr => ∃ k : Nat, k ≤ bl.length ∧ i = .int .i64 k ∧ ∃ m, wr = w4.drewN m) (fun i _ => bl.length - (intOf i).toNat)
  case atStart => exact ⟨0, Nat.zero_le _, rfl, 0, rfl⟩
  case round =>
    obtain ⟨k, hk, rfl, m, rfl⟩ := hrel
    by_cases hlt : k < bl.length
    · obtain ⟨x, hx⟩ := list_at bl k hlt
      have hox : ol[k]? = some x := by rw [HOL.out, List.getElem?_append_left hlt]; exact hx
      obtain ⟨gb, rfl, hc1⟩ := BysAt.get HB1.out hx
      obtain ⟨go, rfl, hc2⟩ := BysAt.get HB3.out hox
      have hi1 : (k : Int) < bl.length := by omega
      have hi2 : (k : Int) < ol.length := by omega
      clear hx hox
      go_wp2
      go_quiet (fail)
      go_wp2
      go_roundw
      case rel => exact ⟨k + 1, by omega, by go_num, _, rfl⟩
      case measure => simp [intOf]; omega
    · obtain rfl : k = bl.length := by omega
      clear hlt hk
      have hbm := below_drewN hbel m
      go_wp2
      go_loopw [7, 8] (fun j i wr => ∃ q p : Nat, q ≤ tl.length ∧ j = .int .i64 q ∧ i = .int .i64 p ∧ Hid (p = bl.length + (enc (tl.take q)).length) ∧ p ≤ ol.length ∧ ∃ m', wr = w4.drewN m') (fun j _ _ => tl.length - (intOf j).toNat)
      case atStart => exact ⟨0, bl.length, Nat.zero_le _, rfl, rfl, by show _ = _; simp [enc], hl1, m, rfl⟩
      case round =>
        obtain ⟨q, p, hq, rfl, rfl, HP, hp, m', rfl⟩ := hrel
        by_cases hlt : q < tl.length
        · obtain ⟨z, hz⟩ := list_at tl q hlt
          obtain ⟨gt, rfl, hct⟩ := BysAt.get HB2.out hz
          have hlt' := enc_len_lt tl q z hz
          have hls := enc_len_succ tl q z hz
          have hpe := HP.out
          have hoe := HO.out
          cases hsp : spec z
          · have hox : ol[p]? = some z := by rw [HOL.out, HP.out]; exact out_plain bl tl q z hz hsp
            obtain ⟨go, rfl, hco⟩ := BysAt.get HB3.out hox
            simp only [hsp, Bool.false_eq_true, if_false] at hlt' hls
            have hpl : p < ol.length := by omega
            have HP' : Hid (p + 1 = bl.length + (enc (tl.take (q + 1))).length) := by show _ = _; omega
            unfold spec at hsp
            simp only [Bool.or_eq_false_iff] at hsp
            obtain ⟨⟨⟨e1, e2⟩, e3⟩, e4⟩ := hsp
            clear hz hox hlt' hls hpe hoe
            go_wp2
            go_roundw
            case rel => exact ⟨q + 1, p + 1, by omega, by go_num, by go_num, HP', by omega, _, rfl⟩
            case measure => simp [intOf]; omega
          · have hox : ol[p]? = some 92 := by rw [HOL.out, HP.out]; exact out_spec0 bl tl q z hz hsp
            have hox1 : ol[p + 1]? = some (code z) := by rw [HOL.out, HP.out]; exact out_spec1 bl tl q z hz hsp
            obtain ⟨go, rfl, hco⟩ := BysAt.get HB3.out hox
            obtain ⟨go', hgo, hco1⟩ := BysAt.get HB3.out hox1
            cases hgo
            simp only [hsp, if_true] at hlt' hls
            have hpl : p + 1 < ol.length := by omega
            have HP' : Hid (p + 2 = bl.length + (enc (tl.take (q + 1))).length) := by show _ = _; omega
            have HU := hid (unesc_code z hsp)
            clear hz hox hox1 hlt' hls hpe hoe hsp
            obtain ⟨d, hd⟩ : ∃ d, d = code z := ⟨_, rfl⟩
            rw [← hd] at hco1 HU
            clear hd
            go_wp2_with fail
            refine (unescape_any d _).mono ?_
            rintro e w5 ⟨rfl, rfl⟩
            rw [HU.out]
            go_wp2
            go_roundw
            case rel => exact ⟨q + 1, p + 2, by omega, by go_num, by go_num, HP', by omega, _, rfl⟩
            case measure => simp [intOf]; omega
        · obtain rfl : q = tl.length := by omega
          have hpe : ¬ p < ol.length := by
            have h1 := HP.out
            have h2 := HO.out
            rw [List.take_length] at h1
            omega
          have hbm' := below_drewN hbel m'
          go_wp2
          go_ret
          exact ⟨rfl, hbm'⟩

end Go.Proofs.Qxb6601134a.fnAppendCopyTextDecodesBack
