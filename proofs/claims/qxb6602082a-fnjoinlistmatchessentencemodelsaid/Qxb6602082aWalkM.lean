/-
  The walk of FnJoinListMatchesSentenceModel.
-/
import Derived.Test.Qxb6602082aRows
import Derived.Test.Qxb6602082aWalkC
import Derived.Test.Qxb6602082aWalkS
import Derived.BigQuiet
import Derived.Deep.QuietTactic
namespace Go.Proofs.Qxb6602082a.fnJoinListMatchesSentenceModel
open Go.RowKit Go.Sort

set_option maxHeartbeats 1000000 in
theorem walk (a0 : Option Addr) (n c : Nat) (xs : List ByteArray) (conj : ByteArray) (w : World) (hS : StrsAt w (.slice a0 n c) xs) (hz : a0 = none → c = 0) (hn : xs.length = n) (hn1 : n ≤ maxLen) (hxs : ∀ s ∈ xs, s.size ≤ maxLen) (w1 : conj.size ≤ maxLen) :
    Calls Try.prog 3 #[.slice a0 n c, .string conj] w fun e w' => e = .returned (.bool true) ∧ Below w.heap.size w w' := by
  have hB : Calls Try.prog 8 #[.slice a0 n c, .string conj] w fun e w' => AnsB (n + Lib.lens (xs.map (·.data.toList)) + conj.size ≤ 1048576) w e w' := by
    rcases hS with ⟨rfl, a, c', hv⟩ | ⟨bk, o, c', hv, hbk, hcap, hcell⟩
    · cases hv
      refine (bytes8_zero _ _ _ _ w1).mono ?_
      rintro e w' ⟨b, rfl, hb, rfl⟩
      exact ⟨b, rfl, by simpa [Lib.lens] using hb, rfl⟩
    · cases hv
      exact bytes8_some bk o _ _ xs conj w rfl hn1 hxs w1 hcell
  have hJ : n + Lib.lens (xs.map (·.data.toList)) + conj.size ≤ 1048576 → Calls Try.prog 9 #[.slice a0 n c] w fun e w' => AnsI w e w' := by
    intro hb
    rcases hS with ⟨rfl, a, c', hv⟩ | ⟨bk, o, c', hv, hbk, hcap, hcell⟩
    · cases hv
      exact size_zero _ _ _
    · cases hv
      exact size_some bk o _ _ xs w rfl (by omega) (by omega) hcell
  have hC : n + Lib.lens (xs.map (·.data.toList)) + conj.size ≤ 1048576 → Calls Try.prog 10 #[.slice a0 n c] w fun e w' => AnsC xs w e w' := by
    intro hb
    rcases hS with ⟨rfl, a, c', hv⟩ | ⟨bk, o, c', hv, hbk, hcap, hcell⟩
    · cases hv
      cases a0 with
      | none => rw [hz rfl]; exact clone_nil w
      | some ad => exact clone_zero ad c w
    · cases hv
      exact clone_some bk o _ _ xs w rfl (by omega) hbk hcell
  have HS : Hid _ := hS
  have HN : Hid (xs.length = n) := hn
  have HB : Hid _ := hB
  have HJ : Hid _ := hJ
  have HC : Hid _ := hC
  unfold maxLen at hn1 w1
  clear hS hB hJ hC hn hz hxs
  go_enter Try.func3, Try.ntmps3
  go_wp2_with fail
  refine Calls.mono HB.out ?_
  rintro e w' ⟨b, rfl, hb, rfl⟩
  cases b
  · go_wp2
    go_ret
    exact ⟨rfl, Below.refl _ _⟩
  have hle := hb rfl
  clear hb
  by_cases c1 : 65536 < n
  · go_wp2
    go_ret
    exact ⟨rfl, Below.refl _ _⟩
  go_wp2_with fail
  refine Calls.mono (HJ.out hle) ?_
  rintro e w2 ⟨t, rfl, ht0, ht1, rfl⟩
  by_cases c2 : 1048576 < t + conj.size
  · go_wp2
    go_ret
    exact ⟨rfl, Below.refl _ _⟩
  go_wp2_with fail
  refine Calls.mono (HC.out hle) ?_
  rintro e w3 ⟨v, rfl, hSv, hb3⟩
  go_wp2_with fail
  refine (zzjoinList_any v xs conj _ hSv (by rw [HN.out]; omega) (by omega) (by omega)).mono ?_
  rintro e w4 ⟨rfl, hb4⟩
  have hbel : Below w2.heap.size w2 w4 := hb3.trans (hb4.mono hb3.size)
  have hSv4 := hSv.below hb4
  clear hSv hb3 hb4
  go_wp2_with fail
  refine (sentence_any v xs conj _ hSv4 (by rw [HN.out]; omega) (by omega) (by omega)).mono ?_
  rintro e w5 ⟨rfl, hb5⟩
  have hb6 : Below w2.heap.size w2 w5 := hbel.trans (hb5.mono hbel.size)
  go_wp2
  go_ret
  exact ⟨rfl, hb6⟩

end Go.Proofs.Qxb6602082a.fnJoinListMatchesSentenceModel
