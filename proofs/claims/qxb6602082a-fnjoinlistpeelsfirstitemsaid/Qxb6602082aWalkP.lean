/-
  The walk of FnJoinListPeelsFirstItem.
-/
import Derived.Test.Qxb6602082aRows
import Derived.Test.Qxb6602082aWalkC
import Derived.BigQuiet
import Derived.Deep.QuietTactic
namespace Go.Proofs.Qxb6602082a.fnJoinListPeelsFirstItem
open Go.RowKit Go.Sort

theorem ret_boolt {a : Bool} (h : a = true) : Ending.returned (.bool a) = .returned (.bool true) := by rw [h]
theorem beq_of {a b : ByteArray} (h : a = b) : (a.toList == b.toList) = true := by rw [h]; simp

theorem nil_yes (conj : ByteArray) : (jl [] conj).toList.isEmpty = true := by
  rw [Go.ByteArray.toList_eq]
  rfl

set_option maxHeartbeats 1000000 in
theorem walk (a0 : Option Addr) (n c : Nat) (xs : List ByteArray) (conj : ByteArray) (w : World) (hS : StrsAt w (.slice a0 n c) xs) (hz : a0 = none → c = 0) (hn : xs.length = n) (hn1 : n ≤ maxLen) (hxs : ∀ s ∈ xs, s.size ≤ maxLen) (w1 : conj.size ≤ maxLen) :
    Calls Try.prog 4 #[.slice a0 n c, .string conj] w fun e w' => e = .returned (.bool true) ∧ Below w.heap.size w w' := by
  have hB : Calls Try.prog 13 #[.slice a0 n c, .string conj] w fun e w' => AnsB (n + Lib.lens (xs.map (·.data.toList)) + conj.size ≤ 1048576) w e w' := by
    rcases hS with ⟨rfl, a, c', hv⟩ | ⟨bk, o, c', hv, hbk, hcap, hcell⟩
    · cases hv
      refine (bytes13_zero _ _ _ _ w1).mono ?_
      rintro e w' ⟨b, rfl, hb, rfl⟩
      exact ⟨b, rfl, by simpa [Lib.lens] using hb, rfl⟩
    · cases hv
      exact bytes13_some bk o _ _ xs conj w rfl hn1 hxs w1 hcell
  have hJ : n + Lib.lens (xs.map (·.data.toList)) + conj.size ≤ 1048576 → Calls Try.prog 9 #[.slice a0 n c] w fun e w' => AnsI w e w' := by
    intro hb
    rcases hS with ⟨rfl, a, c', hv⟩ | ⟨bk, o, c', hv, hbk, hcap, hcell⟩
    · cases hv
      exact size_zero _ _ _
    · cases hv
      exact size_some bk o _ _ xs w rfl (by omega) (by omega) hcell
  have hC : n + Lib.lens (xs.map (·.data.toList)) + conj.size ≤ 1048576 → Calls Try.prog 10 #[.slice a0 n c] w fun e w' => AnsC xs w e w' := by
    intro hb
    rcases hS with ⟨rfl, a, c', hv⟩ | ⟨bk, o, c', hv, hbk, hcap, hcell⟩
    · cases hv
      cases a0 with
      | none => rw [hz rfl]; exact clone_nil w
      | some ad => exact clone_zero ad c w
    · cases hv
      exact clone_some bk o _ _ xs w rfl (by omega) hbk hcell
  have HS : Hid _ := hS
  have HN : Hid (xs.length = n) := hn
  have HB : Hid _ := hB
  have HJ : Hid _ := hJ
  have HC : Hid _ := hC
  unfold maxLen at hn1 w1
  clear hS hB hJ hC hn hz hxs
  go_enter Try.func4, Try.ntmps4
  go_wp2_with fail
  refine Calls.mono HB.out ?_
  rintro e w' ⟨b, rfl, hb, rfl⟩
  cases b
  · go_wp2
    go_ret
    exact ⟨rfl, Below.refl _ _⟩
  have hle := hb rfl
  clear hb
  by_cases c1 : 65536 < n
  · go_wp2
    go_ret
    exact ⟨rfl, Below.refl _ _⟩
  go_wp2_with fail
  refine Calls.mono (HJ.out hle) ?_
  rintro e w2 ⟨t, rfl, ht0, ht1, rfl⟩
  by_cases c2 : 1048576 < t + conj.size
  · go_wp2
    go_ret
    exact ⟨rfl, Below.refl _ _⟩
  go_wp2_with fail
  refine Calls.mono (HC.out hle) ?_
  rintro e w3 ⟨v, rfl, hSv, hb3⟩
  go_wp2_with fail
  refine (zzjoinList_any v xs conj _ hSv (by rw [HN.out]; omega) (by omega) (by omega)).mono ?_
  rintro e w4 ⟨rfl, hb4⟩
  have hbel : Below w2.heap.size w2 w4 := hb3.trans (hb4.mono hb3.size)
  have hSv4 := hSv.below hb4
  clear hSv hb3 hb4
  have hcases : (∃ a c', v = .slice a 0 c' ∧ xs = []) ∨ (∃ bk o c' x, v = .slice (some ⟨bk, o, none⟩) 1 c' ∧ xs = [x] ∧ w4.cell? ⟨bk, o, none⟩ = some (.string x)) ∨
      (∃ bk o c' x y, v = .slice (some ⟨bk, o, none⟩) 2 c' ∧ xs = [x, y] ∧ w4.cell? ⟨bk, o, none⟩ = some (.string x) ∧ w4.cell? ⟨bk, o + 1, none⟩ = some (.string y)) ∨
      (∃ bk o c' m x ys, v = .slice (some ⟨bk, o, none⟩) (m + 1) c' ∧ xs = x :: ys ∧ ys.length = m ∧ 2 ≤ m ∧ m + 1 ≤ c' ∧ bk < w4.heap.size ∧ w4.cell? ⟨bk, o, none⟩ = some (.string x) ∧
        ∀ (j : Nat) s, ys[j]? = some s → w4.cell? ⟨bk, o + 1 + j, none⟩ = some (.string s)) := by
    rcases hSv4 with ⟨h0, a, c', rfl⟩ | ⟨bk, o, c', rfl, hbk, hcap, hcell⟩
    · exact .inl ⟨a, c', rfl, h0⟩
    · match xs, hcell, hcap with
      | [], _, _ => exact .inl ⟨_, c', rfl, rfl⟩
      | [x], hcell, _ => exact .inr (.inl ⟨bk, o, c', x, rfl, rfl, hcell 0 x rfl⟩)
      | [x, y], hcell, _ => exact .inr (.inr (.inl ⟨bk, o, c', x, y, rfl, rfl, hcell 0 x rfl, hcell 1 y rfl⟩))
      | x :: y :: z :: r, hcell, hcap =>
        refine .inr (.inr (.inr ⟨bk, o, c', r.length + 2, x, y :: z :: r, rfl, rfl, rfl, by omega, by simpa using hcap, hbk, hcell 0 x rfl, fun j s hs => ?_⟩))
        have := hcell (j + 1) s (by simpa using hs)
        rwa [show o + (j + 1) = o + 1 + j by omega] at this
  have hgot := HN.out
  clear hSv4
  rcases hcases with ⟨a, c', rfl, rfl⟩ | ⟨bk, o, c', x, rfl, rfl, hx⟩ | ⟨bk, o, c', x, y, rfl, rfl, hx, hy⟩ | ⟨bk, o, c', m, x, ys, rfl, rfl, hm, hm2, hc, hbk, hx, hcell⟩
  · clear hgot
    go_wp2
    go_ret
    exact ⟨ret_boolt (nil_yes conj), hbel⟩
  · clear hgot
    have HL : Hid (jl [x] conj = x) := (jl_one x conj).symm
    go_wp2
    go_ret
    exact ⟨ret_boolt (beq_of HL.out), hbel⟩
  · clear hgot
    have HL : Hid _ := jl_two x y conj
    simp only [List.map_cons, List.map_nil, Lib.lens, List.sum_cons, List.sum_nil, Array.length_toList] at hle
    have hxs : x.data.size = x.size := rfl
    have hys : y.data.size = y.size := rfl
    have n1 : ¬ 9223372036854775807 < x.size + 1 := by omega
    have n2 : ¬ 9223372036854775807 < x.size + 1 + conj.size := by omega
    have n3 : ¬ 9223372036854775807 < x.size + 1 + conj.size + 1 := by omega
    have n4 : ¬ 9223372036854775807 < x.size + 1 + conj.size + 1 + y.size := by omega
    clear hle hxs hys
    go_wp2
    go_quiet (fail)
    go_wp2
    go_ret
    exact ⟨ret_boolt (beq_of HL.out), below_drewN hbel _⟩
  · have HL : Hid (jl (x :: ys) conj = x ++ ⟨#[44, 32]⟩ ++ jl ys conj) := by
      match ys, hm with
      | [], hm => simp at hm; omega
      | [_], hm => simp at hm; omega
      | y :: z :: r, _ => exact jl_peel x y z r conj
    have hts := jl_size ys conj
    obtain ⟨tail, htail⟩ : ∃ t, t = jl ys conj := ⟨_, rfl⟩
    have hx1 : x.data.toList.length = x.size := by rw [Array.length_toList]; rfl
    simp only [List.map_cons] at hle
    have hle2 : Lib.lens (x.data.toList :: ys.map (·.data.toList)) = x.data.toList.length + Lib.lens (ys.map (·.data.toList)) := by simp [Lib.lens]
    rw [← htail] at hts HL
    rw [hle2, hx1] at hle
    rw [hm] at hts
    have hmn : m + 1 = n := by rw [← hgot]; simp [hm]
    have k1 := cell_regrown hx
    have cJ : ∀ d os, Calls Try.prog 11 #[.slice (some ⟨bk, o + 1, none⟩) m (c' - 1), .string conj] (grow (redrawn w4 d) os) fun e w'' => e = .returned (.string tail) ∧ ∃ p : Regrown, w'' = grow (redrawn w4 p.d) p.os := by
      intro d os
      apply Calls.regrown_of
      rw [htail]
      refine zzjoinList_any _ ys conj _ (.inr ⟨bk, o + 1, c' - 1, by rw [hm], Nat.lt_of_lt_of_le hbk (below_regrown w4 d os).size, by omega, fun j s hs => cell_regrown (hcell j s hs) d os⟩) (by omega) (by omega) (by omega)
    have hbr := fun d os => hbel.trans ((below_regrown w4 d os).mono hbel.size)
    have e0 : (((m : Int) + 1) == 0) = false := by simp; omega
    have e1 : (((m : Int) + 1) == 1) = false := by simp; omega
    have e2 : (((m : Int) + 1) == 2) = false := by simp; omega
    have hc1 : ¬ c' = 1 := by omega
    have hc2 : (1 : Int) ≤ (m : Int) + 1 := by omega
    have n1 : ¬ 9223372036854775807 < x.size + 2 := by omega
    have n2 : ¬ 9223372036854775807 < x.size + 2 + tail.size := by omega
    obtain ⟨got, hg⟩ : ∃ g, g = jl (x :: ys) conj := ⟨_, rfl⟩
    rw [← hg] at HL
    rw [← hg]
    clear hle hgot hts htail hx1 hle2 hm hmn hcell hx hg hbel
    go_wp2
    refine wp_region_quiet_below (by kernel_rfl) (by kernel_rfl) ?_
    repeat (quiet_step (exact cJ _ _))
    refine wpQuiet_nil ?_
    intro _ hw'
    obtain ⟨⟨dq, osq⟩, hw''⟩ := hw'
    subst hw''
    go_wp2
    go_ret
    exact ⟨ret_boolt (beq_of HL.out), hbr dq osq⟩

end Go.Proofs.Qxb6602082a.fnJoinListPeelsFirstItem
