/-
  Walks: the two bounds of the laws on joinList, zzJoinSize, zzCloneItems: each by its contract.
-/
import Derived.Test.Qxb6602082aRows
import Derived.Test.Qxb6602082aPlainP
import Derived.Test.Qxb6602082aWalkJ
import Derived.WalkKit
import Derived.WalkSpells
import Derived.WalkLawsBesides
import Derived.Deep.OwnRows
namespace Go.Proofs.Qxb6602082a
open Go.RowKit

theorem info9s : (Try.prog.info? 9).map (fun i => (i.zero, i.size, i.bytes)) = some (some (.string ⟨#[]⟩), 1, 16) := by kernel_rfl

/-- What a bound answers: a bool, and true only where p holds; the world as it was. -/
def AnsB (p : Prop) (w : World) (e : Ending) (w' : World) : Prop := ∃ b : Bool, e = .returned (.bool b) ∧ (b = true → p) ∧ w' = w

theorem ans_no (p : Prop) (w : World) : AnsB p w (.returned (.bool false)) w := ⟨false, rfl, (fun h => by cases h), rfl⟩
theorem ans_yes {p : Prop} (h : p) (w : World) : AnsB p w (.returned (.bool true)) w := ⟨true, rfl, fun _ => h, rfl⟩

theorem list_at (xs : List ByteArray) (k : Nat) (h : k < xs.length) : ∃ x, xs[k]? = some x := ⟨xs[k], List.getElem?_eq_getElem h⟩

set_option maxHeartbeats 400000 in
theorem bytes8_zero (a : Option Addr) (c : Nat) (conj : ByteArray) (w : World) (hc : conj.size ≤ maxLen) :
    Calls Try.prog 8 #[.slice a 0 c, .string conj] w fun e w' => AnsB (conj.size ≤ 1048576) w e w' := by
  unfold maxLen at hc
  go_enter Try.func8, Try.ntmps8
  go_wp2
  refine wp_loop_rounds 1 ?_
  rw [rounds_succ]
  go_wp2
  all_goals go_ret
  all_goals first | exact ans_no _ _ | exact ans_yes (by omega) _

set_option maxHeartbeats 400000 in
theorem bytes8_some (bk o n c : Nat) (xs : List ByteArray) (conj : ByteArray) (w : World) (hn : xs.length = n) (hn1 : n ≤ maxLen) (hxs : ∀ s ∈ xs, s.size ≤ maxLen) (hc : conj.size ≤ maxLen)
    (hcell : ∀ (j : Nat) x, xs[j]? = some x → w.cell? ⟨bk, o + j, none⟩ = some (.string x)) :
    Calls Try.prog 8 #[.slice (some ⟨bk, o, none⟩) n c, .string conj] w fun e w' => AnsB (n + Lib.lens (xs.map (·.data.toList)) + conj.size ≤ 1048576) w e w' := by
  unfold maxLen at *
  have HN : Hid (xs.length = n) := hn
  have HX : Hid (∀ s ∈ xs, s.size ≤ 9223372036854775807) := hxs
  have HC : Hid (∀ (j : Nat) x, xs[j]? = some x → w.cell? ⟨bk, o + j, none⟩ = some (.string x)) := hcell
  clear hn hxs hcell
  by_cases hbig : 1048576 < n
  · go_enter Try.func8, Try.ntmps8
    go_wp2
    go_ret
    exact ans_no _ _
  · go_enter Try.func8, Try.ntmps8
    go_wp2
    go_loop [5, 6] (fun z i => ∃ k : Nat, k ≤ n ∧ i = .int .i64 k ∧ z = .int .i64 ((n + slen xs k : Nat) : Int) ∧ n + slen xs k ≤ 1048576) (fun _ i => n - (intOf i).toNat)
    case atStart => exact ⟨0, Nat.zero_le _, rfl, by rw [slen_zero]; rfl, by rw [slen_zero]; omega⟩
    case round =>
      obtain ⟨k, hk, rfl, rfl, hle⟩ := hrel
      by_cases hlt : k < n
      · obtain ⟨x, hx⟩ := list_at xs k (by rw [HN.out]; exact hlt)
        have hs := slen_succ xs k x hx
        have hxs := HX.out x (List.mem_of_getElem? hx)
        have hc1 := HC.out k x hx
        have HS : Hid (slen xs (k + 1) = slen xs k + x.size) := hs
        clear hx hs
        go_wp2
        · go_ret
          exact ans_no _ _
        · go_ret
          exact ans_no _ _
        · have hS := HS.out
          go_round
          case rel => exact ⟨k + 1, by omega, by go_num, by rw [hS]; go_num, by omega⟩
          case measure => simp [intOf]; omega
      · obtain rfl : k = n := by omega
        have hall : slen xs k = Lib.lens (xs.map (·.data.toList)) := by rw [← slen_all, HN.out]
        have HA : Hid _ := hall
        clear hall
        go_wp2
        all_goals go_ret
        all_goals first | exact ans_no _ _ | exact ans_yes (by have := HA.out; omega) _
set_option maxHeartbeats 400000 in
theorem bytes13_zero (a : Option Addr) (c : Nat) (conj : ByteArray) (w : World) (hc : conj.size ≤ maxLen) :
    Calls Try.prog 13 #[.slice a 0 c, .string conj] w fun e w' => AnsB (conj.size ≤ 1048576) w e w' := by
  unfold maxLen at hc
  go_enter Try.func13, Try.ntmps13
  go_wp2
  refine wp_loop_rounds 1 ?_
  rw [rounds_succ]
  go_wp2
  all_goals go_ret
  all_goals first | exact ans_no _ _ | exact ans_yes (by omega) _

set_option maxHeartbeats 400000 in
theorem bytes13_some (bk o n c : Nat) (xs : List ByteArray) (conj : ByteArray) (w : World) (hn : xs.length = n) (hn1 : n ≤ maxLen) (hxs : ∀ s ∈ xs, s.size ≤ maxLen) (hc : conj.size ≤ maxLen)
    (hcell : ∀ (j : Nat) x, xs[j]? = some x → w.cell? ⟨bk, o + j, none⟩ = some (.string x)) :
    Calls Try.prog 13 #[.slice (some ⟨bk, o, none⟩) n c, .string conj] w fun e w' => AnsB (n + Lib.lens (xs.map (·.data.toList)) + conj.size ≤ 1048576) w e w' := by
  unfold maxLen at *
  have HN : Hid (xs.length = n) := hn
  have HX : Hid (∀ s ∈ xs, s.size ≤ 9223372036854775807) := hxs
  have HC : Hid (∀ (j : Nat) x, xs[j]? = some x → w.cell? ⟨bk, o + j, none⟩ = some (.string x)) := hcell
  clear hn hxs hcell
  by_cases hbig : 1048576 < n
  · go_enter Try.func13, Try.ntmps13
    go_wp2
    go_ret
    exact ans_no _ _
  · go_enter Try.func13, Try.ntmps13
    go_wp2
    go_loop [5, 6] (fun z i => ∃ k : Nat, k ≤ n ∧ i = .int .i64 k ∧ z = .int .i64 ((n + slen xs k : Nat) : Int) ∧ n + slen xs k ≤ 1048576) (fun _ i => n - (intOf i).toNat)
    case atStart => exact ⟨0, Nat.zero_le _, rfl, by rw [slen_zero]; rfl, by rw [slen_zero]; omega⟩
    case round =>
      obtain ⟨k, hk, rfl, rfl, hle⟩ := hrel
      by_cases hlt : k < n
      · obtain ⟨x, hx⟩ := list_at xs k (by rw [HN.out]; exact hlt)
        have hs := slen_succ xs k x hx
        have hxs := HX.out x (List.mem_of_getElem? hx)
        have hc1 := HC.out k x hx
        have HS : Hid (slen xs (k + 1) = slen xs k + x.size) := hs
        clear hx hs
        go_wp2
        · go_ret
          exact ans_no _ _
        · go_ret
          exact ans_no _ _
        · have hS := HS.out
          go_round
          case rel => exact ⟨k + 1, by omega, by go_num, by rw [hS]; go_num, by omega⟩
          case measure => simp [intOf]; omega
      · obtain rfl : k = n := by omega
        have hall : slen xs k = Lib.lens (xs.map (·.data.toList)) := by rw [← slen_all, HN.out]
        have HA : Hid _ := hall
        clear hall
        go_wp2
        all_goals go_ret
        all_goals first | exact ans_no _ _ | exact ans_yes (by have := HA.out; omega) _

/-- Some int that is no less than nought and not great; the world as it was. -/
def AnsI (w : World) (e : Ending) (w' : World) : Prop := ∃ t : Int, e = .returned (.int .i64 t) ∧ 0 ≤ t ∧ t ≤ 100000000 ∧ w' = w
theorem ansI {t : Int} (h0 : 0 ≤ t) (h1 : t ≤ 100000000) (w : World) : AnsI w (.returned (.int .i64 t)) w := ⟨t, rfl, h0, h1, rfl⟩

set_option maxHeartbeats 400000 in
theorem size_zero (a : Option Addr) (c : Nat) (w : World) : Calls Try.prog 9 #[.slice a 0 c] w fun e w' => AnsI w e w' := by
  go_enter Try.func9, Try.ntmps9
  go_wp2
  refine wp_loop_rounds 1 ?_
  rw [rounds_succ]
  go_wp2
  go_ret
  exact ansI (by omega) (by omega) _

set_option maxHeartbeats 400000 in
theorem size_some (bk o n c : Nat) (xs : List ByteArray) (w : World) (hn : xs.length = n) (hn1 : n ≤ 1048576) (hxs : Lib.lens (xs.map (·.data.toList)) ≤ 1048576)
    (hcell : ∀ (j : Nat) x, xs[j]? = some x → w.cell? ⟨bk, o + j, none⟩ = some (.string x)) :
    Calls Try.prog 9 #[.slice (some ⟨bk, o, none⟩) n c] w fun e w' => AnsI w e w' := by
  have HN : Hid (xs.length = n) := hn
  have HC : Hid (∀ (j : Nat) x, xs[j]? = some x → w.cell? ⟨bk, o + j, none⟩ = some (.string x)) := hcell
  clear hn hcell
  go_enter Try.func9, Try.ntmps9
  go_wp2
  go_loop [3, 4] (fun z i => ∃ k : Nat, k ≤ n ∧ i = .int .i64 k ∧ z = .int .i64 ((16 * k + slen xs k : Nat) : Int)) (fun _ i => n - (intOf i).toNat)
  case atStart => exact ⟨0, Nat.zero_le _, rfl, by rw [slen_zero]; rfl⟩
  case round =>
    obtain ⟨k, hk, rfl, rfl⟩ := hrel
    have hle := slen_le xs k
    by_cases hlt : k < n
    · obtain ⟨x, hx⟩ := list_at xs k (by rw [HN.out]; exact hlt)
      have hs := slen_succ xs k x hx
      have hle1 := slen_le xs (k + 1)
      have hc1 := HC.out k x hx
      have hxl : x.size ≤ 1048576 := by omega
      have HS : Hid (slen xs (k + 1) = slen xs k + x.size) := hs
      clear hx hs hle1
      go_wp2
      · go_ret
        exact ansI (by omega) (by omega) _
      · have hS := HS.out
        go_round
        case rel => exact ⟨k + 1, by omega, by go_num, by rw [hS]; go_num⟩
        case measure => simp [intOf]; omega
    · obtain rfl : k = n := by omega
      go_wp2
      go_ret
      exact ansI (by omega) (by omega) _

/-- A copy of the strings, in memory of its own. -/
def AnsC (xs : List ByteArray) (w : World) (e : Ending) (w' : World) : Prop := ∃ v, e = .returned v ∧ StrsAt w' v xs ∧ Below w.heap.size w w'

set_option maxHeartbeats 400000 in
theorem clone_nil (w : World) : Calls Try.prog 10 #[.slice none 0 0] w fun e w' => AnsC [] w e w' := by
  have hnil := fun (w : World) (a : Option Addr) (l c : Nat) => Lib.run_eql_slice_nil (P := Try.prog) w 22 9 a l c 0 0 Try.underlying22
  go_enter Try.func10, Try.ntmps10
  go_wp2
  go_ret
  exact ⟨_, rfl, .inl ⟨rfl, none, 0, rfl⟩, Below.refl _ _⟩

set_option maxHeartbeats 400000 in
theorem clone_zero (ad : Addr) (c : Nat) (w : World) : Calls Try.prog 10 #[.slice (some ad) 0 c] w fun e w' => AnsC [] w e w' := by
  have hnil := fun (w : World) (a : Option Addr) (l c : Nat) => Lib.run_eql_slice_nil (P := Try.prog) w 22 9 a l c 0 0 Try.underlying22
  have hmk : ∀ w, (Instr.makeSlice 22 (.int .i64 0) (.int .i64 0)).run Try.prog w = .ok (.slice (some ⟨w.heap.size, 0, none⟩) 0 0) (w.alloc (.cells (madeCells #[.string ⟨#[]⟩] 0) 9)) :=
    fun w => run_make_row' (P := Try.prog) 22 9 (.string ⟨#[]⟩) 16 Try.underlying22 info9s rfl .i64 .i64 0 (by omega) (by omega) w
  go_enter Try.func10, Try.ntmps10
  go_wp2
  refine wp_loop_rounds 1 ?_
  rw [rounds_succ]
  go_wp2
  go_ret
  exact ⟨_, rfl, .inl ⟨rfl, _, _, rfl⟩, (Below.refl _ _).alloc (Nat.le_refl _) _⟩

/-- What the copy holds after k rounds. -/
def cpF (xs : List ByteArray) (k : Nat) (j : Nat) : Value := if j < k then .string (xs.getD j ⟨#[]⟩) else .string ⟨#[]⟩

theorem cp_step {w : World} {b n k : Nat} {xs : List ByteArray} {x : ByteArray} (hx : xs[k]? = some x) (h : w.rowIs b 9 n (cpF xs k)) : (w.setCell ⟨b, k, none⟩ (.string x)).rowIs b 9 n (cpF xs (k + 1)) := by
  refine (h.set k (.string x)).congr fun j _ => ?_
  unfold cpF
  by_cases hj : j = k
  · subst hj
    rw [if_pos rfl, if_pos (by omega), List.getD_eq_getElem?_getD, hx]
    rfl
  · rw [if_neg hj]
    by_cases h1 : j < k
    · rw [if_pos h1, if_pos (by omega)]
    · rw [if_neg h1, if_neg (by omega)]

set_option maxHeartbeats 400000 in
theorem clone_some (bk o n c : Nat) (xs : List ByteArray) (w : World) (hn : xs.length = n) (hn1 : n ≤ 1048576) (hbk : bk < w.heap.size)
    (hcell : ∀ (j : Nat) x, xs[j]? = some x → w.cell? ⟨bk, o + j, none⟩ = some (.string x)) :
    Calls Try.prog 10 #[.slice (some ⟨bk, o, none⟩) n c] w fun e w' => AnsC xs w e w' := by
  have hnil := fun (w : World) (a : Option Addr) (l c : Nat) => Lib.run_eql_slice_nil (P := Try.prog) w 22 9 a l c 0 0 Try.underlying22
  have hmk := run_make_row' (P := Try.prog) 22 9 (.string ⟨#[]⟩) 16 Try.underlying22 info9s rfl .i64 .i64 n (by omega) (by omega)
  have HN : Hid (xs.length = n) := hn
  have HC : Hid (∀ (j : Nat) x, xs[j]? = some x → w.cell? ⟨bk, o + j, none⟩ = some (.string x)) := hcell
  clear hn hcell
  have hrow := World.rowIs_made w (.string ⟨#[]⟩) n 9
  go_enter Try.func10, Try.ntmps10
  go_wp2
  go_loopw [4] (fun i wr => ∃ k : Nat, k ≤ n ∧ i = .int .i64 k ∧ wr.rowIs w.heap.size 9 n (cpF xs k) ∧ Below w.heap.size w wr) (fun i _ => n - (intOf i).toNat)
  case atStart => exact ⟨0, Nat.zero_le _, rfl, hrow.congr (fun j _ => by simp [cpF]), (Below.refl _ _).alloc (Nat.le_refl _) _⟩
  case round =>
    clear hrow
    obtain ⟨k, hk, rfl, hrow, hbel⟩ := hrel
    by_cases hlt : k < n
    · obtain ⟨x, hx⟩ := list_at xs k (by rw [HN.out]; exact hlt)
      have hc1 : wr.cell? ⟨bk, o + k, none⟩ = some (.string x) := (hbel.cell (p := ⟨bk, o + k, none⟩) hbk).trans (HC.out k x hx)
      have hc2 := hrow.cell (i := k) hlt
      have hf2 := hrow.frozen k
      have hstep := cp_step hx hrow
      have hbs := hbel.setCell (p := ⟨w.heap.size, k, none⟩) (Nat.le_refl _) (.string x)
      clear hx hrow hbel
      go_wp2
      go_roundw
      case rel => exact ⟨k + 1, by omega, by go_num, hstep, hbs⟩
      case measure => simp [intOf]; omega
    · obtain rfl : k = n := by omega
      have hres : StrsAt wr (.slice (some ⟨w.heap.size, 0, none⟩) k k) xs := by
        refine .inr ⟨w.heap.size, 0, k, by rw [HN.out], hrow.lt, by rw [HN.out]; exact Nat.le_refl _, fun j x hj => ?_⟩
        have hjl : j < k := by rw [← HN.out]; exact (List.getElem?_eq_some_iff.1 hj).1
        have := hrow.cell (i := j) hjl
        rw [cpF, if_pos hjl, List.getD_eq_getElem?_getD, hj] at this
        simpa using this
      go_wp2
      go_ret
      exact ⟨_, rfl, hres, hbel⟩

end Go.Proofs.Qxb6602082a
