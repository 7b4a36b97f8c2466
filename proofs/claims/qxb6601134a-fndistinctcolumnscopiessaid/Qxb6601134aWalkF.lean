/-
  Walks: the bound of FnDistinctColumnsCopies, zzCloneStrings, distinctColumns and ZZDistinctColumns: each by its contract.
-/
import Derived.Test.Qxb6601134aRows
import Derived.Test.Qxb6601134aShelf
import Derived.WalkKit
import Derived.WalkSpells
import Derived.WalkLawsBesides
import Derived.Deep.OwnRows
import Derived.Lib.Join
namespace Go.Proofs.Qxb6601134a
open Go.RowKit

theorem info9s : (Try.prog.info? 9).map (fun i => (i.zero, i.size, i.bytes)) = some (some (.string ⟨#[]⟩), 1, 16) := by kernel_rfl

/-- A slice of strings in memory: no element; or the elements lie, one behind the other, in a block that is there. -/
def StrsAt (w : World) (v : Value) (xs : List ByteArray) : Prop :=
  (xs = [] ∧ ∃ a c, v = .slice a 0 c) ∨
  ∃ bk o c, v = .slice (some ⟨bk, o, none⟩) xs.length c ∧ bk < w.heap.size ∧ xs.length ≤ c ∧ ∀ (j : Nat) x, xs[j]? = some x → w.cell? ⟨bk, o + j, none⟩ = some (.string x)

/-- The bytes of the first k strings. -/
def slen (xs : List ByteArray) (k : Nat) : Nat := Lib.lens ((xs.take k).map (·.data.toList))

theorem lens_append (a b : List (List UInt8)) : Lib.lens (a ++ b) = Lib.lens a + Lib.lens b := by simp [Lib.lens]
theorem lens_one (a : List UInt8) : Lib.lens [a] = a.length := by simp [Lib.lens]
theorem slen_zero (xs : List ByteArray) : slen xs 0 = 0 := by simp [slen, Lib.lens]

theorem slen_succ (xs : List ByteArray) (k : Nat) (x : ByteArray) (h : xs[k]? = some x) : slen xs (k + 1) = slen xs k + x.size := by
  unfold slen
  rw [List.take_add_one, h, Option.toList_some, List.map_append, lens_append]
  simp only [List.map_cons, List.map_nil, lens_one, Array.length_toList]
  rfl

theorem slen_all (xs : List ByteArray) : slen xs xs.length = Lib.lens (xs.map (·.data.toList)) := by simp [slen]

theorem slen_le (xs : List ByteArray) (k : Nat) : slen xs k ≤ Lib.lens (xs.map (·.data.toList)) := by
  unfold slen
  rw [List.map_take]
  exact Lib.lens_take_le _ _

/-- What a bound answers: a bool, and true only where p holds; the world as it was. -/
def AnsB (p : Prop) (w : World) (e : Ending) (w' : World) : Prop := ∃ b : Bool, e = .returned (.bool b) ∧ (b = true → p) ∧ w' = w

theorem ans_no (p : Prop) (w : World) : AnsB p w (.returned (.bool false)) w := ⟨false, rfl, (fun h => by cases h), rfl⟩
theorem ans_yes {p : Prop} (h : p) (w : World) : AnsB p w (.returned (.bool true)) w := ⟨true, rfl, fun _ => h, rfl⟩

theorem str_at (xs : List ByteArray) (k : Nat) (h : k < xs.length) : ∃ x, xs[k]? = some x := ⟨xs[k], List.getElem?_eq_getElem h⟩

set_option maxHeartbeats 400000 in
theorem bytes12_some (bk o n c : Nat) (xs : List ByteArray) (cal : ByteArray) (w : World) (hn : xs.length = n) (hn1 : n ≤ maxLen) (hxs : ∀ s ∈ xs, s.size ≤ maxLen) (hc : cal.size ≤ maxLen)
    (hcell : ∀ (j : Nat) x, xs[j]? = some x → w.cell? ⟨bk, o + j, none⟩ = some (.string x)) :
    Calls Try.prog 12 #[.string cal, .slice (some ⟨bk, o, none⟩) n c] w fun e w' => AnsB (cal.size + n + Lib.lens (xs.map (·.data.toList)) ≤ 1048576) w e w' := by
  unfold maxLen at *
  have HN : Hid (xs.length = n) := hn
  have HX : Hid (∀ s ∈ xs, s.size ≤ 9223372036854775807) := hxs
  have HC : Hid (∀ (j : Nat) x, xs[j]? = some x → w.cell? ⟨bk, o + j, none⟩ = some (.string x)) := hcell
  clear hn hxs hcell
  by_cases hbig0 : 1048576 < cal.size
  · go_enter Try.func12, Try.ntmps12
    go_wp2
    go_ret
    exact ans_no _ _
  by_cases hbig : 1048576 < n
  · go_enter Try.func12, Try.ntmps12
    go_wp2
    go_ret
    exact ans_no _ _
  by_cases hbig2 : 1048576 < cal.size + n
  · go_enter Try.func12, Try.ntmps12
    go_wp2
    go_ret
    exact ans_no _ _
  · go_enter Try.func12, Try.ntmps12
    go_wp2
    go_loop [5, 6] (fun z i => ∃ k : Nat, k ≤ n ∧ i = .int .i64 k ∧ z = .int .i64 ((cal.size + n + slen xs k : Nat) : Int) ∧ cal.size + n + slen xs k ≤ 1048576) (fun _ i => n - (intOf i).toNat)
    case atStart => exact ⟨0, Nat.zero_le _, rfl, by rw [slen_zero]; rfl, by rw [slen_zero]; omega⟩
    case round =>
      obtain ⟨k, hk, rfl, rfl, hle⟩ := hrel
      by_cases hlt : k < n
      · obtain ⟨x, hx⟩ := str_at xs k (by rw [HN.out]; exact hlt)
        have hs := slen_succ xs k x hx
        have hxs := HX.out x (List.mem_of_getElem? hx)
        have hc1 := HC.out k x hx
        have HS : Hid (slen xs (k + 1) = slen xs k + x.size) := hs
        clear hx hs
        go_wp2
        · go_ret
          exact ans_no _ _
        · go_ret
          exact ans_no _ _
        · have hS := HS.out
          go_round
          case rel => exact ⟨k + 1, by omega, by go_num, by rw [hS]; go_num, by omega⟩
          case measure => simp [intOf]; omega
      · obtain rfl : k = n := by omega
        have hall : slen xs k = Lib.lens (xs.map (·.data.toList)) := by rw [← slen_all, HN.out]
        have HA : Hid (slen xs k = Lib.lens (xs.map (·.data.toList))) := hall
        clear hall
        go_wp2
        all_goals go_ret
        all_goals first | exact ans_no _ _ | exact ans_yes (by have := HA.out; omega) _

set_option maxHeartbeats 400000 in
theorem bytes12_zero (a : Option Addr) (c : Nat) (cal : ByteArray) (w : World) (hc : cal.size ≤ maxLen) :
    Calls Try.prog 12 #[.string cal, .slice a 0 c] w fun e w' => AnsB True w e w' := by
  unfold maxLen at *
  by_cases hbig0 : 1048576 < cal.size
  · go_enter Try.func12, Try.ntmps12
    go_wp2
    go_ret
    exact ans_no _ _
  · go_enter Try.func12, Try.ntmps12
    go_wp2
    refine wp_loop_rounds 1 ?_
    rw [rounds_succ]
    go_wp2
    go_ret
    exact ans_yes trivial _

/-- What the copy holds after k rounds. -/
def cpS (xs : List ByteArray) (k : Nat) (j : Nat) : Value := if j < k then .string (xs.getD j ⟨#[]⟩) else .string ⟨#[]⟩

theorem cps_step {w : World} {b n k : Nat} {xs : List ByteArray} {x : ByteArray} (hx : xs[k]? = some x) (h : w.rowIs b 9 n (cpS xs k)) : (w.setCell ⟨b, k, none⟩ (.string x)).rowIs b 9 n (cpS xs (k + 1)) := by
  refine (h.set k (.string x)).congr fun j _ => ?_
  unfold cpS
  by_cases hj : j = k
  · subst hj
    rw [if_pos rfl, if_pos (by omega), List.getD_eq_getElem?_getD, hx]
    rfl
  · rw [if_neg hj]
    by_cases h1 : j < k
    · rw [if_pos h1, if_pos (by omega)]
    · rw [if_neg h1, if_neg (by omega)]

/-- A copy of the strings, in memory of its own: block g. -/
def AnsC (n : Nat) (xs : List ByteArray) (w : World) (e : Ending) (w' : World) : Prop :=
  ∃ g c, e = .returned (.slice (some ⟨g, 0, none⟩) n c) ∧ w.heap.size ≤ g ∧ g < w'.heap.size ∧ n ≤ c ∧ (∀ (j : Nat) x, xs[j]? = some x → w'.cell? ⟨g, j, none⟩ = some (.string x)) ∧ Below w.heap.size w w'

set_option maxHeartbeats 400000 in
theorem cloneS_some (bk o n c : Nat) (xs : List ByteArray) (w : World) (hn : xs.length = n) (hn1 : n ≤ 1048576) (hbk : bk < w.heap.size)
    (hcell : ∀ (j : Nat) x, xs[j]? = some x → w.cell? ⟨bk, o + j, none⟩ = some (.string x)) :
    Calls Try.prog 13 #[.slice (some ⟨bk, o, none⟩) n c] w fun e w' => AnsC n xs w e w' := by
  have hnil := fun (w : World) (a : Option Addr) (l c : Nat) => Lib.run_eql_slice_nil (P := Try.prog) w 29 9 a l c 0 0 Try.underlying29
  have hmk := run_make_row' (P := Try.prog) 29 9 (.string ⟨#[]⟩) 16 Try.underlying29 info9s rfl .i64 .i64 n (by omega) (by omega)
  have HN : Hid (xs.length = n) := hn
  have HC : Hid (∀ (j : Nat) x, xs[j]? = some x → w.cell? ⟨bk, o + j, none⟩ = some (.string x)) := hcell
  clear hn hcell
  have hrow := World.rowIs_made w (.string ⟨#[]⟩) n 9
  go_enter Try.func13, Try.ntmps13
  go_wp2
  go_loopw [4] (fun i wr => ∃ k : Nat, k ≤ n ∧ i = .int .i64 k ∧ wr.rowIs w.heap.size 9 n (cpS xs k) ∧ Below w.heap.size w wr) (fun i _ => n - (intOf i).toNat)
  case atStart => exact ⟨0, Nat.zero_le _, rfl, hrow.congr (fun j _ => by simp [cpS]), (Below.refl _ _).alloc (Nat.le_refl _) _⟩
  case round =>
    clear hrow
    obtain ⟨k, hk, rfl, hrow, hbel⟩ := hrel
    by_cases hlt : k < n
    · obtain ⟨x, hx⟩ := str_at xs k (by rw [HN.out]; exact hlt)
      have hc1 : wr.cell? ⟨bk, o + k, none⟩ = some (.string x) := (hbel.cell (p := ⟨bk, o + k, none⟩) hbk).trans (HC.out k x hx)
      have hc2 := hrow.cell (i := k) hlt
      have hf2 := hrow.frozen k
      have hstep := cps_step hx hrow
      have hbs := hbel.setCell (p := ⟨w.heap.size, k, none⟩) (Nat.le_refl _) (.string x)
      clear hx hrow hbel
      go_wp2
      go_roundw
      case rel => exact ⟨k + 1, by omega, by go_num, hstep, hbs⟩
      case measure => simp [intOf]; omega
    · obtain rfl : k = n := by omega
      have hres : AnsC k xs w (.returned (.slice (some ⟨w.heap.size, 0, none⟩) k k)) wr := by
        refine ⟨w.heap.size, k, rfl, Nat.le_refl _, hrow.lt, Nat.le_refl _, fun j x hj => ?_, hbel⟩
        have hjl : j < k := by rw [← HN.out]; exact (List.getElem?_eq_some_iff.1 hj).1
        have := hrow.cell (i := j) hjl
        rw [cpS, if_pos hjl, List.getD_eq_getElem?_getD, hj] at this
        simpa using this
      clear hrow hbel
      go_wp2
      go_ret
      exact hres

/-- No string stands twice among the first n. -/
def Dist (xs : List ByteArray) (n : Nat) : Prop := ∀ i j x y, i < j → j < n → xs[i]? = some x → xs[j]? = some y → x ≠ y

/-- The library's copy: a row of the call's own. -/
def AnsG (n : Nat) (xs : List ByteArray) (w : World) (e : Ending) (w' : World) : Prop :=
  ∃ g c, e = .returned (.slice (some ⟨g, 0, none⟩) n c) ∧ w'.ownsRow w.heap.size 9 1 (.slice (some ⟨g, 0, none⟩) n c) n (xs.map Value.string) ∧ Below w.heap.size w w'

theorem contains_no (xs : List ByteArray) (k : Nat) (x : ByteArray) (hx : xs[k]? = some x) (hd : Dist xs (k + 1)) : Lib.containsS (xs.take k) x = false := by
  cases h : Lib.containsS (xs.take k) x
  · rfl
  · have hm := (Lib.containsS_iff _ _).1 h
    obtain ⟨i, hi⟩ := List.getElem?_of_mem hm
    have hik : i < k := by
      have := (List.getElem?_eq_some_iff.1 hi).1
      rw [List.length_take] at this
      omega
    rw [List.getElem?_take_of_lt hik] at hi
    exact absurd rfl (hd i k x x hik (by omega) hi hx)

set_option maxHeartbeats 1000000 in
theorem distinct_some (cal : ByteArray) (bk o n c : Nat) (xs : List ByteArray) (w : World) (hn : xs.length = n) (hn0 : 1 ≤ n) (hn1 : n ≤ 1048576) (hc : n ≤ c) (hd : Dist xs n)
    (hcell : ∀ (j : Nat) x, xs[j]? = some x → w.cell? ⟨bk, o + j, none⟩ = some (.string x)) :
    Calls Try.prog 16 #[.string cal, .slice (some ⟨bk, o, none⟩) n c] w fun e w' => AnsG n xs w e w' := by
  have hcD : ∀ j, j < xs.length → w.cell? ⟨bk, o + j, none⟩ = some (.string (xs.getD j ByteArray.empty)) := by
    intro j hj
    have h1 := List.getElem?_eq_getElem hj
    rw [hcell j _ h1, List.getD_eq_getElem?_getD, h1]
    rfl
  have HN : Hid (xs.length = n) := hn
  have HD : Hid (Dist xs n) := hd
  have HC : Hid (∀ (j : Nat) x, xs[j]? = some x → w.cell? ⟨bk, o + j, none⟩ = some (.string x)) := hcell
  have HCD : Hid (∀ j, j < xs.length → w.cell? ⟨bk, o + j, none⟩ = some (.string (xs.getD j ByteArray.empty))) := hcD
  clear hn hd hcell hcD
  have e0 : ((n : Int) == 0) = false := by simp; omega
  go_enter Try.func16, Try.ntmps16
  go_wp2
  go_loop [16] (fun i => ∃ k : Nat, k ≤ n ∧ i = .int .i64 k) (fun i => n - (intOf i).toNat)
  case atStart => exact ⟨0, Nat.zero_le _, rfl⟩
  case round =>
    obtain ⟨k, hk, rfl⟩ := hrel
    by_cases hlt : k < n
    · obtain ⟨x, hx⟩ := str_at xs k (by rw [HN.out]; exact hlt)
      have hc1 := HC.out k x hx
      have hno : Hid (Lib.containsS (xs.take k) x = false) := contains_no xs k x hx (fun i j x y h1 h2 => HD.out i j x y h1 (by omega))
      have hi1 : (k : Int) ≤ c := by omega
      clear hx
      go_wp2_with fail
      refine (Try.slices_Contains_string bk o k c xs x _ (by rw [HN.out]; omega) (by omega) HCD.out).mono ?_
      rintro e w' ⟨rfl, rfl⟩
      rw [hno.out]
      go_wp2
      go_round
      case rel => exact ⟨k + 1, by omega, by go_num⟩
      case measure => simp [intOf]; omega
    · obtain rfl : k = n := by omega
      go_wp2_with fail
      refine (Try.slices_Clone_string bk o k c xs _ (by rw [HN.out]; exact Nat.le_refl _) (by omega) HCD.out).mono ?_
      rintro e w1 ⟨v, rfl, hown, hnn, hb⟩
      have hv : ∃ g cap, v = .slice (some ⟨g, 0, none⟩) k cap := by
        obtain ⟨_, ⟨h, _⟩ | ⟨g, cap, cur, h, _⟩⟩ := hown
        · exact absurd h hnn
        · exact ⟨g, cap, h⟩
      obtain ⟨g, cap, hv⟩ := hv
      have hans : AnsG k xs w (.returned v) w1 := by
        refine ⟨g, cap, by rw [hv], ?_, hb⟩
        rw [← HN.out, List.take_length, HN.out, hv] at hown
        exact hown
      clear hown hnn hb hv
      go_wp2
      go_ret
      exact hans

set_option maxHeartbeats 400000 in
theorem zzdistinct_some (cal : ByteArray) (bk o n c : Nat) (xs : List ByteArray) (w : World) (hn : xs.length = n) (hn0 : 1 ≤ n) (hn1 : n ≤ 1048576) (hc : n ≤ c) (hd : Dist xs n)
    (hcell : ∀ (j : Nat) x, xs[j]? = some x → w.cell? ⟨bk, o + j, none⟩ = some (.string x)) :
    Calls Try.prog 14 #[.string cal, .slice (some ⟨bk, o, none⟩) n c] w fun e w' => AnsG n xs w e w' := by
  have HA : Hid (Calls Try.prog 16 #[.string cal, .slice (some ⟨bk, o, none⟩) n c] w fun e w' => AnsG n xs w e w') := distinct_some cal bk o n c xs w hn hn0 hn1 hc hd hcell
  clear hn hn0 hn1 hc hd hcell
  go_enter Try.func14, Try.ntmps14
  go_wp2_with fail
  refine Calls.mono HA.out ?_
  rintro e w' ⟨g, cap, rfl, h2⟩
  have hans : AnsG n xs w (.returned (.slice (some ⟨g, 0, none⟩) n cap)) w' := ⟨g, cap, rfl, h2⟩
  clear h2 HA
  go_wp2
  go_ret
  exact hans

end Go.Proofs.Qxb6601134a
