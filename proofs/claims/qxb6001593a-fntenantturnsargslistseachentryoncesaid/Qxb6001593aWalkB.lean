/-
  The bound of FnTenantTurnsArgsListsEachEntryOnce, by its contract; how the two slices lie in memory; what the maps hold, in plain words.
-/
import Derived.Test.Qxb6001593aRows
import Derived.Test.Qxb6001593aWalkA
import Derived.Lib.Join
namespace Go.Proofs.Qxb6001593a
open Go.RowKit Go.Maps

theorem hid {p : Prop} (h : p) : Hid p := h

/-- The bytes of the first k strings. -/
def slen (xs : List ByteArray) (k : Nat) : Nat := Lib.lens ((xs.take k).map (·.data.toList))

theorem lens_append (a b : List (List UInt8)) : Lib.lens (a ++ b) = Lib.lens a + Lib.lens b := by simp [Lib.lens]
theorem lens_one (a : List UInt8) : Lib.lens [a] = a.length := by simp [Lib.lens]
theorem slen_zero (xs : List ByteArray) : slen xs 0 = 0 := by simp [slen, Lib.lens]

theorem slen_succ (xs : List ByteArray) (k : Nat) (x : ByteArray) (h : xs[k]? = some x) : slen xs (k + 1) = slen xs k + x.size := by
  unfold slen
  rw [List.take_add_one, h, Option.toList_some, List.map_append, lens_append]
  simp only [List.map_cons, List.map_nil, lens_one, Array.length_toList]
  rfl

theorem slen_all (xs : List ByteArray) : slen xs xs.length = Lib.lens (xs.map (·.data.toList)) := by simp [slen]

theorem slen_le (xs : List ByteArray) (k : Nat) : slen xs k ≤ Lib.lens (xs.map (·.data.toList)) := by
  unfold slen
  rw [List.map_take]
  exact Lib.lens_take_le _ _

theorem str_at (xs : List ByteArray) (k : Nat) (h : k < xs.length) : ∃ x, xs[k]? = some x := ⟨xs[k], List.getElem?_eq_getElem h⟩
theorem int_at (xs : List Int) (k : Nat) (h : k < xs.length) : ∃ x, xs[k]? = some x := ⟨xs[k], List.getElem?_eq_getElem h⟩

/-- What a bound answers: a bool, and true only where p holds; the world as it was. -/
def AnsB (p : Prop) (w : World) (e : Ending) (w' : World) : Prop := ∃ b : Bool, e = .returned (.bool b) ∧ (b = true → p) ∧ w' = w

theorem ans_no (p : Prop) (w : World) : AnsB p w (.returned (.bool false)) w := ⟨false, rfl, (fun h => by cases h), rfl⟩
theorem ans_yes {p : Prop} (h : p) (w : World) : AnsB p w (.returned (.bool true)) w := ⟨true, rfl, fun _ => h, rfl⟩

/-- The numbers of a slice of int32s, wherever it lies below block B. -/
def CellsI (w : World) (B : Nat) (a : Option Addr) (l : List Int) : Prop :=
  ∀ (j : Nat) (x : Int), l[j]? = some x → ∃ g o, a = some ⟨g, o, none⟩ ∧ g < B ∧ w.cell? ⟨g, o + j, none⟩ = some (.int .i32 x)
/-- The strings of a slice of strings, wherever it lies below block B. -/
def CellsS (w : World) (B : Nat) (a : Option Addr) (l : List ByteArray) : Prop :=
  ∀ (j : Nat) (x : ByteArray), l[j]? = some x → ∃ g o, a = some ⟨g, o, none⟩ ∧ g < B ∧ w.cell? ⟨g, o + j, none⟩ = some (.string x)

theorem CellsI.below {w w' : World} {B B' : Nat} {a : Option Addr} {l : List Int} (h : CellsI w B a l) (hb : Below B w w') (hle : B ≤ B') : CellsI w' B' a l := by
  intro j x hj
  obtain ⟨g, o, h1, h2, h3⟩ := h j x hj
  exact ⟨g, o, h1, by omega, (hb.cell (p := ⟨g, o + j, none⟩) h2).trans h3⟩
theorem CellsS.below {w w' : World} {B B' : Nat} {a : Option Addr} {l : List ByteArray} (h : CellsS w B a l) (hb : Below B w w') (hle : B ≤ B') : CellsS w' B' a l := by
  intro j x hj
  obtain ⟨g, o, h1, h2, h3⟩ := h j x hj
  exact ⟨g, o, h1, by omega, (hb.cell (p := ⟨g, o + j, none⟩) h2).trans h3⟩

set_option maxHeartbeats 1000000 in
theorem bytes4_any (a0 a1 : Option Addr) (n0 c0 n1 c1 : Nat) (xs : List ByteArray) (w : World) (h0 : n0 ≤ maxLen) (h1 : n1 ≤ maxLen) (hn : xs.length = n1) (hxs : ∀ s ∈ xs, s.size ≤ maxLen) (hcell : CellsS w w.heap.size a1 xs) :
    Calls Try.prog 4 #[.slice a0 n0 c0, .slice a1 n1 c1] w fun e w' => AnsB (n0 + n1 + Lib.lens (xs.map (·.data.toList)) ≤ 1048576) w e w' := by
  unfold maxLen at *
  have HN := hid hn
  have HX := hid hxs
  have HC := hid hcell
  clear hn hxs hcell
  by_cases b0 : 1048576 < n0
  · go_enter Try.func4, Try.ntmps4
    go_wp2
    go_ret
    exact ans_no _ _
  by_cases b1 : 1048576 < n1
  · go_enter Try.func4, Try.ntmps4
    go_wp2
    go_ret
    exact ans_no _ _
  by_cases b2 : 1048576 < n0 + n1
  · go_enter Try.func4, Try.ntmps4
    go_wp2
    go_ret
    exact ans_no _ _
  · go_enter Try.func4, Try.ntmps4
    go_wp2
    go_loop [5, 6] (fun z i => ∃ k : Nat, k ≤ n1 ∧ i = .int .i64 k ∧ z = .int .i64 ((n0 + n1 + slen xs k : Nat) : Int) ∧ n0 + n1 + slen xs k ≤ 1048576) (fun _ i => n1 - (RowKit.intOf i).toNat)
    case atStart => exact ⟨0, Nat.zero_le _, rfl, by rw [slen_zero]; rfl, by rw [slen_zero]; omega⟩
    case round =>
      obtain ⟨k, hk, rfl, rfl, hle⟩ := hrel
      by_cases hlt : k < n1
      · obtain ⟨x, hx⟩ := str_at xs k (by rw [HN.out]; exact hlt)
        have hs := slen_succ xs k x hx
        have hxs := HX.out x (List.mem_of_getElem? hx)
        obtain ⟨g, o, rfl, _, hc1⟩ := HC.out k x hx
        have HS := hid hs
        clear hx hs
        go_wp2
        · go_ret
          exact ans_no _ _
        · go_ret
          exact ans_no _ _
        · have hS := HS.out
          go_round
          case rel => exact ⟨k + 1, by omega, by go_num, by rw [hS]; go_num, by omega⟩
          case measure => simp [RowKit.intOf]; omega
      · obtain rfl : k = n1 := by omega
        have hall : slen xs k = Lib.lens (xs.map (·.data.toList)) := by rw [← slen_all, HN.out]
        have HA := hid hall
        clear hall
        go_wp2
        go_ret
        exact ans_yes (by have := HA.out; omega) _

end Go.Proofs.Qxb6001593a
