/-
  Walks: the bound, zzCloneBytes, zzUnescape: each by its contract.
-/
import Derived.Test.Qxb6601134aRows
import Derived.Test.Qxb6601134aPlainE
import Derived.WalkKit
import Derived.WalkSpells
import Derived.WalkLawsBesides
import Derived.Deep.OwnRows
namespace Go.Proofs.Qxb6601134a
open Go.RowKit

theorem info5 : (Try.prog.info? 5).map (fun i => (i.zero, i.size, i.bytes)) = some (some (.int .u8 0), 1, 1) := by kernel_rfl

/-- Bytes as cells. -/
def bcells (l : List Int) : List Value := l.map (Value.int .u8)

set_option maxHeartbeats 400000 in
theorem bytes6_any (a0 a1 : Option Addr) (n0 c0 n1 c1 : Nat) (w : World) (h0 : n0 ≤ maxLen) (h1 : n1 ≤ maxLen) :
    Calls Try.prog 6 #[.slice a0 n0 c0, .slice a1 n1 c1] w fun e w' => ∃ b : Bool, e = .returned (.bool b) ∧ (b = true → n0 + n1 ≤ 1048576) ∧ w' = w := by
  unfold maxLen at *
  go_enter Try.func6, Try.ntmps6
  go_wp2
  all_goals go_ret
  all_goals exact ⟨_, rfl, by first | (intro h; cases h; done) | (intro; omega), rfl⟩

theorem ret_two {a b : Int} {p q : Bool} (h : (a, p) = (b, q)) : Ending.returned (.tuple #[.int .u8 a, .bool p]) = .returned (.tuple #[.int .u8 b, .bool q]) := by
  cases h
  rfl

set_option maxHeartbeats 400000 in
theorem unescape_any (d : Int) (w : World) :
    Calls Try.prog 9 #[.int .u8 d] w fun e w' => e = .returned (.tuple #[.int .u8 (unesc d).1, .bool (unesc d).2]) ∧ w' = w := by
  by_cases h1 : d = 92
  · subst h1
    go_enter Try.func9, Try.ntmps9
    go_wp2
    go_ret2
    exact ⟨rfl, rfl⟩
  by_cases h2 : d = 116
  · subst h2
    go_enter Try.func9, Try.ntmps9
    go_wp2
    go_ret2
    exact ⟨rfl, rfl⟩
  by_cases h3 : d = 110
  · subst h3
    go_enter Try.func9, Try.ntmps9
    go_wp2
    go_ret2
    exact ⟨rfl, rfl⟩
  by_cases h4 : d = 114
  · subst h4
    go_enter Try.func9, Try.ntmps9
    go_wp2
    go_ret2
    exact ⟨rfl, rfl⟩
  have HU : Hid ((0, false) = ((unesc d).1, (unesc d).2)) := by simp [unesc, h1, h2, h3, h4, Hid]
  have e1 : (d == 92) = false := by simpa using h1
  have e2 : (d == 116) = false := by simpa using h2
  have e3 : (d == 110) = false := by simpa using h3
  have e4 : (d == 114) = false := by simpa using h4
  clear h1 h2 h3 h4
  go_enter Try.func9, Try.ntmps9
  go_wp2
  go_ret2
  exact ⟨ret_two HU.out, rfl⟩

/-- Bytes that came in: none; or they lie one behind the other. -/
def BysIn (w : World) (a : Option Addr) (l : List Int) : Prop :=
  l = [] ∨ ∃ bk o, a = some ⟨bk, o, none⟩ ∧ bk < w.heap.size ∧ ∀ (j : Nat) z, l[j]? = some z → w.cell? ⟨bk, o + j, none⟩ = some (.int .u8 z)

/-- A copy of the bytes, in memory of its own. -/
def AnsK (l : List Int) (w : World) (e : Ending) (w' : World) : Prop :=
  ∃ a c, e = .returned (.slice a l.length c) ∧ w'.ownsRow w.heap.size 5 1 (.slice a l.length c) l.length (bcells l) ∧ Below w.heap.size w w'

theorem list_at (l : List Int) (k : Nat) (h : k < l.length) : ∃ x, l[k]? = some x := ⟨l[k], List.getElem?_eq_getElem h⟩

set_option maxHeartbeats 400000 in
theorem clone_nil (w : World) : Calls Try.prog 7 #[.slice none 0 0] w fun e w' => AnsK [] w e w' := by
  have hnil := fun (w : World) (a : Option Addr) (l c : Nat) => Lib.run_eql_slice_nil (P := Try.prog) w 22 5 a l c 0 0 Try.underlying22
  go_enter Try.func7, Try.ntmps7
  go_wp2
  go_ret
  exact ⟨_, _, rfl, World.ownsRow_nil _ _ _ _, Below.refl _ _⟩

/-- What the copy holds after k rounds. -/
def cpF (l : List Int) (k : Nat) (j : Nat) : Value := if j < k then .int .u8 (l.getD j 0) else .int .u8 0

theorem cp_step {w : World} {b n k : Nat} {l : List Int} {x : Int} (hx : l[k]? = some x) (h : w.rowIs b 5 n (cpF l k)) : (w.setCell ⟨b, k, none⟩ (.int .u8 x)).rowIs b 5 n (cpF l (k + 1)) := by
  refine (h.set k (.int .u8 x)).congr fun j _ => ?_
  unfold cpF
  by_cases hj : j = k
  · subst hj
    rw [if_pos rfl, if_pos (by omega), List.getD_eq_getElem?_getD, hx]
    rfl
  · rw [if_neg hj]
    by_cases h1 : j < k
    · rw [if_pos h1, if_pos (by omega)]
    · rw [if_neg h1, if_neg (by omega)]

theorem owns_of_row {w : World} {base b n : Nat} {l : List Int} (hn : l.length = n) (hm : n ≤ maxLen) (hb : base ≤ b) (h : w.rowIs b 5 n (cpF l n)) : w.ownsRow base 5 1 (.slice (some ⟨b, 0, none⟩) n n) n (bcells l) := by
  obtain ⟨c, hh, hs, hc⟩ := h
  refine ⟨by simp [bcells, hn], .inr ⟨b, n, c, rfl, hb, hh, Nat.le_refl _, hm, by omega, ?_⟩⟩
  apply List.ext_getElem?
  intro j
  by_cases hj : j < n
  · have h1 := hc j hj
    rw [List.getElem?_take_of_lt (by omega), bcells, List.getElem?_map]
    rw [show c.toList[j]? = c[j]? by simp, h1, cpF, if_pos hj, List.getD_eq_getElem?_getD, List.getElem?_eq_getElem (by omega)]
    rfl
  · rw [List.getElem?_eq_none (by rw [List.length_take]; omega), List.getElem?_eq_none (by simp [bcells]; omega)]

set_option maxHeartbeats 400000 in
theorem clone_some (ad : Addr) (n c : Nat) (l : List Int) (w : World) (hl : BysIn w (some ad) l) (hn : l.length = n) (hn1 : n ≤ 1048576) :
    Calls Try.prog 7 #[.slice (some ad) n c] w fun e w' => AnsK l w e w' := by
  have hnil := fun (w : World) (a : Option Addr) (l c : Nat) => Lib.run_eql_slice_nil (P := Try.prog) w 22 5 a l c 0 0 Try.underlying22
  have hmk := run_make_row' (P := Try.prog) 22 5 (.int .u8 0) 1 Try.underlying22 info5 rfl .i64 .i64 n (by omega) (by omega)
  have HN : Hid (l.length = n) := hn
  have HL : Hid (BysIn w (some ad) l) := hl
  clear hn hl
  have hrow := World.rowIs_made w (.int .u8 0) n 5
  go_enter Try.func7, Try.ntmps7
  go_wp2
  go_loopw [4] (fun i wr => ∃ k : Nat, k ≤ n ∧ i = .int .i64 k ∧ wr.rowIs w.heap.size 5 n (cpF l k) ∧ Below w.heap.size w wr) (fun i _ => n - (intOf i).toNat)
  case atStart => exact ⟨0, Nat.zero_le _, rfl, hrow.congr (fun j _ => by simp [cpF]), (Below.refl _ _).alloc (Nat.le_refl _) _⟩
  case round =>
    clear hrow
    obtain ⟨k, hk, rfl, hrow, hbel⟩ := hrel
    by_cases hlt : k < n
    · obtain ⟨x, hx⟩ := list_at l k (by rw [HN.out]; exact hlt)
      rcases HL.out with h0 | ⟨bk, o, h1, hbk, hcell⟩
      · rw [h0] at hx
        cases hx
      cases h1
      have hc1 : wr.cell? ⟨bk, o + k, none⟩ = some (.int .u8 x) := (hbel.cell (p := ⟨bk, o + k, none⟩) hbk).trans (hcell k x hx)
      have hc2 := hrow.cell (i := k) hlt
      have hf2 := hrow.frozen k
      have hstep := cp_step hx hrow
      have hbs := hbel.setCell (p := ⟨w.heap.size, k, none⟩) (Nat.le_refl _) (.int .u8 x)
      clear hx hrow hbel hcell
      go_wp2
      go_roundw
      case rel => exact ⟨k + 1, by omega, by go_num, hstep, hbs⟩
      case measure => simp [intOf]; omega
    · obtain rfl : k = n := by omega
      have hres : AnsK l w (.returned (.slice (some ⟨w.heap.size, 0, none⟩) k k)) wr :=
        ⟨_, k, by rw [HN.out], by rw [HN.out]; exact owns_of_row HN.out (by unfold maxLen; omega) (Nat.le_refl _) hrow, hbel⟩
      clear hrow hbel
      go_wp2
      go_ret
      exact hres

/-- zzCloneBytes, for whatever bytes. -/
theorem clone_any (a : Option Addr) (n c : Nat) (l : List Int) (w : World) (hl : BysIn w a l) (hz : a = none → c = 0) (hn : l.length = n) (hn1 : n ≤ 1048576) :
    Calls Try.prog 7 #[.slice a n c] w fun e w' => AnsK l w e w' := by
  cases a with
  | none =>
    rcases hl with rfl | ⟨_, _, h, _⟩
    · subst hn
      rw [hz rfl]
      exact clone_nil w
    · cases h
  | some ad => exact clone_some ad n c l w hl hn hn1

end Go.Proofs.Qxb6601134a
