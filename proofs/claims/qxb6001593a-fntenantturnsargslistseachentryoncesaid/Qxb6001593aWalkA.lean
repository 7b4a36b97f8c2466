/-
  Walks: (tenantTurns).args and ZZTenantTurnsArgs, by their contract.
-/
import Derived.Test.Qxb6001593aRows
import Derived.WalkKit
import Derived.WalkSpells
import Derived.WalkLawsBesides
import Derived.Maps.RangeWalk
import Derived.Maps.OwnSet
import Derived.Maps.StringElems
import Derived.Lib.SlKeysI
namespace Go.Proofs.Qxb6001593a
open Go.RowKit Go.Maps

theorem law3 : Keyed Try.prog 3 := int_keyed Try.underlying3
theorem info9 : (Try.prog.info? 9).map (fun i => (i.zero, i.size, i.bytes)) = some (some (.string ⟨#[]⟩), 1, 16) := by kernel_rfl
theorem info21 : (Try.prog.info? 21).map (fun i => (i.zero, i.size, i.bytes)) = some (some (.int .i32 0), 1, 4) := by kernel_rfl

/-- What has been listed of the map D, 'left' still to come. -/
structure Listed (D : DataW Unit) (left : Lit → Bool) (cnt : Nat) (ps : List Int) (ts : List ByteArray) : Prop where
  col : CollectedI D left ps
  len : ts.length = ps.length
  room : ps.length + cnt ≤ Maps.size D
  at' : ∀ (i : Nat) (x : Int), ps[i]? = some x → ∃ s : ByteArray, ts[i]? = some s ∧ s.size ≤ maxLen ∧ ∀ zd, D.atKey (.int .i64 x) zd = .lit (.string s.data.toList)

theorem Listed.start (D : DataW Unit) : Listed D (Maps.has D) (Maps.size D) [] [] := ⟨CollectedI.start D, rfl, by simp, fun i x h => by cases h⟩

theorem Listed.step {D : DataW Unit} {left : Lit → Bool} {cnt cnt' : Nat} {ps : List Int} {ts : List ByteArray} (h : Listed D left cnt ps ts) (x : Int) (s : ByteArray) (hs : s.size ≤ maxLen) (hlk : left (.int .i64 x) = true) (hat : ∀ zd, D.atKey (.int .i64 x) zd = .lit (.string s.data.toList)) (hlt : cnt' < cnt) :
    Listed D (fun z => left z && !z.sameKey (.int .i64 x)) cnt' (ps ++ [x]) (ts ++ [s]) := by
  refine ⟨h.col.step hlk hat, by simp [h.len], by have := h.room; simp; omega, fun i y hy => ?_⟩
  by_cases hi : i < ps.length
  · rw [List.getElem?_append_left hi] at hy
    obtain ⟨s', h1, h2, h3⟩ := h.at' i y hy
    exact ⟨s', by rw [List.getElem?_append_left (by rw [h.len]; exact hi)]; exact h1, h2, h3⟩
  · have hlt : i < (ps ++ [x]).length := (List.getElem?_eq_some_iff.1 hy).1
    simp at hlt
    obtain rfl : i = ps.length := by omega
    rw [List.getElem?_append_right (Nat.le_refl _)] at hy
    simp at hy
    subst hy
    exact ⟨s, by rw [List.getElem?_append_right (by rw [h.len]; exact Nat.le_refl _)]; simp [h.len], hs, hat⟩

/-- The whole map, listed. -/
structure Whole (D : DataW Unit) (ps : List Int) (ts : List ByteArray) : Prop where
  nodup : ps.Nodup
  mem : ∀ x, x ∈ ps ↔ Maps.has D (.int .i64 x) = true
  size : Maps.size D = ps.length
  len : ts.length = ps.length
  at' : ∀ (i : Nat) (x : Int), ps[i]? = some x → ∃ s : ByteArray, ts[i]? = some s ∧ s.size ≤ maxLen ∧ ∀ zd, D.atKey (.int .i64 x) zd = .lit (.string s.data.toList)

theorem Listed.whole {D : DataW Unit} {left : Lit → Bool} {cnt : Nat} {ps : List Int} {ts : List ByteArray} (h : Listed D left cnt ps ts) {w : World} {B n : Nat} (hown : w.ownsMap Try.prog 3 (plainElem Try.prog 9) B n D) (hl : ∀ kl, left kl = false) : Whole D ps ts := by
  have hp := (h.col.perm hown law3 Try.underlying3 hl).length_eq
  obtain ⟨es, rfl, _⟩ := hown.entries law3
  refine ⟨h.col.1, fun x => by rw [h.col.2 x, hl]; simp, ?_, h.len, h.at'⟩
  rw [hp]
  simp [Maps.size, intKeys]

/-- The answer: two slices of the call's own, the map listed in them. -/
def AnsT (D : DataW Unit) (w : World) (e : Ending) (w' : World) : Prop :=
  ∃ (ps : List Int) (ts : List ByteArray) (g4 g5 c : Nat), e = .returned (.tuple #[.slice (some ⟨g4, 0, none⟩) ps.length c, .slice (some ⟨g5, 0, none⟩) ps.length c]) ∧ Whole D ps ts ∧
    w'.ownsRow w.heap.size 21 1 (.slice (some ⟨g4, 0, none⟩) ps.length c) ps.length (ps.map (Value.int .i32)) ∧ w'.ownsRow w.heap.size 9 1 (.slice (some ⟨g5, 0, none⟩) ps.length c) ps.length (ts.map Value.string) ∧ Below w.heap.size w w'

theorem own_keep {w w' : World} {base g n c : Nat} {e : TypeId} {xs : List Value} {row : Option Nat} (h : w.ownsRow base e 1 (.slice (some ⟨g, 0, none⟩) n c) n xs) (hg : w.grownBy w' row) (hne : row ≠ some g) : w'.ownsRow base e 1 (.slice (some ⟨g, 0, none⟩) n c) n xs :=
  h.kept hg (.inr (fun e => hne e.symm))

/-- The loop's state. -/
structure RSt (D : DataW Unit) (w : World) (B n rr G5 : Nat) (wr : World) (left : Lit → Bool) (cnt : Nat) (ps : List Int) (ts : List ByteArray) : Prop where
  rng : wr.ranges Try.prog 3 (plainElem Try.prog 9) B rr n D left cnt
  o4 : wr.ownsRow w.heap.size 21 1 (.slice (some ⟨w.heap.size, 0, none⟩) ps.length (Maps.size D)) ps.length (ps.map (Value.int .i32))
  o5 : wr.ownsRow w.heap.size 9 1 (.slice (some ⟨G5, 0, none⟩) ps.length (Maps.size D)) ps.length (ts.map Value.string)
  lst : Listed D left cnt ps ts
  bel : Below w.heap.size w wr

theorem RSt.ans {D : DataW Unit} {w : World} {B n rr G5 : Nat} {wr : World} {left : Lit → Bool} {cnt : Nat} {ps : List Int} {ts : List ByteArray} (h : RSt D w B n rr G5 wr left cnt ps ts) (hl : ∀ kl, left kl = false) :
    AnsT D w (.returned (.tuple #[.slice (some ⟨w.heap.size, 0, none⟩) ps.length (Maps.size D), .slice (some ⟨G5, 0, none⟩) ps.length (Maps.size D)])) wr :=
  ⟨ps, ts, _, _, _, rfl, h.lst.whole h.rng.owns hl, h.o4, h.o5, h.bel⟩

theorem one_i32 (x : Int) : ∀ u ∈ [Value.int .i32 x], u.oneCell' = true := by
  intro u hu
  simp at hu
  subst hu
  rfl
theorem one_str (x : ByteArray) : ∀ u ∈ [Value.string x], u.oneCell' = true := by
  intro u hu
  simp at hu
  subst hu
  rfl

set_option maxHeartbeats 1000000 in
theorem args_any (B n : Nat) (D : DataW Unit) (w : World) (hown : w.ownsMap Try.prog 3 (plainElem Try.prog 9) B n D) (hn : n ≤ 1048576) (hr : ∀ x, Maps.has D (.int .i64 x) = true → -2147483648 ≤ x ∧ x ≤ 2147483647) :
    Calls Try.prog 6 #[.map (some B)] w fun e w' => AnsT D w e w' := by
  obtain ⟨i9, hi9, hz90, hz91, hz92⟩ := info_parts info9
  obtain ⟨i21, hi21, hz210, hz211, hz212⟩ := info_parts info21
  have hsz := hown.size_le
  have HR : Hid (∀ x, Maps.has D (.int .i64 x) = true → -2147483648 ≤ x ∧ x ≤ 2147483647) := hr
  clear hr
  go_enter Try.func6, Try.ntmps6
  go_wp2_with (first | (at_len; refine wpList_len_own _ rfl _ 30 rfl 3 9 Try.underlying30 _ B n D rfl hown ?_) | (at_make; refine wpList_make_own _ rfl _ _ 22 rfl w.heap.size 21 i21 (.int .i32 0) 1 Try.underlying22 hi21 hz210 hz211 _ _ _ (Maps.size D) rfl rfl rfl ?a1 ?a2 ?a3 ?_))
  case a1 => rw [hz212]; omega
  case a2 => unfold maxLen; omega
  case a3 => exact Nat.le_refl _
  intro w1 o4 g1
  have hm1 := hown.kept g1 (by simp)
  have hs1 : w.heap.size < w1.heap.size := (o4.lt _ rfl).2
  go_wp2_with (first | (at_len; refine wpList_len_own _ rfl _ 30 rfl 3 9 Try.underlying30 _ B n D rfl hm1 ?_) | (at_make; refine wpList_make_own _ rfl _ _ 23 rfl w.heap.size 9 i9 (.string ⟨#[]⟩) 1 Try.underlying23 hi9 hz90 hz91 _ _ _ (Maps.size D) rfl rfl rfl ?b1 ?b2 ?b3 ?_))
  case b1 => rw [hz92]; omega
  case b2 => unfold maxLen; omega
  case b3 => omega
  intro w2 o5 g2
  have hm2 := hm1.kept g2 (by simp)
  have o4' := own_keep o4 g2 (by simp)
  have hs2 : w1.heap.size < w2.heap.size := (o5.lt _ rfl).2
  have hb2 : Below w.heap.size w w2 := ((Below.refl _ _).grown g1 (Nat.le_refl _) (fun k h => by cases h)).grown g2 (by omega) (fun k h => by cases h)
  obtain ⟨G5, hG5⟩ : ∃ g, g = w1.heap.size := ⟨_, rfl⟩
  rw [← hG5] at o5 hs2 hs1 ⊢
  have hBlt := hown.lt
  clear g1 g2 hm1 o4 hown hG5
  go_wp2_with (at_range; refine wpList_range_own _ rfl _ 30 rfl 3 9 law3 Try.underlying30 _ B n D rfl hm2 ?_)
  intro w3 hrg3 hg3 hs3
  have o4'' := own_keep o4' hg3 (by simp)
  have o5'' := own_keep o5 hg3 (by simp)
  have hb3 : Below w.heap.size w w3 := hb2.grown hg3 hb2.size (fun k h => by cases h)
  obtain ⟨rr, hrr⟩ : ∃ g, g = w2.heap.size := ⟨_, rfl⟩
  rw [← hrr] at hrg3 hs3 hs2 ⊢
  clear hg3 o4' o5 hb2 hm2 hrr
  have hst : RSt D w B n rr G5 w3 (Maps.has D) (Maps.size D) [] [] := ⟨hrg3, o4'', o5'', Listed.start D, hb3⟩
  clear hrg3 o4'' o5'' hb3 hs3
  go_wp2
  go_loopw [4, 5] (fun v4 v5 wr => ∃ left cnt ps ts, v4 = .slice (some ⟨w.heap.size, 0, none⟩) ps.length (Maps.size D) ∧ v5 = .slice (some ⟨G5, 0, none⟩) ps.length (Maps.size D) ∧ RSt D w B n rr G5 wr left cnt ps ts) (fun _ _ wr => wr.rangeLeft B rr)
  case atStart => exact ⟨_, _, [], [], rfl, rfl, hst⟩
  case round =>
    clear hst
    obtain ⟨left, cnt, ps, ts, rfl, rfl, hst⟩ := hrel
    go_wp2_with (at_next; refine wpList_next_ranges_is _ rfl _ rfl 3 9 .i64 law3 Try.underlying3 Try.underlying9 B rr n _ _ _ rfl hst.rng ?_ ?_)
    · intro _ hl0
      have hans := hst.ans hl0
      clear hst hl0
      go_wp2
      go_ret2
      exact hans
    · intro x c wn cnt' hwx hcs hlx hat hrg1 hlt hg1 hs1 hen
      have hx := HR.out x (has_true_of_atKey hat)
      obtain ⟨hx1, hx2⟩ := hx
      have hroom := hst.lst.room
      have hk1 : ps.length + 1 ≤ Maps.size D := by omega
      have o4 := own_keep hst.o4 hg1 (by simp; omega)
      have o5 := own_keep hst.o5 hg1 (by simp; omega)
      have hbn : Below w.heap.size w wn := hst.bel.grown hg1 hst.bel.size (fun k h => by cases h; omega)
      have hlst := hst.lst.step x c hcs hlx hat hlt
      have hmeas : cnt' < wr.rangeLeft B rr := by rw [hst.rng.left_eq]; exact hlt
      have HM : Hid (cnt' < wr.rangeLeft B rr) := hmeas
      clear hst hg1 hs1 hat hlx hwx hroom hmeas
      go_wp2_with (at_builtin; refine wpList_append_fits _ rfl (.tmp 21) (.tmp 24) 22 rfl w.heap.size 21 i21 1 Try.underlying22 hi21 hz211 w.heap.size ps.length (Maps.size D) _ rfl (o4.alloc _) ⟨wn.heap.size, 0, none⟩ 1 1 [.int .i32 x] rfl rfl ?c1 (one_i32 x) ?c2 ?_)
      case c1 => exact cell_one_new _ _ _
      case c2 => exact hk1
      intro wa oa ga
      have o5a := own_keep (o5.alloc _) ga (by simp; omega)
      have rga := (hrg1.alloc (.cells #[.int .i32 x] 21)).kept ga (by simp; omega) (by simp; omega)
      have hba : Below w.heap.size w wa := (hbn.alloc hbn.size _).grown ga (by have := hbn.size; simp; omega) (fun k h => by cases h; exact Nat.le_refl _)
      clear o4 o5 hrg1 hbn ga hen
      go_wp2_with (at_builtin; refine wpList_append_fits _ rfl (.tmp 26) (.tmp 28) 23 rfl w.heap.size 9 i9 1 Try.underlying23 hi9 hz91 G5 ps.length (Maps.size D) _ rfl (o5a.alloc _) ⟨wa.heap.size, 0, none⟩ 1 1 [.string c] rfl rfl ?d1 (one_str c) ?d2 ?_)
      case d1 => exact cell_one_new _ _ _
      case d2 => exact hk1
      intro wb ob gb
      have oab := own_keep (oa.alloc _) gb (by simp; omega)
      have rgb := (rga.alloc (.cells #[.string c] 9)).kept gb (by simp; omega) (by simp; omega)
      have hbb : Below w.heap.size w wb := (hba.alloc hba.size _).grown gb (by have := hba.size; simp; omega) (fun k h => by cases h; omega)
      have hst' : RSt D w B n rr G5 wb (fun z => left z && !z.sameKey (.int .i64 x)) cnt' (ps ++ [x]) (ts ++ [c]) := by
        refine ⟨rgb, ?_, ?_, hlst, hbb⟩
        · simpa using oab
        · simpa using ob
      have hml : wb.rangeLeft B rr = cnt' := rgb.left_eq
      have HML : Hid (wb.rangeLeft B rr = cnt') := hml
      clear o5a rga hba gb oab rgb hbb ob oa hlst hml
      go_wp2
      go_roundw
      case rel => exact ⟨_, _, ps ++ [x], ts ++ [c], by simp, by simp, hst'⟩
      case measure => rw [HML.out]; exact HM.out

set_option maxHeartbeats 400000 in
theorem zzargs_any (B n : Nat) (D : DataW Unit) (w : World) (hown : w.ownsMap Try.prog 3 (plainElem Try.prog 9) B n D) (hn : n ≤ 1048576) (hr : ∀ x, Maps.has D (.int .i64 x) = true → -2147483648 ≤ x ∧ x ≤ 2147483647) :
    Calls Try.prog 5 #[.map (some B)] w fun e w' => AnsT D w e w' := by
  have HA : Hid (Calls Try.prog 6 #[.map (some B)] w fun e w' => AnsT D w e w') := args_any B n D w hown hn hr
  clear hown hn hr
  go_enter Try.func5, Try.ntmps5
  go_wp2_with fail
  refine Calls.mono HA.out ?_
  rintro e w' ⟨ps, ts, g4, g5, c, rfl, hrest⟩
  have hans : AnsT D w (.returned (.tuple #[.slice (some ⟨g4, 0, none⟩) ps.length c, .slice (some ⟨g5, 0, none⟩) ps.length c])) w' := ⟨ps, ts, g4, g5, c, rfl, hrest⟩
  clear hrest HA
  go_wp2
  go_ret2
  exact hans

end Go.Proofs.Qxb6001593a
