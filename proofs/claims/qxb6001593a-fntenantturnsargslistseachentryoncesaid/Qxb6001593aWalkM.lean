/-
  The walk of FnTenantTurnsArgsListsEachEntryOnce.
-/
import Derived.Test.Qxb6001593aRows
import Derived.Test.Qxb6001593aWalkB
import Derived.BigQuiet
import Derived.Deep.QuietTactic
import Derived.Deep.DeepCutAuto
import Derived.Deep.CutBlock
import Derived.Deep.OwnRows
namespace Go.Proofs.Qxb6001593a.fnTenantTurnsArgsListsEachEntryOnce
open Go.RowKit Go.Maps

/-- What a copy of the numbers holds after k rounds. -/
def cpI (l : List Int) (k : Nat) (j : Nat) : Value := if j < k then .int .i32 (l.getD j 0) else .int .i32 0
/-- What a copy of the strings holds after k rounds. -/
def cpS (l : List ByteArray) (k : Nat) (j : Nat) : Value := if j < k then .string (l.getD j ⟨#[]⟩) else .string ⟨#[]⟩

theorem cpI_step {w : World} {b n k : Nat} {l : List Int} {x : Int} (hx : l[k]? = some x) (h : w.rowIs b 21 n (cpI l k)) : (w.setCell ⟨b, k, none⟩ (.int .i32 x)).rowIs b 21 n (cpI l (k + 1)) := by
  refine (h.set k (.int .i32 x)).congr fun j _ => ?_
  unfold cpI
  by_cases hj : j = k
  · subst hj
    rw [if_pos rfl, if_pos (by omega), List.getD_eq_getElem?_getD, hx]
    rfl
  · rw [if_neg hj]
    by_cases h1 : j < k
    · rw [if_pos h1, if_pos (by omega)]
    · rw [if_neg h1, if_neg (by omega)]
theorem cpS_step {w : World} {b n k : Nat} {l : List ByteArray} {x : ByteArray} (hx : l[k]? = some x) (h : w.rowIs b 9 n (cpS l k)) : (w.setCell ⟨b, k, none⟩ (.string x)).rowIs b 9 n (cpS l (k + 1)) := by
  refine (h.set k (.string x)).congr fun j _ => ?_
  unfold cpS
  by_cases hj : j = k
  · subst hj
    rw [if_pos rfl, if_pos (by omega), List.getD_eq_getElem?_getD, hx]
    rfl
  · rw [if_neg hj]
    by_cases h1 : j < k
    · rw [if_pos h1, if_pos (by omega)]
    · rw [if_neg h1, if_neg (by omega)]

theorem cells_of_cpI {w : World} {b n : Nat} {l : List Int} (hn : l.length = n) (h : w.rowIs b 21 n (cpI l n)) : CellsI w w.heap.size (some ⟨b, 0, none⟩) l := by
  intro j x hj
  have hjl : j < n := by rw [← hn]; exact (List.getElem?_eq_some_iff.1 hj).1
  refine ⟨b, 0, rfl, h.lt, ?_⟩
  have := h.cell (i := j) hjl
  rw [cpI, if_pos hjl, List.getD_eq_getElem?_getD, hj] at this
  simpa using this
theorem cells_of_cpS {w : World} {b n : Nat} {l : List ByteArray} (hn : l.length = n) (h : w.rowIs b 9 n (cpS l n)) : CellsS w w.heap.size (some ⟨b, 0, none⟩) l := by
  intro j x hj
  have hjl : j < n := by rw [← hn]; exact (List.getElem?_eq_some_iff.1 hj).1
  refine ⟨b, 0, rfl, h.lt, ?_⟩
  have := h.cell (i := j) hjl
  rw [cpS, if_pos hjl, List.getD_eq_getElem?_getD, hj] at this
  simpa using this

/-- A slot holds the numbers, in this world, which has grown from w. -/
def HoldsI (w : World) (n : Nat) (l : List Int) (v : Value) (w2 : World) : Prop := ∃ a c, v = .slice a n c ∧ CellsI w2 w2.heap.size a l ∧ Below w.heap.size w w2
def HoldsS (w : World) (n : Nat) (l : List ByteArray) (v : Value) (w2 : World) : Prop := ∃ a c, v = .slice a n c ∧ CellsS w2 w2.heap.size a l ∧ Below w.heap.size w w2

/-- What the map of turns holds after N pairs: just the first N keys. -/
structure Built (D : DataW Unit) (ks : List Int) (N : Nat) : Prop where
  isMap : IsMap D
  only : ∀ x, Maps.has D (.int .i64 x) = true → ∃ i : Nat, i < N ∧ ks[i]? = some x
  all : ∀ (i : Nat) x, i < N → ks[i]? = some x → Maps.has D (.int .i64 x) = true

theorem built_start (ks : List Int) : Built (.map []) ks 0 := ⟨isMap_empty, (fun x h => by cases h), (fun i x h => by omega)⟩

theorem built_step {D : DataW Unit} {ks : List Int} {N : Nat} (h : Built D ks N) {x : Int} (hx : ks[N]? = some x) (d : DataW Unit) : Built (D.put (.int .i64 x) d) ks (N + 1) := by
  have hkl : WideAt.IsKeyLit (.int .i64 x) := trivial
  refine ⟨h.isMap.put _ _, fun y hy => ?_, fun i y hi hy => ?_⟩
  · by_cases e : y = x
    · subst e
      exact ⟨N, by omega, hx⟩
    · rw [has_put_other (by simpa using e)] at hy
      obtain ⟨i, h1, h2⟩ := h.only y hy
      exact ⟨i, by omega, h2⟩
  · by_cases e : y = x
    · subst e
      exact has_put_same h.isMap hkl d
    · rw [has_put_other (by simpa using e)]
      refine h.all i y ?_ hy
      by_cases hiN : i = N
      · subst hiN
        rw [hx] at hy
        cases hy
        exact absurd rfl e
      · omega

theorem ownsMap_below {k : TypeId} {R : Value → Option (DataW Unit × List MemPlace)} {w w' : World} {b n B : Nat} {D : DataW Unit} (h : w.ownsMap Try.prog k R b n D) (hb : Below B w w') (hlt : b < B) : w'.ownsMap Try.prog k R b n D := by
  obtain ⟨es, clock, hb', F, hs, hD⟩ := h
  exact ⟨es, clock, (hb.block b hlt).trans hb', F, hs, hD⟩

theorem cells_of_ownI {w : World} {B g n c : Nat} {l : List Int} (h : w.ownsRow B 21 1 (.slice (some ⟨g, 0, none⟩) n c) n (l.map (Value.int .i32))) : CellsI w w.heap.size (some ⟨g, 0, none⟩) l := by
  intro j x hj
  have hjl : j < n * 1 := by
    have h1 := (List.getElem?_eq_some_iff.1 hj).1
    have h2 := h.1
    simp at h2
    omega
  refine ⟨g, 0, rfl, (h.lt g rfl).2, ?_⟩
  rw [Nat.zero_add, h.cellAt j hjl, List.getElem?_map, hj]
  rfl
theorem cells_of_ownS {w : World} {B g n c : Nat} {l : List ByteArray} (h : w.ownsRow B 9 1 (.slice (some ⟨g, 0, none⟩) n c) n (l.map Value.string)) (_hl : l.length = n) : CellsS w w.heap.size (some ⟨g, 0, none⟩) l := by
  intro j x hj
  have hjl : j < n * 1 := by
    have h1 := (List.getElem?_eq_some_iff.1 hj).1
    have h2 := h.1
    simp at h2
    omega
  refine ⟨g, 0, rfl, (h.lt g rfl).2, ?_⟩
  rw [Nat.zero_add, h.cellAt j hjl, List.getElem?_map, hj]
  rfl

theorem law21 : Keyed Try.prog 21 := int_keyed Try.underlying21
theorem zero4 (w : World) : (zeroValue 4).run Try.prog w = .ok (.bool false) w := by kernel_rfl
theorem zero9 (w : World) : (zeroValue 9).run Try.prog w = .ok (.string ⟨#[]⟩) w := by kernel_rfl

/-- The set of seen priorities after q rounds. -/
structure Seen (D2 : DataW Unit) (ps : List Int) (q : Nat) : Prop where
  isMap : IsMap D2
  at' : ∀ x : Int, D2.atKey (.int .i32 x) (.lit (.bool false)) = .lit (.bool (decide (x ∈ ps.take q)))

theorem seen_start (ps : List Int) : Seen (.map []) ps 0 := by
  refine ⟨isMap_empty, fun x => ?_⟩
  rw [List.take_zero]
  rfl

theorem seen_step {D2 : DataW Unit} {ps : List Int} {q : Nat} (h : Seen D2 ps q) {x : Int} (hx : ps[q]? = some x) : Seen (D2.put (.int .i32 x) (.lit (.bool true))) ps (q + 1) := by
  have hkl : WideAt.IsKeyLit (.int .i32 x) := trivial
  have htk : ps.take (q + 1) = ps.take q ++ [x] := by rw [List.take_add_one, hx]; rfl
  refine ⟨h.isMap.put _ _, fun y => ?_⟩
  by_cases e : y = x
  · subst e
    rw [atKey_put_same h.isMap hkl, htk]
    simp
  · rw [atKey_put_other (by simpa using e), h.at' y, htk]
    simp [e]

theorem plainBool_inv {v : Value} {b : Bool} {pp : List MemPlace} (h : plainElem (H := Unit) Try.prog 4 v = some (.lit (.bool b), pp)) : v = .bool b := by
  unfold plainElem at h
  rw [Try.underlying4] at h
  cases v <;> simp at h
  rw [h.1]

theorem seen_look {w : World} {B n : Nat} {D2 : DataW Unit} {ps : List Int} {q : Nat} {x : Int} (hown : w.ownsMap Try.prog 21 (plainElem Try.prog 4) B n D2) (hs : Seen D2 ps q) (hk : keyOf Try.prog 21 (.int .i32 x) = some (.int .i32 x)) :
    (Instr.lookup 28 (.map (some B)) (.int .i32 x) false).run Try.prog w = .ok (.bool (decide (x ∈ ps.take q))) w := by
  obtain ⟨v, pp, hrun, hv⟩ := hown.lookup law21 Try.underlying28 (zero4 w) (plainElem_bool Try.underlying4 false) hk
  rw [hs.at' x] at hv
  rw [plainBool_inv hv] at hrun
  exact hrun

theorem turn_look {w : World} {B n : Nat} {D : DataW Unit} {x : Int} {t : ByteArray} (hown : w.ownsMap Try.prog 3 (plainElem Try.prog 9) B n D) (hk : keyOf Try.prog 3 (.int .i64 x) = some (.int .i64 x)) (hD : Maps.has D (.int .i64 x) = true) (hat : ∀ zd, D.atKey (.int .i64 x) zd = .lit (.string t.data.toList)) :
    (Instr.lookup 25 (.map (some B)) (.int .i64 x) true).run Try.prog w = .ok (.tuple #[.string t, .bool true]) w := by
  obtain ⟨v, pp, hrun, hv⟩ := hown.look_ok law3 Try.underlying25 (zero9 w) (plainElem_string Try.underlying9 (s := ⟨#[]⟩) (by decide)) hk
  rw [hat] at hv
  obtain ⟨s, rfl, h2, _⟩ := plainElem_string_inv Try.underlying9 hv
  simp only [Prod.mk.injEq, DataW.lit.injEq, Lit.string.injEq] at h2
  have e : t = s := by
    apply ByteArray.ext
    apply Array.toList_inj.1
    exact h2.1
  rw [hD, ← e] at hrun
  exact hrun

theorem not_mem_take {ps : List Int} (hnd : ps.Nodup) {q : Nat} {x : Int} (hx : ps[q]? = some x) : x ∉ ps.take q := by
  intro hm
  obtain ⟨i, hi⟩ := List.getElem?_of_mem hm
  have hiq : i < q := by
    have := (List.getElem?_eq_some_iff.1 hi).1
    rw [List.length_take] at this
    omega
  rw [List.getElem?_take_of_lt hiq] at hi
  obtain ⟨hq, hxq⟩ := List.getElem?_eq_some_iff.1 hx
  obtain ⟨hi', hxi⟩ := List.getElem?_eq_some_iff.1 hi
  have := (List.pairwise_iff_getElem.1 hnd) i q hi' hq hiq
  exact this (by rw [hxi, hxq])

set_option maxRecDepth 100000 in
set_option maxHeartbeats 4000000 in
theorem walk (a0 : Option Addr) (n0 c0 : Nat) (ks : List Int) (a1 : Option Addr) (n1 c1 : Nat) (xs : List ByteArray) (w : World) (h0 : n0 ≤ maxLen) (h1 : n1 ≤ maxLen) (hn0 : ks.length = n0) (hn1 : xs.length = n1) (hxs : ∀ s ∈ xs, s.size ≤ maxLen)
    (hks : ∀ x ∈ ks, -2147483648 ≤ x ∧ x ≤ 2147483647) (hk : CellsI w w.heap.size a0 ks) (hx : CellsS w w.heap.size a1 xs) (z0 : a0 = none → c0 = 0) (z1 : a1 = none → c1 = 0) :
    Calls Try.prog 3 #[.slice a0 n0 c0, .slice a1 n1 c1] w fun e w' => e = .returned (.bool true) ∧ Below w.heap.size w w' := by
  have HA := hid (bytes4_any a0 a1 n0 c0 n1 c1 xs w h0 h1 hn1 hxs hx)
  unfold maxLen at h0 h1
  have HN0 := hid hn0
  have HN1 := hid hn1
  have HKS := hid hks
  have HK := hid hk
  have HX := hid hx
  have HZ0 := hid z0
  have HZ1 := hid z1
  clear hn0 hn1 hxs hks hk hx z0 z1
  go_enter Try.func3, Try.ntmps3
  go_wp2_with fail
  refine Calls.mono HA.out ?_
  rintro e w' ⟨b, rfl, hb, rfl⟩
  cases b
  · go_wp2
    go_ret
    exact ⟨rfl, Below.refl _ _⟩
  have hle := hb rfl
  clear hb HA
  go_upto_region 5 with fail
  go_cut [5] (fun s w2 => s = .int .i64 ((4 * n0 + 16 * n1 : Nat) : Int) ∧ w' = w2)
  case first => as_aux_lemma =>
    go_wp2
    go_meet
    case rel => exact ⟨by go_num, rfl⟩
  case rest =>
    obtain ⟨rfl, rfl⟩ := hcut
    by_cases htot : 1048576 < 4 * n0 + 16 * n1
    · as_aux_lemma =>
        go_wp2
        go_ret
        exact ⟨rfl, Below.refl _ _⟩
    go_upto_block 0 with fail
    go_cut [5, 6] (fun _ _ w2 => w' = w2)
    case first => as_aux_lemma =>
      go_wp2_with fail
      go_loop [5, 6] (fun z i => ∃ k : Nat, k ≤ n1 ∧ i = .int .i64 k ∧ z = .int .i64 ((4 * n0 + 16 * n1 + slen xs k : Nat) : Int)) (fun _ i => n1 - (RowKit.intOf i).toNat)
      case atStart => exact ⟨0, Nat.zero_le _, rfl, by rw [slen_zero]; rfl⟩
      case round =>
        obtain ⟨k, hk, rfl, rfl⟩ := hrel
        have hsl := slen_le xs k
        by_cases hlt : k < n1
        · obtain ⟨x, hx⟩ := str_at xs k (by rw [HN1.out]; exact hlt)
          have hs := slen_succ xs k x hx
          have hsl1 := slen_le xs (k + 1)
          have hxl : x.size ≤ 1048576 := by omega
          obtain ⟨g, o, rfl, _, hc1⟩ := HX.out k x hx
          have HS := hid hs
          clear hx hs hsl1
          go_wp2
          · go_ret
            exact ⟨rfl, Below.refl _ _⟩
          · have hS := HS.out
            go_round
            case rel => exact ⟨k + 1, by omega, by go_num, by rw [hS]; go_num⟩
            case measure => simp [RowKit.intOf]; omega
        · obtain rfl : k = n1 := by omega
          go_wp2
          go_meet
          case rel => rfl
    case rest =>
      subst hcut
      have hnn := fun (w : World) (a : Option Addr) (l c : Nat) => run_neq_slice_nil_any (P := Try.prog) w 22 21 a l c 0 0 Try.underlying22
      go_upto_if 59 with fail
      go_cut [0] (HoldsI w' n0 ks)
      case first => as_aux_lemma =>
        cases a0 with
        | none =>
          go_wp2
          go_meet
          case rel => exact ⟨none, c0, rfl, HK.out, Below.refl _ _⟩
        | some ad =>
          have hmk := run_make_row' (P := Try.prog) 22 21 (.int .i32 0) 4 Try.underlying22 info21 rfl .i64 .i64 n0 (by omega) (by omega)
          have hrow := World.rowIs_made w' (.int .i32 0) n0 21
          go_wp2
          go_loopw [8] (fun i wr => ∃ k : Nat, k ≤ n0 ∧ i = .int .i64 k ∧ wr.rowIs w'.heap.size 21 n0 (cpI ks k) ∧ Below w'.heap.size w' wr) (fun i _ => n0 - (RowKit.intOf i).toNat)
          case atStart => exact ⟨0, Nat.zero_le _, rfl, hrow.congr (fun j _ => by simp [cpI]), (Below.refl _ _).alloc (Nat.le_refl _) _⟩
          case round =>
            clear hrow
            obtain ⟨k, hk, rfl, hrow, hbel⟩ := hrel
            by_cases hlt : k < n0
            · obtain ⟨x, hx⟩ := int_at ks k (by rw [HN0.out]; exact hlt)
              obtain ⟨g, o, had, hg, hc0⟩ := HK.out k x hx
              cases had
              have q1 : wr.cell? ⟨g, o + k, none⟩ = some (.int .i32 x) := (hbel.cell (p := ⟨g, o + k, none⟩) hg).trans hc0
              have q2 := hrow.cell (i := k) hlt
              have q3 := hrow.frozen k
              have hstep := cpI_step hx hrow
              have hbs := hbel.setCell (p := ⟨w'.heap.size, k, none⟩) (Nat.le_refl _) (.int .i32 x)
              clear hx hrow hbel hc0
              go_wp2
              go_roundw
              case rel => exact ⟨k + 1, by omega, by go_num, hstep, hbs⟩
              case measure => simp [RowKit.intOf]; omega
            · obtain rfl : k = n0 := by omega
              have hres : HoldsI w' k ks (.slice (some ⟨w'.heap.size, 0, none⟩) k k) wr := ⟨_, _, rfl, cells_of_cpI HN0.out hrow, hbel⟩
              clear hrow hbel
              go_wp2
              go_meet
              case rel => exact hres
      case rest =>
        clear hnn
        obtain ⟨b0, d0, rfl, hK1, hb1⟩ := hcut
        rename World => w1
        have HX1 := hid (HX.out.below hb1 hb1.size)
        have HK1 := hid hK1
        clear hK1 HK HX HZ0
        have hnn := fun (w : World) (a : Option Addr) (l c : Nat) => run_neq_slice_nil_any (P := Try.prog) w 23 9 a l c 0 0 Try.underlying23
        go_upto_if 78 with fail
        go_cut [1] (HoldsS w1 n1 xs)
        case first => as_aux_lemma =>
          cases a1 with
          | none =>
            go_wp2
            go_meet
            case rel => exact ⟨none, c1, rfl, HX1.out, Below.refl _ _⟩
          | some ad =>
            have hmk := run_make_row' (P := Try.prog) 23 9 (.string ⟨#[]⟩) 16 Try.underlying23 info9 rfl .i64 .i64 n1 (by omega) (by omega)
            have hrow := World.rowIs_made w1 (.string ⟨#[]⟩) n1 9
            go_wp2
            go_loopw [10] (fun i wr => ∃ k : Nat, k ≤ n1 ∧ i = .int .i64 k ∧ wr.rowIs w1.heap.size 9 n1 (cpS xs k) ∧ Below w1.heap.size w1 wr) (fun i _ => n1 - (RowKit.intOf i).toNat)
            case atStart => exact ⟨0, Nat.zero_le _, rfl, hrow.congr (fun j _ => by simp [cpS]), (Below.refl _ _).alloc (Nat.le_refl _) _⟩
            case round =>
              clear hrow
              obtain ⟨k, hk, rfl, hrow, hbel⟩ := hrel
              by_cases hlt : k < n1
              · obtain ⟨x, hx⟩ := str_at xs k (by rw [HN1.out]; exact hlt)
                obtain ⟨g, o, had, hg, hc0⟩ := HX1.out k x hx
                cases had
                have q1 : wr.cell? ⟨g, o + k, none⟩ = some (.string x) := (hbel.cell (p := ⟨g, o + k, none⟩) hg).trans hc0
                have q2 := hrow.cell (i := k) hlt
                have q3 := hrow.frozen k
                have hstep := cpS_step hx hrow
                have hbs := hbel.setCell (p := ⟨w1.heap.size, k, none⟩) (Nat.le_refl _) (.string x)
                clear hx hrow hbel hc0
                go_wp2
                go_roundw
                case rel => exact ⟨k + 1, by omega, by go_num, hstep, hbs⟩
                case measure => simp [RowKit.intOf]; omega
              · obtain rfl : k = n1 := by omega
                have hres : HoldsS w1 k xs (.slice (some ⟨w1.heap.size, 0, none⟩) k k) wr := ⟨_, _, rfl, cells_of_cpS HN1.out hrow, hbel⟩
                clear hrow hbel
                go_wp2
                go_meet
                case rel => exact hres
        case rest =>
          clear hnn
          obtain ⟨b1, d1, rfl, hX2, hb2⟩ := hcut
          rename World => w2
          have HX2 := hid hX2
          have HK2 := hid (HK1.out.below hb2 hb2.size)
          have hbel2 : Below w'.heap.size w' w2 := hb1.trans (hb2.mono hb1.size)
          clear hX2 HK1 HX1 HZ1 hb1 hb2
          go_upto_if 101 with fail
          go_cut [11] (fun s w3 => s = .int .i64 ((min n0 n1 : Nat) : Int) ∧ w2 = w3)
          case first => as_aux_lemma =>
            by_cases hlt : n1 < n0
            · have hmin : min n0 n1 = n1 := by omega
              have HM := hid hmin
              clear hmin
              go_wp2
              go_meet
              case rel => exact ⟨by rw [HM.out], rfl⟩
            · have hmin : min n0 n1 = n0 := by omega
              have HM := hid hmin
              clear hmin
              go_wp2
              go_meet
              case rel => exact ⟨by rw [HM.out], rfl⟩
          case rest =>
            obtain ⟨rfl, rfl⟩ := hcut
            obtain ⟨N, hN⟩ : ∃ N, N = min n0 n1 := ⟨_, rfl⟩
            rw [← hN]
            have hN0 : N ≤ n0 := by omega
            have hN1 : N ≤ n1 := by omega
            clear hN
            have hmm : ∀ (w : World) (k : IntKind) (x : Int), (Instr.makeMap 25 (some (.int k x))).run Try.prog w = .ok (.map (some w.heap.size)) (w.alloc (.map #[] 0)) := by
              intro w k x
              simp [Instr.makeMap, run_underlying Try.underlying25, asInt, asIntOf, Result.andThen]
            go_upto_block 6 with fail
            go_cut [13] (fun _ w4 => ∃ D : DataW Unit, Hid (w4.ownsMap Try.prog 3 (plainElem Try.prog 9) w2.heap.size N D) ∧ Hid (Built D ks N) ∧ Below w2.heap.size w2 w4)
            case first => as_aux_lemma =>
              have hm0 : (w2.alloc (.map #[] 0)).ownsMap Try.prog 3 (plainElem (H := Unit) Try.prog 9) w2.heap.size 0 (.map []) := World.ownsMap_made _ _ _ _
              go_wp2_with fail
              go_loopw [13] (fun i wr => ∃ k : Nat, k ≤ N ∧ i = .int .i64 k ∧ ∃ D : DataW Unit, Hid (wr.ownsMap Try.prog 3 (plainElem Try.prog 9) w2.heap.size k D) ∧ Hid (Built D ks k) ∧ Below w2.heap.size w2 wr) (fun i _ => N - (RowKit.intOf i).toNat)
              case atStart => exact ⟨0, Nat.zero_le _, rfl, _, hm0, built_start ks, (Below.refl _ _).alloc (Nat.le_refl _) _⟩
              case round =>
                clear hm0
                obtain ⟨k, hk, rfl, D, HO, HB, hbel⟩ := hrel
                by_cases hlt : k < N
                · obtain ⟨x, hx⟩ := int_at ks k (by rw [HN0.out]; omega)
                  obtain ⟨t, ht⟩ := str_at xs k (by rw [HN1.out]; omega)
                  obtain ⟨gk, ok, rfl, hgk, hck⟩ := HK2.out k x hx
                  obtain ⟨gx, ox, rfl, hgx, hcx⟩ := HX2.out k t ht
                  have q1 : wr.cell? ⟨gk, ok + k, none⟩ = some (.int .i32 x) := (hbel.cell (p := ⟨gk, ok + k, none⟩) hgk).trans hck
                  have q2 : wr.cell? ⟨gx, ox + k, none⟩ = some (.string t) := (hbel.cell (p := ⟨gx, ox + k, none⟩) hgx).trans hcx
                  obtain ⟨hx1, hx2⟩ := HKS.out x (List.mem_of_getElem? hx)
                  have htl : t.size ≤ maxLen := by
                    have h1 := slen_succ xs k t ht
                    have h2 := slen_le xs (k + 1)
                    unfold maxLen
                    omega
                  have hwx : (Lit.int .i64 x).wf = true := WalkArith.wf_i64 (by omega)
                  obtain ⟨wu, hupd, hown', hgu⟩ := (World.ownsMap.drew HO.out).update law3 Try.underlying25 (by unfold maxLen; omega) (keyOf_int_mk Try.underlying3 hwx) (plainElem_string Try.underlying9 htl)
                  have HB' := hid (built_step HB.out hx (.lit (.string t.data.toList)))
                  have hbu : Below w2.heap.size w2 wu := hbel.drew.grown hgu hbel.size (fun k h => by cases h; exact Nat.le_refl _)
                  have HO' := hid hown'
                  have hi1 : (k : Int) < n0 := by omega
                  have hi2 : (k : Int) < n1 := by omega
                  clear hx ht hck hcx hown' hgu HO HB hbel hwx htl
                  go_wp2
                  go_region
                  go_wp2
                  go_roundw
                  case rel => exact ⟨k + 1, by omega, by go_num, _, HO', HB', hbu⟩
                  case measure => simp [RowKit.intOf]; omega
                · obtain rfl : k = N := by omega
                  go_wp2
                  go_meet
                  case rel => exact ⟨D, HO, HB, hbel⟩
            case rest =>
              clear hmm
              obtain ⟨D, HO, HB, hb4⟩ := hcut
              rename World => w4
              have hrange : ∀ x, Maps.has D (.int .i64 x) = true → -2147483648 ≤ x ∧ x ≤ 2147483647 := by
                intro x hx
                obtain ⟨i, _, hi⟩ := HB.out.only x hx
                exact HKS.out x (List.mem_of_getElem? hi)
              have hlt4 : w2.heap.size < w4.heap.size := HO.out.lt
              have HRG := hid hrange
              clear hrange
              go_wp2_with fail
              refine (zzargs_any w2.heap.size N D w4 HO.out (by omega) HRG.out).mono ?_
              rintro e w5 ⟨ps, ts, g4, g5, c5, rfl, hwh, o4, o5, hb5⟩
              have hm5 := ownsMap_below HO.out hb5 hlt4
              have HW := hid hwh
              have hsz : Maps.size D = ps.length := hwh.size
              have HSZ := hid hsz
              have HO5 := hid hm5
              have hb25 : Below w2.heap.size w2 w5 := hb4.trans (hb5.mono (Nat.le_of_lt hlt4))
              have HK5 := hid (HK2.out.below hb25 hb25.size)
              have hbel5 : Below w'.heap.size w' w5 := hbel2.trans (hb25.mono hbel2.size)
              have HP := hid (cells_of_ownI o4)
              have HT := hid (cells_of_ownS o5 hwh.len)
              have hpl : ps.length ≤ N := by
                rw [← hsz]
                exact hm5.size_le
              have hlt5 : w2.heap.size < w5.heap.size := Nat.lt_of_lt_of_le hlt4 hb5.size
              clear hwh o4 o5 hb5 hb4 HO HK2 hb25 hsz hm5
              go_upto_region 37 with fail
              go_cut [137] (fun s w6 => s = .bool false ∧ w5 = w6)
              case first => as_aux_lemma =>
                have hlen := fun ty => World.ownsMap.len HO5.out Try.underlying25 ty
                rw [HSZ.out] at hlen
                have hne : ((ps.length : Int) != (ps.length : Int)) = false := by simp
                go_wp2
                go_meet
                case rel => exact ⟨rfl, rfl⟩
              case rest =>
                obtain ⟨rfl, rfl⟩ := hcut
                have hmm : ∀ (w : World) (k : IntKind) (x : Int), (Instr.makeMap 28 (some (.int k x))).run Try.prog w = .ok (.map (some w.heap.size)) (w.alloc (.map #[] 0)) := by
                  intro w k x
                  simp [Instr.makeMap, run_underlying Try.underlying28, asInt, asIntOf, Result.andThen]
                go_upto_block 8 with fail
                go_cut [17] (fun _ w6 => ∃ D2 : DataW Unit, Hid (w6.ownsMap Try.prog 21 (plainElem Try.prog 4) w5.heap.size ps.length D2) ∧ Hid (Seen D2 ps ps.length) ∧ Below w5.heap.size w5 w6)
                case first => as_aux_lemma =>
                  have hm0 : (w5.alloc (.map #[] 0)).ownsMap Try.prog 21 (plainElem (H := Unit) Try.prog 4) w5.heap.size 0 (.map []) := World.ownsMap_made _ _ _ _
                  go_wp2_with fail
                  go_loopw [17] (fun i wr => ∃ q : Nat, q ≤ ps.length ∧ i = .int .i64 q ∧ ∃ D2 : DataW Unit, Hid (wr.ownsMap Try.prog 21 (plainElem Try.prog 4) w5.heap.size q D2) ∧ Hid (Seen D2 ps q) ∧ Below w5.heap.size w5 wr) (fun i _ => ps.length - (RowKit.intOf i).toNat)
                  case atStart => exact ⟨0, Nat.zero_le _, rfl, _, hm0, seen_start ps, (Below.refl _ _).alloc (Nat.le_refl _) _⟩
                  case round =>
                    clear hm0 hmm
                    obtain ⟨q, hq, rfl, D2, HO2, HS2, hbel⟩ := hrel
                    by_cases hlt : q < ps.length
                    · obtain ⟨x, hx⟩ := int_at ps q hlt
                      obtain ⟨t, ht, htm, hat⟩ := HW.out.at' q x hx
                      obtain ⟨gp, op, hap, hgp, hcp⟩ := HP.out q x hx
                      cases hap
                      obtain ⟨gt, ot, hat', hgt, hct⟩ := HT.out q t ht
                      cases hat'
                      have hD : Maps.has D (.int .i64 x) = true := (HW.out.mem x).1 (List.mem_of_getElem? hx)
                      obtain ⟨hx1, hx2⟩ := HRG.out x hD
                      have q1 : wr.cell? ⟨g4, q, none⟩ = some (.int .i32 x) := by
                        have := (hbel.cell (p := ⟨g4, 0 + q, none⟩) hgp).trans hcp
                        rwa [Nat.zero_add] at this
                      have hw32 : (Lit.int .i32 x).wf = true := WalkArith.wf_i32 (by omega)
                      have hw64 : (Lit.int .i64 x).wf = true := WalkArith.wf_i64 (by omega)
                      have hk32 := keyOf_int_mk Try.underlying21 hw32
                      have hrun1 := seen_look HO2.out HS2.out hk32
                      have hno : decide (x ∈ ps.take q) = false := by
                        have := not_mem_take HW.out.nodup hx
                        simpa using this
                      rw [hno] at hrun1
                      have hqm : q < maxLen := by unfold maxLen; omega
                      have HS2' := hid (seen_step HS2.out hx)
                      have HX := hid hx
                      clear hx hno
                      go_wp2_with (at_mapUpdate; refine wpList_mapUpdate_own _ rfl _ _ _ 28 rfl 21 4 law21 Try.underlying28 _ w5.heap.size q _ rfl HO2.out hqm _ _ _ rfl rfl hk32 _ [] (plainElem_bool Try.underlying4 true) ?_)
                      intro w6 hown6 hg6
                      have hb6 : Below w5.heap.size w5 w6 := hbel.grown hg6 hbel.size (fun k h => by cases h; exact Nat.le_refl _)
                      have hrun2 := turn_look (ownsMap_below HO5.out hb6 hlt5) (keyOf_int_mk Try.underlying3 hw64) hD hat
                      have q2 : w6.cell? ⟨g5, q, none⟩ = some (.string t) := by
                        have := (hb6.cell (p := ⟨g5, 0 + q, none⟩) hgt).trans hct
                        rwa [Nat.zero_add] at this
                      have HO6 := hid hown6
                      have hi1 : (q : Int) < ps.length := by omega
                      clear hown6 hg6 hbel hrun1 hat hD hcp hct q1
                      go_wp2
                      go_roundw
                      case rel => exact ⟨q + 1, by omega, by go_num, _, HO6, HS2', hb6⟩
                      case measure => simp [RowKit.intOf]; omega
                    · obtain rfl : q = ps.length := by omega
                      go_wp2
                      go_meet
                      case rel => exact ⟨D2, HO2, HS2, hbel⟩
                case rest =>
                  clear hmm
                  obtain ⟨D2, HO2, HS2, hb6⟩ := hcut
                  rename World => w6
                  have HK6 := hid (HK5.out.below hb6 hb6.size)
                  have hbel6 : Below w'.heap.size w' w6 := hbel5.trans (hb6.mono hbel5.size)
                  go_upto_block 10 with fail
                  go_cut [21] (fun _ w7 => w6 = w7)
                  case first => as_aux_lemma =>
                    go_wp2_with fail
                    go_loop [21] (fun i => ∃ q : Nat, q ≤ N ∧ i = .int .i64 q) (fun i => N - (RowKit.intOf i).toNat)
                    case atStart => exact ⟨0, Nat.zero_le _, rfl⟩
                    case round =>
                      obtain ⟨q, hq, rfl⟩ := hrel
                      by_cases hlt : q < N
                      · obtain ⟨x, hx⟩ := int_at ks q (by rw [HN0.out]; omega)
                        obtain ⟨gk, ok, rfl, hgk, hck⟩ := HK6.out q x hx
                        obtain ⟨hx1, hx2⟩ := HKS.out x (List.mem_of_getElem? hx)
                        have hw32 : (Lit.int .i32 x).wf = true := WalkArith.wf_i32 (by omega)
                        have hrun1 := seen_look HO2.out HS2.out (keyOf_int_mk Try.underlying21 hw32)
                        have hyes : decide (x ∈ ps.take ps.length) = true := by
                          have := (HW.out.mem x).2 (HB.out.all q x hlt hx)
                          simpa using this
                        rw [hyes] at hrun1
                        have hi1 : (q : Int) < n0 := by omega
                        clear hx hyes hw32
                        go_wp2
                        go_round
                        case rel => exact ⟨q + 1, by omega, by go_num⟩
                        case measure => simp [RowKit.intOf]; omega
                      · obtain rfl : q = N := by omega
                        go_wp2
                        go_meet
                        case rel => rfl
                  case rest =>
                    subst hcut
                    go_wp2
                    go_ret
                    exact ⟨rfl, hbel6⟩
end Go.Proofs.Qxb6001593a.fnTenantTurnsArgsListsEachEntryOnce
