/-
  Walks: appendCopyText and ZZAppendCopyText, by their contract.
-/
import Derived.Test.Qxb6601134aRows
import Derived.Test.Qxb6601134aWalkB
import Derived.Lib.AppendStr
import Derived.Laws.AppendOwnNone
namespace Go.Proofs.Qxb6601134a
open Go.RowKit

/-- What the buffer owns so far. -/
structure OSt (base : Nat) (w wr : World) (v : Value) (l : List Int) : Prop where
  own : wr.ownsRow base 5 1 v l.length (bcells l)
  bel : Below base w wr

theorem OSt.app {base : Nat} {w wr w1 : World} {v v' : Value} {l : List Int} (h : OSt base w wr v l) (hb : base ≤ w.heap.size) (r : List Int) (m : Nat) (hm : r.length = m)
    (hown : w1.ownsRow base 5 1 v' (l.length + m) (bcells l ++ bcells r)) (hg : wr.grownBy w1 v.ownBlock) : OSt base w w1 v' (l ++ r) := by
  refine ⟨?_, h.bel.grown hg (Nat.le_trans hb h.bel.size) (fun k hk => (h.own.lt k hk).1)⟩
  rw [List.length_append, hm, show bcells (l ++ r) = bcells l ++ bcells r by simp [bcells]]
  exact hown

theorem byte_oneCell (r : List Int) : ∀ u ∈ bcells r, u.oneCell' = true := by
  intro u hu
  obtain ⟨b, _, rfl⟩ := List.mem_map.1 hu
  rfl

/-- The answer: a slice that owns the buffer's bytes and the text, written. -/
def AnsA (base : Nat) (l : List Int) (w : World) (e : Ending) (w' : World) : Prop :=
  ∃ a c, e = .returned (.slice a l.length c) ∧ w'.ownsRow base 5 1 (.slice a l.length c) l.length (bcells l) ∧ Below base w w'

theorem OSt.ans {base : Nat} {w wr : World} {v : Value} {l : List Int} (h : OSt base w wr v l) : AnsA base l w (.returned v) wr := by
  obtain ⟨hl, ⟨hv, h0⟩ | ⟨g, cap, cur, hv, r⟩⟩ := h.own
  · refine ⟨none, 0, ?_, ?_, h.bel⟩
    · rw [hv, h0]
    · have := h.own
      rw [hv] at this
      rw [h0] at this ⊢
      exact this
  · refine ⟨some ⟨g, 0, none⟩, cap, by rw [hv], ?_, h.bel⟩
    have := h.own
    rw [hv] at this
    exact this

set_option maxHeartbeats 1000000 in
theorem act_some (base : Nat) (vb : Value) (bl tl : List Int) (g n cap : Nat) (w : World) (hown : w.ownsRow base 5 1 vb bl.length (bcells bl)) (hbase : base ≤ w.heap.size) (hg : g < base) (hn : tl.length = n) (hn1 : n ≤ 1048576) (hbl : bl.length ≤ 1048576) (hcap : n ≤ cap) (hcap1 : cap ≤ maxLen)
    (hcell : ∀ (j : Nat) z, tl[j]? = some z → w.cell? ⟨g, j, none⟩ = some (.int .u8 z)) :
    Calls Try.prog 15 #[vb, .slice (some ⟨g, 0, none⟩) n cap] w fun e w' => AnsA base (bl ++ enc tl) w e w' := by
  obtain ⟨i0, hi, hz0, hz1, hz2⟩ := info_parts info5
  unfold maxLen at hcap1
  have HN : Hid (tl.length = n) := hn
  have HC : Hid (∀ (j : Nat) z, tl[j]? = some z → w.cell? ⟨g, j, none⟩ = some (.int .u8 z)) := hcell
  have hst0 : OSt base w w vb (bl ++ enc (tl.take 0)) := by simp only [List.take_zero, enc_nil, List.append_nil]; exact ⟨hown, Below.refl _ _⟩
  clear hn hcell hown
  go_enter Try.func15, Try.ntmps15
  go_wp2
  go_loopw [0, 5, 11] (fun v s i wr => ∃ k st : Nat, k ≤ n ∧ st ≤ k ∧ i = .int .i64 k ∧ s = .int .i64 st ∧ OSt base w wr v (bl ++ enc (tl.take st)) ∧ Hid (Written tl st k)) (fun _ _ i _ => n - (intOf i).toNat)
  case atStart => exact ⟨0, 0, Nat.zero_le _, Nat.zero_le _, rfl, rfl, hst0, written_start tl⟩
  case round =>
    clear hst0
    obtain ⟨k, st, hk, hsk, rfl, rfl, hst, hwr⟩ := hrel
    have hel := enc_take_le tl st
    have hlen : (bl ++ enc (tl.take st)).length ≤ 4194304 := by rw [List.length_append]; rw [HN.out] at hel; omega
    have hsz := Nat.le_trans hbase hst.bel.size
    by_cases hlt : k < n
    · obtain ⟨z, hz⟩ := list_at tl k (by rw [HN.out]; exact hlt)
      have hc1 : wr.cell? ⟨g, k, none⟩ = some (.int .u8 z) := (hst.bel.cell (p := ⟨g, k, none⟩) hg).trans (HC.out k z hz)
      cases hsp : spec z
      · have HW : Hid (Written tl st (k + 1)) := written_plain tl st k z hsk hz hsp hwr.out
        unfold spec at hsp
        simp only [Bool.or_eq_false_iff] at hsp
        obtain ⟨⟨⟨e1, e2⟩, e3⟩, e4⟩ := hsp
        clear hz
        go_wp2
        go_roundw
        case rel => exact ⟨k + 1, st, by omega, by omega, by go_num, rfl, hst, HW⟩
        case measure => simp [intOf]; omega
      · have HW : Hid _ := written_spec tl st k z hz hsp hwr.out
        have hcs : ¬ cap = st := by omega
        have hi1 : (st : Int) ≤ k := by omega
        have hi2 : (k : Int) ≤ cap := by omega
        have hml : ((tl.take k).drop st).length = k - st := by rw [List.length_drop, List.length_take, HN.out]; omega
        have hnews : ∀ (j : Nat) u, (bcells ((tl.take k).drop st))[j]? = some u → wr.cell? ((⟨g, st, none⟩ : Addr).add j) = some u := by
          intro j u hj
          rw [bcells, List.getElem?_map, List.getElem?_drop] at hj
          by_cases hjk : st + j < k
          · rw [List.getElem?_take_of_lt hjk] at hj
            obtain ⟨y, hy⟩ := list_at tl (st + j) (by rw [HN.out]; omega)
            rw [hy] at hj
            simp only [Option.map_some, Option.some.injEq] at hj
            rw [← hj, Addr.add_lit]
            exact (hst.bel.cell (p := ⟨g, st + j, none⟩) hg).trans (HC.out _ _ hy)
          · rw [List.getElem?_eq_none (by rw [List.length_take]; omega)] at hj
            cases hj
        have HW : Hid (bl ++ enc (tl.take st) ++ (tl.take k).drop st ++ [92, code z] = bl ++ enc (tl.take (k + 1))) := by
          have := HW.out
          show _ = _
          rw [← this]
          simp [List.append_assoc]
        have hz' : z = 92 ∨ z = 9 ∨ z = 10 ∨ z = 13 := by
          unfold spec at hsp
          simp only [Bool.or_eq_true, beq_iff_eq] at hsp
          omega
        obtain ⟨L, hL⟩ : ∃ L, L = bl ++ enc (tl.take st) := ⟨_, rfl⟩
        rw [← hL] at hst hlen HW
        clear hsp hL
        rcases hz' with rfl | rfl | rfl | rfl
        · go_wp2_with (at_builtin; refine wpList_append_own _ rfl (.tmp 25) (.tmp 29) 22 rfl base 5 i0 (.int .u8 0) 1 1 Try.underlying22 hi hz0 hz1 hz2 rfl (by decide) _ _ _ rfl hst.own ⟨g, st, none⟩ (k - st) (cap - st) (bcells ((tl.take k).drop st)) rfl ?a10 ?a11 (byte_oneCell _) ?a12 ?a13 ?a14 ?_)
          case a10 => rw [bcells, List.length_map, hml, Nat.mul_one]
          case a11 => exact hnews
          case a12 => unfold maxLen; omega
          case a13 => omega
          case a14 => exact hsz
          intro v1 w1 hown1 hg1 _
          have hst1 := hst.app hbase _ (k - st) hml hown1 hg1
          have hsz1 := Nat.le_trans hbase hst1.bel.size
          have hlen1 : (L ++ (tl.take k).drop st).length ≤ 6000000 := by rw [List.length_append, hml]; omega
          obtain ⟨L1, hL1⟩ : ∃ L1, L1 = L ++ (tl.take k).drop st := ⟨_, rfl⟩
          rw [← hL1] at hst1 HW hlen1
          clear hown1 hg1 hst hc1 hnews hL1
          go_wp2_with (at_builtin; refine Lib.wpList_append_own_string _ rfl (.tmp 30) (.tmp 31) 22 9 rfl base 5 i0 Try.underlying22 Try.underlying9 hi hz0 hz1 hz2 _ _ _ rfl hst1.own ⟨#[92, 92]⟩ rfl ?b11 ?b12 ?b13 ?_)
          case b11 => unfold maxLen; show L1.length + 2 ≤ _; omega
          case b12 => show L1.length + 2 ≤ _; omega
          case b13 => exact hsz1
          intro v2 w2 hown2 hg2 _
          have hst2 := hst1.app hbase [92, code 92] 2 rfl hown2 hg2
          rw [HW.out] at hst2
          clear hown2 hg2 hst1
          go_wp2
          go_roundw
          case rel => exact ⟨k + 1, k + 1, by omega, by omega, by go_num, by go_num, hst2, written_here tl (k + 1)⟩
          case measure => simp [intOf]; omega
        · go_wp2_with (at_builtin; refine wpList_append_own _ rfl (.tmp 25) (.tmp 29) 22 rfl base 5 i0 (.int .u8 0) 1 1 Try.underlying22 hi hz0 hz1 hz2 rfl (by decide) _ _ _ rfl hst.own ⟨g, st, none⟩ (k - st) (cap - st) (bcells ((tl.take k).drop st)) rfl ?a20 ?a21 (byte_oneCell _) ?a22 ?a23 ?a24 ?_)
          case a20 => rw [bcells, List.length_map, hml, Nat.mul_one]
          case a21 => exact hnews
          case a22 => unfold maxLen; omega
          case a23 => omega
          case a24 => exact hsz
          intro v1 w1 hown1 hg1 _
          have hst1 := hst.app hbase _ (k - st) hml hown1 hg1
          have hsz1 := Nat.le_trans hbase hst1.bel.size
          have hlen1 : (L ++ (tl.take k).drop st).length ≤ 6000000 := by rw [List.length_append, hml]; omega
          obtain ⟨L1, hL1⟩ : ∃ L1, L1 = L ++ (tl.take k).drop st := ⟨_, rfl⟩
          rw [← hL1] at hst1 HW hlen1
          clear hown1 hg1 hst hc1 hnews hL1
          go_wp2_with (at_builtin; refine Lib.wpList_append_own_string _ rfl (.tmp 30) (.tmp 31) 22 9 rfl base 5 i0 Try.underlying22 Try.underlying9 hi hz0 hz1 hz2 _ _ _ rfl hst1.own ⟨#[92, 116]⟩ rfl ?b21 ?b22 ?b23 ?_)
          case b21 => unfold maxLen; show L1.length + 2 ≤ _; omega
          case b22 => show L1.length + 2 ≤ _; omega
          case b23 => exact hsz1
          intro v2 w2 hown2 hg2 _
          have hst2 := hst1.app hbase [92, code 9] 2 rfl hown2 hg2
          rw [HW.out] at hst2
          clear hown2 hg2 hst1
          go_wp2
          go_roundw
          case rel => exact ⟨k + 1, k + 1, by omega, by omega, by go_num, by go_num, hst2, written_here tl (k + 1)⟩
          case measure => simp [intOf]; omega
        · go_wp2_with (at_builtin; refine wpList_append_own _ rfl (.tmp 25) (.tmp 29) 22 rfl base 5 i0 (.int .u8 0) 1 1 Try.underlying22 hi hz0 hz1 hz2 rfl (by decide) _ _ _ rfl hst.own ⟨g, st, none⟩ (k - st) (cap - st) (bcells ((tl.take k).drop st)) rfl ?a30 ?a31 (byte_oneCell _) ?a32 ?a33 ?a34 ?_)
          case a30 => rw [bcells, List.length_map, hml, Nat.mul_one]
          case a31 => exact hnews
          case a32 => unfold maxLen; omega
          case a33 => omega
          case a34 => exact hsz
          intro v1 w1 hown1 hg1 _
          have hst1 := hst.app hbase _ (k - st) hml hown1 hg1
          have hsz1 := Nat.le_trans hbase hst1.bel.size
          have hlen1 : (L ++ (tl.take k).drop st).length ≤ 6000000 := by rw [List.length_append, hml]; omega
          obtain ⟨L1, hL1⟩ : ∃ L1, L1 = L ++ (tl.take k).drop st := ⟨_, rfl⟩
          rw [← hL1] at hst1 HW hlen1
          clear hown1 hg1 hst hc1 hnews hL1
          go_wp2_with (at_builtin; refine Lib.wpList_append_own_string _ rfl (.tmp 30) (.tmp 31) 22 9 rfl base 5 i0 Try.underlying22 Try.underlying9 hi hz0 hz1 hz2 _ _ _ rfl hst1.own ⟨#[92, 110]⟩ rfl ?b31 ?b32 ?b33 ?_)
          case b31 => unfold maxLen; show L1.length + 2 ≤ _; omega
          case b32 => show L1.length + 2 ≤ _; omega
          case b33 => exact hsz1
          intro v2 w2 hown2 hg2 _
          have hst2 := hst1.app hbase [92, code 10] 2 rfl hown2 hg2
          rw [HW.out] at hst2
          clear hown2 hg2 hst1
          go_wp2
          go_roundw
          case rel => exact ⟨k + 1, k + 1, by omega, by omega, by go_num, by go_num, hst2, written_here tl (k + 1)⟩
          case measure => simp [intOf]; omega
        · go_wp2_with (at_builtin; refine wpList_append_own _ rfl (.tmp 25) (.tmp 29) 22 rfl base 5 i0 (.int .u8 0) 1 1 Try.underlying22 hi hz0 hz1 hz2 rfl (by decide) _ _ _ rfl hst.own ⟨g, st, none⟩ (k - st) (cap - st) (bcells ((tl.take k).drop st)) rfl ?a40 ?a41 (byte_oneCell _) ?a42 ?a43 ?a44 ?_)
          case a40 => rw [bcells, List.length_map, hml, Nat.mul_one]
          case a41 => exact hnews
          case a42 => unfold maxLen; omega
          case a43 => omega
          case a44 => exact hsz
          intro v1 w1 hown1 hg1 _
          have hst1 := hst.app hbase _ (k - st) hml hown1 hg1
          have hsz1 := Nat.le_trans hbase hst1.bel.size
          have hlen1 : (L ++ (tl.take k).drop st).length ≤ 6000000 := by rw [List.length_append, hml]; omega
          obtain ⟨L1, hL1⟩ : ∃ L1, L1 = L ++ (tl.take k).drop st := ⟨_, rfl⟩
          rw [← hL1] at hst1 HW hlen1
          clear hown1 hg1 hst hc1 hnews hL1
          go_wp2_with (at_builtin; refine Lib.wpList_append_own_string _ rfl (.tmp 30) (.tmp 31) 22 9 rfl base 5 i0 Try.underlying22 Try.underlying9 hi hz0 hz1 hz2 _ _ _ rfl hst1.own ⟨#[92, 114]⟩ rfl ?b41 ?b42 ?b43 ?_)
          case b41 => unfold maxLen; show L1.length + 2 ≤ _; omega
          case b42 => show L1.length + 2 ≤ _; omega
          case b43 => exact hsz1
          intro v2 w2 hown2 hg2 _
          have hst2 := hst1.app hbase [92, code 13] 2 rfl hown2 hg2
          rw [HW.out] at hst2
          clear hown2 hg2 hst1
          go_wp2
          go_roundw
          case rel => exact ⟨k + 1, k + 1, by omega, by omega, by go_num, by go_num, hst2, written_here tl (k + 1)⟩
          case measure => simp [intOf]; omega
    · obtain rfl : k = n := by omega
      have HE : Hid (bl ++ enc (tl.take st) ++ tl.drop st = bl ++ enc tl) := by
        have h1 := hwr.out
        rw [← HN.out] at h1
        have := written_end tl st h1
        show _ = _
        rw [← this, List.append_assoc]
      have hml : (tl.drop st).length = k - st := by rw [List.length_drop, HN.out]
      have hi1 : (st : Int) ≤ k := by omega
      obtain ⟨L, hL⟩ : ∃ L, L = bl ++ enc (tl.take st) := ⟨_, rfl⟩
      rw [← hL] at hst hlen HE
      clear hL
      by_cases hcs : cap = st
      · have hks : k = st := by omega
        subst hcs
        subst hks
        have hnil : tl.drop k = [] := List.eq_nil_of_length_eq_zero (by omega)
        rw [hnil] at HE
        clear hnil hml hi1
        go_wp2_with (at_builtin; refine wpList_append_own _ rfl (.tmp 36) (.tmp 39) 22 rfl base 5 i0 (.int .u8 0) 1 1 Try.underlying22 hi hz0 hz1 hz2 rfl (by decide) _ _ _ rfl hst.own ⟨g, 0, none⟩ 0 0 (bcells []) rfl rfl ?e1 (byte_oneCell _) ?e2 ?e3 ?e4 ?_)
        case e1 => intro j u hj; cases hj
        case e2 => unfold maxLen; omega
        case e3 => omega
        case e4 => exact hsz
        intro v1 w1 hown1 hg1 _
        have hst1 := hst.app hbase [] 0 rfl hown1 hg1
        rw [HE.out] at hst1
        have hans := hst1.ans
        clear hown1 hg1 hst hst1
        go_wp2
        go_ret
        exact hans
      · have hnews : ∀ (j : Nat) u, (bcells (tl.drop st))[j]? = some u → wr.cell? ((⟨g, st, none⟩ : Addr).add j) = some u := by
          intro j u hj
          rw [bcells, List.getElem?_map, List.getElem?_drop] at hj
          by_cases hjk : st + j < k
          · obtain ⟨y, hy⟩ := list_at tl (st + j) (by rw [HN.out]; omega)
            rw [hy] at hj
            simp only [Option.map_some, Option.some.injEq] at hj
            rw [← hj, Addr.add_lit]
            exact (hst.bel.cell (p := ⟨g, st + j, none⟩) hg).trans (HC.out _ _ hy)
          · rw [List.getElem?_eq_none (by rw [HN.out]; omega)] at hj
            cases hj
        go_wp2_with (at_builtin; refine wpList_append_own _ rfl (.tmp 36) (.tmp 39) 22 rfl base 5 i0 (.int .u8 0) 1 1 Try.underlying22 hi hz0 hz1 hz2 rfl (by decide) _ _ _ rfl hst.own ⟨g, st, none⟩ (k - st) (cap - st) (bcells (tl.drop st)) rfl ?d0 ?d1 (byte_oneCell _) ?d2 ?d3 ?d4 ?_)
        case d0 => rw [bcells, List.length_map, hml, Nat.mul_one]
        case d1 => exact hnews
        case d2 => unfold maxLen; omega
        case d3 => omega
        case d4 => exact hsz
        intro v1 w1 hown1 hg1 _
        have hst1 := hst.app hbase _ (k - st) hml hown1 hg1
        rw [HE.out] at hst1
        have hans := hst1.ans
        clear hown1 hg1 hst hnews hst1
        go_wp2
        go_ret
        exact hans

set_option maxHeartbeats 400000 in
theorem act_nil (base : Nat) (vb : Value) (bl : List Int) (w : World) (hown : w.ownsRow base 5 1 vb bl.length (bcells bl)) :
    Calls Try.prog 15 #[vb, .slice none 0 0] w fun e w' => AnsA base (bl ++ enc []) w e w' := by
  obtain ⟨i0, hi, _, _, _⟩ := info_parts info5
  have hst0 : OSt base w w vb (bl ++ enc []) := by simp only [enc_nil, List.append_nil]; exact ⟨hown, Below.refl _ _⟩
  have hans := hst0.ans
  have hst : OSt base w w vb bl := ⟨hown, Below.refl _ _⟩
  clear hown hst0
  go_enter Try.func15, Try.ntmps15
  go_wp2
  refine wp_loop_rounds 1 ?_
  rw [rounds_succ]
  go_wp2_with (at_builtin; refine wpList_append_own_none rfl (.tmp 36) (.tmp 39) 22 rfl base 5 i0 1 Try.underlying22 hi _ _ _ rfl hst.own rfl ?_)
  go_ret
  exact hans

/-- Bytes that the law itself has laid, below block 'base'. -/
def BysAt (w : World) (base : Nat) (a : Option Addr) (n c : Nat) (l : List Int) : Prop :=
  (a = none ∧ n = 0 ∧ c = 0 ∧ l = []) ∨ ∃ g, a = some ⟨g, 0, none⟩ ∧ g < base ∧ l.length = n ∧ n ≤ c ∧ c ≤ maxLen ∧ ∀ (j : Nat) z, l[j]? = some z → w.cell? ⟨g, j, none⟩ = some (.int .u8 z)

theorem BysAt.below {w w' : World} {base base' : Nat} {a : Option Addr} {n c : Nat} {l : List Int} (h : BysAt w base a n c l) (hb : Below base w w') (hle : base ≤ base') : BysAt w' base' a n c l := by
  rcases h with h | ⟨g, h1, h2, h3, h4, h5, h6⟩
  · exact .inl h
  · exact .inr ⟨g, h1, by omega, h3, h4, h5, fun j z hj => (hb.cell (p := ⟨g, j, none⟩) h2).trans (h6 j z hj)⟩

/-- Out of a copy's contract. -/
theorem bys_of_owns {w : World} {base base' : Nat} {a : Option Addr} {c : Nat} {l : List Int} (h : w.ownsRow base 5 1 (.slice a l.length c) l.length (bcells l)) (hb : w.heap.size ≤ base') : BysAt w base' a l.length c l := by
  have hlt := h.lt
  obtain ⟨hl, ⟨hv, h0⟩ | ⟨g, cap, cur, hv, hg, hh, hn, hm, hs, ht⟩⟩ := h
  · have e : l = [] := List.eq_nil_of_length_eq_zero h0
    subst e
    simp only [Value.slice.injEq] at hv
    exact .inl ⟨hv.1, rfl, hv.2.2, rfl⟩
  · simp only [Value.slice.injEq] at hv
    obtain ⟨rfl, _, rfl⟩ := hv
    have hgl := (hlt g rfl).2
    refine .inr ⟨g, rfl, by omega, rfl, hn, hm, fun j z hj => ?_⟩
    have hjl : j < l.length := (List.getElem?_eq_some_iff.1 hj).1
    have e : cur.toList[j]? = some (.int .u8 z) := by
      have e1 : (cur.toList.take (l.length * 1))[j]? = (bcells l)[j]? := by rw [ht]
      rw [List.getElem?_take_of_lt (by omega), bcells, List.getElem?_map, hj] at e1
      exact e1
    simp only [World.cell?, hh]
    simpa using e

/-- appendCopyText, for a buffer of the law's own and a text that lies below it. -/
theorem act_any (base : Nat) (vb : Value) (bl tl : List Int) (a : Option Addr) (n c : Nat) (w : World) (hown : w.ownsRow base 5 1 vb bl.length (bcells bl)) (hbase : base ≤ w.heap.size) (ht : BysAt w base a n c tl) (hn1 : n ≤ 1048576) (hbl : bl.length ≤ 1048576) :
    Calls Try.prog 15 #[vb, .slice a n c] w fun e w' => AnsA base (bl ++ enc tl) w e w' := by
  rcases ht with ⟨rfl, rfl, rfl, rfl⟩ | ⟨g, rfl, hg, hn, hcap, hcm, hcell⟩
  · exact act_nil base vb bl w hown
  · exact act_some base vb bl tl g n c w hown hbase hg hn hn1 hbl hcap hcm hcell

set_option maxHeartbeats 400000 in
theorem zzact_any (base : Nat) (vb : Value) (bl tl : List Int) (a : Option Addr) (n c : Nat) (w : World) (hown : w.ownsRow base 5 1 vb bl.length (bcells bl)) (hbase : base ≤ w.heap.size) (ht : BysAt w base a n c tl) (hn1 : n ≤ 1048576) (hbl : bl.length ≤ 1048576) :
    Calls Try.prog 8 #[vb, .slice a n c] w fun e w' => AnsA base (bl ++ enc tl) w e w' := by
  have HA := act_any base vb bl tl a n c w hown hbase ht hn1 hbl
  generalize bl ++ enc tl = ol at HA ⊢
  have HA : Hid (Calls Try.prog 15 #[vb, .slice a n c] w fun e w' => AnsA base ol w e w') := HA
  clear hown hbase ht hn1 hbl
  go_enter Try.func8, Try.ntmps8
  go_wp2_with fail
  refine Calls.mono HA.out ?_
  rintro e w' h
  obtain ⟨a', c', rfl, h2⟩ := h
  have hans : AnsA base ol w (.returned (.slice a' ol.length c')) w' := ⟨a', c', rfl, h2⟩
  clear h2 HA
  go_wp2
  go_ret
  exact hans

end Go.Proofs.Qxb6601134a
