/-
  The walk of zzSentence, by its contract.
-/
import Derived.Test.Qxb6602082aRows
import Derived.Test.Qxb6602082aPlainS
import Derived.Test.Qxb6602082aWalkC
import Derived.Lib.AppendStr
import Derived.Lib.BufferRead
namespace Go.Proofs.Qxb6602082a
open Go.RowKit

theorem info5 : (Try.prog.info? 5).map (fun i => (i.zero, i.size, i.bytes)) = some (some (.int .u8 0), 1, 1) := by kernel_rfl

/-- Bytes as cells. -/
def bcells (l : List UInt8) : List Value := l.map fun b => Value.int .u8 b.toNat

/-- What the output slice owns so far. -/
structure OSt (w wr : World) (v : Value) (l : List UInt8) : Prop where
  own : wr.ownsRow w.heap.size 5 1 v l.length (bcells l)
  bel : Below w.heap.size w wr

theorem OSt.appS {w wr w1 : World} {v v' : Value} {l : List UInt8} (h : OSt w wr v l) (s : ByteArray)
    (hown : w1.ownsRow w.heap.size 5 1 v' (l.length + s.size) (bcells l ++ Lib.strCells s)) (hg : wr.grownBy w1 v.ownBlock) : OSt w w1 v' (l ++ s.data.toList) := by
  refine ⟨?_, h.bel.grown hg h.bel.size (fun k hk => (h.own.lt k hk).1)⟩
  have e1 : (l ++ s.data.toList).length = l.length + s.size := by rw [List.length_append, Array.length_toList]; rfl
  have e2 : bcells (l ++ s.data.toList) = bcells l ++ Lib.strCells s := by simp [bcells, Lib.strCells]
  rw [e1, e2]
  exact hown

theorem OSt.appL {w wr w1 : World} {v v' : Value} {l : List UInt8} (h : OSt w wr v l) (r : List UInt8) (o : Obj)
    (hown : w1.ownsRow w.heap.size 5 1 v' (l.length + r.length) (bcells l ++ bcells r)) (hg : (wr.alloc o).grownBy w1 v.ownBlock) : OSt w w1 v' (l ++ r) := by
  refine ⟨?_, (h.bel.alloc h.bel.size o).grown hg (by have := h.bel.size; simp; omega) (fun k hk => (h.own.lt k hk).1)⟩
  rw [List.length_append, show bcells (l ++ r) = bcells l ++ bcells r by simp [bcells]]
  exact hown

theorem byte_oneCell (r : List UInt8) : ∀ u ∈ bcells r, u.oneCell' = true := by
  intro u hu
  obtain ⟨b, _, rfl⟩ := List.mem_map.1 hu
  rfl

theorem cell_two (W : World) (x y : Value) (t : TypeId) : ∀ (j : Nat) (u : Value), [x, y][j]? = some u → (W.alloc (.cells #[x, y] t)).cell? ((⟨W.heap.size, 0, none⟩ : Addr).add j) = some u := by
  intro j u hj
  rw [Addr.add_lit, Nat.zero_add, World.cell?_alloc_new]
  simpa using hj

/-- string(out). -/
theorem OSt.conv {w wr : World} {v : Value} {l : List UInt8} (h : OSt w wr v l) : (convert 33 9 v).run Try.prog wr = .ok (.string ⟨l.toArray⟩) wr := by
  obtain ⟨hl, ⟨rfl, h0⟩ | ⟨g, cap, cur, rfl, hg, hh, hn, hm, hs, ht⟩⟩ := h.own
  · have : l = [] := List.eq_nil_of_length_eq_zero h0
    subst this
    exact Lib.run_convert_nil_bytes wr 33 9 5 0 Try.underlying33 Try.underlying5 Try.underlying9
  · refine run_convert_bytes_back wr 33 9 5 _ cap l Try.underlying33 Try.underlying5 Try.underlying9 (fun j hj => ?_)
    have e : cur.toList[j]? = some (.int .u8 (l[j].toNat : Int)) := by
      have e1 : (cur.toList.take (l.length * 1))[j]? = (bcells l)[j]? := by rw [ht]
      rw [List.getElem?_take_of_lt (by omega)] at e1
      rw [e1, bcells, List.getElem?_map, List.getElem?_eq_getElem hj]
      rfl
    rw [Addr.add_lit, Nat.zero_add]
    simp only [World.cell?, hh]
    simpa using e

/-- The sentence, as Go's string. -/
def sentB (xs : List ByteArray) (c : ByteArray) : ByteArray := ⟨(sentTo (xs.map (·.data.toList)) c.data.toList xs.length).toArray⟩

theorem sentB_eq (xs : List ByteArray) (c : ByteArray) : sentB xs c = jl xs c := by
  unfold sentB jl
  have := sent_all (xs.map (·.data.toList)) c.data.toList
  rw [List.length_map] at this
  rw [this]

theorem sent_step0 (xs : List ByteArray) (c x : ByteArray) (hx : xs[0]? = some x) : sentTo (xs.map (·.data.toList)) c.data.toList 0 ++ x.data.toList = sentTo (xs.map (·.data.toList)) c.data.toList 1 := by
  have e : (xs.map (·.data.toList)).getD 0 [] = x.data.toList := by rw [List.getD_eq_getElem?_getD, List.getElem?_map, hx]; rfl
  rw [sentTo, sentTo, e, sepAt, if_pos rfl]
  rfl

theorem sent_stepL (xs : List ByteArray) (c x : ByteArray) (n k : Nat) (hn : xs.length = n) (h0 : 0 < k) (hk : k + 1 = n) (hx : xs[k]? = some x) :
    sentTo (xs.map (·.data.toList)) c.data.toList k ++ [32] ++ c.data.toList ++ [32] ++ x.data.toList = sentTo (xs.map (·.data.toList)) c.data.toList (k + 1) := by
  have e : (xs.map (·.data.toList)).getD k [] = x.data.toList := by rw [List.getD_eq_getElem?_getD, List.getElem?_map, hx]; rfl
  rw [sentTo, e, sepAt, if_neg (by omega), if_pos (by rw [List.length_map]; omega)]
  simp [List.append_assoc]

theorem sent_stepM (xs : List ByteArray) (c x : ByteArray) (n k : Nat) (hn : xs.length = n) (h0 : 0 < k) (hk : k + 1 ≠ n) (hx : xs[k]? = some x) :
    sentTo (xs.map (·.data.toList)) c.data.toList k ++ [44, 32] ++ x.data.toList = sentTo (xs.map (·.data.toList)) c.data.toList (k + 1) := by
  have e : (xs.map (·.data.toList)).getD k [] = x.data.toList := by rw [List.getD_eq_getElem?_getD, List.getElem?_map, hx]; rfl
  rw [sentTo, e, sepAt, if_neg (by omega), if_neg (by rw [List.length_map]; omega)]

set_option maxHeartbeats 400000 in
theorem sentence_zero (a : Option Addr) (c : Nat) (conj : ByteArray) (w : World) :
    Calls Try.prog 12 #[.slice a 0 c, .string conj] w fun e w' => e = .returned (.string (sentB [] conj)) ∧ Below w.heap.size w w' := by
  have hconv := Lib.run_convert_nil_bytes (P := Try.prog) w 33 9 5 0 Try.underlying33 Try.underlying5 Try.underlying9
  go_enter Try.func12, Try.ntmps12
  go_wp2
  refine wp_loop_rounds 1 ?_
  rw [rounds_succ]
  go_wp2
  go_ret
  exact ⟨rfl, Below.refl _ _⟩

set_option maxHeartbeats 1000000 in
theorem sentence_some (bk o n c : Nat) (xs : List ByteArray) (conj : ByteArray) (w : World) (hn : xs.length = n) (hn1 : n ≤ 1048576) (hL : Lib.lens (xs.map (·.data.toList)) ≤ 1048576) (hc : conj.size ≤ 1048576) (hbk : bk < w.heap.size)
    (hcell : ∀ (j : Nat) x, xs[j]? = some x → w.cell? ⟨bk, o + j, none⟩ = some (.string x)) :
    Calls Try.prog 12 #[.slice (some ⟨bk, o, none⟩) n c, .string conj] w fun e w' => e = .returned (.string (sentB xs conj)) ∧ Below w.heap.size w w' := by
  obtain ⟨i0, hi, hz0, hz1, hz2⟩ := info_parts info5
  have HN : Hid (xs.length = n) := hn
  have HC : Hid (∀ (j : Nat) x, xs[j]? = some x → w.cell? ⟨bk, o + j, none⟩ = some (.string x)) := hcell
  have hcl : conj.data.toList.length = conj.size := by rw [Array.length_toList]; rfl
  have HB : Hid (∀ k, k ≤ n → (sentTo (xs.map (·.data.toList)) conj.data.toList k).length ≤ 1200000000000) := fun k hk => sent_bound _ _ k (by omega) (by omega) (by omega)
  clear hn hcell hcl
  go_enter Try.func12, Try.ntmps12
  go_wp2
  go_loopw [5, 7] (fun v i wr => ∃ k : Nat, k ≤ n ∧ i = .int .i64 k ∧ OSt w wr v (sentTo (xs.map (·.data.toList)) conj.data.toList k)) (fun _ i _ => n - (intOf i).toNat)
  case atStart => exact ⟨0, Nat.zero_le _, rfl, World.ownsRow_nil _ _ _ _, Below.refl _ _⟩
  case round =>
    obtain ⟨k, hk, rfl, hst⟩ := hrel
    by_cases hlt : k < n
    · obtain ⟨x, hx⟩ := list_at xs k (by rw [HN.out]; exact hlt)
      have hxl : x.size ≤ 1048576 := by
        have h1 := slen_succ xs k x hx
        have h2 := slen_le xs (k + 1)
        omega
      have hc0 : w.cell? ⟨bk, o + k, none⟩ = some (.string x) := HC.out k x hx
      have hlen := HB.out k hk
      have hsz := hst.bel.size
      by_cases h0 : k = 0
      · have HE : Hid (k = 0) := h0
        have HS : Hid _ := sent_step0 xs conj x (by rw [← h0]; exact hx)
        have hk0 : ¬ (0 : Int) < k := by omega
        have hc1 : wr.cell? ⟨bk, o + k, none⟩ = some (.string x) := (hst.bel.cell (p := ⟨bk, o + k, none⟩) hbk).trans hc0
        clear hx hc0 h0
        go_wp2_with (at_builtin; refine Lib.wpList_append_own_string _ rfl (.tmp 33) (.tmp 37) 33 9 rfl w.heap.size 5 i0 Try.underlying33 Try.underlying9 hi hz0 hz1 hz2 _ _ _ rfl hst.own x rfl ?a1 ?a2 ?a3 ?_)
        case a1 => unfold maxLen; omega
        case a2 => omega
        · intro v1 w1 hown1 hg1 _
          have hst1 := hst.appS x hown1 hg1
          clear hown1 hg1 hst hc1
          go_wp2
          go_roundw
          case rel => exact ⟨k + 1, by omega, by go_num, by rw [HE.out] at hst1; rw [HS.out] at hst1; rw [HE.out]; exact hst1⟩
          case measure => simp [intOf]; omega
      · have hk0 : (0 : Int) < k := by omega
        have hc1 : wr.cell? ⟨bk, o + k, none⟩ = some (.string x) := (hst.bel.cell (p := ⟨bk, o + k, none⟩) hbk).trans hc0
        by_cases hlast : k + 1 = n
        · have HS : Hid _ := sent_stepL xs conj x n k HN.out (by omega) hlast hx
          have hke : ((k : Int) == (n : Int) - 1) = true := by simp; omega
          have hle : k + 1 ≤ n := by omega
          clear hx hlast
          obtain ⟨l, hl⟩ : ∃ l, l = sentTo (xs.map (·.data.toList)) conj.data.toList k := ⟨_, rfl⟩
          rw [← hl] at hst hlen HS
          clear hl
          go_wp2_with (at_builtin; refine wpList_append_own _ rfl (.tmp 21) (.tmp 22) 33 rfl w.heap.size 5 i0 (.int .u8 0) 1 1 Try.underlying33 hi hz0 hz1 hz2 rfl (by decide) _ _ _ rfl (hst.own.alloc _) ⟨wr.heap.size, 0, none⟩ 1 1 (bcells [32]) rfl rfl ?b0 (byte_oneCell _) ?b1 ?b2 ?b3 ?_)
          case b0 => exact cell_one_new _ _ _
          case b1 => unfold maxLen; omega
          case b2 => omega
          case b3 => simp; omega
          intro v1 w1 hown1 hg1 _
          have hst1 := hst.appL [32] _ hown1 hg1
          have hsz1 := hst1.bel.size
          have hlen1 : (l ++ [32]).length ≤ 1200000000001 := by simp; omega
          obtain ⟨l1, hl1⟩ : ∃ l', l' = l ++ [32] := ⟨_, rfl⟩
          rw [← hl1] at hst1 hlen1 HS
          clear hown1 hg1 hst hc1 hl1 hlen
          go_wp2_with (at_builtin; refine Lib.wpList_append_own_string _ rfl (.tmp 24) (.tmp 25) 33 9 rfl w.heap.size 5 i0 Try.underlying33 Try.underlying9 hi hz0 hz1 hz2 _ _ _ rfl hst1.own conj rfl ?d1 ?d2 ?d3 ?_)
          case d1 => unfold maxLen; omega
          case d2 => omega
          case d3 => exact hsz1
          intro v2 w2 hown2 hg2 _
          have hst2 := hst1.appS conj hown2 hg2
          have hsz2 := hst2.bel.size
          have hlen2 : (l1 ++ conj.data.toList).length ≤ 1200001048577 := by
            have h1 : conj.data.toList.length = conj.size := by rw [Array.length_toList]; rfl
            rw [List.length_append, h1]
            omega
          obtain ⟨l2, hl2⟩ : ∃ l', l' = l1 ++ conj.data.toList := ⟨_, rfl⟩
          rw [← hl2] at hst2 hlen2 HS
          clear hown2 hg2 hst1 hl2 hlen1 hsz1
          go_wp2_with (at_builtin; refine wpList_append_own _ rfl (.tmp 27) (.tmp 28) 33 rfl w.heap.size 5 i0 (.int .u8 0) 1 1 Try.underlying33 hi hz0 hz1 hz2 rfl (by decide) _ _ _ rfl (hst2.own.alloc _) ⟨w2.heap.size, 0, none⟩ 1 1 (bcells [32]) rfl rfl ?e0 (byte_oneCell _) ?e1 ?e2 ?e3 ?_)
          case e0 => exact cell_one_new _ _ _
          case e1 => unfold maxLen; omega
          case e2 => omega
          case e3 => simp; omega
          intro v3 w3 hown3 hg3 _
          have hst3 := hst2.appL [32] _ hown3 hg3
          have hsz3 := hst3.bel.size
          have hlen3 : (l2 ++ [32]).length ≤ 1200001048578 := by simp; omega
          have hc3 : w3.cell? ⟨bk, o + k, none⟩ = some (.string x) := (hst3.bel.cell (p := ⟨bk, o + k, none⟩) hbk).trans hc0
          obtain ⟨l3, hl3⟩ : ∃ l', l' = l2 ++ [32] := ⟨_, rfl⟩
          rw [← hl3] at hst3 hlen3 HS
          clear hown3 hg3 hst2 hl3 hlen2 hsz2
          go_wp2_with (at_builtin; refine Lib.wpList_append_own_string _ rfl (.tmp 33) (.tmp 37) 33 9 rfl w.heap.size 5 i0 Try.underlying33 Try.underlying9 hi hz0 hz1 hz2 _ _ _ rfl hst3.own x rfl ?f1 ?f2 ?f3 ?_)
          case f1 => unfold maxLen; omega
          case f2 => omega
          case f3 => exact hsz3
          intro v4 w4 hown4 hg4 _
          have hst4 := hst3.appS x hown4 hg4
          clear hown4 hg4 hst3 hc3
          go_wp2
          go_roundw
          case rel => exact ⟨k + 1, hle, by go_num, by rw [← HS.out]; exact hst4⟩
          case measure => simp [intOf]; omega
        · have HS : Hid _ := sent_stepM xs conj x n k HN.out (by omega) hlast hx
          have hke : ((k : Int) == (n : Int) - 1) = false := by simp; omega
          clear hx
          obtain ⟨l, hl⟩ : ∃ l, l = sentTo (xs.map (·.data.toList)) conj.data.toList k := ⟨_, rfl⟩
          rw [← hl] at hst hlen HS
          clear hl
          go_wp2_with (at_builtin; refine wpList_append_own _ rfl (.tmp 30) (.tmp 31) 33 rfl w.heap.size 5 i0 (.int .u8 0) 1 1 Try.underlying33 hi hz0 hz1 hz2 rfl (by decide) _ _ _ rfl (hst.own.alloc _) ⟨wr.heap.size, 0, none⟩ 2 2 (bcells [44, 32]) rfl rfl ?g0 (byte_oneCell _) ?g1 ?g2 ?g3 ?_)
          case g0 => exact cell_two _ _ _ _
          case g1 => unfold maxLen; omega
          case g2 => omega
          case g3 => simp; omega
          intro v1 w1 hown1 hg1 _
          have hst1 := hst.appL [44, 32] _ hown1 hg1
          have hsz1 := hst1.bel.size
          have hlen1 : (l ++ [44, 32]).length ≤ 1200000000002 := by simp; omega
          have hc3 : w1.cell? ⟨bk, o + k, none⟩ = some (.string x) := (hst1.bel.cell (p := ⟨bk, o + k, none⟩) hbk).trans hc0
          obtain ⟨l1, hl1⟩ : ∃ l', l' = l ++ [44, 32] := ⟨_, rfl⟩
          rw [← hl1] at hst1 hlen1 HS
          clear hown1 hg1 hst hc1 hl1 hlen
          go_wp2_with (at_builtin; refine Lib.wpList_append_own_string _ rfl (.tmp 33) (.tmp 37) 33 9 rfl w.heap.size 5 i0 Try.underlying33 Try.underlying9 hi hz0 hz1 hz2 _ _ _ rfl hst1.own x rfl ?k1 ?k2 ?k3 ?_)
          case k1 => unfold maxLen; omega
          case k2 => omega
          case k3 => exact hsz1
          intro v4 w4 hown4 hg4 _
          have hst4 := hst1.appS x hown4 hg4
          clear hown4 hg4 hst1 hc3
          go_wp2
          go_roundw
          case rel => exact ⟨k + 1, by omega, by go_num, by rw [← HS.out]; exact hst4⟩
          case measure => simp [intOf]; omega
    · obtain rfl : k = n := by omega
      have hconv := hst.conv
      have hbel := hst.bel
      have HR : Hid ((⟨(sentTo (xs.map (·.data.toList)) conj.data.toList k).toArray⟩ : ByteArray) = sentB xs conj) := by unfold sentB; rw [HN.out]; rfl
      go_wp2
      go_ret
      exact ⟨ret_string HR.out, hbel⟩

/-- zzSentence, for every list of strings that lies in memory, its lengths within bounds: it is joinList. -/
theorem sentence_any (v : Value) (xs : List ByteArray) (conj : ByteArray) (w : World) (h : StrsAt w v xs) (hN : xs.length ≤ 1048576) (hL : Lib.lens (xs.map (·.data.toList)) ≤ 1048576) (hc : conj.size ≤ 1048576) :
    Calls Try.prog 12 #[v, .string conj] w fun e w' => e = .returned (.string (jl xs conj)) ∧ Below w.heap.size w w' := by
  rw [← sentB_eq]
  rcases h with ⟨rfl, a, c, rfl⟩ | ⟨bk, o, c, rfl, hbk, hcap, hcell⟩
  · exact sentence_zero a c conj w
  · exact sentence_some bk o _ c xs conj w rfl hN hL hc hbk hcell

end Go.Proofs.Qxb6602082a
