/-
  Walks: (relayColumn).fault, ZZFault and the two bounds of the laws on fault: each by its contract.
-/
import Derived.Test.Qxb6602082aRows
import Derived.Test.Qxb6602082aPlainF
import Derived.Test.Qxb6602082aWalkJ
import Derived.WalkKit
import Derived.WalkSpells
import Derived.WalkLawsBesides
import Derived.Deep.DeepCutAuto
import Derived.Deep.CutBlock
namespace Go.Proofs.Qxb6602082a
open Go.RowKit
theorem info9 : (Try.prog.info? 9).map (fun i => (i.zero, i.size, i.bytes)) = some (some (.string ⟨#[]⟩), 1, 16) := by kernel_rfl

theorem str_oneCell (s : ByteArray) : ∀ u ∈ [Value.string s], u.oneCell' = true := by
  intro u hu
  simp at hu
  subst hu
  rfl

/-- What stands of the world between two tests: the faults gathered so far, in memory of the call's own; the two boxes as they were laid. -/
structure FSt (w : World) (r c : Array Value) (v : Value) (L : List ByteArray) (wc : World) : Prop where
  own : wc.ownsRow (w.heap.size + 2) 9 1 v L.length (L.map Value.string)
  bel : Below (w.heap.size + 2) ((w.alloc (.cells r 35)).alloc (.cells c 39)) wc

theorem FSt.start (w : World) (r c : Array Value) : FSt w r c (.slice none 0 0) [] ((w.alloc (.cells r 35)).alloc (.cells c 39)) := ⟨World.ownsRow_nil _ _ _ _, Below.refl _ _⟩

theorem FSt.size {w : World} {r c : Array Value} {v : Value} {L : List ByteArray} {wc : World} (h : FSt w r c v L wc) : w.heap.size + 2 ≤ wc.heap.size := by
  have := h.bel.size
  simp at this
  omega

theorem FSt.cellR {w : World} {r c : Array Value} {v : Value} {L : List ByteArray} {wc : World} (h : FSt w r c v L wc) (k : Nat) : wc.cell? ⟨w.heap.size, k, none⟩ = r[k]? := by
  rw [h.bel.cell (p := ⟨w.heap.size, k, none⟩) (by show w.heap.size < w.heap.size + 2; omega)]
  exact World.cell?_alloc2_first _ _ _ _

theorem FSt.cellC {w : World} {r c : Array Value} {v : Value} {L : List ByteArray} {wc : World} (h : FSt w r c v L wc) (k : Nat) : wc.cell? ⟨w.heap.size + 1, k, none⟩ = c[k]? := by
  rw [h.bel.cell (p := ⟨w.heap.size + 1, k, none⟩) (by show w.heap.size + 1 < w.heap.size + 2; omega)]
  exact World.cell?_alloc2_new _ _ _ _

theorem FSt.below {w : World} {r c : Array Value} {v : Value} {L : List ByteArray} {wc : World} (h : FSt w r c v L wc) : Below w.heap.size w wc :=
  (((Below.refl w.heap.size w).alloc (Nat.le_refl _) _).alloc (by simp) _).trans (h.bel.mono (by omega))

theorem FSt.strs {w : World} {r c : Array Value} {v : Value} {L : List ByteArray} {wc : World} (h : FSt w r c v L wc) : StrsAt wc v L := by
  have hown := h.own
  obtain ⟨hl, h0 | ⟨g, cap, cur, rfl, hg, hh, hn, hm, hs, ht⟩⟩ := h.own
  · exact .inl ⟨List.eq_nil_of_length_eq_zero h0.2, none, 0, h0.1⟩
  · refine .inr ⟨g, 0, cap, rfl, (hown.lt g rfl).2, hn, fun j x hj => ?_⟩
    have hjl : j < L.length := (List.getElem?_eq_some_iff.1 hj).1
    have e : cur.toList[j]? = some (.string x) := by
      have e1 : (cur.toList.take (L.length * 1))[j]? = (L.map Value.string)[j]? := by rw [ht]
      rw [List.getElem?_take_of_lt (by omega), List.getElem?_map, hj] at e1
      exact e1
    simp only [World.cell?, hh, Nat.zero_add]
    simpa using e

theorem FSt.app {w : World} {r c : Array Value} {v : Value} {L : List ByteArray} {wc : World} (h : FSt w r c v L wc) (s : ByteArray) {v' : Value} {w1 : World}
    (hown : w1.ownsRow (w.heap.size + 2) 9 1 v' (L.length + 1) (L.map Value.string ++ [Value.string s])) (hg : (wc.alloc (.cells #[.string s] 9)).grownBy w1 v.ownBlock) : FSt w r c v' (L ++ [s]) w1 := by
  refine ⟨by simpa using hown, ?_⟩
  refine (h.bel.alloc h.size _).grown hg (by have := h.size; simp; omega) ?_
  intro k hk
  exact (h.own.lt k hk).1

theorem cell_one_at (W : World) (x : Value) (t : TypeId) (n : Nat) (hn : n = W.heap.size) : ∀ (j : Nat) (u : Value), [x][j]? = some u → (W.alloc (.cells #[x] t)).cell? ((⟨n, 0, none⟩ : Addr).add j) = some u := by
  subst hn
  exact cell_one_new W x t

/-- The first two kinds of fault. -/
def fTwo (tf : Bool) (ct : ByteArray) (rN cN : Bool) : List ByteArray := fTy tf ct ++ fNull rN cN

theorem fTy_le (b : Bool) (ct : ByteArray) : (fTy b ct).length ≤ 1 := by cases b <;> simp [fTy]
theorem fNull_le (a b : Bool) : (fNull a b).length ≤ 1 := by cases a <;> cases b <;> simp [fNull]

/-- The faults and their total length. -/
theorem faults_len (tf : Bool) (ct : ByteArray) (rN cN gen wr hd fe : Bool) (h : ct.size ≤ 1048576) :
    (faults tf ct rN cN gen wr hd fe).length ≤ 1048576 ∧ Lib.lens ((faults tf ct rN cN gen wr hd fe).map (·.data.toList)) ≤ 2097152 := by
  have hct : ct.data.size = ct.size := rfl
  cases tf <;> cases rN <;> cases cN <;> cases gen <;> cases wr <;> cases hd <;> cases fe <;> simp [faults, fTy, fNull, fGen, Lib.lens, sTy, sAllows, sIsNN, sGen, sDef] <;> omega

set_option maxHeartbeats 1000000 in
theorem fault_tf (rn rt : ByteArray) (rN : Bool) (rf : ByteArray) (wr : Bool) (ct cb : ByteArray) (cN : Bool) (oid : Int) (hd gen uq : Bool) (w : World) (h2 : ct.size ≤ 1048576) (tf fe : Bool) (htf : (!(cb.toList == rt.toList)) = tf) (hfe : rf.toList.isEmpty = fe) :
    Calls Try.prog 22 #[.agg #[.string rn, .string rt, .bool rN, .string rf, .bool wr], .agg #[.string ct, .string cb, .bool cN, .int .u32 oid, .bool hd, .bool gen, .bool uq]] w fun e w' => e = .returned (.string (jl (faults tf ct rN cN gen wr hd fe) sAnd)) ∧ Below w.heap.size w w' := by
  obtain ⟨i0, hi, hz0, hz1, hz2⟩ := info_parts info9
  have hst0 := FSt.start w #[.string rn, .string rt, .bool rN, .string rf, .bool wr] #[.string ct, .string cb, .bool cN, .int .u32 oid, .bool hd, .bool gen, .bool uq]
  go_enter Try.func22, Try.ntmps22
  go_upto_if 10 with fail
  go_cut [5] (FSt w #[.string rn, .string rt, .bool rN, .string rf, .bool wr] #[.string ct, .string cb, .bool cN, .int .u32 oid, .bool hd, .bool gen, .bool uq] · (fTy tf ct) ·)
  case first =>
    cases tf
    · go_wp2
      go_meet
      case rel => exact hst0
    · go_wp2_with (at_builtin; refine wpList_append_own _ rfl _ _ 22 rfl (w.heap.size + 2) 9 i0 (.string ⟨#[]⟩) 1 16 Try.underlying22 hi hz0 hz1 hz2 rfl (by decide) _ _ _ rfl (hst0.own.alloc _) ⟨w.heap.size + 2, 0, none⟩ 1 1 [.string (sTy ++ ct)] rfl rfl ?c1 (str_oneCell _) ?c3 ?c4 ?c5 ?_)
      case c1 => exact cell_one_at _ _ _ _ (by simp)
      case c3 => decide
      case c4 => decide
      case c5 => simp
      · intro v' w1 hown hg _
        have hst1 := hst0.app (sTy ++ ct) hown hg
        clear hown hg
        go_wp2
        go_meet
        case rel => exact hst1
  case rest =>
    clear hst0
    have cr2 := hcut.cellR 2
    have cr4 := hcut.cellR 4
    have cr3 := hcut.cellR 3
    have cc2 := hcut.cellC 2
    have cc5 := hcut.cellC 5
    have cc4 := hcut.cellC 4
    simp at cr2 cr3 cr4 cc2 cc4 cc5
    have hl1 := fTy_le tf ct
    have hsz := hcut.size
    have hA := hcut
    clear hcut
    go_upto_block 0 with fail
    go_cut [5] (FSt w #[.string rn, .string rt, .bool rN, .string rf, .bool wr] #[.string ct, .string cb, .bool cN, .int .u32 oid, .bool hd, .bool gen, .bool uq] · (fTwo tf ct rN cN) ·)
    case first =>
      cases rN <;> cases cN
      · go_wp2
        go_meet
        case rel => simpa [fTwo, fNull] using hA
      · go_wp2_with (at_builtin; refine wpList_append_own _ rfl _ _ 22 rfl (w.heap.size + 2) 9 i0 (.string ⟨#[]⟩) 1 16 Try.underlying22 hi hz0 hz1 hz2 rfl (by decide) _ _ _ rfl (hA.own.alloc _) ⟨wc.heap.size, 0, none⟩ 1 1 [.string sIsNN] rfl rfl ?d1 (str_oneCell _) ?d3 ?d4 ?d5 ?_)
        case d1 => exact cell_one_new _ _ _
        case d3 => unfold maxLen; omega
        case d4 => omega
        case d5 => simp; omega
        · intro v' w1 hown hg _
          have hst1 := hA.app sIsNN hown hg
          clear hown hg
          go_wp2
          go_meet
          case rel => exact hst1
      · go_wp2_with (at_builtin; refine wpList_append_own _ rfl _ _ 22 rfl (w.heap.size + 2) 9 i0 (.string ⟨#[]⟩) 1 16 Try.underlying22 hi hz0 hz1 hz2 rfl (by decide) _ _ _ rfl (hA.own.alloc _) ⟨wc.heap.size, 0, none⟩ 1 1 [.string sAllows] rfl rfl ?e1 (str_oneCell _) ?e3 ?e4 ?e5 ?_)
        case e1 => exact cell_one_new _ _ _
        case e3 => unfold maxLen; omega
        case e4 => omega
        case e5 => simp; omega
        · intro v' w1 hown hg _
          have hst1 := hA.app sAllows hown hg
          clear hown hg
          go_wp2
          go_meet
          case rel => exact hst1
      · go_wp2
        go_meet
        case rel => simpa [fTwo, fNull] using hA
    case rest =>
      clear cr2 cr3 cr4 cc2 cc4 cc5 hsz hA
      have cr2 := hcut.cellR 2
      have cr4 := hcut.cellR 4
      have cr3 := hcut.cellR 3
      have cc2 := hcut.cellC 2
      have cc5 := hcut.cellC 5
      have cc4 := hcut.cellC 4
      simp at cr2 cr3 cr4 cc2 cc4 cc5
      have hl2 : (fTwo tf ct rN cN).length ≤ 2 := by have := fNull_le rN cN; rw [fTwo, List.length_append]; omega
      have hsz := hcut.size
      have hB := hcut
      clear hcut
      go_upto_block 1 with fail
      go_cut [5] (FSt w #[.string rn, .string rt, .bool rN, .string rf, .bool wr] #[.string ct, .string cb, .bool cN, .int .u32 oid, .bool hd, .bool gen, .bool uq] · (faults tf ct rN cN gen wr hd fe) ·)
      case first =>
        by_cases hgw : (gen && wr) = true
        · simp only [Bool.and_eq_true] at hgw
          obtain ⟨rfl, rfl⟩ := hgw
          go_wp2_with (at_builtin; refine wpList_append_own _ rfl _ _ 22 rfl (w.heap.size + 2) 9 i0 (.string ⟨#[]⟩) 1 16 Try.underlying22 hi hz0 hz1 hz2 rfl (by decide) _ _ _ rfl (hB.own.alloc _) ⟨wc.heap.size, 0, none⟩ 1 1 [.string sGen] rfl rfl ?f1 (str_oneCell _) ?f3 ?f4 ?f5 ?_)
          case f1 => exact cell_one_new _ _ _
          case f3 => unfold maxLen; omega
          case f4 => omega
          case f5 => simp; omega
          · intro v' w1 hown hg _
            have hst1 := hB.app sGen hown hg
            clear hown hg
            go_wp2
            go_meet
            case rel => exact hst1
        · by_cases hde : (hd && fe) = true
          · have hG : faults tf ct rN cN gen wr hd fe = fTwo tf ct rN cN ++ [sDef] := by simp [faults, fTwo, fGen, hgw, hde]
            have HG : Hid _ := hG
            simp only [Bool.and_eq_true] at hde
            obtain ⟨rfl, rfl⟩ := hde
            clear hG
            cases gen
            · go_wp2_with (at_builtin; refine wpList_append_own _ rfl _ _ 22 rfl (w.heap.size + 2) 9 i0 (.string ⟨#[]⟩) 1 16 Try.underlying22 hi hz0 hz1 hz2 rfl (by decide) _ _ _ rfl (hB.own.alloc _) ⟨wc.heap.size, 0, none⟩ 1 1 [.string sDef] rfl rfl ?g1 (str_oneCell _) ?g3 ?g4 ?g5 ?_)
              case g1 => exact cell_one_new _ _ _
              case g3 => unfold maxLen; omega
              case g4 => omega
              case g5 => simp; omega
              · intro v' w1 hown hg _
                have hst1 := hB.app sDef hown hg
                clear hown hg
                go_wp2
                go_meet
                case rel => rw [HG.out]; exact hst1
            · have hwr : wr = false := by simpa using hgw
              subst hwr
              go_wp2_with (at_builtin; refine wpList_append_own _ rfl _ _ 22 rfl (w.heap.size + 2) 9 i0 (.string ⟨#[]⟩) 1 16 Try.underlying22 hi hz0 hz1 hz2 rfl (by decide) _ _ _ rfl (hB.own.alloc _) ⟨wc.heap.size, 0, none⟩ 1 1 [.string sDef] rfl rfl ?k1 (str_oneCell _) ?k3 ?k4 ?k5 ?_)
              case k1 => exact cell_one_new _ _ _
              case k3 => unfold maxLen; omega
              case k4 => omega
              case k5 => simp; omega
              · intro v' w1 hown hg _
                have hst1 := hB.app sDef hown hg
                clear hown hg
                go_wp2
                go_meet
                case rel => rw [HG.out]; exact hst1
          · have hG : faults tf ct rN cN gen wr hd fe = fTwo tf ct rN cN := by simp [faults, fTwo, fGen, hgw, hde]
            have HG : Hid _ := hG
            clear hG
            cases gen <;> cases wr <;> cases hd <;> cases fe
            all_goals first
              | (exact absurd rfl hgw)
              | (exact absurd rfl hde)
              | (go_wp2
                 go_meet
                 case rel => rw [HG.out]; exact hB)
      case rest =>
        clear cr2 cr3 cr4 cc2 cc4 cc5 hsz hB
        have hS := hcut.strs
        have hbel := hcut.below
        have hfl := faults_len tf ct rN cN gen wr hd fe h2
        clear hcut htf hfe
        go_wp2_with fail
        refine (joinList_any _ _ _ _ hS hfl.1 hfl.2 (by decide)).mono ?_
        rintro e w' ⟨rfl, hb⟩
        have hbb := hbel.trans (hb.mono hbel.size)
        go_wp2
        go_ret
        exact ⟨rfl, hbb⟩

theorem fault_any (rn rt : ByteArray) (rN : Bool) (rf : ByteArray) (wr : Bool) (ct cb : ByteArray) (cN : Bool) (oid : Int) (hd gen uq : Bool) (w : World) (h2 : ct.size ≤ 1048576) :
    Calls Try.prog 22 #[.agg #[.string rn, .string rt, .bool rN, .string rf, .bool wr], .agg #[.string ct, .string cb, .bool cN, .int .u32 oid, .bool hd, .bool gen, .bool uq]] w fun e w' => e = .returned (.string (jl (faults (!(cb.toList == rt.toList)) ct rN cN gen wr hd rf.toList.isEmpty) sAnd)) ∧ Below w.heap.size w w' :=
  fault_tf rn rt rN rf wr ct cb cN oid hd gen uq w h2 _ _ rfl rfl

set_option maxHeartbeats 400000 in
theorem zzfault_any (rn rt : ByteArray) (rN : Bool) (rf : ByteArray) (wr : Bool) (ct cb : ByteArray) (cN : Bool) (oid : Int) (hd gen uq : Bool) (w : World) (h2 : ct.size ≤ 1048576) :
    Calls Try.prog 18 #[.string rn, .string rt, .bool rN, .string rf, .bool wr, .string ct, .string cb, .bool cN, .int .u32 oid, .bool hd, .bool gen, .bool uq] w fun e w' => e = .returned (.string (jl (faults (!(cb.toList == rt.toList)) ct rN cN gen wr hd rf.toList.isEmpty) sAnd)) ∧ Below w.heap.size w w' := by
  go_enter Try.func18, Try.ntmps18
  go_wp2_with fail
  refine (fault_any rn rt rN rf wr ct cb cN oid hd gen uq _ h2).mono ?_
  rintro e w' ⟨rfl, hb⟩
  go_wp2
  go_ret
  exact ⟨rfl, hb⟩

/-- zzBytes_FnFaultCaseTable. -/
theorem bytes17_any (a0 a1 : ByteArray) (a2 : Bool) (a3 : ByteArray) (a4 : Bool) (a5 a6 : ByteArray) (a7 : Bool) (a8 : Int) (a9 a10 a11 : Bool) (w : World) (w0 : a0.size ≤ maxLen) (w1 : a1.size ≤ maxLen) (w3 : a3.size ≤ maxLen) (w5 : a5.size ≤ maxLen) (w6 : a6.size ≤ maxLen) :
    Calls Try.prog 17 #[.string a0, .string a1, .bool a2, .string a3, .bool a4, .string a5, .string a6, .bool a7, .int .u32 a8, .bool a9, .bool a10, .bool a11] w fun e w' => ∃ b : Bool, e = .returned (.bool b) ∧ (b = true → a0.size + a1.size + a3.size + a5.size + a6.size ≤ 1048576) ∧ w' = w := by
  unfold maxLen at *
  go_enter Try.func17, Try.ntmps17
  go_wp2
  all_goals go_ret
  all_goals exact ⟨_, rfl, by first | (intro h; cases h; done) | (intro; omega), rfl⟩

/-- zzBytes_FnFaultAcceptsExactly. -/
theorem bytes19_any (a0 a1 : ByteArray) (a2 : Bool) (a3 : ByteArray) (a4 : Bool) (a5 a6 : ByteArray) (a7 : Bool) (a8 : Int) (a9 a10 a11 : Bool) (w : World) (w0 : a0.size ≤ maxLen) (w1 : a1.size ≤ maxLen) (w3 : a3.size ≤ maxLen) (w5 : a5.size ≤ maxLen) (w6 : a6.size ≤ maxLen) :
    Calls Try.prog 19 #[.string a0, .string a1, .bool a2, .string a3, .bool a4, .string a5, .string a6, .bool a7, .int .u32 a8, .bool a9, .bool a10, .bool a11] w fun e w' => ∃ b : Bool, e = .returned (.bool b) ∧ (b = true → a0.size + a1.size + a3.size + a5.size + a6.size ≤ 1048576) ∧ w' = w := by
  unfold maxLen at *
  go_enter Try.func19, Try.ntmps19
  go_wp2
  all_goals go_ret
  all_goals exact ⟨_, rfl, by first | (intro h; cases h; done) | (intro; omega), rfl⟩

end Go.Proofs.Qxb6602082a
