/-
  The walk of FnDistinctColumnsCopies.
-/
import Derived.Test.Qxb6601134aRows
import Derived.Test.Qxb6601134aWalkF
import Derived.BigQuiet
import Derived.Deep.QuietTactic
import Derived.Deep.DeepCutAuto
import Derived.Deep.CutBlock
namespace Go.Proofs.Qxb6601134a.fnDistinctColumnsCopies
open Go.RowKit

theorem hid {p : Prop} (h : p) : Hid p := h

theorem dist_step {xs : List ByteArray} {k : Nat} (h : Dist xs k) (h2 : ∀ b x y, b < k → xs[b]? = some x → xs[k]? = some y → x ≠ y) : Dist xs (k + 1) := by
  intro i j x y hij hj hx hy
  by_cases hjk : j = k
  · subst hjk
    exact h2 i x y hij hx hy
  · exact h i j x y hij (by omega) hx hy

theorem ne_of_list {x y : ByteArray} (h : (x.toList == y.toList) = false) : y ≠ x := by
  intro e
  subst e
  simp at h

/-- The strings of the library's copy that are still to be written. -/
def Left (g n : Nat) (xs : List ByteArray) (k : Nat) (w : World) : Prop :=
  (∀ (j : Nat) x, k ≤ j → xs[j]? = some x → w.cell? ⟨g, j, none⟩ = some (.string x)) ∧ ∀ j, j < n → w.frozen? ⟨g, j, none⟩ = false

theorem left_step {g n : Nat} {xs : List ByteArray} {k : Nat} {w : World} (h : Left g n xs k w) (v : Value) : Left g n xs (k + 1) (w.setCell ⟨g, k, none⟩ v) := by
  refine ⟨fun j x hj hx => ?_, fun j hj => ?_⟩
  · rw [World.cell?_setCell_other _ _ _ _ (by intro e; simp only [Addr.mk.injEq] at e; omega)]
    exact h.1 j x (by omega) hx
  · rw [World.frozen?_setCell]
    exact h.2 j hj

theorem left_start {w : World} {B g n c : Nat} {xs : List ByteArray} (h : w.ownsRow B 9 1 (.slice (some ⟨g, 0, none⟩) n c) n (xs.map Value.string)) (hn : xs.length = n) : Left g n xs 0 w := by
  refine ⟨fun j x _ hx => ?_, fun j _ => h.frozenAt j⟩
  have hj : j < xs.length := (List.getElem?_eq_some_iff.1 hx).1
  rw [h.cellAt j (by omega), List.getElem?_map, hx]
  rfl

set_option maxRecDepth 100000 in
set_option maxHeartbeats 4000000 in
theorem walk_some (cal : ByteArray) (bk o n c : Nat) (xs : List ByteArray) (w : World) (hn : xs.length = n) (hn0 : 1 ≤ n) (hn1 : n ≤ maxLen) (hxs : ∀ s ∈ xs, s.size ≤ maxLen) (hcal : cal.size ≤ maxLen) (hc : n ≤ c) (hbk : bk < w.heap.size)
    (hcell : ∀ (j : Nat) x, xs[j]? = some x → w.cell? ⟨bk, o + j, none⟩ = some (.string x)) :
    Calls Try.prog 5 #[.string cal, .slice (some ⟨bk, o, none⟩) n c] w fun e w' => e = .returned (.bool true) ∧ Below w.heap.size w w' := by
  have HN : Hid (xs.length = n) := hn
  have HC : Hid (∀ (j : Nat) x, xs[j]? = some x → w.cell? ⟨bk, o + j, none⟩ = some (.string x)) := hcell
  have HA : Hid (Calls Try.prog 12 #[.string cal, .slice (some ⟨bk, o, none⟩) n c] w fun e w' => AnsB (cal.size + n + Lib.lens (xs.map (·.data.toList)) ≤ 1048576) w e w') := bytes12_some bk o n c xs cal w hn hn1 hxs hcal hcell
  unfold maxLen at hn1 hcal
  clear hn hcell hxs
  go_enter Try.func5, Try.ntmps5
  go_wp2_with fail
  refine Calls.mono HA.out ?_
  rintro e w' ⟨b, rfl, hb, rfl⟩
  cases b
  · go_wp2
    go_ret
    exact ⟨rfl, Below.refl _ _⟩
  have hle := hb rfl
  clear hb HA
  by_cases k0 : 65536 < cal.size
  · go_wp2
    go_ret
    exact ⟨rfl, Below.refl _ _⟩
  by_cases k1 : 4096 < n
  · go_wp2
    go_ret
    exact ⟨rfl, Below.refl _ _⟩
  go_upto_region 5 with fail
  go_cut [5] (fun s w2 => s = .int .i64 ((cal.size + 16 * n : Nat) : Int) ∧ w' = w2)
  case first =>
    go_wp2
    go_meet
    case rel => exact ⟨by go_num, rfl⟩
  case rest =>
    obtain ⟨rfl, rfl⟩ := hcut
    go_upto_block 0 with fail
    go_cut [5, 6] (fun _ _ w2 => w' = w2)
    case first => as_aux_lemma =>
      go_wp2_with fail
      go_loop [5, 6] (fun z i => ∃ k : Nat, k ≤ n ∧ i = .int .i64 k ∧ z = .int .i64 ((cal.size + 16 * n + slen xs k : Nat) : Int)) (fun _ i => n - (intOf i).toNat)
      case atStart => exact ⟨0, Nat.zero_le _, rfl, by rw [slen_zero]; rfl⟩
      case round =>
        obtain ⟨k, hk, rfl, rfl⟩ := hrel
        have hsl := slen_le xs k
        by_cases hlt : k < n
        · obtain ⟨x, hx⟩ := str_at xs k (by rw [HN.out]; exact hlt)
          have hs := slen_succ xs k x hx
          have hsl1 := slen_le xs (k + 1)
          have hxl : x.size ≤ 1048576 := by omega
          have hc1 := HC.out k x hx
          have HS : Hid (slen xs (k + 1) = slen xs k + x.size) := hs
          clear hx hs hsl1
          go_wp2
          · go_ret
            exact ⟨rfl, Below.refl _ _⟩
          · have hS := HS.out
            go_round
            case rel => exact ⟨k + 1, by omega, by go_num, by rw [hS]; go_num⟩
            case measure => simp [intOf]; omega
        · obtain rfl : k = n := by omega
          go_wp2
          go_meet
          case rel => rfl
    case rest =>
      subst hcut
      have e0 : ((n : Int) == 0) = false := by simp; omega
      go_upto_block 2 with fail
      go_cut [7] (fun _ w2 => Hid (Dist xs n) ∧ ∃ m, w2 = w'.drewN m)
      case first => as_aux_lemma =>
        go_wp2_with fail
        go_loopw [7] (fun i wr => ∃ k : Nat, k ≤ n ∧ i = .int .i64 k ∧ Hid (Dist xs k) ∧ ∃ m, wr = w'.drewN m) (fun i _ => n - (intOf i).toNat)
        case atStart => exact ⟨0, Nat.zero_le _, rfl, (fun i j x y _ hj => by omega), 0, rfl⟩
        case round =>
          obtain ⟨k, hk, rfl, HD, m, rfl⟩ := hrel
          by_cases hlt : k < n
          · obtain ⟨x, hx⟩ := str_at xs k (by rw [HN.out]; exact hlt)
            have hc1 := HC.out k x hx
            have hi1 : (k : Int) < n := by omega
            have HX : Hid (xs[k]? = some x) := hx
            clear hx
            go_wp2
            go_loopw [8] (fun j wr => ∃ q : Nat, q ≤ k ∧ j = .int .i64 q ∧ Hid (∀ b x y, b < q → xs[b]? = some x → xs[k]? = some y → x ≠ y) ∧ ∃ m, wr = w'.drewN m) (fun j _ => k - (intOf j).toNat)
            case atStart => exact ⟨0, Nat.zero_le _, rfl, (fun b x y hb => by omega), m, rfl⟩
            case round =>
              obtain ⟨q, hq, rfl, HQ, m2, rfl⟩ := hrel
              by_cases hqk : q < k
              · obtain ⟨y, hy⟩ := str_at xs q (by rw [HN.out]; omega)
                have hc2 := HC.out q y hy
                have hi2 : (q : Int) < n := by omega
                have HY : Hid (xs[q]? = some y) := hy
                clear hy
                go_wp2
                go_quiet (fail)
                go_wp2
                · go_ret
                  exact ⟨rfl, below_drewN (below_drewN (Below.refl _ _) _) _⟩
                · have hne := ne_of_list (x := x) (y := y) (by assumption)
                  have HQ' : Hid (∀ b x y, b < q + 1 → xs[b]? = some x → xs[k]? = some y → x ≠ y) := by
                    intro b x' y' hb hx' hy'
                    by_cases hbq : b = q
                    · subst hbq
                      rw [HY.out] at hx'
                      rw [HX.out] at hy'
                      cases hx'
                      cases hy'
                      exact hne
                    · exact HQ.out b x' y' (by omega) hx' hy'
                  clear hne
                  go_roundw
                  case rel => exact ⟨q + 1, by omega, by go_num, HQ', _, rfl⟩
                  case measure => simp [intOf]; omega
              · obtain rfl : q = k := by omega
                have HD' : Hid (Dist xs (q + 1)) := dist_step HD.out HQ.out
                go_wp2
                go_roundw
                case rel => exact ⟨q + 1, by omega, by go_num, HD', _, rfl⟩
                case measure => simp [intOf]; omega
          · obtain rfl : k = n := by omega
            go_wp2
            go_meet
            case rel => exact ⟨HD, m, rfl⟩
      case rest =>
        obtain ⟨HD, m, rfl⟩ := hcut
        go_wp2_with fail
        refine (cloneS_some bk o n c xs (w'.drewN m) HN.out (by omega) hbk HC.out).mono ?_
        rintro e w1 ⟨g1, c1, rfl, hg1, hg1', hc1, C1, hb1⟩
        go_wp2_with fail
        refine (cloneS_some g1 0 n c1 xs w1 HN.out (by omega) hg1' (fun j x hj => by rw [Nat.zero_add]; exact C1 j x hj)).mono ?_
        rintro e w2 ⟨g2, c2, rfl, hg2, hg2', hc2, C2, hb2⟩
        have C1' : ∀ (j : Nat) x, xs[j]? = some x → w2.cell? ⟨g1, j, none⟩ = some (.string x) := fun j x hj => (hb2.cell (p := ⟨g1, j, none⟩) hg1').trans (C1 j x hj)
        go_wp2_with fail
        refine (zzdistinct_some cal g1 0 n c1 xs w2 HN.out hn0 (by omega) hc1 HD.out (fun j x hj => by rw [Nat.zero_add]; exact C1' j x hj)).mono ?_
        rintro e w3 ⟨g3, c3, rfl, own3, hb3⟩
        have hs2 : g1 < w2.heap.size := Nat.lt_of_lt_of_le hg1' hb2.size
        have HC1 : Hid (∀ (j : Nat) x, xs[j]? = some x → w3.cell? ⟨g1, j, none⟩ = some (.string x)) := fun j x hj => (hb3.cell (p := ⟨g1, j, none⟩) hs2).trans (C1' j x hj)
        have HC2 : Hid (∀ (j : Nat) x, xs[j]? = some x → w3.cell? ⟨g2, j, none⟩ = some (.string x)) := fun j x hj => (hb3.cell (p := ⟨g2, j, none⟩) hg2').trans (C2 j x hj)
        have HL : Hid (Left g3 n xs 0 w3) := left_start own3 HN.out
        have hg3 : w2.heap.size ≤ g3 := (own3.lt g3 rfl).1
        have hbel : Below w'.heap.size w' w3 := (below_drewN (Below.refl _ _) m).trans (hb1.trans ((hb2.mono hb1.size).trans (hb3.mono (Nat.le_trans hb1.size hb2.size))))
        have hsz : w'.heap.size ≤ w2.heap.size := Nat.le_trans hb1.size hb2.size
        clear C1 C2 C1' own3 hb1 hb2 hb3 hg1 hg2 hg1'
        have hnn : ((n : Int) != (n : Int)) = false := by simp
        go_upto_block 6 with fail
        go_cut [11] (fun _ w4 => ∃ m, w4 = w3.drewN m)
        case first => as_aux_lemma =>
          go_wp2_with fail
          go_loopw [11] (fun i wr => ∃ k : Nat, k ≤ n ∧ i = .int .i64 k ∧ ∃ m, wr = w3.drewN m) (fun i _ => n - (intOf i).toNat)
          case atStart => exact ⟨0, Nat.zero_le _, rfl, 0, rfl⟩
          case round =>
            obtain ⟨k, hk, rfl, m2, rfl⟩ := hrel
            by_cases hlt : k < n
            · obtain ⟨x, hx⟩ := str_at xs k (by rw [HN.out]; exact hlt)
              have q1 := HC2.out k x hx
              have q2 := HL.out.1 k x (Nat.zero_le _) hx
              have hi1 : (k : Int) < n := by omega
              clear hx
              go_wp2
              go_quiet (fail)
              go_wp2
              go_roundw
              case rel => exact ⟨k + 1, by omega, by go_num, _, rfl⟩
              case measure => simp [intOf]; omega
            · obtain rfl : k = n := by omega
              go_wp2
              go_meet
              case rel => exact ⟨m2, rfl⟩
        case rest =>
          obtain ⟨m4, rfl⟩ := hcut
          go_upto_block 8 with fail
          go_cut [12] (fun _ w5 => Below w2.heap.size w3 w5)
          case first => as_aux_lemma =>
            go_wp2_with fail
            go_loopw [12] (fun i wr => ∃ k : Nat, k ≤ n ∧ i = .int .i64 k ∧ Hid (Left g3 n xs k wr) ∧ Below w2.heap.size w3 wr) (fun i _ => n - (intOf i).toNat)
            case atStart => exact ⟨0, Nat.zero_le _, rfl, HL, below_drewN (Below.refl _ _) _⟩
            case round =>
              obtain ⟨k, hk, rfl, HK, hbk5⟩ := hrel
              by_cases hlt : k < n
              · obtain ⟨x, hx⟩ := str_at xs k (by rw [HN.out]; exact hlt)
                have hsl := slen_le xs (k + 1)
                have hss := slen_succ xs k x hx
                have hxl : x.size ≤ 1048576 := by omega
                have q2 := HK.out.1 k x (Nat.le_refl _) hx
                have q3 := HK.out.2 k hlt
                have HK' : Hid (Left g3 n xs (k + 1) (wr.setCell ⟨g3, k, none⟩ (.string (x ++ ⟨#[35]⟩)))) := left_step HK.out _
                have hb6 := hbk5.setCell (p := ⟨g3, k, none⟩) hg3 (.string (x ++ ⟨#[35]⟩))
                clear hx hsl hss HK hbk5
                go_wp2
                go_roundw
                case rel => exact ⟨k + 1, by omega, by go_num, HK', hb6⟩
                case measure => simp [intOf]; omega
              · obtain rfl : k = n := by omega
                go_wp2
                go_meet
                case rel => exact hbk5
          case rest =>
            have HC1' : Hid (∀ (j : Nat) x, xs[j]? = some x → wc.cell? ⟨g1, j, none⟩ = some (.string x)) := fun j x hj => (hcut.cell (p := ⟨g1, j, none⟩) hs2).trans (HC1.out j x hj)
            have HC2' : Hid (∀ (j : Nat) x, xs[j]? = some x → wc.cell? ⟨g2, j, none⟩ = some (.string x)) := fun j x hj => (hcut.cell (p := ⟨g2, j, none⟩) hg2').trans (HC2.out j x hj)
            have hbel5 : Below w'.heap.size w' wc := hbel.trans (hcut.mono hsz)
            clear hcut HC1 HC2 hbel HL
            go_upto_block 10 with fail
            go_cut [13] (fun _ w6 => Below w'.heap.size w' w6)
            case first => as_aux_lemma =>
              go_wp2_with fail
              go_loopw [13] (fun i wr => ∃ k : Nat, k ≤ n ∧ i = .int .i64 k ∧ ∃ m, wr = wc.drewN m) (fun i _ => n - (intOf i).toNat)
              case atStart => exact ⟨0, Nat.zero_le _, rfl, 0, rfl⟩
              case round =>
                obtain ⟨k, hk, rfl, m2, rfl⟩ := hrel
                by_cases hlt : k < n
                · obtain ⟨x, hx⟩ := str_at xs k (by rw [HN.out]; exact hlt)
                  have q1 := HC1'.out k x hx
                  have q2 := HC2'.out k x hx
                  have hi1 : (k : Int) < n := by omega
                  clear hx
                  go_wp2
                  go_quiet (fail)
                  go_wp2
                  go_roundw
                  case rel => exact ⟨k + 1, by omega, by go_num, _, rfl⟩
                  case measure => simp [intOf]; omega
                · obtain rfl : k = n := by omega
                  go_wp2
                  go_meet
                  case rel => exact below_drewN hbel5 _
            case rest =>
              go_wp2
              go_ret
              exact ⟨rfl, hcut⟩
set_option maxRecDepth 100000 in
set_option maxHeartbeats 1000000 in
theorem walk_zero (cal : ByteArray) (a : Option Addr) (c : Nat) (w : World) (hcal : cal.size ≤ maxLen) :
    Calls Try.prog 5 #[.string cal, .slice a 0 c] w fun e w' => e = .returned (.bool true) ∧ Below w.heap.size w w' := by
  have HA : Hid (Calls Try.prog 12 #[.string cal, .slice a 0 c] w fun e w' => AnsB True w e w') := bytes12_zero a c cal w hcal
  unfold maxLen at hcal
  go_enter Try.func5, Try.ntmps5
  go_wp2_with fail
  refine Calls.mono HA.out ?_
  rintro e w' ⟨b, rfl, hb, rfl⟩
  clear hb HA
  cases b
  · go_wp2
    go_ret
    exact ⟨rfl, Below.refl _ _⟩
  by_cases k0 : 65536 < cal.size
  · go_wp2
    go_ret
    exact ⟨rfl, Below.refl _ _⟩
  go_wp2
  refine wp_loop_rounds 1 ?_
  rw [rounds_succ]
  go_wp2
  go_ret
  exact ⟨rfl, Below.refl _ _⟩

/-- The law's walk, for whatever slice of strings. -/
theorem walk (cal : ByteArray) (a : Option Addr) (n c : Nat) (xs : List ByteArray) (w : World) (hS : StrsAt w (.slice a n c) xs) (hn : xs.length = n) (hn1 : n ≤ maxLen) (hxs : ∀ s ∈ xs, s.size ≤ maxLen) (hcal : cal.size ≤ maxLen) :
    Calls Try.prog 5 #[.string cal, .slice a n c] w fun e w' => e = .returned (.bool true) ∧ Below w.heap.size w w' := by
  by_cases h0 : n = 0
  · subst h0
    exact walk_zero cal a c w hcal
  · rcases hS with ⟨rfl, _⟩ | ⟨bk, o, c', hv, hbk, hcap, hcell⟩
    · simp at hn
      omega
    · simp only [Value.slice.injEq] at hv
      obtain ⟨rfl, _, rfl⟩ := hv
      exact walk_some cal bk o n c xs w hn (by omega) hn1 hxs hcal (by omega) hbk hcell

end Go.Proofs.Qxb6601134a.fnDistinctColumnsCopies
