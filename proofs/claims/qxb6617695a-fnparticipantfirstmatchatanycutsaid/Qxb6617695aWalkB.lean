/- The law FnParticipantFirstMatchAtAnyCut, walked over the contracts: a list that is not nil, the cut inside. -/
import Derived.Test.Qxb6617695aRowsOwn
import Derived.Deep.QuietTactic
import Derived.BigQuiet
import Derived.Deep.RegionHeld3
import Derived.Deep.LoopGhost
import Derived.Lib.SliceRun
namespace Go.Proofs.Qxb6617695a
open Go.RowKit
set_option linter.unusedVariables false

theorem other_cell {W : World} {b B x y z : Nat} {v u1 u2 : Value} (hb : b ≠ B) (h : W.cell? ⟨b, x, none⟩ = some v) : ((W.setCell ⟨B, y, none⟩ u1).setCell ⟨B, z, none⟩ u2).cell? ⟨b, x, none⟩ = some v := by
  have hbk : ((W.setCell ⟨B, y, none⟩ u1).setCell ⟨B, z, none⟩ u2).heap[b]? = W.heap[b]? := by
    rw [Below.heap_setCell _ _ _ _ hb, Below.heap_setCell _ _ _ _ hb]
  rw [World.cell?_of_block (w := W) (a := ⟨b, x, none⟩) hbk]
  exact h

set_option maxRecDepth 100000 in
set_option maxHeartbeats 8000000 in
theorem law_lt (v a0 : Int) (k : Nat) (s2 s3 s4 t : ByteArray) (a : Addr) (b off n c : Nat) (S R : Nat → ByteArray) (w : World) (hn : n ≤ 140737488351232) (hk : k < n)
    (h2 : s2.size ≤ 140737488351232) (h3 : s3.size ≤ 140737488351232) (h4 : s4.size ≤ 140737488351232) (h6 : t.size ≤ 140737488351232)
    (hao : 0 < n → a = ⟨b, off, none⟩) (hbw : 0 < n → b < w.heap.size) (hc : Row w b off n S R) :
    Calls Try.prog 3 #[.int .u64 v, .int .u64 a0, .string s2, .string s3, .string s4, .slice (some a) n c, .string t, .int .i64 k] w fun e w' => e = .returned (.bool true) ∧ Below w.heap.size w w' := by
  have hk0 : decide ((k : Int) < 0) = false := by simp
  have hkn : decide ((n : Int) < (k : Int)) = false := by simp; omega
  have hkN : decide (n < k) = false := by simp; omega
  go_enter Try.func3, Try.ntmps3
  go_wp2_with (first
    | (go_at_call 4; refine (bytes_any v a0 k s2 s3 s4 t (some a) b off n c S R _ hn h2 h3 h4 h6 (fun h => by rw [hao h]) hc).mono ?_; rintro e w' ⟨⟨r, rfl⟩, rfl⟩))
  all_goals try (go_ret; exact ⟨rfl, Below.refl _ _⟩)
  clear h2 h3 h4 h6
  go_loopg [17, 18] n (fun g x i wr => ∃ (j : Nat) (u : Int), g + j = n ∧ i = .int .i64 j ∧ x = .int .i64 u ∧ Below w.heap.size w wr)
  case atStart => exact ⟨0, _, rfl, rfl, rfl, Below.refl _ _⟩
  case round =>
    obtain ⟨j, u, hj, rfl, rfl, hbl⟩ := hrel
    have HJ : Hid (gk + j = n) := hj
    have hj' : j ≤ n := by omega
    clear hj
    by_cases hlt : j < n
    · obtain rfl := hao (by omega)
      have hc0 := ((hc.later hbl) j hlt).1
      have hc1 := ((hc.later hbl) j hlt).2
      have hji : (j : Int) < (n : Int) := by omega
      go_wp2_with fail
      go_quiet (fail)
      go_wp2_with fail
      · go_ret
        exact ⟨rfl, below_drewN hbl _⟩
      · go_roundg (gk - 1)
        case measure => have := HJ.out; omega
        case rel => exact ⟨j + 1, _, by have := HJ.out; omega, by go_num, rfl, below_drewN hbl _⟩
    · go_wp2_with fail
      clear hlt hj' HJ
      go_loopg [19] n (fun g i wr => ∃ j : Nat, g + j = n + 1 ∧ i = .int .i64 j ∧ 1 ≤ j ∧ (∀ x, 1 ≤ x → x < j → le (S (x - 1)) (S x)) ∧ Below w.heap.size w wr)
      case atStart => exact ⟨1, rfl, rfl, Nat.le_refl _, fun x h1 h2 => absurd h1 (by omega), hbl⟩
      case round =>
        clear hbl
        obtain ⟨j, hj, rfl, hj1, hle, hbl⟩ := hrel
        have HLE : Hid (∀ x, 1 ≤ x → x < j → le (S (x - 1)) (S x)) := hle
        have HJ : Hid (gk + j = n + 1) := hj
        have hj' : j ≤ n + 1 := by omega
        clear hle hj
        by_cases hlt : j < n
        · obtain rfl := hao (by omega)
          have hc0 := ((hc.later hbl) (j - 1) (by omega)).1
          have hc1 := ((hc.later hbl) j hlt).1
          have hji : (j : Int) < (n : Int) := by omega
          have hji1 : (j : Int) - 1 < (n : Int) := by omega
          have hji0 : 0 ≤ (j : Int) - 1 := by omega
          go_wp2_with fail
          go_quiet (fail)
          go_wp2_with fail
          · go_ret
            exact ⟨rfl, below_drewN hbl _⟩
          · have hq : le (S (j - 1)) (S j) := le_of (by assumption)
            go_roundg (gk - 1)
            case measure => have := HJ.out; omega
            case rel => exact ⟨j + 1, by have := HJ.out; omega, by go_num, by omega, up2 (p := fun x => le (S (x - 1)) (S x)) HLE.out hq, below_drewN hbl _⟩
        · have HSo : Hid (Sorted S n) := sorted_of S n (fun x h1 h2 => HLE.out x h1 (by omega))
          have q : ∀ (w : World) (a : Option Addr) (n c : Nat), (binOp .neq 23 (.slice a n c) (.slice none 0 0)).run Try.prog w = .ok (.bool (!a.isNone)) w := fun w a n c => run_neq_slice_nil_any w _ _ a n c _ _ Try.underlying23
          have hmk := make_run n (by omega)
          go_wp2_with fail
          clear q hmk HLE hlt hj' hj1 HJ
          rename World => w2
          have hs0 := fill_start w2 n S R
          have hb0 : Below w.heap.size w (w2.alloc (.cells (madeCells #[.string ByteArray.empty, .string ByteArray.empty] (n * 2)) 30)) := hbl.alloc hbl.size _
          go_loopg [21] n (fun g i wr => ∃ j : Nat, g + j = n ∧ i = .int .i64 j ∧ wr.rowIs w2.heap.size 30 (n * 2) (fill S R j) ∧ Below w.heap.size w wr)
          case atStart => exact ⟨0, rfl, rfl, hs0, hb0⟩
          case round =>
            clear hs0 hb0
            have hw2 := hbl.size
            clear hbl
            obtain ⟨j, hj, rfl, hrow, hbl⟩ := hrel
            have HJ : Hid (gk + j = n) := hj
            have hj' : j ≤ n := by omega
            clear hj
            by_cases hlt : j < n
            · obtain rfl := hao (by omega)
              have hc0 := ((hc.later hbl) j hlt).1
              have hc1 := ((hc.later hbl) j hlt).2
              have hbB : b ≠ w2.heap.size := by have := hbw (by omega); omega
              have ho0 := hrow.cell (i := j * 2) (by omega)
              have ho1 := hrow.cell (i := j * 2 + 1) (by omega)
              have hf0 := hrow.frozen (j * 2)
              have hf1 := hrow.frozen (j * 2 + 1)
              have HR : Hid (((wr.setCell ⟨w2.heap.size, j * 2, none⟩ (.string (S j))).setCell ⟨w2.heap.size, j * 2 + 1, none⟩ (.string (R j))).rowIs w2.heap.size 30 (n * 2) (fill S R (j + 1))) := fill_step hlt hrow
              have hji : (j : Int) < (n : Int) := by omega
              clear hrow
              go_wp2_with fail
              go_region_held3 (fun W => W.cell? ⟨b, off + j * 2, none⟩ = some (.string (S j)) ∧ W.cell? ⟨b, off + j * 2 + 1, none⟩ = some (.string (R j))) (first | exact ⟨hc0, hc1⟩ | exact ⟨other_cell hbB hc0, other_cell hbB hc1⟩) (fail)
              go_wp2_with fail
              go_roundg (gk - 1)
              case measure => have := HJ.out; omega
              case rel => exact ⟨j + 1, by have := HJ.out; omega, by go_num, HR.out, ((hbl.setCell hw2 _).setCell hw2 _).drew⟩
            · obtain rfl : n = j := by omega
              rename World => w3
              have hstart := fin_start (n := n) (k := k) (a3 := some ⟨w2.heap.size, k * 2, none⟩) (m3 := n - k) (c3 := n - k) (.int .u64 v) (.int .u64 a0) (.string s2) (.string s3) (.string s4) (fill_end hrow) hbl
              have HST : Hid (Fin w _ w2.heap.size w3.heap.size (w3.heap.size + 1) (w3.heap.size + 1 + 1) n k (some ⟨w2.heap.size, k * 2, none⟩) (n - k) (n - k) S R) := hstart
              clear hrow hstart hbl hj' HJ hw2 hlt
              go_wp2_with fail
              go_loopg [25, 26] k (fun g f i W => ∃ j : Nat, g + j = k ∧ i = .int .i64 j ∧ f = .int .i64 (-1) ∧ (∀ x, x < j → cb (S x) t ≠ 0) ∧ Fin w W w2.heap.size w3.heap.size (w3.heap.size + 1) (w3.heap.size + 1 + 1) n k (some ⟨w2.heap.size, k * 2, none⟩) (n - k) (n - k) S R)
              case atStart => exact ⟨0, rfl, rfl, rfl, fun x hx => absurd hx (by omega), HST.out⟩
              case round =>
                clear HST
                obtain ⟨j, hj, rfl, rfl, hno, hF⟩ := hrel
                have HJ : Hid (gk + j = k) := hj
                have hj' : j ≤ k := by omega
                have HN : Hid (∀ x, x < j → cb (S x) t ≠ 0) := hno
                have HF : Hid (Fin w wr w2.heap.size w3.heap.size (w3.heap.size + 1) (w3.heap.size + 1 + 1) n k (some ⟨w2.heap.size, k * 2, none⟩) (n - k) (n - k) S R) := hF
                clear hj hno hF
                by_cases hlt : j < k
                · obtain rfl := hao (by omega)
                  have hc0 := ((hc.later HF.out.below) j (by omega)).1
                  have hji : (j : Int) < (k : Int) := by omega
                  have hjn : (j : Int) < (n : Int) := by omega
                  go_wp2_with fail
                  · have HA : Hid (First S t k (some j)) := ⟨hlt, eq_true (by assumption), HN.out⟩
                    clear hc0 HN
                    clear HJ hj'
                    go_loopg [27, 28] (n - k) (fun g f i W => ∃ l : Nat, g + l = n ∧ i = .int .i64 l ∧ f = .int .i64 (-1) ∧ k ≤ l ∧ (∀ x, k ≤ x → x < l → cb (S x) t ≠ 0) ∧ Fin w W w2.heap.size w3.heap.size (w3.heap.size + 1) (w3.heap.size + 1 + 1) n k (some ⟨w2.heap.size, k * 2, none⟩) (n - k) (n - k) S R)
                    case atStart => exact ⟨k, by omega, rfl, rfl, Nat.le_refl _, fun x h1 h2 => absurd h1 (by omega), HF.out⟩
                    case round =>
                      clear HF
                      obtain ⟨l, hl, rfl, rfl, hkl, hno, hF⟩ := hrel
                      have HJ : Hid (gk + l = n) := hl
                      have hl' : l ≤ n := by omega
                      have HB : Hid (∀ x, k ≤ x → x < l → cb (S x) t ≠ 0) := hno
                      have HF : Hid (Fin w wr w2.heap.size w3.heap.size (w3.heap.size + 1) (w3.heap.size + 1 + 1) n k (some ⟨w2.heap.size, k * 2, none⟩) (n - k) (n - k) S R) := hF
                      clear hl hno hF
                      by_cases hln : l < n
                      · have hc0 := ((hc.later HF.out.below) l hln).1
                        have hlnI : (l : Int) < (n : Int) := by omega
                        go_wp2_with fail
                        · have hl0 : cb (S l) t = 0 := eq_true (by assumption)
                          clear hc0 HJ
                          have pe := eql_same
                          have pn := neq_same
                          refine (fin_some HF.out w3.heap.size (some ⟨w2.heap.size, 0, none⟩) 0 n n j t HF.out.q1 hn HSo.out (by omega) (fun h => by first | rfl | omega) (first_at0 (first_left (by omega) HA.out)) (j * 2) (by omega)).mono ?_
                          clear HF
                          rintro e wq ⟨rfl, hFq⟩
                          have HF : Hid (Fin w wq w2.heap.size w3.heap.size (w3.heap.size + 1) (w3.heap.size + 1 + 1) n k (some ⟨w2.heap.size, k * 2, none⟩) (n - k) (n - k) S R) := hFq
                          clear hFq
                          go_wp2_with fail
                          refine (fin_some HF.out (w3.heap.size + 1) (some ⟨w2.heap.size, 0, none⟩) 0 k n j t HF.out.q2 hn HSo.out (by omega) (fun h => by first | rfl | omega) (first_at0 HA.out) (j * 2) (by omega)).mono ?_
                          clear HF
                          rintro e wq ⟨rfl, hFq⟩
                          have HF : Hid (Fin w wq w2.heap.size w3.heap.size (w3.heap.size + 1) (w3.heap.size + 1 + 1) n k (some ⟨w2.heap.size, k * 2, none⟩) (n - k) (n - k) S R) := hFq
                          clear hFq
                          go_wp2_with fail
                          refine (fin_some HF.out (w3.heap.size + 1 + 1) (some ⟨w2.heap.size, k * 2, none⟩) k (n - k) (n - k) (l - k) t HF.out.q3 hn HSo.out (by omega) (fun h => by first | rfl | omega) (first_seg hkl hln hl0 HB.out) (l * 2) (by omega)).mono ?_
                          clear HF
                          rintro e wq ⟨rfl, hFq⟩
                          have HF : Hid (Fin w wq w2.heap.size w3.heap.size (w3.heap.size + 1) (w3.heap.size + 1 + 1) n k (some ⟨w2.heap.size, k * 2, none⟩) (n - k) (n - k) S R) := hFq
                          clear hFq
                          go_wp2_with fail
                          go_ret
                          exact ⟨rfl, HF.out.below⟩
                        · have hne : cb (S l) t ≠ 0 := eq_false (by assumption)
                          go_roundg (gk - 1)
                          case measure => have := HJ.out; omega
                          case rel => exact ⟨l + 1, by have := HJ.out; omega, by go_num, rfl, by omega, up2 (p := fun x => cb (S x) t ≠ 0) HB.out hne, HF.out⟩
                      · obtain rfl : n = l := by omega
                        go_wp2_with fail
                        have pe := eql_same
                        have pn := neq_same
                        refine (fin_some HF.out w3.heap.size (some ⟨w2.heap.size, 0, none⟩) 0 n n j t HF.out.q1 hn HSo.out (by omega) (fun h => by first | rfl | omega) (first_at0 (first_left (by omega) HA.out)) (j * 2) (by omega)).mono ?_
                        clear HF
                        rintro e wq ⟨rfl, hFq⟩
                        have HF : Hid (Fin w wq w2.heap.size w3.heap.size (w3.heap.size + 1) (w3.heap.size + 1 + 1) n k (some ⟨w2.heap.size, k * 2, none⟩) (n - k) (n - k) S R) := hFq
                        clear hFq
                        go_wp2_with fail
                        refine (fin_some HF.out (w3.heap.size + 1) (some ⟨w2.heap.size, 0, none⟩) 0 k n j t HF.out.q2 hn HSo.out (by omega) (fun h => by first | rfl | omega) (first_at0 HA.out) (j * 2) (by omega)).mono ?_
                        clear HF
                        rintro e wq ⟨rfl, hFq⟩
                        have HF : Hid (Fin w wq w2.heap.size w3.heap.size (w3.heap.size + 1) (w3.heap.size + 1 + 1) n k (some ⟨w2.heap.size, k * 2, none⟩) (n - k) (n - k) S R) := hFq
                        clear hFq
                        go_wp2_with fail
                        refine (fin_none HF.out (w3.heap.size + 1 + 1) (some ⟨w2.heap.size, k * 2, none⟩) k (n - k) (n - k) t HF.out.q3 hn HSo.out (by omega) (fun h => by first | rfl | omega) (first_seg_none HB.out)).mono ?_
                        clear HF
                        rintro e wq ⟨rfl, hFq⟩
                        have HF : Hid (Fin w wq w2.heap.size w3.heap.size (w3.heap.size + 1) (w3.heap.size + 1 + 1) n k (some ⟨w2.heap.size, k * 2, none⟩) (n - k) (n - k) S R) := hFq
                        clear hFq
                        go_wp2_with fail
                        go_ret
                        exact ⟨rfl, HF.out.below⟩
                  · have hne : cb (S j) t ≠ 0 := eq_false (by assumption)
                    go_roundg (gk - 1)
                    case measure => have := HJ.out; omega
                    case rel => exact ⟨j + 1, by have := HJ.out; omega, by go_num, rfl, up1 (p := fun x => cb (S x) t ≠ 0) HN.out hne, HF.out⟩
                · have HA : Hid (First S t k none) := fun x hx => HN.out x (by omega)
                  go_wp2_with fail
                  clear HN
                  clear HJ hj' hlt
                  go_loopg [27, 28] (n - k) (fun g f i W => ∃ l : Nat, g + l = n ∧ i = .int .i64 l ∧ f = .int .i64 (-1) ∧ k ≤ l ∧ (∀ x, k ≤ x → x < l → cb (S x) t ≠ 0) ∧ Fin w W w2.heap.size w3.heap.size (w3.heap.size + 1) (w3.heap.size + 1 + 1) n k (some ⟨w2.heap.size, k * 2, none⟩) (n - k) (n - k) S R)
                  case atStart => exact ⟨k, by omega, rfl, rfl, Nat.le_refl _, fun x h1 h2 => absurd h1 (by omega), HF.out⟩
                  case round =>
                    clear HF
                    obtain ⟨l, hl, rfl, rfl, hkl, hno, hF⟩ := hrel
                    have HJ : Hid (gk + l = n) := hl
                    have hl' : l ≤ n := by omega
                    have HB : Hid (∀ x, k ≤ x → x < l → cb (S x) t ≠ 0) := hno
                    have HF : Hid (Fin w wr w2.heap.size w3.heap.size (w3.heap.size + 1) (w3.heap.size + 1 + 1) n k (some ⟨w2.heap.size, k * 2, none⟩) (n - k) (n - k) S R) := hF
                    clear hl hno hF
                    by_cases hln : l < n
                    · obtain rfl := hao (by omega)
                      have hc0 := ((hc.later HF.out.below) l hln).1
                      have hlnI : (l : Int) < (n : Int) := by omega
                      go_wp2_with fail
                      · have hl0 : cb (S l) t = 0 := eq_true (by assumption)
                        clear hc0 HJ
                        have pe := eql_same
                        have pn := neq_same
                        refine (fin_some HF.out w3.heap.size (some ⟨w2.heap.size, 0, none⟩) 0 n n l t HF.out.q1 hn HSo.out (by omega) (fun h => by first | rfl | omega) (first_at0 (first_right HA.out hkl hln hl0 HB.out)) (l * 2) (by omega)).mono ?_
                        clear HF
                        rintro e wq ⟨rfl, hFq⟩
                        have HF : Hid (Fin w wq w2.heap.size w3.heap.size (w3.heap.size + 1) (w3.heap.size + 1 + 1) n k (some ⟨w2.heap.size, k * 2, none⟩) (n - k) (n - k) S R) := hFq
                        clear hFq
                        go_wp2_with fail
                        refine (fin_none HF.out (w3.heap.size + 1) (some ⟨w2.heap.size, 0, none⟩) 0 k n t HF.out.q2 hn HSo.out (by omega) (fun h => by first | rfl | omega) (first_at0 HA.out)).mono ?_
                        clear HF
                        rintro e wq ⟨rfl, hFq⟩
                        have HF : Hid (Fin w wq w2.heap.size w3.heap.size (w3.heap.size + 1) (w3.heap.size + 1 + 1) n k (some ⟨w2.heap.size, k * 2, none⟩) (n - k) (n - k) S R) := hFq
                        clear hFq
                        go_wp2_with fail
                        refine (fin_some HF.out (w3.heap.size + 1 + 1) (some ⟨w2.heap.size, k * 2, none⟩) k (n - k) (n - k) (l - k) t HF.out.q3 hn HSo.out (by omega) (fun h => by first | rfl | omega) (first_seg hkl hln hl0 HB.out) (l * 2) (by omega)).mono ?_
                        clear HF
                        rintro e wq ⟨rfl, hFq⟩
                        have HF : Hid (Fin w wq w2.heap.size w3.heap.size (w3.heap.size + 1) (w3.heap.size + 1 + 1) n k (some ⟨w2.heap.size, k * 2, none⟩) (n - k) (n - k) S R) := hFq
                        clear hFq
                        go_wp2_with fail
                        go_ret
                        exact ⟨rfl, HF.out.below⟩
                      · have hne : cb (S l) t ≠ 0 := eq_false (by assumption)
                        go_roundg (gk - 1)
                        case measure => have := HJ.out; omega
                        case rel => exact ⟨l + 1, by have := HJ.out; omega, by go_num, rfl, by omega, up2 (p := fun x => cb (S x) t ≠ 0) HB.out hne, HF.out⟩
                    · obtain rfl : n = l := by omega
                      go_wp2_with fail
                      have pe := eql_same
                      have pn := neq_same
                      refine (fin_none HF.out w3.heap.size (some ⟨w2.heap.size, 0, none⟩) 0 n n t HF.out.q1 hn HSo.out (by omega) (fun h => by first | rfl | omega) (first_at0 (first_neither HA.out HB.out))).mono ?_
                      clear HF
                      rintro e wq ⟨rfl, hFq⟩
                      have HF : Hid (Fin w wq w2.heap.size w3.heap.size (w3.heap.size + 1) (w3.heap.size + 1 + 1) n k (some ⟨w2.heap.size, k * 2, none⟩) (n - k) (n - k) S R) := hFq
                      clear hFq
                      go_wp2_with fail
                      refine (fin_none HF.out (w3.heap.size + 1) (some ⟨w2.heap.size, 0, none⟩) 0 k n t HF.out.q2 hn HSo.out (by omega) (fun h => by first | rfl | omega) (first_at0 HA.out)).mono ?_
                      clear HF
                      rintro e wq ⟨rfl, hFq⟩
                      have HF : Hid (Fin w wq w2.heap.size w3.heap.size (w3.heap.size + 1) (w3.heap.size + 1 + 1) n k (some ⟨w2.heap.size, k * 2, none⟩) (n - k) (n - k) S R) := hFq
                      clear hFq
                      go_wp2_with fail
                      refine (fin_none HF.out (w3.heap.size + 1 + 1) (some ⟨w2.heap.size, k * 2, none⟩) k (n - k) (n - k) t HF.out.q3 hn HSo.out (by omega) (fun h => by first | rfl | omega) (first_seg_none HB.out)).mono ?_
                      clear HF
                      rintro e wq ⟨rfl, hFq⟩
                      have HF : Hid (Fin w wq w2.heap.size w3.heap.size (w3.heap.size + 1) (w3.heap.size + 1 + 1) n k (some ⟨w2.heap.size, k * 2, none⟩) (n - k) (n - k) S R) := hFq
                      clear hFq
                      go_wp2_with fail
                      go_ret
                      exact ⟨rfl, HF.out.below⟩
end Go.Proofs.Qxb6617695a
