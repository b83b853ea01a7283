/- b1Perms and b1Insert: each lays a new row of strings. -/
import Derived.Test.Qxb6617642aWalkA
import Derived.Deep.OwnRows
import Derived.Lib.SliceRun
namespace Go.Proofs.Qxb6617642a
open Go.RowKit
set_option linter.unusedVariables false

theorem Try.info27 : (Try.prog.info? 27).map (fun i => (i.zero, i.size, i.bytes)) = some (some (.string ByteArray.empty), 1, 16) := by kernel_rfl

/-- What the new row holds behind k rounds. -/
def part (ss : List ByteArray) (k j : Nat) : Value := if j < k then .string (ss[j]?.getD ByteArray.empty) else .string ByteArray.empty

theorem perms_start (w wr : World) (n : Nat) (ss : List ByteArray) (h : wr = w.alloc (.cells (madeCells #[.string ByteArray.empty] n) 27)) :
    wr.rowIs w.heap.size 27 n (part ss 0) ∧ Below w.heap.size w wr := by
  subst h
  exact ⟨(World.rowIs_made w (.string ByteArray.empty) n 27).congr (fun i hi => by simp [part]), (Below.refl _ _).alloc (Nat.le_refl _) _⟩

theorem perms_step {w wr : World} {n k : Nat} {ss : List ByteArray} (hk : k < n) (hr : wr.rowIs w.heap.size 27 n (part ss k)) (hb : Below w.heap.size w wr) :
    (wr.setCell ⟨w.heap.size, k, none⟩ (.string (ss[k]?.getD ByteArray.empty))).rowIs w.heap.size 27 n (part ss (k + 1)) ∧ Below w.heap.size w (wr.setCell ⟨w.heap.size, k, none⟩ (.string (ss[k]?.getD ByteArray.empty))) := by
  refine ⟨(hr.set k _).congr fun i hi => ?_, hb.setCell (Nat.le_refl _) _⟩
  unfold part
  by_cases e : i = k
  · subst e; simp
  · by_cases e2 : i < k
    · rw [if_neg e, if_pos e2, if_pos (by omega)]
    · rw [if_neg e, if_neg e2, if_neg (by omega)]

set_option maxHeartbeats 400000 in
theorem perms_nil (w : World) : Calls Try.prog 7 #[.slice none 0 0] w fun e w' => e = .returned (.slice none 0 0) ∧ w = w' := by
  have q : ∀ (w : World) (a : Option Addr) (n c : Nat), (binOp .eql 22 (.slice a n c) (.slice none 0 0)).run Try.prog w = .ok (.bool a.isNone) w := fun w a n c => Lib.run_eql_slice_nil w _ _ a n c _ _ Try.underlying22
  go_enter Try.func7, Try.ntmps7
  go_wp2
  go_ret
  exact ⟨rfl, rfl⟩

set_option maxHeartbeats 400000 in
theorem perms_any (a : Addr) (b off n c : Nat) (ss : List ByteArray) (w : World) (hn : n * 16 ≤ 140737488351232)
    (hao : 0 < n → a = ⟨b, off, none⟩) (hb : 0 < n → b < w.heap.size) (hc : StrRow w b off n ss) :
    Calls Try.prog 7 #[.slice (some a) n c] w fun e w' => e = .returned (.slice (some ⟨w.heap.size, 0, none⟩) n n) ∧ w'.rowIs w.heap.size 27 n (fun j => .string (ss[j]?.getD ByteArray.empty)) ∧ Below w.heap.size w w' := by
  have q : ∀ (w : World) (a : Option Addr) (n c : Nat), (binOp .eql 22 (.slice a n c) (.slice none 0 0)).run Try.prog w = .ok (.bool a.isNone) w := fun w a n c => Lib.run_eql_slice_nil w _ _ a n c _ _ Try.underlying22
  have hmk := run_make_row' (P := Try.prog) 25 27 (.string ByteArray.empty) 16 Try.underlying25 Try.info27 rfl .i64 .i64 n (by omega) (by omega)
  go_enter Try.func7, Try.ntmps7
  go_wp2
  go_loopw [4] (fun i wr => ∃ k : Nat, k ≤ n ∧ i = .int .i64 k ∧ wr.rowIs w.heap.size 27 n (part ss k) ∧ Below w.heap.size w wr) (fun i _ => n - (intOf i).toNat)
  case atStart => exact ⟨0, Nat.zero_le _, rfl, (perms_start w _ n ss rfl).1, (perms_start w _ n ss rfl).2⟩
  case round =>
    obtain ⟨k, hk, rfl, hr, hbl⟩ := hrel
    clear hmk
    by_cases hlt : k < n
    · obtain rfl := hao (by omega)
      have hcell : wr.cell? ⟨b, off + k, none⟩ = some (.string (ss[k]?.getD ByteArray.empty)) := (hbl.cell (by exact hb (by omega))).trans (hc k hlt)
      have hown := hr.cell hlt
      have hfr := hr.frozen k
      have R := perms_step (ss := ss) hlt hr hbl
      clear hr hbl
      go_wp2
      go_roundw
      case rel => exact ⟨k + 1, by omega, by go_num, R.1, R.2⟩
      case measure => simp [intOf]; omega
    · go_wp2
      go_ret
      have : k = n := by omega
      subst this
      exact ⟨rfl, hr.congr (fun i hi => by simp [part, hi]), hbl⟩

/-! ### b1Insert -/
/-- What the new row holds when x has been put in at i and the elements up to k have been moved on. -/
def part2 (ss : List ByteArray) (i : Nat) (x : ByteArray) (k j : Nat) : Value :=
  if j < i then .string (ss[j]?.getD ByteArray.empty) else if j = i then .string x else if j ≤ k then .string (ss[j - 1]?.getD ByteArray.empty) else .string ByteArray.empty

theorem ins_mid {w wr : World} {m i : Nat} {ss : List ByteArray} (x : ByteArray) (hi : i < m) (hr : wr.rowIs w.heap.size 27 m (part ss i)) (hb : Below w.heap.size w wr) :
    (wr.setCell ⟨w.heap.size, i, none⟩ (.string x)).rowIs w.heap.size 27 m (part2 ss i x i) ∧ Below w.heap.size w (wr.setCell ⟨w.heap.size, i, none⟩ (.string x)) := by
  refine ⟨(hr.set i _).congr fun j hj => ?_, hb.setCell (Nat.le_refl _) _⟩
  unfold part part2
  by_cases e : j = i
  · subst e; simp
  · by_cases e2 : j < i
    · rw [if_neg e, if_pos e2, if_pos e2]
    · rw [if_neg e, if_neg e2, if_neg e2, if_neg e, if_neg (by omega)]

theorem ins_step {w wr : World} {m i k : Nat} {ss : List ByteArray} {x : ByteArray} (hi : i ≤ k) (hk : k + 1 < m) (hr : wr.rowIs w.heap.size 27 m (part2 ss i x k)) (hb : Below w.heap.size w wr) :
    (wr.setCell ⟨w.heap.size, k + 1, none⟩ (.string (ss[k]?.getD ByteArray.empty))).rowIs w.heap.size 27 m (part2 ss i x (k + 1)) ∧ Below w.heap.size w (wr.setCell ⟨w.heap.size, k + 1, none⟩ (.string (ss[k]?.getD ByteArray.empty))) := by
  refine ⟨(hr.set (k + 1) _).congr fun j hj => ?_, hb.setCell (Nat.le_refl _) _⟩
  unfold part2
  by_cases e : j = k + 1
  · subst e; rw [if_pos rfl, if_neg (by omega), if_neg (by omega), if_pos (by omega)]; simp
  · rw [if_neg e]
    by_cases e2 : j < i
    · rw [if_pos e2, if_pos e2]
    · rw [if_neg e2, if_neg e2]
      by_cases e3 : j = i
      · rw [if_pos e3, if_pos e3]
      · rw [if_neg e3, if_neg e3]
        by_cases e4 : j ≤ k
        · rw [if_pos e4, if_pos (by omega)]
        · rw [if_neg e4, if_neg (by omega)]

/-- The list with x put in at i. -/
def ins (ss : List ByteArray) (i : Nat) (x : ByteArray) : List ByteArray := ss.take i ++ x :: ss.drop i

theorem ins_length (ss : List ByteArray) (i : Nat) (x : ByteArray) (hi : i ≤ ss.length) : (ins ss i x).length = ss.length + 1 := by
  simp [ins]; omega

theorem ins_get (ss : List ByteArray) (i : Nat) (x : ByteArray) (hi : i ≤ ss.length) (j : Nat) (hj : j < ss.length + 1) : part2 ss i x ss.length j = .string ((ins ss i x)[j]?.getD ByteArray.empty) := by
  unfold part2 ins
  by_cases e : j < i
  · rw [if_pos e, List.getElem?_append_left (by simp; omega), List.getElem?_take, if_pos e]
  · rw [if_neg e, List.getElem?_append_right (by simp; omega)]
    by_cases e2 : j = i
    · subst e2
      rw [if_pos rfl]
      simp [Nat.min_eq_left hi]
    · rw [if_neg e2, if_pos (by omega)]
      have h1 : j - (ss.take i).length = (j - i - 1) + 1 := by simp; omega
      rw [h1, List.getElem?_cons_succ, List.getElem?_drop]
      have h2 : i + (j - i - 1) = j - 1 := by omega
      rw [h2]

set_option maxHeartbeats 1000000 in
theorem insert_any (ao : Option Addr) (b n c i : Nat) (x : ByteArray) (ss : List ByteArray) (w : World) (hl : ss.length = n) (hn : n * 16 ≤ 140737488351232) (hi : i ≤ n)
    (hao : 0 < n → ao = some ⟨b, 0, none⟩) (hb : 0 < n → b < w.heap.size) (hc : StrRow w b 0 n ss) :
    Calls Try.prog 10 #[.slice ao n c, .int .i64 i, .string x] w fun e w' => e = .returned (.slice (some ⟨w.heap.size, 0, none⟩) (n + 1) (n + 1)) ∧ w'.rowIs w.heap.size 27 (n + 1) (fun j => .string ((ins ss i x)[j]?.getD ByteArray.empty)) ∧ Below w.heap.size w w' := by
  have HL : Hid (ss.length = n) := hl
  clear hl
  have ec : ((n + 1 : Nat) : Int) = (n : Int) + 1 := by omega
  have hmk := run_make_row' (P := Try.prog) 25 27 (.string ByteArray.empty) 16 Try.underlying25 Try.info27 rfl .i64 .i64 (n + 1) (by omega) (by omega)
  rw [ec] at hmk
  clear ec
  go_enter Try.func10, Try.ntmps10
  go_wp2
  clear hmk
  go_loopw [8] (fun t wr => ∃ k : Nat, k ≤ i ∧ t = .int .i64 k ∧ wr.rowIs w.heap.size 27 (n + 1) (part ss k) ∧ Below w.heap.size w wr) (fun t _ => i - (intOf t).toNat)
  case atStart => exact ⟨0, Nat.zero_le _, rfl, (perms_start w _ (n + 1) ss rfl).1, (perms_start w _ (n + 1) ss rfl).2⟩
  case round =>
    obtain ⟨k, hk, rfl, hr, hbl⟩ := hrel
    by_cases hlt : k < i
    · obtain rfl := hao (by omega)
      have hcell : wr.cell? ⟨b, k, none⟩ = some (.string (ss[k]?.getD ByteArray.empty)) := by
        have := (hbl.cell (p := ⟨b, 0 + k, none⟩) (by exact hb (by omega))).trans (hc k (by omega))
        rwa [Nat.zero_add] at this
      have hown := hr.cell (i := k) (by omega)
      have hfr := hr.frozen k
      have R := perms_step (ss := ss) (k := k) (by omega) hr hbl
      clear hr hbl
      go_wp2
      go_roundw
      case rel => exact ⟨k + 1, by omega, by go_num, R.1, R.2⟩
      case measure => simp [intOf]; omega
    · obtain rfl : k = i := by omega
      have hown := hr.cell (i := k) (by omega)
      have hfr := hr.frozen k
      have R := ins_mid (ss := ss) (i := k) x (by omega) hr hbl
      clear hr hbl
      go_wp2
      go_loopw [9] (fun t wr => ∃ j : Nat, k ≤ j ∧ j ≤ n ∧ t = .int .i64 j ∧ wr.rowIs w.heap.size 27 (n + 1) (part2 ss k x j) ∧ Below w.heap.size w wr) (fun t _ => n - (intOf t).toNat)
      case atStart => exact ⟨k, Nat.le_refl _, hi, rfl, R.1, R.2⟩
      case round =>
        clear hown hfr R
        obtain ⟨j, hkj, hj, rfl, hr, hbl⟩ := hrel
        by_cases hlt2 : j < n
        · obtain rfl := hao (by omega)
          have hcell : wr.cell? ⟨b, j, none⟩ = some (.string (ss[j]?.getD ByteArray.empty)) := by
            have := (hbl.cell (p := ⟨b, 0 + j, none⟩) (by exact hb (by omega))).trans (hc j (by omega))
            rwa [Nat.zero_add] at this
          have hown := hr.cell (i := j + 1) (by omega)
          have hfr := hr.frozen (j + 1)
          have R := ins_step (ss := ss) (k := j) (x := x) (i := k) (by omega) (by omega) hr hbl
          clear hr hbl
          go_wp2
          go_roundw
          case rel => exact ⟨j + 1, by omega, by omega, by go_num, R.1, R.2⟩
          case measure => simp [intOf]; omega
        · obtain rfl : j = n := by omega
          go_wp2
          go_ret
          obtain rfl := HL.out
          exact ⟨rfl, hr.congr (fun i hi' => ins_get ss k x hi i hi'), hbl⟩
end Go.Proofs.Qxb6617642a
