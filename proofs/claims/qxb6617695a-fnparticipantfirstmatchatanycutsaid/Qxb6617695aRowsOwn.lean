/- The row of participants that the law itself makes: 'make', then a store of a struct a round. -/
import Derived.Test.Qxb6617695aWalkA
import Derived.Deep.OwnRows
import Derived.LaidEqlPtr
import Derived.Lib.Builder
namespace Go.Proofs.Qxb6617695a
open Go.RowKit
set_option linter.unusedVariables false

theorem Try.info30 : (Try.prog.info? 30).map (fun i => (i.zero, i.size, i.bytes)) = some (some (.agg #[.string ByteArray.empty, .string ByteArray.empty]), 2, 32) := by kernel_rfl

theorem make_run (n : Nat) (hn : 32 * n ≤ 281474976710656) (w : World) :
    (Instr.makeSlice 27 (.int .i64 (n : Int)) (.int .i64 (n : Int))).run Try.prog w = .ok (.slice (some ⟨w.heap.size, 0, none⟩) n n) (w.alloc (.cells (madeCells #[.string ByteArray.empty, .string ByteArray.empty] (n * 2)) 30)) := by
  obtain ⟨i, hi, hzz⟩ := Option.map_eq_some_iff.1 Try.info30
  simp only [Prod.mk.injEq] at hzz
  obtain ⟨hz, hs, hb⟩ := hzz
  have hr := run_make (P := Try.prog) w 27 30 i _ Try.underlying27 hi hz .i64 .i64 n n (by omega) (Int.le_refl _) (by rw [hb]; omega) (by omega)
  simp only [Int.toNat_natCast, hs] at hr
  exact hr

/-- What the new row's cells hold behind j rounds. -/
def fill (S R : Nat → ByteArray) (j y : Nat) : Value := if y < j * 2 then (if y % 2 = 0 then .string (S (y / 2)) else .string (R (y / 2))) else .string ByteArray.empty

theorem fill_start (w : World) (n : Nat) (S R : Nat → ByteArray) :
    (w.alloc (.cells (madeCells #[.string ByteArray.empty, .string ByteArray.empty] (n * 2)) 30)).rowIs w.heap.size 30 (n * 2) (fill S R 0) := by
  have h := World.rowIs_alloc w (madeCells #[.string ByteArray.empty, .string ByteArray.empty] (n * 2)) 30 (fill S R 0) (fun i hi => by
    rw [size_madeCells] at hi
    have : i % 2 = 0 ∨ i % 2 = 1 := by omega
    rcases this with h | h <;> simp [madeCells, hi, h, fill])
  rwa [size_madeCells] at h

theorem fill_step {W : World} {B n j : Nat} {S R : Nat → ByteArray} (hj : j < n) (h : W.rowIs B 30 (n * 2) (fill S R j)) :
    ((W.setCell ⟨B, j * 2, none⟩ (.string (S j))).setCell ⟨B, j * 2 + 1, none⟩ (.string (R j))).rowIs B 30 (n * 2) (fill S R (j + 1)) := by
  refine ((h.set (j * 2) _).set (j * 2 + 1) _).congr fun y hy => ?_
  unfold fill
  by_cases e1 : y = j * 2 + 1
  · subst e1
    rw [if_pos rfl, if_pos (by omega), if_neg (by omega), show (j * 2 + 1) / 2 = j by omega]
  · rw [if_neg e1]
    by_cases e2 : y = j * 2
    · subst e2
      rw [if_pos rfl, if_pos (by omega), if_pos (by omega), show j * 2 / 2 = j by omega]
    · rw [if_neg e2]
      by_cases e3 : y < j * 2
      · rw [if_pos e3, if_pos (show y < (j + 1) * 2 by omega)]
      · rw [if_neg e3, if_neg (show ¬ y < (j + 1) * 2 by omega)]

theorem fill_end {W : World} {B n : Nat} {S R : Nat → ByteArray} (h : W.rowIs B 30 (n * 2) (fill S R n)) : Row W B 0 n S R := by
  intro j hj
  have h0 := h.cell (i := j * 2) (by omega)
  have h1 := h.cell (i := j * 2 + 1) (by omega)
  unfold fill at h0 h1
  rw [if_pos (by omega), if_pos (by omega), show j * 2 / 2 = j by omega] at h0
  rw [if_pos (by omega), if_neg (by omega), show (j * 2 + 1) / 2 = j by omega] at h1
  rw [Nat.zero_add]
  exact ⟨h0, h1⟩

/-! ### The three rounds -/
/-- What stands behind the making of the three rounds, whatever is laid later. -/
structure Fin (w W : World) (B K1 K2 K3 n k : Nat) (a3 : Option Addr) (m3 c3 : Nat) (S R : Nat → ByteArray) : Prop where
  row : Row W B 0 n S R
  q1 : W.cell? ⟨K1, 5, none⟩ = some (.slice (some ⟨B, 0, none⟩) n n)
  q2 : W.cell? ⟨K2, 5, none⟩ = some (.slice (some ⟨B, 0, none⟩) k n)
  q3 : W.cell? ⟨K3, 5, none⟩ = some (.slice a3 m3 c3)
  below : Below w.heap.size w W

theorem Fin.later {w W W' : World} {B K1 K2 K3 n k : Nat} {a3 : Option Addr} {m3 c3 : Nat} {S R : Nat → ByteArray} (h : Fin w W B K1 K2 K3 n k a3 m3 c3 S R) (hb : Below W.heap.size W W') : Fin w W' B K1 K2 K3 n k a3 m3 c3 S R :=
  ⟨h.row.later hb, cell_later hb h.q1, cell_later hb h.q2, cell_later hb h.q3, h.below.trans (hb.mono h.below.size)⟩

theorem fin_start {w wr : World} {B n k : Nat} {a3 : Option Addr} {m3 c3 : Nat} {S R : Nat → ByteArray} (v0 v1 v2 v3 v4 : Value) (hr : Row wr B 0 n S R) (hb : Below w.heap.size w wr) :
    Fin w (((wr.alloc (.cells #[v0, v1, v2, v3, v4, .slice (some ⟨B, 0, none⟩) n n] 35)).alloc (.cells #[v0, v1, v2, v3, v4, .slice (some ⟨B, 0, none⟩) k n] 35)).alloc (.cells #[v0, v1, v2, v3, v4, .slice a3 m3 c3] 35))
      B wr.heap.size (wr.heap.size + 1) (wr.heap.size + 1 + 1) n k a3 m3 c3 S R := by
  have h1 : Below wr.heap.size wr (((wr.alloc (.cells #[v0, v1, v2, v3, v4, .slice (some ⟨B, 0, none⟩) n n] 35)).alloc (.cells #[v0, v1, v2, v3, v4, .slice (some ⟨B, 0, none⟩) k n] 35)).alloc (.cells #[v0, v1, v2, v3, v4, .slice a3 m3 c3] 35)) :=
    (((Below.refl _ _).alloc (Nat.le_refl _) _).alloc (by simp) _).alloc (by simp; omega) _
  refine ⟨hr.later h1, ?_, ?_, ?_, hb.trans (h1.mono hb.size)⟩
  · rw [World.cell?_alloc_past _ _ _ (by simp; omega), World.cell?_alloc_past _ _ _ (by simp), World.cell?_alloc_at _ _ _ _ rfl]; rfl
  · rw [World.cell?_alloc_past _ _ _ (by simp), World.cell?_alloc_at _ _ _ _ (by simp)]; rfl
  · rw [World.cell?_alloc_at _ _ _ _ (by simp)]; rfl

theorem fin_some {w W : World} {B K1 K2 K3 n k : Nat} {a3 : Option Addr} {m3 c3 : Nat} {S R : Nat → ByteArray} (h : Fin w W B K1 K2 K3 n k a3 m3 c3 S R) (K : Nat) (ao : Option Addr) (o m c f : Nat) (t : ByteArray)
    (hq : W.cell? ⟨K, 5, none⟩ = some (.slice ao m c)) (hn : n ≤ 140737488351232) (hs : Sorted S n) (hom : o + m ≤ n) (hao : 0 < m → ao = some ⟨B, o * 2, none⟩) (hf : First (fun j => S (o + j)) t m (some f)) (y : Nat) (hy : y = (o + f) * 2) :
    Calls Try.prog 5 #[.pointer (some ⟨K, 0, none⟩), .string t] W fun e w' => e = .returned (.tuple #[.pointer (some ⟨B, y, none⟩), .bool true]) ∧ Fin w w' B K1 K2 K3 n k a3 m3 c3 S R := by
  subst hy
  refine (zz_any K 0 ao B (o * 2) m c (some f) (fun j => S (o + j)) (fun j => R (o + j)) t W (by omega) (hs.seg o m hom) hq hao (fun j hj => ?_) hf).mono fun e w' ⟨he, hb⟩ => ⟨?_, h.later hb⟩
  · have := h.row (o + j) (by omega)
    rw [Nat.zero_add] at this
    rw [show o * 2 + j * 2 = (o + j) * 2 by omega]
    exact this
  · rw [he, ptr, show o * 2 + f * 2 = (o + f) * 2 by omega]; rfl

theorem fin_none {w W : World} {B K1 K2 K3 n k : Nat} {a3 : Option Addr} {m3 c3 : Nat} {S R : Nat → ByteArray} (h : Fin w W B K1 K2 K3 n k a3 m3 c3 S R) (K : Nat) (ao : Option Addr) (o m c : Nat) (t : ByteArray)
    (hq : W.cell? ⟨K, 5, none⟩ = some (.slice ao m c)) (hn : n ≤ 140737488351232) (hs : Sorted S n) (hom : o + m ≤ n) (hao : 0 < m → ao = some ⟨B, o * 2, none⟩) (hf : First (fun j => S (o + j)) t m none) :
    Calls Try.prog 5 #[.pointer (some ⟨K, 0, none⟩), .string t] W fun e w' => e = .returned (.tuple #[.pointer none, .bool false]) ∧ Fin w w' B K1 K2 K3 n k a3 m3 c3 S R := by
  refine (zz_any K 0 ao B (o * 2) m c none (fun j => S (o + j)) (fun j => R (o + j)) t W (by omega) (hs.seg o m hom) hq hao (fun j hj => ?_) hf).mono fun e w' ⟨he, hb⟩ => ⟨he, h.later hb⟩
  have := h.row (o + j) (by omega)
  rw [Nat.zero_add] at this
  rw [show o * 2 + j * 2 = (o + j) * 2 by omega]
  exact this

theorem first_at0 {S : Nat → ByteArray} {t : ByteArray} {n : Nat} {F : Option Nat} (h : First S t n F) : First (fun j => S (0 + j)) t n F := by
  have : (fun j => S (0 + j)) = S := by funext j; rw [Nat.zero_add]
  rw [this]; exact h

/-! ### A pointer against itself -/
theorem eql_same (a : Addr) (w : World) : (binOp .eql 36 (.pointer (some a)) (.pointer (some a))).run Try.prog w = .ok (.bool true) w := by
  obtain ⟨i, hi, _⟩ := Option.map_eq_some_iff.1 Try.info30
  exact run_eql_ptr_same w a Try.underlying36 hi
theorem neq_same (a : Addr) (w : World) : (binOp .neq 36 (.pointer (some a)) (.pointer (some a))).run Try.prog w = .ok (.bool false) w := by
  obtain ⟨i, hi, _⟩ := Option.map_eq_some_iff.1 Try.info30
  exact Lib.run_neq_ptr_same w a Try.underlying36 hi
end Go.Proofs.Qxb6617695a
