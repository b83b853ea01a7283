/- The law FnAllowsSplitAtAnyCut, walked over the contracts. -/
import Derived.Test.Qxb6617642aWalkB
import Derived.Deep.RegionHeld3
namespace Go.Proofs.Qxb6617642a
open Go.RowKit
set_option linter.unusedVariables false

theorem StrRow.alloc {w : World} {b off n : Nat} {ss : List ByteArray} (h : StrRow w b off n ss) (hb : b < w.heap.size) (o : Obj) : StrRow (w.alloc o) b off n ss :=
  fun j hj => by rw [World.cell?_alloc_past _ _ _ hb]; exact h j hj

theorem strRow_of {w : World} {b n : Nat} {ss : List ByteArray} (h : w.rowIs b 27 n (fun j => .string (ss[j]?.getD ByteArray.empty))) : StrRow w b 0 n ss :=
  fun j hj => by rw [Nat.zero_add]; exact h.cell hj

/-- A row of the call's own. -/
def Own (W : World) (B n : Nat) (ss : List ByteArray) : Prop := StrRow W B 0 n ss ∧ B < W.heap.size
theorem Own.alloc {W : World} {B n : Nat} {ss : List ByteArray} (h : Own W B n ss) (o : Obj) : Own (W.alloc o) B n ss := ⟨h.1.alloc h.2 o, by have := h.2; simp; omega⟩

theorem Own.drew {W : World} {B n : Nat} {ss : List ByteArray} (h : Own W B n ss) : Own W.drew B n ss := h

/-- Allows, asked of a part of a row of the call's own. -/
theorem allows_seg (nm q : ByteArray) (B o m c n : Nat) (ss : List ByteArray) (W : World) (r : Bool) (hn : n * 16 ≤ 140737488351232) (hl : ss.length = n) (hom : o + m ≤ n) (hO : Own W B n ss) (hr : has q ((ss.drop o).take m) = r) :
    Calls Try.prog 8 #[.agg #[.string nm, .slice (some ⟨B, o, none⟩) m c], .string q] W fun e w' => e = .returned (.bool r) ∧ w' = W.alloc (.cells #[.string nm, .slice (some ⟨B, o, none⟩) m c] 29) := by
  subst hr
  refine allows_any nm q (some ⟨B, o, none⟩) B o m c (ss.drop o) W (by omega) (by simp; omega) (fun _ => rfl) (fun _ => hO.2) fun j hj => ?_
  have := hO.1 (o + j) (by omega)
  rw [Nat.zero_add] at this
  rw [this, List.getElem?_drop]

/-- .. of a slice without an element. -/
theorem allows_none (nm q : ByteArray) (ao : Option Addr) (c : Nat) (W : World) :
    Calls Try.prog 8 #[.agg #[.string nm, .slice ao 0 c], .string q] W fun e w' => e = .returned (.bool false) ∧ w' = W.alloc (.cells #[.string nm, .slice ao 0 c] 29) :=
  allows_any nm q ao 0 0 0 c [] W (by omega) (by simp) (fun h => absurd h (by omega)) (fun h => absurd h (by omega)) (fun j hj => absurd hj (by omega))

/-- What stands behind the making of the key k, whatever is laid later: the row of permissions in block B, the key in block K, nothing below B has turned. -/
structure Inv (w W : World) (B K n : Nat) (nm : ByteArray) (ss : List ByteArray) : Prop where
  own : Own W B n ss
  k0 : W.cell? ⟨K, 0, none⟩ = some (.string nm)
  k1 : W.cell? ⟨K, 1, none⟩ = some (.slice (some ⟨B, 0, none⟩) n n)
  lt : K < W.heap.size
  below : Below w.heap.size w W
  ge : w.heap.size ≤ W.heap.size

theorem Inv.alloc {w W : World} {B K n : Nat} {nm : ByteArray} {ss : List ByteArray} (h : Inv w W B K n nm ss) (o : Obj) : Inv w (W.alloc o) B K n nm ss :=
  ⟨h.own.alloc o, by rw [World.cell?_alloc_past _ _ _ h.lt]; exact h.k0, by rw [World.cell?_alloc_past _ _ _ h.lt]; exact h.k1, by have := h.lt; simp; omega, h.below.alloc h.ge o, by have := h.ge; simp; omega⟩

theorem Inv.drew {w W : World} {B K n : Nat} {nm : ByteArray} {ss : List ByteArray} (h : Inv w W B K n nm ss) : Inv w W.drew B K n nm ss :=
  ⟨h.own, h.k0, h.k1, h.lt, h.below.drew, h.ge⟩

theorem inv_start {w w1 : World} {B n : Nat} {nm : ByteArray} {ss : List ByteArray} (hO : Own w1 B n ss) (hb : Below w.heap.size w w1) :
    Inv w (w1.alloc (.cells #[.string nm, .slice (some ⟨B, 0, none⟩) n n] 29)) B w1.heap.size n nm ss :=
  ⟨hO.alloc _, by simp, by simp, by simp, hb.alloc hb.size _, by have := hb.size; simp; omega⟩

theorem inv_seg {w W : World} {B K n : Nat} {nm : ByteArray} {ss : List ByteArray} (hI : Inv w W B K n nm ss) (nm' q : ByteArray) (o m c : Nat) (r : Bool) (hn : n * 16 ≤ 140737488351232) (hl : ss.length = n) (hom : o + m ≤ n) (hr : has q ((ss.drop o).take m) = r) :
    Calls Try.prog 8 #[.agg #[.string nm', .slice (some ⟨B, o, none⟩) m c], .string q] W fun e w' => e = .returned (.bool r) ∧ Inv w w' B K n nm ss :=
  (allows_seg nm' q B o m c n ss W r hn hl hom hI.own hr).mono fun e w' ⟨he, hw⟩ => ⟨he, by rw [hw]; exact hI.alloc _⟩

theorem inv_none {w W : World} {B K n : Nat} {nm : ByteArray} {ss : List ByteArray} (hI : Inv w W B K n nm ss) (nm' q : ByteArray) (ao : Option Addr) (c : Nat) :
    Calls Try.prog 8 #[.agg #[.string nm', .slice ao 0 c], .string q] W fun e w' => e = .returned (.bool false) ∧ Inv w w' B K n nm ss :=
  (allows_none nm' q ao c W).mono fun e w' ⟨he, hw⟩ => ⟨he, by rw [hw]; exact hI.alloc _⟩

set_option maxHeartbeats 1000000 in
theorem split_some (nm p : ByteArray) (i : Nat) (a : Addr) (b off n c : Nat) (ss : List ByteArray) (w : World) (hl : ss.length = n) (hn : n * 16 ≤ 140737488351232)
    (h1 : nm.size ≤ 140737488351232) (h2 : p.size ≤ 140737488351232) (hi : i < n)
    (hao : 0 < n → a = ⟨b, off, none⟩) (hb : 0 < n → b < w.heap.size) (hc : StrRow w b off n ss) :
    Calls Try.prog 3 #[.string nm, .slice (some a) n c, .string p, .int .i64 i] w fun e w' => e = .returned (.bool true) ∧ Below w.heap.size w w' := by
  have HL : Hid (ss.length = n) := hl
  clear hl
  obtain ⟨L, hL⟩ : ∃ L, has p (ss.take i) = L := ⟨_, rfl⟩
  obtain ⟨R, hR⟩ : ∃ R, has p (ss.drop i) = R := ⟨_, rfl⟩
  have hLR : has p ss = (L || R) := by rw [← hL, ← hR, ← has_append, List.take_append_drop]
  have F1 : Hid (has p ((ss.drop 0).take n) = (L || R)) := by show _ = _; rw [List.drop_zero, List.take_of_length_le (by have := HL.out; omega)]; exact hLR
  have F2 : Hid (has p ((ss.drop 0).take i) = L) := by show _ = _; rw [List.drop_zero]; exact hL
  have F3 : Hid (has p ((ss.drop i).take (n - i)) = R) := by show _ = _; rw [List.take_of_length_le (by have := HL.out; simp; omega)]; exact hR
  have F4 : Hid (has (ss[i]?.getD ByteArray.empty) ((ss.drop 0).take n) = true) := has_hit _ _ i n hi (by have := HL.out; simp; omega) (by simp)
  clear hL hR hLR
  go_enter Try.func3, Try.ntmps3
  go_wp2_with (first
    | (go_at_call 5; refine (bytes5_any nm p i (some a) b off n c ss _ (by omega) h1 h2 (fun h => by rw [hao h]) hc).mono ?_; rintro e w' ⟨⟨r, rfl⟩, rfl⟩)
    | (go_at_call 6; refine (sizeOK_any nm p ByteArray.empty (some a) b off n c ss _ (by omega) h1 h2 (by decide) (fun h => by rw [hao h]) hc).mono ?_; rintro e w' ⟨⟨r, rfl⟩, rfl⟩))
  all_goals try (go_ret; exact ⟨rfl, Below.refl _ _⟩)
  refine (perms_any a b off n c ss _ hn hao hb hc).mono ?_
  rintro e w1 ⟨rfl, hrow, hbl⟩
  have hO : Own w1 w.heap.size n ss := ⟨strRow_of hrow, hrow.lt⟩
  clear hrow hc hao hb
  go_wp2_with fail
  refine (inv_seg (inv_start hO hbl) nm p 0 n n _ hn HL.out (by omega) F1.out).mono ?_
  generalize w1.heap.size = K
  clear hO hbl
  rintro e w2 ⟨rfl, hI2⟩
  go_wp2_with fail
  refine (inv_seg hI2 nm p 0 i n _ hn HL.out (by omega) F2.out).mono ?_
  clear hI2
  rintro e w3 ⟨rfl, hI3⟩
  go_wp2_with fail
  refine (inv_seg hI3 nm p i (n - i) (n - i) _ hn HL.out (by omega) F3.out).mono ?_
  clear hI3
  rintro e w4 ⟨rfl, hI4⟩
  go_wp2_with fail
  all_goals
    refine (inv_seg hI4 ByteArray.empty p 0 n n _ hn HL.out (by omega) F1.out).mono ?_
    clear hI4
    rintro e w5 ⟨rfl, hI5⟩
    go_wp2_with fail
    refine (inv_none hI5 nm p none 0).mono ?_
    clear hI5
    rintro e w6 ⟨rfl, hI6⟩
    have k0 := hI6.k0
    have k1 := hI6.k1
    have kc := hI6.own.1 i hi
    rw [Nat.zero_add] at kc
    go_wp2_with fail
    have hi' : (i : Int) < (n : Int) := by omega
    have hs : ∀ W : World, Inv w W w.heap.size K n nm ss → W.cell? ⟨K, 0, none⟩ = some (.string nm) ∧ W.cell? ⟨K, 1, none⟩ = some (.slice (some ⟨w.heap.size, 0, none⟩) n n) ∧ W.cell? ⟨w.heap.size, i, none⟩ = some (.string (ss[i]?.getD ByteArray.empty)) ∧ Inv w W w.heap.size K n nm ss :=
      fun W h => ⟨h.k0, h.k1, by have := h.own.1 i hi; rwa [Nat.zero_add] at this, h⟩
    have HS : Hid (∀ W : World, Inv w W w.heap.size K n nm ss → W.cell? ⟨K, 0, none⟩ = some (.string nm) ∧ W.cell? ⟨K, 1, none⟩ = some (.slice (some ⟨w.heap.size, 0, none⟩) n n) ∧ W.cell? ⟨w.heap.size, i, none⟩ = some (.string (ss[i]?.getD ByteArray.empty)) ∧ Inv w W w.heap.size K n nm ss) := hs
    clear hs k0 k1 kc
    go_region_held3 (fun W => W.cell? ⟨K, 0, none⟩ = some (.string nm) ∧ W.cell? ⟨K, 1, none⟩ = some (.slice (some ⟨w.heap.size, 0, none⟩) n n) ∧ W.cell? ⟨w.heap.size, i, none⟩ = some (.string (ss[i]?.getD ByteArray.empty)) ∧ Inv w W w.heap.size K n nm ss)
      (first | exact HS.out _ hI6.drew | exact HS.out _ (by assumption))
      (first | (go_at_call 8; refine (inv_seg hI6.drew nm (ss[i]?.getD ByteArray.empty) 0 n n _ hn HL.out (by omega) F4.out).mono ?_; rintro e w7 ⟨rfl, hI7⟩))
    go_wp2_with fail
    go_ret
    exact ⟨rfl, Inv.below (by assumption)⟩
end Go.Proofs.Qxb6617642a
