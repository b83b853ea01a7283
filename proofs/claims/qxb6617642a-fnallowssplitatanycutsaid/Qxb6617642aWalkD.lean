/- The law FnAllowsSplitAtAnyCut: the cut at the end, the nil list, the cut out of range. -/
import Derived.Test.Qxb6617642aWalkC
import Derived.Deep.QuietTactic
import Derived.BigQuiet
namespace Go.Proofs.Qxb6617642a
open Go.RowKit
set_option linter.unusedVariables false

set_option maxHeartbeats 1000000 in
theorem split_out (nm p : ByteArray) (i : Int) (ao : Option Addr) (b off n c : Nat) (ss : List ByteArray) (w : World) (hn : n * 16 ≤ 140737488351232)
    (h1 : nm.size ≤ 140737488351232) (h2 : p.size ≤ 140737488351232) (hi : i < 0 ∨ (n : Int) < i)
    (hao : 0 < n → ao = some ⟨b, off, none⟩) (hc : StrRow w b off n ss) :
    Calls Try.prog 3 #[.string nm, .slice ao n c, .string p, .int .i64 i] w fun e w' => e = .returned (.bool true) ∧ Below w.heap.size w w' := by
  rcases hi with hi | hi
  · go_enter Try.func3, Try.ntmps3
    go_wp2_with (first
      | (go_at_call 5; refine (bytes5_any nm p i ao b off n c ss _ (by omega) h1 h2 hao hc).mono ?_; rintro e w' ⟨⟨r, rfl⟩, rfl⟩)
      | (go_at_call 6; refine (sizeOK_any nm p ByteArray.empty ao b off n c ss _ (by omega) h1 h2 (by decide) hao hc).mono ?_; rintro e w' ⟨⟨r, rfl⟩, rfl⟩))
    all_goals (go_ret; exact ⟨rfl, Below.refl _ _⟩)
  · have hi0 : ¬ i < 0 := by omega
    go_enter Try.func3, Try.ntmps3
    go_wp2_with (first
      | (go_at_call 5; refine (bytes5_any nm p i ao b off n c ss _ (by omega) h1 h2 hao hc).mono ?_; rintro e w' ⟨⟨r, rfl⟩, rfl⟩)
      | (go_at_call 6; refine (sizeOK_any nm p ByteArray.empty ao b off n c ss _ (by omega) h1 h2 (by decide) hao hc).mono ?_; rintro e w' ⟨⟨r, rfl⟩, rfl⟩))
    all_goals (go_ret; exact ⟨rfl, Below.refl _ _⟩)

set_option maxHeartbeats 1000000 in
theorem split_end (nm p : ByteArray) (a : Addr) (b off n c : Nat) (ss : List ByteArray) (w : World) (hl : ss.length = n) (hn : n * 16 ≤ 140737488351232)
    (h1 : nm.size ≤ 140737488351232) (h2 : p.size ≤ 140737488351232)
    (hao : 0 < n → a = ⟨b, off, none⟩) (hb : 0 < n → b < w.heap.size) (hc : StrRow w b off n ss) :
    Calls Try.prog 3 #[.string nm, .slice (some a) n c, .string p, .int .i64 n] w fun e w' => e = .returned (.bool true) ∧ Below w.heap.size w w' := by
  have HL : Hid (ss.length = n) := hl
  clear hl
  obtain ⟨L, hL⟩ : ∃ L, has p ss = L := ⟨_, rfl⟩
  have F1 : Hid (has p ((ss.drop 0).take n) = L) := by show _ = _; rw [List.drop_zero, List.take_of_length_le (by have := HL.out; omega)]; exact hL
  clear hL
  have hii : ¬ (n : Int) < 0 := by omega
  have hid : decide ((n : Int) < (n : Int)) = false := by simp
  go_enter Try.func3, Try.ntmps3
  go_wp2_with (first
    | (go_at_call 5; refine (bytes5_any nm p n (some a) b off n c ss _ (by omega) h1 h2 (fun h => by rw [hao h]) hc).mono ?_; rintro e w' ⟨⟨r, rfl⟩, rfl⟩)
    | (go_at_call 6; refine (sizeOK_any nm p ByteArray.empty (some a) b off n c ss _ (by omega) h1 h2 (by decide) (fun h => by rw [hao h]) hc).mono ?_; rintro e w' ⟨⟨r, rfl⟩, rfl⟩))
  all_goals try (go_ret; exact ⟨rfl, Below.refl _ _⟩)
  refine (perms_any a b off n c ss _ hn hao hb hc).mono ?_
  rintro e w1 ⟨rfl, hrow, hbl⟩
  have hO : Own w1 w.heap.size n ss := ⟨strRow_of hrow, hrow.lt⟩
  clear hrow hc hao hb
  go_wp2_with fail
  refine (inv_seg (inv_start hO hbl) nm p 0 n n _ hn HL.out (by omega) F1.out).mono ?_
  generalize w1.heap.size = K
  clear hO hbl
  rintro e w2 ⟨rfl, hI2⟩
  go_wp2_with fail
  refine (inv_seg hI2 nm p 0 n n _ hn HL.out (by omega) F1.out).mono ?_
  clear hI2
  rintro e w3 ⟨rfl, hI3⟩
  go_wp2_with fail
  refine (inv_none hI3 nm p _ _).mono ?_
  clear hI3
  rintro e w4 ⟨rfl, hI4⟩
  go_wp2_with fail
  all_goals
    refine (inv_seg hI4 ByteArray.empty p 0 n n _ hn HL.out (by omega) F1.out).mono ?_
    clear hI4
    rintro e w5 ⟨rfl, hI5⟩
    go_wp2_with fail
    refine (inv_none hI5 nm p none 0).mono ?_
    clear hI5
    rintro e w6 ⟨rfl, hI6⟩
    go_wp2_with fail
    go_quiet (fail)
    go_wp2_with fail
    go_ret
    exact ⟨rfl, below_drewN hI6.below _⟩

set_option maxHeartbeats 1000000 in
theorem split_nil (nm p : ByteArray) (w : World) (h1 : nm.size ≤ 140737488351232) (h2 : p.size ≤ 140737488351232) :
    Calls Try.prog 3 #[.string nm, .slice none 0 0, .string p, .int .i64 0] w fun e w' => e = .returned (.bool true) ∧ Below w.heap.size w w' := by
  have hao : 0 < 0 → (none : Option Addr) = some ⟨0, 0, none⟩ := fun h => absurd h (by omega)
  have hc : StrRow w 0 0 0 [] := fun j hj => absurd hj (by omega)
  have hid : decide ((0 : Int) < (0 : Int)) = false := by simp
  go_enter Try.func3, Try.ntmps3
  go_wp2_with (first
    | (go_at_call 5; refine (bytes5_any nm p 0 none 0 0 0 0 [] _ (by omega) h1 h2 hao hc).mono ?_; rintro e w' ⟨⟨r, rfl⟩, rfl⟩)
    | (go_at_call 6; refine (sizeOK_any nm p ByteArray.empty none 0 0 0 0 [] _ (by omega) h1 h2 (by decide) hao hc).mono ?_; rintro e w' ⟨⟨r, rfl⟩, rfl⟩))
  all_goals try (go_ret; exact ⟨rfl, Below.refl _ _⟩)
  refine (perms_nil _).mono ?_
  rintro e w1 ⟨rfl, rfl⟩
  go_wp2_with fail
  refine (allows_none nm p none 0 _).mono ?_
  rintro e w2 ⟨rfl, rfl⟩
  go_wp2_with fail
  refine (allows_none nm p none 0 _).mono ?_
  rintro e w2 ⟨rfl, rfl⟩
  go_wp2_with fail
  refine (allows_none nm p none 0 _).mono ?_
  rintro e w2 ⟨rfl, rfl⟩
  go_wp2_with fail
  refine (allows_none ByteArray.empty p none 0 _).mono ?_
  rintro e w2 ⟨rfl, rfl⟩
  go_wp2_with fail
  refine (allows_none nm p none 0 _).mono ?_
  rintro e w2 ⟨rfl, rfl⟩
  go_wp2_with fail
  go_quiet (fail)
  go_wp2_with fail
  go_ret
  refine ⟨rfl, below_drewN ?_ _⟩
  exact ((((((Below.refl _ _).alloc (Nat.le_refl _) _).alloc (by simp) _).alloc (by simp; omega) _).alloc (by simp; omega) _).alloc (by simp; omega) _).alloc (by simp; omega) _

/-- The law, at every input. -/
theorem split_any (nm p : ByteArray) (i : Int) (ao : Option Addr) (b off n c : Nat) (ss : List ByteArray) (w : World) (hl : ss.length = n) (hn : n * 16 ≤ 140737488351232)
    (h1 : nm.size ≤ 140737488351232) (h2 : p.size ≤ 140737488351232)
    (hnil : ao = none → n = 0 ∧ c = 0) (hao : 0 < n → ao = some ⟨b, off, none⟩) (hb : 0 < n → b < w.heap.size) (hc : StrRow w b off n ss) :
    Calls Try.prog 3 #[.string nm, .slice ao n c, .string p, .int .i64 i] w fun e w' => e = .returned (.bool true) ∧ Below w.heap.size w w' := by
  by_cases ho : i < 0 ∨ (n : Int) < i
  · exact split_out nm p i ao b off n c ss w hn h1 h2 ho hao hc
  · obtain ⟨k, rfl⟩ : ∃ k : Nat, i = k := ⟨i.toNat, by omega⟩
    cases ao with
    | none =>
      obtain ⟨rfl, rfl⟩ := hnil rfl
      obtain rfl : k = 0 := by omega
      exact split_nil nm p w h1 h2
    | some a =>
      have ha : 0 < n → a = ⟨b, off, none⟩ := fun h => by simpa using hao h
      by_cases hk : k < n
      · exact split_some nm p k a b off n c ss w hl hn h1 h2 hk ha hb hc
      · obtain rfl : k = n := by omega
        exact split_end nm p a b off k c ss w hl hn h1 h2 ha hb hc
end Go.Proofs.Qxb6617642a
