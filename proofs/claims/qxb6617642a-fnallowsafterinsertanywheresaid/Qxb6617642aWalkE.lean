/- The law FnAllowsAfterInsertAnywhere, walked over the contracts. -/
import Derived.Test.Qxb6617642aWalkC
namespace Go.Proofs.Qxb6617642a
open Go.RowKit
set_option linter.unusedVariables false

theorem has_ins_self (ss : List ByteArray) (i : Nat) (q : ByteArray) : has q (ins ss i q) = true := by
  simp [ins, has]

theorem has_ins (ss : List ByteArray) (i : Nat) (p q : ByteArray) : has p (ins ss i q) = (has p ss || (p.toList == q.toList)) := by
  have h : has p ss = (has p (ss.take i) || has p (ss.drop i)) := by rw [← has_append, List.take_append_drop]
  have h2 : has p (q :: ss.drop i) = ((p.toList == q.toList) || has p (ss.drop i)) := rfl
  rw [h, ins, has_append, h2]
  cases has p (ss.take i) <;> cases has p (ss.drop i) <;> cases (p.toList == q.toList) <;> rfl

/-- The key of a whole row of the call's own is asked. -/
theorem inv_whole {w W : World} {B K n : Nat} {nm : ByteArray} {ss : List ByteArray} (hI : Inv w W B K n nm ss) (nm' q : ByteArray) (c : Nat) (r : Bool) (hn : n ≤ 140737488351232) (hl : ss.length = n) (hr : has q ss = r) :
    Calls Try.prog 8 #[.agg #[.string nm', .slice (some ⟨B, 0, none⟩) n c], .string q] W fun e w' => e = .returned (.bool r) ∧ Inv w w' B K n nm ss := by
  subst hr
  refine (allows_any nm' q (some ⟨B, 0, none⟩) B 0 n c ss W hn (by omega) (fun _ => rfl) (fun _ => hI.own.2) hI.own.1).mono fun e w' ⟨he, hw⟩ => ⟨?_, by rw [hw]; exact hI.alloc _⟩
  rw [he, List.take_of_length_le (by omega)]

set_option maxHeartbeats 1000000 in
theorem insert_out (nm p q : ByteArray) (i : Int) (ao : Option Addr) (b off n c : Nat) (ss : List ByteArray) (w : World) (hn : n * 16 ≤ 140737488351232)
    (h1 : nm.size ≤ 140737488351232) (h2 : p.size ≤ 140737488351232) (h3 : q.size ≤ 140737488351232) (hi : i < 0 ∨ (n : Int) < i)
    (hao : 0 < n → ao = some ⟨b, off, none⟩) (hc : StrRow w b off n ss) :
    Calls Try.prog 4 #[.string nm, .slice ao n c, .string p, .string q, .int .i64 i] w fun e w' => e = .returned (.bool true) ∧ Below w.heap.size w w' := by
  rcases hi with hi | hi
  · go_enter Try.func4, Try.ntmps4
    go_wp2_with (first
      | (go_at_call 9; refine (bytes9_any nm p q i ao b off n c ss _ (by omega) h1 h2 h3 hao hc).mono ?_; rintro e w' ⟨⟨r, rfl⟩, rfl⟩)
      | (go_at_call 6; refine (sizeOK_any nm p q ao b off n c ss _ (by omega) h1 h2 h3 hao hc).mono ?_; rintro e w' ⟨⟨r, rfl⟩, rfl⟩))
    all_goals (go_ret; exact ⟨rfl, Below.refl _ _⟩)
  · have hi0 : ¬ i < 0 := by omega
    go_enter Try.func4, Try.ntmps4
    go_wp2_with (first
      | (go_at_call 9; refine (bytes9_any nm p q i ao b off n c ss _ (by omega) h1 h2 h3 hao hc).mono ?_; rintro e w' ⟨⟨r, rfl⟩, rfl⟩)
      | (go_at_call 6; refine (sizeOK_any nm p q ao b off n c ss _ (by omega) h1 h2 h3 hao hc).mono ?_; rintro e w' ⟨⟨r, rfl⟩, rfl⟩))
    all_goals (go_ret; exact ⟨rfl, Below.refl _ _⟩)

set_option maxHeartbeats 1000000 in
theorem insert_some (nm p q : ByteArray) (i : Nat) (a : Addr) (b off n c : Nat) (ss : List ByteArray) (w : World) (hl : ss.length = n) (hn : n * 16 ≤ 140737488351232)
    (h1 : nm.size ≤ 140737488351232) (h2 : p.size ≤ 140737488351232) (h3 : q.size ≤ 140737488351232) (hi : i ≤ n)
    (hao : 0 < n → a = ⟨b, off, none⟩) (hb : 0 < n → b < w.heap.size) (hc : StrRow w b off n ss) :
    Calls Try.prog 4 #[.string nm, .slice (some a) n c, .string p, .string q, .int .i64 i] w fun e w' => e = .returned (.bool true) ∧ Below w.heap.size w w' := by
  have HL : Hid (ss.length = n) := hl
  clear hl
  obtain ⟨L, hL⟩ : ∃ L, has p ss = L := ⟨_, rfl⟩
  obtain ⟨E, hE⟩ : ∃ E, (p.toList == q.toList) = E := ⟨_, rfl⟩
  have F1 : Hid (has p ss = L) := hL
  have F2 : Hid (has p (ins ss i q) = (L || E)) := by show _ = _; rw [has_ins, hL, hE]
  have HI : Hid ((ins ss i q).length = n + 1) := by show _ = _; rw [ins_length _ _ _ (by have := HL.out; omega)]; have := HL.out; omega
  clear hL
  have hi0 : ¬ (i : Int) < 0 := by omega
  have hin : ¬ (n : Int) < (i : Int) := by omega
  go_enter Try.func4, Try.ntmps4
  go_wp2_with (first
    | (go_at_call 9; refine (bytes9_any nm p q i (some a) b off n c ss _ (by omega) h1 h2 h3 (fun h => by rw [hao h]) hc).mono ?_; rintro e w' ⟨⟨r, rfl⟩, rfl⟩)
    | (go_at_call 6; refine (sizeOK_any nm p q (some a) b off n c ss _ (by omega) h1 h2 h3 (fun h => by rw [hao h]) hc).mono ?_; rintro e w' ⟨⟨r, rfl⟩, rfl⟩))
  all_goals try (go_ret; exact ⟨rfl, Below.refl _ _⟩)
  refine (perms_any a b off n c ss _ hn hao hb hc).mono ?_
  rintro e w1 ⟨rfl, hrow, hbl⟩
  have hO : Own w1 w.heap.size n ss := ⟨strRow_of hrow, hrow.lt⟩
  clear hrow hc hao hb
  go_wp2_with fail
  refine (inv_whole (inv_start hO hbl) nm p n _ (by omega) HL.out F1.out).mono ?_
  generalize w1.heap.size = K
  clear hO hbl
  rintro e w2 ⟨rfl, hI2⟩
  go_wp2_with fail
  refine (insert_any (some ⟨w.heap.size, 0, none⟩) w.heap.size n n i q ss _ HL.out hn hi (fun _ => rfl) (fun _ => hI2.own.2) hI2.own.1).mono ?_
  rintro e w3 ⟨rfl, hrow3, hbl3⟩
  have hO3 : Own w3 w2.heap.size (n + 1) (ins ss i q) := ⟨strRow_of hrow3, hrow3.lt⟩
  have hb3 : Below w.heap.size w w3 := hI2.below.trans (hbl3.mono hI2.ge)
  clear hrow3 hbl3 hI2
  generalize w2.heap.size = B2 at *
  go_wp2_with fail
  refine (inv_whole (inv_start hO3 hb3) nm q (n + 1) _ (by omega) HI.out (has_ins_self ss i q)).mono ?_
  generalize w3.heap.size = K2
  clear hO3 hb3
  rintro e w4 ⟨rfl, hI4⟩
  have k0 := hI4.k0
  have k1 := hI4.k1
  go_wp2_with fail
  refine (inv_whole hI4 nm p (n + 1) _ (by omega) HI.out F2.out).mono ?_
  clear hI4 k0 k1
  rintro e w5 ⟨rfl, hI5⟩
  go_wp2_with fail
  all_goals
    go_ret
    exact ⟨rfl, hI5.below⟩

set_option maxHeartbeats 1000000 in
theorem insert_nil (nm p q : ByteArray) (w : World)
    (h1 : nm.size ≤ 140737488351232) (h2 : p.size ≤ 140737488351232) (h3 : q.size ≤ 140737488351232) :
    Calls Try.prog 4 #[.string nm, .slice none 0 0, .string p, .string q, .int .i64 0] w fun e w' => e = .returned (.bool true) ∧ Below w.heap.size w w' := by
  have hao : 0 < 0 → (none : Option Addr) = some ⟨0, 0, none⟩ := fun h => absurd h (by omega)
  have hc : ∀ w, StrRow w 0 0 0 [] := fun w j hj => absurd hj (by omega)
  obtain ⟨E, hE⟩ : ∃ E, (p.toList == q.toList) = E := ⟨_, rfl⟩
  have F2 : Hid (has p (ins [] 0 q) = E) := by show _ = _; rw [has_ins, hE]; rfl
  go_enter Try.func4, Try.ntmps4
  go_wp2_with (first
    | (go_at_call 9; refine (bytes9_any nm p q 0 none 0 0 0 0 [] _ (by omega) h1 h2 h3 hao (hc _)).mono ?_; rintro e w' ⟨⟨r, rfl⟩, rfl⟩)
    | (go_at_call 6; refine (sizeOK_any nm p q none 0 0 0 0 [] _ (by omega) h1 h2 h3 hao (hc _)).mono ?_; rintro e w' ⟨⟨r, rfl⟩, rfl⟩))
  all_goals try (go_ret; exact ⟨rfl, Below.refl _ _⟩)
  refine (perms_nil _).mono ?_
  rintro e w1 ⟨rfl, rfl⟩
  go_wp2_with fail
  refine (allows_none nm p none 0 _).mono ?_
  have hb2 : Below w.heap.size w ((w.alloc (.cells #[.string nm, .slice none 0 0] 29)).alloc (.cells #[.string nm, .slice none 0 0] 29)) := ((Below.refl _ _).alloc (Nat.le_refl _) _).alloc (by simp) _
  rintro e w2 ⟨rfl, hw2⟩
  rw [← hw2] at hb2
  clear hw2
  go_wp2_with fail
  refine (insert_any none 0 0 0 0 q [] _ rfl (by omega) (by omega) (fun h => absurd h (by omega)) (fun h => absurd h (by omega)) (hc _)).mono ?_
  rintro e w3 ⟨rfl, hrow3, hbl3⟩
  have hO3 : Own w3 w2.heap.size 1 (ins [] 0 q) := ⟨strRow_of hrow3, hrow3.lt⟩
  have hb3 : Below w.heap.size w w3 := hb2.trans (hbl3.mono hb2.size)
  clear hrow3 hbl3 hb2
  generalize w2.heap.size = B2 at *
  go_wp2_with fail
  refine (inv_whole (inv_start hO3 hb3) nm q 1 _ (by omega) rfl (has_ins_self [] 0 q)).mono ?_
  generalize w3.heap.size = K2
  clear hO3 hb3
  rintro e w4 ⟨rfl, hI4⟩
  have k0 := hI4.k0
  have k1 := hI4.k1
  go_wp2_with fail
  refine (inv_whole hI4 nm p 1 _ (by omega) rfl F2.out).mono ?_
  clear hI4 k0 k1
  rintro e w5 ⟨rfl, hI5⟩
  go_wp2_with fail
  all_goals
    go_ret
    exact ⟨rfl, hI5.below⟩

/-- The law, at every input. -/
theorem insertLaw_any (nm p q : ByteArray) (i : Int) (ao : Option Addr) (b off n c : Nat) (ss : List ByteArray) (w : World) (hl : ss.length = n) (hn : n * 16 ≤ 140737488351232)
    (h1 : nm.size ≤ 140737488351232) (h2 : p.size ≤ 140737488351232) (h3 : q.size ≤ 140737488351232)
    (hnil : ao = none → n = 0 ∧ c = 0) (hao : 0 < n → ao = some ⟨b, off, none⟩) (hb : 0 < n → b < w.heap.size) (hc : StrRow w b off n ss) :
    Calls Try.prog 4 #[.string nm, .slice ao n c, .string p, .string q, .int .i64 i] w fun e w' => e = .returned (.bool true) ∧ Below w.heap.size w w' := by
  by_cases ho : i < 0 ∨ (n : Int) < i
  · exact insert_out nm p q i ao b off n c ss w hn h1 h2 h3 ho hao hc
  · obtain ⟨k, rfl⟩ : ∃ k : Nat, i = k := ⟨i.toNat, by omega⟩
    cases ao with
    | none =>
      obtain ⟨rfl, rfl⟩ := hnil rfl
      obtain rfl : k = 0 := by omega
      exact insert_nil nm p q w h1 h2 h3
    | some a =>
      have ha : 0 < n → a = ⟨b, off, none⟩ := fun h => by simpa using hao h
      exact insert_some nm p q k a b off n c ss w hl hn h1 h2 h3 (by omega) ha hb hc
end Go.Proofs.Qxb6617642a
