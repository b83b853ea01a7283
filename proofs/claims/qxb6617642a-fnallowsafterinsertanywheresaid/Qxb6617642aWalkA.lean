/- slices.Index, slices.Contains, (Key).Allows and the three tests on sizes, each by a contract. -/
import Derived.Test.Qxb6617642aRows
import Derived.WalkKit
import Derived.WalkSpells
import Derived.WalkLawsBesides
import Derived.Deep.LoopGhost
namespace Go.Proofs.Qxb6617642a
open Go.RowKit
set_option linter.unusedVariables false

theorem ret_int {k : IntKind} {a b : Int} (h : a = b) : Ending.returned (.int k a) = .returned (.int k b) := by rw [h]
theorem ret_bool {a b : Bool} (h : a = b) : Ending.returned (.bool a) = .returned (.bool b) := by rw [h]

/-- Does the list hold the text x? -/
def has (x : ByteArray) (l : List ByteArray) : Bool := l.any fun y => x.toList == y.toList

/-- The cells of a row of strings: n of them from (b, off) on. -/
def StrRow (w : World) (b off n : Nat) (ss : List ByteArray) : Prop := ∀ j, j < n → w.cell? ⟨b, off + j, none⟩ = some (.string (ss[j]?.getD ByteArray.empty))

theorem has_append (x : ByteArray) (l m : List ByteArray) : has x (l ++ m) = (has x l || has x m) := by simp [has]

theorem has_step (x : ByteArray) (ss : List ByteArray) (k : Nat) (hk : k < ss.length) : has x (ss.take (k + 1)) = (has x (ss.take k) || x.toList == (ss[k]?.getD ByteArray.empty).toList) := by
  rw [List.take_succ_eq_append_getElem hk, has_append]
  simp [has, List.getElem?_eq_getElem hk]

theorem has_hit (x : ByteArray) (ss : List ByteArray) (k n : Nat) (hk : k < n) (hn : n ≤ ss.length) (h : (x.toList == (ss[k]?.getD ByteArray.empty).toList) = true) : has x (ss.take n) = true := by
  have hkl : k < ss.length := by omega
  unfold has
  rw [List.any_eq_true]
  refine ⟨ss[k], ?_, by rwa [List.getElem?_eq_getElem hkl] at h⟩
  rw [List.mem_take_iff_getElem]
  exact ⟨k, by omega, rfl⟩

theorem has_nil (x : ByteArray) : has x [] = false := rfl

-- What slices.Index finds: a place, or -1.
set_option maxHeartbeats 400000 in
theorem index_any (x : ByteArray) (ao : Option Addr) (b off n c : Nat) (ss : List ByteArray) (w : World) (hn : n ≤ 140737488351232) (hl : n ≤ ss.length)
    (hao : 0 < n → ao = some ⟨b, off, none⟩) (hc : StrRow w b off n ss) :
    Calls Try.prog 12 #[.slice ao n c, .string x] w fun e w' => ∃ r : Int, e = .returned (.int .i64 r) ∧ decide (0 ≤ r) = has x (ss.take n) ∧ w = w' := by
  go_enter Try.func12, Try.ntmps12
  go_wp2
  go_loop [8] (fun i => ∃ k : Nat, k ≤ n ∧ i = .int .i64 k ∧ has x (ss.take k) = false) (fun i => n - (intOf i).toNat)
  case atStart => exact ⟨0, Nat.zero_le _, rfl, rfl⟩
  case round =>
    obtain ⟨k, hk, rfl, hno⟩ := hrel
    have HN : Hid (has x (ss.take k) = false) := hno
    clear hno
    by_cases hlt : k < n
    · obtain rfl := hao (by omega)
      have hcell := hc k hlt
      go_wp2
      · go_ret
        exact ⟨k, rfl, by rw [has_hit x ss k n hlt hl ‹_›]; simp, rfl⟩
      · go_round
        case rel => exact ⟨k + 1, by omega, by go_num, by rw [has_step x ss k (by omega), HN.out, ‹(_ == _) = false›]; rfl⟩
        case measure => simp [intOf]; omega
    · go_wp2
      go_ret
      have : k = n := by omega
      subst this
      exact ⟨-1, rfl, by rw [HN.out]; rfl, rfl⟩

set_option maxHeartbeats 400000 in
theorem contains_any (x : ByteArray) (ao : Option Addr) (b off n c : Nat) (ss : List ByteArray) (w : World) (hn : n ≤ 140737488351232) (hl : n ≤ ss.length)
    (hao : 0 < n → ao = some ⟨b, off, none⟩) (hc : StrRow w b off n ss) :
    Calls Try.prog 11 #[.slice ao n c, .string x] w fun e w' => e = .returned (.bool (has x (ss.take n))) ∧ w = w' := by
  go_enter Try.func11, Try.ntmps11
  go_wp2_with (go_at_call 12; refine (index_any x ao b off n c ss _ hn hl hao hc).mono ?_; rintro e w' ⟨r, rfl, hr, rfl⟩; have HR : Hid (decide (0 ≤ r) = has x (ss.take n)) := hr; clear hr)
  go_ret
  exact ⟨ret_bool HR.out, rfl⟩

set_option maxHeartbeats 400000 in
theorem allows_any (nm x : ByteArray) (ao : Option Addr) (b off n c : Nat) (ss : List ByteArray) (w : World) (hn : n ≤ 140737488351232) (hl : n ≤ ss.length)
    (hao : 0 < n → ao = some ⟨b, off, none⟩) (hb : 0 < n → b < w.heap.size) (hc : StrRow w b off n ss) :
    Calls Try.prog 8 #[.agg #[.string nm, .slice ao n c], .string x] w fun e w' => e = .returned (.bool (has x (ss.take n))) ∧ w' = w.alloc (.cells #[.string nm, .slice ao n c] 29) := by
  have hc' : ∀ o, StrRow (w.alloc o) b off n ss := fun o j hj => by rw [World.cell?_alloc_past _ _ _ (hb (by omega))]; exact hc j hj
  go_enter Try.func8, Try.ntmps8
  go_wp2_with (go_at_call 11; refine (contains_any x ao b off n c ss _ hn hl hao (hc' _)).mono ?_; rintro e w' ⟨rfl, rfl⟩)
  go_ret
  exact ⟨rfl, rfl⟩

/-- The call has returned some bool. -/
def IsB (e : Ending) : Prop := ∃ r : Bool, e = .returned (.bool r)
theorem isB (r : Bool) : IsB (.returned (.bool r)) := ⟨r, rfl⟩

/-! ### The tests on sizes: each answers some bool and touches nothing -/
set_option maxHeartbeats 1000000 in
theorem sizeOK_any (nm p q : ByteArray) (ao : Option Addr) (b off n c : Nat) (ss : List ByteArray) (w : World) (hn : n ≤ 140737488351232)
    (h1 : nm.size ≤ 140737488351232) (h2 : p.size ≤ 140737488351232) (h3 : q.size ≤ 140737488351232)
    (hao : 0 < n → ao = some ⟨b, off, none⟩) (hc : StrRow w b off n ss) :
    Calls Try.prog 6 #[.string nm, .slice ao n c, .string p, .string q] w fun e w' => IsB e ∧ w = w' := by
  go_enter Try.func6, Try.ntmps6
  go_wp2
  all_goals try (go_ret; exact ⟨isB _, rfl⟩)
  go_loop [9, 10] (fun t i => ∃ (k : Nat) (u : Int), k ≤ n ∧ i = .int .i64 k ∧ t = .int .i64 u) (fun _ i => n - (intOf i).toNat)
  case atStart => exact ⟨0, _, Nat.zero_le _, rfl, rfl⟩
  case round =>
    obtain ⟨k, u, hk, rfl, rfl⟩ := hrel
    by_cases hlt : k < n
    · obtain rfl := hao (by omega)
      have hcell := hc k hlt
      go_wp2
      · go_ret
        exact ⟨isB _, rfl⟩
      · go_round
        case rel => exact ⟨k + 1, _, by omega, by go_num, rfl⟩
        case measure => simp [intOf]; omega
    · go_wp2
      go_ret
      exact ⟨isB _, rfl⟩

set_option maxHeartbeats 1000000 in
theorem bytes5_any (nm p : ByteArray) (i0 : Int) (ao : Option Addr) (b off n c : Nat) (ss : List ByteArray) (w : World) (hn : n ≤ 140737488351232)
    (h1 : nm.size ≤ 140737488351232) (h2 : p.size ≤ 140737488351232)
    (hao : 0 < n → ao = some ⟨b, off, none⟩) (hc : StrRow w b off n ss) :
    Calls Try.prog 5 #[.string nm, .slice ao n c, .string p, .int .i64 i0] w fun e w' => IsB e ∧ w = w' := by
  go_enter Try.func5, Try.ntmps5
  go_wp2
  all_goals try (go_ret; exact ⟨isB _, rfl⟩)
  go_loop [9, 10] (fun t i => ∃ (k : Nat) (u : Int), k ≤ n ∧ i = .int .i64 k ∧ t = .int .i64 u) (fun _ i => n - (intOf i).toNat)
  case atStart => exact ⟨0, _, Nat.zero_le _, rfl, rfl⟩
  case round =>
    obtain ⟨k, u, hk, rfl, rfl⟩ := hrel
    by_cases hlt : k < n
    · obtain rfl := hao (by omega)
      have hcell := hc k hlt
      go_wp2
      · go_ret
        exact ⟨isB _, rfl⟩
      · go_ret
        exact ⟨isB _, rfl⟩
      · go_round
        case rel => exact ⟨k + 1, _, by omega, by go_num, rfl⟩
        case measure => simp [intOf]; omega
    · go_wp2
      all_goals
        go_ret
        exact ⟨isB _, rfl⟩

set_option maxHeartbeats 1000000 in
theorem bytes9_any (nm p q : ByteArray) (i0 : Int) (ao : Option Addr) (b off n c : Nat) (ss : List ByteArray) (w : World) (hn : n ≤ 140737488351232)
    (h1 : nm.size ≤ 140737488351232) (h2 : p.size ≤ 140737488351232) (h3 : q.size ≤ 140737488351232)
    (hao : 0 < n → ao = some ⟨b, off, none⟩) (hc : StrRow w b off n ss) :
    Calls Try.prog 9 #[.string nm, .slice ao n c, .string p, .string q, .int .i64 i0] w fun e w' => IsB e ∧ w = w' := by
  go_enter Try.func9, Try.ntmps9
  go_wp2
  all_goals try (go_ret; exact ⟨isB _, rfl⟩)
  go_loop [11, 12] (fun t i => ∃ (k : Nat) (u : Int), k ≤ n ∧ i = .int .i64 k ∧ t = .int .i64 u) (fun _ i => n - (intOf i).toNat)
  case atStart => exact ⟨0, _, Nat.zero_le _, rfl, rfl⟩
  case round =>
    obtain ⟨k, u, hk, rfl, rfl⟩ := hrel
    by_cases hlt : k < n
    · obtain rfl := hao (by omega)
      have hcell := hc k hlt
      go_wp2
      · go_ret
        exact ⟨isB _, rfl⟩
      · go_ret
        exact ⟨isB _, rfl⟩
      · go_round
        case rel => exact ⟨k + 1, _, by omega, by go_num, rfl⟩
        case measure => simp [intOf]; omega
    · go_wp2
      all_goals
        go_ret
        exact ⟨isB _, rfl⟩
end Go.Proofs.Qxb6617642a
