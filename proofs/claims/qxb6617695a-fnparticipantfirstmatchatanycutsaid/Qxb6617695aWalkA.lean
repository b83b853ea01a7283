/- strings.Compare, the closure, slices.BinarySearchFunc, participant, ZZParticipant, and the test on sizes: each by a contract. -/
import Derived.Test.Qxb6617695aRows
import Derived.Test.Qxb6617695aPlain
import Derived.WalkKit
import Derived.WalkSpells
import Derived.WalkLawsBesides
import Derived.Deep.LoopGhost
namespace Go.Proofs.Qxb6617695a
open Go.RowKit
set_option linter.unusedVariables false

theorem ret_int {k : IntKind} {a b : Int} (h : a = b) : Ending.returned (.int k a) = .returned (.int k b) := by rw [h]
theorem ret_bool {a b : Bool} (h : a = b) : Ending.returned (.bool a) = .returned (.bool b) := by rw [h]

set_option maxHeartbeats 400000 in
theorem compareString_any (a b : ByteArray) (w : World) : Calls Try.prog 10 #[.string a, .string b] w fun e w' => e = .returned (.int .i64 (cb a b)) ∧ w = w' := by
  go_enter Try.func10, Try.ntmps10
  go_wp2
  rw [run_callFunc_extern Try.func11 (by kernel_rfl) (by kernel_rfl) (by kernel_rfl) (e := Extern.BytealgCompare.compare) (by kernel_rfl), Lib.run_compareString]
  simp only [Result.andThen]
  rw [Oper.upon_value]
  go_wp2
  go_ret
  exact ⟨rfl, rfl⟩

set_option maxHeartbeats 400000 in
theorem compare_any (a b : ByteArray) (w : World) : Calls Try.prog 9 #[.string a, .string b] w fun e w' => e = .returned (.int .i64 (cb a b)) ∧ w = w' := by
  go_enter Try.func9, Try.ntmps9
  go_wp2_with (go_at_call 10; refine (compareString_any _ _ _).mono ?_; rintro e w' ⟨rfl, rfl⟩)
  go_ret
  exact ⟨rfl, rfl⟩

set_option maxHeartbeats 400000 in
theorem closure_any (s r t : ByteArray) (w : World) : Calls Try.prog 8 #[.agg #[.string s, .string r], .string t] w fun e w' => e = .returned (.int .i64 (cb s t)) ∧ Below w.heap.size w w' := by
  go_enter Try.func8, Try.ntmps8
  go_wp2_with (go_at_call 9; refine (compare_any _ _ _).mono ?_; rintro e w' ⟨rfl, rfl⟩)
  go_ret
  exact ⟨rfl, (Below.refl _ _).alloc (Nat.le_refl _) _⟩

/-- The cells of a row of n participants. -/
def Row (w : World) (b off n : Nat) (S R : Nat → ByteArray) : Prop := ∀ j, j < n → w.cell? ⟨b, off + j * 2, none⟩ = some (.string (S j)) ∧ w.cell? ⟨b, off + j * 2 + 1, none⟩ = some (.string (R j))

theorem Row.later {w wx : World} {b off n : Nat} {S R : Nat → ByteArray} (h : Row w b off n S R) (hb : Below w.heap.size w wx) : Row wx b off n S R :=
  fun j hj => ⟨cell_later hb (h j hj).1, cell_later hb (h j hj).2⟩

set_option maxHeartbeats 400000 in
theorem search_any (ao : Option Addr) (b off n c : Nat) (S R : Nat → ByteArray) (t : ByteArray) (w : World) (hn : n ≤ 140737488351232) (hs : Sorted S n)
    (hao : 0 < n → ao = some ⟨b, off, none⟩) (hc : Row w b off n S R) :
    Calls Try.prog 7 #[.slice ao n c, .string t, .func (.func 8) #[] #[]] w fun e w' => ∃ (i : Nat) (fd : Bool), e = .returned (.tuple #[.int .i64 i, .bool fd]) ∧ Srch S t n i ∧ (fd = true ↔ i < n ∧ cb (S i) t = 0) ∧ Below w.heap.size w w' := by
  go_enter Try.func7, Try.ntmps7
  go_wp2
  go_loopw [9, 10] (fun x y wr => ∃ lo hi : Nat, lo ≤ hi ∧ hi ≤ n ∧ x = .int .i64 lo ∧ y = .int .i64 hi ∧ (∀ j, j < lo → cb (S j) t < 0) ∧ (∀ j, hi ≤ j → j < n → 0 ≤ cb (S j) t) ∧ Below w.heap.size w wr) (fun x y _ => (intOf y - intOf x).toNat)
  case atStart => exact ⟨0, n, by omega, by omega, rfl, rfl, fun j hj => absurd hj (by omega), fun j h1 h2 => absurd h1 (by omega), Below.refl _ _⟩
  case round =>
    obtain ⟨lo, hi, hlh, hhn, rfl, rfl, hlo, hhi, hbl⟩ := hrel
    by_cases hlt : lo < hi
    · obtain rfl := hao (by omega)
      have HLO : Hid (∀ j, j < lo → cb (S j) t < 0) := hlo
      have HHI : Hid (∀ j, hi ≤ j → j < n → 0 ≤ cb (S j) t) := hhi
      have hr := hc.later hbl
      have HR : Hid (Row wr b off n S R) := hr
      clear hlo hhi hr hc
      have hm1 : lo ≤ (lo + hi) / 2 := by omega
      have hm2 : (lo + hi) / 2 < hi := by omega
      have hc0 := (HR.out ((lo + hi) / 2) (by omega)).1
      have hc1 := (HR.out ((lo + hi) / 2) (by omega)).2
      go_wp2_with (go_at_call 8; refine (closure_any _ _ _ _).mono ?_; rintro e w2 ⟨rfl, hb2⟩)
      all_goals
        have hbn : Below w.heap.size w w2 := hbl.trans (hb2.mono hbl.size)
        go_roundw
      case rel =>
        have hneg : cb (S ((lo + hi) / 2)) t < 0 := by assumption
        exact ⟨(lo + hi) / 2 + 1, hi, by omega, hhn, by go_num, rfl, fun j hj => cb_neg (hs j ((lo + hi) / 2) (by omega) (by omega)) hneg, HHI.out, hbn⟩
      case measure => simp [intOf]; omega
      case rel =>
        have hpos : 0 ≤ cb (S ((lo + hi) / 2)) t := by assumption
        refine ⟨lo, (lo + hi) / 2, by omega, by omega, rfl, by go_num, HLO.out, fun j h1 h2 => ?_, hbn⟩
        refine Int.not_lt.1 fun hj => ?_
        have := cb_neg (hs ((lo + hi) / 2) j h1 h2) hj
        omega
      case measure => simp [intOf]; omega
    · obtain rfl : lo = hi := by omega
      have hsr : Srch S t n lo := ⟨hhn, hlo, hhi⟩
      have HS : Hid (Srch S t n lo) := hsr
      have hr := hc.later hbl
      have HR : Hid (Row wr b off n S R) := hr
      clear hsr hlo hhi hr hc
      by_cases hln : lo < n
      · obtain rfl := hao (by omega)
        have hc0 := (HR.out lo hln).1
        have hc1 := (HR.out lo hln).2
        go_wp2_with (go_at_call 8; refine (closure_any _ _ _ _).mono ?_; rintro e w2 ⟨rfl, hb2⟩)
        have hbn : Below w.heap.size w w2 := hbl.trans (hb2.mono hbl.size)
        go_ret2
        exact ⟨lo, _, rfl, HS.out, by simp [hln], hbn⟩
      · have hd : decide ((lo : Int) < (n : Int)) = false := by simp; omega
        go_wp2_with fail
        go_ret2
        exact ⟨lo, _, rfl, HS.out, by simp; omega, hbl⟩

set_option maxHeartbeats 400000 in
theorem part_some (B o : Nat) (ao : Option Addr) (b off n c f : Nat) (S R : Nat → ByteArray) (t : ByteArray) (w : World) (hn : n ≤ 140737488351232) (hs : Sorted S n)
    (h5 : w.cell? ⟨B, o + 5, none⟩ = some (.slice ao n c)) (hao : 0 < n → ao = some ⟨b, off, none⟩) (hc : Row w b off n S R) (hf : First S t n (some f)) :
    Calls Try.prog 6 #[.pointer (some ⟨B, o, none⟩), .string t] w fun e w' => e = .returned (.tuple #[.pointer (some ⟨b, off + f * 2, none⟩), .bool true]) ∧ Below w.heap.size w w' := by
  obtain rfl := hao (by have := hf.1; omega)
  go_enter Try.func6, Try.ntmps6
  go_wp2_with fail
  refine (search_any _ b off n c S R t _ hn hs (fun _ => rfl) hc).mono ?_
  rintro e w2 ⟨i, fd, rfl, hS, hfd, hb2⟩
  obtain ⟨rfl, hin, h0⟩ := hS.found hs hf
  obtain rfl : fd = true := hfd.2 ⟨hin, h0⟩
  have h5' := cell_later hb2 h5
  clear hS hfd hf h0 hc h5
  go_wp2_with fail
  go_ret2
  exact ⟨rfl, hb2⟩

set_option maxHeartbeats 400000 in
theorem part_none (B o : Nat) (ao : Option Addr) (b off n c : Nat) (S R : Nat → ByteArray) (t : ByteArray) (w : World) (hn : n ≤ 140737488351232) (hs : Sorted S n)
    (h5 : w.cell? ⟨B, o + 5, none⟩ = some (.slice ao n c)) (hao : 0 < n → ao = some ⟨b, off, none⟩) (hc : Row w b off n S R) (hf : First S t n none) :
    Calls Try.prog 6 #[.pointer (some ⟨B, o, none⟩), .string t] w fun e w' => e = .returned (.tuple #[.pointer none, .bool false]) ∧ Below w.heap.size w w' := by
  go_enter Try.func6, Try.ntmps6
  go_wp2_with fail
  refine (search_any _ b off n c S R t _ hn hs hao hc).mono ?_
  rintro e w2 ⟨i, fd, rfl, hS, hfd, hb2⟩
  obtain rfl : fd = false := by
    cases fd with
    | false => rfl
    | true => exact absurd (hfd.1 rfl).2 (hf i (hfd.1 rfl).1)
  clear hS hfd hf hc h5
  go_wp2_with fail
  go_ret2
  exact ⟨rfl, hb2⟩

/-- The answer as a value: the pointer to place f of the row, or nil. -/
def ptr (b off : Nat) : Option Nat → Value
  | none => .pointer none
  | some f => .pointer (some ⟨b, off + f * 2, none⟩)

theorem part_any (B o : Nat) (ao : Option Addr) (b off n c : Nat) (F : Option Nat) (S R : Nat → ByteArray) (t : ByteArray) (w : World) (hn : n ≤ 140737488351232) (hs : Sorted S n)
    (h5 : w.cell? ⟨B, o + 5, none⟩ = some (.slice ao n c)) (hao : 0 < n → ao = some ⟨b, off, none⟩) (hc : Row w b off n S R) (hf : First S t n F) :
    Calls Try.prog 6 #[.pointer (some ⟨B, o, none⟩), .string t] w fun e w' => e = .returned (.tuple #[ptr b off F, .bool F.isSome]) ∧ Below w.heap.size w w' := by
  cases F with
  | none => exact part_none B o ao b off n c S R t w hn hs h5 hao hc hf
  | some f => exact part_some B o ao b off n c f S R t w hn hs h5 hao hc hf

set_option maxHeartbeats 400000 in
theorem zz_any (B o : Nat) (ao : Option Addr) (b off n c : Nat) (F : Option Nat) (S R : Nat → ByteArray) (t : ByteArray) (w : World) (hn : n ≤ 140737488351232) (hs : Sorted S n)
    (h5 : w.cell? ⟨B, o + 5, none⟩ = some (.slice ao n c)) (hao : 0 < n → ao = some ⟨b, off, none⟩) (hc : Row w b off n S R) (hf : First S t n F) :
    Calls Try.prog 5 #[.pointer (some ⟨B, o, none⟩), .string t] w fun e w' => e = .returned (.tuple #[ptr b off F, .bool F.isSome]) ∧ Below w.heap.size w w' := by
  go_enter Try.func5, Try.ntmps5
  go_wp2_with fail
  refine (part_any B o ao b off n c F S R t _ hn hs h5 hao hc hf).mono ?_
  rintro e w2 ⟨rfl, hb2⟩
  clear h5 hao hc hf
  go_wp2_with fail
  go_ret2
  exact ⟨rfl, hb2⟩

/-- The call has returned some bool. -/
def IsB (e : Ending) : Prop := ∃ r : Bool, e = .returned (.bool r)
theorem isB (r : Bool) : IsB (.returned (.bool r)) := ⟨r, rfl⟩

set_option maxHeartbeats 1000000 in
theorem bytes_any (v a0 k0 : Int) (s2 s3 s4 t : ByteArray) (ao : Option Addr) (b off n c : Nat) (S R : Nat → ByteArray) (w : World) (hn : n ≤ 140737488351232)
    (h2 : s2.size ≤ 140737488351232) (h3 : s3.size ≤ 140737488351232) (h4 : s4.size ≤ 140737488351232) (h6 : t.size ≤ 140737488351232)
    (hao : 0 < n → ao = some ⟨b, off, none⟩) (hc : Row w b off n S R) :
    Calls Try.prog 4 #[.int .u64 v, .int .u64 a0, .string s2, .string s3, .string s4, .slice ao n c, .string t, .int .i64 k0] w fun e w' => IsB e ∧ w = w' := by
  go_enter Try.func4, Try.ntmps4
  go_wp2
  all_goals try (go_ret; exact ⟨isB _, rfl⟩)
  go_loop [17, 18] (fun x i => ∃ (k : Nat) (u : Int), k ≤ n ∧ i = .int .i64 k ∧ x = .int .i64 u) (fun _ i => n - (intOf i).toNat)
  case atStart => exact ⟨0, _, Nat.zero_le _, rfl, rfl⟩
  case round =>
    obtain ⟨k, u, hk, rfl, rfl⟩ := hrel
    by_cases hlt : k < n
    · obtain rfl := hao (by omega)
      have hc0 := (hc k hlt).1
      have hc1 := (hc k hlt).2
      go_wp2
      all_goals try (go_ret; exact ⟨isB _, rfl⟩)
      go_round
      case rel => exact ⟨k + 1, _, by omega, by go_num, rfl⟩
      case measure => simp [intOf]; omega
    · go_wp2
      all_goals
        go_ret
        exact ⟨isB _, rfl⟩
end Go.Proofs.Qxb6617695a
