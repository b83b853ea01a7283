/- Plain facts: the order of byte strings; what a binary search in a sorted row finds. No Go in sight. -/
import Derived.Lib.Bytealg
import Derived.Lib.Strings
namespace Go.Proofs.Qxb6617695a
open Go
set_option linter.unusedVariables false

/-- The sign of a string against another, by their bytes. -/
def cb (a b : ByteArray) : Int := Lib.compareBytes a.data.toList b.data.toList

theorem cmp_lt : ∀ (a b : List UInt8), Lib.compareBytes a b < 0 ↔ Op.bytesLess a b = true
  | [], [] => by simp [Lib.compareBytes, Op.bytesLess]
  | [], _ :: _ => by simp [Lib.compareBytes, Op.bytesLess]
  | _ :: _, [] => by simp [Lib.compareBytes, Op.bytesLess]
  | a :: x, b :: y => by
    have ih := cmp_lt x y
    rw [Lib.compareBytes, Op.bytesLess]
    by_cases h1 : a < b
    · simp [h1]
    · by_cases h2 : b < a
      · have h3 : (a == b) = false := by
          rw [beq_eq_false_iff_ne]; rintro rfl; exact absurd h2 (UInt8.lt_irrefl a)
        simp [h1, h2, h3]
      · have h3 : a = b := UInt8.le_antisymm (UInt8.not_lt.1 h2) (UInt8.not_lt.1 h1)
        subst h3
        simp [h1, ih]

theorem cmp_zero : ∀ (a b : List UInt8), Lib.compareBytes a b = 0 ↔ a = b
  | [], [] => by simp [Lib.compareBytes]
  | [], _ :: _ => by simp [Lib.compareBytes]
  | _ :: _, [] => by simp [Lib.compareBytes]
  | a :: x, b :: y => by
    have ih := cmp_zero x y
    rw [Lib.compareBytes]
    by_cases h1 : a < b
    · have h3 : a ≠ b := by rintro rfl; exact absurd h1 (UInt8.lt_irrefl a)
      simp [h1, h3]
    · by_cases h2 : b < a
      · have h3 : a ≠ b := by rintro rfl; exact absurd h2 (UInt8.lt_irrefl a)
        simp [h1, h2, h3]
      · have h3 : a = b := UInt8.le_antisymm (UInt8.not_lt.1 h2) (UInt8.not_lt.1 h1)
        subst h3
        simp [h1, ih]

theorem less_trans : ∀ (a b c : List UInt8), Op.bytesLess a b = true → Op.bytesLess b c = true → Op.bytesLess a c = true
  | _, [], _, h, _ => by cases ‹List UInt8› <;> simp [Op.bytesLess] at h
  | _, _ :: _, [], _, h => by simp [Op.bytesLess] at h
  | [], _ :: _, _ :: _, _, _ => by simp [Op.bytesLess]
  | a :: x, b :: y, c :: z, h1, h2 => by
    have ih := less_trans x y z
    simp only [Op.bytesLess, Bool.or_eq_true, Bool.and_eq_true, decide_eq_true_eq, beq_iff_eq] at h1 h2 ⊢
    rcases h1 with h1 | ⟨rfl, h1⟩
    · rcases h2 with h2 | ⟨rfl, h2⟩
      · exact Or.inl (UInt8.lt_trans h1 h2)
      · exact Or.inl h1
    · rcases h2 with h2 | ⟨rfl, h2⟩
      · exact Or.inl h2
      · exact Or.inr ⟨rfl, ih h1 h2⟩

/-- x is not above y: as the program's own test says it. -/
def le (x y : ByteArray) : Prop := (!(Op.bytesLess x.toList y.toList || x.toList == y.toList)) = false

theorem le_iff (x y : ByteArray) : le x y ↔ (Op.bytesLess x.data.toList y.data.toList = true ∨ x.data.toList = y.data.toList) := by
  unfold le
  rw [Lib.toList_data, Lib.toList_data]
  cases h : Op.bytesLess x.data.toList y.data.toList <;> simp

theorem le_of {x y : ByteArray} (h : (!Op.bytesLess x.toList y.toList) = false ∨ (!x.toList == y.toList) = false) : le x y := by
  unfold le
  rcases h with h | h
  · simp only [Bool.not_eq_false'] at h
    rw [h]; rfl
  · simp only [Bool.not_eq_false'] at h
    rw [h]; simp

theorem le_refl (x : ByteArray) : le x x := (le_iff x x).2 (Or.inr rfl)
theorem le_trans {x y z : ByteArray} (h1 : le x y) (h2 : le y z) : le x z := by
  rw [le_iff] at *
  rcases h1 with h1 | h1
  · rcases h2 with h2 | h2
    · exact Or.inl (less_trans _ _ _ h1 h2)
    · exact Or.inl (h2 ▸ h1)
  · rw [h1]; exact h2

theorem cb_neg {x y t : ByteArray} (h : le x y) (hy : cb y t < 0) : cb x t < 0 := by
  unfold cb at *
  rw [cmp_lt] at *
  rw [le_iff] at h
  rcases h with h | h
  · exact less_trans _ _ _ h hy
  · rw [h]; exact hy

theorem cb_zero (x t : ByteArray) : cb x t = 0 ↔ x.data.toList = t.data.toList := cmp_zero _ _

theorem cb_zero_le {x y t : ByteArray} (h : le x y) (hy : cb y t = 0) : cb x t ≤ 0 := by
  rw [cb_zero] at hy
  rw [le_iff, hy] at h
  rcases h with h | h
  · have : cb x t < 0 := (cmp_lt _ _).2 h
    omega
  · have : cb x t = 0 := (cb_zero x t).2 h
    omega

theorem cb_bd (x t : ByteArray) : -1 ≤ cb x t ∧ cb x t ≤ 1 := by
  unfold cb
  generalize x.data.toList = a
  generalize t.data.toList = b
  induction a generalizing b with
  | nil => cases b <;> simp [Lib.compareBytes]
  | cons a x ih =>
    cases b with
    | nil => simp [Lib.compareBytes]
    | cons b y =>
      rw [Lib.compareBytes]
      have := ih y
      split
      · omega
      · split <;> omega

/-- The test of the program's text, '==' on strings. -/
theorem eq_true {x t : ByteArray} (h : (x.toList == t.toList) = true) : cb x t = 0 := by
  rw [cb_zero, ← Lib.toList_data, ← Lib.toList_data]
  simpa using h
theorem eq_false {x t : ByteArray} (h : (x.toList == t.toList) = false) : cb x t ≠ 0 := by
  intro e
  rw [cb_zero, ← Lib.toList_data, ← Lib.toList_data] at e
  rw [e] at h
  simp at h

/-- Non-decreasing. -/
def Sorted (S : Nat → ByteArray) (n : Nat) : Prop := ∀ i j, i ≤ j → j < n → le (S i) (S j)

theorem sorted_of (S : Nat → ByteArray) (n : Nat) (h : ∀ i, 1 ≤ i → i < n → le (S (i - 1)) (S i)) : Sorted S n := by
  intro i j hij hj
  obtain ⟨d, rfl⟩ : ∃ d, j = i + d := ⟨j - i, by omega⟩
  clear hij
  induction d with
  | zero => exact le_refl _
  | succ d ih => exact le_trans (ih (by omega)) (by have := h (i + (d + 1)) (by omega) hj; simpa using this)

theorem Sorted.seg {S : Nat → ByteArray} {n : Nat} (h : Sorted S n) (o m : Nat) (hm : o + m ≤ n) : Sorted (fun j => S (o + j)) m :=
  fun i j hij hj => h (o + i) (o + j) (by omega) (by omega)

/-- f is the first place of t among the first n; none: t is not there. -/
def First (S : Nat → ByteArray) (t : ByteArray) (n : Nat) : Option Nat → Prop
  | none => ∀ j, j < n → cb (S j) t ≠ 0
  | some f => f < n ∧ cb (S f) t = 0 ∧ ∀ j, j < f → cb (S j) t ≠ 0

/-- What the binary search comes to. -/
structure Srch (S : Nat → ByteArray) (t : ByteArray) (n i : Nat) : Prop where
  le : i ≤ n
  lo : ∀ j, j < i → cb (S j) t < 0
  hi : ∀ j, i ≤ j → j < n → 0 ≤ cb (S j) t

theorem Srch.found {S : Nat → ByteArray} {t : ByteArray} {n i f : Nat} (hs : Sorted S n) (h : Srch S t n i) (hf : First S t n (some f)) : i = f ∧ i < n ∧ cb (S i) t = 0 := by
  obtain ⟨h1, h2, h3⟩ := hf
  have hif : i ≤ f := by
    apply Nat.le_of_not_lt
    intro hlt
    have := h.lo f hlt
    omega
  have h4 := cb_zero_le (hs i f hif h1) h2
  have h5 := h.hi i (Nat.le_refl _) (by omega)
  have h6 : cb (S i) t = 0 := by omega
  have hfi : f ≤ i := by
    apply Nat.le_of_not_lt
    intro hlt
    exact h3 i hlt h6
  exact ⟨by omega, by omega, h6⟩

theorem Srch.missed {S : Nat → ByteArray} {t : ByteArray} {n i : Nat} (hf : First S t n none) (hlt : i < n) : cb (S i) t ≠ 0 := hf i hlt

/-! ### The whole against its two parts -/
theorem first_left {S : Nat → ByteArray} {t : ByteArray} {n k f : Nat} (hk : k ≤ n) (h : First S t k (some f)) : First S t n (some f) := ⟨by have := h.1; omega, h.2.1, h.2.2⟩
theorem first_right {S : Nat → ByteArray} {t : ByteArray} {n k f : Nat} (hA : First S t k none) (hf : k ≤ f) (hn : f < n) (h0 : cb (S f) t = 0) (hB : ∀ j, k ≤ j → j < f → cb (S j) t ≠ 0) :
    First S t n (some f) := ⟨hn, h0, fun j hj => by by_cases e : j < k; exact hA j e; exact hB j (by omega) hj⟩
theorem first_neither {S : Nat → ByteArray} {t : ByteArray} {n k : Nat} (hA : First S t k none) (hB : ∀ j, k ≤ j → j < n → cb (S j) t ≠ 0) : First S t n none :=
  fun j hj => by by_cases e : j < k; exact hA j e; exact hB j (by omega) hj
theorem first_seg {S : Nat → ByteArray} {t : ByteArray} {n k f : Nat} (hf : k ≤ f) (hn : f < n) (h0 : cb (S f) t = 0) (hB : ∀ j, k ≤ j → j < f → cb (S j) t ≠ 0) :
    First (fun j => S (k + j)) t (n - k) (some (f - k)) := ⟨by omega, by show cb (S (k + (f - k))) t = 0; rw [show k + (f - k) = f by omega]; exact h0, fun j hj => hB (k + j) (by omega) (by omega)⟩
theorem first_seg_none {S : Nat → ByteArray} {t : ByteArray} {n k : Nat} (hB : ∀ j, k ≤ j → j < n → cb (S j) t ≠ 0) : First (fun j => S (k + j)) t (n - k) none :=
  fun j hj => hB (k + j) (by omega) (by omega)

/-! ### One round more -/
theorem up1 {p : Nat → Prop} {j : Nat} (h : ∀ x, x < j → p x) (hj : p j) (x : Nat) (hx : x < j + 1) : p x := by
  by_cases e : x < j
  · exact h x e
  · have e2 : x = j := by omega
    rw [e2]; exact hj
theorem up2 {p : Nat → Prop} {k j : Nat} (h : ∀ x, k ≤ x → x < j → p x) (hj : p j) (x : Nat) (hk : k ≤ x) (hx : x < j + 1) : p x := by
  by_cases e : x < j
  · exact h x hk e
  · have e2 : x = j := by omega
    rw [e2]; exact hj
end Go.Proofs.Qxb6617695a
