/- The law FnParticipantFirstMatchAtAnyCut: the nil list; the cut out of range; all inputs together. -/
import Derived.Test.Qxb6617695aWalkB
import Derived.Test.Qxb6617695aWalkC
namespace Go.Proofs.Qxb6617695a
open Go.RowKit
set_option linter.unusedVariables false

theorem zz_nil (K : Nat) (t : ByteArray) (W : World) (h5 : W.cell? ⟨K, 5, none⟩ = some (.slice none 0 0)) :
    Calls Try.prog 5 #[.pointer (some ⟨K, 0, none⟩), .string t] W fun e w' => e = .returned (.tuple #[.pointer none, .bool false]) ∧ Below W.heap.size W w' :=
  zz_any K 0 none 0 0 0 0 none (fun _ => ByteArray.empty) (fun _ => ByteArray.empty) t W (by omega) (fun i j h1 h2 => absurd h2 (by omega)) h5 (fun h => absurd h (by omega)) (fun j hj => absurd hj (by omega)) (fun j hj => absurd hj (by omega))

/-- What stands behind the making of the three rounds without participants. -/
structure Fin0 (w W : World) (K1 K2 K3 : Nat) : Prop where
  q1 : W.cell? ⟨K1, 5, none⟩ = some (.slice none 0 0)
  q2 : W.cell? ⟨K2, 5, none⟩ = some (.slice none 0 0)
  q3 : W.cell? ⟨K3, 5, none⟩ = some (.slice none 0 0)
  below : Below w.heap.size w W

theorem Fin0.later {w W W' : World} {K1 K2 K3 : Nat} (h : Fin0 w W K1 K2 K3) (hb : Below W.heap.size W W') : Fin0 w W' K1 K2 K3 :=
  ⟨cell_later hb h.q1, cell_later hb h.q2, cell_later hb h.q3, h.below.trans (hb.mono h.below.size)⟩

theorem fin0_start {w wr : World} (v0 v1 v2 v3 v4 : Value) (hb : Below w.heap.size w wr) :
    Fin0 w (((wr.alloc (.cells #[v0, v1, v2, v3, v4, .slice none 0 0] 35)).alloc (.cells #[v0, v1, v2, v3, v4, .slice none 0 0] 35)).alloc (.cells #[v0, v1, v2, v3, v4, .slice none 0 0] 35))
      wr.heap.size (wr.heap.size + 1) (wr.heap.size + 1 + 1) := by
  have h1 : Below wr.heap.size wr (((wr.alloc (.cells #[v0, v1, v2, v3, v4, .slice none 0 0] 35)).alloc (.cells #[v0, v1, v2, v3, v4, .slice none 0 0] 35)).alloc (.cells #[v0, v1, v2, v3, v4, .slice none 0 0] 35)) :=
    (((Below.refl _ _).alloc (Nat.le_refl _) _).alloc (by simp) _).alloc (by simp; omega) _
  refine ⟨?_, ?_, ?_, hb.trans (h1.mono hb.size)⟩
  · rw [World.cell?_alloc_past _ _ _ (by simp; omega), World.cell?_alloc_past _ _ _ (by simp), World.cell?_alloc_at _ _ _ _ rfl]; rfl
  · rw [World.cell?_alloc_past _ _ _ (by simp), World.cell?_alloc_at _ _ _ _ (by simp)]; rfl
  · rw [World.cell?_alloc_at _ _ _ _ (by simp)]; rfl

theorem fin0_ask {w W : World} {K1 K2 K3 : Nat} (h : Fin0 w W K1 K2 K3) (K : Nat) (t : ByteArray) (hq : W.cell? ⟨K, 5, none⟩ = some (.slice none 0 0)) :
    Calls Try.prog 5 #[.pointer (some ⟨K, 0, none⟩), .string t] W fun e w' => e = .returned (.tuple #[.pointer none, .bool false]) ∧ Fin0 w w' K1 K2 K3 :=
  (zz_nil K t W hq).mono fun e w' ⟨he, hb⟩ => ⟨he, h.later hb⟩

set_option maxRecDepth 100000 in
set_option maxHeartbeats 4000000 in
theorem law_out (v a0 k0 : Int) (s2 s3 s4 t : ByteArray) (ao : Option Addr) (b off n c : Nat) (S R : Nat → ByteArray) (w : World) (hn : n ≤ 140737488351232) (hk : k0 < 0 ∨ (n : Int) < k0)
    (h2 : s2.size ≤ 140737488351232) (h3 : s3.size ≤ 140737488351232) (h4 : s4.size ≤ 140737488351232) (h6 : t.size ≤ 140737488351232)
    (hao : 0 < n → ao = some ⟨b, off, none⟩) (hc : Row w b off n S R) :
    Calls Try.prog 3 #[.int .u64 v, .int .u64 a0, .string s2, .string s3, .string s4, .slice ao n c, .string t, .int .i64 k0] w fun e w' => e = .returned (.bool true) ∧ Below w.heap.size w w' := by
  go_enter Try.func3, Try.ntmps3
  go_wp2_with (first
    | (go_at_call 4; refine (bytes_any v a0 k0 s2 s3 s4 t ao b off n c S R _ hn h2 h3 h4 h6 hao hc).mono ?_; rintro e w' ⟨⟨r, rfl⟩, rfl⟩))
  all_goals try (go_ret; exact ⟨rfl, Below.refl _ _⟩)
  clear h2 h3 h4 h6
  go_loopg [17, 18] n (fun g x i wr => ∃ (j : Nat) (u : Int), g + j = n ∧ i = .int .i64 j ∧ x = .int .i64 u ∧ Below w.heap.size w wr)
  case atStart => exact ⟨0, _, rfl, rfl, rfl, Below.refl _ _⟩
  case round =>
    obtain ⟨j, u, hj, rfl, rfl, hbl⟩ := hrel
    have HJ : Hid (gk + j = n) := hj
    have hj' : j ≤ n := by omega
    clear hj
    by_cases hlt : j < n
    · obtain rfl := hao (by omega)
      have hc0 := ((hc.later hbl) j hlt).1
      have hc1 := ((hc.later hbl) j hlt).2
      have hji : (j : Int) < (n : Int) := by omega
      go_wp2_with fail
      go_quiet (fail)
      go_wp2_with fail
      · go_ret
        exact ⟨rfl, below_drewN hbl _⟩
      · go_roundg (gk - 1)
        case measure => have := HJ.out; omega
        case rel => exact ⟨j + 1, _, by have := HJ.out; omega, by go_num, rfl, below_drewN hbl _⟩
    · by_cases hneg : k0 < 0
      · go_wp2_with fail
        go_ret
        exact ⟨rfl, hbl⟩
      · have hbig : (n : Int) < k0 := by omega
        clear hk
        go_wp2_with fail
        go_ret
        exact ⟨rfl, hbl⟩

set_option maxRecDepth 100000 in
set_option maxHeartbeats 4000000 in
theorem law_nil (v a0 : Int) (s2 s3 s4 t : ByteArray) (w : World)
    (h2 : s2.size ≤ 140737488351232) (h3 : s3.size ≤ 140737488351232) (h4 : s4.size ≤ 140737488351232) (h6 : t.size ≤ 140737488351232) :
    Calls Try.prog 3 #[.int .u64 v, .int .u64 a0, .string s2, .string s3, .string s4, .slice none 0 0, .string t, .int .i64 0] w fun e w' => e = .returned (.bool true) ∧ Below w.heap.size w w' := by
  have hao : 0 < 0 → (none : Option Addr) = some ⟨0, 0, none⟩ := fun h => absurd h (by omega)
  have hc : Row w 0 0 0 (fun _ => ByteArray.empty) (fun _ => ByteArray.empty) := fun j hj => absurd hj (by omega)
  have q : ∀ (w : World) (a : Option Addr) (n c : Nat), (binOp .neq 23 (.slice a n c) (.slice none 0 0)).run Try.prog w = .ok (.bool (!a.isNone)) w := fun w a n c => run_neq_slice_nil_any w _ _ a n c _ _ Try.underlying23
  go_enter Try.func3, Try.ntmps3
  go_wp2_with (first
    | (go_at_call 4; refine (bytes_any v a0 0 s2 s3 s4 t none 0 0 0 0 _ _ _ (by omega) h2 h3 h4 h6 hao hc).mono ?_; rintro e w' ⟨⟨r, rfl⟩, rfl⟩))
  all_goals try (go_ret; exact ⟨rfl, Below.refl _ _⟩)
  clear h2 h3 h4 h6 hc hao
  refine wp_loop_rounds 1 ?_
  rw [rounds_succ]
  go_wp2_with fail
  refine wp_loop_rounds 1 ?_
  rw [rounds_succ]
  go_wp2_with fail
  refine wp_loop_rounds 1 ?_
  rw [rounds_succ]
  go_wp2_with fail
  refine wp_loop_rounds 1 ?_
  rw [rounds_succ]
  go_wp2_with fail
  refine (fin0_ask (fin0_start (w := w) _ _ _ _ _ (Below.refl _ _)) w.heap.size t (fin0_start (w := w) _ _ _ _ _ (Below.refl _ _)).q1).mono ?_
  rintro e w1 ⟨rfl, hF⟩
  go_wp2_with fail
  refine (fin0_ask hF (w.heap.size + 1) t hF.q2).mono ?_
  clear hF
  rintro e w1 ⟨rfl, hF⟩
  go_wp2_with fail
  refine (fin0_ask hF (w.heap.size + 1 + 1) t hF.q3).mono ?_
  clear hF
  rintro e w1 ⟨rfl, hF⟩
  go_wp2_with fail
  go_ret
  exact ⟨rfl, hF.below⟩

/-- The law, at every input. -/
theorem law_any (v a0 k0 : Int) (s2 s3 s4 t : ByteArray) (ao : Option Addr) (b off n c : Nat) (S R : Nat → ByteArray) (w : World) (hn : n ≤ 140737488351232)
    (h2 : s2.size ≤ 140737488351232) (h3 : s3.size ≤ 140737488351232) (h4 : s4.size ≤ 140737488351232) (h6 : t.size ≤ 140737488351232)
    (hnil : ao = none → n = 0 ∧ c = 0) (hao : 0 < n → ao = some ⟨b, off, none⟩) (hbw : 0 < n → b < w.heap.size) (hc : Row w b off n S R) :
    Calls Try.prog 3 #[.int .u64 v, .int .u64 a0, .string s2, .string s3, .string s4, .slice ao n c, .string t, .int .i64 k0] w fun e w' => e = .returned (.bool true) ∧ Below w.heap.size w w' := by
  by_cases ho : k0 < 0 ∨ (n : Int) < k0
  · exact law_out v a0 k0 s2 s3 s4 t ao b off n c S R w hn ho h2 h3 h4 h6 hao hc
  · obtain ⟨k, rfl⟩ : ∃ k : Nat, k0 = k := ⟨k0.toNat, by omega⟩
    cases ao with
    | none =>
      obtain ⟨rfl, rfl⟩ := hnil rfl
      obtain rfl : k = 0 := by omega
      exact law_nil v a0 s2 s3 s4 t w h2 h3 h4 h6
    | some a =>
      have ha : 0 < n → a = ⟨b, off, none⟩ := fun h => by simpa using hao h
      by_cases hk : k < n
      · exact law_lt v a0 k s2 s3 s4 t a b off n c S R w hn hk h2 h3 h4 h6 ha hbw hc
      · obtain rfl : k = n := by omega
        exact law_eq v a0 k s2 s3 s4 t a b off k c S R w hn h2 h3 h4 h6 ha hbw hc
end Go.Proofs.Qxb6617695a
