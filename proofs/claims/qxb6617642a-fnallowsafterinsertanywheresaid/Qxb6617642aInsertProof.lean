/- The proof of 'Rows.FnAllowsAfterInsertAnywhereSaid': the arguments opened, the walk (WalkE: 'insertLaw_any'), shut again. -/
import Derived.Test.Qxb6617642aWalkE
import Derived.ProofKit
import Derived.OpenShut
import Derived.ShutString
import Derived.SizedLaws
import Derived.SliceStrings
namespace Go.Proofs.Qxb6617642a.insertion
open Go.ChangeShapes Go.WideShapes Go.ChangeAt Go.RowKit
open Go.ChangeMaps (open_string shut_string)

theorem own : ownKnob Try.prog.godebug = none := by kernel_rfl
theorem laidOut : laidOutB Try.prog = true := by kernel_rfl
theorem cells9 : Try.prog.cellsOf 9 = 1 := by kernel_rfl
theorem bytes9 : Try.prog.bytesOf 9 = 16 := by kernel_rfl

set_option maxRecDepth 100000 in
theorem lifted (os : Os) (started : os.Started) (H : Type) (enc : TypeId × Value → H) :
    ReturnsInHanded {} Try.checked os 4 .any (Rows.fnAllowsAfterInsertAnywhereSpec.pre6 enc Try.prog Try.f4 Rows.fnAllowsAfterInsertAnywhereRow.domain false) (Rows.fnAllowsAfterInsertAnywhereSpec.post enc Try.prog Try.f4 false true false false) := by
  refine returnsInHanded_of_change_sized (C := Try.checked) own started (by kernel_rfl) Try.func4
    (ChangeSpec.witness6 (enc := enc) (C := Try.checked) false ⟨#[], #[.string ByteArray.empty, .slice none 0 0, .string ByteArray.empty, .string ByteArray.empty, .int .i64 0], []⟩ 8 (by kernel_rfl) (by kernel_rfl) (by kernel_rfl) (by kernel_rfl)) ?_
  intro W base args ds gs before hval0 hW _ hsz0 _
  have hsz : (DataW.weightsEach Try.prog (Try.f4.params.toList ++ Rows.fnAllowsAfterInsertAnywhereSpec.plain.varTypes Try.prog) (ds ++ gs)).all (· ≤ reachBytes) = true := hsz0
  clear hsz0
  have hval : ∀ (j : Nat) t v, Try.f4.params[j]? = some t → args[j]? = some v → Value.okWide Try.prog W .any base t v := hval0
  have hW' := hW
  obtain ⟨p, q, hA0, hV, rfl, _, _⟩ := hW
  have hA : DataW.TrodAll enc Try.prog W 0 (fun _ => true) true Try.f4.params.toList args.toList ds p := hA0
  rw [Try.params4] at hA hval hsz
  obtain ⟨v0, vs0, d0, ds0, p0, q0, hargs, rfl, rfl, h0, r0⟩ := trodAll_cons hA
  obtain ⟨v1, vs1, d1, ds1, p1, q1, rfl, rfl, rfl, h1, r1⟩ := trodAll_cons r0
  obtain ⟨v2, vs2, d2, ds2, p2, q2, rfl, rfl, rfl, h2, r2⟩ := trodAll_cons r1
  obtain ⟨v3, vs3, d3, ds3, p3, q3, rfl, rfl, rfl, h3, r3⟩ := trodAll_cons r2
  obtain ⟨v4, vs4, d4, ds4, p4, q4, rfl, rfl, rfl, h4, r4⟩ := trodAll_cons r3
  obtain ⟨rfl, rfl, rfl⟩ := trodAll_nil r4
  obtain rfl : args = #[v0, v1, v2, v3, v4] := by cases args; simp_all
  obtain ⟨rfl, rfl⟩ := trodVars_none hV
  obtain ⟨s0, rfl, rfl, rfl, z0⟩ := open_string Try.underlying9 (hval 0 9 v0 rfl rfl) h0
  obtain ⟨s2, rfl, rfl, rfl, z2⟩ := open_string Try.underlying9 (hval 2 9 v2 rfl rfl) h2
  obtain ⟨s3, rfl, rfl, rfl, z3⟩ := open_string Try.underlying9 (hval 3 9 v3 rfl rfl) h3
  obtain ⟨i, rfl, rfl, rfl, wi⟩ := open_int Try.underlying3 (hval 4 3 v4 rfl rfl) h4
  obtain ⟨a1, len, cap, rfl⟩ := okWide_slice Try.underlying22 (hval 1 22 v1 rfl rfl)
  have h1k := h1
  obtain ⟨fuel, hf⟩ := h1
  clear hA0 hval0 hA r0 r1 r2 r3 r4 hval hargs
  simp only [List.append_nil, List.nil_append] at hW' hsz
  have hlt : ∀ x ∈ p1, x.block < W.heap.size := fun x hx => by simpa using hW'.lt x (by simpa using hx)
  have n0 : s0.size ≤ 140737488351232 := by
    have := sized_string hsz (j := 0) (t := 9) rfl rfl
    simp only [reachBytes, Array.length_toList] at this
    exact this
  have n2 : s2.size ≤ 140737488351232 := by
    have := sized_string hsz (j := 2) (t := 9) rfl rfl
    simp only [reachBytes, Array.length_toList] at this
    exact this
  have n3 : s3.size ≤ 140737488351232 := by
    have := sized_string hsz (j := 3) (t := 9) rfl rfl
    simp only [reachBytes, Array.length_toList] at this
    exact this
  have fin : ∀ (e : Ending) (W' : World), e = .returned (.bool true) ∧ Below W.heap.size W W' →
      ∃ v, e = .returned v ∧ Rows.fnAllowsAfterInsertAnywhereSpec.post enc Try.checked.prog Try.f4 false true false false W #[.string s0, .slice a1 len cap, .string s2, .string s3, .int .i64 i] v W' := by
    rintro e W' ⟨rfl, hnx⟩
    refine ⟨_, rfl, _, _, _, [] ++ [], p1, [], hW', ?_, ?_, rfl, hnx.frame _, fun h => by cases h⟩
    · exact trodAll_cons_mk (shut_bool Try.underlying4 true) trodAll_mk0
    · have hT := trodAll_cons_mk (shut_string (enc := enc) (w := W') (base := 0) (sp := fun b => decide (b < W.heap.size)) (held := true) Try.underlying9 z0) (trodAll_cons_mk (Below.trod laidOut (by kernel_rfl) (of_decide_eq_true (by kernel_rfl)) h1k hnx hlt) (trodAll_cons_mk (shut_string Try.underlying9 z2) (trodAll_cons_mk (shut_string Try.underlying9 z3) (trodAll_cons_mk (shut_int Try.underlying3 wi) trodAll_mk0))))
      simp only [List.append_nil, List.nil_append] at hT
      exact hT
  rcases open_strings Try.underlying22 Try.underlying9 cells9 hf with ⟨hcs, hx⟩ | ⟨a, len', cap', ss, hcs, _, hl, hm, hz, hx, hcell, hws⟩
  · simp [Value.cells] at hcs
    obtain ⟨rfl, rfl, rfl⟩ := hcs
    exact (insertLaw_any s0 s2 s3 i none 0 0 0 0 [] W rfl (by omega) n0 n2 n3 (fun _ => ⟨rfl, rfl⟩) (fun h => absurd h (by omega)) (fun h => absurd h (by omega)) (fun j hj => absurd hj (by omega))).mono fin
  · simp [Value.cells] at hcs
    obtain ⟨rfl, rfl, rfl⟩ := hcs
    simp only [Prod.mk.injEq] at hx
    obtain ⟨rfl, rfl⟩ := hx
    simp only [if_true] at hz
    have hreach : len * 16 ≤ 140737488351232 := by
      have := sized_slice hsz (j := 1) (t := 22) (e := 9) rfl rfl Try.underlying22
      rw [bytes9] at this
      simp only [strs, List.length_map, List.length_take, List.length_drop, reachBytes] at this
      omega
    have hget : ∀ j, j < len → (ss.take len)[j]?.getD ByteArray.empty = ss.getD j ByteArray.empty := fun j hj => by simp [hj]
    by_cases hl0 : len = 0
    · subst hl0
      exact (insertLaw_any s0 s2 s3 i (some a) 0 0 0 cap [] W rfl (by omega) n0 n2 n3 (fun h => by cases h) (fun h => absurd h (by omega)) (fun h => absurd h (by omega)) (fun j hj => absurd hj (by omega))).mono fin
    · obtain ⟨b, off, spot⟩ := a
      have hspot : spot = none := by simpa [Addr.add] using World.cell?_spot (hcell 0 (by omega))
      subst hspot
      have hbW : b < W.heap.size := hlt (.cell b off) (MemPlace.mem_row.2 ⟨0, by omega, by simp⟩)
      exact (insertLaw_any s0 s2 s3 i (some ⟨b, off, none⟩) b off len cap (ss.take len) W (by simp; omega) hreach n0 n2 n3 (fun h => by cases h) (fun _ => rfl) (fun _ => hbW) (fun j hj => by rw [← add_plain, hcell j (by omega), hget j hj])).mono fin

theorem over : Rows.fnAllowsAfterInsertAnywhereRow.holds Try.pinned (OpenSpec.ofChange Rows.fnAllowsAfterInsertAnywhereSpec) :=
  OpenClaim.holds_of_wide 4 Try.f4 rfl rfl rfl rfl rfl rfl rfl ⟨rfl, rfl, rfl, rfl, rfl⟩ rfl rfl rfl rfl rfl (by kernel_rfl) Try.func4 (by kernel_rfl)
    (of_decide_eq_true (by kernel_rfl)) (by unfold Func.isWrapper; first | (rw [if_pos (by decide +kernel)]; kernel_rfl) | (rw [if_neg (by decide +kernel)]; exact ⟨rfl, rfl⟩))
    (fun os started H enc _ => lifted os started H enc)

end Go.Proofs.Qxb6617642a.insertion

namespace Go.Proofs.Qxb6617642a
/-- The statement. -/
theorem insert_proved : Rows.FnAllowsAfterInsertAnywhereSaid := insertion.over
end Go.Proofs.Qxb6617642a
