/- The proof of 'Rows.FnParticipantFirstMatchAtAnyCutSaid': the arguments opened, the walk (WalkD: 'law_any'), shut again. -/
import Derived.Test.Qxb6617695aWalkD
import Derived.ProofKit
import Derived.OpenShut
import Derived.ShutString
import Derived.SizedLaws
import Derived.Deep.SlicePairs
namespace Go.Proofs.Qxb6617695a.participant
open Go.ChangeShapes Go.WideShapes Go.ChangeAt Go.RowKit
open Go.ChangeMaps (open_string shut_string)

theorem own : ownKnob Try.prog.godebug = none := by kernel_rfl
theorem laidOut : laidOutB Try.prog = true := by kernel_rfl
theorem cells26 : Try.prog.cellsOf 26 = 2 := by kernel_rfl
theorem cells9 : Try.prog.cellsOf 9 = 1 := by kernel_rfl
theorem bytes26 : Try.prog.bytesOf 26 = 32 := by kernel_rfl

/-- The text in a cell. -/
def text : Value → ByteArray
  | .string s => s
  | _ => ByteArray.empty

set_option maxRecDepth 100000 in
theorem lifted (os : Os) (started : os.Started) (H : Type) (enc : TypeId × Value → H) :
    ReturnsInHanded {} Try.checked os 3 .any (Rows.fnParticipantFirstMatchAtAnyCutSpec.pre6 enc Try.prog Try.f3 Rows.fnParticipantFirstMatchAtAnyCutRow.domain false) (Rows.fnParticipantFirstMatchAtAnyCutSpec.post enc Try.prog Try.f3 false true false false) := by
  refine returnsInHanded_of_change_sized (C := Try.checked) own started (by kernel_rfl) Try.func3
    (ChangeSpec.witness6 (enc := enc) (C := Try.checked) false ⟨#[], #[.int .u64 0, .int .u64 0, .string ByteArray.empty, .string ByteArray.empty, .string ByteArray.empty, .slice none 0 0, .string ByteArray.empty, .int .i64 0], []⟩ 8 (by kernel_rfl) (by kernel_rfl) (by kernel_rfl) (by kernel_rfl)) ?_
  intro W base args ds gs before hval0 hW _ hsz0 _
  have hsz : (DataW.weightsEach Try.prog (Try.f3.params.toList ++ Rows.fnParticipantFirstMatchAtAnyCutSpec.plain.varTypes Try.prog) (ds ++ gs)).all (· ≤ reachBytes) = true := hsz0
  clear hsz0
  have hval : ∀ (j : Nat) t v, Try.f3.params[j]? = some t → args[j]? = some v → Value.okWide Try.prog W .any base t v := hval0
  have hW' := hW
  obtain ⟨p, q, hA0, hV, rfl, _, _⟩ := hW
  have hA : DataW.TrodAll enc Try.prog W 0 (fun _ => true) true Try.f3.params.toList args.toList ds p := hA0
  rw [Try.params3] at hA hval hsz
  obtain ⟨v0, vs0, d0, ds0, p0, q0, hargs, rfl, rfl, h0, r0⟩ := trodAll_cons hA
  obtain ⟨v1, vs1, d1, ds1, p1, q1, rfl, rfl, rfl, h1, r1⟩ := trodAll_cons r0
  obtain ⟨v2, vs2, d2, ds2, p2, q2, rfl, rfl, rfl, h2, r2⟩ := trodAll_cons r1
  obtain ⟨v3, vs3, d3, ds3, p3, q3, rfl, rfl, rfl, h3, r3⟩ := trodAll_cons r2
  obtain ⟨v4, vs4, d4, ds4, p4, q4, rfl, rfl, rfl, h4, r4⟩ := trodAll_cons r3
  obtain ⟨v5, vs5, d5, ds5, p5, q5, rfl, rfl, rfl, h5, r5⟩ := trodAll_cons r4
  obtain ⟨v6, vs6, d6, ds6, p6, q6, rfl, rfl, rfl, h6, r6⟩ := trodAll_cons r5
  obtain ⟨v7, vs7, d7, ds7, p7, q7, rfl, rfl, rfl, h7, r7⟩ := trodAll_cons r6
  obtain ⟨rfl, rfl, rfl⟩ := trodAll_nil r7
  obtain rfl : args = #[v0, v1, v2, v3, v4, v5, v6, v7] := by cases args; simp_all
  obtain ⟨rfl, rfl⟩ := trodVars_none hV
  obtain ⟨i0, rfl, rfl, rfl, w0⟩ := open_int Try.underlying22 (hval 0 22 v0 rfl rfl) h0
  obtain ⟨i1, rfl, rfl, rfl, w1⟩ := open_int Try.underlying22 (hval 1 22 v1 rfl rfl) h1
  obtain ⟨s2, rfl, rfl, rfl, z2⟩ := open_string Try.underlying9 (hval 2 9 v2 rfl rfl) h2
  obtain ⟨s3, rfl, rfl, rfl, z3⟩ := open_string Try.underlying9 (hval 3 9 v3 rfl rfl) h3
  obtain ⟨s4, rfl, rfl, rfl, z4⟩ := open_string Try.underlying9 (hval 4 9 v4 rfl rfl) h4
  obtain ⟨s6, rfl, rfl, rfl, z6⟩ := open_string Try.underlying9 (hval 6 9 v6 rfl rfl) h6
  obtain ⟨i7, rfl, rfl, rfl, w7⟩ := open_int Try.underlying3 (hval 7 3 v7 rfl rfl) h7
  obtain ⟨a5, len, cap, rfl⟩ := okWide_slice Try.underlying23 (hval 5 23 v5 rfl rfl)
  have h5k := h5
  obtain ⟨fuel, hf⟩ := h5
  clear hA0 hval0 hA r0 r1 r2 r3 r4 r5 r6 r7 hval hargs
  simp only [List.append_nil, List.nil_append] at hW' hsz
  have hlt : ∀ x ∈ p5, x.block < W.heap.size := fun x hx => by simpa using hW'.lt x (by simpa using hx)
  have n2 : s2.size ≤ 140737488351232 := by
    have := sized_string hsz (j := 2) (t := 9) rfl rfl
    simp only [reachBytes, Array.length_toList] at this
    exact this
  have n3 : s3.size ≤ 140737488351232 := by
    have := sized_string hsz (j := 3) (t := 9) rfl rfl
    simp only [reachBytes, Array.length_toList] at this
    exact this
  have n4 : s4.size ≤ 140737488351232 := by
    have := sized_string hsz (j := 4) (t := 9) rfl rfl
    simp only [reachBytes, Array.length_toList] at this
    exact this
  have n6 : s6.size ≤ 140737488351232 := by
    have := sized_string hsz (j := 6) (t := 9) rfl rfl
    simp only [reachBytes, Array.length_toList] at this
    exact this
  have fin : ∀ (e : Ending) (W' : World), e = .returned (.bool true) ∧ Below W.heap.size W W' →
      ∃ v, e = .returned v ∧ Rows.fnParticipantFirstMatchAtAnyCutSpec.post enc Try.checked.prog Try.f3 false true false false W #[.int .u64 i0, .int .u64 i1, .string s2, .string s3, .string s4, .slice a5 len cap, .string s6, .int .i64 i7] v W' := by
    rintro e W' ⟨rfl, hnx⟩
    refine ⟨_, rfl, _, _, _, [] ++ [], p5, [], hW', ?_, ?_, rfl, hnx.frame _, fun h => by cases h⟩
    · exact trodAll_cons_mk (shut_bool Try.underlying4 true) trodAll_mk0
    · have hT := trodAll_cons_mk (shut_int (enc := enc) (w := W') (base := 0) (spare := fun b => decide (b < W.heap.size)) (held := true) Try.underlying22 w0) (trodAll_cons_mk (shut_int Try.underlying22 w1) (trodAll_cons_mk (shut_string Try.underlying9 z2) (trodAll_cons_mk (shut_string Try.underlying9 z3) (trodAll_cons_mk (shut_string Try.underlying9 z4) (trodAll_cons_mk (Below.trod laidOut (by kernel_rfl) (of_decide_eq_true (by kernel_rfl)) h5k hnx hlt) (trodAll_cons_mk (shut_string Try.underlying9 z6) (trodAll_cons_mk (shut_int Try.underlying3 w7) trodAll_mk0)))))))
      simp only [List.append_nil, List.nil_append] at hT
      exact hT
  rcases Deep.open_slice_pairs Try.underlying23 Try.underlying26 cells26 rfl rfl (by kernel_rfl) (by kernel_rfl) hf with ⟨hcs, hx⟩ | ⟨a, len', cap', m, fu, V0, V1, D0, D1, P0, P1, hcs, _, hl, hm, hmm, hx, hcell⟩
  · simp [Value.cells] at hcs
    obtain ⟨rfl, rfl, rfl⟩ := hcs
    exact (law_any i0 i1 i7 s2 s3 s4 s6 none 0 0 0 0 (fun _ => ByteArray.empty) (fun _ => ByteArray.empty) W (by omega) n2 n3 n4 n6 (fun _ => ⟨rfl, rfl⟩) (fun h => absurd h (by omega)) (fun h => absurd h (by omega)) (fun j hj => absurd hj (by omega))).mono fin
  · simp [Value.cells] at hcs
    obtain ⟨rfl, rfl, rfl⟩ := hcs
    simp only [Prod.mk.injEq] at hx
    obtain ⟨rfl, rfl⟩ := hx
    simp only [if_true] at hmm
    have hreach : len ≤ 140737488351232 := by
      have := sized_slice hsz (j := 5) (t := 23) (e := 26) rfl rfl Try.underlying23
      rw [bytes26] at this
      simp only [List.length_map, List.length_range, reachBytes] at this
      omega
    have hV : ∀ j, j < m → V0 j = .string (text (V0 j)) ∧ V1 j = .string (text (V1 j)) := fun j hj => by
      obtain ⟨_, _, t0, t1⟩ := hcell j hj
      obtain ⟨s, e0, _⟩ := DataW.trod_string Try.underlying9 t0
      obtain ⟨s', e1, _⟩ := DataW.trod_string Try.underlying9 t1
      simp only [List.cons.injEq, and_true] at e0 e1
      rw [e0, e1]
      exact ⟨rfl, rfl⟩
    by_cases hl0 : len = 0
    · subst hl0
      exact (law_any i0 i1 i7 s2 s3 s4 s6 (some a) 0 0 0 cap (fun _ => ByteArray.empty) (fun _ => ByteArray.empty) W (by omega) n2 n3 n4 n6 (fun h => by cases h) (fun h => absurd h (by omega)) (fun h => absurd h (by omega)) (fun j hj => absurd hj (by omega))).mono fin
    · obtain ⟨b, off, spot⟩ := a
      have hspot : spot = none := by simpa [Addr.add] using World.cell?_spot (hcell 0 (by omega)).1
      subst hspot
      have hbW : b < W.heap.size := hlt (.cell b off) (List.mem_append_left _ (MemPlace.mem_row.2 ⟨0, by omega, by simp⟩))
      refine (law_any i0 i1 i7 s2 s3 s4 s6 (some ⟨b, off, none⟩) b off len cap (fun j => text (V0 j)) (fun j => text (V1 j)) W hreach n2 n3 n4 n6 (fun h => by cases h) (fun _ => rfl) (fun _ => hbW) (fun j hj => ?_)).mono fin
      obtain ⟨c0, c1, _, _⟩ := hcell j (by omega)
      obtain ⟨e0, e1⟩ := hV j (by omega)
      refine ⟨?_, ?_⟩
      · rw [← add_plain, c0]; exact congrArg some e0
      · rw [Nat.add_assoc, ← add_plain, c1]; exact congrArg some e1

theorem over : Rows.fnParticipantFirstMatchAtAnyCutRow.holds Try.pinned (OpenSpec.ofChange Rows.fnParticipantFirstMatchAtAnyCutSpec) :=
  OpenClaim.holds_of_wide 3 Try.f3 rfl rfl rfl rfl rfl rfl rfl ⟨rfl, rfl, rfl, rfl, rfl⟩ rfl rfl rfl rfl rfl (by kernel_rfl) Try.func3 (by kernel_rfl)
    (of_decide_eq_true (by kernel_rfl)) (by unfold Func.isWrapper; first | (rw [if_pos (by decide +kernel)]; kernel_rfl) | (rw [if_neg (by decide +kernel)]; exact ⟨rfl, rfl⟩))
    (fun os started H enc _ => lifted os started H enc)

end Go.Proofs.Qxb6617695a.participant

namespace Go.Proofs.Qxb6617695a
/-- The statement. -/
theorem participant_proved : Rows.FnParticipantFirstMatchAtAnyCutSaid := participant.over
end Go.Proofs.Qxb6617695a
