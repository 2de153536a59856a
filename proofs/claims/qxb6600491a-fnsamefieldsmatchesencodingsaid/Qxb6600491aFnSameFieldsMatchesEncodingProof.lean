/- A proof of the given statement; the frame is after the one that the guide's tool writes for slices of integers. -/
import Derived.Test.Qxb6600491aRows
import Derived.WalkKit
import Derived.ProofKit
import Derived.OpenShut
import Derived.ShutString
import Derived.ChangeOld
import Derived.Below
import Derived.SliceStrings
import Derived.Test.Qxb6600491aEncLaw
namespace Go.Proofs.Qxb6600491a.fnSameFieldsMatchesEncoding
open Go.ChangeShapes Go.WideShapes Go.ChangeAt Go.RowKit
open Go.ChangeMaps (open_string shut_string)
set_option linter.unusedVariables false

theorem own : ownKnob Try.prog.godebug = none := by kernel_rfl
theorem laidOut : laidOutB Try.prog = true := by kernel_rfl

theorem walk (a0 : Option Addr) (len0 cap0 : Nat) (z0 : List ByteArray) (a1 : Option Addr) (len1 cap1 : Nat) (z1 : List ByteArray) (w : World) (w0 : len0 ≤ maxLen ∧ Fd.StrRow w a0 len0 (fun i => z0.getD i ByteArray.empty) ∧ (a0 = none → len0 = 0)) (w1 : len1 ≤ maxLen ∧ Fd.StrRow w a1 len1 (fun i => z1.getD i ByteArray.empty) ∧ (a1 = none → len1 = 0)) :
    Calls Try.prog 7 #[.slice a0 len0 cap0, .slice a1 len1 cap1] w fun e w' => e = .returned (.bool true) ∧ Below w.heap.size w w' :=
  Enc.law7 w a0 len0 cap0 _ a1 len1 cap1 _ w0.1 w0.2.1 w0.2.2 w1.1 w1.2.1 w1.2.2

/-! ### THE ROW's STEP: WRITTEN OUT: LEAVE IT -/
set_option maxRecDepth 100000 in
theorem lifted (os : Os) (started : os.Started) (H : Type) (enc : TypeId × Value → H) :
    ReturnsInHanded {} Try.checked os 7 .any (Rows.fnSameFieldsMatchesEncodingSpec.pre6 enc Try.prog Try.f7 Rows.fnSameFieldsMatchesEncodingRow.domain false) (Rows.fnSameFieldsMatchesEncodingSpec.post enc Try.prog Try.f7 false true false false) := by
  refine returnsInHanded_of_change (C := Try.checked) own started (by kernel_rfl) Try.func7
    (ChangeSpec.witness6 (enc := enc) (C := Try.checked) false ⟨#[], #[.slice none 0 0, .slice none 0 0], []⟩ 8 (by kernel_rfl) (by kernel_rfl) (by kernel_rfl) (by kernel_rfl)) ?_
  intro W base args ds gs before hval0 hW hcnd _
  have hval : ∀ (j : Nat) t v, Try.f7.params[j]? = some t → args[j]? = some v → Value.okWide Try.prog W .any base t v := hval0
  have hW' := hW
  obtain ⟨p, q, hA0, hV, rfl, hfz, hnd⟩ := hW
  have hA : DataW.TrodAll enc Try.prog W 0 (fun _ => true) true Try.f7.params.toList args.toList ds p := hA0
  rw [Try.params7] at hA hval
  obtain ⟨v0, vs0, d0, ds0, p0, q0, hargs, rfl, rfl, h0, r0⟩ := trodAll_cons hA
  obtain ⟨v1, vs1, d1, ds1, p1, q1, rfl, rfl, rfl, h1, r1⟩ := trodAll_cons r0
  obtain ⟨rfl, rfl, rfl⟩ := trodAll_nil r1
  obtain rfl : args = #[v0, v1] := by cases args; simp_all
  obtain ⟨rfl, rfl⟩ := trodVars_none hV
  obtain ⟨a0, len0, cap0, rfl⟩ := okWide_slice Try.underlying27 (hval 0 27 v0 rfl rfl)
  have k0 := h0
  have lt0 : ∀ x ∈ p0, x.block < W.heap.size := by obtain ⟨m, hm⟩ := k0; exact DataW.trod_lt m _ _ _ hm
  obtain ⟨z0, w0⟩ : ∃ zs : List ByteArray, len0 ≤ maxLen ∧ Fd.StrRow W a0 len0 (fun i => zs.getD i ByteArray.empty) ∧ (a0 = none → len0 = 0) := by
    obtain ⟨fuel, hf⟩ := h0
    rcases open_strings Try.underlying27 Try.underlying9 (by kernel_rfl) hf with ⟨hcs, _⟩ | ⟨x, l, c, zs, hcs, _, hl, hm, hz, _, hcell, hwz⟩
    · simp [Value.cells] at hcs
      obtain ⟨rfl, rfl, rfl⟩ := hcs
      exact ⟨[], Nat.zero_le _, Or.inl rfl, fun _ => rfl⟩
    · simp [Value.cells] at hcs
      obtain ⟨rfl, rfl, rfl⟩ := hcs
      refine ⟨zs, Nat.le_trans hl hm, ?_, fun h => by cases h⟩
      have hz' : zs.length = cap0 := by simpa using hz
      by_cases h0l : len0 = 0
      · exact Or.inl h0l
      · obtain ⟨b, o, spot⟩ := x
        have hspot : spot = none := by simpa [Addr.add] using World.cell?_spot (hcell 0 (by omega))
        subst hspot
        have hcell' : ∀ j, j < zs.length → W.cell? ⟨b, o + j, none⟩ = some (.string (zs.getD j ByteArray.empty)) := fun j hj => by rw [← add_plain]; exact hcell j hj
        refine Or.inr ⟨b, o, rfl, World.block_lt_of_cell? W _ (hcell' 0 (by omega)), fun i hi => hcell' i (by omega), fun i hi => ?_⟩
        have hi' : i < zs.length := by omega
        have e : zs.getD i ByteArray.empty = zs[i] := by simp [List.getD, hi']
        dsimp only
        rw [e]
        exact hwz _ (List.getElem_mem hi')
  obtain ⟨a1, len1, cap1, rfl⟩ := okWide_slice Try.underlying27 (hval 1 27 v1 rfl rfl)
  have k1 := h1
  have lt1 : ∀ x ∈ p1, x.block < W.heap.size := by obtain ⟨m, hm⟩ := k1; exact DataW.trod_lt m _ _ _ hm
  obtain ⟨z1, w1⟩ : ∃ zs : List ByteArray, len1 ≤ maxLen ∧ Fd.StrRow W a1 len1 (fun i => zs.getD i ByteArray.empty) ∧ (a1 = none → len1 = 0) := by
    obtain ⟨fuel, hf⟩ := h1
    rcases open_strings Try.underlying27 Try.underlying9 (by kernel_rfl) hf with ⟨hcs, _⟩ | ⟨x, l, c, zs, hcs, _, hl, hm, hz, _, hcell, hwz⟩
    · simp [Value.cells] at hcs
      obtain ⟨rfl, rfl, rfl⟩ := hcs
      exact ⟨[], Nat.zero_le _, Or.inl rfl, fun _ => rfl⟩
    · simp [Value.cells] at hcs
      obtain ⟨rfl, rfl, rfl⟩ := hcs
      refine ⟨zs, Nat.le_trans hl hm, ?_, fun h => by cases h⟩
      have hz' : zs.length = cap1 := by simpa using hz
      by_cases h0l : len1 = 0
      · exact Or.inl h0l
      · obtain ⟨b, o, spot⟩ := x
        have hspot : spot = none := by simpa [Addr.add] using World.cell?_spot (hcell 0 (by omega))
        subst hspot
        have hcell' : ∀ j, j < zs.length → W.cell? ⟨b, o + j, none⟩ = some (.string (zs.getD j ByteArray.empty)) := fun j hj => by rw [← add_plain]; exact hcell j hj
        refine Or.inr ⟨b, o, rfl, World.block_lt_of_cell? W _ (hcell' 0 (by omega)), fun i hi => hcell' i (by omega), fun i hi => ?_⟩
        have hi' : i < zs.length := by omega
        have e : zs.getD i ByteArray.empty = zs[i] := by simp [List.getD, hi']
        dsimp only
        rw [e]
        exact hwz _ (List.getElem_mem hi')
  clear hA0 hval0
  refine (walk a0 len0 cap0 z0 a1 len1 cap1 z1 W w0 w1).mono fun e W' ⟨he, bel⟩ => ?_
  subst he
  exact ⟨_, rfl, _, _, _, [], _, [], hW', trodAll_mk1 (shut_bool Try.underlying4 _), (trodAll_cons_mk (Below.trod laidOut (by kernel_rfl) (of_decide_eq_true (by kernel_rfl)) k0 bel lt0) (trodAll_cons_mk (Below.trod laidOut (by kernel_rfl) (of_decide_eq_true (by kernel_rfl)) k1 bel lt1) trodAll_mk0)), rfl, bel.frame _, fun h => by cases h⟩

theorem over : Rows.fnSameFieldsMatchesEncodingRow.holds Try.pinned (OpenSpec.ofChange Rows.fnSameFieldsMatchesEncodingSpec) :=
  OpenClaim.holds_of_wide 7 Try.f7 rfl rfl rfl rfl rfl rfl rfl ⟨rfl, rfl, rfl, rfl, rfl⟩ rfl rfl rfl rfl rfl (by kernel_rfl) Try.func7 (by kernel_rfl)
    (of_decide_eq_true (by kernel_rfl)) (by unfold Func.isWrapper; first | (rw [if_pos (by decide +kernel)]; kernel_rfl) | (rw [if_neg (by decide +kernel)]; exact ⟨rfl, rfl⟩))
    (fun os started H enc _ => lifted os started H enc)

/-- ████ THE STATEMENT ████ -/
theorem proved : Rows.FnSameFieldsMatchesEncodingSaid := over
#print axioms proved
end Go.Proofs.Qxb6600491a.fnSameFieldsMatchesEncoding
