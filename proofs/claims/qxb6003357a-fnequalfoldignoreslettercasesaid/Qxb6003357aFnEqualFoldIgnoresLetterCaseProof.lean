/-
  'Rows.FnEqualFoldIgnoresLetterCaseSaid': the frame after the guide's shells (howto/shells), at a string and a slice of bools.
-/
import Derived.Test.Qxb6003357aFnEqualFoldIgnoresLetterCaseWalk
import Derived.ProofKit
import Derived.OpenShut
import Derived.ShutString
import Derived.ChangeOld
import Derived.Below
import Derived.Deep.Grids
namespace Go.Proofs.Qxb6003357a.fnEqualFoldIgnoresLetterCase
open Go.ChangeShapes Go.WideShapes Go.ChangeAt Go.RowKit Go.Deep
open Go.ChangeMaps (open_string shut_string)
set_option linter.unusedVariables false

theorem own : ownKnob Try.prog.godebug = none := by kernel_rfl
theorem laidOut : laidOutB Try.prog = true := by kernel_rfl

set_option maxRecDepth 100000 in
theorem lifted (os : Os) (started : os.Started) (H : Type) (enc : TypeId × Value → H) :
    ReturnsInHanded {} Try.checked os 5 .any (Rows.fnEqualFoldIgnoresLetterCaseSpec.pre6 enc Try.prog Try.f5 Rows.fnEqualFoldIgnoresLetterCaseRow.domain false) (Rows.fnEqualFoldIgnoresLetterCaseSpec.post enc Try.prog Try.f5 false true false false) := by
  refine returnsInHanded_of_change (C := Try.checked) own started (by kernel_rfl) Try.func5
    (ChangeSpec.witness6 (enc := enc) (C := Try.checked) false ⟨#[], #[.string ByteArray.empty, .slice none 0 0], []⟩ 8 (by kernel_rfl) (by kernel_rfl) (by kernel_rfl) (by kernel_rfl)) ?_
  intro W base args ds gs before hval0 hW hcnd _
  have hval : ∀ (j : Nat) t v, Try.f5.params[j]? = some t → args[j]? = some v → Value.okWide Try.prog W .any base t v := hval0
  have hW' := hW
  obtain ⟨p, q, hA0, hV, rfl, hfz, hnd⟩ := hW
  have hA : DataW.TrodAll enc Try.prog W 0 (fun _ => true) true Try.f5.params.toList args.toList ds p := hA0
  rw [Try.params5] at hA hval
  obtain ⟨v0, vs0, d0, ds0, p0, q0, hargs, rfl, rfl, h0, r0⟩ := trodAll_cons hA
  obtain ⟨v1, vs1, d1, ds1, p1, q1, rfl, rfl, rfl, h1, r1⟩ := trodAll_cons r0
  obtain ⟨rfl, rfl, rfl⟩ := trodAll_nil r1
  obtain rfl : args = #[v0, v1] := by cases args; simp_all
  obtain ⟨rfl, rfl⟩ := trodVars_none hV
  obtain ⟨a0, rfl, rfl, rfl, w0⟩ := open_string Try.underlying9 (hval 0 9 v0 rfl rfl) h0
  obtain ⟨a1, len1, cap1, rfl⟩ := okWide_slice Try.underlying34 (hval 1 34 v1 rfl rfl)
  have k1 := h1
  have lt1 : ∀ x ∈ p1, x.block < W.heap.size := by obtain ⟨m, hm⟩ := k1; exact DataW.trod_lt m _ _ _ hm
  obtain ⟨B, hB⟩ : ∃ B : Nat → Bool, len1 ≤ maxLen ∧ (a1 = none → len1 = 0 ∧ cap1 = 0) ∧ VRow W a1 len1 (fun i => .bool (B i)) := by
    obtain ⟨fuel, hf⟩ := h1
    rcases open_bools Try.underlying34 Try.underlying4 (by kernel_rfl) hf with ⟨hcs, _⟩ | ⟨x, l, c, B, hcs, _, hl, hm, hx, hcell⟩
    · simp [Value.cells] at hcs
      obtain ⟨rfl, rfl, rfl⟩ := hcs
      exact ⟨fun _ => false, Nat.zero_le _, fun _ => ⟨rfl, rfl⟩, .inl rfl⟩
    · simp [Value.cells] at hcs
      obtain ⟨rfl, rfl, rfl⟩ := hcs
      refine ⟨B, Nat.le_trans hl hm, fun h => (by cases h), ?_⟩
      by_cases hz : len1 = 0
      · exact .inl hz
      · right
        obtain ⟨b, off, hx2⟩ : ∃ b off, x = ⟨b, off, none⟩ := by
          have h3 := hcell 0 (by omega)
          obtain ⟨b, off, sp⟩ := x
          cases sp with
          | none => exact ⟨b, off, rfl⟩
          | some _ =>
            exfalso
            simp only [Addr.add, World.cell?] at h3
            split at h3 <;> simp_all
        subst hx2
        have hadd : ∀ i, (⟨b, off, none⟩ : Addr).add i = ⟨b, off + i, none⟩ := fun i => by unfold Addr.add; split <;> simp_all
        refine ⟨b, off, rfl, ?_, fun i hi => by rw [← hadd]; exact hcell i (by omega)⟩
        have h3 := hcell 0 (by omega)
        rcases Nat.lt_or_ge b W.heap.size with hb | hb
        · exact hb
        · simp [hadd, World.cell?, Array.getElem?_eq_none hb] at h3
  clear hA0 hval0
  refine (ign_walk a0 a1 len1 cap1 B w0 hB.1 W hB.2.1 hB.2.2).mono fun e W' ⟨he, bel⟩ => ?_
  subst he
  exact ⟨_, rfl, _, _, _, [], _, [], hW', trodAll_mk1 (shut_bool Try.underlying4 _), (trodAll_cons_mk (shut_string Try.underlying9 w0) (trodAll_cons_mk (Below.trod laidOut (by kernel_rfl) (of_decide_eq_true (by kernel_rfl)) k1 bel lt1) trodAll_mk0)), rfl, bel.frame _, fun h => by cases h⟩

theorem over : Rows.fnEqualFoldIgnoresLetterCaseRow.holds Try.pinned (OpenSpec.ofChange Rows.fnEqualFoldIgnoresLetterCaseSpec) :=
  OpenClaim.holds_of_wide 5 Try.f5 rfl rfl rfl rfl rfl rfl rfl ⟨rfl, rfl, rfl, rfl, rfl⟩ rfl rfl rfl rfl rfl (by kernel_rfl) Try.func5 (by kernel_rfl)
    (of_decide_eq_true (by kernel_rfl)) (by unfold Func.isWrapper; first | (rw [if_pos (by decide +kernel)]; kernel_rfl) | (rw [if_neg (by decide +kernel)]; exact ⟨rfl, rfl⟩))
    (fun os started H enc _ => lifted os started H enc)

end Go.Proofs.Qxb6003357a.fnEqualFoldIgnoresLetterCase

/-- THE STATEMENT. -/
theorem Go.Proofs.Qxb6003357a.fnEqualFoldIgnoresLetterCase_proved : Go.Proofs.Qxb6003357a.Rows.FnEqualFoldIgnoresLetterCaseSaid :=
  Go.Proofs.Qxb6003357a.fnEqualFoldIgnoresLetterCase.over
