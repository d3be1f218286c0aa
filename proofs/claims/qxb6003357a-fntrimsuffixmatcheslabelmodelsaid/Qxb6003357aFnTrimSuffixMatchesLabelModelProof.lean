/-
  'Rows.FnTrimSuffixMatchesLabelModelSaid': the frame after the guide's shells (howto/shells), at two slices of strings.
-/
import Derived.Test.Qxb6003357aFnTrimSuffixMatchesLabelModelWalk
import Derived.ProofKit
import Derived.OpenShut
import Derived.ShutString
import Derived.ChangeOld
import Derived.Below
import Derived.SliceStrings
namespace Go.Proofs.Qxb6003357a.fnTrimSuffixMatchesLabelModel
open Go.ChangeShapes Go.WideShapes Go.ChangeAt Go.RowKit
open Go.ChangeMaps (open_string shut_string)
set_option linter.unusedVariables false

theorem own : ownKnob Try.prog.godebug = none := by kernel_rfl
theorem laidOut : laidOutB Try.prog = true := by kernel_rfl

/-- A slice of strings that came in, opened. -/
theorem strs_in {H : Type} {enc : TypeId × Value → H} {W : World} {a : Option Addr} {len cap : Nat} {d : DataW H} {p : List MemPlace}
    (h : DataW.Trod enc Try.prog W 0 (fun _ => true) true 41 (.slice a len cap) d p) :
    ∃ ls : List ByteArray, ls.length = len ∧ len ≤ maxLen ∧ (a = none → ls.length = 0 ∧ cap = 0) ∧ SRow W a ls ∧ ∀ i, i < ls.length → (lab ls i).size ≤ maxLen := by
  obtain ⟨fuel, hf⟩ := h
  rcases open_strings Try.underlying41 Try.underlying9 (by kernel_rfl) hf with ⟨hcs, _⟩ | ⟨x, l, c, ss, hcs, _, hl, hm, hlen, hx, hcell, hsz⟩
  · simp [Value.cells] at hcs
    obtain ⟨rfl, rfl, rfl⟩ := hcs
    exact ⟨[], rfl, Nat.zero_le _, fun _ => ⟨rfl, rfl⟩, .inl rfl, fun i hi => by simp at hi⟩
  · simp [Value.cells] at hcs
    obtain ⟨rfl, rfl, rfl⟩ := hcs
    simp only [if_true] at hlen
    have htl : (ss.take len).length = len := by rw [List.length_take]; omega
    have hlab : ∀ i, i < len → lab (ss.take len) i = ss.getD i ByteArray.empty := fun i hi => by simp [lab, List.getD, hi]
    refine ⟨ss.take len, htl, Nat.le_trans hl hm, fun h => (by cases h), ?_, fun i hi => ?_⟩
    · by_cases hz : len = 0
      · exact .inl (by rw [htl]; exact hz)
      · right
        obtain ⟨b, off, hx2⟩ : ∃ b off, x = ⟨b, off, none⟩ := by
          have h3 := hcell 0 (by omega)
          obtain ⟨b, off, sp⟩ := x
          cases sp with
          | none => exact ⟨b, off, rfl⟩
          | some _ =>
            exfalso
            simp only [Addr.add, World.cell?] at h3
            split at h3 <;> simp_all
        subst hx2
        have hadd : ∀ i, (⟨b, off, none⟩ : Addr).add i = ⟨b, off + i, none⟩ := fun i => by unfold Addr.add; split <;> simp_all
        refine ⟨b, off, rfl, ?_, fun i hi => ?_⟩
        · have h3 := hcell 0 (by omega)
          rcases Nat.lt_or_ge b W.heap.size with hb | hb
          · exact hb
          · simp [hadd, World.cell?, Array.getElem?_eq_none hb] at h3
        · rw [htl] at hi
          show W.cell? ⟨b, off + i, none⟩ = some (.string (lab (ss.take len) i))
          rw [← hadd, hlab i hi]
          exact hcell i (by omega)
    · rw [htl] at hi
      rw [hlab i hi]
      exact hsz _ (by simp [List.getD, show i < ss.length by omega])

set_option maxRecDepth 100000 in
theorem lifted (os : Os) (started : os.Started) (H : Type) (enc : TypeId × Value → H) :
    ReturnsInHanded {} Try.checked os 7 .any (Rows.fnTrimSuffixMatchesLabelModelSpec.pre6 enc Try.prog Try.f7 Rows.fnTrimSuffixMatchesLabelModelRow.domain false) (Rows.fnTrimSuffixMatchesLabelModelSpec.post enc Try.prog Try.f7 false true false false) := by
  refine returnsInHanded_of_change (C := Try.checked) own started (by kernel_rfl) Try.func7
    (ChangeSpec.witness6 (enc := enc) (C := Try.checked) false ⟨#[], #[.slice none 0 0, .slice none 0 0], []⟩ 8 (by kernel_rfl) (by kernel_rfl) (by kernel_rfl) (by kernel_rfl)) ?_
  intro W base args ds gs before hval0 hW hcnd _
  have hval : ∀ (j : Nat) t v, Try.f7.params[j]? = some t → args[j]? = some v → Value.okWide Try.prog W .any base t v := hval0
  have hW' := hW
  obtain ⟨p, q, hA0, hV, rfl, hfz, hnd⟩ := hW
  have hA : DataW.TrodAll enc Try.prog W 0 (fun _ => true) true Try.f7.params.toList args.toList ds p := hA0
  rw [Try.params7] at hA hval
  obtain ⟨v0, vs0, d0, ds0, p0, q0, hargs, rfl, rfl, h0, r0⟩ := trodAll_cons hA
  obtain ⟨v1, vs1, d1, ds1, p1, q1, rfl, rfl, rfl, h1, r1⟩ := trodAll_cons r0
  obtain ⟨rfl, rfl, rfl⟩ := trodAll_nil r1
  obtain rfl : args = #[v0, v1] := by cases args; simp_all
  obtain ⟨rfl, rfl⟩ := trodVars_none hV
  obtain ⟨a0, len0, cap0, rfl⟩ := okWide_slice Try.underlying41 (hval 0 41 v0 rfl rfl)
  obtain ⟨a1, len1, cap1, rfl⟩ := okWide_slice Try.underlying41 (hval 1 41 v1 rfl rfl)
  have lt0 : ∀ x ∈ p0, x.block < W.heap.size := by obtain ⟨m, hm⟩ := h0; exact DataW.trod_lt m _ _ _ hm
  have lt1 : ∀ x ∈ p1, x.block < W.heap.size := by obtain ⟨m, hm⟩ := h1; exact DataW.trod_lt m _ _ _ hm
  obtain ⟨nl, rfl, m0, n0, s0, z0⟩ := strs_in h0
  obtain ⟨zl, rfl, m1, n1, s1, z1⟩ := strs_in h1
  clear hA0 hval0
  refine (trimlaw_walk a0 a1 nl zl cap0 cap1 W m0 m1 s0 s1 z0 z1 n0 n1).mono fun e W' ⟨he, bel⟩ => ?_
  subst he
  exact ⟨_, rfl, _, _, _, [], _, [], hW', trodAll_mk1 (shut_bool Try.underlying4 _), (trodAll_cons_mk (Below.trod laidOut (by kernel_rfl) (of_decide_eq_true (by kernel_rfl)) h0 bel lt0) (trodAll_cons_mk (Below.trod laidOut (by kernel_rfl) (of_decide_eq_true (by kernel_rfl)) h1 bel lt1) trodAll_mk0)), rfl, bel.frame _, fun h => by cases h⟩

theorem over : Rows.fnTrimSuffixMatchesLabelModelRow.holds Try.pinned (OpenSpec.ofChange Rows.fnTrimSuffixMatchesLabelModelSpec) :=
  OpenClaim.holds_of_wide 7 Try.f7 rfl rfl rfl rfl rfl rfl rfl ⟨rfl, rfl, rfl, rfl, rfl⟩ rfl rfl rfl rfl rfl (by kernel_rfl) Try.func7 (by kernel_rfl)
    (of_decide_eq_true (by kernel_rfl)) (by unfold Func.isWrapper; first | (rw [if_pos (by decide +kernel)]; kernel_rfl) | (rw [if_neg (by decide +kernel)]; exact ⟨rfl, rfl⟩))
    (fun os started H enc _ => lifted os started H enc)

end Go.Proofs.Qxb6003357a.fnTrimSuffixMatchesLabelModel

/-- THE STATEMENT. -/
theorem Go.Proofs.Qxb6003357a.fnTrimSuffixMatchesLabelModel_proved : Go.Proofs.Qxb6003357a.Rows.FnTrimSuffixMatchesLabelModelSaid :=
  Go.Proofs.Qxb6003357a.fnTrimSuffixMatchesLabelModel.over
