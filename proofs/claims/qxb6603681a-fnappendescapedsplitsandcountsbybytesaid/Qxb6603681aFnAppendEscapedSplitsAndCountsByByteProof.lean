/-
  'Rows.FnAppendEscapedSplitsAndCountsByByteSaid': the frame after the guide's shells (howto/shells), at a slice of bytes, a string, a map from bytes to strings and an int.
-/
import Derived.Test.Qxb6603681aWalk
import Derived.ProofKit
import Derived.OpenShut
import Derived.ShutString
import Derived.ChangeOld
import Derived.Below
namespace Go.Proofs.Qxb6603681a.fnAppendEscapedSplitsAndCountsByByte
open Go.ChangeShapes Go.WideShapes Go.ChangeAt Go.RowKit Go.WideElems Go.Maps
open Go.ChangeMaps (open_string shut_string)

theorem own : ownKnob Try.prog.godebug = none := by kernel_rfl
theorem laidOut : laidOutB Try.prog = true := by kernel_rfl

/-- The slice that came in, as bytes. -/
theorem bytes_in {H : Type} {enc : TypeId × Value → H} {W : World} {a : Option Addr} {len cap : Nat} {d : DataW H} {ps : List MemPlace} (h : DataW.Trod enc Try.prog W 0 (fun _ => true) true 22 (.slice a len cap) d ps) :
    ∃ L : List UInt8, len = L.length ∧ L.length ≤ maxLen ∧ (a = none → L.length = 0 ∧ cap = 0) ∧ BRow W a L := by
  obtain ⟨fuel, hf⟩ := h
  rcases open_ints Try.underlying22 Try.underlying5 (by kernel_rfl) hf with ⟨hcs, _⟩ | ⟨x, l, c, zs, hcs, _, hl, hm, hz, _, hcell, hwf⟩
  · simp [Value.cells] at hcs
    obtain ⟨rfl, rfl, rfl⟩ := hcs
    exact ⟨[], rfl, Nat.zero_le _, fun _ => ⟨rfl, rfl⟩, .inl rfl⟩
  · simp [Value.cells] at hcs
    obtain ⟨rfl, rfl, rfl⟩ := hcs
    simp only [if_true] at hz
    have hL : ((zs.take len).map fun z => UInt8.ofNat z.toNat).length = len := by simp; omega
    refine ⟨(zs.take len).map fun z => UInt8.ofNat z.toNat, hL.symm, by omega, fun h => (by cases h), ?_⟩
    by_cases h0 : len = 0
    · exact .inl (by omega)
    · right
      obtain ⟨b, off, hx2⟩ : ∃ b off, x = ⟨b, off, none⟩ := by
        have h3 := hcell 0 (by omega)
        obtain ⟨b, off, sp⟩ := x
        cases sp with
        | none => exact ⟨b, off, rfl⟩
        | some _ =>
          exfalso
          simp only [Addr.add, World.cell?] at h3
          split at h3 <;> simp_all
      subst hx2
      have hadd : ∀ i, (⟨b, off, none⟩ : Addr).add i = ⟨b, off + i, none⟩ := fun i => by unfold Addr.add; split <;> simp_all
      refine ⟨b, off, rfl, ?_, fun i hi => ?_⟩
      · have h3 := hcell 0 (by omega)
        rcases Nat.lt_or_ge b W.heap.size with hb | hb
        · exact hb
        · simp [hadd, World.cell?, Array.getElem?_eq_none hb] at h3
      · rw [hL] at hi
        have hiz : i < zs.length := by omega
        rw [← hadd, hcell i hiz]
        have hw := bounds_u8 (hwf zs[i] (List.getElem_mem hiz))
        have e : ((UInt8.ofNat zs[i].toNat).toNat : Int) = zs[i] := by
          rw [UInt8.toNat_ofNat']
          omega
        simp [bt, List.getD, hi, hiz]
        omega

/-- The map that came in, as what it answers to a byte. -/
theorem map_in {H : Type} {enc : TypeId × Value → H} {W : World} {x : Option Nat} {d : DataW H} {ps : List MemPlace} (h : DataW.Trod enc Try.prog W 0 (fun _ => true) true 27 (.map x) d ps) :
    ∃ M : Ref, Modest M ∧ Looks W (.map x) M ∧ (x = none → ∀ c, c < 256 → M c = none) := by
  obtain ⟨fuel, hf⟩ := h
  rcases open_map Try.underlying27 hf with ⟨hcs, _⟩ | ⟨bm, es, clock, m, rfl, hcs, hb, _, F, _⟩
  · simp [Value.cells] at hcs
    subst hcs
    exact ⟨fun _ => none, fun c s h => (by cases h), nil_looks W, fun _ _ _ => rfl⟩
  · simp [Value.cells] at hcs
    subst hcs
    have hown := World.ownsMap_of_fit (R := plainElem Try.prog 9) hb F (fun _ _ _ hz => elemAt_plainElem_string Try.underlying9 hz)
    generalize hD : (DataW.map ((es.toList.map (rg Try.prog 5 (elemAt enc Try.prog W 0 (fun _ => true) true m 9))).foldr DataW.insert [])) = D at hown
    refine ⟨fun c => if c < 256 then mapOf D c else none, fun c s h => ?_, fun w' hw' c hc => ?_, fun h => (by cases h)⟩
    · simp only at h
      by_cases hc : c < 256
      · rw [if_pos hc] at h
        exact (own_at hown hc).2 s h
      · rw [if_neg hc] at h; cases h
    · simp only [if_pos hc]
      exact own_looks hown w' hw' c hc

set_option maxRecDepth 100000 in
theorem lifted (os : Os) (started : os.Started) (H : Type) (enc : TypeId × Value → H) :
    ReturnsInHanded {} Try.checked os 5 .any (Rows.fnAppendEscapedSplitsAndCountsByByteSpec.pre6 enc Try.prog Try.f5 Rows.fnAppendEscapedSplitsAndCountsByByteRow.domain false) (Rows.fnAppendEscapedSplitsAndCountsByByteSpec.post enc Try.prog Try.f5 false true false false) := by
  refine returnsInHanded_of_change (C := Try.checked) own started (by kernel_rfl) Try.func5
    (ChangeSpec.witness6 (enc := enc) (C := Try.checked) false ⟨#[], #[.slice none 0 0, .string ByteArray.empty, .map none, .int .i64 0], []⟩ 8 (by kernel_rfl) (by kernel_rfl) (by kernel_rfl) (by kernel_rfl)) ?_
  intro W base args ds gs before hval0 hW hcnd _
  have hval : ∀ (j : Nat) t v, Try.f5.params[j]? = some t → args[j]? = some v → Value.okWide Try.prog W .any base t v := hval0
  have hW' := hW
  obtain ⟨p, q, hA0, hV, rfl, hfz, hnd⟩ := hW
  have hA : DataW.TrodAll enc Try.prog W 0 (fun _ => true) true Try.f5.params.toList args.toList ds p := hA0
  rw [Try.params5] at hA hval
  obtain ⟨v0, vs0, d0, ds0, p0, q0, hargs, rfl, rfl, h0, r0⟩ := trodAll_cons hA
  obtain ⟨v1, vs1, d1, ds1, p1, q1, rfl, rfl, rfl, h1, r1⟩ := trodAll_cons r0
  obtain ⟨v2, vs2, d2, ds2, p2, q2, rfl, rfl, rfl, h2, r2⟩ := trodAll_cons r1
  obtain ⟨v3, vs3, d3, ds3, p3, q3, rfl, rfl, rfl, h3, r3⟩ := trodAll_cons r2
  obtain ⟨rfl, rfl, rfl⟩ := trodAll_nil r3
  obtain rfl : args = #[v0, v1, v2, v3] := by cases args; simp_all
  obtain ⟨rfl, rfl⟩ := trodVars_none hV
  obtain ⟨a0, len0, cap0, rfl⟩ := okWide_slice Try.underlying22 (hval 0 22 v0 rfl rfl)
  obtain ⟨a1, rfl, rfl, rfl, w1⟩ := open_string Try.underlying9 (hval 1 9 v1 rfl rfl) h1
  obtain ⟨a2, rfl⟩ := okWide_map Try.underlying27 (hval 2 27 v2 rfl rfl)
  obtain ⟨a3, rfl, rfl, rfl, w3⟩ := open_int Try.underlying3 (hval 3 3 v3 rfl rfl) h3
  have lt0 : ∀ x ∈ p0, x.block < W.heap.size := by obtain ⟨m, hm⟩ := h0; exact DataW.trod_lt m _ _ _ hm
  have lt2 : ∀ x ∈ p2, x.block < W.heap.size := by obtain ⟨m, hm⟩ := h2; exact DataW.trod_lt m _ _ _ hm
  obtain ⟨L, rfl, hL, hnil, hrow⟩ := bytes_in h0
  obtain ⟨M, hM, hlook, hnone⟩ := map_in h2
  clear hA0 hval0
  refine (law_walk a0 L cap0 a1 a2 M a3 W hL w1 hnil hrow hM hlook hnone).mono fun e W' ⟨he, bel⟩ => ?_
  subst he
  exact ⟨_, rfl, _, _, _, [], _, [], hW', trodAll_mk1 (shut_bool Try.underlying4 _), (trodAll_cons_mk (Below.trod laidOut (by kernel_rfl) (of_decide_eq_true (by kernel_rfl)) h0 bel lt0) (trodAll_cons_mk (shut_string Try.underlying9 w1) (trodAll_cons_mk (Below.trod laidOut (by kernel_rfl) (of_decide_eq_true (by kernel_rfl)) h2 bel lt2) (trodAll_cons_mk (shut_int Try.underlying3 w3) trodAll_mk0)))), rfl, bel.frame _, fun h => by cases h⟩

theorem over : Rows.fnAppendEscapedSplitsAndCountsByByteRow.holds Try.pinned (OpenSpec.ofChange Rows.fnAppendEscapedSplitsAndCountsByByteSpec) :=
  OpenClaim.holds_of_wide 5 Try.f5 rfl rfl rfl rfl rfl rfl rfl ⟨rfl, rfl, rfl, rfl, rfl⟩ rfl rfl rfl rfl rfl (by kernel_rfl) Try.func5 (by kernel_rfl)
    (of_decide_eq_true (by kernel_rfl)) (by unfold Func.isWrapper; first | (rw [if_pos (by decide +kernel)]; kernel_rfl) | (rw [if_neg (by decide +kernel)]; exact ⟨rfl, rfl⟩))
    (fun os started H enc _ => lifted os started H enc)

end Go.Proofs.Qxb6603681a.fnAppendEscapedSplitsAndCountsByByte

/-- THE STATEMENT. -/
theorem Go.Proofs.Qxb6603681a.fnAppendEscapedSplitsAndCountsByByte_proved : Go.Proofs.Qxb6603681a.Rows.FnAppendEscapedSplitsAndCountsByByteSaid :=
  Go.Proofs.Qxb6603681a.fnAppendEscapedSplitsAndCountsByByte.over
