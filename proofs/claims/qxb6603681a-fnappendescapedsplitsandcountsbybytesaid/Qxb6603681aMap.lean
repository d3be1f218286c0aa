import Derived.Test.Qxb6603681aBytes
import Derived.Maps.OwnSet
import Derived.Maps.StringElems
import Derived.Maps.Views
namespace Go.Proofs.Qxb6603681a
open Go.RowKit Go.Maps

abbrev Ref := Nat → Option ByteArray

/-- What the map m answers to every byte, in w. -/
def LooksAt (w : World) (m : Value) (M : Ref) : Prop := ∀ c : Nat, c < 256 → (Instr.lookup 27 m (.int .u8 (c : Int)) true).run Try.prog w = .ok (.tuple #[.string ((M c).getD ⟨#[]⟩), .bool (M c).isSome]) w

/-- .. and in every world behind. -/
def Looks (w : World) (m : Value) (M : Ref) : Prop := ∀ w', Below w.heap.size w w' → LooksAt w' m M

theorem Looks.later {w w' : World} {m : Value} {M : Ref} (h : Looks w m M) (hb : Below w.heap.size w w') : Looks w' m M :=
  fun w2 h2 => h w2 (hb.trans (h2.mono hb.size))
theorem Looks.here {w w' : World} {m : Value} {M : Ref} (h : Looks w m M) (hb : Below w.heap.size w w') {c : Nat} (hc : c < 256) : (Instr.lookup 27 m (.int .u8 (c : Int)) true).run Try.prog w' = .ok (.tuple #[.string ((M c).getD ⟨#[]⟩), .bool (M c).isSome]) w' := h w' hb c hc

def Modest (M : Ref) : Prop := ∀ c s, M c = some s → s.size ≤ maxLen

section
variable {H : Type}
def strOf : DataW H → ByteArray
  | .lit (.string l) => ⟨l.toArray⟩
  | _ => ⟨#[]⟩
def mapOf (D : DataW H) (c : Nat) : Option ByteArray := if Maps.has D (.int .u8 (c : Int)) then some (strOf (D.atKey (.int .u8 (c : Int)) (.lit (.string [])))) else none

theorem zero9 (w : World) : (zeroValue 9).run Try.prog w = .ok (.string ⟨#[]⟩) w := by kernel_rfl
theorem keyed5 : Keyed Try.prog 5 := int_keyed Try.underlying5
theorem key5 {c : Nat} (hc : c < 256) : keyOf Try.prog 5 (.int .u8 (c : Int)) = some (.int .u8 (c : Int)) :=
  keyOf_int_mk Try.underlying5 (by simp [Lit.wf, IntKind.min, IntKind.max, IntKind.bits, IntKind.signed]; omega)
theorem plain9 : plainElem (H := H) Try.prog 9 (.string ⟨#[]⟩) = some (.lit (.string []), []) := plainElem_string Try.underlying9 (s := ⟨#[]⟩) (by decide)

theorem own_at {w : World} {b n : Nat} {D : DataW H} (h : w.ownsMap Try.prog 5 (plainElem Try.prog 9) b n D) {c : Nat} (hc : c < 256) :
    (Instr.lookup 27 (.map (some b)) (.int .u8 (c : Int)) true).run Try.prog w = .ok (.tuple #[.string ((mapOf D c).getD ⟨#[]⟩), .bool (mapOf D c).isSome]) w ∧ ∀ s, mapOf D c = some s → s.size ≤ maxLen := by
  obtain ⟨v, ps, hrun, hv⟩ := h.look_ok keyed5 Try.underlying27 (zero9 w) plain9 (key5 hc)
  obtain ⟨s, rfl, hz, hs⟩ := plainElem_string_inv Try.underlying9 hv
  simp only [Prod.mk.injEq] at hz
  rw [hrun]
  by_cases hh : Maps.has D (.int .u8 (c : Int)) = true
  · have e : mapOf D c = some s := by unfold mapOf; rw [if_pos hh, hz.1]; rfl
    rw [e, hh]
    exact ⟨rfl, fun s' h' => by cases h'; exact hs⟩
  · have hf : Maps.has D (.int .u8 (c : Int)) = false := by simpa using hh
    have e : mapOf D c = none := by unfold mapOf; rw [if_neg hh]
    have hs0 := hz.1
    rw [Maps.atKey_of_not_has hf] at hs0
    have : s = ⟨#[]⟩ := by
      obtain ⟨⟨l⟩⟩ := s
      simp at hs0
      rw [← hs0]
    rw [e, hf, this]
    exact ⟨rfl, fun s' h' => by cases h'⟩

theorem own_later {w w' : World} {b n : Nat} {D : DataW H} (h : w.ownsMap Try.prog 5 (plainElem Try.prog 9) b n D) (hb : Below w.heap.size w w') : w'.ownsMap Try.prog 5 (plainElem Try.prog 9) b n D := by
  have hlt := h.lt
  obtain ⟨es, clock, he, F, hs, hD⟩ := h
  exact ⟨es, clock, (hb.block b hlt).trans he, F, hs, hD⟩

theorem own_looks {w : World} {b n : Nat} {D : DataW H} (h : w.ownsMap Try.prog 5 (plainElem Try.prog 9) b n D) : Looks w (.map (some b)) (mapOf D) :=
  fun _ hb _ hc => (own_at (own_later h hb) hc).1
theorem nil_looks (w : World) : Looks w (.map none) (fun _ => none) := fun w' _ _ hc => Maps.look_nil true keyed5 Try.underlying27 (zero9 w') (key5 hc)
end

/-- The sizes as the program caps them. -/
def cap (M : Ref) (c : Nat) : Nat := min ((M c).getD ⟨#[]⟩).size 1048577

def SizePost (w : World) (M : Ref) (e : Ending) (w' : World) : Prop :=
  ∃ T L : Nat, e = .returned (.tuple #[.int .i64 T, .int .i64 L]) ∧ T ≤ 268435712 ∧ L ≤ 1048577 ∧ (∀ c, c < 256 → cap M c ≤ T ∧ cap M c ≤ L) ∧ Below w.heap.size w w'

theorem sizePost_iff {w : World} {M : Ref} {e : Ending} {w' : World} (h : ∃ T L : Nat, e = .returned (.tuple #[.int .i64 T, .int .i64 L]) ∧ T ≤ 268435712 ∧ L ≤ 1048577 ∧ (∀ c, c < 256 → cap M c ≤ T ∧ cap M c ≤ L) ∧ Below w.heap.size w w') : SizePost w M e w' := h

set_option maxHeartbeats 1000000 in
theorem size_any (m : Value) (M : Ref) (w : World) (hM : Modest M) (hl : Looks w m M) : Calls Try.prog 16 #[m] w (SizePost w M) := by
  have HL := hide hl
  have HM := hide hM
  clear hl hM
  go_enter Try.func16, Try.ntmps16
  go_wp2
  go_loopw [4, 5, 6] (fun t l i wr => ∃ k T L : Nat, k ≤ 256 ∧ i = .int .i64 k ∧ t = .int .i64 T ∧ l = .int .i64 L ∧ Hid (T ≤ k * 1048577) ∧ L ≤ 1048577 ∧ Hid (∀ c, c < k → cap M c ≤ T ∧ cap M c ≤ L) ∧ Hid (Below w.heap.size w wr)) (fun _ _ i _ => 256 - (intOf i).toNat)
  case atStart => exact ⟨0, 0, 0, by omega, rfl, rfl, rfl, Nat.zero_le _, by omega, fun c h => by omega, Below.refl _ _⟩
  case round =>
    obtain ⟨k, T, L, hk, rfl, rfl, rfl, hT, hL, HC, HB⟩ := hrel
    have hT' : T ≤ 268435712 := Nat.le_trans hT.out (Nat.mul_le_mul_right 1048577 hk)
    by_cases hlt : k < 256
    · have HT1 : ∀ x : Nat, x ≤ 1048577 → Hid (T + x ≤ (k + 1) * 1048577) := fun x hx => by show T + x ≤ _; rw [Nat.add_mul]; have := hT.out; omega
      have hlook := HL.out.here HB.out hlt
      have hmod : ∀ s, M k = some s → s.size ≤ maxLen := HM.out k
      have HK : Hid (cap M k = min ((M k).getD ⟨#[]⟩).size 1048577) := rfl
      cases hq : M k with
      | none =>
        rw [hq] at hlook HK
        simp only [Option.getD_none, Option.isSome_none] at hlook HK
        have HZ : Hid (cap M k = 0) := by show cap M k = 0; rw [HK.out]; rfl
        clear hmod hq HK
        have hi : (k : Int) < 256 := by omega
        go_wp2
        go_roundw
        case rel =>
          refine ⟨k + 1, T, L, by omega, by go_num, rfl, rfl, (HT1 0 (by omega)).out, hL, fun c hc => ?_, HB.out⟩
          by_cases e : c = k
          · subst e; rw [HZ.out]; omega
          · exact HC.out c (by omega)
        case measure => simp [intOf]; omega
      | some s =>
        rw [hq] at hlook HK
        simp only [Option.getD_some, Option.isSome_some] at hlook HK
        have hs : s.size ≤ maxLen := hmod s hq
        unfold maxLen at hs
        clear hmod hq
        have hi : (k : Int) < 256 := by omega
        by_cases hb : s.size > 1048576
        · have HZ : Hid (cap M k = 1048577) := by show cap M k = _; rw [HK.out]; omega
          have hb' : (s.size : Int) > 1048576 := by omega
          by_cases hg : L < 1048577
          · have hg' : (1048577 : Int) > (L : Int) := by omega
            go_wp2
            go_roundw
            case rel =>
              refine ⟨k + 1, T + 1048577, 1048577, by omega, by go_num, by go_num, by go_num, (HT1 _ (by omega)).out, by omega, fun c hc => ?_, HB.out⟩
              by_cases e : c = k
              · subst e; rw [HZ.out]; omega
              · have := HC.out c (by omega); omega
            case measure => simp [intOf]; omega
          · have hg' : ¬ (1048577 : Int) > (L : Int) := by omega
            go_wp2
            go_roundw
            case rel =>
              refine ⟨k + 1, T + 1048577, L, by omega, by go_num, by go_num, by go_num, (HT1 _ (by omega)).out, by omega, fun c hc => ?_, HB.out⟩
              by_cases e : c = k
              · subst e; rw [HZ.out]; omega
              · have := HC.out c (by omega); omega
            case measure => simp [intOf]; omega
        · have HZ : Hid (cap M k = s.size) := by show cap M k = _; rw [HK.out]; omega
          have hb' : ¬ (s.size : Int) > 1048576 := by omega
          by_cases hg : L < s.size
          · have hg' : (s.size : Int) > (L : Int) := by omega
            go_wp2
            go_roundw
            case rel =>
              refine ⟨k + 1, T + s.size, s.size, by omega, by go_num, by go_num, by go_num, (HT1 _ (by omega)).out, by omega, fun c hc => ?_, HB.out⟩
              by_cases e : c = k
              · subst e; rw [HZ.out]; omega
              · have := HC.out c (by omega); omega
            case measure => simp [intOf]; omega
          · have hg' : ¬ (s.size : Int) > (L : Int) := by omega
            go_wp2
            go_roundw
            case rel =>
              refine ⟨k + 1, T + s.size, L, by omega, by go_num, by go_num, by go_num, (HT1 _ (by omega)).out, by omega, fun c hc => ?_, HB.out⟩
              by_cases e : c = k
              · subst e; rw [HZ.out]; omega
              · have := HC.out c (by omega); omega
            case measure => simp [intOf]; omega
    · have HF : Hid (∀ c, c < 256 → cap M c ≤ T ∧ cap M c ≤ L) := fun c hc => HC.out c (by omega)
      have HT2 := hide hT'
      clear hT' hT
      obtain rfl : k = 256 := by omega
      go_wp2
      go_ret2
      exact ⟨T, L, rfl, HT2.out, hL, HF.out, HB.out⟩

end Go.Proofs.Qxb6603681a
