import Derived.Test.Qxb6003357aRows
import Derived.Test.Qxb6003357aLater
import Derived.WalkKit
import Derived.WalkSpells
import Derived.WalkLawsBesides
import Derived.Deep.QuietTactic
import Derived.BigQuiet
import Derived.Outline
namespace Go.Proofs.Qxb6003357a
open Go.RowKit

/-- Go's 'lower', as a number. -/
def lowI (c : Int) : Int := if 65 ≤ c ∧ c ≤ 90 then c + 32 else c
def lowB (c : UInt8) : Int := lowI (c.toNat : Int)
def foldEq (a b : ByteArray) : Bool := a.data.toList.map lowB == b.data.toList.map lowB

theorem lowI_yes {c : Int} (h : 65 ≤ c) (h' : c ≤ 90) : lowI c = c + 32 := by unfold lowI; rw [if_pos ⟨h, h'⟩]
theorem lowI_no {c : Int} (h : ¬ (65 ≤ c ∧ c ≤ 90)) : lowI c = c := by unfold lowI; rw [if_neg h]

theorem ret_int {k : IntKind} {a b : Int} (h : a = b) : Ending.returned (.int k a) = .returned (.int k b) := by rw [h]
theorem ret_bool {a b : Bool} (h : a = b) : Ending.returned (.bool a) = .returned (.bool b) := by rw [h]

set_option maxHeartbeats 400000 in
theorem lower_any (c : Int) (w : World) (h0 : 0 ≤ c) (h1 : c ≤ 255) :
    Calls Try.prog 30 #[.int .u8 c] w fun e w' => e = .returned (.int .u8 (lowI c)) ∧ w' = w := by
  by_cases ha : 65 ≤ c
  · by_cases hb : c ≤ 90
    · go_enter Try.func30, Try.ntmps30
      go_wp2
      go_ret
      exact ⟨ret_int (by rw [lowI_yes ha hb]; omega), rfl⟩
    · go_enter Try.func30, Try.ntmps30
      go_wp2
      go_ret
      exact ⟨ret_int (by rw [lowI_no (by omega)]), rfl⟩
  · go_enter Try.func30, Try.ntmps30
    go_wp2
    go_ret
    exact ⟨ret_int (by rw [lowI_no (by omega)]), rfl⟩

set_option maxHeartbeats 400000 in
theorem name_any (a : ByteArray) (w : World) :
    Calls Try.prog 12 #[.string a] w fun e w' => e = .returned (.agg #[.string a]) ∧ w' = w.alloc (.cells #[.string a] 31) := by
  go_enter Try.func12, Try.ntmps12
  go_wp2
  exact bodyPost_ret (v := .agg #[.string a]) (by simp [results, Try.results12, go_sem]) rfl ⟨rfl, rfl⟩

theorem foldEq_size {a b : ByteArray} (h : foldEq a b = true) : a.size = b.size := by
  have := congrArg List.length (eq_of_beq h)
  simpa using this
theorem foldEq_at {a b : ByteArray} (h : foldEq a b = true) (k : Nat) (ha : k < a.size) (hb : k < b.size) : lowB a[k] = lowB b[k] := by
  have h1 := eq_of_beq h
  have h2 : (a.data.toList.map lowB)[k]? = (b.data.toList.map lowB)[k]? := by rw [h1]
  simp only [List.getElem?_map] at h2
  rw [List.getElem?_eq_getElem (by simpa using ha), List.getElem?_eq_getElem (by simpa using hb)] at h2
  exact Option.some.inj h2
theorem foldEq_mk {a b : ByteArray} (hs : a.size = b.size) (h : ∀ k (ha : k < a.size) (hb : k < b.size), lowB a[k] = lowB b[k]) : foldEq a b = true := by
  unfold foldEq
  rw [beq_iff_eq]
  apply List.ext_getElem (by simpa using hs)
  intro i h1 h2
  simp only [List.length_map] at h1 h2
  simp only [List.getElem_map]
  exact h i (by simpa using h1) (by simpa using h2)

attribute [local go_sem] later_cell later_frozen later_size later_tape

set_option maxHeartbeats 1000000 in
theorem fold_any (a b : ByteArray) (w : World) (ha : a.size ≤ maxLen) (_hb : b.size ≤ maxLen) :
    Calls Try.prog 13 #[.agg #[.string a], .agg #[.string b]] w fun e w' => e = .returned (.bool (foldEq a b)) ∧ Below w.heap.size w w' := by
  unfold maxLen at ha _hb
  by_cases hs : a.size = b.size
  · have hs' : ((a.size : Int) != (b.size : Int)) = false := by simp [hs]
    have Hs : Hid (a.size = b.size) := hs
    have hsi : b.size ≤ a.size ∧ a.size ≤ b.size := by omega
    obtain ⟨hs1, hs2⟩ := hsi
    clear hs
    go_enter Try.func13, Try.ntmps13
    go_wp2
    go_loopw [5] (fun i wr => ∃ k : Nat, k ≤ a.size ∧ i = .int .i64 k ∧ (∀ j (h1 : j < a.size) (h2 : j < b.size), j < k → lowB a[j] = lowB b[j]) ∧ Below w.heap.size w wr ∧ wr.cell? ⟨w.heap.size, 0, none⟩ = some (.string a) ∧ wr.cell? ⟨w.heap.size + 1, 0, none⟩ = some (.string b)) (fun i _ => a.size - (intOf i).toNat)
    case atStart => exact ⟨0, Nat.zero_le _, rfl, fun _ _ _ h => by omega, ((Below.refl _ _).alloc (Nat.le_refl _) _).alloc (by simp) _, by go_simp, by go_simp⟩
    case round =>
      obtain ⟨k, hk, rfl, hpre, hbel, hca, hcb⟩ := hrel
      have HP : Hid (∀ j (h1 : j < a.size) (h2 : j < b.size), j < k → lowB a[j] = lowB b[j]) := hpre
      have HB : Hid (Below w.heap.size w wr) := hbel
      clear hpre hbel
      by_cases hlt : k < a.size
      · have hlt2 : k < b.size := by omega
        have hi1 : (k : Int) < (a.size : Int) := by omega
        have hi2 : (k : Int) < (b.size : Int) := by omega
        go_wp2
        go_quiet ((go_at_call 30; exact Calls.quiet_of_same (lower_any _ _ (by omega) (by have := UInt8.toNat_lt a[k]; have := UInt8.toNat_lt b[k]; omega))))
        cases hq : (lowI (a[k].toNat : Int) != lowI (b[k].toNat : Int))
        · have Hq : Hid (lowB a[k] = lowB b[k]) := by show lowB a[k] = lowB b[k]; simpa [lowB] using hq
          go_wp2
          go_roundw
          case rel =>
            refine ⟨k + 1, by omega, by go_num, ?_, below_drewN HB.out nq, by simpa using hca, by simpa using hcb⟩
            intro j h1 h2 h3
            by_cases hj : j = k
            · subst hj; exact Hq.out
            · exact HP.out j h1 h2 (by omega)
          case measure => simp [intOf]; omega
        · have Hq : Hid (foldEq a b = false) := by
            cases h : foldEq a b
            · exact rfl
            · have := foldEq_at h k hlt hlt2
              simp [lowB] at this
              simp [this] at hq
          go_wp2
          go_ret
          exact ⟨ret_bool Hq.out.symm, below_drewN HB.out nq⟩
      · go_wp2
        go_ret
        refine ⟨ret_bool ?_, HB.out⟩
        exact (foldEq_mk Hs.out (fun j h1 h2 => HP.out j h1 h2 (by omega))).symm
  · have hs' : ((a.size : Int) != (b.size : Int)) = true := by simp; omega
    have HF : Hid (foldEq a b = false) := by
      cases h : foldEq a b
      · exact rfl
      · exact absurd (foldEq_size h) hs
    clear hs
    go_enter Try.func13, Try.ntmps13
    go_wp2
    go_ret
    exact ⟨ret_bool HF.out.symm, ((Below.refl _ _).alloc (Nat.le_refl _) _).alloc (by simp) _⟩

end Go.Proofs.Qxb6003357a
