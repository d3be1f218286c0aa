import Derived.Test.Qxb6003357aFold
namespace Go.Proofs.Qxb6003357a

def isLetI (c : Int) : Bool := decide ((97 ≤ c ∧ c ≤ 122) ∨ (65 ≤ c ∧ c ≤ 90))
/-- The byte with its case swapped where it is asked for and it is a letter. -/
def flipB (m : Bool) (c : UInt8) : UInt8 := if m && isLetI (c.toNat : Int) then c ^^^ 32 else c
def flipL (n : Nat) (B : Nat → Bool) (s : ByteArray) : List UInt8 := s.data.toList.mapIdx fun i c => flipB (decide (i < n) && B i) c
def flipS (n : Nat) (B : Nat → Bool) (s : ByteArray) : ByteArray := ⟨(flipL n B s).toArray⟩

theorem lowB_flip0 : ∀ n : Fin 256, isLetI ((UInt8.ofNat n.val).toNat : Int) = true → lowB (UInt8.ofNat n.val ^^^ 32) = lowB (UInt8.ofNat n.val) := by
  decide +kernel
theorem lowB_flip (c : UInt8) (h : isLetI (c.toNat : Int) = true) : lowB (c ^^^ 32) = lowB c := by
  have hlt : c.toNat < 256 := UInt8.toNat_lt c
  have := lowB_flip0 ⟨c.toNat, hlt⟩
  simp only [UInt8.ofNat_toNat] at this
  exact this h

theorem lowB_flipB (m : Bool) (c : UInt8) : lowB (flipB m c) = lowB c := by
  unfold flipB
  split
  · rename_i h
    exact lowB_flip c (by simp at h; exact h.2)
  · rfl

theorem flipL_length (n : Nat) (B : Nat → Bool) (s : ByteArray) : (flipL n B s).length = s.size := by simp [flipL]
theorem flipS_size (n : Nat) (B : Nat → Bool) (s : ByteArray) : (flipS n B s).size = s.size := by
  show ((flipL n B s).toArray).size = _
  simp [flipL_length]
theorem map_flip (n : Nat) (B : Nat → Bool) (s : ByteArray) : (flipS n B s).data.toList.map lowB = s.data.toList.map lowB := by
  apply List.ext_getElem
  · simp [flipS, flipL]
  · intro i h1 h2
    simp [flipS, flipL, lowB_flipB]
theorem fold_flip (n : Nat) (B : Nat → Bool) (s : ByteArray) : foldEq s (flipS n B s) = true ∧ foldEq (flipS n B s) s = true := by
  unfold foldEq
  rw [map_flip]
  simp

end Go.Proofs.Qxb6003357a
