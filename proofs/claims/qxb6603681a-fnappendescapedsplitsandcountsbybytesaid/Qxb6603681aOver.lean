import Derived.Test.Qxb6603681aMap
namespace Go.Proofs.Qxb6603681a
open Go.RowKit Go.Maps

/-- What the guard lets through. -/
def Fine (n : Nat) (s : ByteArray) (M : Ref) : Prop :=
  n + s.size ≤ 1048576 ∧ ∃ L, L ≤ 1048576 ∧ (∀ c, c < 256 → ((M c).getD ⟨#[]⟩).size ≤ L) ∧ s.size * L ≤ 4194304

def OverPost (n : Nat) (s : ByteArray) (M : Ref) (w : World) (e : Ending) (w' : World) : Prop :=
  ((e = .returned (.bool true)) ∨ (e = .returned (.bool false) ∧ Fine n s M)) ∧ Below w.heap.size w w'

theorem fine_mk {n T L : Nat} {s : ByteArray} {M : Ref} (hc : ∀ c, c < 256 → cap M c ≤ T ∧ cap M c ≤ L) (hs : n + s.size + T ≤ 1048576) (hL : L ≤ 1048577) (hq : L = 0 ∨ s.size ≤ 4194304 / L) : Fine n s M := by
  refine ⟨by omega, min L 1048576, by omega, fun c hcc => ?_, ?_⟩
  · have := hc c hcc
    unfold cap at this
    omega
  · rcases hq with rfl | hq
    · simp
    · by_cases h0 : L = 0
      · subst h0; simp
      · have h1 : s.size * L ≤ 4194304 := (Nat.le_div_iff_mul_le (by omega)).1 hq
        exact Nat.le_trans (Nat.mul_le_mul_left _ (Nat.min_le_left _ _)) h1

set_option maxHeartbeats 1000000 in
theorem over_any (a : Option Addr) (n c : Nat) (s : ByteArray) (m : Value) (M : Ref) (w : World) (hn : n ≤ maxLen) (hs : s.size ≤ maxLen) (hM : Modest M) (hl : Looks w m M) :
    Calls Try.prog 11 #[.slice a n c, .string s, m] w (OverPost n s M w) := by
  have HH := hide (And.intro hM hl)
  clear hM hl
  unfold maxLen at hn hs
  by_cases h1 : (n : Int) > 1048576
  · go_enter Try.func11, Try.ntmps11
    go_wp2
    go_ret
    exact ⟨.inl rfl, Below.refl _ _⟩
  by_cases h2 : (s.size : Int) > 1048576
  · go_enter Try.func11, Try.ntmps11
    go_wp2
    go_ret
    exact ⟨.inl rfl, Below.refl _ _⟩
  go_enter Try.func11, Try.ntmps11
  go_wp2_with fail
  refine (size_any m M _ HH.out.1 HH.out.2).mono ?_
  rintro e w1 ⟨T, L, rfl, hT, hL, hc, hb⟩
  have HB := hide hb
  have HC := hide hc
  clear hb hc
  by_cases h3 : (n : Int) + s.size + T > 1048576
  · go_wp2
    go_ret
    exact ⟨.inl rfl, HB.out⟩
  by_cases h4 : (L : Int) > 0
  · have h5 : (L : Int) ≠ 0 := by omega
    have hq : Int.tdiv 4194304 (L : Int) = ((4194304 / L : Nat) : Int) := rfl
    have hq2 : 4194304 / L ≤ 4194304 := Nat.div_le_self _ _
    obtain ⟨q, hqq⟩ : ∃ q, q = 4194304 / L := ⟨_, rfl⟩
    rw [← hqq] at hq hq2
    have HQ := hide hqq
    clear hqq
    by_cases h6 : (s.size : Int) > q
    · go_wp2
      go_ret
      exact ⟨.inl rfl, HB.out⟩
    · have HF : Hid (Fine n s M) := fine_mk HC.out (by omega) hL (.inr (by rw [← HQ.out]; omega))
      go_wp2
      go_ret
      exact ⟨.inr ⟨ret_bool (a := decide (q < s.size)) (by simp; omega), HF.out⟩, HB.out⟩
  · have HF : Hid (Fine n s M) := fine_mk HC.out (by omega) hL (.inl (by omega))
    go_wp2
    go_ret
    exact ⟨.inr ⟨rfl, HF.out⟩, HB.out⟩

end Go.Proofs.Qxb6603681a
