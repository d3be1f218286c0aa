import Derived.Test.Qxb6603507aWidth
namespace Go.Proofs.Qxb6603507a
open Go.RowKit

set_option maxHeartbeats 400000 in
theorem zb4_yes (s : ByteArray) (w : World) (h : s.size ≤ 1048576) :
    Calls Try.prog 4 #[.string s] w fun e w' => e = .returned (.bool true) ∧ w' = w := by
  have h1 : ¬ (1048576 : Int) < s.size := by omega
  go_enter Try.func4, Try.ntmps4
  go_wp2
  go_ret
  exact ⟨rfl, rfl⟩

set_option maxHeartbeats 400000 in
theorem zb4_no (s : ByteArray) (w : World) (h : ¬ s.size ≤ 1048576) :
    Calls Try.prog 4 #[.string s] w fun e w' => e = .returned (.bool false) ∧ w' = w := by
  have h1 : (1048576 : Int) < s.size := by omega
  go_enter Try.func4, Try.ntmps4
  go_wp2
  go_ret
  exact ⟨rfl, rfl⟩

set_option maxHeartbeats 1000000 in
theorem cut_any (s : ByteArray) (w : World) (hs : s.size ≤ 1048576) :
    Calls Try.prog 6 #[.string s, .int .i64 64] w fun e w' => e = .returned (.int .i64 (pos s 64)) ∧ w' = w := by
  go_enter Try.func6, Try.ntmps6
  go_wp2
  go_loop [5, 6] (fun n i => ∃ k p : Nat, k ≤ 64 ∧ n = .int .i64 k ∧ i = .int .i64 p ∧ p ≤ s.size ∧ Hid (p = pos s k)) (fun n _ => 64 - (intOf n).toNat)
  case atStart => exact ⟨0, 0, by omega, rfl, rfl, Nat.zero_le _, rfl⟩
  case round =>
    obtain ⟨k, p, hk, rfl, rfl, hp, HP⟩ := hrel
    by_cases h1 : p < s.size
    · by_cases h2 : k < 64
      · have q1 : (p : Int) < (s.size : Int) := by omega
        have q2 : (k : Int) < 64 := by omega
        have hw4 := wid_le4 s p
        have hwl := wid_le s p h1
        have HN : Hid (p + wid s p = pos s (k + 1)) := by
          show p + wid s p = _
          rw [pos_next s k (by rw [← HP.out]; exact h1), ← HP.out]
        go_wp2_with (go_at_call 8; refine (width_any _ _ _ h1 hs).mono ?_; rintro e w0 ⟨rfl, hw0⟩; cases hw0)
        go_round
        case rel => exact ⟨k + 1, p + wid s p, by omega, by go_num, by go_num, hwl, HN.out⟩
        case measure => simp [intOf]; omega
      · have q1 : (p : Int) < (s.size : Int) := by omega
        have q2 : ¬ (k : Int) < 64 := by omega
        go_wp2
        go_ret
        refine ⟨ret_int ?_, rfl⟩
        rw [HP.out, show k = 64 by omega]
    · have q1 : ¬ (p : Int) < (s.size : Int) := by omega
      go_wp2
      go_ret
      refine ⟨ret_int ?_, rfl⟩
      rw [pos_stay s k (by rw [← HP.out]; omega) 64 hk, HP.out]

/-- What split answers. -/
def SplitPost (s : ByteArray) (e : Ending) : Prop :=
  (pos s 64 < s.size ∧ e = .returned (.tuple #[.string (s.extract 0 (pos s 64)), .bool true])) ∨ (pos s 64 = s.size ∧ e = .returned (.tuple #[.string s, .bool false]))

set_option maxHeartbeats 1000000 in
theorem split7_any (s : ByteArray) (w : World) (_hs : s.size ≤ 1048576) :
    Calls Try.prog 7 #[.string s] w fun e w' => SplitPost s e ∧ Below w.heap.size w w' := by
  go_enter Try.func7, Try.ntmps7
  go_wp2
  go_loopw [4] (fun n wr => ∃ k p : Nat, k ≤ 64 ∧ n = .int .i64 k ∧ p ≤ s.size ∧ Hid (p = pos s k) ∧ wr = w.iter s p) (fun n _ => 65 - (intOf n).toNat)
  case atStart => exact ⟨0, 0, by omega, rfl, Nat.zero_le _, rfl, rfl⟩
  case round =>
    obtain ⟨k, p, hk, rfl, hp, HP, rfl⟩ := hrel
    have HB : ∀ q, Hid (Below w.heap.size w (w.iter s q)) := fun q => (Below.refl _ _).alloc (Nat.le_refl _) _
    by_cases h1 : p < s.size
    · have hnx := fun ty => run_next_any (P := Try.prog) w s p ty h1
      have q1 : (p : Int) ≤ (s.size : Int) := by omega
      by_cases h2 : k = 64
      · subst h2
        have HR : Hid (SplitPost s (.returned (.tuple #[.string (s.extract 0 p), .bool true]))) := .inl ⟨by rw [← HP.out]; exact h1, by rw [← HP.out]⟩
        go_wp2
        go_ret2
        exact ⟨HR.out, (HB _).out⟩
      · have q2 : ((k : Int) == 64) = false := by simp; omega
        have HN : Hid (p + (Utf8.decode s p).2 = pos s (k + 1)) := by
          show p + wid s p = _
          rw [pos_next s k (by rw [← HP.out]; exact h1), ← HP.out]
        have hwl : p + (Utf8.decode s p).2 ≤ s.size := wid_le s p h1
        have hk2 : k < 64 := by omega
        clear h2
        go_wp2
        go_roundw
        case rel => exact ⟨k + 1, p + (Utf8.decode s p).2, by omega, by go_num, hwl, HN.out, rfl⟩
        case measure => simp [intOf]; omega
    · have hnx := fun ty => run_next_end (P := Try.prog) w s p ty h1
      have HR : Hid (SplitPost s (.returned (.tuple #[.string s, .bool false]))) := by
        refine .inr ⟨?_, rfl⟩
        rw [pos_stay s k (by rw [← HP.out]; omega) 64 hk, ← HP.out]; omega
      go_wp2
      go_ret2
      exact ⟨HR.out, (HB _).out⟩

set_option maxHeartbeats 400000 in
theorem split5_any (s : ByteArray) (w : World) (hs : s.size ≤ 1048576) :
    Calls Try.prog 5 #[.string s] w fun e w' => SplitPost s e ∧ Below w.heap.size w w' := by
  go_enter Try.func5, Try.ntmps5
  go_wp2_with fail
  refine (split7_any s _ hs).mono ?_
  rintro e w1 ⟨hp, hb⟩
  have HB := hide hb
  have HP := hide hp
  clear hb
  rcases hp with ⟨_, rfl⟩ | ⟨_, rfl⟩
  · go_wp2
    go_ret2
    exact ⟨HP.out, HB.out⟩
  · go_wp2
    go_ret2
    exact ⟨HP.out, HB.out⟩

set_option maxHeartbeats 1000000 in
theorem split_walk (s : ByteArray) (w : World) :
    Calls Try.prog 3 #[.string s] w fun e w' => e = .returned (.bool true) ∧ Below w.heap.size w w' := by
  by_cases hs : s.size ≤ 1048576
  · have h1 : ¬ (1048576 : Int) < s.size := by omega
    have hpl := pos_le s 64
    go_enter Try.func3, Try.ntmps3
    go_wp2_with fail
    refine (zb4_yes s _ hs).mono ?_
    rintro e w0 ⟨rfl, hw0⟩
    cases hw0
    go_wp2_with fail
    refine (split5_any s _ hs).mono ?_
    rintro e w1 ⟨hp, hb⟩
    have HB := hide hb
    clear hb
    rcases hp with ⟨hlt, rfl⟩ | ⟨heq, rfl⟩
    · go_wp2_with fail
      refine (cut_any s _ hs).mono ?_
      rintro e w0 ⟨rfl, hw0⟩
      cases hw0
      obtain ⟨p, hp⟩ : ∃ p, p = pos s 64 := ⟨_, rfl⟩
      rw [← hp] at hpl hlt ⊢
      clear hp
      have q1 : (p : Int) ≤ (s.size : Int) := by omega
      have q2 : (p : Int) < (s.size : Int) := by omega
      go_wp2
      go_ret
      exact ⟨rfl, HB.out⟩
    · go_wp2_with fail
      refine (cut_any s _ hs).mono ?_
      rintro e w0 ⟨rfl, hw0⟩
      cases hw0
      rw [heq]
      have q1 : ¬ (s.size : Int) < (s.size : Int) := by omega
      clear heq
      have hx : s.extract 0 s.size = s := by simp
      go_wp2
      go_ret
      exact ⟨rfl, HB.out⟩
  · go_enter Try.func3, Try.ntmps3
    go_wp2_with fail
    refine (zb4_no s _ hs).mono ?_
    rintro e w0 ⟨rfl, hw0⟩
    cases hw0
    go_wp2
    go_ret
    exact ⟨rfl, Below.refl _ _⟩

end Go.Proofs.Qxb6603507a
