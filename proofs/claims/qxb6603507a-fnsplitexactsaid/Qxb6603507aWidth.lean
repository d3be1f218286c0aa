import Derived.Test.Qxb6603507aRows
import Derived.Test.Qxb6603507aPlain
import Derived.WalkKit
import Derived.WalkSpells
import Derived.WalkLawsBesides
import Derived.Outline
import Derived.Laws.RangeAny
namespace Go.Proofs.Qxb6603507a
open Go.RowKit

theorem hide {p : Prop} (h : p) : Hid p := h
theorem ret_int {k : IntKind} {a b : Int} (h : a = b) : Ending.returned (.int k a) = .returned (.int k b) := by rw [h]

set_option maxHeartbeats 400000 in
theorem width_ascii (s : ByteArray) (i : Nat) (w : World) (hi : i < s.size) (_hs : s.size ≤ 1048576) (h : bt s i < 128) :
    Calls Try.prog 8 #[.string s, .int .i64 i] w fun e w' => e = .returned (.int .i64 (wid s i)) ∧ w' = w := by
  have hii : (i : Int) < (s.size : Int) := by omega
  have hb : ((s[i]).toNat : Int) < 128 := by rw [← bt_at s i hi]; omega
  have HW := hide (wid_ascii s i h)
  go_enter Try.func8, Try.ntmps8
  go_wp2
  go_ret
  exact ⟨ret_int (by rw [HW.out]; rfl), rfl⟩

set_option maxHeartbeats 400000 in
theorem width_other (s : ByteArray) (i : Nat) (w : World) (hi : i < s.size) (_hs : s.size ≤ 1048576) (h1 : 128 ≤ bt s i) (h2 : bt s i < 194 ∨ 244 < bt s i) :
    Calls Try.prog 8 #[.string s, .int .i64 i] w fun e w' => e = .returned (.int .i64 (wid s i)) ∧ w' = w := by
  have hii : (i : Int) < (s.size : Int) := by omega
  have HW := hide (wid_other s i h1 h2)
  have Hb := hide (bt_at s i hi)
  obtain ⟨b, hb⟩ : ∃ b, b = (s[i]).toNat := ⟨_, rfl⟩
  rcases h2 with h2 | h2
  · have q1 : ¬ ((s[i]).toNat : Int) < 128 := by rw [← Hb.out]; omega
    have q2 : ¬ (194 : Int) ≤ ((s[i]).toNat : Int) := by rw [← Hb.out]; omega
    have q3 : (((s[i]).toNat : Int) == 224) = false := by rw [← Hb.out]; simp; omega
    have q4 : (((s[i]).toNat : Int) == 237) = false := by rw [← Hb.out]; simp; omega
    have q5 : ¬ (225 : Int) ≤ ((s[i]).toNat : Int) := by rw [← Hb.out]; omega
    have q6 : (((s[i]).toNat : Int) == 240) = false := by rw [← Hb.out]; simp; omega
    have q7 : ¬ (241 : Int) ≤ ((s[i]).toNat : Int) := by rw [← Hb.out]; omega
    have q8 : (((s[i]).toNat : Int) == 244) = false := by rw [← Hb.out]; simp; omega
    go_enter Try.func8, Try.ntmps8
    go_wp2
    go_ret
    exact ⟨ret_int (by rw [HW.out]; rfl), rfl⟩
  · have q1 : ¬ ((s[i]).toNat : Int) < 128 := by rw [← Hb.out]; omega
    have q2 : (194 : Int) ≤ ((s[i]).toNat : Int) := by rw [← Hb.out]; omega
    have q2' : ¬ ((s[i]).toNat : Int) ≤ 223 := by rw [← Hb.out]; omega
    have q3 : (((s[i]).toNat : Int) == 224) = false := by rw [← Hb.out]; simp; omega
    have q4 : (((s[i]).toNat : Int) == 237) = false := by rw [← Hb.out]; simp; omega
    have q5 : (225 : Int) ≤ ((s[i]).toNat : Int) := by rw [← Hb.out]; omega
    have q5' : ¬ ((s[i]).toNat : Int) ≤ 239 := by rw [← Hb.out]; omega
    have q6 : (((s[i]).toNat : Int) == 240) = false := by rw [← Hb.out]; simp; omega
    have q7 : (241 : Int) ≤ ((s[i]).toNat : Int) := by rw [← Hb.out]; omega
    have q7' : ¬ ((s[i]).toNat : Int) ≤ 243 := by rw [← Hb.out]; omega
    have q8 : (((s[i]).toNat : Int) == 244) = false := by rw [← Hb.out]; simp; omega
    go_enter Try.func8, Try.ntmps8
    go_wp2
    go_ret
    exact ⟨ret_int (by rw [HW.out]; rfl), rfl⟩

set_option maxHeartbeats 2000000 in
theorem width_two (s : ByteArray) (i : Nat) (w : World) (hi : i < s.size) (hs : s.size ≤ 1048576) (hc : 194 ≤ bt s i ∧ bt s i ≤ 223) :
    Calls Try.prog 8 #[.string s, .int .i64 i] w fun e w' => e = .returned (.int .i64 (wid s i)) ∧ w' = w := by
  have HC : Hid (Cls (bt s i) 2 128 191) := .inl ⟨hc.1, hc.2, rfl, rfl, rfl⟩
  have hii : (i : Int) < (s.size : Int) := by omega
  have Hb := hide (bt_at s i hi)
  have q0 : ¬ ((s[i]).toNat : Int) < 128 := by rw [← Hb.out]; omega
  have q1 : (194 : Int) ≤ ((s[i]).toNat : Int) := by rw [← Hb.out]; omega
  have q2 : ((s[i]).toNat : Int) ≤ 223 := by rw [← Hb.out]; omega
  clear hc
  by_cases hsh : s.size < i + 2
  · have HW := hide (wid_short s i 2 128 191 HC.out hsh)
    have r1 : (s.size : Int) - i < 2 := by omega
    go_enter Try.func8, Try.ntmps8
    go_wp2
    go_ret
    exact ⟨ret_int (by rw [HW.out]; rfl), rfl⟩
  have r1 : ¬ (s.size : Int) - i < 2 := by omega
  have hi1 : i + 1 < s.size := by omega
  have hii1 : (i : Int) + 1 < (s.size : Int) := by omega
  have Hb1 := hide (bt_at s (i + 1) hi1)
  by_cases h1 : bt s (i + 1) < 128
  · have HW := hide (wid_second s i 2 128 191 HC.out (.inl h1))
    go_enter Try.func8, Try.ntmps8
    go_wp2
    all_goals first | (exfalso; have := Hb1.out; omega) | (go_ret; exact ⟨ret_int (by rw [HW.out]; rfl), rfl⟩)
  have r2 : ¬ ((s[i + 1]).toNat : Int) < 128 := by rw [← Hb1.out]; omega
  by_cases h2 : 191 < bt s (i + 1)
  · have HW := hide (wid_second s i 2 128 191 HC.out (.inr h2))
    have r3 : (191 : Int) < ((s[i + 1]).toNat : Int) := by rw [← Hb1.out]; omega
    go_enter Try.func8, Try.ntmps8
    go_wp2
    go_ret
    exact ⟨ret_int (by rw [HW.out]; rfl), rfl⟩
  have r3 : ¬ (191 : Int) < ((s[i + 1]).toNat : Int) := by rw [← Hb1.out]; omega
  go_enter Try.func8, Try.ntmps8
  go_wp2
  go_loop [10] (fun t => ∃ j : Nat, 2 ≤ j ∧ j ≤ 2 ∧ t = .int .i64 j ∧ Hid (∀ k, 2 ≤ k → k < j → 128 ≤ bt s (i + k) ∧ bt s (i + k) ≤ 191)) (fun t => 2 - (intOf t).toNat)
  case atStart => exact ⟨2, by omega, by omega, rfl, fun k h1 h2 => by omega⟩
  case round =>
    obtain ⟨j, hj2, hjz, rfl, HJ⟩ := hrel
    by_cases hlt : j < 2
    · exfalso; omega
    · have t0 : ¬ (j : Int) < 2 := by omega
      have HW := hide (wid_whole s i 2 128 191 HC.out (by omega) (by omega) (by omega) (fun k k1 k2 => HJ.out k k1 (by omega)))
      go_wp2
      go_ret
      exact ⟨ret_int (by rw [HW.out]; rfl), rfl⟩

set_option maxHeartbeats 2000000 in
theorem width_e0 (s : ByteArray) (i : Nat) (w : World) (hi : i < s.size) (hs : s.size ≤ 1048576) (hc : bt s i = 224) :
    Calls Try.prog 8 #[.string s, .int .i64 i] w fun e w' => e = .returned (.int .i64 (wid s i)) ∧ w' = w := by
  have HC : Hid (Cls (bt s i) 3 160 191) := .inr (.inl ⟨hc, rfl, rfl, rfl⟩)
  have hii : (i : Int) < (s.size : Int) := by omega
  have Hb := hide (bt_at s i hi)
  have q0 : ¬ ((s[i]).toNat : Int) < 128 := by rw [← Hb.out]; omega
  have q1 : (194 : Int) ≤ ((s[i]).toNat : Int) := by rw [← Hb.out]; omega
  have q2 : ¬ ((s[i]).toNat : Int) ≤ 223 := by rw [← Hb.out]; omega
  have q3 : (((s[i]).toNat : Int) == 224) = true := by rw [← Hb.out]; simp; omega
  clear hc
  by_cases hsh : s.size < i + 3
  · have HW := hide (wid_short s i 3 160 191 HC.out hsh)
    have r1 : (s.size : Int) - i < 3 := by omega
    go_enter Try.func8, Try.ntmps8
    go_wp2
    go_ret
    exact ⟨ret_int (by rw [HW.out]; rfl), rfl⟩
  have r1 : ¬ (s.size : Int) - i < 3 := by omega
  have hi1 : i + 1 < s.size := by omega
  have hii1 : (i : Int) + 1 < (s.size : Int) := by omega
  have Hb1 := hide (bt_at s (i + 1) hi1)
  by_cases h1 : bt s (i + 1) < 160
  · have HW := hide (wid_second s i 3 160 191 HC.out (.inl h1))
    go_enter Try.func8, Try.ntmps8
    go_wp2
    all_goals first | (exfalso; have := Hb1.out; omega) | (go_ret; exact ⟨ret_int (by rw [HW.out]; rfl), rfl⟩)
  have r2 : ¬ ((s[i + 1]).toNat : Int) < 160 := by rw [← Hb1.out]; omega
  by_cases h2 : 191 < bt s (i + 1)
  · have HW := hide (wid_second s i 3 160 191 HC.out (.inr h2))
    have r3 : (191 : Int) < ((s[i + 1]).toNat : Int) := by rw [← Hb1.out]; omega
    go_enter Try.func8, Try.ntmps8
    go_wp2
    go_ret
    exact ⟨ret_int (by rw [HW.out]; rfl), rfl⟩
  have r3 : ¬ (191 : Int) < ((s[i + 1]).toNat : Int) := by rw [← Hb1.out]; omega
  go_enter Try.func8, Try.ntmps8
  go_wp2
  go_loop [10] (fun t => ∃ j : Nat, 2 ≤ j ∧ j ≤ 3 ∧ t = .int .i64 j ∧ Hid (∀ k, 2 ≤ k → k < j → 128 ≤ bt s (i + k) ∧ bt s (i + k) ≤ 191)) (fun t => 3 - (intOf t).toNat)
  case atStart => exact ⟨2, by omega, by omega, rfl, fun k h1 h2 => by omega⟩
  case round =>
    obtain ⟨j, hj2, hjz, rfl, HJ⟩ := hrel
    by_cases hlt : j < 3
    · have hij : i + j < s.size := by omega
      have hiij : (i : Int) + j < (s.size : Int) := by omega
      have Hbj := hide (bt_at s (i + j) hij)
      have t0 : (j : Int) < 3 := by omega
      by_cases g1 : bt s (i + j) < 128
      · have HW := hide (wid_later s i 3 160 191 j HC.out hj2 hlt (.inl g1))
        go_wp2
        all_goals first | (exfalso; have := Hbj.out; omega) | (go_ret; exact ⟨ret_int (by rw [HW.out]; rfl), rfl⟩)
      have t1 : ¬ ((s[i + j]).toNat : Int) < 128 := by rw [← Hbj.out]; omega
      by_cases g2 : 191 < bt s (i + j)
      · have HW := hide (wid_later s i 3 160 191 j HC.out hj2 hlt (.inr g2))
        have t2 : (191 : Int) < ((s[i + j]).toNat : Int) := by rw [← Hbj.out]; omega
        go_wp2
        go_ret
        exact ⟨ret_int (by rw [HW.out]; rfl), rfl⟩
      have t2 : ¬ (191 : Int) < ((s[i + j]).toNat : Int) := by rw [← Hbj.out]; omega
      go_wp2
      go_round
      case rel =>
        refine ⟨j + 1, by omega, by omega, by go_num, fun k k1 k2 => ?_⟩
        by_cases e : k = j
        · subst e; omega
        · exact HJ.out k k1 (by omega)
      case measure => simp [intOf]; omega
    · have t0 : ¬ (j : Int) < 3 := by omega
      have HW := hide (wid_whole s i 3 160 191 HC.out (by omega) (by omega) (by omega) (fun k k1 k2 => HJ.out k k1 (by omega)))
      go_wp2
      go_ret
      exact ⟨ret_int (by rw [HW.out]; rfl), rfl⟩

set_option maxHeartbeats 2000000 in
theorem width_ed (s : ByteArray) (i : Nat) (w : World) (hi : i < s.size) (hs : s.size ≤ 1048576) (hc : bt s i = 237) :
    Calls Try.prog 8 #[.string s, .int .i64 i] w fun e w' => e = .returned (.int .i64 (wid s i)) ∧ w' = w := by
  have HC : Hid (Cls (bt s i) 3 128 159) := .inr (.inr (.inl ⟨hc, rfl, rfl, rfl⟩))
  have hii : (i : Int) < (s.size : Int) := by omega
  have Hb := hide (bt_at s i hi)
  have q0 : ¬ ((s[i]).toNat : Int) < 128 := by rw [← Hb.out]; omega
  have q1 : (194 : Int) ≤ ((s[i]).toNat : Int) := by rw [← Hb.out]; omega
  have q2 : ¬ ((s[i]).toNat : Int) ≤ 223 := by rw [← Hb.out]; omega
  have q3 : (((s[i]).toNat : Int) == 224) = false := by rw [← Hb.out]; simp; omega
  have q4 : (((s[i]).toNat : Int) == 237) = true := by rw [← Hb.out]; simp; omega
  clear hc
  by_cases hsh : s.size < i + 3
  · have HW := hide (wid_short s i 3 128 159 HC.out hsh)
    have r1 : (s.size : Int) - i < 3 := by omega
    go_enter Try.func8, Try.ntmps8
    go_wp2
    go_ret
    exact ⟨ret_int (by rw [HW.out]; rfl), rfl⟩
  have r1 : ¬ (s.size : Int) - i < 3 := by omega
  have hi1 : i + 1 < s.size := by omega
  have hii1 : (i : Int) + 1 < (s.size : Int) := by omega
  have Hb1 := hide (bt_at s (i + 1) hi1)
  by_cases h1 : bt s (i + 1) < 128
  · have HW := hide (wid_second s i 3 128 159 HC.out (.inl h1))
    go_enter Try.func8, Try.ntmps8
    go_wp2
    all_goals first | (exfalso; have := Hb1.out; omega) | (go_ret; exact ⟨ret_int (by rw [HW.out]; rfl), rfl⟩)
  have r2 : ¬ ((s[i + 1]).toNat : Int) < 128 := by rw [← Hb1.out]; omega
  by_cases h2 : 159 < bt s (i + 1)
  · have HW := hide (wid_second s i 3 128 159 HC.out (.inr h2))
    have r3 : (159 : Int) < ((s[i + 1]).toNat : Int) := by rw [← Hb1.out]; omega
    go_enter Try.func8, Try.ntmps8
    go_wp2
    go_ret
    exact ⟨ret_int (by rw [HW.out]; rfl), rfl⟩
  have r3 : ¬ (159 : Int) < ((s[i + 1]).toNat : Int) := by rw [← Hb1.out]; omega
  go_enter Try.func8, Try.ntmps8
  go_wp2
  go_loop [10] (fun t => ∃ j : Nat, 2 ≤ j ∧ j ≤ 3 ∧ t = .int .i64 j ∧ Hid (∀ k, 2 ≤ k → k < j → 128 ≤ bt s (i + k) ∧ bt s (i + k) ≤ 191)) (fun t => 3 - (intOf t).toNat)
  case atStart => exact ⟨2, by omega, by omega, rfl, fun k h1 h2 => by omega⟩
  case round =>
    obtain ⟨j, hj2, hjz, rfl, HJ⟩ := hrel
    by_cases hlt : j < 3
    · have hij : i + j < s.size := by omega
      have hiij : (i : Int) + j < (s.size : Int) := by omega
      have Hbj := hide (bt_at s (i + j) hij)
      have t0 : (j : Int) < 3 := by omega
      by_cases g1 : bt s (i + j) < 128
      · have HW := hide (wid_later s i 3 128 159 j HC.out hj2 hlt (.inl g1))
        go_wp2
        all_goals first | (exfalso; have := Hbj.out; omega) | (go_ret; exact ⟨ret_int (by rw [HW.out]; rfl), rfl⟩)
      have t1 : ¬ ((s[i + j]).toNat : Int) < 128 := by rw [← Hbj.out]; omega
      by_cases g2 : 191 < bt s (i + j)
      · have HW := hide (wid_later s i 3 128 159 j HC.out hj2 hlt (.inr g2))
        have t2 : (191 : Int) < ((s[i + j]).toNat : Int) := by rw [← Hbj.out]; omega
        go_wp2
        go_ret
        exact ⟨ret_int (by rw [HW.out]; rfl), rfl⟩
      have t2 : ¬ (191 : Int) < ((s[i + j]).toNat : Int) := by rw [← Hbj.out]; omega
      go_wp2
      go_round
      case rel =>
        refine ⟨j + 1, by omega, by omega, by go_num, fun k k1 k2 => ?_⟩
        by_cases e : k = j
        · subst e; omega
        · exact HJ.out k k1 (by omega)
      case measure => simp [intOf]; omega
    · have t0 : ¬ (j : Int) < 3 := by omega
      have HW := hide (wid_whole s i 3 128 159 HC.out (by omega) (by omega) (by omega) (fun k k1 k2 => HJ.out k k1 (by omega)))
      go_wp2
      go_ret
      exact ⟨ret_int (by rw [HW.out]; rfl), rfl⟩

set_option maxHeartbeats 2000000 in
theorem width_three (s : ByteArray) (i : Nat) (w : World) (hi : i < s.size) (hs : s.size ≤ 1048576) (hc : 225 ≤ bt s i ∧ bt s i ≤ 239 ∧ bt s i ≠ 237) :
    Calls Try.prog 8 #[.string s, .int .i64 i] w fun e w' => e = .returned (.int .i64 (wid s i)) ∧ w' = w := by
  have HC : Hid (Cls (bt s i) 3 128 191) := .inr (.inr (.inr (.inl ⟨hc.1, hc.2.1, hc.2.2, rfl, rfl, rfl⟩)))
  have hii : (i : Int) < (s.size : Int) := by omega
  have Hb := hide (bt_at s i hi)
  have q0 : ¬ ((s[i]).toNat : Int) < 128 := by rw [← Hb.out]; omega
  have q1 : (194 : Int) ≤ ((s[i]).toNat : Int) := by rw [← Hb.out]; omega
  have q2 : ¬ ((s[i]).toNat : Int) ≤ 223 := by rw [← Hb.out]; omega
  have q3 : (((s[i]).toNat : Int) == 224) = false := by rw [← Hb.out]; simp; omega
  have q4 : (((s[i]).toNat : Int) == 237) = false := by rw [← Hb.out]; simp; omega
  have q5 : (225 : Int) ≤ ((s[i]).toNat : Int) := by rw [← Hb.out]; omega
  have q6 : ((s[i]).toNat : Int) ≤ 239 := by rw [← Hb.out]; omega
  clear hc
  by_cases hsh : s.size < i + 3
  · have HW := hide (wid_short s i 3 128 191 HC.out hsh)
    have r1 : (s.size : Int) - i < 3 := by omega
    go_enter Try.func8, Try.ntmps8
    go_wp2
    go_ret
    exact ⟨ret_int (by rw [HW.out]; rfl), rfl⟩
  have r1 : ¬ (s.size : Int) - i < 3 := by omega
  have hi1 : i + 1 < s.size := by omega
  have hii1 : (i : Int) + 1 < (s.size : Int) := by omega
  have Hb1 := hide (bt_at s (i + 1) hi1)
  by_cases h1 : bt s (i + 1) < 128
  · have HW := hide (wid_second s i 3 128 191 HC.out (.inl h1))
    go_enter Try.func8, Try.ntmps8
    go_wp2
    all_goals first | (exfalso; have := Hb1.out; omega) | (go_ret; exact ⟨ret_int (by rw [HW.out]; rfl), rfl⟩)
  have r2 : ¬ ((s[i + 1]).toNat : Int) < 128 := by rw [← Hb1.out]; omega
  by_cases h2 : 191 < bt s (i + 1)
  · have HW := hide (wid_second s i 3 128 191 HC.out (.inr h2))
    have r3 : (191 : Int) < ((s[i + 1]).toNat : Int) := by rw [← Hb1.out]; omega
    go_enter Try.func8, Try.ntmps8
    go_wp2
    go_ret
    exact ⟨ret_int (by rw [HW.out]; rfl), rfl⟩
  have r3 : ¬ (191 : Int) < ((s[i + 1]).toNat : Int) := by rw [← Hb1.out]; omega
  go_enter Try.func8, Try.ntmps8
  go_wp2
  go_loop [10] (fun t => ∃ j : Nat, 2 ≤ j ∧ j ≤ 3 ∧ t = .int .i64 j ∧ Hid (∀ k, 2 ≤ k → k < j → 128 ≤ bt s (i + k) ∧ bt s (i + k) ≤ 191)) (fun t => 3 - (intOf t).toNat)
  case atStart => exact ⟨2, by omega, by omega, rfl, fun k h1 h2 => by omega⟩
  case round =>
    obtain ⟨j, hj2, hjz, rfl, HJ⟩ := hrel
    by_cases hlt : j < 3
    · have hij : i + j < s.size := by omega
      have hiij : (i : Int) + j < (s.size : Int) := by omega
      have Hbj := hide (bt_at s (i + j) hij)
      have t0 : (j : Int) < 3 := by omega
      by_cases g1 : bt s (i + j) < 128
      · have HW := hide (wid_later s i 3 128 191 j HC.out hj2 hlt (.inl g1))
        go_wp2
        all_goals first | (exfalso; have := Hbj.out; omega) | (go_ret; exact ⟨ret_int (by rw [HW.out]; rfl), rfl⟩)
      have t1 : ¬ ((s[i + j]).toNat : Int) < 128 := by rw [← Hbj.out]; omega
      by_cases g2 : 191 < bt s (i + j)
      · have HW := hide (wid_later s i 3 128 191 j HC.out hj2 hlt (.inr g2))
        have t2 : (191 : Int) < ((s[i + j]).toNat : Int) := by rw [← Hbj.out]; omega
        go_wp2
        go_ret
        exact ⟨ret_int (by rw [HW.out]; rfl), rfl⟩
      have t2 : ¬ (191 : Int) < ((s[i + j]).toNat : Int) := by rw [← Hbj.out]; omega
      go_wp2
      go_round
      case rel =>
        refine ⟨j + 1, by omega, by omega, by go_num, fun k k1 k2 => ?_⟩
        by_cases e : k = j
        · subst e; omega
        · exact HJ.out k k1 (by omega)
      case measure => simp [intOf]; omega
    · have t0 : ¬ (j : Int) < 3 := by omega
      have HW := hide (wid_whole s i 3 128 191 HC.out (by omega) (by omega) (by omega) (fun k k1 k2 => HJ.out k k1 (by omega)))
      go_wp2
      go_ret
      exact ⟨ret_int (by rw [HW.out]; rfl), rfl⟩

set_option maxHeartbeats 2000000 in
theorem width_f0 (s : ByteArray) (i : Nat) (w : World) (hi : i < s.size) (hs : s.size ≤ 1048576) (hc : bt s i = 240) :
    Calls Try.prog 8 #[.string s, .int .i64 i] w fun e w' => e = .returned (.int .i64 (wid s i)) ∧ w' = w := by
  have HC : Hid (Cls (bt s i) 4 144 191) := .inr (.inr (.inr (.inr (.inl ⟨hc, rfl, rfl, rfl⟩))))
  have hii : (i : Int) < (s.size : Int) := by omega
  have Hb := hide (bt_at s i hi)
  have q0 : ¬ ((s[i]).toNat : Int) < 128 := by rw [← Hb.out]; omega
  have q1 : (194 : Int) ≤ ((s[i]).toNat : Int) := by rw [← Hb.out]; omega
  have q2 : ¬ ((s[i]).toNat : Int) ≤ 223 := by rw [← Hb.out]; omega
  have q3 : (((s[i]).toNat : Int) == 224) = false := by rw [← Hb.out]; simp; omega
  have q4 : (((s[i]).toNat : Int) == 237) = false := by rw [← Hb.out]; simp; omega
  have q5 : (225 : Int) ≤ ((s[i]).toNat : Int) := by rw [← Hb.out]; omega
  have q6 : ¬ ((s[i]).toNat : Int) ≤ 239 := by rw [← Hb.out]; omega
  have q7 : (((s[i]).toNat : Int) == 240) = true := by rw [← Hb.out]; simp; omega
  clear hc
  by_cases hsh : s.size < i + 4
  · have HW := hide (wid_short s i 4 144 191 HC.out hsh)
    have r1 : (s.size : Int) - i < 4 := by omega
    go_enter Try.func8, Try.ntmps8
    go_wp2
    go_ret
    exact ⟨ret_int (by rw [HW.out]; rfl), rfl⟩
  have r1 : ¬ (s.size : Int) - i < 4 := by omega
  have hi1 : i + 1 < s.size := by omega
  have hii1 : (i : Int) + 1 < (s.size : Int) := by omega
  have Hb1 := hide (bt_at s (i + 1) hi1)
  by_cases h1 : bt s (i + 1) < 144
  · have HW := hide (wid_second s i 4 144 191 HC.out (.inl h1))
    go_enter Try.func8, Try.ntmps8
    go_wp2
    all_goals first | (exfalso; have := Hb1.out; omega) | (go_ret; exact ⟨ret_int (by rw [HW.out]; rfl), rfl⟩)
  have r2 : ¬ ((s[i + 1]).toNat : Int) < 144 := by rw [← Hb1.out]; omega
  by_cases h2 : 191 < bt s (i + 1)
  · have HW := hide (wid_second s i 4 144 191 HC.out (.inr h2))
    have r3 : (191 : Int) < ((s[i + 1]).toNat : Int) := by rw [← Hb1.out]; omega
    go_enter Try.func8, Try.ntmps8
    go_wp2
    go_ret
    exact ⟨ret_int (by rw [HW.out]; rfl), rfl⟩
  have r3 : ¬ (191 : Int) < ((s[i + 1]).toNat : Int) := by rw [← Hb1.out]; omega
  go_enter Try.func8, Try.ntmps8
  go_wp2
  go_loop [10] (fun t => ∃ j : Nat, 2 ≤ j ∧ j ≤ 4 ∧ t = .int .i64 j ∧ Hid (∀ k, 2 ≤ k → k < j → 128 ≤ bt s (i + k) ∧ bt s (i + k) ≤ 191)) (fun t => 4 - (intOf t).toNat)
  case atStart => exact ⟨2, by omega, by omega, rfl, fun k h1 h2 => by omega⟩
  case round =>
    obtain ⟨j, hj2, hjz, rfl, HJ⟩ := hrel
    by_cases hlt : j < 4
    · have hij : i + j < s.size := by omega
      have hiij : (i : Int) + j < (s.size : Int) := by omega
      have Hbj := hide (bt_at s (i + j) hij)
      have t0 : (j : Int) < 4 := by omega
      by_cases g1 : bt s (i + j) < 128
      · have HW := hide (wid_later s i 4 144 191 j HC.out hj2 hlt (.inl g1))
        go_wp2
        all_goals first | (exfalso; have := Hbj.out; omega) | (go_ret; exact ⟨ret_int (by rw [HW.out]; rfl), rfl⟩)
      have t1 : ¬ ((s[i + j]).toNat : Int) < 128 := by rw [← Hbj.out]; omega
      by_cases g2 : 191 < bt s (i + j)
      · have HW := hide (wid_later s i 4 144 191 j HC.out hj2 hlt (.inr g2))
        have t2 : (191 : Int) < ((s[i + j]).toNat : Int) := by rw [← Hbj.out]; omega
        go_wp2
        go_ret
        exact ⟨ret_int (by rw [HW.out]; rfl), rfl⟩
      have t2 : ¬ (191 : Int) < ((s[i + j]).toNat : Int) := by rw [← Hbj.out]; omega
      go_wp2
      go_round
      case rel =>
        refine ⟨j + 1, by omega, by omega, by go_num, fun k k1 k2 => ?_⟩
        by_cases e : k = j
        · subst e; omega
        · exact HJ.out k k1 (by omega)
      case measure => simp [intOf]; omega
    · have t0 : ¬ (j : Int) < 4 := by omega
      have HW := hide (wid_whole s i 4 144 191 HC.out (by omega) (by omega) (by omega) (fun k k1 k2 => HJ.out k k1 (by omega)))
      go_wp2
      go_ret
      exact ⟨ret_int (by rw [HW.out]; rfl), rfl⟩

set_option maxHeartbeats 2000000 in
theorem width_four (s : ByteArray) (i : Nat) (w : World) (hi : i < s.size) (hs : s.size ≤ 1048576) (hc : 241 ≤ bt s i ∧ bt s i ≤ 243) :
    Calls Try.prog 8 #[.string s, .int .i64 i] w fun e w' => e = .returned (.int .i64 (wid s i)) ∧ w' = w := by
  have HC : Hid (Cls (bt s i) 4 128 191) := .inr (.inr (.inr (.inr (.inr (.inl ⟨hc.1, hc.2, rfl, rfl, rfl⟩)))))
  have hii : (i : Int) < (s.size : Int) := by omega
  have Hb := hide (bt_at s i hi)
  have q0 : ¬ ((s[i]).toNat : Int) < 128 := by rw [← Hb.out]; omega
  have q1 : (194 : Int) ≤ ((s[i]).toNat : Int) := by rw [← Hb.out]; omega
  have q2 : ¬ ((s[i]).toNat : Int) ≤ 223 := by rw [← Hb.out]; omega
  have q3 : (((s[i]).toNat : Int) == 224) = false := by rw [← Hb.out]; simp; omega
  have q4 : (((s[i]).toNat : Int) == 237) = false := by rw [← Hb.out]; simp; omega
  have q5 : (225 : Int) ≤ ((s[i]).toNat : Int) := by rw [← Hb.out]; omega
  have q6 : ¬ ((s[i]).toNat : Int) ≤ 239 := by rw [← Hb.out]; omega
  have q7 : (((s[i]).toNat : Int) == 240) = false := by rw [← Hb.out]; simp; omega
  have q8 : (241 : Int) ≤ ((s[i]).toNat : Int) := by rw [← Hb.out]; omega
  have q9 : ((s[i]).toNat : Int) ≤ 243 := by rw [← Hb.out]; omega
  clear hc
  by_cases hsh : s.size < i + 4
  · have HW := hide (wid_short s i 4 128 191 HC.out hsh)
    have r1 : (s.size : Int) - i < 4 := by omega
    go_enter Try.func8, Try.ntmps8
    go_wp2
    go_ret
    exact ⟨ret_int (by rw [HW.out]; rfl), rfl⟩
  have r1 : ¬ (s.size : Int) - i < 4 := by omega
  have hi1 : i + 1 < s.size := by omega
  have hii1 : (i : Int) + 1 < (s.size : Int) := by omega
  have Hb1 := hide (bt_at s (i + 1) hi1)
  by_cases h1 : bt s (i + 1) < 128
  · have HW := hide (wid_second s i 4 128 191 HC.out (.inl h1))
    go_enter Try.func8, Try.ntmps8
    go_wp2
    all_goals first | (exfalso; have := Hb1.out; omega) | (go_ret; exact ⟨ret_int (by rw [HW.out]; rfl), rfl⟩)
  have r2 : ¬ ((s[i + 1]).toNat : Int) < 128 := by rw [← Hb1.out]; omega
  by_cases h2 : 191 < bt s (i + 1)
  · have HW := hide (wid_second s i 4 128 191 HC.out (.inr h2))
    have r3 : (191 : Int) < ((s[i + 1]).toNat : Int) := by rw [← Hb1.out]; omega
    go_enter Try.func8, Try.ntmps8
    go_wp2
    go_ret
    exact ⟨ret_int (by rw [HW.out]; rfl), rfl⟩
  have r3 : ¬ (191 : Int) < ((s[i + 1]).toNat : Int) := by rw [← Hb1.out]; omega
  go_enter Try.func8, Try.ntmps8
  go_wp2
  go_loop [10] (fun t => ∃ j : Nat, 2 ≤ j ∧ j ≤ 4 ∧ t = .int .i64 j ∧ Hid (∀ k, 2 ≤ k → k < j → 128 ≤ bt s (i + k) ∧ bt s (i + k) ≤ 191)) (fun t => 4 - (intOf t).toNat)
  case atStart => exact ⟨2, by omega, by omega, rfl, fun k h1 h2 => by omega⟩
  case round =>
    obtain ⟨j, hj2, hjz, rfl, HJ⟩ := hrel
    by_cases hlt : j < 4
    · have hij : i + j < s.size := by omega
      have hiij : (i : Int) + j < (s.size : Int) := by omega
      have Hbj := hide (bt_at s (i + j) hij)
      have t0 : (j : Int) < 4 := by omega
      by_cases g1 : bt s (i + j) < 128
      · have HW := hide (wid_later s i 4 128 191 j HC.out hj2 hlt (.inl g1))
        go_wp2
        all_goals first | (exfalso; have := Hbj.out; omega) | (go_ret; exact ⟨ret_int (by rw [HW.out]; rfl), rfl⟩)
      have t1 : ¬ ((s[i + j]).toNat : Int) < 128 := by rw [← Hbj.out]; omega
      by_cases g2 : 191 < bt s (i + j)
      · have HW := hide (wid_later s i 4 128 191 j HC.out hj2 hlt (.inr g2))
        have t2 : (191 : Int) < ((s[i + j]).toNat : Int) := by rw [← Hbj.out]; omega
        go_wp2
        go_ret
        exact ⟨ret_int (by rw [HW.out]; rfl), rfl⟩
      have t2 : ¬ (191 : Int) < ((s[i + j]).toNat : Int) := by rw [← Hbj.out]; omega
      go_wp2
      go_round
      case rel =>
        refine ⟨j + 1, by omega, by omega, by go_num, fun k k1 k2 => ?_⟩
        by_cases e : k = j
        · subst e; omega
        · exact HJ.out k k1 (by omega)
      case measure => simp [intOf]; omega
    · have t0 : ¬ (j : Int) < 4 := by omega
      have HW := hide (wid_whole s i 4 128 191 HC.out (by omega) (by omega) (by omega) (fun k k1 k2 => HJ.out k k1 (by omega)))
      go_wp2
      go_ret
      exact ⟨ret_int (by rw [HW.out]; rfl), rfl⟩

set_option maxHeartbeats 2000000 in
theorem width_f4 (s : ByteArray) (i : Nat) (w : World) (hi : i < s.size) (hs : s.size ≤ 1048576) (hc : bt s i = 244) :
    Calls Try.prog 8 #[.string s, .int .i64 i] w fun e w' => e = .returned (.int .i64 (wid s i)) ∧ w' = w := by
  have HC : Hid (Cls (bt s i) 4 128 143) := .inr (.inr (.inr (.inr (.inr (.inr ⟨hc, rfl, rfl, rfl⟩)))))
  have hii : (i : Int) < (s.size : Int) := by omega
  have Hb := hide (bt_at s i hi)
  have q0 : ¬ ((s[i]).toNat : Int) < 128 := by rw [← Hb.out]; omega
  have q1 : (194 : Int) ≤ ((s[i]).toNat : Int) := by rw [← Hb.out]; omega
  have q2 : ¬ ((s[i]).toNat : Int) ≤ 223 := by rw [← Hb.out]; omega
  have q3 : (((s[i]).toNat : Int) == 224) = false := by rw [← Hb.out]; simp; omega
  have q4 : (((s[i]).toNat : Int) == 237) = false := by rw [← Hb.out]; simp; omega
  have q5 : (225 : Int) ≤ ((s[i]).toNat : Int) := by rw [← Hb.out]; omega
  have q6 : ¬ ((s[i]).toNat : Int) ≤ 239 := by rw [← Hb.out]; omega
  have q7 : (((s[i]).toNat : Int) == 240) = false := by rw [← Hb.out]; simp; omega
  have q8 : (241 : Int) ≤ ((s[i]).toNat : Int) := by rw [← Hb.out]; omega
  have q9 : ¬ ((s[i]).toNat : Int) ≤ 243 := by rw [← Hb.out]; omega
  have q10 : (((s[i]).toNat : Int) == 244) = true := by rw [← Hb.out]; simp; omega
  clear hc
  by_cases hsh : s.size < i + 4
  · have HW := hide (wid_short s i 4 128 143 HC.out hsh)
    have r1 : (s.size : Int) - i < 4 := by omega
    go_enter Try.func8, Try.ntmps8
    go_wp2
    go_ret
    exact ⟨ret_int (by rw [HW.out]; rfl), rfl⟩
  have r1 : ¬ (s.size : Int) - i < 4 := by omega
  have hi1 : i + 1 < s.size := by omega
  have hii1 : (i : Int) + 1 < (s.size : Int) := by omega
  have Hb1 := hide (bt_at s (i + 1) hi1)
  by_cases h1 : bt s (i + 1) < 128
  · have HW := hide (wid_second s i 4 128 143 HC.out (.inl h1))
    go_enter Try.func8, Try.ntmps8
    go_wp2
    all_goals first | (exfalso; have := Hb1.out; omega) | (go_ret; exact ⟨ret_int (by rw [HW.out]; rfl), rfl⟩)
  have r2 : ¬ ((s[i + 1]).toNat : Int) < 128 := by rw [← Hb1.out]; omega
  by_cases h2 : 143 < bt s (i + 1)
  · have HW := hide (wid_second s i 4 128 143 HC.out (.inr h2))
    have r3 : (143 : Int) < ((s[i + 1]).toNat : Int) := by rw [← Hb1.out]; omega
    go_enter Try.func8, Try.ntmps8
    go_wp2
    go_ret
    exact ⟨ret_int (by rw [HW.out]; rfl), rfl⟩
  have r3 : ¬ (143 : Int) < ((s[i + 1]).toNat : Int) := by rw [← Hb1.out]; omega
  go_enter Try.func8, Try.ntmps8
  go_wp2
  go_loop [10] (fun t => ∃ j : Nat, 2 ≤ j ∧ j ≤ 4 ∧ t = .int .i64 j ∧ Hid (∀ k, 2 ≤ k → k < j → 128 ≤ bt s (i + k) ∧ bt s (i + k) ≤ 191)) (fun t => 4 - (intOf t).toNat)
  case atStart => exact ⟨2, by omega, by omega, rfl, fun k h1 h2 => by omega⟩
  case round =>
    obtain ⟨j, hj2, hjz, rfl, HJ⟩ := hrel
    by_cases hlt : j < 4
    · have hij : i + j < s.size := by omega
      have hiij : (i : Int) + j < (s.size : Int) := by omega
      have Hbj := hide (bt_at s (i + j) hij)
      have t0 : (j : Int) < 4 := by omega
      by_cases g1 : bt s (i + j) < 128
      · have HW := hide (wid_later s i 4 128 143 j HC.out hj2 hlt (.inl g1))
        go_wp2
        all_goals first | (exfalso; have := Hbj.out; omega) | (go_ret; exact ⟨ret_int (by rw [HW.out]; rfl), rfl⟩)
      have t1 : ¬ ((s[i + j]).toNat : Int) < 128 := by rw [← Hbj.out]; omega
      by_cases g2 : 191 < bt s (i + j)
      · have HW := hide (wid_later s i 4 128 143 j HC.out hj2 hlt (.inr g2))
        have t2 : (191 : Int) < ((s[i + j]).toNat : Int) := by rw [← Hbj.out]; omega
        go_wp2
        go_ret
        exact ⟨ret_int (by rw [HW.out]; rfl), rfl⟩
      have t2 : ¬ (191 : Int) < ((s[i + j]).toNat : Int) := by rw [← Hbj.out]; omega
      go_wp2
      go_round
      case rel =>
        refine ⟨j + 1, by omega, by omega, by go_num, fun k k1 k2 => ?_⟩
        by_cases e : k = j
        · subst e; omega
        · exact HJ.out k k1 (by omega)
      case measure => simp [intOf]; omega
    · have t0 : ¬ (j : Int) < 4 := by omega
      have HW := hide (wid_whole s i 4 128 143 HC.out (by omega) (by omega) (by omega) (fun k k1 k2 => HJ.out k k1 (by omega)))
      go_wp2
      go_ret
      exact ⟨ret_int (by rw [HW.out]; rfl), rfl⟩

theorem width_any (s : ByteArray) (i : Nat) (w : World) (hi : i < s.size) (hs : s.size ≤ 1048576) :
    Calls Try.prog 8 #[.string s, .int .i64 i] w fun e w' => e = .returned (.int .i64 (wid s i)) ∧ w' = w := by
  by_cases h0 : bt s i < 128
  · exact width_ascii s i w hi hs h0
  by_cases h1 : bt s i < 194 ∨ 244 < bt s i
  · exact width_other s i w hi hs (by omega) h1
  by_cases h2 : bt s i ≤ 223
  · exact width_two s i w hi hs ⟨by omega, h2⟩
  by_cases h3 : bt s i = 224
  · exact width_e0 s i w hi hs h3
  by_cases h4 : bt s i = 237
  · exact width_ed s i w hi hs h4
  by_cases h5 : bt s i ≤ 239
  · exact width_three s i w hi hs ⟨by omega, h5, h4⟩
  by_cases h6 : bt s i = 240
  · exact width_f0 s i w hi hs h6
  by_cases h7 : bt s i ≤ 243
  · exact width_four s i w hi hs ⟨by omega, h7⟩
  · exact width_f4 s i w hi hs (by omega)

end Go.Proofs.Qxb6603507a
