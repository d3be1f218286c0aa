import Derived.Test.Qxb6602010aMod
namespace Go.Proofs.Qxb6602010a
open Go.RowKit

set_option maxHeartbeats 400000 in
theorem zb8_yes (p : Bool) (v : ByteArray) (lo hi i : Int) (w : World) (h : v.size ≤ 1048576) :
    Calls Try.prog 8 #[.bool p, .string v, .int .i64 lo, .int .i64 hi, .int .i64 i] w fun e w' => e = .returned (.bool true) ∧ w' = w := by
  have h1 : ¬ (1048576 : Int) < v.size := by omega
  go_enter Try.func8, Try.ntmps8
  go_wp2
  go_ret
  exact ⟨rfl, rfl⟩

set_option maxHeartbeats 400000 in
theorem zb8_no (p : Bool) (v : ByteArray) (lo hi i : Int) (w : World) (h : ¬ v.size ≤ 1048576) :
    Calls Try.prog 8 #[.bool p, .string v, .int .i64 lo, .int .i64 hi, .int .i64 i] w fun e w' => e = .returned (.bool false) ∧ w' = w := by
  have h1 : (1048576 : Int) < v.size := by omega
  go_enter Try.func8, Try.ntmps8
  go_wp2
  go_ret
  exact ⟨rfl, rfl⟩

set_option maxHeartbeats 1000000 in
theorem inter_walk (p : Bool) (v : ByteArray) (lo hi i : Int) (w : World) :
    Calls Try.prog 3 #[.bool p, .string v, .int .i64 lo, .int .i64 hi, .int .i64 i] w fun e w' => e = .returned (.bool true) ∧ Below w.heap.size w w' := by
  by_cases hv : v.size ≤ 1048576
  · have h1 : ¬ (1048576 : Int) < v.size := by omega
    have Hv := hide hv
    clear hv
    go_enter Try.func3, Try.ntmps3
    go_wp2_with fail
    refine (zb8_yes p v lo hi i _ Hv.out).mono ?_
    rintro e w0 ⟨rfl, hw0⟩
    cases hw0
    go_wp2_with fail
    refine (mod9_any p v lo hi i _).mono ?_
    rintro e w1 ⟨rfl, hb⟩
    have HB : Hid (Below w.heap.size w w1) := ((Below.refl _ _).alloc (Nat.le_refl _) _).trans (hb.mono (by simp))
    have z1 : w.heap.size < w1.heap.size := by have := hb.size; simp at this; omega
    have c0 : w1.cell? ⟨w.heap.size, 0, none⟩ = some (.bool p) := by rw [hb.cell (by simp)]; go_simp
    have c1 : w1.cell? ⟨w.heap.size, 1, none⟩ = some (.string v) := by rw [hb.cell (by simp)]; go_simp
    have c2 : w1.cell? ⟨w.heap.size, 2, none⟩ = some (.int .i64 lo) := by rw [hb.cell (by simp)]; go_simp
    have c3 : w1.cell? ⟨w.heap.size, 3, none⟩ = some (.int .i64 hi) := by rw [hb.cell (by simp)]; go_simp
    clear hb
    cases p
    · simp only [mOk, mLo, mHi, Bool.false_eq_true, false_and, if_false]
      go_wp2
      go_ret
      exact ⟨rfl, HB.out.alloc HB.out.size _⟩
    · by_cases h2 : lo ≤ i ∧ i ≤ hi
      · have e1 : mOk true lo hi i = true := by simp [mOk, h2]
        have e2 : mLo true lo hi i = i := by simp [mLo, h2]
        have e3 : mHi true lo hi i = i := by simp [mHi, h2]
        rw [e1, e2, e3]
        clear e1 e2 e3
        obtain ⟨h3, h4⟩ := h2
        by_cases h5 : lo < i
        · by_cases h6 : i < hi
          · go_wp2
            go_ret
            exact ⟨rfl, (HB.out.alloc HB.out.size _).alloc (by have := HB.out.size; simp; omega) _⟩
          · obtain rfl : hi = i := by omega
            go_wp2
            go_ret
            exact ⟨rfl, (HB.out.alloc HB.out.size _).alloc (by have := HB.out.size; simp; omega) _⟩
        · obtain rfl : lo = i := by omega
          by_cases h6 : lo < hi
          · go_wp2
            go_ret
            exact ⟨rfl, (HB.out.alloc HB.out.size _).alloc (by have := HB.out.size; simp; omega) _⟩
          · obtain rfl : hi = lo := by omega
            go_wp2
            go_ret
            exact ⟨rfl, (HB.out.alloc HB.out.size _).alloc (by have := HB.out.size; simp; omega) _⟩
      · have e1 : mOk true lo hi i = false := by simp [mOk]; omega
        have e2 : mLo true lo hi i = lo := by simp only [mLo, h2, and_false, if_false]
        have e3 : mHi true lo hi i = hi := by simp only [mHi, h2, and_false, if_false]
        rw [e1, e2, e3]
        clear e1 e2 e3
        by_cases h5 : lo < i
        · have h7 : hi < i := by omega
          have h8 : ¬ i < hi := by omega
          have h9 : ¬ i ≤ hi := by omega
          clear h2
          go_wp2
          go_ret
          exact ⟨rfl, HB.out.alloc HB.out.size _⟩
        · by_cases h6 : i < hi
          · have h9 : ¬ lo ≤ i := by omega
            clear h2
            go_wp2
            go_ret
            exact ⟨rfl, HB.out.alloc HB.out.size _⟩
          · have h9 : ¬ lo ≤ hi := by omega
            clear h2
            go_wp2
            go_ret
            exact ⟨rfl, HB.out.alloc HB.out.size _⟩
  · go_enter Try.func3, Try.ntmps3
    go_wp2_with fail
    refine (zb8_no p v lo hi i _ hv).mono ?_
    rintro e w0 ⟨rfl, hw0⟩
    cases hw0
    go_wp2
    go_ret
    exact ⟨rfl, Below.refl _ _⟩

end Go.Proofs.Qxb6602010a
