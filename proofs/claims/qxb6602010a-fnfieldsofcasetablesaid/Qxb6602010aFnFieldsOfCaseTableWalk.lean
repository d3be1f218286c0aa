import Derived.Test.Qxb6602010aFldB
namespace Go.Proofs.Qxb6602010a
open Go.RowKit

set_option maxHeartbeats 4000000 in
theorem table_walk (cl cl2 re : Int) (ret : Bool) (op key val : ByteArray) (fnd : Bool) (ifi : Int) (ok : Bool) (ix : Int) (w : World) (ho : op.size ≤ maxLen) (hk : key.size ≤ maxLen) (hv : val.size ≤ maxLen) :
    Calls Try.prog 6 #[.int .i64 cl, .int .i64 cl2, .int .i64 re, .bool ret, .string op, .string key, .string val, .bool fnd, .int .i64 ifi, .bool ok, .int .i64 ix] w fun e w' => e = .returned (.bool true) ∧ Below w.heap.size w w' := by
  by_cases hsz : op.size + key.size + val.size ≤ 1048576
  · have Hsz := hide hsz
    clear hsz
    by_cases h1 : (262144 : Int) < op.size
    · go_enter Try.func6, Try.ntmps6
      go_wp2_with fail
      refine (zb13_yes cl cl2 re ret op key val fnd ifi ok ix _ Hsz.out).mono ?_
      rintro e w0 ⟨rfl, hw0⟩
      cases hw0
      go_wp2
      go_ret
      exact ⟨rfl, Below.refl _ _⟩
    by_cases h2 : (262144 : Int) < key.size
    · go_enter Try.func6, Try.ntmps6
      go_wp2_with fail
      refine (zb13_yes cl cl2 re ret op key val fnd ifi ok ix _ Hsz.out).mono ?_
      rintro e w0 ⟨rfl, hw0⟩
      cases hw0
      go_wp2
      go_ret
      exact ⟨rfl, Below.refl _ _⟩
    by_cases h3 : (262144 : Int) < val.size
    · go_enter Try.func6, Try.ntmps6
      go_wp2_with fail
      refine (zb13_yes cl cl2 re ret op key val fnd ifi ok ix _ Hsz.out).mono ?_
      rintro e w0 ⟨rfl, hw0⟩
      cases hw0
      go_wp2
      go_ret
      exact ⟨rfl, Below.refl _ _⟩
    go_enter Try.func6, Try.ntmps6
    go_wp2_with fail
    refine (zb13_yes cl cl2 re ret op key val fnd ifi ok ix _ Hsz.out).mono ?_
    rintro e w0 ⟨rfl, hw0⟩
    cases hw0
    go_wp2_with fail
    refine (f14_any cl cl2 re ret op key val fnd ifi ok ix _).mono ?_
    intro e w1 hpost
    have HP := hide hpost
    clear hpost
    rcases kinds op with hk5 | hk5 | hk5 | hk5 | hk5 | hk5
    · obtain ⟨he, hb⟩ := HP.out _ _ _ _ _ hk5
      simp at he
      subst he
      have HB := hide hb
      clear hb
      obtain ⟨k1, k2, k3, k4, k5⟩ := hk5
      go_wp2
      go_ret
      exact ⟨rfl, (HB.out.alloc HB.out.size _).alloc (by have := HB.out.size; simp; omega) _⟩
    · obtain ⟨he, hb⟩ := HP.out _ _ _ _ _ hk5
      simp at he
      subst he
      have HB := hide hb
      clear hb
      obtain ⟨k1, k2, k3, k4, k5⟩ := hk5
      go_wp2
      go_ret
      exact ⟨rfl, (HB.out.alloc HB.out.size _).alloc (by have := HB.out.size; simp; omega) _⟩
    · cases ret
      · obtain ⟨he, hb⟩ := HP.out _ _ _ _ _ hk5
        simp at he
        subst he
        have HB := hide hb
        clear hb
        obtain ⟨k1, k2, k3, k4, k5⟩ := hk5
        go_wp2
        go_ret
        exact ⟨rfl, (HB.out.alloc HB.out.size _).alloc (by have := HB.out.size; simp; omega) _⟩
      · obtain ⟨he, hb⟩ := HP.out _ _ _ _ _ hk5
        simp at he
        subst he
        have HB := hide hb
        clear hb
        obtain ⟨k1, k2, k3, k4, k5⟩ := hk5
        go_wp2
        go_ret
        exact ⟨rfl, (HB.out.alloc HB.out.size _).alloc (by have := HB.out.size; simp; omega) _⟩
    · cases ret
      · cases fnd
        · obtain ⟨he, hb⟩ := HP.out _ _ _ _ _ hk5
          simp at he
          subst he
          have HB := hide hb
          clear hb
          obtain ⟨k1, k2, k3, k4, k5⟩ := hk5
          go_wp2
          go_ret
          exact ⟨rfl, (HB.out.alloc HB.out.size _).alloc (by have := HB.out.size; simp; omega) _⟩
        · obtain ⟨he, hb⟩ := HP.out _ _ _ _ _ hk5
          simp at he
          subst he
          have HB := hide hb
          clear hb
          obtain ⟨k1, k2, k3, k4, k5⟩ := hk5
          go_wp2
          go_ret
          exact ⟨rfl, (HB.out.alloc HB.out.size _).alloc (by have := HB.out.size; simp; omega) _⟩
      · cases fnd
        · obtain ⟨he, hb⟩ := HP.out _ _ _ _ _ hk5
          simp at he
          subst he
          have HB := hide hb
          clear hb
          obtain ⟨k1, k2, k3, k4, k5⟩ := hk5
          go_wp2
          go_ret
          exact ⟨rfl, (HB.out.alloc HB.out.size _).alloc (by have := HB.out.size; simp; omega) _⟩
        · obtain ⟨he, hb⟩ := HP.out _ _ _ _ _ hk5
          simp at he
          subst he
          have HB := hide hb
          clear hb
          obtain ⟨k1, k2, k3, k4, k5⟩ := hk5
          go_wp2
          go_ret
          exact ⟨rfl, (HB.out.alloc HB.out.size _).alloc (by have := HB.out.size; simp; omega) _⟩
    · cases ret
      · cases fnd
        · obtain ⟨he, hb⟩ := HP.out _ _ _ _ _ hk5
          simp at he
          subst he
          have HB := hide hb
          clear hb
          obtain ⟨k1, k2, k3, k4, k5⟩ := hk5
          go_wp2
          go_ret
          exact ⟨rfl, (HB.out.alloc HB.out.size _).alloc (by have := HB.out.size; simp; omega) _⟩
        · obtain ⟨he, hb⟩ := HP.out _ _ _ _ _ hk5
          simp at he
          subst he
          have HB := hide hb
          clear hb
          obtain ⟨k1, k2, k3, k4, k5⟩ := hk5
          go_wp2
          go_ret
          exact ⟨rfl, (HB.out.alloc HB.out.size _).alloc (by have := HB.out.size; simp; omega) _⟩
      · cases fnd
        · obtain ⟨he, hb⟩ := HP.out _ _ _ _ _ hk5
          simp at he
          subst he
          have HB := hide hb
          clear hb
          obtain ⟨k1, k2, k3, k4, k5⟩ := hk5
          go_wp2
          go_ret
          exact ⟨rfl, (HB.out.alloc HB.out.size _).alloc (by have := HB.out.size; simp; omega) _⟩
        · obtain ⟨he, hb⟩ := HP.out _ _ _ _ _ hk5
          simp at he
          subst he
          have HB := hide hb
          clear hb
          obtain ⟨k1, k2, k3, k4, k5⟩ := hk5
          go_wp2
          go_ret
          exact ⟨rfl, (HB.out.alloc HB.out.size _).alloc (by have := HB.out.size; simp; omega) _⟩
    · obtain ⟨he, hb⟩ := HP.out _ _ _ _ _ hk5
      simp at he
      subst he
      have HB := hide hb
      clear hb
      obtain ⟨k1, k2, k3, k4, k5⟩ := hk5
      go_wp2
      go_ret
      exact ⟨rfl, (HB.out.alloc HB.out.size _).alloc (by have := HB.out.size; simp; omega) _⟩
  · go_enter Try.func6, Try.ntmps6
    go_wp2_with fail
    refine (zb13_no cl cl2 re ret op key val fnd ifi ok ix _ ho hk hv hsz).mono ?_
    rintro e w0 ⟨rfl, hw0⟩
    cases hw0
    go_wp2
    go_ret
    exact ⟨rfl, Below.refl _ _⟩

end Go.Proofs.Qxb6602010a
