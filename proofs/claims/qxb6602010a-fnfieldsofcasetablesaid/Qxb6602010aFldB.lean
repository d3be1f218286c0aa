import Derived.Test.Qxb6602010aFld
namespace Go.Proofs.Qxb6602010a
open Go.RowKit

set_option maxHeartbeats 2000000 in
theorem f14_any (cl cl2 re : Int) (ret : Bool) (op key val : ByteArray) (fnd : Bool) (ifi : Int) (ok : Bool) (ix : Int) (w : World) :
    Calls Try.prog 14 #[.agg (opC cl cl2 re ret op key val fnd ifi ok ix)] w (FldPost w ret fnd ifi ok ix op) := by
  go_enter Try.func14, Try.ntmps14
  go_wp2_with fail
  refine (f18_any cl cl2 re ret op key val fnd ifi ok ix _).mono ?_
  intro e w1 hpost
  obtain ⟨a, b, c, d, f, rfl, HF, hb⟩ : ∃ a b c d f, e = .returned (.agg (fC a b c d f)) ∧ Hid (∀ w', Below w.heap.size w w' → FldPost w ret fnd ifi ok ix op (.returned (.agg (fC a b c d f))) w') ∧ Below ((w.alloc (.cells (opC cl cl2 re ret op key val fnd ifi ok ix) 36)).alloc (.cells #[.bool false, .bool false, .bool false, .bool false, .bool false] 32)).heap.size ((w.alloc (.cells (opC cl cl2 re ret op key val fnd ifi ok ix) 36)).alloc (.cells #[.bool false, .bool false, .bool false, .bool false, .bool false] 32)) w1 := by
    rcases kinds op with hk | hk | hk | hk | hk | hk
    all_goals
      obtain ⟨he, hb⟩ := hpost _ _ _ _ _ hk
      exact ⟨_, _, _, _, _, he, fun w' h => fld_of hk rfl rfl rfl rfl rfl h, hb⟩
  have HB : Hid (Below w.heap.size w w1) := (((Below.refl _ _).alloc (Nat.le_refl _) _).alloc (by simp) _).trans (hb.mono (by simp; omega))
  have z1 : w.heap.size + 1 < w1.heap.size := by have := hb.size; simp at this; omega
  have hr : ∀ j, j < 5 → w1.cell? ⟨w.heap.size + 1, j, none⟩ = some (.bool false) := by
    intro j hj
    rw [hb.cell (by simp)]
    match j, hj with
    | 0, _ => go_simp
    | 1, _ => go_simp
    | 2, _ => go_simp
    | 3, _ => go_simp
    | 4, _ => go_simp
  have hf : ∀ j, w1.frozen? ⟨w.heap.size + 1, j, none⟩ = false := fun j => by rw [hb.frozen (by simp)]; go_simp
  have e0 := hr 0 (by omega)
  have e1 := hr 1 (by omega)
  have e2 := hr 2 (by omega)
  have e3 := hr 3 (by omega)
  have e4 := hr 4 (by omega)
  have f0 := hf 0
  have f1 := hf 1
  have f2 := hf 2
  have f3 := hf 3
  have f4 := hf 4
  clear hr hf hb hpost
  go_wp2
  refine bodyPost_ret (v := .agg (fC a b c d f)) (by simp [results, Try.results14, go_sem, z1, e0, e1, e2, e3, e4]) rfl (HF.out _ ?_)
  exact (((((HB.out.setCell (by simp) _).setCell (by simp) _).setCell (by simp) _).setCell (by simp) _).setCell (by simp) _).alloc (by have := HB.out.size; simp; omega) _

set_option maxHeartbeats 400000 in
theorem zb13_no (cl cl2 re : Int) (ret : Bool) (op key val : ByteArray) (fnd : Bool) (ifi : Int) (ok : Bool) (ix : Int) (w : World) (ho : op.size ≤ maxLen) (hk : key.size ≤ maxLen) (hv : val.size ≤ maxLen) (h : ¬ op.size + key.size + val.size ≤ 1048576) :
    Calls Try.prog 13 #[.int .i64 cl, .int .i64 cl2, .int .i64 re, .bool ret, .string op, .string key, .string val, .bool fnd, .int .i64 ifi, .bool ok, .int .i64 ix] w fun e w' => e = .returned (.bool false) ∧ w' = w := by
  unfold maxLen at ho hk hv
  by_cases h1 : (1048576 : Int) < op.size
  · go_enter Try.func13, Try.ntmps13
    go_wp2
    go_ret
    exact ⟨rfl, rfl⟩
  by_cases h2 : (1048576 : Int) < key.size
  · go_enter Try.func13, Try.ntmps13
    go_wp2
    go_ret
    exact ⟨rfl, rfl⟩
  by_cases h3 : (1048576 : Int) < (op.size : Int) + key.size
  · go_enter Try.func13, Try.ntmps13
    go_wp2
    go_ret
    exact ⟨rfl, rfl⟩
  by_cases h4 : (1048576 : Int) < val.size
  · go_enter Try.func13, Try.ntmps13
    go_wp2
    go_ret
    exact ⟨rfl, rfl⟩
  · have h5 : (1048576 : Int) < (op.size : Int) + key.size + val.size := by omega
    go_enter Try.func13, Try.ntmps13
    go_wp2
    go_ret
    exact ⟨rfl, rfl⟩

set_option maxHeartbeats 400000 in
theorem zb13_yes (cl cl2 re : Int) (ret : Bool) (op key val : ByteArray) (fnd : Bool) (ifi : Int) (ok : Bool) (ix : Int) (w : World) (h : op.size + key.size + val.size ≤ 1048576) :
    Calls Try.prog 13 #[.int .i64 cl, .int .i64 cl2, .int .i64 re, .bool ret, .string op, .string key, .string val, .bool fnd, .int .i64 ifi, .bool ok, .int .i64 ix] w fun e w' => e = .returned (.bool true) ∧ w' = w := by
  have h1 : ¬ (1048576 : Int) < op.size := by omega
  have h2 : ¬ (1048576 : Int) < key.size := by omega
  have h3 : ¬ (1048576 : Int) < (op.size : Int) + key.size := by omega
  have h4 : ¬ (1048576 : Int) < val.size := by omega
  have h5 : ¬ (1048576 : Int) < (op.size : Int) + key.size + val.size := by omega
  go_enter Try.func13, Try.ntmps13
  go_wp2
  go_ret
  exact ⟨rfl, rfl⟩

end Go.Proofs.Qxb6602010a
