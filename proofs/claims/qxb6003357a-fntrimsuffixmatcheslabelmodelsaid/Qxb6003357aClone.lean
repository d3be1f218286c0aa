import Derived.Test.Qxb6003357aFold
import Derived.Deep.OwnRows
import Derived.Lib.SliceRun
namespace Go.Proofs.Qxb6003357a
open Go.RowKit

/-- The slice (a, n) reads, in w, as the cells f 0 .. f (n-1). -/
def VRow (w : World) (a : Option Addr) (n : Nat) (f : Nat → Value) : Prop :=
  n = 0 ∨ ∃ b off, a = some ⟨b, off, none⟩ ∧ b < w.heap.size ∧ ∀ i, i < n → w.cell? ⟨b, off + i, none⟩ = some (f i)

theorem VRow.later {w w' : World} {a : Option Addr} {n : Nat} {f : Nat → Value} (h : VRow w a n f) (hb : Below w.heap.size w w') : VRow w' a n f := by
  rcases h with h | ⟨b, off, rfl, hlt, hc⟩
  · exact .inl h
  · exact .inr ⟨b, off, rfl, Nat.lt_of_lt_of_le hlt hb.size, fun i hi => by rw [hb.cell hlt]; exact hc i hi⟩

theorem info4 : (Try.prog.info? 4).map (fun i => (i.zero, i.size, i.bytes)) = some (some (.bool false), 1, 1) := by kernel_rfl
theorem info9 : (Try.prog.info? 9).map (fun i => (i.zero, i.size, i.bytes)) = some (some (.string ByteArray.empty), 1, 16) := by kernel_rfl

set_option maxHeartbeats 400000 in
theorem cloneBools_some (b off n c : Nat) (B : Nat → Bool) (w : World) (hn : n ≤ 1048576) (hb : b < w.heap.size) (hc : ∀ i, i < n → w.cell? ⟨b, off + i, none⟩ = some (.bool (B i))) :
    Calls Try.prog 15 #[.slice (some ⟨b, off, none⟩) n c] w fun e w' => e = .returned (.slice (some ⟨w.heap.size, 0, none⟩) n n) ∧ Below w.heap.size w w' ∧ w'.rowIs w.heap.size 4 n (fun j => .bool (B j)) := by
  have hmk := run_make_row' (P := Try.prog) 34 4 (.bool false) 1 Try.underlying34 info4 rfl .i64 .i64 n (by omega) (by omega)
  have heq := fun w' => Lib.run_eql_slice_nil (P := Try.prog) w' 34 4 (some ⟨b, off, none⟩) n c 0 0 Try.underlying34
  have Hc := hide hc
  clear hc
  go_enter Try.func15, Try.ntmps15
  go_wp2
  go_loopw [4] (fun i wr => ∃ k : Nat, k ≤ n ∧ i = .int .i64 k ∧ wr.rowIs w.heap.size 4 n (fun j => if j < k then .bool (B j) else .bool false) ∧ Below w.heap.size w wr) (fun i _ => n - (intOf i).toNat)
  case atStart =>
    exact ⟨0, Nat.zero_le _, rfl, World.rowIs_made w (.bool false) n 4, (Below.refl _ _).alloc (Nat.le_refl _) _⟩
  case round =>
    obtain ⟨k, hk, rfl, hrow, hbel⟩ := hrel
    have HR := hide hrow
    have HB := hide hbel
    by_cases hlt : k < n
    · have e1 : wr.cell? ⟨b, off + k, none⟩ = some (.bool (B k)) := by rw [hbel.cell hb]; exact Hc.out k hlt
      have e2 : wr.frozen? ⟨w.heap.size, k, none⟩ = false := hrow.frozen k
      have e3 : ∃ v, wr.cell? ⟨w.heap.size, k, none⟩ = some v := ⟨_, hrow.cell hlt⟩
      obtain ⟨v3, e3⟩ := e3
      have hi : (k : Int) < (n : Int) := by omega
      clear hrow hbel
      go_wp2
      go_roundw
      case rel =>
        refine ⟨k + 1, by omega, by go_num, ?_, HB.out.setCell (Nat.le_refl _) _⟩
        refine (HR.out.set k (.bool (B k))).congr fun j _ => ?_
        by_cases hj : j = k
        · subst hj; simp
        · by_cases hj2 : j < k
          · simp [hj, hj2, show j < k + 1 by omega]
          · simp [hj, hj2, show ¬ j < k + 1 by omega]
      case measure => simp [intOf]; omega
    · clear hrow hbel
      go_wp2
      go_ret
      refine ⟨rfl, HB.out, HR.out.congr fun j hj => ?_⟩
      simp [show j < k by omega]

set_option maxHeartbeats 400000 in
theorem cloneBools_nil (w : World) :
    Calls Try.prog 15 #[.slice none 0 0] w fun e w' => e = .returned (.slice none 0 0) ∧ Below w.heap.size w w' := by
  have heq := fun w' => Lib.run_eql_slice_nil (P := Try.prog) w' 34 4 none 0 0 0 0 Try.underlying34
  go_enter Try.func15, Try.ntmps15
  go_wp2
  go_ret
  exact ⟨rfl, Below.refl _ _⟩

set_option maxHeartbeats 400000 in
theorem cloneBools_empty (x : Addr) (c : Nat) (w : World) :
    Calls Try.prog 15 #[.slice (some x) 0 c] w fun e w' => e = .returned (.slice (some ⟨w.heap.size, 0, none⟩) 0 0) ∧ Below w.heap.size w w' := by
  have hmk := run_make_row' (P := Try.prog) 34 4 (.bool false) 1 Try.underlying34 info4 rfl .i64 .i64 0 (by omega) (by omega)
  have heq := fun w' => Lib.run_eql_slice_nil (P := Try.prog) w' 34 4 (some x) 0 c 0 0 Try.underlying34
  simp only [Int.natCast_zero] at hmk
  go_enter Try.func15, Try.ntmps15
  go_wp2
  go_loopw [4] (fun i wr => i = .int .i64 0 ∧ Below w.heap.size w wr) (fun i _ => 0)
  case atStart => exact ⟨rfl, (Below.refl _ _).alloc (Nat.le_refl _) _⟩
  case round =>
    obtain ⟨rfl, hbel⟩ := hrel
    have HB := hide hbel
    clear hbel
    go_wp2
    go_ret
    exact ⟨rfl, HB.out⟩

theorem cloneBools_any (a : Option Addr) (n c : Nat) (B : Nat → Bool) (w : World) (hn : n ≤ 1048576) (hnil : a = none → n = 0 ∧ c = 0) (hr : VRow w a n (fun i => .bool (B i))) :
    Calls Try.prog 15 #[.slice a n c] w fun e w' => ∃ a' c', e = .returned (.slice a' n c') ∧ Below w.heap.size w w' ∧ VRow w' a' n (fun i => .bool (B i)) := by
  rcases hr with rfl | ⟨b, off, rfl, hb, hc⟩
  · cases a with
    | none =>
      obtain ⟨_, rfl⟩ := hnil rfl
      exact (cloneBools_nil w).mono fun e w' ⟨he, hb⟩ => ⟨_, _, he, hb, .inl rfl⟩
    | some x => exact (cloneBools_empty x c w).mono fun e w' ⟨he, hb⟩ => ⟨_, _, he, hb, .inl rfl⟩
  · exact (cloneBools_some b off n c B w hn hb hc).mono fun e w' ⟨he, hb, hr⟩ => ⟨_, _, he, hb, .inr ⟨_, _, rfl, hr.lt, fun i hi => by rw [Nat.zero_add]; exact hr.cell hi⟩⟩

end Go.Proofs.Qxb6003357a
