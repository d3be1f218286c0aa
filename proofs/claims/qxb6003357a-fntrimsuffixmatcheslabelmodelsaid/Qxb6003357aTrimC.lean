import Derived.Test.Qxb6003357aTrimB
namespace Go.Proofs.Qxb6003357a
open Go.RowKit

set_option maxHeartbeats 400000 in
theorem cloneStrs_some (b off n c : Nat) (S : Nat → ByteArray) (w : World) (hn : n ≤ 1048576) (hb : b < w.heap.size) (hc : ∀ i, i < n → w.cell? ⟨b, off + i, none⟩ = some (.string (S i))) :
    Calls Try.prog 21 #[.slice (some ⟨b, off, none⟩) n c] w fun e w' => e = .returned (.slice (some ⟨w.heap.size, 0, none⟩) n n) ∧ Below w.heap.size w w' ∧ w'.rowIs w.heap.size 9 n (fun j => .string (S j)) := by
  have hmk := run_make_row' (P := Try.prog) 41 9 (.string ByteArray.empty) 16 Try.underlying41 info9 rfl .i64 .i64 n (by omega) (by omega)
  have heq := fun w' => Lib.run_eql_slice_nil (P := Try.prog) w' 41 9 (some ⟨b, off, none⟩) n c 0 0 Try.underlying41
  have Hc := hide hc
  clear hc
  go_enter Try.func21, Try.ntmps21
  go_wp2
  go_loopw [4] (fun i wr => ∃ k : Nat, k ≤ n ∧ i = .int .i64 k ∧ wr.rowIs w.heap.size 9 n (fun j => if j < k then .string (S j) else .string ByteArray.empty) ∧ Below w.heap.size w wr) (fun i _ => n - (intOf i).toNat)
  case atStart =>
    exact ⟨0, Nat.zero_le _, rfl, World.rowIs_made w (.string ByteArray.empty) n 9, (Below.refl _ _).alloc (Nat.le_refl _) _⟩
  case round =>
    obtain ⟨k, hk, rfl, hrow, hbel⟩ := hrel
    have HR := hide hrow
    have HB := hide hbel
    by_cases hlt : k < n
    · have e1 : wr.cell? ⟨b, off + k, none⟩ = some (.string (S k)) := by rw [hbel.cell hb]; exact Hc.out k hlt
      have e2 : wr.frozen? ⟨w.heap.size, k, none⟩ = false := hrow.frozen k
      have e3 : ∃ v, wr.cell? ⟨w.heap.size, k, none⟩ = some v := ⟨_, hrow.cell hlt⟩
      obtain ⟨v3, e3⟩ := e3
      have hi : (k : Int) < (n : Int) := by omega
      clear hrow hbel
      go_wp2
      go_roundw
      case rel =>
        refine ⟨k + 1, by omega, by go_num, ?_, HB.out.setCell (Nat.le_refl _) _⟩
        refine (HR.out.set k (.string (S k))).congr fun j _ => ?_
        by_cases hj : j = k
        · subst hj; simp
        · by_cases hj2 : j < k
          · simp [hj, hj2, show j < k + 1 by omega]
          · simp [hj, hj2, show ¬ j < k + 1 by omega]
      case measure => simp [intOf]; omega
    · clear hrow hbel
      go_wp2
      go_ret
      refine ⟨rfl, HB.out, HR.out.congr fun j hj => ?_⟩
      simp [show j < k by omega]

set_option maxHeartbeats 400000 in
theorem cloneStrs_nil (w : World) :
    Calls Try.prog 21 #[.slice none 0 0] w fun e w' => e = .returned (.slice none 0 0) ∧ Below w.heap.size w w' := by
  have heq := fun w' => Lib.run_eql_slice_nil (P := Try.prog) w' 41 9 none 0 0 0 0 Try.underlying41
  go_enter Try.func21, Try.ntmps21
  go_wp2
  go_ret
  exact ⟨rfl, Below.refl _ _⟩

set_option maxHeartbeats 400000 in
theorem cloneStrs_empty (x : Addr) (c : Nat) (w : World) :
    Calls Try.prog 21 #[.slice (some x) 0 c] w fun e w' => e = .returned (.slice (some ⟨w.heap.size, 0, none⟩) 0 0) ∧ Below w.heap.size w w' := by
  have hmk := run_make_row' (P := Try.prog) 41 9 (.string ByteArray.empty) 16 Try.underlying41 info9 rfl .i64 .i64 0 (by omega) (by omega)
  have heq := fun w' => Lib.run_eql_slice_nil (P := Try.prog) w' 41 9 (some x) 0 c 0 0 Try.underlying41
  simp only [Int.natCast_zero] at hmk
  go_enter Try.func21, Try.ntmps21
  go_wp2
  go_loopw [4] (fun i wr => i = .int .i64 0 ∧ Below w.heap.size w wr) (fun i _ => 0)
  case atStart => exact ⟨rfl, (Below.refl _ _).alloc (Nat.le_refl _) _⟩
  case round =>
    obtain ⟨rfl, hbel⟩ := hrel
    have HB := hide hbel
    clear hbel
    go_wp2
    go_ret
    exact ⟨rfl, HB.out⟩

/-- What a copy is: as long as its capacity, nil only where it is empty. -/
def CloneOf (w : World) (ls : List ByteArray) (e : Ending) (w' : World) : Prop :=
  ∃ a' , e = .returned (.slice a' ls.length ls.length) ∧ Below w.heap.size w w' ∧ SRow w' a' ls

theorem cloneStrs_any (a : Option Addr) (ls : List ByteArray) (c : Nat) (w : World) (hn : ls.length ≤ 1048576) (hnil : a = none → ls.length = 0 ∧ c = 0) (hr : SRow w a ls) :
    Calls Try.prog 21 #[.slice a ls.length c] w (CloneOf w ls) := by
  rcases hr with h0 | ⟨b, off, rfl, hb, hc⟩
  · cases a with
    | none =>
      obtain ⟨_, rfl⟩ := hnil rfl
      rw [h0]
      exact (cloneStrs_nil w).mono fun e w' ⟨he, hb⟩ => ⟨_, by rw [h0]; exact he, hb, .inl h0⟩
    | some x =>
      rw [h0]
      exact (cloneStrs_empty x c w).mono fun e w' ⟨he, hb⟩ => ⟨_, by rw [h0]; exact he, hb, .inl h0⟩
  · exact (cloneStrs_some b off ls.length c (lab ls) w hn hb hc).mono fun e w' ⟨he, hb, hr⟩ => ⟨_, he, hb, .inr ⟨_, _, rfl, hr.lt, fun i hi => by rw [Nat.zero_add]; exact hr.cell hi⟩⟩

def WfPost (ls : List ByteArray) (e : Ending) : Prop := ∃ r, e = .returned (.bool r) ∧ (r = true → WF ls)

set_option maxHeartbeats 1000000 in
theorem wf_any (a : Option Addr) (ls : List ByteArray) (c : Nat) (w : World) (hn : ls.length ≤ 1048576) (h0 : SRow w a ls) (s0 : ∀ i, i < ls.length → (lab ls i).size ≤ 1048576) :
    Calls Try.prog 22 #[.slice a ls.length c] w fun e w' => WfPost ls e ∧ w' = w := by
  have H0 := hide h0
  have S0 := hide s0
  clear h0 s0
  obtain ⟨n, hn'⟩ : ∃ n, n = ls.length := ⟨_, rfl⟩
  rw [← hn']
  rw [← hn'] at hn
  have Hn := hide hn'
  clear hn'
  go_enter Try.func22, Try.ntmps22
  go_wp2
  go_loop [3, 4] (fun t i => ∃ k T : Nat, k ≤ n ∧ i = .int .i64 k ∧ t = .int .i64 T ∧ T ≤ 254 ∧ Hid (T = (wire (ls.take k)).length) ∧ Hid (Labels (ls.take k))) (fun _ i => n - (intOf i).toNat)
  case atStart => exact ⟨0, 0, Nat.zero_le _, rfl, rfl, by omega, rfl, fun s hs => by simp at hs⟩
  case round =>
    obtain ⟨k, T, hk, rfl, rfl, hT, HT, HL⟩ := hrel
    by_cases hlt : k < n
    · have hkl : k < ls.length := by rw [← Hn.out]; exact hlt
      obtain ⟨b, off, rfl, hb, hc⟩ := H0.out.at hkl
      have e1 := hc k hkl
      have hsz : (lab ls k).size ≤ 1048576 := S0.out k hkl
      have HW : Hid ((wire (ls.take (k + 1))).length = T + (1 + (lab ls k).size)) := by
        show (wire (ls.take (k + 1))).length = T + (1 + (lab ls k).size)
        rw [wire_take_succ_len ls k hkl, HT.out]; omega
      have HM : Hid (1 ≤ (lab ls k).size → (lab ls k).size ≤ 63 → Labels (ls.take (k + 1))) := by
        intro ha hb s hs
        rw [take_lab ls k hkl, List.mem_append] at hs
        rcases hs with hs | hs
        · exact HL.out s hs
        · rw [List.mem_singleton] at hs; subst hs; exact ⟨ha, hb⟩
      obtain ⟨x, hx⟩ : ∃ x, x = lab ls k := ⟨_, rfl⟩
      rw [← hx] at e1 hsz HW HM
      clear hx hc hkl
      have hi1 : (k : Int) < (n : Int) := by omega
      by_cases hs1 : (x.size : Int) < 1
      · go_wp2
        go_ret
        exact ⟨⟨false, rfl, fun h => by cases h⟩, rfl⟩
      · by_cases hs2 : (63 : Int) < x.size
        · go_wp2
          go_ret
          exact ⟨⟨false, rfl, fun h => by cases h⟩, rfl⟩
        · by_cases hs3 : (254 : Int) < (T : Int) + (1 + x.size)
          · go_wp2
            go_ret
            exact ⟨⟨false, rfl, fun h => by cases h⟩, rfl⟩
          · go_wp2
            go_round
            case rel => exact ⟨k + 1, T + (1 + x.size), by omega, by go_num, by go_num, by omega, HW.out.symm, HM.out (by omega) (by omega)⟩
            case measure => simp [intOf]; omega
    · have HE : Hid (WF ls) := by
        have e : ls.take k = ls := List.take_of_length_le (by have := Hn.out; omega)
        have h1 := HL.out
        have h2 := HT.out
        rw [e] at h1 h2
        exact ⟨h1, by omega⟩
      go_wp2
      go_ret
      exact ⟨⟨true, rfl, fun _ => HE.out⟩, rfl⟩

end Go.Proofs.Qxb6003357a
