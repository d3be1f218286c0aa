import Derived.Test.Qxb6003357aFold
import Derived.Deep.RegionWith
namespace Go.Proofs.Qxb6003357a
open Go.RowKit

/-- Three boxes and what lies below them. -/
structure Three (w : World) (a b c : ByteArray) (w1 : World) : Prop where
  bel : Below w.heap.size w w1
  c7 : w1.cell? ⟨w.heap.size + 1, 0, none⟩ = some (.string a)
  c8 : w1.cell? ⟨w.heap.size + 1 + 1 + 1, 0, none⟩ = some (.string b)
  c9 : w1.cell? ⟨w.heap.size + 1 + 1 + 1 + 1 + 1, 0, none⟩ = some (.string c)
  s9 : w.heap.size + 1 + 1 + 1 + 1 + 1 < w1.heap.size
theorem Three.next {w : World} {a b c : ByteArray} {w1 w2 : World} (h : Three w a b c w1) (hb : Below w1.heap.size w1 w2) : Three w a b c w2 := by
  obtain ⟨h1, h2, h3, h4, h5⟩ := h
  have := h1.size
  exact ⟨h1.trans (hb.mono this), by rw [hb.cell (by simp; omega)]; exact h2, by rw [hb.cell (by simp; omega)]; exact h3, by rw [hb.cell (by simp; omega)]; exact h4, Nat.lt_of_lt_of_le h5 hb.size⟩

theorem bcell {W w1 : World} (hb : Below W.heap.size W w1) : (∀ b o, b < W.heap.size → w1.cell? ⟨b, o, none⟩ = W.cell? ⟨b, o, none⟩) ∧ (∀ b o, b < W.heap.size → w1.frozen? ⟨b, o, none⟩ = W.frozen? ⟨b, o, none⟩) :=
  ⟨fun b o h => hb.cell (p := ⟨b, o, none⟩) h, fun b o h => hb.frozen (p := ⟨b, o, none⟩) h⟩

set_option maxHeartbeats 400000 in
theorem zb11_yes (a b c : ByteArray) (w : World) (h : a.size + b.size + c.size ≤ 1048576) :
    Calls Try.prog 11 #[.string a, .string b, .string c] w fun e w' => e = .returned (.bool true) ∧ w' = w := by
  have h1 : ¬ (1048576 : Int) < a.size := by omega
  have h2 : ¬ (1048576 : Int) < b.size := by omega
  have h3 : ¬ (1048576 : Int) < c.size := by omega
  have h4 : ¬ (1048576 : Int) < (a.size : Int) + b.size := by omega
  have h5 : ¬ (1048576 : Int) < (a.size : Int) + b.size + c.size := by omega
  go_enter Try.func11, Try.ntmps11
  go_wp2
  go_ret
  exact ⟨rfl, rfl⟩

set_option maxHeartbeats 400000 in
theorem zb11_no (a b c : ByteArray) (w : World) (ha : a.size ≤ maxLen) (hb : b.size ≤ maxLen) (hc : c.size ≤ maxLen) (h : ¬ a.size + b.size + c.size ≤ 1048576) :
    Calls Try.prog 11 #[.string a, .string b, .string c] w fun e w' => e = .returned (.bool false) ∧ w' = w := by
  unfold maxLen at ha hb hc
  by_cases h1 : (1048576 : Int) < a.size
  · go_enter Try.func11, Try.ntmps11
    go_wp2
    go_ret
    exact ⟨rfl, rfl⟩
  by_cases h2 : (1048576 : Int) < b.size
  · go_enter Try.func11, Try.ntmps11
    go_wp2
    go_ret
    exact ⟨rfl, rfl⟩
  by_cases h3 : (1048576 : Int) < (a.size : Int) + b.size
  · go_enter Try.func11, Try.ntmps11
    go_wp2
    go_ret
    exact ⟨rfl, rfl⟩
  by_cases h4 : (1048576 : Int) < c.size
  · go_enter Try.func11, Try.ntmps11
    go_wp2
    go_ret
    exact ⟨rfl, rfl⟩
  · have h5 : (1048576 : Int) < (a.size : Int) + b.size + c.size := by omega
    go_enter Try.func11, Try.ntmps11
    go_wp2
    go_ret
    exact ⟨rfl, rfl⟩

attribute [local go_sem] later_cell later_frozen later_size later_tape

set_option maxHeartbeats 1000000 in
theorem eqv_walk (a b c : ByteArray) (ha : a.size ≤ maxLen) (hb : b.size ≤ maxLen) (hc : c.size ≤ maxLen) (w : World) :
    Calls Try.prog 4 #[.string a, .string b, .string c] w fun e w' => e = .returned (.bool true) ∧ Below w.heap.size w w' := by
  by_cases hsz : a.size + b.size + c.size ≤ 1048576
  · have haa : foldEq a a = true := by simp [foldEq]
    have hsym : foldEq b a = foldEq a b := by unfold foldEq; exact Bool.beq_comm
    have htr : foldEq a b = true → foldEq b c = true → foldEq a c = true := by
      unfold foldEq; simp only [beq_iff_eq]; intro h1 h2; rw [h1, h2]
    have h5 : ¬ (1048576 : Int) < (a.size : Int) + b.size + c.size := by omega
    have Haa := hide haa
    have Hsym := hide hsym
    have Htr := hide htr
    clear haa hsym htr
    have Hsz := hide hsz
    clear hsz
    go_enter Try.func4, Try.ntmps4
    go_wp2_with fail
    refine (zb11_yes a b c _ Hsz.out).mono ?_
    rintro e w0 ⟨rfl, hw0⟩
    cases hw0
    go_wp2_with (go_at_call 12; refine (name_any _ _).mono ?_; rintro e w' ⟨rfl, rfl⟩)
    refine (fold_any a a _ ha ha).mono ?_
    rintro e w1 ⟨rfl, hbel⟩
    have HT : Hid (Three w a b c w1) := by
      refine ⟨?_, by rw [hbel.cell (by simp)]; go_simp, by rw [hbel.cell (by simp)]; go_simp, by rw [hbel.cell (by simp)]; go_simp, by have := hbel.size; simp at this; omega⟩
      refine Below.trans ?_ (hbel.mono (by simp; omega))
      repeat (first | exact Below.refl _ _ | refine Below.alloc ?_ (by simp; try omega) _)
    clear hbel
    rw [Haa.out]
    obtain ⟨_, c7, c8, c9, s9⟩ := HT.out
    have s8 : w.heap.size + 1 + 1 + 1 < w1.heap.size := by omega
    have s7 : w.heap.size + 1 < w1.heap.size := by omega
    go_wp2_with fail
    refine region_later (by kernel_rfl) (by kernel_rfl) ?_
    repeat (go_big_quiet_step ((go_at_call 13; exact quiet_below (fold_any _ _ _ (by assumption) (by assumption)))))
    refine wpQuiet_nil ?_
    rintro _ ⟨x, rfl⟩
    have HT2 : Hid (Three w a b c (later w1 x)) := HT.out.next (later_below _ _)
    generalize later w1 x = w2 at *
    clear c7 c8 c9 s7 s8 s9 HT
    obtain ⟨_, c7, c8, c9, s9⟩ := HT2.out
    rw [Hsym.out, show (!foldEq a b == foldEq a b) = false from by simp]
    go_wp2_with fail
    refine (fold_any a b _ ha hb).mono ?_
    rintro e w3 ⟨rfl, hb3⟩
    have HT3 : Hid (Three w a b c w3) := HT2.out.next hb3
    clear c7 c8 c9 s9 HT2 hb3
    obtain ⟨_, c7, c8, c9, s9⟩ := HT3.out
    have Htr' := Htr
    clear Htr
    cases hab : foldEq a b
    · go_wp2
      go_ret
      exact ⟨rfl, HT3.out.bel⟩
    · go_wp2_with fail
      refine (fold_any b c _ hb hc).mono ?_
      rintro e w4 ⟨rfl, hb4⟩
      have HT4 : Hid (Three w a b c w4) := HT3.out.next hb4
      clear c7 c8 c9 s9 HT3 hb4
      obtain ⟨_, c7, c8, c9, s9⟩ := HT4.out
      cases hbc : foldEq b c
      · go_wp2
        go_ret
        exact ⟨rfl, HT4.out.bel⟩
      · have Hac : Hid (foldEq a c = true) := Htr'.out hab hbc
        go_wp2_with fail
        refine (fold_any a c _ ha hc).mono ?_
        rintro e w5 ⟨rfl, hb5⟩
        have HT5 : Hid (Three w a b c w5) := HT4.out.next hb5
        rw [Hac.out]
        go_wp2
        go_ret
        exact ⟨rfl, HT5.out.bel⟩
  · go_enter Try.func4, Try.ntmps4
    go_wp2_with fail
    refine (zb11_no a b c _ ha hb hc hsz).mono ?_
    rintro e w' ⟨rfl, rfl⟩
    go_wp2
    go_ret
    exact ⟨rfl, Below.refl _ _⟩

end Go.Proofs.Qxb6003357a
