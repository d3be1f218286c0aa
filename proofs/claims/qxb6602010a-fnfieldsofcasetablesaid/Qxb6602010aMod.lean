import Derived.Test.Qxb6602010aRows
import Derived.WalkKit
import Derived.WalkSpells
import Derived.WalkLawsBesides
import Derived.Deep.QuietTactic
import Derived.BigQuiet
import Derived.Outline
namespace Go.Proofs.Qxb6602010a
open Go.RowKit

theorem hide {p : Prop} (h : p) : Hid p := h
theorem ret_bool {a b : Bool} (h : a = b) : Ending.returned (.bool a) = .returned (.bool b) := by rw [h]

theorem bcell {W w1 : World} (hb : Below W.heap.size W w1) : (∀ b o, b < W.heap.size → w1.cell? ⟨b, o, none⟩ = W.cell? ⟨b, o, none⟩) ∧ (∀ b o, b < W.heap.size → w1.frozen? ⟨b, o, none⟩ = W.frozen? ⟨b, o, none⟩) :=
  ⟨fun b o h => hb.cell (p := ⟨b, o, none⟩) h, fun b o h => hb.frozen (p := ⟨b, o, none⟩) h⟩

/-- modifiedAt's answer: can the state (present p, range [lo, hi]) have the index i? -/
def mOk (p : Bool) (lo hi i : Int) : Bool := if p then decide (lo ≤ i ∧ i ≤ hi) else i == 0
/-- .. and the narrowed range. -/
def mLo (p : Bool) (lo hi i : Int) : Int := if p = true ∧ lo ≤ i ∧ i ≤ hi then i else lo
def mHi (p : Bool) (lo hi i : Int) : Int := if p = true ∧ lo ≤ i ∧ i ≤ hi then i else hi

abbrev KS (p : Bool) (v : ByteArray) (lo hi : Int) : Value := .agg #[.bool p, .string v, .int .i64 lo, .int .i64 hi]

def ModPost (p : Bool) (v : ByteArray) (lo hi i : Int) (w : World) (e : Ending) (w' : World) : Prop :=
  e = .returned (.tuple #[KS p v (mLo p lo hi i) (mHi p lo hi i), .bool (mOk p lo hi i)]) ∧ Below w.heap.size w w'

theorem mod_no (v : ByteArray) (lo hi i : Int) {w w' : World} (hb : Below w.heap.size w w') : ModPost false v lo hi i w (.returned (.tuple #[KS false v lo hi, .bool (i == 0)])) w' :=
  ⟨by simp [mLo, mHi, mOk], hb⟩
theorem mod_out (v : ByteArray) (lo hi i : Int) {w w' : World} (h : ¬ (lo ≤ i ∧ i ≤ hi)) (hb : Below w.heap.size w w') : ModPost true v lo hi i w (.returned (.tuple #[KS true v lo hi, .bool false])) w' :=
  ⟨by simp only [mLo, mHi, mOk, h, and_false, if_false, if_true, decide_false], hb⟩
theorem mod_in (v : ByteArray) (lo hi i : Int) {w w' : World} (h : lo ≤ i ∧ i ≤ hi) (hb : Below w.heap.size w w') : ModPost true v lo hi i w (.returned (.tuple #[KS true v i i, .bool true])) w' :=
  ⟨by simp [mLo, mHi, mOk, h], hb⟩

set_option maxHeartbeats 400000 in
theorem mod16_any (p : Bool) (v : ByteArray) (lo hi i : Int) (w : World) :
    Calls Try.prog 16 #[KS p v lo hi, .int .i64 i] w (ModPost p v lo hi i w) := by
  cases p
  · go_enter Try.func16, Try.ntmps16
    go_wp2
    exact bodyPost_ret (v := .tuple #[KS false v lo hi, .bool (i == 0)]) (by simp [results, Try.results16, go_sem]) rfl (mod_no v lo hi i (((Below.refl _ _).alloc (Nat.le_refl _) _).alloc (by simp) _))
  · by_cases h1 : i < lo
    · go_enter Try.func16, Try.ntmps16
      go_wp2
      exact bodyPost_ret (v := .tuple #[KS true v lo hi, .bool false]) (by simp [results, Try.results16, go_sem]) rfl (mod_out v lo hi i (by omega) (((Below.refl _ _).alloc (Nat.le_refl _) _).alloc (by simp) _))
    · by_cases h2 : hi < i
      · go_enter Try.func16, Try.ntmps16
        go_wp2
        exact bodyPost_ret (v := .tuple #[KS true v lo hi, .bool false]) (by simp [results, Try.results16, go_sem]) rfl (mod_out v lo hi i (by omega) (((Below.refl _ _).alloc (Nat.le_refl _) _).alloc (by simp) _))
      · go_enter Try.func16, Try.ntmps16
        go_wp2
        exact bodyPost_ret (v := .tuple #[KS true v i i, .bool true]) (by simp [results, Try.results16, go_sem]) rfl (mod_in v lo hi i (by omega) (((Below.refl _ _).alloc (Nat.le_refl _) _).alloc (by simp) _))

set_option maxHeartbeats 400000 in
theorem mod9_any (p : Bool) (v : ByteArray) (lo hi i : Int) (w : World) :
    Calls Try.prog 9 #[KS p v lo hi, .int .i64 i] w (ModPost p v lo hi i w) := by
  go_enter Try.func9, Try.ntmps9
  go_wp2_with fail
  refine (mod16_any p v lo hi i _).mono ?_
  rintro e w1 ⟨rfl, hb⟩
  have HB := hide hb
  have z1 : w.heap.size + 1 < w1.heap.size := by have := hb.size; simp at this; omega
  obtain ⟨hc, hf⟩ := bcell hb
  clear hb
  obtain ⟨a, ha⟩ : ∃ a, a = mLo p lo hi i := ⟨_, rfl⟩
  obtain ⟨b, hb⟩ : ∃ b, b = mHi p lo hi i := ⟨_, rfl⟩
  obtain ⟨c, hcc⟩ : ∃ c, c = mOk p lo hi i := ⟨_, rfl⟩
  rw [← ha, ← hb, ← hcc]
  have HA := hide (And.intro ha (And.intro hb hcc))
  clear ha hb hcc
  go_wp2
  refine bodyPost_ret (v := .tuple #[KS p v a b, .bool c]) (by simp [results, Try.results9, go_sem, hc, z1]) rfl ⟨by rw [HA.out.1, HA.out.2.1, HA.out.2.2], ?_⟩
  have h0 : Below w.heap.size w w1 := (((Below.refl _ _).alloc (Nat.le_refl _) _).alloc (by simp) _).trans (HB.out.mono (by simp; omega))
  exact ((((h0.setCell (by simp) _).setCell (by simp) _).setCell (by simp) _).setCell (by simp) _).alloc (by have := h0.size; simp; omega) _

end Go.Proofs.Qxb6602010a
