import Derived.Test.Qxb6602010aNot
import Derived.Deep.OwnRows
import Derived.Lib.SliceRun
import Derived.StillTailTactics
namespace Go.Proofs.Qxb6602010a
open Go.RowKit

theorem info24 : (Try.prog.info? 24).map (fun i => (i.zero, i.size, i.bytes)) = some (some (KS false ⟨#[]⟩ 0 0), 4, 40) := by kernel_rfl

/-- Block g holds, from its head on, these states, four cells each. -/
def Held (w : World) (g : Nat) (p : Bool) (v : ByteArray) (ps : List (Int × Int)) : Prop :=
  ∀ k (h : k < ps.length), w.cell? ⟨g, k * 4, none⟩ = some (.bool p) ∧ w.cell? ⟨g, k * 4 + 1, none⟩ = some (.string v) ∧ w.cell? ⟨g, k * 4 + 2, none⟩ = some (.int .i64 ps[k].1) ∧ w.cell? ⟨g, k * 4 + 3, none⟩ = some (.int .i64 ps[k].2)

theorem pcs_at (p : Bool) (v : ByteArray) : ∀ (ps : List (Int × Int)) (k : Nat) (h : k < ps.length),
    (pcs p v ps)[k * 4]? = some (.bool p) ∧ (pcs p v ps)[k * 4 + 1]? = some (.string v) ∧ (pcs p v ps)[k * 4 + 2]? = some (.int .i64 ps[k].1) ∧ (pcs p v ps)[k * 4 + 3]? = some (.int .i64 ps[k].2)
  | [], k, h => by simp at h
  | q :: ps, 0, _ => by simp [pcs, pc]
  | q :: ps, k + 1, h => by
    have ih := pcs_at p v ps k (by simpa using h)
    have e : pcs p v (q :: ps) = pc p v q ++ pcs p v ps := by simp [pcs]
    have hl : (pc p v q).length = 4 := rfl
    rw [e]
    simp only [List.getElem_cons_succ]
    refine ⟨?_, ?_, ?_, ?_⟩
    · rw [List.getElem?_append_right (by omega), hl, show (k + 1) * 4 - 4 = k * 4 by omega]; exact ih.1
    · rw [List.getElem?_append_right (by omega), hl, show (k + 1) * 4 + 1 - 4 = k * 4 + 1 by omega]; exact ih.2.1
    · rw [List.getElem?_append_right (by omega), hl, show (k + 1) * 4 + 2 - 4 = k * 4 + 2 by omega]; exact ih.2.2.1
    · rw [List.getElem?_append_right (by omega), hl, show (k + 1) * 4 + 3 - 4 = k * 4 + 3 by omega]; exact ih.2.2.2

theorem held_of_own {w : World} {base g cap : Nat} {e : TypeId} {p : Bool} {v : ByteArray} {ps : List (Int × Int)} (h : w.ownsRow base e 4 (.slice (some ⟨g, 0, none⟩) ps.length cap) ps.length (pcs p v ps)) : Held w g p v ps := by
  intro k hk
  obtain ⟨h1, h2, h3, h4⟩ := pcs_at p v ps k hk
  have hadd : ∀ i, (⟨g, 0, none⟩ : Addr).add i = ⟨g, i, none⟩ := fun i => by unfold Addr.add; split <;> simp_all
  have hc := h.cells (g := g) rfl
  refine ⟨?_, ?_, ?_, ?_⟩
  · rw [← hadd]; exact hc _ _ h1
  · rw [← hadd]; exact hc _ _ h2
  · rw [← hadd]; exact hc _ _ h3
  · rw [← hadd]; exact hc _ _ h4

theorem Held.later {w w' : World} {g : Nat} {p : Bool} {v : ByteArray} {ps : List (Int × Int)} (h : Held w g p v ps) {B : Nat} (hb : Below B w w') (hg : g < B) : Held w' g p v ps := by
  intro k hk
  obtain ⟨h1, h2, h3, h4⟩ := h k hk
  exact ⟨by rw [hb.cell hg]; exact h1, by rw [hb.cell hg]; exact h2, by rw [hb.cell hg]; exact h3, by rw [hb.cell hg]; exact h4⟩

/-- A slice of states that the call made. -/
def PRow (w : World) (a : Option Addr) (p : Bool) (v : ByteArray) (ps : List (Int × Int)) : Prop :=
  ps = [] ∨ ∃ g, a = some ⟨g, 0, none⟩ ∧ g < w.heap.size ∧ Held w g p v ps

def NotPost (p : Bool) (v : ByteArray) (ps : List (Int × Int)) (w : World) (e : Ending) (w' : World) : Prop :=
  ∃ a c, e = .returned (.slice a ps.length c) ∧ PRow w' a p v ps ∧ Below w.heap.size w w'

theorem nm_len (p : Bool) (lo hi i : Int) : (nm p lo hi i).length ≤ 2 := by
  unfold nm
  split
  · split <;> simp
  · split
    · simp
    · split <;> split <;> simp

theorem make24 (n : Nat) (hn : n ≤ 2) (w : World) : (Instr.makeSlice 28 (.int .i64 (n : Int)) (.int .i64 (n : Int))).run Try.prog w = .ok (.slice (some ⟨w.heap.size, 0, none⟩) n n) (w.alloc (.cells (madeCells (KS false ⟨#[]⟩ 0 0).cells (n * 4)) 24)) := by
  obtain ⟨i0, h1, h2, h3, h4⟩ := info_parts info24
  have h := run_make (P := Try.prog) w 28 24 i0 _ Try.underlying28 h1 h2 .i64 .i64 n n (by omega) (Int.le_refl _) (by rw [h4]; omega) (by omega)
  rw [h3] at h
  simpa using h

/-- The copy, k states laid. -/
structure ORel (w1 : World) (n : Nat) (p : Bool) (v : ByteArray) (ps : List (Int × Int)) (k : Nat) (wr : World) : Prop where
  bel : Below w1.heap.size w1 wr
  sz : w1.heap.size < wr.heap.size
  cells : ∀ j, j < n * 4 → ∃ u, wr.cell? ⟨w1.heap.size, j, none⟩ = some u
  free : ∀ j, wr.frozen? ⟨w1.heap.size, j, none⟩ = false
  held : Held wr w1.heap.size p v (ps.take k)

theorem ORel.start (w1 : World) (n : Nat) (p : Bool) (v : ByteArray) (ps : List (Int × Int)) : ORel w1 n p v ps 0 (w1.alloc (.cells (madeCells (KS false ⟨#[]⟩ 0 0).cells (n * 4)) 24)) := by
  refine ⟨(Below.refl _ _).alloc (Nat.le_refl _) _, by simp, fun j hj => ?_, fun j => ?_, fun k h => by simp at h⟩
  · rw [World.cell?_alloc_mark]
    exact ⟨_, Array.getElem?_eq_getElem (by rw [size_madeCells]; exact hj)⟩
  · exact World.frozen?_alloc_new _ _ _ _

theorem ORel.drew {w1 : World} {n : Nat} {p : Bool} {v : ByteArray} {ps : List (Int × Int)} {k : Nat} {wr : World} (h : ORel w1 n p v ps k wr) : ORel w1 n p v ps k wr.drew :=
  ⟨h.bel.drew, h.sz, h.cells, h.free, h.held⟩

theorem ORel.next {w1 : World} {n : Nat} {p : Bool} {v : ByteArray} {ps : List (Int × Int)} {k : Nat} {wr : World} (h : ORel w1 n p v ps k wr) (hk : k < n) (hp : k < ps.length) :
    ORel w1 n p v ps (k + 1) ((((wr.setCell ⟨w1.heap.size, k * 4, none⟩ (.bool p)).setCell ⟨w1.heap.size, k * 4 + 1, none⟩ (.string v)).setCell ⟨w1.heap.size, k * 4 + 2, none⟩ (.int .i64 ps[k].1)).setCell ⟨w1.heap.size, k * 4 + 3, none⟩ (.int .i64 ps[k].2)) := by
  have hs : ∀ (w : World) (j j' : Nat) (x : Value), j ≠ j' → (w.setCell ⟨w1.heap.size, j', none⟩ x).cell? ⟨w1.heap.size, j, none⟩ = w.cell? ⟨w1.heap.size, j, none⟩ := fun w j j' x hne =>
    World.cell?_setCell_other _ _ _ _ (fun he => hne (by injection he with _ h2; exact h2.symm))
  obtain ⟨a0, b0⟩ := h.cells (k * 4) (by omega)
  obtain ⟨a1, b1⟩ := h.cells (k * 4 + 1) (by omega)
  obtain ⟨a2, b2⟩ := h.cells (k * 4 + 2) (by omega)
  obtain ⟨a3, b3⟩ := h.cells (k * 4 + 3) (by omega)
  have g0 := World.cell?_setCell_same' wr ⟨w1.heap.size, k * 4, none⟩ (.bool p) (by rw [b0]; rfl)
  have g1 := World.cell?_setCell_same' (wr.setCell ⟨w1.heap.size, k * 4, none⟩ (.bool p)) ⟨w1.heap.size, k * 4 + 1, none⟩ (.string v) (by rw [hs _ _ _ _ (by omega), b1]; rfl)
  have g2 := World.cell?_setCell_same' ((wr.setCell ⟨w1.heap.size, k * 4, none⟩ (.bool p)).setCell ⟨w1.heap.size, k * 4 + 1, none⟩ (.string v)) ⟨w1.heap.size, k * 4 + 2, none⟩ (.int .i64 ps[k].1) (by rw [hs _ _ _ _ (by omega), hs _ _ _ _ (by omega), b2]; rfl)
  have g3 := World.cell?_setCell_same' (((wr.setCell ⟨w1.heap.size, k * 4, none⟩ (.bool p)).setCell ⟨w1.heap.size, k * 4 + 1, none⟩ (.string v)).setCell ⟨w1.heap.size, k * 4 + 2, none⟩ (.int .i64 ps[k].1)) ⟨w1.heap.size, k * 4 + 3, none⟩ (.int .i64 ps[k].2) (by rw [hs _ _ _ _ (by omega), hs _ _ _ _ (by omega), hs _ _ _ _ (by omega), b3]; rfl)
  refine ⟨(((h.bel.setCell (Nat.le_refl _) _).setCell (Nat.le_refl _) _).setCell (Nat.le_refl _) _).setCell (Nat.le_refl _) _, by simpa [World.setCell] using h.sz, fun j hj => ?_, fun j => ?_, fun m hm => ?_⟩
  · obtain ⟨u, hu⟩ := h.cells j hj
    obtain ⟨u1, h1⟩ := cell?_setCell_some (p := ⟨w1.heap.size, k * 4, none⟩) (x := .bool p) hu
    obtain ⟨u2, h2⟩ := cell?_setCell_some (p := ⟨w1.heap.size, k * 4 + 1, none⟩) (x := .string v) h1
    obtain ⟨u3, h3⟩ := cell?_setCell_some (p := ⟨w1.heap.size, k * 4 + 2, none⟩) (x := .int .i64 ps[k].1) h2
    exact cell?_setCell_some h3
  · rw [World.frozen?_setCell, World.frozen?_setCell, World.frozen?_setCell, World.frozen?_setCell]
    exact h.free j
  · have hm' : m < k + 1 := by simp at hm; omega
    have hml : m < ps.length := by omega
    simp only [List.getElem_take]
    by_cases e : m = k
    · subst e
      refine ⟨?_, ?_, ?_, g3⟩
      · rw [hs _ _ _ _ (by omega), hs _ _ _ _ (by omega), hs _ _ _ _ (by omega)]; exact g0
      · rw [hs _ _ _ _ (by omega), hs _ _ _ _ (by omega)]; exact g1
      · rw [hs _ _ _ _ (by omega)]; exact g2
    · obtain ⟨c0, c1, c2, c3⟩ := h.held m (by simp; omega)
      simp only [List.getElem_take] at c2 c3
      refine ⟨?_, ?_, ?_, ?_⟩
      · rw [hs _ _ _ _ (by omega), hs _ _ _ _ (by omega), hs _ _ _ _ (by omega), hs _ _ _ _ (by omega)]; exact c0
      · rw [hs _ _ _ _ (by omega), hs _ _ _ _ (by omega), hs _ _ _ _ (by omega), hs _ _ _ _ (by omega)]; exact c1
      · rw [hs _ _ _ _ (by omega), hs _ _ _ _ (by omega), hs _ _ _ _ (by omega), hs _ _ _ _ (by omega)]; exact c2
      · rw [hs _ _ _ _ (by omega), hs _ _ _ _ (by omega), hs _ _ _ _ (by omega), hs _ _ _ _ (by omega)]; exact c3

set_option maxHeartbeats 1000000 in
theorem not12_any (p : Bool) (v : ByteArray) (lo hi i : Int) (w : World) (hlo : -9223372036854775808 ≤ lo) (hhi : hi ≤ 9223372036854775807) :
    Calls Try.prog 12 #[KS p v lo hi, .int .i64 i] w (NotPost p v (nm p lo hi i) w) := by
  have hlen := nm_len p lo hi i
  have heq := fun w' a n c => Lib.run_eql_slice_nil (P := Try.prog) w' 41 38 a n c 0 0 Try.underlying41
  go_enter Try.func12, Try.ntmps12
  go_wp2_with fail
  refine (not17_any p v lo hi i _ hlo hhi).mono ?_
  rintro e w1 ⟨x, rfl, hown, hb⟩
  obtain ⟨ps, hps⟩ : ∃ ps, ps = nm p lo hi i := ⟨_, rfl⟩
  rw [← hps] at hown hlen
  have Hps := hide hps
  clear hps
  have HB : Hid (Below w.heap.size w w1) := ((Below.refl _ _).alloc (Nat.le_refl _) _).trans (hb.mono (by simp))
  have z1 : w.heap.size < w1.heap.size := by have := hb.size; simp at this; omega
  clear hb
  rcases hown with ⟨hpl, ⟨rfl, hn⟩ | ⟨g, cap, cur, rfl, hbase, hg, hl, hm, hsz, htk⟩⟩
  · have hpn : ps = [] := List.length_eq_zero_iff.1 hn
    subst hpn
    clear hn hpl
    go_wp2
    go_ret
    rw [← Hps.out]
    exact ⟨_, _, rfl, .inl rfl, HB.out⟩
  · have HH : Hid (Held w1 g p v ps) := held_of_own (base := g) (e := 38) ⟨hpl, .inr ⟨g, cap, cur, rfl, Nat.le_refl _, hg, hl, hm, hsz, htk⟩⟩
    have hgl : g < w1.heap.size := by
      rcases Nat.lt_or_ge g w1.heap.size with h | h
      · exact h
      · rw [Array.getElem?_eq_none h] at hg; cases hg
    clear hpl hg hl hm hsz htk cur hbase
    obtain ⟨n, hn⟩ : ∃ n, n = ps.length := ⟨_, rfl⟩
    rw [← hn] at hlen ⊢
    have Hn := hide hn
    clear hn
    have hmk := make24 n hlen
    go_wp2
    go_loopw [7] (fun t wr => ∃ k : Nat, k ≤ n ∧ t = .int .i64 k ∧ Hid (ORel w1 n p v ps k wr)) (fun t _ => n - (intOf t).toNat)
    case atStart => exact ⟨0, Nat.zero_le _, rfl, ORel.start w1 n p v ps⟩
    case round =>
      obtain ⟨k, hk, rfl, HO⟩ := hrel
      clear hmk heq
      by_cases hlt : k < n
      · have hkp : k < ps.length := by rw [← Hn.out]; exact hlt
        obtain ⟨d0, d1, d2, d3⟩ := (HH.out.later HO.out.bel hgl) k hkp
        have f0 : wr.frozen? ⟨w1.heap.size, k * 4, none⟩ = false := HO.out.free _
        have f1 : wr.frozen? ⟨w1.heap.size, k * 4 + 1, none⟩ = false := HO.out.free _
        have f2 : wr.frozen? ⟨w1.heap.size, k * 4 + 2, none⟩ = false := HO.out.free _
        have f3 : wr.frozen? ⟨w1.heap.size, k * 4 + 3, none⟩ = false := HO.out.free _
        obtain ⟨u0, e0⟩ := HO.out.cells (k * 4) (by omega)
        obtain ⟨u1, e1⟩ := HO.out.cells (k * 4 + 1) (by omega)
        obtain ⟨u2, e2⟩ := HO.out.cells (k * 4 + 2) (by omega)
        obtain ⟨u3, e3⟩ := HO.out.cells (k * 4 + 3) (by omega)
        have HX : Hid (ORel w1 n p v ps (k + 1) ((((wr.setCell ⟨w1.heap.size, k * 4, none⟩ (.bool p)).setCell ⟨w1.heap.size, k * 4 + 1, none⟩ (.string v)).setCell ⟨w1.heap.size, k * 4 + 2, none⟩ (.int .i64 ps[k].1)).setCell ⟨w1.heap.size, k * 4 + 3, none⟩ (.int .i64 ps[k].2))) := HO.out.next hlt hkp
        obtain ⟨q1, hq1⟩ : ∃ q1, q1 = ps[k].1 := ⟨_, rfl⟩
        obtain ⟨q2, hq2⟩ : ∃ q2, q2 = ps[k].2 := ⟨_, rfl⟩
        rw [← hq1] at d2 HX
        rw [← hq2] at d3 HX
        clear hq1 hq2 hkp
        have hi1 : (k : Int) < (n : Int) := by omega
        go_wp2
        go_still_tail 24, (by kernel_rfl)
        go_wp2
        go_roundw
        case rel => exact ⟨k + 1, by omega, by go_num, HX.out.drew⟩
        case measure => simp [intOf]; omega
      · have HX : Hid (PRow wr (some ⟨w1.heap.size, 0, none⟩) p v ps) := by
          refine .inr ⟨_, rfl, HO.out.sz, ?_⟩
          have h := HO.out.held
          rw [List.take_of_length_le (by have := Hn.out; omega)] at h
          exact h
        have HZ : Hid (Below w.heap.size w wr) := HB.out.trans (HO.out.bel.mono HB.out.size)
        go_wp2
        go_ret
        rw [← Hps.out]
        exact ⟨_, n, by rw [← Hn.out]; rfl, HX.out, HZ.out⟩

end Go.Proofs.Qxb6602010a
