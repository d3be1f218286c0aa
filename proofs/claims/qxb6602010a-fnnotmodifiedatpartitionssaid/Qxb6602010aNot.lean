import Derived.Test.Qxb6602010aMod
import Derived.Maps.AppendAt
import Derived.OwnWalk
namespace Go.Proofs.Qxb6602010a
open Go.RowKit

theorem info38 : (Try.prog.info? 38).map (fun i => (i.zero, i.size, i.bytes)) = some (some (KS false ⟨#[]⟩ 0 0), 4, 40) := by kernel_rfl

/-- The ranges that notModifiedAt leaves. -/
def nm (p : Bool) (lo hi i : Int) : List (Int × Int) :=
  if p = false then (if i = 0 then [] else [(lo, hi)])
  else if i < lo ∨ hi < i then [(lo, hi)]
  else (if lo < i then [(lo, i - 1)] else []) ++ (if i < hi then [(i + 1, hi)] else [])

def pc (p : Bool) (v : ByteArray) (q : Int × Int) : List Value := [.bool p, .string v, .int .i64 q.1, .int .i64 q.2]
def pcs (p : Bool) (v : ByteArray) (ps : List (Int × Int)) : List Value := ps.flatMap (pc p v)

/-- A slice value of the call's own that holds these states. -/
def NmPost (p : Bool) (v : ByteArray) (ps : List (Int × Int)) (w : World) (e : Ending) (w' : World) : Prop :=
  ∃ x, e = .returned x ∧ w'.ownsRow w.heap.size 38 4 x ps.length (pcs p v ps) ∧ Below w.heap.size w w'

theorem nm_nil {p : Bool} {v : ByteArray} {ps : List (Int × Int)} (h : ps = []) {w w' : World} (hb : Below w.heap.size w w') : NmPost p v ps w (.returned (.slice none 0 0)) w' := by
  subst h
  exact ⟨_, rfl, World.ownsRow_nil _ _ _ _, hb⟩
theorem nm_lit {p : Bool} {v : ByteArray} {ps : List (Int × Int)} {lo hi : Int} (h : ps = [(lo, hi)]) {w : World} (o : Obj) :
    NmPost p v ps w (.returned (.slice (some ⟨w.heap.size + 1, 0, none⟩) 1 1)) ((w.alloc o).alloc (.cells #[.bool p, .string v, .int .i64 lo, .int .i64 hi] 38)) := by
  subst h
  refine ⟨_, rfl, ?_, ((Below.refl _ _).alloc (Nat.le_refl _) _).alloc (by simp) _⟩
  have h := World.ownsRow_lit (base := w.heap.size) (e := 38) (size := 4) (w.alloc o) #[.bool p, .string v, .int .i64 lo, .int .i64 hi] 1 (by simp) (by unfold maxLen; omega) rfl
  have e : (w.alloc o).heap.size = w.heap.size + 1 := by simp
  rw [e] at h
  exact h

theorem cells_new (w : World) (a b c d : Value) (t : TypeId) : ∀ j u, [a, b, c, d][j]? = some u → (w.alloc (.cells #[a, b, c, d] t)).cell? ((⟨w.heap.size, 0, none⟩ : Addr).add j) = some u := by
  intro j u hj
  match j, hj with
  | 0, hj => simp at hj; subst hj; simp [Addr.add]
  | 1, hj => simp at hj; subst hj; simp [Addr.add]
  | 2, hj => simp at hj; subst hj; simp [Addr.add]
  | 3, hj => simp at hj; subst hj; simp [Addr.add]
  | n + 4, hj => simp at hj

theorem cells_at {w : World} {a b c d : Value} {t : TypeId} {g : Nat} (hg : g = w.heap.size) : ∀ j u, [a, b, c, d][j]? = some u → (w.alloc (.cells #[a, b, c, d] t)).cell? ((⟨g, 0, none⟩ : Addr).add j) = some u := by
  subst hg; exact cells_new w a b c d t

/-- What is known behind the first append: the box, the row. -/
structure App1 (w : World) (v : ByteArray) (lo hi : Int) (x : Value) (q : Int × Int) (w2 : World) : Prop where
  own : w2.ownsRow w.heap.size 38 4 x 1 (pcs true v [q])
  bel : Below w.heap.size w w2
  sz : w.heap.size < w2.heap.size
  c0 : w2.cell? ⟨w.heap.size, 0, none⟩ = some (.bool true)
  c1 : w2.cell? ⟨w.heap.size, 1, none⟩ = some (.string v)
  c2 : w2.cell? ⟨w.heap.size, 2, none⟩ = some (.int .i64 lo)
  c3 : w2.cell? ⟨w.heap.size, 3, none⟩ = some (.int .i64 hi)

theorem app1 {w w2 : World} {v : ByteArray} {lo hi a b : Int} {x : Value} {o1 o2 : Obj}
    (hown : w2.ownsRow w.heap.size 38 4 x (0 + 1) ([] ++ [.bool true, .string v, .int .i64 a, .int .i64 b]))
    (hg : (((w.alloc (.cells #[.bool true, .string v, .int .i64 lo, .int .i64 hi] 38)).alloc o1).alloc o2).grownBy w2 (Value.slice none 0 0).ownBlock) : App1 w v lo hi x (a, b) w2 := by
  have HB := (Below.refl _ _).grown hg (Nat.le_refl _) (fun k h => by cases h)
  have z2 : w.heap.size + 1 + 1 < w2.heap.size := by have := hg.size; simp at this; omega
  refine ⟨by simpa [pcs, pc] using hown, ?_, by omega, ?_, ?_, ?_, ?_⟩
  · exact ((((Below.refl _ _).alloc (Nat.le_refl _) _).alloc (by simp) _).alloc (by simp; omega) _).trans (HB.mono (by simp; omega))
  · rw [HB.cell (by simp; omega)]; go_simp
  · rw [HB.cell (by simp; omega)]; go_simp
  · rw [HB.cell (by simp; omega)]; go_simp
  · rw [HB.cell (by simp; omega)]; go_simp

theorem app2 {w w1 w2 : World} {v : ByteArray} {lo hi a b : Int} {q : Int × Int} {x y : Value} {o1 o2 : Obj} (h : App1 w v lo hi x q w1)
    (hown : w2.ownsRow w.heap.size 38 4 y (1 + 1) (pcs true v [q] ++ [.bool true, .string v, .int .i64 a, .int .i64 b]))
    (hg : ((w1.alloc o1).alloc o2).grownBy w2 x.ownBlock) : w2.ownsRow w.heap.size 38 4 y 2 (pcs true v [q, (a, b)]) ∧ Below w.heap.size w w2 := by
  refine ⟨by simpa [pcs, pc] using hown, ?_⟩
  have hs := h.bel.size
  exact ((h.bel.alloc hs o1).alloc (by simp; omega) o2).grown hg (by simp; omega) (fun k hk => (h.own.lt k hk).1)

set_option maxHeartbeats 1000000 in
theorem not17_any (p : Bool) (v : ByteArray) (lo hi i : Int) (w : World) (hlo : -9223372036854775808 ≤ lo) (hhi : hi ≤ 9223372036854775807) :
    Calls Try.prog 17 #[KS p v lo hi, .int .i64 i] w (NmPost p v (nm p lo hi i) w) := by
  cases p
  · by_cases h0 : i = 0
    · subst h0
      go_enter Try.func17, Try.ntmps17
      go_wp2
      go_ret
      exact nm_nil (by simp [nm]) ((Below.refl _ _).alloc (Nat.le_refl _) _)
    · have h0' : (i == 0) = false := by simp [h0]
      go_enter Try.func17, Try.ntmps17
      go_wp2
      go_ret
      exact nm_lit (by simp [nm, h0]) _
  · by_cases h1 : i < lo
    · go_enter Try.func17, Try.ntmps17
      go_wp2
      go_ret
      exact nm_lit (by simp [nm, h1]) _
    by_cases h2 : hi < i
    · go_enter Try.func17, Try.ntmps17
      go_wp2
      go_ret
      exact nm_lit (by simp [nm, h2]) _
    obtain ⟨i0, hi0, hz0, hz1, hz2⟩ := info_parts info38
    have HE := hide (⟨hi0, hz0, hz1, hz2⟩ : Try.prog.info? 38 = some i0 ∧ i0.zero = some (KS false ⟨#[]⟩ 0 0) ∧ i0.size = 4 ∧ i0.bytes = 40)
    clear hi0 hz0 hz1 hz2
    have hin : ¬ (i < lo ∨ hi < i) := by omega
    have Hin := hide hin
    clear hin
    by_cases h3 : lo < i
    · by_cases h4 : i < hi
      · have hnm : nm true lo hi i = [(lo, i - 1), (i + 1, hi)] := by simp only [nm, Hin.out, h3, h4]; simp
        have Hnm := hide hnm
        clear hnm
        go_enter Try.func17, Try.ntmps17
        go_wp2_with (first | (at_builtin; refine wpList_append_own _ rfl (.tmp 35) (.tmp 37) 41 rfl w.heap.size 38 i0 (KS false ⟨#[]⟩ 0 0) 4 40 Try.underlying41 HE.out.1 HE.out.2.1 HE.out.2.2.1 HE.out.2.2.2 rfl (by decide) (.slice none 0 0) 0 [] rfl (World.ownsRow_nil _ _ _ _) ⟨w.heap.size + 1 + 1, 0, none⟩ 1 1 [.bool true, .string v, .int .i64 lo, .int .i64 (i - 1)] rfl rfl (cells_at (by simp)) (by intro u hu; simp at hu; rcases hu with rfl | rfl | rfl | rfl <;> rfl) (by unfold maxLen; omega) (by omega) (by simp; omega) ?_; intro v2 w2 hown2 hg2 h9; clear h9; have HA := hide (app1 hown2 hg2); clear hown2 hg2; obtain ⟨_, _, z0, c0, c1, c2, c3⟩ := HA.out) | (at_builtin; refine wpList_append_own _ rfl (.tmp 47) (.tmp 49) 41 rfl w.heap.size 38 i0 (KS false ⟨#[]⟩ 0 0) 4 40 Try.underlying41 HE.out.1 HE.out.2.1 HE.out.2.2.1 HE.out.2.2.2 rfl (by decide) _ 1 _ rfl ((HA.out.own.alloc _).alloc _) ⟨w2.heap.size + 1, 0, none⟩ 1 1 [.bool true, .string v, .int .i64 (i + 1), .int .i64 hi] rfl rfl (cells_at (by simp)) (by intro u hu; simp at hu; rcases hu with rfl | rfl | rfl | rfl <;> rfl) (by unfold maxLen; omega) (by omega) (by simp; omega) ?_; intro v3 w3 hown3 hg3 h9; clear h9; have HC := hide (app2 HA.out hown3 hg3); clear hown3 hg3 c0 c1 c2 c3))
        go_ret
        rw [Hnm.out]
        exact ⟨_, rfl, HC.out.1, HC.out.2⟩
      · have hnm : nm true lo hi i = [(lo, i - 1)] := by simp only [nm, Hin.out, h3, h4]; simp
        have Hnm := hide hnm
        clear hnm
        go_enter Try.func17, Try.ntmps17
        go_wp2_with (at_builtin; refine wpList_append_own _ rfl (.tmp 35) (.tmp 37) 41 rfl w.heap.size 38 i0 (KS false ⟨#[]⟩ 0 0) 4 40 Try.underlying41 HE.out.1 HE.out.2.1 HE.out.2.2.1 HE.out.2.2.2 rfl (by decide) (.slice none 0 0) 0 [] rfl (World.ownsRow_nil _ _ _ _) ⟨w.heap.size + 1 + 1, 0, none⟩ 1 1 [.bool true, .string v, .int .i64 lo, .int .i64 (i - 1)] rfl rfl (cells_at (by simp)) (by intro u hu; simp at hu; rcases hu with rfl | rfl | rfl | rfl <;> rfl) (by unfold maxLen; omega) (by omega) (by simp; omega) ?_; intro v2 w2 hown2 hg2 h9; clear h9; have HA := hide (app1 hown2 hg2); clear hown2 hg2; obtain ⟨_, _, z0, c0, c1, c2, c3⟩ := HA.out)
        go_ret
        rw [Hnm.out]
        exact ⟨_, rfl, HA.out.own, HA.out.bel⟩
    · by_cases h4 : i < hi
      · have hnm : nm true lo hi i = [(i + 1, hi)] := by simp only [nm, Hin.out, h3, h4]; simp
        have Hnm := hide hnm
        clear hnm
        go_enter Try.func17, Try.ntmps17
        go_wp2_with (at_builtin; refine wpList_append_own _ rfl (.tmp 47) (.tmp 49) 41 rfl w.heap.size 38 i0 (KS false ⟨#[]⟩ 0 0) 4 40 Try.underlying41 HE.out.1 HE.out.2.1 HE.out.2.2.1 HE.out.2.2.2 rfl (by decide) (.slice none 0 0) 0 [] rfl (World.ownsRow_nil _ _ _ _) ⟨w.heap.size + 1 + 1, 0, none⟩ 1 1 [.bool true, .string v, .int .i64 (i + 1), .int .i64 hi] rfl rfl (cells_at (by simp)) (by intro u hu; simp at hu; rcases hu with rfl | rfl | rfl | rfl <;> rfl) (by unfold maxLen; omega) (by omega) (by simp; omega) ?_; intro v2 w2 hown2 hg2 h9; clear h9; have HA := hide (app1 hown2 hg2); clear hown2 hg2; obtain ⟨_, _, z0, c0, c1, c2, c3⟩ := HA.out)
        go_ret
        rw [Hnm.out]
        exact ⟨_, rfl, HA.out.own, HA.out.bel⟩
      · have hnm : nm true lo hi i = [] := by simp only [nm, Hin.out, h3, h4]; simp
        have Hnm := hide hnm
        clear hnm
        go_enter Try.func17, Try.ntmps17
        go_wp2
        go_ret
        exact nm_nil Hnm.out ((Below.refl _ _).alloc (Nat.le_refl _) _)

end Go.Proofs.Qxb6602010a
