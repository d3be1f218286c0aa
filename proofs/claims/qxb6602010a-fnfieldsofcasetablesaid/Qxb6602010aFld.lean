import Derived.Test.Qxb6602010aMod
import Derived.Test.Qxb6602010aLater
namespace Go.Proofs.Qxb6602010a
open Go.RowKit

/-- The cells of an Operation. -/
abbrev opC (cl ca re : Int) (ret : Bool) (op key val : ByteArray) (fnd : Bool) (ifi : Int) (ok : Bool) (ix : Int) : Array Value :=
  #[.int .i64 cl, .int .i64 ca, .int .i64 re, .bool ret, .string op, .string key, .string val, .bool fnd, .int .i64 ifi, .bool ok, .int .i64 ix]

set_option maxHeartbeats 400000 in
theorem read19_any (cl ca re : Int) (ret : Bool) (op key val : ByteArray) (fnd : Bool) (ifi : Int) (ok : Bool) (ix : Int) (g t : Bool) (hg : (op.toList == [103, 101, 116]) = g) (ht : (op.toList == [119, 97, 105, 116]) = t) (w : World) :
    Calls Try.prog 19 #[.agg (opC cl ca re ret op key val fnd ifi ok ix)] w fun e w' => e = .returned (.bool (g || t)) ∧ w' = w.alloc (.cells (opC cl ca re ret op key val fnd ifi ok ix) 36) := by
  cases g
  · cases t
    · go_enter Try.func19, Try.ntmps19
      go_wp2
      go_ret
      exact ⟨rfl, rfl⟩
    · go_enter Try.func19, Try.ntmps19
      go_wp2
      go_ret
      exact ⟨rfl, rfl⟩
  · go_enter Try.func19, Try.ntmps19
    go_wp2
    go_ret
    exact ⟨rfl, rfl⟩

set_option maxHeartbeats 400000 in
theorem unch20_any (cl ca re : Int) (ret : Bool) (op key val : ByteArray) (fnd : Bool) (ifi : Int) (ok : Bool) (ix : Int) (t q : Bool) (ht : (op.toList == [119, 97, 105, 116]) = t) (hq : (ix == ifi) = q) (w : World) :
    Calls Try.prog 20 #[.agg (opC cl ca re ret op key val fnd ifi ok ix)] w fun e w' => e = .returned (.bool (t && ret && q)) ∧ w' = w.alloc (.cells (opC cl ca re ret op key val fnd ifi ok ix) 36) := by
  cases t
  · go_enter Try.func20, Try.ntmps20
    go_wp2
    go_ret
    exact ⟨rfl, rfl⟩
  · cases ret
    · go_enter Try.func20, Try.ntmps20
      go_wp2
      go_ret
      exact ⟨rfl, rfl⟩
    · cases q
      · go_enter Try.func20, Try.ntmps20
        go_wp2
        go_ret
        exact ⟨rfl, rfl⟩
      · go_enter Try.func20, Try.ntmps20
        go_wp2
        go_ret
        exact ⟨rfl, rfl⟩

/-- Which kind of operation: the answers of the five comparisons. -/
structure Kind5 (op : ByteArray) (pu de ca ge wa : Bool) : Prop where
  pu : (op.toList == [112, 117, 116]) = pu
  de : (op.toList == [100, 101, 108, 101, 116, 101]) = de
  ca : (op.toList == [99, 97, 115]) = ca
  ge : (op.toList == [103, 101, 116]) = ge
  wa : (op.toList == [119, 97, 105, 116]) = wa

/-- The five fields, for each kind. -/
abbrev fC (a b c d e : Bool) : Array Value := #[.bool a, .bool b, .bool c, .bool d, .bool e]

/-- What fieldsOf's region reads and writes: the box, the result's cell. -/
structure Box (w : World) (cl ca re : Int) (ret : Bool) (op key val : ByteArray) (fnd : Bool) (ifi : Int) (ok : Bool) (ix : Int) (wr : World) : Prop where
  bel : Below w.heap.size w wr
  sz : w.heap.size + 1 < wr.heap.size
  c0 : wr.cell? ⟨w.heap.size, 0, none⟩ = some (.int .i64 cl)
  c1 : wr.cell? ⟨w.heap.size, 1, none⟩ = some (.int .i64 ca)
  c2 : wr.cell? ⟨w.heap.size, 2, none⟩ = some (.int .i64 re)
  c3 : wr.cell? ⟨w.heap.size, 3, none⟩ = some (.bool ret)
  c4 : wr.cell? ⟨w.heap.size, 4, none⟩ = some (.string op)
  c5 : wr.cell? ⟨w.heap.size, 5, none⟩ = some (.string key)
  c6 : wr.cell? ⟨w.heap.size, 6, none⟩ = some (.string val)
  c7 : wr.cell? ⟨w.heap.size, 7, none⟩ = some (.bool fnd)
  c8 : wr.cell? ⟨w.heap.size, 8, none⟩ = some (.int .i64 ifi)
  c9 : wr.cell? ⟨w.heap.size, 9, none⟩ = some (.bool ok)
  c10 : wr.cell? ⟨w.heap.size, 10, none⟩ = some (.int .i64 ix)
  r : ∀ j, j < 5 → ∃ v, wr.cell? ⟨w.heap.size + 1, j, none⟩ = some v
  f : ∀ j, wr.frozen? ⟨w.heap.size + 1, j, none⟩ = false

theorem Box.start (w : World) (cl ca re : Int) (ret : Bool) (op key val : ByteArray) (fnd : Bool) (ifi : Int) (ok : Bool) (ix : Int) :
    Box w cl ca re ret op key val fnd ifi ok ix (((w.alloc (.cells (opC cl ca re ret op key val fnd ifi ok ix) 36)).alloc (.cells #[.bool false, .bool false, .bool false, .bool false, .bool false] 44)).alloc (.cells (opC cl ca re ret op key val fnd ifi ok ix) 36)) := by
  refine ⟨(((Below.refl _ _).alloc (Nat.le_refl _) _).alloc (by simp) _).alloc (by simp; omega) _, by simp, by go_simp, by go_simp, by go_simp, by go_simp, by go_simp, by go_simp, by go_simp, by go_simp, by go_simp, by go_simp, by go_simp, fun j hj => ?_, fun j => by go_simp⟩
  match j, hj with
  | 0, _ => exact ⟨.bool false, by go_simp⟩
  | 1, _ => exact ⟨.bool false, by go_simp⟩
  | 2, _ => exact ⟨.bool false, by go_simp⟩
  | 3, _ => exact ⟨.bool false, by go_simp⟩
  | 4, _ => exact ⟨.bool false, by go_simp⟩

theorem Box.next {w : World} {cl ca re : Int} {ret : Bool} {op key val : ByteArray} {fnd : Bool} {ifi : Int} {ok : Bool} {ix : Int} {w1 w2 : World} (h : Box w cl ca re ret op key val fnd ifi ok ix w1) (hb : Below w1.heap.size w1 w2) : Box w cl ca re ret op key val fnd ifi ok ix w2 := by
  have s1 := h.sz
  have hc : ∀ j, w2.cell? ⟨w.heap.size, j, none⟩ = w1.cell? ⟨w.heap.size, j, none⟩ := fun j => hb.cell (by simp; omega)
  have hr : ∀ j, w2.cell? ⟨w.heap.size + 1, j, none⟩ = w1.cell? ⟨w.heap.size + 1, j, none⟩ := fun j => hb.cell s1
  have hf : ∀ j, w2.frozen? ⟨w.heap.size + 1, j, none⟩ = w1.frozen? ⟨w.heap.size + 1, j, none⟩ := fun j => hb.frozen s1
  refine ⟨h.bel.trans (hb.mono h.bel.size), Nat.lt_of_lt_of_le s1 hb.size, ?_, ?_, ?_, ?_, ?_, ?_, ?_, ?_, ?_, ?_, ?_, fun j hj => ?_, fun j => ?_⟩
  · rw [hc]; exact h.c0
  · rw [hc]; exact h.c1
  · rw [hc]; exact h.c2
  · rw [hc]; exact h.c3
  · rw [hc]; exact h.c4
  · rw [hc]; exact h.c5
  · rw [hc]; exact h.c6
  · rw [hc]; exact h.c7
  · rw [hc]; exact h.c8
  · rw [hc]; exact h.c9
  · rw [hc]; exact h.c10
  · rw [hr]; exact h.r j hj
  · rw [hf]; exact h.f j

attribute [local go_sem] later_cell later_frozen later_size later_tape

theorem kinds (op : ByteArray) : Kind5 op true false false false false ∨ Kind5 op false true false false false ∨ Kind5 op false false true false false ∨ Kind5 op false false false true false ∨ Kind5 op false false false false true ∨ Kind5 op false false false false false := by
  by_cases h1 : op.toList = [112, 117, 116]
  · exact .inl ⟨by rw [h1]; rfl, by rw [h1]; rfl, by rw [h1]; rfl, by rw [h1]; rfl, by rw [h1]; rfl⟩
  by_cases h2 : op.toList = [100, 101, 108, 101, 116, 101]
  · exact .inr (.inl ⟨by rw [h2]; rfl, by rw [h2]; rfl, by rw [h2]; rfl, by rw [h2]; rfl, by rw [h2]; rfl⟩)
  by_cases h3 : op.toList = [99, 97, 115]
  · exact .inr (.inr (.inl ⟨by rw [h3]; rfl, by rw [h3]; rfl, by rw [h3]; rfl, by rw [h3]; rfl, by rw [h3]; rfl⟩))
  by_cases h4 : op.toList = [103, 101, 116]
  · exact .inr (.inr (.inr (.inl ⟨by rw [h4]; rfl, by rw [h4]; rfl, by rw [h4]; rfl, by rw [h4]; rfl, by rw [h4]; rfl⟩)))
  by_cases h5 : op.toList = [119, 97, 105, 116]
  · exact .inr (.inr (.inr (.inr (.inl ⟨by rw [h5]; rfl, by rw [h5]; rfl, by rw [h5]; rfl, by rw [h5]; rfl, by rw [h5]; rfl⟩))))
  · exact .inr (.inr (.inr (.inr (.inr ⟨by simp [h1], by simp [h2], by simp [h3], by simp [h4], by simp [h5]⟩))))

/-- fieldsOf's answer. -/
def FldPost (w : World) (ret fnd : Bool) (ifi : Int) (ok : Bool) (ix : Int) (op : ByteArray) (e : Ending) (w' : World) : Prop :=
  ∀ pu de ca ge wa, Kind5 op pu de ca ge wa →
    e = .returned (.agg (fC ((ge || wa) && ret) (ca && ret) (ca || wa) (pu || ca || ((ge || wa) && fnd && !(wa && ret && (ix == ifi)))) (ret && (pu || de || (ca && ok) || (ge && fnd && (ix != 0)) || (wa && fnd))))) ∧ Below w.heap.size w w'

theorem fld_of {w w' : World} {ret fnd : Bool} {ifi : Int} {ok : Bool} {ix : Int} {op : ByteArray} {pu de ca ge wa : Bool} (hk : Kind5 op pu de ca ge wa) {a b c d f : Bool}
    (ha : a = ((ge || wa) && ret)) (hb : b = (ca && ret)) (hc : c = (ca || wa)) (hd : d = (pu || ca || ((ge || wa) && fnd && !(wa && ret && (ix == ifi))))) (hf : f = (ret && (pu || de || (ca && ok) || (ge && fnd && (ix != 0)) || (wa && fnd))))
    (hbel : Below w.heap.size w w') : FldPost w ret fnd ifi ok ix op (.returned (.agg (fC a b c d f))) w' := by
  intro pu' de' ca' ge' wa' hk'
  obtain ⟨h1, h2, h3, h4, h5⟩ := hk
  obtain ⟨g1, g2, g3, g4, g5⟩ := hk'
  obtain rfl := h1.symm.trans g1
  obtain rfl := h2.symm.trans g2
  obtain rfl := h3.symm.trans g3
  obtain rfl := h4.symm.trans g4
  obtain rfl := h5.symm.trans g5
  subst ha hb hc hd hf
  exact ⟨rfl, hbel⟩

set_option maxHeartbeats 8000000 in
set_option maxRecDepth 100000 in
theorem f18_any (cl cl2 re : Int) (ret : Bool) (op key val : ByteArray) (fnd : Bool) (ifi : Int) (ok : Bool) (ix : Int) (w : World) :
    Calls Try.prog 18 #[.agg (opC cl cl2 re ret op key val fnd ifi ok ix)] w (FldPost w ret fnd ifi ok ix op) := by
  go_enter Try.func18, Try.ntmps18
  go_wp2_with (go_at_call 19; refine (read19_any _ _ _ _ _ _ _ _ _ _ _ _ _ rfl rfl _).mono ?_; rintro e w' ⟨rfl, rfl⟩)
  have HB := hide (Box.start w cl cl2 re ret op key val fnd ifi ok ix)
  generalize (((w.alloc (.cells (opC cl cl2 re ret op key val fnd ifi ok ix) 36)).alloc (.cells #[.bool false, .bool false, .bool false, .bool false, .bool false] 44)).alloc (.cells (opC cl cl2 re ret op key val fnd ifi ok ix) 36)) = W at HB ⊢
  obtain ⟨rd, hrd⟩ : ∃ rd, rd = ((op.toList == [103, 101, 116]) || (op.toList == [119, 97, 105, 116])) := ⟨_, rfl⟩
  rw [← hrd]
  have Hrd := hide hrd
  clear hrd
  obtain ⟨_, s1, c0, c1, c2, c3, c4, c5, c6, c7, c8, c9, c10, _, _⟩ := HB.out
  have s0 : w.heap.size < W.heap.size := by omega
  refine region_later_tail 85 _ rfl (by kernel_rfl) (by kernel_rfl) (by kernel_rfl) ?_
  simp only [List.append_eq, List.cons_append, List.nil_append, List.take_succ_cons, List.take_zero]
  rcases kinds op with hk | hk | hk | hk | hk | hk
  · have HK := hide hk
    obtain ⟨k1, k2, k3, k4, k5⟩ := hk
    obtain rfl : rd = false := by rw [Hrd.out, k4, k5]; rfl
    cases ret
    · repeat (go_big_quiet_step ((go_at_call 20; exact quiet_below ((unch20_any _ _ _ _ _ _ _ _ _ _ _ _ _ k5 rfl _).mono fun _ _ h => ⟨h.1, by rw [h.2]; exact (Below.refl _ _).alloc (Nat.le_refl _) _⟩))))
      refine wpQuiet_nil ?_
      rintro _ ⟨x, rfl⟩
      have HB2 := hide (HB.out.next (later_below W x))
      generalize later W x = W2 at HB2 ⊢
      clear c0 c1 c2 c3 c4 c5 c6 c7 c8 c9 c10
      obtain ⟨u0, e0⟩ := HB2.out.r 0 (by omega)
      obtain ⟨u1, e1⟩ := HB2.out.r 1 (by omega)
      obtain ⟨u2, e2⟩ := HB2.out.r 2 (by omega)
      obtain ⟨u3, e3⟩ := HB2.out.r 3 (by omega)
      obtain ⟨u4, e4⟩ := HB2.out.r 4 (by omega)
      have f0 := HB2.out.f 0
      have f1 := HB2.out.f 1
      have f2 := HB2.out.f 2
      have f3 := HB2.out.f 3
      have f4 := HB2.out.f 4
      go_wp2
      exact bodyPost_ret (v := .agg (fC ((false || false) && false) (false && false) (false || false) (true || false || ((false || false) && fnd && !(false && false && (ix == ifi)))) (false && (true || false || (false && ok) || (false && fnd && (ix != 0)) || (false && fnd))))) (by simp [results, Try.results18, go_sem, e0, e1, e2, e3, e4]) rfl (fld_of HK.out rfl rfl rfl rfl rfl (((((HB2.out.bel.setCell (by simp) _).setCell (by simp) _).setCell (by simp) _).setCell (by simp) _).setCell (by simp) _))
    · repeat (go_big_quiet_step ((go_at_call 20; exact quiet_below ((unch20_any _ _ _ _ _ _ _ _ _ _ _ _ _ k5 rfl _).mono fun _ _ h => ⟨h.1, by rw [h.2]; exact (Below.refl _ _).alloc (Nat.le_refl _) _⟩))))
      refine wpQuiet_nil ?_
      rintro _ ⟨x, rfl⟩
      have HB2 := hide (HB.out.next (later_below W x))
      generalize later W x = W2 at HB2 ⊢
      clear c0 c1 c2 c3 c4 c5 c6 c7 c8 c9 c10
      obtain ⟨u0, e0⟩ := HB2.out.r 0 (by omega)
      obtain ⟨u1, e1⟩ := HB2.out.r 1 (by omega)
      obtain ⟨u2, e2⟩ := HB2.out.r 2 (by omega)
      obtain ⟨u3, e3⟩ := HB2.out.r 3 (by omega)
      obtain ⟨u4, e4⟩ := HB2.out.r 4 (by omega)
      have f0 := HB2.out.f 0
      have f1 := HB2.out.f 1
      have f2 := HB2.out.f 2
      have f3 := HB2.out.f 3
      have f4 := HB2.out.f 4
      go_wp2
      exact bodyPost_ret (v := .agg (fC ((false || false) && true) (false && true) (false || false) (true || false || ((false || false) && fnd && !(false && true && (ix == ifi)))) (true && (true || false || (false && ok) || (false && fnd && (ix != 0)) || (false && fnd))))) (by simp [results, Try.results18, go_sem, e0, e1, e2, e3, e4]) rfl (fld_of HK.out rfl rfl rfl rfl rfl (((((HB2.out.bel.setCell (by simp) _).setCell (by simp) _).setCell (by simp) _).setCell (by simp) _).setCell (by simp) _))
  · have HK := hide hk
    obtain ⟨k1, k2, k3, k4, k5⟩ := hk
    obtain rfl : rd = false := by rw [Hrd.out, k4, k5]; rfl
    cases ret
    · repeat (go_big_quiet_step ((go_at_call 20; exact quiet_below ((unch20_any _ _ _ _ _ _ _ _ _ _ _ _ _ k5 rfl _).mono fun _ _ h => ⟨h.1, by rw [h.2]; exact (Below.refl _ _).alloc (Nat.le_refl _) _⟩))))
      refine wpQuiet_nil ?_
      rintro _ ⟨x, rfl⟩
      have HB2 := hide (HB.out.next (later_below W x))
      generalize later W x = W2 at HB2 ⊢
      clear c0 c1 c2 c3 c4 c5 c6 c7 c8 c9 c10
      obtain ⟨u0, e0⟩ := HB2.out.r 0 (by omega)
      obtain ⟨u1, e1⟩ := HB2.out.r 1 (by omega)
      obtain ⟨u2, e2⟩ := HB2.out.r 2 (by omega)
      obtain ⟨u3, e3⟩ := HB2.out.r 3 (by omega)
      obtain ⟨u4, e4⟩ := HB2.out.r 4 (by omega)
      have f0 := HB2.out.f 0
      have f1 := HB2.out.f 1
      have f2 := HB2.out.f 2
      have f3 := HB2.out.f 3
      have f4 := HB2.out.f 4
      go_wp2
      exact bodyPost_ret (v := .agg (fC ((false || false) && false) (false && false) (false || false) (false || false || ((false || false) && fnd && !(false && false && (ix == ifi)))) (false && (false || true || (false && ok) || (false && fnd && (ix != 0)) || (false && fnd))))) (by simp [results, Try.results18, go_sem, e0, e1, e2, e3, e4]) rfl (fld_of HK.out rfl rfl rfl rfl rfl (((((HB2.out.bel.setCell (by simp) _).setCell (by simp) _).setCell (by simp) _).setCell (by simp) _).setCell (by simp) _))
    · repeat (go_big_quiet_step ((go_at_call 20; exact quiet_below ((unch20_any _ _ _ _ _ _ _ _ _ _ _ _ _ k5 rfl _).mono fun _ _ h => ⟨h.1, by rw [h.2]; exact (Below.refl _ _).alloc (Nat.le_refl _) _⟩))))
      refine wpQuiet_nil ?_
      rintro _ ⟨x, rfl⟩
      have HB2 := hide (HB.out.next (later_below W x))
      generalize later W x = W2 at HB2 ⊢
      clear c0 c1 c2 c3 c4 c5 c6 c7 c8 c9 c10
      obtain ⟨u0, e0⟩ := HB2.out.r 0 (by omega)
      obtain ⟨u1, e1⟩ := HB2.out.r 1 (by omega)
      obtain ⟨u2, e2⟩ := HB2.out.r 2 (by omega)
      obtain ⟨u3, e3⟩ := HB2.out.r 3 (by omega)
      obtain ⟨u4, e4⟩ := HB2.out.r 4 (by omega)
      have f0 := HB2.out.f 0
      have f1 := HB2.out.f 1
      have f2 := HB2.out.f 2
      have f3 := HB2.out.f 3
      have f4 := HB2.out.f 4
      go_wp2
      exact bodyPost_ret (v := .agg (fC ((false || false) && true) (false && true) (false || false) (false || false || ((false || false) && fnd && !(false && true && (ix == ifi)))) (true && (false || true || (false && ok) || (false && fnd && (ix != 0)) || (false && fnd))))) (by simp [results, Try.results18, go_sem, e0, e1, e2, e3, e4]) rfl (fld_of HK.out rfl rfl rfl rfl rfl (((((HB2.out.bel.setCell (by simp) _).setCell (by simp) _).setCell (by simp) _).setCell (by simp) _).setCell (by simp) _))
  · have HK := hide hk
    obtain ⟨k1, k2, k3, k4, k5⟩ := hk
    obtain rfl : rd = false := by rw [Hrd.out, k4, k5]; rfl
    cases ret
    · repeat (go_big_quiet_step ((go_at_call 20; exact quiet_below ((unch20_any _ _ _ _ _ _ _ _ _ _ _ _ _ k5 rfl _).mono fun _ _ h => ⟨h.1, by rw [h.2]; exact (Below.refl _ _).alloc (Nat.le_refl _) _⟩))))
      refine wpQuiet_nil ?_
      rintro _ ⟨x, rfl⟩
      have HB2 := hide (HB.out.next (later_below W x))
      generalize later W x = W2 at HB2 ⊢
      clear c0 c1 c2 c3 c4 c5 c6 c7 c8 c9 c10
      obtain ⟨u0, e0⟩ := HB2.out.r 0 (by omega)
      obtain ⟨u1, e1⟩ := HB2.out.r 1 (by omega)
      obtain ⟨u2, e2⟩ := HB2.out.r 2 (by omega)
      obtain ⟨u3, e3⟩ := HB2.out.r 3 (by omega)
      obtain ⟨u4, e4⟩ := HB2.out.r 4 (by omega)
      have f0 := HB2.out.f 0
      have f1 := HB2.out.f 1
      have f2 := HB2.out.f 2
      have f3 := HB2.out.f 3
      have f4 := HB2.out.f 4
      go_wp2
      exact bodyPost_ret (v := .agg (fC ((false || false) && false) (true && false) (true || false) (false || true || ((false || false) && fnd && !(false && false && (ix == ifi)))) (false && (false || false || (true && ok) || (false && fnd && (ix != 0)) || (false && fnd))))) (by simp [results, Try.results18, go_sem, e0, e1, e2, e3, e4]) rfl (fld_of HK.out rfl rfl rfl rfl rfl (((((HB2.out.bel.setCell (by simp) _).setCell (by simp) _).setCell (by simp) _).setCell (by simp) _).setCell (by simp) _))
    · cases ok
      · repeat (go_big_quiet_step ((go_at_call 20; exact quiet_below ((unch20_any _ _ _ _ _ _ _ _ _ _ _ _ _ k5 rfl _).mono fun _ _ h => ⟨h.1, by rw [h.2]; exact (Below.refl _ _).alloc (Nat.le_refl _) _⟩))))
        refine wpQuiet_nil ?_
        rintro _ ⟨x, rfl⟩
        have HB2 := hide (HB.out.next (later_below W x))
        generalize later W x = W2 at HB2 ⊢
        clear c0 c1 c2 c3 c4 c5 c6 c7 c8 c9 c10
        obtain ⟨u0, e0⟩ := HB2.out.r 0 (by omega)
        obtain ⟨u1, e1⟩ := HB2.out.r 1 (by omega)
        obtain ⟨u2, e2⟩ := HB2.out.r 2 (by omega)
        obtain ⟨u3, e3⟩ := HB2.out.r 3 (by omega)
        obtain ⟨u4, e4⟩ := HB2.out.r 4 (by omega)
        have f0 := HB2.out.f 0
        have f1 := HB2.out.f 1
        have f2 := HB2.out.f 2
        have f3 := HB2.out.f 3
        have f4 := HB2.out.f 4
        go_wp2
        exact bodyPost_ret (v := .agg (fC ((false || false) && true) (true && true) (true || false) (false || true || ((false || false) && fnd && !(false && true && (ix == ifi)))) (true && (false || false || (true && false) || (false && fnd && (ix != 0)) || (false && fnd))))) (by simp [results, Try.results18, go_sem, e0, e1, e2, e3, e4]) rfl (fld_of HK.out rfl rfl rfl rfl rfl (((((HB2.out.bel.setCell (by simp) _).setCell (by simp) _).setCell (by simp) _).setCell (by simp) _).setCell (by simp) _))
      · repeat (go_big_quiet_step ((go_at_call 20; exact quiet_below ((unch20_any _ _ _ _ _ _ _ _ _ _ _ _ _ k5 rfl _).mono fun _ _ h => ⟨h.1, by rw [h.2]; exact (Below.refl _ _).alloc (Nat.le_refl _) _⟩))))
        refine wpQuiet_nil ?_
        rintro _ ⟨x, rfl⟩
        have HB2 := hide (HB.out.next (later_below W x))
        generalize later W x = W2 at HB2 ⊢
        clear c0 c1 c2 c3 c4 c5 c6 c7 c8 c9 c10
        obtain ⟨u0, e0⟩ := HB2.out.r 0 (by omega)
        obtain ⟨u1, e1⟩ := HB2.out.r 1 (by omega)
        obtain ⟨u2, e2⟩ := HB2.out.r 2 (by omega)
        obtain ⟨u3, e3⟩ := HB2.out.r 3 (by omega)
        obtain ⟨u4, e4⟩ := HB2.out.r 4 (by omega)
        have f0 := HB2.out.f 0
        have f1 := HB2.out.f 1
        have f2 := HB2.out.f 2
        have f3 := HB2.out.f 3
        have f4 := HB2.out.f 4
        go_wp2
        exact bodyPost_ret (v := .agg (fC ((false || false) && true) (true && true) (true || false) (false || true || ((false || false) && fnd && !(false && true && (ix == ifi)))) (true && (false || false || (true && true) || (false && fnd && (ix != 0)) || (false && fnd))))) (by simp [results, Try.results18, go_sem, e0, e1, e2, e3, e4]) rfl (fld_of HK.out rfl rfl rfl rfl rfl (((((HB2.out.bel.setCell (by simp) _).setCell (by simp) _).setCell (by simp) _).setCell (by simp) _).setCell (by simp) _))
  · have HK := hide hk
    obtain ⟨k1, k2, k3, k4, k5⟩ := hk
    obtain rfl : rd = true := by rw [Hrd.out, k4, k5]; rfl
    cases ret
    · cases fnd
      · repeat (go_big_quiet_step ((go_at_call 20; exact quiet_below ((unch20_any _ _ _ _ _ _ _ _ _ _ _ _ _ k5 rfl _).mono fun _ _ h => ⟨h.1, by rw [h.2]; exact (Below.refl _ _).alloc (Nat.le_refl _) _⟩))))
        refine wpQuiet_nil ?_
        rintro _ ⟨x, rfl⟩
        have HB2 := hide (HB.out.next (later_below W x))
        generalize later W x = W2 at HB2 ⊢
        clear c0 c1 c2 c3 c4 c5 c6 c7 c8 c9 c10
        obtain ⟨u0, e0⟩ := HB2.out.r 0 (by omega)
        obtain ⟨u1, e1⟩ := HB2.out.r 1 (by omega)
        obtain ⟨u2, e2⟩ := HB2.out.r 2 (by omega)
        obtain ⟨u3, e3⟩ := HB2.out.r 3 (by omega)
        obtain ⟨u4, e4⟩ := HB2.out.r 4 (by omega)
        have f0 := HB2.out.f 0
        have f1 := HB2.out.f 1
        have f2 := HB2.out.f 2
        have f3 := HB2.out.f 3
        have f4 := HB2.out.f 4
        go_wp2
        exact bodyPost_ret (v := .agg (fC ((true || false) && false) (false && false) (false || false) (false || false || ((true || false) && false && !(false && false && (ix == ifi)))) (false && (false || false || (false && ok) || (true && false && (ix != 0)) || (false && false))))) (by simp [results, Try.results18, go_sem, e0, e1, e2, e3, e4]) rfl (fld_of HK.out rfl rfl rfl rfl rfl (((((HB2.out.bel.setCell (by simp) _).setCell (by simp) _).setCell (by simp) _).setCell (by simp) _).setCell (by simp) _))
      · repeat (go_big_quiet_step ((go_at_call 20; exact quiet_below ((unch20_any _ _ _ _ _ _ _ _ _ _ _ _ _ k5 rfl _).mono fun _ _ h => ⟨h.1, by rw [h.2]; exact (Below.refl _ _).alloc (Nat.le_refl _) _⟩))))
        refine wpQuiet_nil ?_
        rintro _ ⟨x, rfl⟩
        have HB2 := hide (HB.out.next (later_below W x))
        generalize later W x = W2 at HB2 ⊢
        clear c0 c1 c2 c3 c4 c5 c6 c7 c8 c9 c10
        obtain ⟨u0, e0⟩ := HB2.out.r 0 (by omega)
        obtain ⟨u1, e1⟩ := HB2.out.r 1 (by omega)
        obtain ⟨u2, e2⟩ := HB2.out.r 2 (by omega)
        obtain ⟨u3, e3⟩ := HB2.out.r 3 (by omega)
        obtain ⟨u4, e4⟩ := HB2.out.r 4 (by omega)
        have f0 := HB2.out.f 0
        have f1 := HB2.out.f 1
        have f2 := HB2.out.f 2
        have f3 := HB2.out.f 3
        have f4 := HB2.out.f 4
        go_wp2
        exact bodyPost_ret (v := .agg (fC ((true || false) && false) (false && false) (false || false) (false || false || ((true || false) && true && !(false && false && (ix == ifi)))) (false && (false || false || (false && ok) || (true && true && (ix != 0)) || (false && true))))) (by simp [results, Try.results18, go_sem, e0, e1, e2, e3, e4]) rfl (fld_of HK.out rfl rfl rfl rfl rfl (((((HB2.out.bel.setCell (by simp) _).setCell (by simp) _).setCell (by simp) _).setCell (by simp) _).setCell (by simp) _))
    · cases fnd
      · repeat (go_big_quiet_step ((go_at_call 20; exact quiet_below ((unch20_any _ _ _ _ _ _ _ _ _ _ _ _ _ k5 rfl _).mono fun _ _ h => ⟨h.1, by rw [h.2]; exact (Below.refl _ _).alloc (Nat.le_refl _) _⟩))))
        refine wpQuiet_nil ?_
        rintro _ ⟨x, rfl⟩
        have HB2 := hide (HB.out.next (later_below W x))
        generalize later W x = W2 at HB2 ⊢
        clear c0 c1 c2 c3 c4 c5 c6 c7 c8 c9 c10
        obtain ⟨u0, e0⟩ := HB2.out.r 0 (by omega)
        obtain ⟨u1, e1⟩ := HB2.out.r 1 (by omega)
        obtain ⟨u2, e2⟩ := HB2.out.r 2 (by omega)
        obtain ⟨u3, e3⟩ := HB2.out.r 3 (by omega)
        obtain ⟨u4, e4⟩ := HB2.out.r 4 (by omega)
        have f0 := HB2.out.f 0
        have f1 := HB2.out.f 1
        have f2 := HB2.out.f 2
        have f3 := HB2.out.f 3
        have f4 := HB2.out.f 4
        go_wp2
        exact bodyPost_ret (v := .agg (fC ((true || false) && true) (false && true) (false || false) (false || false || ((true || false) && false && !(false && true && (ix == ifi)))) (true && (false || false || (false && ok) || (true && false && (ix != 0)) || (false && false))))) (by simp [results, Try.results18, go_sem, e0, e1, e2, e3, e4]) rfl (fld_of HK.out rfl rfl rfl rfl rfl (((((HB2.out.bel.setCell (by simp) _).setCell (by simp) _).setCell (by simp) _).setCell (by simp) _).setCell (by simp) _))
      · cases hz : (ix != 0)
        · repeat (go_big_quiet_step ((go_at_call 20; exact quiet_below ((unch20_any _ _ _ _ _ _ _ _ _ _ _ _ _ k5 rfl _).mono fun _ _ h => ⟨h.1, by rw [h.2]; exact (Below.refl _ _).alloc (Nat.le_refl _) _⟩))))
          refine wpQuiet_nil ?_
          rintro _ ⟨x, rfl⟩
          have HB2 := hide (HB.out.next (later_below W x))
          generalize later W x = W2 at HB2 ⊢
          clear c0 c1 c2 c3 c4 c5 c6 c7 c8 c9 c10
          obtain ⟨u0, e0⟩ := HB2.out.r 0 (by omega)
          obtain ⟨u1, e1⟩ := HB2.out.r 1 (by omega)
          obtain ⟨u2, e2⟩ := HB2.out.r 2 (by omega)
          obtain ⟨u3, e3⟩ := HB2.out.r 3 (by omega)
          obtain ⟨u4, e4⟩ := HB2.out.r 4 (by omega)
          have f0 := HB2.out.f 0
          have f1 := HB2.out.f 1
          have f2 := HB2.out.f 2
          have f3 := HB2.out.f 3
          have f4 := HB2.out.f 4
          go_wp2
          exact bodyPost_ret (v := .agg (fC ((true || false) && true) (false && true) (false || false) (false || false || ((true || false) && true && !(false && true && (ix == ifi)))) (true && (false || false || (false && ok) || (true && true && (ix != 0)) || (false && true))))) (by simp [results, Try.results18, go_sem, e0, e1, e2, e3, e4, hz]) rfl (fld_of HK.out rfl rfl rfl rfl rfl (((((HB2.out.bel.setCell (by simp) _).setCell (by simp) _).setCell (by simp) _).setCell (by simp) _).setCell (by simp) _))
        · repeat (go_big_quiet_step ((go_at_call 20; exact quiet_below ((unch20_any _ _ _ _ _ _ _ _ _ _ _ _ _ k5 rfl _).mono fun _ _ h => ⟨h.1, by rw [h.2]; exact (Below.refl _ _).alloc (Nat.le_refl _) _⟩))))
          refine wpQuiet_nil ?_
          rintro _ ⟨x, rfl⟩
          have HB2 := hide (HB.out.next (later_below W x))
          generalize later W x = W2 at HB2 ⊢
          clear c0 c1 c2 c3 c4 c5 c6 c7 c8 c9 c10
          obtain ⟨u0, e0⟩ := HB2.out.r 0 (by omega)
          obtain ⟨u1, e1⟩ := HB2.out.r 1 (by omega)
          obtain ⟨u2, e2⟩ := HB2.out.r 2 (by omega)
          obtain ⟨u3, e3⟩ := HB2.out.r 3 (by omega)
          obtain ⟨u4, e4⟩ := HB2.out.r 4 (by omega)
          have f0 := HB2.out.f 0
          have f1 := HB2.out.f 1
          have f2 := HB2.out.f 2
          have f3 := HB2.out.f 3
          have f4 := HB2.out.f 4
          go_wp2
          exact bodyPost_ret (v := .agg (fC ((true || false) && true) (false && true) (false || false) (false || false || ((true || false) && true && !(false && true && (ix == ifi)))) (true && (false || false || (false && ok) || (true && true && (ix != 0)) || (false && true))))) (by simp [results, Try.results18, go_sem, e0, e1, e2, e3, e4, hz]) rfl (fld_of HK.out rfl rfl rfl rfl rfl (((((HB2.out.bel.setCell (by simp) _).setCell (by simp) _).setCell (by simp) _).setCell (by simp) _).setCell (by simp) _))
  · have HK := hide hk
    obtain ⟨k1, k2, k3, k4, k5⟩ := hk
    obtain rfl : rd = true := by rw [Hrd.out, k4, k5]; rfl
    cases ret
    · cases fnd
      · repeat (go_big_quiet_step ((go_at_call 20; exact quiet_below ((unch20_any _ _ _ _ _ _ _ _ _ _ _ _ _ k5 rfl _).mono fun _ _ h => ⟨h.1, by rw [h.2]; exact (Below.refl _ _).alloc (Nat.le_refl _) _⟩))))
        refine wpQuiet_nil ?_
        rintro _ ⟨x, rfl⟩
        have HB2 := hide (HB.out.next (later_below W x))
        generalize later W x = W2 at HB2 ⊢
        clear c0 c1 c2 c3 c4 c5 c6 c7 c8 c9 c10
        obtain ⟨u0, e0⟩ := HB2.out.r 0 (by omega)
        obtain ⟨u1, e1⟩ := HB2.out.r 1 (by omega)
        obtain ⟨u2, e2⟩ := HB2.out.r 2 (by omega)
        obtain ⟨u3, e3⟩ := HB2.out.r 3 (by omega)
        obtain ⟨u4, e4⟩ := HB2.out.r 4 (by omega)
        have f0 := HB2.out.f 0
        have f1 := HB2.out.f 1
        have f2 := HB2.out.f 2
        have f3 := HB2.out.f 3
        have f4 := HB2.out.f 4
        go_wp2
        exact bodyPost_ret (v := .agg (fC ((false || true) && false) (false && false) (false || true) (false || false || ((false || true) && false && !(true && false && (ix == ifi)))) (false && (false || false || (false && ok) || (false && false && (ix != 0)) || (true && false))))) (by simp [results, Try.results18, go_sem, e0, e1, e2, e3, e4]) rfl (fld_of HK.out rfl rfl rfl rfl rfl (((((HB2.out.bel.setCell (by simp) _).setCell (by simp) _).setCell (by simp) _).setCell (by simp) _).setCell (by simp) _))
      · repeat (go_big_quiet_step ((go_at_call 20; exact quiet_below ((unch20_any _ _ _ _ _ _ _ _ _ _ _ _ _ k5 rfl _).mono fun _ _ h => ⟨h.1, by rw [h.2]; exact (Below.refl _ _).alloc (Nat.le_refl _) _⟩))))
        refine wpQuiet_nil ?_
        rintro _ ⟨x, rfl⟩
        have HB2 := hide (HB.out.next (later_below W x))
        generalize later W x = W2 at HB2 ⊢
        clear c0 c1 c2 c3 c4 c5 c6 c7 c8 c9 c10
        obtain ⟨u0, e0⟩ := HB2.out.r 0 (by omega)
        obtain ⟨u1, e1⟩ := HB2.out.r 1 (by omega)
        obtain ⟨u2, e2⟩ := HB2.out.r 2 (by omega)
        obtain ⟨u3, e3⟩ := HB2.out.r 3 (by omega)
        obtain ⟨u4, e4⟩ := HB2.out.r 4 (by omega)
        have f0 := HB2.out.f 0
        have f1 := HB2.out.f 1
        have f2 := HB2.out.f 2
        have f3 := HB2.out.f 3
        have f4 := HB2.out.f 4
        go_wp2
        exact bodyPost_ret (v := .agg (fC ((false || true) && false) (false && false) (false || true) (false || false || ((false || true) && true && !(true && false && (ix == ifi)))) (false && (false || false || (false && ok) || (false && true && (ix != 0)) || (true && true))))) (by simp [results, Try.results18, go_sem, e0, e1, e2, e3, e4]) rfl (fld_of HK.out rfl rfl rfl rfl rfl (((((HB2.out.bel.setCell (by simp) _).setCell (by simp) _).setCell (by simp) _).setCell (by simp) _).setCell (by simp) _))
    · cases fnd
      · repeat (go_big_quiet_step ((go_at_call 20; exact quiet_below ((unch20_any _ _ _ _ _ _ _ _ _ _ _ _ _ k5 rfl _).mono fun _ _ h => ⟨h.1, by rw [h.2]; exact (Below.refl _ _).alloc (Nat.le_refl _) _⟩))))
        refine wpQuiet_nil ?_
        rintro _ ⟨x, rfl⟩
        have HB2 := hide (HB.out.next (later_below W x))
        generalize later W x = W2 at HB2 ⊢
        clear c0 c1 c2 c3 c4 c5 c6 c7 c8 c9 c10
        obtain ⟨u0, e0⟩ := HB2.out.r 0 (by omega)
        obtain ⟨u1, e1⟩ := HB2.out.r 1 (by omega)
        obtain ⟨u2, e2⟩ := HB2.out.r 2 (by omega)
        obtain ⟨u3, e3⟩ := HB2.out.r 3 (by omega)
        obtain ⟨u4, e4⟩ := HB2.out.r 4 (by omega)
        have f0 := HB2.out.f 0
        have f1 := HB2.out.f 1
        have f2 := HB2.out.f 2
        have f3 := HB2.out.f 3
        have f4 := HB2.out.f 4
        go_wp2
        exact bodyPost_ret (v := .agg (fC ((false || true) && true) (false && true) (false || true) (false || false || ((false || true) && false && !(true && true && (ix == ifi)))) (true && (false || false || (false && ok) || (false && false && (ix != 0)) || (true && false))))) (by simp [results, Try.results18, go_sem, e0, e1, e2, e3, e4]) rfl (fld_of HK.out rfl rfl rfl rfl rfl (((((HB2.out.bel.setCell (by simp) _).setCell (by simp) _).setCell (by simp) _).setCell (by simp) _).setCell (by simp) _))
      · repeat (go_big_quiet_step ((go_at_call 20; exact quiet_below ((unch20_any _ _ _ _ _ _ _ _ _ _ _ _ _ k5 rfl _).mono fun _ _ h => ⟨h.1, by rw [h.2]; exact (Below.refl _ _).alloc (Nat.le_refl _) _⟩))))
        refine wpQuiet_nil ?_
        rintro _ ⟨x, rfl⟩
        have HB2 := hide (HB.out.next (later_below W x))
        generalize later W x = W2 at HB2 ⊢
        clear c0 c1 c2 c3 c4 c5 c6 c7 c8 c9 c10
        obtain ⟨u0, e0⟩ := HB2.out.r 0 (by omega)
        obtain ⟨u1, e1⟩ := HB2.out.r 1 (by omega)
        obtain ⟨u2, e2⟩ := HB2.out.r 2 (by omega)
        obtain ⟨u3, e3⟩ := HB2.out.r 3 (by omega)
        obtain ⟨u4, e4⟩ := HB2.out.r 4 (by omega)
        have f0 := HB2.out.f 0
        have f1 := HB2.out.f 1
        have f2 := HB2.out.f 2
        have f3 := HB2.out.f 3
        have f4 := HB2.out.f 4
        go_wp2
        exact bodyPost_ret (v := .agg (fC ((false || true) && true) (false && true) (false || true) (false || false || ((false || true) && true && !(true && true && (ix == ifi)))) (true && (false || false || (false && ok) || (false && true && (ix != 0)) || (true && true))))) (by simp [results, Try.results18, go_sem, e0, e1, e2, e3, e4]) rfl (fld_of HK.out rfl rfl rfl rfl rfl (((((HB2.out.bel.setCell (by simp) _).setCell (by simp) _).setCell (by simp) _).setCell (by simp) _).setCell (by simp) _))
  · have HK := hide hk
    obtain ⟨k1, k2, k3, k4, k5⟩ := hk
    obtain rfl : rd = false := by rw [Hrd.out, k4, k5]; rfl
    cases ret
    · repeat (go_big_quiet_step ((go_at_call 20; exact quiet_below ((unch20_any _ _ _ _ _ _ _ _ _ _ _ _ _ k5 rfl _).mono fun _ _ h => ⟨h.1, by rw [h.2]; exact (Below.refl _ _).alloc (Nat.le_refl _) _⟩))))
      refine wpQuiet_nil ?_
      rintro _ ⟨x, rfl⟩
      have HB2 := hide (HB.out.next (later_below W x))
      generalize later W x = W2 at HB2 ⊢
      clear c0 c1 c2 c3 c4 c5 c6 c7 c8 c9 c10
      obtain ⟨u0, e0⟩ := HB2.out.r 0 (by omega)
      obtain ⟨u1, e1⟩ := HB2.out.r 1 (by omega)
      obtain ⟨u2, e2⟩ := HB2.out.r 2 (by omega)
      obtain ⟨u3, e3⟩ := HB2.out.r 3 (by omega)
      obtain ⟨u4, e4⟩ := HB2.out.r 4 (by omega)
      have f0 := HB2.out.f 0
      have f1 := HB2.out.f 1
      have f2 := HB2.out.f 2
      have f3 := HB2.out.f 3
      have f4 := HB2.out.f 4
      go_wp2
      exact bodyPost_ret (v := .agg (fC ((false || false) && false) (false && false) (false || false) (false || false || ((false || false) && fnd && !(false && false && (ix == ifi)))) (false && (false || false || (false && ok) || (false && fnd && (ix != 0)) || (false && fnd))))) (by simp [results, Try.results18, go_sem, e0, e1, e2, e3, e4]) rfl (fld_of HK.out rfl rfl rfl rfl rfl (((((HB2.out.bel.setCell (by simp) _).setCell (by simp) _).setCell (by simp) _).setCell (by simp) _).setCell (by simp) _))
    · repeat (go_big_quiet_step ((go_at_call 20; exact quiet_below ((unch20_any _ _ _ _ _ _ _ _ _ _ _ _ _ k5 rfl _).mono fun _ _ h => ⟨h.1, by rw [h.2]; exact (Below.refl _ _).alloc (Nat.le_refl _) _⟩))))
      refine wpQuiet_nil ?_
      rintro _ ⟨x, rfl⟩
      have HB2 := hide (HB.out.next (later_below W x))
      generalize later W x = W2 at HB2 ⊢
      clear c0 c1 c2 c3 c4 c5 c6 c7 c8 c9 c10
      obtain ⟨u0, e0⟩ := HB2.out.r 0 (by omega)
      obtain ⟨u1, e1⟩ := HB2.out.r 1 (by omega)
      obtain ⟨u2, e2⟩ := HB2.out.r 2 (by omega)
      obtain ⟨u3, e3⟩ := HB2.out.r 3 (by omega)
      obtain ⟨u4, e4⟩ := HB2.out.r 4 (by omega)
      have f0 := HB2.out.f 0
      have f1 := HB2.out.f 1
      have f2 := HB2.out.f 2
      have f3 := HB2.out.f 3
      have f4 := HB2.out.f 4
      go_wp2
      exact bodyPost_ret (v := .agg (fC ((false || false) && true) (false && true) (false || false) (false || false || ((false || false) && fnd && !(false && true && (ix == ifi)))) (true && (false || false || (false && ok) || (false && fnd && (ix != 0)) || (false && fnd))))) (by simp [results, Try.results18, go_sem, e0, e1, e2, e3, e4]) rfl (fld_of HK.out rfl rfl rfl rfl rfl (((((HB2.out.bel.setCell (by simp) _).setCell (by simp) _).setCell (by simp) _).setCell (by simp) _).setCell (by simp) _))

end Go.Proofs.Qxb6602010a
