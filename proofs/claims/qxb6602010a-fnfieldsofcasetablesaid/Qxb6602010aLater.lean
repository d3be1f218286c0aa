/-
  A world that has grown: 'later w x' is w with new blocks behind its heap and another count of draws. The set of worlds for a region that draws its order and whose callees make memory.
-/
import Derived.WalkKit
import Derived.Deep.QuietTactic
import Derived.BigQuiet
import Derived.Test.Qxb6602010aTail
namespace Go.Proofs.Qxb6602010a
open Go.RowKit

/-- A count of draws and new blocks, behind a function (so that the walk's simp neither parts it nor asks whether there is one). -/
abbrev Ext : Type := Nat → Nat × Array Obj
def ext (d : Nat) (os : Array Obj) : Ext := fun _ => (d, os)

def later (w : World) (x : Ext) : World := { w with heap := w.heap ++ (x 0).2, drawn := (x 0).1 }

theorem later_heap (w : World) (x : Ext) {k : Nat} (h : k < w.heap.size) : (later w x).heap[k]? = w.heap[k]? := by simp [later, Array.getElem?_append, h]
theorem later_size (w : World) (x : Ext) : (later w x).heap.size = w.heap.size + (x 0).2.size := by simp [later]
theorem later_cell (w : World) (x : Ext) (b o : Nat) (h : b < w.heap.size) : (later w x).cell? ⟨b, o, none⟩ = w.cell? ⟨b, o, none⟩ := by
  simp only [World.cell?, later_heap w x h]
theorem later_frozen (w : World) (x : Ext) (b o : Nat) (h : b < w.heap.size) : (later w x).frozen? ⟨b, o, none⟩ = w.frozen? ⟨b, o, none⟩ := by
  simp only [World.frozen?, later_heap w x h]
theorem later_tape (w : World) (x : Ext) : (later w x).tape = w.tape := rfl
theorem later_drew (w : World) (x : Ext) : (later w x).drew = later w (ext ((x 0).1 + 1) (x 0).2) := rfl
theorem later_drewN (w : World) (x : Ext) (n : Nat) : (later w x).drewN n = later w (ext ((x 0).1 + n) (x 0).2) := rfl
theorem later_later (w : World) (x y : Ext) : later (later w x) y = later w (ext (y 0).1 ((x 0).2 ++ (y 0).2)) := by simp [later, ext, Array.append_assoc]

theorem later_below (w : World) (x : Ext) : Below w.heap.size w (later w x) :=
  ⟨rfl, rfl, rfl, by rw [later_size]; omega, fun k hk => later_heap w x hk⟩

theorem below_later {w w' : World} (h : Below w.heap.size w w') : ∃ x, w' = later w x := by
  refine ⟨ext w'.drawn (w'.heap.extract w.heap.size w'.heap.size), ?_⟩
  obtain ⟨h1, h2, h3, h4, h5⟩ := h
  cases w with | mk hp tp dr os out =>
  cases w' with | mk hp' tp' dr' os' out' =>
  simp only at h1 h2 h3 h4 h5
  subst h1 h2 h3
  simp only [later, ext, World.mk.injEq, and_true]
  apply Array.ext_getElem?
  intro k
  rw [Array.getElem?_append]
  by_cases hk : k < hp.size
  · rw [if_pos hk]; exact h5 k hk
  · rw [if_neg hk, Array.getElem?_extract]
    by_cases hk' : k < hp'.size
    · rw [if_pos (by omega)]
      congr 1; omega
    · rw [if_neg (by omega), Array.getElem?_eq_none (by omega)]

theorem region_later {P : Program} {id : Nat} {Q : Exit → Act → World → Prop} {a : Act} {w : World} {l : List Oper} (hm : P.follows .mixedOrders = true) (hB : Region.lexB .any l.toArray = true)
    (h : wpQuiet P l.toArray (fun w' => ∃ x, w' = later w x) (fun a' => ∀ w', (∃ x, w' = later w x) → Q .normal a' w') l a) : (Code.region id l.toArray true).wp P Q a w :=
  wp_region_quiet (C := fun w' => ∃ x, w' = later w x) hm hB ⟨ext (w.drawn + 1) #[], by simp [later, ext]⟩ (by simpa using h)

theorem quiet_below {P : Program} {f : FuncId} {args : Array Value} {w : World} {x : Ext} {v : Value}
    (h : Calls P f args (later w x) fun e w' => e = .returned v ∧ Below (later w x).heap.size (later w x) w') : Calls P f args (later w x) fun e w'' => e = .returned v ∧ ∃ y, w'' = later w y :=
  h.mono fun _ _ ⟨he, hb⟩ => ⟨he, by obtain ⟨y, hy⟩ := below_later hb; exact ⟨_, by rw [hy, later_later]⟩⟩

theorem quiet_same {P : Program} {f : FuncId} {args : Array Value} {w : World} {x : Ext} {v : Value}
    (h : Calls P f args (later w x) fun e w' => e = .returned v ∧ w' = later w x) : Calls P f args (later w x) fun e w'' => e = .returned v ∧ ∃ y, w'' = later w y :=
  h.mono fun _ _ ⟨he, hb⟩ => ⟨he, x, hb⟩

/-- .. the last operation waiting for all the others: the head is quiet, then the last one, in whatever later world. -/
theorem region_later_tail {P : Program} {id : Nat} {Q : Exit → Act → World → Prop} {a : Act} {w : World} {L : List Oper} (n : Nat) (o : Oper) (hL : L.take n ++ [o] = L) (hm : P.follows .mixedOrders = true) (hB : Region.lexB .any (L.take n).toArray = true) (hT : tailB (L.take n) o = true)
    (h : wpQuiet P (L.take n).toArray (fun w' => ∃ x, w' = later w x) (fun a' => ∀ w', (∃ x, w' = later w x) → wpList P L.toArray Q [o] a' w') (L.take n) a) : (Code.region id L.toArray true).wp P Q a w := by
  have h1 := wp_region_quiet_tail (P := P) (C := fun w' => ∃ x, w' = later w x) (id := id) (Q := Q) (a := a) (w := w) hm hB hT ⟨ext (w.drawn + 1) #[], by simp [later, ext]⟩ (by rw [hL]; exact h)
  rwa [hL] at h1

end Go.Proofs.Qxb6602010a
