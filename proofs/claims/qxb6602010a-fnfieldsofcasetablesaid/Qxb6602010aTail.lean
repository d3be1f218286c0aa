/-
  A region that draws its order, whose operations but the last are quiet in a set of worlds (they read, and call what leaves a world of the set), and whose last operation waits for all the others: one walk in the order of the text serves every order. Own work, over the library's theory of quiet regions.
-/
import Derived.Deep.Quiet
import Derived.Tactics
namespace Go.Proofs.Qxb6602010a

/-- Every edge of the operations leads to an earlier one; a guard is an earlier operation; the last operation waits for each of them and for nothing else. -/
def tailB (l : List Oper) (o : Oper) : Bool :=
  ((List.range l.length).all fun i => match l[i]? with
    | some x => (x.after.all fun e => !Region.binds .any e || decide (e.on < i)) && (match x.guard with | some (g, _) => decide (g < l.length) | none => true)
    | none => true) &&
  ((List.range l.length).all fun i => o.after.any fun e => Region.binds .any e && e.on == i) &&
  (o.after.all fun e => !Region.binds .any e || decide (e.on < l.length))

section
variable {P : Program} {C : World → Prop}

theorem getD_push (L : Array Bool) (k : Nat) : (L.push false).getD k false = L.getD k false := by
  simp only [Array.getD_eq_getD_getElem?, Array.getElem?_push]
  by_cases h : k = L.size
  · subst h; simp
  · rw [if_neg h]
theorem getD_push_lt (L : Array Bool) (k : Nat) (h : k < L.size) (d : Bool) : (L.push false).getD k d = L.getD k d := by
  simp only [Array.getD_eq_getD_getElem?, Array.getElem?_push]
  rw [if_neg (by omega)]
theorem getD_push_eq (L : Array Bool) (d : Bool) : (L.push false).getD L.size d = false := by
  simp [Array.getD_eq_getD_getElem?]

theorem ops_lt (l : List Oper) (o : Oper) (i : Nat) (h : i < l.length) : (l ++ [o]).toArray[i]? = l.toArray[i]? := by
  simp [List.getElem?_append_left h]
theorem ops_last (l : List Oper) (o : Oper) : (l ++ [o]).toArray[l.length]? = some o := by simp

theorem ready_lt (l : List Oper) (o : Oper) (L : Array Bool) (hL : L.size = l.length) (i : Nat) (h : i < l.length) :
    i ∈ Region.ready .any (l ++ [o]).toArray (L.push false) ↔ i ∈ Region.ready .any l.toArray L := by
  rw [mem_ready, mem_ready, getD_push_lt L i (by omega), ops_lt l o i h]
  simp only [getD_push]

theorem nil_all {l : List Oper} {o : Oper} (hT : tailB l o = true) {L : Array Bool} (hL : L.size = l.length) (h : Region.ready .any l.toArray L = []) : ∀ i, i < l.length → L.getD i false = true := by
  intro i
  induction i using Nat.strongRecOn with
  | _ i ih =>
    intro hi
    cases hl : L.getD i false with
    | true => rfl
    | false =>
      exfalso
      have hmem : i ∈ Region.ready .any l.toArray L := by
        rw [mem_ready]
        refine ⟨by have : i < L.size := by omega
                   simp [this] at hl ⊢; exact hl, l[i], by simp [hi], fun e he hb => ?_⟩
        simp only [tailB, Bool.and_eq_true] at hT
        have h1 := List.all_eq_true.1 hT.1.1 i (List.mem_range.2 hi)
        rw [List.getElem?_eq_getElem hi] at h1
        simp only [Bool.and_eq_true] at h1
        have h2 := Array.all_eq_true_iff_forall_mem.1 h1.1 e he
        simp only [hb, Bool.not_true, Bool.false_or, decide_eq_true_eq] at h2
        exact ih e.on h2 (by omega)
      rw [h] at hmem
      cases hmem

theorem last_ready {l : List Oper} {o : Oper} (hT : tailB l o = true) {L : Array Bool} (hL : L.size = l.length) : l.length ∈ Region.ready .any (l ++ [o]).toArray (L.push false) ↔ ∀ i, i < l.length → L.getD i false = true := by
  simp only [tailB, Bool.and_eq_true] at hT
  rw [mem_ready, ops_last]
  constructor
  · rintro ⟨_, o', ho', hall⟩ i hi
    cases ho'
    have h1 := List.all_eq_true.1 hT.1.2 i (List.mem_range.2 hi)
    obtain ⟨e, he, hb⟩ := Array.any_eq_true'.1 h1
    simp only [Bool.and_eq_true, beq_iff_eq] at hb
    have := hall e he hb.1
    rwa [hb.2, getD_push] at this
  · intro h
    refine ⟨by rw [← hL]; exact getD_push_eq L true, o, rfl, fun e he hb => ?_⟩
    have h2 := Array.all_eq_true_iff_forall_mem.1 hT.2 e he
    simp only [hb, Bool.not_true, Bool.false_or, decide_eq_true_eq] at h2
    rw [getD_push]
    exact h e.on h2

theorem set_push (L : Array Bool) (i : Nat) (h : i < L.size) : (L.push false).setIfInBounds i true = (L.setIfInBounds i true).push false := by
  apply Array.ext_getElem?
  intro k
  simp only [Array.getElem?_setIfInBounds, Array.getElem?_push, Array.size_push, Array.size_setIfInBounds]
  by_cases hik : i = k
  · subst hik
    simp [h, Nat.ne_of_lt h]
    omega
  · simp [hik]

theorem ready_done {l : List Oper} {o : Oper} {L : Array Bool} (hL : L.size = l.length) (h : ∀ i, i < l.length → L.getD i false = true) : Region.ready .any (l ++ [o]).toArray ((L.push false).setIfInBounds l.length true) = [] := by
  rw [List.eq_nil_iff_forall_not_mem]
  intro i hi
  rw [mem_ready] at hi
  obtain ⟨h0, x, hx, _⟩ := hi
  have hlt : i < (l ++ [o]).toArray.size := (Array.getElem?_eq_some_iff.1 hx).1
  simp only [List.size_toArray, List.length_append, List.length_cons, List.length_nil] at hlt
  by_cases e : i = l.length
  · subst e
    rw [← hL] at h0
    simp at h0
  · rw [getD_set_ne true (Ne.symm e), getD_push_lt L i (by omega)] at h0
    have := h i (by omega)
    have hi2 : i < L.size := by omega
    simp [hi2] at h0 this
    rw [h0] at this
    cases this

theorem qOp_more {l : List Oper} {o : Oper} (hT : tailB l o = true) {i : Nat} (hi : i < l.length) {K : Act → Prop} {a : Act} (h : qOp P l.toArray C i K a) : qOp P (l ++ [o]).toArray C i K a := by
  unfold qOp at h ⊢
  rw [ops_lt l o i hi]
  have hx : l.toArray[i]? = some l[i] := by simp [hi]
  rw [hx] at h ⊢
  simp only at h ⊢
  have hw : Region.wanted l[i] (yielded (l ++ [o]).toArray a.tmps) = Region.wanted l[i] (yielded l.toArray a.tmps) := by
    simp only [tailB, Bool.and_eq_true] at hT
    have h1 := List.all_eq_true.1 hT.1.1 i (List.mem_range.2 hi)
    rw [List.getElem?_eq_getElem hi] at h1
    simp only [Bool.and_eq_true] at h1
    have h2 := h1.2
    unfold Region.wanted
    cases hg : l[i].guard with
    | none => rfl
    | some g =>
      obtain ⟨g, b⟩ := g
      rw [hg] at h2
      simp only [decide_eq_true_eq] at h2
      simp only [yielded, ops_lt l o g h2]
  rw [hw]
  exact h

theorem any_of_quiet_tail {l : List Oper} {o : Oper} (hT : tailB l o = true) {Q : Act → Prop} {Q' : Exit → Act → World → Prop}
    (hQ : ∀ a w, C w → Q a → wpOp P (l ++ [o]).toArray Q' l.length (fun a w => Q' .normal a w) a w) :
    ∀ (fuel : Nat) (L : Array Bool) (a : Act) (w : World), L.size = l.length → C w → wpAnyQ P .any l.toArray C Q fuel L a → wpAny P .any (l ++ [o]).toArray Q' (fuel + 1) (L.push false) a w := by
  have last : ∀ (fuel : Nat) (L : Array Bool) (a : Act) (w : World), L.size = l.length → C w → Region.ready .any l.toArray L = [] → Q a →
      wpOp P (l ++ [o]).toArray Q' l.length (wpAny P .any (l ++ [o]).toArray Q' fuel ((L.push false).setIfInBounds l.length true)) a w := by
    intro fuel L a w hL hC hr hq
    have hall := nil_all hT hL hr
    refine wpOp_mono (fun a w h => ?_) (hQ a w hC hq)
    have hd := ready_done (o := o) hL hall
    cases fuel with
    | zero => exact ⟨hd, h⟩
    | succ f => exact ⟨fun _ => h, fun i hi => by rw [hd] at hi; cases hi⟩
  have notnil : ∀ (L : Array Bool), L.size = l.length → Region.ready .any (l ++ [o]).toArray (L.push false) ≠ [] := by
    intro L hL h
    have h1 : Region.ready .any l.toArray L = [] := by
      rw [List.eq_nil_iff_forall_not_mem]
      intro i hi
      have hlt : i < l.length := by
        obtain ⟨_, x, hx, _⟩ := mem_ready.1 hi
        have := (Array.getElem?_eq_some_iff.1 hx).1
        simpa using this
      have := (ready_lt l o L hL i hlt).2 hi
      rw [h] at this
      cases this
    have := (last_ready hT hL).2 (nil_all hT hL h1)
    rw [h] at this
    cases this
  have split : ∀ (L : Array Bool), L.size = l.length → ∀ i, i ∈ Region.ready .any (l ++ [o]).toArray (L.push false) → (i < l.length ∧ i ∈ Region.ready .any l.toArray L) ∨ (i = l.length ∧ Region.ready .any l.toArray L = []) := by
    intro L hL i hi
    have hlt : i < l.length + 1 := by
      obtain ⟨_, x, hx, _⟩ := mem_ready.1 hi
      have := (Array.getElem?_eq_some_iff.1 hx).1
      simpa using this
    by_cases e : i = l.length
    · right
      subst e
      refine ⟨rfl, ?_⟩
      have hall := (last_ready hT hL).1 hi
      rw [List.eq_nil_iff_forall_not_mem]
      intro j hj
      obtain ⟨h0, x, hx, _⟩ := mem_ready.1 hj
      have hjl : j < l.length := by
        have := (Array.getElem?_eq_some_iff.1 hx).1
        simpa using this
      have h1 := hall j hjl
      have hj2 : j < L.size := by omega
      simp [hj2] at h0 h1
      rw [h0] at h1
      cases h1
    · left
      exact ⟨by omega, (ready_lt l o L hL i (by omega)).1 hi⟩
  intro fuel
  induction fuel with
  | zero =>
    intro L a w hL hC h
    refine ⟨fun hn => absurd hn (notnil L hL), fun i hi => ?_⟩
    rcases split L hL i hi with ⟨_, hm⟩ | ⟨rfl, hr⟩
    · rw [h.1] at hm; cases hm
    · exact last 0 L a w hL hC hr h.2
  | succ fuel ih =>
    intro L a w hL hC h
    refine ⟨fun hn => absurd hn (notnil L hL), fun i hi => ?_⟩
    rcases split L hL i hi with ⟨hlt, hm⟩ | ⟨rfl, hr⟩
    · have h1 := qOp_more (o := o) hT hlt (h.2 i hm)
      refine wpOp_of_qOp hC (fun a' w' hC' h2 => ?_) h1
      rw [set_push L i (by omega)]
      exact ih _ a' w' (by simpa using hL) hC' h2
    · exact last (fuel + 1) L a w hL hC hr (h.1 hr)

theorem op_of_list {l : List Oper} {o : Oper} {Q' : Exit → Act → World → Prop} {a : Act} {w : World} (h : wpList P (l ++ [o]).toArray Q' [o] a w) : wpOp P (l ++ [o]).toArray Q' l.length (fun a w => Q' .normal a w) a w := by
  unfold wpOp
  rw [ops_last]
  exact h

/-- THE THEOREM: the head quiet in the set, then the last operation, in whatever world of the set. -/
theorem wp_region_quiet_tail {id : Nat} {Q : Exit → Act → World → Prop} {a : Act} {w : World} {l : List Oper} {o : Oper} (hm : P.follows .mixedOrders = true) (hB : Region.lexB .any l.toArray = true) (hT : tailB l o = true)
    (hC : C { w with drawn := w.drawn + 1 }) (h : wpQuiet P l.toArray C (fun a' => ∀ w', C w' → wpList P (l ++ [o]).toArray Q [o] a' w') l a) : (Code.region id (l ++ [o]).toArray true).wp P Q a w := by
  simp only [Region.lexB, Bool.and_eq_true] at hB
  refine wp_region_any hm ?_
  have h1 := wpAnyQ_lex (C := C) (md := .any) hB.1 l 0 (Array.replicate l.toArray.size false) a (by simp) (by simpa using hB.2) h
  have h2 := any_of_quiet_tail hT (Q := fun a' => ∀ w', C w' → wpList P (l ++ [o]).toArray Q [o] a' w') (Q' := Q) (fun a w hC hq => op_of_list (hq w hC)) l.length (Array.replicate l.length false) a { w with drawn := w.drawn + 1 } (by simp) hC (by simpa using h1)
  have e : (Array.replicate l.length false).push false = Array.replicate (l ++ [o]).toArray.size false := by
    simp [← Array.replicate_succ]
  rw [e] at h2
  simpa using h2

end
end Go.Proofs.Qxb6602010a
