import Derived.Test.Qxb6003357aFold
namespace Go.Proofs.Qxb6003357a

abbrev lab (ls : List ByteArray) (i : Nat) : ByteArray := ls.getD i ByteArray.empty

/-- The wire form of labels. -/
def wire (ls : List ByteArray) : List UInt8 := ls.flatMap fun s => UInt8.ofNat s.size :: s.data.toList

def Labels (ls : List ByteArray) : Prop := ∀ s ∈ ls, 1 ≤ s.size ∧ s.size ≤ 63
def WF (ls : List ByteArray) : Prop := Labels ls ∧ (wire ls).length ≤ 254

theorem wire_nil : wire [] = [] := rfl
theorem wire_cons (s : ByteArray) (ls : List ByteArray) : wire (s :: ls) = UInt8.ofNat s.size :: (s.data.toList ++ wire ls) := by simp [wire]
theorem wire_append (xs ys : List ByteArray) : wire (xs ++ ys) = wire xs ++ wire ys := by simp [wire]

theorem wire_take_drop (ls : List ByteArray) (m : Nat) : wire (ls.take m) ++ wire (ls.drop m) = wire ls := by
  rw [← wire_append, List.take_append_drop]
theorem wire_len_split (ls : List ByteArray) (m : Nat) : (wire (ls.take m)).length + (wire (ls.drop m)).length = (wire ls).length := by
  rw [← List.length_append, wire_take_drop]
theorem wire_drop (ls : List ByteArray) (m : Nat) : (wire ls).drop (wire (ls.take m)).length = wire (ls.drop m) := by
  rw [← wire_take_drop ls m, List.drop_left]
theorem wire_take (ls : List ByteArray) (m : Nat) : (wire ls).take (wire (ls.take m)).length = wire (ls.take m) := by
  rw [← wire_take_drop ls m, List.take_left]

theorem drop_lab (ls : List ByteArray) (m : Nat) (h : m < ls.length) : ls.drop m = lab ls m :: ls.drop (m + 1) := by
  rw [List.drop_eq_getElem_cons h]
  simp [lab, List.getD, h]
theorem take_lab (ls : List ByteArray) (m : Nat) (h : m < ls.length) : ls.take (m + 1) = ls.take m ++ [lab ls m] := by
  rw [List.take_succ_eq_append_getElem h]
  simp [lab, List.getD, h]
theorem wire_take_succ (ls : List ByteArray) (m : Nat) (h : m < ls.length) : wire (ls.take (m + 1)) = wire (ls.take m) ++ (UInt8.ofNat (lab ls m).size :: (lab ls m).data.toList) := by
  rw [take_lab ls m h, wire_append, wire_cons, wire_nil, List.append_nil]
theorem wire_take_succ_len (ls : List ByteArray) (m : Nat) (h : m < ls.length) : (wire (ls.take (m + 1))).length = (wire (ls.take m)).length + 1 + (lab ls m).size := by
  rw [wire_take_succ ls m h, List.length_append, List.length_cons]
  have : (lab ls m).data.toList.length = (lab ls m).size := by simp
  omega
theorem wire_drop_len (ls : List ByteArray) (m : Nat) (h : m < ls.length) : (wire (ls.drop m)).length = 1 + (lab ls m).size + (wire (ls.drop (m + 1))).length := by
  have a := wire_len_split ls m
  have b := wire_len_split ls (m + 1)
  have c := wire_take_succ_len ls m h
  omega
theorem wire_at (ls : List ByteArray) (m : Nat) (h : m < ls.length) : (wire ls)[(wire (ls.take m)).length]? = some (UInt8.ofNat (lab ls m).size) := by
  have e : wire ls = wire (ls.take m) ++ wire (ls.drop m) := (wire_take_drop ls m).symm
  rw [e, List.getElem?_append_right (Nat.le_refl _), Nat.sub_self, drop_lab ls m h, wire_cons]
  rfl

theorem lab_mem (ls : List ByteArray) (m : Nat) (h : m < ls.length) : lab ls m ∈ ls := by
  simp [lab, List.getD, h]
theorem Labels.take {ls : List ByteArray} (h : Labels ls) (m : Nat) : Labels (ls.take m) := fun s hs => h s (List.mem_of_mem_take hs)
theorem Labels.drop {ls : List ByteArray} (h : Labels ls) (m : Nat) : Labels (ls.drop m) := fun s hs => h s (List.mem_of_mem_drop hs)
theorem WF.take {ls : List ByteArray} (h : WF ls) (m : Nat) : WF (ls.take m) := ⟨h.1.take m, by have := wire_len_split ls m; have := h.2; omega⟩

theorem foldEq_iff (a b : ByteArray) : foldEq a b = true ↔ a.data.toList.map lowB = b.data.toList.map lowB := by
  unfold foldEq; exact beq_iff_eq

theorem lowB_small {n m : Nat} (hn : n ≤ 63) (hm : m ≤ 63) : lowB (UInt8.ofNat n) = lowB (UInt8.ofNat m) ↔ n = m := by
  have e : ∀ k, k ≤ 63 → lowB (UInt8.ofNat k) = (k : Int) := fun k hk => by
    unfold lowB
    have : (UInt8.ofNat k).toNat = k := by rw [UInt8.toNat_ofNat']; omega
    rw [this, lowI_no (by omega)]
  rw [e n hn, e m hm]; omega

/-- The wire forms fold to one another just where the labels do, one by one. -/
theorem fold_wire : ∀ (xs ys : List ByteArray), Labels xs → Labels ys →
    ((wire xs).map lowB = (wire ys).map lowB ↔ xs.length = ys.length ∧ ∀ i, i < ys.length → foldEq (lab xs i) (lab ys i) = true)
  | [], [], _, _ => by simp
  | [], y :: ys, _, _ => by simp [wire_nil, wire_cons]
  | x :: xs, [], _, _ => by simp [wire_nil, wire_cons]
  | x :: xs, y :: ys, hx, hy => by
    have ih := fold_wire xs ys (fun s hs => hx s (List.mem_cons_of_mem _ hs)) (fun s hs => hy s (List.mem_cons_of_mem _ hs))
    have bx := hx x List.mem_cons_self
    have by' := hy y List.mem_cons_self
    rw [wire_cons, wire_cons, List.map_cons, List.map_cons, List.cons.injEq, lowB_small bx.2 by'.2, List.map_append, List.map_append]
    constructor
    · rintro ⟨h1, h2⟩
      obtain ⟨h3, h4⟩ := List.append_inj h2 (by simpa using h1)
      obtain ⟨h5, h6⟩ := ih.1 h4
      refine ⟨by simp [h5], fun i hi => ?_⟩
      cases i with
      | zero => exact (foldEq_iff x y).2 h3
      | succ i => exact h6 i (by simpa using hi)
    · rintro ⟨h1, h2⟩
      have h0 : foldEq x y = true := h2 0 (by simp)
      refine ⟨foldEq_size h0, ?_⟩
      rw [(foldEq_iff x y).1 h0, ih.2 ⟨by simpa using h1, fun i hi => h2 (i + 1) (by simpa using hi)⟩]

/-- What the law's own loop reckons behind j rounds. -/
def wantTo (nl zl : List ByteArray) (k j : Nat) : Bool := (List.range j).all fun i => foldEq (lab nl (k + i)) (lab zl i)
theorem wantTo_succ (nl zl : List ByteArray) (k j : Nat) : wantTo nl zl k (j + 1) = (wantTo nl zl k j && foldEq (lab nl (k + j)) (lab zl j)) := by
  simp [wantTo, List.range_succ]
def want (nl zl : List ByteArray) : Bool := decide (zl.length ≤ nl.length) && wantTo nl zl (nl.length - zl.length) zl.length

theorem want_iff (nl zl : List ByteArray) : want nl zl = true ↔ zl.length ≤ nl.length ∧ ∀ i, i < zl.length → foldEq (lab nl (nl.length - zl.length + i)) (lab zl i) = true := by
  simp [want, wantTo]

theorem lab_drop (ls : List ByteArray) (m i : Nat) : lab (ls.drop m) i = lab ls (m + i) := by
  simp [lab, List.getD, List.getElem?_drop]

theorem fold_want {nl zl : List ByteArray} (hn : Labels nl) (hz : Labels zl) {m : Nat} (hm : m ≤ nl.length) (h : (wire (nl.drop m)).map lowB = (wire zl).map lowB) : want nl zl = true ∧ m = nl.length - zl.length := by
  obtain ⟨h1, h2⟩ := (fold_wire _ _ (hn.drop m) hz).1 h
  rw [List.length_drop] at h1
  have e : m = nl.length - zl.length := by omega
  refine ⟨(want_iff _ _).2 ⟨by omega, fun i hi => ?_⟩, e⟩
  have := h2 i hi
  rw [lab_drop] at this
  rw [← e]; exact this

theorem want_fold {nl zl : List ByteArray} (hn : Labels nl) (hz : Labels zl) (h : want nl zl = true) : (wire (nl.drop (nl.length - zl.length))).map lowB = (wire zl).map lowB := by
  obtain ⟨h1, h2⟩ := (want_iff _ _).1 h
  refine (fold_wire _ _ (hn.drop _) hz).2 ⟨by rw [List.length_drop]; omega, fun i hi => ?_⟩
  rw [lab_drop]; exact h2 i hi

end Go.Proofs.Qxb6003357a
