import Derived.WalkKit
namespace Go.Proofs.Qxb6603681a

/-- What one byte becomes. -/
def esc1 (M : Nat → Option ByteArray) (c : UInt8) : List UInt8 := match M c.toNat with | some v => v.data.toList | none => [c]
def esc (M : Nat → Option ByteArray) (l : List UInt8) : List UInt8 := l.flatMap (esc1 M)
/-- How many bytes it becomes. -/
def wd (M : Nat → Option ByteArray) (c : Nat) : Nat := match M c with | some v => v.size | none => 1
def cnt (l : List UInt8) (c : Nat) : Nat := (l.filter fun x => x.toNat == c).length

theorem esc_nil (M : Nat → Option ByteArray) : esc M [] = [] := rfl
theorem esc_append (M : Nat → Option ByteArray) (a b : List UInt8) : esc M (a ++ b) = esc M a ++ esc M b := by simp [esc]
theorem esc_snoc (M : Nat → Option ByteArray) (a : List UInt8) (c : UInt8) : esc M (a ++ [c]) = esc M a ++ esc1 M c := by simp [esc]
theorem esc1_len (M : Nat → Option ByteArray) (c : UInt8) : (esc1 M c).length = wd M c.toNat := by
  unfold esc1 wd
  cases M c.toNat <;> simp

theorem cnt_nil (c : Nat) : cnt [] c = 0 := rfl
theorem cnt_snoc (l : List UInt8) (x : UInt8) (c : Nat) : cnt (l ++ [x]) c = cnt l c + (if c = x.toNat then 1 else 0) := by
  unfold cnt
  rw [List.filter_append, List.length_append, List.filter_cons, List.filter_nil]
  congr 1
  by_cases h : x.toNat = c
  · subst h; simp
  · simp [h, Ne.symm h]
theorem cnt_le (l : List UInt8) (c : Nat) : cnt l c ≤ l.length := List.length_filter_le _ _

/-- The sum over the bytes below k. -/
def sumTo (f : Nat → Nat) : Nat → Nat
  | 0 => 0
  | k + 1 => sumTo f k + f k

theorem sumTo_add (f g : Nat → Nat) : ∀ k, sumTo (fun c => f c + g c) k = sumTo f k + sumTo g k
  | 0 => rfl
  | k + 1 => by simp only [sumTo, sumTo_add f g k]; omega
theorem sumTo_congr {f g : Nat → Nat} : ∀ k, (∀ c, c < k → f c = g c) → sumTo f k = sumTo g k
  | 0, _ => rfl
  | k + 1, h => by rw [sumTo, sumTo, sumTo_congr k (fun c hc => h c (by omega)), h k (by omega)]
theorem sumTo_one (g : Nat → Nat) (x : Nat) : ∀ k, sumTo (fun c => if c = x then g c else 0) k = if x < k then g x else 0
  | 0 => by simp [sumTo]
  | k + 1 => by
    rw [sumTo, sumTo_one g x k]
    by_cases h : k = x
    · subst h; simp
    · by_cases h2 : x < k
      · simp [h2, h, show x < k + 1 by omega]
      · simp [h2, h, show ¬ x < k + 1 by omega]

theorem esc_len (M : Nat → Option ByteArray) : ∀ l : List UInt8, (esc M l).length = sumTo (fun c => cnt l c * wd M c) 256 := by
  intro l
  have key : ∀ (r : List UInt8), (esc M r.reverse).length = sumTo (fun c => cnt r.reverse c * wd M c) 256 := by
    intro r
    induction r with
    | nil =>
      rw [List.reverse_nil, esc_nil, sumTo_congr 256 (g := fun _ => 0) (fun c _ => by simp [cnt_nil])]
      have : ∀ k, sumTo (fun _ => 0) k = 0 := fun k => by
        induction k with
        | zero => rfl
        | succ k ih => simp [sumTo, ih]
      rw [this]; rfl
    | cons x r ih =>
      rw [List.reverse_cons, esc_snoc, List.length_append, ih, esc1_len]
      rw [sumTo_congr 256 (f := fun c => cnt (r.reverse ++ [x]) c * wd M c) (g := fun c => cnt r.reverse c * wd M c + (if c = x.toNat then wd M c else 0)) (fun c _ => by
        rw [cnt_snoc]
        by_cases h : c = x.toNat
        · simp [h, Nat.add_mul]
        · simp [h])]
      rw [sumTo_add, sumTo_one]
      rw [if_pos (UInt8.toNat_lt x)]
  have := key l.reverse
  rwa [List.reverse_reverse] at this

/-- How long what s unfolds into can be. -/
theorem esc_le (M : Nat → Option ByteArray) (B : Nat) (hB : ∀ c, c < 256 → wd M c ≤ B) : ∀ l : List UInt8, (esc M l).length ≤ l.length * B := by
  intro l
  induction l with
  | nil => simp [esc]
  | cons x l ih =>
    have e : esc M (x :: l) = esc1 M x ++ esc M l := by simp [esc]
    rw [e, List.length_append, esc1_len, List.length_cons, Nat.add_mul, Nat.one_mul]
    have := hB x.toNat (UInt8.toNat_lt x)
    omega

theorem sumTo_le (f : Nat → Nat) (B : Nat) : ∀ k, (∀ c, c < k → f c ≤ B) → sumTo f k ≤ k * B
  | 0, _ => by simp [sumTo]
  | k + 1, h => by
    have := sumTo_le f B k (fun c hc => h c (by omega))
    have := h k (by omega)
    rw [sumTo, Nat.add_mul]; omega

theorem take_snoc (s : ByteArray) (k : Nat) (h : k < s.size) : s.data.toList.take (k + 1) = s.data.toList.take k ++ [s[k]] := by
  rw [List.take_succ_eq_append_getElem (by simpa using h)]; rfl

end Go.Proofs.Qxb6603681a
