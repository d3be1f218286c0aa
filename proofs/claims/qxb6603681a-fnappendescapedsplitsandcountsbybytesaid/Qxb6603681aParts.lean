import Derived.Test.Qxb6603681aAppend
import Derived.Test.Qxb6603681aOver
import Derived.Test.Qxb6603681aRefs
namespace Go.Proofs.Qxb6603681a
open Go.RowKit Go.Maps

/-! ### the callees, in the law's own words -/
def ClN (w : World) (n : Nat) (L : List UInt8) (e : Ending) (w' : World) : Prop :=
  ∃ a c, e = .returned (.slice a n c) ∧ (a = none → n = 0 ∧ c = 0) ∧ BRow w' a L ∧ w'.ownsRow w.heap.size 5 1 (.slice a n c) L.length (bv L) ∧ Below w.heap.size w w'
theorem clone_n (a : Option Addr) (n c : Nat) (L : List UInt8) (w : World) (hL : n = L.length) (hn : n ≤ 1048576) (hnil : a = none → n = 0 ∧ c = 0) (hr : BRow w a L) : Calls Try.prog 7 #[.slice a n c] w (ClN w n L) := by
  subst hL
  refine (clone_any a c L w hn hnil hr).mono ?_
  rintro e w1 ⟨v, rfl, ho, hb⟩
  obtain ⟨a1, c1, rfl, hr1, hn1, _⟩ := own_row ho
  exact ⟨a1, c1, rfl, hn1, hr1, ho, hb⟩

theorem refs_any (x : Option Nat) (M : Ref) (w : World) (hM : Modest M) (hl : Looks w (.map x) M) (h0 : x = none → ∀ c, c < 256 → M c = none) : Calls Try.prog 12 #[.map x] w (RefPost M w) := by
  cases x with
  | none =>
    refine (refs_nil w).mono ?_
    rintro e w1 ⟨m, N, rfl, h1, h2, h3⟩
    exact ⟨m, N, rfl, h1, fun c hc => by rw [h2 c hc, h0 rfl c hc], h3⟩
  | some b => exact refs_some b M w hM hl

def ApN (B : Nat) (T : Nat) (L : List UInt8) (w : World) (e : Ending) (w' : World) : Prop :=
  ∃ a c, e = .returned (.slice a T c) ∧ T ≤ c ∧ BRow w' a L ∧ w'.ownsRow B 5 1 (.slice a T c) L.length (bv L) ∧ Below B w w'
theorem app_n (B : Nat) (v : Value) (Lb : List UInt8) (s : ByteArray) (m : Value) (M : Ref) (W T : Nat) (w : World) (hB : B ≤ w.heap.size) (hv : w.ownsRow B 5 1 v Lb.length (bv Lb)) (hl : ∀ w', Below B w w' → LooksAt w' m M)
    (hW : ∀ c, c < 256 → wd M c ≤ W) (hlen : Lb.length + s.size * W ≤ 16777216) (hs : s.size ≤ 1048576) (hT : T = (Lb ++ esc M s.data.toList).length) :
    Calls Try.prog 13 #[v, .string s, m] w (ApN B T (Lb ++ esc M s.data.toList) w) := by
  subst hT
  refine (app13 B v Lb s m M W w hB hv hl hW hlen hs).mono ?_
  rintro e w1 ⟨v, rfl, ho, hb⟩
  obtain ⟨a1, c1, rfl, hr1, hn1, hc1⟩ := own_row ho
  exact ⟨a1, c1, rfl, hc1, hr1, ho, hb⟩

theorem equal_n (a1 a2 : Option Addr) (n1 n2 c1 c2 : Nat) (A : List UInt8) (w : World) (h1 : n1 = A.length) (h2 : n2 = A.length) (h : A.length ≤ 16777216) (r1 : BRow w a1 A) (r2 : BRow w a2 A) :
    Calls Try.prog 14 #[.slice a1 n1 c1, .slice a2 n2 c2] w fun e w' => e = .returned (.bool true) ∧ Below w.heap.size w w' := by
  subst h1 h2
  refine (equal_any a1 a2 c1 c2 A A w (by omega) (by omega) r1 r2).mono ?_
  rintro e w1 ⟨rfl, hb⟩
  exact ⟨by simp, hb⟩

/-! ### the counters -/
theorem alloc31 (w : World) : (Instr.alloc 31 true (.tuple #[])).run Try.prog w = .ok (.pointer (some ⟨w.heap.size, 0, none⟩)) (w.alloc (.cells (Array.replicate 256 (.int .i64 0)) 31)) := by kernel_rfl
theorem row31 (w : World) : (w.alloc (.cells (Array.replicate 256 (.int .i64 0)) 31)).rowIs w.heap.size 31 256 (fun _ => .int .i64 0) :=
  ⟨_, (Go.MapKept.heap_alloc w _).1, by simp, fun i hi => by rw [Array.getElem?_replicate, if_pos hi]⟩

theorem sumTo_mono (f : Nat → Nat) {k : Nat} : ∀ {m : Nat}, k ≤ m → sumTo f k ≤ sumTo f m := by
  intro m
  induction m with
  | zero => intro h; rw [Nat.le_zero.1 h]; exact Nat.le_refl _
  | succ m ih =>
    intro h
    by_cases e : k = m + 1
    · subst e; exact Nat.le_refl _
    · exact Nat.le_trans (ih (by omega)) (by rw [sumTo]; omega)

/-- What the guard lets through, for the walk. -/
theorem fine_w {n : Nat} {s : ByteArray} {M N : Ref} (h : Fine n s M) (e : ∀ c, c < 256 → N c = M c) : n + s.size ≤ 1048576 ∧ ∃ W, (∀ c, c < 256 → wd N c ≤ W) ∧ n + s.size * W ≤ 16777216 := by
  obtain ⟨h1, L, h2, h3, h4⟩ := h
  refine ⟨h1, L + 1, fun c hc => ?_, ?_⟩
  · have h5 := h3 c hc
    unfold wd
    rw [e c hc]
    cases hq : M c with
    | none => simp
    | some x => rw [hq] at h5; simp at h5; simp; omega
  · rw [Nat.mul_add]; omega

end Go.Proofs.Qxb6603681a
