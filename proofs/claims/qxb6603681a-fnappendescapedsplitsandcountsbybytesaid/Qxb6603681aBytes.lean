import Derived.Test.Qxb6603681aRows
import Derived.Test.Qxb6603681aPlain
import Derived.WalkKit
import Derived.WalkSpells
import Derived.WalkLawsBesides
import Derived.Deep.QuietTactic
import Derived.BigQuiet
import Derived.Outline
import Derived.Deep.OwnRows
import Derived.Lib.SliceRun
namespace Go.Proofs.Qxb6603681a
open Go.RowKit

theorem hide {p : Prop} (h : p) : Hid p := h
theorem ret_int {k : IntKind} {a b : Int} (h : a = b) : Ending.returned (.int k a) = .returned (.int k b) := by rw [h]
theorem ret_bool {a b : Bool} (h : a = b) : Ending.returned (.bool a) = .returned (.bool b) := by rw [h]

def bt (L : List UInt8) (i : Nat) : Value := .int .u8 ((L.getD i 0).toNat : Int)
def bv (L : List UInt8) : List Value := L.map fun b => Value.int .u8 (b.toNat : Int)

/-- The slice (a, L.length) reads, in w, as the bytes L. -/
def BRow (w : World) (a : Option Addr) (L : List UInt8) : Prop :=
  L.length = 0 ∨ ∃ b off, a = some ⟨b, off, none⟩ ∧ b < w.heap.size ∧ ∀ i, i < L.length → w.cell? ⟨b, off + i, none⟩ = some (bt L i)

theorem BRow.later {w w' : World} {a : Option Addr} {L : List UInt8} (h : BRow w a L) (hb : Below w.heap.size w w') : BRow w' a L := by
  rcases h with h | ⟨b, off, rfl, hlt, hc⟩
  · exact .inl h
  · exact .inr ⟨b, off, rfl, Nat.lt_of_lt_of_le hlt hb.size, fun i hi => by rw [hb.cell hlt]; exact hc i hi⟩
theorem BRow.at {w : World} {a : Option Addr} {L : List UInt8} (h : BRow w a L) {k : Nat} (hk : k < L.length) : ∃ b off, a = some ⟨b, off, none⟩ ∧ b < w.heap.size ∧ ∀ i, i < L.length → w.cell? ⟨b, off + i, none⟩ = some (bt L i) := by
  rcases h with h | h
  · omega
  · exact h
theorem BRow.take {w : World} {a : Option Addr} {L : List UInt8} (h : BRow w a L) (K : Nat) : BRow w a (L.take K) := by
  rcases h with h | ⟨b, off, rfl, hb, hc⟩
  · exact .inl (by simp [List.length_eq_zero_iff.1 h])
  · refine .inr ⟨b, off, rfl, hb, fun i hi => ?_⟩
    have hi' := hi
    rw [List.length_take] at hi'
    rw [hc i (by omega)]
    simp [bt, List.getD, show i < K by omega]

theorem own_row {w : World} {base : Nat} {v : Value} {L : List UInt8} (h : w.ownsRow base 5 1 v L.length (bv L)) :
    ∃ a c, v = .slice a L.length c ∧ BRow w a L ∧ (a = none → L.length = 0 ∧ c = 0) ∧ L.length ≤ c := by
  have h0 := h
  rcases h with ⟨hl, ⟨rfl, hn⟩ | ⟨g, cap, cur, rfl, hb, hg, hle, hm, hs, ht⟩⟩
  · exact ⟨none, 0, by rw [hn], .inl hn, fun _ => ⟨hn, rfl⟩, by omega⟩
  · refine ⟨_, cap, rfl, ?_, (fun h => by cases h), hle⟩
    by_cases hz : L.length = 0
    · exact .inl hz
    · refine .inr ⟨g, 0, rfl, (h0.lt g rfl).2, fun i hi => ?_⟩
      have hadd : (⟨g, 0, none⟩ : Addr).add i = ⟨g, 0 + i, none⟩ := by unfold Addr.add; split <;> simp_all
      rw [← hadd]
      exact h0.cells (g := g) rfl i _ (by simp [bv, bt, List.getD, hi])

theorem info5 : (Try.prog.info? 5).map (fun i => (i.zero, i.size, i.bytes)) = some (some (.int .u8 0), 1, 1) := by kernel_rfl

/-- A copy: of the call's own. -/
def ClPost (w : World) (L : List UInt8) (e : Ending) (w' : World) : Prop :=
  ∃ v, e = .returned v ∧ w'.ownsRow w.heap.size 5 1 v L.length (bv L) ∧ Below w.heap.size w w'

theorem own_of_row {w : World} {base g n : Nat} {L : List UInt8} (h : w.rowIs g 5 n (bt L)) (hn : n = L.length) (hb : base ≤ g) (hm : n ≤ maxLen) : w.ownsRow base 5 1 (.slice (some ⟨g, 0, none⟩) n n) L.length (bv L) := by
  obtain ⟨c, hc, hs, hx⟩ := h
  subst hn
  refine ⟨by simp [bv], .inr ⟨g, L.length, c, rfl, hb, hc, Nat.le_refl _, hm, by omega, ?_⟩⟩
  rw [Nat.mul_one, List.take_of_length_le (by simp; omega)]
  apply List.ext_getElem?
  intro i
  by_cases hi : i < L.length
  · have := hx i hi
    rw [Array.getElem?_toList, this]
    simp [bv, bt, List.getD, hi]
  · rw [List.getElem?_eq_none (by simp; omega), List.getElem?_eq_none (by simp [bv]; omega)]

set_option maxHeartbeats 400000 in
theorem clone_some (b off c : Nat) (L : List UInt8) (w : World) (hn : L.length ≤ 1048576) (hb : b < w.heap.size) (hc : ∀ i, i < L.length → w.cell? ⟨b, off + i, none⟩ = some (bt L i)) :
    Calls Try.prog 7 #[.slice (some ⟨b, off, none⟩) L.length c] w (ClPost w L) := by
  obtain ⟨n, hn'⟩ : ∃ n, n = L.length := ⟨_, rfl⟩
  rw [← hn'] at hn hc ⊢
  have Hn := hide hn'
  clear hn'
  have hmk := run_make_row' (P := Try.prog) 22 5 (.int .u8 0) 1 Try.underlying22 info5 rfl .i64 .i64 n (by omega) (by omega)
  have heq := fun w' => Lib.run_eql_slice_nil (P := Try.prog) w' 22 5 (some ⟨b, off, none⟩) n c 0 0 Try.underlying22
  have Hc := hide hc
  clear hc
  go_enter Try.func7, Try.ntmps7
  go_wp2
  go_loopw [4] (fun i wr => ∃ k : Nat, k ≤ n ∧ i = .int .i64 k ∧ Hid (wr.rowIs w.heap.size 5 n (fun j => if j < k then bt L j else .int .u8 0)) ∧ Hid (Below w.heap.size w wr)) (fun i _ => n - (intOf i).toNat)
  case atStart =>
    exact ⟨0, Nat.zero_le _, rfl, World.rowIs_made w (.int .u8 0) n 5, (Below.refl _ _).alloc (Nat.le_refl _) _⟩
  case round =>
    obtain ⟨k, hk, rfl, HR, HB⟩ := hrel
    by_cases hlt : k < n
    · have e1 : wr.cell? ⟨b, off + k, none⟩ = some (.int .u8 ((L.getD k 0).toNat : Int)) := by rw [HB.out.cell hb]; exact Hc.out k hlt
      obtain ⟨x, hx⟩ : ∃ x, x = ((L.getD k 0).toNat : Int) := ⟨_, rfl⟩
      rw [← hx] at e1
      have HX : Hid (bt L k = .int .u8 x) := by show bt L k = _; rw [hx]; rfl
      clear hx
      have e2 : wr.frozen? ⟨w.heap.size, k, none⟩ = false := HR.out.frozen k
      obtain ⟨v3, e3⟩ : ∃ v, wr.cell? ⟨w.heap.size, k, none⟩ = some v := ⟨_, HR.out.cell hlt⟩
      have hi : (k : Int) < (n : Int) := by omega
      go_wp2
      go_roundw
      case rel =>
        refine ⟨k + 1, by omega, by go_num, ?_, HB.out.setCell (Nat.le_refl _) _⟩
        refine (HR.out.set k (.int .u8 x)).congr fun j _ => ?_
        by_cases hj : j = k
        · subst hj; simp [HX.out]
        · by_cases hj2 : j < k
          · simp [hj, hj2, show j < k + 1 by omega]
          · simp [hj, hj2, show ¬ j < k + 1 by omega]
      case measure => simp [intOf]; omega
    · have HF : Hid (wr.rowIs w.heap.size 5 n (bt L)) := HR.out.congr fun j hj => by simp [show j < k by omega]
      go_wp2
      go_ret
      exact ⟨_, rfl, own_of_row HF.out Hn.out (Nat.le_refl _) (by unfold maxLen; omega), HB.out⟩

set_option maxHeartbeats 400000 in
theorem clone_nil (w : World) : Calls Try.prog 7 #[.slice none 0 0] w (ClPost w []) := by
  have heq := fun w' => Lib.run_eql_slice_nil (P := Try.prog) w' 22 5 none 0 0 0 0 Try.underlying22
  go_enter Try.func7, Try.ntmps7
  go_wp2
  go_ret
  exact ⟨_, rfl, World.ownsRow_nil _ _ _ _, Below.refl _ _⟩

set_option maxHeartbeats 400000 in
theorem clone_empty (x : Addr) (c : Nat) (w : World) : Calls Try.prog 7 #[.slice (some x) 0 c] w (ClPost w []) := by
  have hmk := run_make_row' (P := Try.prog) 22 5 (.int .u8 0) 1 Try.underlying22 info5 rfl .i64 .i64 0 (by omega) (by omega)
  have heq := fun w' => Lib.run_eql_slice_nil (P := Try.prog) w' 22 5 (some x) 0 c 0 0 Try.underlying22
  simp only [Int.natCast_zero] at hmk
  go_enter Try.func7, Try.ntmps7
  go_wp2
  go_loopw [4] (fun i wr => i = .int .i64 0 ∧ Hid (wr.rowIs w.heap.size 5 0 (bt [])) ∧ Hid (Below w.heap.size w wr)) (fun i _ => 0)
  case atStart => exact ⟨rfl, (World.rowIs_made w (.int .u8 0) 0 5).congr (fun i hi => by omega), (Below.refl _ _).alloc (Nat.le_refl _) _⟩
  case round =>
    obtain ⟨rfl, HR, HB⟩ := hrel
    go_wp2
    go_ret
    exact ⟨_, rfl, own_of_row HR.out rfl (Nat.le_refl _) (by unfold maxLen; omega), HB.out⟩

theorem clone_any (a : Option Addr) (c : Nat) (L : List UInt8) (w : World) (hn : L.length ≤ 1048576) (hnil : a = none → L.length = 0 ∧ c = 0) (hr : BRow w a L) :
    Calls Try.prog 7 #[.slice a L.length c] w (ClPost w L) := by
  rcases hr with h0 | ⟨b, off, rfl, hb, hc⟩
  · have hL : L = [] := List.length_eq_zero_iff.1 h0
    subst hL
    cases a with
    | none =>
      obtain ⟨_, rfl⟩ := hnil rfl
      exact clone_nil w
    | some x => exact clone_empty x c w
  · exact clone_some b off c L w hn hb hc

set_option maxHeartbeats 1000000 in
theorem equal_any (a1 a2 : Option Addr) (c1 c2 : Nat) (A B : List UInt8) (w : World) (_h1 : A.length ≤ 9223372036854775807) (h2 : B.length ≤ 9223372036854775807) (r1 : BRow w a1 A) (r2 : BRow w a2 B) :
    Calls Try.prog 14 #[.slice a1 A.length c1, .slice a2 B.length c2] w fun e w' => e = .returned (.bool (A == B)) ∧ Below w.heap.size w w' := by
  have R1 := hide r1
  have R2 := hide r2
  clear r1 r2
  by_cases hs : A.length = B.length
  · obtain ⟨n, hn⟩ : ∃ n, n = A.length := ⟨_, rfl⟩
    have Hn := hide hn
    have Hm : Hid (n = B.length) := by show n = _; omega
    rw [← hn]
    rw [show B.length = n by omega] at h2 ⊢
    clear hn hs
    have hs' : ((n : Int) != (n : Int)) = false := by simp
    go_enter Try.func14, Try.ntmps14
    go_wp2
    go_loopw [5] (fun i wr => ∃ k : Nat, k ≤ n ∧ i = .int .i64 k ∧ Hid (∀ j, j < k → A.getD j 0 = B.getD j 0) ∧ Hid (Below w.heap.size w wr)) (fun i _ => n - (intOf i).toNat)
    case atStart => exact ⟨0, Nat.zero_le _, rfl, fun j h => by omega, Below.refl _ _⟩
    case round =>
      obtain ⟨k, hk, rfl, HE, HB⟩ := hrel
      by_cases hlt : k < n
      · have hka : k < A.length := by rw [← Hn.out]; exact hlt
        have hkb : k < B.length := by rw [← Hm.out]; exact hlt
        obtain ⟨x1, o1, rfl, hx1, hc1⟩ := (R1.out.later HB.out).at hka
        obtain ⟨x2, o2, rfl, hx2, hc2⟩ := (R2.out.later HB.out).at hkb
        have e1 : wr.cell? ⟨x1, o1 + k, none⟩ = some (.int .u8 ((A.getD k 0).toNat : Int)) := hc1 k hka
        have e2 : wr.cell? ⟨x2, o2 + k, none⟩ = some (.int .u8 ((B.getD k 0).toNat : Int)) := hc2 k hkb
        obtain ⟨y1, hy1⟩ : ∃ y1, y1 = ((A.getD k 0).toNat : Int) := ⟨_, rfl⟩
        obtain ⟨y2, hy2⟩ : ∃ y2, y2 = ((B.getD k 0).toNat : Int) := ⟨_, rfl⟩
        rw [← hy1] at e1
        rw [← hy2] at e2
        have HY : Hid (y1 = y2 ↔ A.getD k 0 = B.getD k 0) := by
          show y1 = y2 ↔ _
          rw [hy1, hy2]
          constructor
          · intro h; exact UInt8.toNat_inj.1 (by omega)
          · intro h; rw [h]
        clear hy1 hy2 hc1 hc2 hka hkb
        have hi : (k : Int) < (n : Int) := by omega
        cases hq : (y1 != y2)
        · have HQ : Hid (A.getD k 0 = B.getD k 0) := HY.out.1 (by simpa using hq)
          go_wp2
          go_quiet (fail)
          go_wp2
          go_roundw
          case rel =>
            refine ⟨k + 1, by omega, by go_num, fun j hj => ?_, below_drewN HB.out nq⟩
            by_cases e : j = k
            · subst e; exact HQ.out
            · exact HE.out j (by omega)
          case measure => simp [intOf]; omega
        · have HQ : Hid ((A == B) = false) := by
            show (A == B) = false
            rw [beq_eq_false_iff_ne]
            intro he
            have : y1 = y2 := HY.out.2 (by rw [he])
            simp [this] at hq
          go_wp2
          go_quiet (fail)
          go_wp2
          go_ret
          exact ⟨ret_bool HQ.out.symm, below_drewN HB.out nq⟩
      · have HQ : Hid ((A == B) = true) := by
          show (A == B) = true
          rw [beq_iff_eq]
          apply List.ext_getElem (by have := Hn.out; have := Hm.out; omega)
          intro j j1 j2
          have := HE.out j (by have := Hn.out; omega)
          simpa [List.getD, j1, j2] using this
        go_wp2
        go_ret
        exact ⟨ret_bool HQ.out.symm, HB.out⟩
  · have hs' : ((A.length : Int) != (B.length : Int)) = true := by simp; omega
    have HQ : Hid ((A == B) = false) := by
      show (A == B) = false
      rw [beq_eq_false_iff_ne]
      intro he; exact hs (by rw [he])
    clear hs
    go_enter Try.func14, Try.ntmps14
    go_wp2
    go_ret
    exact ⟨ret_bool HQ.out.symm, Below.refl _ _⟩

end Go.Proofs.Qxb6603681a
