import Derived.Test.Qxb6003357aClone
import Derived.Test.Qxb6003357aFlipPlain
import Derived.Laws.IdiomStrings
namespace Go.Proofs.Qxb6003357a
open Go.RowKit

set_option maxHeartbeats 400000 in
theorem isLet_any (c : Int) (w : World) (_h0 : 0 ≤ c) (_h1 : c ≤ 255) :
    Calls Try.prog 31 #[.int .u8 c] w fun e w' => e = .returned (.bool (isLetI c)) ∧ w' = w := by
  by_cases ha : 97 ≤ c
  · by_cases hb : c ≤ 122
    · have H : Hid (isLetI c = true) := by unfold isLetI; exact decide_eq_true (by omega)
      go_enter Try.func31, Try.ntmps31
      go_wp2
      go_ret
      exact ⟨ret_bool H.out.symm, rfl⟩
    · have H : Hid (isLetI c = false) := by unfold isLetI; exact decide_eq_false (by omega)
      have hc : 65 ≤ c := by omega
      have hd : ¬ c ≤ 90 := by omega
      go_enter Try.func31, Try.ntmps31
      go_wp2
      go_ret
      exact ⟨ret_bool H.out.symm, rfl⟩
  · by_cases hb : 65 ≤ c
    · by_cases hc : c ≤ 90
      · have H : Hid (isLetI c = true) := by unfold isLetI; exact decide_eq_true (by omega)
        go_enter Try.func31, Try.ntmps31
        go_wp2
        go_ret
        exact ⟨ret_bool H.out.symm, rfl⟩
      · have H : Hid (isLetI c = false) := by unfold isLetI; exact decide_eq_false (by omega)
        go_enter Try.func31, Try.ntmps31
        go_wp2
        go_ret
        exact ⟨ret_bool H.out.symm, rfl⟩
    · have H : Hid (isLetI c = false) := by unfold isLetI; exact decide_eq_false (by omega)
      go_enter Try.func31, Try.ntmps31
      go_wp2
      go_ret
      exact ⟨ret_bool H.out.symm, rfl⟩

/-- What the byte j holds behind k rounds. -/
def fcell (n : Nat) (B : Nat → Bool) (s : ByteArray) (k j : Nat) : UInt8 := if j < k then flipB (decide (j < n) && B j) (s.data.toList.getD j 0) else s.data.toList.getD j 0

structure FlipRel (w : World) (n : Nat) (B : Nat → Bool) (s : ByteArray) (k : Nat) (wr : World) : Prop where
  bel : Below w.heap.size w wr
  cell : ∀ j, j < s.size → wr.cell? ⟨w.heap.size, j, none⟩ = some (.int .u8 ((fcell n B s k j).toNat : Int))
  free : ∀ j, j < s.size → wr.frozen? ⟨w.heap.size, j, none⟩ = false

theorem FlipRel.start (w : World) (n : Nat) (B : Nat → Bool) (s : ByteArray) (cap : Nat) : FlipRel w n B s 0 (w.alloc (.cells (bytesRow s cap) 5 ((bytesRow s cap).size, (bytesRow s cap).size + 1))).drew := by
  refine ⟨((Below.refl _ _).alloc (Nat.le_refl _) _).drew, fun j hj => ?_, fun j hj => ?_⟩
  · show (w.alloc (.cells (bytesRow s cap) 5 ((bytesRow s cap).size, (bytesRow s cap).size + 1))).cell? ⟨w.heap.size, j, none⟩ = _
    rw [World.cell?_alloc_mark]
    have hj' : j < s.data.size := hj
    simp [bytesRow, fcell, Array.getElem?_append, hj, List.getD]
  · show (w.alloc (.cells (bytesRow s cap) 5 ((bytesRow s cap).size, (bytesRow s cap).size + 1))).frozen? ⟨w.heap.size, j, none⟩ = _
    rw [World.frozen?_alloc_mark]
    have hz : s.size ≤ (bytesRow s cap).size := by simp [bytesRow]
    simp; omega

theorem fcell_next_other (n : Nat) (B : Nat → Bool) (s : ByteArray) (k j : Nat) (h : j ≠ k) : fcell n B s (k + 1) j = fcell n B s k j := by
  unfold fcell
  by_cases hj : j < k
  · rw [if_pos (by omega), if_pos hj]
  · rw [if_neg (by omega), if_neg hj]
theorem fcell_next_same (n : Nat) (B : Nat → Bool) (s : ByteArray) (k : Nat) : fcell n B s (k + 1) k = flipB (decide (k < n) && B k) (s.data.toList.getD k 0) := by
  unfold fcell; rw [if_pos (by omega)]
theorem fcell_same (n : Nat) (B : Nat → Bool) (s : ByteArray) (k : Nat) : fcell n B s k k = s.data.toList.getD k 0 := by
  unfold fcell; rw [if_neg (by omega)]

/-- The round that leaves the byte. -/
theorem FlipRel.keep {w : World} {n : Nat} {B : Nat → Bool} {s : ByteArray} {k : Nat} {wr : World} (h : FlipRel w n B s k wr) (hf : flipB (decide (k < n) && B k) (s.data.toList.getD k 0) = s.data.toList.getD k 0) : FlipRel w n B s (k + 1) wr := by
  refine ⟨h.bel, fun j hj => ?_, h.free⟩
  rw [h.cell j hj]
  by_cases e : j = k
  · subst e; rw [fcell_same, fcell_next_same, hf]
  · rw [fcell_next_other _ _ _ _ _ e]

/-- The round that turns it. -/
theorem FlipRel.turn {w : World} {n : Nat} {B : Nat → Bool} {s : ByteArray} {k : Nat} {wr : World} (h : FlipRel w n B s k wr) (hk : k < s.size) {v : Int} (hf : ((flipB (decide (k < n) && B k) (s.data.toList.getD k 0)).toNat : Int) = v) : FlipRel w n B s (k + 1) (wr.setCell ⟨w.heap.size, k, none⟩ (.int .u8 v)) := by
  refine ⟨h.bel.setCell (Nat.le_refl _) _, fun j hj => ?_, fun j hj => by rw [World.frozen?_setCell]; exact h.free j hj⟩
  by_cases e : j = k
  · subst e
    rw [World.cell?_setCell_same' _ _ _ (by rw [h.cell j hj]; rfl), fcell_next_same, hf]
  · rw [World.cell?_setCell_other _ _ _ _ (fun he => e (by injection he with _ h2; exact h2.symm)), h.cell j hj, fcell_next_other _ _ _ _ _ e]

theorem FlipRel.done {w : World} {n : Nat} {B : Nat → Bool} {s : ByteArray} {k : Nat} {wr : World} (h : FlipRel w n B s k wr) (hk : s.size ≤ k ∨ n ≤ k) :
    ∀ j (hj : j < (flipL n B s).length), wr.cell? ((⟨w.heap.size, 0, none⟩ : Addr).add j) = some (.int .u8 ((flipL n B s)[j].toNat : Int)) := by
  intro j hj
  have hj' : j < s.size := by rw [flipL_length] at hj; exact hj
  have e : (⟨w.heap.size, 0, none⟩ : Addr).add j = ⟨w.heap.size, j, none⟩ := by unfold Addr.add; split <;> simp_all
  rw [e, h.cell j hj']
  congr 2
  have hd : s.data.toList.getD j 0 = s.data[j] := by simp [List.getD, hj']
  simp only [flipL, List.getElem_mapIdx]
  unfold fcell
  rw [hd]
  by_cases hjk : j < k
  · rw [if_pos hjk]; rfl
  · rw [if_neg hjk]
    have : ¬ j < n := by omega
    simp [flipB, this]

theorem xor_u8 (c : UInt8) : bits .xor .u8 (c.toNat : Int) 32 = ((c ^^^ 32).toNat : Int) := by
  have := u8_xor_nat c.toNat 32 (UInt8.toNat_lt c) (by omega)
  rw [UInt8.toNat_xor]
  exact this

set_option maxHeartbeats 1000000 in
theorem flip_any (s : ByteArray) (a : Option Addr) (n c : Nat) (B : Nat → Bool) (w : World) (hs : s.size ≤ 1048576) (_hn : n ≤ 1048576) (hr : VRow w a n (fun i => .bool (B i))) :
    Calls Try.prog 16 #[.string s, .slice a n c] w fun e w' => e = .returned (.string (flipS n B s)) ∧ Below w.heap.size w w' := by
  have hcv := fun w' => run_bytes_of_string (P := Try.prog) w' 9 40 5 s Try.underlying9 Try.underlying40 Try.underlying5
  have HV := hide hr
  clear hr
  go_enter Try.func16, Try.ntmps16
  go_wp2
  go_loopw [6] (fun i wr => ∃ k : Nat, k ≤ s.size ∧ i = .int .i64 k ∧ FlipRel w n B s k wr) (fun i _ => s.size - (intOf i).toNat)
  case atStart => exact ⟨0, Nat.zero_le _, rfl, FlipRel.start w n B s _⟩
  case round =>
    obtain ⟨k, hk, rfl, hR⟩ := hrel
    have HR := hide hR
    clear hR hcv
    by_cases hlt : k < s.size
    · by_cases hltn : k < n
      · obtain ⟨b, off, rfl, hb, hc⟩ : ∃ b off, a = some ⟨b, off, none⟩ ∧ b < w.heap.size ∧ ∀ i, i < n → w.cell? ⟨b, off + i, none⟩ = some (.bool (B i)) := by
          rcases HV.out with h | h
          · omega
          · exact h
        have hi1 : (k : Int) < (s.size : Int) := by omega
        have hi2 : (k : Int) < (n : Int) := by omega
        have hdn : decide (k < n) = true := by simp [hltn]
        have e1 : wr.cell? ⟨b, off + k, none⟩ = some (.bool (B k)) := by rw [HR.out.bel.cell hb]; exact hc k hltn
        have e2 : wr.cell? ⟨w.heap.size, k, none⟩ = some (.int .u8 ((s.data.toList.getD k 0).toNat : Int)) := by rw [HR.out.cell k hlt, fcell_same]
        have e3 : wr.frozen? ⟨w.heap.size, k, none⟩ = false := HR.out.free k hlt
        have Hdn := hide hdn
        clear hc hdn
        obtain ⟨x, hx⟩ : ∃ x, x = s.data.toList.getD k 0 := ⟨_, rfl⟩
        rw [← hx] at e2
        have Hx := hide hx
        clear hx
        have hx1 : (0 : Int) ≤ (x.toNat : Int) := by omega
        have hx2 : (x.toNat : Int) ≤ 255 := by have := UInt8.toNat_lt x; omega
        cases hB : B k
        · have HF : Hid (FlipRel w n B s (k + 1) wr) := HR.out.keep (by rw [hB]; simp [flipB])
          rw [hB] at e1
          go_wp2
          go_roundw
          case rel => exact ⟨k + 1, by omega, by go_num, HF.out⟩
          case measure => simp [intOf]; omega
        · rw [hB] at e1
          cases hL : isLetI (x.toNat : Int)
          · have HF : Hid (FlipRel w n B s (k + 1) wr) := HR.out.keep (by rw [← Hx.out]; simp [flipB, hL])
            go_wp2_with (go_at_call 31; refine (isLet_any _ _ hx1 hx2).mono ?_; rintro e w0 ⟨rfl, hw0⟩; cases hw0)
            go_roundw
            case rel => exact ⟨k + 1, by omega, by go_num, HF.out⟩
            case measure => simp [intOf]; omega
          · have HF : Hid (FlipRel w n B s (k + 1) (wr.setCell ⟨w.heap.size, k, none⟩ (.int .u8 (bits .xor .u8 (x.toNat : Int) 32)))) :=
              HR.out.turn hlt (by rw [← Hx.out, hB, Hdn.out, xor_u8]; simp [flipB, hL])
            go_wp2_with (go_at_call 31; refine (isLet_any _ _ hx1 hx2).mono ?_; rintro e w0 ⟨rfl, hw0⟩; cases hw0)
            go_roundw
            case rel => exact ⟨k + 1, by omega, by go_num, HF.out⟩
            case measure => simp [intOf]; omega
      · have hback := run_convert_bytes_back (P := Try.prog) wr 40 9 5 ⟨w.heap.size, 0, none⟩ (grownCap w s.size 0 5) (flipL n B s) Try.underlying40 Try.underlying5 Try.underlying9 (HR.out.done (by omega))
        rw [flipL_length] at hback
        go_wp2
        go_ret
        exact ⟨rfl, HR.out.bel⟩
    · have hback := run_convert_bytes_back (P := Try.prog) wr 40 9 5 ⟨w.heap.size, 0, none⟩ (grownCap w s.size 0 5) (flipL n B s) Try.underlying40 Try.underlying5 Try.underlying9 (HR.out.done (by omega))
      rw [flipL_length] at hback
      go_wp2
      go_ret
      exact ⟨rfl, HR.out.bel⟩

end Go.Proofs.Qxb6003357a
