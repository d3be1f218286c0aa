import Derived.Test.Qxb6003357aFlip
import Derived.Test.Qxb6003357aTrimPlain
namespace Go.Proofs.Qxb6003357a
open Go.RowKit

def sameI (x y : Int) : Bool := isLetI x && isLetI y && (bits .or .u8 x 32 == bits .or .u8 y 32)

theorem or_low0 : ∀ n : Fin 256, isLetI ((UInt8.ofNat n.val).toNat : Int) = true → (((UInt8.ofNat n.val).toNat ||| 32 : Nat) : Int) = lowI ((UInt8.ofNat n.val).toNat : Int) := by
  decide +kernel
theorem or_low (c : UInt8) (h : isLetI (c.toNat : Int) = true) : bits .or .u8 (c.toNat : Int) 32 = lowI (c.toNat : Int) := by
  have hlt : c.toNat < 256 := UInt8.toNat_lt c
  have h0 := or_low0 ⟨c.toNat, hlt⟩
  simp only [UInt8.ofNat_toNat] at h0
  rw [← h0 h]
  exact u8_or_nat c.toNat 32 hlt (by omega)

theorem same_yes (x y : UInt8) (h : sameI (x.toNat : Int) (y.toNat : Int) = true) : lowB x = lowB y := by
  unfold sameI at h
  simp only [Bool.and_eq_true, beq_iff_eq] at h
  obtain ⟨⟨h1, h2⟩, h3⟩ := h
  rw [or_low x h1, or_low y h2] at h3
  exact h3
theorem same_no (x y : UInt8) (hne : ((x.toNat : Int) != (y.toNat : Int)) = true) (h : sameI (x.toNat : Int) (y.toNat : Int) = false) : lowB x ≠ lowB y := by
  intro he
  have hne' : (x.toNat : Int) ≠ (y.toNat : Int) := by simpa using hne
  have hx : isLetI (x.toNat : Int) = true := by
    unfold isLetI; unfold lowB lowI at he
    refine decide_eq_true ?_
    split at he <;> split at he <;> omega
  have hy : isLetI (y.toNat : Int) = true := by
    unfold isLetI; unfold lowB lowI at he
    refine decide_eq_true ?_
    split at he <;> split at he <;> omega
  unfold sameI at h
  rw [hx, hy, or_low x hx, or_low y hy] at h
  unfold lowB at he
  simp [he] at h

set_option maxHeartbeats 400000 in
theorem same_any (x y : Int) (w : World) (hx0 : 0 ≤ x) (hx1 : x ≤ 255) (hy0 : 0 ≤ y) (hy1 : y ≤ 255) :
    Calls Try.prog 18 #[.int .u8 x, .int .u8 y] w fun e w' => e = .returned (.bool (sameI x y)) ∧ w' = w := by
  cases hx : isLetI x
  · have H : Hid (sameI x y = false) := by show sameI x y = false; simp [sameI, hx]
    go_enter Try.func18, Try.ntmps18
    go_wp2_with fail
    refine (isLet_any x _ hx0 hx1).mono ?_
    rintro e w0 ⟨rfl, hw0⟩; cases hw0
    rw [hx]
    go_wp2
    go_ret
    exact ⟨ret_bool H.out.symm, rfl⟩
  · cases hy : isLetI y
    · have H : Hid (sameI x y = false) := by show sameI x y = false; simp [sameI, hy]
      go_enter Try.func18, Try.ntmps18
      go_wp2_with fail
      refine (isLet_any x _ hx0 hx1).mono ?_
      rintro e w0 ⟨rfl, hw0⟩; cases hw0
      rw [hx]
      go_wp2_with fail
      refine (isLet_any y _ hy0 hy1).mono ?_
      rintro e w0 ⟨rfl, hw0⟩; cases hw0
      rw [hy]
      go_wp2
      go_ret
      exact ⟨ret_bool H.out.symm, rfl⟩
    · have H : Hid (sameI x y = (bits .or .u8 x 32 == bits .or .u8 y 32)) := by show sameI x y = _; simp [sameI, hx, hy]
      go_enter Try.func18, Try.ntmps18
      go_wp2_with fail
      refine (isLet_any x _ hx0 hx1).mono ?_
      rintro e w0 ⟨rfl, hw0⟩; cases hw0
      rw [hx]
      go_wp2_with fail
      refine (isLet_any y _ hy0 hy1).mono ?_
      rintro e w0 ⟨rfl, hw0⟩; cases hw0
      rw [hy]
      go_wp2
      go_ret
      exact ⟨ret_bool H.out.symm, rfl⟩

set_option maxHeartbeats 1000000 in
theorem lfold_any (a b : ByteArray) (w : World) (ha : a.size ≤ maxLen) (_hb : b.size ≤ maxLen) :
    Calls Try.prog 25 #[.string a, .string b] w fun e w' => e = .returned (.bool (foldEq a b)) ∧ ∃ n, w' = w.drewN n := by
  unfold maxLen at ha _hb
  by_cases hs : a.size = b.size
  · have hs' : ((a.size : Int) != (b.size : Int)) = false := by simp [hs]
    have Hs : Hid (a.size = b.size) := hs
    have hsi : b.size ≤ a.size ∧ a.size ≤ b.size := by omega
    obtain ⟨hs1, hs2⟩ := hsi
    clear hs
    go_enter Try.func25, Try.ntmps25
    go_wp2
    go_loopw [5] (fun i wr => ∃ k : Nat, k ≤ a.size ∧ i = .int .i64 k ∧ (∀ j (h1 : j < a.size) (h2 : j < b.size), j < k → lowB a[j] = lowB b[j]) ∧ ∃ n, wr = w.drewN n) (fun i _ => a.size - (intOf i).toNat)
    case atStart => exact ⟨0, Nat.zero_le _, rfl, fun _ _ _ h => by omega, 0, rfl⟩
    case round =>
      obtain ⟨k, hk, rfl, hpre, hdr⟩ := hrel
      have HP : Hid (∀ j (h1 : j < a.size) (h2 : j < b.size), j < k → lowB a[j] = lowB b[j]) := hpre
      have HD : Hid (∃ n, wr = w.drewN n) := hdr
      clear hpre hdr
      by_cases hlt : k < a.size
      · have hlt2 : k < b.size := by omega
        have hi1 : (k : Int) < (a.size : Int) := by omega
        have hi2 : (k : Int) < (b.size : Int) := by omega
        cases hne : ((a[k].toNat : Int) != (b[k].toNat : Int))
        · have Hq : Hid (lowB a[k] = lowB b[k]) := by
            show lowB a[k] = lowB b[k]
            have : (a[k].toNat : Int) = (b[k].toNat : Int) := by simpa using hne
            unfold lowB; rw [this]
          go_wp2
          go_quiet ((fail))
          go_wp2
          go_roundw
          case rel =>
            refine ⟨k + 1, by omega, by go_num, ?_, ?_⟩
            · intro j h1 h2 h3
              by_cases hj : j = k
              · subst hj; exact Hq.out
              · exact HP.out j h1 h2 (by omega)
            · obtain ⟨n, hn⟩ := HD.out
              exact ⟨n + nq, by rw [hn, World.drewN_drewN]⟩
          case measure => simp [intOf]; omega
        · have ba := UInt8.toNat_lt a[k]
          have bb := UInt8.toNat_lt b[k]
          cases hsm : sameI (a[k].toNat : Int) (b[k].toNat : Int)
          · have Hq : Hid (foldEq a b = false) := by
              cases h : foldEq a b
              · exact rfl
              · exact absurd (foldEq_at h k hlt hlt2) (same_no _ _ hne hsm)
            go_wp2
            go_quiet ((go_at_call 18; exact Calls.quiet_of_same (same_any _ _ _ (by omega) (by omega) (by omega) (by omega))))
            go_wp2
            go_ret
            refine ⟨ret_bool Hq.out.symm, ?_⟩
            obtain ⟨n, hn⟩ := HD.out
            exact ⟨n + nq, by rw [hn, World.drewN_drewN]⟩
          · have Hq : Hid (lowB a[k] = lowB b[k]) := same_yes _ _ hsm
            go_wp2
            go_quiet ((go_at_call 18; exact Calls.quiet_of_same (same_any _ _ _ (by omega) (by omega) (by omega) (by omega))))
            go_wp2
            go_roundw
            case rel =>
              refine ⟨k + 1, by omega, by go_num, ?_, ?_⟩
              · intro j h1 h2 h3
                by_cases hj : j = k
                · subst hj; exact Hq.out
                · exact HP.out j h1 h2 (by omega)
              · obtain ⟨n, hn⟩ := HD.out
                exact ⟨n + nq, by rw [hn, World.drewN_drewN]⟩
            case measure => simp [intOf]; omega
      · go_wp2
        go_ret
        refine ⟨ret_bool ?_, HD.out⟩
        exact (foldEq_mk Hs.out (fun j h1 h2 => HP.out j h1 h2 (by omega))).symm
  · have hs' : ((a.size : Int) != (b.size : Int)) = true := by simp; omega
    have HF : Hid (foldEq a b = false) := by
      cases h : foldEq a b
      · exact rfl
      · exact absurd (foldEq_size h) hs
    clear hs
    go_enter Try.func25, Try.ntmps25
    go_wp2
    go_ret
    exact ⟨ret_bool HF.out.symm, 0, rfl⟩

set_option maxHeartbeats 400000 in
theorem wire_any (a : ByteArray) (w : World) :
    Calls Try.prog 26 #[.agg #[.string a]] w fun e w' => e = .returned (.string a) ∧ Below w.heap.size w w' := by
  go_enter Try.func26, Try.ntmps26
  go_wp2
  go_ret
  exact ⟨rfl, (Below.refl _ _).alloc (Nat.le_refl _) _⟩

end Go.Proofs.Qxb6003357a
