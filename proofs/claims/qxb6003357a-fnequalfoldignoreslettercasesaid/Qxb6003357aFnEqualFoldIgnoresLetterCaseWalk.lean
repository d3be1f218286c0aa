import Derived.Test.Qxb6003357aFlip
namespace Go.Proofs.Qxb6003357a
open Go.RowKit

set_option maxHeartbeats 400000 in
theorem zb14_yes (s : ByteArray) (a : Option Addr) (n c : Nat) (w : World) (h : s.size + n ≤ 1048576) :
    Calls Try.prog 14 #[.string s, .slice a n c] w fun e w' => e = .returned (.bool true) ∧ w' = w := by
  have h1 : ¬ (1048576 : Int) < s.size := by omega
  have h2 : ¬ (1048576 : Int) < n := by omega
  have h4 : ¬ (1048576 : Int) < (s.size : Int) + n := by omega
  go_enter Try.func14, Try.ntmps14
  go_wp2
  go_ret
  exact ⟨rfl, rfl⟩

set_option maxHeartbeats 400000 in
theorem zb14_no (s : ByteArray) (a : Option Addr) (n c : Nat) (w : World) (ha : s.size ≤ maxLen) (hb : n ≤ maxLen) (h : ¬ s.size + n ≤ 1048576) :
    Calls Try.prog 14 #[.string s, .slice a n c] w fun e w' => e = .returned (.bool false) ∧ w' = w := by
  unfold maxLen at ha hb
  by_cases h1 : (1048576 : Int) < s.size
  · go_enter Try.func14, Try.ntmps14
    go_wp2
    go_ret
    exact ⟨rfl, rfl⟩
  by_cases h2 : (1048576 : Int) < n
  · go_enter Try.func14, Try.ntmps14
    go_wp2
    go_ret
    exact ⟨rfl, rfl⟩
  · have h3 : (1048576 : Int) < (s.size : Int) + n := by omega
    go_enter Try.func14, Try.ntmps14
    go_wp2
    go_ret
    exact ⟨rfl, rfl⟩

set_option maxHeartbeats 1000000 in
theorem ign_walk (s : ByteArray) (a : Option Addr) (n c : Nat) (B : Nat → Bool) (hs : s.size ≤ maxLen) (hn : n ≤ maxLen) (w : World) (hnil : a = none → n = 0 ∧ c = 0) (hr : VRow w a n (fun i => .bool (B i))) :
    Calls Try.prog 5 #[.string s, .slice a n c] w fun e w' => e = .returned (.bool true) ∧ Below w.heap.size w w' := by
  by_cases hsz : s.size + n ≤ 1048576
  · have h5 : ¬ (1048576 : Int) < (s.size : Int) + n := by omega
    have Hsz := hide hsz
    have HV := hide hr
    have HN := hide hnil
    have hs1 : s.size ≤ 1048576 := by omega
    have hn1 : n ≤ 1048576 := by omega
    obtain ⟨t, ht⟩ : ∃ t, t = flipS n B s := ⟨_, rfl⟩
    have ht1 : t.size ≤ maxLen := by rw [ht, flipS_size]; exact hs
    have HF : Hid (foldEq s t = true ∧ foldEq t s = true) := by rw [ht]; exact fold_flip n B s
    have Ht := hide ht
    clear hsz hr hnil ht
    go_enter Try.func5, Try.ntmps5
    go_wp2_with fail
    refine (zb14_yes s a n c _ Hsz.out).mono ?_
    rintro e w0 ⟨rfl, hw0⟩
    cases hw0
    go_wp2_with fail
    refine (cloneBools_any a n c B _ hn1 HN.out HV.out).mono ?_
    rintro e w1 ⟨a1, c1, rfl, hb1, hv1⟩
    have HB1 := hide hb1
    have HV1 := hide hv1
    clear hb1 hv1
    go_wp2_with fail
    refine (flip_any s a1 n c1 B _ hs1 hn1 HV1.out).mono ?_
    rintro e w2 ⟨rfl, hb2⟩
    rw [← Ht.out]
    have HB2 : Hid (Below w.heap.size w w2) := HB1.out.trans (hb2.mono HB1.out.size)
    clear hb2 HB1 HV1
    go_wp2_with fail
    refine (name_any s _).mono ?_
    rintro e w3 ⟨rfl, rfl⟩
    go_wp2_with fail
    refine (name_any t _).mono ?_
    rintro e w4 ⟨rfl, rfl⟩
    go_wp2_with fail
    refine (fold_any s t _ hs ht1).mono ?_
    rintro e w5 ⟨rfl, hb5⟩
    have HB5 : Hid (Below w.heap.size w w5) := by
      have h0 := HB2.out.size
      exact ((HB2.out.alloc h0 _).alloc (by simp; omega) _).trans (hb5.mono (by simp; omega))
    clear hb5 HB2
    rw [HF.out.1]
    go_wp2_with fail
    refine (name_any t _).mono ?_
    rintro e w6 ⟨rfl, rfl⟩
    go_wp2_with fail
    refine (name_any s _).mono ?_
    rintro e w7 ⟨rfl, rfl⟩
    go_wp2_with fail
    refine (fold_any t s _ ht1 hs).mono ?_
    rintro e w8 ⟨rfl, hb8⟩
    have HB8 : Hid (Below w.heap.size w w8) := by
      have h0 := HB5.out.size
      exact ((HB5.out.alloc h0 _).alloc (by simp; omega) _).trans (hb8.mono (by simp; omega))
    clear hb8 HB5
    rw [HF.out.2]
    go_wp2
    go_ret
    exact ⟨rfl, HB8.out⟩
  · go_enter Try.func5, Try.ntmps5
    go_wp2_with fail
    refine (zb14_no s a n c _ hs hn hsz).mono ?_
    rintro e w' ⟨rfl, rfl⟩
    go_wp2
    go_ret
    exact ⟨rfl, Below.refl _ _⟩

end Go.Proofs.Qxb6003357a
