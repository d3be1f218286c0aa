import Derived.Test.Qxb6003357aTrimE
namespace Go.Proofs.Qxb6003357a
open Go.RowKit

/-- What stays known of the world: nothing that was there has turned; the two copies read as they did. -/
structure St (w : World) (a0 a1 : Option Addr) (nl zl : List ByteArray) (wk : World) : Prop where
  bel : Below w.heap.size w wk
  r0 : SRow wk a0 nl
  r1 : SRow wk a1 zl
theorem St.next {w : World} {a0 a1 : Option Addr} {nl zl : List ByteArray} {w1 w2 : World} (h : St w a0 a1 nl zl w1) (hb : Below w1.heap.size w1 w2) : St w a0 a1 nl zl w2 :=
  ⟨h.bel.trans (hb.mono h.bel.size), h.r0.later hb, h.r1.later hb⟩

theorem SRow.take {w : World} {a : Option Addr} {nl : List ByteArray} (h : SRow w a nl) (K : Nat) : SRow w a (nl.take K) := by
  rcases h with h | ⟨b, off, rfl, hb, hc⟩
  · exact .inl (by simp [List.length_eq_zero_iff.1 h])
  · refine .inr ⟨b, off, rfl, hb, fun i hi => ?_⟩
    have hi' := hi
    rw [List.length_take] at hi'
    rw [hc i (by omega)]
    simp [lab, List.getD, show i < K by omega]

theorem wireOf_pre (a : Option Addr) (nl : List ByteArray) (K c : Nat) (w : World) (hK : K ≤ nl.length) (hwf : WF nl) (hn : nl.length ≤ 1048576) (h0 : SRow w a nl) :
    Calls Try.prog 23 #[.slice a K c] w fun e w' => e = .returned (.string ⟨(wire (nl.take K)).toArray⟩) ∧ Below w.heap.size w w' := by
  have h := wireOf_any a (nl.take K) c w (hwf.take K) (by rw [List.length_take]; omega) (h0.take K)
  rwa [List.length_take_of_le hK] at h

def before (nl zl : List ByteArray) : ByteArray := ⟨(if want nl zl = true then wire (nl.take (nl.length - zl.length)) else []).toArray⟩
theorem trim_ret {nl zl : List ByteArray} (hn : Labels nl) (hz : Labels zl) {e : Ending} (h : TrimPost nl zl e) : e = .returned (.tuple #[.agg #[.string (before nl zl)], .bool (want nl zl)]) := by
  rcases h with ⟨m, hm, hf, rfl⟩ | ⟨hno, rfl⟩
  · obtain ⟨h1, h2⟩ := fold_want hn hz hm hf
    subst h2
    simp [before, h1]
  · have h1 : want nl zl = false := by
      cases hw : want nl zl
      · rfl
      · exact absurd (want_fold hn hz hw) (hno _ (by omega))
    simp [before, h1]

attribute [local go_sem] later_cell later_frozen later_size later_tape

set_option maxHeartbeats 2000000 in
theorem trimlaw_walk (a0 a1 : Option Addr) (nl zl : List ByteArray) (c0 c1 : Nat) (w : World) (hn : nl.length ≤ maxLen) (hz : zl.length ≤ maxLen) (h0 : SRow w a0 nl) (h1 : SRow w a1 zl)
    (s0 : ∀ i, i < nl.length → (lab nl i).size ≤ maxLen) (s1 : ∀ i, i < zl.length → (lab zl i).size ≤ maxLen) (n0 : a0 = none → nl.length = 0 ∧ c0 = 0) (n1 : a1 = none → zl.length = 0 ∧ c1 = 0) :
    Calls Try.prog 7 #[.slice a0 nl.length c0, .slice a1 zl.length c1] w fun e w' => e = .returned (.bool true) ∧ Below w.heap.size w w' := by
  have HH := hide (And.intro h0 (And.intro h1 (And.intro s0 (And.intro s1 (And.intro n0 n1)))))
  clear h0 h1 s0 s1 n0 n1
  go_enter Try.func7, Try.ntmps7
  go_wp2_with fail
  refine (zb19_any a0 a1 nl zl c0 c1 _ hn hz HH.out.1 HH.out.2.1 HH.out.2.2.1 HH.out.2.2.2.1).mono ?_
  rintro e w0 ⟨⟨r, rfl, hr⟩, hw0⟩
  cases hw0
  cases r
  · clear hr
    go_wp2
    go_ret
    exact ⟨rfl, Below.refl _ _⟩
  have Hr := hide (hr rfl)
  clear hr
  have hn2 := Hr.out.1
  have hz2 := Hr.out.2.1
  go_wp2_with fail
  refine (strBytes_any a0 nl c0 _ hn2 HH.out.1 Hr.out.2.2.1).mono ?_
  rintro e w0 ⟨⟨T0, rfl, hT0⟩, hw0⟩
  cases hw0
  go_wp2_with fail
  refine (strBytes_any a1 zl c1 _ hz2 HH.out.2.1 Hr.out.2.2.2).mono ?_
  rintro e w0 ⟨⟨T1, rfl, hT1⟩, hw0⟩
  cases hw0
  by_cases hsum : (1048576 : Int) < (T0 : Int) + T1
  · go_wp2
    go_ret
    exact ⟨rfl, Below.refl _ _⟩
  go_wp2_with fail
  refine (cloneStrs_any a0 nl c0 _ hn2 HH.out.2.2.2.2.1 HH.out.1).mono ?_
  rintro e w1 ⟨b0, rfl, hb1, hr1⟩
  have HB1 := hide hb1
  have HR1 := hide hr1
  clear hb1 hr1
  go_wp2_with fail
  refine (cloneStrs_any a1 zl c1 _ hz2 HH.out.2.2.2.2.2 (HH.out.2.1.later HB1.out)).mono ?_
  rintro e w2 ⟨b1, rfl, hb2, hr2⟩
  have HS2 : Hid (St w b0 b1 nl zl w2) := ⟨HB1.out.trans (hb2.mono HB1.out.size), HR1.out.later hb2, hr2⟩
  clear hb2 hr2 HB1 HR1
  go_wp2_with fail
  refine (wf_any b0 nl nl.length _ hn2 HS2.out.r0 Hr.out.2.2.1).mono ?_
  rintro e w0 ⟨⟨r, rfl, hr⟩, hw0⟩
  cases hw0
  cases r
  · clear hr
    go_wp2
    go_ret
    exact ⟨rfl, HS2.out.bel⟩
  have HW0 := hide (hr rfl)
  clear hr
  go_wp2_with fail
  refine (wf_any b1 zl zl.length _ hz2 HS2.out.r1 Hr.out.2.2.2).mono ?_
  rintro e w0 ⟨⟨r, rfl, hr⟩, hw0⟩
  cases hw0
  cases r
  · clear hr
    go_wp2
    go_ret
    exact ⟨rfl, HS2.out.bel⟩
  have HW1 := hide (hr rfl)
  clear hr
  go_wp2_with fail
  refine (wireOf_any b0 nl nl.length _ HW0.out hn2 HS2.out.r0).mono ?_
  rintro e w3 ⟨rfl, hb3⟩
  have HS3 : Hid (St w b0 b1 nl zl w3) := HS2.out.next hb3
  clear hb3 HS2
  obtain ⟨n, hnn⟩ : ∃ n : ByteArray, n = ⟨(wire nl).toArray⟩ := ⟨_, rfl⟩
  rw [← hnn]
  have Hnn := hide hnn
  clear hnn
  go_wp2_with fail
  refine (name_any n _).mono ?_
  rintro e w0 ⟨rfl, rfl⟩
  go_wp2_with fail
  have HS3' : Hid (St w b0 b1 nl zl ((w3.alloc (.cells #[.string n] 31)).alloc (.cells #[.string n] 31))) := HS3.out.next (((Below.refl _ _).alloc (Nat.le_refl _) _).alloc (by simp) _)
  refine (wireOf_any b1 zl zl.length _ HW1.out hz2 HS3'.out.r1).mono ?_
  rintro e w4 ⟨rfl, hb4⟩
  have HS4 : Hid (St w b0 b1 nl zl w4) := HS3'.out.next hb4
  have c5 : w4.cell? ⟨w3.heap.size + 1, 0, none⟩ = some (.string n) := by rw [hb4.cell (by simp)]; go_simp
  have z5 : w3.heap.size + 1 < w4.heap.size := by have := hb4.size; simp at this; omega
  clear hb4 HS3 HS3'
  obtain ⟨B5, hB5⟩ : ∃ B5, B5 = w3.heap.size + 1 := ⟨_, rfl⟩
  rw [← hB5] at c5 z5 ⊢
  clear hB5
  obtain ⟨z, hzz⟩ : ∃ z : ByteArray, z = ⟨(wire zl).toArray⟩ := ⟨_, rfl⟩
  rw [← hzz]
  have Hzz := hide hzz
  clear hzz
  go_wp2_with fail
  refine (name_any z _).mono ?_
  rintro e w0 ⟨rfl, rfl⟩
  go_wp2_with fail
  have HS4' : Hid (St w b0 b1 nl zl ((w4.alloc (.cells #[.string z] 31)).alloc (.cells #[.string z] 31))) := HS4.out.next (((Below.refl _ _).alloc (Nat.le_refl _) _).alloc (by simp) _)
  refine (trim_any nl zl HW0.out.1 n z (by rw [Hnn.out]) (by rw [Hzz.out]) (by rw [Hnn.out]; simpa [ByteArray.size] using HW0.out.2) (by rw [Hzz.out]; simpa [ByteArray.size] using HW1.out.2) _).mono ?_
  rintro e w5 ⟨hpost, hb5⟩
  cases trim_ret HW0.out.1 HW1.out.1 hpost
  have HS5 : Hid (St w b0 b1 nl zl w5) := HS4'.out.next hb5
  clear hpost hb5 HS4 HS4' c5 z5
  obtain ⟨bs, hbs⟩ : ∃ bs, bs = before nl zl := ⟨_, rfl⟩
  rw [← hbs]
  have Hbs := hide hbs
  clear hbs
  obtain ⟨ok, hok⟩ : ∃ ok, ok = want nl zl := ⟨_, rfl⟩
  rw [← hok]
  have Hok := hide hok
  clear hok
  have HS6 : Hid (St w b0 b1 nl zl (w5.alloc (.cells #[.string bs] 31))) := HS5.out.next ((Below.refl _ _).alloc (Nat.le_refl _) _)
  by_cases hle : zl.length ≤ nl.length
  · have hlei : (zl.length : Int) ≤ (nl.length : Int) := by omega
    obtain ⟨K, hK⟩ : ∃ K : Nat, (K : Int) = (nl.length : Int) - (zl.length : Int) := ⟨nl.length - zl.length, by omega⟩
    have hKn : K + zl.length ≤ nl.length := by omega
    have HK : Hid (K = nl.length - zl.length) := by show K = _; omega
    go_wp2
    rw [← hK]
    clear hK
    go_loopw [9, 11] (fun v i wr => ∃ j : Nat, j ≤ zl.length ∧ i = .int .i64 j ∧ v = .bool (wantTo nl zl K j) ∧ Hid (St w b0 b1 nl zl wr) ∧ wr.cell? ⟨w5.heap.size, 0, none⟩ = some (.string bs) ∧ w5.heap.size < wr.heap.size) (fun _ i _ => zl.length - (intOf i).toNat)
    case atStart => exact ⟨0, Nat.zero_le _, rfl, rfl, HS6.out, by go_simp, by simp⟩
    case round =>
      obtain ⟨j, hj, rfl, rfl, HS, cb, zb⟩ := hrel
      by_cases hjl : j < zl.length
      · obtain ⟨x0, o0, rfl, hx0, hc0⟩ := HS.out.r0.at (k := K + j) (by omega)
        obtain ⟨x1, o1, rfl, hx1, hc1⟩ := HS.out.r1.at (k := j) hjl
        have e0 := hc0 (K + j) (by omega)
        have e1 := hc1 j hjl
        have f0 : (lab nl (K + j)).size ≤ maxLen := Nat.le_trans (Hr.out.2.2.1 (K + j) (by omega)) (by unfold maxLen; omega)
        have f1 : (lab zl j).size ≤ maxLen := Nat.le_trans (Hr.out.2.2.2 j hjl) (by unfold maxLen; omega)
        have HN : Hid (wantTo nl zl K (j + 1) = (wantTo nl zl K j && foldEq (lab nl (K + j)) (lab zl j))) := wantTo_succ nl zl K j
        obtain ⟨y0, hy0⟩ : ∃ y0, y0 = lab nl (K + j) := ⟨_, rfl⟩
        obtain ⟨y1, hy1⟩ : ∃ y1, y1 = lab zl j := ⟨_, rfl⟩
        rw [← hy0] at e0 f0 HN
        rw [← hy1] at e1 f1 HN
        clear hy0 hy1 hc0 hc1
        obtain ⟨v0, hv0⟩ : ∃ v0, v0 = wantTo nl zl K j := ⟨_, rfl⟩
        rw [← hv0] at HN ⊢
        clear hv0
        have hi0 : (K : Int) + (j : Int) < (nl.length : Int) := by omega
        have hi1 : (j : Int) < (zl.length : Int) := by omega
        go_wp2
        go_quiet ((go_at_call 25; exact Calls.quiet_of (lfold_any _ _ _ f0 f1)))
        cases hf : foldEq y0 y1
        · rw [hf, Bool.and_false] at HN
          go_wp2
          go_roundw
          case rel => exact ⟨j + 1, by omega, by go_num, by rw [HN.out], HS.out.next (below_drewN (Below.refl _ _) nq), by simpa using cb, by simpa using zb⟩
          case measure => simp [intOf]; omega
        · rw [hf, Bool.and_true] at HN
          go_wp2
          go_roundw
          case rel => exact ⟨j + 1, by omega, by go_num, by rw [HN.out], HS.out.next (below_drewN (Below.refl _ _) nq), by simpa using cb, by simpa using zb⟩
          case measure => simp [intOf]; omega
      · have hv : wantTo nl zl K j = ok := by
          have e : j = zl.length := by omega
          rw [Hok.out, want, ← HK.out, e]
          simp [hle]
        rw [hv]
        clear hv
        cases ok
        · have Hb : Hid (bs = ⟨#[]⟩) := by show bs = _; rw [Hbs.out, before, ← Hok.out]; rfl
          rw [Hb.out] at cb
          go_wp2_with fail
          refine (wire_any _ _).mono ?_
          rintro e w7 ⟨rfl, hb7⟩
          have HB7 : Hid (Below w.heap.size w w7) := (HS.out.next hb7).bel
          clear hb7
          go_wp2
          go_ret
          exact ⟨rfl, HB7.out⟩
        · have Hb : Hid (bs = ⟨(wire (nl.take K)).toArray⟩) := by show bs = _; rw [Hbs.out, before, ← Hok.out, ← HK.out]; rfl
          have hK1 : K ≤ nl.length := by omega
          have hK2 : (K : Int) ≤ (nl.length : Int) := by omega
          go_wp2
          refine region_later (by kernel_rfl) (by kernel_rfl) ?_
          repeat (go_big_quiet_step (first | (go_at_call 26; exact quiet_below (wire_any _ _)) | (go_at_call 23; exact quiet_below (wireOf_pre _ nl _ _ _ hK1 HW0.out hn2 (HS.out.r0.later (later_below _ _))))))
          refine wpQuiet_nil ?_
          rintro _ ⟨x, rfl⟩
          have hq : (bs.toList == wire (nl.take K)) = true := by rw [Hb.out, Lib.toList_data]; simp
          rw [hq]
          have HB7 : Hid (Below w.heap.size w (later wr x)) := (HS.out.next (later_below wr x)).bel
          go_wp2
          go_ret
          exact ⟨rfl, HB7.out⟩
  · have hdl : decide ((zl.length : Int) ≤ (nl.length : Int)) = false := by simp; omega
    have hokf : ok = false := by
      rw [Hok.out, want]; simp [hle]
    have Hb : Hid (bs = ⟨#[]⟩) := by show bs = _; rw [Hbs.out, before, ← Hok.out, hokf]; rfl
    subst hokf
    rw [Hb.out]
    rw [Hb.out] at HS6
    go_wp2_with fail
    refine (wire_any _ _).mono ?_
    rintro e w7 ⟨rfl, hb7⟩
    have HB7 : Hid (Below w.heap.size w w7) := (HS6.out.next hb7).bel
    clear hb7
    go_wp2
    go_ret
    exact ⟨rfl, HB7.out⟩

end Go.Proofs.Qxb6003357a
