import Derived.Test.Qxb6603681aMap
import Derived.Lib.AppendStr
import Derived.Maps.AppendAt
namespace Go.Proofs.Qxb6603681a
open Go.RowKit Go.Maps

def AppPost (B : Nat) (L : List UInt8) (w : World) (e : Ending) (w' : World) : Prop := ∃ v, e = .returned v ∧ w'.ownsRow B 5 1 v L.length (bv L) ∧ Below B w w'

/-- The slice value v owns the bytes L; nothing below B has turned. -/
structure WRel (B : Nat) (w : World) (v : Value) (L : List UInt8) (wr : World) : Prop where
  own : wr.ownsRow B 5 1 v L.length (bv L)
  bel : Below B w wr

theorem WRel.next {B : Nat} {w : World} {v : Value} {L : List UInt8} {wr : World} (hB : B ≤ w.heap.size) (h : WRel B w v L wr) {o : Obj} {v' : Value} {w' : World} {c : UInt8}
    (hown : w'.ownsRow B 5 1 v' (L.length + 1) (bv L ++ [.int .u8 (c.toNat : Int)])) (hg : (wr.alloc o).grownBy w' v.ownBlock) : WRel B w v' (L ++ [c]) w' := by
  refine ⟨?_, ?_⟩
  · have e : bv (L ++ [c]) = bv L ++ [.int .u8 (c.toNat : Int)] := by simp [bv]
    rw [e, List.length_append]; exact hown
  · have hs := h.bel.size
    refine (h.bel.alloc (by omega) o).grown hg (by simp; omega) fun k hk => (h.own.lt k hk).1
theorem WRel.text {B : Nat} {w : World} {v : Value} {L : List UInt8} {wr : World} (hB : B ≤ w.heap.size) (h : WRel B w v L wr) {v' : Value} {w' : World} {s : ByteArray}
    (hown : w'.ownsRow B 5 1 v' (L.length + s.size) (bv L ++ Lib.strCells s)) (hg : wr.grownBy w' v.ownBlock) : WRel B w v' (L ++ s.data.toList) w' := by
  refine ⟨?_, ?_⟩
  · have e : bv (L ++ s.data.toList) = bv L ++ Lib.strCells s := by simp [bv, Lib.strCells]
    rw [e, List.length_append, show s.data.toList.length = s.size by simp]; exact hown
  · have hs := h.bel.size
    exact h.bel.grown hg (by omega) fun k hk => (h.own.lt k hk).1

set_option maxHeartbeats 1000000 in
theorem app17 (B : Nat) (v : Value) (Lb : List UInt8) (s : ByteArray) (m : Value) (M : Ref) (W : Nat) (w : World) (hB : B ≤ w.heap.size) (hv : w.ownsRow B 5 1 v Lb.length (bv Lb)) (hl : ∀ w', Below B w w' → LooksAt w' m M)
    (hW : ∀ c, c < 256 → wd M c ≤ W) (hlen : Lb.length + s.size * W ≤ 16777216) (hs : s.size ≤ 1048576) :
    Calls Try.prog 17 #[v, .string s, m] w (AppPost B (Lb ++ esc M s.data.toList) w) := by
  have HL := hide hl
  have HV := hide hv
  have HW := hide (And.intro hW hlen)
  have HB := hide hB
  clear hl hv hW hlen hB
  obtain ⟨i0, hi, hz0, hz1, hz2⟩ := info_parts info5
  have HE := hide (⟨hi, hz0, hz1, hz2⟩ : Try.prog.info? 5 = some i0 ∧ i0.zero = some (.int .u8 0) ∧ i0.size = 1 ∧ i0.bytes = 1)
  clear hi hz0 hz1 hz2
  go_enter Try.func17, Try.ntmps17
  go_wp2
  go_loopw [0, 7] (fun v i wr => ∃ k : Nat, k ≤ s.size ∧ i = .int .i64 k ∧ Hid (WRel B w v (Lb ++ esc M (s.data.toList.take k)) wr)) (fun _ i _ => s.size - (intOf i).toNat)
  case atStart => exact ⟨0, Nat.zero_le _, rfl, by simpa [esc] using HV.out, Below.refl _ _⟩
  case round =>
    obtain ⟨k, hk, rfl, HR⟩ := hrel
    by_cases hlt : k < s.size
    · have hlook := HL.out _ HR.out.bel s[k].toNat (UInt8.toNat_lt _)
      have HX : Hid (esc M (s.data.toList.take (k + 1)) = esc M (s.data.toList.take k) ++ esc1 M s[k]) := by
        show esc M (s.data.toList.take (k + 1)) = _
        rw [take_snoc s k hlt, esc_snoc]
      have HT : Hid ((Lb ++ esc M (s.data.toList.take k)).length + wd M s[k].toNat ≤ 16777216) := by
        show (Lb ++ esc M (s.data.toList.take k)).length + wd M s[k].toNat ≤ 16777216
        have h1 := esc_le M W HW.out.1 (s.data.toList.take k)
        have h2 := HW.out.1 s[k].toNat (UInt8.toNat_lt _)
        have h3 : (s.data.toList.take k).length = k := by simp; omega
        rw [h3] at h1
        have h4 := Nat.mul_le_mul_right W hlt
        rw [Nat.succ_mul] at h4
        have h5 := HW.out.2
        rw [List.length_append]
        omega
      obtain ⟨L, hL⟩ : ∃ L, L = Lb ++ esc M (s.data.toList.take k) := ⟨_, rfl⟩
      have HA : Hid (Lb ++ esc M (s.data.toList.take (k + 1)) = L ++ esc1 M s[k]) := by
        show _ = _
        rw [HX.out, hL, List.append_assoc]
      rw [← hL] at HR HT
      clear hL HX
      have hi1 : (k : Int) < (s.size : Int) := by omega
      cases hq : M s[k].toNat with
      | none =>
        rw [hq] at hlook
        simp only [Option.getD_none, Option.isSome_none] at hlook
        have HQ : Hid (esc1 M s[k] = [s[k]]) := by show esc1 M s[k] = _; simp [esc1, hq]
        have HN : Hid (L.length + 1 ≤ 16777216) := by
          have := HT.out
          show L.length + 1 ≤ _
          simp only [wd, hq] at this; exact this
        clear hq
        go_wp2_with (at_builtin; refine wpList_append_own _ rfl _ _ 22 rfl B 5 i0 (.int .u8 0) 1 1 Try.underlying22 HE.out.1 HE.out.2.1 HE.out.2.2.1 HE.out.2.2.2 rfl (by decide) _ _ _ rfl (HR.out.own.alloc _) ⟨wr.heap.size, 0, none⟩ 1 1 [.int .u8 (s[k].toNat : Int)] rfl rfl (cell_one_new _ _ _) (by intro u hu; simp at hu; subst hu; rfl) (by have := HN.out; unfold maxLen; omega) (by have := HN.out; omega) (by have := HR.out.bel.size; have := HB.out; simp; omega) ?_; intro v3 w3 hown3 hg3 h9; clear h9)
        have HR3 : Hid (WRel B w v3 (Lb ++ esc M (s.data.toList.take (k + 1))) w3) := by
          show WRel B w v3 _ w3
          rw [HA.out, HQ.out]
          exact HR.out.next HB.out hown3 hg3
        clear hown3 hg3 hlook
        go_wp2
        go_roundw
        case rel => exact ⟨k + 1, by omega, by go_num, HR3.out⟩
        case measure => simp [intOf]; omega
      | some x =>
        rw [hq] at hlook
        simp only [Option.getD_some, Option.isSome_some] at hlook
        have HQ : Hid (esc1 M s[k] = x.data.toList) := by show esc1 M s[k] = _; simp [esc1, hq]
        have HN : Hid (L.length + x.size ≤ 16777216) := by
          have := HT.out
          show L.length + x.size ≤ _
          simp only [wd, hq] at this; exact this
        clear hq
        go_wp2_with (at_builtin; refine Lib.wpList_append_own_string _ rfl _ _ 22 9 rfl B 5 i0 Try.underlying22 Try.underlying9 HE.out.1 HE.out.2.1 HE.out.2.2.1 HE.out.2.2.2 _ _ _ rfl HR.out.own x rfl (by have := HN.out; unfold maxLen; omega) (by have := HN.out; omega) (by have := HR.out.bel.size; have := HB.out; omega) ?_; intro v3 w3 hown3 hg3 h9; clear h9)
        have HR3 : Hid (WRel B w v3 (Lb ++ esc M (s.data.toList.take (k + 1))) w3) := by
          show WRel B w v3 _ w3
          rw [HA.out, HQ.out]
          exact HR.out.text HB.out hown3 hg3
        clear hown3 hg3 hlook
        go_wp2
        go_roundw
        case rel => exact ⟨k + 1, by omega, by go_num, HR3.out⟩
        case measure => simp [intOf]; omega
    · have HF : Hid (WRel B w u0 (Lb ++ esc M s.data.toList) wr) := by
        have h := HR.out
        rw [List.take_of_length_le (by simp; omega)] at h
        exact h
      clear HR
      go_wp2
      go_ret
      exact ⟨_, rfl, HF.out.own, HF.out.bel⟩

set_option maxHeartbeats 400000 in
theorem app13 (B : Nat) (v : Value) (Lb : List UInt8) (s : ByteArray) (m : Value) (M : Ref) (W : Nat) (w : World) (hB : B ≤ w.heap.size) (hv : w.ownsRow B 5 1 v Lb.length (bv Lb)) (hl : ∀ w', Below B w w' → LooksAt w' m M)
    (hW : ∀ c, c < 256 → wd M c ≤ W) (hlen : Lb.length + s.size * W ≤ 16777216) (hs : s.size ≤ 1048576) :
    Calls Try.prog 13 #[v, .string s, m] w (AppPost B (Lb ++ esc M s.data.toList) w) := by
  have H := hide (fun w' (e : w' = w) => e ▸ app17 B v Lb s m M W w hB hv hl hW hlen hs : ∀ w', w' = w → Calls Try.prog 17 #[v, .string s, m] w (AppPost B (Lb ++ esc M s.data.toList) w))
  clear hl hv hW hlen hs
  go_enter Try.func13, Try.ntmps13
  go_wp2_with fail
  refine (H.out _ rfl).mono ?_
  rintro e w1 ⟨v1, rfl, h1, h2⟩
  have HH := hide (And.intro h1 h2)
  clear h1 h2
  go_wp2
  go_ret
  exact ⟨_, rfl, HH.out.1, HH.out.2⟩

end Go.Proofs.Qxb6603681a
