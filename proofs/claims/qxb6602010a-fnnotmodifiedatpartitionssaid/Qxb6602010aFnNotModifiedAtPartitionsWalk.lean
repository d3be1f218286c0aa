import Derived.Test.Qxb6602010aNotB
namespace Go.Proofs.Qxb6602010a
open Go.RowKit

def b2n : Bool → Nat | true => 1 | false => 0

/-- How many of the pieces hold j. -/
def hits (p : Bool) (ps : List (Int × Int)) (j : Int) : Nat := (ps.filter fun q => mOk p q.1 q.2 j).length

theorem hits_succ (p : Bool) (ps : List (Int × Int)) (j : Int) (k : Nat) (h : k < ps.length) : hits p (ps.take (k + 1)) j = hits p (ps.take k) j + b2n (mOk p ps[k].1 ps[k].2 j) := by
  unfold hits
  rw [List.take_succ_eq_append_getElem h, List.filter_append, List.length_append]
  congr 1
  rw [List.filter_cons, List.filter_nil]
  cases mOk p ps[k].1 ps[k].2 j <;> rfl

theorem hits_le (p : Bool) (ps : List (Int × Int)) (j : Int) : hits p ps j ≤ ps.length := List.length_filter_le _ _

/-- The law itself: j is admitted by s just where it is i and s admits i, or one piece admits it. -/
theorem parts (p : Bool) (lo hi i j : Int) : (if j = i ∧ mOk p lo hi i = true then 1 else 0) + hits p (nm p lo hi i) j = if mOk p lo hi j = true then 1 else 0 := by
  cases p
  · by_cases h : i = 0
    · subst h
      by_cases hj : j = 0 <;> simp [nm, hits, mOk, hj]
    · by_cases hj : j = i
      · subst hj
        simp [nm, hits, mOk, h]
      · by_cases h0 : j = 0
        · subst h0
          simp [nm, hits, mOk, h]
        · simp [nm, hits, mOk, h, hj, h0]
  · have e : ∀ a b : Int, (mOk true a b j = true) = (a ≤ j ∧ j ≤ b) := fun a b => by simp [mOk]
    have ei : (mOk true lo hi i = true) = (lo ≤ i ∧ i ≤ hi) := by simp [mOk]
    have o1 : ∀ a b : Int, hits true [(a, b)] j = if a ≤ j ∧ j ≤ b then 1 else 0 := fun a b => by
      unfold hits; rw [List.filter_cons, List.filter_nil]; simp only [e]; split <;> rfl
    have o2 : ∀ a b c d : Int, hits true [(a, b), (c, d)] j = (if a ≤ j ∧ j ≤ b then 1 else 0) + (if c ≤ j ∧ j ≤ d then 1 else 0) := fun a b c d => by
      unfold hits; rw [List.filter_cons, List.filter_cons, List.filter_nil]; simp only [e]; split <;> split <;> rfl
    simp only [e, ei]
    by_cases h1 : i < lo ∨ hi < i
    · have hn : nm true lo hi i = [(lo, hi)] := by simp only [nm, h1]; simp
      rw [hn, o1]
      repeat' split
      all_goals omega
    · by_cases h3 : lo < i
      · by_cases h4 : i < hi
        · have hn : nm true lo hi i = [(lo, i - 1), (i + 1, hi)] := by simp only [nm, h1, h3, h4]; simp
          rw [hn, o2]
          repeat' split
          all_goals omega
        · have hn : nm true lo hi i = [(lo, i - 1)] := by simp only [nm, h1, h3, h4]; simp
          rw [hn, o1]
          repeat' split
          all_goals omega
      · by_cases h4 : i < hi
        · have hn : nm true lo hi i = [(i + 1, hi)] := by simp only [nm, h1, h3, h4]; simp
          rw [hn, o1]
          repeat' split
          all_goals omega
        · have hn : nm true lo hi i = [] := by simp only [nm, h1, h3, h4]; simp
          rw [hn]
          simp only [hits, List.filter_nil, List.length_nil]
          repeat' split
          all_goals omega

theorem parts_ne (p : Bool) (lo hi i j : Int) (h : j ≠ i) : 0 + hits p (nm p lo hi i) j = b2n (mOk p lo hi j) := by
  have e := parts p lo hi i j
  rw [if_neg (by simp [h])] at e
  rw [e]
  cases mOk p lo hi j <;> rfl
theorem parts_eq (p : Bool) (lo hi i : Int) : b2n (mOk p lo hi i) + hits p (nm p lo hi i) i = b2n (mOk p lo hi i) := by
  have e := parts p lo hi i i
  cases h : mOk p lo hi i <;> simp [h] at e <;> simp [b2n, e]

set_option maxHeartbeats 400000 in
theorem zb11_yes (p : Bool) (v : ByteArray) (lo hi i j : Int) (w : World) (h : v.size ≤ 1048576) :
    Calls Try.prog 11 #[.bool p, .string v, .int .i64 lo, .int .i64 hi, .int .i64 i, .int .i64 j] w fun e w' => e = .returned (.bool true) ∧ w' = w := by
  have h1 : ¬ (1048576 : Int) < v.size := by omega
  go_enter Try.func11, Try.ntmps11
  go_wp2
  go_ret
  exact ⟨rfl, rfl⟩

set_option maxHeartbeats 400000 in
theorem zb11_no (p : Bool) (v : ByteArray) (lo hi i j : Int) (w : World) (h : ¬ v.size ≤ 1048576) :
    Calls Try.prog 11 #[.bool p, .string v, .int .i64 lo, .int .i64 hi, .int .i64 i, .int .i64 j] w fun e w' => e = .returned (.bool false) ∧ w' = w := by
  have h1 : (1048576 : Int) < v.size := by omega
  go_enter Try.func11, Try.ntmps11
  go_wp2
  go_ret
  exact ⟨rfl, rfl⟩

theorem PRow.later {w w' : World} {a : Option Addr} {p : Bool} {v : ByteArray} {ps : List (Int × Int)} (h : PRow w a p v ps) (hb : Below w.heap.size w w') : PRow w' a p v ps := by
  rcases h with h | ⟨g, rfl, hg, hh⟩
  · exact .inl h
  · exact .inr ⟨g, rfl, Nat.lt_of_lt_of_le hg hb.size, hh.later hb hg⟩

/-- The box of s, the pieces, what was there. -/
structure Pt (w : World) (a : Option Addr) (p : Bool) (v : ByteArray) (lo hi : Int) (ps : List (Int × Int)) (wk : World) : Prop where
  bel : Below w.heap.size w wk
  row : PRow wk a p v ps
  sz : w.heap.size < wk.heap.size
  c0 : wk.cell? ⟨w.heap.size, 0, none⟩ = some (.bool p)
  c1 : wk.cell? ⟨w.heap.size, 1, none⟩ = some (.string v)
  c2 : wk.cell? ⟨w.heap.size, 2, none⟩ = some (.int .i64 lo)
  c3 : wk.cell? ⟨w.heap.size, 3, none⟩ = some (.int .i64 hi)
theorem Pt.next {w : World} {a : Option Addr} {p : Bool} {v : ByteArray} {lo hi : Int} {ps : List (Int × Int)} {w1 w2 : World} (h : Pt w a p v lo hi ps w1) (hb : Below w1.heap.size w1 w2) : Pt w a p v lo hi ps w2 := by
  obtain ⟨h1, h2, h3, h4, h5, h6, h7⟩ := h
  exact ⟨h1.trans (hb.mono h1.size), h2.later hb, Nat.lt_of_lt_of_le h3 hb.size, by rw [hb.cell h3]; exact h4, by rw [hb.cell h3]; exact h5, by rw [hb.cell h3]; exact h6, by rw [hb.cell h3]; exact h7⟩
theorem Pt.alloc {w : World} {a : Option Addr} {p : Bool} {v : ByteArray} {lo hi : Int} {ps : List (Int × Int)} {w1 : World} (h : Pt w a p v lo hi ps w1) (o : Obj) : Pt w a p v lo hi ps (w1.alloc o) :=
  h.next ((Below.refl _ _).alloc (Nat.le_refl _) _)

set_option maxHeartbeats 2000000 in
theorem part_walk (p : Bool) (v : ByteArray) (lo hi i j : Int) (w : World) (hlo : -9223372036854775808 ≤ lo) (hhi : hi ≤ 9223372036854775807) :
    Calls Try.prog 5 #[.bool p, .string v, .int .i64 lo, .int .i64 hi, .int .i64 i, .int .i64 j] w fun e w' => e = .returned (.bool true) ∧ Below w.heap.size w w' := by
  by_cases hv : v.size ≤ 1048576
  · have h1 : ¬ (1048576 : Int) < v.size := by omega
    have Hv := hide hv
    have HP : Hid (∀ ps, ps = nm p lo hi i → (j ≠ i → 0 + hits p ps j = b2n (mOk p lo hi j)) ∧ (j = i → b2n (mOk p lo hi j) + hits p ps j = b2n (mOk p lo hi j))) :=
      fun ps hps => by subst hps; exact ⟨parts_ne p lo hi i j, fun h => by subst h; exact parts_eq p lo hi j⟩
    have hlen := nm_len p lo hi i
    clear hv
    go_enter Try.func5, Try.ntmps5
    go_wp2_with fail
    refine (zb11_yes p v lo hi i j _ Hv.out).mono ?_
    rintro e w0 ⟨rfl, hw0⟩
    cases hw0
    go_wp2_with fail
    refine (not12_any p v lo hi i _ hlo hhi).mono ?_
    rintro e w1 ⟨a, c, rfl, hrow, hb⟩
    obtain ⟨ps, hps⟩ : ∃ ps, ps = nm p lo hi i := ⟨_, rfl⟩
    have HP2 := hide (HP.out ps hps)
    rw [← hps] at hrow hlen ⊢
    clear hps HP
    have HT : Hid (Pt w a p v lo hi ps w1) := by
      have hB : w.heap.size < (w.alloc (.cells #[.bool p, .string v, .int .i64 lo, .int .i64 hi] 24)).heap.size := by simp
      refine ⟨((Below.refl _ _).alloc (Nat.le_refl _) _).trans (hb.mono (by simp)), hrow, Nat.lt_of_lt_of_le hB hb.size, ?_, ?_, ?_, ?_⟩
      · rw [hb.cell hB]; go_simp
      · rw [hb.cell hB]; go_simp
      · rw [hb.cell hB]; go_simp
      · rw [hb.cell hB]; go_simp
    clear hrow hb
    obtain ⟨n, hn⟩ : ∃ n, n = ps.length := ⟨_, rfl⟩
    rw [← hn] at hlen ⊢
    have Hn := hide hn
    clear hn
    have hl2 : ¬ (2 : Int) < n := by omega
    obtain ⟨_, _, z0, c0, c1, c2, c3⟩ := HT.out
    go_wp2_with fail
    refine (mod9_any p v lo hi j _).mono ?_
    rintro e w2 ⟨rfl, hb2⟩
    have HT2 : Hid (Pt w a p v lo hi ps (w2.alloc (.cells #[.bool p, .string v, .int .i64 (mLo p lo hi j), .int .i64 (mHi p lo hi j)] 24))) := (HT.out.next hb2).alloc _
    obtain ⟨_, _, z2, d0, d1, d2, d3⟩ := HT.out.next hb2
    clear c0 c1 c2 c3 z0 hb2 HT
    obtain ⟨sj, hsj⟩ : ∃ sj, sj = mOk p lo hi j := ⟨_, rfl⟩
    rw [← hsj] at HP2 ⊢
    have Hsj := hide hsj
    clear hsj
    by_cases hji : j = i
    · subst hji
      have hjj : (j == j) = true := by simp
      go_wp2_with fail
      refine (mod9_any p v lo hi j _).mono ?_
      rintro e w3 ⟨rfl, hb3⟩
      have HT3 : Hid (Pt w a p v lo hi ps (w3.alloc (.cells #[.bool p, .string v, .int .i64 (mLo p lo hi j), .int .i64 (mHi p lo hi j)] 24))) := (HT2.out.next hb3).alloc _
      have z3 : w2.heap.size < w3.heap.size := by have := hb3.size; simp at this; omega
      clear hb3 d0 d1 d2 d3 z2 HT2
      obtain ⟨b1, hb1⟩ : ∃ b1, b1 = mLo p lo hi j := ⟨_, rfl⟩
      obtain ⟨b2, hb2⟩ : ∃ b2, b2 = mHi p lo hi j := ⟨_, rfl⟩
      rw [← hb1, ← hb2] at HT3
      rw [← hb1, ← hb2]
      clear hb1 hb2
      rw [← Hsj.out]
      cases sj
      · obtain ⟨C0, hC0⟩ : ∃ C0, C0 = 0 := ⟨_, rfl⟩
        have HC : Hid (C0 + hits p ps j = b2n false) := by
          rw [hC0]; exact HP2.out.2 (by trivial)
        go_wp2
        go_loopw [17, 20] (fun t q wr => ∃ k : Nat, k ≤ n ∧ q = .int .i64 k ∧ t = .int .i64 ((C0 + hits p (ps.take k) j : Nat) : Int) ∧ Hid (Pt w a p v lo hi ps wr)) (fun _ q _ => n - (intOf q).toNat)
        case atStart => exact ⟨0, Nat.zero_le _, rfl, by simp [hits, hC0], HT3.out⟩
        case round =>
          obtain ⟨k, hk, rfl, rfl, HR⟩ := hrel
          have hC1 : C0 ≤ 1 := by omega
          clear hC0
          by_cases hlt : k < n
          · have hkp : k < ps.length := by rw [← Hn.out]; exact hlt
            obtain ⟨g, rfl, hg, hh⟩ : ∃ g, a = some ⟨g, 0, none⟩ ∧ g < wr.heap.size ∧ Held wr g p v ps := by
              rcases HR.out.row with h | h
              · rw [h] at hkp; simp at hkp
              · exact h
            obtain ⟨e0, e1, e2, e3⟩ := hh k hkp
            have HS := hide (hits_succ p ps j k hkp)
            have hle : hits p (ps.take k) j ≤ 2 := by
              have h1 := hits_le p (ps.take k) j
              have h2 := List.length_take_le k ps
              omega
            obtain ⟨q1, hq1⟩ : ∃ q1, q1 = ps[k].1 := ⟨_, rfl⟩
            obtain ⟨q2, hq2⟩ : ∃ q2, q2 = ps[k].2 := ⟨_, rfl⟩
            rw [← hq1] at e2 HS
            rw [← hq2] at e3 HS
            obtain ⟨H0, hH0⟩ : ∃ H0, H0 = hits p (ps.take k) j := ⟨_, rfl⟩
            rw [← hH0] at HS hle ⊢
            clear hq1 hq2 hkp hh hH0
            have hi1 : (k : Int) < (n : Int) := by omega
            go_wp2_with fail
            refine (mod9_any p v q1 q2 j _).mono ?_
            rintro e w4 ⟨rfl, hb4⟩
            have HT4 : Hid (Pt w (some ⟨g, 0, none⟩) p v lo hi ps (w4.alloc (.cells #[.bool p, .string v, .int .i64 (mLo p q1 q2 j), .int .i64 (mHi p q1 q2 j)] 24))) := (((HR.out.alloc _).next hb4).alloc _)
            have z4 : wr.heap.size < w4.heap.size := by have := hb4.size; simp at this; omega
            clear hb4
            obtain ⟨b1, hb1⟩ : ∃ b1, b1 = mLo p q1 q2 j := ⟨_, rfl⟩
            obtain ⟨b2, hb2⟩ : ∃ b2, b2 = mHi p q1 q2 j := ⟨_, rfl⟩
            rw [← hb1, ← hb2] at HT4 ⊢
            clear hb1 hb2
            cases hm : mOk p q1 q2 j
            · rw [hm] at HS
              go_wp2
              go_roundw
              case rel => exact ⟨k + 1, by omega, by go_num, by rw [HS.out]; rfl, HT4.out⟩
              case measure => simp [intOf]; omega
            · rw [hm] at HS
              go_wp2
              go_roundw
              case rel => exact ⟨k + 1, by omega, by go_num, by rw [HS.out]; show _ = Value.int IntKind.i64 ((C0 + (H0 + 1) : Nat) : Int); go_num, HT4.out⟩
              case measure => simp [intOf]; omega
          · have HZ : Hid (C0 + hits p (ps.take k) j = b2n false) := by
              show C0 + hits p (ps.take k) j = _
              rw [List.take_of_length_le (by have := Hn.out; omega)]; exact HC.out
            obtain ⟨H0, hH0⟩ : ∃ H0, H0 = C0 + hits p (ps.take k) j := ⟨_, rfl⟩
            rw [← hH0] at HZ ⊢
            clear hH0
            have hz : ((H0 : Int) == 0) = true := by have := HZ.out; simp [b2n] at this; simp [this]
            go_wp2
            go_ret
            exact ⟨rfl, HR.out.bel⟩
      · obtain ⟨C0, hC0⟩ : ∃ C0, C0 = 1 := ⟨_, rfl⟩
        have HC : Hid (C0 + hits p ps j = b2n true) := by
          rw [hC0]; exact HP2.out.2 (by trivial)
        go_wp2
        go_loopw [17, 20] (fun t q wr => ∃ k : Nat, k ≤ n ∧ q = .int .i64 k ∧ t = .int .i64 ((C0 + hits p (ps.take k) j : Nat) : Int) ∧ Hid (Pt w a p v lo hi ps wr)) (fun _ q _ => n - (intOf q).toNat)
        case atStart => exact ⟨0, Nat.zero_le _, rfl, by simp [hits, hC0], HT3.out⟩
        case round =>
          obtain ⟨k, hk, rfl, rfl, HR⟩ := hrel
          have hC1 : C0 ≤ 1 := by omega
          clear hC0
          by_cases hlt : k < n
          · have hkp : k < ps.length := by rw [← Hn.out]; exact hlt
            obtain ⟨g, rfl, hg, hh⟩ : ∃ g, a = some ⟨g, 0, none⟩ ∧ g < wr.heap.size ∧ Held wr g p v ps := by
              rcases HR.out.row with h | h
              · rw [h] at hkp; simp at hkp
              · exact h
            obtain ⟨e0, e1, e2, e3⟩ := hh k hkp
            have HS := hide (hits_succ p ps j k hkp)
            have hle : hits p (ps.take k) j ≤ 2 := by
              have h1 := hits_le p (ps.take k) j
              have h2 := List.length_take_le k ps
              omega
            obtain ⟨q1, hq1⟩ : ∃ q1, q1 = ps[k].1 := ⟨_, rfl⟩
            obtain ⟨q2, hq2⟩ : ∃ q2, q2 = ps[k].2 := ⟨_, rfl⟩
            rw [← hq1] at e2 HS
            rw [← hq2] at e3 HS
            obtain ⟨H0, hH0⟩ : ∃ H0, H0 = hits p (ps.take k) j := ⟨_, rfl⟩
            rw [← hH0] at HS hle ⊢
            clear hq1 hq2 hkp hh hH0
            have hi1 : (k : Int) < (n : Int) := by omega
            go_wp2_with fail
            refine (mod9_any p v q1 q2 j _).mono ?_
            rintro e w4 ⟨rfl, hb4⟩
            have HT4 : Hid (Pt w (some ⟨g, 0, none⟩) p v lo hi ps (w4.alloc (.cells #[.bool p, .string v, .int .i64 (mLo p q1 q2 j), .int .i64 (mHi p q1 q2 j)] 24))) := (((HR.out.alloc _).next hb4).alloc _)
            have z4 : wr.heap.size < w4.heap.size := by have := hb4.size; simp at this; omega
            clear hb4
            obtain ⟨b1, hb1⟩ : ∃ b1, b1 = mLo p q1 q2 j := ⟨_, rfl⟩
            obtain ⟨b2, hb2⟩ : ∃ b2, b2 = mHi p q1 q2 j := ⟨_, rfl⟩
            rw [← hb1, ← hb2] at HT4 ⊢
            clear hb1 hb2
            cases hm : mOk p q1 q2 j
            · rw [hm] at HS
              go_wp2
              go_roundw
              case rel => exact ⟨k + 1, by omega, by go_num, by rw [HS.out]; rfl, HT4.out⟩
              case measure => simp [intOf]; omega
            · rw [hm] at HS
              go_wp2
              go_roundw
              case rel => exact ⟨k + 1, by omega, by go_num, by rw [HS.out]; show _ = Value.int IntKind.i64 ((C0 + (H0 + 1) : Nat) : Int); go_num, HT4.out⟩
              case measure => simp [intOf]; omega
          · have HZ : Hid (C0 + hits p (ps.take k) j = b2n true) := by
              show C0 + hits p (ps.take k) j = _
              rw [List.take_of_length_le (by have := Hn.out; omega)]; exact HC.out
            obtain ⟨H0, hH0⟩ : ∃ H0, H0 = C0 + hits p (ps.take k) j := ⟨_, rfl⟩
            rw [← hH0] at HZ ⊢
            clear hH0
            have hz : ((H0 : Int) == 1) = true := by have := HZ.out; simp [b2n] at this; simp [this]
            go_wp2
            go_ret
            exact ⟨rfl, HR.out.bel⟩
    · have hjj : (j == i) = false := by simp [hji]
      obtain ⟨C0, hC0⟩ : ∃ C0, C0 = 0 := ⟨_, rfl⟩
      have HC : Hid (C0 + hits p ps j = b2n sj) := by
        rw [hC0]; exact HP2.out.1 hji
      have HT3 := HT2
      go_wp2
      go_loopw [17, 20] (fun t q wr => ∃ k : Nat, k ≤ n ∧ q = .int .i64 k ∧ t = .int .i64 ((C0 + hits p (ps.take k) j : Nat) : Int) ∧ Hid (Pt w a p v lo hi ps wr)) (fun _ q _ => n - (intOf q).toNat)
      case atStart => exact ⟨0, Nat.zero_le _, rfl, by simp [hits, hC0], HT3.out⟩
      case round =>
        obtain ⟨k, hk, rfl, rfl, HR⟩ := hrel
        have hC1 : C0 ≤ 1 := by omega
        clear hC0
        by_cases hlt : k < n
        · have hkp : k < ps.length := by rw [← Hn.out]; exact hlt
          obtain ⟨g, rfl, hg, hh⟩ : ∃ g, a = some ⟨g, 0, none⟩ ∧ g < wr.heap.size ∧ Held wr g p v ps := by
            rcases HR.out.row with h | h
            · rw [h] at hkp; simp at hkp
            · exact h
          obtain ⟨e0, e1, e2, e3⟩ := hh k hkp
          have HS := hide (hits_succ p ps j k hkp)
          have hle : hits p (ps.take k) j ≤ 2 := by
            have h1 := hits_le p (ps.take k) j
            have h2 := List.length_take_le k ps
            omega
          obtain ⟨q1, hq1⟩ : ∃ q1, q1 = ps[k].1 := ⟨_, rfl⟩
          obtain ⟨q2, hq2⟩ : ∃ q2, q2 = ps[k].2 := ⟨_, rfl⟩
          rw [← hq1] at e2 HS
          rw [← hq2] at e3 HS
          obtain ⟨H0, hH0⟩ : ∃ H0, H0 = hits p (ps.take k) j := ⟨_, rfl⟩
          rw [← hH0] at HS hle ⊢
          clear hq1 hq2 hkp hh hH0
          have hi1 : (k : Int) < (n : Int) := by omega
          go_wp2_with fail
          refine (mod9_any p v q1 q2 j _).mono ?_
          rintro e w4 ⟨rfl, hb4⟩
          have HT4 : Hid (Pt w (some ⟨g, 0, none⟩) p v lo hi ps (w4.alloc (.cells #[.bool p, .string v, .int .i64 (mLo p q1 q2 j), .int .i64 (mHi p q1 q2 j)] 24))) := (((HR.out.alloc _).next hb4).alloc _)
          have z4 : wr.heap.size < w4.heap.size := by have := hb4.size; simp at this; omega
          clear hb4
          obtain ⟨b1, hb1⟩ : ∃ b1, b1 = mLo p q1 q2 j := ⟨_, rfl⟩
          obtain ⟨b2, hb2⟩ : ∃ b2, b2 = mHi p q1 q2 j := ⟨_, rfl⟩
          rw [← hb1, ← hb2] at HT4 ⊢
          clear hb1 hb2
          cases hm : mOk p q1 q2 j
          · rw [hm] at HS
            go_wp2
            go_roundw
            case rel => exact ⟨k + 1, by omega, by go_num, by rw [HS.out]; rfl, HT4.out⟩
            case measure => simp [intOf]; omega
          · rw [hm] at HS
            go_wp2
            go_roundw
            case rel => exact ⟨k + 1, by omega, by go_num, by rw [HS.out]; show _ = Value.int IntKind.i64 ((C0 + (H0 + 1) : Nat) : Int); go_num, HT4.out⟩
            case measure => simp [intOf]; omega
        · have HZ : Hid (C0 + hits p (ps.take k) j = b2n sj) := by
            show C0 + hits p (ps.take k) j = _
            rw [List.take_of_length_le (by have := Hn.out; omega)]; exact HC.out
          obtain ⟨H0, hH0⟩ : ∃ H0, H0 = C0 + hits p (ps.take k) j := ⟨_, rfl⟩
          rw [← hH0] at HZ ⊢
          clear hH0
          cases sj
          · have hz : ((H0 : Int) == 0) = true := by have := HZ.out; simp [b2n] at this; simp [this]
            go_wp2
            go_ret
            exact ⟨rfl, HR.out.bel⟩
          · have hz : ((H0 : Int) == 1) = true := by have := HZ.out; simp [b2n] at this; simp [this]
            go_wp2
            go_ret
            exact ⟨rfl, HR.out.bel⟩
  · go_enter Try.func5, Try.ntmps5
    go_wp2_with fail
    refine (zb11_no p v lo hi i j _ hv).mono ?_
    rintro e w0 ⟨rfl, hw0⟩
    cases hw0
    go_wp2
    go_ret
    exact ⟨rfl, Below.refl _ _⟩

end Go.Proofs.Qxb6602010a
