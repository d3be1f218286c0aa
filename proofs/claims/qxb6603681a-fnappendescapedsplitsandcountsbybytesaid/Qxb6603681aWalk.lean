import Derived.Test.Qxb6603681aParts
import Derived.Deep.RegionWith
import Derived.Deep.DeepCutAuto
import Derived.Great.Walk
import Derived.Deep.Light
namespace Go.Proofs.Qxb6603681a
open Go.RowKit Go.Maps

/-- What is known behind the copies and 'whole'. -/
structure St (w : World) (L : List UInt8) (s : ByteArray) (N : Ref) (m : Value) (a0 a2 : Option Addr) (wk : World) : Prop where
  bel : Below w.heap.size w wk
  b : BRow wk a0 L
  refs : Looks wk m N
  whole : BRow wk a2 (L ++ esc N s.data.toList)
theorem St.next {w : World} {L : List UInt8} {s : ByteArray} {N : Ref} {m : Value} {a0 a2 : Option Addr} {w1 w2 : World} (h : St w L s N m a0 a2 w1) (hb : Below w1.heap.size w1 w2) : St w L s N m a0 a2 w2 :=
  ⟨h.bel.trans (hb.mono h.bel.size), h.b.later hb, h.refs.later hb, h.whole.later hb⟩

/-- The facts on sizes, set aside. -/
structure Sz (n T : Nat) (L : List UInt8) (s : ByteArray) (N : Ref) (W : Nat) : Prop where
  en : n = L.length
  eT : T = (L ++ esc N s.data.toList).length
  eW : ∀ c, c < 256 → wd N c ≤ W
  len : n + s.size * W ≤ 16777216

theorem Sz.le {n T : Nat} {L : List UInt8} {s : ByteArray} {N : Ref} {W : Nat} (h : Sz n T L s N W) : T ≤ 16777216 ∧ n ≤ T := by
  have h1 := esc_le N W h.eW s.data.toList
  have h2 := h.eT
  rw [List.length_append] at h2
  have h3 := h.en
  have h4 := h.len
  simp only [Array.length_toList] at h1
  have : s.data.size = s.size := rfl
  rw [this] at h1
  omega
theorem Sz.sum {n T : Nat} {L : List UInt8} {s : ByteArray} {N : Ref} {W : Nat} (h : Sz n T L s N W) : T = n + sumTo (fun c => cnt s.data.toList c * wd N c) 256 := by
  rw [h.eT, List.length_append, esc_len, h.en]

/-- The counters' block. -/
def Z31 : Obj := .cells (Array.replicate 256 (.int .i64 0)) 31
theorem wpList_alloc31 {ops : Array Oper} {rest : List Oper} {o : Oper} {a : Act} {w : World} {Q : Exit → Act → World → Prop} (hg : o.guard = none) (ho : o.op = .alloc 31)
    (h : wpList Try.prog ops Q rest (a.put o.dst (.pointer (some ⟨w.heap.size, 0, none⟩))) (w.alloc Z31)) : wpList Try.prog ops Q (o :: rest) a w := by
  refine Great.wpList_allocTo hg _ rfl _ Z31 ?_ h
  unfold execOp
  simp [ho, alloc31, Result.andThen, Z31]

/-- The counters count the bytes of l. -/
structure Cn (w8 : World) (l : List UInt8) (wr : World) : Prop where
  row : wr.rowIs w8.heap.size 31 256 (fun j => .int .i64 (cnt l j : Int))
  bel : Below w8.heap.size w8 wr

theorem Cn.step {w8 : World} {l : List UInt8} {wr : World} (h : Cn w8 l wr) (b : UInt8) : Cn w8 (l ++ [b]) (wr.setCell ⟨w8.heap.size, b.toNat, none⟩ (.int .i64 ((cnt l b.toNat : Int) + 1))) := by
  refine ⟨(h.row.set b.toNat _).congr fun j _ => ?_, h.bel.setCell (Nat.le_refl _) _⟩
  rw [cnt_snoc]
  by_cases e : j = b.toNat
  · subst e; simp
  · simp [e]

/-- 'part'. -/
def Mid (B T1 : Nat) (L1 : List UInt8) (w5 : World) (v : Value) (wk : World) : Prop := ∃ a c, v = .slice a T1 c ∧ wk.ownsRow B 5 1 (.slice a T1 c) L1.length (bv L1) ∧ Below B w5 wk

theorem split_data (s : ByteArray) (q : Nat) : (s.extract 0 q).data.toList ++ (s.extract q s.size).data.toList = s.data.toList := by
  rw [Lib.extract_data, Lib.extract_data, List.drop_zero, Nat.sub_zero, List.take_of_length_le (l := List.drop q s.data.toList) (by simp), List.take_append_drop]
theorem split_sizes (s : ByteArray) (q : Nat) (h : q ≤ s.size) : (s.extract 0 q).size = q ∧ (s.extract q s.size).size = s.size - q := by
  simp; omega

set_option maxRecDepth 8000 in
set_option maxHeartbeats 2000000 in
theorem law_walk (a : Option Addr) (L : List UInt8) (c : Nat) (s : ByteArray) (x : Option Nat) (M : Ref) (p : Int) (w : World) (hn : L.length ≤ maxLen) (hs : s.size ≤ maxLen) (hnil : a = none → L.length = 0 ∧ c = 0) (hr : BRow w a L)
    (hM : Modest M) (hl : Looks w (.map x) M) (h0 : x = none → ∀ c, c < 256 → M c = none) :
    Calls Try.prog 5 #[.slice a L.length c, .string s, .map x, .int .i64 p] w fun e w' => e = .returned (.bool true) ∧ Below w.heap.size w w' := by
  obtain ⟨n, hnL⟩ : ∃ n, n = L.length := ⟨_, rfl⟩
  rw [← hnL] at hn hnil ⊢
  have HH := hide (And.intro hr (And.intro hM (And.intro hl (And.intro h0 (And.intro hnL (And.intro hnil (And.intro hn hs)))))))
  clear hr hM hl h0 hnL hnil
  unfold maxLen at hn hs
  by_cases h1 : (n : Int) > 1048576
  · go_enter Try.func5, Try.ntmps5
    go_wp2
    go_ret
    exact ⟨rfl, Below.refl _ _⟩
  by_cases h2 : (s.size : Int) > 1048576
  · go_enter Try.func5, Try.ntmps5
    go_wp2
    go_ret
    exact ⟨rfl, Below.refl _ _⟩
  go_enter Try.func5, Try.ntmps5
  go_wp2_with fail
  refine (over_any a n c s (.map x) M _ HH.out.2.2.2.2.2.2.1 HH.out.2.2.2.2.2.2.2 HH.out.2.1 HH.out.2.2.1).mono ?_
  rintro e w1 ⟨rfl | ⟨rfl, hf⟩, hb⟩
  · have HB := hide hb
    clear hb
    go_wp2
    go_ret
    exact ⟨rfl, HB.out⟩
  have HB := hide hb
  have HF := hide hf
  clear hb hf
  by_cases h3 : p < 0
  · go_wp2
    go_ret
    exact ⟨rfl, HB.out⟩
  by_cases h4 : p > (s.size : Int)
  · go_wp2
    go_ret
    exact ⟨rfl, HB.out⟩
  obtain ⟨q, rfl⟩ : ∃ q : Nat, p = (q : Int) := ⟨p.toNat, by omega⟩
  go_wp2_with fail
  have hq : (q : Int) ≤ (s.size : Int) := by omega
  clear h4
  refine (clone_n a n c L _ HH.out.2.2.2.2.1 (by omega) HH.out.2.2.2.2.2.1 (HH.out.1.later HB.out)).mono ?_
  rintro e w2 ⟨a0, c0, rfl, n0, r0, -, b0⟩
  have H0 := hide (And.intro n0 (And.intro r0 b0))
  clear n0 r0 b0
  go_wp2_with fail
  refine (refs_any x M _ HH.out.2.1 ((HH.out.2.2.1.later HB.out).later H0.out.2.2) HH.out.2.2.2.1).mono ?_
  rintro e w3 ⟨m, N, rfl, l3, e3, b3⟩
  obtain ⟨-, W, hW, hlen⟩ := fine_w HF.out e3
  obtain ⟨T, hT⟩ : ∃ T, T = (L ++ esc N s.data.toList).length := ⟨_, rfl⟩
  have HS : Hid (Sz n T L s N W) := ⟨HH.out.2.2.2.2.1, hT, hW, hlen⟩
  have H3 := hide (And.intro l3 b3)
  clear l3 e3 b3 hW hlen hT HF
  have hTl := HS.out.le.1
  have hTn := HS.out.le.2
  go_wp2_with fail
  refine (clone_n a0 n c0 L _ HH.out.2.2.2.2.1 (by omega) H0.out.1 (H0.out.2.1.later H3.out.2)).mono ?_
  rintro e w4 ⟨a1, c1, rfl, -, -, o4, b4⟩
  have H4 := hide (And.intro o4 b4)
  clear o4 b4
  go_wp2_with fail
  refine (app_n w3.heap.size _ L s m N W T _ H4.out.2.size H4.out.1 (fun w' hw' => H3.out.1 w' (H4.out.2.trans hw')) HS.out.eW (by rw [← HS.out.en]; exact HS.out.len) (by omega) HS.out.eT).mono ?_
  rintro e w5 ⟨a2, c2, rfl, k2, r2, -, b5⟩
  have H5 : Hid (St w L s N m a0 a2 w5) := by
    have e1 := H0.out.2.2
    have e2 := H3.out.2
    have e3 := H4.out.2.trans b5
    refine ⟨?_, (H0.out.2.1.later e2).later e3, H3.out.1.later e3, r2⟩
    have s1 := HB.out.size
    have s2 := e1.size
    have s3 := e2.size
    exact ((HB.out.trans (e1.mono s1)).trans (e2.mono (by omega))).trans (e3.mono (by omega))
  clear r2 b5 H4 H3 HB
  have Hn0 : Hid (a0 = none → n = 0 ∧ c0 = 0) := H0.out.1
  clear H0
  have hqn : q ≤ s.size := by omega
  obtain ⟨hs1, hs2⟩ := split_sizes s q hqn
  obtain ⟨L1, hL1⟩ : ∃ L1, L1 = L ++ esc N (s.extract 0 q).data.toList := ⟨_, rfl⟩
  obtain ⟨T1, hT1⟩ : ∃ T1, T1 = L1.length := ⟨_, rfl⟩
  have HT1 : Hid (T1 + (s.size - q) * W ≤ 16777216 ∧ n + q * W ≤ 16777216) := by
    have e1 := esc_le N W HS.out.eW (s.extract 0 q).data.toList
    have e2 : (s.extract 0 q).data.toList.length = q := by
      have : (s.extract 0 q).data.size = (s.extract 0 q).size := rfl
      rw [Array.length_toList, this, hs1]
    rw [e2] at e1
    have e3 := HS.out.len
    have e4 : s.size * W = q * W + (s.size - q) * W := by rw [← Nat.add_mul]; congr 1; omega
    have e5 : T1 = n + (esc N (s.extract 0 q).data.toList).length := by rw [hT1, hL1, List.length_append, HS.out.en]
    show T1 + (s.size - q) * W ≤ 16777216 ∧ n + q * W ≤ 16777216
    omega
  have HJ : Hid (L1 ++ esc N (s.extract q s.size).data.toList = L ++ esc N s.data.toList) := by
    show _ = _
    rw [hL1, List.append_assoc, ← esc_append, split_data s q]
  have HL1 := hide (And.intro hL1 (And.intro hT1 (And.intro hs1 hs2)))
  have HZ := hide (And.intro hTl (And.intro hTn k2))
  clear hL1 hT1 hs1 hs2 hTl hTn k2 hn hs
  go_upto_region 10 with fail
  go_cut [10] (fun v wk => Hid (Mid w5.heap.size T1 L1 w5 v wk))
  case first =>
    have h1' : n ≤ 1048576 := by omega
    have h2' : s.size ≤ 1048576 := by omega
    have HW := hide (And.intro h1' h2')
    have HC : Hid (∀ v w6, w6.ownsRow w5.heap.size 5 1 v L.length (bv L) → Below w5.heap.size w5 w6 → Calls Try.prog 13 #[v, .string (s.extract 0 q), m] w6 (ApN w5.heap.size T1 (L ++ esc N (s.extract 0 q).data.toList) w6)) := by
      intro v w6 o6 b6
      exact app_n w5.heap.size _ L (s.extract 0 q) m N W T1 _ b6.size o6 (fun w' hw' => H5.out.refs w' (b6.trans hw')) HS.out.eW (by rw [HL1.out.2.2.1, ← HS.out.en]; exact HT1.out.2) (by rw [HL1.out.2.2.1]; omega) (by rw [HL1.out.2.1, HL1.out.1])
    clear h1 h2 h3 hqn h1' h2'
    go_region_with (first | (go_at_call 7; refine (clone_n a0 n c0 L _ HH.out.2.2.2.2.1 HW.out.1 Hn0.out ?_).mono ?_; exact H5.out.b; rintro e w6 ⟨a3, c3, rfl, -, -, o6, b6⟩) | (go_at_call 13; refine (HC.out _ _ ?_ ?_).mono ?_; exact o6; exact ((Below.refl _ w5).drew.trans b6); rintro e w7 ⟨a4, c4, rfl, -, -, o7, b7⟩))
    all_goals (go_wp2_with fail; go_meet; exact ⟨_, _, rfl, by rw [HL1.out.1]; exact o7, ((Below.refl _ w5).drew.trans b6).trans b7⟩)
  case rest =>
  obtain ⟨a4, c4, rfl, o7, b7⟩ := hcut.out
  have H7 := hide (And.intro o7 b7)
  clear hcut o7 b7
  go_wp2_with fail
  refine (app_n w5.heap.size _ L1 (s.extract q s.size) m N W T _ H7.out.2.size H7.out.1 (fun w' hw' => H5.out.refs w' (H7.out.2.trans hw')) HS.out.eW (by rw [HL1.out.2.2.2, ← HL1.out.2.1]; exact HT1.out.1) (by rw [HL1.out.2.2.2]; omega) (by rw [HJ.out]; exact HS.out.eT)).mono ?_
  rintro e w8 ⟨a6, c6, rfl, -, r8, -, b8⟩
  rw [HJ.out] at r8
  have H8 := hide (And.intro (H5.out.next (H7.out.2.trans b8)) r8)
  clear r8 b8 H7 H5 HJ HL1 HT1
  go_wp2_with (refine wpList_alloc31 rfl rfl ?_)
  have H9 : Hid (Cn w8 [] (w8.alloc Z31)) := ⟨row31 w8, (Below.refl _ _).alloc (Nat.le_refl _) _⟩
  go_loopw [13] (fun i wr => ∃ k : Nat, k ≤ s.size ∧ i = .int .i64 k ∧ Hid (Cn w8 (s.data.toList.take k) wr)) (fun i _ => s.size - (intOf i).toNat)
  case atStart => exact ⟨0, Nat.zero_le _, rfl, H9.out⟩
  case round =>
  obtain ⟨k, hk, rfl, HR⟩ := hrel
  by_cases hlt : k < s.size
  · have hx : s[k].toNat < 256 := UInt8.toNat_lt _
    have e1 : wr.cell? ⟨w8.heap.size, s[k].toNat, none⟩ = some (.int .i64 (cnt (s.data.toList.take k) s[k].toNat : Int)) := HR.out.row.cell hx
    have e2 : wr.frozen? ⟨w8.heap.size, s[k].toNat, none⟩ = false := HR.out.row.frozen _
    have HN : Hid (Cn w8 (s.data.toList.take (k + 1)) (wr.setCell ⟨w8.heap.size, s[k].toNat, none⟩ (.int .i64 ((cnt (s.data.toList.take k) s[k].toNat : Int) + 1)))) := by
      show Cn _ _ _
      rw [take_snoc s k hlt]
      exact HR.out.step s[k]
    have hC : cnt (s.data.toList.take k) s[k].toNat ≤ 1048576 := by
      have h1 := cnt_le (s.data.toList.take k) s[k].toNat
      rw [List.length_take] at h1
      omega
    obtain ⟨C, hCC⟩ : ∃ C, C = cnt (s.data.toList.take k) s[k].toNat := ⟨_, rfl⟩
    rw [← hCC] at e1 HN hC
    clear hCC
    have hi : (k : Int) < (s.size : Int) := by omega
    have hx' : (s[k].toNat : Int) < 256 := by omega
    clear hx
    go_wp2
    go_roundw
    case rel => exact ⟨k + 1, by omega, by go_num, HN.out⟩
    case measure => simp [intOf]; omega
  have HK : Hid (Cn w8 s.data.toList wr) := by
    have h := HR.out
    rw [List.take_of_length_le (by simp; omega)] at h
    exact h
  clear HR H9
  obtain ⟨f, hf⟩ : ∃ f, f = fun c => cnt s.data.toList c * wd N c := ⟨_, rfl⟩
  have HF := hide hf
  have HSum : Hid (T = n + sumTo f 256) := by show T = _; rw [hf]; exact HS.out.sum
  clear hf
  go_wp2
  go_loopw [14, 15] (fun t i wk => ∃ k S : Nat, k ≤ 256 ∧ i = .int .i64 k ∧ t = .int .i64 S ∧ S ≤ 16777216 ∧ Hid (S = n + sumTo f k) ∧ Hid (Cn w8 s.data.toList wk)) (fun _ i _ => 256 - (intOf i).toNat)
  case atStart => exact ⟨0, n, by omega, rfl, rfl, by have := HZ.out; omega, rfl, HK.out⟩
  case round =>
  obtain ⟨k2, S, hk2, rfl, rfl, hS, HSk, HR⟩ := hrel
  by_cases hlt2 : k2 < 256
  · have e1 : wr.cell? ⟨w8.heap.size, k2, none⟩ = some (.int .i64 (cnt s.data.toList k2 : Int)) := HR.out.row.cell hlt2
    have hlook := H8.out.1.refs.here HR.out.bel hlt2
    have HX : Hid (S + cnt s.data.toList k2 * wd N k2 = n + sumTo f (k2 + 1) ∧ S + cnt s.data.toList k2 * wd N k2 ≤ 16777216) := by
      have h1 : S + cnt s.data.toList k2 * wd N k2 = n + sumTo f (k2 + 1) := by
        rw [HSk.out, sumTo]
        have : f k2 = cnt s.data.toList k2 * wd N k2 := by rw [HF.out]
        omega
      refine ⟨h1, ?_⟩
      have h2 := sumTo_mono f (show k2 + 1 ≤ 256 by omega)
      have h3 := HSum.out
      have h4 := HZ.out.1
      omega
    have hC : cnt s.data.toList k2 ≤ 1048576 := by
      have h1 := cnt_le s.data.toList k2
      have h3 : s.data.toList.length = s.size := by simp
      omega
    obtain ⟨C, hCC⟩ : ∃ C, C = cnt s.data.toList k2 := ⟨_, rfl⟩
    rw [← hCC] at e1 HX hC
    clear hCC
    have hi : (k2 : Int) < 256 := by omega
    by_cases hz : C = 0
    · subst hz
      have HX0 : Hid (S = n + sumTo f (k2 + 1)) := by have := HX.out.1; rw [Nat.zero_mul] at this; exact this
      have hz0 : ((0 : Int) == 0) = true := rfl
      go_wp2
      go_roundw
      case rel => exact ⟨k2 + 1, S, by omega, by go_num, rfl, hS, HX0.out, HR.out⟩
      case measure => simp [intOf]; omega
    · have hz' : ((C : Int) == 0) = false := by simp; exact hz
      cases hq : N k2 with
      | none =>
        rw [hq] at hlook
        simp only [Option.getD_none, Option.isSome_none] at hlook
        have hw : wd N k2 = 1 := by simp [wd, hq]
        rw [hw, Nat.mul_one] at HX
        clear hq hw hz
        have hb := HX.out.2
        go_wp2
        go_roundw
        case rel => exact ⟨k2 + 1, S + C, by omega, by go_num, by go_num, hb, HX.out.1, HR.out⟩
        case measure => simp [intOf]; omega
      | some y =>
        rw [hq] at hlook
        simp only [Option.getD_some, Option.isSome_some] at hlook
        have hw : wd N k2 = y.size := by simp [wd, hq]
        rw [hw] at HX
        obtain ⟨Pr, hPr⟩ : ∃ Pr, Pr = C * y.size := ⟨_, rfl⟩
        rw [← hPr] at HX
        have hpr : (C : Int) * (y.size : Int) = (Pr : Int) := by rw [hPr]; simp
        have hys : y.size ≤ 16777216 := by
          have h1 := HX.out.2
          have h2 : y.size ≤ C * y.size := Nat.le_mul_of_pos_left _ (by omega)
          omega
        clear hq hw hz hPr
        have hb := HX.out.2
        go_wp2
        go_roundw
        case rel => exact ⟨k2 + 1, S + Pr, by omega, by go_num, by go_num, hb, HX.out.1, HR.out⟩
        case measure => simp [intOf]; omega
  obtain rfl : k2 = 256 := by omega
  have hST : S = T := by rw [HSk.out, HSum.out]
  subst hST
  have H10 : Hid (St w L s N m a0 a2 wr ∧ BRow wr a6 (L ++ esc N s.data.toList)) := ⟨H8.out.1.next HR.out.bel, H8.out.2.later HR.out.bel⟩
  clear HSk HR H8 HK HF HSum
  have hne : ((S : Int) != (S : Int)) = false := by simp
  have hge : ¬ (S : Int) < (n : Int) := by have := HZ.out; omega
  go_wp2_with fail
  refine (equal_n a2 a6 S S c2 c6 _ _ HS.out.eT HS.out.eT (by rw [← HS.out.eT]; exact HZ.out.1) H10.out.1.whole H10.out.2).mono ?_
  rintro e w11 ⟨rfl, b11⟩
  have H11 := hide (H10.out.1.next b11)
  clear b11 H10
  have hnc : (n : Int) ≤ (c2 : Int) := by have := HZ.out; omega
  go_wp2_with fail
  have HP : Hid (BRow w11 a2 L) := by
    have h := H11.out.whole.take n
    rw [HS.out.en, List.take_left] at h
    exact h
  refine (equal_n a2 a0 n n c2 c0 L _ HS.out.en HS.out.en (by rw [← HS.out.en]; omega) HP.out H11.out.b).mono ?_
  rintro e w12 ⟨rfl, b12⟩
  have H12 := hide (H11.out.next b12)
  clear b12 H11 HP
  go_wp2
  go_ret
  exact ⟨rfl, H12.out.bel⟩

end Go.Proofs.Qxb6603681a
