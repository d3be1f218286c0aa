import Derived.Test.Qxb6003357aTrimC
import Derived.Laws.BytesArg
import Derived.Maps.AppendAt
namespace Go.Proofs.Qxb6003357a
open Go.RowKit

theorem info5 : (Try.prog.info? 5).map (fun i => (i.zero, i.size, i.bytes)) = some (some (.int .u8 0), 1, 1) := by kernel_rfl

def bv (l : List UInt8) : List Value := l.map fun b => Value.int .u8 (b.toNat : Int)

/-- The slice value v owns the bytes L; nothing below has turned. -/
structure WRel (w : World) (v : Value) (L : List UInt8) (wr : World) : Prop where
  own : wr.ownsRow w.heap.size 5 1 v L.length (bv L)
  bel : Below w.heap.size w wr

theorem WRel.conv {w : World} {v : Value} {L : List UInt8} {wr : World} (h : WRel w v L wr) : (convert 40 9 v).run Try.prog wr = .ok (.string ⟨L.toArray⟩) wr := by
  rcases h.own with ⟨hlen, ⟨rfl, hn⟩ | ⟨g, cap, cur, rfl, hb, hg, hl, hm, hsz, htk⟩⟩
  · have : L = [] := List.length_eq_zero_iff.1 hn
    subst this
    rw [run_convert_bytes_nil (P := Try.prog) wr 40 5 Try.underlying40 Try.underlying5 0 0 9 Try.underlying9]
    rfl
  · refine run_convert_bytes_back (P := Try.prog) wr 40 9 5 ⟨g, 0, none⟩ cap L Try.underlying40 Try.underlying5 Try.underlying9 fun j hj => ?_
    have := h.own.cells (g := g) rfl j (.int .u8 (L[j].toNat : Int)) (by simp [bv, hj])
    exact this

/-- Behind an append of one byte (laid in a new block first). -/
theorem WRel.next {w : World} {v : Value} {L : List UInt8} {wr : World} (h : WRel w v L wr) {o : Obj} {v' : Value} {w' : World} {c : UInt8}
    (hown : w'.ownsRow w.heap.size 5 1 v' (L.length + 1) (bv L ++ [.int .u8 (c.toNat : Int)])) (hg : (wr.alloc o).grownBy w' v.ownBlock) : WRel w v' (L ++ [c]) w' := by
  refine ⟨?_, ?_⟩
  · have e : bv (L ++ [c]) = bv L ++ [.int .u8 (c.toNat : Int)] := by simp [bv]
    rw [e, List.length_append]; exact hown
  · have hs := h.bel.size
    refine (h.bel.alloc hs o).grown hg (by simp; omega) fun k hk => (h.own.lt k hk).1

set_option maxHeartbeats 1000000 in
theorem wireOf_any (a : Option Addr) (ls : List ByteArray) (c : Nat) (w : World) (hwf : WF ls) (hn : ls.length ≤ 1048576) (h0 : SRow w a ls) :
    Calls Try.prog 23 #[.slice a ls.length c] w fun e w' => e = .returned (.string ⟨(wire ls).toArray⟩) ∧ Below w.heap.size w w' := by
  have H0 := hide h0
  have HW := hide hwf
  clear h0 hwf
  obtain ⟨n, hn'⟩ : ∃ n, n = ls.length := ⟨_, rfl⟩
  rw [← hn']
  rw [← hn'] at hn
  have Hn := hide hn'
  clear hn'
  obtain ⟨i0, hi, hz0, hz1, hz2⟩ := info_parts info5
  have HE := hide (⟨hi, hz0, hz1, hz2⟩ : Try.prog.info? 5 = some i0 ∧ i0.zero = some (.int .u8 0) ∧ i0.size = 1 ∧ i0.bytes = 1)
  go_enter Try.func23, Try.ntmps23
  go_wp2_with (refine wpList_make_own _ rfl _ _ 40 rfl w.heap.size 5 i0 (.int .u8 0) 1 Try.underlying40 HE.out.1 HE.out.2.1 HE.out.2.2.1 .i64 .i64 256 256 rfl rfl rfl (by rw [HE.out.2.2.2]; omega) (by unfold maxLen; omega) (Nat.le_refl _) ?_; intro w1 hown1 hg1)
  have HR1 : Hid (WRel w (.slice (some ⟨w.heap.size, 0, none⟩) 0 256) [] w1) := ⟨hown1, (Below.refl _ _).grown hg1 (Nat.le_refl _) (fun k h => by cases h)⟩
  clear hown1 hg1 hi hz0 hz1 hz2
  go_loopw [3, 4] (fun v i wr => ∃ k : Nat, k ≤ n ∧ i = .int .i64 k ∧ Hid (WRel w v (wire (ls.take k)) wr)) (fun _ i _ => n - (intOf i).toNat)
  case atStart => exact ⟨0, Nat.zero_le _, rfl, HR1.out⟩
  case round =>
    obtain ⟨k, hk, rfl, HR⟩ := hrel
    by_cases hlt : k < n
    · have hkl : k < ls.length := by rw [← Hn.out]; exact hlt
      obtain ⟨b, off, rfl, hb, hc⟩ := H0.out.at hkl
      have e1 : wr.cell? ⟨b, off + k, none⟩ = some (.string (lab ls k)) := by rw [HR.out.bel.cell hb]; exact hc k hkl
      obtain ⟨hs1, hs2⟩ := HW.out.1 _ (lab_mem ls k hkl)
      have HL : Hid ((wire (ls.take (k + 1))).length ≤ 254) := (HW.out.take (k + 1)).2
      have HX : Hid (wire (ls.take (k + 1)) = wire (ls.take k) ++ (UInt8.ofNat (lab ls k).size :: (lab ls k).data.toList)) := wire_take_succ ls k hkl
      have Hc : Hid (w.cell? ⟨b, off + k, none⟩ = some (.string (lab ls k))) := hc k hkl
      obtain ⟨x, hx⟩ : ∃ x, x = lab ls k := ⟨_, rfl⟩
      rw [← hx] at e1 hs1 hs2 HX Hc
      clear hx hc hkl
      obtain ⟨L, hL⟩ : ∃ L, L = wire (ls.take k) := ⟨_, rfl⟩
      rw [← hL] at HR HX
      clear hL
      have hLs : L.length + 1 + x.size ≤ 254 := by
        have h1 := HL.out; rw [HX.out] at h1; simp at h1; omega
      have hi1 : (k : Int) < (n : Int) := by omega
      have hsv : ((UInt8.ofNat x.size).toNat : Int) = (x.size : Int) := by rw [UInt8.toNat_ofNat']; omega
      have Hsv := hide hsv
      clear hsv
      go_wp2_with (at_builtin; refine wpList_append_own _ rfl _ _ 40 rfl w.heap.size 5 i0 (.int .u8 0) 1 1 Try.underlying40 HE.out.1 HE.out.2.1 HE.out.2.2.1 HE.out.2.2.2 rfl (by decide) _ _ _ rfl (HR.out.own.alloc _) ⟨wr.heap.size, 0, none⟩ 1 1 [.int .u8 (x.size : Int)] rfl rfl (cell_one_new _ _ _) (by intro u hu; simp at hu; subst hu; rfl) (by unfold maxLen; omega) (by omega) (by have := HR.out.bel.size; simp; omega) ?_; intro v2 w2 hown2 hg2 h9; clear h9)
      have HR2 : Hid (WRel w v2 (L ++ [UInt8.ofNat x.size]) w2) := HR.out.next (by rw [Hsv.out]; exact hown2) hg2
      clear hown2 hg2 e1
      go_loopw [3, 5] (fun v j wi => ∃ q : Nat, q ≤ x.size ∧ j = .int .i64 q ∧ Hid (WRel w v (L ++ (UInt8.ofNat x.size :: x.data.toList.take q)) wi)) (fun _ j _ => x.size - (intOf j).toNat)
      case atStart => exact ⟨0, Nat.zero_le _, rfl, HR2.out⟩
      case round =>
        obtain ⟨q, hq, rfl, HI⟩ := hrel
        have e1 : wr.cell? ⟨b, off + k, none⟩ = some (.string x) := by rw [HI.out.bel.cell hb]; exact Hc.out
        by_cases hq2 : q < x.size
        · have hi2 : (q : Int) < (x.size : Int) := by omega
          have hlen : (L ++ (UInt8.ofNat x.size :: x.data.toList.take q)).length = L.length + 1 + q := by
            simp; omega
          have Hlen := hide hlen
          have HT : Hid (x.data.toList.take (q + 1) = x.data.toList.take q ++ [x[q]]) := by
            show x.data.toList.take (q + 1) = _
            rw [List.take_succ_eq_append_getElem (by simpa using hq2)]; rfl
          clear hlen
          go_wp2_with (at_builtin; refine wpList_append_own _ rfl _ _ 40 rfl w.heap.size 5 i0 (.int .u8 0) 1 1 Try.underlying40 HE.out.1 HE.out.2.1 HE.out.2.2.1 HE.out.2.2.2 rfl (by decide) _ _ _ rfl (HI.out.own.alloc _) ⟨wr.heap.size, 0, none⟩ 1 1 [.int .u8 (x[q].toNat : Int)] rfl rfl (cell_one_new _ _ _) (by intro u hu; simp at hu; subst hu; rfl) (by rw [Hlen.out]; unfold maxLen; omega) (by rw [Hlen.out]; omega) (by have := HI.out.bel.size; simp; omega) ?_; intro v3 w3 hown3 hg3 h9; clear h9)
          have HR3 : Hid (WRel w v3 (L ++ (UInt8.ofNat x.size :: x.data.toList.take (q + 1))) w3) := by
            have h := HI.out.next (c := x[q]) hown3 hg3
            show WRel w v3 _ w3
            rw [HT.out]
            simpa using h
          clear hown3 hg3 e1
          go_wp2
          go_roundw
          case rel => exact ⟨q + 1, by omega, by go_num, HR3.out⟩
          case measure => simp [intOf]; omega
        · have HF : Hid (WRel w u3 (wire (ls.take (k + 1))) wr) := by
            have h := HI.out
            rw [List.take_of_length_le (by simp; omega)] at h
            rw [HX.out]; exact h
          clear HI
          go_wp2
          go_roundw
          case rel => exact ⟨k + 1, by omega, by go_num, HF.out⟩
          case measure => simp [intOf]; omega
    · have HF : Hid (WRel w u3 (wire ls) wr) := by
        have h := HR.out
        rw [List.take_of_length_le (by have := Hn.out; omega)] at h
        exact h
      have hcv := HF.out.conv
      go_wp2
      go_ret
      exact ⟨rfl, HF.out.bel⟩

end Go.Proofs.Qxb6003357a
