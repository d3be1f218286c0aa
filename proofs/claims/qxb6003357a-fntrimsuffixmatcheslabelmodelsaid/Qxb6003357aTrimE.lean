import Derived.Test.Qxb6003357aTrimD
import Derived.Lib.Strings
namespace Go.Proofs.Qxb6003357a
open Go.RowKit

/-- What TrimSuffix answers. -/
def TrimPost (nl zl : List ByteArray) (e : Ending) : Prop :=
  (∃ m, m ≤ nl.length ∧ (wire (nl.drop m)).map lowB = (wire zl).map lowB ∧ e = .returned (.tuple #[.agg #[.string ⟨(wire (nl.take m)).toArray⟩], .bool true])) ∨
  ((∀ m, m ≤ nl.length → (wire (nl.drop m)).map lowB ≠ (wire zl).map lowB) ∧ e = .returned (.tuple #[.agg #[.string ⟨#[]⟩], .bool false]))

/-- The three boxes. -/
structure TR (w : World) (n z : ByteArray) (wr : World) : Prop where
  bel : Below w.heap.size w wr
  cn : wr.cell? ⟨w.heap.size, 0, none⟩ = some (.string n)
  cz : wr.cell? ⟨w.heap.size + 1, 0, none⟩ = some (.string z)
  cr : ∃ v, wr.cell? ⟨w.heap.size + 1 + 1, 0, none⟩ = some (.string v)
  fr : wr.frozen? ⟨w.heap.size + 1 + 1, 0, none⟩ = false
  sz : w.heap.size + 1 + 1 < wr.heap.size
theorem TR.next {w : World} {n z : ByteArray} {w1 w2 : World} (h : TR w n z w1) (hb : Below w1.heap.size w1 w2) : TR w n z w2 := by
  obtain ⟨h1, h2, h3, h4, h5, h6⟩ := h
  have := h1.size
  exact ⟨h1.trans (hb.mono this), by rw [hb.cell (by simp; omega)]; exact h2, by rw [hb.cell (by simp; omega)]; exact h3, by rw [hb.cell (by simp; omega)]; exact h4, by rw [hb.frozen (by simp; omega)]; exact h5, Nat.lt_of_lt_of_le h6 hb.size⟩

theorem len_of_fold {xs ys : List UInt8} (h : xs.map lowB = ys.map lowB) : xs.length = ys.length := by
  have := congrArg List.length h
  simpa using this

/-- Later labels leave less. -/
theorem wire_drop_mono (nl : List ByteArray) {m m' : Nat} (h : m < m') (hm : m < nl.length) : (wire (nl.drop m')).length < (wire (nl.drop m)).length := by
  have a := wire_drop_len nl m hm
  have b := wire_len_split (nl.drop (m + 1)) (m' - (m + 1))
  rw [List.drop_drop, show m + 1 + (m' - (m + 1)) = m' by omega] at b
  omega

attribute [local go_sem] later_cell later_frozen later_size later_tape

set_option maxHeartbeats 1000000 in
theorem trim_any (nl zl : List ByteArray) (hl : Labels nl) (n z : ByteArray) (hn : n.data.toList = wire nl) (hz : z.data.toList = wire zl) (hns : n.size ≤ 254) (hzs : z.size ≤ 254) (w : World) :
    Calls Try.prog 24 #[.agg #[.string n], .agg #[.string z]] w fun e w' => TrimPost nl zl e ∧ Below w.heap.size w w' := by
  have Hn := hide hn
  have Hz := hide hz
  have HL := hide hl
  have HnS : Hid (n.size = (wire nl).length) := by show n.size = _; rw [← hn]; simp
  have HzS : Hid (z.size = (wire zl).length) := by show z.size = _; rw [← hz]; simp
  clear hn hz hl
  go_enter Try.func24, Try.ntmps24
  go_wp2
  go_loopw [6] (fun i wr => ∃ m p : Nat, m ≤ nl.length ∧ p ≤ n.size ∧ i = .int .i64 p ∧ Hid (p = (wire (nl.take m)).length) ∧ Hid (∀ m', m' < m → (wire (nl.drop m')).map lowB ≠ (wire zl).map lowB) ∧ Hid (TR w n z wr)) (fun i _ => n.size - (intOf i).toNat)
  case atStart =>
    refine ⟨0, 0, Nat.zero_le _, Nat.zero_le _, rfl, rfl, fun m' h => by omega, ?_⟩
    refine ⟨(((Below.refl _ _).alloc (Nat.le_refl _) _).alloc (by simp) _).alloc (by simp; omega) _, by go_simp, by go_simp, ⟨_, by go_simp; rfl⟩, by go_simp, by simp⟩
  case round =>
    obtain ⟨m, p, hm, hp, rfl, Hp, HM, HT⟩ := hrel
    obtain ⟨_, cn, cz, ⟨v0, cr⟩, fr, sz⟩ := HT.out
    have HS : Hid (p + (wire (nl.drop m)).length = n.size) := by
      show p + (wire (nl.drop m)).length = n.size
      rw [Hp.out, HnS.out]; exact wire_len_split nl m
    by_cases hc : (z.size : Int) ≤ (n.size : Int) - p
    · by_cases he : (n.size : Int) - p = z.size
      · have heq : ((n.size : Int) - p == (z.size : Int)) = true := by simp [he]
        have He := hide he
        clear he
        have s0 : w.heap.size < wr.heap.size := by omega
        have s1 : w.heap.size + 1 < wr.heap.size := by omega
        have hzm : z.size ≤ maxLen := by unfold maxLen; omega
        have hxm : (n.extract p n.size).size ≤ maxLen := by
          have : (n.extract p n.size).size ≤ n.size := by simp
          unfold maxLen; omega
        have HF : Hid (foldEq (n.extract p n.size) z = true ↔ (wire (nl.drop m)).map lowB = (wire zl).map lowB) := by
          show foldEq _ _ = true ↔ _
          rw [foldEq_iff, Hz.out, Lib.extract_data, Hn.out, List.take_of_length_le (by rw [List.length_drop, ← HnS.out]; omega), Hp.out, wire_drop]
        have hpi : (p : Int) ≤ (n.size : Int) := by omega
        go_wp2
        refine region_later (by kernel_rfl) (by kernel_rfl) ?_
        repeat (go_big_quiet_step ((go_at_call 13; exact quiet_below (fold_any _ _ _ hxm hzm))))
        refine wpQuiet_nil ?_
        rintro _ ⟨x, rfl⟩
        have HT2 : Hid (TR w n z (later wr x)) := HT.out.next (later_below _ _)
        generalize later wr x = w2 at *
        clear cn cz cr fr sz s0 s1 HT
        obtain ⟨_, cn, cz, ⟨v1, cr⟩, fr, sz⟩ := HT2.out
        cases hf : foldEq (n.extract p n.size) z
        · have HX : Hid (∀ m', m' ≤ nl.length → (wire (nl.drop m')).map lowB ≠ (wire zl).map lowB) := by
            intro m' hm' h
            rcases Nat.lt_trichotomy m' m with h1 | h1 | h1
            · exact HM.out m' h1 h
            · subst h1; rw [HF.out.2 h] at hf; cases hf
            · have a := wire_drop_mono nl h1 (by omega)
              have b := len_of_fold h
              have c := HS.out
              have d := HzS.out
              have e := He.out
              omega
          go_wp2
          exact bodyPost_ret (v := .tuple #[.agg #[.string ⟨#[]⟩], .bool false]) (by simp [results, Try.results24, go_sem, cr]) rfl ⟨.inr ⟨HX.out, rfl⟩, HT2.out.bel.setCell (by simp; omega) _⟩
        · have HX : Hid (n.extract 0 p = ⟨(wire (nl.take m)).toArray⟩) := by
            show n.extract 0 p = ⟨(wire (nl.take m)).toArray⟩
            have h := Lib.extract_data n 0 p
            rw [List.drop_zero, Nat.sub_zero, Hn.out] at h
            rw [← wire_take nl m, ← Hp.out]
            exact ByteArray.ext (Array.toList_inj.1 h)
          have HY : Hid ((wire (nl.drop m)).map lowB = (wire zl).map lowB) := HF.out.1 hf
          go_wp2
          exact bodyPost_ret (v := .tuple #[.agg #[.string (n.extract 0 p)], .bool true]) (by simp [results, Try.results24, go_sem, cr]) rfl ⟨.inl ⟨m, hm, HY.out, by rw [HX.out]⟩, HT2.out.bel.setCell (by simp; omega) _⟩
      · have heq : ((n.size : Int) - p == (z.size : Int)) = false := by simp [he]
        have hml : m < nl.length := by
          rcases Nat.lt_or_ge m nl.length with h | h
          · exact h
          · exfalso
            have h1 := HS.out
            rw [List.drop_of_length_le h, wire_nil] at h1
            simp at h1
            omega
        have hpn : p < n.size := by omega
        have hpi : (p : Int) < (n.size : Int) := by omega
        have HN : Hid (n[p].toNat = (lab nl m).size) := by
          show n[p].toNat = _
          have h1 := wire_at nl m hml
          rw [← Hp.out, ← Hn.out, List.getElem?_eq_getElem (by simpa using hpn)] at h1
          have h2 : n[p] = UInt8.ofNat (lab nl m).size := Option.some.inj h1
          rw [h2, UInt8.toNat_ofNat']
          have := (HL.out _ (lab_mem nl m hml)).2
          omega
        have hb : n[p].toNat ≤ 63 := by rw [HN.out]; exact (HL.out _ (lab_mem nl m hml)).2
        have HP2 : Hid (p + (1 + n[p].toNat) = (wire (nl.take (m + 1))).length) := by
          show p + (1 + n[p].toNat) = _
          rw [wire_take_succ_len nl m hml, HN.out, ← Hp.out]; omega
        have HM2 : Hid (∀ m', m' < m + 1 → (wire (nl.drop m')).map lowB ≠ (wire zl).map lowB) := by
          intro m' hm' h
          by_cases e : m' = m
          · subst e
            have b := len_of_fold h
            have c := HS.out
            have d := HzS.out
            omega
          · exact HM.out m' (by omega) h
        have HP3 : Hid (p + (1 + n[p].toNat) ≤ n.size) := by
          show p + (1 + n[p].toNat) ≤ n.size
          have := wire_len_split nl (m + 1)
          rw [HP2.out, HnS.out]; omega
        clear he
        go_wp2
        go_roundw
        case rel => exact ⟨m + 1, p + (1 + n[p].toNat), by omega, HP3.out, by go_num, HP2.out, HM2.out, HT.out⟩
        case measure => have := HP3.out; simp [intOf]; omega
    · have HX : Hid (∀ m', m' ≤ nl.length → (wire (nl.drop m')).map lowB ≠ (wire zl).map lowB) := by
        intro m' hm' h
        have b := len_of_fold h
        have c := HS.out
        have d := HzS.out
        rcases Nat.lt_trichotomy m' m with h1 | h1 | h1
        · exact HM.out m' h1 h
        · subst h1; omega
        · have a := wire_drop_mono nl h1 (by omega)
          omega
      go_wp2
      exact bodyPost_ret (v := .tuple #[.agg #[.string ⟨#[]⟩], .bool false]) (by simp [results, Try.results24, go_sem, cr]) rfl ⟨.inr ⟨HX.out, rfl⟩, HT.out.bel.setCell (by simp; omega) _⟩

end Go.Proofs.Qxb6003357a
