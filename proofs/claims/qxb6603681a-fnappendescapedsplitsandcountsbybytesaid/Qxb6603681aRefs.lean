import Derived.Test.Qxb6603681aMap
namespace Go.Proofs.Qxb6603681a
open Go.RowKit Go.Maps

def RefPost (M : Ref) (w : World) (e : Ending) (w' : World) : Prop := ∃ m N, e = .returned m ∧ Looks w' m N ∧ (∀ c, c < 256 → N c = M c) ∧ Below w.heap.size w w'

/-- The copy as far as it has come: the bytes below k. -/
structure CRel (w : World) (M : Ref) (k : Nat) (wr : World) : Prop where
  bel : Below w.heap.size w wr
  own : ∃ D : DataW Unit, wr.ownsMap Try.prog 5 (plainElem Try.prog 9) w.heap.size k D ∧ ∀ c, c < 256 → mapOf D c = if c < k then M c else none

theorem mapOf_put_same {D : DataW Unit} (hD : IsMap D) (k : Nat) (s : ByteArray) : mapOf (D.put (.int .u8 (k : Int)) (.lit (.string s.data.toList))) k = some s := by
  unfold mapOf
  have hk : WideAt.IsKeyLit (.int .u8 (k : Int)) := by simp [WideAt.IsKeyLit]
  rw [if_pos (Maps.has_put_same hD hk _), Maps.atKey_put_same hD hk]
  rfl
theorem mapOf_put_other {D : DataW Unit} {c k : Nat} (h : c ≠ k) (d : DataW Unit) : mapOf (D.put (.int .u8 (k : Int)) d) c = mapOf D c := by
  unfold mapOf
  have hne : (Lit.int .u8 (c : Int)) ≠ .int .u8 (k : Int) := by simp; omega
  rw [Maps.has_put_other hne, Maps.atKey_put_other hne]

theorem CRel.put {w : World} {M : Ref} {k : Nat} {wr w' : World} (h : CRel w M k wr) (hk : k < 256) {s : ByteArray} (hs : M k = some s) {D : DataW Unit}
    (hD : ∀ c, c < 256 → mapOf D c = if c < k then M c else none) (hi : IsMap D) (ho : w'.ownsMap Try.prog 5 (plainElem Try.prog 9) w.heap.size (k + 1) (D.put (.int .u8 (k : Int)) (.lit (.string s.data.toList)))) (hg : wr.grownBy w' (some w.heap.size)) : CRel w M (k + 1) w' := by
  refine ⟨h.bel.grown hg h.bel.size (fun k hk => by cases hk; exact Nat.le_refl _), _, ho, fun c hc => ?_⟩
  by_cases e : c = k
  · subst e; rw [mapOf_put_same hi, if_pos (by omega), hs]
  · rw [mapOf_put_other e, hD c hc]
    by_cases h2 : c < k
    · rw [if_pos h2, if_pos (by omega)]
    · rw [if_neg h2, if_neg (by omega)]
theorem CRel.skip {w : World} {M : Ref} {k : Nat} {wr : World} (h : CRel w M k wr) (hs : M k = none) : CRel w M (k + 1) wr := by
  obtain ⟨hb, D, ho, hD⟩ := h
  refine ⟨hb, D, ho.mono (by omega), fun c hc => ?_⟩
  rw [hD c hc]
  by_cases e : c = k
  · subst e; simp [hs]
  · by_cases h2 : c < k
    · rw [if_pos h2, if_pos (by omega)]
    · rw [if_neg h2, if_neg (by omega)]

set_option maxHeartbeats 400000 in
theorem refs_nil (w : World) : Calls Try.prog 12 #[.map none] w (RefPost (fun _ => none) w) := by
  have heq := fun w' => run_eql_map_nil (P := Try.prog) w' 27 5 9 none Try.underlying27
  go_enter Try.func12, Try.ntmps12
  go_wp2
  go_ret
  exact ⟨_, _, rfl, nil_looks _, fun _ _ => rfl, Below.refl _ _⟩

set_option maxHeartbeats 1000000 in
theorem refs_some (b : Nat) (M : Ref) (w : World) (hM : Modest M) (hl : Looks w (.map (some b)) M) : Calls Try.prog 12 #[.map (some b)] w (RefPost M w) := by
  have heq := fun w' => run_eql_map_nil (P := Try.prog) w' 27 5 9 (some b) Try.underlying27
  have hmk := run_makeMap (P := Try.prog) 27
  have HL := hide hl
  have HM := hide hM
  clear hl hM
  go_enter Try.func12, Try.ntmps12
  go_wp2
  go_loopw [4] (fun i wr => ∃ k : Nat, k ≤ 256 ∧ i = .int .i64 k ∧ Hid (CRel w M k wr)) (fun i _ => 256 - (intOf i).toNat)
  case atStart =>
    refine ⟨0, by omega, rfl, (Below.refl _ _).alloc (Nat.le_refl _) _, _, World.ownsMap_made w _ _ _, fun c _ => ?_⟩
    rw [if_neg (by omega)]; rfl
  case round =>
    obtain ⟨k, hk, rfl, HR⟩ := hrel
    by_cases hlt : k < 256
    · have hlook := HL.out.here HR.out.bel hlt
      have hmod : ∀ s, M k = some s → s.size ≤ maxLen := HM.out k
      have hi : (k : Int) < 256 := by omega
      cases hq : M k with
      | none =>
        rw [hq] at hlook
        simp only [Option.getD_none, Option.isSome_none] at hlook
        have HN : Hid (CRel w M (k + 1) wr) := HR.out.skip hq
        clear hmod hq
        go_wp2
        go_roundw
        case rel => exact ⟨k + 1, by omega, by go_num, HN.out⟩
        case measure => simp [intOf]; omega
      | some s =>
        rw [hq] at hlook
        simp only [Option.getD_some, Option.isSome_some] at hlook
        have hs : s.size ≤ maxLen := hmod s hq
        obtain ⟨_, D, ho, hD⟩ := HR.out
        have HO := hide (And.intro ho (And.intro hD (And.intro hq hs)))
        clear hmod hq ho hD hs
        go_wp2_with (first | (at_mapUpdate; refine wpList_mapUpdate_own _ rfl _ _ _ 27 rfl 5 9 keyed5 Try.underlying27 _ w.heap.size k D rfl HO.out.1 (by unfold maxLen; omega) _ _ (.int .u8 (k : Int)) rfl rfl (key5 hlt) (.lit (.string s.data.toList)) [] (plainElem_string Try.underlying9 HO.out.2.2.2) ?_; intro w2 ho2 hg2) | go_in)
        have HN : Hid (CRel w M (k + 1) w2) := HR.out.put hlt HO.out.2.2.1 HO.out.2.1 HO.out.1.isMap ho2 hg2
        clear ho2 hg2
        go_wp2
        go_roundw
        case rel => exact ⟨k + 1, by omega, by go_num, HN.out⟩
        case measure => simp [intOf]; omega
    · obtain rfl : k = 256 := by omega
      go_wp2
      go_ret
      obtain ⟨hb, D, ho, hD⟩ := HR.out
      exact ⟨_, _, rfl, own_looks ho, fun c hc => by rw [hD c hc, if_pos hc], hb⟩

end Go.Proofs.Qxb6603681a
