import Derived.Test.Qxb6003357aTrimA
namespace Go.Proofs.Qxb6003357a
open Go.RowKit

/-- The slice (a, ls.length) reads, in w, as the strings ls. -/
abbrev SRow (w : World) (a : Option Addr) (ls : List ByteArray) : Prop := VRow w a ls.length (fun i => .string (lab ls i))

theorem SRow.at {w : World} {a : Option Addr} {ls : List ByteArray} (h : SRow w a ls) {k : Nat} (hk : k < ls.length) : ∃ b off, a = some ⟨b, off, none⟩ ∧ b < w.heap.size ∧ ∀ i, i < ls.length → w.cell? ⟨b, off + i, none⟩ = some (.string (lab ls i)) := by
  rcases h with h | h
  · omega
  · exact h

/-- What the size guard's answer says. -/
def Zb19 (nl zl : List ByteArray) (e : Ending) : Prop :=
  ∃ r, e = .returned (.bool r) ∧ (r = true → nl.length ≤ 1048576 ∧ zl.length ≤ 1048576 ∧ (∀ i, i < nl.length → (lab nl i).size ≤ 1048576) ∧ (∀ i, i < zl.length → (lab zl i).size ≤ 1048576))

set_option maxHeartbeats 1000000 in
theorem zb19_any (a0 a1 : Option Addr) (nl zl : List ByteArray) (c0 c1 : Nat) (w : World) (hn : nl.length ≤ maxLen) (hz : zl.length ≤ maxLen) (h0 : SRow w a0 nl) (h1 : SRow w a1 zl) (s0 : ∀ i, i < nl.length → (lab nl i).size ≤ maxLen) (s1 : ∀ i, i < zl.length → (lab zl i).size ≤ maxLen) :
    Calls Try.prog 19 #[.slice a0 nl.length c0, .slice a1 zl.length c1] w fun e w' => Zb19 nl zl e ∧ w' = w := by
  have H0 := hide h0
  have H1 := hide h1
  have S0 := hide s0
  have S1 := hide s1
  clear h0 h1 s0 s1
  obtain ⟨n, hn'⟩ : ∃ n, n = nl.length := ⟨_, rfl⟩
  obtain ⟨m, hm'⟩ : ∃ m, m = zl.length := ⟨_, rfl⟩
  rw [← hn', ← hm']
  rw [← hn'] at hn
  rw [← hm'] at hz
  have Hn := hide hn'
  have Hm := hide hm'
  clear hn' hm'
  unfold maxLen at hn hz
  by_cases hn2 : (1048576 : Int) < n
  · go_enter Try.func19, Try.ntmps19
    go_wp2
    go_ret
    exact ⟨⟨false, rfl, fun h => by cases h⟩, rfl⟩
  · go_enter Try.func19, Try.ntmps19
    go_wp2
    go_loop [5, 6] (fun t i => ∃ k T : Nat, k ≤ n ∧ i = .int .i64 k ∧ t = .int .i64 T ∧ T ≤ 1048576 ∧ ∀ j, j < k → (lab nl j).size ≤ 1048576) (fun _ i => n - (intOf i).toNat)
    case atStart => exact ⟨0, n, Nat.zero_le _, rfl, rfl, by omega, fun j h => by omega⟩
    case round =>
      obtain ⟨k, T, hk, rfl, rfl, hT, hp⟩ := hrel
      have HP := hide hp
      clear hp
      by_cases hlt : k < n
      · obtain ⟨b, off, rfl, hb, hc⟩ := H0.out.at (k := k) (by rw [← Hn.out]; exact hlt)
        have e1 := hc k (by rw [← Hn.out]; exact hlt)
        have hsz : (lab nl k).size ≤ maxLen := S0.out k (by rw [← Hn.out]; exact hlt)
        obtain ⟨x, hx⟩ : ∃ x, x = lab nl k := ⟨_, rfl⟩
        rw [← hx] at e1 hsz
        have Hx := hide hx
        clear hx hc
        unfold maxLen at hsz
        have hi1 : (k : Int) < (n : Int) := by omega
        by_cases hbig : (1048576 : Int) < x.size
        · go_wp2
          go_ret
          exact ⟨⟨false, rfl, fun h => by cases h⟩, rfl⟩
        · by_cases hbig2 : (1048576 : Int) < (T : Int) + x.size
          · go_wp2
            go_ret
            exact ⟨⟨false, rfl, fun h => by cases h⟩, rfl⟩
          · go_wp2
            go_round
            case rel =>
              refine ⟨k + 1, T + x.size, by omega, by go_num, by go_num, by omega, fun j hj => ?_⟩
              by_cases e : j = k
              · subst e; rw [← Hx.out]; omega
              · exact HP.out j (by omega)
            case measure => simp [intOf]; omega
      · by_cases hm2 : (1048576 : Int) < m
        · go_wp2
          go_ret
          exact ⟨⟨false, rfl, fun h => by cases h⟩, rfl⟩
        · by_cases hm3 : (1048576 : Int) < (T : Int) + m
          · go_wp2
            go_ret
            exact ⟨⟨false, rfl, fun h => by cases h⟩, rfl⟩
          · have HP2 : Hid (∀ j, j < n → (lab nl j).size ≤ 1048576) := fun j hj => HP.out j (by omega)
            clear HP
            go_wp2
            go_loop [5, 7] (fun t i => ∃ k T : Nat, k ≤ m ∧ i = .int .i64 k ∧ t = .int .i64 T ∧ T ≤ 1048576 ∧ ∀ j, j < k → (lab zl j).size ≤ 1048576) (fun _ i => m - (intOf i).toNat)
            case atStart => exact ⟨0, T + m, Nat.zero_le _, rfl, by go_num, by omega, fun j h => by omega⟩
            case round =>
              obtain ⟨k2, T2, hk2, rfl, rfl, hT2, hp⟩ := hrel
              have HP := hide hp
              clear hp
              by_cases hlt2 : k2 < m
              · obtain ⟨b, off, rfl, hb, hc⟩ := H1.out.at (k := k2) (by rw [← Hm.out]; exact hlt2)
                have e1 := hc k2 (by rw [← Hm.out]; exact hlt2)
                have hsz : (lab zl k2).size ≤ maxLen := S1.out k2 (by rw [← Hm.out]; exact hlt2)
                obtain ⟨x, hx⟩ : ∃ x, x = lab zl k2 := ⟨_, rfl⟩
                rw [← hx] at e1 hsz
                have Hx := hide hx
                clear hx hc
                unfold maxLen at hsz
                have hi1 : (k2 : Int) < (m : Int) := by omega
                by_cases hbig : (1048576 : Int) < x.size
                · go_wp2
                  go_ret
                  exact ⟨⟨false, rfl, fun h => by cases h⟩, rfl⟩
                · by_cases hbig2 : (1048576 : Int) < (T2 : Int) + x.size
                  · go_wp2
                    go_ret
                    exact ⟨⟨false, rfl, fun h => by cases h⟩, rfl⟩
                  · go_wp2
                    go_round
                    case rel =>
                      refine ⟨k2 + 1, T2 + x.size, by omega, by go_num, by go_num, by omega, fun j hj => ?_⟩
                      by_cases e : j = k2
                      · subst e; rw [← Hx.out]; omega
                      · exact HP.out j (by omega)
                    case measure => simp [intOf]; omega
              · go_wp2
                go_ret
                refine ⟨⟨true, rfl, fun _ => ⟨by rw [← Hn.out]; omega, by rw [← Hm.out]; omega, fun j hj => HP2.out j (by rw [Hn.out]; exact hj), fun j hj => HP.out j (by have := Hm.out; omega)⟩⟩, rfl⟩

def SbPost (e : Ending) : Prop := ∃ T : Nat, e = .returned (.int .i64 T) ∧ T ≤ 4194304

set_option maxHeartbeats 1000000 in
theorem strBytes_any (a : Option Addr) (ls : List ByteArray) (c : Nat) (w : World) (hn : ls.length ≤ 1048576) (h0 : SRow w a ls) (s0 : ∀ i, i < ls.length → (lab ls i).size ≤ 1048576) :
    Calls Try.prog 20 #[.slice a ls.length c] w fun e w' => SbPost e ∧ w' = w := by
  have H0 := hide h0
  have S0 := hide s0
  clear h0 s0
  obtain ⟨n, hn'⟩ : ∃ n, n = ls.length := ⟨_, rfl⟩
  rw [← hn']
  rw [← hn'] at hn
  have Hn := hide hn'
  clear hn'
  go_enter Try.func20, Try.ntmps20
  go_wp2
  go_loop [3, 4] (fun t i => ∃ k T : Nat, k ≤ n ∧ i = .int .i64 k ∧ t = .int .i64 T ∧ T ≤ 1048576) (fun _ i => n - (intOf i).toNat)
  case atStart => exact ⟨0, 0, Nat.zero_le _, rfl, rfl, by omega⟩
  case round =>
    obtain ⟨k, T, hk, rfl, rfl, hT⟩ := hrel
    by_cases hlt : k < n
    · obtain ⟨b, off, rfl, hb, hc⟩ := H0.out.at (k := k) (by rw [← Hn.out]; exact hlt)
      have e1 := hc k (by rw [← Hn.out]; exact hlt)
      have hsz : (lab ls k).size ≤ 1048576 := S0.out k (by rw [← Hn.out]; exact hlt)
      obtain ⟨x, hx⟩ : ∃ x, x = lab ls k := ⟨_, rfl⟩
      rw [← hx] at e1 hsz
      clear hx hc
      have hi1 : (k : Int) < (n : Int) := by omega
      by_cases hbig2 : (1048576 : Int) < (T : Int) + (16 + x.size)
      · go_wp2
        go_ret
        refine ⟨⟨T + (16 + x.size), ret_int (by omega), by omega⟩, rfl⟩
      · go_wp2
        go_round
        case rel => exact ⟨k + 1, T + (16 + x.size), by omega, by go_num, by go_num, by omega⟩
        case measure => simp [intOf]; omega
    · go_wp2
      go_ret
      exact ⟨⟨T, rfl, by omega⟩, rfl⟩

end Go.Proofs.Qxb6003357a
