import GoSem.Core.Utf8
namespace Go.Proofs.Qxb6603507a

/-- How many bytes the character at i takes, by the model's decoding. -/
def wid (s : ByteArray) (i : Nat) : Nat := (Utf8.decode s i).2
def bt (s : ByteArray) (i : Nat) : Nat := (s.get! i).toNat

theorem bt_lt (s : ByteArray) (i : Nat) : bt s i < 256 := (s.get! i).toNat_lt
theorem bt_at (s : ByteArray) (i : Nat) (h : i < s.size) : bt s i = (s[i]).toNat := by
  unfold bt
  simp [ByteArray.get!, getElem!_pos, h]
  rfl

/-- The first byte's kind, as the Go text parts it: how long a sequence it opens, and the range of the second byte. -/
def Cls (b z lo hi : Nat) : Prop :=
  (194 ≤ b ∧ b ≤ 223 ∧ z = 2 ∧ lo = 128 ∧ hi = 191) ∨ (b = 224 ∧ z = 3 ∧ lo = 160 ∧ hi = 191) ∨ (b = 237 ∧ z = 3 ∧ lo = 128 ∧ hi = 159) ∨
  (225 ≤ b ∧ b ≤ 239 ∧ b ≠ 237 ∧ z = 3 ∧ lo = 128 ∧ hi = 191) ∨ (b = 240 ∧ z = 4 ∧ lo = 144 ∧ hi = 191) ∨ (241 ≤ b ∧ b ≤ 243 ∧ z = 4 ∧ lo = 128 ∧ hi = 191) ∨ (b = 244 ∧ z = 4 ∧ lo = 128 ∧ hi = 143)

set_option maxRecDepth 20000 in
theorem decode_eq (s : ByteArray) (i : Nat) : wid s i =
    (if bt s i < 128 then 1
     else if bt s i / 32 = 6 ∧ i + 1 < s.size ∧ bt s (i + 1) / 64 = 2 then
       if 128 ≤ (bt s i % 32) * 64 + bt s (i + 1) % 64 then 2 else 1
     else if bt s i / 16 = 14 ∧ (i + 1 < s.size ∧ bt s (i + 1) / 64 = 2) ∧ (i + 2 < s.size ∧ bt s (i + 2) / 64 = 2) then
       if 2048 ≤ (bt s i % 16) * 4096 + (bt s (i + 1) % 64) * 64 + bt s (i + 2) % 64 ∧
         ((bt s i % 16) * 4096 + (bt s (i + 1) % 64) * 64 + bt s (i + 2) % 64 < 55296 ∨ (57344 ≤ (bt s i % 16) * 4096 + (bt s (i + 1) % 64) * 64 + bt s (i + 2) % 64 ∧ (bt s i % 16) * 4096 + (bt s (i + 1) % 64) * 64 + bt s (i + 2) % 64 ≤ 1114111)) then 3 else 1
     else if bt s i / 8 = 30 ∧ (i + 1 < s.size ∧ bt s (i + 1) / 64 = 2) ∧ (i + 2 < s.size ∧ bt s (i + 2) / 64 = 2) ∧ (i + 3 < s.size ∧ bt s (i + 3) / 64 = 2) then
       if 65536 ≤ (bt s i % 8) * 262144 + (bt s (i + 1) % 64) * 4096 + (bt s (i + 2) % 64) * 64 + bt s (i + 3) % 64 ∧
         ((bt s i % 8) * 262144 + (bt s (i + 1) % 64) * 4096 + (bt s (i + 2) % 64) * 64 + bt s (i + 3) % 64 < 55296 ∨ (57344 ≤ (bt s i % 8) * 262144 + (bt s (i + 1) % 64) * 4096 + (bt s (i + 2) % 64) * 64 + bt s (i + 3) % 64 ∧ (bt s i % 8) * 262144 + (bt s (i + 1) % 64) * 4096 + (bt s (i + 2) % 64) * 64 + bt s (i + 3) % 64 ≤ 1114111)) then 4 else 1
     else 1) := by
  unfold wid Utf8.decode bt
  dsimp only [Nat.add_zero]
  by_cases h0 : (s.get! i).toNat < 128
  · rw [if_pos h0, if_pos h0]
  rw [if_neg h0, if_neg h0]
  by_cases h1 : (s.get! i).toNat / 32 = 6 ∧ i + 1 < s.size ∧ (s.get! (i + 1)).toNat / 64 = 2
  · rw [if_pos (by simpa using h1), if_pos h1]
    split <;> rfl
  rw [if_neg (by simpa using h1), if_neg h1]
  by_cases h2 : (s.get! i).toNat / 16 = 14 ∧ (i + 1 < s.size ∧ (s.get! (i + 1)).toNat / 64 = 2) ∧ (i + 2 < s.size ∧ (s.get! (i + 2)).toNat / 64 = 2)
  · rw [if_pos (by simpa [and_assoc] using h2), if_pos h2]
    generalize (s.get! i).toNat % 16 * 4096 + (s.get! (i + 1)).toNat % 64 * 64 + (s.get! (i + 2)).toNat % 64 = c
    by_cases h3 : 2048 ≤ c ∧ (c < 55296 ∨ (57344 ≤ c ∧ c ≤ 1114111))
    · rw [if_pos h3, if_pos (by simp [Utf8.valid]; omega)]
    · rw [if_neg h3, if_neg (by simp [Utf8.valid]; omega)]
  rw [if_neg (by simpa [and_assoc] using h2), if_neg h2]
  by_cases h4 : (s.get! i).toNat / 8 = 30 ∧ (i + 1 < s.size ∧ (s.get! (i + 1)).toNat / 64 = 2) ∧ (i + 2 < s.size ∧ (s.get! (i + 2)).toNat / 64 = 2) ∧ (i + 3 < s.size ∧ (s.get! (i + 3)).toNat / 64 = 2)
  · rw [if_pos (by simpa [and_assoc] using h4), if_pos h4]
    generalize (s.get! i).toNat % 8 * 262144 + (s.get! (i + 1)).toNat % 64 * 4096 + (s.get! (i + 2)).toNat % 64 * 64 + (s.get! (i + 3)).toNat % 64 = c
    by_cases h3 : 65536 ≤ c ∧ (c < 55296 ∨ (57344 ≤ c ∧ c ≤ 1114111))
    · rw [if_pos h3, if_pos (by simp [Utf8.valid]; omega)]
    · rw [if_neg h3, if_neg (by simp [Utf8.valid]; omega)]
  rw [if_neg (by simpa [and_assoc] using h4), if_neg h4]

theorem wid_ascii (s : ByteArray) (i : Nat) (h : bt s i < 128) : wid s i = 1 := by rw [decode_eq, if_pos h]

theorem wid_other (s : ByteArray) (i : Nat) (h1 : 128 ≤ bt s i) (h2 : bt s i < 194 ∨ 244 < bt s i) : wid s i = 1 := by
  rw [decode_eq]
  have := bt_lt s (i + 1)
  repeat' split
  all_goals first | rfl | omega

theorem wid_short (s : ByteArray) (i z lo hi : Nat) (hc : Cls (bt s i) z lo hi) (h : s.size < i + z) : wid s i = 1 := by
  rw [decode_eq]
  unfold Cls at hc
  have := bt_lt s (i + 1)
  repeat' split
  all_goals first | rfl | omega

theorem wid_second (s : ByteArray) (i z lo hi : Nat) (hc : Cls (bt s i) z lo hi) (h : bt s (i + 1) < lo ∨ hi < bt s (i + 1)) : wid s i = 1 := by
  rw [decode_eq]
  unfold Cls at hc
  have := bt_lt s (i + 1)
  repeat' split
  all_goals first | rfl | omega

theorem wid_later (s : ByteArray) (i z lo hi j : Nat) (hc : Cls (bt s i) z lo hi) (hj : 2 ≤ j) (hz : j < z) (h : bt s (i + j) < 128 ∨ 191 < bt s (i + j)) : wid s i = 1 := by
  rw [decode_eq]
  unfold Cls at hc
  have hj' : j = 2 ∨ j = 3 := by omega
  have := bt_lt s (i + 2)
  have := bt_lt s (i + 3)
  rcases hj' with rfl | rfl
  all_goals
    repeat' split
    all_goals first | rfl | omega

theorem wid_whole (s : ByteArray) (i z lo hi : Nat) (hc : Cls (bt s i) z lo hi) (h0 : i + z ≤ s.size) (h1 : lo ≤ bt s (i + 1)) (h2 : bt s (i + 1) ≤ hi) (h3 : ∀ j, 2 ≤ j → j < z → 128 ≤ bt s (i + j) ∧ bt s (i + j) ≤ 191) : wid s i = z := by
  have e2 : 2 < z → 128 ≤ bt s (i + 2) ∧ bt s (i + 2) ≤ 191 := fun h => h3 2 (by omega) h
  have e3 : 3 < z → 128 ≤ bt s (i + 3) ∧ bt s (i + 3) ≤ 191 := fun h => h3 3 (by omega) h
  clear h3
  rw [decode_eq]
  rcases hc with ⟨a, b, rfl, rfl, rfl⟩ | ⟨a, rfl, rfl, rfl⟩ | ⟨a, rfl, rfl, rfl⟩ | ⟨a, b, c, rfl, rfl, rfl⟩ | ⟨a, rfl, rfl, rfl⟩ | ⟨a, b, rfl, rfl, rfl⟩ | ⟨a, rfl, rfl, rfl⟩
  · rw [if_neg (by omega), if_pos (by omega), if_pos (by omega)]
  · have := e2 (by omega)
    rw [if_neg (by omega), if_neg (by omega), if_pos (by omega), if_pos (by omega)]
  · have := e2 (by omega)
    rw [if_neg (by omega), if_neg (by omega), if_pos (by omega), if_pos (by omega)]
  · have := e2 (by omega)
    rw [if_neg (by omega), if_neg (by omega), if_pos (by omega), if_pos (by omega)]
  · have := e2 (by omega)
    have := e3 (by omega)
    rw [if_neg (by omega), if_neg (by omega), if_neg (by omega), if_pos (by omega), if_pos (by omega)]
  · have := e2 (by omega)
    have := e3 (by omega)
    rw [if_neg (by omega), if_neg (by omega), if_neg (by omega), if_pos (by omega), if_pos (by omega)]
  · have := e2 (by omega)
    have := e3 (by omega)
    rw [if_neg (by omega), if_neg (by omega), if_neg (by omega), if_pos (by omega), if_pos (by omega)]

theorem wid_pos (s : ByteArray) (i : Nat) : 1 ≤ wid s i := by
  rw [decode_eq]
  repeat' split
  all_goals omega
theorem wid_le (s : ByteArray) (i : Nat) (h : i < s.size) : i + wid s i ≤ s.size := by
  rw [decode_eq]
  repeat' split
  all_goals omega
theorem wid_le4 (s : ByteArray) (i : Nat) : wid s i ≤ 4 := by
  rw [decode_eq]
  repeat' split
  all_goals omega

/-- Where the k-th character begins. -/
def pos (s : ByteArray) : Nat → Nat
  | 0 => 0
  | k + 1 => if pos s k < s.size then pos s k + wid s (pos s k) else pos s k

theorem pos_le (s : ByteArray) : ∀ k, pos s k ≤ s.size
  | 0 => Nat.zero_le _
  | k + 1 => by
    unfold pos
    split
    · rename_i h; exact wid_le s _ h
    · exact pos_le s k
theorem pos_next (s : ByteArray) (k : Nat) (h : pos s k < s.size) : pos s (k + 1) = pos s k + wid s (pos s k) := by
  rw [pos, if_pos h]
theorem pos_stay (s : ByteArray) (k : Nat) (h : s.size ≤ pos s k) : ∀ m, k ≤ m → pos s m = pos s k
  | m, hm => by
    induction m with
    | zero => have : k = 0 := by omega
              rw [this]
    | succ m ih =>
      by_cases e : k = m + 1
      · rw [e]
      · have h1 := ih (by omega)
        rw [pos, if_neg (by omega), h1]

end Go.Proofs.Qxb6603507a
