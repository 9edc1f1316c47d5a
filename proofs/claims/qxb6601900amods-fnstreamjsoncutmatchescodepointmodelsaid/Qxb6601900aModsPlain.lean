import Derived.Test.Qxb6601900aModsWidth
namespace Go.Proofs.Qxb6601900aMods
open Go.RowKit

theorem bt_lt (s : ByteArray) (k : Nat) : bt s k < 256 := (s.get! k).toNat_lt

/-- The model's decoder, its width alone, over numbers. -/
def decW (n i b0 b1 b2 b3 : Nat) : Nat :=
  if b0 < 128 then 1
  else if b0 / 32 = 6 ∧ i + 1 < n ∧ b1 / 64 = 2 then (if (b0 % 32) * 64 + b1 % 64 ≥ 128 then 2 else 1)
  else if b0 / 16 = 14 ∧ (i + 1 < n ∧ b1 / 64 = 2) ∧ (i + 2 < n ∧ b2 / 64 = 2) then
    (if (b0 % 16) * 4096 + (b1 % 64) * 64 + b2 % 64 ≥ 2048 ∧ ((b0 % 16) * 4096 + (b1 % 64) * 64 + b2 % 64 < 55296 ∨ (57344 ≤ (b0 % 16) * 4096 + (b1 % 64) * 64 + b2 % 64 ∧ (b0 % 16) * 4096 + (b1 % 64) * 64 + b2 % 64 ≤ 1114111)) then 3 else 1)
  else if b0 / 8 = 30 ∧ (i + 1 < n ∧ b1 / 64 = 2) ∧ (i + 2 < n ∧ b2 / 64 = 2) ∧ (i + 3 < n ∧ b3 / 64 = 2) then
    (if (b0 % 8) * 262144 + (b1 % 64) * 4096 + (b2 % 64) * 64 + b3 % 64 ≥ 65536 ∧ ((b0 % 8) * 262144 + (b1 % 64) * 4096 + (b2 % 64) * 64 + b3 % 64 < 55296 ∨ (57344 ≤ (b0 % 8) * 262144 + (b1 % 64) * 4096 + (b2 % 64) * 64 + b3 % 64 ∧ (b0 % 8) * 262144 + (b1 % 64) * 4096 + (b2 % 64) * 64 + b3 % 64 ≤ 1114111)) then 4 else 1)
  else 1

theorem valid_iff (c : Nat) : Utf8.valid (c : Int) = true ↔ (c < 55296 ∨ (57344 ≤ c ∧ c ≤ 1114111)) := by
  simp only [Utf8.valid, Bool.or_eq_true, Bool.and_eq_true, decide_eq_true_eq]
  omega

theorem decode_decW (s : ByteArray) (i : Nat) : (Utf8.decode s i).2 = decW s.size i (bt s i) (bt s (i + 1)) (bt s (i + 2)) (bt s (i + 3)) := by
  unfold Utf8.decode decW
  simp only [show ∀ k, (s.get! k).toNat = bt s k from fun _ => rfl, Nat.add_zero, Bool.and_eq_true, decide_eq_true_eq, beq_iff_eq, valid_iff, ge_iff_le, and_assoc]
  split
  · rfl
  split
  · split <;> rfl
  split
  · split <;> rfl
  split
  · split <;> rfl
  · rfl

theorem class_C2 (s : ByteArray) (i : Nat) (h1 : 194 ≤ bt s i) (h2 : bt s i ≤ 223) : tailW s i 2 128 191 = (Utf8.decode s i).2 := by
  rw [decode_decW]
  have l1 := bt_lt s (i + 1)
  unfold tailW decW
  generalize bt s i = b0 at *
  generalize bt s (i + 1) = b1 at *
  rw [if_neg (by omega : ¬ b0 < 128)]
  by_cases c1 : s.size - i < 2
  · rw [if_pos c1, if_neg (by omega), if_neg (by omega), if_neg (by omega)]
  rw [if_neg c1]
  by_cases c2 : b1 < 128 ∨ 191 < b1
  · rw [if_pos c2, if_neg (by omega), if_neg (by omega), if_neg (by omega)]
  · rw [if_neg c2, if_neg (by omega), if_neg (by omega), if_pos (by omega), if_pos (by omega)]

theorem class_3 (s : ByteArray) (i lo hi : Nat) (h1 : 224 ≤ bt s i) (h2 : bt s i ≤ 239) (hlo : 128 ≤ lo) (hhi : hi ≤ 191) (e0 : bt s i = 224 → lo = 160) (eD : bt s i = 237 → hi = 159) (e1 : bt s i ≠ 224 → lo = 128) (e2 : bt s i ≠ 237 → hi = 191) : tailW s i 3 lo hi = (Utf8.decode s i).2 := by
  rw [decode_decW]
  have l1 := bt_lt s (i + 1)
  have l2 := bt_lt s (i + 2)
  unfold tailW decW
  generalize bt s i = b0 at *
  generalize bt s (i + 1) = b1 at *
  generalize bt s (i + 2) = b2 at *
  rw [if_neg (by omega : ¬ b0 < 128), if_neg (by omega : ¬ (b0 / 32 = 6 ∧ i + 1 < s.size ∧ b1 / 64 = 2))]
  by_cases c1 : s.size - i < 3
  · rw [if_pos c1, if_neg (by omega), if_neg (by omega)]
  rw [if_neg c1]
  by_cases c2 : b1 < lo ∨ hi < b1
  · rw [if_pos c2]
    by_cases c3 : b0 / 16 = 14 ∧ (i + 1 < s.size ∧ b1 / 64 = 2) ∧ (i + 2 < s.size ∧ b2 / 64 = 2)
    · rw [if_pos c3, if_neg]
      rcases Nat.lt_or_ge 224 b0 with h | h
      · by_cases hD : b0 = 237
        · have := eD hD; have := e1 (by omega); omega
        · have := e1 (by omega); have := e2 hD; omega
      · have := e0 (by omega); have := e2 (by omega); omega
    · rw [if_neg c3, if_neg (by omega)]
  · rw [if_neg c2]
    by_cases c4 : 3 ≤ 3 ∧ (b2 < 128 ∨ 191 < b2)
    · rw [if_pos c4, if_neg (by omega), if_neg (by omega)]
    · rw [if_neg c4, if_neg (by omega), if_pos (by omega), if_pos]
      rcases Nat.lt_or_ge 224 b0 with h | h
      · by_cases hD : b0 = 237
        · have := eD hD; have := e1 (by omega); omega
        · have := e1 (by omega); have := e2 hD; omega
      · have := e0 (by omega); have := e2 (by omega); omega

theorem class_4 (s : ByteArray) (i lo hi : Nat) (h1 : 240 ≤ bt s i) (h2 : bt s i ≤ 244) (hlo : 128 ≤ lo) (hhi : hi ≤ 191) (e0 : bt s i = 240 → lo = 144) (eD : bt s i = 244 → hi = 143) (e1 : bt s i ≠ 240 → lo = 128) (e2 : bt s i ≠ 244 → hi = 191) : tailW s i 4 lo hi = (Utf8.decode s i).2 := by
  rw [decode_decW]
  have l1 := bt_lt s (i + 1)
  have l2 := bt_lt s (i + 2)
  have l3 := bt_lt s (i + 3)
  unfold tailW decW
  generalize bt s i = b0 at *
  generalize bt s (i + 1) = b1 at *
  generalize bt s (i + 2) = b2 at *
  generalize bt s (i + 3) = b3 at *
  rw [if_neg (by omega : ¬ b0 < 128), if_neg (by omega : ¬ (b0 / 32 = 6 ∧ i + 1 < s.size ∧ b1 / 64 = 2)), if_neg (by omega : ¬ (b0 / 16 = 14 ∧ (i + 1 < s.size ∧ b1 / 64 = 2) ∧ i + 2 < s.size ∧ b2 / 64 = 2))]
  by_cases c1 : s.size - i < 4
  · rw [if_pos c1, if_neg (by omega)]
  rw [if_neg c1]
  by_cases c2 : b1 < lo ∨ hi < b1
  · rw [if_pos c2]
    by_cases c3 : b0 / 8 = 30 ∧ (i + 1 < s.size ∧ b1 / 64 = 2) ∧ (i + 2 < s.size ∧ b2 / 64 = 2) ∧ (i + 3 < s.size ∧ b3 / 64 = 2)
    · rw [if_pos c3, if_neg]
      rcases Nat.lt_or_ge 240 b0 with h | h
      · by_cases hD : b0 = 244
        · have := eD hD; have := e1 (by omega); omega
        · have := e1 (by omega); have := e2 hD; omega
      · have := e0 (by omega); have := e2 (by omega); omega
    · rw [if_neg c3]
  · rw [if_neg c2]
    by_cases c4 : 3 ≤ 4 ∧ (b2 < 128 ∨ 191 < b2)
    · rw [if_pos c4, if_neg (by omega)]
    rw [if_neg c4]
    by_cases c5 : 4 ≤ 4 ∧ (b3 < 128 ∨ 191 < b3)
    · rw [if_pos c5, if_neg (by omega)]
    · rw [if_neg c5, if_pos (by omega), if_pos]
      rcases Nat.lt_or_ge 240 b0 with h | h
      · by_cases hD : b0 = 244
        · have := eD hD; have := e1 (by omega); omega
        · have := e1 (by omega); have := e2 hD; omega
      · have := e0 (by omega); have := e2 (by omega); omega

theorem class_1 (s : ByteArray) (i : Nat) (h : bt s i < 194 ∨ 245 ≤ bt s i) : 1 = (Utf8.decode s i).2 := by
  rw [decode_decW]
  have l0 := bt_lt s i
  have l1 := bt_lt s (i + 1)
  have l2 := bt_lt s (i + 2)
  have l3 := bt_lt s (i + 3)
  unfold decW
  generalize bt s i = b0 at *
  generalize bt s (i + 1) = b1 at *
  generalize bt s (i + 2) = b2 at *
  generalize bt s (i + 3) = b3 at *
  split
  · rfl
  split
  · rw [if_neg (by omega)]
  split
  · omega
  split
  · rw [if_neg (by omega)]
  · rfl

end Go.Proofs.Qxb6601900aMods
