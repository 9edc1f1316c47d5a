import Derived.Test.Qxb6601900aModsRows
import Derived.WalkKit
import Derived.WalkSpells
import Derived.WalkLawsBesides
namespace Go.Proofs.Qxb6601900aMods
open Go.RowKit

/-- Byte k of s, as a number. -/
def bt (s : ByteArray) (k : Nat) : Nat := (s.get! k).toNat
theorem bt_at (s : ByteArray) (k : Nat) (h : k < s.size) : bt s k = (s[k]'h).toNat := by
  have := get_at s k h
  simp only [Nat.add_zero] at this
  rw [bt, this]

/-- What sjb1WidthAt answers once it knows how many bytes the head asks for. -/
def tailW (s : ByteArray) (i need lo hi : Nat) : Nat :=
  if s.size - i < need then 1 else if bt s (i + 1) < lo ∨ hi < bt s (i + 1) then 1
  else if 3 ≤ need ∧ (bt s (i + 2) < 128 ∨ 191 < bt s (i + 2)) then 1
  else if 4 ≤ need ∧ (bt s (i + 3) < 128 ∨ 191 < bt s (i + 3)) then 1 else need

theorem ret_int {k : IntKind} {a b : Int} (h : a = b) : Ending.returned (.int k a) = .returned (.int k b) := by rw [h]

theorem tailW_short {s : ByteArray} {i need lo hi : Nat} (h : s.size - i < need) : tailW s i need lo hi = 1 := by simp [tailW, h]
theorem tailW_lo {s : ByteArray} {i need lo hi : Nat} (h : i + 1 < s.size) (h1 : ((s[i + 1]'h).toNat : Int) < lo) : tailW s i need lo hi = 1 := by
  have := bt_at s (i + 1) h
  have e : bt s (i + 1) < lo := by omega
  simp [tailW, e]
theorem tailW_hi {s : ByteArray} {i need lo hi : Nat} (h : i + 1 < s.size) (h1 : (hi : Int) < ((s[i + 1]'h).toNat : Int)) : tailW s i need lo hi = 1 := by
  have := bt_at s (i + 1) h
  have e : hi < bt s (i + 1) := by omega
  simp [tailW, e]
theorem tailW_mid {s : ByteArray} {i need lo hi k : Nat} (h : i + k < s.size) (hk2 : 2 ≤ k) (hkn : k < need) (hn : need ≤ 4) (h1 : ((s[i + k]'h).toNat : Int) < 128 ∨ 191 < ((s[i + k]'h).toNat : Int)) : tailW s i need lo hi = 1 := by
  have := bt_at s (i + k) h
  unfold tailW
  split
  · rfl
  split
  · rfl
  split
  · rfl
  rename_i c
  obtain rfl | rfl : k = 2 ∨ k = 3 := by omega
  · exact absurd ⟨by omega, by omega⟩ c
  · rw [if_pos ⟨by omega, by omega⟩]
theorem tailW_full {s : ByteArray} {i need lo hi : Nat} (h : i + 1 < s.size) (c1 : ¬ s.size - i < need) (h1 : ¬ ((s[i + 1]'h).toNat : Int) < lo) (h2 : ¬ (hi : Int) < ((s[i + 1]'h).toNat : Int)) (hp : ∀ j, 2 ≤ j → j < need → 128 ≤ bt s (i + j) ∧ bt s (i + j) ≤ 191) : tailW s i need lo hi = need := by
  have := bt_at s (i + 1) h
  unfold tailW
  rw [if_neg c1, if_neg (by omega), if_neg, if_neg]
  · intro ⟨a, b⟩; have := hp 3 (by omega) (by omega); omega
  · intro ⟨a, b⟩; have := hp 2 (by omega) (by omega); omega

end Go.Proofs.Qxb6601900aMods
