import Derived.Test.Qxb6601900aModsWidth
namespace Go.Proofs.Qxb6601900aMods
open Go.RowKit

set_option maxHeartbeats 2000000 in
set_option maxRecDepth 100000 in
theorem widthC2 (s : ByteArray) (i : Nat) (w : World) (hi : i < s.size) (hs : s.size ≤ 1048576) (h1 : 194 ≤ (s[i].toNat : Int)) (h2 : (s[i].toNat : Int) ≤ 223) :
    Calls Trym.prog 13 #[.string s, .int .i64 i] w fun e w' => e = .returned (.int .i64 (tailW s i 2 128 191)) ∧ w' = w := by
  by_cases c1 : s.size - i < 2
  · have T : Hid (tailW s i 2 128 191 = 1) := tailW_short c1
    go_enter Trym.func13, Trym.ntmps13
    go_wp2
    go_ret
    exact ⟨ret_int (by rw [T.out]; rfl), rfl⟩
  have b1 : i + 1 < s.size := by omega
  by_cases c2 : (s[i + 1].toNat : Int) < 128
  · have T : Hid (tailW s i 2 128 191 = 1) := tailW_lo b1 c2
    go_enter Trym.func13, Trym.ntmps13
    go_wp2
    go_ret
    exact ⟨ret_int (by rw [T.out]; rfl), rfl⟩
  by_cases c3 : 191 < (s[i + 1].toNat : Int)
  · have T : Hid (tailW s i 2 128 191 = 1) := tailW_hi b1 c3
    go_enter Trym.func13, Trym.ntmps13
    go_wp2
    go_ret
    exact ⟨ret_int (by rw [T.out]; rfl), rfl⟩
  have T : Hid ((∀ j, 2 ≤ j → j < 2 → 128 ≤ bt s (i + j) ∧ bt s (i + j) ≤ 191) → tailW s i 2 128 191 = 2) := tailW_full b1 c1 c2 c3
  go_enter Trym.func13, Trym.ntmps13
  go_wp2
  go_loop [9] (fun v => ∃ k : Nat, 2 ≤ k ∧ k ≤ 2 ∧ v = .int .i64 k ∧ ∀ j, 2 ≤ j → j < k → 128 ≤ bt s (i + j) ∧ bt s (i + j) ≤ 191) (fun v => 2 - (intOf v).toNat)
  case atStart => exact ⟨2, by omega, by omega, rfl, by intro j h1 h2; omega⟩
  case round =>
    obtain ⟨k, hk2, hkn, rfl, hp⟩ := hrel
    have HP := (show Hid (∀ j, 2 ≤ j → j < k → 128 ≤ bt s (i + j) ∧ bt s (i + j) ≤ 191) from hp)
    clear hp
    have hlt : ¬ k < 2 := by omega
    obtain rfl : k = 2 := by omega
    go_wp2
    go_ret
    exact ⟨ret_int (by rw [T.out HP.out]; rfl), rfl⟩

set_option maxHeartbeats 2000000 in
set_option maxRecDepth 100000 in
theorem widthE0 (s : ByteArray) (i : Nat) (w : World) (hi : i < s.size) (hs : s.size ≤ 1048576) (h1 : 224 ≤ (s[i].toNat : Int)) (h2 : (s[i].toNat : Int) ≤ 224) :
    Calls Trym.prog 13 #[.string s, .int .i64 i] w fun e w' => e = .returned (.int .i64 (tailW s i 3 160 191)) ∧ w' = w := by
  by_cases c1 : s.size - i < 3
  · have T : Hid (tailW s i 3 160 191 = 1) := tailW_short c1
    go_enter Trym.func13, Trym.ntmps13
    go_wp2
    go_ret
    exact ⟨ret_int (by rw [T.out]; rfl), rfl⟩
  have b1 : i + 1 < s.size := by omega
  by_cases c2 : (s[i + 1].toNat : Int) < 160
  · have T : Hid (tailW s i 3 160 191 = 1) := tailW_lo b1 c2
    go_enter Trym.func13, Trym.ntmps13
    go_wp2
    go_ret
    exact ⟨ret_int (by rw [T.out]; rfl), rfl⟩
  by_cases c3 : 191 < (s[i + 1].toNat : Int)
  · have T : Hid (tailW s i 3 160 191 = 1) := tailW_hi b1 c3
    go_enter Trym.func13, Trym.ntmps13
    go_wp2
    go_ret
    exact ⟨ret_int (by rw [T.out]; rfl), rfl⟩
  have T : Hid ((∀ j, 2 ≤ j → j < 3 → 128 ≤ bt s (i + j) ∧ bt s (i + j) ≤ 191) → tailW s i 3 160 191 = 3) := tailW_full b1 c1 c2 c3
  go_enter Trym.func13, Trym.ntmps13
  go_wp2
  go_loop [9] (fun v => ∃ k : Nat, 2 ≤ k ∧ k ≤ 3 ∧ v = .int .i64 k ∧ ∀ j, 2 ≤ j → j < k → 128 ≤ bt s (i + j) ∧ bt s (i + j) ≤ 191) (fun v => 3 - (intOf v).toNat)
  case atStart => exact ⟨2, by omega, by omega, rfl, by intro j h1 h2; omega⟩
  case round =>
    obtain ⟨k, hk2, hkn, rfl, hp⟩ := hrel
    have HP := (show Hid (∀ j, 2 ≤ j → j < k → 128 ≤ bt s (i + j) ∧ bt s (i + j) ≤ 191) from hp)
    clear hp
    by_cases hlt : k < 3
    · have hx : i + k < s.size := by omega
      by_cases d1 : (s[i + k].toNat : Int) < 128
      · have T2 : Hid (tailW s i 3 160 191 = 1) := tailW_mid hx hk2 hlt (by omega) (.inl d1)
        go_wp2
        go_ret
        exact ⟨ret_int (by rw [T2.out]; rfl), rfl⟩
      by_cases d2 : 191 < (s[i + k].toNat : Int)
      · have T2 : Hid (tailW s i 3 160 191 = 1) := tailW_mid hx hk2 hlt (by omega) (.inr d2)
        go_wp2
        go_ret
        exact ⟨ret_int (by rw [T2.out]; rfl), rfl⟩
      have hb := bt_at s (i + k) hx
      have HB : Hid (128 ≤ bt s (i + k) ∧ bt s (i + k) ≤ 191) := ⟨by omega, by omega⟩
      clear hb
      go_wp2
      go_round
      case rel =>
        refine ⟨k + 1, by omega, by omega, by go_num, fun j h1 h2 => ?_⟩
        by_cases e : j = k
        · subst e; exact HB.out
        · exact HP.out j h1 (by omega)
      case measure => simp [intOf]; omega
    · obtain rfl : k = 3 := by omega
      go_wp2
      go_ret
      exact ⟨ret_int (by rw [T.out HP.out]; rfl), rfl⟩

set_option maxHeartbeats 2000000 in
set_option maxRecDepth 100000 in
theorem widthED (s : ByteArray) (i : Nat) (w : World) (hi : i < s.size) (hs : s.size ≤ 1048576) (h1 : 237 ≤ (s[i].toNat : Int)) (h2 : (s[i].toNat : Int) ≤ 237) :
    Calls Trym.prog 13 #[.string s, .int .i64 i] w fun e w' => e = .returned (.int .i64 (tailW s i 3 128 159)) ∧ w' = w := by
  by_cases c1 : s.size - i < 3
  · have T : Hid (tailW s i 3 128 159 = 1) := tailW_short c1
    go_enter Trym.func13, Trym.ntmps13
    go_wp2
    go_ret
    exact ⟨ret_int (by rw [T.out]; rfl), rfl⟩
  have b1 : i + 1 < s.size := by omega
  by_cases c2 : (s[i + 1].toNat : Int) < 128
  · have T : Hid (tailW s i 3 128 159 = 1) := tailW_lo b1 c2
    go_enter Trym.func13, Trym.ntmps13
    go_wp2
    go_ret
    exact ⟨ret_int (by rw [T.out]; rfl), rfl⟩
  by_cases c3 : 159 < (s[i + 1].toNat : Int)
  · have T : Hid (tailW s i 3 128 159 = 1) := tailW_hi b1 c3
    go_enter Trym.func13, Trym.ntmps13
    go_wp2
    go_ret
    exact ⟨ret_int (by rw [T.out]; rfl), rfl⟩
  have T : Hid ((∀ j, 2 ≤ j → j < 3 → 128 ≤ bt s (i + j) ∧ bt s (i + j) ≤ 191) → tailW s i 3 128 159 = 3) := tailW_full b1 c1 c2 c3
  go_enter Trym.func13, Trym.ntmps13
  go_wp2
  go_loop [9] (fun v => ∃ k : Nat, 2 ≤ k ∧ k ≤ 3 ∧ v = .int .i64 k ∧ ∀ j, 2 ≤ j → j < k → 128 ≤ bt s (i + j) ∧ bt s (i + j) ≤ 191) (fun v => 3 - (intOf v).toNat)
  case atStart => exact ⟨2, by omega, by omega, rfl, by intro j h1 h2; omega⟩
  case round =>
    obtain ⟨k, hk2, hkn, rfl, hp⟩ := hrel
    have HP := (show Hid (∀ j, 2 ≤ j → j < k → 128 ≤ bt s (i + j) ∧ bt s (i + j) ≤ 191) from hp)
    clear hp
    by_cases hlt : k < 3
    · have hx : i + k < s.size := by omega
      by_cases d1 : (s[i + k].toNat : Int) < 128
      · have T2 : Hid (tailW s i 3 128 159 = 1) := tailW_mid hx hk2 hlt (by omega) (.inl d1)
        go_wp2
        go_ret
        exact ⟨ret_int (by rw [T2.out]; rfl), rfl⟩
      by_cases d2 : 191 < (s[i + k].toNat : Int)
      · have T2 : Hid (tailW s i 3 128 159 = 1) := tailW_mid hx hk2 hlt (by omega) (.inr d2)
        go_wp2
        go_ret
        exact ⟨ret_int (by rw [T2.out]; rfl), rfl⟩
      have hb := bt_at s (i + k) hx
      have HB : Hid (128 ≤ bt s (i + k) ∧ bt s (i + k) ≤ 191) := ⟨by omega, by omega⟩
      clear hb
      go_wp2
      go_round
      case rel =>
        refine ⟨k + 1, by omega, by omega, by go_num, fun j h1 h2 => ?_⟩
        by_cases e : j = k
        · subst e; exact HB.out
        · exact HP.out j h1 (by omega)
      case measure => simp [intOf]; omega
    · obtain rfl : k = 3 := by omega
      go_wp2
      go_ret
      exact ⟨ret_int (by rw [T.out HP.out]; rfl), rfl⟩

set_option maxHeartbeats 2000000 in
set_option maxRecDepth 100000 in
theorem widthEL (s : ByteArray) (i : Nat) (w : World) (hi : i < s.size) (hs : s.size ≤ 1048576) (h1 : 225 ≤ (s[i].toNat : Int)) (h2 : (s[i].toNat : Int) ≤ 236) :
    Calls Trym.prog 13 #[.string s, .int .i64 i] w fun e w' => e = .returned (.int .i64 (tailW s i 3 128 191)) ∧ w' = w := by
  by_cases c1 : s.size - i < 3
  · have T : Hid (tailW s i 3 128 191 = 1) := tailW_short c1
    go_enter Trym.func13, Trym.ntmps13
    go_wp2
    go_ret
    exact ⟨ret_int (by rw [T.out]; rfl), rfl⟩
  have b1 : i + 1 < s.size := by omega
  by_cases c2 : (s[i + 1].toNat : Int) < 128
  · have T : Hid (tailW s i 3 128 191 = 1) := tailW_lo b1 c2
    go_enter Trym.func13, Trym.ntmps13
    go_wp2
    go_ret
    exact ⟨ret_int (by rw [T.out]; rfl), rfl⟩
  by_cases c3 : 191 < (s[i + 1].toNat : Int)
  · have T : Hid (tailW s i 3 128 191 = 1) := tailW_hi b1 c3
    go_enter Trym.func13, Trym.ntmps13
    go_wp2
    go_ret
    exact ⟨ret_int (by rw [T.out]; rfl), rfl⟩
  have T : Hid ((∀ j, 2 ≤ j → j < 3 → 128 ≤ bt s (i + j) ∧ bt s (i + j) ≤ 191) → tailW s i 3 128 191 = 3) := tailW_full b1 c1 c2 c3
  go_enter Trym.func13, Trym.ntmps13
  go_wp2
  go_loop [9] (fun v => ∃ k : Nat, 2 ≤ k ∧ k ≤ 3 ∧ v = .int .i64 k ∧ ∀ j, 2 ≤ j → j < k → 128 ≤ bt s (i + j) ∧ bt s (i + j) ≤ 191) (fun v => 3 - (intOf v).toNat)
  case atStart => exact ⟨2, by omega, by omega, rfl, by intro j h1 h2; omega⟩
  case round =>
    obtain ⟨k, hk2, hkn, rfl, hp⟩ := hrel
    have HP := (show Hid (∀ j, 2 ≤ j → j < k → 128 ≤ bt s (i + j) ∧ bt s (i + j) ≤ 191) from hp)
    clear hp
    by_cases hlt : k < 3
    · have hx : i + k < s.size := by omega
      by_cases d1 : (s[i + k].toNat : Int) < 128
      · have T2 : Hid (tailW s i 3 128 191 = 1) := tailW_mid hx hk2 hlt (by omega) (.inl d1)
        go_wp2
        go_ret
        exact ⟨ret_int (by rw [T2.out]; rfl), rfl⟩
      by_cases d2 : 191 < (s[i + k].toNat : Int)
      · have T2 : Hid (tailW s i 3 128 191 = 1) := tailW_mid hx hk2 hlt (by omega) (.inr d2)
        go_wp2
        go_ret
        exact ⟨ret_int (by rw [T2.out]; rfl), rfl⟩
      have hb := bt_at s (i + k) hx
      have HB : Hid (128 ≤ bt s (i + k) ∧ bt s (i + k) ≤ 191) := ⟨by omega, by omega⟩
      clear hb
      go_wp2
      go_round
      case rel =>
        refine ⟨k + 1, by omega, by omega, by go_num, fun j h1 h2 => ?_⟩
        by_cases e : j = k
        · subst e; exact HB.out
        · exact HP.out j h1 (by omega)
      case measure => simp [intOf]; omega
    · obtain rfl : k = 3 := by omega
      go_wp2
      go_ret
      exact ⟨ret_int (by rw [T.out HP.out]; rfl), rfl⟩

end Go.Proofs.Qxb6601900aMods
