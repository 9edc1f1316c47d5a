import Derived.Test.Qxb6601900aModsPlain
import Derived.Test.Qxb6601900aModsWidthA
import Derived.Test.Qxb6601900aModsWidthB
namespace Go.Proofs.Qxb6601900aMods
open Go.RowKit

/-- Where code point number k begins. -/
def pos (s : ByteArray) : Nat → Nat
  | 0 => 0
  | k + 1 => if pos s k < s.size then pos s k + (Utf8.decode s (pos s k)).2 else pos s k

theorem dec_pos (s : ByteArray) (i : Nat) : 1 ≤ (Utf8.decode s i).2 := by
  rw [decode_decW]; unfold decW; repeat' split
  all_goals omega
theorem dec_in (s : ByteArray) (i : Nat) (h : i < s.size) : i + (Utf8.decode s i).2 ≤ s.size := by
  rw [decode_decW]; unfold decW; repeat' split
  all_goals omega
theorem pos_le (s : ByteArray) : ∀ k, pos s k ≤ s.size
  | 0 => Nat.zero_le _
  | k + 1 => by
    have := pos_le s k
    simp only [pos]
    split
    · exact dec_in s _ (by assumption)
    · exact this
theorem pos_succ (s : ByteArray) (k : Nat) (h : pos s k < s.size) : pos s (k + 1) = pos s k + (Utf8.decode s (pos s k)).2 := by
  simp [pos, h]
theorem pos_stay (s : ByteArray) (k : Nat) (h : ¬ pos s k < s.size) : pos s (k + 1) = pos s k := by
  simp [pos, h]
theorem pos_mono (s : ByteArray) (k : Nat) : pos s k ≤ pos s (k + 1) := by
  simp only [pos]; split <;> omega
theorem pos_mono' (s : ByteArray) (j : Nat) : ∀ d, pos s j ≤ pos s (j + d)
  | 0 => Nat.le_refl _
  | d + 1 => Nat.le_trans (pos_mono' s j d) (pos_mono s (j + d))
theorem pos_ge (s : ByteArray) : ∀ k, pos s k < s.size → k ≤ pos s k
  | 0, _ => Nat.zero_le _
  | k + 1, h => by
    by_cases hk : pos s k < s.size
    · have := pos_ge s k hk
      have h2 := dec_pos s (pos s k)
      rw [pos_succ s k hk]; omega
    · rw [pos_stay s k hk] at h; exact absurd h hk

theorem below_iter (w : World) (s : ByteArray) (p : Nat) : Below w.heap.size w (w.iter s p) := (Below.refl _ _).alloc (Nat.le_refl _) _

set_option maxHeartbeats 1000000 in
theorem cut_some (s : ByteArray) (m : Nat) (w : World) (hs : s.size ≤ 1048576) (hm : pos s m < s.size) :
    Calls Trym.prog 12 #[.string s, .int .i64 m] w fun e w' => e = .returned (.string (s.extract 0 (pos s m) ++ ⟨#[46, 46, 46]⟩)) ∧ Below w.heap.size w w' := by
  have hmm := pos_ge s m hm
  go_enter Trym.func12, Trym.ntmps12
  go_wp2
  go_loopw [5] (fun n w' => ∃ k : Nat, k ≤ m ∧ w' = w.iter s (pos s k) ∧ n = .int .i64 k) (fun _ w' => s.size - w'.iterPos w.heap.size)
  case atStart => exact ⟨0, Nat.zero_le _, rfl, rfl⟩
  case round =>
    obtain ⟨k, hk, rfl, rfl⟩ := hrel
    have hp : pos s k < s.size := by
      obtain ⟨d, rfl⟩ : ∃ d, m = k + d := ⟨m - k, by omega⟩
      exact Nat.lt_of_le_of_lt (pos_mono' s k d) hm
    have hnx : ∀ ty, (Instr.next (.pointer (some ⟨w.heap.size, 0, none⟩)) true ty).run Trym.prog (w.iter s (pos s k)) = _ := fun ty => run_next_any w s (pos s k) ty hp
    by_cases hkm : k = m
    · subst hkm
      go_wp2
      go_ret
      exact ⟨rfl, below_iter w s _⟩
    · have hne : ((k : Int) == (m : Int)) = false := by rw [beq_eq_false_iff_ne]; omega
      have hwd := dec_pos s (pos s k)
      have HS : Hid (pos s (k + 1) = pos s k + (Utf8.decode s (pos s k)).2) := pos_succ s k hp
      go_wp2
      go_roundw
      case rel => exact ⟨k + 1, by omega, by rw [HS.out], by go_num⟩
      case measure => simp; omega

set_option maxHeartbeats 1000000 in
theorem cut_none (s : ByteArray) (m : Int) (w : World) (hs : s.size ≤ 1048576) (hm : ∀ k : Nat, pos s k < s.size → (k : Int) ≠ m) :
    Calls Trym.prog 12 #[.string s, .int .i64 m] w fun e w' => e = .returned (.string s) ∧ Below w.heap.size w w' := by
  have HM : Hid (∀ k : Nat, pos s k < s.size → (k : Int) ≠ m) := hm
  clear hm
  go_enter Trym.func12, Trym.ntmps12
  go_wp2
  go_loopw [5] (fun n w' => ∃ k : Nat, (k = 0 ∨ pos s (k - 1) < s.size) ∧ w' = w.iter s (pos s k) ∧ n = .int .i64 k) (fun _ w' => s.size - w'.iterPos w.heap.size)
  case atStart => exact ⟨0, .inl rfl, rfl, rfl⟩
  case round =>
    obtain ⟨k, hk, rfl, rfl⟩ := hrel
    by_cases hp : pos s k < s.size
    · have hnx : ∀ ty, (Instr.next (.pointer (some ⟨w.heap.size, 0, none⟩)) true ty).run Trym.prog (w.iter s (pos s k)) = _ := fun ty => run_next_any w s (pos s k) ty hp
      have hne : ((k : Int) == m) = false := by rw [beq_eq_false_iff_ne]; exact HM.out k hp
      have hwd := dec_pos s (pos s k)
      have hkk := pos_ge s k hp
      have HS : Hid (pos s (k + 1) = pos s k + (Utf8.decode s (pos s k)).2) := pos_succ s k hp
      clear hk
      go_wp2
      go_roundw
      case rel => exact ⟨k + 1, .inr (by simpa using hp), by rw [HS.out], by go_num⟩
      case measure => simp; omega
    · have hnx : ∀ ty, (Instr.next (.pointer (some ⟨w.heap.size, 0, none⟩)) true ty).run Trym.prog (w.iter s (pos s k)) = _ := fun ty => run_next_end w s (pos s k) ty hp
      clear hk
      go_wp2
      go_ret
      exact ⟨rfl, below_iter w s _⟩

theorem width_any (s : ByteArray) (i : Int) (w : World) (h0 : 0 ≤ i) (hi : i < s.size) (hs : s.size ≤ 1048576) :
    Calls Trym.prog 13 #[.string s, .int .i64 i] w fun e w' => e = .returned (.int .i64 (Utf8.decode s i.toNat).2) ∧ w' = w := by
  obtain ⟨n, rfl⟩ := Int.eq_ofNat_of_zero_le h0
  rw [Int.toNat_natCast]
  have hn : n < s.size := by omega
  have hb := bt_at s n hn
  by_cases c1 : bt s n < 128
  · rw [← class_1 s n (by omega)]; exact widthA s n w hn (by omega)
  by_cases c2 : bt s n ≤ 193
  · rw [← class_1 s n (by omega)]; exact widthX s n w hn (by omega) (by omega)
  by_cases c3 : 245 ≤ bt s n
  · rw [← class_1 s n (by omega)]; exact widthY s n w hn (by omega)
  by_cases c4 : bt s n ≤ 223
  · rw [← class_C2 s n (by omega) (by omega)]; exact widthC2 s n w hn hs (by omega) (by omega)
  by_cases c5 : bt s n = 224
  · rw [← class_3 s n 160 191 (by omega) (by omega) (by omega) (by omega) (by omega) (by omega) (by omega) (by omega)]; exact widthE0 s n w hn hs (by omega) (by omega)
  by_cases c6 : bt s n = 237
  · rw [← class_3 s n 128 159 (by omega) (by omega) (by omega) (by omega) (by omega) (by omega) (by omega) (by omega)]; exact widthED s n w hn hs (by omega) (by omega)
  by_cases c7 : bt s n ≤ 236
  · rw [← class_3 s n 128 191 (by omega) (by omega) (by omega) (by omega) (by omega) (by omega) (by omega) (by omega)]; exact widthEL s n w hn hs (by omega) (by omega)
  by_cases c8 : bt s n ≤ 239
  · rw [← class_3 s n 128 191 (by omega) (by omega) (by omega) (by omega) (by omega) (by omega) (by omega) (by omega)]; exact widthEH s n w hn hs (by omega) (by omega)
  by_cases c9 : bt s n = 240
  · rw [← class_4 s n 144 191 (by omega) (by omega) (by omega) (by omega) (by omega) (by omega) (by omega) (by omega)]; exact widthF0 s n w hn hs (by omega) (by omega)
  by_cases c10 : bt s n = 244
  · rw [← class_4 s n 128 143 (by omega) (by omega) (by omega) (by omega) (by omega) (by omega) (by omega) (by omega)]; exact widthF4 s n w hn hs (by omega) (by omega)
  · rw [← class_4 s n 128 191 (by omega) (by omega) (by omega) (by omega) (by omega) (by omega) (by omega) (by omega)]; exact widthF1 s n w hn hs (by omega) (by omega)

set_option maxHeartbeats 1000000 in
theorem count_any (s : ByteArray) (w : World) (hs : s.size ≤ 1048576) :
    Calls Trym.prog 8 #[.string s] w fun e w' => (∃ c : Nat, e = .returned (.int .i64 c) ∧ (∀ j, j < c → pos s j < s.size) ∧ s.size ≤ pos s c) ∧ w' = w := by
  go_enter Trym.func8, Trym.ntmps8
  go_wp2
  go_loop [3, 4] (fun n i => ∃ k : Nat, n = .int .i64 k ∧ i = .int .i64 (pos s k) ∧ ∀ j, j < k → pos s j < s.size) (fun _ i => s.size - (intOf i).toNat)
  case atStart => exact ⟨0, rfl, rfl, by intro j hj; omega⟩
  case round =>
    obtain ⟨k, rfl, rfl, hj⟩ := hrel
    have HJ : Hid (∀ j, j < k → pos s j < s.size) := hj
    clear hj
    by_cases hp : pos s k < s.size
    · have hwd := dec_pos s (pos s k)
      have hwi := dec_in s (pos s k) hp
      have hkk := pos_ge s k hp
      have HS : Hid (pos s (k + 1) = pos s k + (Utf8.decode s (pos s k)).2) := pos_succ s k hp
      go_wp2_with fail
      refine (width_any s _ _ (by omega) (by omega) hs).mono ?_
      rintro e w2 ⟨rfl, rfl⟩
      rw [Int.toNat_natCast]
      go_wp2
      go_round
      case rel =>
        refine ⟨k + 1, by go_num, by rw [HS.out]; go_num, fun j hj => ?_⟩
        by_cases e : j = k
        · subst e; exact hp
        · exact HJ.out j (by omega)
      case measure => simp [intOf]; omega
    · go_wp2
      go_ret
      exact ⟨⟨k, rfl, HJ.out, by omega⟩, rfl⟩

set_option maxHeartbeats 1000000 in
theorem offset_any (s : ByteArray) (m : Nat) (w : World) (hs : s.size ≤ 1048576) (hm : pos s m < s.size) :
    Calls Trym.prog 9 #[.string s, .int .i64 m] w fun e w' => e = .returned (.int .i64 (pos s m)) ∧ w' = w := by
  have hmm := pos_ge s m hm
  have HM : Hid (∀ k, k ≤ m → pos s k < s.size) := fun k hk => by
    obtain ⟨d, rfl⟩ : ∃ d, m = k + d := ⟨m - k, by omega⟩
    exact Nat.lt_of_le_of_lt (pos_mono' s k d) hm
  go_enter Trym.func9, Trym.ntmps9
  go_wp2
  go_loop [5, 6] (fun i n => ∃ k : Nat, k ≤ m ∧ n = .int .i64 k ∧ i = .int .i64 (pos s k)) (fun _ n => m - (intOf n).toNat)
  case atStart => exact ⟨0, Nat.zero_le _, rfl, rfl⟩
  case round =>
    obtain ⟨k, hk, rfl, rfl⟩ := hrel
    have hp := HM.out k hk
    by_cases hlt : k < m
    · have hwd := dec_pos s (pos s k)
      have hwi := dec_in s (pos s k) hp
      have HS : Hid (pos s (k + 1) = pos s k + (Utf8.decode s (pos s k)).2) := pos_succ s k hp
      go_wp2_with fail
      refine (width_any s _ _ (by omega) (by omega) hs).mono ?_
      rintro e w2 ⟨rfl, rfl⟩
      rw [Int.toNat_natCast]
      go_wp2
      go_round
      case rel => exact ⟨k + 1, by omega, by go_num, by rw [HS.out]; go_num⟩
      case measure => simp [intOf]; omega
    · obtain rfl : k = m := by omega
      go_wp2
      go_ret
      exact ⟨rfl, rfl⟩

set_option maxHeartbeats 400000 in
theorem zzcut_some (s : ByteArray) (m : Nat) (w : World) (hs : s.size ≤ 1048576) (hm : pos s m < s.size) :
    Calls Trym.prog 7 #[.string s, .int .i64 m] w fun e w' => e = .returned (.string (s.extract 0 (pos s m) ++ ⟨#[46, 46, 46]⟩)) ∧ Below w.heap.size w w' := by
  go_enter Trym.func7, Trym.ntmps7
  go_wp2_with fail
  refine (cut_some s m w hs hm).mono ?_
  rintro e w1 ⟨rfl, hb⟩
  go_wp2
  go_ret
  exact ⟨rfl, hb⟩
set_option maxHeartbeats 400000 in
theorem zzcut_none (s : ByteArray) (m : Int) (w : World) (hs : s.size ≤ 1048576) (hm : ∀ k : Nat, pos s k < s.size → (k : Int) ≠ m) :
    Calls Trym.prog 7 #[.string s, .int .i64 m] w fun e w' => e = .returned (.string s) ∧ Below w.heap.size w w' := by
  have HM : Hid (∀ k : Nat, pos s k < s.size → (k : Int) ≠ m) := hm
  clear hm
  go_enter Trym.func7, Trym.ntmps7
  go_wp2_with fail
  refine (cut_none s m w hs HM.out).mono ?_
  rintro e w1 ⟨rfl, hb⟩
  go_wp2
  go_ret
  exact ⟨rfl, hb⟩

set_option maxHeartbeats 400000 in
theorem bytes6_any (s : ByteArray) (m : Int) (w : World) (hs : s.size ≤ maxLen) :
    Calls Trym.prog 6 #[.string s, .int .i64 m] w fun e w' => (∃ b, e = .returned (.bool b) ∧ (b = true → s.size ≤ 1048576)) ∧ w' = w := by
  unfold maxLen at hs
  go_enter Trym.func6, Trym.ntmps6
  go_wp2
  all_goals go_ret
  all_goals refine ⟨⟨_, rfl, ?_⟩, rfl⟩
  all_goals first | (intro h; cases h; done) | (intro _; omega)

set_option maxHeartbeats 1000000 in
theorem law (s : ByteArray) (m : Int) (w : World) (hs : s.size ≤ maxLen) :
    Calls Trym.prog 3 #[.string s, .int .i64 m] w fun e w' => e = .returned (.bool true) ∧ Below w.heap.size w w' := by
  go_enter Trym.func3, Trym.ntmps3
  go_wp2_with fail
  refine (bytes6_any s m w hs).mono ?_
  rintro e w1 ⟨⟨b, rfl, hb⟩, rfl⟩
  cases b
  · clear hb
    go_wp2
    go_ret
    exact ⟨rfl, Below.refl _ _⟩
  replace hb := hb rfl
  by_cases hm : ∃ k : Nat, pos s k < s.size ∧ (k : Int) = m
  · obtain ⟨k, hk, rfl⟩ := hm
    have hkk := pos_ge s k hk
    go_wp2_with fail
    refine (zzcut_some s k _ hb hk).mono ?_
    rintro e w2 ⟨rfl, hB⟩
    go_wp2_with fail
    refine (count_any s _ hb).mono ?_
    rintro e w3 ⟨⟨c, rfl, hc1, hc2⟩, rfl⟩
    have hkc : k < c := by
      rcases Nat.lt_or_ge k c with h | h
      · exact h
      · obtain ⟨d, rfl⟩ : ∃ d, k = c + d := ⟨k - c, by omega⟩
        have := Nat.lt_of_le_of_lt (pos_mono' s c d) hk; omega
    clear hc1 hc2
    go_wp2_with fail
    refine (offset_any s k _ hb hk).mono ?_
    rintro e w4 ⟨rfl, rfl⟩
    go_wp2
    go_ret
    exact ⟨rfl, hB⟩
  · have HM : Hid (∀ k : Nat, pos s k < s.size → (k : Int) ≠ m) := fun k hk e => hm ⟨k, hk, e⟩
    clear hm
    go_wp2_with fail
    refine (zzcut_none s m _ hb HM.out).mono ?_
    rintro e w2 ⟨rfl, hB⟩
    go_wp2_with fail
    refine (count_any s _ hb).mono ?_
    rintro e w3 ⟨⟨c, rfl, hc1, hc2⟩, rfl⟩
    have hcm : m < 0 ∨ (c : Int) ≤ m := by
      rcases Int.lt_or_le m 0 with h | h
      · exact .inl h
      · right
        rcases Int.lt_or_le m c with h2 | h2
        · obtain ⟨k, rfl⟩ := Int.eq_ofNat_of_zero_le h
          exact absurd rfl (HM.out k (hc1 k (by omega)))
        · exact h2
    clear hc1 hc2 HM
    rcases hcm with h | h
    · go_wp2
      go_ret
      exact ⟨rfl, hB⟩
    · by_cases h0 : m < 0
      · omega
      · go_wp2
        go_ret
        exact ⟨rfl, hB⟩

end Go.Proofs.Qxb6601900aMods
