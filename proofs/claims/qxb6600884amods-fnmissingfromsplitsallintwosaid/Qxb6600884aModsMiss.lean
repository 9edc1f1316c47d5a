import Derived.Test.Qxb6600884aModsSet
import Derived.Deep.LoopGhost
namespace Go.Proofs.Qxb6600884aMods
open Go.RowKit Go.Maps

/-- It returned a bool. -/
def IsBool (e : Ending) : Prop := ∃ b, e = .returned (.bool b)
theorem IsBool.of {e : Ending} (b : Bool) (h : e = .returned (.bool b)) : IsBool e := ⟨b, h⟩

/-- A slice of strings that is there: its elements. -/
structure IsStrs (w : World) (a : Option Addr) (n : Nat) (ss : List ByteArray) : Prop where
  len : ss.length = n
  small : n ≤ maxLen
  at' : ∀ i, i < n → ∃ b off, a = some ⟨b, off, none⟩
  cell : ∀ b off, a = some ⟨b, off, none⟩ → ∀ i, i < n → w.cell? ⟨b, off + i, none⟩ = some (.string (ss.getD i ByteArray.empty))
  short : ∀ i, (ss.getD i ByteArray.empty).size ≤ maxLen

set_option maxHeartbeats 1000000 in
theorem zzBytes_any (a : Option Addr) (n cap : Nat) (ss : List ByteArray) (w : World) (hs : IsStrs w a n ss) (hn : n ≤ 65536) :
    Calls Trym.prog 9 #[.slice a n cap] w fun e w' => (∃ r : Int, e = .returned (.int .i64 r) ∧ 0 ≤ r ∧ r ≤ 2097152) ∧ w' = w := by
  have HS : Hid (IsStrs w a n ss) := hs
  clear hs
  go_enter Trym.func9, Trym.ntmps9
  go_wp2
  go_loop [3, 4] (fun q i => ∃ (k : Nat) (r : Int), k ≤ n ∧ i = .int .i64 k ∧ q = .int .i64 r ∧ 0 ≤ r ∧ r ≤ 1048576) (fun _ i => n - (intOf i).toNat)
  case atStart => exact ⟨0, _, Nat.zero_le _, rfl, rfl, by omega, by omega⟩
  case round =>
    obtain ⟨k, r, hk, rfl, rfl, hr0, hr1⟩ := hrel
    by_cases hlt : k < n
    · obtain ⟨b, off, rfl⟩ := HS.out.at' k hlt
      have hx := HS.out.cell b off rfl k hlt
      have hz := HS.out.short k
      unfold maxLen at hz
      generalize ss.getD k ByteArray.empty = x at *
      go_wp2
      · go_ret
        exact ⟨⟨_, rfl, by omega, by omega⟩, rfl⟩
      · go_ret
        exact ⟨⟨_, rfl, by omega, by omega⟩, rfl⟩
      · go_round
        case rel => exact ⟨k + 1, r + x.size, by omega, by go_num, by go_num, by omega, by omega⟩
        case measure => simp [intOf]; omega
    · go_wp2
      go_ret
      exact ⟨⟨_, rfl, by omega, by omega⟩, rfl⟩
set_option maxHeartbeats 4000000 in
theorem zzBytes8_any (a0 : Option Addr) (n0 cap0 : Nat) (s0 : List ByteArray) (a1 : Option Addr) (n1 cap1 : Nat) (s1 : List ByteArray) (a2 : Option Addr) (n2 cap2 : Nat) (s2 : List ByteArray) (a3 : Option Addr) (n3 cap3 : Nat) (s3 : List ByteArray) (w : World) (h0 : IsStrs w a0 n0 s0) (h1 : IsStrs w a1 n1 s1) (h2 : IsStrs w a2 n2 s2) (h3 : IsStrs w a3 n3 s3) :
    Calls Trym.prog 8 #[.slice a0 n0 cap0, .slice a1 n1 cap1, .slice a2 n2 cap2, .slice a3 n3 cap3] w fun e w' => IsBool e ∧ w' = w := by
  have H0 : Hid (IsStrs w a0 n0 s0) := h0
  have l0 := h0.small
  unfold maxLen at l0
  clear h0
  have H1 : Hid (IsStrs w a1 n1 s1) := h1
  have l1 := h1.small
  unfold maxLen at l1
  clear h1
  have H2 : Hid (IsStrs w a2 n2 s2) := h2
  have l2 := h2.small
  unfold maxLen at l2
  clear h2
  have H3 : Hid (IsStrs w a3 n3 s3) := h3
  have l3 := h3.small
  unfold maxLen at l3
  clear h3
  go_enter Trym.func8, Trym.ntmps8
  go_wp2
  · go_ret
    exact ⟨IsBool.of _ rfl, rfl⟩
  go_loop [9, 10] (fun q i => ∃ (k : Nat) (r : Int), k ≤ n0 ∧ i = .int .i64 k ∧ q = .int .i64 r ∧ 0 ≤ r ∧ r ≤ 1048576) (fun _ i => n0 - (intOf i).toNat)
  case atStart => exact ⟨0, _, Nat.zero_le _, rfl, rfl, by omega, by omega⟩
  case round =>
    obtain ⟨k, r, hk, rfl, rfl, hr0, hr1⟩ := hrel
    by_cases hlt : k < n0
    · obtain ⟨b, off, rfl⟩ := H0.out.at' k hlt
      have hx := H0.out.cell b off rfl k hlt
      have hz := H0.out.short k
      unfold maxLen at hz
      generalize s0.getD k ByteArray.empty = x at *
      go_wp2
      · go_ret
        exact ⟨IsBool.of _ rfl, rfl⟩
      · go_ret
        exact ⟨IsBool.of _ rfl, rfl⟩
      · go_round
        case rel => exact ⟨k + 1, r + x.size, by omega, by go_num, by go_num, by omega, by omega⟩
        case measure => simp [intOf]; omega
    · go_wp2
      · go_ret
        exact ⟨IsBool.of _ rfl, rfl⟩
      · go_ret
        exact ⟨IsBool.of _ rfl, rfl⟩
      clear hlt hk
      go_loop [9, 11] (fun q i => ∃ (k : Nat) (r : Int), k ≤ n1 ∧ i = .int .i64 k ∧ q = .int .i64 r ∧ 0 ≤ r ∧ r ≤ 1048576) (fun _ i => n1 - (intOf i).toNat)
      case atStart => exact ⟨0, _, Nat.zero_le _, rfl, rfl, by omega, by omega⟩
      case round =>
        obtain ⟨k, r, hk, rfl, rfl, hr0, hr1⟩ := hrel
        by_cases hlt : k < n1
        · obtain ⟨b, off, rfl⟩ := H1.out.at' k hlt
          have hx := H1.out.cell b off rfl k hlt
          have hz := H1.out.short k
          unfold maxLen at hz
          generalize s1.getD k ByteArray.empty = x at *
          go_wp2
          · go_ret
            exact ⟨IsBool.of _ rfl, rfl⟩
          · go_ret
            exact ⟨IsBool.of _ rfl, rfl⟩
          · go_round
            case rel => exact ⟨k + 1, r + x.size, by omega, by go_num, by go_num, by omega, by omega⟩
            case measure => simp [intOf]; omega
        · go_wp2
          · go_ret
            exact ⟨IsBool.of _ rfl, rfl⟩
          · go_ret
            exact ⟨IsBool.of _ rfl, rfl⟩
          clear hlt hk
          go_loop [9, 12] (fun q i => ∃ (k : Nat) (r : Int), k ≤ n2 ∧ i = .int .i64 k ∧ q = .int .i64 r ∧ 0 ≤ r ∧ r ≤ 1048576) (fun _ i => n2 - (intOf i).toNat)
          case atStart => exact ⟨0, _, Nat.zero_le _, rfl, rfl, by omega, by omega⟩
          case round =>
            obtain ⟨k, r, hk, rfl, rfl, hr0, hr1⟩ := hrel
            by_cases hlt : k < n2
            · obtain ⟨b, off, rfl⟩ := H2.out.at' k hlt
              have hx := H2.out.cell b off rfl k hlt
              have hz := H2.out.short k
              unfold maxLen at hz
              generalize s2.getD k ByteArray.empty = x at *
              go_wp2
              · go_ret
                exact ⟨IsBool.of _ rfl, rfl⟩
              · go_ret
                exact ⟨IsBool.of _ rfl, rfl⟩
              · go_round
                case rel => exact ⟨k + 1, r + x.size, by omega, by go_num, by go_num, by omega, by omega⟩
                case measure => simp [intOf]; omega
            · go_wp2
              · go_ret
                exact ⟨IsBool.of _ rfl, rfl⟩
              · go_ret
                exact ⟨IsBool.of _ rfl, rfl⟩
              clear hlt hk
              go_loop [9, 13] (fun q i => ∃ (k : Nat) (r : Int), k ≤ n3 ∧ i = .int .i64 k ∧ q = .int .i64 r ∧ 0 ≤ r ∧ r ≤ 1048576) (fun _ i => n3 - (intOf i).toNat)
              case atStart => exact ⟨0, _, Nat.zero_le _, rfl, rfl, by omega, by omega⟩
              case round =>
                obtain ⟨k, r, hk, rfl, rfl, hr0, hr1⟩ := hrel
                by_cases hlt : k < n3
                · obtain ⟨b, off, rfl⟩ := H3.out.at' k hlt
                  have hx := H3.out.cell b off rfl k hlt
                  have hz := H3.out.short k
                  unfold maxLen at hz
                  generalize s3.getD k ByteArray.empty = x at *
                  go_wp2
                  · go_ret
                    exact ⟨IsBool.of _ rfl, rfl⟩
                  · go_ret
                    exact ⟨IsBool.of _ rfl, rfl⟩
                  · go_round
                    case rel => exact ⟨k + 1, r + x.size, by omega, by go_num, by go_num, by omega, by omega⟩
                    case measure => simp [intOf]; omega
                · go_wp2
                  go_ret
                  exact ⟨IsBool.of _ rfl, rfl⟩

end Go.Proofs.Qxb6600884aMods
