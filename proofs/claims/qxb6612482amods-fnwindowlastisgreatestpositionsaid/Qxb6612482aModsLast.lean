import Derived.Test.Qxb6612482aModsWin
namespace Go.Proofs.Qxb6612482aMods
open Go.RowKit

/-- Position of row j. -/
def posAt (rs : List WRow) (j : Nat) : Int := (rs.getD j row0).pos
theorem posAt_of {rs : List WRow} {j : Nat} {r : WRow} (h : rs[j]? = some r) : posAt rs j = r.pos := by simp [posAt, List.getD_eq_getElem?_getD, h]

theorem asc_lt {rs : List WRow} {n : Nat} (h : ∀ i, 1 ≤ i → i < n → posAt rs (i - 1) < posAt rs i) (a d : Nat) : a + (d + 1) < n → posAt rs a < posAt rs (a + (d + 1)) := by
  induction d with
  | zero =>
    intro hd
    have := h (a + 1) (by omega) hd
    rwa [Nat.add_sub_cancel] at this
  | succ d ih =>
    intro hd
    have h1 := ih (by omega)
    have h2 := h (a + (d + 1 + 1)) (by omega) hd
    rw [show a + (d + 1 + 1) - 1 = a + (d + 1) from by omega] at h2
    omega

theorem IsRows.posCell {w : World} {a : Option Addr} {n : Nat} {rs : List WRow} (h : IsRows w a n rs) {i : Nat} (hi : i < n) {b off : Nat} (ha : a = some ⟨b, off, none⟩) : w.cell? ⟨b, off + i * 5 + 1, none⟩ = some (.int .i64 (posAt rs i)) := by
  obtain ⟨r, hr⟩ := h.get hi
  rw [posAt_of hr]
  exact (h.cell b off ha i r hr).2.1

set_option maxHeartbeats 4000000 in
theorem law3 (x : Int) (a : Option Addr) (n cap : Nat) (rs : List WRow) (a1 : Option Addr) (n1 cap1 : Nat) (z1 : List Int) (a2 : Option Addr) (n2 cap2 : Nat) (z2 : List Int) (w : World) (h : IsRows w a n rs) (h1 : IsInts w a1 n1 z1) (h2 : IsInts w a2 n2 z2) :
    Calls Trym.prog 3 #[.int .i64 x, .slice a n cap, .slice a1 n1 cap1, .slice a2 n2 cap2] w fun e w' => e = .returned (.bool true) ∧ Below w.heap.size w w' := by
  have H := hide h
  have H1 := hide h1
  have H2 := hide h2
  have l0 := h.small
  have l1 := h1.small
  have l2 := h2.small
  clear h h1 h2
  go_enter Trym.func3, Trym.ntmps3
  go_wp2_with fail
  refine (bytes6_any x a n cap rs a1 n1 cap1 a2 n2 cap2 _ (unhide H) l1 l2).mono ?_
  rintro e w1 ⟨⟨b, rfl⟩, rfl⟩
  cases b
  · go_wp2
    go_ret
    exact ⟨rfl, Below.refl _ _⟩
  go_wp2_with fail
  refine (windowBytes_any a n cap rs a1 n1 cap1 a2 n2 cap2 _ (unhide H) l1 l2).mono ?_
  rintro e w2 ⟨⟨q, rfl, q0, q1, hq⟩, hB⟩
  by_cases hq2 : q ≤ 1048576
  · obtain ⟨b0, b1, b2⟩ := hq hq2
    clear hq
    by_cases hn0 : n = 0
    · subst hn0
      go_wp2
      go_ret
      exact ⟨rfl, hB⟩
    unfold maxLen at l0 l1 l2
    have hne : ((n : Int) == 0) = false := by rw [beq_eq_false_iff_ne]; omega
    go_wp2_with fail
    go_loopw [9] (fun i wr => ∃ k : Nat, 1 ≤ k ∧ k ≤ n ∧ i = .int .i64 k ∧ (∀ i, 1 ≤ i → i < k → posAt rs (i - 1) < posAt rs i) ∧ Below w1.heap.size w1 wr) (fun i _ => n - (intOf i).toNat)
    case atStart => exact ⟨1, by omega, by omega, rfl, by intro i h1 h2; omega, hB⟩
    case round =>
      clear hB
      obtain ⟨k, hk1, hk, rfl, hp, hB⟩ := hrel
      have HP := hide hp
      clear hp
      by_cases hlt : k < n
      · obtain ⟨b, off, rfl⟩ := (unhide H).at' k hlt
        have hx := ((unhide H).below hB).posCell hlt rfl
        have hy := ((unhide H).below hB).posCell (i := k - 1) (by omega) rfl
        generalize hxe : posAt rs k = u at *
        generalize hye : posAt rs (k - 1) = v at *
        have HX := hide hxe
        have HY := hide hye
        clear hxe hye
        obtain ⟨k, rfl⟩ : ∃ j, k = j + 1 := ⟨k - 1, by omega⟩
        rw [Nat.add_sub_cancel] at hy HY
        have g1 : (0 : Int) ≤ (k : Int) + 1 := by omega
        have g2 : (k : Int) + 1 < (n : Int) := by omega
        have g3 : (0 : Int) ≤ (k : Int) + 1 - 1 := by omega
        have g4 : (k : Int) + 1 - 1 < (n : Int) := by omega
        go_wp2_with fail
        go_quiet (fail)
        by_cases hle : u ≤ v
        · go_wp2
          go_ret
          exact ⟨rfl, below_drewN hB _⟩
        · go_wp2
          go_roundw
          case rel =>
            refine ⟨k + 1 + 1, by omega, by omega, by go_num, fun i h1 h2 => ?_, below_drewN hB _⟩
            by_cases e : i = k + 1
            · subst e
              rw [Nat.add_sub_cancel, unhide HX, unhide HY]
              omega
            · exact unhide HP i h1 (by omega)
          case measure => simp [intOf]; omega
      · obtain rfl : k = n := by omega
        have HA := hide (fun j (hj : j < k - 1) => (show posAt rs j < posAt rs (k - 1) by have := asc_lt (unhide HP) j (k - 1 - j - 1) (by omega); rwa [show j + (k - 1 - j - 1 + 1) = k - 1 from by omega] at this))
        go_wp2_with fail
        refine (clone8_any a1 n1 cap1 z1 _ ((unhide H1).below hB) (by omega)).mono ?_
        rintro e w3 ⟨a1', cap1', rfl, hi1, hB3⟩
        replace hB3 := below_next hB hB3
        clear hi1 hB
        go_wp2_with fail
        refine (clone9_any a2 n2 cap2 z2 _ ((unhide H2).below hB3) (by omega)).mono ?_
        rintro e w4 ⟨a2', cap2', rfl, hi2, hB4⟩
        replace hB4 := below_next hB3 hB4
        clear hi2 hB3
        go_wp2_with fail
        refine (lastOf_any x a k cap rs a1' a2' n1 cap1' n2 cap2' _ ((unhide H).below hB4) (by omega) b0).mono ?_
        rintro e w5 ⟨rfl, hB5⟩
        replace hB5 := below_next hB4 hB5
        rw [show (rs.getD (k - 1) row0).pos = posAt rs (k - 1) from rfl]
        clear hB4
        obtain ⟨b, off, rfl⟩ := (unhide H).at' 0 (by omega)
        have hx := ((unhide H).below hB5).posCell (i := 0) (by omega) rfl
        rw [Nat.zero_mul, Nat.add_zero] at hx
        have H5 := hide ((unhide H).below hB5)
        go_wp2_with fail
        go_loop [11, 12] (fun q i => ∃ j : Nat, 1 ≤ j ∧ j ≤ k ∧ i = .int .i64 j ∧ q = .int .i64 (posAt rs (j - 1))) (fun _ i => k - (intOf i).toNat)
        case atStart => exact ⟨1, by omega, by omega, rfl, rfl⟩
        case round =>
          clear hx
          obtain ⟨j, hj1, hjk, rfl, rfl⟩ := hrel
          by_cases hlt2 : j < k
          · have hx := (unhide H5).posCell hlt2 rfl
            have hgt := unhide HP j hj1 hlt2
            generalize hue : posAt rs (j - 1) = u at *
            clear hue
            generalize hve : posAt rs j = v at *
            have HV := hide hve
            clear hve
            go_wp2
            go_round
            case rel => exact ⟨j + 1, by omega, by omega, by go_num, by rw [Nat.add_sub_cancel, unhide HV]⟩
            case measure => simp [intOf]; omega
          · obtain rfl : j = k := by omega
            go_wp2_with fail
            go_loop [13, 14] (fun q i => ∃ t : Nat, t ≤ j ∧ i = .int .i64 t ∧ q = .int .i64 (if t = j then 1 else 0)) (fun _ i => j - (intOf i).toNat)
            case atStart => exact ⟨0, by omega, rfl, by rw [if_neg (by omega)]⟩
            case round =>
              obtain ⟨t, ht, rfl, rfl⟩ := hrel
              by_cases hlt3 : t < j
              · have hx := (unhide H5).posCell hlt3 rfl
                by_cases hlast : t = j - 1
                · subst hlast
                  have E0 := hide (if_neg (by omega) : (if j - 1 = j then (1 : Int) else 0) = 0)
                  rw [unhide E0]
                  generalize posAt rs (j - 1) = u at *
                  obtain ⟨m, rfl⟩ : ∃ m, j = m + 1 := ⟨j - 1, by omega⟩
                  rw [Nat.add_sub_cancel] at hx ⊢
                  go_wp2
                  go_round
                  case rel => exact ⟨m + 1, by omega, by go_num, by rw [if_pos rfl]⟩
                  case measure => simp [intOf]
                · have hlt4 := unhide HA t (by omega)
                  have E0 := hide (if_neg (by omega) : (if t = j then (1 : Int) else 0) = 0)
                  rw [unhide E0]
                  generalize posAt rs (j - 1) = u at *
                  generalize posAt rs t = v at *
                  go_wp2
                  go_round
                  case rel => exact ⟨t + 1, by omega, by go_num, by rw [if_neg (by omega)]⟩
                  case measure => simp [intOf]; omega
              · obtain rfl : t = j := by omega
                rw [if_pos rfl]
                generalize posAt rs (t - 1) = u at *
                go_wp2
                go_ret
                exact ⟨rfl, hB5⟩
  · clear hq
    go_wp2
    go_ret
    exact ⟨rfl, hB⟩

end Go.Proofs.Qxb6612482aMods
