import Derived.Test.Qxb6612482aModsScript
namespace Go.Proofs.Qxb6612482aMods
open Go.RowKit

set_option maxHeartbeats 4000000 in
set_option maxRecDepth 100000 in
theorem bytes11_any (x0 : Int) (a1 : Option Addr) (n1 c1 : Nat) (m : Bool) (x3 : Int) (a : Option Addr) (n cap : Nat) (rs : List WRow) (a5 : Option Addr) (n5 c5 : Nat) (a6 : Option Addr) (n6 c6 : Nat) (w : World) (h : IsRows w a n rs) (h1 : n1 ≤ maxLen) (h5 : n5 ≤ maxLen) (h6 : n6 ≤ maxLen) :
    Calls Trym.prog 11 #[.int .i64 x0, .slice a1 n1 c1, .bool m, .int .i64 x3, .slice a n cap, .slice a5 n5 c5, .slice a6 n6 c6] w fun e w' => IsBool e ∧ w' = w := by
  have H := hide h
  have hn := h.small
  unfold maxLen at hn h1 h5 h6
  clear h
  go_enter Trym.func11, Trym.ntmps11
  go_wp2
  iterate 3
    · go_ret
      exact ⟨IsBool.of _ rfl, rfl⟩
  go_loop [15, 16] (fun q i => ∃ (k : Nat) (r : Int), k ≤ n ∧ i = .int .i64 k ∧ q = .int .i64 r ∧ 0 ≤ r ∧ r ≤ 1048576) (fun _ i => n - (intOf i).toNat)
  case atStart => exact ⟨0, _, Nat.zero_le _, rfl, rfl, by omega, by omega⟩
  case round =>
    obtain ⟨k, r, hk, rfl, rfl, hr0, hr1⟩ := hrel
    by_cases hlt : k < n
    · obtain ⟨b, off, rfl⟩ := (unhide H).at' k hlt
      obtain ⟨y, hy⟩ := (unhide H).get hlt
      have hc := (unhide H).cell b off rfl k y hy
      have hz := (unhide H).short y (List.mem_of_getElem? hy)
      obtain ⟨c0, c1, c2, c3, c4⟩ := hc
      obtain ⟨z0, z1, z2⟩ := hz
      unfold maxLen at z0 z1 z2
      clear hy
      go_wp2
      all_goals first
        | (go_ret
           exact ⟨IsBool.of _ rfl, rfl⟩)
        | (go_round
           case rel => exact ⟨k + 1, r + y.id.size + y.typ.size + y.aid.size, by omega, by go_num, by go_num, by omega, by omega⟩
           case measure => simp [intOf]; omega)
    · go_wp2
      all_goals
        go_ret
        exact ⟨IsBool.of _ rfl, rfl⟩

set_option maxHeartbeats 4000000 in
set_option maxRecDepth 100000 in
theorem law4 (x0 : Int) (a1 : Option Addr) (n1 c1 : Nat) (z1 : List Int) (m : Bool) (x3 : Int) (a4 : Option Addr) (n4 c4 : Nat) (rs : List WRow) (a5 : Option Addr) (n5 c5 : Nat) (z5 : List Int) (a6 : Option Addr) (n6 c6 : Nat) (z6 : List Int) (w : World) (h1 : IsInts w a1 n1 z1) (h4 : IsRows w a4 n4 rs) (h5 : IsInts w a5 n5 z5) (h6 : IsInts w a6 n6 z6) :
    Calls Trym.prog 4 #[.int .i64 x0, .slice a1 n1 c1, .bool m, .int .i64 x3, .slice a4 n4 c4, .slice a5 n5 c5, .slice a6 n6 c6] w fun e w' => e = .returned (.bool true) ∧ Below w.heap.size w w' := by
  have H1 := hide h1
  have H4 := hide h4
  have H5 := hide h5
  have H6 := hide h6
  have l1 := h1.small
  have l4 := h4.small
  have l5 := h5.small
  have l6 := h6.small
  clear h1 h4 h5 h6
  go_enter Trym.func4, Trym.ntmps4
  go_wp2_with fail
  refine (bytes11_any x0 a1 n1 c1 m x3 a4 n4 c4 rs a5 n5 c5 a6 n6 c6 _ (unhide H4) l1 l5 l6).mono ?_
  rintro e w1 ⟨⟨b, rfl⟩, rfl⟩
  cases b
  · go_wp2
    go_ret
    exact ⟨rfl, Below.refl _ _⟩
  by_cases s1 : n1 ≤ 4096
  rotate_left
  · unfold maxLen at l1 l4 l5 l6
    go_wp2
    go_ret
    exact ⟨rfl, Below.refl _ _⟩
  by_cases s6 : n6 ≤ 4096
  rotate_left
  · unfold maxLen at l1 l4 l5 l6
    go_wp2
    go_ret
    exact ⟨rfl, Below.refl _ _⟩
  go_wp2_with fail
  refine (windowBytes_any a4 n4 c4 rs a5 n5 c5 a6 n6 c6 _ (unhide H4) l5 l6).mono ?_
  unfold maxLen at l1 l4 l5 l6
  rintro e w2 ⟨⟨q, rfl, q0, q1, hq⟩, hB⟩
  by_cases hq2 : q + 8 * (n1 : Int) ≤ 1048576
  rotate_left
  · clear hq
    go_wp2
    go_ret
    exact ⟨rfl, hB⟩
  obtain ⟨b4, b5, b6⟩ := hq (by omega)
  clear hq
  go_wp2_with fail
  refine (nonDec_any a6 n6 c6 z6 _ ((unhide H6).below hB) (by omega)).mono ?_
  rintro e w3 ⟨⟨b, rfl, hb⟩, hB2⟩
  replace hB2 := below_next hB hB2
  clear hB
  cases b
  · clear hb
    go_wp2
    go_ret
    exact ⟨rfl, hB2⟩
  have R6 := hide (hb rfl)
  clear hb
  go_wp2_with fail
  refine (clone9_any a1 n1 c1 z1 _ ((unhide H1).below hB2) (by omega)).mono ?_
  rintro e w4 ⟨aC, cC, rfl, iC, hB3⟩
  have IC := hide iC
  replace hB3 := below_next hB2 hB3
  clear hB2 iC
  go_wp2_with fail
  refine (clone8_any a5 n5 c5 z5 _ ((unhide H5).below hB3) (by omega)).mono ?_
  rintro e w5 ⟨aD, cD, rfl, iD, hB4⟩
  replace IC := hide ((unhide IC).below hB4)
  replace hB4 := below_next hB3 hB4
  clear hB3 iD
  go_wp2_with fail
  refine (clone9_any a6 n6 c6 z6 _ ((unhide H6).below hB4) (by omega)).mono ?_
  rintro e W ⟨aE, cE, rfl, iE, hB5⟩
  have IE := hide iE
  replace IC := hide ((unhide IC).below hB5)
  replace hB5 := below_next hB4 hB5
  clear hB4 iE H1 H5 H6
  go_wp2_with fail
  refine (newCur_any x0 aC n1 cC m W).mono ?_
  rintro e w7 ⟨gc, rfl, hgc, hcur, hW⟩
  have CU := hide hcur
  have gclt := hcur.lt
  clear hcur
  go_wp2_with fail
  refine (split_any a4 n4 c4 rs w7 ((unhide H4).below (below_next hB5 hW)) b4).mono ?_
  rintro e w8 ⟨rfl, hcol, hX⟩
  have HC := hide hcol
  have sz := hX.size
  replace CU := hide ((unhide CU).below hX)
  replace hW := below_next hW hX
  clear hcol hX
  go_wp2_with fail
  refine (newWin_any x3 w7.heap.size n4 rs aD aE n5 cD n6 cE w8 (unhide HC) b4).mono ?_
  rintro e w9 ⟨g2, gr2, rfl, hg2, hwin, hX⟩
  have W2 := hide hwin.cells
  replace CU := hide ((unhide CU).below hX)
  replace hW := below_next hW hX
  clear hwin hX HC
  go_wp2_with fail
  refine (read16 gc x0 aC n1 cC z1 g2 aE n6 cE z6 x3 _ _ m w9 (unhide CU) (unhide W2) ((unhide IC).below hW) ((unhide IE).below hW) (by omega) (by omega) (unhide R6)).mono ?_
  rintro e w10 ⟨rfl, hcur, hg⟩
  replace CU := hide hcur
  replace hW : Below W.heap.size W w10 := hW.grown hg hW.size (by intro k hk; cases hk; exact hgc)
  clear hcur hg W2
  go_wp2_with fail
  refine (fields_any gc x0 aE n6 cE _ w10 (unhide CU)).mono ?_
  rintro e w11 ⟨rfl, hX⟩
  replace hW := below_next hW hX
  clear hX CU
  cases m
  · obtain ⟨p, hp⟩ : ∃ p, allIn z1 z6 = p := ⟨_, rfl⟩
    rw [hp]
    have HA := hide hp
    clear hp
    cases p
    all_goals
      go_wp2_with fail
      refine (within_any aC n1 cC z1 aE n6 cE z6 _ ((unhide IC).below hW) ((unhide IE).below hW) (by omega) (by omega)).mono ?_
      rintro e w11 ⟨rfl, rfl⟩
      rw [unhide HA]
      clear HA
      go_wp2_with fail
      refine (equal_any aE n6 cE z6 aE cE _ ((unhide IE).below hW) ((unhide IE).below hW) (by omega)).mono ?_
      rintro e w12 ⟨rfl, hX⟩
      replace hW := below_next hW hX
      clear hX
      go_wp2
      go_ret
      exact ⟨rfl, below_next hB5 hW⟩
  · go_wp2_with fail
    refine (equal_any aE n6 cE z6 aE cE _ ((unhide IE).below hW) ((unhide IE).below hW) (by omega)).mono ?_
    rintro e w12 ⟨rfl, hX⟩
    replace hW := below_next hW hX
    clear hX
    go_wp2
    go_ret
    exact ⟨rfl, below_next hB5 hW⟩

end Go.Proofs.Qxb6612482aMods
