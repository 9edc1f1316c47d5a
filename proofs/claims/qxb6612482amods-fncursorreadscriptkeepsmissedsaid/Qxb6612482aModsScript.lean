import Derived.Test.Qxb6612482aModsCur
namespace Go.Proofs.Qxb6612482aMods
open Go.RowKit

/-- A window's four cells. -/
structure WinC (w : World) (gw : Nat) (wa : Int) (v1 v2 rv : Value) : Prop where
  c0 : w.cell? ⟨gw, 0, none⟩ = some (.int .i64 wa)
  c1 : w.cell? ⟨gw, 1, none⟩ = some v1
  c2 : w.cell? ⟨gw, 2, none⟩ = some v2
  c3 : w.cell? ⟨gw, 3, none⟩ = some rv
theorem IsWin.cells {w : World} {gw : Nat} {wa : Int} {g n : Nat} {hv rv : Value} {f : Nat → Int} (h : IsWin w gw wa g n hv rv f) : WinC w gw wa (.slice (some ⟨g, 0, none⟩) n n) hv rv := ⟨h.c0, h.c1, h.c2, h.c3⟩
theorem WinC.lt {w : World} {gw : Nat} {wa : Int} {v1 v2 rv : Value} (h : WinC w gw wa v1 v2 rv) : gw < w.heap.size := World.block_lt_of_cell? w _ h.c0
theorem WinC.below {w w' : World} {gw : Nat} {wa : Int} {v1 v2 rv : Value} (h : WinC w gw wa v1 v2 rv) (hb : Below w.heap.size w w') : WinC w' gw wa v1 v2 rv :=
  ⟨keep_cell hb h.c0, keep_cell hb h.c1, keep_cell hb h.c2, keep_cell hb h.c3⟩
theorem WinC.kept {w w' : World} {gw gc : Nat} {wa : Int} {v1 v2 rv : Value} (h : WinC w gw wa v1 v2 rv) (hg : w.grownBy w' (some gc)) (hne : gw ≠ gc) : WinC w' gw wa v1 v2 rv :=
  ⟨(hg.cell_far _ h.lt (by simpa using hne)).trans h.c0, (hg.cell_far _ h.lt (by simpa using hne)).trans h.c1, (hg.cell_far _ h.lt (by simpa using hne)).trans h.c2, (hg.cell_far _ h.lt (by simpa using hne)).trans h.c3⟩

theorem read_any (gc : Nat) (after : Int) (a : Option Addr) (n c : Nat) (za : List Int) (a1 : Option Addr) (n1 c1 : Nat) (zb : List Int) (wa : Int) (v1 v2 : Value) (m : Bool) (w : World) (h : IsCur w gc after (.slice a n c) m)
    (ha : IsInts w a n za) (hb : IsInts w a1 n1 zb) (hn : n ≤ 131072) (hn1 : n1 ≤ 131072) (hr : ∀ i, 1 ≤ i → i < n1 → zb.getD (i - 1) 0 ≤ zb.getD i 0) :
    Calls Trym.prog 23 #[.pointer (some ⟨gc, 0, none⟩), .agg #[.int .i64 wa, v1, v2, .slice a1 n1 c1]] w fun e w' => e = .returned (.tuple #[]) ∧ IsCur w' gc after (.slice a1 n1 c1) (m || !allIn za zb) ∧ w.grownBy w' (some gc) := by
  cases m
  · exact read_no gc after a n c za a1 n1 c1 zb wa v1 v2 w h ha hb hn hn1 hr
  · exact read_yes gc after a n c a1 n1 c1 wa v1 v2 w h

set_option maxHeartbeats 1000000 in
theorem read16 (gc : Nat) (after : Int) (a : Option Addr) (n c : Nat) (za : List Int) (gw : Nat) (a1 : Option Addr) (n1 c1 : Nat) (zb : List Int) (wa : Int) (v1 v2 : Value) (m : Bool) (w : World) (h : IsCur w gc after (.slice a n c) m)
    (hw : WinC w gw wa v1 v2 (.slice a1 n1 c1)) (ha : IsInts w a n za) (hb : IsInts w a1 n1 zb) (hn : n ≤ 131072) (hn1 : n1 ≤ 131072) (hr : ∀ i, 1 ≤ i → i < n1 → zb.getD (i - 1) 0 ≤ zb.getD i 0) :
    Calls Trym.prog 16 #[.pointer (some ⟨gc, 0, none⟩), .pointer (some ⟨gw, 0, none⟩)] w fun e w' => e = .returned (.tuple #[]) ∧ IsCur w' gc after (.slice a1 n1 c1) (m || !allIn za zb) ∧ w.grownBy w' (some gc) := by
  have HC := hide (read_any gc after a n c za a1 n1 c1 zb wa v1 v2 m w h ha hb hn hn1 hr)
  have c0 := hw.c0
  have c1 := hw.c1
  have c2 := hw.c2
  have c3 := hw.c3
  clear h hw ha hb hr
  go_enter Trym.func16, Trym.ntmps16
  go_wp2_with fail
  refine (unhide HC).mono ?_
  rintro e w1 ⟨rfl, hcur, hg⟩
  have HU := hide hcur
  clear hcur HC c0 c1 c2 c3
  go_wp2
  go_end0
  exact ⟨rfl, unhide HU, hg⟩

theorem allIn_self (zs : List Int) : allIn zs zs = true := by
  rw [allIn, List.all_eq_true]
  intro x hx
  simpa using hx

set_option maxHeartbeats 1000000 in
theorem bytes20_any (x0 : Int) (a1 : Option Addr) (n1 c1 : Nat) (m : Bool) (x3 : Int) (a4 : Option Addr) (n4 c4 : Nat) (x5 : Int) (a6 : Option Addr) (n6 c6 : Nat) (w : World) (h1 : n1 ≤ maxLen) (h4 : n4 ≤ maxLen) (h6 : n6 ≤ maxLen) :
    Calls Trym.prog 20 #[.int .i64 x0, .slice a1 n1 c1, .bool m, .int .i64 x3, .slice a4 n4 c4, .int .i64 x5, .slice a6 n6 c6] w fun e w' => IsBool e ∧ w' = w := by
  unfold maxLen at h1 h4 h6
  go_enter Trym.func20, Trym.ntmps20
  go_wp2
  all_goals
    go_ret
    exact ⟨IsBool.of _ rfl, rfl⟩

set_option maxHeartbeats 4000000 in
set_option maxRecDepth 100000 in
theorem law5 (x0 : Int) (a1 : Option Addr) (n1 c1 : Nat) (z1 : List Int) (m : Bool) (x3 : Int) (a4 : Option Addr) (n4 c4 : Nat) (z4 : List Int) (x5 : Int) (a6 : Option Addr) (n6 c6 : Nat) (z6 : List Int) (w : World) (h1 : IsInts w a1 n1 z1) (h4 : IsInts w a4 n4 z4) (h6 : IsInts w a6 n6 z6) :
    Calls Trym.prog 5 #[.int .i64 x0, .slice a1 n1 c1, .bool m, .int .i64 x3, .slice a4 n4 c4, .int .i64 x5, .slice a6 n6 c6] w fun e w' => e = .returned (.bool true) ∧ Below w.heap.size w w' := by
  have H1 := hide h1
  have H4 := hide h4
  have H6 := hide h6
  have l1 := h1.small
  have l4 := h4.small
  have l6 := h6.small
  clear h1 h4 h6
  go_enter Trym.func5, Trym.ntmps5
  go_wp2_with fail
  refine (bytes20_any x0 a1 n1 c1 m x3 a4 n4 c4 x5 a6 n6 c6 _ l1 l4 l6).mono ?_
  unfold maxLen at l1 l4 l6
  rintro e w1 ⟨⟨b, rfl⟩, rfl⟩
  cases b
  · go_wp2
    go_ret
    exact ⟨rfl, Below.refl _ _⟩
  by_cases s1 : n1 ≤ 4096
  rotate_left
  · go_wp2
    go_ret
    exact ⟨rfl, Below.refl _ _⟩
  by_cases s4 : n4 ≤ 4096
  rotate_left
  · go_wp2
    go_ret
    exact ⟨rfl, Below.refl _ _⟩
  by_cases s6 : n6 ≤ 4096
  rotate_left
  · go_wp2
    go_ret
    exact ⟨rfl, Below.refl _ _⟩
  go_wp2_with fail
  refine (nonDec_any a4 n4 c4 z4 _ (unhide H4) (by omega)).mono ?_
  rintro e w2 ⟨⟨b, rfl, hb⟩, hB⟩
  cases b
  · clear hb
    go_wp2
    go_ret
    exact ⟨rfl, hB⟩
  have R4 := hide (hb rfl)
  clear hb
  go_wp2_with fail
  refine (nonDec_any a6 n6 c6 z6 _ ((unhide H6).below hB) (by omega)).mono ?_
  rintro e w3 ⟨⟨b, rfl, hb⟩, hB2⟩
  replace hB2 := below_next hB hB2
  clear hB
  cases b
  · clear hb
    go_wp2
    go_ret
    exact ⟨rfl, hB2⟩
  have R6 := hide (hb rfl)
  clear hb
  go_wp2_with fail
  refine (clone9_any a1 n1 c1 z1 _ ((unhide H1).below hB2) (by omega)).mono ?_
  rintro e w4 ⟨aC, cC, rfl, iC, hB3⟩
  have IC := hide iC
  replace hB3 := below_next hB2 hB3
  clear hB2 iC
  go_wp2_with fail
  refine (clone9_any a4 n4 c4 z4 _ ((unhide H4).below hB3) (by omega)).mono ?_
  rintro e w5 ⟨aD, cD, rfl, iD, hB4⟩
  have ID := hide iD
  replace IC := hide ((unhide IC).below hB4)
  replace hB4 := below_next hB3 hB4
  clear hB3 iD
  go_wp2_with fail
  refine (clone9_any a6 n6 c6 z6 _ ((unhide H6).below hB4) (by omega)).mono ?_
  rintro e W ⟨aE, cE, rfl, iE, hB5⟩
  have IE := hide iE
  replace IC := hide ((unhide IC).below hB5)
  replace ID := hide ((unhide ID).below hB5)
  replace hB5 := below_next hB4 hB5
  clear hB4 iE H1 H4 H6
  go_wp2_with fail
  refine (newCur_any x0 aC n1 cC m W).mono ?_
  rintro e w7 ⟨gc, rfl, hgc, hcur, hW⟩
  have CU := hide hcur
  have gclt := hcur.lt
  clear hcur
  go_wp2_with fail
  refine (newWin_nil x3 aD n4 cD w7).mono ?_
  rintro e w8 ⟨g1, gr1, rfl, hg1, hwin, hW2⟩
  have W1 := hide hwin.cells
  replace CU := hide ((unhide CU).below hW2)
  replace hW2 := below_next hW hW2
  have g1lt := (unhide W1).lt
  clear hwin hW
  go_wp2_with fail
  refine (newWin_nil x5 aE n6 cE w8).mono ?_
  rintro e w9 ⟨g2, gr2, rfl, hg2, hwin, hW3⟩
  have W2 := hide hwin.cells
  replace CU := hide ((unhide CU).below hW3)
  replace W1 := hide ((unhide W1).below hW3)
  replace hW3 := below_next hW2 hW3
  clear hwin hW2
  go_wp2_with fail
  refine (read16 gc x0 aC n1 cC z1 g1 aD n4 cD z4 x3 _ _ m w9 (unhide CU) (unhide W1) ((unhide IC).below hW3) ((unhide ID).below hW3) (by omega) (by omega) (unhide R4)).mono ?_
  rintro e w10 ⟨rfl, hcur, hg⟩
  replace CU := hide hcur
  replace W1 := hide ((unhide W1).kept hg (by omega))
  replace W2 := hide ((unhide W2).kept hg (by omega))
  have hW4 : Below W.heap.size W w10 := hW3.grown hg hW3.size (by intro k hk; cases hk; exact hgc)
  clear hcur hg hW3
  go_wp2_with fail
  refine (fields_any gc x0 aD n4 cD _ w10 (unhide CU)).mono ?_
  rintro e w11 ⟨rfl, hW5⟩
  replace CU := hide ((unhide CU).below hW5)
  replace W1 := hide ((unhide W1).below hW5)
  replace W2 := hide ((unhide W2).below hW5)
  replace hW5 := below_next hW4 hW5
  clear hW4
  clear W1
  have hW := hW5
  clear hW5
  cases m
  · obtain ⟨p, hp⟩ : ∃ p, allIn z1 z4 = p := ⟨_, rfl⟩
    rw [hp] at CU ⊢
    have HA := hide hp
    clear hp
    cases p
    · replace CU : Hid (IsCur _ gc x0 (.slice aD n4 cD) true) := unhide CU
      go_wp2_with fail
      refine (within_any aC n1 cC z1 aD n4 cD z4 _ ((unhide IC).below hW) ((unhide ID).below hW) (by omega) (by omega)).mono ?_
      rintro e w20 ⟨rfl, rfl⟩
      rw [unhide HA]
      clear HA
      go_wp2_with fail
      refine (equal_any aD n4 cD z4 aD cD _ ((unhide ID).below hW) ((unhide ID).below hW) (by omega)).mono ?_
      rintro e w20 ⟨rfl, hX⟩
      replace CU := hide ((unhide CU).below hX)
      replace W2 := hide ((unhide W2).below hX)
      replace hW := below_next hW hX
      clear hX
      go_wp2_with fail
      refine (read16 gc x0 aD n4 cD z4 g2 aE n6 cE z6 x5 _ _ true _ (unhide CU) (unhide W2) ((unhide ID).below hW) ((unhide IE).below hW) (by omega) (by omega) (unhide R6)).mono ?_
      rintro e w21 ⟨rfl, hcur, hg⟩
      replace CU := hide hcur
      replace W2 := hide ((unhide W2).kept hg (by omega))
      replace hW := hW.grown hg hW.size (by intro k hk; cases hk; exact hgc)
      clear hcur hg
      replace CU : Hid (IsCur _ gc x0 (.slice aE n6 cE) true) := unhide CU
      go_wp2_with fail
      refine (fields_any gc x0 aE n6 cE _ _ (unhide CU)).mono ?_
      rintro e w22 ⟨rfl, hX⟩
      replace CU := hide ((unhide CU).below hX)
      replace W2 := hide ((unhide W2).below hX)
      replace hW := below_next hW hX
      clear hX
      go_wp2_with fail
      refine (equal_any aE n6 cE z6 aE cE _ ((unhide IE).below hW) ((unhide IE).below hW) (by omega)).mono ?_
      rintro e w20 ⟨rfl, hX⟩
      replace CU := hide ((unhide CU).below hX)
      replace W2 := hide ((unhide W2).below hX)
      replace hW := below_next hW hX
      clear hX
      go_wp2_with fail
      refine (read16 gc x0 aE n6 cE z6 g2 aE n6 cE z6 x5 _ _ true _ (unhide CU) (unhide W2) ((unhide IE).below hW) ((unhide IE).below hW) (by omega) (by omega) (unhide R6)).mono ?_
      rintro e w21 ⟨rfl, hcur, hg⟩
      replace CU := hide hcur
      replace W2 := hide ((unhide W2).kept hg (by omega))
      replace hW := hW.grown hg hW.size (by intro k hk; cases hk; exact hgc)
      clear hcur hg
      rw [allIn_self] at CU
      replace CU : Hid (IsCur _ gc x0 (.slice aE n6 cE) true) := unhide CU
      go_wp2_with fail
      refine (fields_any gc x0 aE n6 cE _ _ (unhide CU)).mono ?_
      rintro e w22 ⟨rfl, hX⟩
      replace CU := hide ((unhide CU).below hX)
      replace W2 := hide ((unhide W2).below hX)
      replace hW := below_next hW hX
      clear hX
      go_wp2_with fail
      refine (equal_any aE n6 cE z6 aE cE _ ((unhide IE).below hW) ((unhide IE).below hW) (by omega)).mono ?_
      rintro e w23 ⟨rfl, hX⟩
      replace hW := below_next hW hX
      clear hX
      go_wp2
      go_ret
      exact ⟨rfl, below_next hB5 hW⟩
    · replace CU : Hid (IsCur _ gc x0 (.slice aD n4 cD) false) := unhide CU
      go_wp2_with fail
      refine (within_any aC n1 cC z1 aD n4 cD z4 _ ((unhide IC).below hW) ((unhide ID).below hW) (by omega) (by omega)).mono ?_
      rintro e w20 ⟨rfl, rfl⟩
      rw [unhide HA]
      clear HA
      go_wp2_with fail
      refine (equal_any aD n4 cD z4 aD cD _ ((unhide ID).below hW) ((unhide ID).below hW) (by omega)).mono ?_
      rintro e w20 ⟨rfl, hX⟩
      replace CU := hide ((unhide CU).below hX)
      replace W2 := hide ((unhide W2).below hX)
      replace hW := below_next hW hX
      clear hX
      go_wp2_with fail
      refine (read16 gc x0 aD n4 cD z4 g2 aE n6 cE z6 x5 _ _ false _ (unhide CU) (unhide W2) ((unhide ID).below hW) ((unhide IE).below hW) (by omega) (by omega) (unhide R6)).mono ?_
      rintro e w21 ⟨rfl, hcur, hg⟩
      replace CU := hide hcur
      replace W2 := hide ((unhide W2).kept hg (by omega))
      replace hW := hW.grown hg hW.size (by intro k hk; cases hk; exact hgc)
      clear hcur hg
      go_wp2_with fail
      refine (fields_any gc x0 aE n6 cE _ _ (unhide CU)).mono ?_
      rintro e w22 ⟨rfl, hX⟩
      replace CU := hide ((unhide CU).below hX)
      replace W2 := hide ((unhide W2).below hX)
      replace hW := below_next hW hX
      clear hX
      obtain ⟨p, hp⟩ : ∃ p, allIn z4 z6 = p := ⟨_, rfl⟩
      rw [hp] at CU ⊢
      have HA := hide hp
      clear hp
      cases p
      · replace CU : Hid (IsCur _ gc x0 (.slice aE n6 cE) true) := unhide CU
        go_wp2_with fail
        refine (within_any aD n4 cD z4 aE n6 cE z6 _ ((unhide ID).below hW) ((unhide IE).below hW) (by omega) (by omega)).mono ?_
        rintro e w20 ⟨rfl, rfl⟩
        rw [unhide HA]
        clear HA
        go_wp2_with fail
        refine (equal_any aE n6 cE z6 aE cE _ ((unhide IE).below hW) ((unhide IE).below hW) (by omega)).mono ?_
        rintro e w20 ⟨rfl, hX⟩
        replace CU := hide ((unhide CU).below hX)
        replace W2 := hide ((unhide W2).below hX)
        replace hW := below_next hW hX
        clear hX
        go_wp2_with fail
        refine (read16 gc x0 aE n6 cE z6 g2 aE n6 cE z6 x5 _ _ true _ (unhide CU) (unhide W2) ((unhide IE).below hW) ((unhide IE).below hW) (by omega) (by omega) (unhide R6)).mono ?_
        rintro e w21 ⟨rfl, hcur, hg⟩
        replace CU := hide hcur
        replace W2 := hide ((unhide W2).kept hg (by omega))
        replace hW := hW.grown hg hW.size (by intro k hk; cases hk; exact hgc)
        clear hcur hg
        rw [allIn_self] at CU
        replace CU : Hid (IsCur _ gc x0 (.slice aE n6 cE) true) := unhide CU
        go_wp2_with fail
        refine (fields_any gc x0 aE n6 cE _ _ (unhide CU)).mono ?_
        rintro e w22 ⟨rfl, hX⟩
        replace CU := hide ((unhide CU).below hX)
        replace W2 := hide ((unhide W2).below hX)
        replace hW := below_next hW hX
        clear hX
        go_wp2_with fail
        refine (equal_any aE n6 cE z6 aE cE _ ((unhide IE).below hW) ((unhide IE).below hW) (by omega)).mono ?_
        rintro e w23 ⟨rfl, hX⟩
        replace hW := below_next hW hX
        clear hX
        go_wp2
        go_ret
        exact ⟨rfl, below_next hB5 hW⟩
      · replace CU : Hid (IsCur _ gc x0 (.slice aE n6 cE) false) := unhide CU
        go_wp2_with fail
        refine (within_any aD n4 cD z4 aE n6 cE z6 _ ((unhide ID).below hW) ((unhide IE).below hW) (by omega) (by omega)).mono ?_
        rintro e w20 ⟨rfl, rfl⟩
        rw [unhide HA]
        clear HA
        go_wp2_with fail
        refine (equal_any aE n6 cE z6 aE cE _ ((unhide IE).below hW) ((unhide IE).below hW) (by omega)).mono ?_
        rintro e w20 ⟨rfl, hX⟩
        replace CU := hide ((unhide CU).below hX)
        replace W2 := hide ((unhide W2).below hX)
        replace hW := below_next hW hX
        clear hX
        go_wp2_with fail
        refine (read16 gc x0 aE n6 cE z6 g2 aE n6 cE z6 x5 _ _ false _ (unhide CU) (unhide W2) ((unhide IE).below hW) ((unhide IE).below hW) (by omega) (by omega) (unhide R6)).mono ?_
        rintro e w21 ⟨rfl, hcur, hg⟩
        replace CU := hide hcur
        replace W2 := hide ((unhide W2).kept hg (by omega))
        replace hW := hW.grown hg hW.size (by intro k hk; cases hk; exact hgc)
        clear hcur hg
        rw [allIn_self] at CU
        replace CU : Hid (IsCur _ gc x0 (.slice aE n6 cE) false) := unhide CU
        go_wp2_with fail
        refine (fields_any gc x0 aE n6 cE _ _ (unhide CU)).mono ?_
        rintro e w22 ⟨rfl, hX⟩
        replace CU := hide ((unhide CU).below hX)
        replace W2 := hide ((unhide W2).below hX)
        replace hW := below_next hW hX
        clear hX
        go_wp2_with fail
        refine (equal_any aE n6 cE z6 aE cE _ ((unhide IE).below hW) ((unhide IE).below hW) (by omega)).mono ?_
        rintro e w23 ⟨rfl, hX⟩
        replace hW := below_next hW hX
        clear hX
        go_wp2
        go_ret
        exact ⟨rfl, below_next hB5 hW⟩
  · replace CU : Hid (IsCur _ gc x0 (.slice aD n4 cD) true) := unhide CU
    go_wp2_with fail
    refine (equal_any aD n4 cD z4 aD cD _ ((unhide ID).below hW) ((unhide ID).below hW) (by omega)).mono ?_
    rintro e w20 ⟨rfl, hX⟩
    replace CU := hide ((unhide CU).below hX)
    replace W2 := hide ((unhide W2).below hX)
    replace hW := below_next hW hX
    clear hX
    go_wp2_with fail
    refine (read16 gc x0 aD n4 cD z4 g2 aE n6 cE z6 x5 _ _ true _ (unhide CU) (unhide W2) ((unhide ID).below hW) ((unhide IE).below hW) (by omega) (by omega) (unhide R6)).mono ?_
    rintro e w21 ⟨rfl, hcur, hg⟩
    replace CU := hide hcur
    replace W2 := hide ((unhide W2).kept hg (by omega))
    replace hW := hW.grown hg hW.size (by intro k hk; cases hk; exact hgc)
    clear hcur hg
    replace CU : Hid (IsCur _ gc x0 (.slice aE n6 cE) true) := unhide CU
    go_wp2_with fail
    refine (fields_any gc x0 aE n6 cE _ _ (unhide CU)).mono ?_
    rintro e w22 ⟨rfl, hX⟩
    replace CU := hide ((unhide CU).below hX)
    replace W2 := hide ((unhide W2).below hX)
    replace hW := below_next hW hX
    clear hX
    go_wp2_with fail
    refine (equal_any aE n6 cE z6 aE cE _ ((unhide IE).below hW) ((unhide IE).below hW) (by omega)).mono ?_
    rintro e w20 ⟨rfl, hX⟩
    replace CU := hide ((unhide CU).below hX)
    replace W2 := hide ((unhide W2).below hX)
    replace hW := below_next hW hX
    clear hX
    go_wp2_with fail
    refine (read16 gc x0 aE n6 cE z6 g2 aE n6 cE z6 x5 _ _ true _ (unhide CU) (unhide W2) ((unhide IE).below hW) ((unhide IE).below hW) (by omega) (by omega) (unhide R6)).mono ?_
    rintro e w21 ⟨rfl, hcur, hg⟩
    replace CU := hide hcur
    replace W2 := hide ((unhide W2).kept hg (by omega))
    replace hW := hW.grown hg hW.size (by intro k hk; cases hk; exact hgc)
    clear hcur hg
    rw [allIn_self] at CU
    replace CU : Hid (IsCur _ gc x0 (.slice aE n6 cE) true) := unhide CU
    go_wp2_with fail
    refine (fields_any gc x0 aE n6 cE _ _ (unhide CU)).mono ?_
    rintro e w22 ⟨rfl, hX⟩
    replace CU := hide ((unhide CU).below hX)
    replace W2 := hide ((unhide W2).below hX)
    replace hW := below_next hW hX
    clear hX
    go_wp2_with fail
    refine (equal_any aE n6 cE z6 aE cE _ ((unhide IE).below hW) ((unhide IE).below hW) (by omega)).mono ?_
    rintro e w23 ⟨rfl, hX⟩
    replace hW := below_next hW hX
    clear hX
    go_wp2
    go_ret
    exact ⟨rfl, below_next hB5 hW⟩

end Go.Proofs.Qxb6612482aMods
