import Derived.Test.Qxb6612482aModsBase
import Derived.Lib.SliceRun
namespace Go.Proofs.Qxb6612482aMods
open Go.RowKit

theorem Trym.info2 : (Trym.prog.info? 2).map (fun i => (i.zero, i.size, i.bytes)) = some (some (.int .i64 0), 1, 8) := by kernel_rfl
theorem Trym.info3 : (Trym.prog.info? 3).map (fun i => (i.zero, i.size, i.bytes)) = some (some (.int .i64 0), 1, 8) := by kernel_rfl

theorem IsInts.nil {w : World} {n : Nat} {zs : List Int} (h : IsInts w none n zs) : n = 0 ∧ zs = [] := by
  have : n = 0 := by
    rcases Nat.eq_zero_or_pos n with e | e
    · exact e
    · obtain ⟨b, off, h2⟩ := h.at' 0 e; cases h2
  subst this
  exact ⟨rfl, List.length_eq_zero_iff.1 h.len⟩

theorem IsInts.of_row {w : World} {g t n : Nat} {zs : List Int} (hl : zs.length = n) (hn : n ≤ maxLen) (h : w.rowIs g t n fun i => .int .i64 (zs.getD i 0)) : IsInts w (some ⟨g, 0, none⟩) n zs :=
  ⟨hl, hn, fun _ _ => ⟨g, 0, rfl⟩, fun b off e i hi => by cases e; rw [Nat.zero_add]; exact h.cell hi⟩

set_option maxHeartbeats 1000000 in
theorem clone9_any (a : Option Addr) (n cap : Nat) (zs : List Int) (w : World) (h : IsInts w a n zs) (hn : n ≤ 131072) :
    Calls Trym.prog 9 #[.slice a n cap] w fun e w' => ∃ a' cap', e = .returned (.slice a' n cap') ∧ IsInts w' a' n zs ∧ Below w.heap.size w w' := by
  obtain ⟨i0, hi0, hz0, hz1, hz2⟩ := info_parts Trym.info2
  have hq := Lib.run_eql_slice_nil (P := Trym.prog) w 24 2 a n cap 0 0 Trym.underlying24
  cases a with
  | none =>
    obtain ⟨rfl, rfl⟩ := h.nil
    have H := hide h
    clear h
    simp only [Option.isNone_none] at hq
    go_enter Trym.func9, Trym.ntmps9
    go_wp2
    go_ret
    exact ⟨_, _, rfl, ⟨rfl, by decide, fun i hi => by omega, fun b off e => (by cases e)⟩, Below.refl _ _⟩
  | some ad =>
    simp only [Option.isNone_some] at hq
    have H := hide h
    have hlen := hide h.len
    clear h
    go_enter Trym.func9, Trym.ntmps9
    go_wp2_with (at_make; refine Hold.out ?_)
    refine Hold.of ?_
    refine wpList_make_row _ rfl _ _ _ (by rfl) 2 i0 (.int .i64 0) Trym.underlying24 hi0 hz0 hz1 rfl .i64 .i64 n (by rfl) (by rfl) (by rw [hz2]; omega) (by omega) ?_
    have hb : Below w.heap.size w (w.alloc (.cells (madeCells #[.int .i64 0] n) 2)) := (Below.refl _ _).alloc (Nat.le_refl _) _
    have hrow := hide (World.rowIs_made w (.int .i64 0) n 2)
    generalize w.alloc (.cells (madeCells #[.int .i64 0] n) 2) = w1 at *
    clear hq hi0 hz0 hz1 hz2
    go_wp2_with fail
    go_loopw [4] (fun i wr => ∃ k : Nat, k ≤ n ∧ i = .int .i64 k ∧ wr.rowIs w.heap.size 2 n (fun j => if j < k then .int .i64 (zs.getD j 0) else .int .i64 0) ∧ Below w.heap.size w wr) (fun i _ => n - (intOf i).toNat)
    case atStart => exact ⟨0, Nat.zero_le _, rfl, by simpa using unhide hrow, hb⟩
    case round =>
      clear hrow hb
      obtain ⟨k, hk, rfl, hr, hb⟩ := hrel
      by_cases hlt : k < n
      · obtain ⟨b, off, e⟩ := (unhide H).at' k hlt
        cases e
        have hx := (unhide H).cell b off rfl k hlt
        have ltb := World.block_lt_of_cell? w _ hx
        replace hx := (hb.cell ltb).trans hx
        have c0 := hr.cell hlt
        have f0 := hr.frozen k
        have R := hide (hr.set k (.int .i64 (zs.getD k 0)))
        generalize hxe : zs.getD k 0 = x at *
        have HX := hide hxe
        clear hxe
        simp only at ltb
        clear hr
        go_wp2
        go_roundw
        case rel =>
          refine ⟨k + 1, by omega, by go_num, (unhide R).congr fun j hj => ?_, hb.setCell (Nat.le_refl _) _⟩
          by_cases e : j = k
          · subst e; rw [← unhide HX]; simp
          · have e2 : (j < k + 1) = (j < k) := propext ⟨fun h => by omega, fun h => by omega⟩
            simp only [e, e2, if_false]
        case measure => simp [intOf]; omega
      · obtain rfl : k = n := by omega
        go_wp2
        go_ret
        exact ⟨_, _, rfl, IsInts.of_row (unhide hlen) (by unfold maxLen; omega) (hr.congr fun j hj => by simp [hj]), hb⟩

set_option maxHeartbeats 1000000 in
theorem clone8_any (a : Option Addr) (n cap : Nat) (zs : List Int) (w : World) (h : IsInts w a n zs) (hn : n ≤ 131072) :
    Calls Trym.prog 8 #[.slice a n cap] w fun e w' => ∃ a' cap', e = .returned (.slice a' n cap') ∧ IsInts w' a' n zs ∧ Below w.heap.size w w' := by
  obtain ⟨i0, hi0, hz0, hz1, hz2⟩ := info_parts Trym.info3
  have hq := Lib.run_eql_slice_nil (P := Trym.prog) w 23 3 a n cap 0 0 Trym.underlying23
  cases a with
  | none =>
    obtain ⟨rfl, rfl⟩ := h.nil
    have H := hide h
    clear h
    simp only [Option.isNone_none] at hq
    go_enter Trym.func8, Trym.ntmps8
    go_wp2
    go_ret
    exact ⟨_, _, rfl, ⟨rfl, by decide, fun i hi => by omega, fun b off e => (by cases e)⟩, Below.refl _ _⟩
  | some ad =>
    simp only [Option.isNone_some] at hq
    have H := hide h
    have hlen := hide h.len
    clear h
    go_enter Trym.func8, Trym.ntmps8
    go_wp2_with (at_make; refine Hold.out ?_)
    refine Hold.of ?_
    refine wpList_make_row _ rfl _ _ _ (by rfl) 3 i0 (.int .i64 0) Trym.underlying23 hi0 hz0 hz1 rfl .i64 .i64 n (by rfl) (by rfl) (by rw [hz2]; omega) (by omega) ?_
    have hb : Below w.heap.size w (w.alloc (.cells (madeCells #[.int .i64 0] n) 3)) := (Below.refl _ _).alloc (Nat.le_refl _) _
    have hrow := hide (World.rowIs_made w (.int .i64 0) n 3)
    generalize w.alloc (.cells (madeCells #[.int .i64 0] n) 3) = w1 at *
    clear hq hi0 hz0 hz1 hz2
    go_wp2_with fail
    go_loopw [4] (fun i wr => ∃ k : Nat, k ≤ n ∧ i = .int .i64 k ∧ wr.rowIs w.heap.size 3 n (fun j => if j < k then .int .i64 (zs.getD j 0) else .int .i64 0) ∧ Below w.heap.size w wr) (fun i _ => n - (intOf i).toNat)
    case atStart => exact ⟨0, Nat.zero_le _, rfl, by simpa using unhide hrow, hb⟩
    case round =>
      clear hrow hb
      obtain ⟨k, hk, rfl, hr, hb⟩ := hrel
      by_cases hlt : k < n
      · obtain ⟨b, off, e⟩ := (unhide H).at' k hlt
        cases e
        have hx := (unhide H).cell b off rfl k hlt
        have ltb := World.block_lt_of_cell? w _ hx
        replace hx := (hb.cell ltb).trans hx
        have c0 := hr.cell hlt
        have f0 := hr.frozen k
        have R := hide (hr.set k (.int .i64 (zs.getD k 0)))
        generalize hxe : zs.getD k 0 = x at *
        have HX := hide hxe
        clear hxe
        simp only at ltb
        clear hr
        go_wp2
        go_roundw
        case rel =>
          refine ⟨k + 1, by omega, by go_num, (unhide R).congr fun j hj => ?_, hb.setCell (Nat.le_refl _) _⟩
          by_cases e : j = k
          · subst e; rw [← unhide HX]; simp
          · have e2 : (j < k + 1) = (j < k) := propext ⟨fun h => by omega, fun h => by omega⟩
            simp only [e, e2, if_false]
        case measure => simp [intOf]; omega
      · obtain rfl : k = n := by omega
        go_wp2
        go_ret
        exact ⟨_, _, rfl, IsInts.of_row (unhide hlen) (by unfold maxLen; omega) (hr.congr fun j hj => by simp [hj]), hb⟩


set_option maxHeartbeats 1000000 in
theorem nonDec_any (a : Option Addr) (n cap : Nat) (zs : List Int) (w : World) (h : IsInts w a n zs) (hn : n ≤ 131072) :
    Calls Trym.prog 12 #[.slice a n cap] w fun e w' => (∃ b, e = .returned (.bool b) ∧ (b = true → ∀ i, 1 ≤ i → i < n → zs.getD (i - 1) 0 ≤ zs.getD i 0)) ∧ Below w.heap.size w w' := by
  have H := hide h
  clear h
  go_enter Trym.func12, Trym.ntmps12
  go_wp2
  go_loopw [3] (fun i wr => ∃ k : Nat, 1 ≤ k ∧ (k ≤ n ∨ k = 1) ∧ i = .int .i64 k ∧ (∀ i, 1 ≤ i → i < k → zs.getD (i - 1) 0 ≤ zs.getD i 0) ∧ Below w.heap.size w wr) (fun i _ => n - (intOf i).toNat)
  case atStart => exact ⟨1, by omega, by omega, rfl, by intro i h1 h2; omega, Below.refl _ _⟩
  case round =>
    obtain ⟨k, hk1, hk, rfl, hp, hb⟩ := hrel
    have HP := hide hp
    clear hp
    by_cases hlt : k < n
    · obtain ⟨b, off, rfl⟩ := (unhide H).at' k hlt
      have hx := keep_cell hb ((unhide H).cell b off rfl k hlt)
      have hy := keep_cell hb ((unhide H).cell b off rfl (k - 1) (by omega))
      generalize hxe : zs.getD k 0 = x at *
      generalize hye : zs.getD (k - 1) 0 = y at *
      have HX := hide hxe
      have HY := hide hye
      clear hxe hye hk
      obtain ⟨k, rfl⟩ : ∃ j, k = j + 1 := ⟨k - 1, by omega⟩
      rw [Nat.add_sub_cancel] at hy HY
      have g1 : (0 : Int) ≤ (k : Int) + 1 := by omega
      have g2 : (k : Int) + 1 < (n : Int) := by omega
      have g3 : (0 : Int) ≤ (k : Int) + 1 - 1 := by omega
      have g4 : (k : Int) + 1 - 1 < (n : Int) := by omega
      go_wp2_with fail
      go_quiet (fail)
      by_cases hlx : x < y
      · go_wp2
        go_ret
        exact ⟨⟨_, rfl, by intro h; cases h⟩, below_drewN hb _⟩
      · go_wp2
        go_roundw
        case rel =>
          refine ⟨k + 1 + 1, by omega, by omega, by go_num, fun i h1 h2 => ?_, below_drewN hb _⟩
          by_cases e : i = k + 1
          · subst e
            rw [Nat.add_sub_cancel, unhide HX, unhide HY]
            omega
          · exact unhide HP i h1 (by omega)
        case measure => simp [intOf]; omega
    · go_wp2
      go_ret
      exact ⟨⟨_, rfl, fun _ i h1 h2 => unhide HP i h1 (by omega)⟩, hb⟩

set_option maxHeartbeats 1000000 in
theorem equal_any (a : Option Addr) (n cap : Nat) (zs : List Int) (a1 : Option Addr) (cap1 : Nat) (w : World) (h : IsInts w a n zs) (h1 : IsInts w a1 n zs) (hn : n ≤ 131072) :
    Calls Trym.prog 19 #[.slice a n cap, .slice a1 n cap1] w fun e w' => e = .returned (.bool true) ∧ Below w.heap.size w w' := by
  have H := hide h
  have H1 := hide h1
  clear h h1
  go_enter Trym.func19, Trym.ntmps19
  go_wp2
  go_loopw [5] (fun i wr => ∃ k : Nat, k ≤ n ∧ i = .int .i64 k ∧ Below w.heap.size w wr) (fun i _ => n - (intOf i).toNat)
  case atStart => exact ⟨0, by omega, rfl, Below.refl _ _⟩
  case round =>
    obtain ⟨k, hk, rfl, hb⟩ := hrel
    by_cases hlt : k < n
    · obtain ⟨b, off, rfl⟩ := (unhide H).at' k hlt
      obtain ⟨b1, off1, rfl⟩ := (unhide H1).at' k hlt
      have hx := keep_cell hb ((unhide H).cell b off rfl k hlt)
      have hy := keep_cell hb ((unhide H1).cell b1 off1 rfl k hlt)
      generalize zs.getD k 0 = x at *
      have g1 : (0 : Int) ≤ (k : Int) := by omega
      have g2 : (k : Int) < (n : Int) := by omega
      go_wp2_with fail
      go_quiet (fail)
      go_wp2
      go_roundw
      case rel => exact ⟨k + 1, by omega, by go_num, below_drewN hb _⟩
      case measure => simp [intOf]; omega
    · go_wp2
      go_ret
      exact ⟨rfl, hb⟩

set_option maxHeartbeats 1000000 in
theorem holds_any (a : Option Addr) (n cap : Nat) (zs : List Int) (x : Int) (w : World) (h : IsInts w a n zs) (hn : n ≤ 131072) :
    Calls Trym.prog 24 #[.slice a n cap, .int .i64 x] w fun e w' => e = .returned (.bool (decide (x ∈ zs))) ∧ w' = w := by
  have H := hide h
  clear h
  go_enter Trym.func24, Trym.ntmps24
  go_wp2
  go_loop [5] (fun i => ∃ k : Nat, k ≤ n ∧ i = .int .i64 k ∧ ∀ j, j < k → zs.getD j 0 ≠ x) (fun i => n - (intOf i).toNat)
  case atStart => exact ⟨0, by omega, rfl, by intro j hj; omega⟩
  case round =>
    obtain ⟨k, hk, rfl, hp⟩ := hrel
    have HP := hide hp
    clear hp
    by_cases hlt : k < n
    · obtain ⟨b, off, rfl⟩ := (unhide H).at' k hlt
      have hx := (unhide H).cell b off rfl k hlt
      have hmem : zs.getD k 0 ∈ zs := by
        rw [List.getD_eq_getElem?_getD, List.getElem?_eq_getElem (by rw [(unhide H).len]; exact hlt)]
        exact List.getElem_mem _
      have HM := hide hmem
      clear hmem
      generalize hye : zs.getD k 0 = y at *
      have HY := hide hye
      clear hye
      by_cases e : y = x
      · subst e
        go_wp2
        go_ret
        exact ⟨ret_bool (by simpa using unhide HM), rfl⟩
      · have e2 : (y == x) = false := by rw [beq_eq_false_iff_ne]; exact e
        go_wp2
        go_round
        case rel =>
          refine ⟨k + 1, by omega, by go_num, fun j hj => ?_⟩
          by_cases ej : j = k
          · subst ej; rw [unhide HY]; exact e
          · exact unhide HP j (by omega)
        case measure => simp [intOf]; omega
    · have hno : ¬ x ∈ zs := fun hm => by
        obtain ⟨j, hj⟩ := List.getElem?_of_mem hm
        have := unhide HP j (by have := (List.getElem?_eq_some_iff.1 hj).1; rw [(unhide H).len] at this; omega)
        rw [List.getD_eq_getElem?_getD, hj] at this
        exact this rfl
      have HN := hide hno
      clear hno
      go_wp2
      go_ret
      exact ⟨ret_bool (by simpa using unhide HN), rfl⟩

/-- Is each of za among zb? -/
def allIn (za zb : List Int) : Bool := za.all fun x => decide (x ∈ zb)
theorem allIn_no {za zb : List Int} {k : Nat} (hk : k < za.length) (h : decide (za.getD k 0 ∈ zb) = false) : allIn za zb = false := by
  rw [allIn, List.all_eq_false]
  refine ⟨za.getD k 0, ?_, by simpa using h⟩
  rw [List.getD_eq_getElem?_getD, List.getElem?_eq_getElem hk]
  exact List.getElem_mem _
theorem allIn_yes {za zb : List Int} (h : ∀ j, j < za.length → decide (za.getD j 0 ∈ zb) = true) : allIn za zb = true := by
  rw [allIn, List.all_eq_true]
  intro x hx
  obtain ⟨j, hj⟩ := List.getElem?_of_mem hx
  have := h j (List.getElem?_eq_some_iff.1 hj).1
  rw [List.getD_eq_getElem?_getD, hj] at this
  exact this

set_option maxHeartbeats 1000000 in
theorem within_any (a : Option Addr) (n cap : Nat) (za : List Int) (a1 : Option Addr) (n1 cap1 : Nat) (zb : List Int) (w : World) (h : IsInts w a n za) (h1 : IsInts w a1 n1 zb) (hn : n ≤ 131072) (hn1 : n1 ≤ 131072) :
    Calls Trym.prog 18 #[.slice a n cap, .slice a1 n1 cap1] w fun e w' => e = .returned (.bool (allIn za zb)) ∧ w' = w := by
  have H := hide h
  have H1 := hide h1
  clear h h1
  go_enter Trym.func18, Trym.ntmps18
  go_wp2
  go_loop [5] (fun i => ∃ k : Nat, k ≤ n ∧ i = .int .i64 k ∧ ∀ j, j < k → decide (za.getD j 0 ∈ zb) = true) (fun i => n - (intOf i).toNat)
  case atStart => exact ⟨0, by omega, rfl, by intro j hj; omega⟩
  case round =>
    obtain ⟨k, hk, rfl, hp⟩ := hrel
    have HP := hide hp
    clear hp
    by_cases hlt : k < n
    · obtain ⟨b, off, rfl⟩ := (unhide H).at' k hlt
      have hx := (unhide H).cell b off rfl k hlt
      have HN := hide (allIn_no (za := za) (zb := zb) (k := k) (by rw [(unhide H).len]; exact hlt))
      generalize hye : za.getD k 0 = y at *
      have HY := hide hye
      clear hye
      go_wp2_with fail
      refine (holds_any a1 n1 cap1 zb y _ (unhide H1) hn1).mono ?_
      rintro e w2 ⟨rfl, rfl⟩
      cases hd : decide (y ∈ zb)
      · have HD := hide hd
        clear hd
        go_wp2
        go_ret
        exact ⟨ret_bool (unhide HN (unhide HD)).symm, rfl⟩
      · have HD := hide hd
        clear hd
        go_wp2
        go_round
        case rel =>
          refine ⟨k + 1, by omega, by go_num, fun j hj => ?_⟩
          by_cases ej : j = k
          · subst ej; rw [unhide HY]; exact unhide HD
          · exact unhide HP j (by omega)
        case measure => simp [intOf]; omega
    · have HN := hide (allIn_yes (za := za) (zb := zb) (fun j hj => unhide HP j (by rw [(unhide H).len] at hj; omega)))
      go_wp2
      go_ret
      exact ⟨ret_bool (unhide HN).symm, rfl⟩

end Go.Proofs.Qxb6612482aMods
