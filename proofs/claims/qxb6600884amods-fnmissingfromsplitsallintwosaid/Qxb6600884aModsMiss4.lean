import Derived.Test.Qxb6600884aModsMiss3
import Derived.Deep.QuietTactic
import Derived.BigQuiet
namespace Go.Proofs.Qxb6600884aMods
open Go.RowKit Go.Maps

/-! ### The plain law -/
theorem filter_next {α : Type} (p : α → Bool) (l : List α) (k : Nat) (r : α) (hr : l[k]? = some r) (h : p r = true) : (l.filter p)[((l.take k).filter p).length]? = some r := by
  have e : l = l.take k ++ r :: l.drop (k + 1) := by
    have := (List.getElem?_eq_some_iff.1 hr)
    rw [← this.2, ← List.drop_eq_getElem_cons, List.take_append_drop]
  have e2 : l.filter p = (l.take k).filter p ++ r :: (l.drop (k + 1)).filter p := by
    conv => lhs; rw [e]
    rw [List.filter_append, List.filter_cons_of_pos h]
  rw [e2]
  simp

theorem missL_next (others all : List (ByteArray × ByteArray)) (k : Nat) (r : ByteArray × ByteArray) (hr : all[k]? = some r) (h : memB others r = false) : (missL others all)[(missL others (all.take k)).length]? = some r :=
  filter_next _ all k r hr (by simp [h])

theorem memB_missL (others all : List (ByteArray × ByteArray)) (r : ByteArray × ByteArray) (hr : r ∈ all) : memB (missL others all) r = !memB others r := by
  rw [Bool.eq_iff_iff, memB_iff]
  simp [missL, List.mem_filter, hr]

theorem missL_ne (others all : List (ByteArray × ByteArray)) (r m : ByteArray × ByteArray) (i : Nat) (h : memB others r = true) (hm : (missL others all)[i]? = some m) : r ≠ m := by
  have := List.mem_of_getElem? hm
  simp only [missL, List.mem_filter] at this
  intro e
  subst e
  simp [h] at this

theorem missL_short (others all : List (ByteArray × ByteArray)) (hs : ∀ r ∈ all, r.1.size ≤ maxLen ∧ r.2.size ≤ maxLen) : ∀ r ∈ missL others all, r.1.size ≤ maxLen ∧ r.2.size ≤ maxLen := fun r hr => hs r (List.mem_filter.1 hr).1

theorem zip_short (s0 s1 : List ByteArray) (h0 : ∀ i, (s0.getD i ByteArray.empty).size ≤ maxLen) (h1 : ∀ i, (s1.getD i ByteArray.empty).size ≤ maxLen) : ∀ r ∈ s0.zip s1, r.1.size ≤ maxLen ∧ r.2.size ≤ maxLen := by
  intro r hr
  obtain ⟨i, hi⟩ := List.getElem?_of_mem hr
  rw [List.getElem?_zip_eq_some] at hi
  have a := h0 i
  have b := h1 i
  rw [List.getD_eq_getElem?_getD, hi.1] at a
  rw [List.getD_eq_getElem?_getD, hi.2] at b
  exact ⟨a, b⟩

theorem IsStrs.below {w w' : World} {a : Option Addr} {n : Nat} {ss : List ByteArray} (h : IsStrs w a n ss) (hb : Below w.heap.size w w') : IsStrs w' a n ss :=
  ⟨h.len, h.small, h.at', fun b off e i hi => keep_cell hb (h.cell b off e i hi), h.short⟩

theorem IsRels.of_owns2 {w : World} {base n g : Nat} {rs : List (ByteArray × ByteArray)} (h : w.ownsRow base 29 2 (.slice (some ⟨g, 0, none⟩) n n) n (relCells rs)) (hs : ∀ r ∈ rs, r.1.size ≤ maxLen ∧ r.2.size ≤ maxLen) : IsRels w (some ⟨g, 0, none⟩) n rs := by
  obtain ⟨a, cap, hv, h2⟩ := IsRels.of_owns h hs
  simp only [Value.slice.injEq] at hv
  rw [hv.1]
  exact h2

theorem toList_ne {a b : ByteArray} (h : a ≠ b) : (a.toList == b.toList) = false := by
  rw [beq_eq_false_iff_ne]
  intro e
  apply h
  rw [ByteArray.toList_eq, ByteArray.toList_eq] at e
  exact ByteArray.ext (Array.toList_inj.1 e)
theorem pair_ne {r m : ByteArray × ByteArray} (h : r ≠ m) : (r.1.toList == m.1.toList) = false ∨ ((r.1.toList == m.1.toList) = true ∧ (r.2.toList == m.2.toList) = false) := by
  by_cases e : r.1 = m.1
  · right
    refine ⟨by rw [e]; exact beq_self_eq_true _, toList_ne fun e2 => h (Prod.ext e e2)⟩
  · exact .inl (toList_ne e)

set_option maxHeartbeats 4000000 in
theorem law3 (a0 : Option Addr) (n0 cap0 : Nat) (s0 : List ByteArray) (a1 : Option Addr) (n1 cap1 : Nat) (s1 : List ByteArray) (a2 : Option Addr) (n2 cap2 : Nat) (s2 : List ByteArray) (a3 : Option Addr) (n3 cap3 : Nat) (s3 : List ByteArray) (w : World)
    (h0 : IsStrs w a0 n0 s0) (h1 : IsStrs w a1 n1 s1) (h2 : IsStrs w a2 n2 s2) (h3 : IsStrs w a3 n3 s3) :
    Calls Trym.prog 3 #[.slice a0 n0 cap0, .slice a1 n1 cap1, .slice a2 n2 cap2, .slice a3 n3 cap3] w fun e w' => e = .returned (.bool true) ∧ Below w.heap.size w w' := by
  have H0 := hide h0
  have H1 := hide h1
  have H2 := hide h2
  have H3 := hide h3
  have l0 := h0.small
  have l1 := h1.small
  have l2 := h2.small
  have l3 := h3.small
  unfold maxLen at l0 l1 l2 l3
  clear h0 h1 h2 h3
  go_enter Trym.func3, Trym.ntmps3
  go_wp2_with fail
  refine (zzBytes8_any a0 n0 cap0 s0 a1 n1 cap1 s1 a2 n2 cap2 s2 a3 n3 cap3 s3 w (unhide H0) (unhide H1) (unhide H2) (unhide H3)).mono ?_
  rintro e w1 ⟨⟨b, rfl⟩, rfl⟩
  cases b
  · go_wp2
    go_ret
    exact ⟨rfl, Below.refl _ _⟩
  by_cases hbig : n0 ≤ 65536 ∧ n1 ≤ 65536 ∧ n2 ≤ 65536 ∧ n3 ≤ 65536
  · obtain ⟨b0, b1, b2, b3⟩ := hbig
    go_wp2_with fail
    refine (zzBytes_any a0 n0 cap0 s0 _ (unhide H0) b0).mono ?_
    rintro e w2 ⟨⟨q0, rfl, q00, q01⟩, rfl⟩
    go_wp2_with fail
    refine (zzBytes_any a1 n1 cap1 s1 _ (unhide H1) b1).mono ?_
    rintro e w2 ⟨⟨q1, rfl, q10, q11⟩, rfl⟩
    go_wp2_with fail
    refine (zzBytes_any a2 n2 cap2 s2 _ (unhide H2) b2).mono ?_
    rintro e w2 ⟨⟨q2, rfl, q20, q21⟩, rfl⟩
    go_wp2_with fail
    refine (zzBytes_any a3 n3 cap3 s3 _ (unhide H3) b3).mono ?_
    rintro e w ⟨⟨q3, rfl, q30, q31⟩, rfl⟩
    go_wp2_with fail
    · go_ret
      exact ⟨rfl, Below.refl _ _⟩
    obtain ⟨nA, hnA⟩ : ∃ n, n = if n1 < n0 then n1 else n0 := ⟨_, rfl⟩
    obtain ⟨nO, hnO⟩ : ∃ n, n = if n3 < n2 then n3 else n2 := ⟨_, rfl⟩
    refine (rels_any a0 n0 cap0 s0 a1 n1 cap1 s1 w (unhide H0) (unhide H1) b0 b1 nA hnA).mono ?_
    rintro e w1 ⟨gA, rfl, hown, hB1⟩
    have RA := hide (IsRels.of_owns2 hown (zip_short s0 s1 (unhide H0).short (unhide H1).short))
    have HnO := hide hnO
    have hA : nA ≤ 65536 := by rw [hnA]; split <;> omega
    have hO : nO ≤ 65536 := by rw [hnO]; split <;> omega
    clear hown hnA hnO l0 l1 l2 l3 q00 q01 q10 q11 q20 q21 q30 q31
    generalize s0.zip s1 = A at *
    go_wp2_with fail
    refine (rels_any a2 n2 cap2 s2 a3 n3 cap3 s3 w1 ((unhide H2).below hB1) ((unhide H3).below hB1) b2 b3 nO (unhide HnO)).mono ?_
    rintro e w2 ⟨gO, rfl, hown, hB2⟩
    have RO := hide (IsRels.of_owns2 hown (zip_short s2 s3 (unhide H2).short (unhide H3).short))
    replace RA := hide ((unhide RA).below hB2)
    replace hB2 := below_next hB1 hB2
    clear hown hB1
    generalize s2.zip s3 = O at *
    go_wp2_with fail
    refine (zzmiss_any (some ⟨gA, 0, none⟩) nA nA A (some ⟨gO, 0, none⟩) nO nO O w2 (unhide RA) (unhide RO) hA hO).mono ?_
    rintro e w3 ⟨vM, rfl, hown, hB3⟩
    obtain ⟨aM, capM, rfl, rM⟩ := IsRels.of_owns hown (missL_short O A (unhide RA).short)
    have RM := hide rM
    have hM : (missL O A).length ≤ 65536 := by have := missL_le O A; rw [(unhide RA).len] at this; omega
    replace RA := hide ((unhide RA).below hB3)
    replace hB3 := below_next hB2 hB3
    clear rM hown hB2 RO
    obtain ⟨nM, hnM⟩ : ∃ n, n = (missL O A).length := ⟨_, rfl⟩
    rw [← hnM] at RM hM ⊢
    have HnM := hide hnM
    clear hnM
    go_wp2_with fail
    refine (zzmiss_any (some ⟨gA, 0, none⟩) nA nA A aM nM capM (missL O A) w3 (unhide RA) (unhide RM) hA hM).mono ?_
    rintro e w4 ⟨vH, rfl, hown, hB4⟩
    obtain ⟨aH, capH, rfl, rH⟩ := IsRels.of_owns hown (missL_short _ A (unhide RA).short)
    have RH := hide rH
    have hH : (missL (missL O A) A).length ≤ 65536 := by have := missL_le (missL O A) A; rw [(unhide RA).len] at this; omega
    replace RA := hide ((unhide RA).below hB4)
    replace RM := hide ((unhide RM).below hB4)
    replace hB4 := below_next hB3 hB4
    clear rH hown hB3
    obtain ⟨nH, hnH⟩ : ∃ n, n = (missL (missL O A) A).length := ⟨_, rfl⟩
    rw [← hnH] at RH hH ⊢
    have HnH := hide hnH
    clear hnH
    go_wp2_with fail
    go_loopw [13, 14, 15] (fun i j k wr => ∃ q : Nat, q ≤ nA ∧ k = .int .i64 q ∧ i = .int .i64 (missL O (A.take q)).length ∧ j = .int .i64 (missL (missL O A) (A.take q)).length ∧ Below w4.heap.size w4 wr) (fun _ _ k _ => nA - (intOf k).toNat)
    case atStart => exact ⟨0, Nat.zero_le _, rfl, rfl, rfl, Below.refl _ _⟩
    case round =>
      obtain ⟨q, hq, rfl, rfl, rfl, hbr⟩ := hrel
      by_cases hlt : q < nA
      · obtain ⟨r, hr⟩ : ∃ r, A[q]? = some r := ⟨_, List.getElem?_eq_getElem (by rw [(unhide RA).len]; exact hlt)⟩
        have hc := (unhide RA).cell gA rfl q r hr
        have a0 := keep_cell hbr hc.1
        have a1 := keep_cell hbr hc.2
        clear hc
        cases hm : memB O r
        · have hn := missL_next O A q r hr hm
          have hiM : (missL O (A.take q)).length < nM := by rw [unhide HnM]; exact (List.getElem?_eq_some_iff.1 hn).1
          obtain ⟨gM, rfl⟩ := (unhide RM).at' _ hiM
          have hc := (unhide RM).cell gM rfl _ r hn
          have m0 := keep_cell hbr hc.1
          have m1 := keep_cell hbr hc.2
          have E1 := hide (congrArg List.length (missL_hit O hr hm))
          have E2 := hide (congrArg List.length (missL_miss (missL O A) hr (by rw [memB_missL O A r (List.mem_of_getElem? hr), hm]; rfl)))
          rw [List.length_append] at E1
          clear hc hn hr hm
          generalize (missL O (A.take q)).length = i at *
          generalize (missL (missL O A) (A.take q)).length = j at *
          have lt1 : (i : Int) < nM := by omega
          have g1 : (0 : Int) ≤ (i : Int) := by omega
          have g2 : (0 : Int) ≤ (q : Int) := by omega
          have g3 : (q : Int) < (nA : Int) := by omega
          go_wp2_with fail
          go_quiet (fail)
          go_wp2
          go_roundw
          case rel => exact ⟨q + 1, by omega, by go_num, by rw [unhide E1]; go_num, by rw [unhide E2], below_drewN hbr _⟩
          case measure => simp [intOf]; omega
        · have hmM : memB (missL O A) r = false := by rw [memB_missL O A r (List.mem_of_getElem? hr), hm]; rfl
          have hn := missL_next (missL O A) A q r hr hmM
          have hiH : (missL (missL O A) (A.take q)).length < nH := by rw [unhide HnH]; exact (List.getElem?_eq_some_iff.1 hn).1
          obtain ⟨gH, rfl⟩ := (unhide RH).at' _ hiH
          have hc := (unhide RH).cell gH rfl _ r hn
          have m0 := keep_cell hbr hc.1
          have m1 := keep_cell hbr hc.2
          have E1 := hide (congrArg List.length (missL_miss O hr hm))
          have E2 := hide (congrArg List.length (missL_hit (missL O A) hr hmM))
          rw [List.length_append] at E2
          have NE := hide (fun m i => missL_ne O A r m i hm)
          clear hc hn hr hm hmM
          generalize (missL O (A.take q)).length = i at *
          generalize (missL (missL O A) (A.take q)).length = j at *
          have lt1 : (j : Int) < nH := by omega
          have g1 : (0 : Int) ≤ (j : Int) := by omega
          have g2 : (0 : Int) ≤ (q : Int) := by omega
          have g3 : (q : Int) < (nA : Int) := by omega
          by_cases hi : i < nM
          · obtain ⟨m, hm⟩ : ∃ m, (missL O A)[i]? = some m := ⟨_, List.getElem?_eq_getElem (by rw [← unhide HnM]; exact hi)⟩
            obtain ⟨gM, rfl⟩ := (unhide RM).at' _ hi
            have hc := (unhide RM).cell gM rfl _ m hm
            have k0 := keep_cell hbr hc.1
            have k1 := keep_cell hbr hc.2
            have hne := pair_ne ((unhide NE) m i hm)
            clear hc hm NE
            have lt2 : (i : Int) < nM := by omega
            have g4 : (0 : Int) ≤ (i : Int) := by omega
            rcases hne with e1 | ⟨e1, e2⟩
            all_goals
              go_wp2_with fail
              go_quiet (fail)
              go_wp2_with fail
              go_quiet (fail)
              go_wp2
              go_roundw
              case rel => exact ⟨q + 1, by omega, by go_num, by rw [unhide E1], by rw [unhide E2]; go_num, below_drewN hbr _⟩
              case measure => simp [intOf]; omega
          · have lt2 : decide ((i : Int) < (nM : Int)) = false := by simp; omega
            clear NE
            go_wp2_with fail
            go_quiet (fail)
            go_wp2_with fail
            go_quiet (fail)
            go_wp2
            go_roundw
            case rel => exact ⟨q + 1, by omega, by go_num, by rw [unhide E1], by rw [unhide E2]; go_num, below_drewN hbr _⟩
            case measure => simp [intOf]; omega
      · obtain rfl : q = nA := by omega
        rw [List.take_of_length_le (by rw [(unhide RA).len]; omega), ← unhide HnM, ← unhide HnH]
        go_wp2
        go_ret
        exact ⟨rfl, hB4.trans (hbr.mono hB4.size)⟩
  · by_cases k0 : n0 ≤ 65536
    · by_cases k1 : n1 ≤ 65536
      · by_cases k2 : n2 ≤ 65536
        · have k3 : ¬ n3 ≤ 65536 := fun h => hbig ⟨k0, k1, k2, h⟩
          clear hbig
          go_wp2
          go_ret
          exact ⟨rfl, Below.refl _ _⟩
        · clear hbig
          go_wp2
          go_ret
          exact ⟨rfl, Below.refl _ _⟩
      · clear hbig
        go_wp2
        go_ret
        exact ⟨rfl, Below.refl _ _⟩
    · clear hbig
      go_wp2
      go_ret
      exact ⟨rfl, Below.refl _ _⟩

end Go.Proofs.Qxb6600884aMods
