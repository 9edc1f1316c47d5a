import Derived.Test.Qxb6605581aModsLaw0
namespace Go.Proofs.Qxb6605581aMods
open Go.RowKit Go.Maps

set_option maxHeartbeats 8000000 in
set_option maxRecDepth 100000 in
theorem law5 (a : Option Addr) (n cap : Nat) (cs : List Cl) (w : World) (h : IsCalls w a n cs) :
    Calls Trym.prog 5 #[.slice a n cap] w fun e w' => e = .returned (.bool true) ∧ Below w.heap.size w w' := by
  have H := hide h
  have l0 := h.small
  unfold maxLen at l0
  clear h
  go_enter Trym.func5, Trym.ntmps5
  go_wp2_with fail
  refine (bytes17_any a n cap cs _ (unhide H)).mono ?_
  rintro e w1 ⟨⟨b, rfl⟩, rfl⟩
  cases b
  · go_wp2
    go_ret
    exact ⟨rfl, Below.refl _ _⟩
  by_cases hn : 4096 < n
  · go_wp2
    go_ret
    exact ⟨rfl, Below.refl _ _⟩
  go_wp2_with fail
  go_loopw [3, 4] (fun q i wr => ∃ (k : Nat) (r : Int), k ≤ n ∧ i = .int .i64 k ∧ q = .int .i64 r ∧ Below w1.heap.size w1 wr) (fun _ i _ => n - (intOf i).toNat)
  case atStart => exact ⟨0, _, Nat.zero_le _, rfl, rfl, Below.refl _ _⟩
  case round => as_aux_lemma =>
    obtain ⟨k, r, hk, rfl, rfl, hB⟩ := hrel
    by_cases hlt : k < n
    · as_aux_lemma =>
        obtain ⟨b, off, rfl⟩ := (unhide H).at' k hlt
        obtain ⟨y, hy⟩ := (unhide H).get hlt
        have hc := ((unhide H).below hB).cell b off rfl k y hy
        obtain ⟨c0, c1, c2, c3⟩ := hc
        clear hy c2 c3
        go_wp2_with fail
        go_quiet (fail)
        go_wp2
        go_roundw
        case rel => exact ⟨k + 1, _, by omega, by go_num, rfl, below_drewN hB _⟩
        case measure => simp [intOf]; omega
    obtain rfl : k = n := by omega
    by_cases hr : 1048576 < r
    · go_wp2
      go_ret
      exact ⟨rfl, hB⟩
    go_wp2_with fail
    go_loopw [5] (fun i wr => ∃ k' : Nat, k' ≤ k ∧ i = .int .i64 k' ∧ (∀ j c, j < k' → cs[j]? = some c → c.a ≠ c.b) ∧ Below w1.heap.size w1 wr) (fun i _ => k - (intOf i).toNat)
    case atStart => exact ⟨0, Nat.zero_le _, rfl, fun j c hj => by omega, hB⟩
    case round => as_aux_lemma =>
      clear hB
      obtain ⟨k', hk', rfl, hne, hB⟩ := hrel
      replace hne := hide hne
      by_cases hlt : k' < k
      · as_aux_lemma =>
          obtain ⟨b, off, rfl⟩ := (unhide H).at' k' hlt
          obtain ⟨y, hy⟩ := (unhide H).get hlt
          have hc := ((unhide H).below hB).cell b off rfl k' y hy
          obtain ⟨c0, c1, c2, c3⟩ := hc
          replace hy := hide hy
          clear c2 c3
          by_cases e : y.a = y.b
          · have e2 := toList_same y.b
            rw [e] at c0
            go_wp2_with fail
            go_quiet (fail)
            go_wp2
            go_ret
            exact ⟨rfl, below_drewN hB _⟩
          · have e2 := toList_ne e
            go_wp2_with fail
            go_quiet (fail)
            go_wp2
            go_roundw
            case rel =>
              refine ⟨k' + 1, by omega, by go_num, fun j c hj hc => ?_, below_drewN hB _⟩
              by_cases ej : j = k'
              · subst ej; rw [unhide hy] at hc; cases hc; exact e
              · exact unhide hne j c (by omega) hc
            case measure => simp [intOf]; omega
      obtain rfl : k' = k := by omega
      have hdiff : Hid (∀ c ∈ cs, c.a ≠ c.b) := fun c hc => by
        obtain ⟨j, hj⟩ := List.getElem?_of_mem hc
        exact unhide hne j c (by have := (List.getElem?_eq_some_iff.1 hj).1; rw [(unhide H).len] at this; exact this) hj
      go_wp2_with fail
      go_loopw [7] (fun i wr2 => ∃ j : Nat, j ≤ k' ∧ i = .int .i64 j ∧ St wr2 w1.heap.size wr.heap.size (names (cs.take j)) (keys (names cs) (cs.take j)) (tot (names cs) (cs.take j)) (3 * j) ∧ Below w1.heap.size w1 wr2) (fun i _ => k' - (intOf i).toNat)
      case atStart => exact ⟨0, Nat.zero_le _, rfl, .inl ⟨rfl, rfl, hB.size, heap_at rfl⟩, hB.alloc hB.size _⟩
      case round => as_aux_lemma =>
        clear hB
        obtain ⟨j, hj, rfl, hst, hB⟩ := hrel
        replace hst := hide hst
        by_cases hlt : j < k'
        · as_aux_lemma =>
            obtain ⟨b, off, rfl⟩ := (unhide H).at' j hlt
            obtain ⟨y, hy⟩ := (unhide H).get hlt
            obtain ⟨c0, c1, c2, c3⟩ := (unhide H).cell b off rfl j y hy
            obtain ⟨z0, z1⟩ := (unhide H).short y (List.mem_of_getElem? hy)
            replace hy := hide hy
            replace z0 := hide z0
            replace z1 := hide z1
            go_wp2_with fail
            go_region_held3 (fun w' => w'.cell? ⟨b, off + j * 4, none⟩ = some (.string y.a) ∧ w'.cell? ⟨b, off + j * 4 + 1, none⟩ = some (.string y.b) ∧ w'.cell? ⟨b, off + j * 4 + 2, none⟩ = some (.float .f64 y.sa) ∧ w'.cell? ⟨b, off + j * 4 + 3, none⟩ = some (.float .f64 y.sb) ∧ Below w1.heap.size w1 w')
              (first | exact ⟨keep_cell (by assumption) c0, keep_cell (by assumption) c1, keep_cell (by assumption) c2, keep_cell (by assumption) c3, by assumption⟩ | exact ⟨keep_cell hB.drew c0, keep_cell hB.drew c1, keep_cell hB.drew c2, keep_cell hB.drew c3, hB.drew⟩)
              (first | (go_at_call 18; refine (addPair_any w1.heap.size _ cs j y _ (unhide hy) ?_ (by omega) (unhide z0) (unhide z1)).mono ?_; exact (unhide hst).below (Below.refl _ _).drew; rintro e w2 ⟨rfl, hst2, hB2⟩; replace hst2 := hide hst2; replace hB2 := hB.drew.trans hB2))
            go_wp2
            go_roundw
            case rel => exact ⟨j + 1, by omega, by go_num, unhide hst2, hB2⟩
            case measure => simp [intOf]; omega
        obtain rfl : j = k' := by omega
        go_wp2_with fail
        obtain ⟨W3, hW3⟩ : ∃ W3, W3 = wr := ⟨_, rfl⟩
        subst hW3
        rw [List.take_of_length_le (by rw [(unhide H).len]; omega)] at hst
        obtain ⟨i0, hi0, hz0, hz1, hz2⟩ := info_parts Trym.info9
        go_loopw [8, 9] (fun v i wr2 => ∃ m : Nat, m ≤ j ∧ i = .int .i64 m ∧ wr2.ownsRow W3.heap.size 9 1 v (names (cs.take m)).length ((names (cs.take m)).map Value.string) ∧ Below W3.heap.size W3 wr2) (fun _ i _ => j - (intOf i).toNat)
        case atStart => exact ⟨0, Nat.zero_le _, rfl, World.ownsRow_nil _ _ _ _, Below.refl _ _⟩
        case round => as_aux_lemma =>
          obtain ⟨m, hm, rfl, hown, hB4⟩ := hrel
          by_cases hlt : m < j
          · as_aux_lemma =>
              obtain ⟨a8, cap8, rfl, his⟩ := IsStrs.of_owns hown
              replace hown := hide hown
              clear his
              have hl0 : (names (cs.take m)).length ≤ 8192 := by
                have := names_len (cs.take m)
                have := List.length_take_le m cs
                omega
              obtain ⟨b, off, rfl⟩ := (unhide H).at' m hlt
              obtain ⟨y, hy⟩ := (unhide H).get hlt
              obtain ⟨c0, c1, _, _⟩ := (unhide H).cell b off rfl m y hy
              have d0 := keep_cell (below_next hB hB4) c0
              have hNm : Hid (names (cs.take (m + 1)) = addS (addS (names (cs.take m)) y.a) y.b) := by rw [take_snoc hy, names_snoc]; rfl
              clear hy c0
              cases hfA : findS (names (cs.take m)) y.a with
              | none =>
                have hfi : findI (names (cs.take m)) y.a = -1 := by rw [findI, hfA]
                replace hfA := hide hfA
                go_wp2_with fail
                refine (find_any a8 (names (cs.take m)).length cap8 (names (cs.take m)) y.a wr (strs_of (unhide hown)).1 (by omega)).mono ?_
                rintro e w5 ⟨he, hw⟩
                rw [hfi] at he
                subst he
                subst hw
                go_wp2_with (at_builtin; refine Hold.out ?_)
                refine Hold.of ?_
                refine wpList_append_lies _ rfl _ _ _ (by rfl) W3.heap.size 9 i0 _ 1 16 Trym.underlying48 hi0 hz0 hz1 hz2 rfl (by omega) (.slice a8 (names (cs.take m)).length cap8) (names (cs.take m)).length ((names (cs.take m)).map Value.string) (by rfl) ((unhide hown).alloc _) ⟨w5.heap.size, 0, none⟩ 1 1 [.string y.a] (by rfl) (by rfl) ?_ (by simp [Value.oneCell']) (by omega) (by unfold maxLen; omega) (by omega) ?_ _ rfl ?_
                · exact World.news_of_block (cs := #[.string y.a]) (t := 9) (fr := (0, 0)) (heap_at rfl)
                · have := hB4.size; simp; omega
                intro g6 cap6 w6 hown6 hgrow hat hlt2
                have hB6 : Below W3.heap.size W3 w6 := (hB4.alloc hB4.size _).grown hgrow (by have := hB4.size; simp; omega) (fun q hq => (owns_type (unhide hown) hq).1)
                replace hown6 : Hid (w6.ownsRow W3.heap.size 9 1 (.slice (some ⟨g6, 0, none⟩) ((names (cs.take m)).length + 1) cap6) (addS (names (cs.take m)) y.a).length ((addS (names (cs.take m)) y.a).map Value.string)) := hide (by rw [addS_new (unhide hfA)]; simpa using hown6)
                clear hgrow hat hlt2
                clear d0
                have d1 : w6.cell? ⟨b, off + m * 4 + 1, none⟩ = some (.string y.b) := keep_cell (below_next hB hB6) c1
                have hl1 : (addS (names (cs.take m)) y.a).length ≤ 8193 := by have := addS_len (names (cs.take m)) y.a; omega
                cases hfB : findS (addS (names (cs.take m)) y.a) y.b with
                | none =>
                  have hfi2 : findI (addS (names (cs.take m)) y.a) y.b = -1 := by rw [findI, hfB]
                  replace hfB := hide hfB
                  go_wp2_with fail
                  refine (find_any (some ⟨g6, 0, none⟩) ((names (cs.take m)).length + 1) cap6 (addS (names (cs.take m)) y.a) y.b w6 (strs_of (unhide hown6)).1 (by omega)).mono ?_
                  rintro e w7 ⟨he, hw⟩
                  rw [hfi2] at he
                  subst he
                  subst hw
                  go_wp2_with (at_builtin; refine Hold.out ?_)
                  refine Hold.of ?_
                  refine wpList_append_lies _ rfl _ _ _ (by rfl) W3.heap.size 9 i0 _ 1 16 Trym.underlying48 hi0 hz0 hz1 hz2 rfl (by omega) (.slice (some ⟨g6, 0, none⟩) ((names (cs.take m)).length + 1) cap6) (addS (names (cs.take m)) y.a).length ((addS (names (cs.take m)) y.a).map Value.string) (by rfl) ((unhide hown6).alloc _) ⟨w7.heap.size, 0, none⟩ 1 1 [.string y.b] (by rfl) (by rfl) ?_ (by simp [Value.oneCell']) (by omega) (by unfold maxLen; omega) (by omega) ?_ _ rfl ?_
                  · exact World.news_of_block (cs := #[.string y.b]) (t := 9) (fr := (0, 0)) (heap_at rfl)
                  · have := hB6.size; simp; omega
                  intro g8 cap9 w8 hown8 hgrow hat hlt2
                  have hB8 : Below W3.heap.size W3 w8 := (hB6.alloc hB6.size _).grown hgrow (by have := hB6.size; simp; omega) (fun q hq => (owns_type (unhide hown6) hq).1)
                  replace hown8 : Hid (w8.ownsRow W3.heap.size 9 1 (.slice (some ⟨g8, 0, none⟩) ((addS (names (cs.take m)) y.a).length + 1) cap9) (names (cs.take (m + 1))).length ((names (cs.take (m + 1))).map Value.string)) := hide (by rw [unhide hNm, addS_new (unhide hfB)]; simpa using hown8)
                  clear hgrow hat hlt2
                  clear d1
                  go_wp2
                  go_roundw
                  case rel => exact ⟨m + 1, by omega, by go_num, unhide hown8, hB8⟩
                  case measure => simp [intOf]; omega
                | some ib =>
                  have hfi2 : findI (addS (names (cs.take m)) y.a) y.b = ib := by rw [findI, hfB]
                  go_wp2_with fail
                  refine (find_any (some ⟨g6, 0, none⟩) ((names (cs.take m)).length + 1) cap6 (addS (names (cs.take m)) y.a) y.b w6 (strs_of (unhide hown6)).1 (by omega)).mono ?_
                  rintro e w7 ⟨he, hw⟩
                  rw [hfi2] at he
                  subst he
                  subst hw
                  have hown8 : Hid (w7.ownsRow W3.heap.size 9 1 (.slice (some ⟨g6, 0, none⟩) ((names (cs.take m)).length + 1) cap6) (names (cs.take (m + 1))).length ((names (cs.take (m + 1))).map Value.string)) := by rw [unhide hNm, addS_old hfB]; exact hown6
                  replace hfB := hide hfB
                  clear d1
                  go_wp2
                  go_roundw
                  case rel => exact ⟨m + 1, by omega, by go_num, unhide hown8, hB6⟩
                  case measure => simp [intOf]; omega
              | some ia =>
                have hfi : findI (names (cs.take m)) y.a = ia := by rw [findI, hfA]
                go_wp2_with fail
                refine (find_any a8 (names (cs.take m)).length cap8 (names (cs.take m)) y.a wr (strs_of (unhide hown)).1 (by omega)).mono ?_
                rintro e w5 ⟨he, hw⟩
                rw [hfi] at he
                subst he
                subst hw
                have hown6 : Hid (w5.ownsRow W3.heap.size 9 1 (.slice a8 (names (cs.take m)).length cap8) (addS (names (cs.take m)) y.a).length ((addS (names (cs.take m)) y.a).map Value.string)) := by rw [addS_old hfA]; exact hown
                replace hfA := hide hfA
                clear d0
                have d1 : w5.cell? ⟨b, off + m * 4 + 1, none⟩ = some (.string y.b) := keep_cell (below_next hB hB4) c1
                have hl1 : (addS (names (cs.take m)) y.a).length ≤ 8193 := by have := addS_len (names (cs.take m)) y.a; omega
                cases hfB : findS (addS (names (cs.take m)) y.a) y.b with
                | none =>
                  have hfi2 : findI (addS (names (cs.take m)) y.a) y.b = -1 := by rw [findI, hfB]
                  replace hfB := hide hfB
                  go_wp2_with fail
                  refine (find_any a8 (names (cs.take m)).length cap8 (addS (names (cs.take m)) y.a) y.b w5 (strs_of (unhide hown6)).1 (by omega)).mono ?_
                  rintro e w7 ⟨he, hw⟩
                  rw [hfi2] at he
                  subst he
                  subst hw
                  go_wp2_with (at_builtin; refine Hold.out ?_)
                  refine Hold.of ?_
                  refine wpList_append_lies _ rfl _ _ _ (by rfl) W3.heap.size 9 i0 _ 1 16 Trym.underlying48 hi0 hz0 hz1 hz2 rfl (by omega) (.slice a8 (names (cs.take m)).length cap8) (addS (names (cs.take m)) y.a).length ((addS (names (cs.take m)) y.a).map Value.string) (by rfl) ((unhide hown6).alloc _) ⟨w7.heap.size, 0, none⟩ 1 1 [.string y.b] (by rfl) (by rfl) ?_ (by simp [Value.oneCell']) (by omega) (by unfold maxLen; omega) (by omega) ?_ _ rfl ?_
                  · exact World.news_of_block (cs := #[.string y.b]) (t := 9) (fr := (0, 0)) (heap_at rfl)
                  · have := hB4.size; simp; omega
                  intro g8 cap9 w8 hown8 hgrow hat hlt2
                  have hB8 : Below W3.heap.size W3 w8 := (hB4.alloc hB4.size _).grown hgrow (by have := hB4.size; simp; omega) (fun q hq => (owns_type (unhide hown6) hq).1)
                  replace hown8 : Hid (w8.ownsRow W3.heap.size 9 1 (.slice (some ⟨g8, 0, none⟩) ((addS (names (cs.take m)) y.a).length + 1) cap9) (names (cs.take (m + 1))).length ((names (cs.take (m + 1))).map Value.string)) := hide (by rw [unhide hNm, addS_new (unhide hfB)]; simpa using hown8)
                  clear hgrow hat hlt2
                  clear d1
                  go_wp2
                  go_roundw
                  case rel => exact ⟨m + 1, by omega, by go_num, unhide hown8, hB8⟩
                  case measure => simp [intOf]; omega
                | some ib =>
                  have hfi2 : findI (addS (names (cs.take m)) y.a) y.b = ib := by rw [findI, hfB]
                  go_wp2_with fail
                  refine (find_any a8 (names (cs.take m)).length cap8 (addS (names (cs.take m)) y.a) y.b w5 (strs_of (unhide hown6)).1 (by omega)).mono ?_
                  rintro e w7 ⟨he, hw⟩
                  rw [hfi2] at he
                  subst he
                  subst hw
                  have hown8 : Hid (w7.ownsRow W3.heap.size 9 1 (.slice a8 (names (cs.take m)).length cap8) (names (cs.take (m + 1))).length ((names (cs.take (m + 1))).map Value.string)) := by rw [unhide hNm, addS_old hfB]; exact hown6
                  replace hfB := hide hfB
                  clear d1
                  go_wp2
                  go_roundw
                  case rel => exact ⟨m + 1, by omega, by go_num, unhide hown8, hB4⟩
                  case measure => simp [intOf]; omega
          obtain rfl : m = j := by omega
          rw [List.take_of_length_le (by rw [(unhide H).len]; omega)] at hown
          obtain ⟨N, hN⟩ : ∃ N, N = names cs := ⟨_, rfl⟩
          have hl0 : N.length ≤ 8192 := by
            have := names_len cs
            have := (unhide H).len
            rw [hN]; omega
          have hnd : Hid (N.Nodup) := by rw [hN]; exact names_nodup cs
          have hmem : Hid (∀ (k : Nat) (c : Cl), cs[k]? = some c → findS N c.a = some (idx N c.a) ∧ findS N c.b = some (idx N c.b)) := fun k c hc => by rw [hN]; exact names_mem hc
          have hsh : Hid (∀ x ∈ N, x.size ≤ maxLen) := fun x hx => by
            rw [hN] at hx
            obtain ⟨c, hc, e⟩ := names_from hx
            have := (unhide H).short c hc
            rcases e with rfl | rfl
            · exact this.1
            · exact this.2
          rw [← hN] at hown hst
          clear hN
          obtain ⟨a8, cap8, rfl, his⟩ := IsStrs.of_owns hown
          have hst4 := hide ((unhide hst).below hB4)
          have hBw := below_next hB hB4
          replace his := hide his
          clear hown hB hB4 hst
          go_wp2_with fail
          refine (names_any _ _ _ _ _ _ wr (unhide hst4)).mono ?_
          rintro e W4 ⟨a10, cap10, rfl, hs10, rfl⟩
          replace hs10 := hide hs10
          go_wp2_with fail
          go_loopw [11] (fun i wr2 => ∃ q : Nat, q ≤ N.length ∧ i = .int .i64 q ∧ Below W4.heap.size W4 wr2) (fun i _ => N.length - (intOf i).toNat)
          case atStart => exact ⟨0, Nat.zero_le _, rfl, Below.refl _ _⟩
          case round => as_aux_lemma =>
            obtain ⟨q, hq, rfl, hB5⟩ := hrel
            by_cases hlt : q < N.length
            · as_aux_lemma =>
                obtain ⟨g8, rfl⟩ := (unhide his).at' q hlt
                obtain ⟨g10, rfl⟩ := (unhide hs10).at' q hlt
                obtain ⟨x, hx⟩ := (unhide his).get hlt
                have d8 := ((unhide his).below hB5).cell g8 rfl q x hx
                have d10 := ((unhide hs10).below hB5).cell g10 rfl q x hx
                have e2 := toList_same x
                clear hx
                go_wp2_with fail
                go_quiet (fail)
                go_wp2
                go_roundw
                case rel => exact ⟨q + 1, by omega, by go_num, below_drewN hB5 _⟩
                case measure => simp [intOf]; omega
            obtain rfl : q = N.length := by omega
            go_wp2_with fail
            refine (ilen_any _ _ _ _ _ _ wr ((unhide hst4).below hB5)).mono ?_
            rintro e W5 ⟨rfl, rfl⟩
            go_wp2_with fail
            go_loop [12] (fun i => ∃ q : Nat, q ≤ N.length ∧ i = .int .i64 q) (fun i => N.length - (intOf i).toNat)
            case atStart => exact ⟨0, Nat.zero_le _, rfl⟩
            case round => as_aux_lemma =>
              obtain ⟨q, hq, rfl⟩ := hrel
              by_cases hlt : q < N.length
              · as_aux_lemma =>
                  obtain ⟨g8, rfl⟩ := (unhide his).at' q hlt
                  obtain ⟨x, hx⟩ := (unhide his).get hlt
                  have d8 := ((unhide his).below hB5).cell g8 rfl q x hx
                  have hfx := findS_nodup (unhide hnd) hx
                  have hxs : x.size ≤ maxLen := unhide hsh x (List.mem_of_getElem? hx)
                  clear hx
                  go_wp2_with fail
                  refine (index_any _ _ _ _ _ _ W5 ((unhide hst4).below hB5) x q hxs hfx).mono ?_
                  rintro e W6 ⟨rfl, rfl⟩
                  go_wp2
                  go_round
                  case rel => exact ⟨q + 1, by omega, by go_num⟩
                  case measure => simp [intOf]; omega
              obtain rfl : q = N.length := by omega
              go_wp2_with fail
              have hst5 := hide ((unhide hst4).below hB5)
              have hBw5 := below_next hBw hB5
              have his5 := hide ((unhide his).below hB5)
              obtain ⟨i3, hi3, hy0, hy1, hy2⟩ := info_parts Trym.info3
              clear hst4 hBw his hs10 hB5 hsh
              go_loopw [15, 16, 17] (fun v15 v16 i wr2 => ∃ k : Nat, k ≤ m ∧ i = .int .i64 k ∧ wr2.ownsRow W5.heap.size 3 1 v15 (keys N (cs.take k)).length (natV ((keys N (cs.take k)).map (·.1))) ∧ wr2.ownsRow W5.heap.size 3 1 v16 (keys N (cs.take k)).length (natV ((keys N (cs.take k)).map (·.2))) ∧ Apart v15 v16 ∧ Below W5.heap.size W5 wr2) (fun _ _ i _ => m - (intOf i).toNat)
              case atStart => exact ⟨0, Nat.zero_le _, rfl, World.ownsRow_nil _ _ _ _, World.ownsRow_nil _ _ _ _, apart_nil, Below.refl _ _⟩
              case round => as_aux_lemma =>
                obtain ⟨k, hk, rfl, h15, h16, hap, hB7⟩ := hrel
                by_cases hlt : k < m
                · as_aux_lemma =>
                    obtain ⟨b, off, rfl⟩ := (unhide H).at' k hlt
                    obtain ⟨y, hy⟩ := (unhide H).get hlt
                    obtain ⟨c0, c1, _, _⟩ := (unhide H).cell b off rfl k y hy
                    have d0 := keep_cell (below_next hBw5 hB7) c0
                    have d1 := keep_cell (below_next hBw5 hB7) c1
                    obtain ⟨fA, fB⟩ := unhide hmem k y hy
                    have hkk : keys N (cs.take (k + 1)) = addK (keys N (cs.take k)) (ckey N y) := by rw [take_snoc hy, keys_snoc]
                    have hkl : (keys N (cs.take k)).length ≤ 4096 := by
                      have := keys_len N (cs.take k)
                      have := List.length_take_le k cs
                      omega
                    have hia : findI N y.a = ((idx N y.a : Nat) : Int) := by rw [findI, fA]
                    have hib : findI N y.b = ((idx N y.b : Nat) : Int) := by rw [findI, fB]
                    have lA : idx N y.a < N.length := findS_lt fA
                    have lB : idx N y.b < N.length := findS_lt fB
                    rw [ckey] at hkk
                    obtain ⟨ia, eia⟩ : ∃ ia, ia = idx N y.a := ⟨_, rfl⟩
                    obtain ⟨ib, eib⟩ : ∃ ib, ib = idx N y.b := ⟨_, rfl⟩
                    obtain ⟨K, hK⟩ : ∃ K, K = keys N (cs.take k) := ⟨_, rfl⟩
                    rw [← eia] at hia lA hkk
                    rw [← eib] at hib lB hkk
                    rw [← hK] at hkk hkl h15 h16
                    clear eia eib hK c0 c1 hy fA fB
                    obtain ⟨a15, cap15, rfl, hs15⟩ := IsNats.of_owns h15
                    obtain ⟨a16, cap16, rfl, hs16⟩ := IsNats.of_owns h16
                    replace h15 := hide h15
                    replace h16 := hide h16
                    replace hs15 := hide hs15
                    replace hs16 := hide hs16
                    replace hap := hide hap
                    go_wp2_with fail
                    refine (find_any a8 N.length cap8 N y.a wr ((unhide his5).below hB7) (by omega)).mono ?_
                    rintro e w6 ⟨he, hw⟩
                    rw [hia] at he
                    subst he
                    subst hw
                    go_wp2_with fail
                    refine (find_any a8 N.length cap8 N y.b w6 ((unhide his5).below hB7) (by omega)).mono ?_
                    rintro e w7 ⟨he, hw⟩
                    rw [hib] at he
                    subst he
                    subst hw
                    clear d0 d1
                    by_cases hsw : ib < ia
                    · rw [pk, if_pos hsw] at hkk
                      replace hkk := hide hkk
                      go_wp2_with fail
                      go_loop [20, 21] (fun s i => ∃ q : Nat, q ≤ K.length ∧ s = .bool false ∧ i = .int .i64 q ∧ ∀ t, t < q → K[t]? ≠ some (ib, ia)) (fun _ i => K.length - (intOf i).toNat)
                      case atStart => exact ⟨0, Nat.zero_le _, rfl, rfl, fun t ht => by omega⟩
                      case round => as_aux_lemma =>
                        obtain ⟨q, hq, rfl, rfl, hno⟩ := hrel
                        replace hno := hide hno
                        by_cases hlt2 : q < K.length
                        · obtain ⟨g15, rfl⟩ := (unhide hs15).at' q hlt2
                          obtain ⟨g16, rfl⟩ := (unhide hs16).at' q hlt2
                          obtain ⟨⟨p1, p2⟩, hp⟩ : ∃ p, K[q]? = some p := ⟨_, List.getElem?_eq_getElem hlt2⟩
                          have e15 := (unhide hs15).cell g15 rfl q p1 (by rw [List.getElem?_map, hp]; rfl)
                          have e16 := (unhide hs16).cell g16 rfl q p2 (by rw [List.getElem?_map, hp]; rfl)
                          by_cases e1 : p1 = ib
                          · by_cases e2 : p2 = ia
                            · subst e1
                              subst e2
                              have hin := hide (List.mem_of_getElem? hp)
                              clear hp
                              go_wp2
                              go_roundw
                              case rel =>
                                refine ⟨k + 1, by omega, by go_num, ?_⟩
                                rw [unhide hkk, addK_in (unhide hin)]
                                exact ⟨unhide h15, unhide h16, unhide hap, hB7⟩
                              case measure => simp [intOf]; omega
                            · have x2 : (((p2 : Nat) : Int) == ((ia : Nat) : Int)) = false := by simp; omega
                              subst e1
                              replace hp := hide hp
                              go_wp2
                              go_round
                              case rel =>
                                refine ⟨q + 1, by omega, rfl, by go_num, fun t ht => ?_⟩
                                by_cases et : t = q
                                · subst et; rw [unhide hp]; intro e; cases e; exact e2 rfl
                                · exact unhide hno t (by omega)
                              case measure => simp [intOf]; omega
                          · have x1 : (((p1 : Nat) : Int) == ((ib : Nat) : Int)) = false := by simp; omega
                            replace hp := hide hp
                            go_wp2
                            go_round
                            case rel =>
                              refine ⟨q + 1, by omega, rfl, by go_num, fun t ht => ?_⟩
                              by_cases et : t = q
                              · subst et; rw [unhide hp]; intro e; cases e; exact e1 rfl
                              · exact unhide hno t (by omega)
                            case measure => simp [intOf]; omega
                        obtain rfl : q = K.length := by omega
                        have hnin : Hid ((ib, ia) ∉ K) := hide fun hm => by
                          obtain ⟨t, ht⟩ := List.getElem?_of_mem hm
                          exact unhide hno t ((List.getElem?_eq_some_iff.1 ht).1) ht
                        have hap2 : Hid (Apart _ _) := hide (unhide hap).symm
                        clear hno
                        go_wp2_with (at_builtin; refine Hold.out ?_)
                        refine Hold.of ?_
                        refine wpList_append_lies _ rfl _ _ _ (by rfl) W5.heap.size 3 i3 _ 1 8 Trym.underlying31 hi3 hy0 hy1 hy2 rfl (by omega) (.slice a15 K.length cap15) K.length (natV (K.map (·.1))) (by rfl) ((unhide h15).alloc _) ⟨w7.heap.size, 0, none⟩ 1 1 [.int .i64 ib] (by rfl) (by rfl) ?_ (by simp [Value.oneCell']) (by omega) (by unfold maxLen; omega) (by omega) ?_ _ rfl ?_
                        · exact World.news_of_block (cs := #[.int .i64 ib]) (t := 3) (fr := (0, 0)) (heap_at rfl)
                        · have := hB7.size; simp; omega
                        intro g8 cap18 w8 own8 hgrow hat hlt2
                        have hB8 : Below W5.heap.size W5 w8 := (hB7.alloc hB7.size _).grown hgrow (by have := hB7.size; simp; omega) (fun q hq => (owns_type (unhide h15) hq).1)
                        have h16b := hide (rows_kept (unhide h16) (unhide hap) hgrow)
                        have hapb : Hid (Apart (.slice (some ⟨g8, 0, none⟩) (K.length + 1) cap18) _) := hide (rows_apart (unhide h16) (unhide hap) hat)
                        replace own8 := hide own8
                        clear hgrow hat hlt2
                        have hapc := hide (unhide hapb).symm
                        go_wp2_with (at_builtin; refine Hold.out ?_)
                        refine Hold.of ?_
                        refine wpList_append_lies _ rfl _ _ _ (by rfl) W5.heap.size 3 i3 _ 1 8 Trym.underlying31 hi3 hy0 hy1 hy2 rfl (by omega) (.slice a16 K.length cap16) K.length (natV (K.map (·.2))) (by rfl) ((unhide h16b).alloc _) ⟨w8.heap.size, 0, none⟩ 1 1 [.int .i64 ia] (by rfl) (by rfl) ?_ (by simp [Value.oneCell']) (by omega) (by unfold maxLen; omega) (by omega) ?_ _ rfl ?_
                        · exact World.news_of_block (cs := #[.int .i64 ia]) (t := 3) (fr := (0, 0)) (heap_at rfl)
                        · have := hB8.size; simp; omega
                        intro g9 cap19 w9 own9 hgrow hat hlt2
                        have hB9 : Below W5.heap.size W5 w9 := (hB8.alloc hB8.size _).grown hgrow (by have := hB8.size; simp; omega) (fun q hq => (owns_type (unhide h16b) hq).1)
                        have own8b := hide (rows_kept (unhide own8) (unhide hapc) hgrow)
                        have hapd : Hid (Apart (.slice (some ⟨g9, 0, none⟩) (K.length + 1) cap19) _) := hide (rows_apart (unhide own8) (unhide hapc) hat)
                        replace own9 := hide own9
                        clear hgrow hat hlt2
                        go_wp2
                        go_roundw
                        case rel =>
                          refine ⟨k + 1, by omega, by go_num, ?_⟩
                          rw [unhide hkk, addK_new (unhide hnin), List.length_append, List.map_append, List.map_append, natV_snoc, natV_snoc]
                          exact ⟨unhide own8b, unhide own9, (unhide hapd).symm, hB9⟩
                        case measure => simp [intOf]; omega

                    · rw [pk, if_neg hsw] at hkk
                      replace hkk := hide hkk
                      go_wp2_with fail
                      go_loop [20, 21] (fun s i => ∃ q : Nat, q ≤ K.length ∧ s = .bool false ∧ i = .int .i64 q ∧ ∀ t, t < q → K[t]? ≠ some (ia, ib)) (fun _ i => K.length - (intOf i).toNat)
                      case atStart => exact ⟨0, Nat.zero_le _, rfl, rfl, fun t ht => by omega⟩
                      case round => as_aux_lemma =>
                        obtain ⟨q, hq, rfl, rfl, hno⟩ := hrel
                        replace hno := hide hno
                        by_cases hlt2 : q < K.length
                        · obtain ⟨g15, rfl⟩ := (unhide hs15).at' q hlt2
                          obtain ⟨g16, rfl⟩ := (unhide hs16).at' q hlt2
                          obtain ⟨⟨p1, p2⟩, hp⟩ : ∃ p, K[q]? = some p := ⟨_, List.getElem?_eq_getElem hlt2⟩
                          have e15 := (unhide hs15).cell g15 rfl q p1 (by rw [List.getElem?_map, hp]; rfl)
                          have e16 := (unhide hs16).cell g16 rfl q p2 (by rw [List.getElem?_map, hp]; rfl)
                          by_cases e1 : p1 = ia
                          · by_cases e2 : p2 = ib
                            · subst e1
                              subst e2
                              have hin := hide (List.mem_of_getElem? hp)
                              clear hp
                              go_wp2
                              go_roundw
                              case rel =>
                                refine ⟨k + 1, by omega, by go_num, ?_⟩
                                rw [unhide hkk, addK_in (unhide hin)]
                                exact ⟨unhide h15, unhide h16, unhide hap, hB7⟩
                              case measure => simp [intOf]; omega
                            · have x2 : (((p2 : Nat) : Int) == ((ib : Nat) : Int)) = false := by simp; omega
                              subst e1
                              replace hp := hide hp
                              go_wp2
                              go_round
                              case rel =>
                                refine ⟨q + 1, by omega, rfl, by go_num, fun t ht => ?_⟩
                                by_cases et : t = q
                                · subst et; rw [unhide hp]; intro e; cases e; exact e2 rfl
                                · exact unhide hno t (by omega)
                              case measure => simp [intOf]; omega
                          · have x1 : (((p1 : Nat) : Int) == ((ia : Nat) : Int)) = false := by simp; omega
                            replace hp := hide hp
                            go_wp2
                            go_round
                            case rel =>
                              refine ⟨q + 1, by omega, rfl, by go_num, fun t ht => ?_⟩
                              by_cases et : t = q
                              · subst et; rw [unhide hp]; intro e; cases e; exact e1 rfl
                              · exact unhide hno t (by omega)
                            case measure => simp [intOf]; omega
                        obtain rfl : q = K.length := by omega
                        have hnin : Hid ((ia, ib) ∉ K) := hide fun hm => by
                          obtain ⟨t, ht⟩ := List.getElem?_of_mem hm
                          exact unhide hno t ((List.getElem?_eq_some_iff.1 ht).1) ht
                        have hap2 : Hid (Apart _ _) := hide (unhide hap).symm
                        clear hno
                        go_wp2_with (at_builtin; refine Hold.out ?_)
                        refine Hold.of ?_
                        refine wpList_append_lies _ rfl _ _ _ (by rfl) W5.heap.size 3 i3 _ 1 8 Trym.underlying31 hi3 hy0 hy1 hy2 rfl (by omega) (.slice a15 K.length cap15) K.length (natV (K.map (·.1))) (by rfl) ((unhide h15).alloc _) ⟨w7.heap.size, 0, none⟩ 1 1 [.int .i64 ia] (by rfl) (by rfl) ?_ (by simp [Value.oneCell']) (by omega) (by unfold maxLen; omega) (by omega) ?_ _ rfl ?_
                        · exact World.news_of_block (cs := #[.int .i64 ia]) (t := 3) (fr := (0, 0)) (heap_at rfl)
                        · have := hB7.size; simp; omega
                        intro g8 cap18 w8 own8 hgrow hat hlt2
                        have hB8 : Below W5.heap.size W5 w8 := (hB7.alloc hB7.size _).grown hgrow (by have := hB7.size; simp; omega) (fun q hq => (owns_type (unhide h15) hq).1)
                        have h16b := hide (rows_kept (unhide h16) (unhide hap) hgrow)
                        have hapb : Hid (Apart (.slice (some ⟨g8, 0, none⟩) (K.length + 1) cap18) _) := hide (rows_apart (unhide h16) (unhide hap) hat)
                        replace own8 := hide own8
                        clear hgrow hat hlt2
                        have hapc := hide (unhide hapb).symm
                        go_wp2_with (at_builtin; refine Hold.out ?_)
                        refine Hold.of ?_
                        refine wpList_append_lies _ rfl _ _ _ (by rfl) W5.heap.size 3 i3 _ 1 8 Trym.underlying31 hi3 hy0 hy1 hy2 rfl (by omega) (.slice a16 K.length cap16) K.length (natV (K.map (·.2))) (by rfl) ((unhide h16b).alloc _) ⟨w8.heap.size, 0, none⟩ 1 1 [.int .i64 ib] (by rfl) (by rfl) ?_ (by simp [Value.oneCell']) (by omega) (by unfold maxLen; omega) (by omega) ?_ _ rfl ?_
                        · exact World.news_of_block (cs := #[.int .i64 ib]) (t := 3) (fr := (0, 0)) (heap_at rfl)
                        · have := hB8.size; simp; omega
                        intro g9 cap19 w9 own9 hgrow hat hlt2
                        have hB9 : Below W5.heap.size W5 w9 := (hB8.alloc hB8.size _).grown hgrow (by have := hB8.size; simp; omega) (fun q hq => (owns_type (unhide h16b) hq).1)
                        have own8b := hide (rows_kept (unhide own8) (unhide hapc) hgrow)
                        have hapd : Hid (Apart (.slice (some ⟨g9, 0, none⟩) (K.length + 1) cap19) _) := hide (rows_apart (unhide own8) (unhide hapc) hat)
                        replace own9 := hide own9
                        clear hgrow hat hlt2
                        go_wp2
                        go_roundw
                        case rel =>
                          refine ⟨k + 1, by omega, by go_num, ?_⟩
                          rw [unhide hkk, addK_new (unhide hnin), List.length_append, List.map_append, List.map_append, natV_snoc, natV_snoc]
                          exact ⟨unhide own8b, unhide own9, (unhide hapd).symm, hB9⟩
                        case measure => simp [intOf]; omega

                obtain rfl : k = m := by omega
                rw [List.take_of_length_le (by rw [(unhide H).len]; omega)] at h15 h16
                go_wp2_with fail
                obtain ⟨K, hK⟩ : ∃ K, K = keys N cs := ⟨_, rfl⟩
                have hkl : K.length ≤ 4096 := by
                  have := keys_len N cs
                  have := (unhide H).len
                  rw [hK]; omega
                have hKm := hide (key_ok (unhide hmem) (unhide hdiff))
                have hst7 := (unhide hst5).below hB7
                rw [← hK] at h15 h16 hst7 hKm
                clear hK hst5
                obtain ⟨cnt, hcnt⟩ : ∃ cnt, cnt = 3 * k := ⟨_, rfl⟩
                rw [← hcnt] at hst7
                clear hcnt
                obtain ⟨a15, cap15, rfl, hs15⟩ := IsNats.of_owns h15
                obtain ⟨a16, cap16, rfl, hs16⟩ := IsNats.of_owns h16
                replace hs15 := hide hs15
                replace hs16 := hide hs16
                replace hst7 := hide hst7
                clear h15 h16 hap
                refine (plen_any _ _ _ _ _ _ wr (unhide hst7)).mono ?_
                rintro e W7 ⟨rfl, rfl⟩
                go_wp2_with fail
                go_loopw [22] (fun i wr2 => ∃ q : Nat, q ≤ K.length ∧ i = .int .i64 q ∧ Below W7.heap.size W7 wr2) (fun i _ => K.length - (intOf i).toNat)
                case atStart => exact ⟨0, Nat.zero_le _, rfl, Below.refl _ _⟩
                case round => as_aux_lemma =>
                  obtain ⟨q, hq, rfl, hB8⟩ := hrel
                  by_cases hlt : q < K.length
                  · obtain ⟨g15, rfl⟩ := (unhide hs15).at' q hlt
                    obtain ⟨g16, rfl⟩ := (unhide hs16).at' q hlt
                    obtain ⟨⟨p1, p2⟩, hp⟩ : ∃ p, K[q]? = some p := ⟨_, List.getElem?_eq_getElem hlt⟩
                    have C15 := (unhide hs15).cell g15 rfl q p1 (by rw [List.getElem?_map, hp]; rfl)
                    have C16 := (unhide hs16).cell g16 rfl q p2 (by rw [List.getElem?_map, hp]; rfl)
                    have hin := hide (List.mem_of_getElem? hp)
                    obtain ⟨x, y, hx, hy, h12⟩ := unhide hKm _ (unhide hin)
                    replace h12 : p1 < p2 := h12
                    have l1 : p1 < N.length := (List.getElem?_eq_some_iff.1 hx).1
                    have l2 : p2 < N.length := (List.getElem?_eq_some_iff.1 hy).1
                    obtain ⟨g8, rfl⟩ := (unhide his5).at' p1 l1
                    have f1 := keep_cell (below_next hB7 hB8) ((unhide his5).cell g8 rfl p1 x hx)
                    have f2 := keep_cell (below_next hB7 hB8) ((unhide his5).cell g8 rfl p2 y hy)
                    have e15 := keep_cell hB8 C15
                    have e16 := keep_cell hB8 C16
                    replace hx := hide hx
                    replace hy := hide hy
                    have hxy : x ≠ y := fun e => by
                      have h1 := findS_nodup (unhide hnd) (unhide hx)
                      have h2 := findS_nodup (unhide hnd) (unhide hy)
                      rw [e, h2] at h1
                      cases h1
                      omega
                    replace hxy := hide hxy
                    clear hp
                    go_wp2_with fail
                    go_quiet (fail)
                    go_wp2_with fail
                    clear f1 f2 e15 e16
                    go_loopw [25, 26, 27] (fun f g i wr2 => ∃ (kk u v : Nat), kk ≤ k ∧ i = .int .i64 kk ∧ f = .float .f64 u ∧ g = .float .f64 v ∧ fl (tot N (cs.take kk) (p1, p2)).1 u ∧ fl (tot N (cs.take kk) (p1, p2)).2 v ∧ Below W7.heap.size W7 wr2) (fun _ _ i _ => k - (intOf i).toNat)
                    case atStart => exact ⟨0, 0, 0, Nat.zero_le _, rfl, rfl, rfl, rfl, rfl, below_drewN hB8 _⟩
                    case round => as_aux_lemma =>
                      clear hB8
                      obtain ⟨kk, u, v, hkk, rfl, rfl, rfl, hu, hv, hB9⟩ := hrel
                      by_cases hlt3 : kk < k
                      · as_aux_lemma =>
                          obtain ⟨b, off, rfl⟩ := (unhide H).at' kk hlt3
                          obtain ⟨c, hc⟩ := (unhide H).get hlt3
                          obtain ⟨c0, c1, c2, c3⟩ := ((unhide H).below (below_next (below_next hBw5 hB7) hB9)).cell b off rfl kk c hc
                          have htt := hide (show tot N (cs.take (kk + 1)) (p1, p2) = _ by rw [take_snoc hc, tot_snoc])
                          have hmc := hide (unhide hmem kk c hc)
                          clear hc
                          obtain ⟨ts, hts⟩ : ∃ ts, ts = tot N (cs.take kk) (p1, p2) := ⟨_, rfl⟩
                          rw [← hts] at hu hv htt
                          clear hts
                          by_cases eA : c.a = x
                          · have eA2 : c.a ≠ y := fun e => unhide hxy (eA.symm.trans e)
                            have t1 := toList_same x
                            have t2 := toList_ne eA2
                            rw [eA] at c0 t2
                            by_cases eB : c.b = y
                            · have t3 := toList_same y
                              rw [eB] at c1
                              obtain ⟨r1, n1, hr1, hf1⟩ := run_add wr 24 _ u c.sa hu
                              obtain ⟨r2, n2, hr2, hf2⟩ := run_add (wr.drewN n1) 24 _ v c.sb hv
                              have hBn : Below W7.heap.size W7 (wr.drewN n1) := below_drewN hB9 _
                              have hBm : Below W7.heap.size W7 ((wr.drewN n1).drewN n2) := below_drewN hBn _
                              have hst' := hide (add1_ab (t := ts) (unhide hnd) (c := c) (by rw [eA]; exact unhide hx) (by rw [eB]; exact unhide hy) h12)
                              rw [← unhide htt] at hst'
                              have hg1 := hide hf1
                              have hg2 := hide hf2
                              have z0 : (wr.drewN n1).cell? ⟨b, off + kk * 4 + 3, none⟩ = some (.float .f64 c.sb) := c3
                              clear hf1 hf2
                              replace hBm := hide hBm
                              generalize wr.drewN n1 = W8 at hr1 hr2 hBn hBm z0
                              generalize W8.drewN n2 = W9 at hr2 hBm
                              clear hu hv
                              go_wp2
                              go_roundw
                              case rel =>
                                refine ⟨kk + 1, r1, r2, by omega, by go_num, rfl, rfl, ?_⟩
                                rw [unhide hst']
                                exact ⟨unhide hg1, unhide hg2, unhide hBm⟩
                              case measure => simp [intOf]; omega

                            · have t3 := toList_ne eB
                              have hst' := hide (add1_no (t := ts) (unhide hmc) (unhide hx) (unhide hy) (fun e => eB e.2) (fun e => eA2 e.1))
                              rw [← unhide htt] at hst'
                              replace hu := hide hu
                              replace hv := hide hv
                              go_wp2
                              go_roundw
                              case rel =>
                                refine ⟨kk + 1, u, v, by omega, by go_num, rfl, rfl, ?_⟩
                                rw [unhide hst']
                                exact ⟨unhide hu, unhide hv, hB9⟩
                              case measure => simp [intOf]; omega

                          · have t1 := toList_ne eA
                            by_cases eA2 : c.a = y
                            · have t2 := toList_same y
                              rw [eA2] at c0 t1
                              by_cases eB : c.b = x
                              · have t3 := toList_same x
                                rw [eB] at c1
                                obtain ⟨r1, n1, hr1, hf1⟩ := run_add wr 24 _ u c.sb hu
                                obtain ⟨r2, n2, hr2, hf2⟩ := run_add (wr.drewN n1) 24 _ v c.sa hv
                                have hBn : Below W7.heap.size W7 (wr.drewN n1) := below_drewN hB9 _
                                have hBm : Below W7.heap.size W7 ((wr.drewN n1).drewN n2) := below_drewN hBn _
                                have hst' := hide (add1_ba (t := ts) (unhide hnd) (c := c) (by rw [eB]; exact unhide hx) (by rw [eA2]; exact unhide hy) h12)
                                rw [← unhide htt] at hst'
                                have hg1 := hide hf1
                                have hg2 := hide hf2
                                have z0 : (wr.drewN n1).cell? ⟨b, off + kk * 4 + 2, none⟩ = some (.float .f64 c.sa) := c2
                                clear hf1 hf2
                                replace hBm := hide hBm
                                generalize wr.drewN n1 = W8 at hr1 hr2 hBn hBm z0
                                generalize W8.drewN n2 = W9 at hr2 hBm
                                clear hu hv
                                go_wp2
                                go_roundw
                                case rel =>
                                  refine ⟨kk + 1, r1, r2, by omega, by go_num, rfl, rfl, ?_⟩
                                  rw [unhide hst']
                                  exact ⟨unhide hg1, unhide hg2, unhide hBm⟩
                                case measure => simp [intOf]; omega

                              · have t3 := toList_ne eB
                                have hst' := hide (add1_no (t := ts) (unhide hmc) (unhide hx) (unhide hy) (fun e => eA e.1) (fun e => eB e.2))
                                rw [← unhide htt] at hst'
                                replace hu := hide hu
                                replace hv := hide hv
                                go_wp2
                                go_roundw
                                case rel =>
                                  refine ⟨kk + 1, u, v, by omega, by go_num, rfl, rfl, ?_⟩
                                  rw [unhide hst']
                                  exact ⟨unhide hu, unhide hv, hB9⟩
                                case measure => simp [intOf]; omega

                            · have t2 := toList_ne eA2
                              have hst' := hide (add1_no (t := ts) (unhide hmc) (unhide hx) (unhide hy) (fun e => eA e.1) (fun e => eA2 e.1))
                              rw [← unhide htt] at hst'
                              replace hu := hide hu
                              replace hv := hide hv
                              go_wp2
                              go_roundw
                              case rel =>
                                refine ⟨kk + 1, u, v, by omega, by go_num, rfl, rfl, ?_⟩
                                rw [unhide hst']
                                exact ⟨unhide hu, unhide hv, hB9⟩
                              case measure => simp [intOf]; omega

                      obtain rfl : kk = k := by omega
                      rw [List.take_of_length_le (by rw [(unhide H).len]; omega)] at hu hv
                      replace hu := hide hu
                      replace hv := hide hv
                      go_wp2_with fail
                      go_region_held3 (fun w' => w'.cell? ⟨g15, q, none⟩ = some (.int .i64 p1) ∧ w'.cell? ⟨g16, q, none⟩ = some (.int .i64 p2) ∧ Below W7.heap.size W7 w')
                        (first | exact ⟨keep_cell (by assumption) C15, keep_cell (by assumption) C16, by assumption⟩ | exact ⟨keep_cell hB9.drew C15, keep_cell hB9.drew C16, hB9.drew⟩)
                        (first | (go_at_call 24; refine (outc_any w1.heap.size _ N K (tot N cs) cnt _ ?_ (p1, p2) (by simp; omega) (by simp; omega) (unhide hin)).mono ?_; exact (unhide hst7).below hB9.drew; rintro e w2 ⟨fa, fb, rfl, hfa, hfb, hB2⟩; replace hfa := hide hfa; replace hfb := hide hfb; replace hB2 := below_next hB9.drew hB2))
                      go_wp2_with fail
                      refine (same_any _ fa u _ (unhide hfa) (unhide hu)).mono ?_
                      rintro e w3 ⟨rfl, rfl⟩
                      go_wp2_with fail
                      refine (same_any _ fb v _ (unhide hfb) (unhide hv)).mono ?_
                      rintro e w4 ⟨rfl, rfl⟩
                      go_wp2
                      go_roundw
                      case rel => exact ⟨q + 1, by omega, by go_num, hB2⟩
                      case measure => simp [intOf]; omega
                  go_wp2
                  go_ret
                  exact ⟨rfl, below_next (below_next hBw5 hB7) hB8⟩

end Go.Proofs.Qxb6605581aMods
