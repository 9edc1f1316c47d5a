import Derived.Test.Qxb6600884aModsMiss2
import Derived.Maps.OwnOps
namespace Go.Proofs.Qxb6600884aMods
open Go.RowKit Go.Maps

/-- A slice of Releases that is there: its elements. -/
structure IsRels (w : World) (a : Option Addr) (n : Nat) (rs : List (ByteArray × ByteArray)) : Prop where
  len : rs.length = n
  at' : ∀ i, i < n → ∃ g, a = some ⟨g, 0, none⟩
  cell : ∀ g, a = some ⟨g, 0, none⟩ → ∀ i r, rs[i]? = some r → w.cell? ⟨g, i * 2, none⟩ = some (.string r.1) ∧ w.cell? ⟨g, i * 2 + 1, none⟩ = some (.string r.2)
  short : ∀ r ∈ rs, r.1.size ≤ maxLen ∧ r.2.size ≤ maxLen

theorem IsRels.below {w w' : World} {a : Option Addr} {n : Nat} {rs : List (ByteArray × ByteArray)} (h : IsRels w a n rs) (hb : Below w.heap.size w w') : IsRels w' a n rs :=
  ⟨h.len, h.at', fun g hg i r hr => ⟨keep_cell hb (h.cell g hg i r hr).1, keep_cell hb (h.cell g hg i r hr).2⟩, h.short⟩

theorem IsRels.of_owns {w : World} {base n : Nat} {v : Value} {rs : List (ByteArray × ByteArray)} (h : w.ownsRow base 29 2 v n (relCells rs)) (hs : ∀ r ∈ rs, r.1.size ≤ maxLen ∧ r.2.size ≤ maxLen) : ∃ a cap, v = .slice a n cap ∧ IsRels w a n rs := by
  have hl : rs.length = n := by have := h.1; rw [relCells_length] at this; omega
  rcases h.2 with ⟨rfl, rfl⟩ | ⟨g, cap, cur, rfl, hb, hg, hc, hm, hsz, ht⟩
  · exact ⟨none, 0, rfl, hl, fun i hi => by omega, fun g hg => (by cases hg), hs⟩
  · refine ⟨_, cap, rfl, hl, fun _ _ => ⟨g, rfl⟩, fun g' hg' i r hr => ?_, hs⟩
    cases hg'
    have hi : i < n := by rw [← hl]; exact (List.getElem?_eq_some_iff.1 hr).1
    exact ⟨by rw [h.cellAt _ (by omega), relCells_get0, hr]; rfl, by rw [h.cellAt _ (by omega), relCells_get1, hr]; rfl⟩

/-- Those of rs that others does not hold. -/
def missL (others rs : List (ByteArray × ByteArray)) : List (ByteArray × ByteArray) := rs.filter fun r => !memB others r

theorem missL_hit (others : List (ByteArray × ByteArray)) {rs : List (ByteArray × ByteArray)} {k : Nat} {r : ByteArray × ByteArray} (hr : rs[k]? = some r) (h : memB others r = false) : missL others (rs.take (k + 1)) = missL others (rs.take k) ++ [r] := by
  have := (List.getElem?_eq_some_iff.1 hr)
  rw [List.take_succ_eq_append_getElem this.1, this.2]
  simp [missL, h]
theorem missL_miss (others : List (ByteArray × ByteArray)) {rs : List (ByteArray × ByteArray)} {k : Nat} {r : ByteArray × ByteArray} (hr : rs[k]? = some r) (h : memB others r = true) : missL others (rs.take (k + 1)) = missL others (rs.take k) := by
  have := (List.getElem?_eq_some_iff.1 hr)
  rw [List.take_succ_eq_append_getElem this.1, this.2]
  simp [missL, h]
theorem missL_le (others rs : List (ByteArray × ByteArray)) : (missL others rs).length ≤ rs.length := List.length_filter_le _ _

theorem makeMap_n (n : Nat) (w : World) : (Instr.makeMap 48 (some (.int .i64 n))).run Trym.prog w = .ok (.map (some w.heap.size)) (w.alloc (.map #[] 0)) := by
  simp [Instr.makeMap, run_underlying Trym.underlying48, asInt, Result.andThen]
  rfl

set_option maxHeartbeats 2000000 in
theorem miss_any (a0 : Option Addr) (n0 cap0 : Nat) (all : List (ByteArray × ByteArray)) (a1 : Option Addr) (n1 cap1 : Nat) (others : List (ByteArray × ByteArray)) (w : World) (h0 : IsRels w a0 n0 all) (h1 : IsRels w a1 n1 others) (hn0 : n0 ≤ 65536) (hn1 : n1 ≤ 65536) :
    Calls Trym.prog 23 #[.slice a0 n0 cap0, .slice a1 n1 cap1] w fun e w' => ∃ v, e = .returned v ∧ w'.ownsRow w.heap.size 29 2 v (missL others all).length (relCells (missL others all)) ∧ Below w.heap.size w w' := by
  obtain ⟨i0, hi0, hz0, hz1, hz2⟩ := info_parts Trym.info29
  have H0 : Hid (IsRels w a0 n0 all) := h0
  have H1 : Hid (IsRels w a1 n1 others) := h1
  clear h0 h1
  have hmm := makeMap_n n1 w
  go_enter Trym.func23, Trym.ntmps23
  go_wp2_with fail
  go_loopw [16] (fun i wr => ∃ k : Nat, k ≤ n1 ∧ i = .int .i64 k ∧ HasSet wr w.heap.size k (others.take k) ∧ Below w.heap.size w wr) (fun i _ => n1 - (intOf i).toNat)
  case atStart => exact ⟨0, Nat.zero_le _, rfl, hasSet_made _, (Below.refl _ _).alloc (Nat.le_refl _) _⟩
  case round =>
    obtain ⟨k, hk, rfl, hset, hb⟩ := hrel
    have HS : Hid (HasSet wr w.heap.size k (others.take k)) := hset
    clear hset
    by_cases hlt : k < n1
    · obtain ⟨g, rfl⟩ := H1.out.at' k hlt
      obtain ⟨r, hr⟩ : ∃ r, others[k]? = some r := ⟨_, List.getElem?_eq_getElem (by rw [H1.out.len]; exact hlt)⟩
      have hc := H1.out.cell g rfl k r hr
      have hsh := H1.out.short r (List.mem_of_getElem? hr)
      have c0 := keep_cell (hb.mono (Nat.le_refl _)) hc.1
      have c1 := keep_cell (hb.mono (Nat.le_refl _)) hc.2
      have HR : Hid (others[k]? = some r) := hr
      have HH : Hid (r.1.size ≤ maxLen ∧ r.2.size ≤ maxLen) := hsh
      clear hr hsh hc
      go_wp2_with (at_mapUpdate; refine Hold.out ?_)
      refine Hold.of ?_
      refine wpList_set_store _ rfl _ _ _ (by rfl) w.heap.size k (others.take k) r (by rfl) (by rfl) (by rfl) (HS.out.alloc _) HH.out.1 HH.out.2 (by unfold maxLen; omega) ?_
      intro w1 hset1 hgrow
      have hb1 : Below w.heap.size w w1 := (hb.alloc hb.size _).grown hgrow (by have := hb.size; simp; omega) (by intro j hj; cases hj; exact Nat.le_refl _)
      have HS1 : Hid (HasSet w1 w.heap.size (k + 1) (others.take k ++ [r])) := hset1
      clear hset1 hgrow c0 c1 hmm
      go_wp2
      go_roundw
      case rel =>
        refine ⟨k + 1, by omega, by go_num, ?_, hb1⟩
        have := (List.getElem?_eq_some_iff.1 HR.out)
        rw [List.take_succ_eq_append_getElem this.1, this.2]
        exact HS1.out
      case measure => simp [intOf]; omega
    · obtain rfl : k = n1 := by omega
      have hset : HasSet wr w.heap.size 65536 others := by
        have := HS.out.mono hn1
        rwa [List.take_of_length_le (by rw [H1.out.len]; omega)] at this
      have HS2 : Hid (HasSet wr w.heap.size 65536 others) := hset
      have hlt2 : w.heap.size < wr.heap.size := by obtain ⟨D, h1, _⟩ := hset; exact h1.lt
      clear HS hset hmm
      go_wp2_with fail
      go_loopw [8, 25] (fun v i wr => ∃ j : Nat, j ≤ n0 ∧ i = .int .i64 j ∧ wr.ownsRow (w.heap.size + 1) 29 2 v (missL others (all.take j)).length (relCells (missL others (all.take j))) ∧ HasSet wr w.heap.size 65536 others ∧ Below w.heap.size w wr) (fun _ i _ => n0 - (intOf i).toNat)
      case atStart => exact ⟨0, Nat.zero_le _, rfl, World.ownsRow_nil _ _ _ _, HS2.out, hb⟩
      case round =>
        clear HS2 hb hlt2
        obtain ⟨j, hj, rfl, hown, hset, hb⟩ := hrel
        have HW : Hid (wr.ownsRow (w.heap.size + 1) 29 2 u8 (missL others (all.take j)).length (relCells (missL others (all.take j)))) := hown
        have HS : Hid (HasSet wr w.heap.size 65536 others) := hset
        have hsz : w.heap.size + 1 ≤ wr.heap.size := by obtain ⟨D, h1, _⟩ := hset; exact h1.lt
        clear hown hset
        by_cases hjt : j < n0
        · obtain ⟨g, rfl⟩ := H0.out.at' j hjt
          obtain ⟨r, hr⟩ : ∃ r, all[j]? = some r := ⟨_, List.getElem?_eq_getElem (by rw [H0.out.len]; exact hjt)⟩
          have hc := H0.out.cell g rfl j r hr
          have hsh := H0.out.short r (List.mem_of_getElem? hr)
          have c0 := keep_cell (hb.mono (Nat.le_refl _)) hc.1
          have c1 := keep_cell (hb.mono (Nat.le_refl _)) hc.2
          have HR : Hid (all[j]? = some r) := hr
          have HH : Hid (r.1.size ≤ maxLen ∧ r.2.size ≤ maxLen) := hsh
          clear hr hsh hc
          go_wp2_with (at_lookup; refine Hold.out ?_)
          refine Hold.of ?_
          refine wpList_set_look _ rfl _ _ (by rfl) w.heap.size 65536 others r (by rfl) (by rfl) (HS.out.alloc _) HH.out.1 HH.out.2 ?_
          cases hm : memB others r
          · have HM : Hid (memB others r = false) := hm
            clear hm
            go_wp2_with (at_builtin; refine Hold.out ?_)
            refine Hold.of ?_
            have hle := missL_le others (all.take j)
            rw [List.length_take] at hle
            refine wpList_append_lies _ rfl _ _ _ (by rfl) (w.heap.size + 1) 29 i0 _ 2 32 Trym.underlying25 hi0 hz0 hz1 hz2 rfl (by omega) u8 (missL others (all.take j)).length (relCells (missL others (all.take j))) (by rfl) ((HW.out.alloc _).alloc _) ⟨wr.heap.size + 1, 0, none⟩ 1 1 [.string r.1, .string r.2] (by rfl) (by rfl) ?_ (by simp [Value.oneCell']) (by omega) (by unfold maxLen; omega) (by omega) (by simp; omega) _ rfl ?_
            · exact World.news_of_block (cs := #[.string r.1, .string r.2]) (t := 29) (fr := (0, 0)) (heap_at (by simp))
            · intro g2 cap2 w2 hown2 hgrow hat hlt2
              have hrow : ∀ q, u8.ownBlock = some q → w.heap.size + 1 ≤ q := by
                intro q hq
                rcases HW.out.2 with ⟨rfl, _⟩ | ⟨g3, cap3, cur3, rfl, hb3, _⟩
                · cases hq
                · simp [Value.ownBlock] at hq; omega
              have hb2 : Below w.heap.size w w2 := ((hb.alloc hb.size _).alloc (by have := hb.size; simp; omega) _).grown hgrow (by have := hb.size; simp; omega) (fun q hq => by have := hrow q hq; omega)
              have HS2 : Hid (HasSet w2 w.heap.size 65536 others) := ((HS.out.alloc _).alloc _).kept hgrow (fun e => by have := hrow _ e.symm; omega)
              have HO : Hid (w2.ownsRow (w.heap.size + 1) 29 2 (.slice (some ⟨g2, 0, none⟩) ((missL others (all.take j)).length + 1) cap2) (missL others (all.take (j + 1))).length (relCells (missL others (all.take (j + 1))))) := by
                rw [missL_hit others HR.out HM.out, relCells_append, List.length_append]
                exact hown2
              clear hown2 hgrow hat c0 c1 hrow HW HS hle
              go_wp2
              go_roundw
              case rel => exact ⟨j + 1, by omega, by go_num, HO.out, HS2.out, hb2⟩
              case measure => simp [intOf]; omega
          · have HM : Hid (memB others r = true) := hm
            clear hm
            have HO : Hid ((wr.alloc (.cells #[.string r.1, .string r.2] 29)).ownsRow (w.heap.size + 1) 29 2 u8 (missL others (all.take (j + 1))).length (relCells (missL others (all.take (j + 1))))) := by
              rw [missL_miss others HR.out HM.out]; exact HW.out.alloc _
            have HS2 : Hid (HasSet (wr.alloc (.cells #[.string r.1, .string r.2] 29)) w.heap.size 65536 others) := HS.out.alloc _
            clear HW HS c0 c1
            go_wp2
            go_roundw
            case rel => exact ⟨j + 1, by omega, by go_num, HO.out, HS2.out, hb.alloc hb.size _⟩
            case measure => simp [intOf]; omega
        · obtain rfl : j = n0 := by omega
          go_wp2
          go_ret
          refine ⟨_, rfl, ?_, hb⟩
          have := HW.out
          rw [List.take_of_length_le (by rw [H0.out.len]; omega)] at this
          exact owns_base this (by omega)

set_option maxHeartbeats 400000 in
theorem zzmiss_any (a0 : Option Addr) (n0 cap0 : Nat) (all : List (ByteArray × ByteArray)) (a1 : Option Addr) (n1 cap1 : Nat) (others : List (ByteArray × ByteArray)) (w : World) (h0 : IsRels w a0 n0 all) (h1 : IsRels w a1 n1 others) (hn0 : n0 ≤ 65536) (hn1 : n1 ≤ 65536) :
    Calls Trym.prog 11 #[.slice a0 n0 cap0, .slice a1 n1 cap1] w fun e w' => ∃ v, e = .returned v ∧ w'.ownsRow w.heap.size 29 2 v (missL others all).length (relCells (missL others all)) ∧ Below w.heap.size w w' := by
  have HC := hide (miss_any a0 n0 cap0 all a1 n1 cap1 others w h0 h1 hn0 hn1)
  clear h0 h1
  go_enter Trym.func11, Trym.ntmps11
  go_wp2_with fail
  refine (unhide HC).mono ?_
  rintro e w1 ⟨v, rfl, hown, hb⟩
  clear HC
  have HW := hide hown
  clear hown
  go_wp2
  go_ret
  exact ⟨v, rfl, unhide HW, hb⟩

end Go.Proofs.Qxb6600884aMods
