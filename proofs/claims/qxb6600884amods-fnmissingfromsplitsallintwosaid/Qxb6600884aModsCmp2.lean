import Derived.Test.Qxb6600884aModsCmp
namespace Go.Proofs.Qxb6600884aMods
open Go.RowKit

theorem hide {p : Prop} (h : p) : Hid p := h
theorem unhide {p : Prop} (h : Hid p) : p := h

/-- What 'compare' answers, by which of the fields agree. -/
def kindsOf (l te he ge me iw ig : Bool) : List ByteArray :=
  if !ig then [if l then kLinkMissing else kMissing] else if !iw then [kAdded] else if !te then [chg l] else (if he && ge then [] else [chg l]) ++ (if me then [] else [kMode])

theorem cmp_any (p t h g p' t' h' g' : ByteArray) (m m' : Int) (iw ig : Bool) (w : World) (l te he ge me : Bool) (hl : (t.toList == [108, 105, 110, 107]) = l) (h1 : (t.toList == t'.toList) = te)
    (h2 : (h.toList == h'.toList) = he) (h3 : (g.toList == g'.toList) = ge) (h4 : (m == m') = me) :
    Calls Trym.prog 24 #[ent p t m h g, ent p' t' m' h' g', .bool iw, .bool ig] w fun e w' => ∃ v, e = .returned v ∧ w'.ownsRow w.heap.size 43 1 v (kindsOf l te he ge me iw ig).length ((kindsOf l te he ge me iw ig).map Value.string) ∧ Below w.heap.size w w' := by
  cases ig
  · exact cmp_gone p t h g p' t' h' g' m m' iw l w hl
  cases iw
  · exact cmp_added p t h g p' t' h' g' m m' l w hl
  cases te
  · exact cmp_type p t h g p' t' h' g' m m' l w hl h1
  cases he
  · cases me <;> cases l
    · exact cmp_contentFM p t h g p' t' h' g' m m' w hl h1 (.inl h2) h4
    · exact cmp_contentLM p t h g p' t' h' g' m m' w hl h1 (.inl h2) h4
    · exact cmp_contentFS p t h g p' t' h' g' m m' w hl h1 (.inl h2) h4
    · exact cmp_contentLS p t h g p' t' h' g' m m' w hl h1 (.inl h2) h4
  cases ge
  · cases me <;> cases l
    · exact cmp_contentFM p t h g p' t' h' g' m m' w hl h1 (.inr ⟨h2, h3⟩) h4
    · exact cmp_contentLM p t h g p' t' h' g' m m' w hl h1 (.inr ⟨h2, h3⟩) h4
    · exact cmp_contentFS p t h g p' t' h' g' m m' w hl h1 (.inr ⟨h2, h3⟩) h4
    · exact cmp_contentLS p t h g p' t' h' g' m m' w hl h1 (.inr ⟨h2, h3⟩) h4
  cases me
  · exact cmp_mode p t h g p' t' h' g' m m' l w hl h1 h2 h3 h4
  · exact cmp_same p t h g p' t' h' g' m m' l w hl h1 h2 h3 h4

theorem owns_base {w : World} {base base' : Nat} {e : TypeId} {size : Nat} {v : Value} {n : Nat} {xs : List Value} (h : w.ownsRow base e size v n xs) (hb : base' ≤ base) : w.ownsRow base' e size v n xs := by
  refine ⟨h.1, ?_⟩
  rcases h.2 with h2 | ⟨g, cap, cur, hv, hg, hr⟩
  · exact .inl h2
  · exact .inr ⟨g, cap, cur, hv, Nat.le_trans hb hg, hr⟩

set_option maxHeartbeats 1000000 in
theorem zzcmp_any (p t h g p' t' h' g' : ByteArray) (m m' : Int) (iw ig : Bool) (w : World) (l te he ge me : Bool) (hl : (t.toList == [108, 105, 110, 107]) = l) (h1 : (t.toList == t'.toList) = te)
    (h2 : (h.toList == h'.toList) = he) (h3 : (g.toList == g'.toList) = ge) (h4 : (m == m') = me) :
    Calls Trym.prog 17 #[ent p t m h g, ent p' t' m' h' g', .bool iw, .bool ig] w fun e w' => ∃ v, e = .returned v ∧ w'.ownsRow w.heap.size 43 1 v (kindsOf l te he ge me iw ig).length ((kindsOf l te he ge me iw ig).map Value.string) ∧ Below w.heap.size w w' := by
  have C := fun W => cmp_any p t h g p' t' h' g' m m' iw ig W l te he ge me hl h1 h2 h3 h4
  clear hl h1 h2 h3 h4
  have HC := hide C
  clear C
  generalize kindsOf l te he ge me iw ig = ks at *
  go_enter Trym.func17, Trym.ntmps17
  go_wp2_with fail
  refine (unhide HC _).mono ?_
  rintro e w1 ⟨v, rfl, hown, hb⟩
  clear HC
  go_wp2
  go_ret
  exact ⟨v, rfl, owns_base hown (by simp; omega), (((Below.refl _ _).alloc (Nat.le_refl _) _).alloc (by simp) _).trans (hb.mono (by simp; omega))⟩

theorem keep_cell {W w' : World} {a : Addr} {v : Value} (hb : Below W.heap.size W w') (h : W.cell? a = some v) : w'.cell? a = some v := by
  rw [hb.cell (World.block_lt_of_cell? W a h)]; exact h

theorem below_next {w W w' : World} (h : Below w.heap.size w W) (h2 : Below W.heap.size W w') : Below w.heap.size w w' := h.trans (h2.mono h.size)

theorem owns_zero {w : World} {base : Nat} {e : TypeId} {v : Value} {xs : List Value} (h : w.ownsRow base e 1 v 0 xs) : ∃ a cap, v = .slice a 0 cap := by
  rcases h.2 with ⟨rfl, _⟩ | ⟨g, cap, cur, rfl, _⟩
  · exact ⟨_, _, rfl⟩
  · exact ⟨_, _, rfl⟩

theorem owns_cells {w : World} {base : Nat} {e : TypeId} {v : Value} {n : Nat} {xs : List Value} (h : w.ownsRow base e 1 v n xs) (hn : 0 < n) : ∃ g cap, v = .slice (some ⟨g, 0, none⟩) n cap ∧ n ≤ cap ∧ cap ≤ maxLen ∧ g < w.heap.size ∧ base ≤ g ∧ ∀ i, i < n → w.cell? ⟨g, i, none⟩ = xs[i]? := by
  rcases h.2 with ⟨_, h0⟩ | ⟨g, cap, cur, rfl, hb, hg, hc, hm, hs, ht⟩
  · omega
  · refine ⟨g, cap, rfl, hc, hm, ?_, hb, fun i hi => ?_⟩
    · rcases Nat.lt_or_ge g w.heap.size with hlt | hge
      · exact hlt
      · rw [Array.getElem?_eq_none hge] at hg; cases hg
    · rw [cell_of_row w g i cur e (0, 0) hg, ← ht, List.getElem?_take_of_lt (by omega)]
      simp

theorem kMode_no : (kMode.toList == [109, 105, 115, 115, 105, 110, 103]) = false ∧ (kMode.toList == [108, 105, 110, 107, 45, 109, 105, 115, 115, 105, 110, 103]) = false ∧ (kMode.toList == [97, 100, 100, 101, 100]) = false := by
  refine ⟨by kernel_rfl, by kernel_rfl, by kernel_rfl⟩
theorem chg_no (l : Bool) : ((chg l).toList == [109, 105, 115, 115, 105, 110, 103]) = false ∧ ((chg l).toList == [108, 105, 110, 107, 45, 109, 105, 115, 115, 105, 110, 103]) = false ∧ ((chg l).toList == [97, 100, 100, 101, 100]) = false := by
  cases l
  · refine ⟨by kernel_rfl, by kernel_rfl, by kernel_rfl⟩
  · refine ⟨by kernel_rfl, by kernel_rfl, by kernel_rfl⟩

set_option maxHeartbeats 2000000 in
theorem law6 (p t h g p' t' h' g' : ByteArray) (m m' : Int) (w : World) (l te he ge me : Bool) (hl : (t.toList == [108, 105, 110, 107]) = l) (h1 : (t.toList == t'.toList) = te)
    (h2 : (h.toList == h'.toList) = he) (h3 : (g.toList == g'.toList) = ge) (h4 : (m == m') = me)
    (hp : p.size ≤ maxLen) (ht : t.size ≤ maxLen) (hh : h.size ≤ maxLen) (hg : g.size ≤ maxLen) (hp' : p'.size ≤ maxLen) (ht' : t'.size ≤ maxLen) (hh' : h'.size ≤ maxLen) (hg' : g'.size ≤ maxLen) :
    Calls Trym.prog 6 #[ent p t m h g, ent p' t' m' h' g'] w fun e w' => e = .returned (.bool true) ∧ Below w.heap.size w w' := by
  go_enter Trym.func6, Trym.ntmps6
  go_wp2_with fail
  refine (bytes20_any p t h g p' t' h' g' m m' _ hp ht hh hg hp' ht' hh' hg').mono ?_
  rintro e w1 ⟨⟨b, rfl, hb⟩, hB⟩
  have hB1 : Below w.heap.size w w1 := (((Below.refl _ _).alloc (Nat.le_refl _) _).alloc (by simp) _).trans (hB.mono (by simp; omega))
  cases b
  · clear hB hb
    go_wp2
    go_ret
    exact ⟨rfl, hB1⟩
  replace hb := hb rfl
  have a0 : w1.cell? ⟨w.heap.size, 0, none⟩ = some (.string p) := keep_cell hB (by go_simp)
  have a1 : w1.cell? ⟨w.heap.size, 1, none⟩ = some (.string t) := keep_cell hB (by go_simp)
  have a2 : w1.cell? ⟨w.heap.size, 2, none⟩ = some (.int .u32 m) := keep_cell hB (by go_simp)
  have a3 : w1.cell? ⟨w.heap.size, 3, none⟩ = some (.string h) := keep_cell hB (by go_simp)
  have a4 : w1.cell? ⟨w.heap.size, 4, none⟩ = some (.string g) := keep_cell hB (by go_simp)
  have b0 : w1.cell? ⟨w.heap.size + 1, 0, none⟩ = some (.string p') := keep_cell hB (by go_simp)
  have b1 : w1.cell? ⟨w.heap.size + 1, 1, none⟩ = some (.string t') := keep_cell hB (by go_simp)
  have b2 : w1.cell? ⟨w.heap.size + 1, 2, none⟩ = some (.int .u32 m') := keep_cell hB (by go_simp)
  have b3 : w1.cell? ⟨w.heap.size + 1, 3, none⟩ = some (.string h') := keep_cell hB (by go_simp)
  have b4 : w1.cell? ⟨w.heap.size + 1, 4, none⟩ = some (.string g') := keep_cell hB (by go_simp)
  clear hB
  go_wp2_with fail
  go_region_held3 (fun w' => w'.cell? ⟨w.heap.size, 0, none⟩ = some (.string p) ∧ w'.cell? ⟨w.heap.size, 1, none⟩ = some (.string t) ∧ w'.cell? ⟨w.heap.size, 2, none⟩ = some (.int .u32 m) ∧ w'.cell? ⟨w.heap.size, 3, none⟩ = some (.string h) ∧ w'.cell? ⟨w.heap.size, 4, none⟩ = some (.string g) ∧
      w'.cell? ⟨w.heap.size + 1, 0, none⟩ = some (.string p') ∧ w'.cell? ⟨w.heap.size + 1, 1, none⟩ = some (.string t') ∧ w'.cell? ⟨w.heap.size + 1, 2, none⟩ = some (.int .u32 m') ∧ w'.cell? ⟨w.heap.size + 1, 3, none⟩ = some (.string h') ∧ w'.cell? ⟨w.heap.size + 1, 4, none⟩ = some (.string g'))
    (first | (go_split_ands; refine ⟨keep_cell (by assumption) (by assumption), keep_cell (by assumption) (by assumption), keep_cell (by assumption) (by assumption), keep_cell (by assumption) (by assumption), keep_cell (by assumption) (by assumption), keep_cell (by assumption) (by assumption), keep_cell (by assumption) (by assumption), keep_cell (by assumption) (by assumption), keep_cell (by assumption) (by assumption), keep_cell (by assumption) (by assumption)⟩) | go_keep)
    (first | (go_at_call_of 16 (Value.string p); refine (entryBytes_any p t h g m _ (by omega) (by omega) (by omega) (by omega)).mono ?_; rintro e w2 ⟨rfl, hB2⟩) | (go_at_call_of 16 (Value.string p'); refine (entryBytes_any p' t' h' g' m' _ (by omega) (by omega) (by omega) (by omega)).mono ?_; rintro e w3 ⟨rfl, hB3⟩))
  have hB4 : Below w.heap.size w w3 := (hB1.drew.trans (hB2.mono hB1.size)).trans (hB3.mono (Nat.le_trans hB1.size hB2.size))
  have hB5 : Below w1.heap.size w1 w3 := ((Below.refl _ _).drew.trans hB2).trans (hB3.mono hB2.size)
  replace a0 : w3.cell? ⟨w.heap.size, 0, none⟩ = some (.string p) := keep_cell hB5 a0
  replace a1 : w3.cell? ⟨w.heap.size, 1, none⟩ = some (.string t) := keep_cell hB5 a1
  replace a2 : w3.cell? ⟨w.heap.size, 2, none⟩ = some (.int .u32 m) := keep_cell hB5 a2
  replace a3 : w3.cell? ⟨w.heap.size, 3, none⟩ = some (.string h) := keep_cell hB5 a3
  replace a4 : w3.cell? ⟨w.heap.size, 4, none⟩ = some (.string g) := keep_cell hB5 a4
  replace b0 : w3.cell? ⟨w.heap.size + 1, 0, none⟩ = some (.string p') := keep_cell hB5 b0
  replace b1 : w3.cell? ⟨w.heap.size + 1, 1, none⟩ = some (.string t') := keep_cell hB5 b1
  replace b2 : w3.cell? ⟨w.heap.size + 1, 2, none⟩ = some (.int .u32 m') := keep_cell hB5 b2
  replace b3 : w3.cell? ⟨w.heap.size + 1, 3, none⟩ = some (.string h') := keep_cell hB5 b3
  replace b4 : w3.cell? ⟨w.heap.size + 1, 4, none⟩ = some (.string g') := keep_cell hB5 b4
  clear hB1 hB2 hB3 hB5
  go_wp2_with fail
  · go_ret
    exact ⟨rfl, hB4⟩
  go_region_held3 (fun w' => w'.cell? ⟨w.heap.size, 0, none⟩ = some (.string p) ∧ w'.cell? ⟨w.heap.size, 1, none⟩ = some (.string t) ∧ w'.cell? ⟨w.heap.size, 2, none⟩ = some (.int .u32 m) ∧ w'.cell? ⟨w.heap.size, 3, none⟩ = some (.string h) ∧ w'.cell? ⟨w.heap.size, 4, none⟩ = some (.string g) ∧
      w'.cell? ⟨w.heap.size + 1, 0, none⟩ = some (.string p') ∧ w'.cell? ⟨w.heap.size + 1, 1, none⟩ = some (.string t') ∧ w'.cell? ⟨w.heap.size + 1, 2, none⟩ = some (.int .u32 m') ∧ w'.cell? ⟨w.heap.size + 1, 3, none⟩ = some (.string h') ∧ w'.cell? ⟨w.heap.size + 1, 4, none⟩ = some (.string g'))
    (first | (go_split_ands; refine ⟨keep_cell (by assumption) (by assumption), keep_cell (by assumption) (by assumption), keep_cell (by assumption) (by assumption), keep_cell (by assumption) (by assumption), keep_cell (by assumption) (by assumption), keep_cell (by assumption) (by assumption), keep_cell (by assumption) (by assumption), keep_cell (by assumption) (by assumption), keep_cell (by assumption) (by assumption), keep_cell (by assumption) (by assumption)⟩) | go_keep)
    (first | (go_at_call_of 18 (Value.string p); refine (entry_any p t h g m _).mono ?_; rintro e w5 ⟨rfl, hB5⟩) | (go_at_call_of 18 (Value.string p'); refine (entry_any p' t' h' g' m' _).mono ?_; rintro e w6 ⟨rfl, hB6⟩) | (go_at_call 17; refine (zzcmp_any p t h g p' t' h' g' m m' true true _ l te he ge me hl h1 h2 h3 h4).mono ?_; rintro e w7 ⟨v, rfl, hown, hB7⟩))
  have hB8 : Below w3.heap.size w3 w7 := (((Below.refl _ _).drew.trans hB5).trans (hB6.mono hB5.size)).trans (hB7.mono (Nat.le_trans hB5.size hB6.size))
  replace a0 : w7.cell? ⟨w.heap.size, 0, none⟩ = some (.string p) := keep_cell hB8 a0
  replace a1 : w7.cell? ⟨w.heap.size, 1, none⟩ = some (.string t) := keep_cell hB8 a1
  replace a2 : w7.cell? ⟨w.heap.size, 2, none⟩ = some (.int .u32 m) := keep_cell hB8 a2
  replace a3 : w7.cell? ⟨w.heap.size, 3, none⟩ = some (.string h) := keep_cell hB8 a3
  replace a4 : w7.cell? ⟨w.heap.size, 4, none⟩ = some (.string g) := keep_cell hB8 a4
  replace b0 : w7.cell? ⟨w.heap.size + 1, 0, none⟩ = some (.string p') := keep_cell hB8 b0
  replace b1 : w7.cell? ⟨w.heap.size + 1, 1, none⟩ = some (.string t') := keep_cell hB8 b1
  replace b2 : w7.cell? ⟨w.heap.size + 1, 2, none⟩ = some (.int .u32 m') := keep_cell hB8 b2
  replace b3 : w7.cell? ⟨w.heap.size + 1, 3, none⟩ = some (.string h') := keep_cell hB8 b3
  replace b4 : w7.cell? ⟨w.heap.size + 1, 4, none⟩ = some (.string g') := keep_cell hB8 b4
  replace hB4 : Below w.heap.size w w7 := hB4.trans (hB8.mono hB4.size)
  clear hB8 hB7 hB6 hB5
  have e1 := kMode_no
  have e2 := chg_no l
  obtain ⟨e11, e12, e13⟩ := e1
  obtain ⟨e21, e22, e23⟩ := e2
  clear hp ht hh hg hp' ht' hh' hg'
  cases te
  · obtain ⟨gg, cap, rfl, hc1, hc2, hc3, _, hcell⟩ := owns_cells (n := 1) (xs := [.string (chg l)]) hown (by omega)
    have c0 : w7.cell? ⟨gg, 0, none⟩ = some (.string (chg l)) := hcell 0 (by omega)
    clear hcell hown
    go_wp2_with fail
    go_loop [7] (fun i => ∃ k : Nat, k ≤ 1 ∧ i = .int .i64 k) (fun i => 1 - (intOf i).toNat)
    case atStart => exact ⟨0, by omega, rfl⟩
    case round =>
      obtain ⟨k, hk, rfl⟩ := hrel
      by_cases hlt : k < 1
      · obtain rfl : k = 0 := by omega
        go_wp2
        go_round
        case rel => exact ⟨1, by omega, by go_num⟩
        case measure => simp [intOf]
      · obtain rfl : k = 1 := by omega
        go_wp2_with fail
        go_region_held3 (fun w' => w'.cell? ⟨w.heap.size, 0, none⟩ = some (.string p) ∧ w'.cell? ⟨w.heap.size, 1, none⟩ = some (.string t) ∧ w'.cell? ⟨w.heap.size, 2, none⟩ = some (.int .u32 m) ∧ w'.cell? ⟨w.heap.size, 3, none⟩ = some (.string h) ∧ w'.cell? ⟨w.heap.size, 4, none⟩ = some (.string g) ∧ Below w.heap.size w w')
          (first | (go_split_ands; exact ⟨keep_cell (by assumption) (by assumption), keep_cell (by assumption) (by assumption), keep_cell (by assumption) (by assumption), keep_cell (by assumption) (by assumption), keep_cell (by assumption) (by assumption), below_next (by assumption) (by assumption)⟩) | exact ⟨a0, a1, a2, a3, a4, hB4.drew⟩)
          (first | (go_at_call 18; refine (entry_any p t h g m _).mono ?_; rintro e w8 ⟨rfl, hB8⟩) | (go_at_call 17; refine (zzcmp_any p t h g p t h g m m true true _ l true true true true hl (by simp) (by simp) (by simp) (by simp)).mono ?_; rintro e w9 ⟨v, rfl, hown, hB9⟩))
        obtain ⟨a, cap', rfl⟩ := owns_zero hown
        go_wp2
        go_ret
        exact ⟨rfl, by go_split_ands; assumption⟩
  cases me
  · cases hc : (he && ge)
    · replace hown : w7.ownsRow w6.heap.size 43 1 v 2 [.string (chg l), .string kMode] := by simpa [kindsOf, hc] using hown
      clear hc
      obtain ⟨gg, cap, rfl, hc1, hc2, hc3, _, hcell⟩ := owns_cells (n := 2) (xs := [.string (chg l), .string kMode]) hown (by omega)
      have c0 : w7.cell? ⟨gg, 0, none⟩ = some (.string (chg l)) := hcell 0 (by omega)
      have c1 : w7.cell? ⟨gg, 1, none⟩ = some (.string kMode) := hcell 1 (by omega)
      clear hcell hown
      go_wp2_with fail
      go_loop [7] (fun i => ∃ k : Nat, k ≤ 2 ∧ i = .int .i64 k) (fun i => 2 - (intOf i).toNat)
      case atStart => exact ⟨0, by omega, rfl⟩
      case round =>
        obtain ⟨k, hk, rfl⟩ := hrel
        by_cases hlt : k < 2
        · obtain rfl | rfl : k = 0 ∨ k = 1 := by omega
          · go_wp2
            go_round
            case rel => exact ⟨1, by omega, by go_num⟩
            case measure => simp [intOf]
          · go_wp2
            go_round
            case rel => exact ⟨2, by omega, by go_num⟩
            case measure => simp [intOf]
        · obtain rfl : k = 2 := by omega
          go_wp2_with fail
          go_region_held3 (fun w' => w'.cell? ⟨w.heap.size, 0, none⟩ = some (.string p) ∧ w'.cell? ⟨w.heap.size, 1, none⟩ = some (.string t) ∧ w'.cell? ⟨w.heap.size, 2, none⟩ = some (.int .u32 m) ∧ w'.cell? ⟨w.heap.size, 3, none⟩ = some (.string h) ∧ w'.cell? ⟨w.heap.size, 4, none⟩ = some (.string g) ∧ Below w.heap.size w w')
            (first | (go_split_ands; exact ⟨keep_cell (by assumption) (by assumption), keep_cell (by assumption) (by assumption), keep_cell (by assumption) (by assumption), keep_cell (by assumption) (by assumption), keep_cell (by assumption) (by assumption), below_next (by assumption) (by assumption)⟩) | exact ⟨a0, a1, a2, a3, a4, hB4.drew⟩)
            (first | (go_at_call 18; refine (entry_any p t h g m _).mono ?_; rintro e w8 ⟨rfl, hB8⟩) | (go_at_call 17; refine (zzcmp_any p t h g p t h g m m true true _ l true true true true hl (by simp) (by simp) (by simp) (by simp)).mono ?_; rintro e w9 ⟨v, rfl, hown, hB9⟩))
          obtain ⟨a, cap', rfl⟩ := owns_zero hown
          go_wp2
          go_ret
          exact ⟨rfl, by go_split_ands; assumption⟩
    · replace hown : w7.ownsRow w6.heap.size 43 1 v 1 [.string kMode] := by simpa [kindsOf, hc] using hown
      clear hc
      obtain ⟨gg, cap, rfl, hc1, hc2, hc3, _, hcell⟩ := owns_cells (n := 1) (xs := [.string kMode]) hown (by omega)
      have c0 : w7.cell? ⟨gg, 0, none⟩ = some (.string kMode) := hcell 0 (by omega)
      clear hcell hown
      go_wp2_with fail
      go_loop [7] (fun i => ∃ k : Nat, k ≤ 1 ∧ i = .int .i64 k) (fun i => 1 - (intOf i).toNat)
      case atStart => exact ⟨0, by omega, rfl⟩
      case round =>
        obtain ⟨k, hk, rfl⟩ := hrel
        by_cases hlt : k < 1
        · obtain rfl : k = 0 := by omega
          go_wp2
          go_round
          case rel => exact ⟨1, by omega, by go_num⟩
          case measure => simp [intOf]
        · obtain rfl : k = 1 := by omega
          go_wp2_with fail
          go_region_held3 (fun w' => w'.cell? ⟨w.heap.size, 0, none⟩ = some (.string p) ∧ w'.cell? ⟨w.heap.size, 1, none⟩ = some (.string t) ∧ w'.cell? ⟨w.heap.size, 2, none⟩ = some (.int .u32 m) ∧ w'.cell? ⟨w.heap.size, 3, none⟩ = some (.string h) ∧ w'.cell? ⟨w.heap.size, 4, none⟩ = some (.string g) ∧ Below w.heap.size w w')
            (first | (go_split_ands; exact ⟨keep_cell (by assumption) (by assumption), keep_cell (by assumption) (by assumption), keep_cell (by assumption) (by assumption), keep_cell (by assumption) (by assumption), keep_cell (by assumption) (by assumption), below_next (by assumption) (by assumption)⟩) | exact ⟨a0, a1, a2, a3, a4, hB4.drew⟩)
            (first | (go_at_call 18; refine (entry_any p t h g m _).mono ?_; rintro e w8 ⟨rfl, hB8⟩) | (go_at_call 17; refine (zzcmp_any p t h g p t h g m m true true _ l true true true true hl (by simp) (by simp) (by simp) (by simp)).mono ?_; rintro e w9 ⟨v, rfl, hown, hB9⟩))
          obtain ⟨a, cap', rfl⟩ := owns_zero hown
          go_wp2
          go_ret
          exact ⟨rfl, by go_split_ands; assumption⟩
  cases he
  · obtain ⟨gg, cap, rfl, hc1, hc2, hc3, _, hcell⟩ := owns_cells (n := 1) (xs := [.string (chg l)]) hown (by omega)
    have c0 : w7.cell? ⟨gg, 0, none⟩ = some (.string (chg l)) := hcell 0 (by omega)
    clear hcell hown
    go_wp2_with fail
    go_loop [7] (fun i => ∃ k : Nat, k ≤ 1 ∧ i = .int .i64 k) (fun i => 1 - (intOf i).toNat)
    case atStart => exact ⟨0, by omega, rfl⟩
    case round =>
      obtain ⟨k, hk, rfl⟩ := hrel
      by_cases hlt : k < 1
      · obtain rfl : k = 0 := by omega
        go_wp2
        go_round
        case rel => exact ⟨1, by omega, by go_num⟩
        case measure => simp [intOf]
      · obtain rfl : k = 1 := by omega
        go_wp2_with fail
        go_region_held3 (fun w' => w'.cell? ⟨w.heap.size, 0, none⟩ = some (.string p) ∧ w'.cell? ⟨w.heap.size, 1, none⟩ = some (.string t) ∧ w'.cell? ⟨w.heap.size, 2, none⟩ = some (.int .u32 m) ∧ w'.cell? ⟨w.heap.size, 3, none⟩ = some (.string h) ∧ w'.cell? ⟨w.heap.size, 4, none⟩ = some (.string g) ∧ Below w.heap.size w w')
          (first | (go_split_ands; exact ⟨keep_cell (by assumption) (by assumption), keep_cell (by assumption) (by assumption), keep_cell (by assumption) (by assumption), keep_cell (by assumption) (by assumption), keep_cell (by assumption) (by assumption), below_next (by assumption) (by assumption)⟩) | exact ⟨a0, a1, a2, a3, a4, hB4.drew⟩)
          (first | (go_at_call 18; refine (entry_any p t h g m _).mono ?_; rintro e w8 ⟨rfl, hB8⟩) | (go_at_call 17; refine (zzcmp_any p t h g p t h g m m true true _ l true true true true hl (by simp) (by simp) (by simp) (by simp)).mono ?_; rintro e w9 ⟨v, rfl, hown, hB9⟩))
        obtain ⟨a, cap', rfl⟩ := owns_zero hown
        go_wp2
        go_ret
        exact ⟨rfl, by go_split_ands; assumption⟩
  cases ge
  · obtain ⟨gg, cap, rfl, hc1, hc2, hc3, _, hcell⟩ := owns_cells (n := 1) (xs := [.string (chg l)]) hown (by omega)
    have c0 : w7.cell? ⟨gg, 0, none⟩ = some (.string (chg l)) := hcell 0 (by omega)
    clear hcell hown
    go_wp2_with fail
    go_loop [7] (fun i => ∃ k : Nat, k ≤ 1 ∧ i = .int .i64 k) (fun i => 1 - (intOf i).toNat)
    case atStart => exact ⟨0, by omega, rfl⟩
    case round =>
      obtain ⟨k, hk, rfl⟩ := hrel
      by_cases hlt : k < 1
      · obtain rfl : k = 0 := by omega
        go_wp2
        go_round
        case rel => exact ⟨1, by omega, by go_num⟩
        case measure => simp [intOf]
      · obtain rfl : k = 1 := by omega
        go_wp2_with fail
        go_region_held3 (fun w' => w'.cell? ⟨w.heap.size, 0, none⟩ = some (.string p) ∧ w'.cell? ⟨w.heap.size, 1, none⟩ = some (.string t) ∧ w'.cell? ⟨w.heap.size, 2, none⟩ = some (.int .u32 m) ∧ w'.cell? ⟨w.heap.size, 3, none⟩ = some (.string h) ∧ w'.cell? ⟨w.heap.size, 4, none⟩ = some (.string g) ∧ Below w.heap.size w w')
          (first | (go_split_ands; exact ⟨keep_cell (by assumption) (by assumption), keep_cell (by assumption) (by assumption), keep_cell (by assumption) (by assumption), keep_cell (by assumption) (by assumption), keep_cell (by assumption) (by assumption), below_next (by assumption) (by assumption)⟩) | exact ⟨a0, a1, a2, a3, a4, hB4.drew⟩)
          (first | (go_at_call 18; refine (entry_any p t h g m _).mono ?_; rintro e w8 ⟨rfl, hB8⟩) | (go_at_call 17; refine (zzcmp_any p t h g p t h g m m true true _ l true true true true hl (by simp) (by simp) (by simp) (by simp)).mono ?_; rintro e w9 ⟨v, rfl, hown, hB9⟩))
        obtain ⟨a, cap', rfl⟩ := owns_zero hown
        go_wp2
        go_ret
        exact ⟨rfl, by go_split_ands; assumption⟩
  · obtain ⟨a, cap, rfl⟩ := owns_zero (xs := []) hown
    clear hown
    go_wp2_with fail
    go_loop [7] (fun i => ∃ k : Nat, k ≤ 0 ∧ i = .int .i64 k) (fun i => 0 - (intOf i).toNat)
    case atStart => exact ⟨0, by omega, rfl⟩
    case round =>
      obtain ⟨k, hk, rfl⟩ := hrel
      obtain rfl : k = 0 := by omega
      go_wp2_with fail
      go_region_held3 (fun w' => w'.cell? ⟨w.heap.size, 0, none⟩ = some (.string p) ∧ w'.cell? ⟨w.heap.size, 1, none⟩ = some (.string t) ∧ w'.cell? ⟨w.heap.size, 2, none⟩ = some (.int .u32 m) ∧ w'.cell? ⟨w.heap.size, 3, none⟩ = some (.string h) ∧ w'.cell? ⟨w.heap.size, 4, none⟩ = some (.string g) ∧ Below w.heap.size w w')
        (first | (go_split_ands; exact ⟨keep_cell (by assumption) (by assumption), keep_cell (by assumption) (by assumption), keep_cell (by assumption) (by assumption), keep_cell (by assumption) (by assumption), keep_cell (by assumption) (by assumption), below_next (by assumption) (by assumption)⟩) | exact ⟨a0, a1, a2, a3, a4, hB4.drew⟩)
        (first | (go_at_call 18; refine (entry_any p t h g m _).mono ?_; rintro e w8 ⟨rfl, hB8⟩) | (go_at_call 17; refine (zzcmp_any p t h g p t h g m m true true _ l true true true true hl (by simp) (by simp) (by simp) (by simp)).mono ?_; rintro e w9 ⟨v, rfl, hown, hB9⟩))
      obtain ⟨a, cap', rfl⟩ := owns_zero hown
      go_wp2
      go_ret
      exact ⟨rfl, by go_split_ands; assumption⟩

end Go.Proofs.Qxb6600884aMods
