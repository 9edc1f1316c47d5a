import Derived.Test.Qxb6600884aModsCmp2
namespace Go.Proofs.Qxb6600884aMods
open Go.RowKit

theorem ret_int {k : IntKind} {a b : Int} (h : a = b) : Ending.returned (.int k a) = .returned (.int k b) := by rw [h]
def cnt (ks : List ByteArray) (k : ByteArray) : Nat := (ks.filter fun x => x.toList == k.toList).length
theorem cnt_le (ks : List ByteArray) (k : ByteArray) : cnt ks k ≤ ks.length := List.length_filter_le _ _
theorem cnt_snoc (ks : List ByteArray) (x k : ByteArray) : cnt (ks ++ [x]) k = cnt ks k + if x.toList == k.toList then 1 else 0 := by
  unfold cnt
  rw [List.filter_append, List.length_append]
  congr 1
  by_cases h : (x.toList == k.toList) = true <;> simp [h]
theorem take_snoc' (ks : List ByteArray) (k : ByteArray) (i : Nat) (h : i < ks.length) : ks.take (i + 1) = ks.take i ++ [ks.getD i k] := by
  rw [List.take_succ_eq_append_getElem h]; simp [List.getD_eq_getElem?_getD, List.getElem?_eq_getElem h]

set_option maxHeartbeats 400000 in
theorem count_any (g n cap : Nat) (ks : List ByteArray) (k : ByteArray) (w : World) (c : Int) (hc : (cnt ks k : Int) = c) (hn : ks.length = n) (hm : n ≤ 1000) (hcell : ∀ i, i < n → w.cell? ⟨g, i, none⟩ = some (.string (ks.getD i k))) :
    Calls Trym.prog 19 #[.slice (some ⟨g, 0, none⟩) n cap, .string k] w fun e w' => e = .returned (.int .i64 c) ∧ w' = w := by
  have Hc : Hid ((cnt ks k : Int) = c) := hc
  have Hn : Hid (ks.length = n) := hn
  clear hc
  go_enter Trym.func19, Trym.ntmps19
  go_wp2
  go_loop [5, 6] (fun q i => ∃ j : Nat, j ≤ n ∧ i = .int .i64 j ∧ q = .int .i64 (cnt (ks.take j) k)) (fun _ i => n - (intOf i).toNat)
  case atStart => exact ⟨0, Nat.zero_le _, rfl, rfl⟩
  case round =>
    obtain ⟨j, hj, rfl, rfl⟩ := hrel
    have hle := cnt_le (ks.take j) k
    have hl : (ks.take j).length ≤ j := List.length_take_le _ _
    by_cases hlt : j < n
    · have HS : Hid (cnt (ks.take (j + 1)) k = cnt (ks.take j) k + if (ks.getD j k).toList == k.toList then 1 else 0) := by
        rw [take_snoc' ks k j (by omega)]; exact cnt_snoc _ _ _
      have hx := hcell j hlt
      clear hn hcell
      generalize ks.getD j k = x at *
      go_wp2
      · go_round
        case rel => exact ⟨j + 1, by omega, by go_num, by rw [HS.out]; simp [*]⟩
        case measure => simp [intOf]; omega
      · go_round
        case rel => exact ⟨j + 1, by omega, by go_num, by rw [HS.out]; simp [*]⟩
        case measure => simp [intOf]; omega
    · go_wp2
      go_ret
      obtain rfl : j = n := by omega
      exact ⟨ret_int (by rw [← Hc.out, List.take_of_length_le (by omega)]), rfl⟩

set_option maxHeartbeats 400000 in
theorem count_nil (a : Option Addr) (cap : Nat) (k : ByteArray) (w : World) :
    Calls Trym.prog 19 #[.slice a 0 cap, .string k] w fun e w' => e = .returned (.int .i64 0) ∧ w' = w := by
  go_enter Trym.func19, Trym.ntmps19
  go_wp2
  refine wp_loop_rounds 1 ?_
  rw [rounds_succ]
  go_wp2
  go_ret
  exact ⟨rfl, rfl⟩

set_option maxHeartbeats 1000000 in
theorem bytes15_any (p t h g p' t' h' g' : ByteArray) (m m' : Int) (iw ig : Bool) (w : World) (hp : p.size ≤ maxLen) (ht : t.size ≤ maxLen) (hh : h.size ≤ maxLen) (hg : g.size ≤ maxLen) (hp' : p'.size ≤ maxLen) (ht' : t'.size ≤ maxLen) (hh' : h'.size ≤ maxLen) (hg' : g'.size ≤ maxLen) :
    Calls Trym.prog 15 #[ent p t m h g, ent p' t' m' h' g', .bool iw, .bool ig] w fun e w' => (∃ b, e = .returned (.bool b) ∧ (b = true → p.size + t.size + h.size + g.size + p'.size + t'.size + h'.size + g'.size ≤ 1048576)) ∧ Below w.heap.size w w' := by
  unfold maxLen at *
  go_enter Trym.func15, Trym.ntmps15
  go_wp2
  all_goals go_ret
  all_goals refine ⟨⟨_, rfl, ?_⟩, ((Below.refl _ _).alloc (Nat.le_refl _) _).alloc (by simp) _⟩
  all_goals first | (intro h; cases h; done) | (intro _; omega)

theorem mode_chg (l : Bool) : (kMode.toList == (chg l).toList) = false := by cases l <;> kernel_rfl
theorem chg_mode (l : Bool) : ((chg l).toList == kMode.toList) = false := by cases l <;> kernel_rfl
theorem cnt1 (l : Bool) : ((cnt [chg l] (chg l) : Nat) : Int) = 1 := by simp [cnt]
theorem cnt2 (l : Bool) : ((cnt [chg l] kMode : Nat) : Int) = 0 := by simp [cnt, chg_mode]
theorem cnt3 (l : Bool) : ((cnt [kMode] (chg l) : Nat) : Int) = 0 := by simp [cnt, mode_chg]
theorem cnt4 : ((cnt [kMode] kMode : Nat) : Int) = 1 := by simp [cnt]
theorem cnt5 (l : Bool) : ((cnt [chg l, kMode] (chg l) : Nat) : Int) = 1 := by simp [cnt, mode_chg]
theorem cnt6 (l : Bool) : ((cnt [chg l, kMode] kMode : Nat) : Int) = 1 := by simp [cnt, chg_mode]
theorem kLM_eq : (kLinkMissing.toList == [108, 105, 110, 107, 45, 109, 105, 115, 115, 105, 110, 103]) = true := by kernel_rfl
theorem kM_eq : (kMissing.toList == [109, 105, 115, 115, 105, 110, 103]) = true := by kernel_rfl
theorem kA_eq : (kAdded.toList == [97, 100, 100, 101, 100]) = true := by kernel_rfl
theorem kC_eq : ((chg false).toList == [99, 104, 97, 110, 103, 101, 100]) = true := by kernel_rfl
theorem kLC_eq : ((chg true).toList == [108, 105, 110, 107, 45, 99, 104, 97, 110, 103, 101, 100]) = true := by kernel_rfl

set_option maxHeartbeats 4000000 in
theorem law5 (p t h g p' t' h' g' : ByteArray) (m m' : Int) (iw ig : Bool) (w : World) (l te he ge me : Bool) (hl : (t.toList == [108, 105, 110, 107]) = l) (h1 : (t.toList == t'.toList) = te)
    (h2 : (h.toList == h'.toList) = he) (h3 : (g.toList == g'.toList) = ge) (h4 : (m == m') = me)
    (hp : p.size ≤ maxLen) (ht : t.size ≤ maxLen) (hh : h.size ≤ maxLen) (hg : g.size ≤ maxLen) (hp' : p'.size ≤ maxLen) (ht' : t'.size ≤ maxLen) (hh' : h'.size ≤ maxLen) (hg' : g'.size ≤ maxLen) :
    Calls Trym.prog 5 #[ent p t m h g, ent p' t' m' h' g', .bool iw, .bool ig] w fun e w' => e = .returned (.bool true) ∧ Below w.heap.size w w' := by
  have h5 : (m != m') = !me := by simp [bne, h4]
  go_enter Trym.func5, Trym.ntmps5
  go_wp2_with fail
  refine (bytes15_any p t h g p' t' h' g' m m' iw ig _ hp ht hh hg hp' ht' hh' hg').mono ?_
  rintro e w1 ⟨⟨b, rfl, hb⟩, hB⟩
  have hB1 : Below w.heap.size w w1 := (((Below.refl _ _).alloc (Nat.le_refl _) _).alloc (by simp) _).trans (hB.mono (by simp; omega))
  cases b
  · clear hB hb
    go_wp2
    go_ret
    exact ⟨rfl, hB1⟩
  replace hb := hb rfl
  have a0 : w1.cell? ⟨w.heap.size, 0, none⟩ = some (.string p) := keep_cell hB (by go_simp)
  have a1 : w1.cell? ⟨w.heap.size, 1, none⟩ = some (.string t) := keep_cell hB (by go_simp)
  have a2 : w1.cell? ⟨w.heap.size, 2, none⟩ = some (.int .u32 m) := keep_cell hB (by go_simp)
  have a3 : w1.cell? ⟨w.heap.size, 3, none⟩ = some (.string h) := keep_cell hB (by go_simp)
  have a4 : w1.cell? ⟨w.heap.size, 4, none⟩ = some (.string g) := keep_cell hB (by go_simp)
  have b0 : w1.cell? ⟨w.heap.size + 1, 0, none⟩ = some (.string p') := keep_cell hB (by go_simp)
  have b1 : w1.cell? ⟨w.heap.size + 1, 1, none⟩ = some (.string t') := keep_cell hB (by go_simp)
  have b2 : w1.cell? ⟨w.heap.size + 1, 2, none⟩ = some (.int .u32 m') := keep_cell hB (by go_simp)
  have b3 : w1.cell? ⟨w.heap.size + 1, 3, none⟩ = some (.string h') := keep_cell hB (by go_simp)
  have b4 : w1.cell? ⟨w.heap.size + 1, 4, none⟩ = some (.string g') := keep_cell hB (by go_simp)
  replace hB := hB1
  clear hB1 hp ht hh hg hp' ht' hh' hg'
  go_wp2_with fail
  go_region_held3 (fun w' => w'.cell? ⟨w.heap.size, 0, none⟩ = some (.string p) ∧ w'.cell? ⟨w.heap.size, 1, none⟩ = some (.string t) ∧ w'.cell? ⟨w.heap.size, 2, none⟩ = some (.int .u32 m) ∧ w'.cell? ⟨w.heap.size, 3, none⟩ = some (.string h) ∧ w'.cell? ⟨w.heap.size, 4, none⟩ = some (.string g) ∧
      w'.cell? ⟨w.heap.size + 1, 0, none⟩ = some (.string p') ∧ w'.cell? ⟨w.heap.size + 1, 1, none⟩ = some (.string t') ∧ w'.cell? ⟨w.heap.size + 1, 2, none⟩ = some (.int .u32 m') ∧ w'.cell? ⟨w.heap.size + 1, 3, none⟩ = some (.string h') ∧ w'.cell? ⟨w.heap.size + 1, 4, none⟩ = some (.string g') ∧ Below w.heap.size w w')
    (first | (go_split_ands; exact ⟨keep_cell (by assumption) (by assumption), keep_cell (by assumption) (by assumption), keep_cell (by assumption) (by assumption), keep_cell (by assumption) (by assumption), keep_cell (by assumption) (by assumption), keep_cell (by assumption) (by assumption), keep_cell (by assumption) (by assumption), keep_cell (by assumption) (by assumption), keep_cell (by assumption) (by assumption), keep_cell (by assumption) (by assumption), below_next (by assumption) (by assumption)⟩) | exact ⟨a0, a1, a2, a3, a4, b0, b1, b2, b3, b4, hB.drew⟩)
    (first | (go_at_call_of 16 (Value.string p); refine (entryBytes_any p t h g m _ (by omega) (by omega) (by omega) (by omega)).mono ?_; rintro e w2 ⟨rfl, hB2⟩) | (go_at_call_of 16 (Value.string p'); refine (entryBytes_any p' t' h' g' m' _ (by omega) (by omega) (by omega) (by omega)).mono ?_; rintro e w3 ⟨rfl, hB3⟩))
  clear hB2 hB3 hB a0 a1 a2 a3 a4 b0 b1 b2 b3 b4
  rename_i hS
  obtain ⟨a0, a1, a2, a3, a4, b0, b1, b2, b3, b4, hB⟩ := hS
  go_wp2_with fail
  · go_ret
    exact ⟨rfl, hB⟩
  go_region_held3 (fun w' => w'.cell? ⟨w.heap.size, 0, none⟩ = some (.string p) ∧ w'.cell? ⟨w.heap.size, 1, none⟩ = some (.string t) ∧ w'.cell? ⟨w.heap.size, 2, none⟩ = some (.int .u32 m) ∧ w'.cell? ⟨w.heap.size, 3, none⟩ = some (.string h) ∧ w'.cell? ⟨w.heap.size, 4, none⟩ = some (.string g) ∧
      w'.cell? ⟨w.heap.size + 1, 0, none⟩ = some (.string p') ∧ w'.cell? ⟨w.heap.size + 1, 1, none⟩ = some (.string t') ∧ w'.cell? ⟨w.heap.size + 1, 2, none⟩ = some (.int .u32 m') ∧ w'.cell? ⟨w.heap.size + 1, 3, none⟩ = some (.string h') ∧ w'.cell? ⟨w.heap.size + 1, 4, none⟩ = some (.string g') ∧ Below w.heap.size w w')
    (first | (go_split_ands; exact ⟨keep_cell (by assumption) (by assumption), keep_cell (by assumption) (by assumption), keep_cell (by assumption) (by assumption), keep_cell (by assumption) (by assumption), keep_cell (by assumption) (by assumption), keep_cell (by assumption) (by assumption), keep_cell (by assumption) (by assumption), keep_cell (by assumption) (by assumption), keep_cell (by assumption) (by assumption), keep_cell (by assumption) (by assumption), below_next (by assumption) (by assumption)⟩) | exact ⟨a0, a1, a2, a3, a4, b0, b1, b2, b3, b4, hB.drew⟩)
    (first | (go_at_call_of 18 (Value.string p); refine (entry_any p t h g m _).mono ?_; rintro e w5 ⟨rfl, hB5⟩) | (go_at_call_of 18 (Value.string p'); refine (entry_any p' t' h' g' m' _).mono ?_; rintro e w6 ⟨rfl, hB6⟩) | (go_at_call 17; refine (zzcmp_any p t h g p' t' h' g' m m' iw ig _ l te he ge me hl h1 h2 h3 h4).mono ?_; rintro e w7 ⟨v, rfl, hown, hB7⟩))
  clear hB5 hB6 hB7 hB a0 a1 a2 a3 a4 b0 b1 b2 b3 b4
  rename_i hS
  obtain ⟨a0, a1, a2, a3, a4, b0, b1, b2, b3, b4, hB⟩ := hS
  have f1 := kLM_eq
  have f2 := kM_eq
  have f3 := kA_eq
  have f4 := kC_eq
  have f5 := kLC_eq
  cases ig
  · cases l
    · replace hown : w7.ownsRow w6.heap.size 43 1 v 1 [.string kMissing] := hown
      obtain ⟨gg, cap, rfl, hc1, hc2, hc3, _, hcell⟩ := owns_cells (n := 1) (xs := [.string kMissing]) hown (by omega)
      have c0 : w7.cell? ⟨gg, 0, none⟩ = some (.string kMissing) := hcell 0 (by omega)
      clear hcell hown
      go_wp2
      go_ret
      exact ⟨rfl, hB⟩
    · replace hown : w7.ownsRow w6.heap.size 43 1 v 1 [.string kLinkMissing] := hown
      obtain ⟨gg, cap, rfl, hc1, hc2, hc3, _, hcell⟩ := owns_cells (n := 1) (xs := [.string kLinkMissing]) hown (by omega)
      have c0 : w7.cell? ⟨gg, 0, none⟩ = some (.string kLinkMissing) := hcell 0 (by omega)
      clear hcell hown
      go_wp2
      go_ret
      exact ⟨rfl, hB⟩
  cases iw
  · replace hown : w7.ownsRow w6.heap.size 43 1 v 1 [.string kAdded] := hown
    obtain ⟨gg, cap, rfl, hc1, hc2, hc3, _, hcell⟩ := owns_cells (n := 1) (xs := [.string kAdded]) hown (by omega)
    have c0 : w7.cell? ⟨gg, 0, none⟩ = some (.string kAdded) := hcell 0 (by omega)
    clear hcell hown
    go_wp2
    go_ret
    exact ⟨rfl, hB⟩
  cases l
  · cases te
    · replace hown : w7.ownsRow w6.heap.size 43 1 v 1 [.string (chg false)] := hown
      obtain ⟨gg, cap, rfl, hc1, hc2, hc3, _, hcell⟩ := owns_cells (n := 1) (xs := [.string (chg false)]) hown (by omega)
      have c0 : w7.cell? ⟨gg, 0, none⟩ = some (.string (chg false)) := hcell 0 (by omega)
      clear hcell hown
      have hk1 : Hid (∀ i, i < 1 → w7.cell? ⟨gg, i, none⟩ = some (.string (List.getD [(chg false)] i (chg false)))) := by
        intro i hi
        obtain rfl : i = 0 := by omega
        exact c0
      have hk2 : Hid (∀ i, i < 1 → w7.cell? ⟨gg, i, none⟩ = some (.string (List.getD [(chg false)] i kMode))) := by
        intro i hi
        obtain rfl : i = 0 := by omega
        exact c0
      go_wp2_with fail
      refine (count_any gg 1 cap [(chg false)] (chg false) _ 1 (cnt1 false) rfl (by omega) hk1.out).mono ?_
      rintro e w8 ⟨rfl, rfl⟩
      go_wp2_with fail
      refine (count_any gg 1 cap [(chg false)] kMode _ 0 (cnt2 false) rfl (by omega) hk2.out).mono ?_
      rintro e w9 ⟨rfl, rfl⟩
      clear hk1 hk2
      go_wp2
      go_ret
      exact ⟨rfl, hB⟩
    cases me
    · cases hc : (he && ge)
      · replace hown : w7.ownsRow w6.heap.size 43 1 v 2 [.string (chg false), .string kMode] := by simpa [kindsOf, hc] using hown
        have hc' : (!he || !ge) = true := by cases he <;> cases ge <;> simp_all
        cases he
        · obtain ⟨gg, cap, rfl, hc1, hc2, hc3, _, hcell⟩ := owns_cells (n := 2) (xs := [.string (chg false), .string kMode]) hown (by omega)
          have c0 : w7.cell? ⟨gg, 0, none⟩ = some (.string (chg false)) := hcell 0 (by omega)
          have c1 : w7.cell? ⟨gg, 1, none⟩ = some (.string kMode) := hcell 1 (by omega)
          clear hcell hown
          have hk1 : Hid (∀ i, i < 2 → w7.cell? ⟨gg, i, none⟩ = some (.string (List.getD [(chg false), kMode] i (chg false)))) := by
            intro i hi
            obtain rfl | rfl : i = 0 ∨ i = 1 := by omega
            · exact c0
            · exact c1
          have hk2 : Hid (∀ i, i < 2 → w7.cell? ⟨gg, i, none⟩ = some (.string (List.getD [(chg false), kMode] i kMode))) := by
            intro i hi
            obtain rfl | rfl : i = 0 ∨ i = 1 := by omega
            · exact c0
            · exact c1
          go_wp2_with fail
          refine (count_any gg 2 cap [(chg false), kMode] (chg false) _ 1 (cnt5 false) rfl (by omega) hk1.out).mono ?_
          rintro e w8 ⟨rfl, rfl⟩
          go_wp2_with fail
          refine (count_any gg 2 cap [(chg false), kMode] kMode _ 1 (cnt6 false) rfl (by omega) hk2.out).mono ?_
          rintro e w9 ⟨rfl, rfl⟩
          clear hk1 hk2
          go_wp2
          go_ret
          exact ⟨rfl, hB⟩
        cases ge
        · obtain ⟨gg, cap, rfl, hc1, hc2, hc3, _, hcell⟩ := owns_cells (n := 2) (xs := [.string (chg false), .string kMode]) hown (by omega)
          have c0 : w7.cell? ⟨gg, 0, none⟩ = some (.string (chg false)) := hcell 0 (by omega)
          have c1 : w7.cell? ⟨gg, 1, none⟩ = some (.string kMode) := hcell 1 (by omega)
          clear hcell hown
          have hk1 : Hid (∀ i, i < 2 → w7.cell? ⟨gg, i, none⟩ = some (.string (List.getD [(chg false), kMode] i (chg false)))) := by
            intro i hi
            obtain rfl | rfl : i = 0 ∨ i = 1 := by omega
            · exact c0
            · exact c1
          have hk2 : Hid (∀ i, i < 2 → w7.cell? ⟨gg, i, none⟩ = some (.string (List.getD [(chg false), kMode] i kMode))) := by
            intro i hi
            obtain rfl | rfl : i = 0 ∨ i = 1 := by omega
            · exact c0
            · exact c1
          go_wp2_with fail
          refine (count_any gg 2 cap [(chg false), kMode] (chg false) _ 1 (cnt5 false) rfl (by omega) hk1.out).mono ?_
          rintro e w8 ⟨rfl, rfl⟩
          go_wp2_with fail
          refine (count_any gg 2 cap [(chg false), kMode] kMode _ 1 (cnt6 false) rfl (by omega) hk2.out).mono ?_
          rintro e w9 ⟨rfl, rfl⟩
          clear hk1 hk2
          go_wp2
          go_ret
          exact ⟨rfl, hB⟩
        · cases hc
      · replace hown : w7.ownsRow w6.heap.size 43 1 v 1 [.string kMode] := by simpa [kindsOf, hc] using hown
        obtain ⟨rfl, rfl⟩ : he = true ∧ ge = true := by simpa using hc
        clear hc
        obtain ⟨gg, cap, rfl, hc1, hc2, hc3, _, hcell⟩ := owns_cells (n := 1) (xs := [.string kMode]) hown (by omega)
        have c0 : w7.cell? ⟨gg, 0, none⟩ = some (.string kMode) := hcell 0 (by omega)
        clear hcell hown
        have hk1 : Hid (∀ i, i < 1 → w7.cell? ⟨gg, i, none⟩ = some (.string (List.getD [kMode] i (chg false)))) := by
          intro i hi
          obtain rfl : i = 0 := by omega
          exact c0
        have hk2 : Hid (∀ i, i < 1 → w7.cell? ⟨gg, i, none⟩ = some (.string (List.getD [kMode] i kMode))) := by
          intro i hi
          obtain rfl : i = 0 := by omega
          exact c0
        go_wp2_with fail
        refine (count_any gg 1 cap [kMode] (chg false) _ 0 (cnt3 false) rfl (by omega) hk1.out).mono ?_
        rintro e w8 ⟨rfl, rfl⟩
        go_wp2_with fail
        refine (count_any gg 1 cap [kMode] kMode _ 1 cnt4 rfl (by omega) hk2.out).mono ?_
        rintro e w9 ⟨rfl, rfl⟩
        clear hk1 hk2
        go_wp2
        go_ret
        exact ⟨rfl, hB⟩
    cases he
    · obtain ⟨gg, cap, rfl, hc1, hc2, hc3, _, hcell⟩ := owns_cells (n := 1) (xs := [.string (chg false)]) hown (by omega)
      have c0 : w7.cell? ⟨gg, 0, none⟩ = some (.string (chg false)) := hcell 0 (by omega)
      clear hcell hown
      have hk1 : Hid (∀ i, i < 1 → w7.cell? ⟨gg, i, none⟩ = some (.string (List.getD [(chg false)] i (chg false)))) := by
        intro i hi
        obtain rfl : i = 0 := by omega
        exact c0
      have hk2 : Hid (∀ i, i < 1 → w7.cell? ⟨gg, i, none⟩ = some (.string (List.getD [(chg false)] i kMode))) := by
        intro i hi
        obtain rfl : i = 0 := by omega
        exact c0
      go_wp2_with fail
      refine (count_any gg 1 cap [(chg false)] (chg false) _ 1 (cnt1 false) rfl (by omega) hk1.out).mono ?_
      rintro e w8 ⟨rfl, rfl⟩
      go_wp2_with fail
      refine (count_any gg 1 cap [(chg false)] kMode _ 0 (cnt2 false) rfl (by omega) hk2.out).mono ?_
      rintro e w9 ⟨rfl, rfl⟩
      clear hk1 hk2
      go_wp2
      go_ret
      exact ⟨rfl, hB⟩
    cases ge
    · obtain ⟨gg, cap, rfl, hc1, hc2, hc3, _, hcell⟩ := owns_cells (n := 1) (xs := [.string (chg false)]) hown (by omega)
      have c0 : w7.cell? ⟨gg, 0, none⟩ = some (.string (chg false)) := hcell 0 (by omega)
      clear hcell hown
      have hk1 : Hid (∀ i, i < 1 → w7.cell? ⟨gg, i, none⟩ = some (.string (List.getD [(chg false)] i (chg false)))) := by
        intro i hi
        obtain rfl : i = 0 := by omega
        exact c0
      have hk2 : Hid (∀ i, i < 1 → w7.cell? ⟨gg, i, none⟩ = some (.string (List.getD [(chg false)] i kMode))) := by
        intro i hi
        obtain rfl : i = 0 := by omega
        exact c0
      go_wp2_with fail
      refine (count_any gg 1 cap [(chg false)] (chg false) _ 1 (cnt1 false) rfl (by omega) hk1.out).mono ?_
      rintro e w8 ⟨rfl, rfl⟩
      go_wp2_with fail
      refine (count_any gg 1 cap [(chg false)] kMode _ 0 (cnt2 false) rfl (by omega) hk2.out).mono ?_
      rintro e w9 ⟨rfl, rfl⟩
      clear hk1 hk2
      go_wp2
      go_ret
      exact ⟨rfl, hB⟩
    · obtain ⟨a, cap, rfl⟩ := owns_zero (xs := []) hown
      clear hown
      go_wp2_with fail
      refine (count_nil a cap _ _).mono ?_
      rintro e w8 ⟨rfl, rfl⟩
      go_wp2_with fail
      refine (count_nil a cap _ _).mono ?_
      rintro e w9 ⟨rfl, rfl⟩
      go_wp2
      go_ret
      exact ⟨rfl, hB⟩
  · cases te
    · replace hown : w7.ownsRow w6.heap.size 43 1 v 1 [.string (chg true)] := hown
      obtain ⟨gg, cap, rfl, hc1, hc2, hc3, _, hcell⟩ := owns_cells (n := 1) (xs := [.string (chg true)]) hown (by omega)
      have c0 : w7.cell? ⟨gg, 0, none⟩ = some (.string (chg true)) := hcell 0 (by omega)
      clear hcell hown
      have hk1 : Hid (∀ i, i < 1 → w7.cell? ⟨gg, i, none⟩ = some (.string (List.getD [(chg true)] i (chg true)))) := by
        intro i hi
        obtain rfl : i = 0 := by omega
        exact c0
      have hk2 : Hid (∀ i, i < 1 → w7.cell? ⟨gg, i, none⟩ = some (.string (List.getD [(chg true)] i kMode))) := by
        intro i hi
        obtain rfl : i = 0 := by omega
        exact c0
      go_wp2_with fail
      refine (count_any gg 1 cap [(chg true)] (chg true) _ 1 (cnt1 true) rfl (by omega) hk1.out).mono ?_
      rintro e w8 ⟨rfl, rfl⟩
      go_wp2_with fail
      refine (count_any gg 1 cap [(chg true)] kMode _ 0 (cnt2 true) rfl (by omega) hk2.out).mono ?_
      rintro e w9 ⟨rfl, rfl⟩
      clear hk1 hk2
      go_wp2
      go_ret
      exact ⟨rfl, hB⟩
    cases me
    · cases hc : (he && ge)
      · replace hown : w7.ownsRow w6.heap.size 43 1 v 2 [.string (chg true), .string kMode] := by simpa [kindsOf, hc] using hown
        have hc' : (!he || !ge) = true := by cases he <;> cases ge <;> simp_all
        cases he
        · obtain ⟨gg, cap, rfl, hc1, hc2, hc3, _, hcell⟩ := owns_cells (n := 2) (xs := [.string (chg true), .string kMode]) hown (by omega)
          have c0 : w7.cell? ⟨gg, 0, none⟩ = some (.string (chg true)) := hcell 0 (by omega)
          have c1 : w7.cell? ⟨gg, 1, none⟩ = some (.string kMode) := hcell 1 (by omega)
          clear hcell hown
          have hk1 : Hid (∀ i, i < 2 → w7.cell? ⟨gg, i, none⟩ = some (.string (List.getD [(chg true), kMode] i (chg true)))) := by
            intro i hi
            obtain rfl | rfl : i = 0 ∨ i = 1 := by omega
            · exact c0
            · exact c1
          have hk2 : Hid (∀ i, i < 2 → w7.cell? ⟨gg, i, none⟩ = some (.string (List.getD [(chg true), kMode] i kMode))) := by
            intro i hi
            obtain rfl | rfl : i = 0 ∨ i = 1 := by omega
            · exact c0
            · exact c1
          go_wp2_with fail
          refine (count_any gg 2 cap [(chg true), kMode] (chg true) _ 1 (cnt5 true) rfl (by omega) hk1.out).mono ?_
          rintro e w8 ⟨rfl, rfl⟩
          go_wp2_with fail
          refine (count_any gg 2 cap [(chg true), kMode] kMode _ 1 (cnt6 true) rfl (by omega) hk2.out).mono ?_
          rintro e w9 ⟨rfl, rfl⟩
          clear hk1 hk2
          go_wp2
          go_ret
          exact ⟨rfl, hB⟩
        cases ge
        · obtain ⟨gg, cap, rfl, hc1, hc2, hc3, _, hcell⟩ := owns_cells (n := 2) (xs := [.string (chg true), .string kMode]) hown (by omega)
          have c0 : w7.cell? ⟨gg, 0, none⟩ = some (.string (chg true)) := hcell 0 (by omega)
          have c1 : w7.cell? ⟨gg, 1, none⟩ = some (.string kMode) := hcell 1 (by omega)
          clear hcell hown
          have hk1 : Hid (∀ i, i < 2 → w7.cell? ⟨gg, i, none⟩ = some (.string (List.getD [(chg true), kMode] i (chg true)))) := by
            intro i hi
            obtain rfl | rfl : i = 0 ∨ i = 1 := by omega
            · exact c0
            · exact c1
          have hk2 : Hid (∀ i, i < 2 → w7.cell? ⟨gg, i, none⟩ = some (.string (List.getD [(chg true), kMode] i kMode))) := by
            intro i hi
            obtain rfl | rfl : i = 0 ∨ i = 1 := by omega
            · exact c0
            · exact c1
          go_wp2_with fail
          refine (count_any gg 2 cap [(chg true), kMode] (chg true) _ 1 (cnt5 true) rfl (by omega) hk1.out).mono ?_
          rintro e w8 ⟨rfl, rfl⟩
          go_wp2_with fail
          refine (count_any gg 2 cap [(chg true), kMode] kMode _ 1 (cnt6 true) rfl (by omega) hk2.out).mono ?_
          rintro e w9 ⟨rfl, rfl⟩
          clear hk1 hk2
          go_wp2
          go_ret
          exact ⟨rfl, hB⟩
        · cases hc
      · replace hown : w7.ownsRow w6.heap.size 43 1 v 1 [.string kMode] := by simpa [kindsOf, hc] using hown
        obtain ⟨rfl, rfl⟩ : he = true ∧ ge = true := by simpa using hc
        clear hc
        obtain ⟨gg, cap, rfl, hc1, hc2, hc3, _, hcell⟩ := owns_cells (n := 1) (xs := [.string kMode]) hown (by omega)
        have c0 : w7.cell? ⟨gg, 0, none⟩ = some (.string kMode) := hcell 0 (by omega)
        clear hcell hown
        have hk1 : Hid (∀ i, i < 1 → w7.cell? ⟨gg, i, none⟩ = some (.string (List.getD [kMode] i (chg true)))) := by
          intro i hi
          obtain rfl : i = 0 := by omega
          exact c0
        have hk2 : Hid (∀ i, i < 1 → w7.cell? ⟨gg, i, none⟩ = some (.string (List.getD [kMode] i kMode))) := by
          intro i hi
          obtain rfl : i = 0 := by omega
          exact c0
        go_wp2_with fail
        refine (count_any gg 1 cap [kMode] (chg true) _ 0 (cnt3 true) rfl (by omega) hk1.out).mono ?_
        rintro e w8 ⟨rfl, rfl⟩
        go_wp2_with fail
        refine (count_any gg 1 cap [kMode] kMode _ 1 cnt4 rfl (by omega) hk2.out).mono ?_
        rintro e w9 ⟨rfl, rfl⟩
        clear hk1 hk2
        go_wp2
        go_ret
        exact ⟨rfl, hB⟩
    cases he
    · obtain ⟨gg, cap, rfl, hc1, hc2, hc3, _, hcell⟩ := owns_cells (n := 1) (xs := [.string (chg true)]) hown (by omega)
      have c0 : w7.cell? ⟨gg, 0, none⟩ = some (.string (chg true)) := hcell 0 (by omega)
      clear hcell hown
      have hk1 : Hid (∀ i, i < 1 → w7.cell? ⟨gg, i, none⟩ = some (.string (List.getD [(chg true)] i (chg true)))) := by
        intro i hi
        obtain rfl : i = 0 := by omega
        exact c0
      have hk2 : Hid (∀ i, i < 1 → w7.cell? ⟨gg, i, none⟩ = some (.string (List.getD [(chg true)] i kMode))) := by
        intro i hi
        obtain rfl : i = 0 := by omega
        exact c0
      go_wp2_with fail
      refine (count_any gg 1 cap [(chg true)] (chg true) _ 1 (cnt1 true) rfl (by omega) hk1.out).mono ?_
      rintro e w8 ⟨rfl, rfl⟩
      go_wp2_with fail
      refine (count_any gg 1 cap [(chg true)] kMode _ 0 (cnt2 true) rfl (by omega) hk2.out).mono ?_
      rintro e w9 ⟨rfl, rfl⟩
      clear hk1 hk2
      go_wp2
      go_ret
      exact ⟨rfl, hB⟩
    cases ge
    · obtain ⟨gg, cap, rfl, hc1, hc2, hc3, _, hcell⟩ := owns_cells (n := 1) (xs := [.string (chg true)]) hown (by omega)
      have c0 : w7.cell? ⟨gg, 0, none⟩ = some (.string (chg true)) := hcell 0 (by omega)
      clear hcell hown
      have hk1 : Hid (∀ i, i < 1 → w7.cell? ⟨gg, i, none⟩ = some (.string (List.getD [(chg true)] i (chg true)))) := by
        intro i hi
        obtain rfl : i = 0 := by omega
        exact c0
      have hk2 : Hid (∀ i, i < 1 → w7.cell? ⟨gg, i, none⟩ = some (.string (List.getD [(chg true)] i kMode))) := by
        intro i hi
        obtain rfl : i = 0 := by omega
        exact c0
      go_wp2_with fail
      refine (count_any gg 1 cap [(chg true)] (chg true) _ 1 (cnt1 true) rfl (by omega) hk1.out).mono ?_
      rintro e w8 ⟨rfl, rfl⟩
      go_wp2_with fail
      refine (count_any gg 1 cap [(chg true)] kMode _ 0 (cnt2 true) rfl (by omega) hk2.out).mono ?_
      rintro e w9 ⟨rfl, rfl⟩
      clear hk1 hk2
      go_wp2
      go_ret
      exact ⟨rfl, hB⟩
    · obtain ⟨a, cap, rfl⟩ := owns_zero (xs := []) hown
      clear hown
      go_wp2_with fail
      refine (count_nil a cap _ _).mono ?_
      rintro e w8 ⟨rfl, rfl⟩
      go_wp2_with fail
      refine (count_nil a cap _ _).mono ?_
      rintro e w9 ⟨rfl, rfl⟩
      go_wp2
      go_ret
      exact ⟨rfl, hB⟩

end Go.Proofs.Qxb6600884aMods
