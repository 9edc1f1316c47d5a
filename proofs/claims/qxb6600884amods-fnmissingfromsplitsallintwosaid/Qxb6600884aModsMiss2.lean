import Derived.Test.Qxb6600884aModsMiss
namespace Go.Proofs.Qxb6600884aMods
open Go.RowKit Go.Maps

/-- The cells of a row of Releases. -/
def relCells (rs : List (ByteArray × ByteArray)) : List Value := rs.flatMap fun r => [.string r.1, .string r.2]

theorem Trym.info29 : (Trym.prog.info? 29).map (fun i => (i.zero, i.size, i.bytes)) = some (some (.agg #[.string ⟨#[]⟩, .string ⟨#[]⟩]), 2, 32) := by kernel_rfl

theorem relCells_length : ∀ rs : List (ByteArray × ByteArray), (relCells rs).length = rs.length * 2
  | [] => rfl
  | r :: rs => by have := relCells_length rs; simp only [relCells, List.flatMap_cons, List.length_append, List.length_cons, List.length_nil] at *; omega
theorem relCells_cons (r : ByteArray × ByteArray) (rs : List (ByteArray × ByteArray)) : relCells (r :: rs) = .string r.1 :: .string r.2 :: relCells rs := rfl
theorem relCells_append (l r : List (ByteArray × ByteArray)) : relCells (l ++ r) = relCells l ++ relCells r := by simp [relCells]
theorem relCells_get0 : ∀ (rs : List (ByteArray × ByteArray)) (k : Nat), (relCells rs)[k * 2]? = rs[k]?.map fun r => .string r.1
  | [], k => by simp [relCells]
  | r :: rs, 0 => by simp [relCells_cons]
  | r :: rs, k + 1 => by
    rw [relCells_cons, show (k + 1) * 2 = k * 2 + 1 + 1 from by omega]
    simpa using relCells_get0 rs k
theorem relCells_get1 : ∀ (rs : List (ByteArray × ByteArray)) (k : Nat), (relCells rs)[k * 2 + 1]? = rs[k]?.map fun r => .string r.2
  | [], k => by simp [relCells]
  | r :: rs, 0 => by simp [relCells_cons]
  | r :: rs, k + 1 => by
    rw [relCells_cons, show (k + 1) * 2 + 1 = k * 2 + 1 + 1 + 1 from by omega]
    simpa using relCells_get1 rs k
theorem relCells_set : ∀ (rs : List (ByteArray × ByteArray)) (k : Nat) (r : ByteArray × ByteArray), relCells (rs.set k r) = ((relCells rs).set (k * 2) (.string r.1)).set (k * 2 + 1) (.string r.2)
  | [], k, r => by simp [relCells]
  | x :: rs, 0, r => by simp [relCells_cons]
  | x :: rs, k + 1, r => by
    rw [show (k + 1) * 2 = k * 2 + 1 + 1 from by omega]
    simp only [List.set_cons_succ, relCells_cons]
    rw [relCells_set rs k r]
theorem relCells_made : ∀ n : Nat, (madeCells (Value.agg #[.string ⟨#[]⟩, .string ⟨#[]⟩]).cells (n * 2)).toList = relCells (List.replicate n (⟨#[]⟩, ⟨#[]⟩)) := by
  intro n
  have e : (Value.agg #[.string ⟨#[]⟩, .string ⟨#[]⟩]).cells = #[Value.string ⟨#[]⟩, .string ⟨#[]⟩] := rfl
  rw [e]
  apply List.ext_getElem?
  intro j
  by_cases hj : j < n * 2
  · rcases Nat.mod_two_eq_zero_or_one j with h | h
    · obtain ⟨k, rfl⟩ : ∃ k, j = k * 2 := ⟨j / 2, by omega⟩
      rw [relCells_get0]
      have hk : k < n := by omega
      simp [madeCells, hk]
    · obtain ⟨k, rfl⟩ : ∃ k, j = k * 2 + 1 := ⟨j / 2, by omega⟩
      rw [relCells_get1]
      have hk : k < n := by omega
      have hm : (k * 2 + 1) % 2 = 1 := by omega
      simp [madeCells, hk, hj, hm]
  · have h2 : (relCells (List.replicate n ((⟨#[]⟩ : ByteArray), (⟨#[]⟩ : ByteArray)))).length ≤ j := by rw [relCells_length]; simp; omega
    rw [List.getElem?_eq_none h2]
    simp [madeCells, hj]

/-- What a round of zzReleases does: its two stores. -/
theorem rels_step {w wr : World} {n k : Nat} {l z : List (ByteArray × ByteArray)} {x y : ByteArray} (hk : k < n) (hl : l.length = n) (hz : z[k]? = some (x, y)) (hp : ∀ j, j < k → l[j]? = z[j]?)
    (hown : wr.ownsRow w.heap.size 29 2 (.slice (some ⟨w.heap.size, 0, none⟩) n n) n (relCells l)) (hb : Below w.heap.size w wr) :
    ∃ l' : List (ByteArray × ByteArray), l'.length = n ∧ (∀ j, j < k + 1 → l'[j]? = z[j]?) ∧
      ((wr.setCell ⟨w.heap.size, k * 2, none⟩ (.string x)).setCell ⟨w.heap.size, k * 2 + 1, none⟩ (.string y)).ownsRow w.heap.size 29 2 (.slice (some ⟨w.heap.size, 0, none⟩) n n) n (relCells l') ∧
      Below w.heap.size w ((wr.setCell ⟨w.heap.size, k * 2, none⟩ (.string x)).setCell ⟨w.heap.size, k * 2 + 1, none⟩ (.string y)) := by
  refine ⟨l.set k (x, y), by simpa using hl, fun j hj => ?_, ?_, (hb.setCell (Nat.le_refl _) _).setCell (Nat.le_refl _) _⟩
  · rw [List.getElem?_set]
    by_cases e : k = j
    · subst e; simp [hz, hl, hk]
    · rw [if_neg e]; exact hp j (by omega)
  · rw [relCells_set]
    exact ((hown.stored (k * 2) (.string x)).1.stored (k * 2 + 1) (.string y)).1

theorem zip_get (s0 s1 : List ByteArray) (k : Nat) (h0 : k < s0.length) (h1 : k < s1.length) : (s0.zip s1)[k]? = some (s0.getD k ByteArray.empty, s1.getD k ByteArray.empty) := by
  simp [List.getElem?_zip_eq_some, h0, h1]

set_option maxHeartbeats 2000000 in
theorem rels_any (a0 : Option Addr) (n0 cap0 : Nat) (s0 : List ByteArray) (a1 : Option Addr) (n1 cap1 : Nat) (s1 : List ByteArray) (w : World) (h0 : IsStrs w a0 n0 s0) (h1 : IsStrs w a1 n1 s1) (hn0 : n0 ≤ 65536) (hn1 : n1 ≤ 65536) (n : Nat) (hn : n = if n1 < n0 then n1 else n0) :
    Calls Trym.prog 10 #[.slice a0 n0 cap0, .slice a1 n1 cap1] w fun e w' => ∃ g, e = .returned (.slice (some ⟨g, 0, none⟩) n n) ∧ w'.ownsRow w.heap.size 29 2 (.slice (some ⟨g, 0, none⟩) n n) n (relCells (s0.zip s1)) ∧ Below w.heap.size w w' := by
  obtain ⟨i0, hi0, hz0, hz1, hz2⟩ := info_parts Trym.info29
  have hnz : (s0.zip s1).length = n := by rw [List.length_zip, h0.len, h1.len, hn]; split <;> omega
  have HN : Hid ((s0.zip s1).length = n) := hnz
  have hle0 : n ≤ n0 := by rw [hn]; split <;> omega
  have hle1 : n ≤ n1 := by rw [hn]; split <;> omega
  have H0 : Hid (IsStrs w a0 n0 s0) := h0
  have H1 : Hid (IsStrs w a1 n1 s1) := h1
  have HZ : Hid (∀ k, k < n → (s0.zip s1)[k]? = some (s0.getD k ByteArray.empty, s1.getD k ByteArray.empty)) := fun k hk => zip_get s0 s1 k (by rw [h0.len]; omega) (by rw [h1.len]; omega)
  clear h0 h1 hnz
  generalize s0.zip s1 = z at *
  by_cases hc : n1 < n0
  · rw [if_pos hc] at hn
    subst hn
    go_enter Trym.func10, Trym.ntmps10
    go_wp2_with (at_make; refine Hold.out ?_)
    refine Hold.of ?_
    refine wpList_make_full _ rfl _ _ _ (by rfl) w.heap.size 29 i0 _ 2 Trym.underlying25 hi0 hz0 hz1 .i64 .i64 (n : Int) (n : Int) n (by rfl) (by rfl) rfl rfl (by rw [hz2]; omega) (by unfold maxLen; omega) (Nat.le_refl _) ?_
    intro w1 hown hgrow
    have hb : Below w.heap.size w w1 := (Below.refl _ _).grown hgrow (Nat.le_refl _) (by simp)
    rw [relCells_made] at hown
    clear hgrow
    go_wp2_with fail
    go_loopw [7] (fun i wr => ∃ (k : Nat) (l : List (ByteArray × ByteArray)), k ≤ n ∧ i = .int .i64 k ∧ l.length = n ∧ (∀ j, j < k → l[j]? = z[j]?) ∧ wr.ownsRow w.heap.size 29 2 (.slice (some ⟨w.heap.size, 0, none⟩) n n) n (relCells l) ∧ Below w.heap.size w wr)
      (fun i _ => n - (intOf i).toNat)
    case atStart => exact ⟨0, _, Nat.zero_le _, rfl, by simp, by intro j hj; omega, hown, hb⟩
    case round =>
      clear hown hb
      obtain ⟨k, l, hk, rfl, hl, hp, hown, hb⟩ := hrel
      by_cases hlt : k < n
      · obtain ⟨b0, off0, rfl⟩ := H0.out.at' k (by omega)
        obtain ⟨b1, off1, rfl⟩ := H1.out.at' k (by omega)
        have hx0 := H0.out.cell b0 off0 rfl k (by omega)
        have hx1 := H1.out.cell b1 off1 rfl k (by omega)
        have hzk := HZ.out k hlt
        generalize s0.getD k ByteArray.empty = x at *
        generalize s1.getD k ByteArray.empty = y at *
        have lt0 := World.block_lt_of_cell? w _ hx0
        have lt1 := World.block_lt_of_cell? w _ hx1
        replace hx0 : wr.cell? ⟨b0, off0 + k, none⟩ = some (.string x) := (hb.cell lt0).trans hx0
        replace hx1 : wr.cell? ⟨b1, off1 + k, none⟩ = some (.string y) := (hb.cell lt1).trans hx1
        simp only at lt0 lt1
        have R : Hid _ := rels_step hlt hl hzk hp hown hb
        obtain ⟨l0, hl0⟩ : ∃ r, l[k]? = some r := ⟨_, List.getElem?_eq_getElem (by omega)⟩
        have c0 : wr.cell? ⟨w.heap.size, k * 2, none⟩ = some (.string l0.1) := by rw [hown.cellAt _ (by omega), relCells_get0, hl0]; rfl
        have c1 : wr.cell? ⟨w.heap.size, k * 2 + 1, none⟩ = some (.string l0.2) := by rw [hown.cellAt _ (by omega), relCells_get1, hl0]; rfl
        have f0 : wr.frozen? ⟨w.heap.size, k * 2, none⟩ = false := hown.frozenAt _
        have f1 : wr.frozen? ⟨w.heap.size, k * 2 + 1, none⟩ = false := hown.frozenAt _
        have i1 : (0 : Int) ≤ (k : Int) := by omega
        have i2 : (k : Int) < (n : Int) := by omega
        have i3 : (k : Int) < (n0 : Int) := by omega
        have ne0 : w.heap.size ≠ b0 := by omega
        have ne1 : w.heap.size ≠ b1 := by omega
        clear hp hown hzk HZ H0 H1 HN hl hl0 hi0 hz0 hz1 hz2
        go_wp2_with fail
        go_region_held3 (fun w' => w'.cell? ⟨b0, off0 + k, none⟩ = some (.string x) ∧ w'.cell? ⟨b1, off1 + k, none⟩ = some (.string y)) (go_keep) (fail)
        clear hx0 hx1 c0 c1 f0 f1
        go_wp2
        go_roundw
        case rel =>
          obtain ⟨l', hl', hp', hown', hb'⟩ := R.out
          exact ⟨k + 1, l', by omega, by go_num, hl', hp', hown'.drew, hb'.drew⟩
        case measure => simp [intOf]; omega
      · obtain rfl : k = n := by omega
        go_wp2
        go_ret
        refine ⟨_, rfl, ?_, hb⟩
        have : l = z := by
          apply List.ext_getElem?
          intro j
          by_cases hj : j < k
          · exact hp j hj
          · rw [List.getElem?_eq_none (by omega), List.getElem?_eq_none (by rw [HN.out]; omega)]
        rw [← this]
        exact hown
  · rw [if_neg hc] at hn
    subst hn
    go_enter Trym.func10, Trym.ntmps10
    go_wp2_with (at_make; refine Hold.out ?_)
    refine Hold.of ?_
    refine wpList_make_full _ rfl _ _ _ (by rfl) w.heap.size 29 i0 _ 2 Trym.underlying25 hi0 hz0 hz1 .i64 .i64 (n : Int) (n : Int) n (by rfl) (by rfl) rfl rfl (by rw [hz2]; omega) (by unfold maxLen; omega) (Nat.le_refl _) ?_
    intro w1 hown hgrow
    have hb : Below w.heap.size w w1 := (Below.refl _ _).grown hgrow (Nat.le_refl _) (by simp)
    rw [relCells_made] at hown
    clear hgrow
    go_wp2_with fail
    go_loopw [7] (fun i wr => ∃ (k : Nat) (l : List (ByteArray × ByteArray)), k ≤ n ∧ i = .int .i64 k ∧ l.length = n ∧ (∀ j, j < k → l[j]? = z[j]?) ∧ wr.ownsRow w.heap.size 29 2 (.slice (some ⟨w.heap.size, 0, none⟩) n n) n (relCells l) ∧ Below w.heap.size w wr)
      (fun i _ => n - (intOf i).toNat)
    case atStart => exact ⟨0, _, Nat.zero_le _, rfl, by simp, by intro j hj; omega, hown, hb⟩
    case round =>
      clear hown hb
      obtain ⟨k, l, hk, rfl, hl, hp, hown, hb⟩ := hrel
      by_cases hlt : k < n
      · obtain ⟨b0, off0, rfl⟩ := H0.out.at' k (by omega)
        obtain ⟨b1, off1, rfl⟩ := H1.out.at' k (by omega)
        have hx0 := H0.out.cell b0 off0 rfl k (by omega)
        have hx1 := H1.out.cell b1 off1 rfl k (by omega)
        have hzk := HZ.out k hlt
        generalize s0.getD k ByteArray.empty = x at *
        generalize s1.getD k ByteArray.empty = y at *
        have lt0 := World.block_lt_of_cell? w _ hx0
        have lt1 := World.block_lt_of_cell? w _ hx1
        replace hx0 : wr.cell? ⟨b0, off0 + k, none⟩ = some (.string x) := (hb.cell lt0).trans hx0
        replace hx1 : wr.cell? ⟨b1, off1 + k, none⟩ = some (.string y) := (hb.cell lt1).trans hx1
        simp only at lt0 lt1
        have R : Hid _ := rels_step hlt hl hzk hp hown hb
        obtain ⟨l0, hl0⟩ : ∃ r, l[k]? = some r := ⟨_, List.getElem?_eq_getElem (by omega)⟩
        have c0 : wr.cell? ⟨w.heap.size, k * 2, none⟩ = some (.string l0.1) := by rw [hown.cellAt _ (by omega), relCells_get0, hl0]; rfl
        have c1 : wr.cell? ⟨w.heap.size, k * 2 + 1, none⟩ = some (.string l0.2) := by rw [hown.cellAt _ (by omega), relCells_get1, hl0]; rfl
        have f0 : wr.frozen? ⟨w.heap.size, k * 2, none⟩ = false := hown.frozenAt _
        have f1 : wr.frozen? ⟨w.heap.size, k * 2 + 1, none⟩ = false := hown.frozenAt _
        have i1 : (0 : Int) ≤ (k : Int) := by omega
        have i2 : (k : Int) < (n : Int) := by omega
        have i3 : (k : Int) < (n1 : Int) := by omega
        have ne0 : w.heap.size ≠ b0 := by omega
        have ne1 : w.heap.size ≠ b1 := by omega
        clear hp hown hzk HZ H0 H1 HN hl hl0 hi0 hz0 hz1 hz2
        go_wp2_with fail
        go_region_held3 (fun w' => w'.cell? ⟨b0, off0 + k, none⟩ = some (.string x) ∧ w'.cell? ⟨b1, off1 + k, none⟩ = some (.string y)) (go_keep) (fail)
        clear hx0 hx1 c0 c1 f0 f1
        go_wp2
        go_roundw
        case rel =>
          obtain ⟨l', hl', hp', hown', hb'⟩ := R.out
          exact ⟨k + 1, l', by omega, by go_num, hl', hp', hown'.drew, hb'.drew⟩
        case measure => simp [intOf]; omega
      · obtain rfl : k = n := by omega
        go_wp2
        go_ret
        refine ⟨_, rfl, ?_, hb⟩
        have : l = z := by
          apply List.ext_getElem?
          intro j
          by_cases hj : j < k
          · exact hp j hj
          · rw [List.getElem?_eq_none (by omega), List.getElem?_eq_none (by rw [HN.out]; omega)]
        rw [← this]
        exact hown

end Go.Proofs.Qxb6600884aMods
