import Derived.Test.Qxb6612482aModsInts
namespace Go.Proofs.Qxb6612482aMods
open Go.RowKit

theorem Trym.info9 : (Trym.prog.info? 9).map (fun i => (i.zero, i.size, i.bytes)) = some (some (.string ⟨#[]⟩), 1, 16) := by kernel_rfl
theorem Trym.info4 : (Trym.prog.info? 4).map (fun i => (i.zero, i.size, i.bytes)) = some (some (.bool false), 1, 1) := by kernel_rfl

/-- The zero row. -/
def row0 : WRow := ⟨⟨#[]⟩, 0, ⟨#[]⟩, ⟨#[]⟩, false⟩
/-- Row j of rs where j < k, else the zero row. -/
def rowAt (rs : List WRow) (k j : Nat) : WRow := if j < k then rs.getD j row0 else row0
theorem rowAt_zero (rs : List WRow) (j : Nat) : rowAt rs 0 j = row0 := by simp [rowAt]
theorem rowAt_step (rs : List WRow) (k j : Nat) {r : WRow} (hr : rs[k]? = some r) : rowAt rs (k + 1) j = if j = k then r else rowAt rs k j := by
  unfold rowAt
  by_cases e : j = k
  · subst e
    simp [List.getD_eq_getElem?_getD, hr]
  · have : (j < k + 1) = (j < k) := propext ⟨fun h => by omega, fun h => by omega⟩
    simp only [e, this, if_false]
theorem rowAt_full (rs : List WRow) (j n : Nat) (h : j < n) : rowAt rs n j = rs.getD j row0 := by simp [rowAt, h]

/-- The five columns that splitRows fills. -/
structure Cols (w : World) (B n k : Nat) (rs : List WRow) : Prop where
  ids : w.rowIs B 9 n fun j => .string (rowAt rs k j).id
  pos : w.rowIs (B + 1) 2 n fun j => .int .i64 (rowAt rs k j).pos
  typ : w.rowIs (B + 2) 9 n fun j => .string (rowAt rs k j).typ
  aid : w.rowIs (B + 3) 9 n fun j => .string (rowAt rs k j).aid
  due : w.rowIs (B + 4) 4 n fun j => .bool (rowAt rs k j).due

theorem Cols.step {w : World} {B n k : Nat} {rs : List WRow} {r : WRow} (h : Cols w B n k rs) (hr : rs[k]? = some r) :
    Cols (((((w.setCell ⟨B, k, none⟩ (.string r.id)).setCell ⟨B + 1, k, none⟩ (.int .i64 r.pos)).setCell ⟨B + 2, k, none⟩ (.string r.typ)).setCell ⟨B + 3, k, none⟩ (.string r.aid)).setCell ⟨B + 4, k, none⟩ (.bool r.due)) B n (k + 1) rs where
  ids := (((((h.ids.set k (.string r.id)).setOther (by simp) _).setOther (by simp) _).setOther (by simp) _).setOther (by simp) _).congr fun j _ => by rw [rowAt_step rs k j hr]; split <;> rfl
  pos := (((((h.pos.setOther (by simp) _).set k (.int .i64 r.pos)).setOther (by simp) _).setOther (by simp) _).setOther (by simp) _).congr fun j _ => by rw [rowAt_step rs k j hr]; split <;> rfl
  typ := (((((h.typ.setOther (by simp) _).setOther (by simp) _).set k (.string r.typ)).setOther (by simp) _).setOther (by simp) _).congr fun j _ => by rw [rowAt_step rs k j hr]; split <;> rfl
  aid := (((((h.aid.setOther (by simp) _).setOther (by simp) _).setOther (by simp) _).set k (.string r.aid)).setOther (by simp) _).congr fun j _ => by rw [rowAt_step rs k j hr]; split <;> rfl
  due := (((((h.due.setOther (by simp) _).setOther (by simp) _).setOther (by simp) _).setOther (by simp) _).set k (.bool r.due)).congr fun j _ => by rw [rowAt_step rs k j hr]; split <;> rfl

set_option maxHeartbeats 4000000 in
theorem split_any (a : Option Addr) (n cap : Nat) (rs : List WRow) (w : World) (h : IsRows w a n rs) (hn : n ≤ 65536) :
    Calls Trym.prog 14 #[.slice a n cap] w fun e w' => e = .returned (.tuple #[.slice (some ⟨w.heap.size, 0, none⟩) n n, .slice (some ⟨w.heap.size + 1, 0, none⟩) n n, .slice (some ⟨w.heap.size + 2, 0, none⟩) n n, .slice (some ⟨w.heap.size + 3, 0, none⟩) n n, .slice (some ⟨w.heap.size + 4, 0, none⟩) n n]) ∧
      Cols w' w.heap.size n n rs ∧ Below w.heap.size w w' := by
  obtain ⟨i9, hi9, hz9, hy9, hx9⟩ := info_parts Trym.info9
  obtain ⟨i2, hi2, hz2, hy2, hx2⟩ := info_parts Trym.info2
  obtain ⟨i4, hi4, hz4, hy4, hx4⟩ := info_parts Trym.info4
  have H := hide h
  clear h
  go_enter Trym.func14, Trym.ntmps14
  go_wp2_with (at_make; refine Hold.out ?_)
  refine Hold.of ?_
  refine wpList_make_row _ rfl _ _ _ (by rfl) 9 i9 (.string ⟨#[]⟩) Trym.underlying36 hi9 hz9 hy9 rfl .i64 .i64 n (by rfl) (by rfl) (by rw [hx9]; omega) (by omega) ?_
  have hb : Below w.heap.size w (w.alloc (.cells (madeCells #[.string ⟨#[]⟩] n) 9)) := (Below.refl _ _).alloc (Nat.le_refl _) _
  have q0 := hide (World.rowIs_made w (.string ⟨#[]⟩) n 9)
  have s1 : (w.alloc (.cells (madeCells #[.string ⟨#[]⟩] n) 9)).heap.size = w.heap.size + 1 := by simp
  generalize w.alloc (.cells (madeCells #[.string ⟨#[]⟩] n) 9) = w1 at *
  go_wp2_with (at_make; refine Hold.out ?_)
  refine Hold.of ?_
  refine wpList_make_row _ rfl _ _ _ (by rfl) 2 i2 (.int .i64 0) Trym.underlying24 hi2 hz2 hy2 rfl .i64 .i64 n (by rfl) (by rfl) (by rw [hx2]; omega) (by omega) ?_
  replace hb := hb.alloc (by omega) (.cells (madeCells #[.int .i64 0] n) 2)
  have q1 := hide (World.rowIs_made w1 (.int .i64 0) n 2)
  replace q0 := hide ((unhide q0).alloc (.cells (madeCells #[.int .i64 0] n) 2))
  have s2 : (w1.alloc (.cells (madeCells #[.int .i64 0] n) 2)).heap.size = w.heap.size + 2 := by simp [s1]
  generalize w1.alloc (.cells (madeCells #[.int .i64 0] n) 2) = w2 at *
  rw [s1] at q1 ⊢
  clear s1
  go_wp2_with (at_make; refine Hold.out ?_)
  refine Hold.of ?_
  refine wpList_make_row _ rfl _ _ _ (by rfl) 9 i9 (.string ⟨#[]⟩) Trym.underlying36 hi9 hz9 hy9 rfl .i64 .i64 n (by rfl) (by rfl) (by rw [hx9]; omega) (by omega) ?_
  replace hb := hb.alloc (by omega) (.cells (madeCells #[.string ⟨#[]⟩] n) 9)
  have q2 := hide (World.rowIs_made w2 (.string ⟨#[]⟩) n 9)
  replace q0 := hide ((unhide q0).alloc (.cells (madeCells #[.string ⟨#[]⟩] n) 9))
  replace q1 := hide ((unhide q1).alloc (.cells (madeCells #[.string ⟨#[]⟩] n) 9))
  have s3 : (w2.alloc (.cells (madeCells #[.string ⟨#[]⟩] n) 9)).heap.size = w.heap.size + 3 := by simp [s2]
  generalize w2.alloc (.cells (madeCells #[.string ⟨#[]⟩] n) 9) = w3 at *
  rw [s2] at q2 ⊢
  clear s2
  go_wp2_with (at_make; refine Hold.out ?_)
  refine Hold.of ?_
  refine wpList_make_row _ rfl _ _ _ (by rfl) 9 i9 (.string ⟨#[]⟩) Trym.underlying36 hi9 hz9 hy9 rfl .i64 .i64 n (by rfl) (by rfl) (by rw [hx9]; omega) (by omega) ?_
  replace hb := hb.alloc (by omega) (.cells (madeCells #[.string ⟨#[]⟩] n) 9)
  have q3 := hide (World.rowIs_made w3 (.string ⟨#[]⟩) n 9)
  replace q0 := hide ((unhide q0).alloc (.cells (madeCells #[.string ⟨#[]⟩] n) 9))
  replace q1 := hide ((unhide q1).alloc (.cells (madeCells #[.string ⟨#[]⟩] n) 9))
  replace q2 := hide ((unhide q2).alloc (.cells (madeCells #[.string ⟨#[]⟩] n) 9))
  have s4 : (w3.alloc (.cells (madeCells #[.string ⟨#[]⟩] n) 9)).heap.size = w.heap.size + 4 := by simp [s3]
  generalize w3.alloc (.cells (madeCells #[.string ⟨#[]⟩] n) 9) = w4 at *
  rw [s3] at q3 ⊢
  clear s3
  go_wp2_with (at_make; refine Hold.out ?_)
  refine Hold.of ?_
  refine wpList_make_row _ rfl _ _ _ (by rfl) 4 i4 (.bool false) Trym.underlying37 hi4 hz4 hy4 rfl .i64 .i64 n (by rfl) (by rfl) (by rw [hx4]; omega) (by omega) ?_
  replace hb := hb.alloc (by omega) (.cells (madeCells #[.bool false] n) 4)
  have q4 := hide (World.rowIs_made w4 (.bool false) n 4)
  replace q0 := hide ((unhide q0).alloc (.cells (madeCells #[.bool false] n) 4))
  replace q1 := hide ((unhide q1).alloc (.cells (madeCells #[.bool false] n) 4))
  replace q2 := hide ((unhide q2).alloc (.cells (madeCells #[.bool false] n) 4))
  replace q3 := hide ((unhide q3).alloc (.cells (madeCells #[.bool false] n) 4))
  generalize w4.alloc (.cells (madeCells #[.bool false] n) 4) = w5 at *
  rw [s4] at q4 ⊢
  clear s4 hi9 hz9 hy9 hx9 hi2 hz2 hy2 hx2 hi4 hz4 hy4 hx4
  have hcol : Cols w5 w.heap.size n 0 rs := ⟨(unhide q0).congr fun j _ => by simp [rowAt_zero, row0], (unhide q1).congr fun j _ => by simp [rowAt_zero, row0], (unhide q2).congr fun j _ => by simp [rowAt_zero, row0], (unhide q3).congr fun j _ => by simp [rowAt_zero, row0], (unhide q4).congr fun j _ => by simp [rowAt_zero, row0]⟩
  have HC := hide hcol
  clear hcol q0 q1 q2 q3 q4
  go_wp2_with fail
  go_loopw [13] (fun i wr => ∃ k : Nat, k ≤ n ∧ i = .int .i64 k ∧ Cols wr w.heap.size n k rs ∧ Below w.heap.size w wr) (fun i _ => n - (intOf i).toNat)
  case atStart => exact ⟨0, Nat.zero_le _, rfl, unhide HC, hb⟩
  case round =>
    clear HC hb
    obtain ⟨k, hk, rfl, hcol, hb⟩ := hrel
    have HC := hide hcol
    clear hcol
    by_cases hlt : k < n
    · obtain ⟨b, off, rfl⟩ := (unhide H).at' k hlt
      obtain ⟨r, hr⟩ := (unhide H).get hlt
      have hc := ((unhide H).below hb).cell b off rfl k r hr
      have ltb := World.block_lt_of_cell? w _ ((unhide H).cell b off rfl k r hr).1
      simp only at ltb
      obtain ⟨c0, c1, c2, c3, c4⟩ := hc
      have R := hide ((unhide HC).step hr)
      have d0 := (unhide HC).ids.cell hlt
      have d1 := (unhide HC).pos.cell hlt
      have d2 := (unhide HC).typ.cell hlt
      have d3 := (unhide HC).aid.cell hlt
      have d4 := (unhide HC).due.cell hlt
      have f0 := (unhide HC).ids.frozen k
      have f1 := (unhide HC).pos.frozen k
      have f2 := (unhide HC).typ.frozen k
      have f3 := (unhide HC).aid.frozen k
      have f4 := (unhide HC).due.frozen k
      clear hr HC
      go_wp2_with fail
      go_roundw
      case rel => exact ⟨k + 1, by omega, by go_num, unhide R, ((((hb.setCell (by simp) _).setCell (by simp) _).setCell (by simp) _).setCell (by simp) _).setCell (by simp) _⟩
      case measure => simp [intOf]; omega
    · obtain rfl : k = n := by omega
      go_wp2
      exact bodyPost_ret (v := .tuple #[.slice (some ⟨w.heap.size, 0, none⟩) k k, .slice (some ⟨w.heap.size + 1, 0, none⟩) k k, .slice (some ⟨w.heap.size + 2, 0, none⟩) k k, .slice (some ⟨w.heap.size + 3, 0, none⟩) k k, .slice (some ⟨w.heap.size + 4, 0, none⟩) k k]) (by simp [results, Trym.results14, go_sem]) rfl ⟨rfl, unhide HC, hb⟩

theorem Trym.info62 : (Trym.prog.info? 62).map (fun i => (i.zero, i.size, i.bytes)) = some (some (.agg #[.string ⟨#[]⟩, .int .i64 0, .string ⟨#[]⟩, .string ⟨#[]⟩, .bool false]), 5, 64) := by kernel_rfl

/-- What a round of ZZnewWindow does to its rows. -/
theorem win_step {w : World} {base g n k : Nat} {xs : List Value} {f : Nat → Int} {x t d : Value} {u : Value} (hk : k < n) (h : w.ownsRow base 62 5 (.slice (some ⟨g, 0, none⟩) n n) n xs) (hp : ∀ i, i < k → xs[i * 5 + 1]? = some (.int .i64 (f i))) :
    ∃ xs', (((((w.setCell ⟨g, k * 5, none⟩ x).setCell ⟨g, k * 5 + 1, none⟩ (.int .i64 (f k))).setCell ⟨g, k * 5 + 2, none⟩ t).setCell ⟨g, k * 5 + 3, none⟩ d).setCell ⟨g, k * 5 + 4, none⟩ u).ownsRow base 62 5 (.slice (some ⟨g, 0, none⟩) n n) n xs' ∧
      ∀ i, i < k + 1 → xs'[i * 5 + 1]? = some (.int .i64 (f i)) := by
  have hl := h.1
  refine ⟨_, ((((((h.stored (k * 5) x).1.stored (k * 5 + 1) (.int .i64 (f k))).1.stored (k * 5 + 2) t).1.stored (k * 5 + 3) d).1).stored (k * 5 + 4) u).1, fun i hi => ?_⟩
  rw [List.getElem?_set_ne (by omega), List.getElem?_set_ne (by omega), List.getElem?_set_ne (by omega)]
  by_cases e : i = k
  · subst e
    rw [List.getElem?_set_self (by simp; omega)]
  · rw [List.getElem?_set_ne (by omega), List.getElem?_set_ne (by omega)]
    exact hp i (by omega)

/-- A window that ZZnewWindow made. -/
structure IsWin (w : World) (gw : Nat) (after : Int) (g n : Nat) (hv rv : Value) (f : Nat → Int) : Prop where
  c0 : w.cell? ⟨gw, 0, none⟩ = some (.int .i64 after)
  c1 : w.cell? ⟨gw, 1, none⟩ = some (.slice (some ⟨g, 0, none⟩) n n)
  c2 : w.cell? ⟨gw, 2, none⟩ = some hv
  c3 : w.cell? ⟨gw, 3, none⟩ = some rv
  pos : ∀ i, i < n → w.cell? ⟨g, i * 5 + 1, none⟩ = some (.int .i64 (f i))
theorem IsWin.below {w w' : World} {gw : Nat} {after : Int} {g n : Nat} {hv rv : Value} {f : Nat → Int} (h : IsWin w gw after g n hv rv f) (hb : Below w.heap.size w w') : IsWin w' gw after g n hv rv f :=
  ⟨keep_cell hb h.c0, keep_cell hb h.c1, keep_cell hb h.c2, keep_cell hb h.c3, fun i hi => keep_cell hb (h.pos i hi)⟩

theorem owns_alloc_win {w : World} {base g n : Nat} {xs : List Value} {after : Int} {a2 a3 : Option Addr} {n2 c2 n3 c3 : Nat} {f : Nat → Int} (h : w.ownsRow base 62 5 (.slice (some ⟨g, 0, none⟩) n n) n xs) (hp : ∀ i, i < n → xs[i * 5 + 1]? = some (.int .i64 (f i))) :
    IsWin (w.alloc (.cells #[.int .i64 after, .slice (some ⟨g, 0, none⟩) n n, .slice a2 n2 c2, .slice a3 n3 c3] 64)) w.heap.size after g n (.slice a2 n2 c2) (.slice a3 n3 c3) f := by
  refine ⟨by go_simp, by go_simp, by go_simp, by go_simp, fun i hi => ?_⟩
  rw [(h.alloc _).cellAt _ (by omega)]
  exact hp i hi

set_option maxHeartbeats 4000000 in
theorem newWin_any (after : Int) (B n : Nat) (rs : List WRow) (a2 a3 : Option Addr) (n2 c2 n3 c3 : Nat) (w : World) (h : Cols w B n n rs) (hn : n ≤ 65536) :
    Calls Trym.prog 15 #[.int .i64 after, .slice (some ⟨B, 0, none⟩) n n, .slice (some ⟨B + 1, 0, none⟩) n n, .slice (some ⟨B + 2, 0, none⟩) n n, .slice (some ⟨B + 3, 0, none⟩) n n, .slice (some ⟨B + 4, 0, none⟩) n n, .slice a2 n2 c2, .slice a3 n3 c3] w
      fun e w' => ∃ gw g, e = .returned (.pointer (some ⟨gw, 0, none⟩)) ∧ w.heap.size ≤ gw ∧ IsWin w' gw after g n (.slice a2 n2 c2) (.slice a3 n3 c3) (fun i => (rs.getD i row0).pos) ∧ Below w.heap.size w w' := by
  obtain ⟨i62, hi, hz, hy, hx⟩ := info_parts Trym.info62
  have H := hide h
  clear h
  go_enter Trym.func15, Trym.ntmps15
  go_wp2_with (at_make; refine Hold.out ?_)
  refine Hold.of ?_
  refine wpList_make_full _ rfl _ _ _ (by rfl) w.heap.size 62 i62 _ 5 Trym.underlying58 hi hz hy .i64 .i64 (n : Int) (n : Int) n (by rfl) (by rfl) rfl rfl (by rw [hx]; omega) (by unfold maxLen; omega) (Nat.le_refl _) ?_
  intro w1 hown hgrow
  have hb : Below w.heap.size w w1 := (Below.refl _ _).grown hgrow (Nat.le_refl _) (by simp)
  have HO := hide hown
  clear hgrow hown hi hz hy hx
  go_wp2_with fail
  go_loopw [18] (fun i wr => ∃ (k : Nat) (xs : List Value), k ≤ n ∧ i = .int .i64 k ∧ wr.ownsRow w.heap.size 62 5 (.slice (some ⟨w.heap.size, 0, none⟩) n n) n xs ∧ (∀ i, i < k → xs[i * 5 + 1]? = some (.int .i64 (rs.getD i row0).pos)) ∧ Below w.heap.size w wr) (fun i _ => n - (intOf i).toNat)
  case atStart => exact ⟨0, _, Nat.zero_le _, rfl, unhide HO, by intro i hi; omega, hb⟩
  case round =>
    clear HO hb
    obtain ⟨k, xs, hk, rfl, hown, hp, hb⟩ := hrel
    have HW := hide (And.intro hown hp)
    clear hown hp
    by_cases hlt : k < n
    · have d0 := (unhide H).ids.cell hlt
      have d1 := (unhide H).pos.cell hlt
      have d2 := (unhide H).typ.cell hlt
      have d3 := (unhide H).aid.cell hlt
      have d4 := (unhide H).due.cell hlt
      have l4 := World.block_lt_of_cell? w _ d4
      simp only at l4
      rw [rowAt_full rs k n hlt] at d0 d1 d2 d3 d4
      replace d0 := keep_cell hb d0
      replace d1 := keep_cell hb d1
      replace d2 := keep_cell hb d2
      replace d3 := keep_cell hb d3
      replace d4 := keep_cell hb d4
      have R := hide (fun x t d u => win_step (f := fun i => (rs.getD i row0).pos) (x := x) (t := t) (d := d) (u := u) hlt (unhide HW).1 (unhide HW).2)
      have hl := (unhide HW).1.1
      have cs : ∀ j, j < 5 → ∃ v, wr.cell? ⟨w.heap.size, k * 5 + j, none⟩ = some v := fun j hj => by
        rw [(unhide HW).1.cellAt _ (by omega)]
        exact ⟨_, List.getElem?_eq_getElem (by omega)⟩
      obtain ⟨v0, e0⟩ := cs 0 (by omega)
      obtain ⟨v1, e1⟩ := cs 1 (by omega)
      obtain ⟨v2, e2⟩ := cs 2 (by omega)
      obtain ⟨v3, e3⟩ := cs 3 (by omega)
      obtain ⟨v4, e4⟩ := cs 4 (by omega)
      rw [Nat.add_zero] at e0
      have f0 := (unhide HW).1.frozenAt (k * 5)
      have f1 := (unhide HW).1.frozenAt (k * 5 + 1)
      have f2 := (unhide HW).1.frozenAt (k * 5 + 2)
      have f3 := (unhide HW).1.frozenAt (k * 5 + 3)
      have f4 := (unhide HW).1.frozenAt (k * 5 + 4)
      clear cs hl HW
      generalize hre : rs.getD k row0 = r at *
      have HR := hide hre
      clear hre
      have i1 : (0 : Int) ≤ (k : Int) := by omega
      have i2 : (k : Int) < (n : Int) := by omega
      have ne0 : w.heap.size ≠ B := by omega
      have ne1 : w.heap.size ≠ B + 1 := by omega
      have ne2 : w.heap.size ≠ B + 2 := by omega
      have ne3 : w.heap.size ≠ B + 3 := by omega
      have ne4 : w.heap.size ≠ B + 4 := by omega
      go_wp2_with fail
      go_region_held3 (fun w' => w'.cell? ⟨B, k, none⟩ = some (.string r.id) ∧ w'.cell? ⟨B + 1, k, none⟩ = some (.int .i64 r.pos) ∧ w'.cell? ⟨B + 2, k, none⟩ = some (.string r.typ) ∧ w'.cell? ⟨B + 3, k, none⟩ = some (.string r.aid) ∧ w'.cell? ⟨B + 4, k, none⟩ = some (.bool r.due)) (go_keep) (fail)
      clear d0 d1 d2 d3 d4 e0 e1 e2 e3 e4 f0 f1 f2 f3 f4 ne0 ne1 ne2 ne3 ne4
      go_wp2
      go_roundw
      case rel =>
        obtain ⟨xs', ho, hp'⟩ := unhide R (.string r.id) (.string r.typ) (.string r.aid) (.bool r.due)
        exact ⟨k + 1, xs', by omega, by go_num, ho.drew, hp', (((((hb.setCell (Nat.le_refl _) _).setCell (Nat.le_refl _) _).setCell (Nat.le_refl _) _).setCell (Nat.le_refl _) _).setCell (Nat.le_refl _) _).drew⟩
      case measure => simp [intOf]; omega
    · obtain rfl : k = n := by omega
      go_wp2
      go_ret
      refine ⟨_, _, rfl, hb.size, owns_alloc_win (unhide HW).1 (unhide HW).2, hb.alloc hb.size _⟩


set_option maxHeartbeats 1000000 in
theorem newWin_nil (after : Int) (a3 : Option Addr) (n3 c3 : Nat) (w : World) :
    Calls Trym.prog 15 #[.int .i64 after, .slice none 0 0, .slice none 0 0, .slice none 0 0, .slice none 0 0, .slice none 0 0, .slice none 0 0, .slice a3 n3 c3] w
      fun e w' => ∃ gw g, e = .returned (.pointer (some ⟨gw, 0, none⟩)) ∧ w.heap.size ≤ gw ∧ IsWin w' gw after g 0 (.slice none 0 0) (.slice a3 n3 c3) (fun _ => 0) ∧ Below w.heap.size w w' := by
  obtain ⟨i62, hi, hz, hy, hx⟩ := info_parts Trym.info62
  go_enter Trym.func15, Trym.ntmps15
  go_wp2_with (at_make; refine Hold.out ?_)
  refine Hold.of ?_
  refine wpList_make_full _ rfl _ _ _ (by rfl) w.heap.size 62 i62 _ 5 Trym.underlying58 hi hz hy .i64 .i64 ((0 : Nat) : Int) ((0 : Nat) : Int) 0 (by rfl) (by rfl) rfl rfl (by rw [hx]; omega) (by decide) (Nat.le_refl _) ?_
  intro w1 hown hgrow
  have hb : Below w.heap.size w w1 := (Below.refl _ _).grown hgrow (Nat.le_refl _) (by simp)
  have HO := hide hown
  clear hgrow hown hi hz hy hx
  go_wp2_with fail
  refine wp_loop_rounds 1 ?_
  rw [rounds_succ]
  go_wp2
  go_ret
  exact ⟨_, _, rfl, hb.size, owns_alloc_win (unhide HO) (fun i hi => by omega), hb.alloc hb.size _⟩

set_option maxHeartbeats 1000000 in
theorem last26 (gw : Nat) (after : Int) (g n : Nat) (hv rv : Value) (f : Nat → Int) (w : World) (h : IsWin w gw after g n hv rv f) (hn0 : 0 < n) (hn : n ≤ 65536) :
    Calls Trym.prog 26 #[.pointer (some ⟨gw, 0, none⟩)] w fun e w' => e = .returned (.int .i64 (f (n - 1))) ∧ Below w.heap.size w w' := by
  obtain ⟨n, rfl⟩ : ∃ m, n = m + 1 := ⟨n - 1, by omega⟩
  have c1 := h.c1
  have c2 := h.pos n (by omega)
  clear h
  rw [Nat.add_sub_cancel]
  generalize f n = x at *
  have g1 : (0 : Int) ≤ (((n + 1 : Nat) : Int)) - 1 := by omega
  have g2 : (((n + 1 : Nat) : Int)) - 1 < ((n + 1 : Nat) : Int) := by omega
  go_enter Trym.func26, Trym.ntmps26
  go_wp2_with fail
  go_quiet (fail)
  go_wp2
  go_ret
  exact ⟨rfl, below_drewN (Below.refl _ _) _⟩

set_option maxHeartbeats 400000 in
theorem last22 (gw : Nat) (after : Int) (g n : Nat) (hv rv : Value) (f : Nat → Int) (w : World) (h : IsWin w gw after g n hv rv f) (hn0 : 0 < n) (hn : n ≤ 65536) :
    Calls Trym.prog 22 #[.pointer (some ⟨gw, 0, none⟩)] w fun e w' => e = .returned (.int .i64 (f (n - 1))) ∧ Below w.heap.size w w' := by
  have H := hide h
  clear h
  go_enter Trym.func22, Trym.ntmps22
  go_wp2_with fail
  refine (last26 gw after g n hv rv f _ (unhide H) hn0 hn).mono ?_
  rintro e w1 ⟨rfl, hb⟩
  go_wp2
  go_ret
  exact ⟨rfl, hb⟩

set_option maxHeartbeats 1000000 in
theorem lastOf_any (x : Int) (a : Option Addr) (n cap : Nat) (rs : List WRow) (a2 a3 : Option Addr) (n2 c2 n3 c3 : Nat) (w : World) (h : IsRows w a n rs) (hn0 : 0 < n) (hn : n ≤ 65536) :
    Calls Trym.prog 10 #[.int .i64 x, .slice a n cap, .slice a2 n2 c2, .slice a3 n3 c3] w fun e w' => e = .returned (.int .i64 (rs.getD (n - 1) row0).pos) ∧ Below w.heap.size w w' := by
  have H := hide h
  clear h
  go_enter Trym.func10, Trym.ntmps10
  go_wp2_with fail
  refine (split_any a n cap rs _ (unhide H) hn).mono ?_
  rintro e w1 ⟨rfl, hcol, hb⟩
  have HC := hide hcol
  clear hcol
  go_wp2_with fail
  refine (newWin_any x w.heap.size n rs a2 a3 n2 c2 n3 c3 w1 (unhide HC) hn).mono ?_
  rintro e w2 ⟨gw, g, rfl, hg, hwin, hb2⟩
  have HW := hide hwin
  replace hb2 := below_next hb hb2
  clear hwin hb HC
  go_wp2_with fail
  refine (last22 gw x g n _ _ _ w2 (unhide HW) hn0 hn).mono ?_
  rintro e w3 ⟨rfl, hb3⟩
  replace hb3 := below_next hb2 hb3
  go_wp2
  go_ret
  exact ⟨rfl, hb3⟩

end Go.Proofs.Qxb6612482aMods
