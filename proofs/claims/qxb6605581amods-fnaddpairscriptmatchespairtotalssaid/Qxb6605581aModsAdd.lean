import Derived.Test.Qxb6605581aModsOut
namespace Go.Proofs.Qxb6605581aMods
open Go.RowKit Go.Maps

theorem st_any (w : World) (a : Addr) (v old : Value) (hv : v.oneCell' = true) (hc : w.cell? a = some old) (hf : w.frozen? a = false) : (store a v).run Trym.prog w = .ok () (w.setCell a v) := by
  rw [run_store _ _ _ _ _ hv]
  simp [hc, hf]
theorem eqIn (d : Nat) (b : Option Nat) (w : World) : (Op.equalIn (d + 1) 47 (.map b) (.map none)).run Trym.prog w = .ok (b == none) w := by
  unfold Op.equalIn
  simp [run_underlying Trym.underlying47]
  cases b <;> rfl
theorem md : Op.maxDepth = (Op.maxDepth - 1) + 1 := by decide
theorem eq_map (b : Option Nat) (w : World) : (binOp .eql 47 (.map b) (.map none)).run Trym.prog w = .ok (.bool (b == none)) w := by
  simp only [binOp, Op.equal]
  rw [md]
  simp [eqIn]
theorem eq_some (b : Nat) (w : World) : (binOp .eql 47 (.map (some b)) (.map none)).run Trym.prog w = .ok (.bool false) w := eq_map (some b) w

/-- Block k is a boxed Pair. -/
def Boxed (w : World) (k : Nat) (A B : ByteArray) (sa sb : Nat) : Prop := w.heap[k]? = some (.cells #[.string A, .string B, .float .f64 sa, .float .f64 sb] 54 (0, 0))
theorem Boxed.cells {w : World} {k : Nat} {A B : ByteArray} {sa sb : Nat} (h : Boxed w k A B sa sb) : w.cell? ⟨k, 0, none⟩ = some (.string A) ∧ w.cell? ⟨k, 1, none⟩ = some (.string B) ∧ w.cell? ⟨k, 2, none⟩ = some (.float .f64 sa) ∧ w.cell? ⟨k, 3, none⟩ = some (.float .f64 sb) ∧ Boxed w k A B sa sb :=
  ⟨by rw [cell_of_row w k 0 _ 54 (0, 0) h]; rfl, by rw [cell_of_row w k 1 _ 54 (0, 0) h]; rfl, by rw [cell_of_row w k 2 _ 54 (0, 0) h]; rfl, by rw [cell_of_row w k 3 _ 54 (0, 0) h]; rfl, h⟩
theorem Boxed.next {w w' : World} {k : Nat} {A B : ByteArray} {sa sb : Nat} (h : Boxed w k A B sa sb) (hb : Boxes w w') : Boxed w' k A B sa sb := hb _ _ h
theorem Boxed.drew {w : World} {k : Nat} {A B : ByteArray} {sa sb : Nat} (h : Boxed w k A B sa sb) : Boxed w.drew k A B sa sb := h

/-- What AddPair leaves. -/
def Added (w w' : World) (base gt : Nat) (N : List ByteArray) (K : List (Nat × Nat)) (f : Nat × Nat → Option Nat × Option Nat) (cnt : Nat) (A B : ByteArray) (sa sb : Nat) : Prop :=
  ∃ bi bp i j v' L', findS (addS (addS N A) B) A = some i ∧ findS (addS (addS N A) B) B = some j ∧ Tal w' base gt bi bp v' (addS (addS N A) B) L' (updF f (pk i j) (sc i j sa sb)) (cnt + 3) ∧ L'.map (·.1) = addK K (pk i j) ∧ Below base w w'

set_option maxHeartbeats 2000000 in
theorem addPair_tal (base gt bi bp : Nat) (v : Value) (N : List ByteArray) (L : List ((Nat × Nat) × Nat)) (f : Nat × Nat → Option Nat × Option Nat) (cnt : Nat) (A B : ByteArray) (sa sb : Nat) (w : World) (h : Tal w base gt bi bp v N L f cnt) (hA : A.size ≤ maxLen) (hB : B.size ≤ maxLen) (hc : cnt ≤ 131000) (hN : N.length ≤ 131000) (hK : (L.map (·.1)).Nodup) (hz : ∀ p : Nat × Nat, findP L p.1 p.2 = none → f p = (some 0, some 0)) :
    Calls Trym.prog 18 #[.pointer (some ⟨gt, 0, none⟩), .agg #[.string A, .string B, .float .f64 sa, .float .f64 sb]] w fun e w' => e = .returned (.tuple #[]) ∧ Added w w' base gt N (L.map (·.1)) f cnt A B sa sb := by
  have c0 := h.c0
  have lt := heap_lt h.blk
  have T : Hid (Tal (w.alloc (.cells #[.string A, .string B, .float .f64 sa, .float .f64 sb] 54)) base gt bi bp v N L f cnt) := h.below ((Below.refl _ _).alloc (Nat.le_refl _) _)
  have hbx : Boxed (w.alloc (.cells #[.string A, .string B, .float .f64 sa, .float .f64 sb] 54)) w.heap.size A B sa sb := heap_at rfl
  have HB1 : Hid (Below base w (w.alloc (.cells #[.string A, .string B, .float .f64 sa, .float .f64 sb] 54))) := (Below.refl _ _).alloc (by have := h.lo.1; omega) _
  have q47 := eq_some bi
  replace hz := hide hz
  replace hK := hide hK
  clear h
  go_enter Trym.func18, Trym.ntmps18
  go_wp2_with fail
  go_region_held3 (fun w' => w'.cell? ⟨w.heap.size, 0, none⟩ = some (.string A) ∧ w'.cell? ⟨w.heap.size, 1, none⟩ = some (.string B) ∧ w'.cell? ⟨w.heap.size, 2, none⟩ = some (.float .f64 sa) ∧ w'.cell? ⟨w.heap.size, 3, none⟩ = some (.float .f64 sb) ∧ Boxed w' w.heap.size A B sa sb)
    (first | (go_split_ands; exact (Boxed.next (by assumption) (by assumption)).cells) | exact (Boxed.drew (by assumption)).cells | (go_split_ands; exact (Boxed.drew (by assumption)).cells))
    (first | (go_at_call_of 30 (Value.string A); refine (place_any base gt bi bp v N L f cnt A _ ?_ hA (by omega) (by omega)).mono ?_; exact (unhide T).same fun _ _ => rfl; rintro e w2 ⟨i, rfl, hi, v2, hT2, hB2, hX2⟩; replace hT2 := hide hT2) | (go_at_call_of 30 (Value.string B); refine (place_any base gt bi bp v2 (addS N A) L f (cnt + 1) B _ ?_ hB (by omega) (by have := addS_len N A; omega)).mono ?_; exact (unhide hT2).same fun _ _ => rfl; rintro e w3 ⟨j, rfl, hj, v3, hT3, hB3, hX3⟩; replace hT3 := hide hT3))
  have HBW : Hid (Below base w w3) := ((unhide HB1).drew.trans hB2).trans hB3
  have HI : Hid (findS (addS (addS N A) B) A = some i) := by obtain ⟨r, hr⟩ := addS_app (addS N A) B; rw [hr]; exact findS_app r hi
  have HJ := hide hj
  have hil := findS_lt (unhide HI)
  have hjl := findS_lt hj
  have hnl : (addS (addS N A) B).length ≤ 131002 := by have := addS_len N A; have := addS_len (addS N A) B; omega
  have c2 := (unhide hT3).c2
  have lt3 := heap_lt (unhide hT3).blk
  replace hil : i ≤ 131002 := by omega
  replace hjl : j ≤ 131002 := by omega
  clear hi hj hB2 hB3 hX2 hX3 hT2 T hbx HB1 hnl c0 lt q47
  by_cases hij : j < i
  · have hp : pk i j = (j, i) := by simp [pk, hij]
    have hs : sc i j sa sb = (sb, sa) := by simp [sc, hij]
    have hl := (unhide hT3).lookP (j, i) (by simp; omega) (by simp; omega)
    cases hfp : findP L ((j, i) : Nat × Nat).1 ((j, i) : Nat × Nat).2 with
    | some b =>
      rw [hfp] at hl
      simp only [Option.map_some, Option.getD_some, Option.isSome_some] at hl
      have HM := hide (findP_some hfp)
      replace hfp := hide hfp
      replace hp := hide hp
      replace hs := hide hs
      go_wp2_with (at_lookup; refine Hold.out ?_)
      refine Hold.of ?_
      refine wpList_look _ rfl _ _ _ (by rfl) _ _ _ (by rfl) (by rfl) hl ?_
      clear hl c2
      obtain ⟨fa, fb, hb, hfa, hfb⟩ := (unhide hT3).out (((j, i)), b) (unhide HM)
      obtain ⟨r1, n1, hr1, hf1⟩ := run_add w3 24 _ fa sb hfa
      obtain ⟨r2, n2, hr2, hf2⟩ := run_add ((w3.drewN n1).setCell ⟨b, 0, none⟩ (.float .f64 r1)) 24 _ fb sa hfb
      have X := hide ((unhide hT3).setO (unhide HM) (unhide hK) (n1 := n1) (n2 := n2) hf1 hf2)
      have d0 : w3.cell? ⟨b, 0, none⟩ = some (.float .f64 fa) := by rw [cell_of_row w3 b 0 _ 75 (0, 0) hb]; rfl
      have d1 : w3.cell? ⟨b, 1, none⟩ = some (.float .f64 fb) := by rw [cell_of_row w3 b 1 _ 75 (0, 0) hb]; rfl
      have e0 : w3.frozen? ⟨b, 0, none⟩ = false := thaw hb 0
      have e1 : w3.frozen? ⟨b, 1, none⟩ = false := thaw hb 1
      have d2 : (w3.drewN n1).cell? ⟨b, 0, none⟩ = some (.float .f64 fa) := d0
      have d3 : (w3.drewN n1).cell? ⟨b, 1, none⟩ = some (.float .f64 fb) := d1
      have e2 : (w3.drewN n1).frozen? ⟨b, 0, none⟩ = false := e0
      have e3 : (w3.drewN n1).frozen? ⟨b, 1, none⟩ = false := e1
      generalize w3.drewN n1 = W1 at hr1 hr2 X d2 d3 e2 e3
      have d4 : (W1.setCell ⟨b, 0, none⟩ (.float .f64 r1)).cell? ⟨b, 1, none⟩ = some (.float .f64 fb) := by go_simp
      have d5 : ((W1.setCell ⟨b, 0, none⟩ (.float .f64 r1)).drewN n2).cell? ⟨b, 1, none⟩ = some (.float .f64 fb) := d4
      have e4 : ((W1.setCell ⟨b, 0, none⟩ (.float .f64 r1)).drewN n2).frozen? ⟨b, 1, none⟩ = false := (World.frozen?_setCell _ _ _ _).trans e3
      generalize (W1.setCell ⟨b, 0, none⟩ (.float .f64 r1)).drewN n2 = W2 at hr2 X d5 e4
      have s1 := st_any W1 ⟨b, 0, none⟩ (.float .f64 r1) _ rfl d2 e2
      have s2 := st_any W2 ⟨b, 1, none⟩ (.float .f64 r2) _ rfl d5 e4
      clear hfa hfb hf1 hf2 hb
      go_wp2
      go_end0
      refine ⟨rfl, bi, bp, i, j, v3, L, unhide HI, unhide HJ, ?_, ?_, (unhide HBW).trans (unhide X).2⟩
      · rw [unhide hp, unhide hs]; exact (unhide X).1.mono (by omega)
      · rw [unhide hp, addK, if_pos (List.mem_map.2 ⟨_, unhide HM, rfl⟩)]
    | none =>
      rw [hfp] at hl
      simp only [Option.map_none, Option.getD_none, Option.isSome_none] at hl
      have hsz : base ≤ w3.heap.size := Nat.le_trans (unhide hT3).lo.1 (Nat.le_of_lt (heap_lt (unhide hT3).blk))
      have T4 : Hid (Tal (w3.alloc (.cells #[.float .f64 0, .float .f64 0] 75)) base gt bi bp v3 (addS (addS N A) B) L f (cnt + 1 + 1)) := (unhide hT3).below ((Below.refl _ _).alloc (Nat.le_refl _) _)
      have hnew : ∀ e ∈ L, e.2 ≠ w3.heap.size := fun e he => by obtain ⟨_, _, q, _⟩ := (unhide hT3).out e he; have := heap_lt q; omega
      obtain ⟨w4, hput, hT5, hB5⟩ := (unhide T4).putP (j, i) (by simp; omega) (by simp; omega) hfp (by unfold maxLen; omega) w3.heap.size (heap_at rfl) hnew hsz (unhide hz _ hfp)
      replace hT5 := hide hT5
      have HBW4 : Hid (Below base w w4) := ((unhide HBW).trans ((Below.refl _ _).alloc hsz _)).trans hB5
      have hno := findP_none.1 hfp
      have KN : Hid (((L ++ [(((j, i) : Nat × Nat), w3.heap.size)]).map (·.1)).Nodup) := by
        rw [List.map_append, List.nodup_append]
        refine ⟨unhide hK, by simp, fun x hx y hy => ?_⟩
        simp at hy; subst hy
        exact fun e => hno (e ▸ hx)
      have HNO := hide hno
      have HM : Hid ((((j, i) : Nat × Nat), w3.heap.size) ∈ L ++ [(((j, i) : Nat × Nat), w3.heap.size)]) := hide (by simp)
      replace hfp := hide hfp
      replace hp := hide hp
      replace hs := hide hs
      clear hB5 hnew hno hsz T4
      go_wp2_with (at_lookup; refine Hold.out ?_)
      refine Hold.of ?_
      refine wpList_look _ rfl _ _ _ (by rfl) _ _ _ (by rfl) (by rfl) hl ?_
      clear hl
      go_wp2_with (at_mapUpdate; refine Hold.out ?_)
      refine Hold.of ?_
      refine wpList_put _ w4 rfl _ _ _ _ (by rfl) _ _ _ (by rfl) (by rfl) (by rfl) hput ?_
      clear hput c2
      generalize hbb : w3.heap.size = b at HM KN hT5 ⊢
      obtain ⟨fa, fb, hb, hfa, hfb⟩ := (unhide hT5).out (((j, i)), b) (unhide HM)
      obtain ⟨r1, n1, hr1, hf1⟩ := run_add w4 24 _ fa sb hfa
      obtain ⟨r2, n2, hr2, hf2⟩ := run_add ((w4.drewN n1).setCell ⟨b, 0, none⟩ (.float .f64 r1)) 24 _ fb sa hfb
      have X := hide ((unhide hT5).setO (unhide HM) (unhide KN) (n1 := n1) (n2 := n2) hf1 hf2)
      have d0 : w4.cell? ⟨b, 0, none⟩ = some (.float .f64 fa) := by rw [cell_of_row w4 b 0 _ 75 (0, 0) hb]; rfl
      have d1 : w4.cell? ⟨b, 1, none⟩ = some (.float .f64 fb) := by rw [cell_of_row w4 b 1 _ 75 (0, 0) hb]; rfl
      have e0 : w4.frozen? ⟨b, 0, none⟩ = false := thaw hb 0
      have e1 : w4.frozen? ⟨b, 1, none⟩ = false := thaw hb 1
      have d2 : (w4.drewN n1).cell? ⟨b, 0, none⟩ = some (.float .f64 fa) := d0
      have d3 : (w4.drewN n1).cell? ⟨b, 1, none⟩ = some (.float .f64 fb) := d1
      have e2 : (w4.drewN n1).frozen? ⟨b, 0, none⟩ = false := e0
      have e3 : (w4.drewN n1).frozen? ⟨b, 1, none⟩ = false := e1
      generalize w4.drewN n1 = W1 at hr1 hr2 X d2 d3 e2 e3
      have d4 : (W1.setCell ⟨b, 0, none⟩ (.float .f64 r1)).cell? ⟨b, 1, none⟩ = some (.float .f64 fb) := by go_simp
      have d5 : ((W1.setCell ⟨b, 0, none⟩ (.float .f64 r1)).drewN n2).cell? ⟨b, 1, none⟩ = some (.float .f64 fb) := d4
      have e4 : ((W1.setCell ⟨b, 0, none⟩ (.float .f64 r1)).drewN n2).frozen? ⟨b, 1, none⟩ = false := (World.frozen?_setCell _ _ _ _).trans e3
      generalize (W1.setCell ⟨b, 0, none⟩ (.float .f64 r1)).drewN n2 = W2 at hr2 X d5 e4
      have s1 := st_any W1 ⟨b, 0, none⟩ (.float .f64 r1) _ rfl d2 e2
      have s2 := st_any W2 ⟨b, 1, none⟩ (.float .f64 r2) _ rfl d5 e4
      clear hfa hfb hf1 hf2 hb
      go_wp2
      go_end0
      refine ⟨rfl, bi, bp, i, j, v3, L ++ [((j, i), b)], unhide HI, unhide HJ, ?_, ?_, (unhide HBW4).trans (unhide X).2⟩
      · rw [unhide hp, unhide hs]; exact (unhide X).1.mono (by omega)
      · rw [unhide hp, addK, if_neg (unhide HNO)]; simp
  · have hp : pk i j = (i, j) := by simp [pk, hij]
    have hs : sc i j sa sb = (sa, sb) := by simp [sc, hij]
    have hl := (unhide hT3).lookP (i, j) (by simp; omega) (by simp; omega)
    cases hfp : findP L ((i, j) : Nat × Nat).1 ((i, j) : Nat × Nat).2 with
    | some b =>
      rw [hfp] at hl
      simp only [Option.map_some, Option.getD_some, Option.isSome_some] at hl
      have HM := hide (findP_some hfp)
      replace hfp := hide hfp
      replace hp := hide hp
      replace hs := hide hs
      go_wp2_with (at_lookup; refine Hold.out ?_)
      refine Hold.of ?_
      refine wpList_look _ rfl _ _ _ (by rfl) _ _ _ (by rfl) (by rfl) hl ?_
      clear hl c2
      obtain ⟨fa, fb, hb, hfa, hfb⟩ := (unhide hT3).out (((i, j)), b) (unhide HM)
      obtain ⟨r1, n1, hr1, hf1⟩ := run_add w3 24 _ fa sa hfa
      obtain ⟨r2, n2, hr2, hf2⟩ := run_add ((w3.drewN n1).setCell ⟨b, 0, none⟩ (.float .f64 r1)) 24 _ fb sb hfb
      have X := hide ((unhide hT3).setO (unhide HM) (unhide hK) (n1 := n1) (n2 := n2) hf1 hf2)
      have d0 : w3.cell? ⟨b, 0, none⟩ = some (.float .f64 fa) := by rw [cell_of_row w3 b 0 _ 75 (0, 0) hb]; rfl
      have d1 : w3.cell? ⟨b, 1, none⟩ = some (.float .f64 fb) := by rw [cell_of_row w3 b 1 _ 75 (0, 0) hb]; rfl
      have e0 : w3.frozen? ⟨b, 0, none⟩ = false := thaw hb 0
      have e1 : w3.frozen? ⟨b, 1, none⟩ = false := thaw hb 1
      have d2 : (w3.drewN n1).cell? ⟨b, 0, none⟩ = some (.float .f64 fa) := d0
      have d3 : (w3.drewN n1).cell? ⟨b, 1, none⟩ = some (.float .f64 fb) := d1
      have e2 : (w3.drewN n1).frozen? ⟨b, 0, none⟩ = false := e0
      have e3 : (w3.drewN n1).frozen? ⟨b, 1, none⟩ = false := e1
      generalize w3.drewN n1 = W1 at hr1 hr2 X d2 d3 e2 e3
      have d4 : (W1.setCell ⟨b, 0, none⟩ (.float .f64 r1)).cell? ⟨b, 1, none⟩ = some (.float .f64 fb) := by go_simp
      have d5 : ((W1.setCell ⟨b, 0, none⟩ (.float .f64 r1)).drewN n2).cell? ⟨b, 1, none⟩ = some (.float .f64 fb) := d4
      have e4 : ((W1.setCell ⟨b, 0, none⟩ (.float .f64 r1)).drewN n2).frozen? ⟨b, 1, none⟩ = false := (World.frozen?_setCell _ _ _ _).trans e3
      generalize (W1.setCell ⟨b, 0, none⟩ (.float .f64 r1)).drewN n2 = W2 at hr2 X d5 e4
      have s1 := st_any W1 ⟨b, 0, none⟩ (.float .f64 r1) _ rfl d2 e2
      have s2 := st_any W2 ⟨b, 1, none⟩ (.float .f64 r2) _ rfl d5 e4
      clear hfa hfb hf1 hf2 hb
      go_wp2
      go_end0
      refine ⟨rfl, bi, bp, i, j, v3, L, unhide HI, unhide HJ, ?_, ?_, (unhide HBW).trans (unhide X).2⟩
      · rw [unhide hp, unhide hs]; exact (unhide X).1.mono (by omega)
      · rw [unhide hp, addK, if_pos (List.mem_map.2 ⟨_, unhide HM, rfl⟩)]
    | none =>
      rw [hfp] at hl
      simp only [Option.map_none, Option.getD_none, Option.isSome_none] at hl
      have hsz : base ≤ w3.heap.size := Nat.le_trans (unhide hT3).lo.1 (Nat.le_of_lt (heap_lt (unhide hT3).blk))
      have T4 : Hid (Tal (w3.alloc (.cells #[.float .f64 0, .float .f64 0] 75)) base gt bi bp v3 (addS (addS N A) B) L f (cnt + 1 + 1)) := (unhide hT3).below ((Below.refl _ _).alloc (Nat.le_refl _) _)
      have hnew : ∀ e ∈ L, e.2 ≠ w3.heap.size := fun e he => by obtain ⟨_, _, q, _⟩ := (unhide hT3).out e he; have := heap_lt q; omega
      obtain ⟨w4, hput, hT5, hB5⟩ := (unhide T4).putP (i, j) (by simp; omega) (by simp; omega) hfp (by unfold maxLen; omega) w3.heap.size (heap_at rfl) hnew hsz (unhide hz _ hfp)
      replace hT5 := hide hT5
      have HBW4 : Hid (Below base w w4) := ((unhide HBW).trans ((Below.refl _ _).alloc hsz _)).trans hB5
      have hno := findP_none.1 hfp
      have KN : Hid (((L ++ [(((i, j) : Nat × Nat), w3.heap.size)]).map (·.1)).Nodup) := by
        rw [List.map_append, List.nodup_append]
        refine ⟨unhide hK, by simp, fun x hx y hy => ?_⟩
        simp at hy; subst hy
        exact fun e => hno (e ▸ hx)
      have HNO := hide hno
      have HM : Hid ((((i, j) : Nat × Nat), w3.heap.size) ∈ L ++ [(((i, j) : Nat × Nat), w3.heap.size)]) := hide (by simp)
      replace hfp := hide hfp
      replace hp := hide hp
      replace hs := hide hs
      clear hB5 hnew hno hsz T4
      go_wp2_with (at_lookup; refine Hold.out ?_)
      refine Hold.of ?_
      refine wpList_look _ rfl _ _ _ (by rfl) _ _ _ (by rfl) (by rfl) hl ?_
      clear hl
      go_wp2_with (at_mapUpdate; refine Hold.out ?_)
      refine Hold.of ?_
      refine wpList_put _ w4 rfl _ _ _ _ (by rfl) _ _ _ (by rfl) (by rfl) (by rfl) hput ?_
      clear hput c2
      generalize hbb : w3.heap.size = b at HM KN hT5 ⊢
      obtain ⟨fa, fb, hb, hfa, hfb⟩ := (unhide hT5).out (((i, j)), b) (unhide HM)
      obtain ⟨r1, n1, hr1, hf1⟩ := run_add w4 24 _ fa sa hfa
      obtain ⟨r2, n2, hr2, hf2⟩ := run_add ((w4.drewN n1).setCell ⟨b, 0, none⟩ (.float .f64 r1)) 24 _ fb sb hfb
      have X := hide ((unhide hT5).setO (unhide HM) (unhide KN) (n1 := n1) (n2 := n2) hf1 hf2)
      have d0 : w4.cell? ⟨b, 0, none⟩ = some (.float .f64 fa) := by rw [cell_of_row w4 b 0 _ 75 (0, 0) hb]; rfl
      have d1 : w4.cell? ⟨b, 1, none⟩ = some (.float .f64 fb) := by rw [cell_of_row w4 b 1 _ 75 (0, 0) hb]; rfl
      have e0 : w4.frozen? ⟨b, 0, none⟩ = false := thaw hb 0
      have e1 : w4.frozen? ⟨b, 1, none⟩ = false := thaw hb 1
      have d2 : (w4.drewN n1).cell? ⟨b, 0, none⟩ = some (.float .f64 fa) := d0
      have d3 : (w4.drewN n1).cell? ⟨b, 1, none⟩ = some (.float .f64 fb) := d1
      have e2 : (w4.drewN n1).frozen? ⟨b, 0, none⟩ = false := e0
      have e3 : (w4.drewN n1).frozen? ⟨b, 1, none⟩ = false := e1
      generalize w4.drewN n1 = W1 at hr1 hr2 X d2 d3 e2 e3
      have d4 : (W1.setCell ⟨b, 0, none⟩ (.float .f64 r1)).cell? ⟨b, 1, none⟩ = some (.float .f64 fb) := by go_simp
      have d5 : ((W1.setCell ⟨b, 0, none⟩ (.float .f64 r1)).drewN n2).cell? ⟨b, 1, none⟩ = some (.float .f64 fb) := d4
      have e4 : ((W1.setCell ⟨b, 0, none⟩ (.float .f64 r1)).drewN n2).frozen? ⟨b, 1, none⟩ = false := (World.frozen?_setCell _ _ _ _).trans e3
      generalize (W1.setCell ⟨b, 0, none⟩ (.float .f64 r1)).drewN n2 = W2 at hr2 X d5 e4
      have s1 := st_any W1 ⟨b, 0, none⟩ (.float .f64 r1) _ rfl d2 e2
      have s2 := st_any W2 ⟨b, 1, none⟩ (.float .f64 r2) _ rfl d5 e4
      clear hfa hfb hf1 hf2 hb
      go_wp2
      go_end0
      refine ⟨rfl, bi, bp, i, j, v3, L ++ [((i, j), b)], unhide HI, unhide HJ, ?_, ?_, (unhide HBW4).trans (unhide X).2⟩
      · rw [unhide hp, unhide hs]; exact (unhide X).1.mono (by omega)
      · rw [unhide hp, addK, if_neg (unhide HNO)]; simp

end Go.Proofs.Qxb6605581aMods
