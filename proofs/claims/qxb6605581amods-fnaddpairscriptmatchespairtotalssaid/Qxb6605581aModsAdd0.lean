import Derived.Test.Qxb6605581aModsAdd
namespace Go.Proofs.Qxb6605581aMods
open Go.RowKit Go.Maps

theorem mm47 (w : World) : (Instr.makeMap 47 none).run Trym.prog w = .ok (.map (some w.heap.size)) (w.alloc (.map #[] 0)) := by
  simp [Instr.makeMap]
theorem mm49 (w : World) : (Instr.makeMap 49 none).run Trym.prog w = .ok (.map (some w.heap.size)) (w.alloc (.map #[] 0)) := by
  simp [Instr.makeMap]

theorem tal_fresh (w : World) (base gt : Nat) (A B : ByteArray) (sa sb : Nat) (f : Nat × Nat → Option Nat × Option Nat) (hblk : w.heap[gt]? = some (.cells #[.map none, .slice none 0 0, .map none] 51 (0, 0))) (hb : base ≤ gt) :
    Tal (((((w.setCell ⟨gt, 0, none⟩ (.map (some (w.heap.size + 1)))).alloc (.cells #[.string A, .string B, .float .f64 sa, .float .f64 sb] 54)).alloc (.map #[] 0)).alloc (.map #[] 0)).setCell ⟨gt, 2, none⟩ (.map (some (w.heap.size + 1 + 1)))) base gt (w.heap.size + 1) (w.heap.size + 1 + 1) (.slice none 0 0) [] [] f 0 ∧ Boxed (((((w.setCell ⟨gt, 0, none⟩ (.map (some (w.heap.size + 1)))).alloc (.cells #[.string A, .string B, .float .f64 sa, .float .f64 sb] 54)).alloc (.map #[] 0)).alloc (.map #[] 0)).setCell ⟨gt, 2, none⟩ (.map (some (w.heap.size + 1 + 1)))) w.heap.size A B sa sb ∧ Below base w (((((w.setCell ⟨gt, 0, none⟩ (.map (some (w.heap.size + 1)))).alloc (.cells #[.string A, .string B, .float .f64 sa, .float .f64 sb] 54)).alloc (.map #[] 0)).alloc (.map #[] 0)).setCell ⟨gt, 2, none⟩ (.map (some (w.heap.size + 1 + 1)))) := by
  have lt := heap_lt hblk
  have b2 : (w.setCell ⟨gt, 0, none⟩ (.map (some (w.heap.size + 1)))).heap[gt]? = some (.cells #[.map (some (w.heap.size + 1)), .slice none 0 0, .map none] 51 (0, 0)) := (heap_set hblk).trans (by simp)
  have hsz : (w.setCell ⟨gt, 0, none⟩ (.map (some (w.heap.size + 1)))).heap.size = w.heap.size := by simp [World.setCell]
  have b3 : ((((w.setCell ⟨gt, 0, none⟩ (.map (some (w.heap.size + 1)))).alloc (.cells #[.string A, .string B, .float .f64 sa, .float .f64 sb] 54)).alloc (.map #[] 0)).alloc (.map #[] 0)).heap[gt]? = some (.cells #[.map (some (w.heap.size + 1)), .slice none 0 0, .map none] 51 (0, 0)) := by
    rw [Below.heap_alloc _ _ _ (by simp; omega), Below.heap_alloc _ _ _ (by simp; omega), Below.heap_alloc _ _ _ (by simp; omega)]; exact b2
  have b4 : (((((w.setCell ⟨gt, 0, none⟩ (.map (some (w.heap.size + 1)))).alloc (.cells #[.string A, .string B, .float .f64 sa, .float .f64 sb] 54)).alloc (.map #[] 0)).alloc (.map #[] 0)).setCell ⟨gt, 2, none⟩ (.map (some (w.heap.size + 1 + 1)))).heap[gt]? = some (.cells #[.map (some (w.heap.size + 1)), .slice none 0 0, .map (some (w.heap.size + 1 + 1))] 51 (0, 0)) := (heap_set b3).trans (by simp)
  have m2 : (((((w.setCell ⟨gt, 0, none⟩ (.map (some (w.heap.size + 1)))).alloc (.cells #[.string A, .string B, .float .f64 sa, .float .f64 sb] 54)).alloc (.map #[] 0)).alloc (.map #[] 0)).setCell ⟨gt, 2, none⟩ (.map (some (w.heap.size + 1 + 1)))).heap[w.heap.size + 1 + 1]? = ((((w.setCell ⟨gt, 0, none⟩ (.map (some (w.heap.size + 1)))).alloc (.cells #[.string A, .string B, .float .f64 sa, .float .f64 sb] 54)).alloc (.map #[] 0)).alloc (.map #[] 0)).heap[w.heap.size + 1 + 1]? := Below.heap_setCell _ _ _ _ (by simp; omega)
  have m1 : (((((w.setCell ⟨gt, 0, none⟩ (.map (some (w.heap.size + 1)))).alloc (.cells #[.string A, .string B, .float .f64 sa, .float .f64 sb] 54)).alloc (.map #[] 0)).alloc (.map #[] 0)).setCell ⟨gt, 2, none⟩ (.map (some (w.heap.size + 1 + 1)))).heap[w.heap.size + 1]? = (((w.setCell ⟨gt, 0, none⟩ (.map (some (w.heap.size + 1)))).alloc (.cells #[.string A, .string B, .float .f64 sa, .float .f64 sb] 54)).alloc (.map #[] 0)).heap[w.heap.size + 1]? := (Below.heap_setCell _ _ _ _ (by simp; omega)).trans (Below.heap_alloc _ _ _ (by simp))
  have m0 : (((((w.setCell ⟨gt, 0, none⟩ (.map (some (w.heap.size + 1)))).alloc (.cells #[.string A, .string B, .float .f64 sa, .float .f64 sb] 54)).alloc (.map #[] 0)).alloc (.map #[] 0)).setCell ⟨gt, 2, none⟩ (.map (some (w.heap.size + 1 + 1)))).heap[w.heap.size]? = ((w.setCell ⟨gt, 0, none⟩ (.map (some (w.heap.size + 1)))).alloc (.cells #[.string A, .string B, .float .f64 sa, .float .f64 sb] 54)).heap[w.heap.size]? := by
    rw [Below.heap_setCell _ _ _ _ (by simp; omega), Below.heap_alloc _ _ _ (by simp; omega), Below.heap_alloc _ _ _ (by simp)]
  refine ⟨⟨b4, World.ownsRow_nil _ _ _ _, ?_, ?_, by simp, by simp, by omega, hb, by omega, by omega, by simp⟩, m0.trans (heap_at hsz), ?_⟩
  · have := mapOf_made ((w.setCell ⟨gt, 0, none⟩ (.map (some (w.heap.size + 1)))).alloc (.cells #[.string A, .string B, .float .f64 sa, .float .f64 sb] 54)) 9 (plainElem Trym.prog 3) (gI []) (fun key _ _ => gI_nil key)
    exact MapOf.block (by simpa using this) m1
  · have := mapOf_made (((w.setCell ⟨gt, 0, none⟩ (.map (some (w.heap.size + 1)))).alloc (.cells #[.string A, .string B, .float .f64 sa, .float .f64 sb] 54)).alloc (.map #[] 0)) 73 ptrR (gP []) (fun key _ _ => gP_nil key)
    exact MapOf.block (by simpa using this) m2
  · have k1 := Kept.of_set w ⟨gt, 0, none⟩ (.map (some (w.heap.size + 1)))
    have k3 := Kept.of_alloc (w.setCell ⟨gt, 0, none⟩ (.map (some (w.heap.size + 1)))) (.cells #[.string A, .string B, .float .f64 sa, .float .f64 sb] 54) fun k => k = gt
    have k4 := Kept.of_alloc ((w.setCell ⟨gt, 0, none⟩ (.map (some (w.heap.size + 1)))).alloc (.cells #[.string A, .string B, .float .f64 sa, .float .f64 sb] 54)) (.map #[] 0) fun k => k = gt
    have k5 := Kept.of_alloc (((w.setCell ⟨gt, 0, none⟩ (.map (some (w.heap.size + 1)))).alloc (.cells #[.string A, .string B, .float .f64 sa, .float .f64 sb] 54)).alloc (.map #[] 0)) (.map #[] 0) fun k => k = gt
    have k2 := Kept.of_set ((((w.setCell ⟨gt, 0, none⟩ (.map (some (w.heap.size + 1)))).alloc (.cells #[.string A, .string B, .float .f64 sa, .float .f64 sb] 54)).alloc (.map #[] 0)).alloc (.map #[] 0)) ⟨gt, 2, none⟩ (.map (some (w.heap.size + 1 + 1)))
    exact ((((k1.trans k3).trans k4).trans k5).trans k2).below (fun k hk => by subst hk; exact hb) (by omega)

set_option maxHeartbeats 2000000 in
theorem addPair_nil (base gt : Nat) (f : Nat × Nat → Option Nat × Option Nat) (A B : ByteArray) (sa sb : Nat) (w : World) (hblk : w.heap[gt]? = some (.cells #[.map none, .slice none 0 0, .map none] 51 (0, 0))) (hb : base ≤ gt) (hA : A.size ≤ maxLen) (hB : B.size ≤ maxLen) (hz : ∀ p : Nat × Nat, f p = (some 0, some 0)) :
    Calls Trym.prog 18 #[.pointer (some ⟨gt, 0, none⟩), .agg #[.string A, .string B, .float .f64 sa, .float .f64 sb]] w fun e w' => e = .returned (.tuple #[]) ∧ Added w w' base gt [] [] f 0 A B sa sb := by
  obtain ⟨t1, t2, t3⟩ := tal_fresh w base gt A B sa sb f hblk hb
  have c0 : w.cell? ⟨gt, 0, none⟩ = some (.map none) := by rw [cell_of_row w gt 0 _ 51 (0, 0) hblk]; rfl
  have f0 := thaw hblk 0
  have lt := heap_lt hblk
  have b2 : ((((w.setCell ⟨gt, 0, none⟩ (.map (some (w.heap.size + 1)))).alloc (.cells #[.string A, .string B, .float .f64 sa, .float .f64 sb] 54)).alloc (.map #[] 0)).alloc (.map #[] 0)).heap[gt]? = some (.cells #[.map (some (w.heap.size + 1)), .slice none 0 0, .map none] 51 (0, 0)) := by
    rw [Below.heap_alloc _ _ _ (by simp [World.setCell]; omega), Below.heap_alloc _ _ _ (by simp [World.setCell]; omega), Below.heap_alloc _ _ _ (by simp [World.setCell]; omega)]; exact (heap_set hblk).trans (by simp)
  have c2 : ((((w.setCell ⟨gt, 0, none⟩ (.map (some (w.heap.size + 1)))).alloc (.cells #[.string A, .string B, .float .f64 sa, .float .f64 sb] 54)).alloc (.map #[] 0)).alloc (.map #[] 0)).cell? ⟨gt, 2, none⟩ = some (.map none) := by rw [cell_of_row _ gt 2 _ 51 (0, 0) b2]; rfl
  have f2 : ((((w.setCell ⟨gt, 0, none⟩ (.map (some (w.heap.size + 1)))).alloc (.cells #[.string A, .string B, .float .f64 sa, .float .f64 sb] 54)).alloc (.map #[] 0)).alloc (.map #[] 0)).frozen? ⟨gt, 2, none⟩ = false := thaw b2 2
  clear b2
  have q47 := eq_map none
  have q48 := mm47
  have q49 := mm49
  have T := hide t1
  have hbx := hide t2
  have HB1 := hide t3
  clear t1 t2 t3 hblk hb
  go_enter Trym.func18, Trym.ntmps18
  go_wp2_with fail
  clear q48 q49 c2 f0 f2
  generalize hW0 : (((((w.setCell ⟨gt, 0, none⟩ (.map (some (w.heap.size + 1)))).alloc (.cells #[.string A, .string B, .float .f64 sa, .float .f64 sb] 54)).alloc (.map #[] 0)).alloc (.map #[] 0)).setCell ⟨gt, 2, none⟩ (.map (some (w.heap.size + 1 + 1)))) = W0 at T hbx HB1 ⊢
  replace hbx := unhide hbx
  have hK : Hid ((([] : List ((Nat × Nat) × Nat)).map (·.1)).Nodup) := hide (by simp)
  replace hz : Hid (∀ p : Nat × Nat, findP [] p.1 p.2 = none → f p = (some 0, some 0)) := fun p _ => hz p
  clear hW0
  obtain ⟨bi, hbi⟩ : ∃ bi, bi = w.heap.size + 1 := ⟨_, rfl⟩
  obtain ⟨bp, hbp⟩ : ∃ bp, bp = w.heap.size + 1 + 1 := ⟨_, rfl⟩
  rw [← hbp, ← hbi] at T
  clear hbi hbp
  go_region_held3 (fun w' => w'.cell? ⟨w.heap.size, 0, none⟩ = some (.string A) ∧ w'.cell? ⟨w.heap.size, 1, none⟩ = some (.string B) ∧ w'.cell? ⟨w.heap.size, 2, none⟩ = some (.float .f64 sa) ∧ w'.cell? ⟨w.heap.size, 3, none⟩ = some (.float .f64 sb) ∧ Boxed w' w.heap.size A B sa sb)
    (first | (go_split_ands; exact (Boxed.next (by assumption) (by assumption)).cells) | exact (Boxed.drew (by assumption)).cells | (go_split_ands; exact (Boxed.drew (by assumption)).cells))
    (first | (go_at_call_of 30 (Value.string A); refine (place_any base gt bi bp (.slice none 0 0) [] [] f 0 A _ ?_ hA (by omega) (by simp)).mono ?_; exact (unhide T).same fun _ _ => rfl; rintro e w2 ⟨i, rfl, hi, v2, hT2, hB2, hX2⟩; replace hT2 := hide hT2) | (go_at_call_of 30 (Value.string B); refine (place_any base gt bi bp v2 (addS [] A) [] f (0 + 1) B _ ?_ hB (by omega) (by have := addS_len [] A; simp only [List.length_nil] at this; omega)).mono ?_; exact (unhide hT2).same fun _ _ => rfl; rintro e w3 ⟨j, rfl, hj, v3, hT3, hB3, hX3⟩; replace hT3 := hide hT3))
  have HBW : Hid (Below base w w3) := ((unhide HB1).drew.trans hB2).trans hB3
  have HI : Hid (findS (addS (addS [] A) B) A = some i) := by obtain ⟨r, hr⟩ := addS_app (addS [] A) B; rw [hr]; exact findS_app r hi
  have HJ := hide hj
  have hil := findS_lt (unhide HI)
  have hjl := findS_lt hj
  have hnl : (addS (addS [] A) B).length ≤ 131002 := by have := addS_len [] A; simp only [List.length_nil] at this; have := addS_len (addS [] A) B; omega
  have c2 := (unhide hT3).c2
  have lt3 := heap_lt (unhide hT3).blk
  replace hil : i ≤ 131002 := by omega
  replace hjl : j ≤ 131002 := by omega
  clear hi hj hB2 hB3 hX2 hX3 hT2 T hbx HB1 hnl c0 lt q47
  by_cases hij : j < i
  · have hp : pk i j = (j, i) := by simp [pk, hij]
    have hs : sc i j sa sb = (sb, sa) := by simp [sc, hij]
    have hl := (unhide hT3).lookP (j, i) (by simp; omega) (by simp; omega)
    cases hfp : findP ([] : List ((Nat × Nat) × Nat)) ((j, i) : Nat × Nat).1 ((j, i) : Nat × Nat).2 with
    | some b =>
      rw [hfp] at hl
      simp only [Option.map_some, Option.getD_some, Option.isSome_some] at hl
      have HM := hide (findP_some hfp)
      replace hfp := hide hfp
      replace hp := hide hp
      replace hs := hide hs
      go_wp2_with (at_lookup; refine Hold.out ?_)
      refine Hold.of ?_
      refine wpList_look _ rfl _ _ _ (by rfl) _ _ _ (by rfl) (by rfl) hl ?_
      clear hl c2
      obtain ⟨fa, fb, hb, hfa, hfb⟩ := (unhide hT3).out (((j, i)), b) (unhide HM)
      obtain ⟨r1, n1, hr1, hf1⟩ := run_add w3 24 _ fa sb hfa
      obtain ⟨r2, n2, hr2, hf2⟩ := run_add ((w3.drewN n1).setCell ⟨b, 0, none⟩ (.float .f64 r1)) 24 _ fb sa hfb
      have X := hide ((unhide hT3).setO (unhide HM) (unhide hK) (n1 := n1) (n2 := n2) hf1 hf2)
      have d0 : w3.cell? ⟨b, 0, none⟩ = some (.float .f64 fa) := by rw [cell_of_row w3 b 0 _ 75 (0, 0) hb]; rfl
      have d1 : w3.cell? ⟨b, 1, none⟩ = some (.float .f64 fb) := by rw [cell_of_row w3 b 1 _ 75 (0, 0) hb]; rfl
      have e0 : w3.frozen? ⟨b, 0, none⟩ = false := thaw hb 0
      have e1 : w3.frozen? ⟨b, 1, none⟩ = false := thaw hb 1
      have d2 : (w3.drewN n1).cell? ⟨b, 0, none⟩ = some (.float .f64 fa) := d0
      have d3 : (w3.drewN n1).cell? ⟨b, 1, none⟩ = some (.float .f64 fb) := d1
      have e2 : (w3.drewN n1).frozen? ⟨b, 0, none⟩ = false := e0
      have e3 : (w3.drewN n1).frozen? ⟨b, 1, none⟩ = false := e1
      generalize w3.drewN n1 = W1 at hr1 hr2 X d2 d3 e2 e3
      have d4 : (W1.setCell ⟨b, 0, none⟩ (.float .f64 r1)).cell? ⟨b, 1, none⟩ = some (.float .f64 fb) := by go_simp
      have d5 : ((W1.setCell ⟨b, 0, none⟩ (.float .f64 r1)).drewN n2).cell? ⟨b, 1, none⟩ = some (.float .f64 fb) := d4
      have e4 : ((W1.setCell ⟨b, 0, none⟩ (.float .f64 r1)).drewN n2).frozen? ⟨b, 1, none⟩ = false := (World.frozen?_setCell _ _ _ _).trans e3
      generalize (W1.setCell ⟨b, 0, none⟩ (.float .f64 r1)).drewN n2 = W2 at hr2 X d5 e4
      have s1 := st_any W1 ⟨b, 0, none⟩ (.float .f64 r1) _ rfl d2 e2
      have s2 := st_any W2 ⟨b, 1, none⟩ (.float .f64 r2) _ rfl d5 e4
      clear hfa hfb hf1 hf2 hb
      go_wp2
      go_end0
      refine ⟨rfl, bi, bp, i, j, v3, [], unhide HI, unhide HJ, ?_, ?_, (unhide HBW).trans (unhide X).2⟩
      · rw [unhide hp, unhide hs]; exact (unhide X).1.mono (by omega)
      · exact absurd (unhide HM) (by simp)
    | none =>
      rw [hfp] at hl
      simp only [Option.map_none, Option.getD_none, Option.isSome_none] at hl
      have hsz : base ≤ w3.heap.size := Nat.le_trans (unhide hT3).lo.1 (Nat.le_of_lt (heap_lt (unhide hT3).blk))
      have T4 : Hid (Tal (w3.alloc (.cells #[.float .f64 0, .float .f64 0] 75)) base gt bi bp v3 (addS (addS [] A) B) [] f (0 + 1 + 1)) := (unhide hT3).below ((Below.refl _ _).alloc (Nat.le_refl _) _)
      have hnew : ∀ e ∈ ([] : List ((Nat × Nat) × Nat)), e.2 ≠ w3.heap.size := fun e he => by obtain ⟨_, _, q, _⟩ := (unhide hT3).out e he; have := heap_lt q; omega
      obtain ⟨w4, hput, hT5, hB5⟩ := (unhide T4).putP (j, i) (by simp; omega) (by simp; omega) hfp (by unfold maxLen; omega) w3.heap.size (heap_at rfl) hnew hsz (unhide hz _ hfp)
      replace hT5 := hide hT5
      have HBW4 : Hid (Below base w w4) := ((unhide HBW).trans ((Below.refl _ _).alloc hsz _)).trans hB5
      have hno := findP_none.1 hfp
      have KN : Hid (((([] : List ((Nat × Nat) × Nat)) ++ [(((j, i) : Nat × Nat), w3.heap.size)]).map (·.1)).Nodup) := by
        rw [List.map_append, List.nodup_append]
        refine ⟨unhide hK, by simp, fun x hx y hy => ?_⟩
        simp at hy; subst hy
        exact fun e => hno (e ▸ hx)
      have HNO := hide hno
      have HM : Hid ((((j, i) : Nat × Nat), w3.heap.size) ∈ [] ++ [(((j, i) : Nat × Nat), w3.heap.size)]) := hide (by simp)
      replace hfp := hide hfp
      replace hp := hide hp
      replace hs := hide hs
      clear hB5 hnew hno hsz T4
      go_wp2_with (at_lookup; refine Hold.out ?_)
      refine Hold.of ?_
      refine wpList_look _ rfl _ _ _ (by rfl) _ _ _ (by rfl) (by rfl) hl ?_
      clear hl
      go_wp2_with (at_mapUpdate; refine Hold.out ?_)
      refine Hold.of ?_
      refine wpList_put _ w4 rfl _ _ _ _ (by rfl) _ _ _ (by rfl) (by rfl) (by rfl) hput ?_
      clear hput c2
      generalize hbb : w3.heap.size = b at HM KN hT5 ⊢
      obtain ⟨fa, fb, hb, hfa, hfb⟩ := (unhide hT5).out (((j, i)), b) (unhide HM)
      obtain ⟨r1, n1, hr1, hf1⟩ := run_add w4 24 _ fa sb hfa
      obtain ⟨r2, n2, hr2, hf2⟩ := run_add ((w4.drewN n1).setCell ⟨b, 0, none⟩ (.float .f64 r1)) 24 _ fb sa hfb
      have X := hide ((unhide hT5).setO (unhide HM) (unhide KN) (n1 := n1) (n2 := n2) hf1 hf2)
      have d0 : w4.cell? ⟨b, 0, none⟩ = some (.float .f64 fa) := by rw [cell_of_row w4 b 0 _ 75 (0, 0) hb]; rfl
      have d1 : w4.cell? ⟨b, 1, none⟩ = some (.float .f64 fb) := by rw [cell_of_row w4 b 1 _ 75 (0, 0) hb]; rfl
      have e0 : w4.frozen? ⟨b, 0, none⟩ = false := thaw hb 0
      have e1 : w4.frozen? ⟨b, 1, none⟩ = false := thaw hb 1
      have d2 : (w4.drewN n1).cell? ⟨b, 0, none⟩ = some (.float .f64 fa) := d0
      have d3 : (w4.drewN n1).cell? ⟨b, 1, none⟩ = some (.float .f64 fb) := d1
      have e2 : (w4.drewN n1).frozen? ⟨b, 0, none⟩ = false := e0
      have e3 : (w4.drewN n1).frozen? ⟨b, 1, none⟩ = false := e1
      generalize w4.drewN n1 = W1 at hr1 hr2 X d2 d3 e2 e3
      have d4 : (W1.setCell ⟨b, 0, none⟩ (.float .f64 r1)).cell? ⟨b, 1, none⟩ = some (.float .f64 fb) := by go_simp
      have d5 : ((W1.setCell ⟨b, 0, none⟩ (.float .f64 r1)).drewN n2).cell? ⟨b, 1, none⟩ = some (.float .f64 fb) := d4
      have e4 : ((W1.setCell ⟨b, 0, none⟩ (.float .f64 r1)).drewN n2).frozen? ⟨b, 1, none⟩ = false := (World.frozen?_setCell _ _ _ _).trans e3
      generalize (W1.setCell ⟨b, 0, none⟩ (.float .f64 r1)).drewN n2 = W2 at hr2 X d5 e4
      have s1 := st_any W1 ⟨b, 0, none⟩ (.float .f64 r1) _ rfl d2 e2
      have s2 := st_any W2 ⟨b, 1, none⟩ (.float .f64 r2) _ rfl d5 e4
      clear hfa hfb hf1 hf2 hb
      go_wp2
      go_end0
      refine ⟨rfl, bi, bp, i, j, v3, [] ++ [((j, i), b)], unhide HI, unhide HJ, ?_, ?_, (unhide HBW4).trans (unhide X).2⟩
      · rw [unhide hp, unhide hs]; exact (unhide X).1.mono (by omega)
      · rw [unhide hp, addK, if_neg (by simp)]; simp
  · have hp : pk i j = (i, j) := by simp [pk, hij]
    have hs : sc i j sa sb = (sa, sb) := by simp [sc, hij]
    have hl := (unhide hT3).lookP (i, j) (by simp; omega) (by simp; omega)
    cases hfp : findP ([] : List ((Nat × Nat) × Nat)) ((i, j) : Nat × Nat).1 ((i, j) : Nat × Nat).2 with
    | some b =>
      rw [hfp] at hl
      simp only [Option.map_some, Option.getD_some, Option.isSome_some] at hl
      have HM := hide (findP_some hfp)
      replace hfp := hide hfp
      replace hp := hide hp
      replace hs := hide hs
      go_wp2_with (at_lookup; refine Hold.out ?_)
      refine Hold.of ?_
      refine wpList_look _ rfl _ _ _ (by rfl) _ _ _ (by rfl) (by rfl) hl ?_
      clear hl c2
      obtain ⟨fa, fb, hb, hfa, hfb⟩ := (unhide hT3).out (((i, j)), b) (unhide HM)
      obtain ⟨r1, n1, hr1, hf1⟩ := run_add w3 24 _ fa sa hfa
      obtain ⟨r2, n2, hr2, hf2⟩ := run_add ((w3.drewN n1).setCell ⟨b, 0, none⟩ (.float .f64 r1)) 24 _ fb sb hfb
      have X := hide ((unhide hT3).setO (unhide HM) (unhide hK) (n1 := n1) (n2 := n2) hf1 hf2)
      have d0 : w3.cell? ⟨b, 0, none⟩ = some (.float .f64 fa) := by rw [cell_of_row w3 b 0 _ 75 (0, 0) hb]; rfl
      have d1 : w3.cell? ⟨b, 1, none⟩ = some (.float .f64 fb) := by rw [cell_of_row w3 b 1 _ 75 (0, 0) hb]; rfl
      have e0 : w3.frozen? ⟨b, 0, none⟩ = false := thaw hb 0
      have e1 : w3.frozen? ⟨b, 1, none⟩ = false := thaw hb 1
      have d2 : (w3.drewN n1).cell? ⟨b, 0, none⟩ = some (.float .f64 fa) := d0
      have d3 : (w3.drewN n1).cell? ⟨b, 1, none⟩ = some (.float .f64 fb) := d1
      have e2 : (w3.drewN n1).frozen? ⟨b, 0, none⟩ = false := e0
      have e3 : (w3.drewN n1).frozen? ⟨b, 1, none⟩ = false := e1
      generalize w3.drewN n1 = W1 at hr1 hr2 X d2 d3 e2 e3
      have d4 : (W1.setCell ⟨b, 0, none⟩ (.float .f64 r1)).cell? ⟨b, 1, none⟩ = some (.float .f64 fb) := by go_simp
      have d5 : ((W1.setCell ⟨b, 0, none⟩ (.float .f64 r1)).drewN n2).cell? ⟨b, 1, none⟩ = some (.float .f64 fb) := d4
      have e4 : ((W1.setCell ⟨b, 0, none⟩ (.float .f64 r1)).drewN n2).frozen? ⟨b, 1, none⟩ = false := (World.frozen?_setCell _ _ _ _).trans e3
      generalize (W1.setCell ⟨b, 0, none⟩ (.float .f64 r1)).drewN n2 = W2 at hr2 X d5 e4
      have s1 := st_any W1 ⟨b, 0, none⟩ (.float .f64 r1) _ rfl d2 e2
      have s2 := st_any W2 ⟨b, 1, none⟩ (.float .f64 r2) _ rfl d5 e4
      clear hfa hfb hf1 hf2 hb
      go_wp2
      go_end0
      refine ⟨rfl, bi, bp, i, j, v3, [], unhide HI, unhide HJ, ?_, ?_, (unhide HBW).trans (unhide X).2⟩
      · rw [unhide hp, unhide hs]; exact (unhide X).1.mono (by omega)
      · exact absurd (unhide HM) (by simp)
    | none =>
      rw [hfp] at hl
      simp only [Option.map_none, Option.getD_none, Option.isSome_none] at hl
      have hsz : base ≤ w3.heap.size := Nat.le_trans (unhide hT3).lo.1 (Nat.le_of_lt (heap_lt (unhide hT3).blk))
      have T4 : Hid (Tal (w3.alloc (.cells #[.float .f64 0, .float .f64 0] 75)) base gt bi bp v3 (addS (addS [] A) B) [] f (0 + 1 + 1)) := (unhide hT3).below ((Below.refl _ _).alloc (Nat.le_refl _) _)
      have hnew : ∀ e ∈ ([] : List ((Nat × Nat) × Nat)), e.2 ≠ w3.heap.size := fun e he => by obtain ⟨_, _, q, _⟩ := (unhide hT3).out e he; have := heap_lt q; omega
      obtain ⟨w4, hput, hT5, hB5⟩ := (unhide T4).putP (i, j) (by simp; omega) (by simp; omega) hfp (by unfold maxLen; omega) w3.heap.size (heap_at rfl) hnew hsz (unhide hz _ hfp)
      replace hT5 := hide hT5
      have HBW4 : Hid (Below base w w4) := ((unhide HBW).trans ((Below.refl _ _).alloc hsz _)).trans hB5
      have hno := findP_none.1 hfp
      have KN : Hid (((([] : List ((Nat × Nat) × Nat)) ++ [(((i, j) : Nat × Nat), w3.heap.size)]).map (·.1)).Nodup) := by
        rw [List.map_append, List.nodup_append]
        refine ⟨unhide hK, by simp, fun x hx y hy => ?_⟩
        simp at hy; subst hy
        exact fun e => hno (e ▸ hx)
      have HNO := hide hno
      have HM : Hid ((((i, j) : Nat × Nat), w3.heap.size) ∈ [] ++ [(((i, j) : Nat × Nat), w3.heap.size)]) := hide (by simp)
      replace hfp := hide hfp
      replace hp := hide hp
      replace hs := hide hs
      clear hB5 hnew hno hsz T4
      go_wp2_with (at_lookup; refine Hold.out ?_)
      refine Hold.of ?_
      refine wpList_look _ rfl _ _ _ (by rfl) _ _ _ (by rfl) (by rfl) hl ?_
      clear hl
      go_wp2_with (at_mapUpdate; refine Hold.out ?_)
      refine Hold.of ?_
      refine wpList_put _ w4 rfl _ _ _ _ (by rfl) _ _ _ (by rfl) (by rfl) (by rfl) hput ?_
      clear hput c2
      generalize hbb : w3.heap.size = b at HM KN hT5 ⊢
      obtain ⟨fa, fb, hb, hfa, hfb⟩ := (unhide hT5).out (((i, j)), b) (unhide HM)
      obtain ⟨r1, n1, hr1, hf1⟩ := run_add w4 24 _ fa sa hfa
      obtain ⟨r2, n2, hr2, hf2⟩ := run_add ((w4.drewN n1).setCell ⟨b, 0, none⟩ (.float .f64 r1)) 24 _ fb sb hfb
      have X := hide ((unhide hT5).setO (unhide HM) (unhide KN) (n1 := n1) (n2 := n2) hf1 hf2)
      have d0 : w4.cell? ⟨b, 0, none⟩ = some (.float .f64 fa) := by rw [cell_of_row w4 b 0 _ 75 (0, 0) hb]; rfl
      have d1 : w4.cell? ⟨b, 1, none⟩ = some (.float .f64 fb) := by rw [cell_of_row w4 b 1 _ 75 (0, 0) hb]; rfl
      have e0 : w4.frozen? ⟨b, 0, none⟩ = false := thaw hb 0
      have e1 : w4.frozen? ⟨b, 1, none⟩ = false := thaw hb 1
      have d2 : (w4.drewN n1).cell? ⟨b, 0, none⟩ = some (.float .f64 fa) := d0
      have d3 : (w4.drewN n1).cell? ⟨b, 1, none⟩ = some (.float .f64 fb) := d1
      have e2 : (w4.drewN n1).frozen? ⟨b, 0, none⟩ = false := e0
      have e3 : (w4.drewN n1).frozen? ⟨b, 1, none⟩ = false := e1
      generalize w4.drewN n1 = W1 at hr1 hr2 X d2 d3 e2 e3
      have d4 : (W1.setCell ⟨b, 0, none⟩ (.float .f64 r1)).cell? ⟨b, 1, none⟩ = some (.float .f64 fb) := by go_simp
      have d5 : ((W1.setCell ⟨b, 0, none⟩ (.float .f64 r1)).drewN n2).cell? ⟨b, 1, none⟩ = some (.float .f64 fb) := d4
      have e4 : ((W1.setCell ⟨b, 0, none⟩ (.float .f64 r1)).drewN n2).frozen? ⟨b, 1, none⟩ = false := (World.frozen?_setCell _ _ _ _).trans e3
      generalize (W1.setCell ⟨b, 0, none⟩ (.float .f64 r1)).drewN n2 = W2 at hr2 X d5 e4
      have s1 := st_any W1 ⟨b, 0, none⟩ (.float .f64 r1) _ rfl d2 e2
      have s2 := st_any W2 ⟨b, 1, none⟩ (.float .f64 r2) _ rfl d5 e4
      clear hfa hfb hf1 hf2 hb
      go_wp2
      go_end0
      refine ⟨rfl, bi, bp, i, j, v3, [] ++ [((i, j), b)], unhide HI, unhide HJ, ?_, ?_, (unhide HBW4).trans (unhide X).2⟩
      · rw [unhide hp, unhide hs]; exact (unhide X).1.mono (by omega)
      · rw [unhide hp, addK, if_neg (by simp)]; simp

end Go.Proofs.Qxb6605581aMods
