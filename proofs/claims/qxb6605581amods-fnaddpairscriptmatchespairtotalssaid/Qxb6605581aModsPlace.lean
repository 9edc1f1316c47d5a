import Derived.Test.Qxb6605581aModsTal
namespace Go.Proofs.Qxb6605581aMods
open Go.RowKit Go.Maps

theorem Trym.info9 : (Trym.prog.info? 9).map (fun i => (i.zero, i.size, i.bytes)) = some (some (.string ⟨#[]⟩), 1, 16) := by kernel_rfl
/-- 'v, ok := m[k]' at the operation. -/
theorem wpList_look (w : World) {ops : Array Oper} {rest : List Oper} {o : Oper} {a : Act} {Q : Exit → Act → World → Prop}
    (hg : o.guard = none) (t : TypeId) (m x : Operand) (hop : o.op = Op.lookup t m x true) (mv xv rv : Value) (hm : a.eval m = mv) (hx : a.eval x = xv)
    (hrun : (Instr.lookup t mv xv true).run Trym.prog w = .ok rv w) (hK : wpList Trym.prog ops Q rest (a.put o.dst rv) w) :
    wpList Trym.prog ops Q (o :: rest) a w := by
  refine wpList_plain hg fun K' hK' => ?_
  unfold Oper.wp
  simp [execOp, hop, hm, hx, hrun, Result.andThen]
  exact hK' _ _ hK
/-- 'm[k] = v' at the operation. -/
theorem wpList_put (w w' : World) {ops : Array Oper} {rest : List Oper} {o : Oper} {a : Act} {Q : Exit → Act → World → Prop}
    (hg : o.guard = none) (t : TypeId) (m x v : Operand) (hop : o.op = Op.mapUpdate t m x v) (mv xv vv : Value) (hm : a.eval m = mv) (hx : a.eval x = xv) (hv : a.eval v = vv)
    (hrun : (Instr.mapUpdate t mv xv vv).run Trym.prog w = .ok () w') (hK : wpList Trym.prog ops Q rest (a.put o.dst undef) w') :
    wpList Trym.prog ops Q (o :: rest) a w := by
  refine wpList_plain hg fun K' hK' => ?_
  unfold Oper.wp
  simp [execOp, hop, hm, hx, hv, hrun, Result.andThen]
  exact hK' _ _ hK

theorem zero3 (w : World) : (zeroValue 3).run Trym.prog w = .ok (.int .i64 0) w := by
  simp [zeroValue]
  rfl

section
variable {w : World} {base gt bi bp : Nat} {v : Value} {N : List ByteArray} {L : List ((Nat × Nat) × Nat)} {f : Nat × Nat → Option Nat × Option Nat} {cnt : Nat}

theorem Tal.lookI (h : Tal w base gt bi bp v N L f cnt) (s : ByteArray) (hs : s.size ≤ maxLen) :
    (Instr.lookup 47 (.map (some bi)) (.string s) true).run Trym.prog w = .ok (.tuple #[((findS N s).map fun (i : Nat) => Value.int .i64 i).getD (.int .i64 0), .bool (findS N s).isSome]) w := by
  obtain ⟨kl, hk⟩ := strKey s hs
  have := h.idx.look keyed9 Trym.underlying47 (zero3 w) idxR_inj hk
  rw [this]
  simp [gI]

theorem Tal.putI (h : Tal w base gt bi bp v N L f cnt) (s : ByteArray) (hs : s.size ≤ maxLen) (hn : findS N s = none) (hc : cnt < maxLen) (hN : N.length ≤ 131072) :
    ∃ w', (Instr.mapUpdate 47 (.map (some bi)) (.string s) (.int .i64 N.length)).run Trym.prog w = .ok () w' ∧ MapOf w' 9 (plainElem Trym.prog 3) bi (cnt + 1) (N.length + 1) (gI (N ++ [s])) ∧ w.grownBy w' (some bi) := by
  obtain ⟨kl, hk⟩ := strKey s hs
  have hf := findS_none.1 hn
  obtain ⟨w', h1, h2, h3⟩ := h.idx.put keyed9 Trym.underlying47 hc (val := .int .i64 N.length) hk (plainElem_int Trym.underlying3 (WalkArith.wf_i64 (by omega))) (gI (N ++ [s])) (by simp [gI, findS_new hf]) (by
    intro key' kl' hk' hne
    unfold gI
    split
    · rename_i s'
      have hne' : s' ≠ s := fun e => hne (by rw [e])
      cases e : findS N s' with
      | some i => rw [findS_app _ e]
      | none => rw [findS_none.2 (by simp [hne', findS_none.1 e])]
    · rfl)
  refine ⟨w', h1, ?_, h3⟩
  simpa [gI, hn] using h2
end

/-- What place leaves: the boxed pairs are as they were. -/
def Boxes (w w' : World) : Prop := ∀ (k : Nat) (cs : Array Value), w.heap[k]? = some (Obj.cells cs 54 (0, 0)) → w'.heap[k]? = some (Obj.cells cs 54 (0, 0))
theorem Kept.boxes {w w' : World} {S : Nat → Prop} (h : Kept w w' S) (hs : ∀ k (cs : Array Value), w.heap[k]? = some (Obj.cells cs 54 (0, 0)) → ¬ S k) : Boxes w w' := fun k cs hk => (h.block k (heap_lt hk) (hs k cs hk)).trans hk

theorem thaw {w : World} {g : Nat} {cs : Array Value} {t : TypeId} (h : w.heap[g]? = some (.cells cs t (0, 0))) (off : Nat) : w.frozen? ⟨g, off, none⟩ = false := by simp [World.frozen?, h]
theorem heap_set {w : World} {g off : Nat} {cs : Array Value} {t : TypeId} {fr : Nat × Nat} {v : Value} (h : w.heap[g]? = some (.cells cs t fr)) : (w.setCell ⟨g, off, none⟩ v).heap[g]? = some (.cells (cs.setIfInBounds off v) t fr) := by
  have hlt := heap_lt h
  have h2 : w.heap[g] = .cells cs t fr := (Array.getElem?_eq_some_iff.1 h).2
  show (w.heap.modify g _)[g]? = _
  rw [Array.getElem?_eq_getElem (by simpa using hlt), Array.getElem_modify_self, h2]
  rfl

theorem tal_placed {w w1 w2 : World} {base gt bi bp : Nat} {v v2 : Value} {N : List ByteArray} {L : List ((Nat × Nat) × Nat)} {f : Nat × Nat → Option Nat × Option Nat} {cnt g2 : Nat} {s : ByteArray} {o : Obj}
    (h : Tal w base gt bi bp v N L f cnt) (hg1 : w.grownBy w1 (some bi)) (hm1 : MapOf w1 9 (plainElem Trym.prog 3) bi (cnt + 1) (N.length + 1) (gI (N ++ [s]))) (hg2 : (w1.alloc o).grownBy w2 v.ownBlock)
    (hown : w2.ownsRow base 9 1 v2 (N.length + 1) (N.map Value.string ++ [.string s])) (hv2 : v2.ownBlock = some g2) (hat : v.ownBlock = some g2 ∨ g2 = (w1.alloc o).heap.size) :
    Tal (w2.setCell ⟨gt, 1, none⟩ v2) base gt bi bp v2 (N ++ [s]) L f (cnt + 1) ∧ Below base w (w2.setCell ⟨gt, 1, none⟩ v2) ∧ Boxes w (w2.setCell ⟨gt, 1, none⟩ v2) := by
  have K : Kept w w2 fun k => k = bi ∨ some k = v.ownBlock := (((Kept.of_grown hg1).mono (fun k _ hk => .inl (by simpa using hk))).trans (Kept.of_alloc _ _ _)).trans ((Kept.of_grown hg2).mono (fun k _ hk => .inr hk))
  have K2 : Kept w (w2.setCell ⟨gt, 1, none⟩ v2) fun k => k = gt ∨ k = bi ∨ some k = v.ownBlock := (K.mono (fun k _ hk => .inr hk)).trans ((Kept.of_set _ _ _).mono (fun k _ hk => .inl hk))
  have hblk : w2.heap[gt]? = some (.cells #[.map (some bi), v, .map (some bp)] 51 (0, 0)) := (K.block gt (heap_lt h.blk) (fun e => e.elim h.gt_bi (fun e => h.row_gt e.symm))).trans h.blk
  have hgt2 : g2 ≠ gt := by
    rcases hat with e | e
    · intro e2; exact h.row_gt (by rw [e, e2])
    · have := hg1.size
      have := heap_lt h.blk
      simp at e; omega
  have hlt1 := h.idx.lt
  have hs1 := hg1.size
  refine ⟨⟨heap_set hblk, ?_, ?_, ?_, ?_, h.dist, h.ne, h.lo⟩, ?_, ?_⟩
  · have hown' : w2.ownsRow base 9 1 v2 (N ++ [s]).length ((N ++ [s]).map Value.string) := by simpa using hown
    exact owns_block hown' fun k hk => Below.heap_setCell _ _ _ _ (by rw [hv2] at hk; cases hk; exact hgt2)
  · have : (w2.setCell ⟨gt, 1, none⟩ v2).heap[bi]? = w1.heap[bi]? := by
      rw [Below.heap_setCell _ _ _ _ (fun e => h.gt_bi e.symm), hg2.block bi (by simp; omega) (fun e => h.row_bi e.symm), Below.heap_alloc _ _ _ (by omega)]
    simpa using hm1.block this
  · obtain ⟨D, h1, h2⟩ := h.prs.block (K2.block bp h.prs.lt (fun e => by
      rcases e with e | e | e
      · exact h.gt_bp e.symm
      · exact h.ne e.symm
      · exact h.row_bp e.symm))
    exact ⟨D, h1.mono (Nat.le_succ _), h2⟩
  · intro e he
    obtain ⟨fa, fb, hb, hr⟩ := h.out e he
    have hn := h.out_ne he
    exact ⟨fa, fb, (K2.block _ (heap_lt hb) (fun q => by
      rcases q with q | q | q
      · exact hn.1 q
      · exact hn.2.1 q
      · exact hn.2.2.2 q.symm)).trans hb, hr⟩
  · refine K2.below (fun k hk => ?_) (Nat.le_trans h.lo.1 (Nat.le_of_lt (heap_lt h.blk)))
    rcases hk with rfl | rfl | hk
    · exact h.lo.1
    · exact h.lo.2.1
    · exact (owns_type h.row hk.symm).1
  · refine K2.boxes fun k cs hk q => ?_
    rcases q with rfl | rfl | q
    · rw [h.blk] at hk; simp at hk
    · obtain ⟨es, c, hm⟩ := h.idx.ismap; rw [hm] at hk; cases hk
    · obtain ⟨_, cur, hc⟩ := owns_type h.row q.symm
      rw [hc] at hk; simp at hk

set_option maxHeartbeats 1000000 in
theorem place_old (base gt bi bp : Nat) (v : Value) (N : List ByteArray) (L : List ((Nat × Nat) × Nat)) (f : Nat × Nat → Option Nat × Option Nat) (cnt : Nat) (s : ByteArray) (i : Nat) (w : World) (h : Tal w base gt bi bp v N L f cnt) (hs : s.size ≤ maxLen) (hf : findS N s = some i) :
    Calls Trym.prog 30 #[.pointer (some ⟨gt, 0, none⟩), .string s] w fun e w' => e = .returned (.int .i64 i) ∧ w' = w := by
  have c0 := h.c0
  have hl := h.lookI s hs
  rw [hf] at hl
  simp only [Option.map_some, Option.getD_some, Option.isSome_some] at hl
  clear h hf
  go_enter Trym.func30, Trym.ntmps30
  go_wp2_with (at_lookup; refine Hold.out ?_)
  refine Hold.of ?_
  refine wpList_look _ rfl _ _ _ (by rfl) _ _ _ (by rfl) (by rfl) hl ?_
  clear hl
  go_wp2
  go_ret
  exact ⟨rfl, rfl⟩

set_option maxHeartbeats 1000000 in
theorem place_new (base gt bi bp : Nat) (v : Value) (N : List ByteArray) (L : List ((Nat × Nat) × Nat)) (f : Nat × Nat → Option Nat × Option Nat) (cnt : Nat) (s : ByteArray) (w : World) (h : Tal w base gt bi bp v N L f cnt) (hs : s.size ≤ maxLen) (hf : findS N s = none) (hc : cnt ≤ 131072) (hN : N.length ≤ 131072) :
    Calls Trym.prog 30 #[.pointer (some ⟨gt, 0, none⟩), .string s] w fun e w' => e = .returned (.int .i64 N.length) ∧ ∃ v', Tal w' base gt bi bp v' (N ++ [s]) L f (cnt + 1) ∧ Below base w w' ∧ Boxes w w' := by
  obtain ⟨i0, hi0, hz0, hz1, hz2⟩ := info_parts Trym.info9
  have c0 := h.c0
  have c1 := h.c1
  have hl := h.lookI s hs
  rw [hf] at hl
  simp only [Option.map_none, Option.getD_none, Option.isSome_none] at hl
  obtain ⟨w1, hp, hm1, hg1⟩ := h.putI s hs hf (by unfold maxLen; omega) hN
  obtain ⟨a, cap, rfl, hstr⟩ := IsStrs.of_owns h.row
  have H := hide h
  have M1 := hide hm1
  have G1 := hide hg1
  clear h hm1 hg1 hstr
  go_enter Trym.func30, Trym.ntmps30
  go_wp2_with (at_lookup; refine Hold.out ?_)
  refine Hold.of ?_
  refine wpList_look _ rfl _ _ _ (by rfl) _ _ _ (by rfl) (by rfl) hl ?_
  clear hl
  go_wp2_with (at_mapUpdate; refine Hold.out ?_)
  refine Hold.of ?_
  refine wpList_put _ w1 rfl _ _ _ _ (by rfl) _ _ _ (by rfl) (by rfl) (by rfl) hp ?_
  clear hp c0 c1
  have hblk : w1.heap[gt]? = some (.cells #[.map (some bi), .slice a N.length cap, .map (some bp)] 51 (0, 0)) := ((unhide G1).block gt (heap_lt (unhide H).blk) (fun e => (unhide H).gt_bi (by simpa using e))).trans (unhide H).blk
  have c1 : w1.cell? ⟨gt, 1, none⟩ = some (.slice a N.length cap) := by rw [cell_of_row w1 gt 1 _ 51 (0, 0) hblk]; rfl
  have HB := hide hblk
  clear hblk
  go_wp2_with (at_builtin; refine Hold.out ?_)
  refine Hold.of ?_
  have HR : Hid (w1.ownsRow base 9 1 (.slice a N.length cap) N.length (N.map Value.string)) := owns_block (unhide H).row fun k hk => (unhide G1).block k (by obtain ⟨_, cur, hc⟩ := owns_type (unhide H).row hk; exact heap_lt hc) (fun e => (unhide H).row_bi (by rw [hk]; exact e))
  refine wpList_append_lies _ rfl _ _ _ (by rfl) base 9 i0 _ 1 16 Trym.underlying48 hi0 hz0 hz1 hz2 rfl (by omega) (.slice a N.length cap) N.length (N.map Value.string) (by rfl) ((unhide HR).alloc _) ⟨w1.heap.size, 0, none⟩ 1 1 [.string s] (by rfl) (by rfl) ?_ (by simp [Value.oneCell']) (by omega) (by unfold maxLen; omega) (by omega) ?_ _ rfl ?_
  · exact World.news_of_block (cs := #[.string s]) (t := 9) (fr := (0, 0)) (heap_at rfl)
  · have := heap_lt (unhide HB)
    have := (unhide H).lo.1
    simp; omega
  intro g2 cap2 w2 hown2 hgrow hat hlt2
  have X := hide (tal_placed (unhide H) (unhide G1) (unhide M1) hgrow hown2 rfl hat)
  have hblk : w2.heap[gt]? = some (.cells #[.map (some bi), .slice a N.length cap, .map (some bp)] 51 (0, 0)) := (hgrow.block gt (by have := heap_lt (unhide HB); simp; omega) (fun e => (unhide H).row_gt e.symm)).trans ((Below.heap_alloc _ _ _ (heap_lt (unhide HB))).trans (unhide HB))
  have c1' : w2.cell? ⟨gt, 1, none⟩ = some (.slice a N.length cap) := by rw [cell_of_row w2 gt 1 _ 51 (0, 0) hblk]; rfl
  have f1 : w2.frozen? ⟨gt, 1, none⟩ = false := thaw hblk 1
  clear hown2 hgrow hat hlt2 c1 hblk HR HB M1 G1 H
  go_wp2
  go_ret
  exact ⟨rfl, _, unhide X⟩

theorem Boxes.refl (w : World) : Boxes w w := fun _ _ h => h
theorem Boxes.trans {a b c : World} (h : Boxes a b) (k : Boxes b c) : Boxes a c := fun i cs hi => k i cs (h i cs hi)

theorem place_any (base gt bi bp : Nat) (v : Value) (N : List ByteArray) (L : List ((Nat × Nat) × Nat)) (f : Nat × Nat → Option Nat × Option Nat) (cnt : Nat) (s : ByteArray) (w : World) (h : Tal w base gt bi bp v N L f cnt) (hs : s.size ≤ maxLen) (hc : cnt ≤ 131072) (hN : N.length ≤ 131072) :
    Calls Trym.prog 30 #[.pointer (some ⟨gt, 0, none⟩), .string s] w fun e w' => ∃ i : Nat, e = .returned (.int .i64 i) ∧ findS (addS N s) s = some i ∧ ∃ v', Tal w' base gt bi bp v' (addS N s) L f (cnt + 1) ∧ Below base w w' ∧ Boxes w w' := by
  cases hf : findS N s with
  | some i =>
    refine (place_old base gt bi bp v N L f cnt s i w h hs hf).mono ?_
    rintro e w' ⟨rfl, rfl⟩
    rw [addS_old hf]
    exact ⟨i, rfl, hf, v, h.mono (Nat.le_succ _), Below.refl _ _, Boxes.refl _⟩
  | none =>
    refine (place_new base gt bi bp v N L f cnt s w h hs hf hc hN).mono ?_
    rintro e w' ⟨rfl, v', h1, h2, h3⟩
    rw [addS_new hf]
    exact ⟨_, rfl, findS_new (findS_none.1 hf), v', h1, h2, h3⟩

end Go.Proofs.Qxb6605581aMods
