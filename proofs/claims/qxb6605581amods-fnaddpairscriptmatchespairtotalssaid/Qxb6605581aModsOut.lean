import Derived.Test.Qxb6605581aModsPlace
namespace Go.Proofs.Qxb6605581aMods
open Go.RowKit Go.Maps

theorem zero70 (w : World) : (zeroValue 70).run Trym.prog w = .ok (.pointer none) w := by
  simp [zeroValue]
  rfl

/-- The key of two places. -/
def pk (i j : Nat) : Nat × Nat := if j < i then (j, i) else (i, j)
/-- Their scores, in the key's order. -/
def sc (i j sa sb : Nat) : Nat × Nat := if j < i then (sb, sa) else (sa, sb)
def updF (f : Nat × Nat → Option Nat × Option Nat) (p : Nat × Nat) (s : Nat × Nat) : Nat × Nat → Option Nat × Option Nat := fun q => if q = p then (fadd (f p).1 s.1, fadd (f p).2 s.2) else f q
def addK (K : List (Nat × Nat)) (p : Nat × Nat) : List (Nat × Nat) := if p ∈ K then K else K ++ [p]

theorem inj_of_nodup {α β : Type} (g : α → β) : ∀ {L : List α}, (L.map g).Nodup → ∀ {a b : α}, a ∈ L → b ∈ L → g a = g b → a = b
  | [], _, a, b, ha, _, _ => by simp at ha
  | x :: r, h, a, b, ha, hb, e => by
    rw [List.map_cons, List.nodup_cons] at h
    rcases List.mem_cons.1 ha with ea | ha2
    · rcases List.mem_cons.1 hb with eb | hb2
      · rw [ea, eb]
      · exact absurd (List.mem_map.2 ⟨b, hb2, by rw [← e, ea]⟩) h.1
    · rcases List.mem_cons.1 hb with eb | hb2
      · exact absurd (List.mem_map.2 ⟨a, ha2, by rw [e, eb]⟩) h.1
      · exact inj_of_nodup g h.2 ha2 hb2 e

section
variable {w : World} {base gt bi bp : Nat} {v : Value} {N : List ByteArray} {L : List ((Nat × Nat) × Nat)} {f : Nat × Nat → Option Nat × Option Nat} {cnt : Nat}

theorem Tal.lookP (h : Tal w base gt bi bp v N L f cnt) (p : Nat × Nat) (h1 : p.1 ≤ 131072) (h2 : p.2 ≤ 131072) :
    (Instr.lookup 49 (.map (some bp)) (pairV p) true).run Trym.prog w = .ok (.tuple #[((findP L p.1 p.2).map fun b => Value.pointer (some ⟨b, 0, none⟩)).getD (.pointer none), .bool (findP L p.1 p.2).isSome]) w := by
  obtain ⟨kl, hk⟩ := pairKey p h1 h2
  have := h.prs.look keyed73 Trym.underlying49 (zero70 w) ptrR_inj hk
  rw [this, gP_pair]
  simp

theorem Tal.putP (h : Tal w base gt bi bp v N L f cnt) (p : Nat × Nat) (h1 : p.1 ≤ 131072) (h2 : p.2 ≤ 131072) (hn : findP L p.1 p.2 = none) (hc : cnt < maxLen) (b : Nat) (hb : w.heap[b]? = some (.cells #[.float .f64 0, .float .f64 0] 75 (0, 0))) (hnew : ∀ e ∈ L, e.2 ≠ b) (hbase : base ≤ b) (hf : f p = (some 0, some 0)) :
    ∃ w', (Instr.mapUpdate 49 (.map (some bp)) (pairV p) (.pointer (some ⟨b, 0, none⟩))).run Trym.prog w = .ok () w' ∧ Tal w' base gt bi bp v N (L ++ [(p, b)]) f (cnt + 1) ∧ Below base w w' := by
  obtain ⟨kl, hk⟩ := pairKey p h1 h2
  obtain ⟨w', r1, r2, r3⟩ := h.prs.put keyed73 Trym.underlying49 hc hk (ptrR_mk b) (gP (L ++ [(p, b)])) (by rw [gP_pair, findP_app_new L p b hn]; rfl) (by
    intro key' kl' hk' hne
    unfold gP
    split
    · rename_i cs
      split
      · rename_i x y e
        rw [findP_app_other]
        rintro ⟨rfl, rfl⟩
        apply hne
        have : cs = #[.int .i64 (p.1 : Int), .int .i64 (p.2 : Int)] := by rw [← Array.toArray_toList (xs := cs), e]
        rw [this]
      · rfl
    · rfl)
  have K : ∀ k, k < w.heap.size → k ≠ bp → w'.heap[k]? = w.heap[k]? := fun k hk hne => r3.block k hk (by simpa using hne)
  refine ⟨w', r1, ⟨(K _ (heap_lt h.blk) h.gt_bp).trans h.blk, ?_, ?_, ?_, ?_, ?_, h.ne, h.lo.1, h.lo.2.1, h.lo.2.2.1, ?_⟩, ?_⟩
  · exact owns_block h.row fun k hk => K k (by obtain ⟨_, cur, hc⟩ := owns_type h.row hk; exact heap_lt hc) (fun e => h.row_bp (by rw [hk, e]))
  · obtain ⟨D, q1, q2⟩ := h.idx.block (K _ h.idx.lt h.ne)
    exact ⟨D, q1.mono (Nat.le_succ _), q2⟩
  · rw [gP_pair, hn] at r2
    simpa using r2
  · intro e he
    rcases List.mem_append.1 he with he | he
    · obtain ⟨fa, fb, q, r⟩ := h.out e he
      exact ⟨fa, fb, (K _ (heap_lt q) (h.out_ne he).2.2.1).trans q, r⟩
    · simp at he; subst he
      refine ⟨0, 0, (K _ (heap_lt hb) (fun e => ?_)).trans hb, by rw [hf]; rfl, by rw [hf]; rfl⟩
      obtain ⟨es, c, hm⟩ := h.prs.ismap
      rw [show b = bp from e] at hb; rw [hb] at hm; cases hm
  · rw [List.map_append, List.nodup_append]
    refine ⟨h.dist, by simp, fun x hx y hy => ?_⟩
    simp at hy; subst hy
    obtain ⟨e, he, rfl⟩ := List.mem_map.1 hx
    exact hnew e he
  · intro e he
    rcases List.mem_append.1 he with he | he
    · exact h.lo.2.2.2 e he
    · simp at he; subst he; exact hbase
  · exact (Kept.of_grown r3).below (fun k hk => by cases hk; exact h.lo.2.2.1) (Nat.le_trans h.lo.1 (Nat.le_of_lt (heap_lt h.blk)))

theorem Tal.setO (h : Tal w base gt bi bp v N L f cnt) {p : Nat × Nat} {b : Nat} (he : (p, b) ∈ L) (hK : (L.map (·.1)).Nodup) {n1 n2 r1 r2 s1 s2 : Nat} (h1 : fl (fadd (f p).1 s1) r1) (h2 : fl (fadd (f p).2 s2) r2) :
    Tal ((((w.drewN n1).setCell ⟨b, 0, none⟩ (.float .f64 r1)).drewN n2).setCell ⟨b, 1, none⟩ (.float .f64 r2)) base gt bi bp v N L (updF f p (s1, s2)) cnt ∧ Below base w ((((w.drewN n1).setCell ⟨b, 0, none⟩ (.float .f64 r1)).drewN n2).setCell ⟨b, 1, none⟩ (.float .f64 r2)) := by
  have K : Kept w ((((w.drewN n1).setCell ⟨b, 0, none⟩ (.float .f64 r1)).drewN n2).setCell ⟨b, 1, none⟩ (.float .f64 r2)) fun k => k = b := by
    have k1 := Kept.of_drewN w n1 fun k => k = b
    have k2 := Kept.of_set (w.drewN n1) ⟨b, 0, none⟩ (.float .f64 r1)
    have k3 := Kept.of_drewN ((w.drewN n1).setCell ⟨b, 0, none⟩ (.float .f64 r1)) n2 fun k => k = b
    have k4 := Kept.of_set (((w.drewN n1).setCell ⟨b, 0, none⟩ (.float .f64 r1)).drewN n2) ⟨b, 1, none⟩ (.float .f64 r2)
    exact ((k1.trans k2).trans k3).trans k4
  have hn := h.out_ne he
  obtain ⟨fa, fb, hb, _⟩ := h.out _ he
  refine ⟨⟨(K.block _ (heap_lt h.blk) hn.1.symm).trans h.blk, ?_, h.idx.block (K.block _ h.idx.lt hn.2.1.symm), h.prs.block (K.block _ h.prs.lt hn.2.2.1.symm), ?_, h.dist, h.ne, h.lo⟩, ?_⟩
  · exact owns_block h.row fun k hk => K.block k (by obtain ⟨_, cur, hc⟩ := owns_type h.row hk; exact heap_lt hc) (fun e => hn.2.2.2 (by rw [hk, e]))
  · intro e' he'
    by_cases e : e'.2 = b
    · have hp : e' = (p, b) := by
        exact inj_of_nodup _ h.dist he' he e
      subst hp
      refine ⟨r1, r2, ?_, by simpa [updF] using h1, by simpa [updF] using h2⟩
      have q0 : (w.drewN n1).heap[b]? = some (.cells #[.float .f64 fa, .float .f64 fb] 75 (0, 0)) := hb
      have q1 := heap_set (off := 0) (v := .float .f64 r1) q0
      have q2 : (((w.drewN n1).setCell ⟨b, 0, none⟩ (.float .f64 r1)).drewN n2).heap[b]? = _ := q1
      have q3 := heap_set (off := 1) (v := .float .f64 r2) q2
      rw [q3]
      simp
    · obtain ⟨xa, xb, q, r⟩ := h.out e' he'
      refine ⟨xa, xb, (K.block _ (heap_lt q) e).trans q, ?_⟩
      have hne : e'.1 ≠ p := fun e2 => by
        have := inj_of_nodup _ hK he' he e2
        exact e (by rw [this])
      simpa [updF, hne] using r
  · exact K.below (fun k hk => by subst hk; exact h.lo.2.2.2 _ he) (Nat.le_trans h.lo.1 (Nat.le_of_lt (heap_lt h.blk)))
end

end Go.Proofs.Qxb6605581aMods
