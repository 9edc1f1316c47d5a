import Derived.Test.Qxb6605581aModsMap
import Derived.Maps.OwnOps
namespace Go.Proofs.Qxb6605581aMods
open Go.RowKit Go.Maps

/-- What the map 'index' holds. -/
def gI (N : List ByteArray) : Value → Option Value
  | .string s => (findS N s).map fun (i : Nat) => .int .i64 i
  | _ => none
/-- The block of the pair (x, y). -/
def findP : List ((Nat × Nat) × Nat) → Int → Int → Option Nat
  | [], _, _ => none
  | e :: r, x, y => if (e.1.1 : Int) = x ∧ (e.1.2 : Int) = y then some e.2 else findP r x y
/-- What the map 'pairs' holds. -/
def gP (L : List ((Nat × Nat) × Nat)) : Value → Option Value
  | .agg cs => match cs.toList with
    | [.int .i64 x, .int .i64 y] => (findP L x y).map fun b => .pointer (some ⟨b, 0, none⟩)
    | _ => none
  | _ => none
theorem gP_pair (L : List ((Nat × Nat) × Nat)) (p : Nat × Nat) : gP L (pairV p) = (findP L p.1 p.2).map fun b => .pointer (some ⟨b, 0, none⟩) := rfl
theorem gI_nil (v : Value) : gI [] v = none := by
  unfold gI; split <;> rfl
theorem gP_nil (v : Value) : gP [] v = none := by
  unfold gP; split
  · split <;> rfl
  · rfl
theorem findP_app_other : ∀ (L : List ((Nat × Nat) × Nat)) (p : Nat × Nat) (b : Nat) (x y : Int), ¬ ((p.1 : Int) = x ∧ (p.2 : Int) = y) → findP (L ++ [(p, b)]) x y = findP L x y
  | [], p, b, x, y, h => by simp [findP, h]
  | e :: r, p, b, x, y, h => by
    rw [List.cons_append]
    unfold findP
    split
    · rfl
    · exact findP_app_other r p b x y h
theorem findP_app_new : ∀ (L : List ((Nat × Nat) × Nat)) (p : Nat × Nat) (b : Nat), findP L p.1 p.2 = none → findP (L ++ [(p, b)]) p.1 p.2 = some b
  | [], p, b, _ => by simp [findP]
  | e :: r, p, b, h => by
    rw [List.cons_append]
    unfold findP at h ⊢
    split
    · rename_i hc; rw [if_pos hc] at h; cases h
    · rename_i hc; rw [if_neg hc] at h; exact findP_app_new r p b h
theorem findP_some : ∀ {L : List ((Nat × Nat) × Nat)} {p : Nat × Nat} {b : Nat}, findP L p.1 p.2 = some b → (p, b) ∈ L
  | [], p, b, h => by simp [findP] at h
  | e :: r, p, b, h => by
    unfold findP at h
    split at h
    · rename_i hc
      cases h
      have : e.1 = p := Prod.ext (by omega) (by omega)
      simp [← this]
    · exact List.mem_cons_of_mem _ (findP_some h)
theorem findP_none : ∀ {L : List ((Nat × Nat) × Nat)} {p : Nat × Nat}, findP L p.1 p.2 = none ↔ p ∉ L.map (·.1)
  | [], p => by simp [findP]
  | e :: r, p => by
    unfold findP
    by_cases hc : (e.1.1 : Int) = p.1 ∧ (e.1.2 : Int) = p.2
    · have : e.1 = p := Prod.ext (by omega) (by omega)
      rw [if_pos hc]; simp [this]
    · have : e.1 ≠ p := fun h => hc (by rw [h]; exact ⟨rfl, rfl⟩)
      rw [if_neg hc, findP_none]; simp [Ne.symm this]

/-- w' is w but for the blocks of S and new ones. -/
structure Kept (w w' : World) (S : Nat → Prop) : Prop where
  os : w'.os = w.os
  tape : w'.tape = w.tape
  output : w'.output = w.output
  size : w.heap.size ≤ w'.heap.size
  block : ∀ k, k < w.heap.size → ¬ S k → w'.heap[k]? = w.heap[k]?
theorem Kept.refl (w : World) (S : Nat → Prop) : Kept w w S := ⟨rfl, rfl, rfl, Nat.le_refl _, fun _ _ _ => rfl⟩
theorem Kept.trans {a b c : World} {S : Nat → Prop} (h : Kept a b S) (k : Kept b c S) : Kept a c S :=
  ⟨k.os.trans h.os, k.tape.trans h.tape, k.output.trans h.output, Nat.le_trans h.size k.size, fun i hi hs => (k.block i (Nat.lt_of_lt_of_le hi h.size) hs).trans (h.block i hi hs)⟩
theorem Kept.mono {a b : World} {S T : Nat → Prop} (h : Kept a b S) (hT : ∀ k, k < a.heap.size → S k → T k) : Kept a b T := ⟨h.os, h.tape, h.output, h.size, fun i hi hs => h.block i hi fun h2 => hs (hT i hi h2)⟩
theorem Kept.of_grown {a b : World} {row : Option Nat} (h : a.grownBy b row) : Kept a b fun k => some k = row := ⟨h.os, h.tape, h.output, h.size, fun k hk hs => h.block k hk hs⟩
theorem Kept.of_alloc (a : World) (o : Obj) (S : Nat → Prop) : Kept a (a.alloc o) S := ⟨rfl, rfl, rfl, by simp, fun k hk _ => Below.heap_alloc _ _ _ hk⟩
theorem Kept.of_set (a : World) (p : Addr) (v : Value) : Kept a (a.setCell p v) fun k => k = p.block := ⟨rfl, rfl, rfl, by simp [World.setCell], fun k _ hs => Below.heap_setCell _ _ _ _ hs⟩
theorem Kept.of_drewN (a : World) (n : Nat) (S : Nat → Prop) : Kept a (a.drewN n) S := ⟨rfl, rfl, rfl, Nat.le_refl _, fun _ _ _ => rfl⟩
theorem Kept.below {a b : World} {S : Nat → Prop} {B : Nat} (h : Kept a b S) (hS : ∀ k, S k → B ≤ k) (hB : B ≤ a.heap.size) : Below B a b :=
  ⟨h.os, h.tape, h.output, h.size, fun k hk => h.block k (by omega) fun hs => by have := hS k hs; omega⟩

theorem owns_block {w w' : World} {base : Nat} {e : TypeId} {size : Nat} {v : Value} {n : Nat} {xs : List Value} (h : w.ownsRow base e size v n xs) (hg : ∀ k, v.ownBlock = some k → w'.heap[k]? = w.heap[k]?) : w'.ownsRow base e size v n xs := by
  refine ⟨h.1, ?_⟩
  rcases h.2 with h2 | ⟨g, cap, cur, hv, hb, hh, hr⟩
  · exact .inl h2
  · refine .inr ⟨g, cap, cur, hv, hb, ?_, hr⟩
    rw [hg g (by rw [hv]; rfl)]; exact hh
theorem owns_type {w : World} {base : Nat} {e : TypeId} {size : Nat} {v : Value} {n : Nat} {xs : List Value} (h : w.ownsRow base e size v n xs) {k : Nat} (hk : v.ownBlock = some k) : base ≤ k ∧ ∃ cur, w.heap[k]? = some (.cells cur e (0, 0)) := by
  rcases h.2 with ⟨rfl, _⟩ | ⟨g, cap, cur, rfl, hb, hh, _⟩
  · cases hk
  · simp [Value.ownBlock] at hk; subst hk; exact ⟨hb, cur, hh⟩

/-- A Tally in memory. N: its names; L: the pairs and where their outcomes lie; f: what the outcomes' scores come to. -/
structure Tal (w : World) (base gt bi bp : Nat) (v : Value) (N : List ByteArray) (L : List ((Nat × Nat) × Nat)) (f : Nat × Nat → Option Nat × Option Nat) (cnt : Nat) : Prop where
  blk : w.heap[gt]? = some (.cells #[.map (some bi), v, .map (some bp)] 51 (0, 0))
  row : w.ownsRow base 9 1 v N.length (N.map Value.string)
  idx : MapOf w 9 (plainElem Trym.prog 3) bi cnt N.length (gI N)
  prs : MapOf w 73 ptrR bp cnt L.length (gP L)
  out : ∀ e ∈ L, ∃ fa fb, w.heap[e.2]? = some (.cells #[.float .f64 fa, .float .f64 fb] 75 (0, 0)) ∧ fl (f e.1).1 fa ∧ fl (f e.1).2 fb
  dist : (L.map (·.2)).Nodup
  ne : bi ≠ bp
  lo : base ≤ gt ∧ base ≤ bi ∧ base ≤ bp ∧ ∀ e ∈ L, base ≤ e.2

section
variable {w : World} {base gt bi bp : Nat} {v : Value} {N : List ByteArray} {L : List ((Nat × Nat) × Nat)} {f : Nat × Nat → Option Nat × Option Nat} {cnt : Nat}
theorem Tal.c0 (h : Tal w base gt bi bp v N L f cnt) : w.cell? ⟨gt, 0, none⟩ = some (.map (some bi)) := by rw [cell_of_row w gt 0 _ 51 (0, 0) h.blk]; rfl
theorem Tal.c1 (h : Tal w base gt bi bp v N L f cnt) : w.cell? ⟨gt, 1, none⟩ = some v := by rw [cell_of_row w gt 1 _ 51 (0, 0) h.blk]; rfl
theorem Tal.c2 (h : Tal w base gt bi bp v N L f cnt) : w.cell? ⟨gt, 2, none⟩ = some (.map (some bp)) := by rw [cell_of_row w gt 2 _ 51 (0, 0) h.blk]; rfl
theorem Tal.gt_bi (h : Tal w base gt bi bp v N L f cnt) : gt ≠ bi := fun e => by
  obtain ⟨es, c, hm⟩ := h.idx.ismap
  have := h.blk
  rw [e, hm] at this; cases this
theorem Tal.gt_bp (h : Tal w base gt bi bp v N L f cnt) : gt ≠ bp := fun e => by
  obtain ⟨es, c, hm⟩ := h.prs.ismap
  have := h.blk
  rw [e, hm] at this; cases this
theorem Tal.row_gt (h : Tal w base gt bi bp v N L f cnt) : v.ownBlock ≠ some gt := fun e => by
  obtain ⟨_, cur, hc⟩ := owns_type h.row e
  rw [h.blk] at hc
  simp at hc
theorem Tal.row_bi (h : Tal w base gt bi bp v N L f cnt) : v.ownBlock ≠ some bi := fun e => by
  obtain ⟨_, cur, hc⟩ := owns_type h.row e
  obtain ⟨es, c, hm⟩ := h.idx.ismap
  rw [hm] at hc; cases hc
theorem Tal.row_bp (h : Tal w base gt bi bp v N L f cnt) : v.ownBlock ≠ some bp := fun e => by
  obtain ⟨_, cur, hc⟩ := owns_type h.row e
  obtain ⟨es, c, hm⟩ := h.prs.ismap
  rw [hm] at hc; cases hc
/-- Blocks of the call's that are none of a Tally's: of another type. -/
theorem Tal.out_ne (h : Tal w base gt bi bp v N L f cnt) {e : (Nat × Nat) × Nat} (he : e ∈ L) : e.2 ≠ gt ∧ e.2 ≠ bi ∧ e.2 ≠ bp ∧ v.ownBlock ≠ some e.2 := by
  obtain ⟨fa, fb, hb, _⟩ := h.out e he
  refine ⟨fun q => ?_, fun q => ?_, fun q => ?_, fun q => ?_⟩
  · have := h.blk; rw [← q, hb] at this; simp at this
  · obtain ⟨es, c, hm⟩ := h.idx.ismap; rw [← q, hb] at hm; cases hm
  · obtain ⟨es, c, hm⟩ := h.prs.ismap; rw [← q, hb] at hm; cases hm
  · obtain ⟨_, cur, hc⟩ := owns_type h.row q
    rw [hb] at hc; simp at hc
theorem Tal.same {w' : World} (h : Tal w base gt bi bp v N L f cnt) (hb : ∀ k, k < w.heap.size → w'.heap[k]? = w.heap[k]?) : Tal w' base gt bi bp v N L f cnt where
  blk := (hb _ (heap_lt h.blk)).trans h.blk
  row := owns_block h.row fun k hk => hb k (by obtain ⟨_, cur, hc⟩ := owns_type h.row hk; exact heap_lt hc)
  idx := h.idx.block (hb _ h.idx.lt)
  prs := h.prs.block (hb _ h.prs.lt)
  out := fun e he => by obtain ⟨fa, fb, q, r⟩ := h.out e he; exact ⟨fa, fb, (hb _ (heap_lt q)).trans q, r⟩
  dist := h.dist
  ne := h.ne
  lo := h.lo
theorem Tal.below {w' : World} (h : Tal w base gt bi bp v N L f cnt) (hb : Below w.heap.size w w') : Tal w' base gt bi bp v N L f cnt := h.same fun k hk => hb.block k hk
theorem Tal.mono {cnt' : Nat} (h : Tal w base gt bi bp v N L f cnt) (hc : cnt ≤ cnt') : Tal w base gt bi bp v N L f cnt' :=
  { h with
    idx := by obtain ⟨D, h1, h2⟩ := h.idx; exact ⟨D, h1.mono hc, h2⟩
    prs := by obtain ⟨D, h1, h2⟩ := h.prs; exact ⟨D, h1.mono hc, h2⟩ }
end

end Go.Proofs.Qxb6605581aMods
