import Derived.Test.Qxb6600884aModsCmp2
import Derived.Maps.OwnSet
import Derived.DeepKeys4
namespace Go.Proofs.Qxb6600884aMods
open Go.RowKit Go.Maps

/-- A Release: a name, a version. -/
abbrev rel (r : ByteArray × ByteArray) : Value := .agg #[.string r.1, .string r.2]

/-- Is r among rs? -/
def memB (rs : List (ByteArray × ByteArray)) (r : ByteArray × ByteArray) : Bool := rs.any fun x => decide (x.1 = r.1) && decide (x.2 = r.2)
theorem memB_iff {rs : List (ByteArray × ByteArray)} {r : ByteArray × ByteArray} : memB rs r = true ↔ r ∈ rs := by
  simp only [memB, List.any_eq_true, Bool.and_eq_true, decide_eq_true_eq]
  exact ⟨fun ⟨x, hx, h1, h2⟩ => (Prod.ext h1 h2 : x = r) ▸ hx, fun h => ⟨r, h, rfl, rfl⟩⟩
theorem memB_same (rs : List (ByteArray × ByteArray)) (r : ByteArray × ByteArray) : memB (rs ++ [r]) r = true := memB_iff.2 (by simp)
theorem memB_other (rs : List (ByteArray × ByteArray)) {r x : ByteArray × ByteArray} (h : r ≠ x) : memB (rs ++ [x]) r = memB rs r := by
  rw [Bool.eq_iff_iff, memB_iff, memB_iff]; simp [h]

theorem tsz : (decide (1 ≤ Trym.prog.types.size)) = true := by kernel_rfl
theorem laid' : laidOutB Trym.prog = true := by kernel_rfl

theorem keyOf_pair {P : Program} {t s : TypeId} {f0 f1 : Field} (ut : P.underlying t = some (.struct #[f0, f1])) (us : P.underlying s = some .string) (h0 : f0.type = s) (h1 : f1.type = s) (o0 : f0.offset = 0) (o1 : f1.offset = 1)
    (n0 : (f0.name != "_") = true) (n1 : (f1.name != "_") = true) (kt : P.keyType t = true) (ct : P.cellsOf t = 2) (cs : P.cellsOf s = 1) (sz : 1 ≤ P.types.size) (a b : ByteArray) (ha : a.size ≤ maxLen) (hb : b.size ≤ maxLen) :
    ∃ kl, keyOf P t (.agg #[.string a, .string b]) = some kl := by
  obtain ⟨n, e⟩ : ∃ n, P.types.size = n + 1 := ⟨P.types.size - 1, by omega⟩
  unfold keyOf
  rw [ut, e]
  simp only [kt, Value.formed, ut]
  simp [Program.keyLits, ut, us, ct, cs, Value.cells, h0, h1, o0, o1, ha, hb, n0, n1]

theorem relKey (r : ByteArray × ByteArray) (ha : r.1.size ≤ maxLen) (hb : r.2.size ≤ maxLen) : ∃ kl, keyOf Trym.prog 29 (rel r) = some kl :=
  keyOf_pair Trym.underlying29 Trym.underlying9 rfl rfl rfl rfl (by decide) (by decide) (by kernel_rfl) (by kernel_rfl) (by kernel_rfl) (of_decide_eq_true tsz) r.1 r.2 ha hb

theorem keyed29 : Keyed Trym.prog 29 := Keyed.of_law (deep_law_laid laid' (m := 5) (by omega) (k := 29) (of_decide_eq_true (by kernel_rfl)) (by kernel_rfl) (by kernel_rfl))

/-- BLOCK B IS A map[Release]bool THAT HOLDS 'true' AT JUST THE RELEASES OF rs. -/
def HasSet (w : World) (B n : Nat) (rs : List (ByteArray × ByteArray)) : Prop :=
  ∃ D : DataW Unit, w.ownsMap Trym.prog 29 (plainElem Trym.prog 4) B n D ∧ IsMap D ∧ ∀ r kl, keyOf Trym.prog 29 (rel r) = some kl → D.atKey kl (.lit (.bool false)) = .lit (.bool (memB rs r))

theorem hasSet_made (w : World) : HasSet (w.alloc (.map #[] 0)) w.heap.size 0 [] :=
  ⟨.map [], World.ownsMap_made _ _ _ _, isMap_empty, fun r kl _ => by simp [DataW.atKey, memB]⟩

theorem HasSet.kept {w w' : World} {B n : Nat} {rs : List (ByteArray × ByteArray)} {row : Option Nat} (h : HasSet w B n rs) (hg : w.grownBy w' row) (hne : some B ≠ row) : HasSet w' B n rs := by
  obtain ⟨D, h1, h2⟩ := h
  exact ⟨D, h1.kept hg hne, h2⟩
theorem HasSet.alloc {w : World} {B n : Nat} {rs : List (ByteArray × ByteArray)} (h : HasSet w B n rs) (o : Obj) : HasSet (w.alloc o) B n rs := h.kept (World.grownBy_alloc w o none) (by simp)
theorem HasSet.mono {w : World} {B n n' : Nat} {rs : List (ByteArray × ByteArray)} (h : HasSet w B n rs) (hn : n ≤ n') : HasSet w B n' rs := by
  obtain ⟨D, h1, h2⟩ := h
  exact ⟨D, h1.mono hn, h2⟩

theorem plainElem_bool_inv {H : Type} {P : Program} {e : TypeId} (he : P.underlying e = some .bool) {v : Value} {z : DataW H × List MemPlace} (h : plainElem P e v = some z) : ∃ x, v = .bool x ∧ z = (.lit (.bool x), []) := by
  unfold plainElem at h
  rw [he] at h
  cases v <;> simp at h
  subst h
  exact ⟨_, rfl, rfl⟩

theorem HasSet.look {w : World} {B n : Nat} {rs : List (ByteArray × ByteArray)} (h : HasSet w B n rs) (r : ByteArray × ByteArray) (ha : r.1.size ≤ maxLen) (hb : r.2.size ≤ maxLen) :
    (Instr.lookup 48 (.map (some B)) (rel r) false).run Trym.prog w = .ok (.bool (memB rs r)) w := by
  obtain ⟨D, h1, _, h2⟩ := h
  obtain ⟨kl, hk⟩ := relKey r ha hb
  have hz : (zeroValue 4).run Trym.prog w = .ok (.bool false) w := by kernel_rfl
  obtain ⟨v, ps, hrun, hv⟩ := h1.lookup keyed29 Trym.underlying48 hz (plainElem_bool Trym.underlying4 false) hk
  obtain ⟨x, rfl, hx⟩ := plainElem_bool_inv Trym.underlying4 hv
  rw [h2 r kl hk] at hx
  simp only [Prod.mk.injEq, DataW.lit.injEq, Lit.bool.injEq] at hx
  rw [hrun, ← hx.1]

theorem HasSet.store {w : World} {B n : Nat} {rs : List (ByteArray × ByteArray)} (h : HasSet w B n rs) (r : ByteArray × ByteArray) (ha : r.1.size ≤ maxLen) (hb : r.2.size ≤ maxLen) (hn : n < maxLen) :
    ∃ w', (Instr.mapUpdate 48 (.map (some B)) (rel r) (.bool true)).run Trym.prog w = .ok () w' ∧ HasSet w' B (n + 1) (rs ++ [r]) ∧ w.grownBy w' (some B) := by
  obtain ⟨D, h1, hm, h2⟩ := h
  obtain ⟨kl, hk⟩ := relKey r ha hb
  obtain ⟨w', hrun, hown, hg⟩ := h1.update keyed29 Trym.underlying48 hn hk (plainElem_bool Trym.underlying4 true)
  refine ⟨w', hrun, ⟨_, hown, hm.put _ _, fun r' kl' hk' => ?_⟩, hg⟩
  by_cases e : kl' = kl
  · subst e
    have : rel r' = rel r := keyed29.inj hk' hk
    simp [rel] at this
    have e2 : r' = r := Prod.ext this.1 this.2
    rw [atKey_put_same hm (keyed29.key hk), e2, memB_same]
  · rw [atKey_put_other e, h2 r' kl' hk']
    have : r' ≠ r := fun e2 => e (by rw [e2, hk] at hk'; exact (Option.some.inj hk').symm)
    rw [memB_other _ this]

/-- 'held[r] = true' at the operation. -/
theorem wpList_set_store (w : World) {ops : Array Oper} {rest : List Oper} {o : Oper} {a : Act} {Q : Exit → Act → World → Prop}
    (hg : o.guard = none) (m x v : Operand) (hop : o.op = Op.mapUpdate 48 m x v) (B n : Nat) (rs : List (ByteArray × ByteArray)) (r : ByteArray × ByteArray)
    (hm : a.eval m = .map (some B)) (hx : a.eval x = rel r) (hv : a.eval v = .bool true) (h : HasSet w B n rs) (ha : r.1.size ≤ maxLen) (hb : r.2.size ≤ maxLen) (hn : n < maxLen)
    (hK : ∀ w', HasSet w' B (n + 1) (rs ++ [r]) → w.grownBy w' (some B) → wpList Trym.prog ops Q rest (a.put o.dst undef) w') :
    wpList Trym.prog ops Q (o :: rest) a w := by
  refine wpList_plain hg fun K' hK' => ?_
  obtain ⟨w', hrun, r1, r2⟩ := h.store r ha hb hn
  unfold Oper.wp
  simp [execOp, hop, hm, hx, hv, hrun, Result.andThen]
  exact hK' _ _ (hK w' r1 r2)

/-- 'held[r]' at the operation. -/
theorem wpList_set_look (w : World) {ops : Array Oper} {rest : List Oper} {o : Oper} {a : Act} {Q : Exit → Act → World → Prop}
    (hg : o.guard = none) (m x : Operand) (hop : o.op = Op.lookup 48 m x false) (B n : Nat) (rs : List (ByteArray × ByteArray)) (r : ByteArray × ByteArray)
    (hm : a.eval m = .map (some B)) (hx : a.eval x = rel r) (h : HasSet w B n rs) (ha : r.1.size ≤ maxLen) (hb : r.2.size ≤ maxLen)
    (hK : wpList Trym.prog ops Q rest (a.put o.dst (.bool (memB rs r))) w) :
    wpList Trym.prog ops Q (o :: rest) a w := by
  refine wpList_plain hg fun K' hK' => ?_
  have hrun := h.look r ha hb
  unfold Oper.wp
  simp [execOp, hop, hm, hx, hrun, Result.andThen]
  exact hK' _ _ hK

end Go.Proofs.Qxb6600884aMods
