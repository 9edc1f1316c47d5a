import Derived.Test.Qxb6605581aModsBase
import Derived.Maps.OwnSet
import Derived.DeepKeys4
namespace Go.Proofs.Qxb6605581aMods
open Go.RowKit Go.Maps

/-- BLOCK b IS A MAP OF cnt ENTRIES (at most n) THAT HOLDS AT EACH KEY WHAT g SAYS. -/
def MapOf (w : World) (k : TypeId) (R : Value → Option (DataW Unit × List MemPlace)) (b n cnt : Nat) (g : Value → Option Value) : Prop :=
  ∃ D : DataW Unit, w.ownsMap Trym.prog k R b n D ∧ Tidy D ∧ Maps.size D = cnt ∧ ∀ key kl, keyOf Trym.prog k key = some kl → Maps.has D kl = (g key).isSome ∧ ∀ v, g key = some v → ∃ d ps, R v = some (d, ps) ∧ ∀ z, D.atKey kl z = d

section
variable {w w' : World} {k : TypeId} {R : Value → Option (DataW Unit × List MemPlace)} {b n cnt : Nat} {g : Value → Option Value}

theorem mapOf_made (w : World) (k : TypeId) (R : Value → Option (DataW Unit × List MemPlace)) (g : Value → Option Value) (hg : ∀ key kl, keyOf Trym.prog k key = some kl → g key = none) : MapOf (w.alloc (.map #[] 0)) k R w.heap.size 0 0 g :=
  ⟨.map [], World.ownsMap_made _ _ _ _, tidy_empty, rfl, fun key kl hk => ⟨by rw [hg key kl hk]; rfl, fun v hv => by rw [hg key kl hk] at hv; cases hv⟩⟩
theorem MapOf.kept {row : Option Nat} (h : MapOf w k R b n cnt g) (hg : w.grownBy w' row) (hne : some b ≠ row) : MapOf w' k R b n cnt g := by
  obtain ⟨D, h1, h2⟩ := h
  exact ⟨D, h1.kept hg hne, h2⟩
theorem MapOf.block (h : MapOf w k R b n cnt g) (hb : w'.heap[b]? = w.heap[b]?) : MapOf w' k R b n cnt g := by
  obtain ⟨D, ⟨es, clock, hh, h1⟩, h2⟩ := h
  exact ⟨D, ⟨es, clock, hb.trans hh, h1⟩, h2⟩
theorem MapOf.lt (h : MapOf w k R b n cnt g) : b < w.heap.size := by obtain ⟨D, h1, _⟩ := h; exact h1.lt
theorem MapOf.ismap (h : MapOf w k R b n cnt g) : ∃ es clock, w.heap[b]? = some (.map es clock) := by obtain ⟨D, ⟨es, clock, hh, _⟩, _⟩ := h; exact ⟨es, clock, hh⟩

theorem MapOf.look {t e : TypeId} {z : Value} (h : MapOf w k R b n cnt g) (K : Keyed Trym.prog k) (ht : Trym.prog.underlying t = some (.map k e)) (hz : (zeroValue e).run Trym.prog w = .ok z w)
    (inj : ∀ u v x y, R u = some x → R v = some y → x.1 = y.1 → u = v) {key : Value} {kl : Lit} (hkey : keyOf Trym.prog k key = some kl) :
    (Instr.lookup t (.map (some b)) key true).run Trym.prog w = .ok (.tuple #[(g key).getD z, .bool (g key).isSome]) w := by
  obtain ⟨D, ⟨es, clock, hb, F, _, rfl⟩, _, _, hg⟩ := h
  obtain ⟨h1, h2⟩ := hg key kl hkey
  rcases Maps.fit_look true K ht hz hb F hkey with ⟨hrun, _, hat⟩ | ⟨e0, y, _, _, hrun, hRv, hat, _⟩
  · have := has_false_of_atKey hat
    rw [h1] at this
    rw [hrun]
    cases hgk : g key with
    | none => rfl
    | some v => rw [hgk] at this; cases this
  · have := has_true_of_atKey hat
    rw [h1] at this
    rw [hrun]
    cases hgk : g key with
    | none => rw [hgk] at this; cases this
    | some v =>
      obtain ⟨d, ps, hR, hd⟩ := h2 v hgk
      have e : e0.val = v := inj _ _ _ _ hRv hR ((hat (.nil)).symm.trans (hd (.nil)))
      simp [e]

theorem MapOf.put {t e : TypeId} (h : MapOf w k R b n cnt g) (K : Keyed Trym.prog k) (ht : Trym.prog.underlying t = some (.map k e)) (hn : n < maxLen) {key val : Value} {kl : Lit} {d : DataW Unit} {ps : List MemPlace}
    (hkey : keyOf Trym.prog k key = some kl) (hv : R val = some (d, ps)) (g' : Value → Option Value) (h1 : g' key = some val) (h2 : ∀ key' kl', keyOf Trym.prog k key' = some kl' → key' ≠ key → g' key' = g key') :
    ∃ w', (Instr.mapUpdate t (.map (some b)) key val).run Trym.prog w = .ok () w' ∧ MapOf w' k R b (n + 1) (if (g key).isSome then cnt else cnt + 1) g' ∧ w.grownBy w' (some b) := by
  obtain ⟨D, hown, hT, hs, hg⟩ := h
  obtain ⟨w', hrun, hown', hgrow⟩ := hown.update K ht hn hkey hv
  refine ⟨w', hrun, ⟨_, hown', hT.put (K.key hkey) d, ?_, fun key' kl' hk' => ?_⟩, hgrow⟩
  · rw [size_put hT, (hg key kl hkey).1, hs]
  · by_cases e : kl' = kl
    · subst e
      have : key' = key := K.inj hk' hkey
      subst this
      refine ⟨by rw [has_put_same hT.isMap (K.key hkey), h1]; rfl, fun v hv' => ?_⟩
      rw [h1] at hv'
      cases hv'
      exact ⟨d, ps, hv, fun z => atKey_put_same hT.isMap (K.key hkey) d z⟩
    · have hne : key' ≠ key := fun e2 => e (by rw [e2, hkey] at hk'; exact (Option.some.inj hk').symm)
      obtain ⟨q1, q2⟩ := hg key' kl' hk'
      rw [h2 key' kl' hk' hne]
      refine ⟨by rw [has_put_other e]; exact q1, fun v hv' => ?_⟩
      obtain ⟨d', ps', hR, hd⟩ := q2 v hv'
      exact ⟨d', ps', hR, fun z => by rw [atKey_put_other e]; exact hd z⟩
end

/-! ### The two maps of a Tally -/
theorem idxR_inj : ∀ (u v : Value) (x y : DataW Unit × List MemPlace), plainElem Trym.prog 3 u = some x → plainElem Trym.prog 3 v = some y → x.1 = y.1 → u = v := by
  intro u v x y hu hv e
  obtain ⟨a, rfl, rfl, _⟩ := plainElem_int_inv Trym.underlying3 hu
  obtain ⟨c, rfl, rfl, _⟩ := plainElem_int_inv Trym.underlying3 hv
  simp only [DataW.lit.injEq, Lit.int.injEq, true_and] at e
  rw [e]
/-- A pointer to a block's head, read as the block's number. -/
def ptrR : Value → Option (DataW Unit × List MemPlace)
  | .pointer (some ⟨b, 0, none⟩) => some (.lit (.int .i64 b), [])
  | _ => none
theorem ptrR_mk (b : Nat) : ptrR (.pointer (some ⟨b, 0, none⟩)) = some (.lit (.int .i64 b), []) := rfl
theorem ptrR_inj : ∀ u v x y, ptrR u = some x → ptrR v = some y → x.1 = y.1 → u = v := by
  intro u v x y hu hv e
  unfold ptrR at hu hv
  split at hu
  · split at hv
    · cases hu; cases hv
      rename_i b1 _ b2
      simp at e
      obtain rfl : b1 = b2 := by omega
      rfl
    · cases hv
  · cases hu

theorem keyed9 : Keyed Trym.prog 9 := string_keyed Trym.underlying9
theorem laid' : laidOutB Trym.prog = true := by kernel_rfl
theorem keyed73 : Keyed Trym.prog 73 := Keyed.of_law (deep_law_laid laid' (m := 5) (by omega) (k := 73) (of_decide_eq_true (by kernel_rfl)) (by kernel_rfl) (by kernel_rfl))
abbrev pairV (p : Nat × Nat) : Value := .agg #[.int .i64 p.1, .int .i64 p.2]
theorem tsz : (decide (1 ≤ Trym.prog.types.size)) = true := by kernel_rfl

theorem keyOf_ints {P : Program} {t s : TypeId} {f0 f1 : Field} (ut : P.underlying t = some (.struct #[f0, f1])) (us : P.underlying s = some (.int .i64)) (h0 : f0.type = s) (h1 : f1.type = s) (o0 : f0.offset = 0) (o1 : f1.offset = 1)
    (n0 : (f0.name != "_") = true) (n1 : (f1.name != "_") = true) (kt : P.keyType t = true) (ct : P.cellsOf t = 2) (cs : P.cellsOf s = 1) (sz : 1 ≤ P.types.size) (a b : Int) (ha : (Lit.int .i64 a).wf = true) (hb : (Lit.int .i64 b).wf = true) :
    ∃ kl, keyOf P t (.agg #[.int .i64 a, .int .i64 b]) = some kl := by
  obtain ⟨n, e⟩ : ∃ n, P.types.size = n + 1 := ⟨P.types.size - 1, by omega⟩
  unfold keyOf
  rw [ut, e]
  simp only [kt, Value.formed, ut]
  simp [Program.keyLits, ut, us, ct, cs, Value.cells, h0, h1, o0, o1, ha, hb, n0, n1]

theorem pairKey (p : Nat × Nat) (ha : p.1 ≤ 131072) (hb : p.2 ≤ 131072) : ∃ kl, keyOf Trym.prog 73 (pairV p) = some kl :=
  keyOf_ints Trym.underlying73 Trym.underlying3 rfl rfl rfl rfl (by decide) (by decide) (by kernel_rfl) (by kernel_rfl) (by kernel_rfl) (of_decide_eq_true tsz) p.1 p.2 (WalkArith.wf_i64 (by omega)) (WalkArith.wf_i64 (by omega))
theorem strKey (s : ByteArray) (h : s.size ≤ maxLen) : ∃ kl, keyOf Trym.prog 9 (.string s) = some kl := ⟨.string s.data.toList, by simp [keyOf, Trym.underlying9, mapKey, h]⟩

end Go.Proofs.Qxb6605581aMods
