import Derived.Test.Qxb6600884aModsMiss4
import Derived.Test.Qxb6600884aModsFinds
namespace Go.Proofs.Qxb6600884aMods
open Go.ChangeShapes Go.WideShapes Go.ChangeAt Go.RowKit Go.Joins
open Go.ChangeMaps (open_string shut_string)
set_option linter.unusedVariables false

theorem strs_at {w : World} {a : Addr} {ss : List ByteArray} (h : ∀ i, i < ss.length → w.cell? (a.add i) = some (.string (ss.getD i ByteArray.empty))) (h0 : 0 < ss.length) : ∃ b off, a = ⟨b, off, none⟩ ∧ ∀ i, i < ss.length → w.cell? ⟨b, off + i, none⟩ = some (.string (ss.getD i ByteArray.empty)) := by
  obtain ⟨b, off, spot⟩ := a
  have hspot : spot = none := by simpa [Addr.add] using World.cell?_spot (h 0 h0)
  subst hspot
  exact ⟨b, off, rfl, fun j hj => by rw [← Go.WideShapes.add_plain]; exact h j hj⟩

theorem open_strs {H : Type} {enc : TypeId × Value → H} {w : World} {b0 : Nat} {held : Bool} {r : Reach} {v : Value} {d : DataW H} {p : List MemPlace} (hv : Value.okWide Trym.prog w r b0 22 v) (h : DataW.Trod enc Trym.prog w 0 (fun _ => true) held 22 v d p) :
    ∃ (a : Option Addr) (n cap : Nat) (ss : List ByteArray), v = .slice a n cap ∧ IsStrs w a n ss := by
  obtain ⟨a, n, cap, rfl⟩ := okWide_slice Trym.underlying22 hv
  obtain ⟨fuel, hf⟩ := h
  have e0 : ByteArray.empty.size ≤ maxLen := by decide
  rcases open_strings Trym.underlying22 Trym.underlying9 (by kernel_rfl) hf with ⟨hcs, _⟩ | ⟨x, l, c, ss, hcs, _, hl, hm, hz, _, hcell, hwz⟩
  · simp [Value.cells] at hcs
    obtain ⟨rfl, rfl, rfl⟩ := hcs
    exact ⟨none, 0, 0, [], rfl, rfl, by unfold maxLen; omega, fun i hi => by omega, fun b off e => (by cases e), fun i => by simp⟩
  · simp [Value.cells] at hcs
    obtain ⟨rfl, rfl, rfl⟩ := hcs
    simp only [if_true] at hz
    have hg : ∀ i, i < n → (ss.take n).getD i ByteArray.empty = ss.getD i ByteArray.empty := fun i hi => by
      rw [List.getD_eq_getElem?_getD, List.getElem?_take_of_lt hi, List.getD_eq_getElem?_getD]
    refine ⟨_, n, cap, ss.take n, rfl, by rw [List.length_take, hz]; omega, Nat.le_trans hl hm, fun i hi => ?_, fun b off e i hi => ?_, fun i => ?_⟩
    · obtain ⟨b, off, rfl, _⟩ := strs_at hcell (by omega)
      exact ⟨b, off, rfl⟩
    · cases e
      rw [hg i hi, ← Go.WideShapes.add_plain]
      exact hcell i (by omega)
    · by_cases hi : i < n
      · rw [hg i hi, List.getD_eq_getElem?_getD, List.getElem?_eq_getElem (by omega)]
        exact hwz _ (List.getElem_mem _)
      · rw [List.getD_eq_getElem?_getD, List.getElem?_eq_none (by rw [List.length_take]; omega)]
        exact e0

namespace fnMissingFromSplitsAllInTwo

set_option maxRecDepth 100000 in
theorem lifted (os : Os) (started : os.Started) (H : Type) (enc : TypeId × Value → H) :
    ReturnsInHanded {} Trym.checked os 3 .any (Rows.fnMissingFromSplitsAllInTwoSpec.pre6 enc Trym.prog Trym.f3 Rows.fnMissingFromSplitsAllInTwoRow.domain false) (Rows.fnMissingFromSplitsAllInTwoSpec.post enc Trym.prog Trym.f3 false true false false) := by
  refine returnsInHanded_of_change (C := Trym.checked) own started (by kernel_rfl) Trym.func3
    (ChangeSpec.witness6 (enc := enc) (C := Trym.checked) false ⟨#[], #[.slice none 0 0, .slice none 0 0, .slice none 0 0, .slice none 0 0], []⟩ 8 (by kernel_rfl) (by kernel_rfl) (by kernel_rfl) (by kernel_rfl)) ?_
  intro W base args ds gs before hval0 hW hcnd _
  have hval : ∀ (j : Nat) t v, Trym.f3.params[j]? = some t → args[j]? = some v → Value.okWide Trym.prog W .any base t v := hval0
  have hW' := hW
  obtain ⟨p, q, hA0, hV, rfl, hfz, hnd⟩ := hW
  have hA : DataW.TrodAll enc Trym.prog W 0 (fun _ => true) true Trym.f3.params.toList args.toList ds p := hA0
  rw [Trym.params3] at hA hval
  obtain ⟨v0, vs0, d0, ds0, p0, q0, hargs, rfl, rfl, h0, r0⟩ := trodAll_cons hA
  obtain ⟨v1, vs1, d1, ds1, p1, q1, rfl, rfl, rfl, h1, r1⟩ := trodAll_cons r0
  obtain ⟨v2, vs2, d2, ds2, p2, q2, rfl, rfl, rfl, h2, r2⟩ := trodAll_cons r1
  obtain ⟨v3, vs3, d3, ds3, p3, q3, rfl, rfl, rfl, h3, r3⟩ := trodAll_cons r2
  obtain ⟨rfl, rfl, rfl⟩ := trodAll_nil r3
  obtain rfl : args = #[v0, v1, v2, v3] := by cases args; simp_all
  obtain ⟨rfl, rfl⟩ := trodVars_none hV
  have lt0 : ∀ x ∈ p0, x.block < W.heap.size := by obtain ⟨m, hm⟩ := h0; exact DataW.trod_lt m _ _ _ hm
  have lt1 : ∀ x ∈ p1, x.block < W.heap.size := by obtain ⟨m, hm⟩ := h1; exact DataW.trod_lt m _ _ _ hm
  have lt2 : ∀ x ∈ p2, x.block < W.heap.size := by obtain ⟨m, hm⟩ := h2; exact DataW.trod_lt m _ _ _ hm
  have lt3 : ∀ x ∈ p3, x.block < W.heap.size := by obtain ⟨m, hm⟩ := h3; exact DataW.trod_lt m _ _ _ hm
  obtain ⟨a0, n0, cap0, s0, rfl, w0⟩ := open_strs (hval 0 22 v0 rfl rfl) h0
  obtain ⟨a1, n1, cap1, s1, rfl, w1⟩ := open_strs (hval 1 22 v1 rfl rfl) h1
  obtain ⟨a2, n2, cap2, s2, rfl, w2⟩ := open_strs (hval 2 22 v2 rfl rfl) h2
  obtain ⟨a3, n3, cap3, s3, rfl, w3⟩ := open_strs (hval 3 22 v3 rfl rfl) h3
  clear hA0 hval0
  refine (law3 a0 n0 cap0 s0 a1 n1 cap1 s1 a2 n2 cap2 s2 a3 n3 cap3 s3 W w0 w1 w2 w3).mono fun e W' ⟨he, bel⟩ => ?_
  subst he
  exact ⟨_, rfl, _, _, _, [], _, [], hW', trodAll_mk1 (shut_bool Trym.underlying4 _), (trodAll_cons_mk (Below.trod laidOut (by kernel_rfl) (of_decide_eq_true (by kernel_rfl)) h0 bel lt0) (trodAll_cons_mk (Below.trod laidOut (by kernel_rfl) (of_decide_eq_true (by kernel_rfl)) h1 bel lt1) (trodAll_cons_mk (Below.trod laidOut (by kernel_rfl) (of_decide_eq_true (by kernel_rfl)) h2 bel lt2) (trodAll_cons_mk (Below.trod laidOut (by kernel_rfl) (of_decide_eq_true (by kernel_rfl)) h3 bel lt3) trodAll_mk0)))), rfl, bel.frame _, fun h => by cases h⟩

theorem over : Rows.fnMissingFromSplitsAllInTwoRow.holds Trym.pinned (OpenSpec.ofChange Rows.fnMissingFromSplitsAllInTwoSpec) :=
  OpenClaim.holds_of_wide 3 Trym.f3 rfl rfl rfl rfl rfl rfl rfl ⟨rfl, rfl, rfl, rfl, rfl⟩ rfl rfl rfl rfl rfl (by kernel_rfl) Trym.func3 (by kernel_rfl)
    (of_decide_eq_true (by kernel_rfl)) (by unfold Func.isWrapper; first | (rw [if_pos (by decide +kernel)]; kernel_rfl) | (rw [if_neg (by decide +kernel)]; exact ⟨rfl, rfl⟩))
    (fun os started H enc _ => lifted os started H enc)

theorem proved : Rows.FnMissingFromSplitsAllInTwoSaid := over

end fnMissingFromSplitsAllInTwo
end Go.Proofs.Qxb6600884aMods
