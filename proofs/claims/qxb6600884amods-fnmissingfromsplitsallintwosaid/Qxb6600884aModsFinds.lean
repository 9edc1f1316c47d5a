import Derived.Test.Qxb6600884aModsCmp2
import Derived.ProofKit
import Derived.OpenShut
import Derived.ShutString
import Derived.ChangeOld
import Derived.Below
import Derived.Lib.SmallJoins
namespace Go.Proofs.Qxb6600884aMods
open Go.ChangeShapes Go.WideShapes Go.ChangeAt Go.RowKit Go.Joins
open Go.ChangeMaps (open_string shut_string)
set_option linter.unusedVariables false

theorem own : ownKnob Trym.prog.godebug = none := by kernel_rfl
theorem laidOut : laidOutB Trym.prog = true := by kernel_rfl
theorem Trym.cells34 : Trym.prog.cellsOf 34 = 5 := by kernel_rfl

theorem array5 {α : Type} {cs : Array α} (h : cs.size = 5) : ∃ c0 c1 c2 c3 c4, cs = #[c0, c1, c2, c3, c4] := by
  obtain ⟨l⟩ := cs
  match l, h with
  | [c0, c1, c2, c3, c4], _ => exact ⟨c0, c1, c2, c3, c4, rfl⟩

section
variable {H : Type} {enc : TypeId × Value → H} {w : World} {base : Nat} {spare : Nat → Bool} {held : Bool}

/-- An Entry that came in: its five fields. -/
theorem open_entry {r : Reach} {b0 : Nat} {v : Value} {d : DataW H} {p : List MemPlace} (hv : Value.okWide Trym.prog w r b0 34 v) (h : DataW.Trod enc Trym.prog w base spare held 34 v d p) :
    ∃ (p t : ByteArray) (m : Int) (h g : ByteArray), v = ent p t m h g ∧ p.size ≤ maxLen ∧ t.size ≤ maxLen ∧ h.size ≤ maxLen ∧ g.size ≤ maxLen := by
  obtain ⟨cs, rfl, hsz⟩ := okWide_struct Trym.underlying34 hv
  obtain ⟨c0, c1, c2, c3, c4, rfl⟩ := array5 (hsz.trans Trym.cells34)
  obtain ⟨fuel, hf⟩ := h
  obtain ⟨xs, n, _, hx, hl, hlen, hfl⟩ := DataW.trod_struct Trym.underlying34 hf
  match xs, hlen with
  | [y0, y1, y2, y3, y4], _ =>
    have f0 := hfl 0 _ rfl
    have f1 := hfl 1 _ rfl
    have f2 := hfl 2 _ rfl
    have f3 := hfl 3 _ rfl
    have f4 := hfl 4 _ rfl
    have k9 : Trym.prog.cellsOf 9 = 1 := by kernel_rfl
    have k32 : Trym.prog.cellsOf 32 = 1 := by kernel_rfl
    simp [Value.cells, k9, k32] at f0 f1 f2 f3 f4
    obtain ⟨s0, e0, _, z0⟩ := DataW.trod_string Trym.underlying9 f0
    obtain ⟨s1, e1, _, z1⟩ := DataW.trod_string Trym.underlying9 f1
    obtain ⟨s2, e2, _, z2⟩ := DataW.trod_int Trym.underlying32 f2
    obtain ⟨s3, e3, _, z3⟩ := DataW.trod_string Trym.underlying9 f3
    obtain ⟨s4, e4, _, z4⟩ := DataW.trod_string Trym.underlying9 f4
    simp at e0 e1 e2 e3 e4
    subst e0 e1 e2 e3 e4
    exact ⟨s0, s1, s2, s3, s4, rfl, z0, z1, z3, z4⟩
end

namespace fnCompareFindsNothingExactlyWhenAlike

set_option maxRecDepth 100000 in
theorem lifted (os : Os) (started : os.Started) (H : Type) (enc : TypeId × Value → H) :
    ReturnsInHanded {} Trym.checked os 6 .any (Rows.fnCompareFindsNothingExactlyWhenAlikeSpec.pre6 enc Trym.prog Trym.f6 Rows.fnCompareFindsNothingExactlyWhenAlikeRow.domain false) (Rows.fnCompareFindsNothingExactlyWhenAlikeSpec.post enc Trym.prog Trym.f6 false true false false) := by
  refine returnsInHanded_of_change (C := Trym.checked) own started (by kernel_rfl) Trym.func6
    (ChangeSpec.witness6 (enc := enc) (C := Trym.checked) false ⟨#[], #[.agg #[.string ByteArray.empty, .string ByteArray.empty, .int .u32 0, .string ByteArray.empty, .string ByteArray.empty], .agg #[.string ByteArray.empty, .string ByteArray.empty, .int .u32 0, .string ByteArray.empty, .string ByteArray.empty]], []⟩ 8 (by kernel_rfl) (by kernel_rfl) (by kernel_rfl) (by kernel_rfl)) ?_
  intro W base args ds gs before hval0 hW hcnd _
  have hval : ∀ (j : Nat) t v, Trym.f6.params[j]? = some t → args[j]? = some v → Value.okWide Trym.prog W .any base t v := hval0
  have hW' := hW
  obtain ⟨p, q, hA0, hV, rfl, hfz, hnd⟩ := hW
  have hA : DataW.TrodAll enc Trym.prog W 0 (fun _ => true) true Trym.f6.params.toList args.toList ds p := hA0
  rw [Trym.params6] at hA hval
  obtain ⟨v0, vs0, d0, ds0, p0, q0, hargs, rfl, rfl, h0, r0⟩ := trodAll_cons hA
  obtain ⟨v1, vs1, d1, ds1, p1, q1, rfl, rfl, rfl, h1, r1⟩ := trodAll_cons r0
  obtain ⟨rfl, rfl, rfl⟩ := trodAll_nil r1
  obtain rfl : args = #[v0, v1] := by cases args; simp_all
  obtain ⟨rfl, rfl⟩ := trodVars_none hV
  have lt0 : ∀ x ∈ p0, x.block < W.heap.size := by obtain ⟨m, hm⟩ := h0; exact DataW.trod_lt m _ _ _ hm
  have lt1 : ∀ x ∈ p1, x.block < W.heap.size := by obtain ⟨m, hm⟩ := h1; exact DataW.trod_lt m _ _ _ hm
  obtain ⟨xp, xt, xm, xh, xg, rfl, zp, zt, zh, zg⟩ := open_entry (hval 0 34 v0 rfl rfl) h0
  obtain ⟨yp, yt, ym, yh, yg, rfl, up, ut, uh, ug⟩ := open_entry (hval 1 34 v1 rfl rfl) h1
  clear hA0 hval0
  refine (law6 xp xt xh xg yp yt yh yg xm ym W _ _ _ _ _ rfl rfl rfl rfl rfl zp zt zh zg up ut uh ug).mono fun e W' ⟨he, bel⟩ => ?_
  subst he
  exact ⟨_, rfl, _, _, _, [], _, [], hW', trodAll_mk1 (shut_bool Trym.underlying4 _), (trodAll_cons_mk (Below.trod laidOut (by kernel_rfl) (of_decide_eq_true (by kernel_rfl)) h0 bel lt0) (trodAll_cons_mk (Below.trod laidOut (by kernel_rfl) (of_decide_eq_true (by kernel_rfl)) h1 bel lt1) trodAll_mk0)), rfl, bel.frame _, fun h => by cases h⟩

theorem over : Rows.fnCompareFindsNothingExactlyWhenAlikeRow.holds Trym.pinned (OpenSpec.ofChange Rows.fnCompareFindsNothingExactlyWhenAlikeSpec) :=
  OpenClaim.holds_of_wide 6 Trym.f6 rfl rfl rfl rfl rfl rfl rfl ⟨rfl, rfl, rfl, rfl, rfl⟩ rfl rfl rfl rfl rfl (by kernel_rfl) Trym.func6 (by kernel_rfl)
    (of_decide_eq_true (by kernel_rfl)) (by unfold Func.isWrapper; first | (rw [if_pos (by decide +kernel)]; kernel_rfl) | (rw [if_neg (by decide +kernel)]; exact ⟨rfl, rfl⟩))
    (fun os started H enc _ => lifted os started H enc)

theorem proved : Rows.FnCompareFindsNothingExactlyWhenAlikeSaid := over
end fnCompareFindsNothingExactlyWhenAlike
end Go.Proofs.Qxb6600884aMods
