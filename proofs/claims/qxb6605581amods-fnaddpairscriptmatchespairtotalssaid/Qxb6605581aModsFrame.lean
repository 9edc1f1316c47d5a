import Derived.Test.Qxb6605581aModsPlain
import Derived.Deep.Slices
import Derived.ProofKit
import Derived.OpenShut
import Derived.ShutString
import Derived.ChangeOld
import Derived.Below
import Derived.Lib.SmallJoins
namespace Go.Proofs.Qxb6605581aMods
open Go.ChangeShapes Go.WideShapes Go.ChangeAt Go.RowKit Go.Joins
open Go.ChangeMaps (open_string shut_string)
set_option linter.unusedVariables false

theorem own : ownKnob Trym.prog.godebug = none := by kernel_rfl
theorem laidOut : laidOutB Trym.prog = true := by kernel_rfl

theorem array4 {α : Type} {l : List α} (h : l.length = 4) : ∃ c0 c1 c2 c3, l = [c0, c1, c2, c3] := by
  match l, h with
  | [c0, c1, c2, c3], _ => exact ⟨c0, c1, c2, c3, rfl⟩
theorem Trym.cells46 : Trym.prog.cellsOf 46 = 4 := by kernel_rfl

section
variable {H : Type} {enc : TypeId × Value → H} {w : World} {b0 : Nat} {held : Bool} {r : Reach} {v : Value} {d : DataW H} {p : List MemPlace}

theorem trod_f64 {P : Program} {base : Nat} {spare : Nat → Bool} {fuel : Nat} {t : TypeId} {cs : List Value} {x : DataW H × List MemPlace} {k : FloatKind} (ht : P.underlying t = some (.float k)) (h : DataW.trod enc P w base spare held fuel t cs = some x) : ∃ n, cs = [.float k n] := by
  cases fuel with
  | zero => simp [DataW.trod] at h
  | succ n =>
    unfold DataW.trod at h
    rw [ht] at h
    split at h <;> simp_all

theorem open_calls (hv : Value.okWide Trym.prog w r b0 43 v) (h : DataW.Trod enc Trym.prog w 0 (fun _ => true) held 43 v d p) :
    ∃ (a : Option Addr) (n cap : Nat) (rs : List Cl), v = .slice a n cap ∧ IsCalls w a n rs := by
  obtain ⟨a, n, cap, rfl⟩ := okWide_slice Trym.underlying43 hv
  obtain ⟨fuel, hf⟩ := h
  rcases Go.Deep.open_slice Trym.underlying43 hf with ⟨hcs, _⟩ | ⟨x, l, c, m, q, D, Pl, hcs, _, hl, hm, hmm, _, hx⟩
  · simp [Value.cells] at hcs
    obtain ⟨rfl, rfl, rfl⟩ := hcs
    exact ⟨none, 0, 0, [], rfl, rfl, by unfold maxLen; omega, fun i hi => by omega, fun b off e => (by cases e), fun r hr => (by cases hr)⟩
  · simp [Value.cells] at hcs
    obtain ⟨rfl, rfl, rfl⟩ := hcs
    simp only [if_true] at hmm
    have each : ∀ i, i < n → ∃ q : ByteArray × ByteArray × Nat × Nat, (w.cell? (x.add (i * 4)) = some (.string q.1) ∧ w.cell? (x.add (i * 4 + 1)) = some (.string q.2.1) ∧ w.cell? (x.add (i * 4 + 2)) = some (.float .f64 q.2.2.1) ∧
        w.cell? (x.add (i * 4 + 3)) = some (.float .f64 q.2.2.2)) ∧ q.1.size ≤ maxLen ∧ q.2.1.size ≤ maxLen := by
      intro i hi
      obtain ⟨cs', h1, h2⟩ := hx i (by omega)
      rw [Trym.cells46] at h1
      obtain ⟨_, hlen, hcell⟩ := World.cells?_some h1
      obtain ⟨c0, c1, c2, c3, rfl⟩ := array4 hlen
      obtain ⟨xs, k, _, _, _, hxl, hfl⟩ := DataW.trod_struct Trym.underlying46 h2
      obtain ⟨y0, y1, y2, y3, rfl⟩ := array4 (l := xs) (by simpa using hxl)
      have f0 := hfl 0 _ rfl
      have f1 := hfl 1 _ rfl
      have f2 := hfl 2 _ rfl
      have f3 := hfl 3 _ rfl
      have k9 : Trym.prog.cellsOf 9 = 1 := by kernel_rfl
      have k24 : Trym.prog.cellsOf 24 = 1 := by kernel_rfl
      simp [k9, k24] at f0 f1 f2 f3
      obtain ⟨s0, e0, _, z0⟩ := DataW.trod_string Trym.underlying9 f0
      obtain ⟨s1, e1, _, z1⟩ := DataW.trod_string Trym.underlying9 f1
      obtain ⟨s2, e2⟩ := trod_f64 Trym.underlying24 f2
      obtain ⟨s3, e3⟩ := trod_f64 Trym.underlying24 f3
      simp at e0 e1 e2 e3
      subst e0 e1 e2 e3
      have g0 := hcell 0 (by omega)
      have g1 := hcell 1 (by omega)
      have g2 := hcell 2 (by omega)
      have g3 := hcell 3 (by omega)
      rw [Go.Deep.add_add] at g0 g1 g2 g3
      exact ⟨(s0, s1, s2, s3), ⟨by simpa using g0, by simpa using g1, by simpa using g2, by simpa using g3⟩, z0, z1⟩
    obtain ⟨q, hq⟩ := Go.Deep.choose_lt each
    refine ⟨_, n, cap, (List.range n).map fun i => ⟨(q i).1, (q i).2.1, (q i).2.2.1, (q i).2.2.2⟩, rfl, by simp, Nat.le_trans hl hm, fun i hi => ?_, fun b off e i r hr => ?_, fun r hr => ?_⟩
    · obtain ⟨b, off, spot⟩ := x
      have := (hq 0 (by omega)).1.1
      have hspot : spot = none := by simpa [Addr.add] using World.cell?_spot this
      subst hspot
      exact ⟨b, off, rfl⟩
    · cases e
      have hi : i < n := by have := (List.getElem?_eq_some_iff.1 hr).1; simpa using this
      simp [hi] at hr
      subst hr
      obtain ⟨g0, g1, g2, g3⟩ := (hq i hi).1
      rw [Go.WideShapes.add_plain] at g0 g1 g2 g3
      exact ⟨g0, g1, g2, g3⟩
    · obtain ⟨i, hi, rfl⟩ := List.mem_map.1 hr
      exact (hq i (List.mem_range.1 hi)).2
end

end Go.Proofs.Qxb6605581aMods
