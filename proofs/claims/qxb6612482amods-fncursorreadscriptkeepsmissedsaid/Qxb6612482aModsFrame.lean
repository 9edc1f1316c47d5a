import Derived.Test.Qxb6612482aModsBase
import Derived.Deep.Slices
import Derived.ProofKit
import Derived.OpenShut
import Derived.ShutString
import Derived.ChangeOld
import Derived.Below
import Derived.Lib.SmallJoins
namespace Go.Proofs.Qxb6612482aMods
open Go.ChangeShapes Go.WideShapes Go.ChangeAt Go.RowKit Go.Joins
open Go.ChangeMaps (open_string shut_string)
set_option linter.unusedVariables false

theorem own : ownKnob Trym.prog.godebug = none := by kernel_rfl
theorem laidOut : laidOutB Trym.prog = true := by kernel_rfl

theorem array5 {α : Type} {l : List α} (h : l.length = 5) : ∃ c0 c1 c2 c3 c4, l = [c0, c1, c2, c3, c4] := by
  match l, h with
  | [c0, c1, c2, c3, c4], _ => exact ⟨c0, c1, c2, c3, c4, rfl⟩
theorem Trym.cells28 : Trym.prog.cellsOf 28 = 5 := by kernel_rfl

section
variable {H : Type} {enc : TypeId × Value → H} {w : World} {b0 : Nat} {held : Bool} {r : Reach} {v : Value} {d : DataW H} {p : List MemPlace}

theorem open_is24 (hv : Value.okWide Trym.prog w r b0 24 v) (h : DataW.Trod enc Trym.prog w 0 (fun _ => true) held 24 v d p) :
    ∃ (a : Option Addr) (n cap : Nat) (zs : List Int), v = .slice a n cap ∧ IsInts w a n zs := by
  obtain ⟨a, n, cap, rfl⟩ := okWide_slice Trym.underlying24 hv
  obtain ⟨fuel, hf⟩ := h
  rcases open_ints Trym.underlying24 Trym.underlying2 (by kernel_rfl) hf with ⟨hcs, _⟩ | ⟨x, l, c, zs, hcs, _, hl, hm, hz, _, hcell, hwz⟩
  · simp [Value.cells] at hcs
    obtain ⟨rfl, rfl, rfl⟩ := hcs
    exact ⟨none, 0, 0, [], rfl, rfl, by unfold maxLen; omega, fun i hi => by omega, fun b off e => (by cases e)⟩
  · simp [Value.cells] at hcs
    obtain ⟨rfl, rfl, rfl⟩ := hcs
    simp only [if_true] at hz
    have hg : ∀ i, i < n → (zs.take n).getD i 0 = zs.getD i 0 := fun i hi => by
      rw [List.getD_eq_getElem?_getD, List.getElem?_take_of_lt hi, List.getD_eq_getElem?_getD]
    refine ⟨_, n, cap, zs.take n, rfl, by rw [List.length_take, hz]; omega, Nat.le_trans hl hm, fun i hi => ?_, fun b off e i hi => ?_⟩
    · obtain ⟨b, off, rfl, _⟩ := ints_at hcell (by omega)
      exact ⟨b, off, rfl⟩
    · cases e
      rw [hg i hi, ← Go.WideShapes.add_plain]
      exact hcell i (by omega)

theorem open_is23 (hv : Value.okWide Trym.prog w r b0 23 v) (h : DataW.Trod enc Trym.prog w 0 (fun _ => true) held 23 v d p) :
    ∃ (a : Option Addr) (n cap : Nat) (zs : List Int), v = .slice a n cap ∧ IsInts w a n zs := by
  obtain ⟨a, n, cap, rfl⟩ := okWide_slice Trym.underlying23 hv
  obtain ⟨fuel, hf⟩ := h
  rcases open_ints Trym.underlying23 Trym.underlying3 (by kernel_rfl) hf with ⟨hcs, _⟩ | ⟨x, l, c, zs, hcs, _, hl, hm, hz, _, hcell, hwz⟩
  · simp [Value.cells] at hcs
    obtain ⟨rfl, rfl, rfl⟩ := hcs
    exact ⟨none, 0, 0, [], rfl, rfl, by unfold maxLen; omega, fun i hi => by omega, fun b off e => (by cases e)⟩
  · simp [Value.cells] at hcs
    obtain ⟨rfl, rfl, rfl⟩ := hcs
    simp only [if_true] at hz
    have hg : ∀ i, i < n → (zs.take n).getD i 0 = zs.getD i 0 := fun i hi => by
      rw [List.getD_eq_getElem?_getD, List.getElem?_take_of_lt hi, List.getD_eq_getElem?_getD]
    refine ⟨_, n, cap, zs.take n, rfl, by rw [List.length_take, hz]; omega, Nat.le_trans hl hm, fun i hi => ?_, fun b off e i hi => ?_⟩
    · obtain ⟨b, off, rfl, _⟩ := ints_at hcell (by omega)
      exact ⟨b, off, rfl⟩
    · cases e
      rw [hg i hi, ← Go.WideShapes.add_plain]
      exact hcell i (by omega)

theorem open_rows (hv : Value.okWide Trym.prog w r b0 22 v) (h : DataW.Trod enc Trym.prog w 0 (fun _ => true) held 22 v d p) :
    ∃ (a : Option Addr) (n cap : Nat) (rs : List WRow), v = .slice a n cap ∧ IsRows w a n rs := by
  obtain ⟨a, n, cap, rfl⟩ := okWide_slice Trym.underlying22 hv
  obtain ⟨fuel, hf⟩ := h
  rcases Go.Deep.open_slice Trym.underlying22 hf with ⟨hcs, _⟩ | ⟨x, l, c, m, q, D, Pl, hcs, _, hl, hm, hmm, _, hx⟩
  · simp [Value.cells] at hcs
    obtain ⟨rfl, rfl, rfl⟩ := hcs
    exact ⟨none, 0, 0, [], rfl, rfl, by unfold maxLen; omega, fun i hi => by omega, fun b off e => (by cases e), fun r hr => (by cases hr)⟩
  · simp [Value.cells] at hcs
    obtain ⟨rfl, rfl, rfl⟩ := hcs
    simp only [if_true] at hmm
    have each : ∀ i, i < n → ∃ q : ByteArray × Int × ByteArray × ByteArray × Bool, (w.cell? (x.add (i * 5)) = some (.string q.1) ∧ w.cell? (x.add (i * 5 + 1)) = some (.int .i64 q.2.1) ∧ w.cell? (x.add (i * 5 + 2)) = some (.string q.2.2.1) ∧
        w.cell? (x.add (i * 5 + 3)) = some (.string q.2.2.2.1) ∧ w.cell? (x.add (i * 5 + 4)) = some (.bool q.2.2.2.2)) ∧ q.1.size ≤ maxLen ∧ q.2.2.1.size ≤ maxLen ∧ q.2.2.2.1.size ≤ maxLen := by
      intro i hi
      obtain ⟨cs', h1, h2⟩ := hx i (by omega)
      rw [Trym.cells28] at h1
      obtain ⟨_, hlen, hcell⟩ := World.cells?_some h1
      obtain ⟨c0, c1, c2, c3, c4, rfl⟩ := array5 hlen
      obtain ⟨xs, k, _, _, _, hxl, hfl⟩ := DataW.trod_struct Trym.underlying28 h2
      obtain ⟨y0, y1, y2, y3, y4, rfl⟩ := array5 (l := xs) (by simpa using hxl)
      have f0 := hfl 0 _ rfl
      have f1 := hfl 1 _ rfl
      have f2 := hfl 2 _ rfl
      have f3 := hfl 3 _ rfl
      have f4 := hfl 4 _ rfl
      have k9 : Trym.prog.cellsOf 9 = 1 := by kernel_rfl
      have k2 : Trym.prog.cellsOf 2 = 1 := by kernel_rfl
      have k4 : Trym.prog.cellsOf 4 = 1 := by kernel_rfl
      simp [k9, k2, k4] at f0 f1 f2 f3 f4
      obtain ⟨s0, e0, _, z0⟩ := DataW.trod_string Trym.underlying9 f0
      obtain ⟨s1, e1, _, z1⟩ := DataW.trod_int Trym.underlying2 f1
      obtain ⟨s2, e2, _, z2⟩ := DataW.trod_string Trym.underlying9 f2
      obtain ⟨s3, e3, _, z3⟩ := DataW.trod_string Trym.underlying9 f3
      obtain ⟨s4, e4, _⟩ := DataW.trod_bool Trym.underlying4 f4
      simp at e0 e1 e2 e3 e4
      subst e0 e1 e2 e3 e4
      have g0 := hcell 0 (by omega)
      have g1 := hcell 1 (by omega)
      have g2 := hcell 2 (by omega)
      have g3 := hcell 3 (by omega)
      have g4 := hcell 4 (by omega)
      rw [Go.Deep.add_add] at g0 g1 g2 g3 g4
      exact ⟨(s0, s1, s2, s3, s4), ⟨by simpa using g0, by simpa using g1, by simpa using g2, by simpa using g3, by simpa using g4⟩, z0, z2, z3⟩
    obtain ⟨q, hq⟩ := Go.Deep.choose_lt each
    refine ⟨_, n, cap, (List.range n).map fun i => ⟨(q i).1, (q i).2.1, (q i).2.2.1, (q i).2.2.2.1, (q i).2.2.2.2⟩, rfl, by simp, Nat.le_trans hl hm, fun i hi => ?_, fun b off e i r hr => ?_, fun r hr => ?_⟩
    · obtain ⟨b, off, spot⟩ := x
      have := (hq 0 (by omega)).1.1
      have hspot : spot = none := by simpa [Addr.add] using World.cell?_spot this
      subst hspot
      exact ⟨b, off, rfl⟩
    · cases e
      have hi : i < n := by have := (List.getElem?_eq_some_iff.1 hr).1; simpa using this
      simp [hi] at hr
      subst hr
      obtain ⟨g0, g1, g2, g3, g4⟩ := (hq i hi).1
      rw [Go.WideShapes.add_plain] at g0 g1 g2 g3 g4
      exact ⟨g0, g1, g2, g3, g4⟩
    · obtain ⟨i, hi, rfl⟩ := List.mem_map.1 hr
      exact (hq i (List.mem_range.1 hi)).2
end

end Go.Proofs.Qxb6612482aMods
