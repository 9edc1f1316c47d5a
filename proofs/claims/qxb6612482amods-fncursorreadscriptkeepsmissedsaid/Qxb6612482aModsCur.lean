import Derived.Test.Qxb6612482aModsWin
import Derived.Test.Qxb6612482aModsSearch
import Derived.Deep.AppendLies
namespace Go.Proofs.Qxb6612482aMods
open Go.RowKit

/-- A cursor: its three plain fields. -/
structure IsCur (w : World) (gc : Nat) (after : Int) (rv : Value) (m : Bool) : Prop where
  c0 : w.cell? ⟨gc, 0, none⟩ = some (.int .i64 after)
  c6 : w.cell? ⟨gc, 6, none⟩ = some rv
  c7 : w.cell? ⟨gc, 7, none⟩ = some (.bool m)
  f6 : w.frozen? ⟨gc, 6, none⟩ = false
  f7 : w.frozen? ⟨gc, 7, none⟩ = false
theorem IsCur.lt {w : World} {gc : Nat} {after : Int} {rv : Value} {m : Bool} (h : IsCur w gc after rv m) : gc < w.heap.size := World.block_lt_of_cell? w _ h.c0
theorem IsCur.below {w w' : World} {gc : Nat} {after : Int} {rv : Value} {m : Bool} (h : IsCur w gc after rv m) (hb : Below w.heap.size w w') : IsCur w' gc after rv m :=
  ⟨keep_cell hb h.c0, keep_cell hb h.c6, keep_cell hb h.c7, (hb.frozen h.lt).trans h.f6, (hb.frozen h.lt).trans h.f7⟩

set_option maxHeartbeats 1000000 in
theorem newCur_any (after : Int) (a : Option Addr) (n c : Nat) (m : Bool) (w : World) :
    Calls Trym.prog 13 #[.int .i64 after, .slice a n c, .bool m] w fun e w' => ∃ gc, e = .returned (.pointer (some ⟨gc, 0, none⟩)) ∧ w.heap.size ≤ gc ∧ IsCur w' gc after (.slice a n c) m ∧ Below w.heap.size w w' := by
  go_enter Trym.func13, Trym.ntmps13
  go_wp2
  go_ret
  exact ⟨_, rfl, Nat.le_refl _, ⟨by go_simp, by go_simp, by go_simp, by go_simp, by go_simp⟩, (Below.refl _ _).alloc (Nat.le_refl _) _⟩

set_option maxHeartbeats 1000000 in
theorem fields_any (gc : Nat) (after : Int) (a : Option Addr) (n c : Nat) (m : Bool) (w : World) (h : IsCur w gc after (.slice a n c) m) :
    Calls Trym.prog 17 #[.pointer (some ⟨gc, 0, none⟩)] w fun e w' => e = .returned (.tuple #[.int .i64 after, .slice a n c, .bool m]) ∧ Below w.heap.size w w' := by
  have c0 := h.c0
  have c6 := h.c6
  have c7 := h.c7
  clear h
  go_enter Trym.func17, Trym.ntmps17
  go_wp2_with fail
  go_quiet (fail)
  go_wp2
  go_ret3
  exact ⟨rfl, below_drewN (Below.refl _ _) _⟩

theorem cur_world {w : World} {gc : Nat} {after : Int} {rv v6 v7 : Value} {m : Bool} {o : Obj} (c0 : w.cell? ⟨gc, 0, none⟩ = some (.int .i64 after)) (c6 : w.cell? ⟨gc, 6, none⟩ = some v6) (c7 : w.cell? ⟨gc, 7, none⟩ = some v7)
    (f6 : w.frozen? ⟨gc, 6, none⟩ = false) (f7 : w.frozen? ⟨gc, 7, none⟩ = false) :
    IsCur (((w.setCell ⟨gc, 7, none⟩ (.bool m)).setCell ⟨gc, 6, none⟩ rv).alloc o).drew gc after rv m ∧ w.grownBy (((w.setCell ⟨gc, 7, none⟩ (.bool m)).setCell ⟨gc, 6, none⟩ rv).alloc o).drew (some gc) := by
  have lt := World.block_lt_of_cell? w _ c0
  simp only at lt
  have e : ∀ i, (((w.setCell ⟨gc, 7, none⟩ (.bool m)).setCell ⟨gc, 6, none⟩ rv).alloc o).drew.cell? ⟨gc, i, none⟩ = ((w.setCell ⟨gc, 7, none⟩ (.bool m)).setCell ⟨gc, 6, none⟩ rv).cell? ⟨gc, i, none⟩ := fun i => World.cell?_alloc_past _ _ _ (by simpa using lt)
  have ef : ∀ i, (((w.setCell ⟨gc, 7, none⟩ (.bool m)).setCell ⟨gc, 6, none⟩ rv).alloc o).drew.frozen? ⟨gc, i, none⟩ = w.frozen? ⟨gc, i, none⟩ := fun i => by
    rw [show (((w.setCell ⟨gc, 7, none⟩ (.bool m)).setCell ⟨gc, 6, none⟩ rv).alloc o).drew.frozen? ⟨gc, i, none⟩ = (((w.setCell ⟨gc, 7, none⟩ (.bool m)).setCell ⟨gc, 6, none⟩ rv).alloc o).frozen? ⟨gc, i, none⟩ from rfl, World.frozen?_alloc_past _ _ _ (by simpa using lt)]
    rw [World.frozen?_setCell, World.frozen?_setCell]
  refine ⟨⟨?_, ?_, ?_, by rw [ef]; exact f6, by rw [ef]; exact f7⟩, ⟨rfl, rfl, rfl, by simp, fun k hk hne => ?_⟩⟩
  · rw [e]; go_simp
  · rw [e]; go_simp
  · rw [e]; go_simp
  · have hk' : k ≠ gc := fun h => hne (by rw [h])
    show (((w.setCell ⟨gc, 7, none⟩ (.bool m)).setCell ⟨gc, 6, none⟩ rv).alloc o).heap[k]? = _
    rw [Below.heap_alloc _ _ _ (by simpa using hk), Below.heap_setCell _ _ _ _ hk', Below.heap_setCell _ _ _ _ hk']

set_option maxHeartbeats 2000000 in
theorem read_yes (gc : Nat) (after : Int) (a : Option Addr) (n c : Nat) (a1 : Option Addr) (n1 c1 : Nat) (wa : Int) (v1 v2 : Value) (w : World) (h : IsCur w gc after (.slice a n c) true) :
    Calls Trym.prog 23 #[.pointer (some ⟨gc, 0, none⟩), .agg #[.int .i64 wa, v1, v2, .slice a1 n1 c1]] w fun e w' => e = .returned (.tuple #[]) ∧ IsCur w' gc after (.slice a1 n1 c1) true ∧ w.grownBy w' (some gc) := by
  have c0 := h.c0
  have c6 := h.c6
  have c7 := h.c7
  have f6 := h.f6
  have f7 := h.f7
  have lt := h.lt
  clear h
  go_enter Trym.func23, Trym.ntmps23
  go_wp2_with fail
  go_region
  all_goals
    go_wp2
    go_end0
    have X := cur_world (after := after) (rv := .slice a1 n1 c1) (m := true) (o := .cells #[.int .i64 wa, v1, v2, .slice a1 n1 c1] 64) c0 c6 c7 f6 f7
    exact ⟨rfl, X.1, X.2⟩

set_option maxHeartbeats 2000000 in
theorem read_no (gc : Nat) (after : Int) (a : Option Addr) (n c : Nat) (za : List Int) (a1 : Option Addr) (n1 c1 : Nat) (zb : List Int) (wa : Int) (v1 v2 : Value) (w : World) (h : IsCur w gc after (.slice a n c) false)
    (ha : IsInts w a n za) (hb : IsInts w a1 n1 zb) (hn : n ≤ 131072) (hn1 : n1 ≤ 131072) (hr : ∀ i, 1 ≤ i → i < n1 → zb.getD (i - 1) 0 ≤ zb.getD i 0) :
    Calls Trym.prog 23 #[.pointer (some ⟨gc, 0, none⟩), .agg #[.int .i64 wa, v1, v2, .slice a1 n1 c1]] w fun e w' => e = .returned (.tuple #[]) ∧ IsCur w' gc after (.slice a1 n1 c1) (!allIn za zb) ∧ w.grownBy w' (some gc) := by
  have c0 := h.c0
  have c6 := h.c6
  have c7 := h.c7
  have f6 := h.f6
  have f7 := h.f7
  have lt := h.lt
  have HA := hide ha
  have HB := hide hb
  have HR := hide hr
  clear h ha hb hr
  go_enter Trym.func23, Trym.ntmps23
  go_wp2_with fail
  go_region_with ((go_at_call 27; refine (ended_any a n c za a1 n1 c1 zb _ ?_ ?_ hn hn1 (unhide HR)).mono ?_; exact (unhide HA).below (((Below.refl _ _).alloc (Nat.le_refl _) _).drew); exact (unhide HB).below (((Below.refl _ _).alloc (Nat.le_refl _) _).drew); rintro e w2 ⟨rfl, rfl⟩))
  all_goals
    go_wp2
    go_end0
    have X := cur_world (after := after) (rv := .slice a1 n1 c1) (m := !allIn za zb) (o := .cells #[.int .i64 wa, v1, v2, .slice a1 n1 c1] 64) c0 c6 c7 f6 f7
    exact ⟨rfl, X.1, X.2⟩
end Go.Proofs.Qxb6612482aMods
