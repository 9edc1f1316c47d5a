import Derived.Test.Qxb6605581aModsAdd0
namespace Go.Proofs.Qxb6605581aMods
open Go.RowKit Go.Maps

/-- A Tally, empty or not. -/
def St (w : World) (base gt : Nat) (N : List ByteArray) (K : List (Nat × Nat)) (f : Nat × Nat → Option Nat × Option Nat) (cnt : Nat) : Prop :=
  (N = [] ∧ K = [] ∧ base ≤ gt ∧ w.heap[gt]? = some (.cells #[.map none, .slice none 0 0, .map none] 51 (0, 0))) ∨ (∃ bi bp v L, Tal w base gt bi bp v N L f cnt ∧ L.map (·.1) = K)
theorem St.below {w w' : World} {base gt : Nat} {N : List ByteArray} {K : List (Nat × Nat)} {f : Nat × Nat → Option Nat × Option Nat} {cnt : Nat} (h : St w base gt N K f cnt) (hb : Below w.heap.size w w') : St w' base gt N K f cnt := by
  rcases h with ⟨h1, h2, h3, h4⟩ | ⟨bi, bp, v, L, h, hk⟩
  · exact .inl ⟨h1, h2, h3, (hb.block _ (heap_lt h4)).trans h4⟩
  · exact .inr ⟨bi, bp, v, L, h.below hb, hk⟩

theorem len47 {w : World} {base gt bi bp : Nat} {v : Value} {N : List ByteArray} {L : List ((Nat × Nat) × Nat)} {f : Nat × Nat → Option Nat × Option Nat} {cnt : Nat} (h : Tal w base gt bi bp v N L f cnt) (ty : TypeId) : (Builtin.len_ #[47] ty #[.map (some bi)]).run Trym.prog w = .ok (.int .i64 N.length) w := by
  obtain ⟨D, h1, _, h3, _⟩ := h.idx
  rw [h1.len Trym.underlying47 ty, h3]
theorem len49 {w : World} {base gt bi bp : Nat} {v : Value} {N : List ByteArray} {L : List ((Nat × Nat) × Nat)} {f : Nat × Nat → Option Nat × Option Nat} {cnt : Nat} (h : Tal w base gt bi bp v N L f cnt) (ty : TypeId) : (Builtin.len_ #[49] ty #[.map (some bp)]).run Trym.prog w = .ok (.int .i64 L.length) w := by
  obtain ⟨D, h1, _, h3, _⟩ := h.prs
  rw [h1.len Trym.underlying49 ty, h3]
theorem len47n (w : World) (ty : TypeId) : (Builtin.len_ #[47] ty #[.map none]).run Trym.prog w = .ok (.int .i64 0) w := Maps.len_nil Trym.underlying47 ty
theorem len49n (w : World) (ty : TypeId) : (Builtin.len_ #[49] ty #[.map none]).run Trym.prog w = .ok (.int .i64 0) w := Maps.len_nil Trym.underlying49 ty

section
variable (base gt : Nat) (N : List ByteArray) (K : List (Nat × Nat)) (f : Nat × Nat → Option Nat × Option Nat) (cnt : Nat) (w : World) (h : St w base gt N K f cnt)

set_option maxHeartbeats 1000000 in
include h in
theorem names_any : Calls Trym.prog 20 #[.pointer (some ⟨gt, 0, none⟩)] w fun e w' => ∃ a cap, e = .returned (.slice a N.length cap) ∧ IsStrs w a N.length N ∧ w' = w := by
  have key : ∃ a cap, w.cell? ⟨gt, 1, none⟩ = some (.slice a N.length cap) ∧ IsStrs w a N.length N := by
    rcases h with ⟨rfl, _, _, hb⟩ | ⟨bi, bp, v, L, h, _⟩
    · refine ⟨none, 0, by rw [cell_of_row w gt 1 _ 51 (0, 0) hb]; rfl, rfl, fun i hi => by simp at hi, fun g hg => by cases hg⟩
    · obtain ⟨a, cap, rfl, hs⟩ := IsStrs.of_owns h.row
      exact ⟨a, cap, h.c1, hs⟩
  obtain ⟨a, cap, c1, hs⟩ := key
  replace hs := hide hs
  clear h
  go_enter Trym.func20, Trym.ntmps20
  go_wp2
  go_ret
  exact ⟨a, cap, rfl, unhide hs, rfl⟩

set_option maxHeartbeats 1000000 in
include h in
theorem ilen_any : Calls Trym.prog 21 #[.pointer (some ⟨gt, 0, none⟩)] w fun e w' => e = .returned (.int .i64 N.length) ∧ w' = w := by
  have key : ∃ m, w.cell? ⟨gt, 0, none⟩ = some (.map m) ∧ ∀ ty, (Builtin.len_ #[47] ty #[.map m]).run Trym.prog w = .ok (.int .i64 N.length) w := by
    rcases h with ⟨rfl, _, _, hb⟩ | ⟨bi, bp, v, L, h, _⟩
    · exact ⟨none, by rw [cell_of_row w gt 0 _ 51 (0, 0) hb]; rfl, len47n w⟩
    · exact ⟨_, h.c0, len47 h⟩
  obtain ⟨m, c0, hl⟩ := key
  clear h
  go_enter Trym.func21, Trym.ntmps21
  go_wp2
  go_ret
  exact ⟨rfl, rfl⟩

set_option maxHeartbeats 1000000 in
include h in
theorem plen_any : Calls Trym.prog 23 #[.pointer (some ⟨gt, 0, none⟩)] w fun e w' => e = .returned (.int .i64 K.length) ∧ w' = w := by
  have key : ∃ m, w.cell? ⟨gt, 2, none⟩ = some (.map m) ∧ ∀ ty, (Builtin.len_ #[49] ty #[.map m]).run Trym.prog w = .ok (.int .i64 K.length) w := by
    rcases h with ⟨_, rfl, _, hb⟩ | ⟨bi, bp, v, L, h, rfl⟩
    · exact ⟨none, by rw [cell_of_row w gt 2 _ 51 (0, 0) hb]; rfl, len49n w⟩
    · exact ⟨_, h.c2, fun ty => by rw [len49 h ty]; simp⟩
  obtain ⟨m, c0, hl⟩ := key
  clear h
  go_enter Trym.func23, Trym.ntmps23
  go_wp2
  go_ret
  exact ⟨rfl, rfl⟩

set_option maxHeartbeats 1000000 in
include h in
theorem index_any (s : ByteArray) (i : Nat) (hs : s.size ≤ maxLen) (hf : findS N s = some i) : Calls Trym.prog 22 #[.pointer (some ⟨gt, 0, none⟩), .string s] w fun e w' => e = .returned (.tuple #[.int .i64 i, .bool true]) ∧ w' = w := by
  rcases h with ⟨rfl, _, _, hb⟩ | ⟨bi, bp, v, L, h, _⟩
  · simp [findS] at hf
  have c0 := h.c0
  have hl := h.lookI s hs
  rw [hf] at hl
  simp only [Option.map_some, Option.getD_some, Option.isSome_some] at hl
  clear h hf
  go_enter Trym.func22, Trym.ntmps22
  go_wp2_with (at_lookup; refine Hold.out ?_)
  refine Hold.of ?_
  refine wpList_look _ rfl _ _ _ (by rfl) _ _ _ (by rfl) (by rfl) hl ?_
  clear hl
  go_wp2
  go_ret2
  exact ⟨rfl, rfl⟩

set_option maxHeartbeats 1000000 in
include h in
theorem outc_any (p : Nat × Nat) (h1 : p.1 ≤ 131072) (h2 : p.2 ≤ 131072) (hp : p ∈ K) : Calls Trym.prog 24 #[.pointer (some ⟨gt, 0, none⟩), .int .i64 p.1, .int .i64 p.2] w fun e w' => ∃ fa fb, e = .returned (.tuple #[.float .f64 fa, .float .f64 fb, .bool true]) ∧ fl (f p).1 fa ∧ fl (f p).2 fb ∧ Below w.heap.size w w' := by
  rcases h with ⟨_, rfl, _, hb⟩ | ⟨bi, bp, v, L, h, rfl⟩
  · cases hp
  have c2 := h.c2
  have hl := h.lookP p h1 h2
  cases hf : findP L p.1 p.2 with
  | none => exact absurd hp (findP_none.1 hf)
  | some b =>
    rw [hf] at hl
    simp only [Option.map_some, Option.getD_some, Option.isSome_some] at hl
    obtain ⟨fa, fb, hb, hfa, hfb⟩ := h.out _ (findP_some hf)
    have d0 : w.cell? ⟨b, 0, none⟩ = some (.float .f64 fa) := by rw [cell_of_row w b 0 _ 75 (0, 0) hb]; rfl
    have d1 : w.cell? ⟨b, 1, none⟩ = some (.float .f64 fb) := by rw [cell_of_row w b 1 _ 75 (0, 0) hb]; rfl
    replace hfa := hide hfa
    replace hfb := hide hfb
    clear h hf hp hb
    go_enter Trym.func24, Trym.ntmps24
    go_wp2_with (at_lookup; refine Hold.out ?_)
    refine Hold.of ?_
    refine wpList_look _ rfl _ _ _ (by rfl) _ _ _ (by rfl) (by rfl) hl ?_
    clear hl c2
    go_wp2_with fail
    go_quiet (fail)
    go_wp2
    go_ret3
    exact ⟨fa, fb, rfl, unhide hfa, unhide hfb, below_drewN (Below.refl _ _) _⟩
end

end Go.Proofs.Qxb6605581aMods
