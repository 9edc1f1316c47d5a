import Derived.Test.Qxb6612482aModsRows
import Derived.WalkKit
import Derived.WalkSpells
import Derived.WalkLawsBesides
import Derived.WalkSmall
import Derived.Deep.RegionHeld3
import Derived.Deep.DrawnRows
import Derived.Deep.QuietTactic
import Derived.BigQuiet
import Derived.Deep.OwnRows
namespace Go.Proofs.Qxb6612482aMods
open Go.RowKit

theorem hide {p : Prop} (h : p) : Hid p := h
theorem unhide {p : Prop} (h : Hid p) : p := h
/-- A goal that the walk leaves alone. -/
def Hold (p : Prop) : Prop := p
theorem Hold.out {p : Prop} (h : Hold p) : p := h
theorem Hold.of {p : Prop} (h : p) : Hold p := h
/-- It returned a bool. -/
def IsBool (e : Ending) : Prop := ∃ b, e = .returned (.bool b)
theorem IsBool.of {e : Ending} (b : Bool) (h : e = .returned (.bool b)) : IsBool e := ⟨b, h⟩
theorem ret_int {k : IntKind} {a b : Int} (h : a = b) : Ending.returned (.int k a) = .returned (.int k b) := by rw [h]
theorem ret_bool {a b : Bool} (h : a = b) : Ending.returned (.bool a) = .returned (.bool b) := by rw [h]

theorem keep_cell {W w' : World} {a : Addr} {v : Value} (hb : Below W.heap.size W w') (h : W.cell? a = some v) : w'.cell? a = some v := by
  rw [hb.cell (World.block_lt_of_cell? W a h)]; exact h
theorem below_next {w W w' : World} (h : Below w.heap.size w W) (h2 : Below W.heap.size W w') : Below w.heap.size w w' := h.trans (h2.mono h.size)

/-- A slice of ints that is there: its elements. -/
structure IsInts (w : World) (a : Option Addr) (n : Nat) (zs : List Int) : Prop where
  len : zs.length = n
  small : n ≤ maxLen
  at' : ∀ i, i < n → ∃ b off, a = some ⟨b, off, none⟩
  cell : ∀ b off, a = some ⟨b, off, none⟩ → ∀ i, i < n → w.cell? ⟨b, off + i, none⟩ = some (.int .i64 (zs.getD i 0))
theorem IsInts.below {w w' : World} {a : Option Addr} {n : Nat} {zs : List Int} (h : IsInts w a n zs) (hb : Below w.heap.size w w') : IsInts w' a n zs :=
  ⟨h.len, h.small, h.at', fun b off e i hi => keep_cell hb (h.cell b off e i hi)⟩

/-- A row of a window, as it came in. -/
structure WRow where
  id : ByteArray
  pos : Int
  typ : ByteArray
  aid : ByteArray
  due : Bool
abbrev WRow.val (r : WRow) : Value := .agg #[.string r.id, .int .i64 r.pos, .string r.typ, .string r.aid, .bool r.due]

/-- A slice of rows that is there: its elements. -/
structure IsRows (w : World) (a : Option Addr) (n : Nat) (rs : List WRow) : Prop where
  len : rs.length = n
  small : n ≤ maxLen
  at' : ∀ i, i < n → ∃ b off, a = some ⟨b, off, none⟩
  cell : ∀ b off, a = some ⟨b, off, none⟩ → ∀ i r, rs[i]? = some r → w.cell? ⟨b, off + i * 5, none⟩ = some (.string r.id) ∧ w.cell? ⟨b, off + i * 5 + 1, none⟩ = some (.int .i64 r.pos) ∧
    w.cell? ⟨b, off + i * 5 + 2, none⟩ = some (.string r.typ) ∧ w.cell? ⟨b, off + i * 5 + 3, none⟩ = some (.string r.aid) ∧ w.cell? ⟨b, off + i * 5 + 4, none⟩ = some (.bool r.due)
  short : ∀ r ∈ rs, r.id.size ≤ maxLen ∧ r.typ.size ≤ maxLen ∧ r.aid.size ≤ maxLen
theorem IsRows.below {w w' : World} {a : Option Addr} {n : Nat} {rs : List WRow} (h : IsRows w a n rs) (hb : Below w.heap.size w w') : IsRows w' a n rs :=
  ⟨h.len, h.small, h.at', fun b off e i r hr => let c := h.cell b off e i r hr
    ⟨keep_cell hb c.1, keep_cell hb c.2.1, keep_cell hb c.2.2.1, keep_cell hb c.2.2.2.1, keep_cell hb c.2.2.2.2⟩, h.short⟩
theorem IsRows.get {w : World} {a : Option Addr} {n : Nat} {rs : List WRow} (h : IsRows w a n rs) {i : Nat} (hi : i < n) : ∃ r, rs[i]? = some r := ⟨_, List.getElem?_eq_getElem (by rw [h.len]; exact hi)⟩

/-! ### zzBytes_FnWindowLastIsGreatestPosition, rowBytes, rowsBytes, windowBytes -/
set_option maxHeartbeats 2000000 in
theorem bytes6_any (x : Int) (a : Option Addr) (n cap : Nat) (rs : List WRow) (a1 : Option Addr) (n1 cap1 : Nat) (a2 : Option Addr) (n2 cap2 : Nat) (w : World) (h : IsRows w a n rs) (hn1 : n1 ≤ maxLen) (hn2 : n2 ≤ maxLen) :
    Calls Trym.prog 6 #[.int .i64 x, .slice a n cap, .slice a1 n1 cap1, .slice a2 n2 cap2] w fun e w' => IsBool e ∧ w' = w := by
  have H := hide h
  have hn := h.small
  unfold maxLen at hn hn1 hn2
  clear h
  go_enter Trym.func6, Trym.ntmps6
  go_wp2
  · go_ret
    exact ⟨IsBool.of _ rfl, rfl⟩
  go_loop [9, 10] (fun q i => ∃ (k : Nat) (r : Int), k ≤ n ∧ i = .int .i64 k ∧ q = .int .i64 r ∧ 0 ≤ r ∧ r ≤ 1048576) (fun _ i => n - (intOf i).toNat)
  case atStart => exact ⟨0, _, Nat.zero_le _, rfl, rfl, by omega, by omega⟩
  case round =>
    obtain ⟨k, r, hk, rfl, rfl, hr0, hr1⟩ := hrel
    by_cases hlt : k < n
    · obtain ⟨b, off, rfl⟩ := (unhide H).at' k hlt
      obtain ⟨y, hy⟩ := (unhide H).get hlt
      have hc := (unhide H).cell b off rfl k y hy
      have hz := (unhide H).short y (List.mem_of_getElem? hy)
      obtain ⟨c0, c1, c2, c3, c4⟩ := hc
      obtain ⟨z0, z1, z2⟩ := hz
      unfold maxLen at z0 z1 z2
      clear hy
      go_wp2
      all_goals first
        | (go_ret
           exact ⟨IsBool.of _ rfl, rfl⟩)
        | (go_round
           case rel => exact ⟨k + 1, r + y.id.size + y.typ.size + y.aid.size, by omega, by go_num, by go_num, by omega, by omega⟩
           case measure => simp [intOf]; omega)
    · go_wp2
      all_goals
        go_ret
        exact ⟨IsBool.of _ rfl, rfl⟩

set_option maxHeartbeats 1000000 in
theorem rowBytes_any (r : WRow) (w : World) (h : r.id.size ≤ maxLen ∧ r.typ.size ≤ maxLen ∧ r.aid.size ≤ maxLen) :
    Calls Trym.prog 25 #[r.val] w fun e w' => (∃ q : Int, e = .returned (.int .i64 q) ∧ 0 ≤ q ∧ q ≤ 4194304) ∧ Below w.heap.size w w' := by
  obtain ⟨z0, z1, z2⟩ := h
  unfold maxLen at z0 z1 z2
  go_enter Trym.func25, Trym.ntmps25
  go_wp2
  all_goals
    go_ret
    exact ⟨⟨_, rfl, by omega, by omega⟩, (Below.refl _ _).alloc (Nat.le_refl _) _⟩

set_option maxHeartbeats 1000000 in
theorem rowsBytes_any (a : Option Addr) (n cap : Nat) (rs : List WRow) (w : World) (h : IsRows w a n rs) (hn : n ≤ 65536) :
    Calls Trym.prog 21 #[.slice a n cap] w fun e w' => (∃ q : Int, e = .returned (.int .i64 q) ∧ 0 ≤ q ∧ q ≤ 5242880) ∧ Below w.heap.size w w' := by
  have H := hide h
  clear h
  go_enter Trym.func21, Trym.ntmps21
  go_wp2
  go_loopw [3, 4] (fun q i wr => ∃ (k : Nat) (r : Int), k ≤ n ∧ i = .int .i64 k ∧ q = .int .i64 r ∧ 0 ≤ r ∧ r ≤ 1048576 ∧ Below w.heap.size w wr) (fun _ i _ => n - (intOf i).toNat)
  case atStart => exact ⟨0, _, Nat.zero_le _, rfl, rfl, by omega, by omega, Below.refl _ _⟩
  case round =>
    obtain ⟨k, r, hk, rfl, rfl, hr0, hr1, hB⟩ := hrel
    by_cases hlt : k < n
    · obtain ⟨b, off, rfl⟩ := (unhide H).at' k hlt
      obtain ⟨y, hy⟩ := (unhide H).get hlt
      have hc := ((unhide H).below hB).cell b off rfl k y hy
      have hz := hide ((unhide H).short y (List.mem_of_getElem? hy))
      obtain ⟨c0, c1, c2, c3, c4⟩ := hc
      clear hy
      go_wp2_with fail
      refine (rowBytes_any y _ (unhide hz)).mono ?_
      rintro e w1 ⟨⟨q, rfl, q0, q1⟩, hB1⟩
      replace hB1 := below_next hB hB1
      clear c0 c1 c2 c3 c4 hB
      go_wp2
      · go_ret
        exact ⟨⟨_, rfl, by omega, by omega⟩, hB1⟩
      · go_roundw
        case rel => exact ⟨k + 1, r + q, by omega, by go_num, by go_num, by omega, by omega, hB1⟩
        case measure => simp [intOf]; omega
    · go_wp2
      go_ret
      exact ⟨⟨_, rfl, by omega, by omega⟩, hB⟩

set_option maxHeartbeats 1000000 in
theorem windowBytes_any (a : Option Addr) (n cap : Nat) (rs : List WRow) (a1 : Option Addr) (n1 cap1 : Nat) (a2 : Option Addr) (n2 cap2 : Nat) (w : World) (h : IsRows w a n rs) (hn1 : n1 ≤ maxLen) (hn2 : n2 ≤ maxLen) :
    Calls Trym.prog 7 #[.slice a n cap, .slice a1 n1 cap1, .slice a2 n2 cap2] w fun e w' => (∃ q : Int, e = .returned (.int .i64 q) ∧ 0 ≤ q ∧ q ≤ 16777216 ∧ (q ≤ 1048576 → n ≤ 65536 ∧ n1 ≤ 131072 ∧ n2 ≤ 131072)) ∧ Below w.heap.size w w' := by
  have hn := h.small
  unfold maxLen at hn hn1 hn2
  have H := hide h
  clear h
  by_cases hs : n ≤ 65536 ∧ n1 ≤ 131072 ∧ n2 ≤ 131072
  · obtain ⟨s0, s1, s2⟩ := hs
    go_enter Trym.func7, Trym.ntmps7
    go_wp2_with fail
    refine (rowsBytes_any a n cap rs _ (unhide H) s0).mono ?_
    rintro e w1 ⟨⟨q, rfl, q0, q1⟩, hB⟩
    go_wp2
    go_ret
    exact ⟨⟨_, rfl, by omega, by omega, fun _ => ⟨s0, s1, s2⟩⟩, hB⟩
  · by_cases s0 : n ≤ 65536
    · by_cases s1 : n1 ≤ 131072
      · have s2 : ¬ n2 ≤ 131072 := fun h => hs ⟨s0, s1, h⟩
        clear hs
        go_enter Trym.func7, Trym.ntmps7
        go_wp2
        go_ret
        exact ⟨⟨_, rfl, by omega, by omega, by omega⟩, Below.refl _ _⟩
      · clear hs
        go_enter Trym.func7, Trym.ntmps7
        go_wp2
        go_ret
        exact ⟨⟨_, rfl, by omega, by omega, by omega⟩, Below.refl _ _⟩
    · clear hs
      go_enter Trym.func7, Trym.ntmps7
      go_wp2
      go_ret
      exact ⟨⟨_, rfl, by omega, by omega, by omega⟩, Below.refl _ _⟩

end Go.Proofs.Qxb6612482aMods
