import Derived.Test.Qxb6605581aModsRows
import Derived.WalkKit
import Derived.WalkSpells
import Derived.WalkLawsBesides
import Derived.WalkSmall
import Derived.Deep.RegionHeld3
import Derived.Deep.DrawnRows
import Derived.Deep.QuietTactic
import Derived.BigQuiet
import Derived.Deep.AppendLies
namespace Go.Proofs.Qxb6605581aMods
open Go.RowKit

theorem hide {p : Prop} (h : p) : Hid p := h
theorem unhide {p : Prop} (h : Hid p) : p := h
/-- A goal that the walk leaves alone. -/
def Hold (p : Prop) : Prop := p
theorem Hold.out {p : Prop} (h : Hold p) : p := h
theorem Hold.of {p : Prop} (h : p) : Hold p := h
/-- It returned a bool. -/
def IsBool (e : Ending) : Prop := ∃ b, e = .returned (.bool b)
theorem IsBool.of {e : Ending} (b : Bool) (h : e = .returned (.bool b)) : IsBool e := ⟨b, h⟩
theorem ret_int {k : IntKind} {a b : Int} (h : a = b) : Ending.returned (.int k a) = .returned (.int k b) := by rw [h]
theorem ret_bool {a b : Bool} (h : a = b) : Ending.returned (.bool a) = .returned (.bool b) := by rw [h]

theorem keep_cell {W w' : World} {a : Addr} {v : Value} (hb : Below W.heap.size W w') (h : W.cell? a = some v) : w'.cell? a = some v := by
  rw [hb.cell (World.block_lt_of_cell? W a h)]; exact h
theorem below_next {w W w' : World} (h : Below w.heap.size w W) (h2 : Below W.heap.size W w') : Below w.heap.size w w' := h.trans (h2.mono h.size)
theorem heap_at {w : World} {o : Obj} {B : Nat} (h : w.heap.size = B) : (w.alloc o).heap[B]? = some o := by subst h; exact heap_alloc_new w o
theorem heap_lt {w : World} {B : Nat} {o : Obj} (h : w.heap[B]? = some o) : B < w.heap.size := (Array.getElem?_eq_some_iff.1 h).1

theorem toList_ne {a b : ByteArray} (h : a ≠ b) : (a.toList == b.toList) = false := by
  rw [beq_eq_false_iff_ne]
  intro e
  apply h
  rw [ByteArray.toList_eq, ByteArray.toList_eq] at e
  exact ByteArray.ext (Array.toList_inj.1 e)
theorem toList_same (a : ByteArray) : (a.toList == a.toList) = true := beq_self_eq_true _

/-! ### Floats -/
/-- The bits are a NaN's. -/
def nan (x : Nat) : Prop := ∃ s p, FloatKind.f64.format.read x = .nan s p
/-- f is what c says: just those bits; or, where c says nothing, a NaN. -/
def fl (c : Option Nat) (f : Nat) : Prop := match c with | some v => f = v | none => nan f
/-- A sum goes on by one number. -/
def fadd (c : Option Nat) (s : Nat) : Option Nat := c.bind fun v => FloatKind.f64.format.add v s

theorem nan_add {x : Nat} (h : nan x) (y : Nat) : FloatKind.f64.format.add x y = none := by
  obtain ⟨s, p, h⟩ := h
  simp [Ieee.Format.add, h, Ieee.Datum.sum]
theorem sw : FloatKind.f64.format.signWeight = 9223372036854775808 := by decide
theorem bn : FloatKind.f64.format.binade = 4503599627370496 := by decide
theorem ir : FloatKind.f64.format.infRung = 9218868437227405312 := by decide
theorem nan_of_rung {x : Nat} (h : 9218868437227405312 < x % 9223372036854775808) : nan x := by
  refine ⟨x / 9223372036854775808 % 2 == 1, x % 9223372036854775808 - 9218868437227405312, ?_⟩
  unfold Ieee.Format.read
  rw [sw, bn, ir]
  simp only []
  rw [if_neg (by omega), if_neg (by omega), if_neg (by omega)]
theorem nan_cut (x y t : Nat) : nan ((Question.nanBits .f64 x y).cut t) := by
  apply nan_of_rung
  have e : (Question.nanBits .f64 x y).cut t = 9223372036854775808 * (t % 2) + (9218868437227405312 + 1 + t / 2 % 4503599627370495) := by
    show (t % 2) * 2 ^ 63 + 9218868437227405312 + 1 + (t / 2) % (2 ^ 52 - 1) = _
    rw [show (2 : Nat) ^ 63 = 9223372036854775808 from by decide, show (2 : Nat) ^ 52 - 1 = 4503599627370495 from by decide]
    omega
  have hr : t / 2 % 4503599627370495 < 4503599627370495 := Nat.mod_lt _ (by omega)
  rw [e, Nat.mul_add_mod, Nat.mod_eq_of_lt (by omega)]
  omega
theorem order_nan {x : Nat} (h : nan x) (y : Nat) : FloatKind.f64.format.order x y = none := by
  obtain ⟨s, p, h⟩ := h
  simp [Ieee.Format.order, h, Ieee.Datum.order]
theorem order_self (x : Nat) : FloatKind.f64.format.order x x = some .eq ∨ nan x := by
  unfold nan Ieee.Format.order
  cases h : FloatKind.f64.format.read x with
  | nan s p => exact .inr ⟨s, p, rfl⟩
  | infinity s => left; simp [Ieee.Datum.order]
  | number s m i => left; simp [Ieee.Datum.order]

theorem run_add (w : World) (t : TypeId) (c : Option Nat) (x s : Nat) (h : fl c x) : ∃ r n, (binOp .add t (.float .f64 x) (.float .f64 s)).run Trym.prog w = .ok (.float .f64 r) (w.drewN n) ∧ fl (fadd c s) r := by
  have hc : FloatKind.f64.format.add x s = fadd c s := by
    cases c with
    | none => simpa [fadd] using nan_add h s
    | some v => cases h; rfl
  cases hr : fadd c s with
  | some r =>
    rw [hr] at hc
    exact ⟨r, 0, by simp [binOp, Op.floatArith, hc, World.drewN], rfl⟩
  | none =>
    rw [hr] at hc
    refine ⟨(Question.nanBits .f64 x s).cut (w.tape w.drawn (.nanBits .f64 x s)), 1, ?_, nan_cut x s _⟩
    simp [binOp, Op.floatArith, hc, World.drewN, Question.forced]

/-! ### Names -/
/-- Where s stands first among ns. -/
def findS : List ByteArray → ByteArray → Option Nat
  | [], _ => none
  | x :: r, s => if x = s then some 0 else (findS r s).map (· + 1)
theorem findS_none : ∀ {ns : List ByteArray} {s : ByteArray}, findS ns s = none ↔ s ∉ ns
  | [], s => by simp [findS]
  | x :: r, s => by
    unfold findS
    by_cases e : x = s
    · subst e; simp
    · rw [if_neg e, Option.map_eq_none_iff, findS_none]
      simp [Ne.symm e]
theorem findS_some : ∀ {ns : List ByteArray} {s : ByteArray} {i : Nat}, findS ns s = some i → ns[i]? = some s
  | [], s, i, h => by simp [findS] at h
  | x :: r, s, i, h => by
    unfold findS at h
    by_cases e : x = s
    · rw [if_pos e] at h; cases h; simp [e]
    · rw [if_neg e] at h
      obtain ⟨j, hj, rfl⟩ := Option.map_eq_some_iff.1 h
      simpa using findS_some hj
theorem findS_lt {ns : List ByteArray} {s : ByteArray} {i : Nat} (h : findS ns s = some i) : i < ns.length := (List.getElem?_eq_some_iff.1 (findS_some h)).1
theorem findS_mem {ns : List ByteArray} {s : ByteArray} (h : s ∈ ns) : ∃ i, findS ns s = some i := by
  cases e : findS ns s with
  | none => exact absurd h (findS_none.1 e)
  | some i => exact ⟨i, rfl⟩
theorem findS_app : ∀ {ns : List ByteArray} (r : List ByteArray) {s : ByteArray} {i : Nat}, findS ns s = some i → findS (ns ++ r) s = some i
  | [], r, s, i, h => by simp [findS] at h
  | x :: t, r, s, i, h => by
    rw [List.cons_append]
    unfold findS at h ⊢
    by_cases e : x = s
    · rw [if_pos e] at h ⊢; exact h
    · rw [if_neg e] at h ⊢
      obtain ⟨j, hj, rfl⟩ := Option.map_eq_some_iff.1 h
      rw [findS_app r hj]; rfl
theorem findS_new : ∀ {ns : List ByteArray} {s : ByteArray}, s ∉ ns → findS (ns ++ [s]) s = some ns.length
  | [], s, _ => by simp [findS]
  | x :: t, s, h => by
    simp only [List.mem_cons, not_or] at h
    rw [List.cons_append]
    unfold findS
    rw [if_neg (Ne.symm h.1), findS_new h.2]; simp
theorem findS_at : ∀ {ns : List ByteArray} {i : Nat} {s : ByteArray}, ns[i]? = some s → (∀ j, j < i → ns[j]? ≠ some s) → findS ns s = some i
  | [], i, s, h, _ => by simp at h
  | x :: t, 0, s, h, _ => by simp at h; simp [findS, h]
  | x :: t, i + 1, s, h, hn => by
    unfold findS
    have e : x ≠ s := fun e => hn 0 (by omega) (by simp [e])
    rw [if_neg e, findS_at (i := i) (by simpa using h) (fun j hj => by simpa using hn (j + 1) (by omega))]
    rfl
theorem findS_nodup {ns : List ByteArray} (h : ns.Nodup) {i : Nat} {s : ByteArray} (hi : ns[i]? = some s) : findS ns s = some i := by
  obtain ⟨j, hj⟩ := findS_mem (List.mem_of_getElem? hi)
  have hj2 := findS_some hj
  have li := (List.getElem?_eq_some_iff.1 hi)
  have lj := (List.getElem?_eq_some_iff.1 hj2)
  have hp := List.pairwise_iff_getElem.1 h
  rcases Nat.lt_trichotomy j i with e | e | e
  · exact absurd (lj.2.trans li.2.symm) (hp j i lj.1 li.1 e)
  · rw [hj, e]
  · exact absurd (li.2.trans lj.2.symm) (hp i j li.1 lj.1 e)
/-- s is added where it is not yet there. -/
def addS (ns : List ByteArray) (s : ByteArray) : List ByteArray := match findS ns s with | some _ => ns | none => ns ++ [s]
theorem addS_nodup {ns : List ByteArray} (h : ns.Nodup) (s : ByteArray) : (addS ns s).Nodup := by
  unfold addS
  split
  · exact h
  · rename_i e
    rw [List.nodup_append]
    exact ⟨h, by simp, fun a ha b hb => by simp at hb; subst hb; intro e2; subst e2; exact findS_none.1 e ha⟩
theorem addS_len (ns : List ByteArray) (s : ByteArray) : (addS ns s).length ≤ ns.length + 1 := by
  unfold addS; split <;> simp
theorem addS_app (ns : List ByteArray) (s : ByteArray) : ∃ r, addS ns s = ns ++ r := by
  unfold addS; split
  · exact ⟨[], by simp⟩
  · exact ⟨_, rfl⟩
theorem addS_find (ns : List ByteArray) (s : ByteArray) : ∃ i, findS (addS ns s) s = some i := by
  unfold addS
  split
  · rename_i i e; exact ⟨i, e⟩
  · rename_i e; exact ⟨_, findS_new (findS_none.1 e)⟩
theorem addS_old {ns : List ByteArray} {s : ByteArray} {i : Nat} (h : findS ns s = some i) : addS ns s = ns := by simp [addS, h]
theorem addS_new {ns : List ByteArray} {s : ByteArray} (h : findS ns s = none) : addS ns s = ns ++ [s] := by simp [addS, h]

/-- A slice of strings that is there: its elements. -/
structure IsStrs (w : World) (a : Option Addr) (n : Nat) (ss : List ByteArray) : Prop where
  len : ss.length = n
  at' : ∀ i, i < n → ∃ g, a = some ⟨g, 0, none⟩
  cell : ∀ g, a = some ⟨g, 0, none⟩ → ∀ i s, ss[i]? = some s → w.cell? ⟨g, i, none⟩ = some (.string s)
theorem IsStrs.below {w w' : World} {a : Option Addr} {n : Nat} {ss : List ByteArray} (h : IsStrs w a n ss) (hb : Below w.heap.size w w') : IsStrs w' a n ss :=
  ⟨h.len, h.at', fun g e i s hs => keep_cell hb (h.cell g e i s hs)⟩
theorem IsStrs.get {w : World} {a : Option Addr} {n : Nat} {ss : List ByteArray} (h : IsStrs w a n ss) {i : Nat} (hi : i < n) : ∃ s, ss[i]? = some s := ⟨_, List.getElem?_eq_getElem (by rw [h.len]; exact hi)⟩
theorem IsStrs.of_owns {w : World} {base n : Nat} {v : Value} {ss : List ByteArray} (h : w.ownsRow base 9 1 v n (ss.map Value.string)) : ∃ a cap, v = .slice a n cap ∧ IsStrs w a n ss := by
  have hl : ss.length = n := by have := h.1; simpa using this
  rcases h.2 with ⟨rfl, rfl⟩ | ⟨g, cap, cur, rfl, hb, hg, hc, hm, hsz, ht⟩
  · exact ⟨none, 0, rfl, hl, fun i hi => by omega, fun g hg => (by cases hg)⟩
  · refine ⟨_, cap, rfl, hl, fun _ _ => ⟨g, rfl⟩, fun g' hg' i s hs => ?_⟩
    cases hg'
    have hi : i < n := by rw [← hl]; exact (List.getElem?_eq_some_iff.1 hs).1
    rw [h.cellAt _ (by omega), List.getElem?_map, hs]; rfl

/-- What tallyFind answers. -/
def findI (ns : List ByteArray) (s : ByteArray) : Int := match findS ns s with | some i => i | none => -1

set_option maxHeartbeats 1000000 in
theorem find_any (a : Option Addr) (n cap : Nat) (ns : List ByteArray) (s : ByteArray) (w : World) (h : IsStrs w a n ns) (hn : n ≤ 131072) :
    Calls Trym.prog 19 #[.slice a n cap, .string s] w fun e w' => e = .returned (.int .i64 (findI ns s)) ∧ w' = w := by
  have H := hide h
  clear h
  go_enter Trym.func19, Trym.ntmps19
  go_wp2
  go_loop [5] (fun i => ∃ k : Nat, k ≤ n ∧ i = .int .i64 k ∧ ∀ j, j < k → ns[j]? ≠ some s) (fun i => n - (intOf i).toNat)
  case atStart => exact ⟨0, by omega, rfl, by intro j hj; omega⟩
  case round =>
    obtain ⟨k, hk, rfl, hp⟩ := hrel
    have HP := hide hp
    clear hp
    by_cases hlt : k < n
    · obtain ⟨g, rfl⟩ := (unhide H).at' k hlt
      obtain ⟨x, hx⟩ := (unhide H).get hlt
      have hc := (unhide H).cell g rfl k x hx
      have HX := hide hx
      clear hx
      by_cases e : x = s
      · subst e
        have F := hide (findS_at (unhide HX) (unhide HP))
        have e2 := toList_same x
        go_wp2
        go_ret
        exact ⟨ret_int (by rw [findI, unhide F]), rfl⟩
      · have e2 := toList_ne e
        go_wp2
        go_round
        case rel =>
          refine ⟨k + 1, by omega, by go_num, fun j hj => ?_⟩
          by_cases ej : j = k
          · subst ej; rw [unhide HX]; simpa using e
          · exact unhide HP j (by omega)
        case measure => simp [intOf]; omega
    · have F : Hid (findS ns s = none) := findS_none.2 fun hm => by
        obtain ⟨j, hj⟩ := List.getElem?_of_mem hm
        exact unhide HP j (by have := (List.getElem?_eq_some_iff.1 hj).1; rw [(unhide H).len] at this; omega) hj
      go_wp2
      go_ret
      exact ⟨ret_int (by rw [findI, unhide F]), rfl⟩

set_option maxHeartbeats 1000000 in
theorem same_any (c : Option Nat) (x y : Nat) (w : World) (hx : fl c x) (hy : fl c y) :
    Calls Trym.prog 25 #[.float .f64 x, .float .f64 y] w fun e w' => e = .returned (.bool true) ∧ w' = w := by
  have hcase : (x = y ∧ FloatKind.f64.format.order x y = some .eq) ∨ (nan x ∧ nan y) := by
    cases c with
    | none => exact .inr ⟨hx, hy⟩
    | some v =>
      cases hx; cases hy
      rcases order_self x with h | h
      · exact .inl ⟨rfl, h⟩
      · exact .inr ⟨h, h⟩
  clear hx hy
  rcases hcase with ⟨rfl, h⟩ | ⟨h1, h2⟩
  · go_enter Trym.func25, Trym.ntmps25
    go_wp2
    go_ret
    exact ⟨rfl, rfl⟩
  · have q1 := order_nan h1 y
    have q2 := order_nan h1 x
    have q3 := order_nan h2 y
    clear h1 h2
    go_enter Trym.func25, Trym.ntmps25
    go_wp2
    go_ret
    exact ⟨rfl, rfl⟩

end Go.Proofs.Qxb6605581aMods
