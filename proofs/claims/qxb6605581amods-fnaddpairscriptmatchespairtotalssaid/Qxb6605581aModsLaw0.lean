import Derived.Test.Qxb6605581aModsPlain
namespace Go.Proofs.Qxb6605581aMods
open Go.RowKit Go.Maps

theorem Trym.info3 : (Trym.prog.info? 3).map (fun i => (i.zero, i.size, i.bytes)) = some (some (.int .i64 0), 1, 8) := by kernel_rfl
/-- Numbers as values. -/
def natV (zs : List Nat) : List Value := zs.map fun (z : Nat) => .int .i64 z
/-- Two slices that share no block. -/
def Apart (u v : Value) : Prop := ∀ g, u.ownBlock = some g → v.ownBlock ≠ some g
theorem apart_nil : Apart (.slice none 0 0) (.slice none 0 0) := fun g hg => by simp [Value.ownBlock] at hg
/-- A slice of places that is there: its elements. -/
structure IsNats (w : World) (a : Option Addr) (n : Nat) (zs : List Nat) : Prop where
  len : zs.length = n
  at' : ∀ i, i < n → ∃ g, a = some ⟨g, 0, none⟩
  cell : ∀ g, a = some ⟨g, 0, none⟩ → ∀ (i z : Nat), zs[i]? = some z → w.cell? ⟨g, i, none⟩ = some (.int .i64 z)
theorem IsNats.below {w w' : World} {a : Option Addr} {n : Nat} {zs : List Nat} (h : IsNats w a n zs) (hb : Below w.heap.size w w') : IsNats w' a n zs :=
  ⟨h.len, h.at', fun g e i s hs => keep_cell hb (h.cell g e i s hs)⟩
theorem IsNats.of_owns {w : World} {base n : Nat} {v : Value} {zs : List Nat} (h : w.ownsRow base 3 1 v n (natV zs)) : ∃ a cap, v = .slice a n cap ∧ IsNats w a n zs := by
  have hl : zs.length = n := by have := h.1; simpa [natV] using this
  rcases h.2 with ⟨rfl, rfl⟩ | ⟨g, cap, cur, rfl, hb, hg, hc, hm, hsz, ht⟩
  · exact ⟨none, 0, rfl, hl, fun i hi => by omega, fun g hg => (by cases hg)⟩
  · refine ⟨_, cap, rfl, hl, fun _ _ => ⟨g, rfl⟩, fun g' hg' i s hs => ?_⟩
    cases hg'
    have hi : i < n := by rw [← hl]; exact (List.getElem?_eq_some_iff.1 hs).1
    rw [h.cellAt _ (by omega), natV, List.getElem?_map, hs]; rfl
theorem names_from {cs : List Cl} {x : ByteArray} : x ∈ names cs → ∃ c ∈ cs, x = c.a ∨ x = c.b := by
  have addm : ∀ (N : List ByteArray) (s : ByteArray), x ∈ addS N s → x ∈ N ∨ x = s := fun N s h => by
    unfold addS at h
    split at h
    · exact .inl h
    · simpa using h
  have : ∀ (cs : List Cl) (N : List ByteArray), x ∈ cs.foldl (fun N c => addS (addS N c.a) c.b) N → x ∈ N ∨ ∃ c ∈ cs, x = c.a ∨ x = c.b := by
    intro cs
    induction cs with
    | nil => intro N h; exact .inl h
    | cons c t ih =>
      intro N h
      rw [List.foldl_cons] at h
      rcases ih _ h with h | ⟨d, hd, e⟩
      · rcases addm _ _ h with h | h
        · rcases addm _ _ h with h | h
          · exact .inl h
          · exact .inr ⟨c, by simp, .inl h⟩
        · exact .inr ⟨c, by simp, .inr h⟩
      · exact .inr ⟨d, List.mem_cons_of_mem _ hd, e⟩
  intro h
  rcases this cs [] h with h | h
  · cases h
  · exact h
theorem strs_of {w : World} {base : Nat} {a : Option Addr} {n cap n' : Nat} {ss : List ByteArray} (h : w.ownsRow base 9 1 (.slice a n cap) n' (ss.map Value.string)) : IsStrs w a n ss ∧ n = n' := by
  obtain ⟨a', cap', e, hs⟩ := IsStrs.of_owns h
  cases e
  exact ⟨hs, rfl⟩

theorem nats_of {w : World} {base : Nat} {a : Option Addr} {n cap n' : Nat} {zs : List Nat} (h : w.ownsRow base 3 1 (.slice a n cap) n' (natV zs)) : IsNats w a n zs ∧ n = n' := by
  obtain ⟨a', cap', e, hs⟩ := IsNats.of_owns h
  cases e
  exact ⟨hs, rfl⟩
theorem addK_in {K : List (Nat × Nat)} {p : Nat × Nat} (h : p ∈ K) : addK K p = K := if_pos h
theorem addK_new {K : List (Nat × Nat)} {p : Nat × Nat} (h : p ∉ K) : addK K p = K ++ [p] := if_neg h
theorem natV_snoc (zs : List Nat) (ys : List Nat) : natV (zs ++ ys) = natV zs ++ natV ys := List.map_append
theorem Apart.symm {u v : Value} (h : Apart u v) : Apart v u := fun g hg hu => h g hu hg
theorem key_ok {N : List ByteArray} {cs : List Cl} (hmem : ∀ (k : Nat) (c : Cl), cs[k]? = some c → findS N c.a = some (idx N c.a) ∧ findS N c.b = some (idx N c.b)) (hne : ∀ c ∈ cs, c.a ≠ c.b) :
    ∀ p ∈ keys N cs, ∃ x y, N[p.1]? = some x ∧ N[p.2]? = some y ∧ p.1 < p.2 := fun p hp => by
  obtain ⟨c, hc, rfl⟩ := keys_mem.1 hp
  obtain ⟨k, hk⟩ := List.getElem?_of_mem hc
  obtain ⟨hA, hB⟩ := hmem k c hk
  have h1 := findS_some hA
  have h2 := findS_some hB
  unfold ckey pk
  split
  · rename_i h
    exact ⟨_, _, h2, h1, h⟩
  · rename_i h
    refine ⟨_, _, h1, h2, ?_⟩
    have : idx N c.a ≠ idx N c.b := fun e => by
      rw [e, h2] at h1
      exact hne c hc (Option.some.inj h1).symm
    show idx N c.a < idx N c.b
    omega
theorem add1_ab {N : List ByteArray} (hnd : N.Nodup) {c : Cl} {p1 p2 : Nat} {t : Option Nat × Option Nat} (h1 : N[p1]? = some c.a) (h2 : N[p2]? = some c.b) (hlt : p1 < p2) : add1 N (p1, p2) t c = (fadd t.1 c.sa, fadd t.2 c.sb) := by
  have e1 := idx_of (findS_nodup hnd h1)
  have e2 := idx_of (findS_nodup hnd h2)
  have k1 : ckey N c = (p1, p2) := by rw [ckey, e1, e2, pk, if_neg (by omega)]
  have k2 : csc N c = (c.sa, c.sb) := by rw [csc, e1, e2, sc, if_neg (by omega)]
  rw [add1, k1, k2, if_pos rfl]
theorem add1_ba {N : List ByteArray} (hnd : N.Nodup) {c : Cl} {p1 p2 : Nat} {t : Option Nat × Option Nat} (h1 : N[p1]? = some c.b) (h2 : N[p2]? = some c.a) (hlt : p1 < p2) : add1 N (p1, p2) t c = (fadd t.1 c.sb, fadd t.2 c.sa) := by
  have e1 := idx_of (findS_nodup hnd h1)
  have e2 := idx_of (findS_nodup hnd h2)
  have k1 : ckey N c = (p1, p2) := by rw [ckey, e1, e2, pk, if_pos hlt]
  have k2 : csc N c = (c.sb, c.sa) := by rw [csc, e1, e2, sc, if_pos hlt]
  rw [add1, k1, k2, if_pos rfl]
theorem add1_no {N : List ByteArray} {c : Cl} {p1 p2 : Nat} {x y : ByteArray} {t : Option Nat × Option Nat} (hm : findS N c.a = some (idx N c.a) ∧ findS N c.b = some (idx N c.b)) (h1 : N[p1]? = some x) (h2 : N[p2]? = some y)
    (hn1 : ¬ (c.a = x ∧ c.b = y)) (hn2 : ¬ (c.a = y ∧ c.b = x)) : add1 N (p1, p2) t c = t := by
  have k1 := findS_some hm.1
  have k2 := findS_some hm.2
  rw [add1, if_neg]
  intro e
  unfold ckey pk at e
  split at e
  · cases e
    exact hn2 ⟨Option.some.inj (k1.symm.trans h2), Option.some.inj (k2.symm.trans h1)⟩
  · cases e
    exact hn1 ⟨Option.some.inj (k1.symm.trans h1), Option.some.inj (k2.symm.trans h2)⟩
theorem rows_kept {W w' : World} {B n : Nat} {u v : Value} {xs : List Value} {o : Obj} (hv : W.ownsRow B 3 1 v n xs) (hap : Apart u v) (hgr : (W.alloc o).grownBy w' u.ownBlock) : w'.ownsRow B 3 1 v n xs :=
  owns_block (hv.alloc o) fun k hk => hgr.block k (by
    obtain ⟨_, cur, hc⟩ := owns_type hv hk
    have := heap_lt hc
    simp; omega) fun e => hap k e.symm hk
theorem rows_apart {W : World} {B g n n' cap : Nat} {u v : Value} {xs : List Value} {o : Obj} (hv : W.ownsRow B 3 1 v n xs) (hap : Apart u v) (hat : u.ownBlock = some g ∨ g = (W.alloc o).heap.size) : Apart (.slice (some ⟨g, 0, none⟩) n' cap) v := fun g' hg' hv' => by
  have e : g = g' := by simpa [Value.ownBlock] using hg'
  subst e
  rcases hat with h | h
  · exact hap _ h hv'
  · obtain ⟨_, cur, hc⟩ := owns_type hv hv'
    have := heap_lt hc
    simp at h
    omega

end Go.Proofs.Qxb6605581aMods
